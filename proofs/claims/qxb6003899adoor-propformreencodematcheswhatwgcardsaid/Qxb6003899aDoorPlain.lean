/-
  Seat b6003899aD: the plain functions (no Go in sight): percent-decoding, the walk over a UTF-8 sequence, re-encoding; and the law that ties Utf8.decode and the maximal subpart to that walk.
-/
import Derived.Laws.RangeAny
namespace Go.Proofs.Qxb6003899aDoor

def hexB (c : Int) : Bool := decide (48 ≤ c ∧ c ≤ 57 ∨ 97 ≤ c ∧ c ≤ 102 ∨ 65 ≤ c ∧ c ≤ 70)
def hexV (c : Int) : Int := if c ≤ 57 then c - 48 else if c ≤ 70 then c - 55 else c - 87
def safeB (c : Int) : Bool := decide (97 ≤ c ∧ c ≤ 122 ∨ 65 ≤ c ∧ c ≤ 90 ∨ 48 ≤ c ∧ c ≤ 57 ∨ c = 42 ∨ c = 45 ∨ c = 46 ∨ c = 95)
def hexD (n : Nat) : UInt8 := if n < 10 then UInt8.ofNat (48 + n) else UInt8.ofNat (55 + n)

def hexAt (t : List UInt8) : Bool := match t with
  | a :: b :: _ => hexB a.toNat && hexB b.toNat
  | _ => false
def pairU (t : List UInt8) : UInt8 := match t with
  | a :: b :: _ => UInt8.ofNat (hexV a.toNat * 16 + hexV b.toNat).toNat
  | _ => 0

/-- '+' is a space, '%' and two hex digits the byte they spell; by at most so many rounds. -/
def dec : Nat → List UInt8 → List UInt8
  | 0, _ => []
  | _ + 1, [] => []
  | f + 1, c :: t =>
    if c = 43 then 32 :: dec f t
    else if c = 37 ∧ hexAt t = true then pairU t :: dec f (t.drop 2)
    else c :: dec f t

theorem dec_nil (f : Nat) : dec f [] = [] := by cases f <;> rfl
theorem dec_plus (f : Nat) (c : UInt8) (t : List UInt8) (h : c = 43) : dec (f + 1) (c :: t) = 32 :: dec f t := by simp [dec, h]
theorem dec_pair (f : Nat) (c : UInt8) (t : List UInt8) (h : c = 37) (hx : hexAt t = true) : dec (f + 1) (c :: t) = pairU t :: dec f (t.drop 2) := by
  subst h
  simp [dec, hx]
theorem dec_other (f : Nat) (c : UInt8) (t : List UInt8) (h : c ≠ 43) (hx : ¬ (c = 37 ∧ hexAt t = true)) : dec (f + 1) (c :: t) = c :: dec f t := by
  simp only [dec]
  rw [if_neg h, if_neg hx]

/-- What a lead byte asks for: how many bytes follow (less than 0: it leads none), and the bounds of the first of them. -/
def leadN (c : Int) : Int × Int × Int :=
  if c < 128 then (0, 128, 191)
  else if 194 ≤ c ∧ c ≤ 223 then (1, 128, 191)
  else if c = 224 then (2, 160, 191)
  else if c = 237 then (2, 128, 159)
  else if 225 ≤ c ∧ c ≤ 239 then (2, 128, 191)
  else if c = 240 then (3, 144, 191)
  else if c = 244 then (3, 128, 143)
  else if 241 ≤ c ∧ c ≤ 243 then (3, 128, 191)
  else (-1, 128, 191)

/-- The bytes that follow: how many fit, and whether all that are wanted do. -/
def contL : Nat → Int → Int → List UInt8 → Nat × Bool
  | 0, _, _, _ => (0, true)
  | _ + 1, _, _, [] => (0, false)
  | k + 1, lo, hi, x :: t => if (x.toNat : Int) < lo ∨ hi < (x.toNat : Int) then (0, false) else ((contL k 128 191 t).1 + 1, (contL k 128 191 t).2)

def walkL : List UInt8 → Nat × Bool
  | [] => (1, false)
  | c :: t => if (leadN c.toNat).1 < 0 then (1, false) else (1 + (contL (leadN c.toNat).1.toNat (leadN c.toNat).2.1 (leadN c.toNat).2.2 t).1, (contL (leadN c.toNat).1.toNat (leadN c.toNat).2.1 (leadN c.toNat).2.2 t).2)

def emitU (c : UInt8) : List UInt8 := if safeB c.toNat = true then [c] else [37, hexD (c.toNat / 16), hexD (c.toNat % 16)]
def replU : List UInt8 := [37, 69, 70, 37, 66, 70, 37, 66, 68]

def enc : Nat → List UInt8 → List UInt8
  | 0, _ => []
  | _ + 1, [] => []
  | f + 1, c :: t => (if (walkL (c :: t)).2 = true then ((c :: t).take (walkL (c :: t)).1).flatMap emitU else replU) ++ enc f ((c :: t).drop (walkL (c :: t)).1)

theorem enc_nil (f : Nat) : enc f [] = [] := by cases f <;> rfl
theorem enc_yes (f : Nat) (l : List UInt8) (hl : l ≠ []) (h : (walkL l).2 = true) : enc (f + 1) l = (l.take (walkL l).1).flatMap emitU ++ enc f (l.drop (walkL l).1) := by
  cases l with
  | nil => exact absurd rfl hl
  | cons c t => simp [enc, h]
theorem enc_no (f : Nat) (l : List UInt8) (hl : l ≠ []) (h : (walkL l).2 = false) : enc (f + 1) l = replU ++ enc f (l.drop (walkL l).1) := by
  cases l with
  | nil => exact absurd rfl hl
  | cons c t => simp [enc, h]

def reenc (l : List UInt8) : List UInt8 := enc (dec l.length l).length (dec l.length l)

/-! ### bounds -/
theorem contL_le (k : Nat) : ∀ (lo hi : Int) (t : List UInt8), (contL k lo hi t).1 ≤ t.length ∧ (contL k lo hi t).1 ≤ k := by
  induction k with
  | zero => intro lo hi t; simp [contL]
  | succ k ih =>
    intro lo hi t
    cases t with
    | nil => simp [contL]
    | cons x t =>
      simp only [contL]
      split
      · simp
      · have := ih 128 191 t
        simp
        omega
theorem leadN_le (c : Int) : (leadN c).1 ≤ 3 := by
  unfold leadN
  repeat' split
  all_goals simp
theorem walkL_pos (l : List UInt8) : 1 ≤ (walkL l).1 := by
  cases l with
  | nil => simp [walkL]
  | cons c t =>
    simp only [walkL]
    split
    · simp
    · simp
theorem walkL_le (l : List UInt8) (h : l ≠ []) : (walkL l).1 ≤ l.length := by
  cases l with
  | nil => exact absurd rfl h
  | cons c t =>
    simp only [walkL]
    split
    · simp
    · have := contL_le (leadN c.toNat).1.toNat (leadN c.toNat).2.1 (leadN c.toNat).2.2 t
      simp
      omega
theorem walkL_four (l : List UInt8) : (walkL l).1 ≤ 4 := by
  cases l with
  | nil => simp [walkL]
  | cons c t =>
    simp only [walkL]
    split
    · simp
    · have := contL_le (leadN c.toNat).1.toNat (leadN c.toNat).2.1 (leadN c.toNat).2.2 t
      have := leadN_le c.toNat
      simp
      omega

/-! ### utf8.FullRune and the maximal subpart -/
/-- utf8.FullRune on at least one byte. -/
def fullL (l : List UInt8) : Bool := match l with
  | [] => false
  | c :: t =>
    let need := (leadN c.toNat).1
    if need < 0 then true
    else if need + 1 ≤ (t.length + 1 : Nat) then true
    else match t with
      | [] => false
      | x :: t' => if (x.toNat : Int) < (leadN c.toNat).2.1 ∨ (leadN c.toNat).2.2 < (x.toNat : Int) then true
        else match t' with
          | [] => false
          | y :: _ => decide ((y.toNat : Int) < 128 ∨ 191 < (y.toNat : Int))
def maxSub (l : List UInt8) : Nat :=
  if 3 ≤ l.length ∧ fullL (l.take 3) = false then 3
  else if 2 ≤ l.length ∧ fullL (l.take 2) = false then 2
  else 1
end Go.Proofs.Qxb6003899aDoor
