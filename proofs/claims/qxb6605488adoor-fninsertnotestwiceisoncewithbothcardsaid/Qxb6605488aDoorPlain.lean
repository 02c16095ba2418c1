/-
  Seat b6605488aD: writing notes into a changelog, plainly; no Go in sight.
-/
import Derived.Lib.SplitLaws
import Derived.Lib.IndexLaws
import Derived.Lib.SlTrimSet
namespace Go.Proofs.Qxb6605488aDoor

def at0 (t : List UInt8) (i : Nat) : UInt8 := t.getD i 0
/-- "## " begins at i. -/
def preB (t : List UInt8) (i : Nat) : Bool := decide (i + 3 ≤ t.length ∧ at0 t i = 35 ∧ at0 t (i + 1) = 35 ∧ at0 t (i + 2) = 32)
/-- A line begins at i. -/
def startB (t : List UInt8) (i : Nat) : Bool := decide (i = 0 ∨ at0 t (i - 1) = 10)
def findH (t : List UInt8) : Nat → Nat → Option Nat
  | 0, _ => none
  | f + 1, i => if i < t.length then (if (startB t i && preB t i) = true then some i else findH t f (i + 1)) else none
def posP (t : List UInt8) : Option Nat := findH t (t.length + 1) 0
def blankC (c : UInt8) : Bool := c == 32 || c == 9
/-- A line without its "\r". -/
def bare (l : List UInt8) : List UInt8 := Lib.trimSuffix l [13]
/-- The last line, with no line end. -/
def lastP (u : List UInt8) : List UInt8 := (u.reverse.takeWhile (fun c => c != 10)).reverse
def padP (t : List UInt8) : List UInt8 :=
  match t.reverse with
  | [] => []
  | c :: r => if c ≠ 10 then [10, 10] else if ((bare (lastP r.reverse)).all blankC) = true then [] else [10]
def title : List UInt8 := [35, 32, 67, 104, 97, 110, 103, 101, 108, 111, 103, 10, 10]
def insP (t n : List UInt8) : List UInt8 :=
  match posP t with
  | some i => t.take i ++ n ++ [10] ++ t.drop i
  | none => t ++ padP t ++ n
def insE (t : List UInt8) (ex : Bool) (n : List UInt8) : List UInt8 := if ex = true then insP t n else title ++ n

theorem findH_fuel (t : List UInt8) : ∀ (f g i : Nat), t.length + 1 ≤ i + f → t.length + 1 ≤ i + g → findH t f i = findH t g i := by
  intro f
  induction f with
  | zero =>
    intro g i h1 h2
    cases g with
    | zero => rfl
    | succ g => simp only [findH]; rw [if_neg (by omega)]
  | succ f ih =>
    intro g i h1 h2
    cases g with
    | zero => simp only [findH]; rw [if_neg (by omega)]
    | succ g =>
      simp only [findH]
      split
      · split
        · rfl
        · exact ih g (i + 1) (by omega) (by omega)
      · rfl
/-- The search from i on. -/
def fromH (t : List UInt8) (i : Nat) : Option Nat := findH t (t.length + 1) i
theorem fromH_end (t : List UInt8) (i : Nat) (h : ¬ i < t.length) : fromH t i = none := by unfold fromH; simp only [findH]; rw [if_neg h]
theorem fromH_hit (t : List UInt8) (i : Nat) (h : i < t.length) (h1 : startB t i = true) (h2 : preB t i = true) : fromH t i = some i := by
  unfold fromH; simp only [findH]; rw [if_pos h, if_pos (by rw [h1, h2]; rfl)]
theorem fromH_miss (t : List UInt8) (i : Nat) (h : i < t.length) (hm : (startB t i && preB t i) = false) : fromH t i = fromH t (i + 1) := by
  unfold fromH
  rw [findH_fuel t (t.length + 1) (t.length + 2) i (by omega) (by omega)]
  rw [findH, if_pos h, if_neg (by rw [hm]; simp)]
theorem posP_from (t : List UInt8) : posP t = fromH t 0 := rfl
/-- Over a stretch in which no line begins. -/
theorem fromH_skip (t : List UInt8) : ∀ (n i : Nat), i + n ≤ t.length → (∀ k, i ≤ k → k < i + n → (startB t k && preB t k) = false) → fromH t i = fromH t (i + n) := by
  intro n
  induction n with
  | zero => intro i _ _; rfl
  | succ n ih =>
    intro i h1 h2
    rw [fromH_miss t i (by omega) (h2 i (by omega) (by omega)), ih (i + 1) (by omega) (fun k a b => h2 k (by omega) (by omega))]
    congr 1
    omega
/-- No line begins behind a place where the byte before is no line end. -/
theorem start_false (t : List UInt8) (k : Nat) (h0 : 0 < k) (h : at0 t (k - 1) ≠ 10) : (startB t k && preB t k) = false := by
  have : startB t k = false := by
    unfold startB
    simp only [decide_eq_false_iff_not]
    rintro (e | e)
    · omega
    · exact h e
  rw [this]; rfl
/-- One line on: its end at i + o. -/
theorem fromH_line (t : List UInt8) (i o : Nat) (h : i + o < t.length) (hm : preB t i = false) (hno : ∀ k, k < o → at0 t (i + k) ≠ 10) : fromH t i = fromH t (i + o + 1) := by
  have := fromH_skip t (o + 1) i (by omega) (fun k a b => by
    by_cases e : k = i
    · subst e; rw [hm]; simp
    · exact start_false t k (by omega) (by have := hno (k - 1 - i) (by omega); rw [show i + (k - 1 - i) = k - 1 from by omega] at this; exact this))
  rw [this]
  rfl
/-- The last line holds no heading. -/
theorem fromH_last (t : List UInt8) (i : Nat) (h : i ≤ t.length) (hm : preB t i = false) (hno : ∀ k, i + k < t.length → at0 t (i + k) ≠ 10) : fromH t i = none := by
  have := fromH_skip t (t.length - i) i (by omega) (fun k a b => by
    by_cases e : k = i
    · subst e; rw [hm]; simp
    · exact start_false t k (by omega) (by have := hno (k - 1 - i) (by omega); rw [show i + (k - 1 - i) = k - 1 from by omega] at this; exact this))
  rw [this, fromH_end t _ (by omega)]

/-- The lines, parted at each line end. -/
def linesL : List UInt8 → List (List UInt8)
  | [] => [[]]
  | b :: t => if b = 10 then [] :: linesL t else match linesL t with
    | h :: r => (b :: h) :: r
    | [] => [[b]]
theorem linesL_ne (t : List UInt8) : linesL t ≠ [] := by
  cases t with
  | nil => simp [linesL]
  | cons b t => simp only [linesL]; split <;> (try split) <;> simp
open Go.Lib in
theorem split_lines : ∀ t : List UInt8, splitK [10] 0 (count t [10]) t = linesL t := by
  intro t
  induction t with
  | nil => rw [count_miss (by simp [index])]; rfl
  | cons b t ih =>
    by_cases hb : b = 10
    · subst hb
      have hix : index (10 :: t) [10] = ((0 : Nat) : Int) := by rw [index]; simp [List.isPrefixOf]
      rw [count_cons_eq, Nat.add_comm, splitK, hix]
      simp [linesL, ih]
    · have hp : ([10] : List UInt8).isPrefixOf (b :: t) = false := by simp [List.isPrefixOf, Ne.symm hb]
      have hix : index (b :: t) [10] = if index t [10] == -1 then -1 else index t [10] + 1 := by rw [index, hp]; simp
      rw [count_cons_ne b 10 t hb]
      simp only [linesL, if_neg hb]
      by_cases hm : index t [10] = -1
      · rw [count_miss hm] at ih ⊢
        simp only [splitK] at ih ⊢
        rw [← ih]
      · have hge := index_ge t [10]
        obtain ⟨j, hj⟩ : ∃ j : Nat, index t [10] = j := ⟨(index t [10]).toNat, by omega⟩
        have hix' : index (b :: t) [10] = ((j + 1 : Nat) : Int) := by rw [hix, if_neg (fun e => hm (beq_iff_eq.1 e)), hj]; omega
        obtain ⟨c, hc⟩ : ∃ c, count t [10] = c + 1 := ⟨count (t.drop (j + 1)) [10], by rw [count_hit (by simp) hj, Nat.add_comm]; rfl⟩
        rw [hc] at ih ⊢
        rw [splitK, hj] at ih
        rw [splitK, hix']
        have e1 : ¬ (((j : Int) == -1) = true) := fun h => by have := beq_iff_eq.1 h; omega
        have e2 : ¬ ((((j + 1 : Nat) : Int) == -1) = true) := fun h => by have := beq_iff_eq.1 h; omega
        rw [if_neg e1] at ih
        rw [if_neg e2, ← ih]
        simp
theorem linesL_snoc (t : List UInt8) (c : UInt8) : linesL (t ++ [c]) = if c = 10 then linesL t ++ [[]] else (linesL t).dropLast ++ [(linesL t).getLastD [] ++ [c]] := by
  induction t with
  | nil =>
    by_cases h : c = 10
    · subst h; rfl
    · simp [linesL, h]
  | cons b t ih =>
    rw [List.cons_append]
    have hne := linesL_ne t
    cases hl : linesL t with
    | nil => exact absurd hl hne
    | cons h r =>
      rw [hl] at ih
      by_cases hb : b = 10
      · subst hb
        simp only [linesL, if_true]
        rw [ih, hl]
        split <;> simp [List.getLastD]
      · simp only [linesL, if_neg hb]
        rw [ih, hl]
        by_cases hc : c = 10
        · simp only [if_pos hc]
          cases r <;> simp
        · simp only [if_neg hc]
          cases r with
          | nil => simp [List.getLastD]
          | cons h2 r2 => simp [List.getLastD, List.getLast_cons]
theorem last_lines (u : List UInt8) : (linesL u).getLastD [] = lastP u := by
  have key : ∀ r : List UInt8, (linesL r.reverse).getLastD [] = (r.takeWhile (fun c => c != 10)).reverse := by
    intro r
    induction r with
    | nil => rfl
    | cons c r ih =>
      rw [List.reverse_cons, linesL_snoc]
      by_cases hc : c = 10
      · subst hc
        simp
      · have hcb : (c != 10) = true := by simpa using hc
        rw [if_neg hc, ih, List.takeWhile_cons, if_pos hcb, List.reverse_cons]
        simp
  have := key u.reverse
  rw [List.reverse_reverse] at this
  exact this

/-- The last two lines of a text, as they are met in the parting. -/
theorem lines_open (u : List UInt8) (c : UInt8) (hc : c ≠ 10) : ∃ x, (linesL (u ++ [c]))[(linesL (u ++ [c])).length - 1]? = some x ∧ x ≠ [] := by
  rw [linesL_snoc, if_neg hc]
  refine ⟨_, by simp; rfl, by simp⟩
theorem lines_shut (u : List UInt8) : 2 ≤ (linesL (u ++ [10])).length ∧ (linesL (u ++ [10]))[(linesL (u ++ [10])).length - 1]? = some [] ∧ (linesL (u ++ [10]))[(linesL (u ++ [10])).length - 1 - 1]? = some (lastP u) := by
  rw [linesL_snoc, if_pos rfl]
  have hne := linesL_ne u
  have hl : 0 < (linesL u).length := List.length_pos_iff.2 hne
  refine ⟨by simp; omega, by simp, ?_⟩
  rw [← last_lines, List.length_append, List.length_singleton, Nat.add_sub_cancel, List.getElem?_append_left (by omega), List.getLastD_eq_getLast?, List.getLast?_eq_getElem?]
  rw [List.getElem?_eq_getElem (by omega)]
  rfl

/-- Where a line begins, going back. -/
def backP (t : List UInt8) : Nat → Nat
  | 0 => 0
  | s + 1 => if at0 t s ≠ 10 then backP t s else s + 1
theorem backP_le (t : List UInt8) : ∀ e, backP t e ≤ e := by
  intro e
  induction e with
  | zero => exact Nat.le_refl _
  | succ e ih => simp only [backP]; split <;> omega
theorem takeWhile_take (u : List UInt8) : ∀ e, e ≤ u.length → lastP (u.take e) = (u.take e).drop (backP u e) := by
  intro e
  induction e with
  | zero => intro _; rfl
  | succ e ih =>
    intro h
    have hx : u.take (e + 1) = u.take e ++ [at0 u e] := by
      rw [List.take_succ_eq_append_getElem (by omega)]
      unfold at0
      rw [List.getD_eq_getElem?_getD, List.getElem?_eq_getElem (by omega)]
      rfl
    have hb := backP_le u e
    rw [hx]
    simp only [backP]
    unfold lastP at ih ⊢
    rw [List.reverse_append, List.reverse_singleton, List.singleton_append, List.takeWhile_cons]
    by_cases hc : at0 u e = 10
    · have hl : (u.take e ++ [(10 : UInt8)]).length = e + 1 := by simp; omega
      rw [if_neg (by rw [hc]; decide), if_neg (by rw [hc]; simp), hc]
      rw [List.drop_eq_nil_of_le (by omega)]
      rfl
    · rw [if_pos (by simpa using hc), if_pos hc, List.reverse_cons, ih (by omega), List.drop_append_of_le_length (by simp; omega)]
end Go.Proofs.Qxb6605488aDoor
