/-
  Seat b6003984aF: the plain reader of auth-params, by places in the text; no Go in sight.
-/
namespace Go.Proofs.Qxb6003984aFmt

/-- The byte at a place (0 beyond the end). -/
def byteAt (l : List UInt8) (i : Nat) : UInt8 := l.getD i 0

def spaceB (c : UInt8) : Bool := c == 32 || c == 9
def sepB (c : UInt8) : Bool := c == 32 || c == 9 || c == 44
def tcharB (c : UInt8) : Bool := decide (97 ≤ c.toNat ∧ c.toNat ≤ 122 ∨ 65 ≤ c.toNat ∧ c.toNat ≤ 90 ∨ 48 ≤ c.toNat ∧ c.toNat ≤ 57) ||
  decide (c.toNat = 33 ∨ c.toNat = 35 ∨ c.toNat = 36 ∨ c.toNat = 37 ∨ c.toNat = 38 ∨ c.toNat = 39 ∨ c.toNat = 42 ∨ c.toNat = 43 ∨ c.toNat = 45 ∨ c.toNat = 46 ∨ c.toNat = 94 ∨ c.toNat = 95 ∨ c.toNat = 96 ∨ c.toNat = 124 ∨ c.toNat = 126)
def okB (c : UInt8) : Bool := decide (c.toNat = 9 ∨ 32 ≤ c.toNat ∧ c.toNat ≤ 126)

/-- The first place from i on at which p fails; by at most so many rounds. -/
def runP (p : UInt8 → Bool) (l : List UInt8) : Nat → Nat → Nat
  | 0, i => i
  | f + 1, i => if i < l.length ∧ p (byteAt l i) = true then runP p l f (i + 1) else i
def skipP (p : UInt8 → Bool) (l : List UInt8) (i : Nat) : Nat := runP p l l.length i

theorem runP_stop (p : UInt8 → Bool) (l : List UInt8) (f i : Nat) (h : ¬ (i < l.length ∧ p (byteAt l i) = true)) : runP p l f i = i := by
  cases f with
  | zero => rfl
  | succ f => simp only [runP]; rw [if_neg h]
theorem runP_step (p : UInt8 → Bool) (l : List UInt8) (f i : Nat) (h : i < l.length) (hp : p (byteAt l i) = true) : runP p l (f + 1) i = runP p l f (i + 1) := by
  simp only [runP]; rw [if_pos ⟨h, hp⟩]
theorem runP_fuel (p : UInt8 → Bool) (l : List UInt8) : ∀ (f g i : Nat), l.length ≤ i + f → l.length ≤ i + g → runP p l f i = runP p l g i := by
  intro f
  induction f with
  | zero =>
    intro g i h _
    rw [runP_stop p l g i (by omega)]; rfl
  | succ f ih =>
    intro g i hf hg
    by_cases h : i < l.length ∧ p (byteAt l i) = true
    · obtain ⟨g, rfl⟩ : ∃ g', g = g' + 1 := ⟨g - 1, by omega⟩
      rw [runP_step p l f i h.1 h.2, runP_step p l g i h.1 h.2]
      exact ih g (i + 1) (by omega) (by omega)
    · rw [runP_stop p l _ i h, runP_stop p l _ i h]
theorem runP_le (p : UInt8 → Bool) (l : List UInt8) : ∀ (f i : Nat), i ≤ runP p l f i ∧ (i ≤ l.length → runP p l f i ≤ l.length) := by
  intro f
  induction f with
  | zero => intro i; simp [runP]
  | succ f ih =>
    intro i
    by_cases h : i < l.length ∧ p (byteAt l i) = true
    · rw [runP_step p l f i h.1 h.2]
      have := ih (i + 1)
      exact ⟨by omega, fun _ => this.2 (by omega)⟩
    · rw [runP_stop p l _ i h]
      exact ⟨Nat.le_refl _, fun h => h⟩
theorem skipP_ge (p : UInt8 → Bool) (l : List UInt8) (i : Nat) : i ≤ skipP p l i := (runP_le p l _ i).1
theorem skipP_le (p : UInt8 → Bool) (l : List UInt8) (i : Nat) (h : i ≤ l.length) : skipP p l i ≤ l.length := (runP_le p l _ i).2 h
theorem skipP_stop (p : UInt8 → Bool) (l : List UInt8) (i : Nat) (h : ¬ (i < l.length ∧ p (byteAt l i) = true)) : skipP p l i = i := runP_stop p l _ i h
theorem skipP_step (p : UInt8 → Bool) (l : List UInt8) (i : Nat) (h : i < l.length) (hp : p (byteAt l i) = true) : skipP p l i = skipP p l (i + 1) := by
  unfold skipP
  rw [runP_fuel p l l.length (l.length + 1) i (by omega) (by omega), runP_step p l l.length i h hp]

/-- A quoted string from behind its opening quote: its bytes and the place behind its closing quote. -/
def quoted (l : List UInt8) : Nat → Nat → Option (List UInt8 × Nat)
  | 0, _ => none
  | f + 1, i =>
    if i < l.length then
      if byteAt l i = 34 then some ([], i + 1)
      else if byteAt l i = 92 then
        if i + 1 < l.length ∧ okB (byteAt l (i + 1)) = true then (quoted l f (i + 2)).map fun x => (byteAt l (i + 1) :: x.1, x.2) else none
      else if okB (byteAt l i) = true then (quoted l f (i + 1)).map fun x => (byteAt l i :: x.1, x.2) else none
    else none
def quotedAt (l : List UInt8) (i : Nat) : Option (List UInt8 × Nat) := quoted l (l.length + 1) i

def valueAt (s : ByteArray) (i : Nat) : Option (ByteArray × Nat) :=
  if i < s.data.toList.length ∧ byteAt s.data.toList i = 34 then (quotedAt s.data.toList (i + 1)).map fun x => (⟨x.1.toArray⟩, x.2)
  else if skipP tcharB s.data.toList i = i then none else some (s.extract i (skipP tcharB s.data.toList i), skipP tcharB s.data.toList i)

def lowerC (c : UInt8) : UInt8 := if 65 ≤ c.toNat ∧ c.toNat ≤ 90 then UInt8.ofNat (c.toNat + 32) else c
def lowerS (s : ByteArray) : ByteArray := ⟨(s.data.toList.map lowerC).toArray⟩

/-- One element that begins at i: its name, its value, the place behind it. -/
def elemAt (s : ByteArray) (i : Nat) : Option (ByteArray × ByteArray × Nat) :=
  let l := s.data.toList
  let e := skipP tcharB l i
  if e = i then none
  else
    let j := skipP spaceB l e
    if j < l.length ∧ byteAt l j = 61 then
      match valueAt s (skipP spaceB l (j + 1)) with
      | none => none
      | some (v, k) =>
        let m := skipP spaceB l k
        if m < l.length ∧ byteAt l m ≠ 44 then none else some (lowerS (s.extract i e), v, m)
    else none

def parseL (s : ByteArray) : Nat → Nat → Option (List (ByteArray × ByteArray))
  | 0, _ => none
  | f + 1, i =>
    if i < s.data.toList.length then
      if sepB (byteAt s.data.toList i) = true then parseL s f (i + 1)
      else match elemAt s i with
        | none => none
        | some (n, v, k) => (parseL s f k).map fun r => (n, v) :: r
    else some []

/-- All of it: refused where a name stands twice. -/
def resL (s : ByteArray) : Option (List (ByteArray × ByteArray)) :=
  match parseL s (s.size + 1) 0 with
  | none => none
  | some ps => if (ps.map Prod.fst).Nodup then some ps else none
end Go.Proofs.Qxb6003984aFmt
