/-
  Seat b6003984aF: laws on the plain reader, step by step.
-/
import Derived.Test.Qxb6003984aFmtLower
set_option linter.unusedSimpArgs false
set_option linter.unusedVariables false
namespace Go.Proofs.Qxb6003984aFmt

theorem run_all (p : UInt8 → Bool) (l : List UInt8) : ∀ (f i j : Nat), i ≤ j → j < runP p l f i → p (byteAt l j) = true := by
  intro f
  induction f with
  | zero => intro i j h1 h2; simp [runP] at h2; omega
  | succ f ih =>
    intro i j h1 h2
    by_cases h : i < l.length ∧ p (byteAt l i) = true
    · rw [runP_step p l f i h.1 h.2] at h2
      by_cases e : j = i
      · subst e; exact h.2
      · exact ih (i + 1) j (by omega) h2
    · rw [runP_stop p l _ i h] at h2; omega
theorem skip_all (p : UInt8 → Bool) (l : List UInt8) (i j : Nat) (h1 : i ≤ j) (h2 : j < skipP p l i) : p (byteAt l j) = true := run_all p l _ i j h1 h2
theorem skip_end (p : UInt8 → Bool) (l : List UInt8) : ∀ (f i : Nat), l.length ≤ i + f → ¬ (runP p l f i < l.length ∧ p (byteAt l (runP p l f i)) = true) := by
  intro f
  induction f with
  | zero => intro i h; simp [runP]; omega
  | succ f ih =>
    intro i hf
    by_cases h : i < l.length ∧ p (byteAt l i) = true
    · rw [runP_step p l f i h.1 h.2]; exact ih (i + 1) (by omega)
    · rw [runP_stop p l _ i h]; exact h
theorem extract_list (s : ByteArray) (i j : Nat) : (s.extract i j).data.toList = (s.data.toList.drop i).take (j - i) := by
  rw [ByteArray.data_extract, Array.toList_extract]
theorem name_ascii (s : ByteArray) (i : Nat) : ∀ c ∈ (s.extract i (skipP tcharB s.data.toList i)).data.toList, c.toNat < 128 := by
  intro c hc
  rw [extract_list] at hc
  obtain ⟨j, hj, rfl⟩ := List.mem_iff_getElem.1 hc
  have hj' : j < skipP tcharB s.data.toList i - i ∧ i + j < s.data.toList.length := by
    simp only [List.length_take, List.length_drop] at hj; omega
  have := skip_all tcharB s.data.toList i (i + j) (by omega) (by omega)
  apply tchar_ascii
  rw [List.getElem_take, List.getElem_drop]
  unfold byteAt at this
  rw [List.getD_eq_getElem?_getD, List.getElem?_eq_getElem hj'.2] at this
  exact this
theorem lowerS_size (s : ByteArray) : (lowerS s).size = s.size := by
  show ((s.data.toList.map lowerC).toArray).size = s.size
  rw [List.size_toArray, List.length_map, len_eq]
theorem extract_le (s : ByteArray) (i j : Nat) : (s.extract i j).size ≤ s.size := by
  rw [ByteArray.size_extract]; omega
theorem name_le (s : ByteArray) (i j : Nat) (hs : s.size ≤ 1048576) : (lowerS (s.extract i j)).size ≤ maxLen := by
  rw [lowerS_size]
  have := extract_le s i j
  unfold maxLen
  omega

theorem quoted_bd (l : List UInt8) : ∀ (f i : Nat) (x : List UInt8) (k : Nat), quoted l f i = some (x, k) → i ≤ k ∧ k ≤ l.length := by
  intro f
  induction f with
  | zero => intro i x k h; simp [quoted] at h
  | succ f ih =>
    intro i x k h
    rw [quoted] at h
    split at h
    · split at h
      · simp at h; omega
      · split at h
        · split at h
          · cases hq : quoted l f (i + 2) with
            | none => rw [hq] at h; simp at h
            | some p =>
              rw [hq] at h
              simp at h
              have := ih (i + 2) p.1 p.2 (by rw [hq])
              omega
          · cases h
        · split at h
          · cases hq : quoted l f (i + 1) with
            | none => rw [hq] at h; simp at h
            | some p =>
              rw [hq] at h
              simp at h
              have := ih (i + 1) p.1 p.2 (by rw [hq])
              omega
          · cases h
    · cases h
theorem valueAt_bd (s : ByteArray) (i : Nat) (v : ByteArray) (k : Nat) (hi : i ≤ s.size) (h : valueAt s i = some (v, k)) : i ≤ k ∧ k ≤ s.size := by
  have hl := len_eq s
  unfold valueAt at h
  split at h
  · cases hq : quotedAt s.data.toList (i + 1) with
    | none => rw [hq] at h; simp at h
    | some p =>
      rw [hq] at h
      simp at h
      have := quoted_bd _ _ _ p.1 p.2 hq
      omega
  · split at h
    · cases h
    · simp at h
      have h1 := skipP_ge tcharB s.data.toList i
      have h2 := skipP_le tcharB s.data.toList i (by omega)
      omega

theorem parseL_sep (s : ByteArray) (f i : Nat) (h : i < s.data.toList.length) (hs : sepB (byteAt s.data.toList i) = true) : parseL s (f + 1) i = parseL s f (i + 1) := by
  rw [parseL, if_pos h, if_pos hs]
theorem parseL_end (s : ByteArray) (f i : Nat) (h : ¬ i < s.data.toList.length) : parseL s (f + 1) i = some [] := by
  rw [parseL, if_neg h]
theorem parseL_none (s : ByteArray) (f i : Nat) (h : i < s.data.toList.length) (hs : sepB (byteAt s.data.toList i) = false) (he : elemAt s i = none) : parseL s (f + 1) i = none := by
  rw [parseL, if_pos h, if_neg (by rw [hs]; simp), he]
theorem parseL_elem (s : ByteArray) (f i : Nat) (n v : ByteArray) (k : Nat) (h : i < s.data.toList.length) (hs : sepB (byteAt s.data.toList i) = false) (he : elemAt s i = some (n, v, k)) : parseL s (f + 1) i = (parseL s f k).map fun r => (n, v) :: r := by
  rw [parseL, if_pos h, if_neg (by rw [hs]; simp), he]

theorem elem_none1 (s : ByteArray) (i : Nat) (h : skipP tcharB s.data.toList i = i) : elemAt s i = none := by
  simp only [elemAt]; rw [if_pos h]
theorem elem_none2 (s : ByteArray) (i e j : Nat) (he : skipP tcharB s.data.toList i = e) (hne : e ≠ i) (hj : skipP spaceB s.data.toList e = j) (h : ¬ (j < s.data.toList.length ∧ byteAt s.data.toList j = 61)) : elemAt s i = none := by
  simp only [elemAt]; rw [he, if_neg hne, hj, if_neg h]
theorem elem_none3 (s : ByteArray) (i e j k : Nat) (he : skipP tcharB s.data.toList i = e) (hne : e ≠ i) (hj : skipP spaceB s.data.toList e = j) (h : j < s.data.toList.length ∧ byteAt s.data.toList j = 61) (hk : skipP spaceB s.data.toList (j + 1) = k)
    (hv : valueAt s k = none) : elemAt s i = none := by
  simp only [elemAt]; rw [he, if_neg hne, hj, if_pos h, hk, hv]
theorem elem_none4 (s : ByteArray) (i e j k : Nat) (v : ByteArray) (q m : Nat) (he : skipP tcharB s.data.toList i = e) (hne : e ≠ i) (hj : skipP spaceB s.data.toList e = j) (h : j < s.data.toList.length ∧ byteAt s.data.toList j = 61) (hk : skipP spaceB s.data.toList (j + 1) = k)
    (hv : valueAt s k = some (v, q)) (hm : skipP spaceB s.data.toList q = m) (h4 : m < s.data.toList.length ∧ byteAt s.data.toList m ≠ 44) : elemAt s i = none := by
  simp only [elemAt]; rw [he, if_neg hne, hj, if_pos h, hk, hv]; simp only; rw [hm, if_pos h4]
theorem elem_some (s : ByteArray) (i e j k : Nat) (v : ByteArray) (q m : Nat) (he : skipP tcharB s.data.toList i = e) (hne : e ≠ i) (hj : skipP spaceB s.data.toList e = j) (h : j < s.data.toList.length ∧ byteAt s.data.toList j = 61) (hk : skipP spaceB s.data.toList (j + 1) = k)
    (hv : valueAt s k = some (v, q)) (hm : skipP spaceB s.data.toList q = m) (h4 : ¬ (m < s.data.toList.length ∧ byteAt s.data.toList m ≠ 44)) : elemAt s i = some (lowerS (s.extract i e), v, m) := by
  simp only [elemAt]; rw [he, if_neg hne, hj, if_pos h, hk, hv]; simp only; rw [hm, if_neg h4]

/-- What is still to be parsed, behind what has been. -/
def behindP (acc : List (ByteArray × ByteArray)) (o : Option (List (ByteArray × ByteArray))) : Option (List (ByteArray × ByteArray)) := o.map fun r => acc ++ r
theorem behindP_none (acc : List (ByteArray × ByteArray)) : behindP acc none = none := rfl
theorem behindP_nil (acc : List (ByteArray × ByteArray)) : behindP acc (some []) = some acc := by simp [behindP]
theorem behindP_push (acc : List (ByteArray × ByteArray)) (p : ByteArray × ByteArray) (o : Option (List (ByteArray × ByteArray))) : behindP acc (o.map fun r => p :: r) = behindP (acc ++ [p]) o := by
  cases o <;> simp [behindP]
theorem resL_none (s : ByteArray) (h : parseL s (s.size + 1) 0 = none) : resL s = none := by unfold resL; rw [h]
theorem resL_twice (s : ByteArray) (ps : List (ByteArray × ByteArray)) (h : parseL s (s.size + 1) 0 = some ps) (hd : (!decide (ps.map Prod.fst).Nodup) = true) : resL s = none := by
  unfold resL; rw [h]; simp at hd; simp [hd]
theorem resL_some (s : ByteArray) (ps : List (ByteArray × ByteArray)) (h : parseL s (s.size + 1) 0 = some ps) (hd : (!decide (ps.map Prod.fst).Nodup) = false) : resL s = some ps := by
  unfold resL; rw [h]; simp at hd; simp [hd]
end Go.Proofs.Qxb6003984aFmt
