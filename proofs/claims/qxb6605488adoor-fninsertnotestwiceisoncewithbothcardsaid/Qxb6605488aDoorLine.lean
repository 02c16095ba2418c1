/-
  Seat b6605488aD: laws on one line.
-/
import Derived.Test.Qxb6605488aDoorIns
set_option linter.unusedSimpArgs false
set_option linter.unusedVariables false
namespace Go.Proofs.Qxb6605488aDoor
open Go.RowKit

theorem start_at (s : ByteArray) (i : Nat) (h : 0 < i) (hi : i - 1 < s.size) : startB s.data.toList i = decide (s[i - 1]'hi = 10) := by
  unfold startB
  rw [str_at s (i - 1) hi]
  have : ¬ i = 0 := by omega
  simp [this]
theorem line_list (s : ByteArray) (k e : Nat) : (s.extract k e).data.toList = (s.data.toList.take e).drop k := by
  rw [ByteArray.data_extract, Array.toList_extract, List.extract_eq_take_drop, List.drop_take]
theorem bare_none (l : List UInt8) (h : l = [] ∨ at0 l (l.length - 1) ≠ 13) : bare l = l := by
  unfold bare Lib.trimSuffix Lib.hasSuffix
  rw [if_neg]
  intro hs
  have := List.isSuffixOf_iff_suffix.1 hs
  obtain ⟨u, rfl⟩ := this
  rcases h with h | h
  · simp at h
  · exact h (by unfold at0; simp)
theorem bare_cr (l : List UInt8) (h0 : 0 < l.length) (h : at0 l (l.length - 1) = 13) : bare l = l.take (l.length - 1) := by
  unfold bare Lib.trimSuffix Lib.hasSuffix
  rw [if_pos]
  · rfl
  · refine List.isSuffixOf_iff_suffix.2 ⟨l.take (l.length - 1), ?_⟩
    have e : l.take (l.length - 1 + 1) = l.take (l.length - 1) ++ [l[l.length - 1]'(by omega)] := List.take_succ_eq_append_getElem (by omega)
    rw [show l.length - 1 + 1 = l.length from by omega, List.take_length] at e
    unfold at0 at h
    rw [List.getD_eq_getElem?_getD, List.getElem?_eq_getElem (by omega)] at h
    have h' : l[l.length - 1]'(by omega) = 13 := h
    rw [← h']
    exact e.symm
theorem blank_upto (l : List UInt8) (h : ∀ j, j < l.length → blankC (at0 l j) = true) : l.all blankC = true := by
  rw [List.all_eq_true]
  intro c hc
  obtain ⟨j, hj, rfl⟩ := List.mem_iff_getElem.1 hc
  have := h j hj
  unfold at0 at this
  rw [List.getD_eq_getElem?_getD, List.getElem?_eq_getElem hj] at this
  exact this
theorem blank_not (l : List UInt8) (j : Nat) (hj : j < l.length) (h : blankC (at0 l j) = false) : l.all blankC = false := by
  cases ha : l.all blankC with
  | false => rfl
  | true =>
    have := List.all_eq_true.1 ha _ (List.getElem_mem hj)
    unfold at0 at h
    rw [List.getD_eq_getElem?_getD, List.getElem?_eq_getElem hj] at h
    rw [show (some l[j]).getD 0 = l[j] from rfl, this] at h
    cases h
theorem blank_tests (x : UInt8) (h : blankC x = true) : x = 32 ∨ x = 9 := by simp [blankC] at h; exact h
theorem blank_tests_no (x : UInt8) (h : blankC x = false) : ((x.toNat : Int) == 32) = false ∧ ((x.toNat : Int) != 32) = true ∧ ((x.toNat : Int) == 9) = false ∧ ((x.toNat : Int) != 9) = true := by
  simp [blankC] at h
  have e1 : x.toNat ≠ 32 := fun e => h.1 (UInt8.toNat_inj.1 e)
  have e2 : x.toNat ≠ 9 := fun e => h.2 (UInt8.toNat_inj.1 e)
  refine ⟨?_, ?_, ?_, ?_⟩ <;> simp <;> omega
end Go.Proofs.Qxb6605488aDoor
