/-
  Seat b6003984aF: the byte predicates and the loops that skip.
-/
import Derived.Test.Qxb6003984aFmtPlain
import Derived.Test.Qxb6003984aFmtShelf
import Derived.WalkKit
import Derived.WalkSpells
import Derived.WalkLawsBesides
set_option linter.unusedSimpArgs false
set_option linter.unusedVariables false
namespace Go.Proofs.Qxb6003984aFmt
open Go.RowKit

theorem ret_bool {a b : Bool} (h : a = b) : Ending.returned (.bool a) = .returned (.bool b) := by rw [h]
theorem ret_int {k : IntKind} {a b : Int} (h : a = b) : Ending.returned (.int k a) = .returned (.int k b) := by rw [h]
theorem str_at (s : ByteArray) (i : Nat) (h : i < s.size) : byteAt s.data.toList i = s[i]'h := by
  have h' : i < s.data.size := h
  unfold byteAt
  rw [List.getD_eq_getElem?_getD, Array.getElem?_toList, Array.getElem?_eq_getElem h']
  rfl
theorem len_eq (s : ByteArray) : s.data.toList.length = s.size := (Lib.size_eq s).symm

theorem idx_fin : ∀ n : Fin 256, decide (0 ≤ Lib.indexByte [33, 35, 36, 37, 38, 39, 42, 43, 45, 46, 94, 95, 96, 124, 126] ((n.val : Int).toNat.toUInt8)) = decide (n.val = 33 ∨ n.val = 35 ∨ n.val = 36 ∨ n.val = 37 ∨ n.val = 38 ∨ n.val = 39 ∨ n.val = 42 ∨ n.val = 43 ∨ n.val = 45 ∨ n.val = 46 ∨ n.val = 94 ∨ n.val = 95 ∨ n.val = 96 ∨ n.val = 124 ∨ n.val = 126) := by decide +kernel
theorem idx_any (c : UInt8) : 0 ≤ Lib.indexByte [33, 35, 36, 37, 38, 39, 42, 43, 45, 46, 94, 95, 96, 124, 126] ((c.toNat : Int).toNat.toUInt8) ↔ (c.toNat = 33 ∨ c.toNat = 35 ∨ c.toNat = 36 ∨ c.toNat = 37 ∨ c.toNat = 38 ∨ c.toNat = 39 ∨ c.toNat = 42 ∨ c.toNat = 43 ∨ c.toNat = 45 ∨ c.toNat = 46 ∨ c.toNat = 94 ∨ c.toNat = 95 ∨ c.toNat = 96 ∨ c.toNat = 124 ∨ c.toNat = 126) := by
  have h := idx_fin ⟨c.toNat, c.toNat_lt⟩
  simp only [decide_eq_decide] at h
  exact h

set_option maxHeartbeats 400000 in
theorem token_any (c : UInt8) (w : World) : Calls Tryf.prog 25 #[.int .u8 c.toNat] w fun e w' => e = .returned (.bool (tcharB c)) ∧ w' = w := by
  have hcb := c.toNat_lt
  obtain ⟨n, hn⟩ : ∃ n : Int, Lib.indexByte [33, 35, 36, 37, 38, 39, 42, 43, 45, 46, 94, 95, 96, 124, 126] ((c.toNat : Int).toNat.toUInt8) = n := ⟨_, rfl⟩
  have hI := idx_any c
  rw [hn] at hI
  have HI := (show Hid _ from hI)
  clear hI
  have cI := fun w => Tryf.strings_IndexByte ⟨#[33, 35, 36, 37, 38, 39, 42, 43, 45, 46, 94, 95, 96, 124, 126]⟩ (c.toNat : Int) w
  have CI : Hid (∀ w, Calls Tryf.prog 34 #[.string ⟨#[33, 35, 36, 37, 38, 39, 42, 43, 45, 46, 94, 95, 96, 124, 126]⟩, .int .u8 (c.toNat : Int)] w fun e w' => e = .returned (.int .i64 n) ∧ w' = w) := fun w => by have h := cI w; simp only [hn] at h; exact h
  clear cI hn
  go_enter Tryf.func25, Tryf.ntmps25
  go_wp2_with (go_at_call 34; refine (CI.out _).mono ?_; rintro e w' ⟨rfl, hw⟩; subst w')
  all_goals
    go_ret
    refine ⟨ret_bool ?_, rfl⟩
    have hi := HI.out
    unfold tcharB
    rw [Bool.eq_iff_iff]
    simp only [decide_eq_true_eq, Bool.or_eq_true, ← hi]
    simp
    omega

set_option maxHeartbeats 1600000 in
theorem tchar_any (c : UInt8) (w : World) : Calls Tryf.prog 18 #[.int .u8 c.toNat] w fun e w' => e = .returned (.bool (tcharB c)) ∧ w' = w := by
  have hcb := c.toNat_lt
  go_enter Tryf.func18, Tryf.ntmps18
  go_wp2
  all_goals
    go_ret
    refine ⟨ret_bool ?_, rfl⟩
    try simp only [beq_iff_eq, beq_eq_false_iff_ne, ne_eq] at *
    unfold tcharB
    rw [Bool.eq_iff_iff]
    simp only [decide_eq_true_eq, Bool.or_eq_true]
    simp
    omega

set_option maxHeartbeats 400000 in
theorem qpair_any (c : UInt8) (w : World) : Calls Tryf.prog 21 #[.int .u8 c.toNat] w fun e w' => e = .returned (.bool (okB c)) ∧ w' = w := by
  have hcb := c.toNat_lt
  go_enter Tryf.func21, Tryf.ntmps21
  go_wp2
  all_goals
    go_ret
    refine ⟨ret_bool ?_, rfl⟩
    try simp only [beq_iff_eq, beq_eq_false_iff_ne, ne_eq] at *
    unfold okB
    apply Bool.eq_iff_iff.2
    simp <;> omega

set_option maxHeartbeats 400000 in
theorem qd_any (c : UInt8) (w : World) (_h1 : c.toNat ≠ 34) (_h2 : c.toNat ≠ 92) : Calls Tryf.prog 22 #[.int .u8 c.toNat] w fun e w' => e = .returned (.bool (okB c)) ∧ w' = w := by
  have hcb := c.toNat_lt
  go_enter Tryf.func22, Tryf.ntmps22
  go_wp2
  all_goals
    go_ret
    refine ⟨ret_bool ?_, rfl⟩
    try simp only [beq_iff_eq, beq_eq_false_iff_ne, ne_eq] at *
    unfold okB
    apply Bool.eq_iff_iff.2
    simp <;> omega

end Go.Proofs.Qxb6003984aFmt
