/-
  Seat b6003899aD: the small predicates on bytes: isHex, unhex, zzIsHexDigit, zzHexValue, zzFormSafe, isUnreservedForm, zzLead.
-/
import Derived.Test.Qxb6003899aDoorPlain
import Derived.Test.Qxb6003899aDoorShelf
import Derived.WalkKit
import Derived.WalkSpells
import Derived.WalkLawsBesides
namespace Go.Proofs.Qxb6003899aDoor
open Go.RowKit

theorem ret_bool {a b : Bool} (h : a = b) : Ending.returned (.bool a) = .returned (.bool b) := by rw [h]
theorem ret_int {k : IntKind} {a b : Int} (h : a = b) : Ending.returned (.int k a) = .returned (.int k b) := by rw [h]

set_option maxHeartbeats 400000 in
theorem isHex_any (c : Int) (w : World) : Calls Tryd.prog 39 #[.int .u8 c] w fun e w' => e = .returned (.bool (hexB c)) ∧ w' = w := by
  go_enter Tryd.func39, Tryd.ntmps39
  go_wp2
  all_goals
    go_ret
    refine ⟨ret_bool ?_, rfl⟩
    unfold hexB
    rw [Bool.eq_iff_iff]
    simp
    omega
set_option maxHeartbeats 400000 in
theorem zzHex_any (c : Int) (w : World) : Calls Tryd.prog 34 #[.int .u8 c] w fun e w' => e = .returned (.bool (hexB c)) ∧ w' = w := by
  go_enter Tryd.func34, Tryd.ntmps34
  go_wp2
  all_goals
    go_ret
    refine ⟨ret_bool ?_, rfl⟩
    unfold hexB
    rw [Bool.eq_iff_iff]
    simp
    omega
set_option maxHeartbeats 400000 in
theorem safe_any (c : Int) (w : World) : Calls Tryd.prog 27 #[.int .u8 c] w fun e w' => e = .returned (.bool (safeB c)) ∧ w' = w := by
  go_enter Tryd.func27, Tryd.ntmps27
  go_wp2
  all_goals
    go_ret
    refine ⟨ret_bool ?_, rfl⟩
    unfold safeB
    rw [Bool.eq_iff_iff]
    simp <;> omega

theorem hexB_iff (c : Int) : hexB c = true ↔ (48 ≤ c ∧ c ≤ 57 ∨ 97 ≤ c ∧ c ≤ 102 ∨ 65 ≤ c ∧ c ≤ 70) := by simp [hexB]
theorem hexV_bd (c : Int) (h : hexB c = true) : 0 ≤ hexV c ∧ hexV c ≤ 15 := by
  rw [hexB_iff] at h
  unfold hexV
  repeat' split
  all_goals omega

set_option maxHeartbeats 400000 in
theorem unhex_any (c : Int) (w : World) (h : hexB c = true) : Calls Tryd.prog 40 #[.int .u8 c] w fun e w' => e = .returned (.int .u8 (hexV c)) ∧ w' = w := by
  have hb := (hexB_iff c).1 h
  have h0 : 0 ≤ c := by omega
  have h1 : c ≤ 255 := by omega
  clear h
  go_enter Tryd.func40, Tryd.ntmps40
  go_wp2
  all_goals
    go_ret
    refine ⟨ret_int ?_, rfl⟩
    unfold hexV
    repeat' split
    all_goals omega
set_option maxHeartbeats 400000 in
theorem zzHexV_any (c : Int) (w : World) (h : hexB c = true) : Calls Tryd.prog 35 #[.int .u8 c] w fun e w' => e = .returned (.int .u8 (hexV c)) ∧ w' = w := by
  have hb := (hexB_iff c).1 h
  have h0 : 0 ≤ c := by omega
  have h1 : c ≤ 255 := by omega
  clear h
  go_enter Tryd.func35, Tryd.ntmps35
  go_wp2
  all_goals
    go_ret
    refine ⟨ret_int ?_, rfl⟩
    unfold hexV
    repeat' split
    all_goals omega

theorem idx_fin : ∀ n : Fin 256, decide (0 ≤ Lib.indexByte [42, 45, 46, 95] ((n.val : Int).toNat.toUInt8)) = decide ((n.val : Int) = 42 ∨ (n.val : Int) = 45 ∨ (n.val : Int) = 46 ∨ (n.val : Int) = 95) := by decide +kernel
theorem idx_any (c : Int) (h0 : 0 ≤ c) (h1 : c ≤ 255) : 0 ≤ Lib.indexByte [42, 45, 46, 95] c.toNat.toUInt8 ↔ (c = 42 ∨ c = 45 ∨ c = 46 ∨ c = 95) := by
  obtain ⟨n, rfl⟩ := Int.eq_ofNat_of_zero_le h0
  have h := idx_fin ⟨n, by omega⟩
  simp only [decide_eq_decide] at h
  exact h

set_option maxHeartbeats 400000 in
theorem unres_any (c : Int) (w : World) (h0 : 0 ≤ c) (h1 : c ≤ 255) : Calls Tryd.prog 44 #[.int .u8 c] w fun e w' => e = .returned (.bool (safeB c)) ∧ w' = w := by
  have HI : Hid (0 ≤ Lib.indexByte [42, 45, 46, 95] c.toNat.toUInt8 ↔ (c = 42 ∨ c = 45 ∨ c = 46 ∨ c = 95)) := idx_any c h0 h1
  go_enter Tryd.func44, Tryd.ntmps44
  go_wp2_with (go_at_call 51; refine (Tryd.strings_IndexByte _ _ _).mono ?_; rintro e w' ⟨rfl, rfl⟩)
  all_goals
    go_ret
    refine ⟨ret_bool ?_, rfl⟩
    have hi := HI.out
    unfold safeB
    rw [Bool.eq_iff_iff]
    simp [hi]
    omega

theorem ret_lead {c a b d : Int} (h : leadN c = (a, b, d)) : Ending.returned (.tuple #[.int .i64 a, .int .u8 b, .int .u8 d]) = .returned (.tuple #[.int .i64 (leadN c).1, .int .u8 (leadN c).2.1, .int .u8 (leadN c).2.2]) := by rw [h]
set_option maxHeartbeats 800000 in
theorem lead_any (c : Int) (w : World) (h0 : 0 ≤ c) (h1 : c ≤ 255) : Calls Tryd.prog 47 #[.int .u8 c] w fun e w' => e = .returned (.tuple #[.int .i64 (leadN c).1, .int .u8 (leadN c).2.1, .int .u8 (leadN c).2.2]) ∧ w' = w := by
  go_enter Tryd.func47, Tryd.ntmps47
  go_wp2
  all_goals
    go_ret3
    refine ⟨ret_lead ?_, rfl⟩
    try simp only [beq_iff_eq, beq_eq_false_iff_ne, ne_eq] at *
    unfold leadN
    repeat' split
    all_goals first | rfl | omega
end Go.Proofs.Qxb6003899aDoor
