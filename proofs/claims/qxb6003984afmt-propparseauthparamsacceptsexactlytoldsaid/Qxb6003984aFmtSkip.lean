/-
  Seat b6003984aF: skipSpace and zzc3SkipWS.
-/
import Derived.Test.Qxb6003984aFmtBytes
set_option linter.unusedSimpArgs false
set_option linter.unusedVariables false
namespace Go.Proofs.Qxb6003984aFmt
open Go.RowKit

set_option maxRecDepth 100000 in
set_option maxHeartbeats 800000 in
theorem skip20 (s : ByteArray) (i : Nat) (w : World) (hs : s.size ≤ 1048576) (hi : i ≤ s.size) :
    Calls Tryf.prog 20 #[.string s, .int .i64 i] w fun e w' => e = .returned (.int .i64 (skipP spaceB s.data.toList i : Int)) ∧ w' = w := by
    have hl := len_eq s
    go_enter Tryf.func20, Tryf.ntmps20
    go_wp2
    go_loop [1] (fun t => ∃ j : Nat, j ≤ s.size ∧ t = .int .i64 j ∧ Hid (skipP spaceB s.data.toList j = skipP spaceB s.data.toList i)) (fun t => s.size - (intOf t).toNat)
    case atStart => exact ⟨i, hi, rfl, rfl⟩
    case round =>
      obtain ⟨j, hj, rfl, HR⟩ := hrel
      by_cases hlt : j < s.size
      · obtain ⟨x, hx⟩ : ∃ x, s[j]'hlt = x := ⟨_, rfl⟩
        have hxb := x.toNat_lt
        have HX : Hid (byteAt s.data.toList j = x) := by show _ = _; rw [str_at s j hlt, hx]
        by_cases h32 : x = 32
        · subst h32
          have HR' : Hid (skipP spaceB s.data.toList (j + 1) = skipP spaceB s.data.toList i) := by
            show _ = _
            rw [← HR.out, skipP_step spaceB _ j (by omega) (by rw [HX.out]; rfl)]
          clear HR
          go_wp2
          go_round
          case rel => exact ⟨j + 1, by omega, by go_num, HR'⟩
          case measure => simp [intOf]; omega
        · have h32' : ((x.toNat : Int) == 32) = false := by
            have : x.toNat ≠ 32 := fun e => h32 (UInt8.toNat_inj.1 e)
            simp
            omega
          by_cases h9 : x = 9
          · subst h9
            have HR' : Hid (skipP spaceB s.data.toList (j + 1) = skipP spaceB s.data.toList i) := by
              show _ = _
              rw [← HR.out, skipP_step spaceB _ j (by omega) (by rw [HX.out]; rfl)]
            clear HR
            go_wp2
            go_round
            case rel => exact ⟨j + 1, by omega, by go_num, HR'⟩
            case measure => simp [intOf]; omega
          · have h9' : ((x.toNat : Int) == 9) = false := by
              have : x.toNat ≠ 9 := fun e => h9 (UInt8.toNat_inj.1 e)
              simp
              omega
            have HE : Hid (skipP spaceB s.data.toList i = j) := by
              show _ = _
              rw [← HR.out]
              exact skipP_stop spaceB _ j (fun h => by rw [HX.out] at h; simp [spaceB, h32, h9] at h)
            clear HR
            go_wp2
            go_ret
            exact ⟨ret_int (by rw [HE.out]), rfl⟩
      · have HE : Hid (skipP spaceB s.data.toList i = j) := by
          show _ = _
          rw [← HR.out]
          exact skipP_stop spaceB _ j (fun h => by omega)
        clear HR
        go_wp2
        go_ret
        exact ⟨ret_int (by rw [HE.out]), rfl⟩
set_option maxRecDepth 100000 in
set_option maxHeartbeats 800000 in
theorem skip28 (s : ByteArray) (i : Nat) (w : World) (hs : s.size ≤ 1048576) (hi : i ≤ s.size) :
    Calls Tryf.prog 28 #[.string s, .int .i64 i] w fun e w' => e = .returned (.int .i64 (skipP spaceB s.data.toList i : Int)) ∧ w' = w := by
    have hl := len_eq s
    go_enter Tryf.func28, Tryf.ntmps28
    go_wp2
    go_loop [1] (fun t => ∃ j : Nat, j ≤ s.size ∧ t = .int .i64 j ∧ Hid (skipP spaceB s.data.toList j = skipP spaceB s.data.toList i)) (fun t => s.size - (intOf t).toNat)
    case atStart => exact ⟨i, hi, rfl, rfl⟩
    case round =>
      obtain ⟨j, hj, rfl, HR⟩ := hrel
      by_cases hlt : j < s.size
      · obtain ⟨x, hx⟩ : ∃ x, s[j]'hlt = x := ⟨_, rfl⟩
        have hxb := x.toNat_lt
        have HX : Hid (byteAt s.data.toList j = x) := by show _ = _; rw [str_at s j hlt, hx]
        by_cases h32 : x = 32
        · subst h32
          have HR' : Hid (skipP spaceB s.data.toList (j + 1) = skipP spaceB s.data.toList i) := by
            show _ = _
            rw [← HR.out, skipP_step spaceB _ j (by omega) (by rw [HX.out]; rfl)]
          clear HR
          go_wp2
          go_round
          case rel => exact ⟨j + 1, by omega, by go_num, HR'⟩
          case measure => simp [intOf]; omega
        · have h32' : ((x.toNat : Int) == 32) = false := by
            have : x.toNat ≠ 32 := fun e => h32 (UInt8.toNat_inj.1 e)
            simp
            omega
          by_cases h9 : x = 9
          · subst h9
            have HR' : Hid (skipP spaceB s.data.toList (j + 1) = skipP spaceB s.data.toList i) := by
              show _ = _
              rw [← HR.out, skipP_step spaceB _ j (by omega) (by rw [HX.out]; rfl)]
            clear HR
            go_wp2
            go_round
            case rel => exact ⟨j + 1, by omega, by go_num, HR'⟩
            case measure => simp [intOf]; omega
          · have h9' : ((x.toNat : Int) == 9) = false := by
              have : x.toNat ≠ 9 := fun e => h9 (UInt8.toNat_inj.1 e)
              simp
              omega
            have HE : Hid (skipP spaceB s.data.toList i = j) := by
              show _ = _
              rw [← HR.out]
              exact skipP_stop spaceB _ j (fun h => by rw [HX.out] at h; simp [spaceB, h32, h9] at h)
            clear HR
            go_wp2
            go_ret
            exact ⟨ret_int (by rw [HE.out]), rfl⟩
      · have HE : Hid (skipP spaceB s.data.toList i = j) := by
          show _ = _
          rw [← HR.out]
          exact skipP_stop spaceB _ j (fun h => by omega)
        clear HR
        go_wp2
        go_ret
        exact ⟨ret_int (by rw [HE.out]), rfl⟩
end Go.Proofs.Qxb6003984aFmt
