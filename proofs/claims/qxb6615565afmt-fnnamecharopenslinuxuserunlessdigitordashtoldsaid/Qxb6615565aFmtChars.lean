/-
  Seat b6615565aF: the small predicates on runes and bytes: isLetter, isDigit, isNameChar, zzNameByte, zzNameRune.
-/
import Derived.Test.Qxb6615565aFmtProg
import Derived.WalkKit
import Derived.WalkSpells
import Derived.WalkLawsBesides
namespace Go.Proofs.Qxb6615565aFmt
open Go.RowKit

def letterB (r : Int) : Bool := decide (97 ≤ r ∧ r ≤ 122 ∨ 65 ≤ r ∧ r ≤ 90)
def digitB (r : Int) : Bool := decide (48 ≤ r ∧ r ≤ 57)
def nameB (r : Int) : Bool := letterB r || digitB r || r == 95 || r == 45

theorem ret_bool {a b : Bool} (h : a = b) : Ending.returned (.bool a) = .returned (.bool b) := by rw [h]

set_option maxHeartbeats 400000 in
theorem letter_any (r : Int) (w : World) : Calls Tryf.prog 18 #[.int .i32 r] w fun e w' => e = .returned (.bool (letterB r)) ∧ w' = w := by
  go_enter Tryf.func18, Tryf.ntmps18
  go_wp2
  all_goals
    go_ret
    refine ⟨ret_bool ?_, rfl⟩
    unfold letterB
    rw [Bool.eq_iff_iff]
    simp
    omega

set_option maxHeartbeats 400000 in
theorem digit_any (r : Int) (w : World) : Calls Tryf.prog 19 #[.int .i32 r] w fun e w' => e = .returned (.bool (digitB r)) ∧ w' = w := by
  go_enter Tryf.func19, Tryf.ntmps19
  go_wp2
  all_goals
    go_ret
    refine ⟨ret_bool ?_, rfl⟩
    unfold digitB
    rw [Bool.eq_iff_iff]
    simp
    omega

set_option maxHeartbeats 400000 in
theorem name_any (r : Int) (w : World) : Calls Tryf.prog 14 #[.int .i32 r] w fun e w' => e = .returned (.bool (nameB r)) ∧ w' = w := by
  go_enter Tryf.func14, Tryf.ntmps14
  go_wp2_with (first | (go_at_call 18; refine (letter_any _ _).mono ?_; rintro e w' ⟨rfl, rfl⟩) | (go_at_call 19; refine (digit_any _ _).mono ?_; rintro e w' ⟨rfl, rfl⟩))
  all_goals
    go_ret
    refine ⟨ret_bool ?_, rfl⟩
    simp [nameB, *]

theorem or_fin : ∀ n : Fin 256, (decide (97 ≤ bits BinOp.or IntKind.u8 (n.val : Int) 32) && decide (bits BinOp.or IntKind.u8 (n.val : Int) 32 ≤ 122)) = letterB (n.val : Int) := by decide +kernel
theorem or_all (c : Int) (h0 : 0 ≤ c) (h1 : c ≤ 255) : (97 ≤ bits BinOp.or IntKind.u8 c 32 ∧ bits BinOp.or IntKind.u8 c 32 ≤ 122) ↔ letterB c = true := by
  obtain ⟨n, rfl⟩ := Int.eq_ofNat_of_zero_le h0
  have h := or_fin ⟨n, by omega⟩
  simp only at h
  rw [← h]
  simp
theorem digit_mod (c : Int) (h0 : 0 ≤ c) (h1 : c ≤ 255) : (c - 48) % 256 < 10 ↔ digitB c = true := by
  unfold digitB
  simp only [decide_eq_true_eq]
  omega

set_option maxHeartbeats 400000 in
theorem zzbyte_any (c : Int) (w : World) (h0 : 0 ≤ c) (h1 : c ≤ 255) : Calls Tryf.prog 13 #[.int .u8 c] w fun e w' => e = .returned (.bool (nameB c)) ∧ w' = w := by
  have HL : Hid ((97 ≤ bits BinOp.or IntKind.u8 c 32 ∧ bits BinOp.or IntKind.u8 c 32 ≤ 122) ↔ letterB c = true) := or_all c h0 h1
  have HD : Hid ((c - 48) % 256 < 10 ↔ digitB c = true) := digit_mod c h0 h1
  go_enter Tryf.func13, Tryf.ntmps13
  go_wp2
  all_goals
    go_ret
    refine ⟨ret_bool ?_, rfl⟩
    have hl := HL.out
    have hd := HD.out
    unfold nameB
    cases h1 : letterB c <;> cases h2 : digitB c <;> simp [h1, h2] at hl hd ⊢
    all_goals first | omega | (simp [*]; done)

theorem name_low (r : Int) (h : r < 0 ∨ 127 < r) : nameB r = false := by
  unfold nameB letterB digitB
  simp
  omega

set_option maxHeartbeats 400000 in
theorem zzrune_any (r : Int) (w : World) (h0 : -2147483648 ≤ r) (h1 : r ≤ 2147483647) : Calls Tryf.prog 7 #[.int .i32 r] w fun e w' => e = .returned (.bool (nameB r)) ∧ w' = w := by
  by_cases hlo : r < 0
  · have HN : Hid (nameB r = false) := name_low r (Or.inl hlo)
    go_enter Tryf.func7, Tryf.ntmps7
    go_wp2
    go_ret
    exact ⟨ret_bool HN.out.symm, rfl⟩
  · by_cases hhi : 127 < r
    · have HN : Hid (nameB r = false) := name_low r (Or.inr hhi)
      go_enter Tryf.func7, Tryf.ntmps7
      go_wp2
      go_ret
      exact ⟨ret_bool HN.out.symm, rfl⟩
    · go_enter Tryf.func7, Tryf.ntmps7
      go_wp2_with (go_at_call 13; refine (zzbyte_any _ _ (by omega) (by omega)).mono ?_; rintro e w' ⟨rfl, rfl⟩)
      go_ret
      exact ⟨rfl, rfl⟩

set_option maxHeartbeats 400000 in
theorem zzname_any (r : Int) (w : World) : Calls Tryf.prog 8 #[.int .i32 r] w fun e w' => e = .returned (.bool (nameB r)) ∧ w' = w := by
  go_enter Tryf.func8, Tryf.ntmps8
  go_wp2_with (go_at_call 14; refine (name_any _ _).mono ?_; rintro e w' ⟨rfl, rfl⟩)
  go_ret
  exact ⟨rfl, rfl⟩

end Go.Proofs.Qxb6615565aFmt
