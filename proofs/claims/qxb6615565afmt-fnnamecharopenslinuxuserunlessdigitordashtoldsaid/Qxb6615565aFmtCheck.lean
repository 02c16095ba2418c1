/-
  Seat b6615565aF: checkLinuxUser, given what utf8.DecodeRuneInString gives.
-/
import Derived.Test.Qxb6615565aFmtErrorf
namespace Go.Proofs.Qxb6615565aFmt
open Go.RowKit Go.Extern.Stop Go.Stop Go.Extern

theorem iter_below {W w : World} (hb : Below W.heap.size W w) (s : ByteArray) (p : Nat) : Below W.heap.size W (w.iter s p) := hb.alloc hb.size _

set_option maxRecDepth 100000 in
set_option maxHeartbeats 800000 in
theorem check_yes (s : ByteArray) (f k : Int) (w : World) (hs : s.size ≤ 32)
    (cD : Calls Tryf.prog 20 #[.string s] w fun e w' => e = .returned (.tuple #[.int .i32 f, .int .i64 k]) ∧ Below w.heap.size w w')
    (hok : (letterB f || f == 95) = true) (hall : allFrom s s.size 0 = true) :
    Calls Tryf.prog 15 #[.string s] w fun e w' => e = .returned .nilIface ∧ Below w.heap.size w w' := by
  go_enter Tryf.func15, Tryf.ntmps15
  go_wp2_with fail
  refine cD.mono ?_
  rintro e w1 ⟨rfl, hb⟩
  cases hl : letterB f with
  | true =>
    go_wp2_with (first | (go_at_call 18; refine (letter_any _ _).mono ?_; rintro e w' ⟨rfl, rfl⟩) | (go_at_call 21; refine (all_any _ _).mono ?_; rintro e w' ⟨rfl, pos, rfl⟩))
    go_ret
    exact ⟨rfl, iter_below hb _ _⟩
  | false =>
    have h95 : (f == 95) = true := by simpa [hl] using hok
    go_wp2_with (first | (go_at_call 18; refine (letter_any _ _).mono ?_; rintro e w' ⟨rfl, rfl⟩) | (go_at_call 21; refine (all_any _ _).mono ?_; rintro e w' ⟨rfl, pos, rfl⟩))
    go_ret
    exact ⟨rfl, iter_below hb _ _⟩

set_option maxRecDepth 100000 in
set_option maxHeartbeats 800000 in
theorem check_no (F : Interp) (s : ByteArray) (f k : Int) (w : World) (hF : F.answers w.tape) (hs : s.size ≤ 32)
    (cD : Calls Tryf.prog 20 #[.string s] w fun e w' => e = .returned (.tuple #[.int .i32 f, .int .i64 k]) ∧ Below w.heap.size w w')
    (hno : (letterB f || f == 95) = false ∨ allFrom s s.size 0 = false) :
    Calls Tryf.prog 15 #[.string s] w fun e w' => (∃ a, e = .returned (.iface 44 (.pointer (some a)))) ∧ Below w.heap.size w w' := by
  cases hok : (letterB f || f == 95) with
  | false =>
    have hl : letterB f = false := by cases h : letterB f <;> simp [h] at hok ⊢
    have h95 : (f == 95) = false := by cases h : (f == 95) <;> simp [h] at hok ⊢
    clear hno hok
    go_enter Tryf.func15, Tryf.ntmps15
    go_wp2_with fail
    refine cD.mono ?_
    rintro e w1 ⟨rfl, hb⟩
    have hF1 : F.answers w1.tape := by rw [hb.tape]; exact hF
    go_wp2_with (first | (go_at_call 18; refine (letter_any _ _).mono ?_; rintro e w' ⟨rfl, rfl⟩))
    refine (errorf_bad F s 32 _ _ (by exact hF1) (by go_simp) (by go_simp)).mono ?_
    rintro e w2 ⟨rfl, rfl⟩
    go_wp2
    go_ret
    exact ⟨⟨_, rfl⟩, ((hb.alloc hb.size _).alloc (by simp; have := hb.size; omega) _).drew⟩
  | true =>
    have hall : allFrom s s.size 0 = false := by simpa [hok] using hno
    clear hno
    go_enter Tryf.func15, Tryf.ntmps15
    go_wp2_with fail
    refine cD.mono ?_
    rintro e w1 ⟨rfl, hb⟩
    have hF1 : F.answers w1.tape := by rw [hb.tape]; exact hF
    cases hl : letterB f with
    | true =>
      go_wp2_with (first | (go_at_call 18; refine (letter_any _ _).mono ?_; rintro e w' ⟨rfl, rfl⟩) | (go_at_call 21; refine (all_any _ _).mono ?_; rintro e w' ⟨rfl, pos, rfl⟩))
      refine (errorf_bad F s 32 _ _ (by exact hF1) (by go_simp) (by go_simp)).mono ?_
      rintro e w2 ⟨rfl, rfl⟩
      go_wp2
      go_ret
      refine ⟨⟨_, rfl⟩, (((iter_below hb s _).alloc ?_ _).alloc ?_ _).drew⟩
      all_goals (have := hb.size; simp [World.iter]; omega)
    | false =>
      have h95 : (f == 95) = true := by simpa [hl] using hok
      go_wp2_with (first | (go_at_call 18; refine (letter_any _ _).mono ?_; rintro e w' ⟨rfl, rfl⟩) | (go_at_call 21; refine (all_any _ _).mono ?_; rintro e w' ⟨rfl, pos, rfl⟩))
      refine (errorf_bad F s 32 _ _ (by exact hF1) (by go_simp) (by go_simp)).mono ?_
      rintro e w2 ⟨rfl, rfl⟩
      go_wp2
      go_ret
      refine ⟨⟨_, rfl⟩, (((iter_below hb s _).alloc ?_ _).alloc ?_ _).drew⟩
      all_goals (have := hb.size; simp [World.iter]; omega)
end Go.Proofs.Qxb6615565aFmt
