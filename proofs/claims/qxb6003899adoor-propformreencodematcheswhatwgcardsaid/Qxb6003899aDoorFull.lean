/-
  Seat b6003899aD: utf8.FullRune on two and three bytes; maximalSubpart.
-/
import Derived.Test.Qxb6003899aDoorWalkAt
import Derived.Deep.QuietTactic
import Derived.BigQuiet
namespace Go.Proofs.Qxb6003899aDoor
open Go.RowKit Go.Lib

set_option maxRecDepth 100000 in
set_option maxHeartbeats 1000000 in
theorem full_two_hi (c x f lo hi : Nat) (k : Nat) (g off cap : Nat) (w : World) (hf : f = 19 ∧ k = 1 ∨ f = 3 ∧ k = 0 ∨ f = 35 ∧ k = 2 ∨ f = 52 ∧ k = 3 ∨ f = 4 ∧ k = 0 ∨ f = 68 ∧ k = 4)
    (hc0 : w.cell? ⟨g, off, none⟩ = some (.int .u8 c)) (hc1 : w.cell? ⟨g, off + 1, none⟩ = some (.int .u8 x)) (hcb : c < 256)
    (ht : w.cell? ⟨3, c, none⟩ = some (.int .u8 f)) (hlo : w.cell? ⟨4, 2 * k, none⟩ = some (.int .u8 lo)) (hhi : w.cell? ⟨4, 2 * k + 1, none⟩ = some (.int .u8 hi)) :
    Calls Tryd.prog 50 #[.slice (some ⟨g, off, none⟩) 2 cap] w fun e w' => e = .returned (.bool (decide ((x : Int) < lo ∨ (hi : Int) < x))) ∧ Below w.heap.size w w' := by
  have h1 : g < w.heap.size := by
    rcases Nat.lt_or_ge g w.heap.size with h | h
    · exact h
    · simp [World.cell?, Array.getElem?_eq_none h] at hc0
  by_cases hx : (x : Int) < lo
  · rcases hf with ⟨rfl, rfl⟩ | ⟨rfl, rfl⟩ | ⟨rfl, rfl⟩ | ⟨rfl, rfl⟩ | ⟨rfl, rfl⟩ | ⟨rfl, rfl⟩
    all_goals
      go_enter Tryd.func50, Tryd.ntmps50
      go_wp2
      go_quiet (fail)
      go_wp2
      go_ret
      exact ⟨ret_bool (by simp [hx]), below_drewN ((Below.refl _ _).alloc (Nat.le_refl _) _) _⟩
  · rcases hf with ⟨rfl, rfl⟩ | ⟨rfl, rfl⟩ | ⟨rfl, rfl⟩ | ⟨rfl, rfl⟩ | ⟨rfl, rfl⟩ | ⟨rfl, rfl⟩
    all_goals
      go_enter Tryd.func50, Tryd.ntmps50
      go_wp2
      have hxd : decide (x < lo) = false := decide_eq_false (by omega)
      go_quiet (fail)
      go_wp2
      all_goals
        go_ret
        refine ⟨ret_bool ?_, below_drewN ((Below.refl _ _).alloc (Nat.le_refl _) _) _⟩
        all_goals (apply Bool.eq_iff_iff.2; simp <;> omega)

set_option maxRecDepth 100000 in
set_option maxHeartbeats 1000000 in
theorem full_three_hi (c x y f lo hi : Nat) (k : Nat) (g off cap : Nat) (w : World) (hf : f = 52 ∧ k = 3 ∨ f = 4 ∧ k = 0 ∨ f = 68 ∧ k = 4)
    (hc0 : w.cell? ⟨g, off, none⟩ = some (.int .u8 c)) (hc1 : w.cell? ⟨g, off + 1, none⟩ = some (.int .u8 x)) (hc2 : w.cell? ⟨g, off + 2, none⟩ = some (.int .u8 y)) (hcb : c < 256)
    (ht : w.cell? ⟨3, c, none⟩ = some (.int .u8 f)) (hlo : w.cell? ⟨4, 2 * k, none⟩ = some (.int .u8 lo)) (hhi : w.cell? ⟨4, 2 * k + 1, none⟩ = some (.int .u8 hi)) :
    Calls Tryd.prog 50 #[.slice (some ⟨g, off, none⟩) 3 cap] w fun e w' => e = .returned (.bool (decide ((x : Int) < lo ∨ (hi : Int) < x) || decide ((y : Int) < 128 ∨ 191 < (y : Int)))) ∧ Below w.heap.size w w' := by
  have h1 : g < w.heap.size := by
    rcases Nat.lt_or_ge g w.heap.size with h | h
    · exact h
    · simp [World.cell?, Array.getElem?_eq_none h] at hc0
  by_cases hx : (x : Int) < lo
  · rcases hf with ⟨rfl, rfl⟩ | ⟨rfl, rfl⟩ | ⟨rfl, rfl⟩
    all_goals
      go_enter Tryd.func50, Tryd.ntmps50
      go_wp2
      go_quiet (fail)
      go_wp2
      go_ret
      exact ⟨ret_bool (by simp [hx]), below_drewN ((Below.refl _ _).alloc (Nat.le_refl _) _) _⟩
  · rcases hf with ⟨rfl, rfl⟩ | ⟨rfl, rfl⟩ | ⟨rfl, rfl⟩
    all_goals
      go_enter Tryd.func50, Tryd.ntmps50
      go_wp2
      have hxd : decide (x < lo) = false := decide_eq_false (by omega)
      go_quiet (fail)
      go_wp2
      all_goals
        go_ret
        refine ⟨ret_bool ?_, below_drewN ((Below.refl _ _).alloc (Nat.le_refl _) _) _⟩
        all_goals (apply Bool.eq_iff_iff.2; simp <;> omega)

set_option maxRecDepth 100000 in
set_option maxHeartbeats 1000000 in
/-- Where the lead byte wants no more than there are. -/
theorem full_enough (n c f : Nat) (g off cap : Nat) (w : World) (hf : f = 240 ∨ f = 241 ∨ f = 2 ∨ n = 3 ∧ (f = 19 ∨ f = 3 ∨ f = 35)) (hn : n = 2 ∨ n = 3)
    (hc0 : w.cell? ⟨g, off, none⟩ = some (.int .u8 c)) (hcb : c < 256) (ht : w.cell? ⟨3, c, none⟩ = some (.int .u8 f)) :
    Calls Tryd.prog 50 #[.slice (some ⟨g, off, none⟩) n cap] w fun e w' => e = .returned (.bool true) ∧ Below w.heap.size w w' := by
  rcases hn with rfl | rfl
  · rcases hf with rfl | rfl | rfl | ⟨h, _⟩
    rotate_right
    · omega
    all_goals
      go_enter Tryd.func50, Tryd.ntmps50
      go_wp2
      go_ret
      exact ⟨rfl, Below.refl _ _⟩
  · rcases hf with rfl | rfl | rfl | ⟨h, rfl | rfl | rfl⟩
    all_goals
      go_enter Tryd.func50, Tryd.ntmps50
      go_wp2
      go_ret
      exact ⟨rfl, Below.refl _ _⟩

end Go.Proofs.Qxb6003899aDoor
