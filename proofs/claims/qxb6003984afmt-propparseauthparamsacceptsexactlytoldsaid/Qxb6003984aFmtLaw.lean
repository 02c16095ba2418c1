/-
  Seat b6003984aF: THE LAW.
-/
import Derived.Test.Qxb6003984aFmtModel
import Derived.Deep.RegionHeld3
set_option linter.unusedSimpArgs false
set_option linter.unusedVariables false
namespace Go.Proofs.Qxb6003984aFmt
open Go.RowKit Go.Extern.Stop Go.Stop Go.Extern

set_option maxRecDepth 100000 in
theorem bytes5 (s : ByteArray) (w : World) (h : s.size ≤ 1048576) : Calls Tryf.prog 5 #[.string s] w fun e w' => e = .returned (.bool true) ∧ w' = w := by
  have h1 : decide ((s.size : Int) > 1048576) = false := by simp; omega
  go_enter Tryf.func5, Tryf.ntmps5
  go_wp2
  go_ret
  exact ⟨rfl, rfl⟩
set_option maxRecDepth 100000 in
theorem bytes5_no (s : ByteArray) (w : World) (h : ¬ s.size ≤ 1048576) : Calls Tryf.prog 5 #[.string s] w fun e w' => e = .returned (.bool false) ∧ w' = w := by
  have h1 : decide ((s.size : Int) > 1048576) = true := by simp; omega
  go_enter Tryf.func5, Tryf.ntmps5
  go_wp2
  go_ret
  exact ⟨rfl, rfl⟩
set_option maxRecDepth 100000 in
theorem fits6 (s : ByteArray) (w : World) (b : Bool) (h : decide ((s.size : Int) ≤ 65536) = b) : Calls Tryf.prog 6 #[.string s] w fun e w' => e = .returned (.bool b) ∧ w' = w := by
  go_enter Tryf.func6, Tryf.ntmps6
  go_wp2
  go_ret
  exact ⟨ret_bool (by first | exact h | rfl | simpa using h), rfl⟩
set_option maxRecDepth 100000 in
theorem parse7 (F : Interp) (s : ByteArray) (w : World) (hF : F.answers w.tape) (hs : s.size ≤ 1048576) : Calls Tryf.prog 7 #[.string s] w (ParseOut (resL s) w) := by
  go_enter Tryf.func7, Tryf.ntmps7
  go_wp2_with fail
  refine (parse_any F s w hF hs).mono ?_
  rintro e w1 ⟨hb1, hsome, hnone⟩
  cases hr : resL s with
  | none =>
    obtain ⟨t, x, rfl⟩ := hnone hr
    go_wp2
    go_ret2
    exact parse_bad hr hb1
  | some ps =>
    obtain ⟨v, rfl, hown⟩ := hsome ps hr
    go_wp2
    go_ret2
    exact parse_good hr hb1 hown

/-- The cells that the law's round reads, and what lies below. -/
abbrev Lies (W : World) (g g5 g6 i : Nat) (n v : ByteArray) (w : World) : Prop :=
  w.cell? ⟨g, i * 2, none⟩ = some (.string n) ∧ w.cell? ⟨g, i * 2 + 1, none⟩ = some (.string v) ∧ w.cell? ⟨g5, i, none⟩ = some (.string n) ∧ w.cell? ⟨g6, i, none⟩ = some (.string v) ∧ Below W.heap.size W w
theorem lies_below {W w w' : World} {g g5 g6 i : Nat} {n v : ByteArray} (h : Lies W g g5 g6 i n v w) (lg : g < W.heap.size) (l5 : g5 < W.heap.size) (l6 : g6 < W.heap.size) (hb : Below w.heap.size w w') : Lies W g g5 g6 i n v w' := by
  obtain ⟨c1, c2, c3, c4, hB⟩ := h
  have := hB.size
  refine ⟨?_, ?_, ?_, ?_, chain hB hb⟩
  · rw [hb.cell (by show g < _; omega)]; exact c1
  · rw [hb.cell (by show g < _; omega)]; exact c2
  · rw [hb.cell (by show g5 < _; omega)]; exact c3
  · rw [hb.cell (by show g6 < _; omega)]; exact c4
set_option maxRecDepth 100000 in
theorem name9 (W : World) (g g5 g6 i : Nat) (n v : ByteArray) (w : World) (lg : g < W.heap.size) (l5 : g5 < W.heap.size) (l6 : g6 < W.heap.size) (h : Lies W g g5 g6 i n v w) :
    Calls Tryf.prog 9 #[.agg #[.string n, .string v]] w fun e w' => e = .returned (.string n) ∧ Lies W g g5 g6 i n v w' := by
  have H : Hid (Lies W g g5 g6 i n v w) := h
  clear h
  go_enter Tryf.func9, Tryf.ntmps9
  go_wp2
  go_ret
  exact ⟨rfl, lies_below H.out lg l5 l6 ((Below.refl _ _).alloc (Nat.le_refl _) _)⟩
set_option maxRecDepth 100000 in
theorem value10 (W : World) (g g5 g6 i : Nat) (n v : ByteArray) (w : World) (lg : g < W.heap.size) (l5 : g5 < W.heap.size) (l6 : g6 < W.heap.size) (h : Lies W g g5 g6 i n v w) :
    Calls Tryf.prog 10 #[.agg #[.string n, .string v]] w fun e w' => e = .returned (.string v) ∧ Lies W g g5 g6 i n v w' := by
  have H : Hid (Lies W g g5 g6 i n v w) := h
  clear h
  go_enter Tryf.func10, Tryf.ntmps10
  go_wp2
  go_ret
  exact ⟨rfl, lies_below H.out lg l5 l6 ((Below.refl _ _).alloc (Nat.le_refl _) _)⟩

theorem form_some {w : World} {B e sz n : Nat} {v : Value} {xs : List Value} (h : w.ownsRow B e sz v n xs) (hn : n ≠ 0) : ∃ g cap, v = .slice (some ⟨g, 0, none⟩) n cap ∧ g < w.heap.size ∧ n ≤ cap ∧ cap ≤ maxLen := by
  rcases h.2 with ⟨_, h0⟩ | ⟨g, cap, cur, hv, _, hg, h3, h4, _⟩
  · exact absurd h0 hn
  · refine ⟨g, cap, hv, ?_, h3, h4⟩
    rcases Array.getElem?_eq_some_iff.1 hg with ⟨h, _⟩
    exact h
theorem form_any {w : World} {B e sz n : Nat} {v : Value} {xs : List Value} (h : w.ownsRow B e sz v n xs) : ∃ a cap, v = .slice a n cap := by
  rcases h.2 with ⟨hv, h0⟩ | ⟨g, cap, cur, hv, _⟩
  · exact ⟨none, 0, by rw [hv, h0]⟩
  · exact ⟨_, cap, hv⟩
theorem pairs_le (s : ByteArray) : ∀ (f i : Nat) (ps : List (ByteArray × ByteArray)), parseL s f i = some ps → ps.length ≤ f := by
  intro f
  induction f with
  | zero => intro i ps h; cases h
  | succ f ih =>
    intro i ps h
    rw [parseL] at h
    split at h
    · split at h
      · have := ih _ _ h; omega
      · split at h
        · cases h
        · rename_i n v k _
          cases hq : parseL s f k with
          | none => rw [hq] at h; cases h
          | some r =>
            rw [hq] at h
            have := ih _ _ hq
            simp at h
            subst h
            simp
            exact this
    · cases h; simp
theorem res_le (s : ByteArray) (ps : List (ByteArray × ByteArray)) (h : resL s = some ps) : ps.length ≤ s.size + 1 := by
  unfold resL at h
  cases hp : parseL s (s.size + 1) 0 with
  | none => rw [hp] at h; cases h
  | some r =>
    rw [hp] at h
    simp only at h
    split at h
    · cases h; exact pairs_le s _ _ _ hp
    · cases h

set_option maxRecDepth 1000000 in
set_option maxHeartbeats 4000000 in
theorem law_any (F : Interp) (s : ByteArray) (w : World) (hF : F.answers w.tape) : Calls Tryf.prog 3 #[.string s] w fun e w' => e = .returned (.bool true) ∧ Below w.heap.size w w' := by
  by_cases h1 : s.size ≤ 1048576
  · by_cases h2 : s.size ≤ 65536
    · go_enter Tryf.func3, Tryf.ntmps3
      go_wp2_with (first | (go_at_call 5; refine (bytes5 s _ h1).mono ?_; rintro e w' ⟨rfl, hw⟩; subst w') | (go_at_call 6; refine (fits6 s _ true (by simp; omega)).mono ?_; rintro e w' ⟨rfl, hw⟩; subst w'))
      refine (parse7 F s w hF h1).mono ?_
      rintro e w1 ⟨hb1, hsome, hnone⟩
      cases hr : resL s with
      | none =>
        obtain ⟨t, x, rfl⟩ := hnone hr
        clear hsome hnone
        go_wp2_with fail
        refine (model_any s w1 h1).mono ?_
        rintro e w2 ⟨hb2, _, hn2⟩
        have he := hn2 hr
        subst he
        clear hn2
        go_wp2
        go_ret
        exact ⟨rfl, chain hb1 hb2⟩
      | some ps =>
        obtain ⟨v, rfl, hown⟩ := hsome ps hr
        clear hsome hnone
        have hps := res_le s ps hr
        obtain ⟨av, cv, hfv⟩ := form_any hown
        subst hfv
        go_wp2_with fail
        refine (model_any s w1 h1).mono ?_
        rintro e w2 ⟨hb2, hs2, _⟩
        obtain ⟨v5, v6, rfl, hrows⟩ := hs2 ps hr
        clear hs2
        have hown2 := own_below hown hb2
        have hbw2 := chain hb1 hb2
        obtain ⟨a5, c5, hf5⟩ := form_any hrows.1
        subst hf5
        obtain ⟨a6, c6, hf6⟩ := form_any hrows.2.1
        subst hf6
        go_wp2
        go_loopw [8] (fun t wr => ∃ i : Nat, i ≤ ps.length ∧ t = .int .i64 i ∧ Below w2.heap.size w2 wr) (fun t _ => ps.length - (intOf t).toNat)
        case atStart => exact ⟨0, by omega, rfl, Below.refl _ _⟩
        case round =>
          obtain ⟨i, hi, rfl, hbq⟩ := hrel
          obtain ⟨wq, rfl⟩ : ∃ wq, wq = wr := ⟨_, rfl⟩
          by_cases hil : i < ps.length
          · obtain ⟨p, hp⟩ : ∃ p, ps[i]? = some p := ⟨ps[i], by simp [hil]⟩
            obtain ⟨n, v⟩ := p
            obtain ⟨g, cg, hg, lg, hcg, _⟩ := form_some hown2 (by omega)
            cases hg
            obtain ⟨g5, cg5, hg5, l5, hc5, _⟩ := form_some hrows.1 (by omega)
            cases hg5
            obtain ⟨g6, cg6, hg6, l6, hc6, _⟩ := form_some hrows.2.1 (by omega)
            cases hg6
            have hL : Lies w2 g g5 g6 i n v wq := by
              have hpc := pairCells_at ps i (n, v) hp
              refine ⟨?_, ?_, ?_, ?_, hbq⟩
              · rw [hbq.cell lg, hown2.cellAt _ (by omega)]; exact hpc.1
              · rw [hbq.cell lg, hown2.cellAt _ (by omega)]; exact hpc.2
              · rw [hbq.cell l5, hrows.1.cellAt _ (by omega), List.getElem?_map, hp]; rfl
              · rw [hbq.cell l6, hrows.2.1.cellAt _ (by omega), List.getElem?_map, hp]; rfl
            obtain ⟨c1, c2, c3, c4, _⟩ := hL
            clear hp hr hown hrows hown2
            have b1 : (i : Int) < (ps.length : Int) := by omega
            have b2 : (0 : Int) ≤ (i : Int) := by omega
            go_wp2
            go_region_held3 (fun w' => w'.cell? ⟨g, i * 2, none⟩ = some (.string n) ∧ w'.cell? ⟨g, i * 2 + 1, none⟩ = some (.string v) ∧ w'.cell? ⟨g5, i, none⟩ = some (.string n) ∧ w'.cell? ⟨g6, i, none⟩ = some (.string v) ∧ Below w2.heap.size w2 w') (first | assumption | exact ⟨c1, c2, c3, c4, hbq.drew⟩ | go_keep)
              (first | (go_at_call 9; refine (name9 w2 g g5 g6 i n v _ lg l5 l6 (by assumption)).mono ?_; rintro e w' ⟨rfl, hS⟩) | (go_at_call 10; refine (value10 w2 g g5 g6 i n v _ lg l5 l6 (by assumption)).mono ?_; rintro e w' ⟨rfl, hS⟩))
            all_goals
              go_wp2
              go_roundw
              case rel => exact ⟨i + 1, by omega, by go_num, hS.2.2.2.2⟩
              case measure => simp [intOf]; omega
          · go_wp2
            go_ret
            exact ⟨rfl, chain hbw2 hbq⟩
    · go_enter Tryf.func3, Tryf.ntmps3
      go_wp2_with (first | (go_at_call 5; refine (bytes5 s _ h1).mono ?_; rintro e w' ⟨rfl, hw⟩; subst w') | (go_at_call 6; refine (fits6 s _ false (by simp; omega)).mono ?_; rintro e w' ⟨rfl, hw⟩; subst w'))
      go_ret
      exact ⟨rfl, Below.refl _ _⟩
  · go_enter Tryf.func3, Tryf.ntmps3
    go_wp2_with (first | (go_at_call 5; refine (bytes5_no s _ h1).mono ?_; rintro e w' ⟨rfl, hw⟩; subst w'))
    go_ret
    exact ⟨rfl, Below.refl _ _⟩
end Go.Proofs.Qxb6003984aFmt
