/-
  Seat b6605488aD: THE CARD of FnInsertNotesTwiceIsOnceWithBoth, tied.
-/
import Derived.Test.Qxb6605488aDoorLawB
import Derived.Test.Qxb6605488aDoorCardA
set_option linter.unusedSimpArgs false
set_option linter.unusedVariables false
namespace Go.Proofs.Qxb6605488aDoor
open Go.ChangeShapes Go.WideShapes Go.ChangeAt Go.RowKit
open Go.ChangeMaps (open_string shut_string)

set_option maxRecDepth 100000 in
set_option maxHeartbeats 1600000 in
theorem liftedB (os : Os) (started : os.Started) (H : Type) (enc : TypeId × Value → H) :
    ReturnsInHanded {} Tryd.checked os 4 .any (fun w args => (Rows.fnInsertNotesTwiceIsOnceWithBothSpec.pre enc Tryd.prog Tryd.f4 [] false w args ∧ laidMetH Tryd.prog Rows.fnInsertNotesTwiceIsOnceWithBothRow.laid w) ∧ sizedMet enc Tryd.prog Tryd.f4 (OpenSpec.ofChange Rows.fnInsertNotesTwiceIsOnceWithBothSpec) false w args)
      (Rows.fnInsertNotesTwiceIsOnceWithBothSpec.post enc Tryd.prog Tryd.f4 false true false false) := by
  refine wrap (s := Rows.fnInsertNotesTwiceIsOnceWithBothSpec) (X := fun w => laidMetH Tryd.prog Rows.fnInsertNotesTwiceIsOnceWithBothRow.laid w) (fun _ _ hh h => h.of_heap hh) started (by kernel_rfl) Tryd.func4
    (ChangeSpec.witness_shaped (enc := enc) (C := Tryd.checked) (os := os) (X := fun w _ => laidMetH Tryd.prog Rows.fnInsertNotesTwiceIsOnceWithBothRow.laid w) false (World.laidAll Tryd.prog os Rows.fnInsertNotesTwiceIsOnceWithBothRow.laid) #[.slice none 0 0, .bool false, .string ⟨#[]⟩, .string ⟨#[]⟩] 8 (World.laidAll_os _ _ _)
      (World.shaped_of_ZipB (by kernel_rfl) (by kernel_rfl)) (by kernel_rfl) (by kernel_rfl) (by kernel_rfl)
      (by rw [MakeChecks.laidMetH_plain _ _ _ (by kernel_rfl)]; exact laidMet_laidAll _ (by kernel_rfl) (by kernel_rfl))) ?_
  intro W base args ds gs before hval0 hW hsh
  have hval : ∀ (j : Nat) t v, Tryd.f4.params[j]? = some t → args[j]? = some v → Value.okWide Tryd.prog W .any base t v := hval0
  have hW' := hW
  obtain ⟨p, q, hA0, hV, rfl, _, _⟩ := hW
  have hA : DataW.TrodAll enc Tryd.prog W 0 (fun _ => true) true Tryd.f4.params.toList args.toList ds p := hA0
  rw [Tryd.params4] at hA hval
  obtain ⟨v0, v1, v2, v3, d0, d1, d2, d3, p0, p1, p2, p3, rfl, rfl, rfl, h0, h1, h2, h3⟩ := trodAll_four hA
  obtain ⟨rfl, rfl⟩ := trodVars_none hV
  obtain ⟨ex, rfl, rfl, rfl⟩ := open_bool Tryd.underlying4 (hval 1 4 v1 rfl rfl) h1
  obtain ⟨n1, rfl, rfl, rfl, ws1⟩ := open_string Tryd.underlying9 (hval 2 9 v2 rfl rfl) h2
  obtain ⟨n2, rfl, rfl, rfl, ws2⟩ := open_string Tryd.underlying9 (hval 3 9 v3 rfl rfl) h3
  obtain ⟨a, k, cap, t, rfl, hg, hk, hkm⟩ := open_old (hval 0 22 v0 rfl rfl) h0
  clear hA0 hval0
  simp only [List.append_nil] at hW'
  have hlt : ∀ x ∈ p0, x.block < W.heap.size := fun x hx => by simpa using hW'.lt x (by simpa using hx)
  obtain ⟨m, hm⟩ := maxCell W hsh
  refine (lawB a k cap t ex n1 n2 m W hg hk hkm (by unfold maxLen at ws1; exact ws1) (by unfold maxLen at ws2; exact ws2) hm (World.block_lt_of_cell? _ _ hm)).mono fun e W' ⟨he, hb⟩ => ?_
  subst he
  refine ⟨_, rfl, _, _, _, [], _, [], hW', trodAll_mk1 (shut_bool Tryd.underlying4 _), trodAll_mk4 (Below.trod laidOut (by kernel_rfl) (of_decide_eq_true (by kernel_rfl)) h0 hb hlt) (shut_bool Tryd.underlying4 _) (shut_string Tryd.underlying9 ws1) (shut_string Tryd.underlying9 ws2), rfl, hb.frame _, fun h => by cases h⟩

theorem rowB_holds : Rows.FnInsertNotesTwiceIsOnceWithBothSaid :=
  OpenClaim.holds_of_wide 4 Tryd.f4 rfl rfl rfl rfl rfl rfl rfl ⟨rfl, rfl, rfl, rfl, rfl⟩ rfl rfl rfl rfl rfl (by kernel_rfl) Tryd.func4 (by kernel_rfl)
    (of_decide_eq_true (by kernel_rfl)) (by unfold Func.isWrapper; rw [if_neg (of_decide_eq_false (by kernel_rfl))]; exact ⟨rfl, rfl⟩)
    (fun os started H enc _ => liftedB os started H enc)

theorem twice_card : Rows.FnInsertNotesTwiceIsOnceWithBothCardSaid :=
  Claim7.holds_tied_plain_at .later [] [.data, .pinned] true _ _ rowB_holds (fun _ h => by cases h) (by kernel_rfl) (fun _ h => by cases h) fnInsertNotesTwiceIsOnceWithBoth_row_tie rfl ⟨rfl, rfl⟩ (by kernel_rfl) rfl
    (fun f fn hf hfn => by
      obtain rfl : f = 4 := Option.some.inj ((show Tryd.prog.funcNamed Rows.fnInsertNotesTwiceIsOnceWithBothRow.func = some 4 by kernel_rfl).symm.trans hf) |>.symm
      obtain rfl : fn = Tryd.f4 := (Option.some.inj (Tryd.func4.symm.trans hfn)).symm
      exact ⟨by kernel_rfl, fun j t ht => by
        rw [Tryd.params4] at ht
        have hm : t ∈ [22, 4, 9, 9] := by simpa using Array.mem_of_getElem? ht
        have hall : ([22, 4, 9, 9].all fun u => !Tryd.prog.wantsStandIn u) = true := by kernel_rfl
        exact (show Tryd.prog.wantsStandIn t = false by simpa using List.all_eq_true.1 hall t hm)⟩)
    (by kernel_rfl)
#print axioms twice_card
end Go.Proofs.Qxb6605488aDoor
