/-
  Seat b6003899aD: THE CARD of PropFormReencodeMatchesWHATWG, tied.
-/
import Derived.Test.Qxb6003899aDoorForm
import Derived.Test.Qxb6003899aDoorZz
import Derived.Test.Qxb6003899aDoorRows
import Derived.Test.Qxb6003899aDoorTie
import Derived.Test.Qxb6003899aDoorCards
import Derived.ProofKit
import Derived.SevenTiedAt
import Derived.Lay
import Derived.Lib.LaidU8T
import Derived.PinnedBridge
namespace Go.Proofs.Qxb6003899aDoor
open Go.ChangeShapes Go.WideShapes Go.ChangeAt Go.RowKit
open Go.ChangeMaps (open_string shut_string)

set_option maxHeartbeats 400000 in
theorem bytes_any (s : ByteArray) (w : World) (hs : s.size ≤ 9223372036854775807) : Calls Tryd.prog 23 #[.string s] w fun e w' => e = .returned (.bool (decide (s.size ≤ 1048576))) ∧ w' = w := by
  by_cases h : s.size ≤ 1048576
  · go_enter Tryd.func23, Tryd.ntmps23
    go_wp2
    go_ret
    exact ⟨ret_bool (by simp [h]), rfl⟩
  · go_enter Tryd.func23, Tryd.ntmps23
    go_wp2
    go_ret
    exact ⟨ret_bool (by simp; omega), rfl⟩

set_option maxHeartbeats 400000 in
theorem zform_any (s : ByteArray) (w : World) (hs : s.size ≤ 1048576) (hT : Lib.Utf8Tabs 3 4 w) :
    Calls Tryd.prog 24 #[.string s] w fun e w' => e = .returned (.string ⟨(reenc s.data.toList).toArray⟩) ∧ Below w.heap.size w w' := by
  have c := form_any s w hs hT
  go_enter Tryd.func24, Tryd.ntmps24
  go_wp2_with (go_at_call 33; refine c.mono ?_; rintro e w' ⟨rfl, hb⟩)
  go_ret
  exact ⟨rfl, hb⟩

set_option maxRecDepth 100000 in
set_option maxHeartbeats 800000 in
theorem law_any (s : ByteArray) (w : World) (hs : s.size ≤ 9223372036854775807) (hT : Lib.Utf8Tabs 3 4 w) :
    Calls Tryd.prog 5 #[.string s] w fun e w' => e = .returned (.bool true) ∧ Below w.heap.size w w' := by
  by_cases h : s.size ≤ 1048576
  · have cB := bytes_any s w hs
    rw [decide_eq_true h] at cB
    have c1 := zform_any s w h hT
    obtain ⟨o, ho⟩ : ∃ o, reenc s.data.toList = o := ⟨_, rfl⟩
    have c2 := fun w' => zz_any s w' h
    rw [ho] at c1
    have C2 : Hid (∀ w', Calls Tryd.prog 25 #[.string s] w' fun e w'' => e = .returned (.string ⟨o.toArray⟩) ∧ Below w'.heap.size w' w'') := fun w' => by have := c2 w'; rw [ho] at this; exact this
    clear c2 ho
    go_enter Tryd.func5, Tryd.ntmps5
    go_wp2_with (first | (go_at_call 23; refine cB.mono ?_; rintro e w' ⟨rfl, hw⟩; subst w') | (go_at_call 24; refine c1.mono ?_; rintro e w1 ⟨rfl, hb1⟩) | (go_at_call 25; refine (C2.out _).mono ?_; rintro e w2 ⟨rfl, hb2⟩))
    go_ret
    exact ⟨ret_bool (by simp), hb1.trans (hb2.mono hb1.size)⟩
  · have cB := bytes_any s w hs
    rw [decide_eq_false h] at cB
    go_enter Tryd.func5, Tryd.ntmps5
    go_wp2_with (first | (go_at_call 23; refine cB.mono ?_; rintro e w' ⟨rfl, hw⟩; subst w'))
    go_ret
    exact ⟨rfl, Below.refl _ _⟩

theorem own : ownKnob Tryd.prog.godebug = none := by kernel_rfl
theorem acc_eq : Rows.laid_unicode_utf8_acceptRanges (H := Unit) = Lib.acceptData := by kernel_rfl
def u8ren : Go.Shelf.Ren := ⟨fun n => n, fun | 119 => 98 | 138 => 100 | 139 => 101 | n => n, fun n => n⟩
theorem u8types : U8Types Tryd.prog u8ren := ⟨Tryd.underlying5, Tryd.underlying98, Tryd.underlying100, Tryd.underlying101⟩
theorem u8extra : U8Extra Tryd.prog u8ren := ⟨by kernel_rfl, by kernel_rfl, by kernel_rfl, by kernel_rfl, by kernel_rfl, by kernel_rfl, by kernel_rfl⟩

set_option maxRecDepth 100000 in
set_option maxHeartbeats 1600000 in
theorem lifted (os : Os) (started : os.Started) (H : Type) (enc : TypeId × Value → H) :
    ReturnsInHanded {} Tryd.checked os 5 .any (fun w args => (Rows.propFormReencodeMatchesWHATWGSpec.pre enc Tryd.prog Tryd.f5 [] false w args ∧ laidMetH Tryd.prog Rows.propFormReencodeMatchesWHATWGRow.laid w) ∧ sizedMet enc Tryd.prog Tryd.f5 (OpenSpec.ofChange Rows.propFormReencodeMatchesWHATWGSpec) false w args)
      (Rows.propFormReencodeMatchesWHATWGSpec.post enc Tryd.prog Tryd.f5 false true false false) := by
  refine returnsInHanded_of_change_and (C := Tryd.checked) (X := fun w _ => laidMetH Tryd.prog Rows.propFormReencodeMatchesWHATWGRow.laid w) (fun _ _ _ hh h => h.of_heap hh) own started (by kernel_rfl) Tryd.func5
    (ChangeSpec.witness_shaped (enc := enc) (C := Tryd.checked) (os := os) (X := fun w _ => laidMetH Tryd.prog Rows.propFormReencodeMatchesWHATWGRow.laid w) false (World.laidAll Tryd.prog os Rows.propFormReencodeMatchesWHATWGRow.laid) #[.string ⟨#[]⟩] 8 (World.laidAll_os _ _ _)
      (World.shaped_of_ZipB (by kernel_rfl) (by kernel_rfl)) (by kernel_rfl) (by kernel_rfl) (by kernel_rfl)
      (by rw [MakeChecks.laidMetH_plain _ _ _ (by kernel_rfl)]; exact laidMet_laidAll _ (by kernel_rfl) (by kernel_rfl))) ?_
  intro W base args ds gs before hval0 hW _ _ hL _
  have hval : ∀ (j : Nat) t v, Tryd.f5.params[j]? = some t → args[j]? = some v → Value.okWide Tryd.prog W .any base t v := hval0
  have hW' := hW
  obtain ⟨p, q, hA0, hV, rfl, _, _⟩ := hW
  have hA : DataW.TrodAll enc Tryd.prog W 0 (fun _ => true) true Tryd.f5.params.toList args.toList ds p := hA0
  rw [Tryd.params5] at hA hval
  obtain ⟨v0, d0, rfl, rfl, h0⟩ := trodAll_one hA
  obtain ⟨rfl, rfl⟩ := trodVars_none hV
  obtain ⟨s, rfl, rfl, rfl, ws⟩ := open_string Tryd.underlying9 (hval 0 9 v0 rfl rfl) h0
  simp only [List.append_nil] at hW'
  rw [MakeChecks.laidMetH_plain _ _ _ (by kernel_rfl)] at hL
  have hT : Lib.Utf8Tabs 3 4 W := utf8Tabs_of_readsT u8types u8extra (Pinned.utf8First_eq ▸ Lib.laidMet.reads hL (.tail _ (.head _))) (acc_eq ▸ Lib.laidMet.reads hL (.head _))
  refine (law_any s W (by unfold maxLen at ws; exact ws) hT).mono fun e W' ⟨he, hb⟩ => ?_
  subst he
  exact ⟨_, rfl, _, _, _, [], [], [], hW', trodAll_mk1 (shut_bool Tryd.underlying4 _), trodAll_mk1 (shut_string Tryd.underlying9 ws), rfl, hb.frame _, fun h => by cases h⟩

theorem row_holds : Rows.PropFormReencodeMatchesWHATWGSaid :=
  OpenClaim.holds_of_wide 5 Tryd.f5 rfl rfl rfl rfl rfl rfl rfl ⟨rfl, rfl, rfl, rfl, rfl⟩ rfl rfl rfl rfl rfl (by kernel_rfl) Tryd.func5 (by kernel_rfl)
    (of_decide_eq_true (by kernel_rfl)) (by unfold Func.isWrapper; rw [if_neg (of_decide_eq_false (by kernel_rfl))]; exact ⟨rfl, rfl⟩)
    (fun os started H enc _ => lifted os started H enc)

theorem form_card : Rows.PropFormReencodeMatchesWHATWGCardSaid :=
  Claim7.holds_tied_plain_at .later [] [.data, .pinned] true _ _ row_holds (fun _ h => by cases h) (by kernel_rfl) (fun _ h => by cases h) propFormReencodeMatchesWHATWG_row_tie rfl ⟨rfl, rfl⟩ (by kernel_rfl) rfl
    (fun f fn hf hfn => by
      obtain rfl : f = 5 := Option.some.inj ((show Tryd.prog.funcNamed Rows.propFormReencodeMatchesWHATWGRow.func = some 5 by kernel_rfl).symm.trans hf) |>.symm
      obtain rfl : fn = Tryd.f5 := (Option.some.inj (Tryd.func5.symm.trans hfn)).symm
      exact ⟨by kernel_rfl, fun j t ht => by
        rw [Tryd.params5] at ht
        have hm : t ∈ [9] := by simpa using Array.mem_of_getElem? ht
        have hall : ([9].all fun u => !Tryd.prog.wantsStandIn u) = true := by kernel_rfl
        exact (show Tryd.prog.wantsStandIn t = false by simpa using List.all_eq_true.1 hall t hm)⟩)
    (by kernel_rfl)
#print axioms form_card
end Go.Proofs.Qxb6003899aDoor
