/-
  Seat b6605488aD: THE CARD of FnInsertNotesMatchesModel, tied.
-/
import Derived.Test.Qxb6605488aDoorLawA
import Derived.Test.Qxb6605488aDoorRows
import Derived.Test.Qxb6605488aDoorTie
import Derived.Test.Qxb6605488aDoorCards
import Derived.ProofKit
import Derived.SevenTiedAt
import Derived.Lay
import Derived.Shelf.Vars
import Derived.Lib.LaidU8T
set_option linter.unusedSimpArgs false
set_option linter.unusedVariables false
namespace Go.Proofs.Qxb6605488aDoor
open Go.ChangeShapes Go.WideShapes Go.ChangeAt Go.RowKit
open Go.ChangeMaps (open_string shut_string)

theorem own : ownKnob Tryd.prog.godebug = none := by kernel_rfl
theorem laidOut : laidOutB Tryd.prog = true := by kernel_rfl
theorem cells5 : Tryd.prog.cellsOf 5 = 1 := by kernel_rfl
/-- What the world's shape says of the one cell that strings.Split reads. -/
theorem maxCell (w : World) (h : w.ShapedOpen Tryd.prog) : ∃ m, w.cell? ⟨0, 0, none⟩ = some (.int .i64 m) :=
  cell_of_shapedOpen_int (P := Tryd.prog) (g := 0) (t := 3) (zero := #[.int .i64 0]) h (of_decide_eq_true (by kernel_rfl)) (by kernel_rfl) rfl (by kernel_rfl) (by kernel_rfl) Tryd.underlying3

/-- The old text, as it came in. -/
theorem open_old {H : Type} {enc : TypeId × Value → H} {W : World} {base : Nat} {v0 : Value} {d0 : DataW H} {p : List MemPlace} (hv : Value.okWide Tryd.prog W .any base 22 v0) (h : DataW.Trod enc Tryd.prog W 0 (fun _ => true) true 22 v0 d0 p) :
    ∃ (a : Option Addr) (k cap : Nat) (t : List UInt8), v0 = .slice a k cap ∧ Given W (.slice a k cap) t ∧ k = t.length ∧ k ≤ 9223372036854775807 := by
  obtain ⟨a0, len, cap, rfl⟩ := okWide_slice Tryd.underlying22 hv
  obtain ⟨fuel, hf⟩ := h
  rcases open_ints Tryd.underlying22 Tryd.underlying5 cells5 hf with ⟨hcs, hx⟩ | ⟨a, len', cap', zs, hcs, _, hl, hm, hz, hx, hcell, hwz⟩
  · simp [Value.cells] at hcs
    obtain ⟨rfl, rfl, rfl⟩ := hcs
    exact ⟨none, 0, 0, [], rfl, Or.inl ⟨rfl, rfl⟩, rfl, by omega⟩
  · simp [Value.cells] at hcs
    obtain ⟨rfl, rfl, rfl⟩ := hcs
    simp only [if_true] at hz
    have hlen : ((zs.take len).map (fun z : Int => UInt8.ofNat z.toNat)).length = len := by simp; omega
    refine ⟨some a, len, cap, (zs.take len).map (fun z : Int => UInt8.ofNat z.toNat), rfl, Or.inr ⟨a, cap, by rw [hlen], by rw [hlen]; exact hl, hm, fun j hj => ?_⟩, hlen.symm, by unfold maxLen at hm; omega⟩
    rw [hlen] at hj
    have hjz : j < zs.length := by omega
    rw [hcell j hjz]
    have hb := hwz zs[j] (List.getElem_mem hjz)
    have e1 : IntKind.u8.min = 0 := rfl
    have e2 : IntKind.u8.max = 255 := rfl
    have hb2 : 0 ≤ zs[j] ∧ zs[j] ≤ 255 := by simpa [Lit.wf, e1, e2] using hb
    rw [List.getD_eq_getElem?_getD, List.getElem?_eq_getElem hjz, List.getElem_map, List.getElem_take]
    have e3 : (UInt8.ofNat (zs[j]).toNat).toNat = (zs[j]).toNat := by rw [UInt8.toNat_ofNat']; omega
    rw [e3, Option.getD_some, Int.toNat_of_nonneg hb2.1]

/-- The wrap: variables that are laid, and the world's shape, handed on. -/
theorem wrap {H : Type} {enc : TypeId × Value → H} {os : Os} {f : FuncId} {fn : Func} {s : ChangeSpec} {X : World → Prop}
    (hX : ∀ w w' : World, w.heap = w'.heap → X w → X w') (started : os.Started) (noInit : Tryd.checked.prog.inits.idxOf? f = none) (hfn : Tryd.checked.prog.funcs[f]? = some fn)
    (witness : ∃ (w : World) (tape : Tape) (i : Input), w.os = os ∧ (w.forCall tape i).Shaped Tryd.checked.prog ∧ i.vars = [] ∧ Input.okWide Tryd.checked.prog (w.forCall tape i) .any w.heap.size f i ∧
      ((s.pre enc Tryd.checked.prog fn [] false (w.forCall tape i).memory i.args ∧ X (w.forCall tape i).memory) ∧ sizedMet enc Tryd.checked.prog fn (OpenSpec.ofChange s) false (w.forCall tape i).memory i.args) ∧ ({} : Assume).holds Tryd.checked.prog (lone (Frame.enter Tryd.checked.prog f i.args .normal) [] (w.forCall tape i)))
    (contract : ∀ (W : World) (base : Nat) (args : Array Value) (ds gs : List (DataW H)) (before : List MemPlace),
      (∀ (j : Nat) t v, fn.params[j]? = some t → args[j]? = some v → Value.okWide Tryd.checked.prog W .any base t v) →
      DataW.Whole enc Tryd.checked.prog fn.params.toList s.vars false W args.toList ds gs before → W.ShapedOpen Tryd.checked.prog →
      Calls Tryd.checked.prog f args W fun e W' => ∃ v, e = .returned v ∧ s.post enc Tryd.checked.prog fn false true false false W args v W') :
    ReturnsInHanded {} Tryd.checked os f .any (fun w args => (s.pre enc Tryd.checked.prog fn [] false w args ∧ X w) ∧ sizedMet enc Tryd.checked.prog fn (OpenSpec.ofChange s) false w args) (s.post enc Tryd.checked.prog fn false true false false) := by
  refine returnsInHanded_of_calls own started noInit witness ?_
  intro w tape i _ hsh _ hok hpre _
  obtain ⟨_, _, _, fn', hfn', _, _, _, _, hval⟩ := hok
  obtain rfl : fn' = fn := Option.some.inj (hfn'.symm.trans hfn)
  obtain ⟨⟨⟨ds, gs, before, hw, _⟩, _⟩, _⟩ := hpre
  refine (contract (w.forCall tape i) w.heap.size i.args ds gs before hval (DataW.Whole.of_heap (w' := w.forCall tape i) (by rfl) hw) hsh).mono fun e W' ⟨v, he, hp⟩ => ?_
  subst he
  exact ChangeSpec.post_blind hp

set_option maxRecDepth 100000 in
set_option maxHeartbeats 1600000 in
theorem liftedA (os : Os) (started : os.Started) (H : Type) (enc : TypeId × Value → H) :
    ReturnsInHanded {} Tryd.checked os 3 .any (fun w args => (Rows.fnInsertNotesMatchesModelSpec.pre enc Tryd.prog Tryd.f3 [] false w args ∧ laidMetH Tryd.prog Rows.fnInsertNotesMatchesModelRow.laid w) ∧ sizedMet enc Tryd.prog Tryd.f3 (OpenSpec.ofChange Rows.fnInsertNotesMatchesModelSpec) false w args)
      (Rows.fnInsertNotesMatchesModelSpec.post enc Tryd.prog Tryd.f3 false true false false) := by
  refine wrap (s := Rows.fnInsertNotesMatchesModelSpec) (X := fun w => laidMetH Tryd.prog Rows.fnInsertNotesMatchesModelRow.laid w) (fun _ _ hh h => h.of_heap hh) started (by kernel_rfl) Tryd.func3
    (ChangeSpec.witness_shaped (enc := enc) (C := Tryd.checked) (os := os) (X := fun w _ => laidMetH Tryd.prog Rows.fnInsertNotesMatchesModelRow.laid w) false (World.laidAll Tryd.prog os Rows.fnInsertNotesMatchesModelRow.laid) #[.slice none 0 0, .bool false, .string ⟨#[]⟩] 8 (World.laidAll_os _ _ _)
      (World.shaped_of_ZipB (by kernel_rfl) (by kernel_rfl)) (by kernel_rfl) (by kernel_rfl) (by kernel_rfl)
      (by rw [MakeChecks.laidMetH_plain _ _ _ (by kernel_rfl)]; exact laidMet_laidAll _ (by kernel_rfl) (by kernel_rfl))) ?_
  intro W base args ds gs before hval0 hW hsh
  have hval : ∀ (j : Nat) t v, Tryd.f3.params[j]? = some t → args[j]? = some v → Value.okWide Tryd.prog W .any base t v := hval0
  have hW' := hW
  obtain ⟨p, q, hA0, hV, rfl, _, _⟩ := hW
  have hA : DataW.TrodAll enc Tryd.prog W 0 (fun _ => true) true Tryd.f3.params.toList args.toList ds p := hA0
  rw [Tryd.params3] at hA hval
  obtain ⟨v0, v1, v2, d0, d1, d2, p0, p1, p2, rfl, rfl, rfl, h0, h1, h2⟩ := trodAll_three hA
  obtain ⟨rfl, rfl⟩ := trodVars_none hV
  obtain ⟨ex, rfl, rfl, rfl⟩ := open_bool Tryd.underlying4 (hval 1 4 v1 rfl rfl) h1
  obtain ⟨n, rfl, rfl, rfl, ws⟩ := open_string Tryd.underlying9 (hval 2 9 v2 rfl rfl) h2
  obtain ⟨a, k, cap, t, rfl, hg, hk, hkm⟩ := open_old (hval 0 22 v0 rfl rfl) h0
  clear hA0 hval0
  simp only [List.append_nil] at hW'
  have hlt : ∀ x ∈ p0, x.block < W.heap.size := fun x hx => by simpa using hW'.lt x (by simpa using hx)
  obtain ⟨m, hm⟩ := maxCell W hsh
  refine (lawA a k cap t ex n m W hg hk hkm (by unfold maxLen at ws; exact ws) hm (World.block_lt_of_cell? _ _ hm)).mono fun e W' ⟨he, hb⟩ => ?_
  subst he
  refine ⟨_, rfl, _, _, _, [], _, [], hW', trodAll_mk1 (shut_bool Tryd.underlying4 _), trodAll_mk3 (Below.trod laidOut (by kernel_rfl) (of_decide_eq_true (by kernel_rfl)) h0 hb hlt) (shut_bool Tryd.underlying4 _) (shut_string Tryd.underlying9 ws), rfl, hb.frame _, fun h => by cases h⟩

theorem rowA_holds : Rows.FnInsertNotesMatchesModelSaid :=
  OpenClaim.holds_of_wide 3 Tryd.f3 rfl rfl rfl rfl rfl rfl rfl ⟨rfl, rfl, rfl, rfl, rfl⟩ rfl rfl rfl rfl rfl (by kernel_rfl) Tryd.func3 (by kernel_rfl)
    (of_decide_eq_true (by kernel_rfl)) (by unfold Func.isWrapper; rw [if_neg (of_decide_eq_false (by kernel_rfl))]; exact ⟨rfl, rfl⟩)
    (fun os started H enc _ => liftedA os started H enc)

theorem model_card : Rows.FnInsertNotesMatchesModelCardSaid :=
  Claim7.holds_tied_plain_at .later [] [.data, .pinned] true _ _ rowA_holds (fun _ h => by cases h) (by kernel_rfl) (fun _ h => by cases h) fnInsertNotesMatchesModel_row_tie rfl ⟨rfl, rfl⟩ (by kernel_rfl) rfl
    (fun f fn hf hfn => by
      obtain rfl : f = 3 := Option.some.inj ((show Tryd.prog.funcNamed Rows.fnInsertNotesMatchesModelRow.func = some 3 by kernel_rfl).symm.trans hf) |>.symm
      obtain rfl : fn = Tryd.f3 := (Option.some.inj (Tryd.func3.symm.trans hfn)).symm
      exact ⟨by kernel_rfl, fun j t ht => by
        rw [Tryd.params3] at ht
        have hm : t ∈ [22, 4, 9] := by simpa using Array.mem_of_getElem? ht
        have hall : ([22, 4, 9].all fun u => !Tryd.prog.wantsStandIn u) = true := by kernel_rfl
        exact (show Tryd.prog.wantsStandIn t = false by simpa using List.all_eq_true.1 hall t hm)⟩)
    (by kernel_rfl)
#print axioms model_card
end Go.Proofs.Qxb6605488aDoor
