/-
  Seat b6615565aF: THE CARD of FnNameCharOpensLinuxUserUnlessDigitOrDash, told and tied.
-/
import Derived.Test.Qxb6615565aFmtFrame
import Derived.Test.Qxb6615565aFmtShelf
import Derived.Lib.LaidU8
import Derived.PinnedBridge
namespace Go.Proofs.Qxb6615565aFmt
open Go.ChangeShapes Go.WideShapes Go.ChangeAt Go.RowKit
open Go.Extern.Stop Go.Stop Go.Extern

theorem acc_eq : Rows.laid_unicode_utf8_acceptRanges (H := Unit) = Lib.acceptData := by kernel_rfl

set_option maxRecDepth 100000 in
set_option maxHeartbeats 1600000 in
theorem head_lifted (os : Os) (started : os.Started) (H : Type) (enc : TypeId × Value → H) :
    ReturnsInTold none {} Tryf.checked os 4 .any Input.okWide ((OpenSpec.ofChange Rows.fnNameCharOpensLinuxUserUnlessDigitOrDashSpec).preRow enc Tryf.prog Tryf.f4 [] false Rows.fnNameCharOpensLinuxUserUnlessDigitOrDashRow.laid)
      (fun F => ((OpenSpec.ofChange Rows.fnNameCharOpensLinuxUserUnlessDigitOrDashSpec).at F).post enc Tryf.prog Tryf.f4 false true false false) (aloneAtReturn Tryf.prog) nothingAlways := by
  refine returnsInTold_of_row (C := Tryf.checked) (s := OpenSpec.ofChange Rows.fnNameCharOpensLinuxUserUnlessDigitOrDashSpec) (by kernel_rfl) own started (by kernel_rfl) Tryf.func4
    (OpenSpec.witness_stopped_zip (enc := enc) (C := Tryf.checked) false (World.laidAll Tryf.prog os Rows.fnNameCharOpensLinuxUserUnlessDigitOrDashRow.laid) #[.int .i32 0] (World.laidAll_os _ _ _)
      (fun _ => World.shaped_of_ZipB (by kernel_rfl) (by kernel_rfl)) (by kernel_rfl)
      (OpenSpec.preRow_of_B rfl 8 (by kernel_rfl) (by kernel_rfl) (by rw [MakeChecks.laidMetH_plain _ _ _ (by kernel_rfl)]; exact laidMet_laidAll _ (by kernel_rfl) (by kernel_rfl)))) ?_
  intro F W base args ds gs before _ hF hval0 hW _ _ _ hL _
  have hval : ∀ (j : Nat) t v, Tryf.f4.params[j]? = some t → args[j]? = some v → Value.okWide Tryf.prog W .any base t v := hval0
  have hW' := hW
  obtain ⟨p, q, hA0, hV, rfl, _, _⟩ := hW
  have hA : DataW.TrodAll enc Tryf.prog W 0 (fun _ => true) true Tryf.f4.params.toList args.toList ds p := hA0
  rw [Tryf.params4] at hA hval
  obtain ⟨v0, d0, rfl, rfl, h0⟩ := trodAll_one hA
  obtain ⟨rfl, rfl⟩ := trodVars_none hV
  obtain ⟨x, rfl, rfl, rfl, wx⟩ := open_int Tryf.underlying21 (hval 0 21 v0 rfl rfl) h0
  simp only [List.append_nil] at hW'
  have hx : -2147483648 ≤ x ∧ x ≤ 2147483647 := by simpa [Lit.wf, IntKind.min, IntKind.max, IntKind.signed, IntKind.bits] using wx
  rw [MakeChecks.laidMetH_plain _ _ _ (by kernel_rfl)] at hL
  have hT : Lib.Utf8Tabs 0 1 W :=
    utf8Tabs_of_reads (ρ := Tryf.lays197_ren) { Tryf.lays197 with } ⟨by kernel_rfl, by kernel_rfl, by kernel_rfl, by kernel_rfl, by kernel_rfl, by kernel_rfl, by kernel_rfl⟩
      (Pinned.utf8First_eq ▸ Lib.laidMet.reads hL (.tail _ (.head _))) (acc_eq ▸ Lib.laidMet.reads hL (.head _))
  have hD := Tryf.utf8_DecodeRuneInString (Utf8.encode x ++ (⟨#[97]⟩ : ByteArray)) W hT
  have hgo : Lib.decodeGo (Utf8.encode x ++ (⟨#[97]⟩ : ByteArray)) = Utf8.decode (Utf8.encode x ++ (⟨#[97]⟩ : ByteArray)) 0 := by
    unfold Lib.decodeGo
    rw [if_neg]
    rw [ByteArray.size_append]
    show ¬ _ + 1 = 0
    omega
  rw [hgo] at hD
  refine (head_law F.told x W hF hx.1 hx.2 hD).mono fun e W' ⟨he, hb⟩ => ?_
  subst he
  exact ⟨_, rfl, _, _, _, [], [], [], hW', trodAll_mk1 (shut_bool Tryf.underlying4 _), trodAll_mk1 (shut_int Tryf.underlying21 wx), rfl, hb.frame _, fun h => by cases h⟩

theorem head_card : Rows.FnNameCharOpensLinuxUserUnlessDigitOrDashToldSaid :=
  Claim7.holds_of_told_tied_any_at .later 4 Tryf.f4 "fmt.errorf" [] [] _ _ _ _ _ (by kernel_rfl) rfl rfl rfl laidOut (by kernel_rfl) rfl ⟨rfl, rfl, rfl, rfl, rfl, rfl, rfl⟩ rfl rfl (by kernel_rfl) (by kernel_rfl) Tryf.func4 (by kernel_rfl)
    (of_decide_eq_true (by kernel_rfl)) (of_decide_eq_true (by kernel_rfl)) stops0.symm rfl stopKnobs0.symm (by kernel_rfl)
    (by kernel_rfl) (by kernel_rfl) (by kernel_rfl) (by kernel_rfl) (by kernel_rfl) (by kernel_rfl) (by kernel_rfl) (by kernel_rfl) (by kernel_rfl) rfl (by kernel_rfl) rfl rfl
    rfl rfl
    rfl (by kernel_rfl) (by kernel_rfl) (by kernel_rfl) (by decide) (by kernel_rfl) fnNameCharOpensLinuxUserUnlessDigitOrDash_row_tie
    (OpenClaim.moreEntering_of (by kernel_rfl) (by kernel_rfl) (by kernel_rfl) (by kernel_rfl) (by kernel_rfl) (by kernel_rfl) (by kernel_rfl) (by kernel_rfl) (by kernel_rfl) (by kernel_rfl))
    ⟨_, WideRow.started_initial, quiet0 _⟩
    (fun os started _ H enc _ => head_lifted os started H enc)

#print axioms head_card
end Go.Proofs.Qxb6615565aFmt
