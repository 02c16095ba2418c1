/-
  Seat b6003899aD: zzEmitByte, zzEmitReplacement.
-/
import Derived.Test.Qxb6003899aDoorPush
import Derived.Deep.RegionHeld3
import Derived.Deep.AppendLies
namespace Go.Proofs.Qxb6003899aDoor
open Go.RowKit

/-- The cells to be appended, out of a block that has just been laid. -/
theorem cells_new (w : World) (cs : List Value) (T : TypeId) (n : Nat) (hn : w.heap.size = n) : ∀ j u, cs[j]? = some u → (w.alloc (.cells cs.toArray T)).cell? ((⟨n, 0, none⟩ : Addr).add j) = some u := by
  subst hn
  exact fun j u hu => World.news_of_block (cs := cs.toArray) (t := T) (fr := (0, 0)) (heap_alloc_new w _) j u (by simpa using hu)
theorem one_bytes (l : List UInt8) : ∀ u ∈ Lib.byteCells l, u.oneCell' = true := by
  intro u hu
  simp only [Lib.byteCells, List.mem_map] at hu
  obtain ⟨b, _, rfl⟩ := hu
  rfl

set_option maxRecDepth 100000 in
set_option maxHeartbeats 1000000 in
theorem repl_any (B : Nat) (v : Value) (acc : List UInt8) (w : World) (hown : w.ownsRow B 5 1 v acc.length (Lib.byteCells acc)) (hB : B ≤ w.heap.size) (hlen : acc.length ≤ 100000000) :
    Calls Tryd.prog 38 #[v] w fun e w' => ∃ v', e = .returned v' ∧ w'.ownsRow B 5 1 v' (acc ++ replU).length (Lib.byteCells (acc ++ replU)) ∧ Below B w w' := by
  obtain ⟨i0, hi, hz0, hz1, hz2⟩ := info_parts info5
  go_enter Tryd.func38, Tryd.ntmps38
  go_wp2_with (at_builtin; refine wpList_append_own _ rfl (.tmp 3) (.tmp 4) 24 rfl B 5 i0 (.int .u8 0) 1 1 Tryd.underlying24 hi hz0 hz1 hz2 rfl (by decide) _ _ _ rfl (hown.alloc _) ⟨w.heap.size, 0, none⟩ 9 9 (Lib.byteCells replU) rfl rfl (cells_new _ (Lib.byteCells replU) 5 _ rfl) (one_bytes _) (by unfold maxLen; omega) (by omega) (by simp; omega) ?_; intro v' w2 hown' hgrow _)
  go_ret
  obtain ⟨r1, r2, _⟩ := push_rel (B := B) (w := w) (news := replU) hB (Below.refl _ _) hown hown' hgrow (by simp [replU])
  exact ⟨v', rfl, r1, r2⟩

theorem and_fin : ∀ n : Fin 256, bits BinOp.and IntKind.u8 (n.val : Int) 15 = ((n.val % 16 : Nat) : Int) := by decide +kernel
theorem and_any (n : Nat) (h : n < 2 ^ 8) : bits BinOp.and IntKind.u8 (n : Int) 15 = ((n % 16 : Nat) : Int) := and_fin ⟨n, h⟩

set_option maxRecDepth 100000 in
set_option maxHeartbeats 1000000 in
theorem emit_any (B : Nat) (v : Value) (acc : List UInt8) (c : UInt8) (w : World) (hown : w.ownsRow B 5 1 v acc.length (Lib.byteCells acc)) (hB : B ≤ w.heap.size) (hlen : acc.length ≤ 100000000) :
    Calls Tryd.prog 37 #[v, .int .u8 c.toNat] w fun e w' => ∃ v', e = .returned v' ∧ w'.ownsRow B 5 1 v' (acc ++ emitU c).length (Lib.byteCells (acc ++ emitU c)) ∧ Below B w w' := by
  obtain ⟨i0, hi, hz0, hz1, hz2⟩ := info_parts info5
  have hcb := c.toNat_lt
  cases hsf : safeB (c.toNat : Int) with
  | true =>
    have HE : Hid (emitU c = [c]) := by show _ = _; simp [emitU, hsf]
    go_enter Tryd.func37, Tryd.ntmps37
    go_wp2_with (first | (go_at_call 27; refine (safe_any _ _).mono ?_; rintro e w' ⟨rfl, hw⟩; subst w') | (at_builtin; refine wpList_append_own _ rfl (.tmp 7) (.tmp 9) 24 rfl B 5 i0 (.int .u8 0) 1 1 Tryd.underlying24 hi hz0 hz1 hz2 rfl (by decide) _ _ _ rfl (hown.alloc _) ⟨w.heap.size, 0, none⟩ 1 1 [.int .u8 c.toNat] rfl rfl (cells_one _ _ _) (one_cell _) (by unfold maxLen; omega) (by omega) (by simp; omega) ?_; intro v' w2 hown' hgrow _))
    go_ret
    obtain ⟨r1, r2, _⟩ := push_rel (B := B) (w := w) (news := [c]) hB (Below.refl _ _) hown hown' hgrow (by simp)
    rw [HE.out]
    exact ⟨v', rfl, r1, r2⟩
  | false =>
    have HE : Hid (emitU c = [37, hexD (c.toNat / 16), hexD (c.toNat % 16)]) := by show _ = _; simp [emitU, hsf]
    obtain ⟨q, hq⟩ : ∃ q, c.toNat / 16 = q := ⟨_, rfl⟩
    obtain ⟨r, hr⟩ : ∃ r, c.toNat % 16 = r := ⟨_, rfl⟩
    have hq16 : (q : Int) < 16 := by omega
    have hr16 : (r : Int) < 16 := by omega
    have hqe : ((c.toNat : Int) / 16) = (q : Int) := by omega
    have hre : bits BinOp.and IntKind.u8 (c.toNat : Int) 15 = (r : Int) := by rw [and_any c.toNat hcb, hr]
    rw [hq, hr] at HE
    clear hq hr
    have HX1 := hex_at q (by show q < 16; omega)
    have HX2 := hex_at r (by show r < 16; omega)
    have hownd : w.drew.ownsRow B 5 1 v acc.length (Lib.byteCells acc) := hown
    go_enter Tryd.func37, Tryd.ntmps37
    go_wp2_with (first | (go_at_call 27; refine (safe_any _ _).mono ?_; rintro e w' ⟨rfl, hw⟩; subst w'))
    go_region_held3 (fun _ => True) (trivial)
      (first | (refine step_append_lies _ rfl (.tmp 11) (.tmp 18) 24 rfl B 5 i0 (.int .u8 0) 1 1 Tryd.underlying24 hi hz0 hz1 hz2 rfl (by decide) v acc.length (Lib.byteCells acc) rfl (hownd.alloc _) ⟨w.heap.size, 0, none⟩ 3 3 (Lib.byteCells [37, hexD q, hexD r]) rfl rfl (cells_new _ (Lib.byteCells [37, hexD q, hexD r]) 5 _ rfl) (one_bytes _) (by omega) (by unfold maxLen; omega) (by omega) (by simp; omega) _ rfl ?_; intro g' cap' w2 hown' hgrow _ _))
    all_goals
      obtain ⟨r1, r2, _⟩ := push_rel (B := B) (w := w.drew) (news := [37, hexD q, hexD r]) hB (Below.refl _ _) hownd hown' hgrow (by simp)
      clear hown' hgrow
      go_wp2
      go_ret
      rw [HE.out]
      exact ⟨_, rfl, r1, (Below.refl B w).drew.trans r2⟩
end Go.Proofs.Qxb6003899aDoor
