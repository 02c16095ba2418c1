/-
  Seat b6003899aD: zzWhatwgReencode.
-/
import Derived.Test.Qxb6003899aDoorConv
import Derived.Deep.QuietTactic
import Derived.BigQuiet
namespace Go.Proofs.Qxb6003899aDoor
open Go.RowKit

set_option maxRecDepth 100000 in
set_option maxHeartbeats 1000000 in
theorem zz_any (s : ByteArray) (w : World) (hs : s.size ≤ 1048576) :
    Calls Tryd.prog 25 #[.string s] w fun e w' => e = .returned (.string ⟨(reenc s.data.toList).toArray⟩) ∧ Below w.heap.size w w' := by
  obtain ⟨i0, hi, hz0, hz1, hz2⟩ := info_parts info5
  obtain ⟨cp, w1, hcv, hcp, hz1', hb1, hc1, hf1⟩ := conv_fresh s w
  have hl : s.data.toList.length = s.size := (Lib.size_eq s).symm
  have hM1 : Mixed w1 w.heap.size s.size s.data.toList 0 := ⟨fun j hj => by rw [mix_zero]; exact hc1 j hj, hf1⟩
  clear hc1 hf1
  go_enter Tryd.func25, Tryd.ntmps25
  go_wp2
  clear hcv
  go_loopw [4] (fun ti wr => ∃ i : Nat, i ≤ s.size ∧ ti = .int .i64 i ∧ Mixed wr w.heap.size s.size s.data.toList i ∧ Below w.heap.size w wr ∧ wr.heap.size = w.heap.size + 1) (fun ti _ => s.size - (intOf ti).toNat)
  case atStart => exact ⟨0, Nat.zero_le _, rfl, hM1, hb1, hz1'⟩
  case round =>
    obtain ⟨i, hile, rfl, hM, hb, hz⟩ := hrel
    by_cases hlt : i < s.size
    · have hci := hM.1 i hlt
      have hfi := hM.2 i hlt
      rw [mix_at] at hci
      by_cases hx : s.data.toList.getD i 0 = 43
      · rw [hx] at hci
        have hci' : wr.cell? ⟨w.heap.size, i, none⟩ = some (.int .u8 43) := hci
        have hM' := mixed_put hM hx
        clear hci hM
        go_wp2
        go_roundw
        case rel => exact ⟨i + 1, by omega, by go_num, hM', hb.setCell (Nat.le_refl _) _, by simp [World.setCell]; exact hz⟩
        case measure => simp [intOf]; omega
      · obtain ⟨x, hxd⟩ : ∃ x, s.data.toList.getD i 0 = x := ⟨_, rfl⟩
        have hM' := mixed_same hM hx
        rw [hxd] at hci hx
        have hxb := x.toNat_lt
        have hx43 : ((x.toNat : Int) == 43) = false := by
          have : x.toNat ≠ 43 := fun e => hx (UInt8.toNat_inj.1 e)
          simp
          omega
        clear hM hxd hfi
        go_wp2
        go_roundw
        case rel => exact ⟨i + 1, by omega, by go_num, hM', hb, hz⟩
        case measure => simp [intOf]; omega
    · have hie : i = s.size := by omega
      subst hie
      obtain ⟨wm, rfl⟩ : ∃ wm, wm = wr := ⟨_, rfl⟩
      have hC : ∀ j, j < s.size → wm.cell? ⟨w.heap.size, j, none⟩ = some (.int .u8 ((plusU (s.data.toList.getD j 0)).toNat : Int)) := fun j hj => by
        have h := hM.1 j hj
        rw [mix_all _ _ _ hj] at h
        exact h
      clear hM hile
      go_wp2
      go_loopw [5, 6] (fun tv ti wr => ∃ (i f : Nat) (acc : List UInt8) (v : Value), v = tv ∧ i ≤ s.size ∧ ti = .int .i64 i ∧ wr.ownsRow wm.heap.size 5 1 v acc.length (Lib.byteCells acc) ∧ acc.length ≤ i ∧ s.size ≤ i + f ∧
          Hid (acc ++ dec f (s.data.toList.drop i) = dec s.size s.data.toList) ∧ Below wm.heap.size wm wr) (fun _ ti _ => s.size - (intOf ti).toNat)
      case atStart => exact ⟨0, s.size, [], _, rfl, Nat.zero_le _, rfl, World.ownsRow_nil _ _ _ _, Nat.le_refl _, by omega, rfl, Below.refl _ _⟩
      case round =>
        obtain ⟨i, f, acc, v, rfl, hile, rfl, hown, hacc, hf, HR, hbq⟩ := hrel
        obtain ⟨wq, rfl⟩ : ∃ wq, wq = wr := ⟨_, rfl⟩
        have hsq := hbq.size
        have hCq : ∀ j, j < s.size → wq.cell? ⟨w.heap.size, j, none⟩ = some (.int .u8 ((plusU (s.data.toList.getD j 0)).toNat : Int)) := fun j hj => by
          rw [hbq.cell (p := ⟨w.heap.size, j, none⟩) (by show w.heap.size < wm.heap.size; omega)]
          exact hC j hj
        by_cases hlt : i < s.size
        · obtain ⟨f, rfl⟩ : ∃ f', f = f' + 1 := ⟨f - 1, by omega⟩
          obtain ⟨x, hxd⟩ : ∃ x, s.data.toList.getD i 0 = x := ⟨_, rfl⟩
          have hci := hCq i hlt
          rw [hxd] at hci
          have HX : Hid (s.data.toList.getD i 0 = x) := hxd
          clear hxd
          have hxb := x.toNat_lt
          by_cases h43 : x = 43
          · subst h43
            have HR' : Hid ((acc ++ [32]) ++ dec f (s.data.toList.drop (i + 1)) = dec s.size s.data.toList) := dec_round_plus _ _ _ _ _ (by omega) HX.out HR.out
            have hci' : wq.cell? ⟨w.heap.size, i, none⟩ = some (.int .u8 32) := hci
            clear HR hci hCq
            go_wp2_with (at_builtin; refine wpList_append_own _ rfl (.tmp 83) (.tmp 85) 24 rfl wm.heap.size 5 i0 (.int .u8 0) 1 1 Tryd.underlying24 hi hz0 hz1 hz2 rfl (by decide) _ _ _ rfl (hown.alloc _) ⟨wq.heap.size, 0, none⟩ 1 1 [.int .u8 32] rfl rfl (cells_one _ _ _) (one_cell _) (by unfold maxLen; omega) (by omega) (by simp; omega) ?_; intro v' w2 hown' hgrow _)
            obtain ⟨r1, r2, _⟩ := push_rel (news := [32]) (Nat.le_refl _) hbq hown hown' hgrow (by simp)
            clear hown' hgrow
            go_roundw
            case rel => exact ⟨i + 1, f, acc ++ [32], _, rfl, by omega, by go_num, r1, by simp; omega, by omega, HR', r2⟩
            case measure => simp [intOf]; omega
          · rw [plus_ne x h43] at hci
            by_cases h37 : x = 37
            · subst h37
              have hci' : wq.cell? ⟨w.heap.size, i, none⟩ = some (.int .u8 37) := hci
              clear hci
              by_cases h2 : i + 2 < s.size
              · obtain ⟨y, hyd⟩ : ∃ y, s.data.toList.getD (i + 1) 0 = y := ⟨_, rfl⟩
                obtain ⟨z, hzd⟩ : ∃ z, s.data.toList.getD (i + 2) 0 = z := ⟨_, rfl⟩
                have hcy := hCq (i + 1) (by omega)
                have hcz := hCq (i + 2) h2
                rw [hyd] at hcy
                rw [hzd] at hcz
                have HY : Hid (s.data.toList.getD (i + 1) 0 = y) := hyd
                have HZ : Hid (s.data.toList.getD (i + 2) 0 = z) := hzd
                clear hyd hzd hCq
                cases hhy : hexB (y.toNat : Int) with
                | true =>
                  rw [plus_of_hex y hhy] at hcy
                  cases hhz : hexB (z.toNat : Int) with
                  | true =>
                    rw [plus_of_hex z hhz] at hcz
                    have hvy := hexV_bd _ hhy
                    have hvz := hexV_bd _ hhz
                    obtain ⟨p, hp⟩ : ∃ p, UInt8.ofNat (hexV (y.toNat : Int) * 16 + hexV (z.toNat : Int)).toNat = p := ⟨_, rfl⟩
                    have hpv := pair_toNat _ _ hvy hvz
                    rw [hp] at hpv
                    have hbits : bits BinOp.or IntKind.u8 (hexV (y.toNat : Int) * 16) (hexV (z.toNat : Int)) = (p.toNat : Int) := by rw [or_any _ _ hvy hvz, hpv]
                    have HR' : Hid ((acc ++ [p]) ++ dec f (s.data.toList.drop (i + 3)) = dec s.size s.data.toList) := by
                      have h := dec_round_pair _ _ _ _ _ (by omega) HX.out (by rw [HY.out]; exact hhy) (by rw [HZ.out]; exact hhz) HR.out
                      rw [HY.out, HZ.out, hp] at h
                      exact h
                    clear HR hp hpv
                    have hownd : wq.drew.ownsRow wm.heap.size 5 1 v acc.length (Lib.byteCells acc) := hown
                    have hbd : Below wm.heap.size wm wq.drew := hbq.drew
                    go_wp2_with (go_at_call 34; refine (zzHex_any _ _).mono ?_; rintro e w' ⟨rfl, hw⟩; subst w')
                    have hneP : (some w.heap.size : Option Nat) ≠ v.ownBlock := fun h => by have := (hown.lt _ h.symm).1; omega
                    have hcyA : ∀ o, (wq.drew.alloc o).cell? ⟨w.heap.size, i + 1, none⟩ = some (.int .u8 (y.toNat : Int)) := fun o => by
                      rw [World.cell?_alloc_lt _ _ _ (by show w.heap.size < wq.heap.size; omega)]; exact hcy
                    have hczA : ∀ o, (wq.drew.alloc o).cell? ⟨w.heap.size, i + 2, none⟩ = some (.int .u8 (z.toNat : Int)) := fun o => by
                      rw [World.cell?_alloc_lt _ _ _ (by show w.heap.size < wq.heap.size; omega)]; exact hcz
                    have b0 : IntKind.u8.wrap (hexV (y.toNat : Int) * 16) = hexV (y.toNat : Int) * 16 := wrap_u8 _ (by omega) (by omega)
                    have b1 : (i : Int) + 1 < (s.size : Int) := by omega
                    have b2 : (i : Int) + 2 < (s.size : Int) := by omega
                    have b3 : IntKind.i64.wrap ((i : Int) + 1) = (i : Int) + 1 := wrap_small _ (by omega) (by omega)
                    have b4 : IntKind.i64.wrap ((i : Int) + 2) = (i : Int) + 2 := wrap_small _ (by omega) (by omega)
                    have b5 : (0 : Int) ≤ (i : Int) + 1 := by omega
                    have b6 : (0 : Int) ≤ (i : Int) + 2 := by omega
                    have b7 : ((i : Int) + 1).toNat = i + 1 := by omega
                    have b8 : ((i : Int) + 2).toNat = i + 2 := by omega
                    go_region_held3 (fun w' => w'.cell? ⟨w.heap.size, i + 1, none⟩ = some (.int .u8 (y.toNat : Int)) ∧ w'.cell? ⟨w.heap.size, i + 2, none⟩ = some (.int .u8 (z.toNat : Int))) (go_keep)
                      (first | (refine step_append_lies _ rfl (.tmp 64) (.tmp 79) 24 rfl wm.heap.size 5 i0 (.int .u8 0) 1 1 Tryd.underlying24 hi hz0 hz1 hz2 rfl (by decide) v acc.length (Lib.byteCells acc) rfl (hownd.alloc _) ⟨wq.heap.size, 0, none⟩ 1 1 [.int .u8 p.toNat] rfl rfl (cells_new _ [.int .u8 p.toNat] 5 _ rfl) (one_cell _) (by omega) (by unfold maxLen; omega) (by omega) (by simp; omega) _ rfl ?_; intro g' cap' w2 hown' hgrow _ _; have hk1 := hgrow.cell (hcyA _) hneP; have hk2 := hgrow.cell (hczA _) hneP) | (go_at_call 35; refine (zzHexV_any _ _ (by assumption)).mono ?_; rintro e w' ⟨rfl, hw⟩; subst w'))
                    all_goals
                      obtain ⟨r1, r2, _⟩ := push_rel (wr := wq.drew) (o := .cells #[.int .u8 (p.toNat : Int)] 5) (news := [p]) (Nat.le_refl _) hbd hownd hown' hgrow (by simp)
                      clear hown' hgrow hk1 hk2 hcyA hczA
                      go_wp2
                      go_roundw
                      case rel => exact ⟨i + 3, f, acc ++ [p], _, rfl, by omega, by go_num, by simpa using r1, by simp; omega, by omega, HR', r2⟩
                      case measure => simp [intOf]; omega
                  | false =>
                    have hhz' : hexB ((plusU z).toNat : Int) = false := by rw [plus_hex]; exact hhz
                    have HR' : Hid ((acc ++ [37]) ++ dec f (s.data.toList.drop (i + 1)) = dec s.size s.data.toList) := by
                      have h := dec_round_other _ _ _ _ _ (by omega) (by rw [HX.out]; decide) (fun hh => by rw [HZ.out, hhz] at hh; exact absurd hh.2.2.2 (by simp)) HR.out
                      rw [HX.out] at h
                      exact h
                    clear HR
                    go_wp2_with (first | (at_builtin; refine wpList_append_own _ rfl (.tmp 83) (.tmp 85) 24 rfl wm.heap.size 5 i0 (.int .u8 0) 1 1 Tryd.underlying24 hi hz0 hz1 hz2 rfl (by decide) _ _ _ rfl (hown.alloc _) ⟨wq.heap.size, 0, none⟩ 1 1 [.int .u8 37] rfl rfl (cells_one _ _ _) (one_cell _) (by unfold maxLen; omega) (by omega) (by simp; omega) ?_; intro v' w2 hown' hgrow _) | (go_at_call 34; refine (zzHex_any _ _).mono ?_; rintro e w' ⟨rfl, hw⟩; subst w'))
                    obtain ⟨r1, r2, _⟩ := push_rel (news := [37]) (Nat.le_refl _) hbq hown hown' hgrow (by simp)
                    clear hown' hgrow
                    go_roundw
                    case rel => exact ⟨i + 1, f, acc ++ [37], _, rfl, by omega, by go_num, r1, by simp; omega, by omega, HR', r2⟩
                    case measure => simp [intOf]; omega
                | false =>
                  have hhy' : hexB ((plusU y).toNat : Int) = false := by rw [plus_hex]; exact hhy
                  have HR' : Hid ((acc ++ [37]) ++ dec f (s.data.toList.drop (i + 1)) = dec s.size s.data.toList) := by
                    have h := dec_round_other _ _ _ _ _ (by omega) (by rw [HX.out]; decide) (fun hh => by rw [HY.out, hhy] at hh; exact absurd hh.2.2.1 (by simp)) HR.out
                    rw [HX.out] at h
                    exact h
                  clear HR
                  go_wp2_with (first | (at_builtin; refine wpList_append_own _ rfl (.tmp 83) (.tmp 85) 24 rfl wm.heap.size 5 i0 (.int .u8 0) 1 1 Tryd.underlying24 hi hz0 hz1 hz2 rfl (by decide) _ _ _ rfl (hown.alloc _) ⟨wq.heap.size, 0, none⟩ 1 1 [.int .u8 37] rfl rfl (cells_one _ _ _) (one_cell _) (by unfold maxLen; omega) (by omega) (by simp; omega) ?_; intro v' w2 hown' hgrow _) | (go_at_call 34; refine (zzHex_any _ _).mono ?_; rintro e w' ⟨rfl, hw⟩; subst w'))
                  obtain ⟨r1, r2, _⟩ := push_rel (news := [37]) (Nat.le_refl _) hbq hown hown' hgrow (by simp)
                  clear hown' hgrow
                  go_roundw
                  case rel => exact ⟨i + 1, f, acc ++ [37], _, rfl, by omega, by go_num, r1, by simp; omega, by omega, HR', r2⟩
                  case measure => simp [intOf]; omega
              · clear hCq
                have HR' : Hid ((acc ++ [37]) ++ dec f (s.data.toList.drop (i + 1)) = dec s.size s.data.toList) := by
                  have h := dec_round_other _ _ _ _ _ (by omega) (by rw [HX.out]; decide) (fun hh => by omega) HR.out
                  rw [HX.out] at h
                  exact h
                clear HR
                go_wp2_with (first | (at_builtin; refine wpList_append_own _ rfl (.tmp 83) (.tmp 85) 24 rfl wm.heap.size 5 i0 (.int .u8 0) 1 1 Tryd.underlying24 hi hz0 hz1 hz2 rfl (by decide) _ _ _ rfl (hown.alloc _) ⟨wq.heap.size, 0, none⟩ 1 1 [.int .u8 37] rfl rfl (cells_one _ _ _) (one_cell _) (by unfold maxLen; omega) (by omega) (by simp; omega) ?_; intro v' w2 hown' hgrow _) | (go_at_call 34; refine (zzHex_any _ _).mono ?_; rintro e w' ⟨rfl, hw⟩; subst w'))
                obtain ⟨r1, r2, _⟩ := push_rel (news := [37]) (Nat.le_refl _) hbq hown hown' hgrow (by simp)
                clear hown' hgrow
                go_roundw
                case rel => exact ⟨i + 1, f, acc ++ [37], _, rfl, by omega, by go_num, r1, by simp; omega, by omega, HR', r2⟩
                case measure => simp [intOf]; omega
            · have HR' : Hid ((acc ++ [x]) ++ dec f (s.data.toList.drop (i + 1)) = dec s.size s.data.toList) := by
                have h := dec_round_other _ _ _ _ _ (by omega) (by rw [HX.out]; exact h43) (fun hh => h37 (by rw [← HX.out]; exact hh.1)) HR.out
                rw [HX.out] at h
                exact h
              have hx37 : ((x.toNat : Int) == 37) = false := by
                have : x.toNat ≠ 37 := fun e => h37 (UInt8.toNat_inj.1 e)
                simp
                omega
              clear HR hCq
              go_wp2_with (at_builtin; refine wpList_append_own _ rfl (.tmp 83) (.tmp 85) 24 rfl wm.heap.size 5 i0 (.int .u8 0) 1 1 Tryd.underlying24 hi hz0 hz1 hz2 rfl (by decide) _ _ _ rfl (hown.alloc _) ⟨wq.heap.size, 0, none⟩ 1 1 [.int .u8 x.toNat] rfl rfl (cells_one _ _ _) (one_cell _) (by unfold maxLen; omega) (by omega) (by simp; omega) ?_; intro v' w2 hown' hgrow _)
              obtain ⟨r1, r2, _⟩ := push_rel (news := [x]) (Nat.le_refl _) hbq hown hown' hgrow (by simp)
              clear hown' hgrow
              go_roundw
              case rel => exact ⟨i + 1, f, acc ++ [x], _, rfl, by omega, by go_num, r1, by simp; omega, by omega, HR', r2⟩
              case measure => simp [intOf]; omega
        · have hie2 : i = s.size := by omega
          subst hie2
          obtain ⟨R, hRdef⟩ : ∃ R, dec s.size s.data.toList = R := ⟨_, rfl⟩
          have HRE : Hid (reenc s.data.toList = enc R.length R) := by show _ = _; unfold reenc; rw [hl, hRdef]
          have haccR : acc = R := by
            have h := HR.out
            rw [List.drop_eq_nil_of_le (by omega), dec_nil, List.append_nil, hRdef] at h
            exact h
          subst haccR
          clear HR hRdef hf hile hCq hC
          obtain ⟨ao, cap, hv, hg⟩ : ∃ ao cap, v = .slice ao acc.length cap ∧ (0 < acc.length → ∃ g, ao = some ⟨g, 0, none⟩ ∧ g < wq.heap.size ∧ Holds wq g 0 acc) := by
            have hown0 := hown
            rcases hown.2 with ⟨rfl, h0⟩ | ⟨g, cap, cur, rfl, _⟩
            · exact ⟨none, 0, by rw [h0], fun h => by omega⟩
            · refine ⟨_, _, rfl, fun _ => ⟨g, rfl, (hown0.lt g rfl).2, fun j hj => ?_⟩⟩
              have h := hown0.cells (g := g) rfl j (.int .u8 ((acc.getD j 0).toNat : Int)) (by simp [Lib.byteCells, List.getD, hj])
              have hadd : (⟨g, 0, none⟩ : Addr).add j = ⟨g, 0 + j, none⟩ := by unfold Addr.add; split <;> simp_all
              rw [hadd] at h
              exact h
          subst hv
          clear hown
          obtain ⟨w3, rfl⟩ : ∃ w3, w3 = wq := ⟨_, rfl⟩
          have hb3 : Below w.heap.size w w3 := hb.trans (hbq.mono hb.size)
          clear hb hbq
          go_wp2
          go_loopw [8, 9] (fun tv ti wr => ∃ (k f : Nat) (out : List UInt8) (o : Value), o = tv ∧ k ≤ acc.length ∧ ti = .int .i64 k ∧ wr.ownsRow w3.heap.size 5 1 o out.length (Lib.byteCells out) ∧ out.length ≤ 9 * k ∧ acc.length ≤ k + f ∧
              Hid (out ++ enc f (acc.drop k) = enc acc.length acc) ∧ Below w3.heap.size w3 wr) (fun _ ti _ => acc.length - (intOf ti).toNat)
          case atStart => exact ⟨0, acc.length, [], _, rfl, Nat.zero_le _, rfl, World.ownsRow_nil _ _ _ _, Nat.le_refl _, by omega, rfl, Below.refl _ _⟩
          case round =>
            obtain ⟨k, f, out, o, rfl, hk, rfl, hown, ho, hkf, HO, hb⟩ := hrel
            have hsz := hb.size
            by_cases hkl : k < acc.length
            · obtain ⟨g, rfl, hgl, hgc⟩ := hg (by omega)
              have hcr := holds_below hb hgl hgc
              obtain ⟨f, rfl⟩ : ∃ f', f = f' + 1 := ⟨f - 1, by omega⟩
              have hW := walkAt_any acc g cap k wr hcr (by omega) hkl
              obtain ⟨l, hldef⟩ : ∃ l, acc.drop k = l := ⟨_, rfl⟩
              have hll : l.length = acc.length - k := by rw [← hldef]; simp
              have hlne : l ≠ [] := by intro h; rw [h] at hll; simp at hll; omega
              rw [hldef] at hW
              obtain ⟨n, hnw⟩ : ∃ n, (walkL l).1 = n := ⟨_, rfl⟩
              have hn1 : 1 ≤ n := by rw [← hnw]; exact walkL_pos l
              have hnl : n ≤ l.length := by rw [← hnw]; exact walkL_le l hlne
              have hn4 : n ≤ 4 := by rw [← hnw]; exact walkL_four l
              rw [hnw] at hW
              have HG : Hid (∀ j, j < l.length → acc.getD (k + j) 0 = l.getD j 0) := by
                intro j hj
                rw [← hldef]
                simp [List.getD]
              cases hok : (walkL l).2 with
              | false =>
                rw [hok] at hW
                have HO' : Hid ((out ++ replU) ++ enc f (acc.drop (k + n)) = enc acc.length acc) := by
                  show _ = _
                  rw [← HO.out, hldef, enc_no f l hlne hok, hnw, ← hldef, List.drop_drop]
                  simp
                clear HO hldef hnw hlne hok
                go_wp2_with (first | (go_at_call 36; refine hW.mono ?_; rintro e w' ⟨rfl, hw⟩; subst w') | (go_at_call 38; refine (repl_any w3.heap.size _ out _ hown (by omega) (by omega)).mono ?_; rintro e w2 ⟨v2, rfl, hown2, hb2⟩))
                go_roundw
                case rel => exact ⟨k + n, f, out ++ replU, _, rfl, by omega, by go_num, hown2, by simp [replU]; omega, by omega, HO', hb.trans hb2⟩
                case measure => simp [intOf]; omega
              | true =>
                rw [hok] at hW
                have HO' : Hid ((out ++ (l.take n).flatMap emitU) ++ enc f (acc.drop (k + n)) = enc acc.length acc) := by
                  show _ = _
                  rw [← HO.out, hldef, enc_yes f l hlne hok, hnw, ← hldef, List.drop_drop]
                  simp
                clear HO hldef hnw hlne hok
                obtain ⟨w4, rfl⟩ : ∃ w4, w4 = wr := ⟨_, rfl⟩
                go_wp2_with (first | (go_at_call 36; refine hW.mono ?_; rintro e w' ⟨rfl, hw⟩; subst w'))
                go_loopw [8, 12] (fun tv tk wr => ∃ (j : Nat) (o : Value), o = tv ∧ j ≤ n ∧ tk = .int .i64 (k + j : Nat) ∧ wr.ownsRow w3.heap.size 5 1 o (out ++ (l.take j).flatMap emitU).length (Lib.byteCells (out ++ (l.take j).flatMap emitU)) ∧ Below w3.heap.size w3 wr) (fun _ tk _ => k + n - (intOf tk).toNat)
                case atStart => exact ⟨0, _, rfl, Nat.zero_le _, rfl, by simpa using hown, hb⟩
                case round =>
                  obtain ⟨j, o2, rfl, hjn, rfl, hownj, hbj⟩ := hrel
                  have hszj := hbj.size
                  by_cases hj : j < n
                  · have hcj : wr.cell? ⟨g, k + j, none⟩ = some (.int .u8 ((l.getD j 0).toNat : Int)) := by
                      rw [hbj.cell (p := ⟨g, k + j, none⟩) hgl]
                      have h := hgc (k + j) (by omega)
                      rw [HG.out j (by omega), Nat.zero_add] at h
                      exact h
                    obtain ⟨x, hxd⟩ : ∃ x, l.getD j 0 = x := ⟨_, rfl⟩
                    rw [hxd] at hcj
                    have HE : Hid ((l.take (j + 1)).flatMap emitU = (l.take j).flatMap emitU ++ emitU x) := by
                      show _ = _
                      rw [← hxd]
                      exact emit_step l j (by omega)
                    clear hxd
                    have hol : (out ++ (l.take j).flatMap emitU).length ≤ 9 * k + 3 * j := by
                      have := emit_len (l.take j)
                      simp only [List.length_append, List.length_take] at this ⊢
                      omega
                    have cE := emit_any w3.heap.size _ _ x wr hownj (by omega) (by omega)
                    clear hol
                    go_wp2_with (go_at_call 37; refine cE.mono ?_; rintro e w2 ⟨v2, rfl, hown2, hb2⟩)
                    go_roundw
                    case rel => exact ⟨j + 1, _, rfl, by omega, by go_num, by rw [HE.out, ← List.append_assoc]; exact hown2, hbj.trans hb2⟩
                    case measure => simp [intOf]; omega
                  · have hjn' : j = n := by omega
                    subst hjn'
                    go_wp2
                    go_roundw
                    case rel =>
                      refine ⟨k + j, f, _, _, rfl, by omega, by go_num, hownj, ?_, by omega, HO', hbj⟩
                      have := emit_len (l.take j)
                      simp only [List.length_append, List.length_take] at this ⊢
                      omega
                    case measure => simp [intOf]; omega
            · have hke : k = acc.length := by omega
              have HF : Hid (out = enc acc.length acc) := by
                have h := HO.out
                rw [List.drop_eq_nil_of_le (by omega), enc_nil, List.append_nil] at h
                exact h
              have hcb := conv_back wr w3.heap.size o out hown
              clear HO hown
              subst hke
              go_wp2
              go_ret
              refine ⟨?_, hb3.trans (hb.mono hb3.size)⟩
              rw [HRE.out, ← HF.out]
              rfl
end Go.Proofs.Qxb6003899aDoor
