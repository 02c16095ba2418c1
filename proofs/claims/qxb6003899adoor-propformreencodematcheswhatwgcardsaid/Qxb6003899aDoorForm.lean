/-
  Seat b6003899aD: formReencode.
-/
import Derived.Test.Qxb6003899aDoorPush
import Derived.Deep.QuietTactic
import Derived.BigQuiet
namespace Go.Proofs.Qxb6003899aDoor
open Go.RowKit

set_option maxRecDepth 100000 in
set_option maxHeartbeats 1000000 in
theorem form_any (s : ByteArray) (w : World) (hs : s.size ≤ 1048576) (hT : Lib.Utf8Tabs 3 4 w) :
    Calls Tryd.prog 33 #[.string s] w fun e w' => e = .returned (.string ⟨(reenc s.data.toList).toArray⟩) ∧ Below w.heap.size w w' := by
  obtain ⟨i0, hi, hz0, hz1, hz2⟩ := info_parts info5
  obtain ⟨w1, hmk, hown1, hgr1⟩ := run_make_own (P := Tryd.prog) w w.heap.size 24 5 i0 (.int .u8 0) 1 Tryd.underlying24 hi hz0 hz1 .i64 .i64 s.size (by rw [hz2]; omega) (by unfold maxLen; omega) (Nat.le_refl _)
  have hb1 : Below w.heap.size w w1 := (Below.refl _ _).grown hgr1 (Nat.le_refl _) (fun k h => by cases h)
  have hl : s.data.toList.length = s.size := (Lib.size_eq s).symm
  go_enter Tryd.func33, Tryd.ntmps33
  go_wp2
  clear hmk
  go_loopw [3, 4] (fun tv ti wr => ∃ (i f : Nat) (acc : List UInt8), i ≤ s.size ∧ ti = .int .i64 i ∧ wr.ownsRow w.heap.size 5 1 tv acc.length (Lib.byteCells acc) ∧ acc.length ≤ i ∧ s.size ≤ i + f ∧
      Hid (acc ++ dec f (s.data.toList.drop i) = dec s.size s.data.toList) ∧ Below w.heap.size w wr ∧ (∃ g cap, tv = .slice (some ⟨g, 0, none⟩) acc.length cap)) (fun _ ti _ => s.size - (intOf ti).toNat)
  case atStart => exact ⟨0, s.size, [], Nat.zero_le _, rfl, hown1, Nat.le_refl _, by omega, rfl, hb1, _, _, rfl⟩
  case round =>
    obtain ⟨i, f, acc, hi', rfl, hown, hacc, hf, HR, hb, g, cap, rfl⟩ := hrel
    by_cases hlt : i < s.size
    · obtain ⟨x, hx⟩ : ∃ x, s[i]'hlt = x := ⟨_, rfl⟩
      have hxb := x.toNat_lt
      have hsz := hb.size
      have hgx := str_at s i hlt
      rw [hx] at hgx
      have HX : Hid (s.data.toList.getD i 0 = x) := hgx
      clear hgx
      obtain ⟨f, rfl⟩ : ∃ f', f = f' + 1 := ⟨f - 1, by omega⟩
      by_cases h43 : x = 43
      · subst h43
        have HR' : Hid ((acc ++ [32]) ++ dec f (s.data.toList.drop (i + 1)) = dec s.size s.data.toList) := dec_round_plus _ _ _ _ _ (by omega) HX.out HR.out
        clear HR
        go_wp2_with (at_builtin; refine wpList_append_own _ rfl (.tmp 62) (.tmp 64) 24 rfl w.heap.size 5 i0 (.int .u8 0) 1 1 Tryd.underlying24 hi hz0 hz1 hz2 rfl (by decide) _ _ _ rfl (hown.alloc _) ⟨wr.heap.size, 0, none⟩ 1 1 [.int .u8 32] rfl rfl (cells_one _ _ _) (one_cell _) (by unfold maxLen; omega) (by omega) (by simp; omega) ?_; intro v' w2 hown' hgrow _)
        obtain ⟨r1, r2, g', cap', r3⟩ := push_rel (news := [32]) (Nat.le_refl _) hb hown hown' hgrow (by simp)
        rw [r3]
        rw [r3] at r1
        clear hown' hgrow r3
        go_roundw
        case rel => exact ⟨i + 1, f, acc ++ [32], by omega, by go_num, r1, by simp; omega, by omega, HR', r2, _, _, rfl⟩
        case measure => simp [intOf]; omega
      · have hx43 : ((x.toNat : Int) == 43) = false := by
          have : x.toNat ≠ 43 := fun e => h43 (UInt8.toNat_inj.1 e)
          simp
          omega
        by_cases h37 : x = 37
        · subst h37
          by_cases h2 : i + 2 < s.size
          · obtain ⟨y, hy⟩ : ∃ y, s[i + 1]'(by omega) = y := ⟨_, rfl⟩
            obtain ⟨z, hz⟩ : ∃ z, s[i + 2]'h2 = z := ⟨_, rfl⟩
            have hgy := str_at s (i + 1) (by omega)
            rw [hy] at hgy
            have HY : Hid (s.data.toList.getD (i + 1) 0 = y) := hgy
            have hgz := str_at s (i + 2) h2
            rw [hz] at hgz
            have HZ : Hid (s.data.toList.getD (i + 2) 0 = z) := hgz
            clear hgy hgz
            cases hhy : hexB (y.toNat : Int) with
            | true =>
              cases hhz : hexB (z.toNat : Int) with
              | true =>
                have hvy := hexV_bd _ hhy
                have hvz := hexV_bd _ hhz
                obtain ⟨p, hp⟩ : ∃ p, UInt8.ofNat (hexV (y.toNat : Int) * 16 + hexV (z.toNat : Int)).toNat = p := ⟨_, rfl⟩
                have hpv := pair_toNat _ _ hvy hvz
                rw [hp] at hpv
                have hbits : bits BinOp.or IntKind.u8 (hexV (y.toNat : Int) * 16) (hexV (z.toNat : Int)) = (p.toNat : Int) := by rw [or_any _ _ hvy hvz, hpv]
                have HR' : Hid ((acc ++ [p]) ++ dec f (s.data.toList.drop (i + 3)) = dec s.size s.data.toList) := by
                  have h := dec_round_pair _ _ _ _ _ (by omega) HX.out (by rw [HY.out]; exact hhy) (by rw [HZ.out]; exact hhz) HR.out
                  rw [HY.out, HZ.out, hp] at h
                  exact h
                clear HR hp hpv
                go_wp2_with (go_at_call 39; refine (isHex_any _ _).mono ?_; rintro e w' ⟨rfl, hw⟩; subst w')
                go_quiet ((go_at_call 40; exact Calls.quiet_of_same (unhex_any _ _ (by assumption))))
                have hownd : (wr.drewN nq).ownsRow w.heap.size 5 1 (.slice (some ⟨g, 0, none⟩) acc.length cap) acc.length (Lib.byteCells acc) := hown
                have hbd : Below w.heap.size w (wr.drewN nq) := below_drewN hb nq
                clear hown hb hsz
                generalize wr.drewN nq = wd at hownd hbd ⊢
                have hsz := hbd.size
                go_wp2_with (at_builtin; refine wpList_append_own _ rfl (.tmp 62) (.tmp 64) 24 rfl w.heap.size 5 i0 (.int .u8 0) 1 1 Tryd.underlying24 hi hz0 hz1 hz2 rfl (by decide) _ _ _ rfl (hownd.alloc _) ⟨wd.heap.size, 0, none⟩ 1 1 [.int .u8 p.toNat] rfl rfl (cells_one _ _ _) (one_cell _) (by unfold maxLen; omega) (by omega) (by simp; omega) ?_; intro v' w2 hown' hgrow _)
                obtain ⟨r1, r2, g', cap', r3⟩ := push_rel (news := [p]) (Nat.le_refl _) hbd hownd hown' hgrow (by simp)
                rw [r3]
                rw [r3] at r1
                clear hown' hgrow r3
                go_roundw
                case rel => exact ⟨i + 3, f, acc ++ [p], by omega, by go_num, r1, by simp; omega, by omega, HR', r2, _, _, rfl⟩
                case measure => simp [intOf]; omega
              | false =>
                have HR' : Hid ((acc ++ [37]) ++ dec f (s.data.toList.drop (i + 1)) = dec s.size s.data.toList) := by
                  have h := dec_round_other _ _ _ _ _ (by omega) (by rw [HX.out]; decide) (fun hh => by rw [HZ.out, hhz] at hh; exact absurd hh.2.2.2 (by simp)) HR.out
                  rw [HX.out] at h
                  exact h
                clear HR
                go_wp2_with (first | (at_builtin; refine wpList_append_own _ rfl (.tmp 62) (.tmp 64) 24 rfl w.heap.size 5 i0 (.int .u8 0) 1 1 Tryd.underlying24 hi hz0 hz1 hz2 rfl (by decide) _ _ _ rfl (hown.alloc _) ⟨wr.heap.size, 0, none⟩ 1 1 [.int .u8 37] rfl rfl (cells_one _ _ _) (one_cell _) (by unfold maxLen; omega) (by omega) (by simp; omega) ?_; intro v' w2 hown' hgrow _) | (go_at_call 39; refine (isHex_any _ _).mono ?_; rintro e w' ⟨rfl, hw⟩; subst w'))
                obtain ⟨r1, r2, g', cap', r3⟩ := push_rel (news := [37]) (Nat.le_refl _) hb hown hown' hgrow (by simp)
                rw [r3]
                rw [r3] at r1
                clear hown' hgrow r3
                go_roundw
                case rel => exact ⟨i + 1, f, acc ++ [37], by omega, by go_num, r1, by simp; omega, by omega, HR', r2, _, _, rfl⟩
                case measure => simp [intOf]; omega
            | false =>
              have HR' : Hid ((acc ++ [37]) ++ dec f (s.data.toList.drop (i + 1)) = dec s.size s.data.toList) := by
                have h := dec_round_other _ _ _ _ _ (by omega) (by rw [HX.out]; decide) (fun hh => by rw [HY.out, hhy] at hh; exact absurd hh.2.2.1 (by simp)) HR.out
                rw [HX.out] at h
                exact h
              clear HR
              go_wp2_with (first | (at_builtin; refine wpList_append_own _ rfl (.tmp 62) (.tmp 64) 24 rfl w.heap.size 5 i0 (.int .u8 0) 1 1 Tryd.underlying24 hi hz0 hz1 hz2 rfl (by decide) _ _ _ rfl (hown.alloc _) ⟨wr.heap.size, 0, none⟩ 1 1 [.int .u8 37] rfl rfl (cells_one _ _ _) (one_cell _) (by unfold maxLen; omega) (by omega) (by simp; omega) ?_; intro v' w2 hown' hgrow _) | (go_at_call 39; refine (isHex_any _ _).mono ?_; rintro e w' ⟨rfl, hw⟩; subst w'))
              obtain ⟨r1, r2, g', cap', r3⟩ := push_rel (news := [37]) (Nat.le_refl _) hb hown hown' hgrow (by simp)
              rw [r3]
              rw [r3] at r1
              clear hown' hgrow r3
              go_roundw
              case rel => exact ⟨i + 1, f, acc ++ [37], by omega, by go_num, r1, by simp; omega, by omega, HR', r2, _, _, rfl⟩
              case measure => simp [intOf]; omega
          · clear hx43
            have HR' : Hid ((acc ++ [37]) ++ dec f (s.data.toList.drop (i + 1)) = dec s.size s.data.toList) := by
              have h := dec_round_other _ _ _ _ _ (by omega) (by rw [HX.out]; decide) (fun hh => by omega) HR.out
              rw [HX.out] at h
              exact h
            clear HR
            go_wp2_with (first | (at_builtin; refine wpList_append_own _ rfl (.tmp 62) (.tmp 64) 24 rfl w.heap.size 5 i0 (.int .u8 0) 1 1 Tryd.underlying24 hi hz0 hz1 hz2 rfl (by decide) _ _ _ rfl (hown.alloc _) ⟨wr.heap.size, 0, none⟩ 1 1 [.int .u8 37] rfl rfl (cells_one _ _ _) (one_cell _) (by unfold maxLen; omega) (by omega) (by simp; omega) ?_; intro v' w2 hown' hgrow _) | (go_at_call 39; refine (isHex_any _ _).mono ?_; rintro e w' ⟨rfl, hw⟩; subst w'))
            obtain ⟨r1, r2, g', cap', r3⟩ := push_rel (news := [37]) (Nat.le_refl _) hb hown hown' hgrow (by simp)
            rw [r3]
            rw [r3] at r1
            clear hown' hgrow r3
            go_roundw
            case rel => exact ⟨i + 1, f, acc ++ [37], by omega, by go_num, r1, by simp; omega, by omega, HR', r2, _, _, rfl⟩
            case measure => simp [intOf]; omega
        · have HR' : Hid ((acc ++ [x]) ++ dec f (s.data.toList.drop (i + 1)) = dec s.size s.data.toList) := by
            have h := dec_round_other _ _ _ _ _ (by omega) (by rw [HX.out]; exact h43) (fun hh => h37 (by rw [← HX.out]; exact hh.1)) HR.out
            rw [HX.out] at h
            exact h
          have hx37 : ((x.toNat : Int) == 37) = false := by
            have : x.toNat ≠ 37 := fun e => h37 (UInt8.toNat_inj.1 e)
            simp
            omega
          clear HR
          go_wp2_with (at_builtin; refine wpList_append_own _ rfl (.tmp 62) (.tmp 64) 24 rfl w.heap.size 5 i0 (.int .u8 0) 1 1 Tryd.underlying24 hi hz0 hz1 hz2 rfl (by decide) _ _ _ rfl (hown.alloc _) ⟨wr.heap.size, 0, none⟩ 1 1 [.int .u8 x.toNat] rfl rfl (cells_one _ _ _) (one_cell _) (by unfold maxLen; omega) (by omega) (by simp; omega) ?_; intro v' w2 hown' hgrow _)
          obtain ⟨r1, r2, g', cap', r3⟩ := push_rel (news := [x]) (Nat.le_refl _) hb hown hown' hgrow (by simp)
          rw [r3]
          rw [r3] at r1
          clear hown' hgrow r3
          go_roundw
          case rel => exact ⟨i + 1, f, acc ++ [x], by omega, by go_num, r1, by simp; omega, by omega, HR', r2, _, _, rfl⟩
          case measure => simp [intOf]; omega
    · have hRi : i = s.size := by omega
      subst hRi
      obtain ⟨wm, rfl⟩ : ∃ wm, wm = wr := ⟨_, rfl⟩
      obtain ⟨R, hRdef⟩ : ∃ R, dec s.size s.data.toList = R := ⟨_, rfl⟩
      have hreenc : reenc s.data.toList = enc R.length R := by unfold reenc; rw [hl, hRdef]
      have haccR : acc = R := by
        have h := HR.out
        rw [List.drop_eq_nil_of_le (by omega), dec_nil, List.append_nil, hRdef] at h
        exact h
      subst haccR
      clear HR hRdef hf hi'
      have HRE : Hid (reenc s.data.toList = enc acc.length acc) := hreenc
      clear hreenc
      have hgB : w.heap.size ≤ g ∧ g < wm.heap.size := hown.lt g rfl
      have hcells : Holds wm g 0 acc := by
        intro j hj
        have h := hown.cells (g := g) rfl j (.int .u8 ((acc.getD j 0).toNat : Int)) (by simp [Lib.byteCells, List.getD, hj])
        have hadd : (⟨g, 0, none⟩ : Addr).add j = ⟨g, 0 + j, none⟩ := by unfold Addr.add; split <;> simp_all
        rw [hadd] at h
        exact h
      have hcap : acc.length ≤ cap := by
        rcases hown.2 with ⟨h, _⟩ | ⟨g', cap', cur, hv, _, _, h3, _⟩
        · cases h
        · cases hv; exact h3
      have hTr := tabs_below hb (by have := tabs_lt hT; omega) hT
      have hsz := hb.size
      have h4 : 4 < wm.heap.size := by have := tabs_lt hT; omega
      clear hown
      go_wp2
      go_loopw [3] (fun tv wq => ∃ (k f o : Nat) (out : List UInt8), k ≤ acc.length ∧ tv = .slice (some ⟨g, o, none⟩) (acc.length - k) (cap - k) ∧ (k < acc.length → o = k) ∧ Lib.IsBuilder 87 5 wm.heap.size wm.heap.size (Lib.byteCells out) wq ∧
          out.length ≤ 9 * k ∧ acc.length ≤ k + f ∧ Hid (out ++ enc f (acc.drop k) = enc acc.length acc) ∧ Below wm.heap.size wm wq) (fun tv _ => lenOf tv)
      case atStart => exact ⟨0, acc.length, 0, [], Nat.zero_le _, rfl, fun _ => rfl, Lib.fresh_isBuilder 87 5 wm, Nat.le_refl _, by omega, rfl, (Below.refl _ _).alloc (Nat.le_refl _) _⟩
      case round =>
        obtain ⟨k, f, o, out, hk, rfl, hok, hI, ho, hkf, HO, hbq⟩ := hrel
        obtain ⟨wq, rfl⟩ : ∃ wq, wq = wr := ⟨_, rfl⟩
        have hsq := hbq.size
        by_cases hkl : k < acc.length
        · obtain rfl := hok hkl
          obtain ⟨f, rfl⟩ : ∃ f', f = f' + 1 := ⟨f - 1, by omega⟩
          have hTq := tabs_below hbq h4 hTr
          have hcq := holds_below hbq hgB.2 hcells
          obtain ⟨l, hldef⟩ : ∃ l, acc.drop o = l := ⟨_, rfl⟩
          have hll : l.length = acc.length - o := by rw [← hldef]; simp
          have hcl : Holds wq g o l := by
            intro j hj
            have h := hcq (o + j) (by omega)
            rw [← hldef]
            simp only [Nat.zero_add] at h
            rw [h]
            simp [List.getD]
          have hD := Tryd.utf8_DecodeRune (⟨l.toArray⟩ : ByteArray) g o (cap - o) wq hTq (by
            intro j hj
            have h := hcl j hj
            rw [h, get_list])
          obtain ⟨c, t, hct⟩ : ∃ c t, l = c :: t := by
            cases l with
            | nil => simp at hll; omega
            | cons c t => exact ⟨c, t, rfl⟩
          have hgo : Lib.decodeGo (⟨l.toArray⟩ : ByteArray) = Utf8.decode ⟨l.toArray⟩ 0 := by
            unfold Lib.decodeGo
            rw [if_neg (by show ¬ l.length = 0; omega)]
          have hz : (⟨l.toArray⟩ : ByteArray).size = acc.length - o := hll
          rw [hgo, hz] at hD
          obtain ⟨n, hnw⟩ : ∃ n, (walkL l).1 = n := ⟨_, rfl⟩
          have hn1 : 1 ≤ n := by rw [← hnw]; exact walkL_pos l
          have hnl : n ≤ l.length := by rw [← hnw]; exact walkL_le l (by rw [hct]; simp)
          have hwd := walk_decode c t
          rw [← hct] at hwd
          rcases hwd with ⟨hw2, hd2, hnot⟩ | ⟨hw2, hdec⟩
          · rw [hd2] at hD
            rw [hnw] at hD
            obtain ⟨r, hrdef⟩ : ∃ r, (Utf8.decode ⟨l.toArray⟩ 0).1 = r := ⟨_, rfl⟩
            rw [hrdef] at hD
            have hrn : (((r : Int) == 65533) = false) ∨ (((r : Int) == 65533) = true ∧ ((n : Int) == 1) = false) := by
              by_cases h : r = 65533
              · right
                subst h
                refine ⟨rfl, ?_⟩
                have : n ≠ 1 := fun e => hnot ⟨hrdef, by rw [hd2, hnw]; exact e⟩
                simp
                omega
              · left
                simp
                omega
            have HO' : Hid ((out ++ (l.take n).flatMap emitU) ++ enc f (acc.drop (o + n)) = enc acc.length acc) := by
              show _ = _
              rw [← HO.out, hldef, enc_yes f l (by rw [hct]; simp) hw2, hnw, ← hldef, List.drop_drop]
              simp
            clear HO hd2 hnot hct hgo hz hldef hnw hrdef hw2
            rcases hrn with h1 | ⟨h1, h2⟩
            all_goals
              go_wp2_with fail
              refine hD.mono ?_
              rintro e w1 ⟨rfl, hb1⟩
              have hI1 := bld_below hI hb1
              have hs1 := hb1.size
              have hbm1 : Below wm.heap.size wm w1 := hbq.trans (hb1.mono hsq)
              go_wp2
              go_loopw [89] (fun tj wq2 => ∃ j : Nat, j ≤ n ∧ tj = .int .i64 j ∧ Lib.IsBuilder 87 5 wm.heap.size wm.heap.size (Lib.byteCells (out ++ (l.take j).flatMap emitU)) wq2 ∧ Below wm.heap.size wm wq2) (fun tj _ => n - (intOf tj).toNat)
              case atStart => exact ⟨0, Nat.zero_le _, rfl, by simpa using hI1, hbm1⟩
              case round =>
                obtain ⟨j, hjn, rfl, hIj, hbj⟩ := hrel
                obtain ⟨wj, rfl⟩ : ∃ wj, wj = wr := ⟨_, rfl⟩
                have hsj := hbj.size
                by_cases hj : j < n
                · have hcj : wj.cell? ⟨g, o + j, none⟩ = some (.int .u8 ((l.getD j 0).toNat : Int)) := by
                    have e1 := hcl j (by omega)
                    rw [hbq.cell (p := ⟨g, o + j, none⟩) hgB.2] at e1
                    rw [hbj.cell (p := ⟨g, o + j, none⟩) hgB.2]
                    exact e1
                  obtain ⟨x, hxd⟩ : ∃ x, l.getD j 0 = x := ⟨_, rfl⟩
                  rw [hxd] at hcj
                  have hxb := x.toNat_lt
                  have HE : Hid ((l.take (j + 1)).flatMap emitU = (l.take j).flatMap emitU ++ emitU x) := by
                    show _ = _
                    rw [← hxd]
                    exact emit_step l j (by omega)
                  clear hxd
                  have hol : (out ++ (l.take j).flatMap emitU).length ≤ 9 * o + 3 * j := by
                    have := emit_len (l.take j)
                    simp only [List.length_append, List.length_take] at this ⊢
                    omega
                  cases hsf : safeB (x.toNat : Int) with
                  | true =>
                    go_wp2_with (first | (go_at_call 44; refine (unres_any _ _ (by omega) (by omega)).mono ?_; rintro e w' ⟨rfl, hw⟩; subst w') | (go_at_call 45; refine (Tryd.Builder_WriteByte _ _ _ _ _ hIj (by rw [Lib.byteCells_length]; omega) (by omega)).mono ?_; rintro e w2 ⟨rfl, hI2, hb2⟩))
                    go_roundw
                    case rel =>
                      refine ⟨j + 1, by omega, by go_num, ?_, hbj.trans hb2⟩
                      rw [HE.out, ← List.append_assoc, Lib.byteCells_append, emit_safe x hsf]
                      exact Or.inr hI2
                    case measure => simp [intOf]; omega
                  | false =>
                    go_wp2_with (first | (go_at_call 44; refine (unres_any _ _ (by omega) (by omega)).mono ?_; rintro e w' ⟨rfl, hw⟩; subst w'))
                    refine (Tryd.Builder_WriteByte _ _ _ _ _ hIj (by rw [Lib.byteCells_length]; omega) (by omega)).mono ?_
                    rintro e w2 ⟨rfl, hI2, hb2⟩
                    go_wp2_with fail
                    refine (Tryd.Builder_WriteByte _ _ _ _ _ (Or.inr hI2) (by simp only [List.length_append, Lib.byteCells_length, List.length_cons, List.length_nil] at hol ⊢; omega) (by have := hb2.size; omega)).mono ?_
                    rintro e w3 ⟨rfl, hI3, hb3⟩
                    go_wp2_with fail
                    refine (Tryd.Builder_WriteByte _ _ _ _ _ (Or.inr hI3) (by simp only [List.length_append, Lib.byteCells_length, List.length_cons, List.length_nil] at hol ⊢; omega) (by have := hb2.size; have := hb3.size; omega)).mono ?_
                    rintro e w4 ⟨rfl, hI4, hb4⟩
                    rw [hex_at, hex_at] at hI4
                    clear hI2 hI3
                    go_wp2
                    go_roundw
                    case rel =>
                      refine ⟨j + 1, by omega, by go_num, ?_, ((hbj.trans hb2).trans hb3).trans hb4⟩
                      rw [HE.out, ← List.append_assoc, Lib.byteCells_append, emit_not x hsf]
                      simp only [List.append_assoc] at hI4 ⊢
                      exact Or.inr hI4
                    case measure => simp [intOf]; omega
                · have hjn' : j = n := by omega
                  subst hjn'
                  go_wp2
                  go_roundw
                  case rel =>
                    refine ⟨o + j, f, if cap - o = j then o else o + j, out ++ (l.take j).flatMap emitU, by omega, slice_step g o j cap acc.length, ?_, hIj, ?_, by omega, HO', hbj⟩
                    · intro h; rw [if_neg (by omega)]
                    · have := emit_len (l.take j)
                      simp only [List.length_append, List.length_take] at this ⊢
                      omega
                  case measure => simp [lenOf]; omega
          · rw [hdec] at hD
            simp only at hD
            have hms : maxSub l = n := by rw [← hnw, hct]; exact walk_sub c t (by rw [← hct]; exact hw2)
            have HO' : Hid ((out ++ replU) ++ enc f (acc.drop (o + n)) = enc acc.length acc) := by
              show _ = _
              rw [← HO.out, hldef, enc_no f l (by rw [hct]; simp) hw2, hnw, ← hldef, List.drop_drop]
              simp
            clear HO hdec hct hgo hz hldef hnw
            go_wp2_with fail
            refine hD.mono ?_
            rintro e w1 ⟨rfl, hb1⟩
            have hI1 := bld_below hI hb1
            have hs1 := hb1.size
            have hbm1 : Below wm.heap.size wm w1 := hbq.trans (hb1.mono hsq)
            go_wp2_with fail
            refine (Tryd.Builder_WriteString _ _ _ (⟨#[37, 69, 70, 37, 66, 70, 37, 66, 68]⟩ : ByteArray) _ hI1 (by rw [Lib.byteCells_length]; show _ + 9 ≤ _; omega) (by omega)).mono ?_
            rintro e w2 ⟨rfl, hI2, hb2⟩
            have hs2 := hb2.size
            have hbm2 := hbm1.trans hb2
            have hM := maxSub_any l g o (cap - o) w2 (tabs_below hbm2 h4 hTr) (fun j hj => by
              have e1 := hcl j hj
              rw [hbq.cell (p := ⟨g, o + j, none⟩) hgB.2] at e1
              rw [hbm2.cell (p := ⟨g, o + j, none⟩) hgB.2]
              exact e1) (by omega) (by omega) (by omega)
            rw [hll, hms] at hM
            go_wp2_with fail
            refine hM.mono ?_
            rintro e w3 ⟨rfl, hb3⟩
            go_wp2
            go_roundw
            case rel =>
              refine ⟨o + n, f, if cap - o = n then o else o + n, out ++ replU, by omega, ?_, ?_, ?_, ?_, by omega, HO', hbm2.trans (hb3.mono (by omega))⟩
              · exact slice_step g o n cap acc.length
              · intro h; rw [if_neg (by omega)]
              · rw [Lib.byteCells_append]; exact bld_below (Or.inr hI2) hb3
              · simp [replU]; omega
            case measure => simp [lenOf]; omega
        · have hke : k = acc.length := by omega
          have HF : Hid (out = enc acc.length acc) := by
            have h := HO.out
            rw [List.drop_eq_nil_of_le (by omega), enc_nil, List.append_nil] at h
            exact h
          clear HO hok
          subst hke
          go_wp2_with (go_at_call 46; refine (Tryd.Builder_String_any _ _ out _ hI (by omega)).mono ?_; rintro e w1 ⟨rfl, hb1⟩)
          go_ret
          refine ⟨?_, hb.trans ((hbq.mono hsz).trans (hb1.mono hsz))⟩
          rw [HRE.out, ← HF.out]
          rfl
end Go.Proofs.Qxb6003899aDoor
