/-
  Seat b6003984aF: zzc3AuthModel, the law's own reader.
-/
import Derived.Test.Qxb6003984aFmtRowsTwo
set_option linter.unusedSimpArgs false
set_option linter.unusedVariables false
namespace Go.Proofs.Qxb6003984aFmt
open Go.RowKit

theorem token_way (s : ByteArray) (i k : Nat) (hik : i ≤ s.size) (HR : skipP tcharB s.data.toList k = skipP tcharB s.data.toList i) :
    (∃ (hkl : k < s.size) (y : UInt8), s[k]'hkl = y ∧ tcharB y = true ∧ Hid (skipP tcharB s.data.toList (k + 1) = skipP tcharB s.data.toList i)) ∨
      (Hid (skipP tcharB s.data.toList i = k) ∧ ((¬ k < s.size) ∨ ∃ (hkl : k < s.size) (y : UInt8), s[k]'hkl = y ∧ tcharB y = false)) := by
  have hl := len_eq s
  by_cases hkl : k < s.size
  · cases ht : tcharB (s[k]'hkl) with
    | true =>
      refine Or.inl ⟨hkl, _, rfl, ht, ?_⟩
      show _ = _
      rw [← HR, skipP_step tcharB _ k (by omega) (by rw [str_at s k hkl]; exact ht)]
    | false =>
      refine Or.inr ⟨?_, Or.inr ⟨hkl, _, rfl, ht⟩⟩
      show _ = _
      rw [← HR]
      exact skipP_stop _ _ k (fun h => by rw [str_at s k hkl, ht] at h; exact absurd h.2 (by simp))
  · refine Or.inr ⟨?_, Or.inl hkl⟩
    show _ = _
    rw [← HR]
    exact skipP_stop _ _ k (fun h => by omega)

set_option maxRecDepth 1000000 in
set_option maxHeartbeats 4000000 in
theorem model_any (s : ByteArray) (w : World) (hs : s.size ≤ 1048576) : Calls Tryf.prog 8 #[.string s] w (ModelOut (resL s) w) := by
  obtain ⟨i0, hi, hz0, hz1, hz2⟩ := info_parts info9
  obtain ⟨b0, hbi, hb0, hb1', hb2'⟩ := info_parts info5
  have hl := len_eq s
  go_enter Tryf.func8, Tryf.ntmps8
  go_wp2
  go_loopw [5, 6, 8] (fun t5 t6 ti wr => ∃ (i f : Nat) (acc : List (ByteArray × ByteArray)), i ≤ s.size ∧ ti = .int .i64 i ∧ s.size + 1 ≤ i + f ∧ acc.length ≤ i ∧ TwoRows wr w.heap.size t5 t6 acc ∧
      Hid (behindP acc (parseL s f i) = parseL s (s.size + 1) 0) ∧ Below w.heap.size w wr) (fun _ _ ti _ => s.size - (intOf ti).toNat)
  case atStart => exact ⟨0, s.size + 1, [], by omega, rfl, by omega, by simp, two_nil _ _, (by show _ = _; unfold behindP; simp), Below.refl _ _⟩
  case round =>
    obtain ⟨i, f, acc, hi', rfl, hf, hacc, hrows, HQ, hb⟩ := hrel
    obtain ⟨wm, rfl⟩ : ∃ wm, wm = wr := ⟨_, rfl⟩
    have hszm := hb.size
    obtain ⟨f, rfl⟩ : ∃ f', f = f' + 1 := ⟨f - 1, by omega⟩
    by_cases hil : i < s.size
    · obtain ⟨x, hx⟩ : ∃ x, s[i]'hil = x := ⟨_, rfl⟩
      have hxb := x.toNat_lt
      have HX : Hid (byteAt s.data.toList i = x) := by show _ = _; rw [str_at s i hil, hx]
      cases hsep : sepB x with
      | true =>
        have HQ' : Hid (behindP acc (parseL s f (i + 1)) = parseL s (s.size + 1) 0) := by
          show _ = _
          rw [← HQ.out, parseL_sep s f i (by omega) (by rw [HX.out]; exact hsep)]
        clear HQ HX
        rcases sep_three x hsep with rfl | rfl | rfl
        all_goals
          clear hsep
          go_wp2
          go_roundw
          case rel => exact ⟨i + 1, f, acc, by omega, by go_num, by omega, by omega, hrows, HQ', hb⟩
          case measure => simp [intOf]; omega
      | false =>
        obtain ⟨h32, h9, h44⟩ := sep_not x hsep
        have HS : Hid (sepB (byteAt s.data.toList i) = false) := by show _ = _; rw [HX.out]; exact hsep
        clear hsep HX
        go_wp2
        clear h32 h9 h44 hx
        go_loop [8] (fun t => ∃ k : Nat, k ≤ s.size ∧ i ≤ k ∧ t = .int .i64 k ∧ Hid (skipP tcharB s.data.toList k = skipP tcharB s.data.toList i)) (fun t => s.size - (intOf t).toNat)
        case atStart => exact ⟨i, by omega, Nat.le_refl _, rfl, rfl⟩
        case round =>
          obtain ⟨k, hk, hik, rfl, HR⟩ := hrel
          have hway2 := token_way s i k (by omega) HR.out
          rcases hway2 with ⟨hkl, y, hy, ht, hstep⟩ | ⟨HE, hstop⟩
          · have HR' : Hid (skipP tcharB s.data.toList (k + 1) = skipP tcharB s.data.toList i) := hstep
            clear HR hstep
            go_wp2_with (go_at_call 18; refine (tchar_any _ _).mono ?_; rintro e w' ⟨rfl, hw⟩; subst w')
            go_round
            case rel => exact ⟨k + 1, by omega, by omega, by go_num, HR'⟩
            case measure => simp [intOf]; omega
          · clear HR
            by_cases hkj : k = i
            · have HN : Hid (resL s = none) := by
                show _ = _
                refine resL_none s ?_
                rw [← HQ.out, parseL_none s f i (by omega) HS.out (elem_none1 s i (by rw [HE.out, hkj])), behindP_none]
              have hkj' : ((k : Int) == (i : Int)) = true := by simp; omega
              have hks : k < s.size := by omega
              rcases hstop with hnl | ⟨hkl, y, hy, ht⟩
              · omega
              clear HQ HE HS hkj hks
              go_wp2_with (go_at_call 18; refine (tchar_any _ _).mono ?_; rintro e w' ⟨rfl, hw⟩; subst w')
              go_ret3
              exact model_bad HN.out hb
            · have hkj' : ((k : Int) == (i : Int)) = false := by simp; omega
              obtain ⟨n, hn⟩ : ∃ n, lowerS (s.extract i k) = n := ⟨_, rfl⟩
              have HN : Hid (lowerS (s.extract i k) = n) := hn
              have hlow := fun W => lower_any (s.extract i k) W (by have := extract_le s i k; omega)
              rw [hn] at hlow
              obtain ⟨j2, hj2⟩ : ∃ j2, skipP spaceB s.data.toList k = j2 := ⟨_, rfl⟩
              have hsk := fun W => skip20 s k W hs hk
              rw [hj2] at hsk
              have b2 : k ≤ j2 ∧ j2 ≤ s.size := by rw [← hj2, ← hl]; exact ⟨skipP_ge _ _ _, skipP_le _ _ _ (by omega)⟩
              have HJ2 : Hid (skipP spaceB s.data.toList k = j2) := hj2
              have hjk2 : i < k := by omega
              clear hn hj2 hkj
              have hway3 : (Hid (¬ (j2 < s.data.toList.length ∧ byteAt s.data.toList j2 = 61)) ∧ (((j2 : Int) == (s.size : Int)) = true ∨ (((j2 : Int) == (s.size : Int)) = false ∧ ∃ (hl2 : j2 < s.size) (z : UInt8), s[j2]'hl2 = z ∧ ((z.toNat : Int) == 61) = false ∧ ((z.toNat : Int) != 61) = true))) ∨
                  (Hid (j2 < s.data.toList.length ∧ byteAt s.data.toList j2 = 61) ∧ ((j2 : Int) == (s.size : Int)) = false ∧ ∃ (hl2 : j2 < s.size), s[j2]'hl2 = 61) := by
                by_cases hl2 : j2 < s.size
                · have hne : ((j2 : Int) == (s.size : Int)) = false := by simp; omega
                  by_cases h61 : s[j2]'hl2 = 61
                  · exact Or.inr ⟨⟨by omega, by rw [str_at s j2 hl2]; exact h61⟩, hne, hl2, h61⟩
                  · have h61' : (s[j2]'hl2).toNat ≠ 61 := fun e => h61 (UInt8.toNat_inj.1 e)
                    refine Or.inl ⟨fun h => h61 (by rw [← str_at s j2 hl2]; exact h.2), Or.inr ⟨hne, hl2, _, rfl, ?_, ?_⟩⟩ <;> simp <;> omega
                · refine Or.inl ⟨fun h => hl2 (by omega), Or.inl ?_⟩
                  simp
                  omega
              rcases hstop with hnl2 | ⟨hkl, y, hy, ht⟩
              all_goals
                go_wp2_with (go_at_call 18; refine (tchar_any _ _).mono ?_; rintro e w' ⟨rfl, hw⟩; subst w')
                refine (hlow _).mono ?_
                rintro e w1 ⟨rfl, hb1⟩
                have hbw1 := chain hb hb1
                have hrows1 := two_below hrows hb1
                have hs1 := hbw1.size
                try clear hy ht
                go_wp2_with fail
                refine (hsk _).mono ?_
                rintro e w' ⟨rfl, hw⟩
                subst w'
                rcases hway3 with ⟨HNO, hw3⟩ | ⟨HYES, hne2, hl2, h61⟩
                · have HZ : Hid (resL s = none) := by
                    show _ = _
                    refine resL_none s ?_
                    rw [← HQ.out, parseL_none s f i (by omega) HS.out (elem_none2 s i k j2 HE.out (by omega) HJ2.out HNO.out), behindP_none]
                  clear HQ HS HE HJ2 HNO HN
                  rcases hw3 with h3 | ⟨h3, hl2, z, hz, h61, h61'⟩
                  all_goals try omega
                  all_goals
                    go_wp2
                    go_ret3
                    exact model_bad HZ.out hbw1
                · try omega
                  all_goals
                    obtain ⟨k3, hk3⟩ : ∃ k3, skipP spaceB s.data.toList (j2 + 1) = k3 := ⟨_, rfl⟩
                    have hsk3 : ∀ W, Calls Tryf.prog 20 #[.string s, .int .i64 ((j2 : Int) + 1)] W fun e w' => e = .returned (.int .i64 (k3 : Int)) ∧ w' = W := fun W => by
                      have h := skip20 s (j2 + 1) W hs (by omega)
                      rw [hk3] at h
                      exact h
                    have b3 : j2 + 1 ≤ k3 ∧ k3 ≤ s.size := by rw [← hk3, ← hl]; exact ⟨skipP_ge _ _ _, skipP_le _ _ _ (by omega)⟩
                    have HK3 : Hid (skipP spaceB s.data.toList (j2 + 1) = k3) := hk3
                    clear hk3
                    go_wp2_with fail
                    refine (hsk3 _).mono ?_
                    rintro e w' ⟨rfl, hw⟩
                    subst w'
                    clear h61 hsk hsk3 hlow
                    by_cases hq : k3 < s.size ∧ byteAt s.data.toList k3 = 34
                    · have HV0 : Hid (valueAt s k3 = (quotedAt s.data.toList (k3 + 1)).map fun x => (⟨x.1.toArray⟩, x.2)) := by
                        show _ = _
                        unfold valueAt
                        rw [if_pos ⟨by omega, hq.2⟩]
                      have hk3l := hq.1
                      have hx34 : s[k3]'hk3l = 34 := by rw [← str_at s k3 hk3l]; exact hq.2
                      clear hq
                      go_wp2
                      clear hx34
                      go_loopw [8, 13, 14] (fun t8 t13 t14 wr => ∃ (j g : Nat) (bacc : List UInt8) (cl : Bool), j ≤ s.size ∧ k3 < j ∧ t8 = .int .i64 j ∧ t14 = .bool cl ∧ wr.ownsRow w1.heap.size 5 1 t13 bacc.length (Lib.byteCells bacc) ∧ bacc.length ≤ j ∧
                          (cl = false → s.size + 1 ≤ j + g ∧ Hid (behind bacc (quoted s.data.toList g j) = quotedAt s.data.toList (k3 + 1))) ∧ (cl = true → Hid (quotedAt s.data.toList (k3 + 1) = some (bacc, j))) ∧ Below w1.heap.size w1 wr) (fun t8 _ _ _ => s.size - (intOf t8).toNat)
                      case atStart => exact ⟨k3 + 1, s.size + 1, [], false, by omega, by omega, by go_num, rfl, World.ownsRow_nil _ _ _ _, by simp, (fun _ => ⟨by omega, (by show _ = _; unfold behind quotedAt; rw [hl]; simp)⟩), (fun h => by cases h), Below.refl _ _⟩
                      case round =>
                        obtain ⟨j, g, bacc, cl, hj, hk3j, rfl, rfl, hown, hbl, hcf, hct, hbq⟩ := hrel
                        obtain ⟨wq, rfl⟩ : ∃ wq, wq = wr := ⟨_, rfl⟩
                        have hsq := hbq.size
                        cases cl with
                        | true =>
                          have HC := hct rfl
                          obtain ⟨v, hvd⟩ : ∃ v : ByteArray, (⟨bacc.toArray⟩ : ByteArray) = v := ⟨_, rfl⟩
                          have hcv := conv_back wq _ _ bacc hown
                          rw [hvd] at hcv
                          obtain ⟨q, hqj⟩ : ∃ q, q = j := ⟨_, rfl⟩
                          subst hqj
                          have HV : Hid (valueAt s k3 = some (v, q)) := by
                            show _ = _
                            rw [HV0.out, HC.out, ← hvd]
                            rfl
                          have bq : k3 ≤ q ∧ q ≤ s.size := ⟨by omega, hj⟩
                          have hbwq : Below w.heap.size w wq := chain hbw1 hbq
                          have hrowsq := two_below hrows1 hbq
                          clear hcf hct HC HV0 hvd
                          by_cases hql : q < s.size
                          all_goals
                            obtain ⟨m, hm⟩ : ∃ m, skipP spaceB s.data.toList q = m := ⟨_, rfl⟩
                            have hskq := fun W => skip20 s q W hs bq.2
                            rw [hm] at hskq
                            have bm : q ≤ m ∧ m ≤ s.size := by rw [← hm, ← hl]; exact ⟨skipP_ge _ _ _, skipP_le _ _ _ (by omega)⟩
                            have HM : Hid (skipP spaceB s.data.toList q = m) := hm
                            clear hm
                            go_wp2_with fail
                            refine (hskq _).mono ?_
                            rintro e w' ⟨rfl, hw⟩
                            subst w'
                            have hway4 : (∃ (hml : m < s.size) (z : UInt8), s[m]'hml = z ∧ Hid (byteAt s.data.toList m ≠ 44) ∧ ((z.toNat : Int) == 44) = false ∧ ((z.toNat : Int) != 44) = true) ∨
                                (Hid (¬ (m < s.data.toList.length ∧ byteAt s.data.toList m ≠ 44)) ∧ ((¬ m < s.size) ∨ ∃ (hml : m < s.size), s[m]'hml = 44)) := by
                              by_cases hml : m < s.size
                              · by_cases h44 : s[m]'hml = 44
                                · exact Or.inr ⟨fun h => h.2 (by rw [str_at s m hml]; exact h44), Or.inr ⟨hml, h44⟩⟩
                                · have h44' : (s[m]'hml).toNat ≠ 44 := fun e => h44 (UInt8.toNat_inj.1 e)
                                  refine Or.inl ⟨hml, _, rfl, (by show _ ≠ _; rw [str_at s m hml]; exact h44), ?_, ?_⟩ <;> simp <;> omega
                              · exact Or.inr ⟨fun h => hml (by omega), Or.inl hml⟩
                            rcases hway4 with ⟨hml, z, hz, HB, h44, h44'⟩ | ⟨HB, hw4⟩
                            · have HZ : Hid (resL s = none) := by
                                show _ = _
                                refine resL_none s ?_
                                rw [← HQ.out, parseL_none s f i (by omega) HS.out (elem_none4 s i k j2 k3 v q m HE.out (by omega) HJ2.out HYES.out HK3.out HV.out HM.out ⟨by omega, HB.out⟩), behindP_none]
                              clear HQ HS HE HJ2 HYES HN HK3 HM HV HB
                              try omega
                              all_goals
                                go_wp2
                                go_ret3
                                exact model_bad HZ.out (hbwq)
                            · have HQ' : Hid (behindP (acc ++ [(n, v)]) (parseL s f m) = parseL s (s.size + 1) 0) := by
                                show _ = _
                                have he := elem_some s i k j2 k3 v q m HE.out (by omega) HJ2.out HYES.out HK3.out HV.out HM.out HB.out
                                rw [HN.out] at he
                                rw [← HQ.out, parseL_elem s f i n v m (by omega) HS.out he, behindP_push]
                              clear HQ HS HE HJ2 HYES HN HK3 HM HV HB
                              have hs2 := (hbwq).size
                              rcases hw4 with h4 | ⟨hml, h44⟩
                              all_goals try omega
                              all_goals
                                go_wp2_with (first | (at_builtin; refine wpList_append_own_at _ rfl (.tmp 167) (.tmp 169) 28 rfl w.heap.size 9 i0 _ 1 16 Tryf.underlying28 hi hz0 hz1 hz2 rfl (by decide) _ _ _ rfl ((hrowsq).1.alloc _) ⟨wq.heap.size, 0, none⟩ 1 1 [.string n] rfl rfl (cell_one_new _ _ _) (one_str _) (by unfold maxLen; omega) (by omega) (by simp; omega) ?_; intro v5' w5 h5 g5 _ l5; have hs5 := g5.size; have h6k := two_keep6 (hrowsq) g5) | (at_builtin; refine wpList_append_own_at _ rfl (.tmp 171) (.tmp 173) 28 rfl w.heap.size 9 i0 _ 1 16 Tryf.underlying28 hi hz0 hz1 hz2 rfl (by decide) _ _ _ rfl (h6k.alloc _) ⟨w5.heap.size, 0, none⟩ 1 1 [.string v] rfl rfl (cell_one_new _ _ _) (one_str _) (by unfold maxLen; omega) (by omega) (by simp at hs5 ⊢; omega) ?_; intro v6' w6 h6 g6 _ l6))
                                go_roundw
                                case rel =>
                                  refine ⟨m, f, acc ++ [(n, v)], by omega, rfl, by omega, by simp; omega, two_push (hrowsq) h5 g5 l5 h6 g6 l6, HQ', ?_⟩
                                  have hb5 := (chainA (hbwq) _).grown g5 (by simp; omega) (fun k hk => ((hrowsq).1.lt k hk).1)
                                  exact (chainA hb5 _).grown g6 (by simp at hs5 ⊢; omega) (fun k hk => (h6k.lt k hk).1)
                                case measure => simp [intOf]; omega
                        | false =>
                          obtain ⟨hg, HC⟩ := hcf rfl
                          clear hcf hct
                          obtain ⟨g, rfl⟩ : ∃ g', g = g' + 1 := ⟨g - 1, by omega⟩
                          have HBAD : Hid (quotedAt s.data.toList (k3 + 1) = none → resL s = none) := by
                            intro hnone
                            refine resL_none s ?_
                            have hv : valueAt s k3 = none := by rw [HV0.out, hnone]; rfl
                            rw [← HQ.out, parseL_none s f i (by omega) HS.out (elem_none3 s i k j2 k3 HE.out (by omega) HJ2.out HYES.out HK3.out hv), behindP_none]
                          clear HQ HS HE HJ2 HYES HN HK3 HV0
                          by_cases hjl : j < s.size
                          · obtain ⟨y, hy⟩ : ∃ y, s[j]'hjl = y := ⟨_, rfl⟩
                            have hyb := y.toNat_lt
                            have HY : Hid (byteAt s.data.toList j = y) := by show _ = _; rw [str_at s j hjl, hy]
                            by_cases h34 : y = 34
                            · subst h34
                              have HC' : Hid (quotedAt s.data.toList (k3 + 1) = some (bacc, j + 1)) := by
                                show _ = _
                                rw [← HC.out, quoted_close _ g j (by omega) HY.out]
                                simp [behind]
                              clear HC HBAD
                              go_wp2
                              go_roundw
                              case rel => exact ⟨j + 1, g, bacc, true, by omega, by omega, by go_num, rfl, hown, by omega, (fun h => by cases h), (fun _ => HC'), hbq⟩
                              case measure => simp [intOf]; omega
                            · have h34n : y.toNat ≠ 34 := fun e => h34 (UInt8.toNat_inj.1 e)
                              have h34' : ((y.toNat : Int) == 34) = false := by simp; omega
                              by_cases h92 : y = 92
                              · subst h92
                                by_cases h2 : j + 1 < s.size
                                · obtain ⟨z, hz⟩ : ∃ z, s[j + 1]'h2 = z := ⟨_, rfl⟩
                                  have hzb := z.toNat_lt
                                  have HZ1 : Hid (byteAt s.data.toList (j + 1) = z) := by show _ = _; rw [str_at s (j + 1) h2, hz]
                                  cases hok : okB z with
                                  | true =>
                                    have HC' : Hid (behind (bacc ++ [z]) (quoted s.data.toList g (j + 2)) = quotedAt s.data.toList (k3 + 1)) := by
                                      show _ = _
                                      rw [← HC.out, quoted_esc _ g j (by omega) HY.out, HZ1.out, if_pos ⟨by omega, hok⟩, behind_push]
                                    clear HC HBAD
                                    go_wp2_with (first | (go_at_call 21; refine (qpair_any _ _).mono ?_; rintro e w' ⟨rfl, hw⟩; subst w') | (at_builtin; refine wpList_append_own _ rfl (.tmp 114) (.tmp 119) 40 rfl w1.heap.size 5 b0 (.int .u8 0) 1 1 Tryf.underlying40 hbi hb0 hb1' hb2' rfl (by decide) _ _ _ rfl (hown.alloc _) ⟨wq.heap.size, 0, none⟩ 1 1 [.int .u8 z.toNat] rfl rfl (cell_one_new _ _ _) (one_byte _) (by unfold maxLen; omega) (by omega) (by simp; omega) ?_; intro v' w2 hown' hgrow _))
                                    obtain ⟨r1, r2⟩ := push_bytes (Nat.le_refl _) hbq hown hown' hgrow
                                    go_roundw
                                    case rel => exact ⟨j + 2, g, bacc ++ [z], false, by omega, by omega, by go_num, rfl, r1, by simp; omega, (fun _ => ⟨by omega, HC'⟩), (fun h => by cases h), r2⟩
                                    case measure => simp [intOf]; omega
                                  | false =>
                                    have HZ : Hid (resL s = none) := HBAD.out (by rw [← HC.out, quoted_esc _ g j (by omega) HY.out, HZ1.out, if_neg (fun h => by rw [hok] at h; exact absurd h.2 (by simp)), behind_none])
                                    clear HC HBAD
                                    go_wp2_with (go_at_call 21; refine (qpair_any _ _).mono ?_; rintro e w' ⟨rfl, hw⟩; subst w')
                                    go_ret3
                                    exact model_bad HZ.out (chain hbw1 hbq)
                                · have HZ : Hid (resL s = none) := HBAD.out (by rw [← HC.out, quoted_esc _ g j (by omega) HY.out, if_neg (fun h => by omega), behind_none])
                                  clear HC HBAD
                                  go_wp2
                                  go_ret3
                                  exact model_bad HZ.out (chain hbw1 hbq)
                              · have h92n : y.toNat ≠ 92 := fun e => h92 (UInt8.toNat_inj.1 e)
                                have h92' : ((y.toNat : Int) == 92) = false := by simp; omega
                                cases hok : okB y with
                                | true =>
                                  have HC' : Hid (behind (bacc ++ [y]) (quoted s.data.toList g (j + 1)) = quotedAt s.data.toList (k3 + 1)) := by
                                    show _ = _
                                    rw [← HC.out, quoted_one _ g j (by omega) (by rw [HY.out]; exact h34) (by rw [HY.out]; exact h92), HY.out, if_pos hok, behind_push]
                                  clear HC HBAD
                                  go_wp2_with (first | (go_at_call 22; refine (qd_any _ _ h34n h92n).mono ?_; rintro e w' ⟨rfl, hw⟩; subst w') | (at_builtin; refine wpList_append_own _ rfl (.tmp 126) (.tmp 128) 40 rfl w1.heap.size 5 b0 (.int .u8 0) 1 1 Tryf.underlying40 hbi hb0 hb1' hb2' rfl (by decide) _ _ _ rfl (hown.alloc _) ⟨wq.heap.size, 0, none⟩ 1 1 [.int .u8 y.toNat] rfl rfl (cell_one_new _ _ _) (one_byte _) (by unfold maxLen; omega) (by omega) (by simp; omega) ?_; intro v' w2 hown' hgrow _))
                                  obtain ⟨r1, r2⟩ := push_bytes (Nat.le_refl _) hbq hown hown' hgrow
                                  go_roundw
                                  case rel => exact ⟨j + 1, g, bacc ++ [y], false, by omega, by omega, by go_num, rfl, r1, by simp; omega, (fun _ => ⟨by omega, HC'⟩), (fun h => by cases h), r2⟩
                                  case measure => simp [intOf]; omega
                                | false =>
                                  have HZ : Hid (resL s = none) := HBAD.out (by rw [← HC.out, quoted_one _ g j (by omega) (by rw [HY.out]; exact h34) (by rw [HY.out]; exact h92), HY.out, if_neg (by rw [hok]; simp), behind_none])
                                  clear HC HBAD
                                  go_wp2_with (go_at_call 22; refine (qd_any _ _ h34n h92n).mono ?_; rintro e w' ⟨rfl, hw⟩; subst w')
                                  go_ret3
                                  exact model_bad HZ.out (chain hbw1 hbq)
                          · have HZ : Hid (resL s = none) := HBAD.out (by rw [← HC.out, quoted_end _ _ j (by omega), behind_none])
                            clear HC HBAD
                            go_wp2
                            go_ret3
                            exact model_bad HZ.out (chain hbw1 hbq)
                    · have HV0 : Hid (valueAt s k3 = if skipP tcharB s.data.toList k3 = k3 then none else some (s.extract k3 (skipP tcharB s.data.toList k3), skipP tcharB s.data.toList k3)) := by
                        show _ = _
                        unfold valueAt
                        rw [if_neg (fun h => hq ⟨by omega, h.2⟩)]
                      have hway5 : (¬ k3 < s.size) ∨ (∃ (hlt : k3 < s.size) (z : UInt8), s[k3]'hlt = z ∧ ((z.toNat : Int) == 34) = false) := by
                        by_cases hlt : k3 < s.size
                        · right
                          have : (s[k3]'hlt).toNat ≠ 34 := fun e => hq ⟨hlt, by rw [str_at s k3 hlt]; exact UInt8.toNat_inj.1 e⟩
                          refine ⟨hlt, _, rfl, ?_⟩
                          simp
                          omega
                        · exact Or.inl hlt
                      clear hq
                      rcases hway5 with h5 | ⟨h5, z, hz, hz34⟩
                      all_goals
                        go_wp2
                        try clear hz hz34
                        go_loop [8] (fun t => ∃ q : Nat, q ≤ s.size ∧ k3 ≤ q ∧ t = .int .i64 q ∧ Hid (skipP tcharB s.data.toList q = skipP tcharB s.data.toList k3)) (fun t => s.size - (intOf t).toNat)
                        case atStart => exact ⟨k3, by omega, Nat.le_refl _, rfl, rfl⟩
                        case round =>
                          obtain ⟨q, hq1, hq2, rfl, HR⟩ := hrel
                          have hway6 := token_way s k3 q (by omega) HR.out
                          rcases hway6 with ⟨hql, y, hy, ht, hstep⟩ | ⟨HE3, hstop3⟩
                          · have HR' : Hid (skipP tcharB s.data.toList (q + 1) = skipP tcharB s.data.toList k3) := hstep
                            clear HR hstep
                            try omega
                            all_goals
                              go_wp2_with (go_at_call 18; refine (tchar_any _ _).mono ?_; rintro e w' ⟨rfl, hw⟩; subst w')
                              go_round
                              case rel => exact ⟨q + 1, by omega, by omega, by go_num, HR'⟩
                              case measure => simp [intOf]; omega
                          · clear HR
                            by_cases hqk : q = k3
                            · have HZ : Hid (resL s = none) := by
                                show _ = _
                                refine resL_none s ?_
                                have hv : valueAt s k3 = none := by rw [HV0.out, if_pos (by rw [HE3.out, hqk])]
                                rw [← HQ.out, parseL_none s f i (by omega) HS.out (elem_none3 s i k j2 k3 HE.out (by omega) HJ2.out HYES.out HK3.out hv), behindP_none]
                              have hqk' : ((q : Int) == (k3 : Int)) = true := by simp; omega
                              clear HQ HS HE HJ2 HYES HN HK3 HV0 HE3
                              rcases hstop3 with hnl | ⟨hql, y, hy, ht⟩
                              all_goals try omega
                              all_goals
                                clear hqk
                                go_wp2_with (go_at_call 18; refine (tchar_any _ _).mono ?_; rintro e w' ⟨rfl, hw⟩; subst w')
                                go_ret3
                                exact model_bad HZ.out hbw1
                            · obtain ⟨v, hvd⟩ : ∃ v, s.extract k3 q = v := ⟨_, rfl⟩
                              have HV : Hid (valueAt s k3 = some (v, q)) := by
                                show _ = _
                                rw [HV0.out, if_neg (by rw [HE3.out]; exact hqk), HE3.out, hvd]
                              have bq : k3 ≤ q ∧ q ≤ s.size := ⟨hq2, hq1⟩
                              have hqk' : ((q : Int) == (k3 : Int)) = false := by simp; omega
                              clear HV0 HE3 hqk
                              rcases hstop3 with hnl | ⟨hql, y, hy, ht⟩
                              all_goals try omega
                              all_goals
                                go_wp2_with (go_at_call 18; refine (tchar_any _ _).mono ?_; rintro e w' ⟨rfl, hw⟩; subst w')
                                try clear hy ht
                                obtain ⟨m, hm⟩ : ∃ m, skipP spaceB s.data.toList q = m := ⟨_, rfl⟩
                                have hskq := fun W => skip20 s q W hs bq.2
                                rw [hm] at hskq
                                have bm : q ≤ m ∧ m ≤ s.size := by rw [← hm, ← hl]; exact ⟨skipP_ge _ _ _, skipP_le _ _ _ (by omega)⟩
                                have HM : Hid (skipP spaceB s.data.toList q = m) := hm
                                clear hm
                                go_wp2_with fail
                                refine (hskq _).mono ?_
                                rintro e w' ⟨rfl, hw⟩
                                subst w'
                                have hway4 : (∃ (hml : m < s.size) (z : UInt8), s[m]'hml = z ∧ Hid (byteAt s.data.toList m ≠ 44) ∧ ((z.toNat : Int) == 44) = false ∧ ((z.toNat : Int) != 44) = true) ∨
                                    (Hid (¬ (m < s.data.toList.length ∧ byteAt s.data.toList m ≠ 44)) ∧ ((¬ m < s.size) ∨ ∃ (hml : m < s.size), s[m]'hml = 44)) := by
                                  by_cases hml : m < s.size
                                  · by_cases h44 : s[m]'hml = 44
                                    · exact Or.inr ⟨fun h => h.2 (by rw [str_at s m hml]; exact h44), Or.inr ⟨hml, h44⟩⟩
                                    · have h44' : (s[m]'hml).toNat ≠ 44 := fun e => h44 (UInt8.toNat_inj.1 e)
                                      refine Or.inl ⟨hml, _, rfl, (by show _ ≠ _; rw [str_at s m hml]; exact h44), ?_, ?_⟩ <;> simp <;> omega
                                  · exact Or.inr ⟨fun h => hml (by omega), Or.inl hml⟩
                                rcases hway4 with ⟨hml, z, hz, HB, h44, h44'⟩ | ⟨HB, hw4⟩
                                · have HZ : Hid (resL s = none) := by
                                    show _ = _
                                    refine resL_none s ?_
                                    rw [← HQ.out, parseL_none s f i (by omega) HS.out (elem_none4 s i k j2 k3 v q m HE.out (by omega) HJ2.out HYES.out HK3.out HV.out HM.out ⟨by omega, HB.out⟩), behindP_none]
                                  clear HQ HS HE HJ2 HYES HN HK3 HM HV HB
                                  try omega
                                  all_goals
                                    go_wp2
                                    go_ret3
                                    exact model_bad HZ.out (hbw1)
                                · have HQ' : Hid (behindP (acc ++ [(n, v)]) (parseL s f m) = parseL s (s.size + 1) 0) := by
                                    show _ = _
                                    have he := elem_some s i k j2 k3 v q m HE.out (by omega) HJ2.out HYES.out HK3.out HV.out HM.out HB.out
                                    rw [HN.out] at he
                                    rw [← HQ.out, parseL_elem s f i n v m (by omega) HS.out he, behindP_push]
                                  clear HQ HS HE HJ2 HYES HN HK3 HM HV HB
                                  have hs2 := (hbw1).size
                                  rcases hw4 with h4 | ⟨hml, h44⟩
                                  all_goals try omega
                                  all_goals
                                    go_wp2_with (first | (at_builtin; refine wpList_append_own_at _ rfl (.tmp 167) (.tmp 169) 28 rfl w.heap.size 9 i0 _ 1 16 Tryf.underlying28 hi hz0 hz1 hz2 rfl (by decide) _ _ _ rfl ((hrows1).1.alloc _) ⟨w1.heap.size, 0, none⟩ 1 1 [.string n] rfl rfl (cell_one_new _ _ _) (one_str _) (by unfold maxLen; omega) (by omega) (by simp; omega) ?_; intro v5' w5 h5 g5 _ l5; have hs5 := g5.size; have h6k := two_keep6 (hrows1) g5) | (at_builtin; refine wpList_append_own_at _ rfl (.tmp 171) (.tmp 173) 28 rfl w.heap.size 9 i0 _ 1 16 Tryf.underlying28 hi hz0 hz1 hz2 rfl (by decide) _ _ _ rfl (h6k.alloc _) ⟨w5.heap.size, 0, none⟩ 1 1 [.string v] rfl rfl (cell_one_new _ _ _) (one_str _) (by unfold maxLen; omega) (by omega) (by simp at hs5 ⊢; omega) ?_; intro v6' w6 h6 g6 _ l6))
                                    go_roundw
                                    case rel =>
                                      refine ⟨m, f, acc ++ [(n, v)], by omega, rfl, by omega, by simp; omega, two_push (hrows1) h5 g5 l5 h6 g6 l6, HQ', ?_⟩
                                      have hb5 := (chainA (hbw1) _).grown g5 (by simp; omega) (fun k hk => ((hrows1).1.lt k hk).1)
                                      exact (chainA hb5 _).grown g6 (by simp at hs5 ⊢; omega) (fun k hk => (h6k.lt k hk).1)
                                    case measure => simp [intOf]; omega
    · have hie : i = s.size := by omega
      have HT : Hid (parseL s (s.size + 1) 0 = some acc) := by
        show _ = _
        rw [← HQ.out, parseL_end s f i (by omega), behindP_nil]
      clear HQ
      rcases hrows.1.2 with ⟨hv5, h0⟩ | ⟨g, cap, cur, hv5, hg1, hg2, hg3, hg4, _, _⟩
      · have hnil : acc = [] := List.eq_nil_of_length_eq_zero h0
        have HZ : Hid (resL s = some acc) := resL_some s acc HT.out (by rw [hnil]; rfl)
        clear HT
        subst hv5
        go_wp2
        go_loop [17] (fun t => t = .int .i64 0) (fun t => 0)
        case atStart => rfl
        case round =>
          obtain rfl := hrel
          go_wp2
          go_ret3
          exact model_good HZ.out hb hrows
      · subst hv5
        have hgl : g < wm.heap.size := (hrows.1.lt g rfl).2
        have hcells : ∀ (j : Nat) (p : ByteArray × ByteArray), acc[j]? = some p → wm.cell? ⟨g, j, none⟩ = some (.string p.1) := by
          intro j p hp
          obtain ⟨hjl, _⟩ := List.getElem?_eq_some_iff.1 hp
          rw [hrows.1.cellAt j (by omega), List.getElem?_map, hp]
          rfl
        go_wp2
        go_loopw [17] (fun t wr => ∃ j : Nat, j ≤ acc.length ∧ t = .int .i64 j ∧ Hid (((acc.map Prod.fst).take j).Nodup) ∧ Below wm.heap.size wm wr) (fun t _ => acc.length - (intOf t).toNat)
        case atStart => exact ⟨0, by omega, rfl, (by show List.Nodup _; simp), Below.refl _ _⟩
        case round =>
          obtain ⟨j, hj, rfl, HN, hbj⟩ := hrel
          obtain ⟨wj, rfl⟩ : ∃ wj, wj = wr := ⟨_, rfl⟩
          by_cases hjl : j < acc.length
          · obtain ⟨p, hp⟩ : ∃ p, acc[j]? = some p := ⟨acc[j], by simp [hjl]⟩
            obtain ⟨n1, v1⟩ := p
            have HP : Hid (acc[j]? = some (n1, v1)) := hp
            clear hp
            go_wp2
            go_loopw [18] (fun t wr => ∃ k : Nat, k ≤ j ∧ t = .int .i64 k ∧ Hid (∀ j' y, j' < k → (acc.map Prod.fst)[j']? = some y → y ≠ n1) ∧ Below wm.heap.size wm wr) (fun t _ => j - (intOf t).toNat)
            case atStart => exact ⟨0, by omega, rfl, (fun j' y h => by omega), hbj⟩
            case round =>
              obtain ⟨k, hk, rfl, HA, hbk⟩ := hrel
              obtain ⟨wk, rfl⟩ : ∃ wk, wk = wr := ⟨_, rfl⟩
              by_cases hkj : k < j
              · obtain ⟨p, hp⟩ : ∃ p, acc[k]? = some p := ⟨acc[k], by simp [Nat.lt_trans hkj hjl]⟩
                obtain ⟨n2, v2⟩ := p
                have HP2 : Hid (acc[k]? = some (n2, v2)) := hp
                clear hp
                have c1 : wk.cell? ⟨g, j, none⟩ = some (.string n1) := by rw [hbk.cell hgl]; exact hcells j _ HP.out
                have c2 : wk.cell? ⟨g, k, none⟩ = some (.string n2) := by rw [hbk.cell hgl]; exact hcells k _ HP2.out
                by_cases hne : n2 = n1
                · subst hne
                  have HZ : Hid (resL s = none) := resL_twice s acc HT.out (by
                    have := not_nodup (acc.map Prod.fst) j k n2 hkj (by simp [HP.out]) (by simp [HP2.out])
                    simp [this])
                  clear HT HA HN HP HP2
                  go_wp2
                  go_quiet (fail)
                  go_wp2
                  go_ret3
                  exact model_bad HZ.out (chain hb (below_drewN hbk nq))
                · have HA' : Hid (∀ j' y, j' < k + 1 → (acc.map Prod.fst)[j']? = some y → y ≠ n1) := by
                    intro j' y h1 h2
                    by_cases h : j' = k
                    · subst h
                      simp [HP2.out] at h2
                      subst h2
                      exact hne
                    · exact HA.out j' y (by omega) h2
                  have e1 : (n1.toList == n2.toList) = false := str_ne (fun e => hne e.symm)
                  clear HA HN HP HP2 HT
                  go_wp2
                  go_quiet (fail)
                  go_wp2
                  go_roundw
                  case rel => exact ⟨k + 1, by omega, by go_num, HA', below_drewN hbk nq⟩
                  case measure => simp [intOf]; omega
              · have hkj' : k = j := by omega
                subst hkj'
                have HN' : Hid (((acc.map Prod.fst).take (k + 1)).Nodup) := nodup_step _ k n1 (by simp [HP.out]) HN.out HA.out
                clear HN HA HP
                go_wp2
                go_roundw
                case rel => exact ⟨k + 1, by omega, by go_num, HN', hbk⟩
                case measure => simp [intOf]; omega
          · have HZ : Hid (resL s = some acc) := resL_some s acc HT.out (by
              have := HN.out
              rw [List.take_of_length_le (by simp; omega)] at this
              simp [this])
            clear HT HN
            go_wp2
            go_ret3
            exact model_good HZ.out (chain hb hbj) (two_below hrows hbj)
end Go.Proofs.Qxb6003984aFmt
