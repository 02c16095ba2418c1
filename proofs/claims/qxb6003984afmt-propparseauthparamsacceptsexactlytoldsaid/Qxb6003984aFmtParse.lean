/-
  Seat b6003984aF: parseAuthParams.
-/
import Derived.Test.Qxb6003984aFmtValue
import Derived.Test.Qxb6003984aFmtKeys
import Derived.Test.Qxb6003984aFmtSteps
set_option linter.unusedSimpArgs false
set_option linter.unusedVariables false
namespace Go.Proofs.Qxb6003984aFmt
open Go.RowKit Go.Extern.Stop Go.Stop Go.Extern

theorem info33 : (Tryf.prog.info? 33).map (fun i => (i.zero, i.size, i.bytes)) = some (some (.agg #[.string ⟨#[]⟩, .string ⟨#[]⟩]), 2, 32) := by kernel_rfl

theorem own_below {w w' : World} {B e sz n : Nat} {v : Value} {xs : List Value} (h : w.ownsRow B e sz v n xs) (hb : Below w.heap.size w w') : w'.ownsRow B e sz v n xs :=
  h.kept (row := none) ⟨hb.os, hb.tape, hb.output, hb.size, fun k hk _ => hb.block k hk⟩ (by cases v.ownBlock <;> simp)
theorem chain {w a b : World} (h1 : Below w.heap.size w a) (h2 : Below a.heap.size a b) : Below w.heap.size w b := h1.trans (h2.mono h1.size)
theorem chainA {w a : World} (h1 : Below w.heap.size w a) (o : Obj) : Below w.heap.size w (a.alloc o) := chain h1 ((Below.refl _ a).alloc (Nat.le_refl _) _)
theorem tape_below {F : Interp} {w a : World} (hF : F.answers w.tape) (h : Below w.heap.size w a) : F.answers a.tape := by rw [h.tape]; exact hF

/-- How parseAuthParams ends. -/
def ParseOut (o : Option (List (ByteArray × ByteArray))) (w : World) (e : Ending) (w' : World) : Prop :=
  Below w.heap.size w w' ∧ (∀ ps, o = some ps → ∃ v, e = .returned (.tuple #[v, .nilIface]) ∧ w'.ownsRow w.heap.size 33 2 v ps.length (pairCells ps)) ∧ (o = none → ∃ t x, e = .returned (.tuple #[t, .iface 83 x]))
theorem parse_bad {o : Option (List (ByteArray × ByteArray))} {w w' : World} {t x : Value} (ho : o = none) (hb : Below w.heap.size w w') : ParseOut o w (.returned (.tuple #[t, .iface 83 x])) w' := by
  subst ho
  refine ⟨hb, fun ps h => ?_, fun _ => ⟨_, _, rfl⟩⟩
  cases h
theorem parse_good {o : Option (List (ByteArray × ByteArray))} {w w' : World} {v : Value} {ps : List (ByteArray × ByteArray)} (ho : o = some ps) (hb : Below w.heap.size w w') (hown : w'.ownsRow w.heap.size 33 2 v ps.length (pairCells ps)) :
    ParseOut o w (.returned (.tuple #[v, .nilIface])) w' := by
  subst ho
  refine ⟨hb, fun ps' h => ?_, fun h => by cases h⟩
  cases h
  exact ⟨v, rfl, hown⟩
theorem cells_two (w : World) (n v : ByteArray) (T : TypeId) : ∀ j u, [Value.string n, Value.string v][j]? = some u → (w.alloc (.cells #[.string n, .string v] T)).cell? ((⟨w.heap.size, 0, none⟩ : Addr).add j) = some u := by
  intro j u hj
  match j, hj with
  | 0, hj => simp at hj; subst hj; simp [Addr.add]
  | 1, hj => simp at hj; subst hj; simp [Addr.add]
theorem one_two (n v : ByteArray) : ∀ u ∈ [Value.string n, Value.string v], u.oneCell' = true := by
  intro u hu; simp at hu; rcases hu with rfl | rfl <;> rfl
theorem sep_three (x : UInt8) (h : sepB x = true) : x = 32 ∨ x = 9 ∨ x = 44 := by
  simp [sepB] at h; rcases h with (h | h) | h <;> simp [h]
theorem sep_not (x : UInt8) (h : sepB x = false) : ((x.toNat : Int) == 32) = false ∧ ((x.toNat : Int) == 9) = false ∧ ((x.toNat : Int) == 44) = false := by
  simp [sepB] at h
  obtain ⟨⟨h1, h2⟩, h3⟩ := h
  have e1 : x.toNat ≠ 32 := fun e => h1 (UInt8.toNat_inj.1 e)
  have e2 : x.toNat ≠ 9 := fun e => h2 (UInt8.toNat_inj.1 e)
  have e3 : x.toNat ≠ 44 := fun e => h3 (UInt8.toNat_inj.1 e)
  refine ⟨?_, ?_, ?_⟩ <;> simp <;> omega

set_option maxRecDepth 1000000 in
set_option maxHeartbeats 4000000 in
theorem parse_any (F : Interp) (s : ByteArray) (w : World) (hF : F.answers w.tape) (hs : s.size ≤ 1048576) : Calls Tryf.prog 17 #[.string s] w (ParseOut (resL s) w) := by
  obtain ⟨i0, hi, hz0, hz1, hz2⟩ := info_parts info33
  have hl := len_eq s
  go_enter Tryf.func17, Tryf.ntmps17
  go_wp2
  go_loopw [4, 5] (fun tv ti wr => ∃ (i f : Nat) (acc : List (ByteArray × ByteArray)), i ≤ s.size ∧ ti = .int .i64 i ∧ s.size + 1 ≤ i + f ∧ acc.length ≤ i ∧ wr.ownsRow w.heap.size 33 2 tv acc.length (pairCells acc) ∧
      (∀ (i : Nat) (p : ByteArray × ByteArray), acc[i]? = some p → p.1.size ≤ maxLen) ∧ Hid (behindP acc (parseL s f i) = parseL s (s.size + 1) 0) ∧ Below w.heap.size w wr) (fun _ ti _ => s.size - (intOf ti).toNat)
  case atStart => exact ⟨0, s.size + 1, [], by omega, rfl, by omega, by simp, World.ownsRow_nil _ _ _ _, by simp, (by show _ = _; unfold behindP; simp), Below.refl _ _⟩
  case round =>
    obtain ⟨i, f, acc, hi', rfl, hf, hacc, hown, hnm, HQ, hb⟩ := hrel
    obtain ⟨wm, rfl⟩ : ∃ wm, wm = wr := ⟨_, rfl⟩
    have hFm : F.answers wm.tape := tape_below hF hb
    have hszm := hb.size
    go_wp2
    go_loop [5] (fun t => ∃ j f : Nat, i ≤ j ∧ j ≤ s.size ∧ t = .int .i64 j ∧ s.size + 1 ≤ j + f ∧ Hid (behindP acc (parseL s f j) = parseL s (s.size + 1) 0)) (fun t => s.size - (intOf t).toNat)
    case atStart => exact ⟨i, f, by omega, by omega, rfl, hf, HQ⟩
    case round =>
      obtain ⟨j, f, hij, hj, rfl, hf, HQ⟩ := hrel
      obtain ⟨f, rfl⟩ : ∃ f', f = f' + 1 := ⟨f - 1, by omega⟩
      by_cases hjl : j < s.size
      · obtain ⟨x, hx⟩ : ∃ x, s[j]'hjl = x := ⟨_, rfl⟩
        have hxb := x.toNat_lt
        have HX : Hid (byteAt s.data.toList j = x) := by show _ = _; rw [str_at s j hjl, hx]
        cases hsep : sepB x with
        | true =>
          have HQ' : Hid (behindP acc (parseL s f (j + 1)) = parseL s (s.size + 1) 0) := by
            show _ = _
            rw [← HQ.out, parseL_sep s f j (by omega) (by rw [HX.out]; exact hsep)]
          clear HQ HX
          rcases sep_three x hsep with rfl | rfl | rfl
          all_goals
            clear hsep
            go_wp2
            go_round
            case rel => exact ⟨j + 1, f, by omega, by omega, by go_num, by omega, HQ'⟩
            case measure => simp [intOf]; omega
        | false =>
          obtain ⟨h32, h9, h44⟩ := sep_not x hsep
          have HS : Hid (sepB (byteAt s.data.toList j) = false) := by show _ = _; rw [HX.out]; exact hsep
          have hjne : ((j : Int) == (s.size : Int)) = false := by simp; omega
          clear hsep HX
          go_wp2
          clear h32 h9 h44 hx
          go_loop [5] (fun t => ∃ k : Nat, k ≤ s.size ∧ j ≤ k ∧ t = .int .i64 k ∧ Hid (skipP tcharB s.data.toList k = skipP tcharB s.data.toList j)) (fun t => s.size - (intOf t).toNat)
          case atStart => exact ⟨j, by omega, Nat.le_refl _, rfl, rfl⟩
          case round =>
            obtain ⟨k, hk, hjk, rfl, HR⟩ := hrel
            have hway2 : (∃ (hkl : k < s.size) (y : UInt8), s[k]'hkl = y ∧ tcharB y = true) ∨ (Hid (skipP tcharB s.data.toList j = k) ∧ ((¬ k < s.size) ∨ ∃ (hkl : k < s.size) (y : UInt8), s[k]'hkl = y ∧ tcharB y = false)) := by
              by_cases hkl : k < s.size
              · cases ht : tcharB (s[k]'hkl) with
                | true => exact Or.inl ⟨hkl, _, rfl, ht⟩
                | false =>
                  refine Or.inr ⟨?_, Or.inr ⟨hkl, _, rfl, ht⟩⟩
                  show _ = _
                  rw [← HR.out]
                  exact skipP_stop _ _ k (fun h => by rw [str_at s k hkl, ht] at h; exact absurd h.2 (by simp))
              · refine Or.inr ⟨?_, Or.inl hkl⟩
                show _ = _
                rw [← HR.out]
                exact skipP_stop _ _ k (fun h => by omega)
            rcases hway2 with ⟨hkl, y, hy, ht⟩ | ⟨HE, hstop⟩
            · have HR' : Hid (skipP tcharB s.data.toList (k + 1) = skipP tcharB s.data.toList j) := by
                show _ = _
                rw [← HR.out, skipP_step tcharB _ k (by omega) (by rw [str_at s k hkl, hy]; exact ht)]
              clear HR
              go_wp2_with (go_at_call 25; refine (token_any _ _).mono ?_; rintro e w' ⟨rfl, hw⟩; subst w')
              go_round
              case rel => exact ⟨k + 1, by omega, by omega, by go_num, HR'⟩
              case measure => simp [intOf]; omega
            · clear HR
              by_cases hkj : k = j
              · have HN : Hid (resL s = none) := by
                  show _ = _
                  refine resL_none s ?_
                  rw [← HQ.out, parseL_none s f j (by omega) HS.out (elem_none1 s j (by rw [HE.out, hkj])), behindP_none]
                have hkj' : ((k : Int) == (j : Int)) = true := by simp; omega
                have hks : k < s.size := by omega
                rcases hstop with hnl | ⟨hkl, y, hy, ht⟩
                · omega
                clear HQ HE HS hkj hks
                go_wp2_with (go_at_call 25; refine (token_any _ _).mono ?_; rintro e w' ⟨rfl, hw⟩; subst w')
                refine (errorf1 F (s.extract j s.size) wm.heap.size _ (by exact hFm) (by go_simp)).mono ?_
                rintro e w2 ⟨a, text, rfl, hc, _, hb2⟩
                go_wp2
                go_ret2
                exact parse_bad HN.out (chain (chainA hb _) hb2)
              · have hkj' : ((k : Int) == (j : Int)) = false := by simp; omega
                obtain ⟨n, hn⟩ : ∃ n, lowerS (s.extract j k) = n := ⟨_, rfl⟩
                have hnl : n.size ≤ maxLen := by rw [← hn]; exact name_le s j k hs
                have HN : Hid (lowerS (s.extract j k) = n) := hn
                have hlow := fun W => toLower_any (s.extract j k) W (by have := extract_le s j k; omega) (by have h := name_ascii s j; rw [HE.out] at h; exact h)
                rw [hn] at hlow
                obtain ⟨j2, hj2⟩ : ∃ j2, skipP spaceB s.data.toList k = j2 := ⟨_, rfl⟩
                have hsk := fun W => skip28 s k W hs hk
                rw [hj2] at hsk
                have b2 : k ≤ j2 ∧ j2 ≤ s.size := by rw [← hj2, ← hl]; exact ⟨skipP_ge _ _ _, skipP_le _ _ _ (by omega)⟩
                have HJ2 : Hid (skipP spaceB s.data.toList k = j2) := hj2
                have hjk2 : j < k := by omega
                clear hn hj2 hkj
                have hway3 : (Hid (¬ (j2 < s.data.toList.length ∧ byteAt s.data.toList j2 = 61)) ∧ (((j2 : Int) == (s.size : Int)) = true ∨ (((j2 : Int) == (s.size : Int)) = false ∧ ∃ (hl2 : j2 < s.size) (z : UInt8), s[j2]'hl2 = z ∧ ((z.toNat : Int) == 61) = false ∧ ((z.toNat : Int) != 61) = true))) ∨
                    (Hid (j2 < s.data.toList.length ∧ byteAt s.data.toList j2 = 61) ∧ ((j2 : Int) == (s.size : Int)) = false ∧ ∃ (hl2 : j2 < s.size), s[j2]'hl2 = 61) := by
                  by_cases hl2 : j2 < s.size
                  · have hne : ((j2 : Int) == (s.size : Int)) = false := by simp; omega
                    by_cases h61 : s[j2]'hl2 = 61
                    · exact Or.inr ⟨⟨by omega, by rw [str_at s j2 hl2]; exact h61⟩, hne, hl2, h61⟩
                    · have h61' : (s[j2]'hl2).toNat ≠ 61 := fun e => h61 (UInt8.toNat_inj.1 e)
                      refine Or.inl ⟨fun h => h61 (by rw [← str_at s j2 hl2]; exact h.2), Or.inr ⟨hne, hl2, _, rfl, ?_, ?_⟩⟩ <;> simp <;> omega
                  · refine Or.inl ⟨fun h => hl2 (by omega), Or.inl ?_⟩
                    simp
                    omega
                rcases hstop with hnl2 | ⟨hkl, y, hy, ht⟩
                all_goals
                  go_wp2_with (go_at_call 25; refine (token_any _ _).mono ?_; rintro e w' ⟨rfl, hw⟩; subst w')
                  refine (hlow _).mono ?_
                  rintro e w1 ⟨rfl, hb1⟩
                  have hbw1 := chain hb hb1
                  have hown1 := own_below hown hb1
                  have hF1 : F.answers w1.tape := tape_below hF hbw1
                  try clear hy ht
                  go_wp2_with fail
                  refine (hsk _).mono ?_
                  rintro e w' ⟨rfl, hw⟩
                  subst w'
                  rcases hway3 with ⟨HNO, hw3⟩ | ⟨HYES, hne2, hl2, h61⟩
                  · have HZ : Hid (resL s = none) := by
                      show _ = _
                      refine resL_none s ?_
                      rw [← HQ.out, parseL_none s f j (by omega) HS.out (elem_none2 s j k j2 HE.out (by omega) HJ2.out HNO.out), behindP_none]
                    clear HQ HS HE HJ2 HNO HN
                    rcases hw3 with h3 | ⟨h3, hl2, z, hz, h61, h61'⟩
                    all_goals try omega
                    all_goals
                      go_wp2_with fail
                      refine (errorf2 F n w1.heap.size _ (by exact hF1) (by go_simp)).mono ?_
                      rintro e w2 ⟨a, text, rfl, hc, _, hb2⟩
                      go_wp2
                      go_ret2
                      exact parse_bad HZ.out (chain (chainA hbw1 _) hb2)
                  · try omega
                    all_goals
                      obtain ⟨k3, hk3⟩ : ∃ k3, skipP spaceB s.data.toList (j2 + 1) = k3 := ⟨_, rfl⟩
                      have hsk3 : ∀ W, Calls Tryf.prog 28 #[.string s, .int .i64 ((j2 : Int) + 1)] W fun e w' => e = .returned (.int .i64 (k3 : Int)) ∧ w' = W := fun W => by
                        have h := skip28 s (j2 + 1) W hs (by omega)
                        rw [hk3] at h
                        exact h
                      have b3 : j2 + 1 ≤ k3 ∧ k3 ≤ s.size := by rw [← hk3, ← hl]; exact ⟨skipP_ge _ _ _, skipP_le _ _ _ (by omega)⟩
                      have HK3 : Hid (skipP spaceB s.data.toList (j2 + 1) = k3) := hk3
                      clear hk3
                      go_wp2_with fail
                      refine (hsk3 _).mono ?_
                      rintro e w' ⟨rfl, hw⟩
                      subst w'
                      go_wp2_with fail
                      refine (value_any F s k3 w1 hF1 hs b3.2).mono ?_
                      rintro e w2 ⟨hb2, hsome, hnone⟩
                      have hbw2 := chain hbw1 hb2
                      have hown2 := own_below hown1 hb2
                      have hF2 : F.answers w2.tape := tape_below hF hbw2
                      cases hv : valueAt s k3 with
                      | none =>
                        obtain ⟨t0, q0, a, text, rfl, hca⟩ := hnone hv
                        have HZ : Hid (resL s = none) := by
                          show _ = _
                          refine resL_none s ?_
                          rw [← HQ.out, parseL_none s f j (by omega) HS.out (elem_none3 s j k j2 k3 HE.out (by omega) HJ2.out HYES.out HK3.out hv), behindP_none]
                        clear HQ HS HE HJ2 HYES HN HK3 hsome hnone
                        have hab := block_lt_of_cell hca
                        go_wp2_with fail
                        refine (errorf3 F n a w2.heap.size _ (by exact hF2) (by go_simp) (by go_simp) text (by rw [((Below.refl _ w2).alloc (Nat.le_refl _) _).cell hab]; exact hca)).mono ?_
                        rintro e w3 ⟨a3, text3, rfl, hc3, _, hb3⟩
                        go_wp2
                        go_ret2
                        exact parse_bad HZ.out (chain (chainA hbw2 _) hb3)
                      | some vq =>
                        obtain ⟨v, q⟩ := vq
                        have he := hsome v q hv
                        subst he
                        have bq := valueAt_bd s k3 v q b3.2 hv
                        obtain ⟨m, hm⟩ : ∃ m, skipP spaceB s.data.toList q = m := ⟨_, rfl⟩
                        have hskq := fun W => skip28 s q W hs bq.2
                        rw [hm] at hskq
                        have bm : q ≤ m ∧ m ≤ s.size := by rw [← hm, ← hl]; exact ⟨skipP_ge _ _ _, skipP_le _ _ _ (by omega)⟩
                        have HM : Hid (skipP spaceB s.data.toList q = m) := hm
                        have HV : Hid (valueAt s k3 = some (v, q)) := hv
                        clear hm hv hsome hnone
                        go_wp2_with fail
                        refine (hskq _).mono ?_
                        rintro e w' ⟨rfl, hw⟩
                        subst w'
                        have hway4 : (∃ (hml : m < s.size) (z : UInt8), s[m]'hml = z ∧ Hid (byteAt s.data.toList m ≠ 44) ∧ ((z.toNat : Int) == 44) = false ∧ ((z.toNat : Int) != 44) = true) ∨
                            (Hid (¬ (m < s.data.toList.length ∧ byteAt s.data.toList m ≠ 44)) ∧ ((¬ m < s.size) ∨ ∃ (hml : m < s.size), s[m]'hml = 44)) := by
                          by_cases hml : m < s.size
                          · by_cases h44 : s[m]'hml = 44
                            · exact Or.inr ⟨fun h => h.2 (by rw [str_at s m hml]; exact h44), Or.inr ⟨hml, h44⟩⟩
                            · have h44' : (s[m]'hml).toNat ≠ 44 := fun e => h44 (UInt8.toNat_inj.1 e)
                              refine Or.inl ⟨hml, _, rfl, (by show _ ≠ _; rw [str_at s m hml]; exact h44), ?_, ?_⟩ <;> simp <;> omega
                          · exact Or.inr ⟨fun h => hml (by omega), Or.inl hml⟩
                        rcases hway4 with ⟨hml, z, hz, HB, h44, h44'⟩ | ⟨HB, hw4⟩
                        · have HZ : Hid (resL s = none) := by
                            show _ = _
                            refine resL_none s ?_
                            rw [← HQ.out, parseL_none s f j (by omega) HS.out (elem_none4 s j k j2 k3 v q m HE.out (by omega) HJ2.out HYES.out HK3.out HV.out HM.out ⟨by omega, HB.out⟩), behindP_none]
                          clear HQ HS HE HJ2 HYES HN HK3 HM HV HB
                          go_wp2_with fail
                          refine (errorf4 F n (s.extract m s.size) w2.heap.size _ (by exact hF2) (by go_simp) (by go_simp)).mono ?_
                          rintro e w3 ⟨a3, text3, rfl, hc3, _, hb3⟩
                          go_wp2
                          go_ret2
                          exact parse_bad HZ.out (chain (chainA hbw2 _) hb3)
                        · have HQ' : Hid (behindP (acc ++ [(n, v)]) (parseL s f m) = parseL s (s.size + 1) 0) := by
                            show _ = _
                            have he := elem_some s j k j2 k3 v q m HE.out (by omega) HJ2.out HYES.out HK3.out HV.out HM.out HB.out
                            rw [HN.out] at he
                            rw [← HQ.out, parseL_elem s f j n v m (by omega) HS.out he, behindP_push]
                          clear HQ HS HE HJ2 HYES HN HK3 HM HV HB
                          have hs2 := hbw2.size
                          rcases hw4 with h4 | ⟨hml, h44⟩
                          all_goals
                            go_wp2_with (at_builtin; refine wpList_append_own _ rfl (.tmp 125) (.tmp 129) 23 rfl w.heap.size 33 i0 _ 2 32 Tryf.underlying23 hi hz0 hz1 hz2 rfl (by decide) _ _ _ rfl (hown2.alloc _) ⟨w2.heap.size, 0, none⟩ 1 1 [.string n, .string v] rfl rfl (cells_two _ _ _ _) (one_two _ _) (by unfold maxLen; omega) (by omega) (by simp; omega) ?_; intro v' w3 hown' hgrow _)
                            go_roundw
                            case rel =>
                              refine ⟨m, f, acc ++ [(n, v)], by omega, rfl, by omega, by simp; omega, ?_, ?_, HQ', ?_⟩
                              · rw [pairCells_push, List.length_append]; exact hown'
                              · intro i2 p hp
                                rw [List.getElem?_append] at hp
                                split at hp
                                · exact hnm i2 p hp
                                · have := List.mem_of_getElem? hp
                                  simp at this
                                  subst this
                                  exact hnl
                              · exact (chainA hbw2 _).grown hgrow (by simp; omega) (fun k hk => (hown2.lt k hk).1)
                            case measure => simp [intOf]; omega
      · have hje : j = s.size := by omega
        have HT : Hid (parseL s (s.size + 1) 0 = some acc) := by
          show _ = _
          rw [← HQ.out, parseL_end s f j (by omega), behindP_nil]
        have hjne : ((j : Int) == (s.size : Int)) = true := by simp; omega
        clear HQ
        have hkeys := keys_any w.heap.size _ acc wm hown (by omega) hnm
        cases hd : (!decide (acc.map Prod.fst).Nodup) with
        | true =>
          have HZ : Hid (resL s = none) := resL_twice s acc HT.out hd
          clear HT
          go_wp2_with fail
          refine hkeys.mono ?_
          rintro e w1 ⟨⟨m0, n0, rfl⟩, hb1⟩
          have hbw1 := chain hb hb1
          have hF1 : F.answers w1.tape := tape_below hF hbw1
          rw [hd]
          go_wp2_with fail
          refine (errorf5 F n0 w1.heap.size _ (by exact hF1) (by go_simp)).mono ?_
          rintro e w2 ⟨a, text, rfl, hc, _, hb2⟩
          go_wp2
          go_ret2
          exact parse_bad HZ.out (chain (chainA hbw1 _) hb2)
        | false =>
          have HZ : Hid (resL s = some acc) := resL_some s acc HT.out hd
          clear HT
          go_wp2_with fail
          refine hkeys.mono ?_
          rintro e w1 ⟨⟨m0, n0, rfl⟩, hb1⟩
          have hown1 := own_below hown hb1
          rw [hd]
          go_wp2
          go_ret2
          exact parse_good HZ.out (chain hb hb1) hown1
end Go.Proofs.Qxb6003984aFmt
