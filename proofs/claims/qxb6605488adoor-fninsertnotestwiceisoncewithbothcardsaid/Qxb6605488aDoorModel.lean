/-
  Seat b6605488aD: zzModelInsert, the law's own writer.
-/
import Derived.Test.Qxb6605488aDoorLine
set_option linter.unusedSimpArgs false
set_option linter.unusedVariables false
namespace Go.Proofs.Qxb6605488aDoor
open Go.RowKit

set_option maxRecDepth 1000000 in
set_option maxHeartbeats 2000000 in
theorem model_no (v : Value) (n : ByteArray) (w : World) (t : List UInt8) (hn : n.size ≤ 16777216) : Calls Tryd.prog 8 #[v, .bool false, .string n] w fun e w' => e = .returned (.string ⟨(insE t false n.data.toList).toArray⟩) ∧ Below w.heap.size w w' := by
  have HO : Hid ((⟨(insE t false n.data.toList).toArray⟩ : ByteArray) = ⟨#[35, 32, 67, 104, 97, 110, 103, 101, 108, 111, 103, 10, 10]⟩ ++ n) := by
    show _ = _
    refine bytes_ext ?_
    unfold insE
    simp [title]
  go_enter Tryd.func8, Tryd.ntmps8
  go_wp2
  go_ret
  exact ⟨by rw [HO.out]; rfl, Below.refl _ _⟩

set_option maxRecDepth 1000000 in
set_option maxHeartbeats 4000000 in
theorem model_yes (v : Value) (s n : ByteArray) (w : World) (hr : Reads w v s) (hs : s.size ≤ 16777216) (hn : n.size ≤ 16777216) :
    Calls Tryd.prog 8 #[v, .bool true, .string n] w fun e w' => e = .returned (.string ⟨(insE s.data.toList true n.data.toList).toArray⟩) ∧ Below w.heap.size w w' := by
  have hl := len_eq s
  have hcv := hr w (Below.refl _ _)
  clear hr
  go_enter Tryd.func8, Tryd.ntmps8
  go_wp2
  clear hcv
  go_loopw [8] (fun t wr => ∃ i : Nat, i ≤ s.size ∧ t = .int .i64 i ∧ Hid (fromH s.data.toList i = posP s.data.toList) ∧ Below w.heap.size w wr) (fun t _ => s.size - (intOf t).toNat)
  case atStart => exact ⟨0, by omega, rfl, rfl, Below.refl _ _⟩
  case round =>
    obtain ⟨i, hi, rfl, HF, hb⟩ := hrel
    obtain ⟨wm, rfl⟩ : ∃ wm, wm = wr := ⟨_, rfl⟩
    by_cases hil : i < s.size
    · have hstart : (startB s.data.toList i = true ∧ ((i = 0 ∧ ((i : Int) == 0) = true) ∨ (0 < i ∧ ((i : Int) == 0) = false ∧ ∃ (h : i - 1 < s.size), s[i - 1]'h = 10))) ∨
          (startB s.data.toList i = false ∧ 0 < i ∧ ((i : Int) == 0) = false ∧ ∃ (h : i - 1 < s.size) (x : UInt8), s[i - 1]'h = x ∧ ((x.toNat : Int) == 10) = false) := by
        by_cases h0 : i = 0
        · left
          subst h0
          exact ⟨rfl, Or.inl ⟨rfl, rfl⟩⟩
        · have hp : 0 < i := by omega
          have hi1 : i - 1 < s.size := by omega
          have he0 : ((i : Int) == 0) = false := by simp; omega
          have hst := start_at s i hp hi1
          by_cases hx : s[i - 1]'hi1 = 10
          · exact Or.inl ⟨by rw [hst, hx]; rfl, Or.inr ⟨hp, he0, hi1, hx⟩⟩
          · refine Or.inr ⟨by rw [hst]; simpa using hx, hp, he0, hi1, _, rfl, ?_⟩
            have : (s[i - 1]'hi1).toNat ≠ 10 := fun e => hx (UInt8.toNat_inj.1 e)
            simp
            omega
      rcases hstart with ⟨hst, hway⟩ | ⟨hst, hp, he0, hi1, x, hx, hx10⟩
      · have hpa := fun W => pre_any s i W (by omega) hi
        cases hpre : preB s.data.toList i with
        | true =>
          rw [hpre] at hpa
          have HO : Hid ((⟨(insE s.data.toList true n.data.toList).toArray⟩ : ByteArray) = s.extract 0 i ++ n ++ ⟨#[10]⟩ ++ s.extract i s.size) := by
            show _ = _
            refine bytes_ext ?_
            rw [ins_some _ _ i (by rw [← HF.out]; exact fromH_hit _ i (by omega) hst hpre)]
            rw [app_list, app_list, app_list, extract_list, take_list]
          clear HF hst hpre
          rcases hway with ⟨h0, he0⟩ | ⟨hp, he0, hi1, hx⟩
          all_goals
            try clear h0
            go_wp2_with (go_at_call 10; refine (hpa _).mono ?_; rintro e w1 ⟨rfl, hb1⟩)
            go_region
            all_goals
              go_wp2
              go_ret
              exact ⟨by rw [HO.out]; rfl, chain (a := w1) (chain hb hb1) ((Below.refl _ w1).drew)⟩
        | false =>
          rw [hpre] at hpa
          have HF' : Hid (fromH s.data.toList (i + 1) = posP s.data.toList) := by
            show _ = _
            rw [← HF.out, fromH_miss _ i (by omega) (by rw [hpre]; simp)]
          clear HF hst hpre
          rcases hway with ⟨h0, he0⟩ | ⟨hp, he0, hi1, hx⟩
          all_goals
            try clear h0
            go_wp2_with (go_at_call 10; refine (hpa _).mono ?_; rintro e w1 ⟨rfl, hb1⟩)
            go_roundw
            case rel => exact ⟨i + 1, by omega, by go_num, HF', chain hb hb1⟩
            case measure => simp [intOf]; omega
      · have HF' : Hid (fromH s.data.toList (i + 1) = posP s.data.toList) := by
          show _ = _
          rw [← HF.out, fromH_miss _ i (by omega) (by rw [hst]; rfl)]
        clear HF hst
        go_wp2
        go_roundw
        case rel => exact ⟨i + 1, by omega, by go_num, HF', hb⟩
        case measure => simp [intOf]; omega
    · have HNP : Hid (posP s.data.toList = none) := by
        show _ = _
        rw [← HF.out]
        exact fromH_end _ i (by omega)
      clear HF
      rcases text_cases s with ⟨hse, hpad⟩ | ⟨u, c, htu, hc10, hpad⟩ | ⟨u, htu, hpad⟩
      · have HO : Hid ((⟨(insE s.data.toList true n.data.toList).toArray⟩ : ByteArray) = n) := by
          show _ = _
          refine bytes_ext ?_
          rw [ins_none _ _ HNP.out, hpad, hse]
          simp
        have hem : s.toList.isEmpty = true := by rw [ByteArray.toList_eq, hse]; rfl
        clear HNP hpad hse
        go_wp2
        go_ret
        exact ⟨by rw [HO.out]; rfl, hb⟩
      · have HO : Hid ((⟨(insE s.data.toList true n.data.toList).toArray⟩ : ByteArray) = s ++ ⟨#[10, 10]⟩ ++ n) := by
          show _ = _
          refine bytes_ext ?_
          rw [ins_none _ _ HNP.out, hpad]
          simp
        have hem : s.toList.isEmpty = false := by rw [ByteArray.toList_eq, htu]; simp
        have hz0 : s.size = u.length + 1 := by rw [← hl, htu]; simp
        have hpos : 0 < s.size := by omega
        have hlt1 : s.size - 1 < s.size := Nat.sub_lt hpos Nat.one_pos
        have hlast : s[s.size - 1]'hlt1 = c := by
          rw [← str_at s (s.size - 1) hlt1, htu, hz0]
          unfold at0
          simp
        have hcb := c.toNat_lt
        have c1 : ((c.toNat : Int) == 10) = false := by
          have : c.toNat ≠ 10 := fun e => hc10 (UInt8.toNat_inj.1 e)
          simp
          omega
        have c2 : ((c.toNat : Int) != 10) = true := by simp [bne, c1]
        clear HNP hpad htu hz0
        go_wp2
        go_ret
        exact ⟨by rw [HO.out]; rfl, hb⟩
      · have HPD : Hid (padP s.data.toList = if (bare (lastP u)).all blankC = true then [] else [10]) := hpad
        have hem : s.toList.isEmpty = false := by rw [ByteArray.toList_eq, htu]; simp
        have hz0 : s.size = u.length + 1 := by rw [← hl, htu]; simp
        have hpos : 0 < s.size := by omega
        have hlt1 : s.size - 1 < s.size := Nat.sub_lt hpos Nat.one_pos
        have hlast : s[s.size - 1]'hlt1 = 10 := by
          rw [← str_at s (s.size - 1) hlt1, htu, hz0]
          unfold at0
          simp
        have HU : Hid (s.data.toList.take (s.size - 1) = u) := by
          show _ = _
          rw [htu, hz0]
          simp
        have HZ0 : Hid (s.size = u.length + 1) := hz0
        clear hpad htu hz0
        go_wp2
        clear hlast
        go_loop [10] (fun t => ∃ k : Nat, k ≤ s.size - 1 ∧ t = .int .i64 k ∧ Hid (backP s.data.toList k = backP s.data.toList (s.size - 1))) (fun t => (intOf t).toNat)
        case atStart => exact ⟨s.size - 1, Nat.le_refl _, by go_num, rfl⟩
        case round =>
          obtain ⟨k, hk, rfl, HK⟩ := hrel
          have hway : (∃ (hk1 : k - 1 < s.size) (x : UInt8), 0 < k ∧ s[k - 1]'hk1 = x ∧ ((x.toNat : Int) != 10) = true ∧ ((x.toNat : Int) == 10) = false ∧ Hid (backP s.data.toList (k - 1) = backP s.data.toList (s.size - 1))) ∨
              (Hid (backP s.data.toList (s.size - 1) = k) ∧ ((decide ((k : Int) > 0) = false ∧ decide (0 < k) = false) ∨ (0 < k ∧ ∃ (hk1 : k - 1 < s.size), s[k - 1]'hk1 = 10))) := by
            cases k with
            | zero => exact Or.inr ⟨HK.out.symm, Or.inl ⟨by simp, by simp⟩⟩
            | succ k =>
              have hk1 : k < s.size := by omega
              have hbk : backP s.data.toList (k + 1) = if at0 s.data.toList k ≠ 10 then backP s.data.toList k else k + 1 := rfl
              by_cases hx : s[k]'hk1 = 10
              · refine Or.inr ⟨?_, Or.inr ⟨by omega, by simpa using hk1, by simpa using hx⟩⟩
                show _ = _
                rw [← HK.out, hbk, if_neg (by rw [str_at s k hk1, hx]; simp)]
              · have h10 : (s[k]'hk1).toNat ≠ 10 := fun e => hx (UInt8.toNat_inj.1 e)
                refine Or.inl ⟨by simpa using hk1, s[k]'hk1, by omega, by simp, ?_, ?_, ?_⟩
                · simp; omega
                · simp; omega
                · show _ = _
                  rw [← HK.out, hbk, if_pos (by rw [str_at s k hk1]; exact hx)]
                  rfl
          rcases hway with ⟨hk1, x, hkp, hx, b1, b2, HK'⟩ | ⟨HE, hstop⟩
          · clear HK
            go_wp2
            go_round
            case rel => exact ⟨k - 1, by omega, by go_num, HK'⟩
            case measure => simp [intOf]; omega
          · clear HK
            obtain ⟨ln, hln⟩ : ∃ ln, s.extract k (s.size - 1) = ln := ⟨_, rfl⟩
            have hlns : ln.size ≤ s.size := by rw [← hln, ByteArray.size_extract]; omega
            have HL : Hid (ln.data.toList = lastP u) := by
              show _ = _
              rw [← hln, line_list, ← HU.out, takeWhile_take _ _ (by rw [hl]; omega), HE.out]
            have hlz := len_eq ln
            have hcase : (ln.size = 0 ∧ decide ((ln.size : Int) > 0) = false ∧ decide (0 < ln.size) = false ∧ Hid (bare (lastP u) = ln.data.toList)) ∨
                (∃ (h0 : 0 < ln.size) (h1 : ln.size - 1 < ln.size), ln[ln.size - 1]'h1 = 13 ∧ Hid (bare (lastP u) = ln.data.toList.take (ln.size - 1))) ∨
                (∃ (h0 : 0 < ln.size) (h1 : ln.size - 1 < ln.size) (y : UInt8), ln[ln.size - 1]'h1 = y ∧ ((y.toNat : Int) == 13) = false ∧ Hid (bare (lastP u) = ln.data.toList)) := by
              by_cases h0 : ln.size = 0
              · refine Or.inl ⟨h0, by rw [h0]; rfl, by rw [h0]; rfl, ?_⟩
                show _ = _
                rw [← HL.out]
                exact bare_none _ (Or.inl (List.eq_nil_of_length_eq_zero (by rw [hlz]; exact h0)))
              · have hp : 0 < ln.size := by omega
                have h1 : ln.size - 1 < ln.size := by omega
                by_cases h13 : ln[ln.size - 1]'h1 = 13
                · refine Or.inr (Or.inl ⟨hp, h1, h13, ?_⟩)
                  show _ = _
                  rw [← HL.out, bare_cr _ (by rw [hlz]; exact hp) (by rw [hlz, str_at ln _ h1]; exact h13), hlz]
                · refine Or.inr (Or.inr ⟨hp, h1, _, rfl, ?_, ?_⟩)
                  · have : (ln[ln.size - 1]'h1).toNat ≠ 13 := fun e => h13 (UInt8.toNat_inj.1 e)
                    simp
                    omega
                  · show _ = _
                    rw [← HL.out]
                    exact bare_none _ (Or.inr (by rw [hlz, str_at ln _ h1]; exact h13))
            clear HL HE HU HZ0 hlz
            have hbX := hb
            rcases hstop with ⟨h0, h0'⟩ | ⟨h0, hk1, hx⟩
            all_goals
              rcases hcase with ⟨c0, c1, c1', HB⟩ | ⟨c0, c1, c2, HB⟩ | ⟨c0, c1, y, c2, c3, HB⟩
              · obtain ⟨z, hz⟩ : ∃ z, z = ln := ⟨_, rfl⟩
                have HZ : Hid (z.data.toList = bare (lastP u)) := by show _ = _; rw [HB.out, hz]
                have hzl : z.size ≤ s.size := by rw [hz]; exact hlns
                subst hz
                clear HB c0
                go_wp2
                go_loop [12] (fun t => ∃ j : Nat, j ≤ z.size ∧ t = .int .i64 j ∧ Hid (∀ j', j' < j → blankC (at0 z.data.toList j') = true)) (fun t => z.size - (intOf t).toNat)
                case atStart => exact ⟨0, by omega, rfl, (by intro j' h; omega)⟩
                case round =>
                  obtain ⟨j, hj, rfl, HA⟩ := hrel
                  by_cases hjl : j < z.size
                  · obtain ⟨y, hy⟩ : ∃ y, z[j]'hjl = y := ⟨_, rfl⟩
                    have hyb := y.toNat_lt
                    cases hbl : blankC y with
                    | true =>
                      have HA' : Hid (∀ j', j' < j + 1 → blankC (at0 z.data.toList j') = true) := by
                        intro j' h
                        by_cases e : j' = j
                        · subst e; rw [str_at z j' hjl, hy]; exact hbl
                        · exact HA.out j' (by omega)
                      clear HA
                      rcases blank_tests y hbl with rfl | rfl
                      all_goals
                        clear hbl
                        go_wp2
                        go_round
                        case rel => exact ⟨j + 1, by omega, by go_num, HA'⟩
                        case measure => simp [intOf]; omega
                    | false =>
                      have HO : Hid ((⟨(insE s.data.toList true n.data.toList).toArray⟩ : ByteArray) = s ++ ⟨#[10]⟩ ++ n) := by
                        show _ = _
                        refine bytes_ext ?_
                        have hz := HZ.out
                        have := blank_not z.data.toList j (by rw [len_eq]; exact hjl) (by rw [str_at z j hjl, hy]; exact hbl)
                        rw [ins_none _ _ HNP.out, HPD.out, ← hz, if_neg (by rw [this]; simp)]
                        simp
                      obtain ⟨b1, b2, b3, b4⟩ := blank_tests_no y hbl
                      clear HA hbl HZ HPD HNP
                      go_wp2
                      go_ret
                      exact ⟨by rw [HO.out]; rfl, hbX⟩
                  · have HO : Hid ((⟨(insE s.data.toList true n.data.toList).toArray⟩ : ByteArray) = s ++ n) := by
                      show _ = _
                      refine bytes_ext ?_
                      have hz := HZ.out
                      have := blank_upto z.data.toList (fun j' h => HA.out j' (by rw [len_eq] at h; omega))
                      rw [ins_none _ _ HNP.out, HPD.out, ← hz, if_pos this]
                      simp
                    clear HA HZ HPD HNP
                    go_wp2
                    go_ret
                    exact ⟨by rw [HO.out]; rfl, hbX⟩
              · obtain ⟨z, hz⟩ : ∃ z, ln.extract 0 (ln.size - 1) = z := ⟨_, rfl⟩
                have HZ : Hid (z.data.toList = bare (lastP u)) := by show _ = _; rw [HB.out, ← hz, take_list]
                have hzl : z.size ≤ s.size := by rw [← hz, ByteArray.size_extract]; omega
                clear HB
                go_wp2
                go_loop [12] (fun t => ∃ j : Nat, j ≤ z.size ∧ t = .int .i64 j ∧ Hid (∀ j', j' < j → blankC (at0 z.data.toList j') = true)) (fun t => z.size - (intOf t).toNat)
                case atStart => exact ⟨0, by omega, rfl, (by intro j' h; omega)⟩
                case round =>
                  obtain ⟨j, hj, rfl, HA⟩ := hrel
                  by_cases hjl : j < z.size
                  · obtain ⟨y, hy⟩ : ∃ y, z[j]'hjl = y := ⟨_, rfl⟩
                    have hyb := y.toNat_lt
                    cases hbl : blankC y with
                    | true =>
                      have HA' : Hid (∀ j', j' < j + 1 → blankC (at0 z.data.toList j') = true) := by
                        intro j' h
                        by_cases e : j' = j
                        · subst e; rw [str_at z j' hjl, hy]; exact hbl
                        · exact HA.out j' (by omega)
                      clear HA
                      rcases blank_tests y hbl with rfl | rfl
                      all_goals
                        clear hbl
                        go_wp2
                        go_round
                        case rel => exact ⟨j + 1, by omega, by go_num, HA'⟩
                        case measure => simp [intOf]; omega
                    | false =>
                      have HO : Hid ((⟨(insE s.data.toList true n.data.toList).toArray⟩ : ByteArray) = s ++ ⟨#[10]⟩ ++ n) := by
                        show _ = _
                        refine bytes_ext ?_
                        have hz := HZ.out
                        have := blank_not z.data.toList j (by rw [len_eq]; exact hjl) (by rw [str_at z j hjl, hy]; exact hbl)
                        rw [ins_none _ _ HNP.out, HPD.out, ← hz, if_neg (by rw [this]; simp)]
                        simp
                      obtain ⟨b1, b2, b3, b4⟩ := blank_tests_no y hbl
                      clear HA hbl HZ HPD HNP
                      go_wp2
                      go_ret
                      exact ⟨by rw [HO.out]; rfl, hbX⟩
                  · have HO : Hid ((⟨(insE s.data.toList true n.data.toList).toArray⟩ : ByteArray) = s ++ n) := by
                      show _ = _
                      refine bytes_ext ?_
                      have hz := HZ.out
                      have := blank_upto z.data.toList (fun j' h => HA.out j' (by rw [len_eq] at h; omega))
                      rw [ins_none _ _ HNP.out, HPD.out, ← hz, if_pos this]
                      simp
                    clear HA HZ HPD HNP
                    go_wp2
                    go_ret
                    exact ⟨by rw [HO.out]; rfl, hbX⟩
              · obtain ⟨z, hz⟩ : ∃ z, z = ln := ⟨_, rfl⟩
                have HZ : Hid (z.data.toList = bare (lastP u)) := by show _ = _; rw [HB.out, hz]
                have hzl : z.size ≤ s.size := by rw [hz]; exact hlns
                subst hz
                clear HB
                go_wp2
                go_loop [12] (fun t => ∃ j : Nat, j ≤ z.size ∧ t = .int .i64 j ∧ Hid (∀ j', j' < j → blankC (at0 z.data.toList j') = true)) (fun t => z.size - (intOf t).toNat)
                case atStart => exact ⟨0, by omega, rfl, (by intro j' h; omega)⟩
                case round =>
                  obtain ⟨j, hj, rfl, HA⟩ := hrel
                  by_cases hjl : j < z.size
                  · obtain ⟨y, hy⟩ : ∃ y, z[j]'hjl = y := ⟨_, rfl⟩
                    have hyb := y.toNat_lt
                    cases hbl : blankC y with
                    | true =>
                      have HA' : Hid (∀ j', j' < j + 1 → blankC (at0 z.data.toList j') = true) := by
                        intro j' h
                        by_cases e : j' = j
                        · subst e; rw [str_at z j' hjl, hy]; exact hbl
                        · exact HA.out j' (by omega)
                      clear HA
                      rcases blank_tests y hbl with rfl | rfl
                      all_goals
                        clear hbl
                        go_wp2
                        go_round
                        case rel => exact ⟨j + 1, by omega, by go_num, HA'⟩
                        case measure => simp [intOf]; omega
                    | false =>
                      have HO : Hid ((⟨(insE s.data.toList true n.data.toList).toArray⟩ : ByteArray) = s ++ ⟨#[10]⟩ ++ n) := by
                        show _ = _
                        refine bytes_ext ?_
                        have hz := HZ.out
                        have := blank_not z.data.toList j (by rw [len_eq]; exact hjl) (by rw [str_at z j hjl, hy]; exact hbl)
                        rw [ins_none _ _ HNP.out, HPD.out, ← hz, if_neg (by rw [this]; simp)]
                        simp
                      obtain ⟨b1, b2, b3, b4⟩ := blank_tests_no y hbl
                      clear HA hbl HZ HPD HNP
                      go_wp2
                      go_ret
                      exact ⟨by rw [HO.out]; rfl, hbX⟩
                  · have HO : Hid ((⟨(insE s.data.toList true n.data.toList).toArray⟩ : ByteArray) = s ++ n) := by
                      show _ = _
                      refine bytes_ext ?_
                      have hz := HZ.out
                      have := blank_upto z.data.toList (fun j' h => HA.out j' (by rw [len_eq] at h; omega))
                      rw [ins_none _ _ HNP.out, HPD.out, ← hz, if_pos this]
                      simp
                    clear HA HZ HPD HNP
                    go_wp2
                    go_ret
                    exact ⟨by rw [HO.out]; rfl, hbX⟩
end Go.Proofs.Qxb6605488aDoor
