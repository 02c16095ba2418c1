/-
  Seat b6605488aD: insertNotes.
-/
import Derived.Test.Qxb6605488aDoorConv
set_option linter.unusedSimpArgs false
set_option linter.unusedVariables false
namespace Go.Proofs.Qxb6605488aDoor
open Go.RowKit

def lenB (S : ByteArray) : Nat := S.size
def capB (W : World) (S : ByteArray) : Nat := grownCap W S.size 0 5
def made (W : World) (S : ByteArray) : World := Lib.bytesWorld W 5 S
theorem conv9' (S : ByteArray) (W : World) : (convert 9 22 (.string S)).run Tryd.prog W = .ok (.slice (some ⟨W.heap.size, 0, none⟩) (lenB S) (capB W S)) (made W S) := conv9 S W
theorem reads_made (S : ByteArray) (W : World) : Reads (made W S) (.slice (some ⟨W.heap.size, 0, none⟩) (lenB S) (capB W S)) S := reads_fresh S W _
theorem made_below (S : ByteArray) (W : World) : Below W.heap.size W (made W S) := fresh_below S W
attribute [local go_sem] conv9'
theorem bytes_ext {a : List UInt8} {b : ByteArray} (h : a = b.data.toList) : (⟨a.toArray⟩ : ByteArray) = b := by subst h; rfl
theorem app_list (a b : ByteArray) : (a ++ b).data.toList = a.data.toList ++ b.data.toList := by rw [ByteArray.data_append, Array.toList_append]
theorem ins_none (t n : List UInt8) (h : posP t = none) : insE t true n = t ++ padP t ++ n := by unfold insE insP; rw [if_pos rfl, h]
theorem ins_some (t n : List UInt8) (i : Nat) (h : posP t = some i) : insE t true n = t.take i ++ n ++ [10] ++ t.drop i := by unfold insE insP; rw [if_pos rfl, h]
theorem text_cases (s : ByteArray) : (s.data.toList = [] ∧ padP s.data.toList = []) ∨ (∃ u c, s.data.toList = u ++ [c] ∧ c ≠ 10 ∧ padP s.data.toList = [10, 10]) ∨
    (∃ u, s.data.toList = u ++ [10] ∧ padP s.data.toList = if (bare (lastP u)).all blankC = true then [] else [10]) := by
  cases hr : s.data.toList.reverse with
  | nil =>
    left
    have : s.data.toList = [] := by simpa using hr
    exact ⟨this, by unfold padP; rw [hr]⟩
  | cons c r =>
    have e : s.data.toList = r.reverse ++ [c] := by
      have := congrArg List.reverse hr
      simpa using this
    right
    by_cases hc : c = 10
    · right
      subst hc
      refine ⟨r.reverse, e, ?_⟩
      unfold padP
      rw [hr]
      simp
    · left
      refine ⟨r.reverse, c, e, hc, ?_⟩
      unfold padP
      rw [hr]
      simp [hc]
theorem lastP_le (u : List UInt8) : (lastP u).length ≤ u.length := by
  unfold lastP
  rw [List.length_reverse]
  have := (List.takeWhile_sublist (l := u.reverse) (fun c => c != 10)).length_le
  simpa using this
theorem bare_le (l : List UInt8) : (bare l).length ≤ l.length := by
  unfold bare Lib.trimSuffix
  split
  · simp
  · exact Nat.le_refl _
theorem last_open (s : ByteArray) (L : List ByteArray) (u : List UInt8) (c : UInt8) (hL : L.map (·.data.toList) = linesL s.data.toList) (ht : s.data.toList = u ++ [c]) (hc : c ≠ 10) : ∃ (q : Nat) (x : ByteArray), L.length = q + 1 ∧ L[q]? = some x ∧ x.toList.isEmpty = false := by
  obtain ⟨y, hy, hne⟩ := lines_open u c hc
  rw [← ht, ← hL] at hy
  rw [List.length_map, List.getElem?_map] at hy
  cases hx : L[L.length - 1]? with
  | none => rw [hx] at hy; cases hy
  | some x =>
    rw [hx] at hy
    have hl : L.length - 1 < L.length := (List.getElem?_eq_some_iff.1 hx).1
    refine ⟨L.length - 1, x, by omega, hx, ?_⟩
    rw [ByteArray.toList_eq]
    simp at hy
    rw [hy]
    cases y with
    | nil => exact absurd rfl hne
    | cons _ _ => rfl
theorem last_shut (s : ByteArray) (L : List ByteArray) (u : List UInt8) (hL : L.map (·.data.toList) = linesL s.data.toList) (ht : s.data.toList = u ++ [10]) : ∃ (p : Nat) (x y : ByteArray), L.length = p + 2 ∧ L[p + 1]? = some x ∧ x.toList.isEmpty = true ∧ L[p]? = some y ∧ y.data.toList = lastP u := by
  obtain ⟨h2, hy, hz⟩ := lines_shut u
  rw [← ht, ← hL] at h2 hy hz
  rw [List.length_map] at h2
  rw [List.length_map, List.getElem?_map] at hy hz
  obtain ⟨p, hp⟩ : ∃ p, L.length = p + 2 := ⟨L.length - 2, by omega⟩
  rw [hp] at hy hz
  have e1 : p + 2 - 1 = p + 1 := by omega
  have e2 : p + 2 - 1 - 1 = p := by omega
  rw [e1] at hy
  rw [e2] at hz
  cases hx : L[p + 1]? with
  | none => rw [hx] at hy; cases hy
  | some x =>
    cases hyy : L[p]? with
    | none => rw [hyy] at hz; cases hz
    | some y =>
      rw [hx] at hy
      rw [hyy] at hz
      simp at hy hz
      refine ⟨p, x, y, hp, hx, ?_, hyy, hz⟩
      rw [ByteArray.toList_eq, hy]
      rfl

set_option maxRecDepth 1000000 in
set_option maxHeartbeats 2000000 in
theorem ins_no (v : Value) (n : ByteArray) (w : World) (t : List UInt8) (hn : n.size ≤ 16777216) : Calls Tryd.prog 11 #[v, .bool false, .string n] w fun e w' => ∃ r, e = .returned r ∧ Reads w' r ⟨(insE t false n.data.toList).toArray⟩ ∧ Below w.heap.size w w' := by
  have HO : Hid ((⟨(insE t false n.data.toList).toArray⟩ : ByteArray) = ⟨#[35, 32, 67, 104, 97, 110, 103, 101, 108, 111, 103, 10, 10]⟩ ++ n) := by
    show _ = _
    refine bytes_ext ?_
    unfold insE
    simp [title]
  go_enter Tryd.func11, Tryd.ntmps11
  go_wp2
  go_ret
  exact ⟨_, rfl, by rw [HO.out]; exact reads_made _ _, made_below _ _⟩

set_option maxRecDepth 1000000 in
set_option maxHeartbeats 4000000 in
theorem ins_yes (v : Value) (s n : ByteArray) (m : Int) (w : World) (hr : Reads w v s) (hm : w.cell? ⟨0, 0, none⟩ = some (.int .i64 m)) (hs : s.size ≤ 16777216) (hn : n.size ≤ 16777216) :
    Calls Tryd.prog 11 #[v, .bool true, .string n] w fun e w' => ∃ r, e = .returned r ∧ Reads w' r ⟨(insE s.data.toList true n.data.toList).toArray⟩ ∧ Below w.heap.size w w' := by
  have hl := len_eq s
  have hcv := hr w (Below.refl _ _)
  clear hr
  go_enter Tryd.func11, Tryd.ntmps11
  go_wp2
  clear hcv
  go_loop [8] (fun t => ∃ i : Nat, i ≤ s.size ∧ t = .int .i64 i ∧ Hid (fromH s.data.toList i = posP s.data.toList) ∧ Hid (startB s.data.toList i = true)) (fun t => s.size - (intOf t).toNat)
  case atStart => exact ⟨0, by omega, rfl, rfl, rfl⟩
  case round =>
    obtain ⟨i, hi, rfl, HF, HS⟩ := hrel
    by_cases hil : i < s.size
    · cases hpre : preB s.data.toList i with
      | true =>
        have HO : Hid ((⟨(insE s.data.toList true n.data.toList).toArray⟩ : ByteArray) = s.extract 0 i ++ n ++ ⟨#[10]⟩ ++ s.extract i s.size) := by
          show _ = _
          refine bytes_ext ?_
          rw [ins_some _ _ i (by rw [← HF.out]; exact fromH_hit _ i (by omega) HS.out hpre)]
          rw [app_list, app_list, app_list, extract_list, take_list]
        clear HF HS
        go_wp2_with (go_at_call 12; refine (prefix_any s i _).mono ?_; rintro e w' ⟨rfl, hw⟩; subst w')
        go_region
        all_goals
          go_wp2
          go_ret
          exact ⟨_, rfl, by rw [HO.out]; exact reads_made _ _, chain (a := w.drew) (Below.refl _ w).drew (made_below _ _)⟩
      | false =>
        have hge := next_ge s.data.toList i
        by_cases hne : nextE s.data.toList i = -1
        · have HNP : Hid (posP s.data.toList = none) := by
            show _ = _
            rw [← HF.out]
            exact fromH_last _ i (by omega) hpre (next_none _ _ hne)
          have hix := fun W => index_any s i W
          rw [hne] at hix
          clear HF HS hne hge
          go_wp2_with (first | (go_at_call 12; refine (prefix_any s i _).mono ?_; rintro e w' ⟨rfl, hw⟩; subst w') | (go_at_call 13; refine (hix _).mono ?_; rintro e w' ⟨rfl, hw⟩; subst w'))
          clear hpre hix
          have hsp := split_any s m w (by omega) hm
          have hLd := linesOf_data s
          have hLle := linesOf_le s
          obtain ⟨L, hLdef⟩ : ∃ L, linesOf s = L := ⟨_, rfl⟩
          rw [hLdef] at hsp hLd hLle
          clear hLdef
          rcases text_cases s with ⟨hse, hpad⟩ | ⟨u, c, htu, hc10, hpad⟩ | ⟨u, htu, hpad⟩
          · -- no text
            have HO : Hid ((⟨(insE s.data.toList true n.data.toList).toArray⟩ : ByteArray) = s ++ n) := by
              show _ = _
              refine bytes_ext ?_
              rw [ins_none _ _ HNP.out, hpad, hse]
              simp [hse]
            have hem : s.toList.isEmpty = true := by rw [ByteArray.toList_eq, hse]; rfl
            have hL1 : L.length = 1 := by
              have := congrArg List.length hLd
              rw [hse] at this
              simpa [linesL] using this
            clear HNP hpad hLd
            refine hsp.mono ?_
            rintro e w1 ⟨rfl, hcells, hb1⟩
            rw [hL1]
            clear hcells
            go_wp2
            go_ret
            exact ⟨_, rfl, by rw [HO.out]; exact reads_made _ _, chain hb1 (made_below _ _)⟩
          · -- the last line has no line end
            have HO : Hid ((⟨(insE s.data.toList true n.data.toList).toArray⟩ : ByteArray) = s ++ ⟨#[10, 10]⟩ ++ n) := by
              show _ = _
              refine bytes_ext ?_
              rw [ins_none _ _ HNP.out, hpad]
              simp
            have hem : s.toList.isEmpty = false := by rw [ByteArray.toList_eq, htu]; simp
            obtain ⟨q, x, hLq, hx, hxe⟩ := last_open s L u c hLd htu hc10
            clear HNP hpad hLd htu
            refine hsp.mono ?_
            rintro e w1 ⟨rfl, hcells, hb1⟩
            have hcx := hcells q x hx
            rw [hLq]
            clear hcells
            go_wp2
            go_ret
            exact ⟨_, rfl, by rw [HO.out]; exact reads_made _ _, chain hb1 (made_below _ _)⟩
          · -- it ends in a line end
            have hem : s.toList.isEmpty = false := by rw [ByteArray.toList_eq, htu]; simp
            obtain ⟨p, x, y, hLq, hx, hxe, hy, hyd⟩ := last_shut s L u hLd htu
            have hyl : y.size ≤ s.size := by rw [← len_eq, ← len_eq, hyd, htu]; have := lastP_le u; simp; omega
            have hts := fun W => Tryd.strings_TrimSuffix y ⟨#[13]⟩ W (by omega)
            obtain ⟨z, hz⟩ : ∃ z : ByteArray, (⟨(Lib.trimSuffix y.data.toList [13]).toArray⟩ : ByteArray) = z := ⟨_, rfl⟩
            have hts' : ∀ W, Calls Tryd.prog 16 #[.string y, .string ⟨#[13]⟩] W fun e w' => e = .returned (.string z) ∧ w' = W := by intro W; rw [← hz]; exact hts W
            have hzd : z.data.toList = bare (lastP u) := by rw [← hz, ← hyd]; rfl
            have hzl : z.size ≤ y.size := by rw [← len_eq, ← len_eq, hzd, hyd]; exact bare_le _
            have hbl := fun W => blank_any z W (by omega)
            rw [hzd] at hbl
            clear hts
            cases hblank : (bare (lastP u)).all blankC with
            | true =>
              have HO : Hid ((⟨(insE s.data.toList true n.data.toList).toArray⟩ : ByteArray) = s ++ n) := by
                show _ = _
                refine bytes_ext ?_
                rw [ins_none _ _ HNP.out, hpad, if_pos hblank]
                simp
              rw [hblank] at hbl
              clear HNP hpad hLd htu hz hzd hyd
              refine hsp.mono ?_
              rintro e w1 ⟨rfl, hcells, hb1⟩
              have hcx := hcells (p + 1) x hx
              have hcy := hcells p y hy
              rw [hLq]
              clear hcells
              go_wp2_with (first | (go_at_call 16; refine (hts' _).mono ?_; rintro e w' ⟨rfl, hw⟩; subst w') | (go_at_call 15; refine (hbl _).mono ?_; rintro e w2 ⟨rfl, hb2⟩))
              go_ret
              exact ⟨_, rfl, by rw [HO.out]; exact reads_made _ _, chain (chain hb1 hb2) (made_below _ _)⟩
            | false =>
              have HO : Hid ((⟨(insE s.data.toList true n.data.toList).toArray⟩ : ByteArray) = s ++ ⟨#[10]⟩ ++ n) := by
                show _ = _
                refine bytes_ext ?_
                rw [ins_none _ _ HNP.out, hpad, if_neg (by rw [hblank]; simp)]
                simp
              rw [hblank] at hbl
              clear HNP hpad hLd htu hz hzd hyd
              refine hsp.mono ?_
              rintro e w1 ⟨rfl, hcells, hb1⟩
              have hcx := hcells (p + 1) x hx
              have hcy := hcells p y hy
              rw [hLq]
              clear hcells
              go_wp2_with (first | (go_at_call 16; refine (hts' _).mono ?_; rintro e w' ⟨rfl, hw⟩; subst w') | (go_at_call 15; refine (hbl _).mono ?_; rintro e w2 ⟨rfl, hb2⟩))
              go_ret
              exact ⟨_, rfl, by rw [HO.out]; exact reads_made _ _, chain (chain hb1 hb2) (made_below _ _)⟩
        · obtain ⟨o, ho⟩ : ∃ o : Nat, nextE s.data.toList i = o := ⟨(nextE s.data.toList i).toNat, by omega⟩
          obtain ⟨g1, g2, g3⟩ := next_some _ _ _ ho
          have HF' : Hid (fromH s.data.toList (i + (o + 1)) = posP s.data.toList) := by
            show _ = _
            rw [← HF.out]
            exact (fromH_line _ i o g1 hpre g3).symm
          have HS' : Hid (startB s.data.toList (i + (o + 1)) = true) := by
            show _ = _
            unfold startB
            rw [show i + (o + 1) - 1 = i + o from by omega, g2]
            simp
          have hix := fun W => index_any s i W
          rw [ho] at hix
          clear HF HS hne hge g2 g3 ho
          go_wp2_with (first | (go_at_call 12; refine (prefix_any s i _).mono ?_; rintro e w' ⟨rfl, hw⟩; subst w') | (go_at_call 13; refine (hix _).mono ?_; rintro e w' ⟨rfl, hw⟩; subst w'))
          go_round
          case rel => exact ⟨i + (o + 1), by omega, by go_num, HF', HS'⟩
          case measure => simp [intOf]; omega
    · have HNP : Hid (posP s.data.toList = none) := by
        show _ = _
        rw [← HF.out]
        exact fromH_end _ i (by omega)
      clear HF HS
      go_wp2_with fail
      have hsp := split_any s m w (by omega) hm
      have hLd := linesOf_data s
      have hLle := linesOf_le s
      obtain ⟨L, hLdef⟩ : ∃ L, linesOf s = L := ⟨_, rfl⟩
      rw [hLdef] at hsp hLd hLle
      clear hLdef
      rcases text_cases s with ⟨hse, hpad⟩ | ⟨u, c, htu, hc10, hpad⟩ | ⟨u, htu, hpad⟩
      · -- no text
        have HO : Hid ((⟨(insE s.data.toList true n.data.toList).toArray⟩ : ByteArray) = s ++ n) := by
          show _ = _
          refine bytes_ext ?_
          rw [ins_none _ _ HNP.out, hpad, hse]
          simp [hse]
        have hem : s.toList.isEmpty = true := by rw [ByteArray.toList_eq, hse]; rfl
        have hL1 : L.length = 1 := by
          have := congrArg List.length hLd
          rw [hse] at this
          simpa [linesL] using this
        clear HNP hpad hLd
        refine hsp.mono ?_
        rintro e w1 ⟨rfl, hcells, hb1⟩
        rw [hL1]
        clear hcells
        go_wp2
        go_ret
        exact ⟨_, rfl, by rw [HO.out]; exact reads_made _ _, chain hb1 (made_below _ _)⟩
      · -- the last line has no line end
        have HO : Hid ((⟨(insE s.data.toList true n.data.toList).toArray⟩ : ByteArray) = s ++ ⟨#[10, 10]⟩ ++ n) := by
          show _ = _
          refine bytes_ext ?_
          rw [ins_none _ _ HNP.out, hpad]
          simp
        have hem : s.toList.isEmpty = false := by rw [ByteArray.toList_eq, htu]; simp
        obtain ⟨q, x, hLq, hx, hxe⟩ := last_open s L u c hLd htu hc10
        clear HNP hpad hLd htu
        refine hsp.mono ?_
        rintro e w1 ⟨rfl, hcells, hb1⟩
        have hcx := hcells q x hx
        rw [hLq]
        clear hcells
        go_wp2
        go_ret
        exact ⟨_, rfl, by rw [HO.out]; exact reads_made _ _, chain hb1 (made_below _ _)⟩
      · -- it ends in a line end
        have hem : s.toList.isEmpty = false := by rw [ByteArray.toList_eq, htu]; simp
        obtain ⟨p, x, y, hLq, hx, hxe, hy, hyd⟩ := last_shut s L u hLd htu
        have hyl : y.size ≤ s.size := by rw [← len_eq, ← len_eq, hyd, htu]; have := lastP_le u; simp; omega
        have hts := fun W => Tryd.strings_TrimSuffix y ⟨#[13]⟩ W (by omega)
        obtain ⟨z, hz⟩ : ∃ z : ByteArray, (⟨(Lib.trimSuffix y.data.toList [13]).toArray⟩ : ByteArray) = z := ⟨_, rfl⟩
        have hts' : ∀ W, Calls Tryd.prog 16 #[.string y, .string ⟨#[13]⟩] W fun e w' => e = .returned (.string z) ∧ w' = W := by intro W; rw [← hz]; exact hts W
        have hzd : z.data.toList = bare (lastP u) := by rw [← hz, ← hyd]; rfl
        have hzl : z.size ≤ y.size := by rw [← len_eq, ← len_eq, hzd, hyd]; exact bare_le _
        have hbl := fun W => blank_any z W (by omega)
        rw [hzd] at hbl
        clear hts
        cases hblank : (bare (lastP u)).all blankC with
        | true =>
          have HO : Hid ((⟨(insE s.data.toList true n.data.toList).toArray⟩ : ByteArray) = s ++ n) := by
            show _ = _
            refine bytes_ext ?_
            rw [ins_none _ _ HNP.out, hpad, if_pos hblank]
            simp
          rw [hblank] at hbl
          clear HNP hpad hLd htu hz hzd hyd
          refine hsp.mono ?_
          rintro e w1 ⟨rfl, hcells, hb1⟩
          have hcx := hcells (p + 1) x hx
          have hcy := hcells p y hy
          rw [hLq]
          clear hcells
          go_wp2_with (first | (go_at_call 16; refine (hts' _).mono ?_; rintro e w' ⟨rfl, hw⟩; subst w') | (go_at_call 15; refine (hbl _).mono ?_; rintro e w2 ⟨rfl, hb2⟩))
          go_ret
          exact ⟨_, rfl, by rw [HO.out]; exact reads_made _ _, chain (chain hb1 hb2) (made_below _ _)⟩
        | false =>
          have HO : Hid ((⟨(insE s.data.toList true n.data.toList).toArray⟩ : ByteArray) = s ++ ⟨#[10]⟩ ++ n) := by
            show _ = _
            refine bytes_ext ?_
            rw [ins_none _ _ HNP.out, hpad, if_neg (by rw [hblank]; simp)]
            simp
          rw [hblank] at hbl
          clear HNP hpad hLd htu hz hzd hyd
          refine hsp.mono ?_
          rintro e w1 ⟨rfl, hcells, hb1⟩
          have hcx := hcells (p + 1) x hx
          have hcy := hcells p y hy
          rw [hLq]
          clear hcells
          go_wp2_with (first | (go_at_call 16; refine (hts' _).mono ?_; rintro e w' ⟨rfl, hw⟩; subst w') | (go_at_call 15; refine (hbl _).mono ?_; rintro e w2 ⟨rfl, hb2⟩))
          go_ret
          exact ⟨_, rfl, by rw [HO.out]; exact reads_made _ _, chain (chain hb1 hb2) (made_below _ _)⟩
end Go.Proofs.Qxb6605488aDoor
