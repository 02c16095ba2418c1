/-
  Seat b6003984aF: indexKeys: does a name stand twice?
-/
import Derived.Test.Qxb6003984aFmtErrs
import Derived.Maps.Own
import Derived.Maps.OwnSet
set_option linter.unusedSimpArgs false
set_option linter.unusedVariables false
namespace Go.Proofs.Qxb6003984aFmt
open Go.RowKit Go.Maps

def pairCells (ps : List (ByteArray × ByteArray)) : List Value := ps.flatMap fun p => [.string p.1, .string p.2]
theorem pairCells_len (ps : List (ByteArray × ByteArray)) : (pairCells ps).length = ps.length * 2 := by
  induction ps with
  | nil => rfl
  | cons p t ih => simp only [pairCells, List.flatMap_cons, List.length_append, List.length_cons, List.length_nil] at ih ⊢; omega
theorem pairCells_push (ps : List (ByteArray × ByteArray)) (p : ByteArray × ByteArray) : pairCells (ps ++ [p]) = pairCells ps ++ [.string p.1, .string p.2] := by simp [pairCells]
theorem pairCells_at (ps : List (ByteArray × ByteArray)) : ∀ (i : Nat) (p : ByteArray × ByteArray), ps[i]? = some p → (pairCells ps)[i * 2]? = some (.string p.1) ∧ (pairCells ps)[i * 2 + 1]? = some (.string p.2) := by
  induction ps with
  | nil => intro i p h; simp at h
  | cons q t ih =>
    intro i p h
    have e : pairCells (q :: t) = .string q.1 :: .string q.2 :: pairCells t := by simp [pairCells]
    rw [e]
    cases i with
    | zero => simp at h; subst h; simp
    | succ i =>
      have := ih i p (by simpa using h)
      rw [show (i + 1) * 2 = i * 2 + 1 + 1 from by omega, show i * 2 + 1 + 1 + 1 = (i * 2 + 1) + 1 + 1 from by omega]
      simp only [List.getElem?_cons_succ]
      exact this

theorem nodup_step {α : Type} (l : List α) (i : Nat) (x : α) (h : l[i]? = some x) (hn : (l.take i).Nodup) (hx : ∀ j y, j < i → l[j]? = some y → y ≠ x) : (l.take (i + 1)).Nodup := by
  have hi : i < l.length := by rcases List.getElem?_eq_some_iff.1 h with ⟨h', _⟩; exact h'
  have e : l.take (i + 1) = l.take i ++ [x] := by
    rw [List.take_succ_eq_append_getElem hi]
    congr 1
    rcases List.getElem?_eq_some_iff.1 h with ⟨_, h'⟩
    rw [h']
  rw [e, List.nodup_append]
  refine ⟨hn, by simp, ?_⟩
  intro a ha b hb
  simp at hb
  subst hb
  obtain ⟨j, hj, rfl⟩ := List.mem_iff_getElem.1 ha
  have hj' : j < i ∧ j < l.length := by simp at hj; omega
  refine hx j _ hj'.1 ?_
  simp [hj'.2]
theorem not_nodup {α : Type} (l : List α) (i j : Nat) (x : α) (hj : j < i) (h1 : l[i]? = some x) (h2 : l[j]? = some x) : ¬ l.Nodup := by
  intro hn
  obtain ⟨hi', e1⟩ := List.getElem?_eq_some_iff.1 h1
  obtain ⟨hj', e2⟩ := List.getElem?_eq_some_iff.1 h2
  exact (List.pairwise_iff_getElem.1 hn j i hj' hi' hj) (e2.trans e1.symm)
theorem mem_take {α : Type} (l : List α) (i : Nat) (x : α) : x ∈ l.take i ↔ ∃ j, j < i ∧ l[j]? = some x := by
  rw [List.mem_iff_getElem?]
  constructor
  · rintro ⟨j, h⟩
    rw [List.getElem?_take] at h
    split at h
    · exact ⟨j, by assumption, h⟩
    · cases h
  · rintro ⟨j, hj, h⟩
    exact ⟨j, by rw [List.getElem?_take, if_pos hj]; exact h⟩

set_option maxRecDepth 100000 in
theorem name31 (n v : ByteArray) (w : World) : Calls Tryf.prog 31 #[.agg #[.string n, .string v]] w fun e w' => e = .returned (.string n) ∧ Below w.heap.size w w' := by
  go_enter Tryf.func31, Tryf.ntmps31
  go_wp2
  go_ret
  exact ⟨rfl, (Below.refl _ _).alloc (Nat.le_refl _) _⟩

theorem str_ne {a b : ByteArray} (h : a ≠ b) : (a.toList == b.toList) = false := by
  cases hh : a.toList == b.toList with
  | false => rfl
  | true =>
    rw [ByteArray.toList_eq, ByteArray.toList_eq] at hh
    exact absurd (Go.WideShapes.bytes_inj (by simpa using hh)) h

/-- How indexKeys ends. -/
def KeysOut (ps : List (ByteArray × ByteArray)) (w : World) (e : Ending) (w' : World) : Prop :=
  (∃ m n, e = .returned (.tuple #[m, .string n, .bool (!decide (ps.map Prod.fst).Nodup)])) ∧ Below w.heap.size w w'

theorem make60 (n : Int) (w : World) : (Instr.makeMap 60 (some (.int .i64 n))).run Tryf.prog w = .ok (.map (some w.heap.size)) (w.alloc (.map #[] 0)) := by
  simp [Instr.makeMap, run_underlying Tryf.underlying60, asInt, asIntOf, Result.andThen]
attribute [local go_sem] make60
theorem law9 : Keyed Tryf.prog 9 := string_keyed Tryf.underlying9
theorem zero3 (w : World) : (zeroValue 3).run Tryf.prog w = .ok (.int .i64 0) w := by kernel_rfl

set_option maxRecDepth 100000 in
set_option maxHeartbeats 1000000 in
theorem keys_few (g cap : Nat) (ps : List (ByteArray × ByteArray)) (w : World) (hlen : ps.length ≤ 16) (hcap : ps.length ≤ cap) (hcap2 : cap ≤ maxLen) (hg : g < w.heap.size)
    (hc : ∀ i p, ps[i]? = some p → w.cell? ⟨g, i * 2, none⟩ = some (.string p.1) ∧ w.cell? ⟨g, i * 2 + 1, none⟩ = some (.string p.2)) :
    Calls Tryf.prog 30 #[.slice (some ⟨g, 0, none⟩) ps.length cap, .func (.func 31) #[] #[]] w (KeysOut ps w) := by
  have hle : decide ((ps.length : Int) ≤ 16) = true := by simp; omega
  go_enter Tryf.func30, Tryf.ntmps30
  go_wp2
  go_loopw [21] (fun t wr => ∃ i : Nat, i ≤ ps.length ∧ t = .int .i64 i ∧ Hid (((ps.map Prod.fst).take i).Nodup) ∧ Below w.heap.size w wr) (fun t _ => ps.length - (intOf t).toNat)
  case atStart => exact ⟨0, by omega, rfl, (by show List.Nodup _; simp), Below.refl _ _⟩
  case round =>
    obtain ⟨i, hi, rfl, HN, hb⟩ := hrel
    by_cases hlt : i < ps.length
    · obtain ⟨p, hp⟩ : ∃ p, ps[i]? = some p := ⟨ps[i], by simp [hlt]⟩
      obtain ⟨n, v⟩ := p
      have HP : Hid (ps[i]? = some (n, v)) := hp
      obtain ⟨c0, c1⟩ := hc i _ hp
      clear hp
      have c0r : wr.cell? ⟨g, i * 2, none⟩ = some (.string n) := by rw [hb.cell hg]; exact c0
      have c1r : wr.cell? ⟨g, i * 2 + 1, none⟩ = some (.string v) := by rw [hb.cell hg]; exact c1
      clear c0 c1
      go_wp2_with (go_at_call 31; refine (name31 n v _).mono ?_; rintro e w1 ⟨rfl, hb1⟩)
      have hbw1 : Below w.heap.size w w1 := hb.trans (hb1.mono hb.size)
      clear c0r c1r hb1
      go_loopw [34] (fun t wq => ∃ j : Nat, j ≤ i ∧ t = .int .i64 j ∧ Hid (∀ j' y, j' < j → (ps.map Prod.fst)[j']? = some y → y ≠ n) ∧ Below w.heap.size w wq) (fun t _ => i - (intOf t).toNat)
      case atStart => exact ⟨0, by omega, rfl, fun j' y h => by omega, hbw1⟩
      case round =>
        obtain ⟨j, hj, rfl, HA, hbq⟩ := hrel
        obtain ⟨wq, rfl⟩ : ∃ wq, wq = wr := ⟨_, rfl⟩
        by_cases hjl : j < i
        · obtain ⟨p, hp⟩ : ∃ p, ps[j]? = some p := ⟨ps[j], by simp [Nat.lt_trans hjl hlt]⟩
          obtain ⟨n1, v1⟩ := p
          have HP1 : Hid (ps[j]? = some (n1, v1)) := hp
          obtain ⟨c0, c1⟩ := hc j _ hp
          clear hp
          have c0q : wq.cell? ⟨g, j * 2, none⟩ = some (.string n1) := by rw [hbq.cell hg]; exact c0
          have c1q : wq.cell? ⟨g, j * 2 + 1, none⟩ = some (.string v1) := by rw [hbq.cell hg]; exact c1
          clear c0 c1
          by_cases hne : n1 = n
          · subst hne
            have HX : Hid ((!decide (ps.map Prod.fst).Nodup) = true) := by
              show _ = _
              have := not_nodup (ps.map Prod.fst) i j n1 hjl (by simp [HP.out]) (by simp [HP1.out])
              simp [this]
            clear HA HN HP HP1
            go_wp2_with (go_at_call 31; refine (name31 n1 v1 _).mono ?_; rintro e w2 ⟨rfl, hb2⟩)
            go_ret3
            exact ⟨⟨_, _, by rw [HX.out]; rfl⟩, hbq.trans (((Below.refl _ wq).alloc (Nat.le_refl _) _).mono hbq.size |>.trans (hb2.mono (by have := hbq.size; simp; omega)))⟩
          · have HA' : Hid (∀ j' y, j' < j + 1 → (ps.map Prod.fst)[j']? = some y → y ≠ n) := by
              intro j' y h1 h2
              by_cases h : j' = j
              · subst h
                simp [HP1.out] at h2
                subst h2
                exact hne
              · exact HA.out j' y (by omega) h2
            have e1 : (n1.toList == n.toList) = false := str_ne hne
            clear HA HN HP HP1
            go_wp2_with (go_at_call 31; refine (name31 n1 v1 _).mono ?_; rintro e w2 ⟨rfl, hb2⟩)
            go_roundw
            case rel => exact ⟨j + 1, by omega, by go_num, HA', hbq.trans (((Below.refl _ wq).alloc (Nat.le_refl _) _).mono hbq.size |>.trans (hb2.mono (by have := hbq.size; simp; omega)))⟩
            case measure => simp [intOf]; omega
        · have hji : j = i := by omega
          subst hji
          have HN' : Hid (((ps.map Prod.fst).take (j + 1)).Nodup) := nodup_step _ j n (by simp [HP.out]) HN.out HA.out
          clear HN HA HP
          go_wp2
          go_roundw
          case rel => exact ⟨j + 1, by omega, by go_num, HN', hbq⟩
          case measure => simp [intOf]; omega
    · have HX : Hid ((!decide (ps.map Prod.fst).Nodup) = false) := by
        show _ = _
        have := HN.out
        rw [List.take_of_length_le (by simp; omega)] at this
        simp [this]
      clear HN
      go_wp2
      go_ret3
      exact ⟨⟨_, _, by rw [HX.out]; rfl⟩, hb⟩

set_option maxRecDepth 100000 in
set_option maxHeartbeats 1000000 in
theorem keys_many (g cap : Nat) (ps : List (ByteArray × ByteArray)) (w : World) (hlen : 16 < ps.length) (hlen2 : ps.length ≤ 10000000) (hcap : ps.length ≤ cap) (hcap2 : cap ≤ maxLen) (hg : g < w.heap.size)
    (hsz : ∀ (i : Nat) (p : ByteArray × ByteArray), ps[i]? = some p → p.1.size ≤ maxLen)
    (hc : ∀ i p, ps[i]? = some p → w.cell? ⟨g, i * 2, none⟩ = some (.string p.1) ∧ w.cell? ⟨g, i * 2 + 1, none⟩ = some (.string p.2)) :
    Calls Tryf.prog 30 #[.slice (some ⟨g, 0, none⟩) ps.length cap, .func (.func 31) #[] #[]] w (KeysOut ps w) := by
  have hle : decide ((ps.length : Int) ≤ 16) = false := by simp; omega
  go_enter Tryf.func30, Tryf.ntmps30
  go_wp2
  go_loopw [4, 51] (fun m t wr => ∃ (i : Nat) (D : DataW Unit), i ≤ ps.length ∧ m = .map (some w.heap.size) ∧ t = .int .i64 i ∧ Hid (((ps.map Prod.fst).take i).Nodup) ∧ wr.ownsMap Tryf.prog 9 (plainElem Tryf.prog 3) w.heap.size i D ∧ IsMap D ∧
      Hid (∀ s : ByteArray, Maps.has D (.string s.data.toList) = true ↔ s ∈ (ps.map Prod.fst).take i) ∧ Below w.heap.size w wr) (fun _ t _ => ps.length - (intOf t).toNat)
  case atStart => exact ⟨0, .map [], by omega, rfl, rfl, (by show List.Nodup _; simp), World.ownsMap_made _ _ _ _, ⟨[], rfl⟩, (by intro s; simp [Maps.has]), (Below.refl _ _).alloc (Nat.le_refl _) _⟩
  case round =>
    obtain ⟨i, D, hi, rfl, rfl, HN, hown, hD, HH, hb⟩ := hrel
    by_cases hlt : i < ps.length
    · obtain ⟨p, hp⟩ : ∃ p, ps[i]? = some p := ⟨ps[i], by simp [hlt]⟩
      obtain ⟨n, v⟩ := p
      have HP : Hid (ps[i]? = some (n, v)) := hp
      obtain ⟨c0, c1⟩ := hc i _ hp
      have hnl : n.size ≤ maxLen := hsz i _ hp
      clear hp
      have c0r : wr.cell? ⟨g, i * 2, none⟩ = some (.string n) := by rw [hb.cell hg]; exact c0
      have c1r : wr.cell? ⟨g, i * 2 + 1, none⟩ = some (.string v) := by rw [hb.cell hg]; exact c1
      clear c0 c1
      have hkey := WideMaps.keyOf_string_mk (P := Tryf.prog) Tryf.underlying9 hnl
      have hsb := hb.size
      cases hhas : Maps.has D (.string n.data.toList) with
      | true =>
        have HX : Hid ((!decide (ps.map Prod.fst).Nodup) = true) := by
          show _ = _
          obtain ⟨j, hj, hjn⟩ := (mem_take _ _ _).1 ((HH.out n).1 hhas)
          have := not_nodup (ps.map Prod.fst) i j n hj (by simp [HP.out]) hjn
          simp [this]
        clear HH HN HP
        go_wp2_with (first | (go_at_call 31; refine (name31 n v _).mono ?_; rintro e w1 ⟨rfl, hb1⟩; have hown1 := (hown.alloc (.cells #[.string n, .string v] 33)).kept (row := none) ⟨hb1.os, hb1.tape, hb1.output, hb1.size, fun k hk _ => hb1.block k hk⟩ (by simp)) | (at_lookup; refine wpList_lookup_own_ok_int _ rfl _ _ 60 rfl 9 3 .i64 law9 Tryf.underlying60 Tryf.underlying3 (zero3 _) w.heap.size i D rfl hown1 _ _ rfl hkey ?_; intro c hat hwc))
        go_ret3
        exact ⟨⟨_, _, by rw [HX.out]; rfl⟩, hb.trans (((Below.refl _ wr).alloc (Nat.le_refl _) _).mono hb.size |>.trans (hb1.mono (by simp; omega)))⟩
      | false =>
        have HN' : Hid (((ps.map Prod.fst).take (i + 1)).Nodup) := nodup_step _ i n (by simp [HP.out]) HN.out (by
          intro j y hj hy e
          subst e
          have := (HH.out y).2 ((mem_take _ _ _).2 ⟨j, hj, hy⟩)
          rw [hhas] at this
          cases this)
        have HH' : Hid (∀ s : ByteArray, Maps.has (D.put (.string n.data.toList) (.lit (.int .i64 (i : Int)))) (.string s.data.toList) = true ↔ s ∈ (ps.map Prod.fst).take (i + 1)) := by
          intro s
          have et : (ps.map Prod.fst).take (i + 1) = (ps.map Prod.fst).take i ++ [n] := by
            rw [List.take_succ_eq_append_getElem (by simpa using hlt)]
            congr 1
            have := HP.out
            rw [List.getElem?_eq_getElem hlt] at this
            simp at this
            simp [this]
          rw [et, List.mem_append]
          by_cases hsn : s = n
          · subst hsn
            simp [has_put_same (k := .string s.data.toList) hD (by simp [WideAt.IsKeyLit])]
          · rw [has_put_other (by intro h; injection h with h; exact hsn (Go.WideShapes.bytes_inj h))]
            simp [hsn]
            simpa using HH.out s
        have hD' : IsMap (D.put (.string n.data.toList) (.lit (.int .i64 (i : Int)))) := by obtain ⟨es, rfl⟩ := hD; exact ⟨_, rfl⟩
        clear HH HN HP
        go_wp2_with (first | (go_at_call 31; refine (name31 n v _).mono ?_; rintro e w1 ⟨rfl, hb1⟩; have hown1 := (hown.alloc (.cells #[.string n, .string v] 33)).kept (row := none) ⟨hb1.os, hb1.tape, hb1.output, hb1.size, fun k hk _ => hb1.block k hk⟩ (by simp)) | (at_lookup; refine wpList_lookup_own_ok_int _ rfl _ _ 60 rfl 9 3 .i64 law9 Tryf.underlying60 Tryf.underlying3 (zero3 _) w.heap.size i D rfl hown1 _ _ rfl hkey ?_; intro c hat hwc) | (at_mapUpdate; refine wpList_mapUpdate_own _ rfl _ _ _ 60 rfl 9 3 law9 Tryf.underlying60 _ w.heap.size i _ rfl hown1 (by unfold maxLen; omega) _ _ _ rfl rfl hkey _ [] (plainElem_int Tryf.underlying3 (WalkArith.wf_i64 (by omega))) ?_; intro w2 hown2 hgrow2))
        have hbw1 : Below w.heap.size w w1 := hb.trans (((Below.refl _ wr).alloc (Nat.le_refl _) _).mono hb.size |>.trans (hb1.mono (by simp; omega)))
        go_roundw
        case rel => exact ⟨i + 1, _, by omega, rfl, by go_num, HN', hown2, hD', HH', hbw1.grown hgrow2 hbw1.size (fun k hk => by cases hk; exact Nat.le_refl _)⟩
        case measure => simp [intOf]; omega
    · have HX : Hid ((!decide (ps.map Prod.fst).Nodup) = false) := by
        show _ = _
        have := HN.out
        rw [List.take_of_length_le (by simp; omega)] at this
        simp [this]
      clear HN
      go_wp2
      go_ret3
      exact ⟨⟨_, _, by rw [HX.out]; rfl⟩, hb⟩

set_option maxRecDepth 100000 in
set_option maxHeartbeats 1000000 in
theorem keys_nil (w : World) : Calls Tryf.prog 30 #[.slice none 0 0, .func (.func 31) #[] #[]] w (KeysOut [] w) := by
  go_enter Tryf.func30, Tryf.ntmps30
  go_wp2
  go_loopw [21] (fun t wr => t = .int .i64 0 ∧ wr = w) (fun t _ => 0)
  case atStart => exact ⟨rfl, rfl⟩
  case round =>
    obtain ⟨rfl, rfl⟩ := hrel
    go_wp2
    go_ret3
    exact ⟨⟨_, _, rfl⟩, Below.refl _ _⟩

theorem keys_any (B : Nat) (v : Value) (ps : List (ByteArray × ByteArray)) (w : World) (hown : w.ownsRow B 33 2 v ps.length (pairCells ps)) (hlen : ps.length ≤ 10000000) (hsz : ∀ (i : Nat) (p : ByteArray × ByteArray), ps[i]? = some p → p.1.size ≤ maxLen) :
    Calls Tryf.prog 30 #[v, .func (.func 31) #[] #[]] w (KeysOut ps w) := by
  rcases hown.2 with ⟨rfl, h0⟩ | ⟨g, cap, cur, rfl, h1, h2, h3, h4, h5, h6⟩
  · have : ps = [] := by simpa using h0
    subst this
    exact keys_nil w
  · have hg : g < w.heap.size := by
      rcases Array.getElem?_eq_some_iff.1 h2 with ⟨h, _⟩
      exact h
    have hc : ∀ i p, ps[i]? = some p → w.cell? ⟨g, i * 2, none⟩ = some (.string p.1) ∧ w.cell? ⟨g, i * 2 + 1, none⟩ = some (.string p.2) := by
      intro i p hp
      obtain ⟨hi, _⟩ := List.getElem?_eq_some_iff.1 hp
      have := pairCells_at ps i p hp
      exact ⟨by rw [hown.cellAt _ (by omega)]; exact this.1, by rw [hown.cellAt _ (by omega)]; exact this.2⟩
    by_cases hl : ps.length ≤ 16
    · exact keys_few g cap ps w hl h3 h4 hg hc
    · exact keys_many g cap ps w (by omega) hlen h3 h4 hg hsz hc
end Go.Proofs.Qxb6003984aFmt
