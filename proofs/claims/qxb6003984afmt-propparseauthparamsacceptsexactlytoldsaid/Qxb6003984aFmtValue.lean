/-
  Seat b6003984aF: authParamValue.
-/
import Derived.Test.Qxb6003984aFmtErrs
set_option linter.unusedSimpArgs false
set_option linter.unusedVariables false
namespace Go.Proofs.Qxb6003984aFmt
open Go.RowKit Go.Extern.Stop Go.Stop Go.Extern

theorem at_below {T e : TypeId} {B b : Nat} {p : Value} {bs : List Value} {W w' : World} (h : Lib.BuilderAt T e B b p bs W) (hb : Below W.heap.size W w') : Lib.BuilderAt T e B b p bs w' := by
  have hlt := h.lt
  obtain ⟨hB, v, hh, hown, hne⟩ := h
  refine ⟨hB, v, ?_, hown.kept (row := none) ⟨hb.os, hb.tape, hb.output, hb.size, fun k hk _ => hb.block k hk⟩ ?_, hne⟩
  · rw [hb.block b hlt]; exact hh
  · cases v.ownBlock <;> simp
theorem bld_below {T e : TypeId} {B b : Nat} {bs : List Value} {W w' : World} (h : Lib.IsBuilder T e B b bs W) (hb : Below W.heap.size W w') : Lib.IsBuilder T e B b bs w' :=
  h.elim (fun x => Or.inl (at_below x hb)) (fun x => Or.inr (at_below x hb))

/-- How authParamValue ends. -/
def ValOut (o : Option (ByteArray × Nat)) (w : World) (e : Ending) (w' : World) : Prop :=
  Below w.heap.size w w' ∧ (∀ v k, o = some (v, k) → e = .returned (.tuple #[.string v, .int .i64 (k : Int), .nilIface])) ∧
  (o = none → ∃ (t : ByteArray) (j : Int) (a : Addr) (text : ByteArray), e = .returned (.tuple #[.string t, .int .i64 j, .iface 83 (.pointer (some a))]) ∧ w'.cell? a = some (.string text))

theorem valout_some {o : Option (ByteArray × Nat)} {w : World} {e : Ending} {w' : World} (v : ByteArray) (k : Nat) (ho : o = some (v, k)) (hb : Below w.heap.size w w') (he : e = .returned (.tuple #[.string v, .int .i64 (k : Int), .nilIface])) : ValOut o w e w' := by
  subst ho
  refine ⟨hb, fun v' k' h => ?_, fun h => by cases h⟩
  cases h
  exact he
theorem valout_none {o : Option (ByteArray × Nat)} {w w' : World} {t : ByteArray} {j : Int} {a : Addr} {text : ByteArray} (ho : o = none) (hb : Below w.heap.size w w') (hc : w'.cell? a = some (.string text)) :
    ValOut o w (.returned (.tuple #[.string t, .int .i64 j, .iface 83 (.pointer (some a))])) w' := by
  subst ho
  refine ⟨hb, fun v' k' h => ?_, fun _ => ⟨t, j, a, text, rfl, hc⟩⟩
  cases h

theorem quoted_close (l : List UInt8) (f i : Nat) (h : i < l.length) (hx : byteAt l i = 34) : quoted l (f + 1) i = some ([], i + 1) := by
  rw [quoted, if_pos h, if_pos hx]
theorem quoted_end (l : List UInt8) (f i : Nat) (h : ¬ i < l.length) : quoted l f i = none := by
  cases f with
  | zero => rfl
  | succ f => rw [quoted, if_neg h]
theorem quoted_esc (l : List UInt8) (f i : Nat) (h : i < l.length) (hx : byteAt l i = 92) : quoted l (f + 1) i = if i + 1 < l.length ∧ okB (byteAt l (i + 1)) = true then (quoted l f (i + 2)).map (fun x => (byteAt l (i + 1) :: x.1, x.2)) else none := by
  rw [quoted, if_pos h, if_neg (by rw [hx]; decide), if_pos hx]
theorem quoted_one (l : List UInt8) (f i : Nat) (h : i < l.length) (h1 : byteAt l i ≠ 34) (h2 : byteAt l i ≠ 92) : quoted l (f + 1) i = if okB (byteAt l i) = true then (quoted l f (i + 1)).map (fun x => (byteAt l i :: x.1, x.2)) else none := by
  rw [quoted, if_pos h, if_neg h1, if_neg h2]

/-- What is still to be read, behind what has been read. -/
def behind (acc : List UInt8) (o : Option (List UInt8 × Nat)) : Option (List UInt8 × Nat) := o.map fun x => (acc ++ x.1, x.2)
theorem behind_none (acc : List UInt8) : behind acc none = none := rfl
theorem behind_push (acc : List UInt8) (c : UInt8) (o : Option (List UInt8 × Nat)) : behind acc (o.map fun x => (c :: x.1, x.2)) = behind (acc ++ [c]) o := by
  cases o <;> simp [behind]

theorem byteCells_push (acc : List UInt8) (c : UInt8) : Lib.byteCells (acc ++ [c]) = Lib.byteCells acc ++ [Value.int .u8 (c.toNat : Int)] := by simp [Lib.byteCells]

theorem ok_tests (x : UInt8) (h : okB x = true) : ((decide ((x.toNat : Int) < 32) = false) ∨ (x.toNat = 9)) ∧ decide ((x.toNat : Int) > 126) = false := by
  simp [okB] at h ⊢
  omega
theorem not_ok (x : UInt8) (h : okB x = false) : (decide ((x.toNat : Int) < 32) = true ∧ ((x.toNat : Int) == 9) = false ∧ ((x.toNat : Int) != 9) = true) ∨ (decide ((x.toNat : Int) < 32) = false ∧ decide ((x.toNat : Int) > 126) = true) := by
  simp [okB] at h ⊢
  omega

set_option maxRecDepth 1000000 in
set_option maxHeartbeats 1000000 in
theorem value_any (F : Interp) (s : ByteArray) (i : Nat) (w : World) (hF : F.answers w.tape) (hs : s.size ≤ 1048576) (hi : i ≤ s.size) :
    Calls Tryf.prog 29 #[.string s, .int .i64 i] w (ValOut (valueAt s i) w) := by
  have hl := len_eq s
  by_cases hq : i < s.size ∧ byteAt s.data.toList i = 34
  · have HV : Hid (valueAt s i = (quotedAt s.data.toList (i + 1)).map fun x => (⟨x.1.toArray⟩, x.2)) := by
      show _ = _
      unfold valueAt
      rw [if_pos ⟨by omega, hq.2⟩]
    have hlt := hq.1
    have hx := str_at s i hlt
    rw [hq.2] at hx
    have hx' : s[i]'hlt = 34 := hx.symm
    clear hx hq
    have hne0 : ((i : Int) == (s.size : Int)) = false := by simp; omega
    go_enter Tryf.func29, Tryf.ntmps29
    go_wp2
    go_loopw [1] (fun t wr => ∃ (j f : Nat) (acc : List UInt8), j ≤ s.size ∧ t = .int .i64 j ∧ s.size + 1 ≤ j + f ∧ acc.length ≤ j ∧ Hid (behind acc (quoted s.data.toList f j) = quotedAt s.data.toList (i + 1)) ∧
      Lib.IsBuilder 73 5 w.heap.size w.heap.size (Lib.byteCells acc) wr ∧ Below w.heap.size w wr) (fun t _ => s.size - (intOf t).toNat)
    case atStart => exact ⟨i + 1, s.size + 1, [], by omega, by go_num, by omega, by simp, (by show _ = _; unfold behind quotedAt; rw [hl]; simp), Lib.fresh_isBuilder 73 5 w, (Below.refl _ _).alloc (Nat.le_refl _) _⟩
    case round =>
      obtain ⟨j, f, acc, hj, rfl, hf, hacc, HQ, hI, hb⟩ := hrel
      have hsz := hb.size
      clear hx'
      by_cases hjl : j < s.size
      · obtain ⟨f, rfl⟩ : ∃ f', f = f' + 1 := ⟨f - 1, by omega⟩
        obtain ⟨x, hx⟩ : ∃ x, s[j]'hjl = x := ⟨_, rfl⟩
        have hxb := x.toNat_lt
        have HX : Hid (byteAt s.data.toList j = x) := by show _ = _; rw [str_at s j hjl, hx]
        by_cases h34 : x = 34
        · subst h34
          have HE : Hid (valueAt s i = some (⟨acc.toArray⟩, j + 1)) := by
            show _ = _
            rw [HV.out, ← HQ.out, quoted_close _ f j (by omega) HX.out]
            simp [behind]
          clear HV HQ
          go_wp2_with (go_at_call 40; refine (Tryf.Builder_String_any _ _ acc _ hI (by omega)).mono ?_; rintro e w1 ⟨rfl, hb1⟩)
          go_ret3
          exact valout_some _ _ HE.out (hb.trans hb1) (by go_num)
        · have h34' : ((x.toNat : Int) == 34) = false := by
            have : x.toNat ≠ 34 := fun e => h34 (UInt8.toNat_inj.1 e)
            simp
            omega
          by_cases h92 : x = 92
          · subst h92
            by_cases h2 : j + 1 < s.size
            · obtain ⟨y, hy⟩ : ∃ y, s[j + 1]'h2 = y := ⟨_, rfl⟩
              have hyb := y.toNat_lt
              have HY : Hid (byteAt s.data.toList (j + 1) = y) := by show _ = _; rw [str_at s (j + 1) h2, hy]
              cases hok : okB y with
              | true =>
                have HQ' : Hid (behind (acc ++ [y]) (quoted s.data.toList f (j + 2)) = quotedAt s.data.toList (i + 1)) := by
                  show _ = _
                  rw [← HQ.out, quoted_esc _ f j (by omega) HX.out, HY.out, if_pos ⟨by omega, hok⟩, behind_push]
                have ht := ok_tests y hok
                obtain ⟨t1, t2⟩ := ht
                have hne : ((j : Int) + 1 == (s.size : Int)) = false := by simp; omega
                clear HQ HV hok
                rcases t1 with t1 | t1
                all_goals
                  go_wp2_with (go_at_call 39; refine (Tryf.Builder_WriteByte _ _ _ _ _ hI (by rw [Lib.byteCells_length]; omega) (by omega)).mono ?_; rintro e w2 ⟨rfl, hI2, hb2⟩)
                  go_roundw
                  case rel => exact ⟨j + 2, f, acc ++ [y], by omega, by go_num, by omega, by simp; omega, HQ', (by rw [byteCells_push]; first | exact Or.inr hI2 | (rw [t1]; exact Or.inr hI2)), hb.trans hb2⟩
                  case measure => simp [intOf]; omega
              | false =>
                have HE : Hid (valueAt s i = none) := by
                  show _ = _
                  rw [HV.out, ← HQ.out, quoted_esc _ f j (by omega) HX.out, HY.out, if_neg (fun h => by rw [hok] at h; exact absurd h.2 (by simp)), behind_none]
                  rfl
                clear HV HQ
                have hFr : F.answers wr.tape := by rw [hb.tape]; exact hF
                have ht := not_ok y hok
                have hne : ((j : Int) + 1 == (s.size : Int)) = false := by simp; omega
                clear hok
                rcases ht with ⟨t1, t2, t3⟩ | ⟨t1, t2⟩
                all_goals
                  go_wp2_with fail
                  refine (errorf6 F (y.toNat : Int) wr.heap.size _ (by exact hFr) (by go_simp)).mono ?_
                  rintro e w2 ⟨a, text, rfl, hc, _, hb2⟩
                  go_wp2
                  go_ret3
                  exact valout_none HE.out (hb.trans ((((Below.refl _ wr).alloc (Nat.le_refl _) _).mono hsz).trans (hb2.mono (by simp; omega)))) hc
            · have HE : Hid (valueAt s i = none) := by
                show _ = _
                rw [HV.out, ← HQ.out, quoted_esc _ f j (by omega) HX.out, if_neg (fun h => by omega), behind_none]
                rfl
              clear HV HQ
              have hne : ((j : Int) + 1 == (s.size : Int)) = true := by simp; omega
              go_wp2_with (go_at_call 36; refine (new_any _ _).mono ?_; rintro e w2 ⟨a, text, rfl, hc, _, hb2⟩)
              go_ret3
              exact valout_none HE.out (hb.trans (hb2.mono hsz)) hc
          · have h92' : ((x.toNat : Int) == 92) = false := by
              have : x.toNat ≠ 92 := fun e => h92 (UInt8.toNat_inj.1 e)
              simp
              omega
            cases hok : okB x with
            | true =>
              have HQ' : Hid (behind (acc ++ [x]) (quoted s.data.toList f (j + 1)) = quotedAt s.data.toList (i + 1)) := by
                show _ = _
                rw [← HQ.out, quoted_one _ f j (by omega) (by rw [HX.out]; exact h34) (by rw [HX.out]; exact h92), HX.out, if_pos hok, behind_push]
              have ht := ok_tests x hok
              obtain ⟨t1, t2⟩ := ht
              clear HQ HV hok
              rcases t1 with t1 | t1
              all_goals
                go_wp2_with (go_at_call 39; refine (Tryf.Builder_WriteByte _ _ _ _ _ hI (by rw [Lib.byteCells_length]; omega) (by omega)).mono ?_; rintro e w2 ⟨rfl, hI2, hb2⟩)
                go_roundw
                case rel => exact ⟨j + 1, f, acc ++ [x], by omega, by go_num, by omega, by simp; omega, HQ', (by rw [byteCells_push]; first | exact Or.inr hI2 | (rw [t1]; exact Or.inr hI2)), hb.trans hb2⟩
                case measure => simp [intOf]; omega
            | false =>
              have HE : Hid (valueAt s i = none) := by
                show _ = _
                rw [HV.out, ← HQ.out, quoted_one _ f j (by omega) (by rw [HX.out]; exact h34) (by rw [HX.out]; exact h92), HX.out, if_neg (by rw [hok]; simp), behind_none]
                rfl
              clear HV HQ
              have hFr : F.answers wr.tape := by rw [hb.tape]; exact hF
              have ht := not_ok x hok
              clear hok
              rcases ht with ⟨t1, t2, t3⟩ | ⟨t1, t2⟩
              all_goals
                go_wp2_with fail
                refine (errorf6 F (x.toNat : Int) wr.heap.size _ (by exact hFr) (by go_simp)).mono ?_
                rintro e w2 ⟨a, text, rfl, hc, _, hb2⟩
                go_wp2
                go_ret3
                exact valout_none HE.out (hb.trans ((((Below.refl _ wr).alloc (Nat.le_refl _) _).mono hsz).trans (hb2.mono (by simp; omega)))) hc
      · have HE : Hid (valueAt s i = none) := by
          show _ = _
          rw [HV.out, ← HQ.out, quoted_end _ f j (by omega), behind_none]
          rfl
        clear HV HQ
        go_wp2_with (go_at_call 36; refine (new_any _ _).mono ?_; rintro e w2 ⟨a, text, rfl, hc, _, hb2⟩)
        go_ret3
        exact valout_none HE.out (hb.trans (hb2.mono hsz)) hc
  · have HV : Hid (valueAt s i = if skipP tcharB s.data.toList i = i then none else some (s.extract i (skipP tcharB s.data.toList i), skipP tcharB s.data.toList i)) := by
      show _ = _
      unfold valueAt
      rw [if_neg (fun h => hq ⟨by omega, h.2⟩)]
    have hway : (i = s.size ∧ ((i : Int) == (s.size : Int)) = true) ∨ (((i : Int) == (s.size : Int)) = false ∧ ∃ (hlt : i < s.size) (x : UInt8), s[i]'hlt = x ∧ ((x.toNat : Int) == 34) = false ∧ ((x.toNat : Int) != 34) = true) := by
      by_cases hlt : i < s.size
      · right
        have : (s[i]'hlt).toNat ≠ 34 := fun e => hq ⟨hlt, by rw [str_at s i hlt]; exact UInt8.toNat_inj.1 e⟩
        refine ⟨by simp; omega, hlt, _, rfl, ?_, ?_⟩
        all_goals
          simp
          omega
      · left
        refine ⟨by omega, ?_⟩
        simp
        omega
    clear hq
    rcases hway with ⟨hie, h1⟩ | ⟨h1, hlt0, x, hx, h2, h3⟩
    all_goals
      go_enter Tryf.func29, Tryf.ntmps29
      go_wp2
      go_loop [1] (fun t => ∃ j : Nat, j ≤ s.size ∧ i ≤ j ∧ t = .int .i64 j ∧ Hid (skipP tcharB s.data.toList j = skipP tcharB s.data.toList i)) (fun t => s.size - (intOf t).toNat)
      case atStart => exact ⟨i, hi, Nat.le_refl _, rfl, rfl⟩
      case round =>
        obtain ⟨j, hj, hij, rfl, HR⟩ := hrel
        try clear hx
        have hway2 : (∃ (hjl : j < s.size) (y : UInt8), s[j]'hjl = y ∧ tcharB y = true) ∨ (Hid (skipP tcharB s.data.toList i = j) ∧ ((¬ j < s.size) ∨ ∃ (hjl : j < s.size) (y : UInt8), s[j]'hjl = y ∧ tcharB y = false)) := by
          by_cases hjl : j < s.size
          · cases ht : tcharB (s[j]'hjl) with
            | true => exact Or.inl ⟨hjl, _, rfl, ht⟩
            | false =>
              refine Or.inr ⟨?_, Or.inr ⟨hjl, _, rfl, ht⟩⟩
              show _ = _
              rw [← HR.out]
              exact skipP_stop _ _ j (fun h => by rw [str_at s j hjl, ht] at h; exact absurd h.2 (by simp))
          · refine Or.inr ⟨?_, Or.inl hjl⟩
            show _ = _
            rw [← HR.out]
            exact skipP_stop _ _ j (fun h => by omega)
        rcases hway2 with ⟨hjl, y, hy, ht⟩ | ⟨HE, hstop⟩
        · have HR' : Hid (skipP tcharB s.data.toList (j + 1) = skipP tcharB s.data.toList i) := by
            show _ = _
            rw [← HR.out, skipP_step tcharB _ j (by omega) (by rw [str_at s j hjl, hy]; exact ht)]
          clear HR
          first
          | omega
          | (go_wp2_with (go_at_call 25; refine (token_any _ _).mono ?_; rintro e w' ⟨rfl, hw⟩; subst w')
             go_round
             case rel => exact ⟨j + 1, by omega, by omega, by go_num, HR'⟩
             case measure => simp [intOf]; omega)
        · clear HR
          by_cases hji : j = i
          · have HN : Hid (valueAt s i = none) := by
              show _ = _
              rw [HV.out, if_pos (by rw [HE.out, hji])]
            clear HV HE
            have hji' : ((j : Int) == (i : Int)) = true := by simp; omega
            clear hji
            rcases hstop with hnl | ⟨hjl, y, hy, ht⟩
            all_goals try omega
            all_goals
              go_wp2_with (first | (go_at_call 25; refine (token_any _ _).mono ?_; rintro e w' ⟨rfl, hw⟩; subst w') | (go_at_call 36; go_loud (refine (new_any _ _).mono ?_); rintro e w2 ⟨a, text, rfl, hc, _, hb2⟩))
              go_ret3
              exact valout_none HN.out hb2 hc
          · have HN : Hid (valueAt s i = some (s.extract i j, j)) := by
              show _ = _
              rw [HV.out, if_neg (by rw [HE.out]; exact hji), HE.out]
            clear HV HE
            have hji' : ((j : Int) == (i : Int)) = false := by simp; omega
            rcases hstop with hnl | ⟨hjl, y, hy, ht⟩
            all_goals try omega
            all_goals
              go_wp2_with (go_at_call 25; refine (token_any _ _).mono ?_; rintro e w' ⟨rfl, hw⟩; subst w')
              go_ret3
              exact valout_some _ _ HN.out (Below.refl _ _) rfl
end Go.Proofs.Qxb6003984aFmt
