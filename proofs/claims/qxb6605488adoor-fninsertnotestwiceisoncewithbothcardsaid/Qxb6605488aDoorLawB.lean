/-
  Seat b6605488aD: FnInsertNotesTwiceIsOnceWithBoth answers true.
-/
import Derived.Test.Qxb6605488aDoorLawA
import Derived.Test.Qxb6605488aDoorTwice
set_option linter.unusedSimpArgs false
set_option linter.unusedVariables false
namespace Go.Proofs.Qxb6605488aDoor
open Go.RowKit

theorem Given.on {w w' : World} {v : Value} {t : List UInt8} (h : Given w v t) (hb : Below w.heap.size w w') : Given w' v t := by
  rcases h with h | ⟨a, cap, h1, h2, h3, h5⟩
  · exact Or.inl h
  · exact Or.inr ⟨a, cap, h1, h2, h3, fun j hj => by rw [hb.cell (World.block_lt_of_cell? _ _ (h5 j hj))]; exact h5 j hj⟩

set_option maxRecDepth 100000 in
set_option maxHeartbeats 800000 in
theorem bytes9 (a : Option Addr) (k cap : Nat) (ex : Bool) (n1 n2 : ByteArray) (w : World) (hk : k ≤ 9223372036854775807) (hn1 : n1.size ≤ 9223372036854775807) (hn2 : n2.size ≤ 9223372036854775807) :
    ∃ b, Calls Tryd.prog 9 #[.slice a k cap, .bool ex, .string n1, .string n2] w fun e w' => e = .returned (.bool b) ∧ w' = w := by
  by_cases h1 : k ≤ 1048576
  · have q1 : decide ((k : Int) > 1048576) = false := by simp; omega
    by_cases h2 : n1.size ≤ 1048576
    · by_cases h3 : k + n1.size ≤ 1048576
      · by_cases h4 : n2.size ≤ 1048576
        · by_cases h5 : k + n1.size + n2.size ≤ 1048576
          · refine ⟨true, ?_⟩
            go_enter Tryd.func9, Tryd.ntmps9
            go_wp2
            go_ret
            exact ⟨rfl, rfl⟩
          · refine ⟨false, ?_⟩
            go_enter Tryd.func9, Tryd.ntmps9
            go_wp2
            go_ret
            exact ⟨rfl, rfl⟩
        · refine ⟨false, ?_⟩
          go_enter Tryd.func9, Tryd.ntmps9
          go_wp2
          go_ret
          exact ⟨rfl, rfl⟩
      · refine ⟨false, ?_⟩
        go_enter Tryd.func9, Tryd.ntmps9
        go_wp2
        go_ret
        exact ⟨rfl, rfl⟩
    · refine ⟨false, ?_⟩
      go_enter Tryd.func9, Tryd.ntmps9
      go_wp2
      go_ret
      exact ⟨rfl, rfl⟩
  · refine ⟨false, ?_⟩
    go_enter Tryd.func9, Tryd.ntmps9
    go_wp2
    go_ret
    exact ⟨rfl, rfl⟩

theorem size_ins (t : List UInt8) (ex : Bool) (n : List UInt8) (b : Nat) (h : t.length + n.length + 13 ≤ b) : (⟨(insE t ex n).toArray⟩ : ByteArray).size ≤ b := by
  have := ins_len t ex n
  show (insE t ex n).toArray.size ≤ _
  simp
  omega

set_option maxRecDepth 1000000 in
set_option maxHeartbeats 4000000 in
theorem lawB (a : Option Addr) (k cap : Nat) (t : List UInt8) (ex : Bool) (n1 n2 : ByteArray) (m : Int) (w : World) (hg : Given w (.slice a k cap) t) (hk : k = t.length) (hkm : k ≤ 9223372036854775807)
    (hn1 : n1.size ≤ 9223372036854775807) (hn2 : n2.size ≤ 9223372036854775807) (hm : w.cell? ⟨0, 0, none⟩ = some (.int .i64 m)) (h0 : 0 < w.heap.size) :
    Calls Tryd.prog 4 #[.slice a k cap, .bool ex, .string n1, .string n2] w fun e w' => e = .returned (.bool true) ∧ Below w.heap.size w w' := by
  have HKT : Hid (k = t.length) := hk
  clear hk
  obtain ⟨b, c9⟩ := bytes9 a k cap ex n1 n2 w hkm hn1 hn2
  cases b with
  | false =>
    clear hg hm h0
    go_enter Tryd.func4, Tryd.ntmps4
    go_wp2_with (go_at_call 9; refine c9.mono ?_; rintro e w' ⟨rfl, hw⟩; subst w')
    go_ret
    exact ⟨rfl, Below.refl _ _⟩
  | true =>
  by_cases h1 : k ≤ 262144
  · by_cases h2 : n1.size ≤ 262144
    · by_cases h3 : n2.size ≤ 262144
      · have c10 : Calls Tryd.prog 10 #[.string n1, .int .i64 0, .string ⟨#[35, 35, 32]⟩] w fun e w' => e = .returned (.bool (preB n1.data.toList 0)) ∧ Below w.heap.size w w' := pre_any n1 0 w (by omega) (by omega)
        have C6 : Hid (∀ w', Below w.heap.size w w' → Calls Tryd.prog 6 #[.slice a k cap] w' fun e w'' => ∃ r, e = .returned r ∧ Reads w'' r ⟨t.toArray⟩ ∧ Below w'.heap.size w' w'') := fun w' hb => clone_any _ t w' (hg.on hb) (by have := HKT.out; omega)
        have hts : (⟨t.toArray⟩ : ByteArray).size ≤ 262144 := by show t.toArray.size ≤ _; have := HKT.out; simp; omega
        obtain ⟨T, hT⟩ : ∃ T, (⟨t.toArray⟩ : ByteArray) = T := ⟨_, rfl⟩
        rw [hT] at C6 hts
        clear hT hg
        cases hp : preB n1.data.toList 0 with
        | false =>
          rw [hp] at c10
          clear hp C6
          go_enter Tryd.func4, Tryd.ntmps4
          go_wp2_with (first | (go_at_call 9; refine c9.mono ?_; rintro e w' ⟨rfl, hw⟩; subst w') | (go_at_call 10; refine c10.mono ?_; rintro e w0 ⟨rfl, hb0⟩))
          go_ret
          exact ⟨rfl, hb0⟩
        | true =>
          rw [hp] at c10
          have HP : Hid (preB n1.data.toList 0 = true) := hp
          clear hp
          go_enter Tryd.func4, Tryd.ntmps4
          go_wp2_with (first | (go_at_call 9; refine c9.mono ?_; rintro e w' ⟨rfl, hw⟩; subst w') | (go_at_call 10; refine c10.mono ?_; rintro e w0 ⟨rfl, hb0⟩) | (go_at_call 6; refine (C6.out _ (by assumption)).mono ?_; rintro e w1 ⟨o, rfl, ho, hb1'⟩))
          clear c9 c10 C6
          have hb1 := chain hb0 hb1'
          clear hb0 hb1'
          have hm1 := cell_on hm h0 hb1
          have h01 : 0 < w1.heap.size := Nat.lt_of_lt_of_le h0 hb1.size
          clear hm
          have hl1 := len_eq n1
          have hl2 := len_eq n2
          have hlT := len_eq T
          have c7 := zz7 o T n1 ex m w1 ho hm1 (by omega) (by omega)
          obtain ⟨A, hA⟩ : ∃ A, (⟨(insE T.data.toList ex n1.data.toList).toArray⟩ : ByteArray) = A := ⟨_, rfl⟩
          have hAs : A.size ≤ 16777216 := by rw [← hA]; exact size_ins _ _ _ _ (by omega)
          have HA : Hid (A.data.toList = insE T.data.toList ex n1.data.toList) := by show _ = _; rw [← hA]
          rw [hA] at c7
          clear hA
          refine c7.mono ?_
          rintro e w2 ⟨ra, rfl, hra, hb2⟩
          clear c7
          have hm2 := cell_on hm1 h01 hb2
          have h02 : 0 < w2.heap.size := Nat.lt_of_lt_of_le h01 hb2.size
          have c7 := zz7 ra A n2 true m w2 hra hm2 hAs (by omega)
          obtain ⟨both, hboth⟩ : ∃ both, n2 ++ ⟨#[10]⟩ ++ n1 = both := ⟨_, rfl⟩
          have hbs : both.size ≤ 16777216 := by rw [← hboth, ByteArray.size_append, ByteArray.size_append]; have : (⟨#[10]⟩ : ByteArray).size = 1 := rfl; omega
          have HT : Hid (insE A.data.toList true n2.data.toList = insE T.data.toList ex both.data.toList) := by
            show _ = _
            rw [HA.out, twice _ _ _ _ HP.out, ← hboth, app_list, app_list]
          obtain ⟨B, hB⟩ : ∃ B, (⟨(insE A.data.toList true n2.data.toList).toArray⟩ : ByteArray) = B := ⟨_, rfl⟩
          have HB : Hid ((⟨(insE T.data.toList ex both.data.toList).toArray⟩ : ByteArray) = B) := by show _ = _; rw [← hB, HT.out]
          rw [hB] at c7
          clear hB HT HA
          go_wp2_with fail
          refine c7.mono ?_
          rintro e w3 ⟨rb, rfl, hrb, hb3⟩
          clear c7
          have hb13 := chain hb2 hb3
          have hm3 := cell_on hm2 h02 hb3
          have c7 := zz7 o T both ex m w3 (ho.on hb13) hm3 (by omega) hbs
          rw [HB.out] at c7
          clear hm1 hm2 hm3 hra hAs HP
          go_wp2_with fail
          refine c7.mono ?_
          rintro e w4 ⟨rc, rfl, hrc, hb4⟩
          clear c7
          have hb14 := chain hb13 hb4
          have hbw4 := chain hb1 hb14
          have hrb4 := hrb.on hb4
          have C8 : Hid (∀ W', ((convert 22 9 rb).run Tryd.prog W' = .ok (.string B) W' ∧ (convert 22 9 rc).run Tryd.prog W' = .ok (.string B) W' ∧ Below w4.heap.size w4 W') → Calls Tryd.prog 8 #[o, .bool ex, .string both] W' fun e w'' => e = .returned (.string B) ∧ ((convert 22 9 rb).run Tryd.prog w'' = .ok (.string B) w'' ∧ (convert 22 9 rc).run Tryd.prog w'' = .ok (.string B) w'' ∧ Below w4.heap.size w4 w'')) := by
            intro W' hS
            have c := model_any o T both ex W' (ho.on (chain hb14 hS.2.2)) (by omega) hbs
            rw [HB.out] at c
            refine c.mono ?_
            rintro e w'' ⟨rfl, hb⟩
            exact ⟨rfl, hrb4 w'' (chain hS.2.2 hb), hrc w'' (chain hS.2.2 hb), chain hS.2.2 hb⟩
          have HK : Hid ((convert 22 9 rb).run Tryd.prog w4.drew = .ok (.string B) w4.drew ∧ (convert 22 9 rc).run Tryd.prog w4.drew = .ok (.string B) w4.drew ∧ Below w4.heap.size w4 w4.drew) := ⟨hrb4 _ (Below.refl _ w4).drew, hrc _ (Below.refl _ w4).drew, (Below.refl _ w4).drew⟩
          clear hrb hrb4 hrc ho HB hb1 hb2 hb3 hb4 hb13 hb14 hboth
          go_wp2_with fail
          go_region_held3 (fun w' => ((convert 22 9 rb).run Tryd.prog w' = .ok (.string B) w' ∧ (convert 22 9 rc).run Tryd.prog w' = .ok (.string B) w' ∧ Below w4.heap.size w4 w')) (first | assumption | exact HK.out | go_keep)
            (first | (go_at_call 8; refine (C8.out _ (by assumption)).mono ?_; rintro e w' ⟨rfl, hS⟩))
          all_goals
            go_wp2
            go_ret
            exact ⟨ret_bool (by simp), chain hbw4 hS.2.2⟩
      · have q1 : decide ((n2.size : Int) > 262144) = true := by simp; omega
        go_enter Tryd.func4, Tryd.ntmps4
        go_wp2_with (go_at_call 9; refine c9.mono ?_; rintro e w' ⟨rfl, hw⟩; subst w')
        go_ret
        exact ⟨rfl, Below.refl _ _⟩
    · have q1 : decide ((n1.size : Int) > 262144) = true := by simp; omega
      go_enter Tryd.func4, Tryd.ntmps4
      go_wp2_with (go_at_call 9; refine c9.mono ?_; rintro e w' ⟨rfl, hw⟩; subst w')
      go_ret
      exact ⟨rfl, Below.refl _ _⟩
  · have q1 : decide ((k : Int) > 262144) = true := by simp; omega
    go_enter Tryd.func4, Tryd.ntmps4
    go_wp2_with (go_at_call 9; refine c9.mono ?_; rintro e w' ⟨rfl, hw⟩; subst w')
    go_ret
    exact ⟨rfl, Below.refl _ _⟩
end Go.Proofs.Qxb6605488aDoor
