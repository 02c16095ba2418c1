/-
  Seat b6605488aD: FnInsertNotesMatchesModel answers true.
-/
import Derived.Test.Qxb6605488aDoorIns
import Derived.Test.Qxb6605488aDoorModel
set_option linter.unusedSimpArgs false
set_option linter.unusedVariables false
namespace Go.Proofs.Qxb6605488aDoor
open Go.RowKit

theorem cell_on {w w' : World} {v : Value} {a : Addr} (h : w.cell? a = some v) (ha : a.block < w.heap.size) (hb : Below w.heap.size w w') : w'.cell? a = some v := by rw [hb.cell ha]; exact h

theorem ins_any (v : Value) (s n : ByteArray) (ex : Bool) (m : Int) (w : World) (hr : Reads w v s) (hm : w.cell? ⟨0, 0, none⟩ = some (.int .i64 m)) (hs : s.size ≤ 16777216) (hn : n.size ≤ 16777216) :
    Calls Tryd.prog 11 #[v, .bool ex, .string n] w fun e w' => ∃ r, e = .returned r ∧ Reads w' r ⟨(insE s.data.toList ex n.data.toList).toArray⟩ ∧ Below w.heap.size w w' := by
  cases ex with
  | false => exact ins_no v n w _ hn
  | true => exact ins_yes v s n m w hr hm hs hn
theorem model_any (v : Value) (s n : ByteArray) (ex : Bool) (w : World) (hr : Reads w v s) (hs : s.size ≤ 16777216) (hn : n.size ≤ 16777216) :
    Calls Tryd.prog 8 #[v, .bool ex, .string n] w fun e w' => e = .returned (.string ⟨(insE s.data.toList ex n.data.toList).toArray⟩) ∧ Below w.heap.size w w' := by
  cases ex with
  | false => exact model_no v n w _ hn
  | true => exact model_yes v s n w hr hs hn

set_option maxRecDepth 100000 in
set_option maxHeartbeats 800000 in
theorem zz7 (v : Value) (s n : ByteArray) (ex : Bool) (m : Int) (w : World) (hr : Reads w v s) (hm : w.cell? ⟨0, 0, none⟩ = some (.int .i64 m)) (hs : s.size ≤ 16777216) (hn : n.size ≤ 16777216) :
    Calls Tryd.prog 7 #[v, .bool ex, .string n] w fun e w' => ∃ r, e = .returned r ∧ Reads w' r ⟨(insE s.data.toList ex n.data.toList).toArray⟩ ∧ Below w.heap.size w w' := by
  have c := ins_any v s n ex m w hr hm hs hn
  obtain ⟨o, ho⟩ : ∃ o, (⟨(insE s.data.toList ex n.data.toList).toArray⟩ : ByteArray) = o := ⟨_, rfl⟩
  rw [ho] at c ⊢
  clear ho hr
  go_enter Tryd.func7, Tryd.ntmps7
  go_wp2_with (go_at_call 11; refine c.mono ?_; rintro e w' ⟨r, rfl, hr', hb⟩)
  go_ret
  exact ⟨_, rfl, hr', hb⟩

set_option maxRecDepth 100000 in
set_option maxHeartbeats 800000 in
theorem bytes5 (a : Option Addr) (k cap : Nat) (ex : Bool) (n : ByteArray) (w : World) (hk : k ≤ 9223372036854775807) (hn : n.size ≤ 9223372036854775807) :
    ∃ b, Calls Tryd.prog 5 #[.slice a k cap, .bool ex, .string n] w fun e w' => e = .returned (.bool b) ∧ w' = w := by
  by_cases h1 : k ≤ 1048576
  · have q1 : decide ((k : Int) > 1048576) = false := by simp; omega
    by_cases h2 : n.size ≤ 1048576
    · by_cases h3 : k + n.size ≤ 1048576
      · refine ⟨true, ?_⟩
        go_enter Tryd.func5, Tryd.ntmps5
        go_wp2
        go_ret
        exact ⟨rfl, rfl⟩
      · refine ⟨false, ?_⟩
        go_enter Tryd.func5, Tryd.ntmps5
        go_wp2
        go_ret
        exact ⟨rfl, rfl⟩
    · refine ⟨false, ?_⟩
      go_enter Tryd.func5, Tryd.ntmps5
      go_wp2
      go_ret
      exact ⟨rfl, rfl⟩
  · refine ⟨false, ?_⟩
    go_enter Tryd.func5, Tryd.ntmps5
    go_wp2
    go_ret
    exact ⟨rfl, rfl⟩

set_option maxRecDepth 1000000 in
set_option maxHeartbeats 2000000 in
theorem lawA (a : Option Addr) (k cap : Nat) (t : List UInt8) (ex : Bool) (n : ByteArray) (m : Int) (w : World) (hg : Given w (.slice a k cap) t) (hk : k = t.length) (hkm : k ≤ 9223372036854775807) (hn : n.size ≤ 9223372036854775807)
    (hm : w.cell? ⟨0, 0, none⟩ = some (.int .i64 m)) (h0 : 0 < w.heap.size) :
    Calls Tryd.prog 3 #[.slice a k cap, .bool ex, .string n] w fun e w' => e = .returned (.bool true) ∧ Below w.heap.size w w' := by
  have HKT : Hid (k = t.length) := hk
  clear hk
  obtain ⟨b, c5⟩ := bytes5 a k cap ex n w hkm hn
  cases b with
  | false =>
    clear hg hm h0
    go_enter Tryd.func3, Tryd.ntmps3
    go_wp2_with (go_at_call 5; refine c5.mono ?_; rintro e w' ⟨rfl, hw⟩; subst w')
    go_ret
    exact ⟨rfl, Below.refl _ _⟩
  | true =>
  by_cases h1 : k ≤ 524288
  · by_cases h2 : n.size ≤ 524288
    · have c6 := clone_any _ t w hg (by have := HKT.out; omega)
      have hts : (⟨t.toArray⟩ : ByteArray).size ≤ 16777216 := by show t.toArray.size ≤ _; have := HKT.out; simp; omega
      obtain ⟨T, hT⟩ : ∃ T, (⟨t.toArray⟩ : ByteArray) = T := ⟨_, rfl⟩
      rw [hT] at c6 hts
      clear hT hg
      go_enter Tryd.func3, Tryd.ntmps3
      go_wp2_with (first | (go_at_call 5; refine c5.mono ?_; rintro e w' ⟨rfl, hw⟩; subst w') | (go_at_call 6; refine c6.mono ?_; rintro e w1 ⟨o, rfl, ho, hb1⟩))
      clear c5 c6
      have hm1 := cell_on hm h0 hb1
      have c7 := zz7 o T n ex m w1 ho hm1 hts (by omega)
      have C8 : Hid (∀ W', Below w1.heap.size w1 W' → Calls Tryd.prog 8 #[o, .bool ex, .string n] W' fun e w'' => e = .returned (.string ⟨(insE T.data.toList ex n.data.toList).toArray⟩) ∧ Below W'.heap.size W' w'') :=
        fun W' hb => model_any o T n ex W' (ho.on hb) hts (by omega)
      obtain ⟨O, hO⟩ : ∃ O, (⟨(insE T.data.toList ex n.data.toList).toArray⟩ : ByteArray) = O := ⟨_, rfl⟩
      rw [hO] at c7 C8
      clear hO hm hm1 ho hts
      refine c7.mono ?_
      rintro e w2 ⟨r, rfl, hr, hb2⟩
      clear c7
      have hbw2 := chain hb1 hb2
      have C8' : Hid (∀ W', ((convert 22 9 r).run Tryd.prog W' = .ok (.string O) W' ∧ Below w2.heap.size w2 W') → Calls Tryd.prog 8 #[o, .bool ex, .string n] W' fun e w'' => e = .returned (.string O) ∧ ((convert 22 9 r).run Tryd.prog w'' = .ok (.string O) w'' ∧ Below w2.heap.size w2 w'')) := by
        intro W' hS
        refine (C8.out W' (chain hb2 hS.2)).mono ?_
        rintro e w'' ⟨rfl, hb⟩
        exact ⟨rfl, hr w'' (chain hS.2 hb), chain hS.2 hb⟩
      have HK : Hid ((convert 22 9 r).run Tryd.prog w2.drew = .ok (.string O) w2.drew ∧ Below w2.heap.size w2 w2.drew) := ⟨hr _ (Below.refl _ w2).drew, (Below.refl _ w2).drew⟩
      clear C8 hr hb1 hb2
      go_wp2_with fail
      go_region_held3 (fun w' => (convert 22 9 r).run Tryd.prog w' = .ok (.string O) w' ∧ Below w2.heap.size w2 w') (first | assumption | exact HK.out | go_keep)
        (first | (go_at_call 8; refine (C8'.out _ (by assumption)).mono ?_; rintro e w' ⟨rfl, hS⟩))
      all_goals
        go_wp2
        go_ret
        exact ⟨ret_bool (by simp), chain hbw2 hS.2⟩
    · have q1 : decide ((n.size : Int) > 524288) = true := by simp; omega
      go_enter Tryd.func3, Tryd.ntmps3
      go_wp2_with (go_at_call 5; refine c5.mono ?_; rintro e w' ⟨rfl, hw⟩; subst w')
      go_ret
      exact ⟨rfl, Below.refl _ _⟩
  · have q1 : decide ((k : Int) > 524288) = true := by simp; omega
    go_enter Tryd.func3, Tryd.ntmps3
    go_wp2_with (go_at_call 5; refine c5.mono ?_; rintro e w' ⟨rfl, hw⟩; subst w')
    go_ret
    exact ⟨rfl, Below.refl _ _⟩
end Go.Proofs.Qxb6605488aDoor
