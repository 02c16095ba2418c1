/-
  Seat b6003899aD: zzWalkAt.
-/
import Derived.Test.Qxb6003899aDoorBytes
namespace Go.Proofs.Qxb6003899aDoor
open Go.RowKit

/-- The cells of a row of bytes. -/
def Holds (w : World) (g off : Nat) (l : List UInt8) : Prop := ∀ j, j < l.length → w.cell? ⟨g, off + j, none⟩ = some (.int .u8 ((l.getD j 0).toNat : Int))

theorem drop_at (l : List UInt8) (j : Nat) (h : j < l.length) : l.drop j = l.getD j 0 :: l.drop (j + 1) := by
  rw [List.drop_eq_getElem_cons h]
  simp [List.getD, h]
theorem cont_end (m : Nat) (lo hi : Int) (l : List UInt8) (j : Nat) (h : l.length ≤ j) : contL (m + 1) lo hi (l.drop j) = (0, false) := by
  rw [List.drop_eq_nil_of_le h]; rfl
theorem cont_bad (m : Nat) (lo hi : Int) (l : List UInt8) (j : Nat) (h : j < l.length) (hx : ((l.getD j 0).toNat : Int) < lo ∨ hi < ((l.getD j 0).toNat : Int)) : contL (m + 1) lo hi (l.drop j) = (0, false) := by
  rw [drop_at l j h]
  simp only [contL]
  rw [if_pos hx]
theorem cont_ok (m : Nat) (lo hi : Int) (l : List UInt8) (j : Nat) (h : j < l.length) (h1 : lo ≤ ((l.getD j 0).toNat : Int)) (h2 : ((l.getD j 0).toNat : Int) ≤ hi) :
    contL (m + 1) lo hi (l.drop j) = ((contL m 128 191 (l.drop (j + 1))).1 + 1, (contL m 128 191 (l.drop (j + 1))).2) := by
  rw [drop_at l j h]
  simp only [contL]
  rw [if_neg (by omega)]

theorem ret_pair {a a' : Int} {b b' : Bool} (h1 : a = a') (h2 : b = b') : Ending.returned (.tuple #[.int .i64 a, .bool b]) = .returned (.tuple #[.int .i64 a', .bool b']) := by rw [h1, h2]

set_option maxRecDepth 100000 in
set_option maxHeartbeats 1000000 in
theorem walkAt_any (l : List UInt8) (g cap i : Nat) (w : World) (hc : Holds w g 0 l) (hl : l.length ≤ 1048576) (hi : i < l.length) :
    Calls Tryd.prog 36 #[.slice (some ⟨g, 0, none⟩) l.length cap, .int .i64 i] w fun e w' => e = .returned (.tuple #[.int .i64 ((walkL (l.drop i)).1 : Int), .bool (walkL (l.drop i)).2]) ∧ w' = w := by
  have hci := hc i hi
  simp only [Nat.zero_add] at hci
  obtain ⟨x0, hx0⟩ : ∃ x0, l.getD i 0 = x0 := ⟨_, rfl⟩
  rw [hx0] at hci
  have hb := x0.toNat_lt
  have hdr := drop_at l i hi
  rw [hx0] at hdr
  obtain ⟨⟨need, lo, hh⟩, hL⟩ : ∃ x : Int × Int × Int, leadN (x0.toNat : Int) = x := ⟨_, rfl⟩
  have hlead := lead_any (x0.toNat : Int) w (by omega) (by omega)
  rw [hL] at hlead
  simp only at hlead
  have hn3 : need ≤ 3 := by have := leadN_le (x0.toNat : Int); rw [hL] at this; exact this
  have HW : Hid (walkL (l.drop i) = if need < 0 then (1, false) else (1 + (contL need.toNat lo hh (l.drop (i + 1))).1, (contL need.toNat lo hh (l.drop (i + 1))).2)) := by
    show _ = _
    rw [hdr]
    simp only [walkL, hL]
  clear hdr hx0 hL
  have hiI : (i : Int) < (l.length : Int) := by omega
  by_cases hneg : need < 0
  · go_enter Tryd.func36, Tryd.ntmps36
    go_wp2_with (go_at_call 47; refine hlead.mono ?_; rintro e w' ⟨rfl, rfl⟩)
    go_ret2
    refine ⟨ret_pair ?_ ?_, rfl⟩
    all_goals rw [HW.out, if_pos hneg] <;> rfl
  · have hd0 : decide (need < 0) = false := decide_eq_false hneg
    obtain ⟨nd, rfl⟩ := Int.eq_ofNat_of_zero_le (by omega : 0 ≤ need)
    have HW' : Hid (walkL (l.drop i) = (1 + (contL nd lo hh (l.drop (i + 1))).1, (contL nd lo hh (l.drop (i + 1))).2)) := by
      show _ = _
      rw [HW.out, if_neg hneg, Int.toNat_natCast]
    clear HW
    go_enter Tryd.func36, Tryd.ntmps36
    go_wp2_with (go_at_call 47; refine hlead.mono ?_; rintro e w' ⟨rfl, rfl⟩)
    rename_i w
    go_loop [7, 8, 9, 10] (fun tl th tn tk => ∃ (k : Nat) (lo' hi' : Int), k ≤ nd ∧ tl = .int .u8 lo' ∧ th = .int .u8 hi' ∧ tn = .int .i64 (k + 1 : Nat) ∧ tk = .int .i64 k ∧
        Hid (walkL (l.drop i) = (1 + k + (contL (nd - k) lo' hi' (l.drop (i + (k + 1)))).1, (contL (nd - k) lo' hi' (l.drop (i + (k + 1)))).2))) (fun _ _ _ tk => nd - (intOf tk).toNat)
    case atStart => exact ⟨0, lo, hh, Nat.zero_le _, rfl, rfl, rfl, rfl, by show _ = _; rw [HW'.out]; rfl⟩
    case round =>
      obtain ⟨k, lo', hi', hk, rfl, rfl, rfl, rfl, HR⟩ := hrel
      by_cases hkn : k < nd
      · obtain ⟨m, hm⟩ : ∃ m, nd - k = m + 1 := ⟨nd - k - 1, by omega⟩
        have HM : Hid (nd - k = m + 1) := hm
        clear hm
        by_cases hend : i + (k + 1) < l.length
        · have hcj := hc (i + (k + 1)) hend
          simp only [Nat.zero_add] at hcj
          have hxb := (l.getD (i + (k + 1)) 0).toNat_lt
          obtain ⟨x, hx⟩ : ∃ x, l.getD (i + (k + 1)) 0 = x := ⟨_, rfl⟩
          rw [hx] at hcj hxb
          have HX : Hid (l.getD (i + (k + 1)) 0 = x) := hx
          clear hx
          have HB : Hid (((x.toNat : Int) < lo' ∨ hi' < (x.toNat : Int)) → walkL (l.drop i) = (k + 1, false)) := by
            intro hbad
            rw [HR.out, HM.out, cont_bad m lo' hi' l (i + (k + 1)) hend (by rw [HX.out]; exact hbad)]
            simp [Nat.add_comm]
          have HG : Hid (lo' ≤ (x.toNat : Int) → (x.toNat : Int) ≤ hi' → walkL (l.drop i) = (1 + (k + 1) + (contL (nd - (k + 1)) 128 191 (l.drop (i + (k + 1 + 1)))).1, (contL (nd - (k + 1)) 128 191 (l.drop (i + (k + 1 + 1)))).2)) := by
            intro h1 h2
            rw [HR.out, HM.out, cont_ok m lo' hi' l (i + (k + 1)) hend (by rw [HX.out]; exact h1) (by rw [HX.out]; exact h2)]
            have e : nd - (k + 1) = m := by have := HM.out; omega
            rw [e]
            simp only [Prod.mk.injEq]
            exact ⟨by simp only [Nat.add_assoc]; omega, by simp only [Nat.add_assoc]⟩
          clear HR
          go_wp2
          · go_ret2
            have hw := HB.out ‹_›
            refine ⟨ret_pair ?_ ?_, rfl⟩
            all_goals rw [hw]
            simp
          · go_round
            case rel => exact ⟨k + 1, 128, 191, by omega, rfl, rfl, by go_num, by go_num, HG.out (by omega) (by omega)⟩
            case measure => simp [intOf]; omega
          · go_ret2
            have hw := HB.out (Or.inl ‹_›)
            refine ⟨ret_pair ?_ ?_, rfl⟩
            all_goals rw [hw]
            simp
        · have HE : Hid (walkL (l.drop i) = (k + 1, false)) := by
            show _ = _
            rw [HR.out, HM.out, cont_end m lo' hi' l (i + (k + 1)) (by omega)]
            simp [Nat.add_comm]
          clear HR
          go_wp2
          go_ret2
          refine ⟨ret_pair ?_ ?_, rfl⟩
          all_goals rw [HE.out]
          simp
      · have HE : Hid (walkL (l.drop i) = (k + 1, true)) := by
          show _ = _
          have e : nd - k = 0 := by omega
          rw [HR.out, e]
          simp [contL, Nat.add_comm]
        clear HR
        go_wp2
        go_ret2
        refine ⟨ret_pair ?_ ?_, rfl⟩
        all_goals rw [HE.out]
        simp
end Go.Proofs.Qxb6003899aDoor
