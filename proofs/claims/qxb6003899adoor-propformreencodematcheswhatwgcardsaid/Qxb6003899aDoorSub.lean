/-
  Seat b6003899aD: utf8.FullRune as fullL; maximalSubpart.
-/
import Derived.Test.Qxb6003899aDoorFull
namespace Go.Proofs.Qxb6003899aDoor
open Go.RowKit Go.Lib

set_option maxHeartbeats 1000000 in
/-- The lead byte's class: what the library's table says, against leadN. -/
theorem lead_class (b : Nat) (hb : b < 256) :
    (firstT b = 240 ∧ (leadN (b : Int)).1 = 0) ∨ (firstT b = 241 ∧ (leadN (b : Int)).1 = -1) ∨ (firstT b = 2 ∧ leadN (b : Int) = (1, 128, 191)) ∨
    (∃ f k, firstT b = f ∧ (f = 19 ∧ k = 1 ∨ f = 3 ∧ k = 0 ∨ f = 35 ∧ k = 2) ∧ leadN (b : Int) = (2, (accLo k : Int), (accHi k : Int))) ∨
    (∃ f k, firstT b = f ∧ (f = 52 ∧ k = 3 ∨ f = 4 ∧ k = 0 ∨ f = 68 ∧ k = 4) ∧ leadN (b : Int) = (3, (accLo k : Int), (accHi k : Int))) := by
  by_cases c0 : b < 128
  · exact Or.inl ⟨by simp [firstT, c0], by unfold leadN; rw [if_pos (by omega)]⟩
  by_cases c1 : 194 ≤ b ∧ b < 224
  · exact Or.inr (Or.inr (Or.inl ⟨by unfold firstT; (repeat' split) <;> first | rfl | omega, by unfold leadN; (repeat' split) <;> first | rfl | omega⟩))
  by_cases c2 : b = 224
  · subst c2; exact Or.inr (Or.inr (Or.inr (Or.inl ⟨19, 1, rfl, by omega, by decide⟩)))
  by_cases c3 : b = 237
  · subst c3; exact Or.inr (Or.inr (Or.inr (Or.inl ⟨35, 2, rfl, by omega, by decide⟩)))
  by_cases c4 : (225 ≤ b ∧ b < 237) ∨ (238 ≤ b ∧ b < 240)
  · exact Or.inr (Or.inr (Or.inr (Or.inl ⟨3, 0, by unfold firstT; (repeat' split) <;> first | rfl | omega, by omega, by unfold leadN; (repeat' split) <;> first | rfl | omega⟩)))
  by_cases c5 : b = 240
  · subst c5; exact Or.inr (Or.inr (Or.inr (Or.inr ⟨52, 3, rfl, by omega, by decide⟩)))
  by_cases c6 : 241 ≤ b ∧ b < 244
  · exact Or.inr (Or.inr (Or.inr (Or.inr ⟨4, 0, by unfold firstT; (repeat' split) <;> first | rfl | omega, by omega, by unfold leadN; (repeat' split) <;> first | rfl | omega⟩)))
  by_cases c7 : b = 244
  · subst c7; exact Or.inr (Or.inr (Or.inr (Or.inr ⟨68, 4, rfl, by omega, by decide⟩)))
  · exact Or.inr (Or.inl ⟨by unfold firstT; (repeat' split) <;> first | rfl | omega, by unfold leadN; (repeat' split) <;> first | rfl | omega⟩)

theorem full2 (c x : UInt8) (g off cap : Nat) (w : World) (hT : Utf8Tabs 3 4 w) (hc : Holds w g off [c, x]) :
    Calls Tryd.prog 50 #[.slice (some ⟨g, off, none⟩) 2 cap] w fun e w' => e = .returned (.bool (fullL [c, x])) ∧ Below w.heap.size w w' := by
  have h0 : w.cell? ⟨g, off, none⟩ = some (.int .u8 c.toNat) := by simpa using hc 0 (by simp)
  have h1 : w.cell? ⟨g, off + 1, none⟩ = some (.int .u8 x.toNat) := by simpa using hc 1 (by simp)
  have hb := c.toNat_lt
  have ht := hT.1 c.toNat hb
  rcases lead_class c.toNat hb with ⟨e, e'⟩ | ⟨e, e'⟩ | ⟨e, e'⟩ | ⟨f, k, e, hk, e'⟩ | ⟨f, k, e, hk, e'⟩ <;> rw [e] at ht
  · have hv : fullL [c, x] = true := by simp [fullL, e']
    rw [hv]; exact full_enough 2 _ _ g off cap w (by omega) (by omega) h0 hb ht
  · have hv : fullL [c, x] = true := by simp [fullL, e']
    rw [hv]; exact full_enough 2 _ _ g off cap w (by omega) (by omega) h0 hb ht
  · have hv : fullL [c, x] = true := by simp [fullL, e']
    rw [hv]; exact full_enough 2 _ _ g off cap w (by omega) (by omega) h0 hb ht
  · have ha := hT.2 k (by omega)
    have hv : fullL [c, x] = decide ((x.toNat : Int) < accLo k ∨ (accHi k : Int) < x.toNat) := by simp [fullL, e']
    rw [hv]; exact full_two_hi c.toNat x.toNat f (accLo k) (accHi k) k g off cap w (by omega) h0 h1 hb ht ha.1 ha.2
  · have ha := hT.2 k (by omega)
    have hv : fullL [c, x] = decide ((x.toNat : Int) < accLo k ∨ (accHi k : Int) < x.toNat) := by simp [fullL, e']
    rw [hv]; exact full_two_hi c.toNat x.toNat f (accLo k) (accHi k) k g off cap w (by omega) h0 h1 hb ht ha.1 ha.2

theorem full3 (c x y : UInt8) (g off cap : Nat) (w : World) (hT : Utf8Tabs 3 4 w) (hc : Holds w g off [c, x, y]) :
    Calls Tryd.prog 50 #[.slice (some ⟨g, off, none⟩) 3 cap] w fun e w' => e = .returned (.bool (fullL [c, x, y])) ∧ Below w.heap.size w w' := by
  have h0 : w.cell? ⟨g, off, none⟩ = some (.int .u8 c.toNat) := by simpa using hc 0 (by simp)
  have h1 : w.cell? ⟨g, off + 1, none⟩ = some (.int .u8 x.toNat) := by simpa using hc 1 (by simp)
  have h2 : w.cell? ⟨g, off + 2, none⟩ = some (.int .u8 y.toNat) := by simpa using hc 2 (by simp)
  have hb := c.toNat_lt
  have ht := hT.1 c.toNat hb
  rcases lead_class c.toNat hb with ⟨e, e'⟩ | ⟨e, e'⟩ | ⟨e, e'⟩ | ⟨f, k, e, hk, e'⟩ | ⟨f, k, e, hk, e'⟩ <;> rw [e] at ht
  · have hv : fullL [c, x, y] = true := by simp [fullL, e']
    rw [hv]; exact full_enough 3 _ _ g off cap w (by omega) (by omega) h0 hb ht
  · have hv : fullL [c, x, y] = true := by simp [fullL, e']
    rw [hv]; exact full_enough 3 _ _ g off cap w (by omega) (by omega) h0 hb ht
  · have hv : fullL [c, x, y] = true := by simp [fullL, e']
    rw [hv]; exact full_enough 3 _ _ g off cap w (by omega) (by omega) h0 hb ht
  · have hv : fullL [c, x, y] = true := by simp [fullL, e']
    rw [hv]; exact full_enough 3 _ _ g off cap w (by omega) (by omega) h0 hb ht
  · have ha := hT.2 k (by omega)
    have hv : fullL [c, x, y] = (decide ((x.toNat : Int) < accLo k ∨ (accHi k : Int) < x.toNat) || decide ((y.toNat : Int) < 128 ∨ 191 < (y.toNat : Int))) := by
      simp only [fullL, e']
      simp
    rw [hv]; exact full_three_hi c.toNat x.toNat y.toNat f (accLo k) (accHi k) k g off cap w (by omega) h0 h1 h2 hb ht ha.1 ha.2

theorem take3 (l : List UInt8) (h : 3 ≤ l.length) : l.take 3 = [l.getD 0 0, l.getD 1 0, l.getD 2 0] := by
  match l, h with
  | a :: b :: c :: _, _ => rfl
theorem take2 (l : List UInt8) (h : 2 ≤ l.length) : l.take 2 = [l.getD 0 0, l.getD 1 0] := by
  match l, h with
  | a :: b :: _, _ => rfl

/-- FullRune(b[:m]) for m = 2, 3. -/
theorem fullAt (l : List UInt8) (m g off cap : Nat) (w : World) (hT : Utf8Tabs 3 4 w) (hc : Holds w g off l) (hm : m = 2 ∨ m = 3) (hl : m ≤ l.length) :
    Calls Tryd.prog 50 #[.slice (some ⟨g, off, none⟩) m cap] w fun e w' => e = .returned (.bool (fullL (l.take m))) ∧ Below w.heap.size w w' := by
  rcases hm with rfl | rfl
  · rw [take2 l hl]
    refine full2 _ _ g off cap w hT fun j hj => ?_
    simp only [List.length_cons, List.length_nil] at hj
    rcases (by omega : j = 0 ∨ j = 1) with rfl | rfl
    · exact hc 0 (by omega)
    · exact hc 1 (by omega)
  · rw [take3 l hl]
    refine full3 _ _ _ g off cap w hT fun j hj => ?_
    simp only [List.length_cons, List.length_nil] at hj
    rcases (by omega : j = 0 ∨ j = 1 ∨ j = 2) with rfl | rfl | rfl
    · exact hc 0 (by omega)
    · exact hc 1 (by omega)
    · exact hc 2 (by omega)

/-- What maximalSubpart has still to look at. -/
def subFrom (l : List UInt8) : Nat → Nat
  | 0 => 1
  | 1 => 1
  | m + 2 => if fullL (l.take (m + 2)) = false then m + 2 else subFrom l (m + 1)
theorem maxSub_eq (l : List UInt8) : maxSub l = subFrom l (min l.length 3) := by
  unfold maxSub
  rcases (by omega : l.length = 0 ∨ l.length = 1 ∨ l.length = 2 ∨ 3 ≤ l.length) with h | h | h | h
  · simp [h, subFrom]
  · simp [h, subFrom]
  · simp [h, subFrom]
  · rw [Nat.min_eq_right h]
    simp only [subFrom, h, true_and]
    simp [show 2 ≤ l.length from by omega]

theorem sub_stop (l : List UInt8) (m : Nat) (h : 1 < m) (hf : fullL (l.take m) = false) : subFrom l m = m := by
  obtain ⟨k, rfl⟩ : ∃ k, m = k + 2 := ⟨m - 2, by omega⟩
  simp [subFrom, hf]
theorem sub_next (l : List UInt8) (m : Nat) (h : 1 < m) (hf : fullL (l.take m) = true) : subFrom l m = subFrom l (m - 1) := by
  obtain ⟨k, rfl⟩ : ∃ k, m = k + 2 := ⟨m - 2, by omega⟩
  simp [subFrom, hf]
theorem sub_end (l : List UInt8) (m : Nat) (h : m ≤ 1) : subFrom l m = 1 := by
  rcases (by omega : m = 0 ∨ m = 1) with rfl | rfl <;> rfl

theorem tabs_below {B : Nat} {w w' : World} (h : Below B w w') (hB : 4 < B) (hT : Utf8Tabs 3 4 w) : Utf8Tabs 3 4 w' :=
  ⟨fun c hc => by rw [h.cell (p := ⟨3, c, none⟩) (by show 3 < B; omega)]; exact hT.1 c hc, fun i hi => by
    rw [h.cell (p := ⟨4, 2 * i, none⟩) hB, h.cell (p := ⟨4, 2 * i + 1, none⟩) hB]; exact hT.2 i hi⟩
theorem holds_below {B : Nat} {w w' : World} {g off : Nat} {l : List UInt8} (h : Below B w w') (hB : g < B) (hc : Holds w g off l) : Holds w' g off l :=
  fun j hj => by rw [h.cell (p := ⟨g, off + j, none⟩) hB]; exact hc j hj
theorem tabs_lt {w : World} (hT : Utf8Tabs 3 4 w) : 4 < w.heap.size := by
  have h := (hT.2 0 (by omega)).1
  rcases Nat.lt_or_ge 4 w.heap.size with h' | h'
  · exact h'
  · simp [World.cell?, Array.getElem?_eq_none h'] at h
theorem holds_lt {w : World} {g off : Nat} {l : List UInt8} (hc : Holds w g off l) (hl : 0 < l.length) : g < w.heap.size := by
  have h := hc 0 hl
  rcases Nat.lt_or_ge g w.heap.size with h' | h'
  · exact h'
  · simp [World.cell?, Array.getElem?_eq_none h'] at h

set_option maxRecDepth 100000 in
set_option maxHeartbeats 1000000 in
theorem maxSub_any (l : List UInt8) (g off cap : Nat) (w : World) (hT : Utf8Tabs 3 4 w) (hc : Holds w g off l) (hl : l.length ≤ 1048576) (h0 : 0 < l.length) (hcap : l.length ≤ cap) :
    Calls Tryd.prog 43 #[.slice (some ⟨g, off, none⟩) l.length cap] w fun e w' => e = .returned (.int .i64 (maxSub l : Int)) ∧ Below w.heap.size w w' := by
  have h4 := tabs_lt hT
  have hg := holds_lt hc h0
  rw [maxSub_eq]
  go_enter Tryd.func43, Tryd.ntmps43
  go_wp2
  go_loopw [3] (fun tn wr => ∃ m : Nat, m ≤ 3 ∧ m ≤ l.length ∧ tn = .int .i64 m ∧ Hid (subFrom l m = subFrom l (min l.length 3)) ∧ Below w.heap.size w wr) (fun tn _ => (RowKit.intOf tn).toNat)
  case atStart => exact ⟨min l.length 3, Nat.min_le_right _ _, Nat.min_le_left _ _, by go_num, rfl, Below.refl _ _⟩
  case round =>
    obtain ⟨m, hm3, hml, rfl, HR, hb⟩ := hrel
    by_cases h1 : 1 < m
    · have hTr := tabs_below hb h4 hT
      have hcr := holds_below hb hg hc
      have cF := fullAt l m g off cap wr hTr hcr (by omega) hml
      obtain ⟨b, hbv⟩ : ∃ b, fullL (l.take m) = b := ⟨_, rfl⟩
      rw [hbv] at cF
      have HB : Hid (fullL (l.take m) = b) := hbv
      clear hbv hTr hcr
      have hs := hb.size
      go_wp2_with (go_at_call 50; refine cF.mono ?_; rintro e w1 ⟨rfl, hb1⟩)
      · go_ret
        refine ⟨ret_int ?_, hb.trans (hb1.mono hs)⟩
        rw [← HR.out, sub_stop l m h1 (by rw [HB.out]; simpa using ‹(!b) = true›)]
      · go_roundw
        case rel => exact ⟨m - 1, by omega, by omega, by go_num, by show _ = _; rw [← HR.out, sub_next l m h1 (by rw [HB.out]; simpa using ‹(!b) = false›)], hb.trans (hb1.mono hs)⟩
        case measure => simp [RowKit.intOf]; omega
    · go_wp2
      go_ret
      refine ⟨ret_int ?_, hb⟩
      rw [← HR.out, sub_end l m (by omega)]
      rfl
end Go.Proofs.Qxb6003899aDoor
