/-
  Seat b6003899aD: the walk over a UTF-8 sequence (walkL) against the model's decoding and the maximal subpart.
-/
import Derived.Test.Qxb6003899aDoorPlain
import Derived.Lib.DecodeN
namespace Go.Proofs.Qxb6003899aDoor
open Go.Lib

theorem get_list (l : List UInt8) (k : Nat) : (⟨l.toArray⟩ : ByteArray).get! k = l.getD k 0 := by
  show l.toArray[k]! = _
  rw [getElem!_def]
  simp [List.getD]
  cases l[k]? <;> rfl

theorem decode_list (c : UInt8) (t : List UInt8) : Utf8.decode ⟨(c :: t).toArray⟩ 0 = decodeN (t.length + 1) c.toNat (t.getD 0 0).toNat (t.getD 1 0).toNat (t.getD 2 0).toNat := by
  rw [decode_at, get_list, get_list, get_list, get_list]
  rfl

/-- The road of the library's decoder for a lead byte that wants more, against contL. -/
theorem slow_cont (need : Nat) (lo hi : Nat) (b0 : Nat) (t : List UInt8) (h1 : 1 ≤ need) (h3 : need ≤ 3) :
    ((contL need lo hi t).2 = true ∧ (slowN (t.length + 1) b0 (t.getD 0 0).toNat (t.getD 1 0).toNat (t.getD 2 0).toNat (need + 1) lo hi).2 = 1 + (contL need lo hi t).1 ∧ (contL need lo hi t).1 = need) ∨
    ((contL need lo hi t).2 = false ∧ slowN (t.length + 1) b0 (t.getD 0 0).toNat (t.getD 1 0).toNat (t.getD 2 0).toNat (need + 1) lo hi = (65533, 1)) := by
  have hn : need = 1 ∨ need = 2 ∨ need = 3 := by omega
  unfold slowN
  rcases t with _ | ⟨x, _ | ⟨y, _ | ⟨z, t⟩⟩⟩ <;> rcases hn with rfl | rfl | rfl <;> simp [contL]
  all_goals (repeat' split)
  all_goals first | omega | (simp_all; done) | (simp_all; omega)

theorem byte_lt (x : UInt8) : x.toNat < 256 := x.toNat_lt

theorem lead_more (b need lo hi : Nat) (t : List UInt8) (c : UInt8) (hc : c.toNat = b) (hl : leadN (b : Int) = ((need : Int), (lo : Int), (hi : Int))) (h1 : 1 ≤ need) (h3 : need ≤ 3)
    (hs : slowN (t.length + 1) b (t.getD 0 0).toNat (t.getD 1 0).toNat (t.getD 2 0).toNat (need + 1) lo hi = decodeN (t.length + 1) b (t.getD 0 0).toNat (t.getD 1 0).toNat (t.getD 2 0).toNat) :
    ((walkL (c :: t)).2 = true ∧ (Utf8.decode ⟨(c :: t).toArray⟩ 0).2 = (walkL (c :: t)).1 ∧ ¬ ((Utf8.decode ⟨(c :: t).toArray⟩ 0).1 = 65533 ∧ (Utf8.decode ⟨(c :: t).toArray⟩ 0).2 = 1)) ∨
    ((walkL (c :: t)).2 = false ∧ Utf8.decode ⟨(c :: t).toArray⟩ 0 = (65533, 1)) := by
  rw [decode_list, hc, ← hs]
  have hw : walkL (c :: t) = (1 + (contL need lo hi t).1, (contL need lo hi t).2) := by
    simp only [walkL, hc, hl]
    rw [if_neg (by omega)]
    simp
  rw [hw]
  rcases slow_cont need lo hi b t h1 h3 with ⟨a, e, e'⟩ | ⟨a, e⟩
  · exact Or.inl ⟨a, e, fun h => by rw [e, e'] at h; omega⟩
  · exact Or.inr ⟨a, e⟩

set_option maxHeartbeats 1000000 in
theorem walk_decode (c : UInt8) (t : List UInt8) :
    ((walkL (c :: t)).2 = true ∧ (Utf8.decode ⟨(c :: t).toArray⟩ 0).2 = (walkL (c :: t)).1 ∧ ¬ ((Utf8.decode ⟨(c :: t).toArray⟩ 0).1 = 65533 ∧ (Utf8.decode ⟨(c :: t).toArray⟩ 0).2 = 1)) ∨
    ((walkL (c :: t)).2 = false ∧ Utf8.decode ⟨(c :: t).toArray⟩ 0 = (65533, 1)) := by
  obtain ⟨b, hb⟩ : ∃ b, c.toNat = b := ⟨_, rfl⟩
  have h0 := byte_lt c
  have h1 := byte_lt (t.getD 0 0)
  have h2 := byte_lt (t.getD 1 0)
  have h3 := byte_lt (t.getD 2 0)
  rw [hb] at h0
  have hn : 1 ≤ t.length + 1 := by omega
  by_cases c0 : b < 128
  · have hl : leadN (b : Int) = (0, 128, 191) := by unfold leadN; rw [if_pos (by omega)]
    left
    rw [decode_list, hb]
    have hw : walkL (c :: t) = (1, true) := by
      simp only [walkL, hb, hl]
      simp [contL]
    have hd : decodeN (t.length + 1) b (t.getD 0 0).toNat (t.getD 1 0).toNat (t.getD 2 0).toNat = (b, 1) := by simp [decodeN, c0]
    rw [hw, hd]
    exact ⟨rfl, rfl, fun h => by have := h.1; simp at this; omega⟩
  by_cases c1 : 194 ≤ b ∧ b < 224
  · exact lead_more b 1 128 191 t c hb (by unfold leadN; repeat' split
                                           all_goals first | rfl | omega) (by omega) (by omega) (slow_C2 _ _ _ _ _ hn h1 h2 h3 c1)
  by_cases c2 : b = 224
  · exact lead_more b 2 160 191 t c hb (by unfold leadN; repeat' split
                                           all_goals first | rfl | omega) (by omega) (by omega) (slow_E0 _ _ _ _ _ hn h1 h2 h3 c2)
  by_cases c3 : b = 237
  · exact lead_more b 2 128 159 t c hb (by unfold leadN; repeat' split
                                           all_goals first | rfl | omega) (by omega) (by omega) (slow_ED _ _ _ _ _ hn h1 h2 h3 c3)
  by_cases c4 : (225 ≤ b ∧ b < 237) ∨ (238 ≤ b ∧ b < 240)
  · exact lead_more b 2 128 191 t c hb (by unfold leadN; repeat' split
                                           all_goals first | rfl | omega) (by omega) (by omega) (slow_E1 _ _ _ _ _ hn h1 h2 h3 c4)
  by_cases c5 : b = 240
  · exact lead_more b 3 144 191 t c hb (by unfold leadN; repeat' split
                                           all_goals first | rfl | omega) (by omega) (by omega) (slow_F0 _ _ _ _ _ hn h1 h2 h3 c5)
  by_cases c6 : 241 ≤ b ∧ b < 244
  · exact lead_more b 3 128 191 t c hb (by unfold leadN; repeat' split
                                           all_goals first | rfl | omega) (by omega) (by omega) (slow_F1 _ _ _ _ _ hn h1 h2 h3 c6)
  by_cases c7 : b = 244
  · exact lead_more b 3 128 143 t c hb (by unfold leadN; repeat' split
                                           all_goals first | rfl | omega) (by omega) (by omega) (slow_F4 _ _ _ _ _ hn h1 h2 h3 c7)
  · right
    have hl : leadN (b : Int) = (-1, 128, 191) := by
      unfold leadN
      repeat' split
      all_goals first | rfl | omega
    rw [decode_list, hb]
    refine ⟨by simp [walkL, hb, hl], ?_⟩
    unfold decodeN
    repeat' split
    all_goals first | rfl | (exfalso; omega)

theorem leadN_range (c : Int) : (leadN c).1 = -1 ∨ (leadN c).1 = 0 ∨ (leadN c).1 = 1 ∨ (leadN c).1 = 2 ∨ (leadN c).1 = 3 := by
  unfold leadN
  repeat' split
  all_goals simp

theorem walk_sub (c : UInt8) (t : List UInt8) (h : (walkL (c :: t)).2 = false) : maxSub (c :: t) = (walkL (c :: t)).1 := by
  obtain ⟨⟨n, lo, hi⟩, hl⟩ : ∃ x : Int × Int × Int, leadN c.toNat = x := ⟨_, rfl⟩
  have hr := leadN_range c.toNat
  rw [hl] at hr
  simp only [walkL, hl] at h ⊢
  unfold maxSub
  rcases hr with hr | hr | hr | hr | hr <;> simp only at hr <;> subst hr
  all_goals (rcases t with _ | ⟨x, _ | ⟨y, _ | ⟨z, t⟩⟩⟩ <;> simp [fullL, hl, contL] at h ⊢)
  all_goals (repeat' split at h)
  all_goals (repeat' split)
  all_goals first | omega | (simp_all; done) | (simp_all; omega)
end Go.Proofs.Qxb6003899aDoor
