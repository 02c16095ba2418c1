/-
  Seat b6605488aD: notes written in twice; plainly; no Go in sight.
-/
import Derived.Test.Qxb6605488aDoorPlain
namespace Go.Proofs.Qxb6605488aDoor

/-- A heading opens a line at k. -/
def hitB (t : List UInt8) (k : Nat) : Bool := startB t k && preB t k
theorem hit_pre {t : List UInt8} {k : Nat} (h : hitB t k = true) : preB t k = true := by
  unfold hitB at h; rw [Bool.and_eq_true] at h; exact h.2
theorem hit_start {t : List UInt8} {k : Nat} (h : hitB t k = true) : startB t k = true := by
  unfold hitB at h; rw [Bool.and_eq_true] at h; exact h.1
theorem pre_len {t : List UInt8} {k : Nat} (h : preB t k = true) : k + 3 ≤ t.length ∧ at0 t k = 35 ∧ at0 t (k + 1) = 35 ∧ at0 t (k + 2) = 32 := by
  unfold preB at h; exact of_decide_eq_true h
theorem from_none (t : List UInt8) : ∀ (f i : Nat), t.length ≤ i + f → fromH t i = none → ∀ k, i ≤ k → hitB t k = false := by
  intro f
  induction f with
  | zero =>
    intro i h _ k hk
    cases hh : hitB t k with
    | false => rfl
    | true => have := (pre_len (hit_pre hh)).1; omega
  | succ f ih =>
    intro i h hn k hk
    by_cases hil : i < t.length
    · cases hh : hitB t i with
      | true => rw [fromH_hit t i hil (hit_start hh) (hit_pre hh)] at hn; cases hn
      | false =>
        rw [fromH_miss t i hil hh] at hn
        by_cases e : k = i
        · subst e; exact hh
        · exact ih (i + 1) (by omega) hn k (by omega)
    · cases hh : hitB t k with
      | false => rfl
      | true => have := (pre_len (hit_pre hh)).1; omega
theorem from_some (t : List UInt8) : ∀ (f i j : Nat), t.length ≤ i + f → fromH t i = some j → i ≤ j ∧ hitB t j = true ∧ ∀ k, i ≤ k → k < j → hitB t k = false := by
  intro f
  induction f with
  | zero =>
    intro i j h hs
    rw [fromH_end t i (by omega)] at hs
    cases hs
  | succ f ih =>
    intro i j h hs
    by_cases hil : i < t.length
    · cases hh : hitB t i with
      | true =>
        rw [fromH_hit t i hil (hit_start hh) (hit_pre hh)] at hs
        injection hs with hs
        subst hs
        exact ⟨Nat.le_refl _, hh, fun k a b => by omega⟩
      | false =>
        rw [fromH_miss t i hil hh] at hs
        obtain ⟨h1, h2, h3⟩ := ih (i + 1) j (by omega) hs
        refine ⟨by omega, h2, fun k a b => ?_⟩
        by_cases e : k = i
        · subst e; exact hh
        · exact h3 k (by omega) b
    · rw [fromH_end t i hil] at hs
      cases hs
theorem pos_of (r : List UInt8) (i : Nat) (h : hitB r i = true) (hb : ∀ k, k < i → hitB r k = false) : posP r = some i := by
  have hl := (pre_len (hit_pre h)).1
  rw [posP_from, fromH_skip r i 0 (by omega) (fun k _ b => hb k (by omega)), Nat.zero_add]
  exact fromH_hit r i (by omega) (hit_start h) (hit_pre h)

theorem at_left (a b : List UInt8) (k : Nat) (h : k < a.length) : at0 (a ++ b) k = at0 a k := by
  unfold at0; simp only [List.getD_eq_getElem?_getD]; rw [List.getElem?_append_left h]
theorem at_right (a b : List UInt8) (k : Nat) : at0 (a ++ b) (a.length + k) = at0 b k := by
  unfold at0; simp only [List.getD_eq_getElem?_getD]; rw [List.getElem?_append_right (by omega)]; simp
theorem at_take (t : List UInt8) (i k : Nat) (h : k < i) : at0 (t.take i) k = at0 t k := by
  unfold at0; simp only [List.getD_eq_getElem?_getD]; rw [List.getElem?_take_of_lt h]

/-- The text ahead of a place where a line begins. -/
def Ends (p : List UInt8) : Prop := p = [] ∨ at0 p (p.length - 1) = 10

/-- Notes that open with a heading, behind a text with none: found there. -/
theorem pos_notes (p n r : List UInt8) (he : Ends p) (hp : ∀ k, hitB p k = false) (hn : preB n 0 = true) : posP (p ++ (n ++ r)) = some p.length := by
  obtain ⟨n3, n0, n1, n2⟩ := pre_len hn
  refine pos_of _ _ ?_ ?_
  · unfold hitB
    rw [Bool.and_eq_true]
    constructor
    · unfold startB
      apply decide_eq_true
      rcases he with rfl | he
      · exact Or.inl rfl
      · by_cases h0 : p.length = 0
        · exact Or.inl h0
        · right; rw [at_left _ _ _ (by omega)]; exact he
    · unfold preB
      apply decide_eq_true
      refine ⟨by simp; omega, ?_, ?_, ?_⟩
      · have := at_right p (n ++ r) 0; rw [Nat.add_zero] at this; rw [this, at_left _ _ _ (by omega)]; exact n0
      · rw [at_right, at_left _ _ _ (by omega)]; exact n1
      · rw [at_right, at_left _ _ _ (by omega)]; exact n2
  · intro k hk
    cases hh : hitB (p ++ (n ++ r)) k with
    | false => rfl
    | true =>
      exfalso
      obtain ⟨q3, q0, q1, q2⟩ := pre_len (hit_pre hh)
      have hs := hit_start hh
      by_cases h3 : k + 3 ≤ p.length
      · have hf := hp k
        rw [at_left _ _ _ (by omega)] at q0 q1 q2
        have hpp : preB p k = true := by unfold preB; exact decide_eq_true ⟨h3, q0, q1, q2⟩
        have hst : startB p k = true := by
          unfold startB at hs ⊢
          have := of_decide_eq_true hs
          apply decide_eq_true
          rcases this with e | e
          · exact Or.inl e
          · right; rw [at_left _ _ _ (by omega)] at e; exact e
        unfold hitB at hf
        rw [hst, hpp] at hf
        cases hf
      · rcases he with rfl | he
        · simp at hk
        · have hc : p.length - 1 = k ∨ p.length - 1 = k + 1 ∨ p.length - 1 = k + 2 := by omega
          rcases hc with e | e | e
          · rw [at_left _ _ _ (by omega), ← e, he] at q0; cases q0
          · rw [at_left _ _ _ (by omega), ← e, he] at q1; cases q1
          · rw [at_left _ _ _ (by omega), ← e, he] at q2; cases q2

theorem hit_take (t : List UInt8) (i : Nat) (hb : ∀ k, k < i → hitB t k = false) : ∀ k, hitB (t.take i) k = false := by
  intro k
  cases hh : hitB (t.take i) k with
  | false => rfl
  | true =>
    exfalso
    obtain ⟨q3, q0, q1, q2⟩ := pre_len (hit_pre hh)
    have hs := hit_start hh
    have hl : k + 3 ≤ i ∧ k + 3 ≤ t.length := by rw [List.length_take] at q3; omega
    rw [at_take _ _ _ (by omega)] at q0 q1 q2
    have hpp : preB t k = true := by unfold preB; exact decide_eq_true ⟨hl.2, q0, q1, q2⟩
    have hst : startB t k = true := by
      unfold startB at hs ⊢
      have := of_decide_eq_true hs
      apply decide_eq_true
      rcases this with e | e
      · exact Or.inl e
      · right; rw [at_take _ _ _ (by omega)] at e; exact e
    have hf := hb k (by omega)
    unfold hitB at hf
    rw [hst, hpp] at hf
    cases hf

theorem ends_snoc (u : List UInt8) : Ends (u ++ [10]) := by
  right
  have : (u ++ [(10 : UInt8)]).length - 1 = u.length + 0 := by simp
  rw [this, at_right]
  rfl
/-- One more line end makes no heading. -/
theorem hit_snoc (u : List UInt8) (h : ∀ k, hitB u k = false) : ∀ k, hitB (u ++ [10]) k = false := by
  intro k
  cases hh : hitB (u ++ [10]) k with
  | false => rfl
  | true =>
    exfalso
    obtain ⟨q3, q0, q1, q2⟩ := pre_len (hit_pre hh)
    have hs := hit_start hh
    have hlen : (u ++ [(10 : UInt8)]).length = u.length + 1 := by simp
    rw [hlen] at q3
    by_cases h3 : k + 3 ≤ u.length
    · rw [at_left _ _ _ (by omega)] at q0 q1 q2
      have hpp : preB u k = true := by unfold preB; exact decide_eq_true ⟨h3, q0, q1, q2⟩
      have hst : startB u k = true := by
        unfold startB at hs ⊢
        have := of_decide_eq_true hs
        apply decide_eq_true
        rcases this with e | e
        · exact Or.inl e
        · right; rw [at_left _ _ _ (by omega)] at e; exact e
      have hf := h k
      unfold hitB at hf
      rw [hst, hpp] at hf
      cases hf
    · have e : k + 2 = u.length + 0 := by omega
      rw [e, at_right] at q2
      cases q2

theorem pad_ends (t : List UInt8) (h : ∀ k, hitB t k = false) : Ends (t ++ padP t) ∧ ∀ k, hitB (t ++ padP t) k = false := by
  cases hr : t.reverse with
  | nil =>
    have : t = [] := by simpa using hr
    subst this
    exact ⟨Or.inl rfl, h⟩
  | cons c r =>
    have e : t = r.reverse ++ [c] := by
      have := congrArg List.reverse hr
      simpa using this
    have hp : padP t = if c ≠ 10 then [10, 10] else if ((bare (lastP r.reverse)).all blankC) = true then [] else [10] := by unfold padP; rw [hr]
    rw [hp]
    by_cases hc : c ≠ 10
    · rw [if_pos hc]
      have e2 : t ++ [10, 10] = (t ++ [10]) ++ [10] := by simp
      rw [e2]
      exact ⟨ends_snoc _, hit_snoc _ (hit_snoc _ h)⟩
    · rw [if_neg hc]
      have hc' : c = 10 := Decidable.not_not.1 hc
      subst hc'
      split
      · rw [List.append_nil]
        exact ⟨by rw [e]; exact ends_snoc _, h⟩
      · exact ⟨ends_snoc _, hit_snoc _ h⟩

theorem ins_notes (p n r n2 : List UInt8) (he : Ends p) (hp : ∀ k, hitB p k = false) (hn : preB n 0 = true) : insE (p ++ (n ++ r)) true n2 = p ++ n2 ++ [10] ++ (n ++ r) := by
  unfold insE insP
  rw [if_pos rfl, pos_notes p n r he hp hn]
  simp

theorem twice (t : List UInt8) (ex : Bool) (n1 n2 : List UInt8) (hn : preB n1 0 = true) : insE (insE t ex n1) true n2 = insE t ex (n2 ++ [10] ++ n1) := by
  cases ex with
  | false =>
    have h1 : insE t false n1 = title ++ (n1 ++ []) := by unfold insE; simp
    have h2 : insE t false (n2 ++ [10] ++ n1) = title ++ (n2 ++ [10] ++ n1) := by unfold insE; simp
    have hno : ∀ k, hitB title k = false := by
      intro k
      by_cases hk : k < 13
      · have : ∀ k, k < 13 → hitB title k = false := by decide
        exact this k hk
      · cases hh : hitB title k with
        | false => rfl
        | true =>
          have := (pre_len (hit_pre hh)).1
          have hl : title.length = 13 := rfl
          omega
    rw [h1, h2, ins_notes title n1 [] n2 (Or.inr rfl) hno hn]
    simp
  | true =>
    cases hp : posP t with
    | none =>
      have h1 : insE t true n1 = (t ++ padP t) ++ (n1 ++ []) := by unfold insE insP; rw [if_pos rfl, hp]; simp
      have h2 : insE t true (n2 ++ [10] ++ n1) = (t ++ padP t) ++ (n2 ++ [10] ++ n1) := by unfold insE insP; rw [if_pos rfl, hp]
      have hno := fun k => from_none t t.length 0 (by omega) hp k (Nat.zero_le _)
      obtain ⟨a, b⟩ := pad_ends t hno
      rw [h1, h2, ins_notes _ n1 [] n2 a b hn]
      simp
    | some i =>
      obtain ⟨_, hh, hb⟩ := from_some t t.length 0 i (by omega) hp
      have hl := (pre_len (hit_pre hh)).1
      have h1 : insE t true n1 = t.take i ++ (n1 ++ ([10] ++ t.drop i)) := by unfold insE insP; rw [if_pos rfl, hp]; simp
      have h2 : insE t true (n2 ++ [10] ++ n1) = t.take i ++ (n2 ++ [10] ++ n1) ++ [10] ++ t.drop i := by unfold insE insP; rw [if_pos rfl, hp]
      have he : Ends (t.take i) := by
        have hs := hit_start hh
        unfold startB at hs
        rcases of_decide_eq_true hs with e | e
        · left; rw [e]; rfl
        · by_cases h0 : i = 0
          · left; rw [h0]; rfl
          · right
            have : (t.take i).length = i := by rw [List.length_take]; omega
            rw [this, at_take _ _ _ (by omega)]
            exact e
      rw [h1, h2, ins_notes _ n1 _ n2 he (hit_take t i (fun k hk => hb k (Nat.zero_le _) hk)) hn]
      simp
theorem pad_len (t : List UInt8) : (padP t).length ≤ 2 := by
  unfold padP
  split
  · simp
  · split
    · simp
    · split <;> simp
theorem ins_len (t : List UInt8) (ex : Bool) (n : List UInt8) : (insE t ex n).length ≤ t.length + n.length + 13 := by
  unfold insE
  split
  · unfold insP
    split
    · simp only [List.length_append, List.length_take, List.length_drop, List.length_singleton]
      omega
    · have := pad_len t
      simp only [List.length_append]
      omega
  · have : title.length = 13 := rfl
    simp only [List.length_append]
    omega
end Go.Proofs.Qxb6605488aDoor
