/-
  Seat b6003899aD: '[]byte(s)' as new memory; 'string(b)' of an owned row; the '+' pass.
-/
import Derived.Test.Qxb6003899aDoorEmit
import Derived.Lib.ConvBytes
import Derived.Laws.BytesArg
import Derived.Laws.IdiomStrings
namespace Go.Proofs.Qxb6003899aDoor
open Go.RowKit

theorem conv_fresh (s : ByteArray) (w : World) : ∃ cp w1, (convert 9 24 (.string s)).run Tryd.prog w = .ok (.slice (some ⟨w.heap.size, 0, none⟩) s.size cp) w1 ∧ s.size ≤ cp ∧ w1.heap.size = w.heap.size + 1 ∧ Below w.heap.size w w1 ∧
    (∀ j, j < s.size → w1.cell? ⟨w.heap.size, j, none⟩ = some (.int .u8 ((s.data.toList.getD j 0).toNat : Int))) ∧ (∀ j, j < s.size → w1.frozen? ⟨w.heap.size, j, none⟩ = false) := by
  refine ⟨_, _, Lib.run_convert_string_bytes (P := Tryd.prog) w 9 24 5 s Tryd.underlying9 Tryd.underlying24 Tryd.underlying5, grownCap_ge w s.size 0 5, Lib.bytesWorld_size w 5 s, ⟨rfl, rfl, rfl, ?_, fun k hk => Lib.bytesWorld_at_old w 5 s k hk⟩, fun j hj => Lib.bytesWorld_cell w 5 s j hj, fun j hj => ?_⟩
  · rw [Lib.bytesWorld_size]; omega
  · have hz : s.size ≤ (Lib.bytesCells w 5 s).size := by
      simp [Lib.bytesCells]
    have hn : ¬ (Lib.bytesCells w 5 s).size ≤ j := by omega
    simp [World.frozen?, Lib.bytesWorld_at_new, hn]

theorem conv_back (w : World) (B : Nat) (v : Value) (O : List UInt8) (h : w.ownsRow B 5 1 v O.length (Lib.byteCells O)) : (convert 24 9 v).run Tryd.prog w = .ok (.string ⟨O.toArray⟩) w := by
  rcases h.2 with ⟨rfl, h0⟩ | ⟨g, cap, cur, rfl, _⟩
  · obtain rfl : O = [] := List.eq_nil_of_length_eq_zero h0
    rw [run_convert_bytes_nil (P := Tryd.prog) w 24 5 Tryd.underlying24 Tryd.underlying5 0 0 9 Tryd.underlying9]
    rfl
  · exact run_convert_bytes_back (P := Tryd.prog) w 24 9 5 ⟨g, 0, none⟩ cap O Tryd.underlying24 Tryd.underlying5 Tryd.underlying9 (fun j hj => h.cells (g := g) rfl j _ (by simp [Lib.byteCells, hj]))

def plusU (c : UInt8) : UInt8 := if c = 43 then 32 else c
def mix (l : List UInt8) (i j : Nat) : UInt8 := if j < i then plusU (l.getD j 0) else l.getD j 0
theorem mix_zero (l : List UInt8) (j : Nat) : mix l 0 j = l.getD j 0 := by simp [mix]
theorem mix_at (l : List UInt8) (i : Nat) : mix l i i = l.getD i 0 := by simp [mix]
theorem mix_all (l : List UInt8) (n j : Nat) (h : j < n) : mix l n j = plusU (l.getD j 0) := by simp [mix, h]
theorem mix_same (l : List UInt8) (i j : Nat) (h : l.getD i 0 ≠ 43) : mix l (i + 1) j = mix l i j := by
  unfold mix
  by_cases e : j = i
  · subst e
    rw [if_pos (by omega), if_neg (by omega)]
    unfold plusU
    rw [if_neg h]
  · by_cases h1 : j < i
    · rw [if_pos h1, if_pos (by omega)]
    · rw [if_neg h1, if_neg (by omega)]
theorem mix_put (l : List UInt8) (i j : Nat) (h : l.getD i 0 = 43) : mix l (i + 1) j = if j = i then 32 else mix l i j := by
  unfold mix
  by_cases e : j = i
  · subst e
    simp only [if_pos, Nat.lt_succ_self, plusU, h]
  · rw [if_neg e]
    by_cases h1 : j < i
    · rw [if_pos h1, if_pos (by omega)]
    · rw [if_neg h1, if_neg (by omega)]

/-- The cells while the '+' pass runs. -/
def Mixed (w : World) (P n : Nat) (l : List UInt8) (i : Nat) : Prop := (∀ j, j < n → w.cell? ⟨P, j, none⟩ = some (.int .u8 ((mix l i j).toNat : Int))) ∧ (∀ j, j < n → w.frozen? ⟨P, j, none⟩ = false)
theorem mixed_put {w : World} {P n : Nat} {l : List UInt8} {i : Nat} (h : Mixed w P n l i) (hx : l.getD i 0 = 43) : Mixed (w.setCell ⟨P, i, none⟩ (.int .u8 32)) P n l (i + 1) := by
  refine ⟨fun j hj => ?_, fun j hj => by rw [World.frozen?_setCell]; exact h.2 j hj⟩
  rw [mix_put l i j hx]
  by_cases e : j = i
  · subst e
    rw [World.cell?_setCell_same _ _ _ (h.1 j hj)]
    simp
  · rw [if_neg e, World.cell?_setCell_other _ _ _ _ (by intro hh; injection hh with _ h2; omega)]
    exact h.1 j hj
theorem mixed_same {w : World} {P n : Nat} {l : List UInt8} {i : Nat} (h : Mixed w P n l i) (hx : l.getD i 0 ≠ 43) : Mixed w P n l (i + 1) :=
  ⟨fun j hj => by rw [mix_same l i j hx]; exact h.1 j hj, h.2⟩

theorem plus_hex (y : UInt8) : hexB ((plusU y).toNat : Int) = hexB (y.toNat : Int) := by
  unfold plusU
  split
  · rename_i h; subst h; decide
  · rfl
theorem plus_of_hex (y : UInt8) (h : hexB (y.toNat : Int) = true) : plusU y = y := by
  unfold plusU
  split
  · rename_i e; subst e; simp [hexB] at h
  · rfl
theorem wrap_u8 (n : Int) (h0 : 0 ≤ n) (h1 : n ≤ 255) : IntKind.u8.wrap n = n := by
  unfold IntKind.wrap
  simp [IntKind.bits, IntKind.signed]
  omega
theorem plus_43 : plusU 43 = 32 := rfl
theorem plus_ne (x : UInt8) (h : x ≠ 43) : plusU x = x := by simp [plusU, h]
end Go.Proofs.Qxb6003899aDoor
