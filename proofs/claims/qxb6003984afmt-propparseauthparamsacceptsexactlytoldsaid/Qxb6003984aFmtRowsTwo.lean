/-
  Seat b6003984aF: the two rows of strings that the law's model builds side by side; its row of bytes.
-/
import Derived.Test.Qxb6003984aFmtParse
import Derived.Maps.AppendAt
import Derived.Lib.ConvBytes
import Derived.Laws.BytesArg
import Derived.Laws.IdiomStrings
import Derived.Laws.MakeOwn
import Derived.Deep.QuietTactic
import Derived.BigQuiet
set_option linter.unusedSimpArgs false
set_option linter.unusedVariables false
namespace Go.Proofs.Qxb6003984aFmt
open Go.RowKit

theorem info9 : (Tryf.prog.info? 9).map (fun i => (i.zero, i.size, i.bytes)) = some (some (.string ⟨#[]⟩), 1, 16) := by kernel_rfl

theorem disj_left {a a' b : Option Nat} {N : Nat} (hd : a = none ∨ a ≠ b) (hl : a' = a ∨ a' = some N) (hb : ∀ k, b = some k → k < N) : a' = none ∨ a' ≠ b := by
  rcases hl with rfl | rfl
  · exact hd
  · right
    intro e
    have := hb N e.symm
    omega
theorem disj_right {a b b' : Option Nat} {N : Nat} (hd : a = none ∨ a ≠ b) (hl : b' = b ∨ b' = some N) (ha : ∀ k, a = some k → k < N) : a = none ∨ a ≠ b' := by
  rcases hl with rfl | rfl
  · exact hd
  · right
    intro e
    have := ha N e
    omega
theorem disj_sym {a b : Option Nat} (hd : a = none ∨ a ≠ b) : b = none ∨ b ≠ a := by
  rcases hd with rfl | h
  · cases b <;> simp
  · exact Or.inr (fun e => h e.symm)

/-- Names and values, each in a row of the call's own, the two apart. -/
def TwoRows (w : World) (B : Nat) (v5 v6 : Value) (acc : List (ByteArray × ByteArray)) : Prop :=
  w.ownsRow B 9 1 v5 acc.length (acc.map fun p => .string p.1) ∧ w.ownsRow B 9 1 v6 acc.length (acc.map fun p => .string p.2) ∧ (v5.ownBlock = none ∨ v5.ownBlock ≠ v6.ownBlock)
theorem two_nil (w : World) (B : Nat) : TwoRows w B (.slice none 0 0) (.slice none 0 0) [] := ⟨World.ownsRow_nil _ _ _ _, World.ownsRow_nil _ _ _ _, Or.inl rfl⟩
theorem two_below {w w' : World} {B : Nat} {v5 v6 : Value} {acc : List (ByteArray × ByteArray)} (h : TwoRows w B v5 v6 acc) (hb : Below w.heap.size w w') : TwoRows w' B v5 v6 acc :=
  ⟨own_below h.1 hb, own_below h.2.1 hb, h.2.2⟩
theorem two_push {W W1 W2 : World} {B : Nat} {v5 v6 v5' v6' : Value} {acc : List (ByteArray × ByteArray)} {n v : ByteArray} {o1 o2 : Obj} (h : TwoRows W B v5 v6 acc)
    (h5 : W1.ownsRow B 9 1 v5' (acc.length + 1) ((acc.map fun p => Value.string p.1) ++ [.string n])) (g5 : (W.alloc o1).grownBy W1 v5.ownBlock) (l5 : v5'.ownBlock = v5.ownBlock ∨ v5'.ownBlock = some (W.alloc o1).heap.size)
    (h6 : W2.ownsRow B 9 1 v6' (acc.length + 1) ((acc.map fun p => Value.string p.2) ++ [.string v])) (g6 : (W1.alloc o2).grownBy W2 v6.ownBlock) (l6 : v6'.ownBlock = v6.ownBlock ∨ v6'.ownBlock = some (W1.alloc o2).heap.size) :
    TwoRows W2 B v5' v6' (acc ++ [(n, v)]) := by
  obtain ⟨a5, a6, ad⟩ := h
  have d1 : v5'.ownBlock = none ∨ v5'.ownBlock ≠ v6.ownBlock := disj_left ad l5 (fun k hk => by have := a6.lt k hk; simp; omega)
  have d2 : v5'.ownBlock = none ∨ v5'.ownBlock ≠ v6'.ownBlock := disj_right d1 l6 (fun k hk => by have := h5.lt k hk; simp; omega)
  refine ⟨?_, ?_, d2⟩
  · rw [List.length_append, List.map_append]
    exact (h5.alloc o2).kept g6 d1
  · rw [List.length_append, List.map_append]
    exact h6
theorem two_keep6 {W W1 : World} {B : Nat} {v5 v6 : Value} {acc : List (ByteArray × ByteArray)} {o1 : Obj} (h : TwoRows W B v5 v6 acc) (g5 : (W.alloc o1).grownBy W1 v5.ownBlock) : W1.ownsRow B 9 1 v6 acc.length (acc.map fun p => .string p.2) :=
  (h.2.1.alloc o1).kept g5 (disj_sym h.2.2)

theorem conv_back (w : World) (B : Nat) (v : Value) (O : List UInt8) (h : w.ownsRow B 5 1 v O.length (Lib.byteCells O)) : (convert 40 9 v).run Tryf.prog w = .ok (.string ⟨O.toArray⟩) w := by
  rcases h.2 with ⟨rfl, h0⟩ | ⟨g, cap, cur, rfl, _⟩
  · obtain rfl : O = [] := List.eq_nil_of_length_eq_zero h0
    rw [run_convert_bytes_nil (P := Tryf.prog) w 40 5 Tryf.underlying40 Tryf.underlying5 0 0 9 Tryf.underlying9]
    rfl
  · exact run_convert_bytes_back (P := Tryf.prog) w 40 9 5 ⟨g, 0, none⟩ cap O Tryf.underlying40 Tryf.underlying5 Tryf.underlying9 (fun j hj => h.cells (g := g) rfl j _ (by simp [Lib.byteCells, hj]))

theorem one_byte (y : Int) : ∀ u ∈ [Value.int .u8 y], u.oneCell' = true := by intro u hu; simp at hu; subst hu; rfl
theorem one_str (y : ByteArray) : ∀ u ∈ [Value.string y], u.oneCell' = true := by intro u hu; simp at hu; subst hu; rfl
theorem push_bytes {B : Nat} {w wr w2 : World} {v v' : Value} {o : Obj} {acc : List UInt8} {c : UInt8} (hBw : B ≤ w.heap.size) (hb : Below B w wr) (hown : wr.ownsRow B 5 1 v acc.length (Lib.byteCells acc))
    (hown' : w2.ownsRow B 5 1 v' (acc.length + 1) (Lib.byteCells acc ++ [.int .u8 (c.toNat : Int)])) (hgrow : (wr.alloc o).grownBy w2 v.ownBlock) :
    w2.ownsRow B 5 1 v' (acc ++ [c]).length (Lib.byteCells (acc ++ [c])) ∧ Below B w w2 := by
  refine ⟨by rw [List.length_append, byteCells_push]; exact hown', ?_⟩
  have hs := hb.size
  exact (hb.alloc (by omega) o).grown hgrow (by simp; omega) (fun k hk => (hown.lt k hk).1)

/-- How the law's model ends. -/
def ModelOut (o : Option (List (ByteArray × ByteArray))) (w : World) (e : Ending) (w' : World) : Prop :=
  Below w.heap.size w w' ∧ (∀ ps, o = some ps → ∃ v5 v6, e = .returned (.tuple #[v5, v6, .bool true]) ∧ TwoRows w' w.heap.size v5 v6 ps) ∧ (o = none → e = .returned (.tuple #[.slice none 0 0, .slice none 0 0, .bool false]))
theorem model_bad {o : Option (List (ByteArray × ByteArray))} {w w' : World} (ho : o = none) (hb : Below w.heap.size w w') : ModelOut o w (.returned (.tuple #[.slice none 0 0, .slice none 0 0, .bool false])) w' := by
  subst ho
  refine ⟨hb, fun ps h => ?_, fun _ => rfl⟩
  cases h
theorem model_good {o : Option (List (ByteArray × ByteArray))} {w w' : World} {v5 v6 : Value} {ps : List (ByteArray × ByteArray)} (ho : o = some ps) (hb : Below w.heap.size w w') (hrows : TwoRows w' w.heap.size v5 v6 ps) :
    ModelOut o w (.returned (.tuple #[v5, v6, .bool true])) w' := by
  subst ho
  refine ⟨hb, fun ps' h => ?_, fun h => by cases h⟩
  cases h
  exact ⟨v5, v6, rfl, hrows⟩
end Go.Proofs.Qxb6003984aFmt
