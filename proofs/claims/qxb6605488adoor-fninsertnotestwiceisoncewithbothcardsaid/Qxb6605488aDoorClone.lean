/-
  Seat b6605488aD: zzCloneBytes; a slice of bytes that reads as a text, from here on.
-/
import Derived.Test.Qxb6605488aDoorBase
import Derived.Lib.LazyBuf
set_option linter.unusedSimpArgs false
set_option linter.unusedVariables false
namespace Go.Proofs.Qxb6605488aDoor
open Go.RowKit

theorem info5 : (Tryd.prog.info? 5).map (fun i => (i.zero, i.size, i.bytes)) = some (some (.int .u8 0), 1, 1) := by kernel_rfl

theorem make_fresh (n : Nat) (w : World) (hn : n ≤ 1048576) : ∃ w1, (Instr.makeSlice 22 (.int .i64 (n : Int)) (.int .i64 (n : Int))).run Tryd.prog w = .ok (.slice (some ⟨w.heap.size, 0, none⟩) n n) w1 ∧ w1.heap.size = w.heap.size + 1 ∧ Below w.heap.size w w1 ∧
    (∀ j, j < n → w1.cell? ⟨w.heap.size, j, none⟩ = some (.int .u8 0)) ∧ (∀ j, j < n → w1.frozen? ⟨w.heap.size, j, none⟩ = false) := by
  obtain ⟨i0, hi, hz0, hz1, hz2⟩ := info_parts info5
  have h := run_make (P := Tryd.prog) w 22 5 i0 (.int .u8 0) Tryd.underlying22 hi hz0 .i64 .i64 (n : Int) (n : Int) (by omega) (by omega) (by rw [hz2]; omega) (by omega)
  rw [Int.toNat_natCast, hz1, Nat.mul_one] at h
  have hh : (w.alloc (.cells (madeCells (Value.int .u8 0).cells n) 5)).heap[w.heap.size]? = some (.cells (madeCells (Value.int .u8 0).cells n) 5) := heap_alloc_new w _
  refine ⟨_, h, by simp, (Below.refl _ _).alloc (Nat.le_refl _) _, fun j hj => ?_, fun j hj => ?_⟩
  · rw [cell_of_row _ _ j _ _ _ hh, ← Array.getElem?_toList]
    show (madeCells #[.int .u8 0] n).toList[j]? = _
    rw [toList_madeCells_one]
    simp [hj]
  · unfold World.frozen?
    rw [hh]
    simp

/-- From this world on the slice reads as the text. -/
def Reads (w : World) (v : Value) (s : ByteArray) : Prop := ∀ w', Below w.heap.size w w' → (convert 22 9 v).run Tryd.prog w' = .ok (.string s) w'
theorem Reads.on {w w1 : World} {v : Value} {s : ByteArray} (h : Reads w v s) (hb : Below w.heap.size w w1) : Reads w1 v s := fun w' h' => h w' (chain hb h')
theorem reads_nil (w : World) : Reads w (.slice none 0 0) ⟨#[]⟩ := fun w' _ => by
  rw [run_convert_bytes_nil (P := Tryd.prog) w' 22 5 Tryd.underlying22 Tryd.underlying5 0 0 9 Tryd.underlying9]
  rfl
theorem add_block (a : Addr) (j : Nat) : (a.add j).block = a.block := by unfold Addr.add; split <;> rfl
theorem add_zero (B j : Nat) : (⟨B, 0, none⟩ : Addr).add j = ⟨B, j, none⟩ := by unfold Addr.add; split <;> simp_all
theorem reads_cells {w : World} {a : Addr} {cap : Nat} {t : List UInt8} (ha : a.block < w.heap.size) (hc : ∀ j (hj : j < t.length), w.cell? (a.add j) = some (.int .u8 (t[j].toNat : Int))) : Reads w (.slice (some a) t.length cap) ⟨t.toArray⟩ := fun w' hb =>
  run_convert_bytes_back (P := Tryd.prog) w' 22 9 5 a cap t Tryd.underlying22 Tryd.underlying5 Tryd.underlying9 (fun j hj => by rw [hb.cell (by rw [add_block]; exact ha)]; exact hc j hj)

/-- The old text's slice, as the caller hands it. -/
def Given (w : World) (v : Value) (t : List UInt8) : Prop :=
  (v = .slice none 0 0 ∧ t = []) ∨ ∃ (a : Addr) (cap : Nat), v = .slice (some a) t.length cap ∧ t.length ≤ cap ∧ cap ≤ maxLen ∧ (∀ j (hj : j < t.length), w.cell? (a.add j) = some (.int .u8 (t[j].toNat : Int)))

def Copied (w : World) (B n : Nat) (l : List UInt8) (i : Nat) : Prop := (∀ j, j < n → w.cell? ⟨B, j, none⟩ = some (.int .u8 (if j < i then ((at0 l j).toNat : Int) else 0))) ∧ (∀ j, j < n → w.frozen? ⟨B, j, none⟩ = false)
theorem copied_put {w : World} {B n : Nat} {l : List UInt8} {i : Nat} (h : Copied w B n l i) (hi : i < n) : Copied (w.setCell ⟨B, i, none⟩ (.int .u8 ((at0 l i).toNat : Int))) B n l (i + 1) := by
  refine ⟨fun j hj => ?_, fun j hj => by rw [World.frozen?_setCell]; exact h.2 j hj⟩
  by_cases e : j = i
  · subst e
    rw [World.cell?_setCell_same _ _ _ (h.1 j hj), if_pos (by omega)]
  · rw [World.cell?_setCell_other _ _ _ _ (by intro hh; injection hh with _ h2; omega), h.1 j hj]
    by_cases h1 : j < i
    · rw [if_pos h1, if_pos (by omega)]
    · rw [if_neg h1, if_neg (by omega)]

set_option maxRecDepth 100000 in
set_option maxHeartbeats 800000 in
theorem clone_any (v : Value) (t : List UInt8) (w : World) (hg : Given w v t) (ht : t.length ≤ 1048576) :
    Calls Tryd.prog 6 #[v] w fun e w' => ∃ r, e = .returned r ∧ Reads w' r ⟨t.toArray⟩ ∧ Below w.heap.size w w' := by
  have hnil := fun (w : World) (a : Option Addr) (l c : Nat) => Go.run_eql_slice_nil (P := Tryd.prog) w 22 5 a l c Tryd.underlying22
  rcases hg with ⟨rfl, rfl⟩ | ⟨a, cap, rfl, h1, h2, hc⟩
  · go_enter Tryd.func6, Tryd.ntmps6
    go_wp2
    go_ret
    exact ⟨_, rfl, reads_nil w, Below.refl _ _⟩
  · obtain ⟨w1, hmk, hz, hb1, hc1, hf1⟩ := make_fresh t.length w ht
    have hL1 : Copied w1 w.heap.size t.length t 0 := ⟨fun j hj => by rw [hc1 j hj]; simp, hf1⟩
    clear hc1 hf1
    go_enter Tryd.func6, Tryd.ntmps6
    go_wp2
    clear hmk
    go_loopw [4] (fun ti wr => ∃ i : Nat, i ≤ t.length ∧ ti = .int .i64 i ∧ Copied wr w.heap.size t.length t i ∧ wr.heap.size = w.heap.size + 1 ∧ Below w.heap.size w wr) (fun ti _ => t.length - (intOf ti).toNat)
    case atStart => exact ⟨0, Nat.zero_le _, rfl, hL1, hz, hb1⟩
    case round =>
      obtain ⟨i, hi, rfl, hL, hsz, hb⟩ := hrel
      by_cases hlt : i < t.length
      · have hx : wr.cell? (a.add i) = some (.int .u8 ((at0 t i).toNat : Int)) := by
          rw [hb.cell (World.block_lt_of_cell? _ _ (hc i hlt)), hc i hlt]
          unfold at0
          rw [List.getD_eq_getElem?_getD, List.getElem?_eq_getElem hlt]
          rfl
        have ho := hL.1 i hlt
        have hfr := hL.2 i hlt
        obtain ⟨x, hxd⟩ : ∃ x, at0 t i = x := ⟨_, rfl⟩
        have hput := copied_put hL hlt
        rw [hxd] at hput hx
        clear hL
        go_wp2
        go_roundw
        case rel => exact ⟨i + 1, by omega, by go_num, hput, by simp [hsz], hb.setCell (Nat.le_refl _) _⟩
        case measure => simp [intOf]; omega
      · have hie : i = t.length := by omega
        subst hie
        go_wp2
        go_ret
        refine ⟨_, rfl, ?_, hb⟩
        refine reads_cells (by show w.heap.size < wr.heap.size; omega) (fun j hj => ?_)
        rw [add_zero, hL.1 j hj, if_pos hj]
        unfold at0
        rw [List.getD_eq_getElem?_getD, List.getElem?_eq_getElem hj]
        rfl
end Go.Proofs.Qxb6605488aDoor
