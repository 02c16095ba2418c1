/-
  Seat b6605488aD: texts and their bytes; strings.HasPrefix, IndexByte, Split in the plain reader's words.
-/
import Derived.Test.Qxb6605488aDoorClone
set_option linter.unusedSimpArgs false
set_option linter.unusedVariables false
namespace Go.Proofs.Qxb6605488aDoor
open Go.RowKit

theorem conv9 (S : ByteArray) (W : World) : (convert 9 22 (.string S)).run Tryd.prog W = .ok (.slice (some ⟨W.heap.size, 0, none⟩) S.size (grownCap W S.size 0 5)) (Lib.bytesWorld W 5 S) :=
  Lib.run_convert_string_bytes (P := Tryd.prog) W 9 22 5 S Tryd.underlying9 Tryd.underlying22 Tryd.underlying5
theorem fresh_below (S : ByteArray) (W : World) : Below W.heap.size W (Lib.bytesWorld W 5 S) := ⟨rfl, rfl, rfl, by rw [Lib.bytesWorld_size]; omega, fun k hk => Lib.bytesWorld_at_old W 5 S k hk⟩
theorem reads_fresh (S : ByteArray) (W : World) (cap : Nat) : Reads (Lib.bytesWorld W 5 S) (.slice (some ⟨W.heap.size, 0, none⟩) S.size cap) S := by
  have h := reads_cells (w := Lib.bytesWorld W 5 S) (a := ⟨W.heap.size, 0, none⟩) (cap := cap) (t := S.data.toList) (by rw [Lib.bytesWorld_size]; show W.heap.size < _; omega) (fun j hj => by
    rw [add_zero, Lib.bytesWorld_cell W 5 S j (by rw [← len_eq]; exact hj)]
    rw [List.getD_eq_getElem?_getD, List.getElem?_eq_getElem hj]
    rfl)
  rw [len_eq] at h
  exact h

theorem extract_list (s : ByteArray) (i : Nat) : (s.extract i s.size).data.toList = s.data.toList.drop i := by
  rw [ByteArray.data_extract, Array.toList_extract, List.extract_eq_take_drop, ← len_eq, ← List.length_drop, List.take_length]
theorem take_list (s : ByteArray) (i : Nat) : (s.extract 0 i).data.toList = s.data.toList.take i := Lib.extract_from_zero s i
theorem at_drop (t : List UInt8) (i k : Nat) : (t.drop i)[k]? = t[i + k]? := List.getElem?_drop
theorem pre_drop (t : List UInt8) (i : Nat) : Lib.hasPrefix (t.drop i) [35, 35, 32] = preB t i := by
  unfold Lib.hasPrefix preB
  cases h : t.drop i with
  | nil =>
    have : t.length ≤ i := by simpa using h
    have e : ¬ (i + 3 ≤ t.length ∧ at0 t i = 35 ∧ at0 t (i + 1) = 35 ∧ at0 t (i + 2) = 32) := by omega
    simp [e]
  | cons a r =>
    have ha : t[i]? = some a := by have := at_drop t i 0; rw [h] at this; simpa using this.symm
    cases r with
    | nil =>
      have hl : t.length - i = 1 := by have := congrArg List.length h; simpa using this
      have e : ¬ (i + 3 ≤ t.length ∧ at0 t i = 35 ∧ at0 t (i + 1) = 35 ∧ at0 t (i + 2) = 32) := by omega
      simp [e, List.isPrefixOf]
    | cons b r =>
      have hb : t[i + 1]? = some b := by have := at_drop t i 1; rw [h] at this; simpa using this.symm
      cases r with
      | nil =>
        have hl : t.length - i = 2 := by have := congrArg List.length h; simpa using this
        have e : ¬ (i + 3 ≤ t.length ∧ at0 t i = 35 ∧ at0 t (i + 1) = 35 ∧ at0 t (i + 2) = 32) := by omega
        simp [e, List.isPrefixOf]
      | cons c r =>
        have hc : t[i + 2]? = some c := by have := at_drop t i 2; rw [h] at this; simpa using this.symm
        have hl : t.length - i = r.length + 3 := by have := congrArg List.length h; simpa using this
        have h3 : i + 3 ≤ t.length := by omega
        simp only [at0, List.getD_eq_getElem?_getD, ha, hb, hc, Option.getD_some]
        simp [h3, List.isPrefixOf, eq_comm]
        rw [Bool.eq_iff_iff]
        simp
        constructor <;> rintro ⟨rfl, rfl, rfl⟩ <;> exact ⟨rfl, rfl, rfl⟩
theorem prefix_any (s : ByteArray) (i : Nat) (w : World) : Calls Tryd.prog 12 #[.string (s.extract i s.size), .string ⟨#[35, 35, 32]⟩] w fun e w' => e = .returned (.bool (preB s.data.toList i)) ∧ w' = w := by
  have h := Tryd.strings_HasPrefix (s.extract i s.size) ⟨#[35, 35, 32]⟩ w
  rw [extract_list] at h
  have e : Lib.hasPrefix (s.data.toList.drop i) [35, 35, 32] = preB s.data.toList i := pre_drop _ i
  rw [← e]
  exact h
/-- The next line end, from i on. -/
def nextE (t : List UInt8) (i : Nat) : Int := Lib.indexByte (t.drop i) 10
theorem index_any (s : ByteArray) (i : Nat) (w : World) : Calls Tryd.prog 13 #[.string (s.extract i s.size), .int .u8 10] w fun e w' => e = .returned (.int .i64 (nextE s.data.toList i)) ∧ w' = w := by
  have h := Tryd.strings_IndexByte (s.extract i s.size) 10 w
  rw [extract_list] at h
  exact h
theorem next_none (t : List UInt8) (i : Nat) (h : nextE t i = -1) : ∀ k, i + k < t.length → at0 t (i + k) ≠ 10 := by
  intro k hk e
  have := Lib.indexByte_none h k
  rw [at_drop] at this
  unfold at0 at e
  rw [List.getD_eq_getElem?_getD, List.getElem?_eq_getElem hk] at e
  rw [List.getElem?_eq_getElem hk] at this
  exact this (by rw [← e]; rfl)
theorem next_some (t : List UInt8) (i o : Nat) (h : nextE t i = o) : i + o < t.length ∧ at0 t (i + o) = 10 ∧ ∀ k, k < o → at0 t (i + k) ≠ 10 := by
  obtain ⟨h1, h2⟩ := Lib.indexByte_some h
  rw [at_drop] at h1
  have hl : i + o < t.length := (List.getElem?_eq_some_iff.1 h1).1
  refine ⟨hl, by unfold at0; rw [List.getD_eq_getElem?_getD, h1]; rfl, fun k hk e => ?_⟩
  have := h2 k hk
  rw [at_drop, List.getElem?_eq_getElem (by omega)] at this
  unfold at0 at e
  rw [List.getD_eq_getElem?_getD, List.getElem?_eq_getElem (by omega)] at e
  exact this (by rw [← e]; rfl)
theorem next_ge (t : List UInt8) (i : Nat) : -1 ≤ nextE t i := Lib.indexByte_ge _ _

/-- The lines as strings. -/
def linesOf (s : ByteArray) : List ByteArray := Lib.splitB ⟨#[10]⟩ 0 (Lib.countB s ⟨#[10]⟩) s
theorem linesOf_data (s : ByteArray) : (linesOf s).map (·.data.toList) = linesL s.data.toList := by
  unfold linesOf
  rw [Lib.splitB_data]
  exact split_lines _
theorem linesOf_len (s : ByteArray) : (linesOf s).length = Lib.countB s ⟨#[10]⟩ + 1 := Lib.splitB_all _ (by decide) 0 _ s rfl
theorem linesOf_le (s : ByteArray) : (linesOf s).length ≤ s.size + 1 := by
  rw [linesOf_len]
  have := Lib.countB_le ⟨#[10]⟩ (by decide) s.size s (Nat.le_refl _)
  omega
theorem split_any (s : ByteArray) (m : Int) (w : World) (hs : s.size < 4294967281) (hm : w.cell? ⟨0, 0, none⟩ = some (.int .i64 m)) :
    Calls Tryd.prog 14 #[.string s, .string ⟨#[10]⟩] w fun e w' => e = .returned (.slice (some ⟨w.heap.size, 0, none⟩) (linesOf s).length (linesOf s).length) ∧
      (∀ (k : Nat) (x : ByteArray), (linesOf s)[k]? = some x → w'.cell? ⟨w.heap.size, k, none⟩ = some (.string x)) ∧ Below w.heap.size w w' := by
  refine (Tryd.strings_Split s ⟨#[10]⟩ m w hs hm (by decide)).mono ?_
  rintro e w' ⟨rfl, rfl⟩
  refine ⟨by rw [linesOf_len], fun k x hx => ?_, (Below.refl _ _).alloc (Nat.le_refl _) _⟩
  rw [cell_of_row _ _ k _ _ _ (heap_alloc_new w _), ← Array.getElem?_toList]
  show ((Lib.splitB _ 0 _ s).map Value.string)[k]? = _
  rw [List.getElem?_map]
  unfold linesOf at hx
  rw [hx]
  rfl
end Go.Proofs.Qxb6605488aDoor
