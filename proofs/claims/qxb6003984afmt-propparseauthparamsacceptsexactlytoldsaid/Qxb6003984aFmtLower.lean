/-
  Seat b6003984aF: zzc3Lower, and strings.ToLower on a token.
-/
import Derived.Test.Qxb6003984aFmtSkip
import Derived.Laws.MakeOwn
import Derived.Laws.BytesArg
import Derived.Laws.IdiomStrings
set_option linter.unusedSimpArgs false
set_option linter.unusedVariables false
namespace Go.Proofs.Qxb6003984aFmt
open Go.RowKit

theorem info5 : (Tryf.prog.info? 5).map (fun i => (i.zero, i.size, i.bytes)) = some (some (.int .u8 0), 1, 1) := by kernel_rfl

theorem make_fresh (n : Nat) (w : World) (hn : n ≤ 1048576) : ∃ w1, (Instr.makeSlice 40 (.int .i64 (n : Int)) (.int .i64 (n : Int))).run Tryf.prog w = .ok (.slice (some ⟨w.heap.size, 0, none⟩) n n) w1 ∧ w1.heap.size = w.heap.size + 1 ∧ Below w.heap.size w w1 ∧
    (∀ j, j < n → w1.cell? ⟨w.heap.size, j, none⟩ = some (.int .u8 0)) ∧ (∀ j, j < n → w1.frozen? ⟨w.heap.size, j, none⟩ = false) := by
  obtain ⟨i0, hi, hz0, hz1, hz2⟩ := info_parts info5
  have h := run_make (P := Tryf.prog) w 40 5 i0 (.int .u8 0) Tryf.underlying40 hi hz0 .i64 .i64 (n : Int) (n : Int) (by omega) (by omega) (by rw [hz2]; omega) (by omega)
  rw [Int.toNat_natCast, hz1, Nat.mul_one] at h
  have hh : (w.alloc (.cells (madeCells (Value.int .u8 0).cells n) 5)).heap[w.heap.size]? = some (.cells (madeCells (Value.int .u8 0).cells n) 5) := heap_alloc_new w _
  refine ⟨_, h, by simp, (Below.refl _ _).alloc (Nat.le_refl _) _, fun j hj => ?_, fun j hj => ?_⟩
  · rw [cell_of_row _ _ j _ _ _ hh, ← Array.getElem?_toList]
    show (madeCells #[.int .u8 0] n).toList[j]? = _
    rw [toList_madeCells_one]
    simp [hj]
  · unfold World.frozen?
    rw [hh]
    simp

def Low (w : World) (B n : Nat) (l : List UInt8) (i : Nat) : Prop := (∀ j, j < n → w.cell? ⟨B, j, none⟩ = some (.int .u8 (if j < i then ((lowerC (byteAt l j)).toNat : Int) else 0))) ∧ (∀ j, j < n → w.frozen? ⟨B, j, none⟩ = false)
theorem low_put {w : World} {B n : Nat} {l : List UInt8} {i : Nat} (h : Low w B n l i) (hi : i < n) : Low (w.setCell ⟨B, i, none⟩ (.int .u8 ((lowerC (byteAt l i)).toNat : Int))) B n l (i + 1) := by
  refine ⟨fun j hj => ?_, fun j hj => by rw [World.frozen?_setCell]; exact h.2 j hj⟩
  by_cases e : j = i
  · subst e
    rw [World.cell?_setCell_same _ _ _ (h.1 j hj), if_pos (by omega)]
  · rw [World.cell?_setCell_other _ _ _ _ (by intro hh; injection hh with _ h2; omega), h.1 j hj]
    by_cases h1 : j < i
    · rw [if_pos h1, if_pos (by omega)]
    · rw [if_neg h1, if_neg (by omega)]
theorem low_back {w : World} {B : Nat} {s : ByteArray} (h : Low w B s.size s.data.toList s.size) : (convert 40 9 (.slice (some ⟨B, 0, none⟩) s.size s.size)).run Tryf.prog w = .ok (.string (lowerS s)) w := by
  have hl : (s.data.toList.map lowerC).length = s.size := by rw [List.length_map, len_eq]
  have := run_convert_bytes_back (P := Tryf.prog) w 40 9 5 ⟨B, 0, none⟩ s.size (s.data.toList.map lowerC) Tryf.underlying40 Tryf.underlying5 Tryf.underlying9 (fun j hj => by
    have hj' : j < s.size := by rw [← hl]; exact hj
    have hadd : (⟨B, 0, none⟩ : Addr).add j = ⟨B, j, none⟩ := by unfold Addr.add; split <;> simp_all
    rw [hadd, h.1 j hj', if_pos hj', List.getElem_map]
    unfold byteAt
    rw [List.getD_eq_getElem?_getD, List.getElem?_eq_getElem (by rw [len_eq]; exact hj')]
    rfl)
  rw [hl] at this
  exact this
theorem lowerC_add (c : UInt8) (h : 65 ≤ c.toNat ∧ c.toNat ≤ 90) : ((lowerC c).toNat : Int) = (c.toNat : Int) + 32 := by
  unfold lowerC
  rw [if_pos h]
  simp
  omega
theorem lowerC_same (c : UInt8) (h : ¬ (65 ≤ c.toNat ∧ c.toNat ≤ 90)) : lowerC c = c := by
  unfold lowerC
  rw [if_neg h]

set_option maxRecDepth 100000 in
set_option maxHeartbeats 800000 in
theorem lower_any (s : ByteArray) (w : World) (hs : s.size ≤ 1048576) :
    Calls Tryf.prog 19 #[.string s] w fun e w' => e = .returned (.string (lowerS s)) ∧ Below w.heap.size w w' := by
  obtain ⟨w1, hmk, hz, hb1, hc1, hf1⟩ := make_fresh s.size w hs
  have hL1 : Low w1 w.heap.size s.size s.data.toList 0 := ⟨fun j hj => by rw [hc1 j hj]; simp, hf1⟩
  clear hc1 hf1
  go_enter Tryf.func19, Tryf.ntmps19
  go_wp2
  clear hmk
  go_loopw [4] (fun ti wr => ∃ i : Nat, i ≤ s.size ∧ ti = .int .i64 i ∧ Low wr w.heap.size s.size s.data.toList i ∧ Below w.heap.size w wr) (fun ti _ => s.size - (intOf ti).toNat)
  case atStart => exact ⟨0, Nat.zero_le _, rfl, hL1, hb1⟩
  case round =>
    obtain ⟨i, hile, rfl, hL, hb⟩ := hrel
    by_cases hlt : i < s.size
    · have hci := hL.1 i hlt
      rw [if_neg (Nat.lt_irrefl _)] at hci
      have hfi := hL.2 i hlt
      have hL' := low_put hL hlt
      rw [str_at s i hlt] at hL'
      obtain ⟨x, hx⟩ : ∃ x, s[i]'hlt = x := ⟨_, rfl⟩
      rw [hx] at hL'
      have hxb := x.toNat_lt
      clear hL
      by_cases hu : 65 ≤ x.toNat ∧ x.toNat ≤ 90
      · rw [lowerC_add x hu] at hL'
        obtain ⟨h1, h2⟩ := hu
        go_wp2
        go_roundw
        case rel => exact ⟨i + 1, by omega, by go_num, hL', hb.setCell (Nat.le_refl _) _⟩
        case measure => simp [intOf]; omega
      · rw [lowerC_same x hu] at hL'
        by_cases h1 : 65 ≤ x.toNat
        · have h2 : 90 < x.toNat := by omega
          clear hu
          go_wp2
          go_roundw
          case rel => exact ⟨i + 1, by omega, by go_num, hL', hb.setCell (Nat.le_refl _) _⟩
          case measure => simp [intOf]; omega
        · clear hu
          go_wp2
          go_roundw
          case rel => exact ⟨i + 1, by omega, by go_num, hL', hb.setCell (Nat.le_refl _) _⟩
          case measure => simp [intOf]; omega
    · have hie : i = s.size := by omega
      subst hie
      have hcv := low_back hL
      clear hL
      go_wp2
      go_ret
      exact ⟨rfl, hb⟩

theorem lower_fin : ∀ n : Fin 256, Lib.lowerB (UInt8.ofNat n.val) = lowerC (UInt8.ofNat n.val) := by decide +kernel
theorem lower_eq (c : UInt8) : Lib.lowerB c = lowerC c := by
  have h := lower_fin ⟨c.toNat, c.toNat_lt⟩
  simpa using h

theorem tchar_ascii (c : UInt8) (h : tcharB c = true) : c.toNat < 128 := by
  unfold tcharB at h
  simp at h
  omega

/-- strings.ToLower on ASCII text. -/
theorem toLower_any (s : ByteArray) (w : World) (hs : s.size ≤ 1048576) (ha : ∀ c ∈ s.data.toList, c.toNat < 128) :
    Calls Tryf.prog 27 #[.string s] w fun e w' => e = .returned (.string (lowerS s)) ∧ Below w.heap.size w w' := by
  have h := Tryf.strings_ToLower_ascii s w (by omega) (fun j b hb => ha b (List.mem_of_getElem? hb))
  have e : Lib.toLowerA s.data.toList = s.data.toList.map lowerC := List.map_congr_left fun c _ => lower_eq c
  rw [e] at h
  exact h
end Go.Proofs.Qxb6003984aFmt
