/-
  Seat b6615565aF: allOf over isNameChar, at whatever string.
-/
import Derived.Test.Qxb6615565aFmtChars
import Derived.Laws.RangeAny
namespace Go.Proofs.Qxb6615565aFmt
open Go.RowKit

/-- Every rune of s from pos on (at most b of them) is a name character. -/
def allFrom (s : ByteArray) : Nat → Nat → Bool
  | 0, _ => true
  | b + 1, pos => if pos < s.size then nameB ((Utf8.decode s pos).1 : Int) && allFrom s b (pos + (Utf8.decode s pos).2) else true

theorem width_pos (s : ByteArray) (pos : Nat) (h : pos < s.size) : 1 ≤ (Utf8.decode s pos).2 := by
  by_cases ha : (s[pos]'h).toNat < 128
  · rw [decode_ascii s pos h ha]
    exact Nat.le_refl _
  · exact (decode_high s pos h (by omega)).2

theorem allFrom_end (s : ByteArray) (b pos : Nat) (h : ¬ pos < s.size) : allFrom s b pos = true := by
  cases b with
  | zero => rfl
  | succ b => simp [allFrom, h]

set_option maxRecDepth 100000 in
set_option maxHeartbeats 400000 in
theorem all_any (s : ByteArray) (w : World) :
    Calls Tryf.prog 21 #[.string s, .func (.func 14) #[] #[]] w fun e w' => e = .returned (.bool (allFrom s s.size 0)) ∧ ∃ pos, w' = w.iter s pos := by
  go_enter Tryf.func21, Tryf.ntmps21
  go_wp2
  go_loopw [4] (fun n w' => n = .bool false ∧ ∃ (pos b : Nat), w' = w.iter s pos ∧ allFrom s b pos = allFrom s s.size 0 ∧ s.size ≤ pos + b) (fun _ w' => s.size - w'.iterPos w.heap.size)
  case atStart => exact ⟨rfl, 0, s.size, rfl, rfl, by omega⟩
  case round =>
    obtain ⟨rfl, pos, b, rfl, hc, hb⟩ := hrel
    have HC : Hid (allFrom s b pos = allFrom s s.size 0) := hc
    clear hc
    by_cases hp : pos < s.size
    · have hnx : ∀ ty, (Instr.next (.pointer (some ⟨w.heap.size, 0, none⟩)) true ty).run Tryf.prog (w.iter s pos) = _ := fun ty => run_next_any w s pos ty hp
      have hwd := width_pos s pos hp
      obtain ⟨b, rfl⟩ : ∃ b', b = b' + 1 := ⟨b - 1, by omega⟩
      go_wp2_with (go_at_call 14; refine (name_any _ _).mono ?_; rintro e w' ⟨rfl, rfl⟩)
      · go_ret
        refine ⟨ret_bool ?_, _, rfl⟩
        rw [← HC.out]
        simp_all [allFrom]
      · go_roundw
        case rel =>
          refine ⟨rfl, pos + (Utf8.decode s pos).2, b, rfl, ?_, by omega⟩
          rw [← HC.out]
          simp_all [allFrom]
        case measure =>
          simp
          omega
    · have hnx : ∀ ty, (Instr.next (.pointer (some ⟨w.heap.size, 0, none⟩)) true ty).run Tryf.prog (w.iter s pos) = _ := fun ty => run_next_end w s pos ty hp
      go_wp2
      go_ret
      refine ⟨ret_bool ?_, _, rfl⟩
      rw [← HC.out, allFrom_end s b pos hp]

/-- A string that begins with a byte beyond ASCII. -/
theorem allFrom_high (s : ByteArray) (b pos : Nat) (h : pos < s.size) (hh : 128 ≤ (s[pos]'h).toNat) : allFrom s (b + 1) pos = false := by
  have hd := (decode_high s pos h hh).1
  simp [allFrom, h, name_low ((Utf8.decode s pos).1 : Int) (Or.inr (by omega))]
theorem allFrom_ascii (s : ByteArray) (b pos : Nat) (h : pos < s.size) (ha : (s[pos]'h).toNat < 128) : allFrom s (b + 1) pos = (nameB ((s[pos]'h).toNat : Int) && allFrom s b (pos + 1)) := by
  simp [allFrom, h, decode_ascii s pos h ha]

/-- What string(r) begins with. -/
theorem encode_low (r : Int) (h0 : 0 ≤ r) (h1 : r ≤ 127) : Utf8.encode r = ⟨#[UInt8.ofNat r.toNat]⟩ := by
  have hv : Utf8.valid r = true := by simp [Utf8.valid]; omega
  have hc : r.toNat < 128 := by omega
  simp [Utf8.encode, hv, hc]
theorem encode_high (r : Int) (h : r < 0 ∨ 127 < r) : ∃ hp : 0 < (Utf8.encode r).size, 128 ≤ ((Utf8.encode r)[0]'hp).toNat := by
  cases hv : Utf8.valid r with
  | false =>
    have e : Utf8.encode r = ⟨#[239, 191, 189]⟩ := by
      unfold Utf8.encode
      rw [hv]
      simp [Utf8.runeError]
    rw [e]
    exact ⟨by show 0 < 3; omega, by show 128 ≤ (239 : UInt8).toNat; decide⟩
  | true =>
    unfold Utf8.encode
    rw [hv]
    have hb : (0 ≤ r ∧ r ≤ 1114111) := by simp [Utf8.valid] at hv; omega
    have hc : ¬ r.toNat < 128 := by omega
    simp only [if_true, hc, if_false]
    split
    · refine ⟨by show 0 < 2; omega, ?_⟩
      show 128 ≤ (UInt8.ofNat (192 + r.toNat / 64)).toNat
      simp; omega
    · split
      · refine ⟨by show 0 < 3; omega, ?_⟩
        show 128 ≤ (UInt8.ofNat (224 + r.toNat / 4096)).toNat
        simp; omega
      · refine ⟨by show 0 < 4; omega, ?_⟩
        show 128 ≤ (UInt8.ofNat (240 + r.toNat / 262144)).toNat
        simp; omega
end Go.Proofs.Qxb6615565aFmt
