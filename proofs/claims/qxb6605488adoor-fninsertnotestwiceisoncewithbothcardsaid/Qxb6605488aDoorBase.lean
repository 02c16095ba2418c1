/-
  Seat b6605488aD: the small functions: zzHasPrefixAt, isBlank, zzCloneBytes, the bounds.
-/
import Derived.Test.Qxb6605488aDoorShelf
import Derived.Test.Qxb6605488aDoorPlain
import Derived.WalkKit
import Derived.WalkSpells
import Derived.BigCall
import Derived.BigQuiet
import Derived.Deep.QuietTactic
import Derived.Deep.RegionHeld3
import Derived.Laws.MakeOwn
import Derived.Lib.ConvBytes
import Derived.Laws.BytesArg
import Derived.Laws.IdiomStrings
set_option linter.unusedSimpArgs false
set_option linter.unusedVariables false
namespace Go.Proofs.Qxb6605488aDoor
open Go.RowKit

theorem ret_bool {a b : Bool} (h : a = b) : Ending.returned (.bool a) = .returned (.bool b) := by rw [h]
theorem len_eq (s : ByteArray) : s.data.toList.length = s.size := (Lib.size_eq s).symm
theorem str_at (s : ByteArray) (i : Nat) (h : i < s.size) : at0 s.data.toList i = s[i]'h := by
  have h' : i < s.data.size := h
  unfold at0
  rw [List.getD_eq_getElem?_getD, Array.getElem?_toList, Array.getElem?_eq_getElem h']
  rfl
theorem chain {w a b : World} (h1 : Below w.heap.size w a) (h2 : Below a.heap.size a b) : Below w.heap.size w b := h1.trans (h2.mono h1.size)
theorem below_draws {B : Nat} {a w : World} (h : Below B a w) (n : Nat) : Below B a (w.drewN n) := h.trans ⟨rfl, rfl, rfl, Nat.le_refl _, fun _ _ => rfl⟩

def hashes : ByteArray := ⟨#[35, 35, 32]⟩
set_option maxRecDepth 100000 in
set_option maxHeartbeats 800000 in
theorem pre_any (s : ByteArray) (i : Nat) (w : World) (hs : s.size ≤ 1073741824) (hi : i ≤ s.size) :
    Calls Tryd.prog 10 #[.string s, .int .i64 i, .string ⟨#[35, 35, 32]⟩] w fun e w' => e = .returned (.bool (preB s.data.toList i)) ∧ Below w.heap.size w w' := by
  have hl := len_eq s
  by_cases h3 : i + 3 ≤ s.size
  · obtain ⟨x, hx⟩ : ∃ x, s[i]'(by omega) = x := ⟨_, rfl⟩
    obtain ⟨y, hy⟩ : ∃ y, s[i + 1]'(by omega) = y := ⟨_, rfl⟩
    obtain ⟨z, hz⟩ : ∃ z, s[i + 2]'(by omega) = z := ⟨_, rfl⟩
    have HP : Hid (preB s.data.toList i = (decide (x = 35) && (decide (y = 35) && decide (z = 32)))) := by
      show _ = _
      unfold preB
      rw [str_at s i (by omega), str_at s (i + 1) (by omega), str_at s (i + 2) (by omega), hx, hy, hz]
      simp [show i + 3 ≤ s.size by omega]
    have n1 : decide ((i : Int) < 0) = false := by simp
    have n2' : decide (s.size < i) = false := by simp; omega
    have n2 : decide ((i : Int) > (s.size : Int)) = false := by simp; omega
    have n3 : decide ((s.size : Int) - (i : Int) < 3) = false := by simp; omega
    go_enter Tryd.func10, Tryd.ntmps10
    go_wp2
    go_loopw [7] (fun t wr => ∃ k : Nat, k ≤ 3 ∧ t = .int .i64 k ∧ (1 ≤ k → x = 35) ∧ (2 ≤ k → y = 35) ∧ (3 ≤ k → z = 32) ∧ Below w.heap.size w wr) (fun t _ => 3 - (intOf t).toNat)
    case atStart => exact ⟨0, by omega, rfl, by omega, by omega, by omega, Below.refl _ _⟩
    case round =>
      obtain ⟨k, hk, rfl, k1, k2, k3, hb⟩ := hrel
      have hkc : k = 0 ∨ k = 1 ∨ k = 2 ∨ k = 3 := by omega
      rcases hkc with rfl | rfl | rfl | rfl
      · clear k1 k2 k3
        by_cases hx35 : x = 35
        · subst hx35
          go_wp2
          go_quiet (fail)
          go_wp2
          go_roundw
          case rel => exact ⟨1, by omega, by go_num, by simp, by omega, by omega, below_draws hb nq⟩
          case measure => simp [intOf]
        · have e1 : ((x.toNat : Int) == 35) = false := by
            have : x.toNat ≠ 35 := fun e => hx35 (UInt8.toNat_inj.1 e)
            simp
            omega
          have e2 : ((x.toNat : Int) != 35) = true := by simp [bne, e1]
          have e3 : ((x.toNat : Int) != (((⟨#[35, 35, 32]⟩ : ByteArray)[0]'(by decide)).toNat : Int)) = true := e2
          have HF : Hid (preB s.data.toList i = false) := by show _ = _; rw [HP.out]; simp [hx35]
          clear HP
          go_wp2
          go_quiet (fail)
          go_wp2
          go_ret
          exact ⟨ret_bool (by rw [HF.out]), below_draws hb nq⟩
      · obtain rfl := k1 (by omega)
        clear k1 k2 k3
        have b1 : IntKind.i64.wrap ((i : Int) + 1) = (i : Int) + 1 := wrap_small _ (by omega) (by omega)
        have b2 : (i : Int) + 1 < (s.size : Int) := by omega
        have b3 : (0 : Int) ≤ (i : Int) + 1 := by omega
        have b4 : ((i : Int) + 1).toNat = i + 1 := by omega
        by_cases hx35 : y = 35
        · subst hx35
          go_wp2
          go_quiet (fail)
          go_wp2
          go_roundw
          case rel => exact ⟨2, by omega, by go_num, by simp, by simp, by omega, below_draws hb nq⟩
          case measure => simp [intOf]
        · have e1 : ((y.toNat : Int) == 35) = false := by
            have : y.toNat ≠ 35 := fun e => hx35 (UInt8.toNat_inj.1 e)
            simp
            omega
          have e2 : ((y.toNat : Int) != 35) = true := by simp [bne, e1]
          have e3 : ((y.toNat : Int) != (((⟨#[35, 35, 32]⟩ : ByteArray)[1]'(by decide)).toNat : Int)) = true := e2
          have HF : Hid (preB s.data.toList i = false) := by show _ = _; rw [HP.out]; simp [hx35]
          clear HP
          go_wp2
          go_quiet (fail)
          go_wp2
          go_ret
          exact ⟨ret_bool (by rw [HF.out]), below_draws hb nq⟩
      · obtain rfl := k1 (by omega)
        obtain rfl := k2 (by omega)
        clear k1 k2 k3
        have b1 : IntKind.i64.wrap ((i : Int) + 2) = (i : Int) + 2 := wrap_small _ (by omega) (by omega)
        have b2 : (i : Int) + 2 < (s.size : Int) := by omega
        have b3 : (0 : Int) ≤ (i : Int) + 2 := by omega
        have b4 : ((i : Int) + 2).toNat = i + 2 := by omega
        by_cases hx35 : z = 32
        · subst hx35
          go_wp2
          go_quiet (fail)
          go_wp2
          go_roundw
          case rel => exact ⟨3, by omega, by go_num, by simp, by simp, by simp, below_draws hb nq⟩
          case measure => simp [intOf]
        · have e1 : ((z.toNat : Int) == 32) = false := by
            have : z.toNat ≠ 32 := fun e => hx35 (UInt8.toNat_inj.1 e)
            simp
            omega
          have e2 : ((z.toNat : Int) != 32) = true := by simp [bne, e1]
          have e3 : ((z.toNat : Int) != (((⟨#[35, 35, 32]⟩ : ByteArray)[2]'(by decide)).toNat : Int)) = true := e2
          have HF : Hid (preB s.data.toList i = false) := by show _ = _; rw [HP.out]; simp [hx35]
          clear HP
          go_wp2
          go_quiet (fail)
          go_wp2
          go_ret
          exact ⟨ret_bool (by rw [HF.out]), below_draws hb nq⟩
      · have HF : Hid (preB s.data.toList i = true) := by show _ = _; rw [HP.out, k1 (by omega), k2 (by omega), k3 (by omega)]; rfl
        clear HP k1 k2 k3
        go_wp2
        go_ret
        exact ⟨ret_bool (by rw [HF.out]), hb⟩
  · have HP : Hid (preB s.data.toList i = false) := by
      show _ = _
      unfold preB
      simp only [decide_eq_false_iff_not]
      omega
    go_enter Tryd.func10, Tryd.ntmps10
    go_wp2
    go_ret
    exact ⟨ret_bool (by rw [HP.out]), Below.refl _ _⟩

theorem blank_in (c : UInt8) : ([32, 9] : List UInt8).contains c = blankC c := by
  simp [blankC, List.contains, List.elem]
  cases c == 32 <;> cases c == 9 <;> rfl
theorem dropWhile_nil (p : UInt8 → Bool) (l : List UInt8) : l.dropWhile p = [] ↔ l.all p = true := by
  induction l with
  | nil => simp
  | cons a t ih =>
    rw [List.dropWhile_cons]
    cases h : p a with
    | true => simp [h, ih]
    | false => simp [h]
theorem trim_all (l : List UInt8) : Lib.trimS l [32, 9] = [] ↔ l.all blankC = true := by
  have hp : (fun c => ([32, 9] : List UInt8).contains c) = blankC := funext blank_in
  unfold Lib.trimS Lib.trimLeftS Lib.trimRightS
  rw [dropWhile_nil]
  constructor
  · intro h
    rw [hp] at h
    simp only [List.all_reverse] at h
    have h2 : (l.reverse.dropWhile blankC).all blankC = true := h
    cases hd : l.reverse.dropWhile blankC with
    | nil =>
      have := (dropWhile_nil blankC l.reverse).1 hd
      simpa using this
    | cons a t =>
      rw [hd] at h2
      have ha : blankC a = false := by
        have := List.head?_dropWhile_not blankC l.reverse
        rw [hd] at this
        simpa using this
      simp [ha] at h2
  · intro h
    have : l.reverse.dropWhile (fun c => ([32, 9] : List UInt8).contains c) = [] := by
      rw [hp, dropWhile_nil]
      simpa using h
    rw [this]
    rfl
set_option maxRecDepth 100000 in
theorem blank_any (s : ByteArray) (w : World) (hs : s.size ≤ 1073741824) :
    Calls Tryd.prog 15 #[.string s] w fun e w' => e = .returned (.bool (s.data.toList.all blankC)) ∧ Below w.heap.size w w' := by
  have c := Tryd.strings_Trim_ascii s ⟨#[32, 9]⟩ w (by omega) (by decide) (by
    intro j b hb
    have := List.mem_of_getElem? hb
    simp at this
    rcases this with rfl | rfl <;> decide)
  obtain ⟨r, hr⟩ : ∃ r, (⟨(Lib.trimS s.data.toList [32, 9]).toArray⟩ : ByteArray) = r := ⟨_, rfl⟩
  have c' : Calls Tryd.prog 20 #[.string s, .string ⟨#[32, 9]⟩] w fun e w' => e = .returned (.string r) ∧ Below w.heap.size w w' := by rw [← hr]; exact c
  clear c
  have HB : Hid (r.toList.isEmpty = s.data.toList.all blankC) := by
    show _ = _
    rw [ByteArray.toList_eq, ← hr]
    have := trim_all s.data.toList
    cases h : s.data.toList.all blankC with
    | true => rw [this.2 h]; rfl
    | false =>
      have hne : Lib.trimS s.data.toList [32, 9] ≠ [] := fun e => by rw [this.1 e] at h; cases h
      simpa using hne
  clear hr
  go_enter Tryd.func15, Tryd.ntmps15
  go_wp2_with (go_at_call 20; refine c'.mono ?_; rintro e w1 ⟨rfl, hb1⟩)
  go_ret
  exact ⟨ret_bool HB.out, hb1⟩
end Go.Proofs.Qxb6605488aDoor
