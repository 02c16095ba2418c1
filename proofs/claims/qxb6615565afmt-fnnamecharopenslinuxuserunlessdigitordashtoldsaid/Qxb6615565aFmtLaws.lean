/-
  Seat b6615565aF: the two laws' walks, given what utf8.DecodeRuneInString gives.
-/
import Derived.Test.Qxb6615565aFmtCheck
import Derived.Laws.Cover4
namespace Go.Proofs.Qxb6615565aFmt
open Go.RowKit Go.Extern.Stop Go.Stop Go.Extern

theorem zzcheck_yes (s : ByteArray) (f k : Int) (w : World) (hs : s.size ≤ 32)
    (cD : Calls Tryf.prog 20 #[.string s] w fun e w' => e = .returned (.tuple #[.int .i32 f, .int .i64 k]) ∧ Below w.heap.size w w')
    (hok : (letterB f || f == 95) = true) (hall : allFrom s s.size 0 = true) :
    Calls Tryf.prog 9 #[.string s] w fun e w' => e = .returned .nilIface ∧ Below w.heap.size w w' := by
  have c := check_yes s f k w hs cD hok hall
  clear cD
  go_enter Tryf.func9, Tryf.ntmps9
  go_wp2_with fail
  refine c.mono ?_
  rintro e w1 ⟨rfl, hb⟩
  go_wp2
  go_ret
  exact ⟨rfl, hb⟩
theorem zzcheck_no (F : Interp) (s : ByteArray) (f k : Int) (w : World) (hF : F.answers w.tape) (hs : s.size ≤ 32)
    (cD : Calls Tryf.prog 20 #[.string s] w fun e w' => e = .returned (.tuple #[.int .i32 f, .int .i64 k]) ∧ Below w.heap.size w w')
    (hno : (letterB f || f == 95) = false ∨ allFrom s s.size 0 = false) :
    Calls Tryf.prog 9 #[.string s] w fun e w' => (∃ a, e = .returned (.iface 44 (.pointer (some a)))) ∧ Below w.heap.size w w' := by
  have c := check_no F s f k w hF hs cD hno
  clear cD
  go_enter Tryf.func9, Tryf.ntmps9
  go_wp2_with fail
  refine c.mono ?_
  rintro e w1 ⟨⟨a, rfl⟩, hb⟩
  go_wp2
  go_ret
  exact ⟨⟨_, rfl⟩, hb⟩

theorem low_toNat (r : Int) (h0 : 0 ≤ r) (h1 : r ≤ 127) : (((UInt8.ofNat r.toNat).toNat : Nat) : Int) = r := by
  simp
  omega

theorem getElem_at {s t : ByteArray} {i : Nat} (e : s = t) (h : i < s.size) (h' : i < t.size) : s[i]'h = t[i]'h' := by subst e; rfl

theorem all_tail (r : Int) (s : ByteArray) (hs : s = (⟨#[97]⟩ : ByteArray) ++ Utf8.encode r) : allFrom s s.size 0 = nameB r := by
  have hsz : s.size = 1 + (Utf8.encode r).size := by rw [hs, ByteArray.size_append]; rfl
  have h97 : nameB 97 = true := by decide
  have e0 : ∀ h : 0 < s.size, s[0]'h = 97 := by
    intro h
    rw [getElem_at hs h (by rw [← hs]; exact h), ByteArray.getElem_append_left (by show 0 < 1; omega)]
    rfl
  have e1 : ∀ (h : 1 < s.size) (h' : 0 < (Utf8.encode r).size), s[1]'h = (Utf8.encode r)[0]'h' := by
    intro h h'
    rw [getElem_at hs h (by rw [← hs]; exact h), ByteArray.getElem_append_right (by show 1 ≤ 1; omega)]
    rfl
  by_cases hr : 0 ≤ r ∧ r ≤ 127
  · have he := encode_low r hr.1 hr.2
    have hez : (Utf8.encode r).size = 1 := by rw [he]; rfl
    rw [hsz, hez, allFrom_ascii s 1 0 (by omega) (by rw [e0]; decide), allFrom_ascii s 0 1 (by omega) (by rw [e1 _ (by omega), getElem_at he _ (by show 0 < 1; omega)]; show (UInt8.ofNat r.toNat).toNat < 128; have := low_toNat r hr.1 hr.2; omega)]
    rw [e0, e1 _ (by omega), getElem_at he _ (by show 0 < 1; omega)]
    show (nameB 97 && (nameB ((UInt8.ofNat r.toNat).toNat : Int) && true)) = nameB r
    rw [low_toNat r hr.1 hr.2, h97]
    simp
  · obtain ⟨hp, hh⟩ := encode_high r (by omega)
    obtain ⟨m, hm⟩ : ∃ m, (Utf8.encode r).size = m + 1 := ⟨(Utf8.encode r).size - 1, by omega⟩
    rw [hsz, hm, show 1 + (m + 1) = (m + 1) + 1 from by omega, allFrom_ascii s (m + 1) 0 (by omega) (by rw [e0]; decide), allFrom_high s m 1 (by omega) (by rw [e1 _ hp]; exact hh), name_low r (by omega)]
    simp

theorem all_head (r : Int) (s : ByteArray) (hs : s = Utf8.encode r ++ (⟨#[97]⟩ : ByteArray)) : allFrom s s.size 0 = nameB r := by
  have hsz : s.size = (Utf8.encode r).size + 1 := by rw [hs, ByteArray.size_append]; rfl
  have h97 : nameB 97 = true := by decide
  have e0 : ∀ (h : 0 < s.size) (h' : 0 < (Utf8.encode r).size), s[0]'h = (Utf8.encode r)[0]'h' := by
    intro h h'
    rw [getElem_at hs h (by rw [← hs]; exact h), ByteArray.getElem_append_left h']
  by_cases hr : 0 ≤ r ∧ r ≤ 127
  · have he := encode_low r hr.1 hr.2
    have hez : (Utf8.encode r).size = 1 := by rw [he]; rfl
    have e1 : ∀ (h : 1 < s.size), s[1]'h = 97 := by
      intro h
      rw [getElem_at hs h (by rw [← hs]; exact h), ByteArray.getElem_append_right (by omega)]
      simp only [hez]
      rfl
    rw [hsz, hez, allFrom_ascii s 1 0 (by omega) (by rw [e0 _ (by omega), getElem_at he _ (by show 0 < 1; omega)]; show (UInt8.ofNat r.toNat).toNat < 128; have := low_toNat r hr.1 hr.2; omega), allFrom_ascii s 0 1 (by omega) (by rw [e1]; decide)]
    rw [e1, e0 _ (by omega), getElem_at he _ (by show 0 < 1; omega)]
    show (nameB ((UInt8.ofNat r.toNat).toNat : Int) && (nameB 97 && true)) = nameB r
    rw [low_toNat r hr.1 hr.2, h97]
    simp
  · obtain ⟨hp, hh⟩ := encode_high r (by omega)
    rw [hsz, allFrom_high s (Utf8.encode r).size 0 (by omega) (by rw [e0 _ hp]; exact hh), name_low r (by omega)]

/-- What utf8.DecodeRuneInString gives for r's bytes and an a behind them: r itself below 128, else something from 128 on. -/
theorem first_head (r : Int) (s : ByteArray) (hs : s = Utf8.encode r ++ (⟨#[97]⟩ : ByteArray)) :
    (0 ≤ r ∧ r ≤ 127 ∧ ((Utf8.decode s 0).1 : Int) = r) ∨ ((r < 0 ∨ 127 < r) ∧ 128 ≤ (Utf8.decode s 0).1) := by
  have hsz : s.size = (Utf8.encode r).size + 1 := by rw [hs, ByteArray.size_append]; rfl
  have e0 : ∀ (h : 0 < s.size) (h' : 0 < (Utf8.encode r).size), s[0]'h = (Utf8.encode r)[0]'h' := by
    intro h h'
    rw [getElem_at hs h (by rw [← hs]; exact h), ByteArray.getElem_append_left h']
  by_cases hr : 0 ≤ r ∧ r ≤ 127
  · have he := encode_low r hr.1 hr.2
    have hez : (Utf8.encode r).size = 1 := by rw [he]; rfl
    have h0 : (s[0]'(by omega)).toNat = (UInt8.ofNat r.toNat).toNat := by rw [e0 _ (by omega), getElem_at he _ (by show 0 < 1; omega)]; rfl
    have hl := low_toNat r hr.1 hr.2
    rw [decode_ascii s 0 (by omega) (by rw [h0]; omega), h0]
    exact Or.inl ⟨hr.1, hr.2, hl⟩
  · obtain ⟨hp, hh⟩ := encode_high r (by omega)
    exact Or.inr ⟨by omega, (decode_high s 0 (by omega) (by rw [e0 _ hp]; exact hh)).1⟩

set_option maxRecDepth 100000 in
set_option maxHeartbeats 800000 in
theorem tail_law (F : Interp) (r : Int) (w : World) (hF : F.answers w.tape) (h0 : -2147483648 ≤ r) (h1 : r ≤ 2147483647)
    (cD : Calls Tryf.prog 20 #[.string ((⟨#[97]⟩ : ByteArray) ++ Utf8.encode r)] w fun e w' => e = .returned (.tuple #[.int .i32 97, .int .i64 1]) ∧ Below w.heap.size w w') :
    Calls Tryf.prog 3 #[.int .i32 r] w fun e w' => e = .returned (.bool true) ∧ Below w.heap.size w w' := by
  have hsz : ((⟨#[97]⟩ : ByteArray) ++ Utf8.encode r).size ≤ 32 := by
    have := encode_size_le r
    rw [ByteArray.size_append]
    show 1 + _ ≤ 32
    omega
  have hall := all_tail r _ rfl
  have hes := encode_size_le r
  cases hn : nameB r with
  | true =>
    have c := zzcheck_yes _ 97 1 w hsz cD (by decide) (by rw [hall, hn])
    clear cD hall hsz
    go_enter Tryf.func3, Tryf.ntmps3
    go_wp2_with (first | (go_at_call 7; refine (zzrune_any _ _ h0 h1).mono ?_; rintro e w' ⟨rfl, rfl⟩) | (go_at_call 8; refine (zzname_any _ _).mono ?_; rintro e w' ⟨rfl, rfl⟩) | (go_at_call 9; refine c.mono ?_; rintro e w' ⟨rfl, hb⟩))
    go_ret
    exact ⟨rfl, hb⟩
  | false =>
    have c := zzcheck_no F _ 97 1 w hF hsz cD (Or.inr (by rw [hall, hn]))
    clear cD hall hsz
    go_enter Tryf.func3, Tryf.ntmps3
    go_wp2_with (first | (go_at_call 7; refine (zzrune_any _ _ h0 h1).mono ?_; rintro e w' ⟨rfl, rfl⟩) | (go_at_call 8; refine (zzname_any _ _).mono ?_; rintro e w' ⟨rfl, rfl⟩) | (go_at_call 9; refine c.mono ?_; rintro e w' ⟨⟨a, rfl⟩, hb⟩))
    go_ret
    exact ⟨rfl, hb⟩

set_option maxRecDepth 100000 in
set_option maxHeartbeats 1600000 in
theorem head_law (F : Interp) (r : Int) (w : World) (hF : F.answers w.tape) (h0 : -2147483648 ≤ r) (h1 : r ≤ 2147483647)
    (cD : Calls Tryf.prog 20 #[.string (Utf8.encode r ++ (⟨#[97]⟩ : ByteArray))] w fun e w' => e = .returned (.tuple #[.int .i32 ((Utf8.decode (Utf8.encode r ++ (⟨#[97]⟩ : ByteArray)) 0).1 : Int), .int .i64 ((Utf8.decode (Utf8.encode r ++ (⟨#[97]⟩ : ByteArray)) 0).2 : Int)]) ∧ Below w.heap.size w w') :
    Calls Tryf.prog 4 #[.int .i32 r] w fun e w' => e = .returned (.bool true) ∧ Below w.heap.size w w' := by
  have hsz : (Utf8.encode r ++ (⟨#[97]⟩ : ByteArray)).size ≤ 32 := by
    have := encode_size_le r
    rw [ByteArray.size_append]
    show _ + 1 ≤ 32
    omega
  have hall := all_head r _ rfl
  have hes := encode_size_le r
  have hfst := first_head r _ rfl
  generalize ((Utf8.decode (Utf8.encode r ++ (⟨#[97]⟩ : ByteArray)) 0).2 : Int) = k at cD
  generalize (Utf8.decode (Utf8.encode r ++ (⟨#[97]⟩ : ByteArray)) 0).1 = f at cD hfst
  have hok : ((letterB (f : Int) || (f : Int) == 95) && nameB r) = (nameB r && !digitB r && r != 45) := by
    rcases hfst with ⟨_, _, h⟩ | ⟨h, h'⟩
    · rw [h]
      unfold nameB letterB digitB
      rw [Bool.eq_iff_iff]
      simp
      omega
    · rw [name_low r h]
      simp
  cases hn : nameB r with
  | true =>
    cases hd : digitB r with
    | true =>
      have hno : (letterB (f : Int) || (f : Int) == 95) = false := by simpa [hn, hd] using hok
      have c := zzcheck_no F _ f k w hF hsz cD (Or.inl hno)
      have hd' : 48 ≤ r ∧ r ≤ 57 := by simpa [digitB] using hd
      obtain ⟨d1, d2⟩ := hd'
      clear cD hall hsz hok hno hfst
      go_enter Tryf.func4, Tryf.ntmps4
      go_wp2_with (first | (go_at_call 7; refine (zzrune_any _ _ h0 h1).mono ?_; rintro e w' ⟨rfl, rfl⟩) | (go_at_call 8; refine (zzname_any _ _).mono ?_; rintro e w' ⟨rfl, rfl⟩) | (go_at_call 9; refine c.mono ?_; rintro e w' ⟨⟨a, rfl⟩, hb⟩))
      go_ret
      exact ⟨rfl, hb⟩
    | false =>
      have hd' : ¬ (48 ≤ r ∧ r ≤ 57) := by simpa [digitB] using hd
      cases h45 : (r == 45) with
      | true =>
        have hno : (letterB (f : Int) || (f : Int) == 95) = false := by simpa [hn, hd, bne, h45] using hok
        have c := zzcheck_no F _ f k w hF hsz cD (Or.inl hno)
        have d1 : r < 48 := by have := eq_of_beq h45; omega
        clear cD hall hsz hok hno hfst hd'
        go_enter Tryf.func4, Tryf.ntmps4
        go_wp2_with (first | (go_at_call 7; refine (zzrune_any _ _ h0 h1).mono ?_; rintro e w' ⟨rfl, rfl⟩) | (go_at_call 8; refine (zzname_any _ _).mono ?_; rintro e w' ⟨rfl, rfl⟩) | (go_at_call 9; refine c.mono ?_; rintro e w' ⟨⟨a, rfl⟩, hb⟩))
        go_ret
        exact ⟨ret_bool (by simp [bne, h45]), hb⟩
      | false =>
        have hyes : (letterB (f : Int) || (f : Int) == 95) = true := by simpa [hn, hd, bne, h45] using hok
        have c := zzcheck_yes _ f k w hsz cD hyes (by rw [hall, hn])
        clear cD hall hsz hok hyes hfst
        by_cases d1 : 48 ≤ r
        · have d2 : 57 < r := by omega
          clear hd'
          go_enter Tryf.func4, Tryf.ntmps4
          go_wp2_with (first | (go_at_call 7; refine (zzrune_any _ _ h0 h1).mono ?_; rintro e w' ⟨rfl, rfl⟩) | (go_at_call 8; refine (zzname_any _ _).mono ?_; rintro e w' ⟨rfl, rfl⟩) | (go_at_call 9; refine c.mono ?_; rintro e w' ⟨rfl, hb⟩))
          go_ret
          exact ⟨ret_bool (by simp [bne, h45] <;> omega), hb⟩
        · clear hd'
          go_enter Tryf.func4, Tryf.ntmps4
          go_wp2_with (first | (go_at_call 7; refine (zzrune_any _ _ h0 h1).mono ?_; rintro e w' ⟨rfl, rfl⟩) | (go_at_call 8; refine (zzname_any _ _).mono ?_; rintro e w' ⟨rfl, rfl⟩) | (go_at_call 9; refine c.mono ?_; rintro e w' ⟨rfl, hb⟩))
          go_ret
          exact ⟨ret_bool (by simp [bne, h45]), hb⟩
  | false =>
    have c := zzcheck_no F _ f k w hF hsz cD (Or.inr (by rw [hall, hn]))
    clear cD hall hsz hok hfst
    go_enter Tryf.func4, Tryf.ntmps4
    go_wp2_with (first | (go_at_call 7; refine (zzrune_any _ _ h0 h1).mono ?_; rintro e w' ⟨rfl, rfl⟩) | (go_at_call 8; refine (zzname_any _ _).mono ?_; rintro e w' ⟨rfl, rfl⟩) | (go_at_call 9; refine c.mono ?_; rintro e w' ⟨⟨a, rfl⟩, hb⟩))
    go_ret
    exact ⟨rfl, hb⟩
end Go.Proofs.Qxb6615565aFmt
