/-
  Seat b6003899aD: what an append to a row of bytes of the call's own leaves.
-/
import Derived.Test.Qxb6003899aDoorSub
import Derived.Test.Qxb6003899aDoorUtf
import Derived.Laws.MakeOwn
namespace Go.Proofs.Qxb6003899aDoor
open Go.RowKit

theorem info5 : (Tryd.prog.info? 5).map (fun i => (i.zero, i.size, i.bytes)) = some (some (.int .u8 0), 1, 1) := by kernel_rfl

theorem own_form {w : World} {base n : Nat} {v : Value} {xs : List Value} (h : w.ownsRow base 5 1 v n xs) (hn : n ≠ 0) : ∃ g cap, v = .slice (some ⟨g, 0, none⟩) n cap := by
  rcases h.2 with ⟨_, h0⟩ | ⟨g, cap, cur, hv, _⟩
  · exact absurd h0 hn
  · exact ⟨g, cap, hv⟩

theorem push_rel {B : Nat} {w wr w2 : World} {v v' : Value} {o : Obj} {acc news : List UInt8} (hBw : B ≤ w.heap.size) (hb : Below B w wr) (hown : wr.ownsRow B 5 1 v acc.length (Lib.byteCells acc))
    (hown' : w2.ownsRow B 5 1 v' (acc.length + news.length) (Lib.byteCells acc ++ Lib.byteCells news)) (hgrow : (wr.alloc o).grownBy w2 v.ownBlock) (hne : news ≠ []) :
    w2.ownsRow B 5 1 v' (acc ++ news).length (Lib.byteCells (acc ++ news)) ∧ Below B w w2 ∧ ∃ g' cap', v' = .slice (some ⟨g', 0, none⟩) (acc ++ news).length cap' := by
  have e1 : (acc ++ news).length = acc.length + news.length := by simp
  have e2 : Lib.byteCells (acc ++ news) = Lib.byteCells acc ++ Lib.byteCells news := by simp [Lib.byteCells]
  have hnl : news.length ≠ 0 := by simpa using hne
  refine ⟨by rw [e1, e2]; exact hown', ?_, by rw [e1]; exact own_form hown' (by omega)⟩
  have hs := hb.size
  exact (hb.alloc (by omega) o).grown hgrow (by simp; omega) (fun k hk => (hown.lt k hk).1)

theorem one_cell (y : Int) : ∀ u ∈ [Value.int .u8 y], u.oneCell' = true := by intro u hu; simp at hu; subst hu; rfl
theorem cells_one (w : World) (y : Int) (T : TypeId) : ∀ j u, [Value.int .u8 y][j]? = some u → (w.alloc (.cells #[.int .u8 y] T)).cell? ((⟨w.heap.size, 0, none⟩ : Addr).add j) = some u := by
  intro j u hj
  match j, hj with
  | 0, hj => simp at hj; subst hj; simp [Addr.add]

theorem str_at (s : ByteArray) (i : Nat) (h : i < s.size) : s.data.toList.getD i 0 = s[i]'h := by
  have h' : i < s.data.size := h
  rw [List.getD_eq_getElem?_getD, Array.getElem?_toList, Array.getElem?_eq_getElem h']
  rfl
theorem hexAt_drop (l : List UInt8) (i : Nat) : hexAt (l.drop (i + 1)) = true ↔ (i + 2 < l.length ∧ hexB ((l.getD (i + 1) 0).toNat : Int) = true ∧ hexB ((l.getD (i + 2) 0).toNat : Int) = true) := by
  by_cases h : i + 2 < l.length
  · rw [drop_at l (i + 1) (by omega), drop_at l (i + 2) h]
    simp [hexAt, h]
  · simp only [h, false_and, iff_false]
    have hd : (l.drop (i + 1)).length ≤ 1 := by simp; omega
    match l.drop (i + 1), hd with
    | [], _ => simp [hexAt]
    | [_], _ => simp [hexAt]
theorem pairU_drop (l : List UInt8) (i : Nat) (h : i + 2 < l.length) : pairU (l.drop (i + 1)) = UInt8.ofNat (hexV ((l.getD (i + 1) 0).toNat : Int) * 16 + hexV ((l.getD (i + 2) 0).toNat : Int)).toNat := by
  rw [drop_at l (i + 1) (by omega), drop_at l (i + 2) h]
  rfl
theorem pair_toNat (a b : Int) (ha : 0 ≤ a ∧ a ≤ 15) (hb : 0 ≤ b ∧ b ≤ 15) : (((UInt8.ofNat (a * 16 + b).toNat).toNat : Nat) : Int) = a * 16 + b := by
  simp
  omega

theorem at_below {T e : TypeId} {B b : Nat} {p : Value} {bs : List Value} {W w' : World} (h : Lib.BuilderAt T e B b p bs W) (hb : Below W.heap.size W w') : Lib.BuilderAt T e B b p bs w' := by
  have hlt := h.lt
  obtain ⟨hB, v, hh, hown, hne⟩ := h
  refine ⟨hB, v, ?_, hown.kept (row := none) ⟨hb.os, hb.tape, hb.output, hb.size, fun k hk _ => hb.block k hk⟩ ?_, hne⟩
  · rw [hb.block b hlt]; exact hh
  · cases v.ownBlock <;> simp
theorem bld_below {T e : TypeId} {B b : Nat} {bs : List Value} {W w' : World} (h : Lib.IsBuilder T e B b bs W) (hb : Below W.heap.size W w') : Lib.IsBuilder T e B b bs w' :=
  h.elim (fun x => Or.inl (at_below x hb)) (fun x => Or.inr (at_below x hb))
theorem slice_step (g k n cap len : Nat) : Value.slice (if cap - k = n then some ⟨g, k, none⟩ else some ⟨g, k + n, none⟩) (len - k - n) (cap - k - n) = .slice (some ⟨g, if cap - k = n then k else k + n, none⟩) (len - (k + n)) (cap - (k + n)) := by
  rw [Nat.sub_sub, Nat.sub_sub]
  split <;> rfl
theorem emit_step (l : List UInt8) (j : Nat) (h : j < l.length) : (l.take (j + 1)).flatMap emitU = (l.take j).flatMap emitU ++ emitU (l.getD j 0) := by
  rw [List.take_succ_eq_append_getElem h, List.flatMap_append]
  simp [List.getD, h]
theorem emit_len (l : List UInt8) : (l.flatMap emitU).length ≤ 3 * l.length := by
  induction l with
  | nil => simp
  | cons c t ih =>
    have : (emitU c).length ≤ 3 := by unfold emitU; split <;> simp
    simp only [List.flatMap_cons, List.length_append, List.length_cons]
    omega
theorem hex_fin : ∀ n : Fin 16, (⟨#[48, 49, 50, 51, 52, 53, 54, 55, 56, 57, 65, 66, 67, 68, 69, 70]⟩ : ByteArray)[n.val]'(by have := n.isLt; show n.val < 16; omega) = hexD n.val := by decide +kernel
theorem hex_at (n : Nat) (h : n < (⟨#[48, 49, 50, 51, 52, 53, 54, 55, 56, 57, 65, 66, 67, 68, 69, 70]⟩ : ByteArray).size) : (⟨#[48, 49, 50, 51, 52, 53, 54, 55, 56, 57, 65, 66, 67, 68, 69, 70]⟩ : ByteArray)[n]'h = hexD n := hex_fin ⟨n, h⟩
theorem emit_safe (x : UInt8) (h : safeB (x.toNat : Int) = true) : Lib.byteCells (emitU x) = [Value.int .u8 (x.toNat : Int)] := by simp [emitU, h, Lib.byteCells]
theorem emit_not (x : UInt8) (h : safeB (x.toNat : Int) = false) : Lib.byteCells (emitU x) = [Value.int .u8 37] ++ ([Value.int .u8 ((hexD (x.toNat / 16)).toNat : Int)] ++ [Value.int .u8 ((hexD (x.toNat % 16)).toNat : Int)]) := by simp [emitU, h, Lib.byteCells]
/-- A slice's length. -/
def lenOf : Value → Nat | .slice _ n _ => n | _ => 0

theorem or_fin : ∀ (a b : Fin 16), bits BinOp.or IntKind.u8 ((a.val : Int) * 16) (b.val : Int) = (a.val : Int) * 16 + (b.val : Int) := by decide +kernel
theorem or_any (a b : Int) (ha : 0 ≤ a ∧ a ≤ 15) (hb : 0 ≤ b ∧ b ≤ 15) : bits BinOp.or IntKind.u8 (a * 16) b = a * 16 + b := by
  obtain ⟨n, rfl⟩ := Int.eq_ofNat_of_zero_le ha.1
  obtain ⟨m, rfl⟩ := Int.eq_ofNat_of_zero_le hb.1
  exact or_fin ⟨n, by omega⟩ ⟨m, by omega⟩

/-- One round of the decoding, said of what is left. -/
theorem dec_round_plus (l acc : List UInt8) (i f : Nat) (R : List UInt8) (hi : i < l.length) (hx : l.getD i 0 = 43) (h : acc ++ dec (f + 1) (l.drop i) = R) : (acc ++ [32]) ++ dec f (l.drop (i + 1)) = R := by
  rw [drop_at l i hi, dec_plus _ _ _ hx] at h
  rw [← h]; simp
theorem dec_round_pair (l acc : List UInt8) (i f : Nat) (R : List UInt8) (hi : i + 2 < l.length) (hx : l.getD i 0 = 37) (h1 : hexB ((l.getD (i + 1) 0).toNat : Int) = true) (h2 : hexB ((l.getD (i + 2) 0).toNat : Int) = true)
    (h : acc ++ dec (f + 1) (l.drop i) = R) : (acc ++ [UInt8.ofNat (hexV ((l.getD (i + 1) 0).toNat : Int) * 16 + hexV ((l.getD (i + 2) 0).toNat : Int)).toNat]) ++ dec f (l.drop (i + 3)) = R := by
  rw [drop_at l i (by omega), dec_pair _ _ _ hx ((hexAt_drop l i).2 ⟨hi, h1, h2⟩), pairU_drop l i hi] at h
  rw [← h, List.drop_drop]
  simp
theorem dec_round_other (l acc : List UInt8) (i f : Nat) (R : List UInt8) (hi : i < l.length) (hx : l.getD i 0 ≠ 43)
    (hno : ¬ (l.getD i 0 = 37 ∧ i + 2 < l.length ∧ hexB ((l.getD (i + 1) 0).toNat : Int) = true ∧ hexB ((l.getD (i + 2) 0).toNat : Int) = true))
    (h : acc ++ dec (f + 1) (l.drop i) = R) : (acc ++ [l.getD i 0]) ++ dec f (l.drop (i + 1)) = R := by
  rw [drop_at l i hi, dec_other _ _ _ hx (by rw [hexAt_drop]; exact hno)] at h
  rw [← h]; simp
end Go.Proofs.Qxb6003899aDoor
