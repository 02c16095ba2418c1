/-
  Seat b6615565aF: the shelf's contract of utf8.DecodeRuneInString at this dump, in plain words (laid by the kit's lay-shelf and lay-plain).
-/
import Derived.Shelf.Unicode.DecodeAny
import Derived.Test.Qxb6615565aFmtProg
namespace Go.Proofs
open Go.Shelf
def Tryf.lays197_ren : Go.Shelf.Ren := ⟨fun | 197 => 20 | 260 => 25 | n => n, fun | 9 => 9 | 21 => 21 | 3 => 3 | 4 => 4 | 5 => 5 | 105 => 29 | 119 => 39 | 0 => 0 | 46 => 40 | 139 => 43 | 138 => 42 | n => n, fun | 3 => 0 | 4 => 1 | n => n⟩
theorem Tryf.lays197 : Go.Proofs.Lays.n197 Tryf.prog Tryf.lays197_ren := {
  mixed := by kernel_rfl
  f197 := Tryf.func20.trans (congrArg some (by kernel_rfl))
  f260 := Tryf.func25.trans (congrArg some (by kernel_rfl))
  t0 := Tryf.underlying0
  a0 := Tryf.isAgg0
  z0 := Tryf.sizeOf0
  v0 := Tryf.zeroValue0
  t3 := Tryf.underlying3
  a3 := Tryf.isAgg3
  z3 := Tryf.sizeOf3
  v3 := Tryf.zeroValue3
  t4 := Tryf.underlying4
  a4 := Tryf.isAgg4
  z4 := Tryf.sizeOf4
  v4 := Tryf.zeroValue4
  t5 := Tryf.underlying5
  a5 := Tryf.isAgg5
  z5 := Tryf.sizeOf5
  v5 := Tryf.zeroValue5
  t9 := Tryf.underlying9
  a9 := Tryf.isAgg9
  z9 := Tryf.sizeOf9
  v9 := Tryf.zeroValue9
  t21 := Tryf.underlying21
  a21 := Tryf.isAgg21
  z21 := Tryf.sizeOf21
  v21 := Tryf.zeroValue21
  t46 := Tryf.underlying40
  a46 := Tryf.isAgg40
  z46 := Tryf.sizeOf40
  v46 := Tryf.zeroValue40
  t105 := Tryf.underlying29
  a105 := Tryf.isAgg29
  z105 := Tryf.sizeOf29
  v105 := Tryf.zeroValue29
  t119 := Tryf.underlying39
  a119 := Tryf.isAgg39
  z119 := Tryf.sizeOf39
  t138 := Tryf.underlying42
  a138 := Tryf.isAgg42
  z138 := Tryf.sizeOf42
  v138 := Tryf.zeroValue42
  t139 := Tryf.underlying43
  a139 := Tryf.isAgg43
  z139 := Tryf.sizeOf43
  v139 := Tryf.zeroValue43
  g3 := by kernel_rfl
  g4 := by kernel_rfl }
open Go.RowKit Go.Lib in
/-- **unicode/utf8.DecodeRuneInString AT EVERY STRING.** (LAID: no walk: one application.) -/
theorem Tryf.utf8_DecodeRuneInString (s : ByteArray) (w : World) (hT : Lib.Utf8Tabs 0 1 w) :
    Calls Tryf.prog 20 #[.string s] w fun e w' => e = .returned (.tuple #[.int .i32 (Lib.decodeGo s).1, .int .i64 (Lib.decodeGo s).2]) ∧ Below w.heap.size w w' := Any.utf8_DecodeRuneInString Tryf.lays197 s w hT
end Go.Proofs
