/-
  Seat b6003984aF: contracts of the shelf at this dump, in plain words (laid by the kit: lay-shelf, lay-plain; Builder.WriteByte by hand).
-/
import Derived.Shelf.Strings.Builder1
import Derived.Shelf.Strings.OnBuilder
import Derived.Shelf.Small.Strs
import Derived.Test.Qxb6003984aFmtProg
namespace Go.Proofs
open Go.Shelf
def Tryf.lays169_ren : Go.Shelf.Ren := ⟨fun | 169 => 40 | n => n, fun | 70 => 71 | 9 => 9 | 0 => 0 | 72 => 73 | 37 => 40 | 127 => 86 | 3 => 3 | 5 => 5 | n => n, fun | n => n⟩
theorem Tryf.lays169 : Go.Proofs.Lays.n169 Tryf.prog Tryf.lays169_ren := {
  mixed := by kernel_rfl
  f169 := Tryf.func40.trans (congrArg some (by kernel_rfl))
  t0 := Tryf.underlying0
  a0 := Tryf.isAgg0
  z0 := Tryf.sizeOf0
  v0 := Tryf.zeroValue0
  t3 := Tryf.underlying3
  a3 := Tryf.isAgg3
  z3 := Tryf.sizeOf3
  v3 := Tryf.zeroValue3
  t9 := Tryf.underlying9
  a9 := Tryf.isAgg9
  z9 := Tryf.sizeOf9
  v9 := Tryf.zeroValue9
  t37 := Tryf.underlying40
  a37 := Tryf.isAgg40
  z37 := Tryf.sizeOf40
  v37 := Tryf.zeroValue40
  t70 := Tryf.underlying71
  a70 := Tryf.isAgg71
  z70 := Tryf.sizeOf71
  v70 := Tryf.zeroValue71
  t72 := Tryf.underlying73
  a72 := Tryf.isAgg73
  z72 := Tryf.sizeOf73
  v72 := Tryf.zeroValue73
  t127 := Tryf.underlying86
  a127 := Tryf.isAgg86
  z127 := Tryf.sizeOf86
  v127 := Tryf.zeroValue86 }
theorem Tryf.Builder_Extra_169 : Builder.Extra Tryf.prog Tryf.lays169_ren := {
  sizeBuilder := by kernel_rfl
  liesBuilder := by kernel_rfl
  t5 := Tryf.underlying5
  a5 := Tryf.isAgg5
  z5 := Tryf.sizeOf5
  v5 := Tryf.zeroValue5
  infoByte := by kernel_rfl
  cellsByte := by kernel_rfl
  sizeByte := by kernel_rfl
  neB5 := by decide }
open Go.RowKit in
/-- (*strings.Builder).String: "String returns the accumulated string.": WHATEVER THE BUILDER HOLDS. (LAID: no walk: one application.) -/
theorem Tryf.Builder_String_any (B b : Nat) (l : List UInt8) (w : World) (h : Lib.IsBuilder 73 5 B b (Lib.byteCells l) w) (hBw : B ≤ w.heap.size) :
    Calls Tryf.prog 40 #[.pointer (some ⟨b, 0, none⟩)] w fun e w' => e = .returned (.string ⟨l.toArray⟩) ∧ Below B w w' := Any.Builder_String_any Tryf.lays169 Tryf.Builder_Extra_169 B b l w h hBw
def Tryf.lays159_ren : Go.Shelf.Ren := ⟨fun | 159 => 27 | 165 => 37 | 166 => 38 | 167 => 39 | 169 => 40 | 230 => 41 | 204 => 42 | 240 => 46 | 241 => 47 | 197 => 48 | 118 => 49 | 168 => 50 | 270 => 51 | 262 => 52 | 276 => 59 | 277 => 60 | 260 => 61 | 242 => 62 | 313 => 63 | 278 => 68 | 274 => 69 | 275 => 70 | n => n, fun | 9 => 9 | 4 => 4 | 3 => 3 | 5 => 5 | 72 => 73 | 0 => 0 | 76 => 75 | 75 => 25 | 107 => 80 | 70 => 71 | 20 => 20 | 37 => 40 | 127 => 86 | 21 => 21 | 105 => 87 | 164 => 101 | 162 => 107 | 203 => 105 | 119 => 112 | 46 => 97 | 139 => 115 | 138 => 114 | 51 => 116 | 160 => 117 | 208 => 123 | 206 => 121 | 80 => 78 | n => n, fun | 13 => 0 | 3 => 4 | 4 => 5 | n => n⟩
theorem Tryf.lays159 : Go.Proofs.Lays.n159 Tryf.prog Tryf.lays159_ren := {
  mixed := by kernel_rfl
  f118 := Tryf.func49.trans (congrArg some (by kernel_rfl))
  f159 := Tryf.func27.trans (congrArg some (by kernel_rfl))
  f165 := Tryf.func37.trans (congrArg some (by kernel_rfl))
  f166 := Tryf.func38.trans (congrArg some (by kernel_rfl))
  f167 := Tryf.func39.trans (congrArg some (by kernel_rfl))
  f168 := Tryf.func50.trans (congrArg some (by kernel_rfl))
  f169 := Tryf.func40.trans (congrArg some (by kernel_rfl))
  f197 := Tryf.func48.trans (congrArg some (by kernel_rfl))
  f204 := Tryf.func42.trans (congrArg some (by kernel_rfl))
  f230 := Tryf.func41.trans (congrArg some (by kernel_rfl))
  f240 := Tryf.func46.trans (congrArg some (by kernel_rfl))
  f241 := Tryf.func47.trans (congrArg some (by kernel_rfl))
  f242 := Tryf.func62.trans (congrArg some (by kernel_rfl))
  f260 := Tryf.func61.trans (congrArg some (by kernel_rfl))
  f262 := Tryf.func52.trans (congrArg some (by kernel_rfl))
  f270 := Tryf.func51.trans (congrArg some (by kernel_rfl))
  f274 := Tryf.func69.trans (congrArg some (by kernel_rfl))
  f275 := Tryf.func70.trans (congrArg some (by kernel_rfl))
  f276 := Tryf.func59.trans (congrArg some (by kernel_rfl))
  f277 := Tryf.func60.trans (congrArg some (by kernel_rfl))
  f278 := Tryf.func68.trans (congrArg some (by kernel_rfl))
  f313 := Tryf.func63.trans (congrArg some (by kernel_rfl))
  t0 := Tryf.underlying0
  a0 := Tryf.isAgg0
  z0 := Tryf.sizeOf0
  v0 := Tryf.zeroValue0
  t3 := Tryf.underlying3
  a3 := Tryf.isAgg3
  z3 := Tryf.sizeOf3
  v3 := Tryf.zeroValue3
  t4 := Tryf.underlying4
  a4 := Tryf.isAgg4
  z4 := Tryf.sizeOf4
  v4 := Tryf.zeroValue4
  t5 := Tryf.underlying5
  a5 := Tryf.isAgg5
  z5 := Tryf.sizeOf5
  v5 := Tryf.zeroValue5
  t9 := Tryf.underlying9
  a9 := Tryf.isAgg9
  z9 := Tryf.sizeOf9
  v9 := Tryf.zeroValue9
  t20 := Tryf.underlying20
  a20 := Tryf.isAgg20
  z20 := Tryf.sizeOf20
  v20 := Tryf.zeroValue20
  t21 := Tryf.underlying21
  a21 := Tryf.isAgg21
  z21 := Tryf.sizeOf21
  v21 := Tryf.zeroValue21
  t37 := Tryf.underlying40
  a37 := Tryf.isAgg40
  z37 := Tryf.sizeOf40
  v37 := Tryf.zeroValue40
  t46 := Tryf.underlying97
  a46 := Tryf.isAgg97
  z46 := Tryf.sizeOf97
  v46 := Tryf.zeroValue97
  t51 := Tryf.underlying116
  a51 := Tryf.isAgg116
  z51 := Tryf.sizeOf116
  v51 := Tryf.zeroValue116
  t70 := Tryf.underlying71
  a70 := Tryf.isAgg71
  z70 := Tryf.sizeOf71
  v70 := Tryf.zeroValue71
  t72 := Tryf.underlying73
  a72 := Tryf.isAgg73
  z72 := Tryf.sizeOf73
  v72 := Tryf.zeroValue73
  t75 := Tryf.underlying25
  a75 := Tryf.isAgg25
  z75 := Tryf.sizeOf25
  v75 := Tryf.zeroValue25
  t76 := Tryf.underlying75
  a76 := Tryf.isAgg75
  z76 := Tryf.sizeOf75
  v76 := Tryf.zeroValue75
  t105 := Tryf.underlying87
  a105 := Tryf.isAgg87
  z105 := Tryf.sizeOf87
  v105 := Tryf.zeroValue87
  t107 := Tryf.underlying80
  a107 := Tryf.isAgg80
  z107 := Tryf.sizeOf80
  v107 := Tryf.zeroValue80
  t119 := Tryf.underlying112
  a119 := Tryf.isAgg112
  z119 := Tryf.sizeOf112
  t127 := Tryf.underlying86
  a127 := Tryf.isAgg86
  z127 := Tryf.sizeOf86
  v127 := Tryf.zeroValue86
  t138 := Tryf.underlying114
  a138 := Tryf.isAgg114
  z138 := Tryf.sizeOf114
  v138 := Tryf.zeroValue114
  t139 := Tryf.underlying115
  a139 := Tryf.isAgg115
  z139 := Tryf.sizeOf115
  v139 := Tryf.zeroValue115
  t160 := Tryf.underlying117
  a160 := Tryf.isAgg117
  z160 := Tryf.sizeOf117
  v160 := Tryf.zeroValue117
  t162 := Tryf.underlying107
  a162 := Tryf.isAgg107
  z162 := Tryf.sizeOf107
  v162 := Tryf.zeroValue107
  t164 := Tryf.underlying101
  a164 := Tryf.isAgg101
  z164 := Tryf.sizeOf101
  v164 := Tryf.zeroValue101
  t203 := Tryf.underlying105
  a203 := Tryf.isAgg105
  z203 := Tryf.sizeOf105
  v203 := Tryf.zeroValue105
  t206 := Tryf.underlying121
  a206 := Tryf.isAgg121
  z206 := Tryf.sizeOf121
  v206 := Tryf.zeroValue121
  t208 := Tryf.underlying123
  a208 := Tryf.isAgg123
  z208 := Tryf.sizeOf123
  v208 := Tryf.zeroValue123
  g3 := by kernel_rfl
  g4 := by kernel_rfl
  g13 := by kernel_rfl }
theorem Tryf.Builder_Extra_159 : Builder.Extra Tryf.prog Tryf.lays159_ren := {
  sizeBuilder := by kernel_rfl
  liesBuilder := by kernel_rfl
  t5 := Tryf.underlying5
  a5 := Tryf.isAgg5
  z5 := Tryf.sizeOf5
  v5 := Tryf.zeroValue5
  infoByte := by kernel_rfl
  cellsByte := by kernel_rfl
  sizeByte := by kernel_rfl
  neB5 := by decide }
open Go.RowKit in
/-- strings.ToLower: "ToLower returns s with all Unicode letters mapped to their lower case.": ON ASCII TEXT OF AT MOST 2^47 BYTES. Below the heap's end the world is as it was: where a letter turns, the call makes a builder and its buffer. (LAID: no walk: one application.) -/
theorem Tryf.strings_ToLower_ascii (s : ByteArray) (w : World) (hs : s.size ≤ 140737488355328) (hascii : ∀ (j : Nat) (b : UInt8), s.data.toList[j]? = some b → b.toNat < 128) :
    Calls Tryf.prog 27 #[.string s] w fun e w' => e = .returned (.string ⟨(Lib.toLowerA s.data.toList).toArray⟩) ∧ Below w.heap.size w w' := Any.strings_ToLower_ascii Tryf.lays159 Tryf.Builder_Extra_159 s w hs hascii
def Tryf.lays137_ren : Go.Shelf.Ren := ⟨fun | 137 => 34 | 217 => 45 | 266 => 58 | n => n, fun | 9 => 9 | 5 => 5 | 3 => 3 | n => n, fun | n => n⟩
theorem Tryf.lays137 : Go.Proofs.Lays.n137 Tryf.prog Tryf.lays137_ren := {
  mixed := by kernel_rfl
  f137 := Tryf.func34.trans (congrArg some (by kernel_rfl))
  f217 := Tryf.func45.trans (congrArg some (by kernel_rfl))
  f266 := Tryf.func58.trans (congrArg some (by kernel_rfl))
  t3 := Tryf.underlying3
  a3 := Tryf.isAgg3
  z3 := Tryf.sizeOf3
  v3 := Tryf.zeroValue3
  t5 := Tryf.underlying5
  a5 := Tryf.isAgg5
  z5 := Tryf.sizeOf5
  v5 := Tryf.zeroValue5
  t9 := Tryf.underlying9
  a9 := Tryf.isAgg9
  z9 := Tryf.sizeOf9
  v9 := Tryf.zeroValue9 }
open Go.RowKit in
/-- strings.IndexByte: "IndexByte returns the index of the first instance of c in s, or -1 if c is not present in s.": IT RETURNS 'Lib.indexByte s c'; the world is as it was. (LAID: no walk: one application.) -/
theorem Tryf.strings_IndexByte (s : ByteArray) (c : Int) (w : World) :
    Calls Tryf.prog 34 #[.string s, .int .u8 c] w fun e w' => e = .returned (.int .i64 (Lib.indexByte s.data.toList c.toNat.toUInt8)) ∧ w' = w := Any.strings_IndexByte Tryf.lays137 s c w
def Tryf.lays167_ren : Go.Shelf.Ren := ⟨fun | 167 => 39 | 240 => 46 | 276 => 59 | n => n, fun | 0 => 0 | 4 => 4 | 5 => 5 | 9 => 9 | 20 => 20 | 37 => 40 | 70 => 71 | 72 => 73 | 75 => 25 | 80 => 78 | 164 => 101 | n => n, fun | n => n⟩
theorem Tryf.lays167 : Go.Proofs.Lays.n167 Tryf.prog Tryf.lays167_ren := {
  mixed := by kernel_rfl
  f167 := Tryf.func39.trans (congrArg some (by kernel_rfl))
  f240 := Tryf.func46.trans (congrArg some (by kernel_rfl))
  f276 := Tryf.func59.trans (congrArg some (by kernel_rfl))
  t0 := Tryf.underlying0
  a0 := Tryf.isAgg0
  z0 := Tryf.sizeOf0
  v0 := Tryf.zeroValue0
  t4 := Tryf.underlying4
  a4 := Tryf.isAgg4
  z4 := Tryf.sizeOf4
  v4 := Tryf.zeroValue4
  t5 := Tryf.underlying5
  a5 := Tryf.isAgg5
  z5 := Tryf.sizeOf5
  v5 := Tryf.zeroValue5
  t9 := Tryf.underlying9
  a9 := Tryf.isAgg9
  z9 := Tryf.sizeOf9
  v9 := Tryf.zeroValue9
  t20 := Tryf.underlying20
  a20 := Tryf.isAgg20
  z20 := Tryf.sizeOf20
  v20 := Tryf.zeroValue20
  t37 := Tryf.underlying40
  a37 := Tryf.isAgg40
  z37 := Tryf.sizeOf40
  v37 := Tryf.zeroValue40
  t70 := Tryf.underlying71
  a70 := Tryf.isAgg71
  z70 := Tryf.sizeOf71
  v70 := Tryf.zeroValue71
  t72 := Tryf.underlying73
  a72 := Tryf.isAgg73
  z72 := Tryf.sizeOf73
  v72 := Tryf.zeroValue73
  t75 := Tryf.underlying25
  a75 := Tryf.isAgg25
  z75 := Tryf.sizeOf25
  v75 := Tryf.zeroValue25
  t164 := Tryf.underlying101
  a164 := Tryf.isAgg101
  z164 := Tryf.sizeOf101
  v164 := Tryf.zeroValue101 }
theorem Tryf.Builder_Extra_167 : Builder.Extra Tryf.prog Tryf.lays167_ren := {
  sizeBuilder := by kernel_rfl
  liesBuilder := by kernel_rfl
  t5 := Tryf.underlying5
  a5 := Tryf.isAgg5
  z5 := Tryf.sizeOf5
  v5 := Tryf.zeroValue5
  infoByte := by kernel_rfl
  cellsByte := by kernel_rfl
  sizeByte := by kernel_rfl
  neB5 := by decide }
open Go.RowKit in
theorem Tryf.Builder_WriteByte (B b : Nat) (bs : List Value) (c : Int) (w : World) (h : Lib.IsBuilder 73 5 B b bs w) (hlen : bs.length + 1 ≤ 140737488355328) (hBw : B ≤ w.heap.size) :
    Calls Tryf.prog 39 #[.pointer (some ⟨b, 0, none⟩), .int .u8 c] w fun e w' => e = .returned .nilIface ∧ (Lib.BuilderAt 73 5 B b (.pointer (some ⟨b, 0, none⟩)) (bs ++ [.int .u8 c]) w' ∧ Below B w w') := Any.Builder_WriteByte Tryf.lays167 Tryf.Builder_Extra_167 B b bs c w h hlen hBw
end Go.Proofs
