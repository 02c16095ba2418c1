/-
  DERIVED: THE SHELF's CONTRACTS AT THIS DUMP, IN PLAIN WORDS (tools/lay-plain.mjs out of 'TrydShelf.lean', which tools/lay-shelf.mjs wrote): THE SAME DECLARATIONS UNDER THE SAME NAMES: 'import', 'namespace', 'open', 'def', 'theorem' AND NOTHING ELSE: no command of the shelf's: FOR A HAND-IN. Each laying: the table of numbers ('.._ren') and one theorem, a field a fact of the dump's own or the kernel's comparison; each contract: ONE APPLICATION.
-/
import Derived.Shelf.Small.Strs
import Derived.Shelf.Strings.Prefix
import Derived.Shelf.Strings.Split
import Derived.Shelf.Strings.SlTrimAscii
import Derived.Test.Qxb6605488aDoorProg
namespace Go.Proofs
open Go.Shelf
def Tryd.lays160_ren : Go.Shelf.Ren := ⟨fun | 160 => 20 | 232 => 27 | 231 => 26 | 227 => 28 | 234 => 30 | 233 => 29 | 236 => 32 | 235 => 31 | 228 => 38 | 271 => 40 | 151 => 39 | 197 => 35 | 120 => 46 | 152 => 45 | 260 => 41 | 137 => 13 | 119 => 48 | 224 => 43 | 225 => 42 | 217 => 18 | 266 => 22 | n => n, fun | 9 => 9 | 4 => 4 | 3 => 3 | 5 => 5 | 117 => 41 | 116 => 40 | 0 => 0 | 124 => 44 | 21 => 21 | 105 => 46 | 46 => 51 | 119 => 53 | 139 => 56 | 138 => 55 | n => n, fun | 3 => 1 | 4 => 2 | n => n⟩
theorem Tryd.lays160 : Go.Proofs.Lays.n160 Tryd.prog Tryd.lays160_ren := {
  mixed := by kernel_rfl
  f119 := Tryd.func48.trans (congrArg some (by kernel_rfl))
  f120 := Tryd.func46.trans (congrArg some (by kernel_rfl))
  f137 := Tryd.func13.trans (congrArg some (by kernel_rfl))
  f151 := Tryd.func39.trans (congrArg some (by kernel_rfl))
  f152 := Tryd.func45.trans (congrArg some (by kernel_rfl))
  f160 := Tryd.func20.trans (congrArg some (by kernel_rfl))
  f197 := Tryd.func35.trans (congrArg some (by kernel_rfl))
  f217 := Tryd.func18.trans (congrArg some (by kernel_rfl))
  f224 := Tryd.func43.trans (congrArg some (by kernel_rfl))
  f225 := Tryd.func42.trans (congrArg some (by kernel_rfl))
  f227 := Tryd.func28.trans (congrArg some (by kernel_rfl))
  f228 := Tryd.func38.trans (congrArg some (by kernel_rfl))
  f231 := Tryd.func26.trans (congrArg some (by kernel_rfl))
  f232 := Tryd.func27.trans (congrArg some (by kernel_rfl))
  f233 := Tryd.func29.trans (congrArg some (by kernel_rfl))
  f234 := Tryd.func30.trans (congrArg some (by kernel_rfl))
  f235 := Tryd.func31.trans (congrArg some (by kernel_rfl))
  f236 := Tryd.func32.trans (congrArg some (by kernel_rfl))
  f260 := Tryd.func41.trans (congrArg some (by kernel_rfl))
  f266 := Tryd.func22.trans (congrArg some (by kernel_rfl))
  f271 := Tryd.func40.trans (congrArg some (by kernel_rfl))
  t0 := Tryd.underlying0
  a0 := Tryd.isAgg0
  z0 := Tryd.sizeOf0
  v0 := Tryd.zeroValue0
  t3 := Tryd.underlying3
  a3 := Tryd.isAgg3
  z3 := Tryd.sizeOf3
  v3 := Tryd.zeroValue3
  t4 := Tryd.underlying4
  a4 := Tryd.isAgg4
  z4 := Tryd.sizeOf4
  v4 := Tryd.zeroValue4
  t5 := Tryd.underlying5
  a5 := Tryd.isAgg5
  z5 := Tryd.sizeOf5
  v5 := Tryd.zeroValue5
  t9 := Tryd.underlying9
  a9 := Tryd.isAgg9
  z9 := Tryd.sizeOf9
  v9 := Tryd.zeroValue9
  t21 := Tryd.underlying21
  a21 := Tryd.isAgg21
  z21 := Tryd.sizeOf21
  v21 := Tryd.zeroValue21
  t46 := Tryd.underlying51
  a46 := Tryd.isAgg51
  z46 := Tryd.sizeOf51
  v46 := Tryd.zeroValue51
  t105 := Tryd.underlying46
  a105 := Tryd.isAgg46
  z105 := Tryd.sizeOf46
  v105 := Tryd.zeroValue46
  t116 := Tryd.underlying40
  a116 := Tryd.isAgg40
  z116 := Tryd.sizeOf40
  t117 := Tryd.underlying41
  a117 := Tryd.isAgg41
  z117 := Tryd.sizeOf41
  v117 := Tryd.zeroValue41
  t119 := Tryd.underlying53
  a119 := Tryd.isAgg53
  z119 := Tryd.sizeOf53
  t124 := Tryd.underlying44
  a124 := Tryd.isAgg44
  z124 := Tryd.sizeOf44
  v124 := Tryd.zeroValue44
  t138 := Tryd.underlying55
  a138 := Tryd.isAgg55
  z138 := Tryd.sizeOf55
  v138 := Tryd.zeroValue55
  t139 := Tryd.underlying56
  a139 := Tryd.isAgg56
  z139 := Tryd.sizeOf56
  v139 := Tryd.zeroValue56
  g3 := by kernel_rfl
  g4 := by kernel_rfl }
def Tryd.lays137_ren : Go.Shelf.Ren := ⟨fun | 137 => 13 | 217 => 18 | 266 => 22 | n => n, fun | 9 => 9 | 5 => 5 | 3 => 3 | n => n, fun | n => n⟩
theorem Tryd.lays137 : Go.Proofs.Lays.n137 Tryd.prog Tryd.lays137_ren := {
  mixed := by kernel_rfl
  f137 := Tryd.func13.trans (congrArg some (by kernel_rfl))
  f217 := Tryd.func18.trans (congrArg some (by kernel_rfl))
  f266 := Tryd.func22.trans (congrArg some (by kernel_rfl))
  t3 := Tryd.underlying3
  a3 := Tryd.isAgg3
  z3 := Tryd.sizeOf3
  v3 := Tryd.zeroValue3
  t5 := Tryd.underlying5
  a5 := Tryd.isAgg5
  z5 := Tryd.sizeOf5
  v5 := Tryd.zeroValue5
  t9 := Tryd.underlying9
  a9 := Tryd.isAgg9
  z9 := Tryd.sizeOf9
  v9 := Tryd.zeroValue9 }
open Go.RowKit in
/-- strings.IndexByte: "IndexByte returns the index of the first instance of c in s, or -1 if c is not present in s.": IT RETURNS 'Lib.indexByte s c'; the world is as it was. (LAID: no walk: one application.) -/
theorem Tryd.strings_IndexByte (s : ByteArray) (c : Int) (w : World) :
    Calls Tryd.prog 13 #[.string s, .int .u8 c] w fun e w' => e = .returned (.int .i64 (Lib.indexByte s.data.toList c.toNat.toUInt8)) ∧ w' = w := Any.strings_IndexByte Tryd.lays137 s c w
def Tryd.lays99_ren : Go.Shelf.Ren := ⟨fun | 99 => 12 | 206 => 17 | n => n, fun | 9 => 9 | 4 => 4 | 3 => 3 | n => n, fun | n => n⟩
theorem Tryd.lays99 : Go.Proofs.Lays.n99 Tryd.prog Tryd.lays99_ren := {
  mixed := by kernel_rfl
  f99 := Tryd.func12.trans (congrArg some (by kernel_rfl))
  f206 := Tryd.func17.trans (congrArg some (by kernel_rfl))
  t3 := Tryd.underlying3
  a3 := Tryd.isAgg3
  z3 := Tryd.sizeOf3
  v3 := Tryd.zeroValue3
  t4 := Tryd.underlying4
  a4 := Tryd.isAgg4
  z4 := Tryd.sizeOf4
  v4 := Tryd.zeroValue4
  t9 := Tryd.underlying9
  a9 := Tryd.isAgg9
  z9 := Tryd.sizeOf9
  v9 := Tryd.zeroValue9 }
open Go.RowKit Go.Lib in
/-- strings.HasPrefix: "HasPrefix reports whether the string s begins with prefix.": IT RETURNS 'Lib.hasPrefix s prefix'; the world is as it was. (LAID: no walk: one application.) -/
theorem Tryd.strings_HasPrefix (s p : ByteArray) (w : World) :
    Calls Tryd.prog 12 #[.string s, .string p] w fun e w' => e = .returned (.bool (Lib.hasPrefix s.data.toList p.data.toList)) ∧ w' = w := Any.strings_HasPrefix Tryd.lays99 s p w
def Tryd.lays102_ren : Go.Shelf.Ren := ⟨fun | 102 => 16 | 209 => 21 | 207 => 33 | n => n, fun | 9 => 9 | 4 => 4 | 3 => 3 | n => n, fun | n => n⟩
theorem Tryd.lays102 : Go.Proofs.Lays.n102 Tryd.prog Tryd.lays102_ren := {
  mixed := by kernel_rfl
  f102 := Tryd.func16.trans (congrArg some (by kernel_rfl))
  f207 := Tryd.func33.trans (congrArg some (by kernel_rfl))
  f209 := Tryd.func21.trans (congrArg some (by kernel_rfl))
  t3 := Tryd.underlying3
  a3 := Tryd.isAgg3
  z3 := Tryd.sizeOf3
  v3 := Tryd.zeroValue3
  t4 := Tryd.underlying4
  a4 := Tryd.isAgg4
  z4 := Tryd.sizeOf4
  v4 := Tryd.zeroValue4
  t9 := Tryd.underlying9
  a9 := Tryd.isAgg9
  z9 := Tryd.sizeOf9
  v9 := Tryd.zeroValue9 }
open Go.RowKit Go.Lib in
/-- strings.TrimSuffix: "TrimSuffix returns s without the provided trailing suffix string. If s doesn't end with suffix, s is returned unchanged.": IT RETURNS 'Lib.trimSuffix s suffix'; the world is as it was. (LAID: no walk: one application.) -/
theorem Tryd.strings_TrimSuffix (s p : ByteArray) (w : World) (hs : s.size ≤ 9223372036854775807) :
    Calls Tryd.prog 16 #[.string s, .string p] w fun e w' => e = .returned (.string ⟨(Lib.trimSuffix s.data.toList p.data.toList).toArray⟩) ∧ w' = w := Any.strings_TrimSuffix Tryd.lays102 s p w hs
def Tryd.lays146_ren : Go.Shelf.Ren := ⟨fun | 146 => 14 | 221 => 19 | 268 => 23 | 138 => 24 | 143 => 25 | 195 => 34 | 197 => 35 | 218 => 36 | 219 => 37 | 260 => 41 | 217 => 18 | 225 => 42 | 224 => 43 | 267 => 44 | 266 => 22 | 314 => 47 | n => n, fun | 9 => 9 | 31 => 31 | 3 => 3 | 4 => 4 | 0 => 0 | 105 => 46 | 21 => 21 | 5 => 5 | 46 => 51 | 119 => 53 | 139 => 56 | 138 => 55 | 146 => 58 | 51 => 57 | n => n, fun | 1 => 0 | 3 => 1 | 4 => 2 | n => n⟩
theorem Tryd.lays146 : Go.Proofs.Lays.n146 Tryd.prog Tryd.lays146_ren := {
  mixed := by kernel_rfl
  f138 := Tryd.func24.trans (congrArg some (by kernel_rfl))
  f143 := Tryd.func25.trans (congrArg some (by kernel_rfl))
  f146 := Tryd.func14.trans (congrArg some (by kernel_rfl))
  f195 := Tryd.func34.trans (congrArg some (by kernel_rfl))
  f197 := Tryd.func35.trans (congrArg some (by kernel_rfl))
  f217 := Tryd.func18.trans (congrArg some (by kernel_rfl))
  f218 := Tryd.func36.trans (congrArg some (by kernel_rfl))
  f219 := Tryd.func37.trans (congrArg some (by kernel_rfl))
  f221 := Tryd.func19.trans (congrArg some (by kernel_rfl))
  f224 := Tryd.func43.trans (congrArg some (by kernel_rfl))
  f225 := Tryd.func42.trans (congrArg some (by kernel_rfl))
  f260 := Tryd.func41.trans (congrArg some (by kernel_rfl))
  f266 := Tryd.func22.trans (congrArg some (by kernel_rfl))
  f267 := Tryd.func44.trans (congrArg some (by kernel_rfl))
  f268 := Tryd.func23.trans (congrArg some (by kernel_rfl))
  f314 := Tryd.func47.trans (congrArg some (by kernel_rfl))
  t0 := Tryd.underlying0
  a0 := Tryd.isAgg0
  z0 := Tryd.sizeOf0
  v0 := Tryd.zeroValue0
  t3 := Tryd.underlying3
  a3 := Tryd.isAgg3
  z3 := Tryd.sizeOf3
  v3 := Tryd.zeroValue3
  t4 := Tryd.underlying4
  a4 := Tryd.isAgg4
  z4 := Tryd.sizeOf4
  v4 := Tryd.zeroValue4
  t5 := Tryd.underlying5
  a5 := Tryd.isAgg5
  z5 := Tryd.sizeOf5
  v5 := Tryd.zeroValue5
  t9 := Tryd.underlying9
  a9 := Tryd.isAgg9
  z9 := Tryd.sizeOf9
  v9 := Tryd.zeroValue9
  t21 := Tryd.underlying21
  a21 := Tryd.isAgg21
  z21 := Tryd.sizeOf21
  v21 := Tryd.zeroValue21
  t31 := Tryd.underlying31
  a31 := Tryd.isAgg31
  z31 := Tryd.sizeOf31
  v31 := Tryd.zeroValue31
  t46 := Tryd.underlying51
  a46 := Tryd.isAgg51
  z46 := Tryd.sizeOf51
  v46 := Tryd.zeroValue51
  t51 := Tryd.underlying57
  a51 := Tryd.isAgg57
  z51 := Tryd.sizeOf57
  v51 := Tryd.zeroValue57
  t105 := Tryd.underlying46
  a105 := Tryd.isAgg46
  z105 := Tryd.sizeOf46
  v105 := Tryd.zeroValue46
  t119 := Tryd.underlying53
  a119 := Tryd.isAgg53
  z119 := Tryd.sizeOf53
  t138 := Tryd.underlying55
  a138 := Tryd.isAgg55
  z138 := Tryd.sizeOf55
  v138 := Tryd.zeroValue55
  t139 := Tryd.underlying56
  a139 := Tryd.isAgg56
  z139 := Tryd.sizeOf56
  v139 := Tryd.zeroValue56
  t146 := Tryd.underlying58
  a146 := Tryd.isAgg58
  z146 := Tryd.sizeOf58
  v146 := Tryd.zeroValue58
  g1 := by kernel_rfl
  g3 := by kernel_rfl
  g4 := by kernel_rfl }
open Go.RowKit Go.Lib in
/-- strings.Split. (LAID: no walk: one application.) -/
theorem Tryd.strings_Split (s sep : ByteArray) (m : Int) (w : World) (hs : s.size < 4294967281) (hm : w.cell? ⟨0, 0, none⟩ = some (.int .i64 m)) (h1 : 1 ≤ sep.size) :
    Calls Tryd.prog 14 #[.string s, .string sep] w fun e w' =>
      e = .returned (.slice (some ⟨w.heap.size, 0, none⟩) (Lib.countB s sep + 1) (Lib.countB s sep + 1)) ∧ w' = w.alloc (.cells ((Lib.splitB sep 0 (Lib.countB s sep) s).map Value.string).toArray 9) := Any.strings_Split Tryd.lays146 (by kernel_rfl) s sep m w hs hm h1
open Go.RowKit in
theorem Tryd.strings_Trim_ascii (s cutset : ByteArray) (w : World) (hs : s.size ≤ 9223372036854775807) (hcs : cutset.size < 4294967281) (hascii : ∀ (j : Nat) b, cutset.data.toList[j]? = some b → b.toNat < 128) :
    Calls Tryd.prog 20 #[.string s, .string cutset] w fun e w' => e = .returned (.string ⟨(Lib.trimS s.data.toList cutset.data.toList).toArray⟩) ∧ Below w.heap.size w w' := Any.strings_Trim_ascii Tryd.lays160 (fun w => by kernel_rfl) (by kernel_rfl) s cutset w hs hcs hascii
end Go.Proofs
