/-
  DERIVED: THE SHELF's CONTRACTS AT THIS DUMP, IN PLAIN WORDS (tools/lay-plain.mjs out of 'TrydShelf.lean', which tools/lay-shelf.mjs wrote): THE SAME DECLARATIONS UNDER THE SAME NAMES: 'import', 'namespace', 'open', 'def', 'theorem' AND NOTHING ELSE: no command of the shelf's: FOR A HAND-IN. Each laying: the table of numbers ('.._ren') and one theorem, a field a fact of the dump's own or the kernel's comparison; each contract: ONE APPLICATION.
-/
import Derived.Shelf.Strings.Builder1
import Derived.Shelf.Strings.TrimSpace
import Derived.Shelf.Small.Utf8
import Derived.Shelf.Small.Strs
import Derived.Shelf.Strings.BuilderF
import Derived.Shelf.Strings.BuilderK
import Derived.Shelf.Utf8.AppendRune
import Derived.Shelf.Utf8.AppendRunePlain
import Derived.Shelf.Strings.Search1
import Derived.Shelf.GgClosure.StringsIndexFunc
import Derived.Shelf.GgClosure.StringsTrimFunc
import Derived.Shelf.GgClosure.StringsRunes
import Derived.Shelf.Strings.Prefix
import Derived.Shelf.Unicode.Latin
import Derived.Shelf.Unicode.DecodeSlow
import Derived.Shelf.Unicode.DecodeAny
import Derived.Shelf.Unicode.Is16White
import Derived.Shelf.Unicode.IsSpaceAny
import Derived.Shelf.Unicode.DecodeLast
import Derived.Shelf.Strings.TrimSpaceAny
import Derived.Shelf.Unicode.Is16WhiteD
import Derived.Shelf.Unicode.IsSpaceAnyD
import Derived.Shelf.Unicode.Is16Any
import Derived.Shelf.Unicode.Is32Any
import Derived.Shelf.Unicode.ExclAny
import Derived.Shelf.Strings.FuncGrows
import Derived.Shelf.Strings.BuilderCap
import Derived.Test.YthmanaiicekcgaaDoorProg
namespace Go.Proofs
open Go.Shelf
def Tryd.lays170_ren : Go.Shelf.Ren := ⟨fun | 170 => 34 | n => n, fun | 70 => 51 | 3 => 3 | 0 => 0 | 72 => 53 | 37 => 44 | 5 => 5 | n => n, fun | n => n⟩
theorem Tryd.lays170 : Go.Proofs.Lays.n170 Tryd.prog Tryd.lays170_ren := {
  mixed := by kernel_rfl
  f170 := Tryd.func34.trans (congrArg some (by kernel_rfl))
  t0 := Tryd.underlying0
  a0 := Tryd.isAgg0
  z0 := Tryd.sizeOf0
  v0 := Tryd.zeroValue0
  t3 := Tryd.underlying3
  a3 := Tryd.isAgg3
  z3 := Tryd.sizeOf3
  v3 := Tryd.zeroValue3
  t37 := Tryd.underlying44
  a37 := Tryd.isAgg44
  z37 := Tryd.sizeOf44
  v37 := Tryd.zeroValue44
  t70 := Tryd.underlying51
  a70 := Tryd.isAgg51
  z70 := Tryd.sizeOf51
  v70 := Tryd.zeroValue51
  t72 := Tryd.underlying53
  a72 := Tryd.isAgg53
  z72 := Tryd.sizeOf53
  v72 := Tryd.zeroValue53 }
open Go.RowKit in
def Tryd.lays169_ren : Go.Shelf.Ren := ⟨fun | 169 => 36 | n => n, fun | 70 => 51 | 9 => 9 | 0 => 0 | 72 => 53 | 37 => 44 | 127 => 75 | 3 => 3 | 5 => 5 | n => n, fun | n => n⟩
theorem Tryd.lays169 : Go.Proofs.Lays.n169 Tryd.prog Tryd.lays169_ren := {
  mixed := by kernel_rfl
  f169 := Tryd.func36.trans (congrArg some (by kernel_rfl))
  t0 := Tryd.underlying0
  a0 := Tryd.isAgg0
  z0 := Tryd.sizeOf0
  v0 := Tryd.zeroValue0
  t3 := Tryd.underlying3
  a3 := Tryd.isAgg3
  z3 := Tryd.sizeOf3
  v3 := Tryd.zeroValue3
  t9 := Tryd.underlying9
  a9 := Tryd.isAgg9
  z9 := Tryd.sizeOf9
  v9 := Tryd.zeroValue9
  t37 := Tryd.underlying44
  a37 := Tryd.isAgg44
  z37 := Tryd.sizeOf44
  v37 := Tryd.zeroValue44
  t70 := Tryd.underlying51
  a70 := Tryd.isAgg51
  z70 := Tryd.sizeOf51
  v70 := Tryd.zeroValue51
  t72 := Tryd.underlying53
  a72 := Tryd.isAgg53
  z72 := Tryd.sizeOf53
  v72 := Tryd.zeroValue53
  t127 := Tryd.underlying75
  a127 := Tryd.isAgg75
  z127 := Tryd.sizeOf75
  v127 := Tryd.zeroValue75 }
theorem Tryd.Builder_Extra_169 : Builder.Extra Tryd.prog Tryd.lays169_ren := {
  sizeBuilder := by kernel_rfl
  liesBuilder := by kernel_rfl
  t5 := Tryd.underlying5
  a5 := Tryd.isAgg5
  z5 := Tryd.sizeOf5
  v5 := Tryd.zeroValue5
  infoByte := by kernel_rfl
  cellsByte := by kernel_rfl
  sizeByte := by kernel_rfl
  neB5 := by decide }
open Go.RowKit in
def Tryd.lays163_ren : Go.Shelf.Ren := ⟨fun | 163 => 26 | 237 => 38 | 199 => 39 | 238 => 40 | 272 => 52 | 261 => 53 | 273 => 54 | 197 => 55 | 315 => 59 | 311 => 60 | 312 => 61 | 271 => 62 | 260 => 63 | 120 => 65 | n => n, fun | 9 => 9 | 37 => 44 | 3 => 3 | 0 => 0 | 5 => 5 | 4 => 4 | 40 => 58 | 119 => 59 | 21 => 21 | 51 => 76 | 141 => 78 | 105 => 80 | 196 => 92 | 193 => 89 | 198 => 95 | 49 => 93 | 194 => 90 | 201 => 98 | 226 => 102 | 46 => 86 | 227 => 103 | 139 => 106 | 138 => 105 | n => n, fun | 0 => 0 | 6 => 1 | 3 => 5 | 4 => 6 | n => n⟩
theorem Tryd.lays163 : Go.Proofs.Lays.n163 Tryd.prog Tryd.lays163_ren := {
  mixed := by kernel_rfl
  f120 := Tryd.func65.trans (congrArg some (by kernel_rfl))
  f163 := Tryd.func26.trans (congrArg some (by kernel_rfl))
  f197 := Tryd.func55.trans (congrArg some (by kernel_rfl))
  f199 := Tryd.func39.trans (congrArg some (by kernel_rfl))
  f237 := Tryd.func38.trans (congrArg some (by kernel_rfl))
  f238 := Tryd.func40.trans (congrArg some (by kernel_rfl))
  f260 := Tryd.func63.trans (congrArg some (by kernel_rfl))
  f261 := Tryd.func53.trans (congrArg some (by kernel_rfl))
  f271 := Tryd.func62.trans (congrArg some (by kernel_rfl))
  f272 := Tryd.func52.trans (congrArg some (by kernel_rfl))
  f273 := Tryd.func54.trans (congrArg some (by kernel_rfl))
  f311 := Tryd.func60.trans (congrArg some (by kernel_rfl))
  f312 := Tryd.func61.trans (congrArg some (by kernel_rfl))
  f315 := Tryd.func59.trans (congrArg some (by kernel_rfl))
  t0 := Tryd.underlying0
  a0 := Tryd.isAgg0
  z0 := Tryd.sizeOf0
  v0 := Tryd.zeroValue0
  t3 := Tryd.underlying3
  a3 := Tryd.isAgg3
  z3 := Tryd.sizeOf3
  v3 := Tryd.zeroValue3
  t4 := Tryd.underlying4
  a4 := Tryd.isAgg4
  z4 := Tryd.sizeOf4
  v4 := Tryd.zeroValue4
  t5 := Tryd.underlying5
  a5 := Tryd.isAgg5
  z5 := Tryd.sizeOf5
  v5 := Tryd.zeroValue5
  t9 := Tryd.underlying9
  a9 := Tryd.isAgg9
  z9 := Tryd.sizeOf9
  v9 := Tryd.zeroValue9
  t21 := Tryd.underlying21
  a21 := Tryd.isAgg21
  z21 := Tryd.sizeOf21
  v21 := Tryd.zeroValue21
  t37 := Tryd.underlying44
  a37 := Tryd.isAgg44
  z37 := Tryd.sizeOf44
  v37 := Tryd.zeroValue44
  t40 := Tryd.underlying58
  a40 := Tryd.isAgg58
  z40 := Tryd.sizeOf58
  v40 := Tryd.zeroValue58
  t46 := Tryd.underlying86
  a46 := Tryd.isAgg86
  z46 := Tryd.sizeOf86
  v46 := Tryd.zeroValue86
  t49 := Tryd.underlying93
  a49 := Tryd.isAgg93
  z49 := Tryd.sizeOf93
  v49 := Tryd.zeroValue93
  t51 := Tryd.underlying76
  a51 := Tryd.isAgg76
  z51 := Tryd.sizeOf76
  v51 := Tryd.zeroValue76
  t105 := Tryd.underlying80
  a105 := Tryd.isAgg80
  z105 := Tryd.sizeOf80
  v105 := Tryd.zeroValue80
  t119 := Tryd.underlying59
  a119 := Tryd.isAgg59
  z119 := Tryd.sizeOf59
  t138 := Tryd.underlying105
  a138 := Tryd.isAgg105
  z138 := Tryd.sizeOf105
  v138 := Tryd.zeroValue105
  t139 := Tryd.underlying106
  a139 := Tryd.isAgg106
  z139 := Tryd.sizeOf106
  v139 := Tryd.zeroValue106
  t141 := Tryd.underlying78
  a141 := Tryd.isAgg78
  z141 := Tryd.sizeOf78
  v141 := Tryd.zeroValue78
  t193 := Tryd.underlying89
  a193 := Tryd.isAgg89
  z193 := Tryd.sizeOf89
  v193 := Tryd.zeroValue89
  t194 := Tryd.underlying90
  a194 := Tryd.isAgg90
  z194 := Tryd.sizeOf90
  v194 := Tryd.zeroValue90
  t196 := Tryd.underlying92
  a196 := Tryd.isAgg92
  z196 := Tryd.sizeOf92
  v196 := Tryd.zeroValue92
  t198 := Tryd.underlying95
  a198 := Tryd.isAgg95
  z198 := Tryd.sizeOf95
  v198 := Tryd.zeroValue95
  t201 := Tryd.underlying98
  a201 := Tryd.isAgg98
  z201 := Tryd.sizeOf98
  v201 := Tryd.zeroValue98
  t226 := Tryd.underlying102
  a226 := Tryd.isAgg102
  z226 := Tryd.sizeOf102
  v226 := Tryd.zeroValue102
  t227 := Tryd.underlying103
  a227 := Tryd.isAgg103
  z227 := Tryd.sizeOf103
  v227 := Tryd.zeroValue103
  g0 := by kernel_rfl
  g3 := by kernel_rfl
  g4 := by kernel_rfl
  g6 := by kernel_rfl }
theorem Tryd.Space_Extra_163 : Space.Extra Tryd.prog Tryd.lays163_ren := {
  gNamed := by kernel_rfl }
open Go.RowKit in
theorem Tryd.strings_TrimSpace (s : ByteArray) (w : World) (hs : s.size ≤ 9223372036854775807) (hascii : ∀ (j : Nat) b, s.data.toList[j]? = some b → b.toNat < 128) (htab : Lib.TabIs Tryd.prog w "strings.asciiSpace" .u8 Lib.asciiSpaceTab) :
    Calls Tryd.prog 26 #[.string s] w fun e w' => e = .returned (.string ⟨(Lib.trimSpace s.data.toList).toArray⟩) ∧ w' = Lib.bytesWorld w 5 s := Any.strings_TrimSpace Tryd.lays163 Tryd.Space_Extra_163 s w hs hascii htab
def Tryd.lays137_ren : Go.Shelf.Ren := ⟨fun | 137 => 24 | 217 => 37 | 266 => 51 | n => n, fun | 9 => 9 | 5 => 5 | 3 => 3 | n => n, fun | n => n⟩
theorem Tryd.lays137 : Go.Proofs.Lays.n137 Tryd.prog Tryd.lays137_ren := {
  mixed := by kernel_rfl
  f137 := Tryd.func24.trans (congrArg some (by kernel_rfl))
  f217 := Tryd.func37.trans (congrArg some (by kernel_rfl))
  f266 := Tryd.func51.trans (congrArg some (by kernel_rfl))
  t3 := Tryd.underlying3
  a3 := Tryd.isAgg3
  z3 := Tryd.sizeOf3
  v3 := Tryd.zeroValue3
  t5 := Tryd.underlying5
  a5 := Tryd.isAgg5
  z5 := Tryd.sizeOf5
  v5 := Tryd.zeroValue5
  t9 := Tryd.underlying9
  a9 := Tryd.isAgg9
  z9 := Tryd.sizeOf9
  v9 := Tryd.zeroValue9 }
open Go.RowKit in
/-- strings.IndexByte: "IndexByte returns the index of the first instance of c in s, or -1 if c is not present in s.": IT RETURNS 'Lib.indexByte s c'; the world is as it was. (LAID: no walk: one application.) -/
theorem Tryd.strings_IndexByte (s : ByteArray) (c : Int) (w : World) :
    Calls Tryd.prog 24 #[.string s, .int .u8 c] w fun e w' => e = .returned (.int .i64 (Lib.indexByte s.data.toList c.toNat.toUInt8)) ∧ w' = w := Any.strings_IndexByte Tryd.lays137 s c w
open Go.RowKit in
/-- (*strings.Builder).Len: "Len returns the number of accumulated bytes; b.Len() == len(b.String()).": the world is as it was. (THE FORM '_f': 'Lib.IsBuilderF'.) (LAID: no walk: one application.) -/
theorem Tryd.Builder_Len_f (B b : Nat) (bs : List Value) (w : World) (h : Lib.IsBuilderF 53 5 B b bs w) :
    Calls Tryd.prog 34 #[.pointer (some ⟨b, 0, none⟩)] w fun e w' => e = .returned (.int .i64 bs.length) ∧ w' = w := Any.Builder_Len_f Tryd.lays170 B b bs w h
open Go.RowKit in
/-- (*strings.Builder).String: "String returns the accumulated string.": WHATEVER THE BUILDER HOLDS; THE FORM '_k': OVER 'Lib.IsBuilderF' (a builder that 'String()' may have read), AND WITH THE FRAME THAT REACHES ABOVE THE BUILDER: 'Lib.OthersKept': every block that is not b and is no row of uint8's stands as it stood: the iterator of a range among them. (LAID: no walk: one application.) -/
theorem Tryd.Builder_String_any_k (B b : Nat) (l : List UInt8) (w : World) (h : Lib.IsBuilderF 53 5 B b (Lib.byteCells l) w) (hBw : B ≤ w.heap.size) :
    Calls Tryd.prog 36 #[.pointer (some ⟨b, 0, none⟩)] w fun e w' => e = .returned (.string ⟨l.toArray⟩) ∧ (Lib.IsBuilderF 53 5 B b (Lib.byteCells l) w' ∧ Below B w w' ∧ Lib.OthersKept 5 (some b) w w') := Any.Builder_String_any_k Tryd.lays169 Tryd.Builder_Extra_169 B b l w h hBw
def Tryd.lays99_ren : Go.Shelf.Ren := ⟨fun | 99 => 27 | 206 => 41 | n => n, fun | 9 => 9 | 4 => 4 | 3 => 3 | n => n, fun | n => n⟩
theorem Tryd.lays99 : Go.Proofs.Lays.n99 Tryd.prog Tryd.lays99_ren := {
  mixed := by kernel_rfl
  f99 := Tryd.func27.trans (congrArg some (by kernel_rfl))
  f206 := Tryd.func41.trans (congrArg some (by kernel_rfl))
  t3 := Tryd.underlying3
  a3 := Tryd.isAgg3
  z3 := Tryd.sizeOf3
  v3 := Tryd.zeroValue3
  t4 := Tryd.underlying4
  a4 := Tryd.isAgg4
  z4 := Tryd.sizeOf4
  v4 := Tryd.zeroValue4
  t9 := Tryd.underlying9
  a9 := Tryd.isAgg9
  z9 := Tryd.sizeOf9
  v9 := Tryd.zeroValue9 }
open Go.RowKit Go.Lib in
/-- strings.HasPrefix: "HasPrefix reports whether the string s begins with prefix.": IT RETURNS 'Lib.hasPrefix s prefix'; the world is as it was. (LAID: no walk: one application.) -/
theorem Tryd.strings_HasPrefix (s p : ByteArray) (w : World) :
    Calls Tryd.prog 27 #[.string s, .string p] w fun e w' => e = .returned (.bool (Lib.hasPrefix s.data.toList p.data.toList)) ∧ w' = w := Any.strings_HasPrefix Tryd.lays99 s p w
end Go.Proofs
