/-
  DERIVED: THE SHELF's CONTRACTS AT THIS DUMP, IN PLAIN WORDS (tools/lay-plain.mjs out of 'TrydShelf.lean', which tools/lay-shelf.mjs wrote): THE SAME DECLARATIONS UNDER THE SAME NAMES: 'import', 'namespace', 'open', 'def', 'theorem' AND NOTHING ELSE: no command of the shelf's: FOR A HAND-IN. Each laying: the table of numbers ('.._ren') and one theorem, a field a fact of the dump's own or the kernel's comparison; each contract: ONE APPLICATION.
-/
import Derived.Shelf.Strings.Builder1
import Derived.Shelf.Strings.TrimSpace
import Derived.Shelf.Small.Utf8
import Derived.Shelf.Small.Strs
import Derived.Shelf.Strings.BuilderF
import Derived.Shelf.Strings.BuilderK
import Derived.Shelf.Utf8.AppendRune
import Derived.Shelf.Utf8.AppendRunePlain
import Derived.Shelf.Strings.Search1
import Derived.Shelf.GgClosure.StringsIndexFunc
import Derived.Shelf.GgClosure.StringsTrimFunc
import Derived.Shelf.GgClosure.StringsRunes
import Derived.Shelf.Strings.Prefix
import Derived.Shelf.Unicode.Latin
import Derived.Shelf.Unicode.Decode
import Derived.Shelf.Unicode.DecodeSlow
import Derived.Shelf.Unicode.DecodeAny
import Derived.Shelf.Unicode.Is16White
import Derived.Shelf.Unicode.IsSpaceAny
import Derived.Shelf.Unicode.DecodeLast
import Derived.Shelf.Strings.TrimSpaceAny
import Derived.Shelf.Unicode.Is16WhiteD
import Derived.Shelf.Unicode.IsSpaceAnyD
import Derived.Shelf.Unicode.Is16Any
import Derived.Shelf.Unicode.Is32Any
import Derived.Shelf.Unicode.ExclAny
import Derived.Shelf.Strings.FuncGrows
import Derived.Shelf.Strings.BuilderCap
import Derived.Test.YtecjgeaopgabiaaDoorProg
namespace Go.Proofs
open Go.Shelf
def Tryd.lays170_ren : Go.Shelf.Ren := ⟨fun | 170 => 35 | n => n, fun | 70 => 49 | 3 => 3 | 0 => 0 | 72 => 52 | 37 => 50 | 5 => 5 | n => n, fun | n => n⟩
theorem Tryd.lays170 : Go.Proofs.Lays.n170 Tryd.prog Tryd.lays170_ren := {
  mixed := by kernel_rfl
  f170 := Tryd.func35.trans (congrArg some (by kernel_rfl))
  t0 := Tryd.underlying0
  a0 := Tryd.isAgg0
  z0 := Tryd.sizeOf0
  v0 := Tryd.zeroValue0
  t3 := Tryd.underlying3
  a3 := Tryd.isAgg3
  z3 := Tryd.sizeOf3
  v3 := Tryd.zeroValue3
  t37 := Tryd.underlying50
  a37 := Tryd.isAgg50
  z37 := Tryd.sizeOf50
  v37 := Tryd.zeroValue50
  t70 := Tryd.underlying49
  a70 := Tryd.isAgg49
  z70 := Tryd.sizeOf49
  v70 := Tryd.zeroValue49
  t72 := Tryd.underlying52
  a72 := Tryd.isAgg52
  z72 := Tryd.sizeOf52
  v72 := Tryd.zeroValue52 }
open Go.RowKit in
/-- (*strings.Builder).Len: "Len returns the number of accumulated bytes; b.Len() == len(b.String()).": the world is as it was. (LAID: no walk: one application.) -/
theorem Tryd.Builder_Len (B b : Nat) (bs : List Value) (w : World) (h : Lib.IsBuilder 52 5 B b bs w) :
    Calls Tryd.prog 35 #[.pointer (some ⟨b, 0, none⟩)] w fun e w' => e = .returned (.int .i64 bs.length) ∧ w' = w := Any.Builder_Len Tryd.lays170 B b bs w h
def Tryd.lays169_ren : Go.Shelf.Ren := ⟨fun | 169 => 37 | n => n, fun | 70 => 49 | 9 => 9 | 0 => 0 | 72 => 52 | 37 => 50 | 127 => 64 | 3 => 3 | 5 => 5 | n => n, fun | n => n⟩
theorem Tryd.lays169 : Go.Proofs.Lays.n169 Tryd.prog Tryd.lays169_ren := {
  mixed := by kernel_rfl
  f169 := Tryd.func37.trans (congrArg some (by kernel_rfl))
  t0 := Tryd.underlying0
  a0 := Tryd.isAgg0
  z0 := Tryd.sizeOf0
  v0 := Tryd.zeroValue0
  t3 := Tryd.underlying3
  a3 := Tryd.isAgg3
  z3 := Tryd.sizeOf3
  v3 := Tryd.zeroValue3
  t9 := Tryd.underlying9
  a9 := Tryd.isAgg9
  z9 := Tryd.sizeOf9
  v9 := Tryd.zeroValue9
  t37 := Tryd.underlying50
  a37 := Tryd.isAgg50
  z37 := Tryd.sizeOf50
  v37 := Tryd.zeroValue50
  t70 := Tryd.underlying49
  a70 := Tryd.isAgg49
  z70 := Tryd.sizeOf49
  v70 := Tryd.zeroValue49
  t72 := Tryd.underlying52
  a72 := Tryd.isAgg52
  z72 := Tryd.sizeOf52
  v72 := Tryd.zeroValue52
  t127 := Tryd.underlying64
  a127 := Tryd.isAgg64
  z127 := Tryd.sizeOf64
  v127 := Tryd.zeroValue64 }
theorem Tryd.Builder_Extra_169 : Builder.Extra Tryd.prog Tryd.lays169_ren := {
  sizeBuilder := by kernel_rfl
  liesBuilder := by kernel_rfl
  t5 := Tryd.underlying5
  a5 := Tryd.isAgg5
  z5 := Tryd.sizeOf5
  v5 := Tryd.zeroValue5
  infoByte := by kernel_rfl
  cellsByte := by kernel_rfl
  sizeByte := by kernel_rfl
  neB5 := by decide }
open Go.RowKit in
/-- (*strings.Builder).String: "String returns the accumulated string.": OF A BUILDER THAT HOLDS AT LEAST ONE BYTE. ✋ THE MODEL FREEZES THOSE BYTES IN THE BUFFER (unsafe.String): a later write INTO them ends the model's run without an answer; a later append BEHIND them goes on. The statement's order of evaluation is drawn: one draw. (LAID: no walk: one application.) -/
theorem Tryd.Builder_String (B b : Nat) (l : List UInt8) (w : World) (h : Lib.IsBuilder 52 5 B b (Lib.byteCells l) w) (h0 : l ≠ []) :
    Calls Tryd.prog 37 #[.pointer (some ⟨b, 0, none⟩)] w fun e w' => e = .returned (.string ⟨l.toArray⟩) ∧ Below B w w' := Any.Builder_String Tryd.lays169 Tryd.Builder_Extra_169 B b l w h h0
open Go.RowKit in
/-- (*strings.Builder).String OF A BUILDER THAT HOLDS NO BYTE: the empty string. (Its buffer is nil, or a row of which it has taken nothing yet; where that row has NO capacity the model lays one new block for unsafe.SliceData's 'some address'.) One draw. (LAID: no walk: one application.) -/
theorem Tryd.Builder_String_empty (B b : Nat) (w : World) (h : Lib.IsBuilder 52 5 B b [] w) (hBw : B ≤ w.heap.size) :
    Calls Tryd.prog 37 #[.pointer (some ⟨b, 0, none⟩)] w fun e w' => e = .returned (.string ⟨#[]⟩) ∧ Below B w w' := Any.Builder_String_empty Tryd.lays169 Tryd.Builder_Extra_169 B b w h hBw
open Go.RowKit in
/-- (*strings.Builder).String: "String returns the accumulated string.": WHATEVER THE BUILDER HOLDS. (LAID: no walk: one application.) -/
theorem Tryd.Builder_String_any (B b : Nat) (l : List UInt8) (w : World) (h : Lib.IsBuilder 52 5 B b (Lib.byteCells l) w) (hBw : B ≤ w.heap.size) :
    Calls Tryd.prog 37 #[.pointer (some ⟨b, 0, none⟩)] w fun e w' => e = .returned (.string ⟨l.toArray⟩) ∧ Below B w w' := Any.Builder_String_any Tryd.lays169 Tryd.Builder_Extra_169 B b l w h hBw
def Tryd.lays163_ren : Go.Shelf.Ren := ⟨fun | 163 => 28 | 237 => 39 | 199 => 40 | 238 => 41 | 272 => 52 | 261 => 53 | 273 => 54 | 197 => 55 | 315 => 60 | 311 => 61 | 312 => 62 | 271 => 63 | 260 => 64 | 120 => 66 | n => n, fun | 9 => 9 | 37 => 50 | 3 => 3 | 0 => 0 | 5 => 5 | 4 => 4 | 40 => 56 | 119 => 57 | 21 => 21 | 51 => 65 | 141 => 67 | 105 => 69 | 196 => 76 | 193 => 73 | 198 => 79 | 49 => 77 | 194 => 74 | 201 => 82 | 226 => 86 | 46 => 87 | 227 => 88 | 139 => 91 | 138 => 90 | n => n, fun | 0 => 0 | 6 => 1 | 3 => 4 | 4 => 5 | n => n⟩
theorem Tryd.lays163 : Go.Proofs.Lays.n163 Tryd.prog Tryd.lays163_ren := {
  mixed := by kernel_rfl
  f120 := Tryd.func66.trans (congrArg some (by kernel_rfl))
  f163 := Tryd.func28.trans (congrArg some (by kernel_rfl))
  f197 := Tryd.func55.trans (congrArg some (by kernel_rfl))
  f199 := Tryd.func40.trans (congrArg some (by kernel_rfl))
  f237 := Tryd.func39.trans (congrArg some (by kernel_rfl))
  f238 := Tryd.func41.trans (congrArg some (by kernel_rfl))
  f260 := Tryd.func64.trans (congrArg some (by kernel_rfl))
  f261 := Tryd.func53.trans (congrArg some (by kernel_rfl))
  f271 := Tryd.func63.trans (congrArg some (by kernel_rfl))
  f272 := Tryd.func52.trans (congrArg some (by kernel_rfl))
  f273 := Tryd.func54.trans (congrArg some (by kernel_rfl))
  f311 := Tryd.func61.trans (congrArg some (by kernel_rfl))
  f312 := Tryd.func62.trans (congrArg some (by kernel_rfl))
  f315 := Tryd.func60.trans (congrArg some (by kernel_rfl))
  t0 := Tryd.underlying0
  a0 := Tryd.isAgg0
  z0 := Tryd.sizeOf0
  v0 := Tryd.zeroValue0
  t3 := Tryd.underlying3
  a3 := Tryd.isAgg3
  z3 := Tryd.sizeOf3
  v3 := Tryd.zeroValue3
  t4 := Tryd.underlying4
  a4 := Tryd.isAgg4
  z4 := Tryd.sizeOf4
  v4 := Tryd.zeroValue4
  t5 := Tryd.underlying5
  a5 := Tryd.isAgg5
  z5 := Tryd.sizeOf5
  v5 := Tryd.zeroValue5
  t9 := Tryd.underlying9
  a9 := Tryd.isAgg9
  z9 := Tryd.sizeOf9
  v9 := Tryd.zeroValue9
  t21 := Tryd.underlying21
  a21 := Tryd.isAgg21
  z21 := Tryd.sizeOf21
  v21 := Tryd.zeroValue21
  t37 := Tryd.underlying50
  a37 := Tryd.isAgg50
  z37 := Tryd.sizeOf50
  v37 := Tryd.zeroValue50
  t40 := Tryd.underlying56
  a40 := Tryd.isAgg56
  z40 := Tryd.sizeOf56
  v40 := Tryd.zeroValue56
  t46 := Tryd.underlying87
  a46 := Tryd.isAgg87
  z46 := Tryd.sizeOf87
  v46 := Tryd.zeroValue87
  t49 := Tryd.underlying77
  a49 := Tryd.isAgg77
  z49 := Tryd.sizeOf77
  v49 := Tryd.zeroValue77
  t51 := Tryd.underlying65
  a51 := Tryd.isAgg65
  z51 := Tryd.sizeOf65
  v51 := Tryd.zeroValue65
  t105 := Tryd.underlying69
  a105 := Tryd.isAgg69
  z105 := Tryd.sizeOf69
  v105 := Tryd.zeroValue69
  t119 := Tryd.underlying57
  a119 := Tryd.isAgg57
  z119 := Tryd.sizeOf57
  t138 := Tryd.underlying90
  a138 := Tryd.isAgg90
  z138 := Tryd.sizeOf90
  v138 := Tryd.zeroValue90
  t139 := Tryd.underlying91
  a139 := Tryd.isAgg91
  z139 := Tryd.sizeOf91
  v139 := Tryd.zeroValue91
  t141 := Tryd.underlying67
  a141 := Tryd.isAgg67
  z141 := Tryd.sizeOf67
  v141 := Tryd.zeroValue67
  t193 := Tryd.underlying73
  a193 := Tryd.isAgg73
  z193 := Tryd.sizeOf73
  v193 := Tryd.zeroValue73
  t194 := Tryd.underlying74
  a194 := Tryd.isAgg74
  z194 := Tryd.sizeOf74
  v194 := Tryd.zeroValue74
  t196 := Tryd.underlying76
  a196 := Tryd.isAgg76
  z196 := Tryd.sizeOf76
  v196 := Tryd.zeroValue76
  t198 := Tryd.underlying79
  a198 := Tryd.isAgg79
  z198 := Tryd.sizeOf79
  v198 := Tryd.zeroValue79
  t201 := Tryd.underlying82
  a201 := Tryd.isAgg82
  z201 := Tryd.sizeOf82
  v201 := Tryd.zeroValue82
  t226 := Tryd.underlying86
  a226 := Tryd.isAgg86
  z226 := Tryd.sizeOf86
  v226 := Tryd.zeroValue86
  t227 := Tryd.underlying88
  a227 := Tryd.isAgg88
  z227 := Tryd.sizeOf88
  v227 := Tryd.zeroValue88
  g0 := by kernel_rfl
  g3 := by kernel_rfl
  g4 := by kernel_rfl
  g6 := by kernel_rfl }
theorem Tryd.Space_Extra_163 : Space.Extra Tryd.prog Tryd.lays163_ren := {
  gNamed := by kernel_rfl }
open Go.RowKit in
theorem Tryd.strings_TrimSpace (s : ByteArray) (w : World) (hs : s.size ≤ 9223372036854775807) (hascii : ∀ (j : Nat) b, s.data.toList[j]? = some b → b.toNat < 128) (htab : Lib.TabIs Tryd.prog w "strings.asciiSpace" .u8 Lib.asciiSpaceTab) :
    Calls Tryd.prog 28 #[.string s] w fun e w' => e = .returned (.string ⟨(Lib.trimSpace s.data.toList).toArray⟩) ∧ w' = Lib.bytesWorld w 5 s := Any.strings_TrimSpace Tryd.lays163 Tryd.Space_Extra_163 s w hs hascii htab
def Tryd.lays119_ren : Go.Shelf.Ren := ⟨fun | 119 => 74 | n => n, fun | 21 => 21 | 4 => 4 | n => n, fun | n => n⟩
theorem Tryd.lays119 : Go.Proofs.Lays.n119 Tryd.prog Tryd.lays119_ren := {
  mixed := by kernel_rfl
  f119 := Tryd.func74.trans (congrArg some (by kernel_rfl))
  t4 := Tryd.underlying4
  a4 := Tryd.isAgg4
  z4 := Tryd.sizeOf4
  v4 := Tryd.zeroValue4
  t21 := Tryd.underlying21
  a21 := Tryd.isAgg21
  z21 := Tryd.sizeOf21
  v21 := Tryd.zeroValue21 }
/-- utf8.ValidRune: "ValidRune reports whether r can be legally encoded as UTF-8. Code points that are out of range or a surrogate half are illegal.": IT RETURNS 'Lib.validRune r'; the world is as it was. (LAID: no walk: one application.) -/
theorem Tryd.utf8_ValidRune (r : Int) (w : World) :
    Calls Tryd.prog 74 #[.int .i32 r] w fun e w' => e = .returned (.bool (Lib.validRune r)) ∧ w' = w := Any.utf8_ValidRune Tryd.lays119 r w
def Tryd.lays120_ren : Go.Shelf.Ren := ⟨fun | 120 => 66 | n => n, fun | 5 => 5 | 4 => 4 | n => n, fun | n => n⟩
theorem Tryd.lays120 : Go.Proofs.Lays.n120 Tryd.prog Tryd.lays120_ren := {
  mixed := by kernel_rfl
  f120 := Tryd.func66.trans (congrArg some (by kernel_rfl))
  t4 := Tryd.underlying4
  a4 := Tryd.isAgg4
  z4 := Tryd.sizeOf4
  v4 := Tryd.zeroValue4
  t5 := Tryd.underlying5
  a5 := Tryd.isAgg5
  z5 := Tryd.sizeOf5
  v5 := Tryd.zeroValue5 }
/-- utf8.RuneStart: "RuneStart reports whether the byte could be the first byte of an encoded, possibly invalid rune. Second and subsequent bytes always have the top two bits set to 10.": IT RETURNS 'Lib.runeStart b'; the world is as it was. ('h0', 'h1': b is a byte: a caller has it of every byte that it was handed.) (LAID: no walk: one application.) -/
theorem Tryd.utf8_RuneStart (b : Int) (w : World) (h0 : 0 ≤ b) (h1 : b < 256) :
    Calls Tryd.prog 66 #[.int .u8 b] w fun e w' => e = .returned (.bool (Lib.runeStart b)) ∧ w' = w := Any.utf8_RuneStart Tryd.lays120 b w h0 h1
def Tryd.lays137_ren : Go.Shelf.Ren := ⟨fun | 137 => 26 | 217 => 38 | 266 => 51 | n => n, fun | 9 => 9 | 5 => 5 | 3 => 3 | n => n, fun | n => n⟩
theorem Tryd.lays137 : Go.Proofs.Lays.n137 Tryd.prog Tryd.lays137_ren := {
  mixed := by kernel_rfl
  f137 := Tryd.func26.trans (congrArg some (by kernel_rfl))
  f217 := Tryd.func38.trans (congrArg some (by kernel_rfl))
  f266 := Tryd.func51.trans (congrArg some (by kernel_rfl))
  t3 := Tryd.underlying3
  a3 := Tryd.isAgg3
  z3 := Tryd.sizeOf3
  v3 := Tryd.zeroValue3
  t5 := Tryd.underlying5
  a5 := Tryd.isAgg5
  z5 := Tryd.sizeOf5
  v5 := Tryd.zeroValue5
  t9 := Tryd.underlying9
  a9 := Tryd.isAgg9
  z9 := Tryd.sizeOf9
  v9 := Tryd.zeroValue9 }
open Go.RowKit in
/-- strings.IndexByte: "IndexByte returns the index of the first instance of c in s, or -1 if c is not present in s.": IT RETURNS 'Lib.indexByte s c'; the world is as it was. (LAID: no walk: one application.) -/
theorem Tryd.strings_IndexByte (s : ByteArray) (c : Int) (w : World) :
    Calls Tryd.prog 26 #[.string s, .int .u8 c] w fun e w' => e = .returned (.int .i64 (Lib.indexByte s.data.toList c.toNat.toUInt8)) ∧ w' = w := Any.strings_IndexByte Tryd.lays137 s c w
open Go.RowKit in
/-- (*strings.Builder).Len: "Len returns the number of accumulated bytes; b.Len() == len(b.String()).": the world is as it was. (THE FORM '_f': 'Lib.IsBuilderF'.) (LAID: no walk: one application.) -/
theorem Tryd.Builder_Len_f (B b : Nat) (bs : List Value) (w : World) (h : Lib.IsBuilderF 52 5 B b bs w) :
    Calls Tryd.prog 35 #[.pointer (some ⟨b, 0, none⟩)] w fun e w' => e = .returned (.int .i64 bs.length) ∧ w' = w := Any.Builder_Len_f Tryd.lays170 B b bs w h
open Go.RowKit in
/-- (*strings.Builder).String: "String returns the accumulated string.": OF A BUILDER THAT HOLDS AT LEAST ONE BYTE. ✋ THE MODEL FREEZES THOSE BYTES IN THE BUFFER (unsafe.String): a later write INTO them ends the model's run without an answer; a later append BEHIND them goes on. The statement's order of evaluation is drawn: one draw. THE FORM '_f': IT SAYS BESIDES THAT THE BUILDER IS A BUILDER STILL ('Lib.IsBuilderF', the same bytes): SO IT CAN BE WRITTEN ON: 'b.WriteString(b.String()[:k])'. (LAID: no walk: one application.) -/
theorem Tryd.Builder_String_f (B b : Nat) (l : List UInt8) (w : World) (h : Lib.IsBuilderF 52 5 B b (Lib.byteCells l) w) (h0 : l ≠ []) :
    Calls Tryd.prog 37 #[.pointer (some ⟨b, 0, none⟩)] w fun e w' => e = .returned (.string ⟨l.toArray⟩) ∧ (Lib.IsBuilderF 52 5 B b (Lib.byteCells l) w' ∧ Below B w w') := Any.Builder_String_f Tryd.lays169 Tryd.Builder_Extra_169 B b l w h h0
open Go.RowKit in
/-- (*strings.Builder).String OF A BUILDER THAT HOLDS NO BYTE: the empty string; THE FORM '_f': a builder still. (LAID: no walk: one application.) -/
theorem Tryd.Builder_String_empty_f (B b : Nat) (w : World) (h : Lib.IsBuilderF 52 5 B b [] w) (hBw : B ≤ w.heap.size) :
    Calls Tryd.prog 37 #[.pointer (some ⟨b, 0, none⟩)] w fun e w' => e = .returned (.string ⟨#[]⟩) ∧ (Lib.IsBuilderF 52 5 B b [] w' ∧ Below B w w') := Any.Builder_String_empty_f Tryd.lays169 Tryd.Builder_Extra_169 B b w h hBw
open Go.RowKit in
/-- (*strings.Builder).String: "String returns the accumulated string.": WHATEVER THE BUILDER HOLDS; THE FORM '_f': OF A BUILDER THAT MAY HAVE BEEN READ BEFORE; AND IT IS A BUILDER STILL, holding the same bytes: it can be written on. (LAID: no walk: one application.) -/
theorem Tryd.Builder_String_any_f (B b : Nat) (l : List UInt8) (w : World) (h : Lib.IsBuilderF 52 5 B b (Lib.byteCells l) w) (hBw : B ≤ w.heap.size) :
    Calls Tryd.prog 37 #[.pointer (some ⟨b, 0, none⟩)] w fun e w' => e = .returned (.string ⟨l.toArray⟩) ∧ (Lib.IsBuilderF 52 5 B b (Lib.byteCells l) w' ∧ Below B w w') := Any.Builder_String_any_f Tryd.lays169 Tryd.Builder_Extra_169 B b l w h hBw
open Go.RowKit in
/-- (*strings.Builder).String: "String returns the accumulated string.": OF A BUILDER THAT HOLDS AT LEAST ONE BYTE. ✋ THE MODEL FREEZES THOSE BYTES IN THE BUFFER (unsafe.String): a later write INTO them ends the model's run without an answer; a later append BEHIND them goes on. The statement's order of evaluation is drawn: one draw. THE FORM '_k': OVER 'Lib.IsBuilderF' (a builder that 'String()' may have read), AND WITH THE FRAME THAT REACHES ABOVE THE BUILDER: 'Lib.OthersKept': every block that is not b and is no row of uint8's stands as it stood: the iterator of a range among them. (LAID: no walk: one application.) -/
theorem Tryd.Builder_String_k (B b : Nat) (l : List UInt8) (w : World) (h : Lib.IsBuilderF 52 5 B b (Lib.byteCells l) w) (h0 : l ≠ []) :
    Calls Tryd.prog 37 #[.pointer (some ⟨b, 0, none⟩)] w fun e w' => e = .returned (.string ⟨l.toArray⟩) ∧ (Lib.IsBuilderF 52 5 B b (Lib.byteCells l) w' ∧ Below B w w' ∧ Lib.OthersKept 5 (some b) w w') := Any.Builder_String_k Tryd.lays169 Tryd.Builder_Extra_169 B b l w h h0
open Go.RowKit in
/-- (*strings.Builder).String OF A BUILDER THAT HOLDS NO BYTE: the empty string; THE FORM '_k': OVER 'Lib.IsBuilderF' (a builder that 'String()' may have read), AND WITH THE FRAME THAT REACHES ABOVE THE BUILDER: 'Lib.OthersKept': every block that is not b and is no row of uint8's stands as it stood: the iterator of a range among them. (LAID: no walk: one application.) -/
theorem Tryd.Builder_String_empty_k (B b : Nat) (w : World) (h : Lib.IsBuilderF 52 5 B b [] w) (hBw : B ≤ w.heap.size) :
    Calls Tryd.prog 37 #[.pointer (some ⟨b, 0, none⟩)] w fun e w' => e = .returned (.string ⟨#[]⟩) ∧ (Lib.IsBuilderF 52 5 B b [] w' ∧ Below B w w' ∧ Lib.OthersKept 5 (some b) w w') := Any.Builder_String_empty_k Tryd.lays169 Tryd.Builder_Extra_169 B b w h hBw
open Go.RowKit in
/-- (*strings.Builder).String: "String returns the accumulated string.": WHATEVER THE BUILDER HOLDS; THE FORM '_k': OVER 'Lib.IsBuilderF' (a builder that 'String()' may have read), AND WITH THE FRAME THAT REACHES ABOVE THE BUILDER: 'Lib.OthersKept': every block that is not b and is no row of uint8's stands as it stood: the iterator of a range among them. (LAID: no walk: one application.) -/
theorem Tryd.Builder_String_any_k (B b : Nat) (l : List UInt8) (w : World) (h : Lib.IsBuilderF 52 5 B b (Lib.byteCells l) w) (hBw : B ≤ w.heap.size) :
    Calls Tryd.prog 37 #[.pointer (some ⟨b, 0, none⟩)] w fun e w' => e = .returned (.string ⟨l.toArray⟩) ∧ (Lib.IsBuilderF 52 5 B b (Lib.byteCells l) w' ∧ Below B w w' ∧ Lib.OthersKept 5 (some b) w w') := Any.Builder_String_any_k Tryd.lays169 Tryd.Builder_Extra_169 B b l w h hBw
def Tryd.lays278_ren : Go.Shelf.Ren := ⟨fun | 278 => 75 | n => n, fun | 37 => 50 | 21 => 21 | 51 => 65 | 4 => 4 | 46 => 87 | 5 => 5 | n => n, fun | n => n⟩
theorem Tryd.lays278 : Go.Proofs.Lays.n278 Tryd.prog Tryd.lays278_ren := {
  mixed := by kernel_rfl
  f278 := Tryd.func75.trans (congrArg some (by kernel_rfl))
  t4 := Tryd.underlying4
  a4 := Tryd.isAgg4
  z4 := Tryd.sizeOf4
  v4 := Tryd.zeroValue4
  t5 := Tryd.underlying5
  a5 := Tryd.isAgg5
  z5 := Tryd.sizeOf5
  v5 := Tryd.zeroValue5
  t21 := Tryd.underlying21
  a21 := Tryd.isAgg21
  z21 := Tryd.sizeOf21
  v21 := Tryd.zeroValue21
  t37 := Tryd.underlying50
  a37 := Tryd.isAgg50
  z37 := Tryd.sizeOf50
  v37 := Tryd.zeroValue50
  t46 := Tryd.underlying87
  a46 := Tryd.isAgg87
  z46 := Tryd.sizeOf87
  v46 := Tryd.zeroValue87
  t51 := Tryd.underlying65
  a51 := Tryd.isAgg65
  z51 := Tryd.sizeOf65
  v51 := Tryd.zeroValue65 }
open Go.RowKit in
/-- unicode/utf8.appendRuneNonASCII (what AppendRune calls for all but ASCII), ONTO A ROW OF BYTES THAT THE CALL OWNS: every int32 that is no ASCII rune: 'Lib.runeCells r' goes in behind what the row holds. (LAID: no walk: one application.) -/
theorem Tryd.utf8_appendRuneNonASCII_row (B : Nat) (v : Value) (n : Nat) (xs : List Value) (r : Int) (hr0 : -2147483648 ≤ r) (hr1 : r ≤ 2147483647) (hna : r < 0 ∨ 128 ≤ r) (w : World) (hown : w.ownsRowF B 5 1 v n xs) (hlen : n + 4 ≤ 140737488355328) (hBw : B ≤ w.heap.size) :
    Calls Tryd.prog 75 #[v, .int .i32 r] w fun e w' => ∃ v', e = .returned v' ∧ w'.ownsRowF B 5 1 v' (n + (Lib.runeCells r).length) (xs ++ Lib.runeCells r) ∧ ∃ o, (w.alloc o).grownBy w' v.ownBlock := Any.utf8_appendRuneNonASCII_row Tryd.lays278 (by kernel_rfl) B v n xs r hr0 hr1 hna w hown hlen hBw
def Tryd.lays242_ren : Go.Shelf.Ren := ⟨fun | 242 => 71 | 278 => 75 | n => n, fun | 37 => 50 | 21 => 21 | 51 => 65 | 4 => 4 | 5 => 5 | 46 => 87 | n => n, fun | n => n⟩
theorem Tryd.lays242 : Go.Proofs.Lays.n242 Tryd.prog Tryd.lays242_ren := {
  mixed := by kernel_rfl
  f242 := Tryd.func71.trans (congrArg some (by kernel_rfl))
  f278 := Tryd.func75.trans (congrArg some (by kernel_rfl))
  t4 := Tryd.underlying4
  a4 := Tryd.isAgg4
  z4 := Tryd.sizeOf4
  v4 := Tryd.zeroValue4
  t5 := Tryd.underlying5
  a5 := Tryd.isAgg5
  z5 := Tryd.sizeOf5
  v5 := Tryd.zeroValue5
  t21 := Tryd.underlying21
  a21 := Tryd.isAgg21
  z21 := Tryd.sizeOf21
  v21 := Tryd.zeroValue21
  t37 := Tryd.underlying50
  a37 := Tryd.isAgg50
  z37 := Tryd.sizeOf50
  v37 := Tryd.zeroValue50
  t46 := Tryd.underlying87
  a46 := Tryd.isAgg87
  z46 := Tryd.sizeOf87
  v46 := Tryd.zeroValue87
  t51 := Tryd.underlying65
  a51 := Tryd.isAgg65
  z51 := Tryd.sizeOf65
  v51 := Tryd.zeroValue65 }
open Go.RowKit in
/-- unicode/utf8.AppendRune: "AppendRune appends the UTF-8 encoding of r to the end of p and returns the extended buffer. If the rune is out of range, it appends the encoding of RuneError.": ONTO A ROW OF BYTES THAT THE CALL OWNS (its head frozen or not): EVERY int32: 'Lib.runeCells r' goes in behind what the row holds; the world: one new block (the bytes as the call's variadic argument), then what 'append' does to the row. (LAID: no walk: one application.) -/
theorem Tryd.utf8_AppendRune_row (B : Nat) (v : Value) (n : Nat) (xs : List Value) (r : Int) (hr0 : -2147483648 ≤ r) (hr1 : r ≤ 2147483647) (w : World) (hown : w.ownsRowF B 5 1 v n xs) (hlen : n + 4 ≤ 140737488355328) (hBw : B ≤ w.heap.size) :
    Calls Tryd.prog 71 #[v, .int .i32 r] w fun e w' => ∃ v', e = .returned v' ∧ w'.ownsRowF B 5 1 v' (n + (Lib.runeCells r).length) (xs ++ Lib.runeCells r) ∧ ∃ o, (w.alloc o).grownBy w' v.ownBlock := Any.utf8_AppendRune_row Tryd.lays242 (by kernel_rfl) B v n xs r hr0 hr1 w hown hlen hBw
open Go.RowKit in
/-- unicode/utf8.appendRuneNonASCII (what AppendRune calls for all but ASCII), ONTO A ROW OF BYTES THAT THE CALL OWNS: every int32 that is no ASCII rune: 'Lib.runeCells r' goes in behind what the row holds. (LAID: no walk: one application.) -/
theorem Tryd.utf8_appendRuneNonASCII_plain (B : Nat) (v : Value) (n : Nat) (xs : List Value) (r : Int) (hr0 : -2147483648 ≤ r) (hr1 : r ≤ 2147483647) (hna : r < 0 ∨ 128 ≤ r) (w : World) (hown : w.ownsRow B 5 1 v n xs) (hlen : n + 4 ≤ 140737488355328) (hBw : B ≤ w.heap.size) :
    Calls Tryd.prog 75 #[v, .int .i32 r] w fun e w' => ∃ v', e = .returned v' ∧ w'.ownsRow B 5 1 v' (n + (Lib.runeCells r).length) (xs ++ Lib.runeCells r) ∧ ∃ o, (w.alloc o).grownBy w' v.ownBlock := Any.utf8_appendRuneNonASCII_plain Tryd.lays278 (by kernel_rfl) B v n xs r hr0 hr1 hna w hown hlen hBw
open Go.RowKit in
/-- unicode/utf8.AppendRune: "AppendRune appends the UTF-8 encoding of r to the end of p and returns the extended buffer. If the rune is out of range, it appends the encoding of RuneError.": ONTO A ROW OF BYTES THAT THE CALL OWNS (its head frozen or not): EVERY int32: 'Lib.runeCells r' goes in behind what the row holds; the world: one new block (the bytes as the call's variadic argument), then what 'append' does to the row. (LAID: no walk: one application.) -/
theorem Tryd.utf8_AppendRune_plain (B : Nat) (v : Value) (n : Nat) (xs : List Value) (r : Int) (hr0 : -2147483648 ≤ r) (hr1 : r ≤ 2147483647) (w : World) (hown : w.ownsRow B 5 1 v n xs) (hlen : n + 4 ≤ 140737488355328) (hBw : B ≤ w.heap.size) :
    Calls Tryd.prog 71 #[v, .int .i32 r] w fun e w' => ∃ v', e = .returned v' ∧ w'.ownsRow B 5 1 v' (n + (Lib.runeCells r).length) (xs ++ Lib.runeCells r) ∧ ∃ o, (w.alloc o).grownBy w' v.ownBlock := Any.utf8_AppendRune_plain Tryd.lays242 (by kernel_rfl) B v n xs r hr0 hr1 w hown hlen hBw
def Tryd.lays217_ren : Go.Shelf.Ren := ⟨fun | 217 => 38 | 266 => 51 | n => n, fun | 9 => 9 | 5 => 5 | 3 => 3 | n => n, fun | n => n⟩
theorem Tryd.lays217 : Go.Proofs.Lays.n217 Tryd.prog Tryd.lays217_ren := {
  mixed := by kernel_rfl
  f217 := Tryd.func38.trans (congrArg some (by kernel_rfl))
  f266 := Tryd.func51.trans (congrArg some (by kernel_rfl))
  t3 := Tryd.underlying3
  a3 := Tryd.isAgg3
  z3 := Tryd.sizeOf3
  v3 := Tryd.zeroValue3
  t5 := Tryd.underlying5
  a5 := Tryd.isAgg5
  z5 := Tryd.sizeOf5
  v5 := Tryd.zeroValue5
  t9 := Tryd.underlying9
  a9 := Tryd.isAgg9
  z9 := Tryd.sizeOf9
  v9 := Tryd.zeroValue9 }
open Go.RowKit Go.Lib in
/-- internal/stringslite.IndexByte (what strings.IndexByte calls): IT RETURNS 'Lib.indexByte s c'; the world is as it was. (LAID: no walk: one application.) -/
theorem Tryd.stringslite_IndexByte (s : ByteArray) (c : Int) (w : World) :
    Calls Tryd.prog 38 #[.string s, .int .u8 c] w fun e w' => e = .returned (.int .i64 (Lib.indexByte s.data.toList c.toNat.toUInt8)) ∧ w' = w := Any.stringslite_IndexByte Tryd.lays217 s c w
def Tryd.lays315_ren : Go.Shelf.Ren := ⟨fun | 315 => 60 | n => n, fun | 9 => 9 | 40 => 56 | 4 => 4 | 3 => 3 | 0 => 0 | 21 => 21 | n => n, fun | n => n⟩
theorem Tryd.lays315 : Go.Proofs.Lays.n315 Tryd.prog Tryd.lays315_ren := {
  mixed := by kernel_rfl
  f315 := Tryd.func60.trans (congrArg some (by kernel_rfl))
  t0 := Tryd.underlying0
  a0 := Tryd.isAgg0
  z0 := Tryd.sizeOf0
  v0 := Tryd.zeroValue0
  t3 := Tryd.underlying3
  a3 := Tryd.isAgg3
  z3 := Tryd.sizeOf3
  v3 := Tryd.zeroValue3
  t4 := Tryd.underlying4
  a4 := Tryd.isAgg4
  z4 := Tryd.sizeOf4
  v4 := Tryd.zeroValue4
  t9 := Tryd.underlying9
  a9 := Tryd.isAgg9
  z9 := Tryd.sizeOf9
  v9 := Tryd.zeroValue9
  t21 := Tryd.underlying21
  a21 := Tryd.isAgg21
  z21 := Tryd.sizeOf21
  v21 := Tryd.zeroValue21
  t40 := Tryd.underlying56
  a40 := Tryd.isAgg56
  z40 := Tryd.sizeOf56
  v40 := Tryd.zeroValue56 }
open Go.RowKit Go.Lib in
theorem Tryd.strings_indexFunc (g : Nat) (lb : Array Value) (eg : ∀ args w, (callFunc g args).run Tryd.prog w = .ok (.enter g args) w) (p : Nat → Bool) (truth : Bool) (s : ByteArray) (w : World) (hp : PredAt Tryd.prog g lb encR p w) :
    Calls Tryd.prog 60 #[.string s, .func (.func g) #[] lb, .bool truth] w fun e w' => e = .returned (.int .i64 (Lib.idxFunc p truth s)) ∧ Below w.heap.size w w' := Any.strings_indexFunc Tryd.lays315 g lb eg p truth s w hp
def Tryd.lays273_ren : Go.Shelf.Ren := ⟨fun | 273 => 54 | 271 => 63 | 120 => 66 | 197 => 55 | 260 => 64 | n => n, fun | 9 => 9 | 40 => 56 | 4 => 4 | 3 => 3 | 105 => 69 | 21 => 21 | 5 => 5 | 119 => 57 | 0 => 0 | 46 => 87 | 139 => 91 | 138 => 90 | n => n, fun | 3 => 4 | 4 => 5 | n => n⟩
theorem Tryd.lays273 : Go.Proofs.Lays.n273 Tryd.prog Tryd.lays273_ren := {
  mixed := by kernel_rfl
  f120 := Tryd.func66.trans (congrArg some (by kernel_rfl))
  f197 := Tryd.func55.trans (congrArg some (by kernel_rfl))
  f260 := Tryd.func64.trans (congrArg some (by kernel_rfl))
  f271 := Tryd.func63.trans (congrArg some (by kernel_rfl))
  f273 := Tryd.func54.trans (congrArg some (by kernel_rfl))
  t0 := Tryd.underlying0
  a0 := Tryd.isAgg0
  z0 := Tryd.sizeOf0
  v0 := Tryd.zeroValue0
  t3 := Tryd.underlying3
  a3 := Tryd.isAgg3
  z3 := Tryd.sizeOf3
  v3 := Tryd.zeroValue3
  t4 := Tryd.underlying4
  a4 := Tryd.isAgg4
  z4 := Tryd.sizeOf4
  v4 := Tryd.zeroValue4
  t5 := Tryd.underlying5
  a5 := Tryd.isAgg5
  z5 := Tryd.sizeOf5
  v5 := Tryd.zeroValue5
  t9 := Tryd.underlying9
  a9 := Tryd.isAgg9
  z9 := Tryd.sizeOf9
  v9 := Tryd.zeroValue9
  t21 := Tryd.underlying21
  a21 := Tryd.isAgg21
  z21 := Tryd.sizeOf21
  v21 := Tryd.zeroValue21
  t40 := Tryd.underlying56
  a40 := Tryd.isAgg56
  z40 := Tryd.sizeOf56
  v40 := Tryd.zeroValue56
  t46 := Tryd.underlying87
  a46 := Tryd.isAgg87
  z46 := Tryd.sizeOf87
  v46 := Tryd.zeroValue87
  t105 := Tryd.underlying69
  a105 := Tryd.isAgg69
  z105 := Tryd.sizeOf69
  v105 := Tryd.zeroValue69
  t119 := Tryd.underlying57
  a119 := Tryd.isAgg57
  z119 := Tryd.sizeOf57
  t138 := Tryd.underlying90
  a138 := Tryd.isAgg90
  z138 := Tryd.sizeOf90
  v138 := Tryd.zeroValue90
  t139 := Tryd.underlying91
  a139 := Tryd.isAgg91
  z139 := Tryd.sizeOf91
  v139 := Tryd.zeroValue91
  g3 := by kernel_rfl
  g4 := by kernel_rfl }
open Go.RowKit Go.Lib in
theorem Tryd.strings_lastIndexFunc (g : Nat) (lb : Array Value) (eg : ∀ args w, (callFunc g args).run Tryd.prog w = .ok (.enter g args) w) (p : Nat → Bool) (truth : Bool) (s : ByteArray) (w : World) (hs : s.size ≤ 9223372036854775807) (hT : Lib.Utf8Tabs 4 5 w) (hp : PredAt Tryd.prog g lb encR p w) :
    Calls Tryd.prog 54 #[.string s, .func (.func g) #[] lb, .bool truth] w fun e w' => e = .returned (.int .i64 (Lib.lastIdxFunc p truth s)) ∧ Below w.heap.size w w' := Any.strings_lastIndexFunc Tryd.lays273 g lb eg p truth s w hs hT hp
def Tryd.lays272_ren : Go.Shelf.Ren := ⟨fun | 272 => 52 | 315 => 60 | n => n, fun | 9 => 9 | 40 => 56 | 4 => 4 | 3 => 3 | 0 => 0 | 21 => 21 | n => n, fun | n => n⟩
theorem Tryd.lays272 : Go.Proofs.Lays.n272 Tryd.prog Tryd.lays272_ren := {
  mixed := by kernel_rfl
  f272 := Tryd.func52.trans (congrArg some (by kernel_rfl))
  f315 := Tryd.func60.trans (congrArg some (by kernel_rfl))
  t0 := Tryd.underlying0
  a0 := Tryd.isAgg0
  z0 := Tryd.sizeOf0
  v0 := Tryd.zeroValue0
  t3 := Tryd.underlying3
  a3 := Tryd.isAgg3
  z3 := Tryd.sizeOf3
  v3 := Tryd.zeroValue3
  t4 := Tryd.underlying4
  a4 := Tryd.isAgg4
  z4 := Tryd.sizeOf4
  v4 := Tryd.zeroValue4
  t9 := Tryd.underlying9
  a9 := Tryd.isAgg9
  z9 := Tryd.sizeOf9
  v9 := Tryd.zeroValue9
  t21 := Tryd.underlying21
  a21 := Tryd.isAgg21
  z21 := Tryd.sizeOf21
  v21 := Tryd.zeroValue21
  t40 := Tryd.underlying56
  a40 := Tryd.isAgg56
  z40 := Tryd.sizeOf56
  v40 := Tryd.zeroValue56 }
open Go.RowKit Go.Lib in
theorem Tryd.strings_TrimLeftFunc (g : Nat) (lb : Array Value) (eg : ∀ args w, (callFunc g args).run Tryd.prog w = .ok (.enter g args) w) (p : Nat → Bool) (s : ByteArray) (w : World) (hp : PredAt Tryd.prog g lb encR p w) :
    Calls Tryd.prog 52 #[.string s, .func (.func g) #[] lb] w fun e w' => e = .returned (.string (Lib.trimLeftF p s)) ∧ Below w.heap.size w w' := Any.strings_TrimLeftFunc Tryd.lays272 g lb eg p s w hp
def Tryd.lays238_ren : Go.Shelf.Ren := ⟨fun | 238 => 41 | 273 => 54 | 197 => 55 | 271 => 63 | 260 => 64 | 120 => 66 | n => n, fun | 9 => 9 | 40 => 56 | 4 => 4 | 3 => 3 | 105 => 69 | 21 => 21 | 5 => 5 | 119 => 57 | 0 => 0 | 46 => 87 | 139 => 91 | 138 => 90 | n => n, fun | 3 => 4 | 4 => 5 | n => n⟩
theorem Tryd.lays238 : Go.Proofs.Lays.n238 Tryd.prog Tryd.lays238_ren := {
  mixed := by kernel_rfl
  f120 := Tryd.func66.trans (congrArg some (by kernel_rfl))
  f197 := Tryd.func55.trans (congrArg some (by kernel_rfl))
  f238 := Tryd.func41.trans (congrArg some (by kernel_rfl))
  f260 := Tryd.func64.trans (congrArg some (by kernel_rfl))
  f271 := Tryd.func63.trans (congrArg some (by kernel_rfl))
  f273 := Tryd.func54.trans (congrArg some (by kernel_rfl))
  t0 := Tryd.underlying0
  a0 := Tryd.isAgg0
  z0 := Tryd.sizeOf0
  v0 := Tryd.zeroValue0
  t3 := Tryd.underlying3
  a3 := Tryd.isAgg3
  z3 := Tryd.sizeOf3
  v3 := Tryd.zeroValue3
  t4 := Tryd.underlying4
  a4 := Tryd.isAgg4
  z4 := Tryd.sizeOf4
  v4 := Tryd.zeroValue4
  t5 := Tryd.underlying5
  a5 := Tryd.isAgg5
  z5 := Tryd.sizeOf5
  v5 := Tryd.zeroValue5
  t9 := Tryd.underlying9
  a9 := Tryd.isAgg9
  z9 := Tryd.sizeOf9
  v9 := Tryd.zeroValue9
  t21 := Tryd.underlying21
  a21 := Tryd.isAgg21
  z21 := Tryd.sizeOf21
  v21 := Tryd.zeroValue21
  t40 := Tryd.underlying56
  a40 := Tryd.isAgg56
  z40 := Tryd.sizeOf56
  v40 := Tryd.zeroValue56
  t46 := Tryd.underlying87
  a46 := Tryd.isAgg87
  z46 := Tryd.sizeOf87
  v46 := Tryd.zeroValue87
  t105 := Tryd.underlying69
  a105 := Tryd.isAgg69
  z105 := Tryd.sizeOf69
  v105 := Tryd.zeroValue69
  t119 := Tryd.underlying57
  a119 := Tryd.isAgg57
  z119 := Tryd.sizeOf57
  t138 := Tryd.underlying90
  a138 := Tryd.isAgg90
  z138 := Tryd.sizeOf90
  v138 := Tryd.zeroValue90
  t139 := Tryd.underlying91
  a139 := Tryd.isAgg91
  z139 := Tryd.sizeOf91
  v139 := Tryd.zeroValue91
  g3 := by kernel_rfl
  g4 := by kernel_rfl }
open Go.RowKit Go.Lib in
theorem Tryd.strings_TrimRightFunc (g : Nat) (lb : Array Value) (eg : ∀ args w, (callFunc g args).run Tryd.prog w = .ok (.enter g args) w) (p : Nat → Bool) (s : ByteArray) (w : World) (hs : s.size ≤ 9223372036854775807) (hT : Lib.Utf8Tabs 4 5 w) (hp : PredAt Tryd.prog g lb encR p w) :
    Calls Tryd.prog 41 #[.string s, .func (.func g) #[] lb] w fun e w' => e = .returned (.string (Lib.trimRightF p s)) ∧ Below w.heap.size w w' := Any.strings_TrimRightFunc Tryd.lays238 g lb eg p s w hs hT hp
def Tryd.lays237_ren : Go.Shelf.Ren := ⟨fun | 237 => 39 | 272 => 52 | 238 => 41 | 315 => 60 | 273 => 54 | 197 => 55 | 271 => 63 | 260 => 64 | 120 => 66 | n => n, fun | 9 => 9 | 40 => 56 | 4 => 4 | 3 => 3 | 105 => 69 | 21 => 21 | 0 => 0 | 5 => 5 | 119 => 57 | 46 => 87 | 139 => 91 | 138 => 90 | n => n, fun | 3 => 4 | 4 => 5 | n => n⟩
theorem Tryd.lays237 : Go.Proofs.Lays.n237 Tryd.prog Tryd.lays237_ren := {
  mixed := by kernel_rfl
  f120 := Tryd.func66.trans (congrArg some (by kernel_rfl))
  f197 := Tryd.func55.trans (congrArg some (by kernel_rfl))
  f237 := Tryd.func39.trans (congrArg some (by kernel_rfl))
  f238 := Tryd.func41.trans (congrArg some (by kernel_rfl))
  f260 := Tryd.func64.trans (congrArg some (by kernel_rfl))
  f271 := Tryd.func63.trans (congrArg some (by kernel_rfl))
  f272 := Tryd.func52.trans (congrArg some (by kernel_rfl))
  f273 := Tryd.func54.trans (congrArg some (by kernel_rfl))
  f315 := Tryd.func60.trans (congrArg some (by kernel_rfl))
  t0 := Tryd.underlying0
  a0 := Tryd.isAgg0
  z0 := Tryd.sizeOf0
  v0 := Tryd.zeroValue0
  t3 := Tryd.underlying3
  a3 := Tryd.isAgg3
  z3 := Tryd.sizeOf3
  v3 := Tryd.zeroValue3
  t4 := Tryd.underlying4
  a4 := Tryd.isAgg4
  z4 := Tryd.sizeOf4
  v4 := Tryd.zeroValue4
  t5 := Tryd.underlying5
  a5 := Tryd.isAgg5
  z5 := Tryd.sizeOf5
  v5 := Tryd.zeroValue5
  t9 := Tryd.underlying9
  a9 := Tryd.isAgg9
  z9 := Tryd.sizeOf9
  v9 := Tryd.zeroValue9
  t21 := Tryd.underlying21
  a21 := Tryd.isAgg21
  z21 := Tryd.sizeOf21
  v21 := Tryd.zeroValue21
  t40 := Tryd.underlying56
  a40 := Tryd.isAgg56
  z40 := Tryd.sizeOf56
  v40 := Tryd.zeroValue56
  t46 := Tryd.underlying87
  a46 := Tryd.isAgg87
  z46 := Tryd.sizeOf87
  v46 := Tryd.zeroValue87
  t105 := Tryd.underlying69
  a105 := Tryd.isAgg69
  z105 := Tryd.sizeOf69
  v105 := Tryd.zeroValue69
  t119 := Tryd.underlying57
  a119 := Tryd.isAgg57
  z119 := Tryd.sizeOf57
  t138 := Tryd.underlying90
  a138 := Tryd.isAgg90
  z138 := Tryd.sizeOf90
  v138 := Tryd.zeroValue90
  t139 := Tryd.underlying91
  a139 := Tryd.isAgg91
  z139 := Tryd.sizeOf91
  v139 := Tryd.zeroValue91
  g3 := by kernel_rfl
  g4 := by kernel_rfl }
open Go.RowKit Go.Lib in
/-- **strings.TrimFunc(s, f) AT EVERY STRING, AT WHATEVER FUNCTION VALUE.** (LAID: no walk: one application.) -/
theorem Tryd.strings_TrimFunc (g : Nat) (lb : Array Value) (eg : ∀ args w, (callFunc g args).run Tryd.prog w = .ok (.enter g args) w) (p : Nat → Bool) (s : ByteArray) (w : World) (hs : s.size ≤ 9223372036854775807) (hT : Lib.Utf8Tabs 4 5 w) (hp : PredAt Tryd.prog g lb encR p w) :
    Calls Tryd.prog 39 #[.string s, .func (.func g) #[] lb] w fun e w' => e = .returned (.string (Lib.trimF p s)) ∧ Below w.heap.size w w' := Any.strings_TrimFunc Tryd.lays237 g lb eg p s w hs hT hp
open Go.RowKit Go.Lib in
theorem Tryd.strings_indexFunc_runes (g : Nat) (lb : Array Value) (eg : ∀ args w, (callFunc g args).run Tryd.prog w = .ok (.enter g args) w) (p : Nat → Bool) (truth : Bool) (s : ByteArray) (w : World) (hp : PredAtRunes Tryd.prog g lb p w) :
    Calls Tryd.prog 60 #[.string s, .func (.func g) #[] lb, .bool truth] w fun e w' => e = .returned (.int .i64 (Lib.idxFunc p truth s)) ∧ Below w.heap.size w w' := Any.strings_indexFunc_runes Tryd.lays315 g lb eg p truth s w hp
open Go.RowKit Go.Lib in
theorem Tryd.strings_lastIndexFunc_runes (g : Nat) (lb : Array Value) (eg : ∀ args w, (callFunc g args).run Tryd.prog w = .ok (.enter g args) w) (p : Nat → Bool) (truth : Bool) (s : ByteArray) (w : World) (hs : s.size ≤ 9223372036854775807) (hT : Lib.Utf8Tabs 4 5 w) (hp : PredAtRunes Tryd.prog g lb p w) :
    Calls Tryd.prog 54 #[.string s, .func (.func g) #[] lb, .bool truth] w fun e w' => e = .returned (.int .i64 (Lib.lastIdxFunc p truth s)) ∧ Below w.heap.size w w' := Any.strings_lastIndexFunc_runes Tryd.lays273 g lb eg p truth s w hs hT hp
open Go.RowKit Go.Lib in
theorem Tryd.strings_TrimLeftFunc_runes (g : Nat) (lb : Array Value) (eg : ∀ args w, (callFunc g args).run Tryd.prog w = .ok (.enter g args) w) (p : Nat → Bool) (s : ByteArray) (w : World) (hp : PredAtRunes Tryd.prog g lb p w) :
    Calls Tryd.prog 52 #[.string s, .func (.func g) #[] lb] w fun e w' => e = .returned (.string (Lib.trimLeftF p s)) ∧ Below w.heap.size w w' := Any.strings_TrimLeftFunc_runes Tryd.lays272 g lb eg p s w hp
open Go.RowKit Go.Lib in
theorem Tryd.strings_TrimRightFunc_runes (g : Nat) (lb : Array Value) (eg : ∀ args w, (callFunc g args).run Tryd.prog w = .ok (.enter g args) w) (p : Nat → Bool) (s : ByteArray) (w : World) (hs : s.size ≤ 9223372036854775807) (hT : Lib.Utf8Tabs 4 5 w) (hp : PredAtRunes Tryd.prog g lb p w) :
    Calls Tryd.prog 41 #[.string s, .func (.func g) #[] lb] w fun e w' => e = .returned (.string (Lib.trimRightF p s)) ∧ Below w.heap.size w w' := Any.strings_TrimRightFunc_runes Tryd.lays238 g lb eg p s w hs hT hp
open Go.RowKit Go.Lib in
/-- **strings.TrimFunc(s, f) AT EVERY STRING, AT WHATEVER FUNCTION VALUE.** (LAID: no walk: one application.) -/
theorem Tryd.strings_TrimFunc_runes (g : Nat) (lb : Array Value) (eg : ∀ args w, (callFunc g args).run Tryd.prog w = .ok (.enter g args) w) (p : Nat → Bool) (s : ByteArray) (w : World) (hs : s.size ≤ 9223372036854775807) (hT : Lib.Utf8Tabs 4 5 w) (hp : PredAtRunes Tryd.prog g lb p w) :
    Calls Tryd.prog 39 #[.string s, .func (.func g) #[] lb] w fun e w' => e = .returned (.string (Lib.trimF p s)) ∧ Below w.heap.size w w' := Any.strings_TrimFunc_runes Tryd.lays237 g lb eg p s w hs hT hp
def Tryd.lays206_ren : Go.Shelf.Ren := ⟨fun | 206 => 42 | n => n, fun | 9 => 9 | 4 => 4 | 3 => 3 | n => n, fun | n => n⟩
theorem Tryd.lays206 : Go.Proofs.Lays.n206 Tryd.prog Tryd.lays206_ren := {
  mixed := by kernel_rfl
  f206 := Tryd.func42.trans (congrArg some (by kernel_rfl))
  t3 := Tryd.underlying3
  a3 := Tryd.isAgg3
  z3 := Tryd.sizeOf3
  v3 := Tryd.zeroValue3
  t4 := Tryd.underlying4
  a4 := Tryd.isAgg4
  z4 := Tryd.sizeOf4
  v4 := Tryd.zeroValue4
  t9 := Tryd.underlying9
  a9 := Tryd.isAgg9
  z9 := Tryd.sizeOf9
  v9 := Tryd.zeroValue9 }
open Go.RowKit Go.Lib in
/-- internal/stringslite.HasPrefix (what strings.HasPrefix calls). (LAID: no walk: one application.) -/
theorem Tryd.stringslite_HasPrefix (s p : ByteArray) (w : World) :
    Calls Tryd.prog 42 #[.string s, .string p] w fun e w' => e = .returned (.bool (Lib.hasPrefix s.data.toList p.data.toList)) ∧ w' = w := Any.stringslite_HasPrefix Tryd.lays206 s p w
def Tryd.lays99_ren : Go.Shelf.Ren := ⟨fun | 99 => 29 | 206 => 42 | n => n, fun | 9 => 9 | 4 => 4 | 3 => 3 | n => n, fun | n => n⟩
theorem Tryd.lays99 : Go.Proofs.Lays.n99 Tryd.prog Tryd.lays99_ren := {
  mixed := by kernel_rfl
  f99 := Tryd.func29.trans (congrArg some (by kernel_rfl))
  f206 := Tryd.func42.trans (congrArg some (by kernel_rfl))
  t3 := Tryd.underlying3
  a3 := Tryd.isAgg3
  z3 := Tryd.sizeOf3
  v3 := Tryd.zeroValue3
  t4 := Tryd.underlying4
  a4 := Tryd.isAgg4
  z4 := Tryd.sizeOf4
  v4 := Tryd.zeroValue4
  t9 := Tryd.underlying9
  a9 := Tryd.isAgg9
  z9 := Tryd.sizeOf9
  v9 := Tryd.zeroValue9 }
open Go.RowKit Go.Lib in
/-- strings.HasPrefix: "HasPrefix reports whether the string s begins with prefix.": IT RETURNS 'Lib.hasPrefix s prefix'; the world is as it was. (LAID: no walk: one application.) -/
theorem Tryd.strings_HasPrefix (s p : ByteArray) (w : World) :
    Calls Tryd.prog 29 #[.string s, .string p] w fun e w' => e = .returned (.bool (Lib.hasPrefix s.data.toList p.data.toList)) ∧ w' = w := Any.strings_HasPrefix Tryd.lays99 s p w
def Tryd.lays207_ren : Go.Shelf.Ren := ⟨fun | 207 => 43 | n => n, fun | 9 => 9 | 4 => 4 | 3 => 3 | n => n, fun | n => n⟩
theorem Tryd.lays207 : Go.Proofs.Lays.n207 Tryd.prog Tryd.lays207_ren := {
  mixed := by kernel_rfl
  f207 := Tryd.func43.trans (congrArg some (by kernel_rfl))
  t3 := Tryd.underlying3
  a3 := Tryd.isAgg3
  z3 := Tryd.sizeOf3
  v3 := Tryd.zeroValue3
  t4 := Tryd.underlying4
  a4 := Tryd.isAgg4
  z4 := Tryd.sizeOf4
  v4 := Tryd.zeroValue4
  t9 := Tryd.underlying9
  a9 := Tryd.isAgg9
  z9 := Tryd.sizeOf9
  v9 := Tryd.zeroValue9 }
open Go.RowKit Go.Lib in
/-- internal/stringslite.HasSuffix (what strings.HasSuffix calls). (LAID: no walk: one application.) -/
theorem Tryd.stringslite_HasSuffix (s p : ByteArray) (w : World) (hs : s.size ≤ 9223372036854775807) :
    Calls Tryd.prog 43 #[.string s, .string p] w fun e w' => e = .returned (.bool (Lib.hasSuffix s.data.toList p.data.toList)) ∧ w' = w := Any.stringslite_HasSuffix Tryd.lays207 s p w hs
def Tryd.lays100_ren : Go.Shelf.Ren := ⟨fun | 100 => 30 | 207 => 43 | n => n, fun | 9 => 9 | 4 => 4 | 3 => 3 | n => n, fun | n => n⟩
theorem Tryd.lays100 : Go.Proofs.Lays.n100 Tryd.prog Tryd.lays100_ren := {
  mixed := by kernel_rfl
  f100 := Tryd.func30.trans (congrArg some (by kernel_rfl))
  f207 := Tryd.func43.trans (congrArg some (by kernel_rfl))
  t3 := Tryd.underlying3
  a3 := Tryd.isAgg3
  z3 := Tryd.sizeOf3
  v3 := Tryd.zeroValue3
  t4 := Tryd.underlying4
  a4 := Tryd.isAgg4
  z4 := Tryd.sizeOf4
  v4 := Tryd.zeroValue4
  t9 := Tryd.underlying9
  a9 := Tryd.isAgg9
  z9 := Tryd.sizeOf9
  v9 := Tryd.zeroValue9 }
open Go.RowKit Go.Lib in
/-- strings.HasSuffix: "HasSuffix reports whether the string s ends with suffix.": IT RETURNS 'Lib.hasSuffix s suffix'; the world is as it was. ('hs': no Go string is longer: a caller has it of every string that it was handed.) (LAID: no walk: one application.) -/
theorem Tryd.strings_HasSuffix (s p : ByteArray) (w : World) (hs : s.size ≤ 9223372036854775807) :
    Calls Tryd.prog 30 #[.string s, .string p] w fun e w' => e = .returned (.bool (Lib.hasSuffix s.data.toList p.data.toList)) ∧ w' = w := Any.strings_HasSuffix Tryd.lays100 s p w hs
def Tryd.lays209_ren : Go.Shelf.Ren := ⟨fun | 209 => 58 | 207 => 43 | n => n, fun | 9 => 9 | 4 => 4 | 3 => 3 | n => n, fun | n => n⟩
theorem Tryd.lays209 : Go.Proofs.Lays.n209 Tryd.prog Tryd.lays209_ren := {
  mixed := by kernel_rfl
  f207 := Tryd.func43.trans (congrArg some (by kernel_rfl))
  f209 := Tryd.func58.trans (congrArg some (by kernel_rfl))
  t3 := Tryd.underlying3
  a3 := Tryd.isAgg3
  z3 := Tryd.sizeOf3
  v3 := Tryd.zeroValue3
  t4 := Tryd.underlying4
  a4 := Tryd.isAgg4
  z4 := Tryd.sizeOf4
  v4 := Tryd.zeroValue4
  t9 := Tryd.underlying9
  a9 := Tryd.isAgg9
  z9 := Tryd.sizeOf9
  v9 := Tryd.zeroValue9 }
open Go.RowKit Go.Lib in
/-- internal/stringslite.TrimSuffix (what strings.TrimSuffix calls). (LAID: no walk: one application.) -/
theorem Tryd.stringslite_TrimSuffix (s p : ByteArray) (w : World) (hs : s.size ≤ 9223372036854775807) :
    Calls Tryd.prog 58 #[.string s, .string p] w fun e w' => e = .returned (.string ⟨(Lib.trimSuffix s.data.toList p.data.toList).toArray⟩) ∧ w' = w := Any.stringslite_TrimSuffix Tryd.lays209 s p w hs
def Tryd.lays102_ren : Go.Shelf.Ren := ⟨fun | 102 => 47 | 209 => 58 | 207 => 43 | n => n, fun | 9 => 9 | 4 => 4 | 3 => 3 | n => n, fun | n => n⟩
theorem Tryd.lays102 : Go.Proofs.Lays.n102 Tryd.prog Tryd.lays102_ren := {
  mixed := by kernel_rfl
  f102 := Tryd.func47.trans (congrArg some (by kernel_rfl))
  f207 := Tryd.func43.trans (congrArg some (by kernel_rfl))
  f209 := Tryd.func58.trans (congrArg some (by kernel_rfl))
  t3 := Tryd.underlying3
  a3 := Tryd.isAgg3
  z3 := Tryd.sizeOf3
  v3 := Tryd.zeroValue3
  t4 := Tryd.underlying4
  a4 := Tryd.isAgg4
  z4 := Tryd.sizeOf4
  v4 := Tryd.zeroValue4
  t9 := Tryd.underlying9
  a9 := Tryd.isAgg9
  z9 := Tryd.sizeOf9
  v9 := Tryd.zeroValue9 }
open Go.RowKit Go.Lib in
/-- strings.TrimSuffix: "TrimSuffix returns s without the provided trailing suffix string. If s doesn't end with suffix, s is returned unchanged.": IT RETURNS 'Lib.trimSuffix s suffix'; the world is as it was. (LAID: no walk: one application.) -/
theorem Tryd.strings_TrimSuffix (s p : ByteArray) (w : World) (hs : s.size ≤ 9223372036854775807) :
    Calls Tryd.prog 47 #[.string s, .string p] w fun e w' => e = .returned (.string ⟨(Lib.trimSuffix s.data.toList p.data.toList).toArray⟩) ∧ w' = w := Any.strings_TrimSuffix Tryd.lays102 s p w hs
def Tryd.lays199_ren : Go.Shelf.Ren := ⟨fun | 199 => 40 | 261 => 53 | 311 => 61 | 312 => 62 | n => n, fun | 21 => 21 | 4 => 4 | 51 => 65 | 141 => 67 | 0 => 0 | 196 => 76 | 193 => 73 | 3 => 3 | 198 => 79 | 49 => 77 | 194 => 74 | 201 => 82 | 226 => 86 | 46 => 87 | 227 => 88 | n => n, fun | 6 => 1 | n => n⟩
theorem Tryd.lays199 : Go.Proofs.Lays.n199 Tryd.prog Tryd.lays199_ren := {
  mixed := by kernel_rfl
  f199 := Tryd.func40.trans (congrArg some (by kernel_rfl))
  f261 := Tryd.func53.trans (congrArg some (by kernel_rfl))
  f311 := Tryd.func61.trans (congrArg some (by kernel_rfl))
  f312 := Tryd.func62.trans (congrArg some (by kernel_rfl))
  t0 := Tryd.underlying0
  a0 := Tryd.isAgg0
  z0 := Tryd.sizeOf0
  v0 := Tryd.zeroValue0
  t3 := Tryd.underlying3
  a3 := Tryd.isAgg3
  z3 := Tryd.sizeOf3
  v3 := Tryd.zeroValue3
  t4 := Tryd.underlying4
  a4 := Tryd.isAgg4
  z4 := Tryd.sizeOf4
  v4 := Tryd.zeroValue4
  t21 := Tryd.underlying21
  a21 := Tryd.isAgg21
  z21 := Tryd.sizeOf21
  v21 := Tryd.zeroValue21
  t46 := Tryd.underlying87
  a46 := Tryd.isAgg87
  z46 := Tryd.sizeOf87
  v46 := Tryd.zeroValue87
  t49 := Tryd.underlying77
  a49 := Tryd.isAgg77
  z49 := Tryd.sizeOf77
  v49 := Tryd.zeroValue77
  t51 := Tryd.underlying65
  a51 := Tryd.isAgg65
  z51 := Tryd.sizeOf65
  v51 := Tryd.zeroValue65
  t141 := Tryd.underlying67
  a141 := Tryd.isAgg67
  z141 := Tryd.sizeOf67
  v141 := Tryd.zeroValue67
  t193 := Tryd.underlying73
  a193 := Tryd.isAgg73
  z193 := Tryd.sizeOf73
  v193 := Tryd.zeroValue73
  t194 := Tryd.underlying74
  a194 := Tryd.isAgg74
  z194 := Tryd.sizeOf74
  v194 := Tryd.zeroValue74
  t196 := Tryd.underlying76
  a196 := Tryd.isAgg76
  z196 := Tryd.sizeOf76
  v196 := Tryd.zeroValue76
  t198 := Tryd.underlying79
  a198 := Tryd.isAgg79
  z198 := Tryd.sizeOf79
  v198 := Tryd.zeroValue79
  t201 := Tryd.underlying82
  a201 := Tryd.isAgg82
  z201 := Tryd.sizeOf82
  v201 := Tryd.zeroValue82
  t226 := Tryd.underlying86
  a226 := Tryd.isAgg86
  z226 := Tryd.sizeOf86
  v226 := Tryd.zeroValue86
  t227 := Tryd.underlying88
  a227 := Tryd.isAgg88
  z227 := Tryd.sizeOf88
  v227 := Tryd.zeroValue88
  g6 := by kernel_rfl }
open Go.RowKit Go.Lib in
theorem Tryd.unicode_IsSpace (r : Int) (w : World) (h0 : 0 ≤ r) (h : r ≤ 255) :
    Calls Tryd.prog 40 #[.int .i32 r] w fun e w' => e = .returned (.bool (Lib.isSpaceL r)) ∧ w' = w := Any.unicode_IsSpace Tryd.lays199 r w h0 h
def Tryd.lays197_ren : Go.Shelf.Ren := ⟨fun | 197 => 55 | 260 => 64 | n => n, fun | 9 => 9 | 21 => 21 | 3 => 3 | 4 => 4 | 5 => 5 | 105 => 69 | 119 => 57 | 0 => 0 | 46 => 87 | 139 => 91 | 138 => 90 | n => n, fun | 3 => 4 | 4 => 5 | n => n⟩
theorem Tryd.lays197 : Go.Proofs.Lays.n197 Tryd.prog Tryd.lays197_ren := {
  mixed := by kernel_rfl
  f197 := Tryd.func55.trans (congrArg some (by kernel_rfl))
  f260 := Tryd.func64.trans (congrArg some (by kernel_rfl))
  t0 := Tryd.underlying0
  a0 := Tryd.isAgg0
  z0 := Tryd.sizeOf0
  v0 := Tryd.zeroValue0
  t3 := Tryd.underlying3
  a3 := Tryd.isAgg3
  z3 := Tryd.sizeOf3
  v3 := Tryd.zeroValue3
  t4 := Tryd.underlying4
  a4 := Tryd.isAgg4
  z4 := Tryd.sizeOf4
  v4 := Tryd.zeroValue4
  t5 := Tryd.underlying5
  a5 := Tryd.isAgg5
  z5 := Tryd.sizeOf5
  v5 := Tryd.zeroValue5
  t9 := Tryd.underlying9
  a9 := Tryd.isAgg9
  z9 := Tryd.sizeOf9
  v9 := Tryd.zeroValue9
  t21 := Tryd.underlying21
  a21 := Tryd.isAgg21
  z21 := Tryd.sizeOf21
  v21 := Tryd.zeroValue21
  t46 := Tryd.underlying87
  a46 := Tryd.isAgg87
  z46 := Tryd.sizeOf87
  v46 := Tryd.zeroValue87
  t105 := Tryd.underlying69
  a105 := Tryd.isAgg69
  z105 := Tryd.sizeOf69
  v105 := Tryd.zeroValue69
  t119 := Tryd.underlying57
  a119 := Tryd.isAgg57
  z119 := Tryd.sizeOf57
  t138 := Tryd.underlying90
  a138 := Tryd.isAgg90
  z138 := Tryd.sizeOf90
  v138 := Tryd.zeroValue90
  t139 := Tryd.underlying91
  a139 := Tryd.isAgg91
  z139 := Tryd.sizeOf91
  v139 := Tryd.zeroValue91
  g3 := by kernel_rfl
  g4 := by kernel_rfl }
open Go.RowKit Go.Lib in
/-- unicode/utf8.DecodeRuneInString: "DecodeRuneInString is like DecodeRune but its input is a string.": ("DecodeRune unpacks the first UTF-8 encoding in p and returns the rune and its width in bytes."): WHERE s BEGINS WITH AN ASCII BYTE x: (x, 1). (LAID: no walk: one application.) -/
theorem Tryd.utf8_DecodeRuneInString_ascii (s : ByteArray) (x : UInt8) (w : World) (h0 : s.data.toList[0]? = some x) (hx : x.toNat < 128) :
    Calls Tryd.prog 55 #[.string s] w fun e w' => e = .returned (.tuple #[.int .i32 x.toNat, .int .i64 1]) ∧ w' = w := Any.utf8_DecodeRuneInString_ascii Tryd.lays197 s x w h0 hx
def Tryd.lays260_ren : Go.Shelf.Ren := ⟨fun | 260 => 64 | n => n, fun | 9 => 9 | 21 => 21 | 3 => 3 | 4 => 4 | 5 => 5 | 119 => 57 | 0 => 0 | 46 => 87 | 139 => 91 | 138 => 90 | n => n, fun | 3 => 4 | 4 => 5 | n => n⟩
theorem Tryd.lays260 : Go.Proofs.Lays.n260 Tryd.prog Tryd.lays260_ren := {
  mixed := by kernel_rfl
  f260 := Tryd.func64.trans (congrArg some (by kernel_rfl))
  t0 := Tryd.underlying0
  a0 := Tryd.isAgg0
  z0 := Tryd.sizeOf0
  v0 := Tryd.zeroValue0
  t3 := Tryd.underlying3
  a3 := Tryd.isAgg3
  z3 := Tryd.sizeOf3
  v3 := Tryd.zeroValue3
  t4 := Tryd.underlying4
  a4 := Tryd.isAgg4
  z4 := Tryd.sizeOf4
  v4 := Tryd.zeroValue4
  t5 := Tryd.underlying5
  a5 := Tryd.isAgg5
  z5 := Tryd.sizeOf5
  v5 := Tryd.zeroValue5
  t9 := Tryd.underlying9
  a9 := Tryd.isAgg9
  z9 := Tryd.sizeOf9
  v9 := Tryd.zeroValue9
  t21 := Tryd.underlying21
  a21 := Tryd.isAgg21
  z21 := Tryd.sizeOf21
  v21 := Tryd.zeroValue21
  t46 := Tryd.underlying87
  a46 := Tryd.isAgg87
  z46 := Tryd.sizeOf87
  v46 := Tryd.zeroValue87
  t119 := Tryd.underlying57
  a119 := Tryd.isAgg57
  z119 := Tryd.sizeOf57
  t138 := Tryd.underlying90
  a138 := Tryd.isAgg90
  z138 := Tryd.sizeOf90
  v138 := Tryd.zeroValue90
  t139 := Tryd.underlying91
  a139 := Tryd.isAgg91
  z139 := Tryd.sizeOf91
  v139 := Tryd.zeroValue91
  g3 := by kernel_rfl
  g4 := by kernel_rfl }
open Go.RowKit Go.Lib in
theorem Tryd.utf8_decodeRuneInStringSlow (s : ByteArray) (w : World) (hT : Lib.Utf8Tabs 4 5 w) :
    Calls Tryd.prog 64 #[.string s] w fun e w' => e = .returned (.tuple #[.int .i32 (Lib.decodeGo s).1, .int .i64 (Lib.decodeGo s).2]) ∧ Below w.heap.size w w' := Any.utf8_decodeRuneInStringSlow Tryd.lays260 s w hT
open Go.RowKit Go.Lib in
/-- **unicode/utf8.DecodeRuneInString AT EVERY STRING.** (LAID: no walk: one application.) -/
theorem Tryd.utf8_DecodeRuneInString (s : ByteArray) (w : World) (hT : Lib.Utf8Tabs 4 5 w) :
    Calls Tryd.prog 55 #[.string s] w fun e w' => e = .returned (.tuple #[.int .i32 (Lib.decodeGo s).1, .int .i64 (Lib.decodeGo s).2]) ∧ Below w.heap.size w w' := Any.utf8_DecodeRuneInString Tryd.lays197 s w hT
def Tryd.lays311_ren : Go.Shelf.Ren := ⟨fun | 311 => 61 | n => n, fun | 193 => 73 | 49 => 77 | 4 => 4 | 3 => 3 | 0 => 0 | 226 => 86 | 198 => 79 | 46 => 87 | n => n, fun | n => n⟩
theorem Tryd.lays311 : Go.Proofs.Lays.n311 Tryd.prog Tryd.lays311_ren := {
  mixed := by kernel_rfl
  f311 := Tryd.func61.trans (congrArg some (by kernel_rfl))
  t0 := Tryd.underlying0
  a0 := Tryd.isAgg0
  z0 := Tryd.sizeOf0
  v0 := Tryd.zeroValue0
  t3 := Tryd.underlying3
  a3 := Tryd.isAgg3
  z3 := Tryd.sizeOf3
  v3 := Tryd.zeroValue3
  t4 := Tryd.underlying4
  a4 := Tryd.isAgg4
  z4 := Tryd.sizeOf4
  v4 := Tryd.zeroValue4
  t46 := Tryd.underlying87
  a46 := Tryd.isAgg87
  z46 := Tryd.sizeOf87
  v46 := Tryd.zeroValue87
  t49 := Tryd.underlying77
  a49 := Tryd.isAgg77
  z49 := Tryd.sizeOf77
  v49 := Tryd.zeroValue77
  t193 := Tryd.underlying73
  a193 := Tryd.isAgg73
  z193 := Tryd.sizeOf73
  v193 := Tryd.zeroValue73
  t198 := Tryd.underlying79
  a198 := Tryd.isAgg79
  z198 := Tryd.sizeOf79
  v198 := Tryd.zeroValue79
  t226 := Tryd.underlying86
  a226 := Tryd.isAgg86
  z226 := Tryd.sizeOf86
  v226 := Tryd.zeroValue86 }
open Go.RowKit Go.Lib in
theorem Tryd.unicode_is16_white (R oR : Nat) (z : Nat) (w : World) (hz : z < 65536) (hz0 : 255 < z) (c6 : w.cell? ⟨R, oR + 6, none⟩ = some (.int .u16 160)) (c7 : w.cell? ⟨R, oR + 7, none⟩ = some (.int .u16 5760)) (c8 : w.cell? ⟨R, oR + 8, none⟩ = some (.int .u16 5600)) (c9 : w.cell? ⟨R, oR + 9, none⟩ = some (.int .u16 8192)) (c10 : w.cell? ⟨R, oR + 10, none⟩ = some (.int .u16 8202)) (c11 : w.cell? ⟨R, oR + 11, none⟩ = some (.int .u16 1)) (c12 : w.cell? ⟨R, oR + 12, none⟩ = some (.int .u16 8232)) (c13 : w.cell? ⟨R, oR + 13, none⟩ = some (.int .u16 8233)) (c14 : w.cell? ⟨R, oR + 14, none⟩ = some (.int .u16 1)) (c15 : w.cell? ⟨R, oR + 15, none⟩ = some (.int .u16 8239)) (c16 : w.cell? ⟨R, oR + 16, none⟩ = some (.int .u16 8287)) (c17 : w.cell? ⟨R, oR + 17, none⟩ = some (.int .u16 48)) (c18 : w.cell? ⟨R, oR + 18, none⟩ = some (.int .u16 12288)) (c19 : w.cell? ⟨R, oR + 19, none⟩ = some (.int .u16 12288)) (c20 : w.cell? ⟨R, oR + 20, none⟩ = some (.int .u16 1)) :
    Calls Tryd.prog 61 #[.slice (some ⟨R, oR + 6, none⟩) 5 5, .int .u16 z] w fun e w' => e = .returned (.bool (Lib.isSpaceR z)) ∧ Below w.heap.size w w' := Any.unicode_is16_white Tryd.lays311 R oR z w hz hz0 c6 c7 c8 c9 c10 c11 c12 c13 c14 c15 c16 c17 c18 c19 c20
def Tryd.lays261_ren : Go.Shelf.Ren := ⟨fun | 261 => 53 | 311 => 61 | 312 => 62 | n => n, fun | 141 => 67 | 21 => 21 | 4 => 4 | 0 => 0 | 196 => 76 | 193 => 73 | 3 => 3 | 51 => 65 | 198 => 79 | 49 => 77 | 194 => 74 | 201 => 82 | 226 => 86 | 46 => 87 | 227 => 88 | n => n, fun | n => n⟩
theorem Tryd.lays261 : Go.Proofs.Lays.n261 Tryd.prog Tryd.lays261_ren := {
  mixed := by kernel_rfl
  f261 := Tryd.func53.trans (congrArg some (by kernel_rfl))
  f311 := Tryd.func61.trans (congrArg some (by kernel_rfl))
  f312 := Tryd.func62.trans (congrArg some (by kernel_rfl))
  t0 := Tryd.underlying0
  a0 := Tryd.isAgg0
  z0 := Tryd.sizeOf0
  v0 := Tryd.zeroValue0
  t3 := Tryd.underlying3
  a3 := Tryd.isAgg3
  z3 := Tryd.sizeOf3
  v3 := Tryd.zeroValue3
  t4 := Tryd.underlying4
  a4 := Tryd.isAgg4
  z4 := Tryd.sizeOf4
  v4 := Tryd.zeroValue4
  t21 := Tryd.underlying21
  a21 := Tryd.isAgg21
  z21 := Tryd.sizeOf21
  v21 := Tryd.zeroValue21
  t46 := Tryd.underlying87
  a46 := Tryd.isAgg87
  z46 := Tryd.sizeOf87
  v46 := Tryd.zeroValue87
  t49 := Tryd.underlying77
  a49 := Tryd.isAgg77
  z49 := Tryd.sizeOf77
  v49 := Tryd.zeroValue77
  t51 := Tryd.underlying65
  a51 := Tryd.isAgg65
  z51 := Tryd.sizeOf65
  v51 := Tryd.zeroValue65
  t141 := Tryd.underlying67
  a141 := Tryd.isAgg67
  z141 := Tryd.sizeOf67
  v141 := Tryd.zeroValue67
  t193 := Tryd.underlying73
  a193 := Tryd.isAgg73
  z193 := Tryd.sizeOf73
  v193 := Tryd.zeroValue73
  t194 := Tryd.underlying74
  a194 := Tryd.isAgg74
  z194 := Tryd.sizeOf74
  v194 := Tryd.zeroValue74
  t196 := Tryd.underlying76
  a196 := Tryd.isAgg76
  z196 := Tryd.sizeOf76
  v196 := Tryd.zeroValue76
  t198 := Tryd.underlying79
  a198 := Tryd.isAgg79
  z198 := Tryd.sizeOf79
  v198 := Tryd.zeroValue79
  t201 := Tryd.underlying82
  a201 := Tryd.isAgg82
  z201 := Tryd.sizeOf82
  v201 := Tryd.zeroValue82
  t226 := Tryd.underlying86
  a226 := Tryd.isAgg86
  z226 := Tryd.sizeOf86
  v226 := Tryd.zeroValue86
  t227 := Tryd.underlying88
  a227 := Tryd.isAgg88
  z227 := Tryd.sizeOf88
  v227 := Tryd.zeroValue88 }
open Go.RowKit Go.Lib in
/-- unicode.isExcludingLatin(White_Space, r), r beyond U+00FF or negative. (LAID: no walk: one application.) -/
theorem Tryd.unicode_isExcludingLatin_white (T oT R oR : Nat) (r : Int) (w : World) (hlo : -2147483648 ≤ r) (hhi : r ≤ 2147483647) (hr : r < 0 ∨ 255 < r) (h2 : w.cell? ⟨T, oT, none⟩ = some (.slice (some ⟨R, oR, none⟩) 7 7)) (h3 : w.cell? ⟨T, oT + 1, none⟩ = some (.slice none 0 0)) (h4 : w.cell? ⟨T, oT + 2, none⟩ = some (.int .i64 2)) (h5 : ∀ i, i < 21 → w.cell? ⟨R, oR + i, none⟩ = some (.int .u16 (whiteT.getD i 0))) :
    Calls Tryd.prog 53 #[.pointer (some ⟨T, oT, none⟩), .int .i32 r] w fun e w' => e = .returned (.bool (Lib.isSpaceZ r)) ∧ Below w.heap.size w w' := Any.unicode_isExcludingLatin_white Tryd.lays261 T oT R oR r w hlo hhi hr h2 h3 h4 h5
open Go.RowKit Go.Lib in
/-- **unicode.IsSpace AT EVERY int32.** (LAID: no walk: one application.) -/
theorem Tryd.unicode_IsSpace_any (r : Int) (w : World) (hlo : -2147483648 ≤ r) (hhi : r ≤ 2147483647) (hW : Lib.WhiteTab 1 w) :
    Calls Tryd.prog 40 #[.int .i32 r] w fun e w' => e = .returned (.bool (Lib.isSpaceZ r)) ∧ Below w.heap.size w w' := Any.unicode_IsSpace_any Tryd.lays199 r w hlo hhi hW
def Tryd.lays271_ren : Go.Shelf.Ren := ⟨fun | 271 => 63 | 120 => 66 | 197 => 55 | 260 => 64 | n => n, fun | 9 => 9 | 21 => 21 | 3 => 3 | 4 => 4 | 5 => 5 | 105 => 69 | 119 => 57 | 0 => 0 | 46 => 87 | 139 => 91 | 138 => 90 | n => n, fun | 3 => 4 | 4 => 5 | n => n⟩
theorem Tryd.lays271 : Go.Proofs.Lays.n271 Tryd.prog Tryd.lays271_ren := {
  mixed := by kernel_rfl
  f120 := Tryd.func66.trans (congrArg some (by kernel_rfl))
  f197 := Tryd.func55.trans (congrArg some (by kernel_rfl))
  f260 := Tryd.func64.trans (congrArg some (by kernel_rfl))
  f271 := Tryd.func63.trans (congrArg some (by kernel_rfl))
  t0 := Tryd.underlying0
  a0 := Tryd.isAgg0
  z0 := Tryd.sizeOf0
  v0 := Tryd.zeroValue0
  t3 := Tryd.underlying3
  a3 := Tryd.isAgg3
  z3 := Tryd.sizeOf3
  v3 := Tryd.zeroValue3
  t4 := Tryd.underlying4
  a4 := Tryd.isAgg4
  z4 := Tryd.sizeOf4
  v4 := Tryd.zeroValue4
  t5 := Tryd.underlying5
  a5 := Tryd.isAgg5
  z5 := Tryd.sizeOf5
  v5 := Tryd.zeroValue5
  t9 := Tryd.underlying9
  a9 := Tryd.isAgg9
  z9 := Tryd.sizeOf9
  v9 := Tryd.zeroValue9
  t21 := Tryd.underlying21
  a21 := Tryd.isAgg21
  z21 := Tryd.sizeOf21
  v21 := Tryd.zeroValue21
  t46 := Tryd.underlying87
  a46 := Tryd.isAgg87
  z46 := Tryd.sizeOf87
  v46 := Tryd.zeroValue87
  t105 := Tryd.underlying69
  a105 := Tryd.isAgg69
  z105 := Tryd.sizeOf69
  v105 := Tryd.zeroValue69
  t119 := Tryd.underlying57
  a119 := Tryd.isAgg57
  z119 := Tryd.sizeOf57
  t138 := Tryd.underlying90
  a138 := Tryd.isAgg90
  z138 := Tryd.sizeOf90
  v138 := Tryd.zeroValue90
  t139 := Tryd.underlying91
  a139 := Tryd.isAgg91
  z139 := Tryd.sizeOf91
  v139 := Tryd.zeroValue91
  g3 := by kernel_rfl
  g4 := by kernel_rfl }
open Go.RowKit Go.Lib in
/-- **unicode/utf8.DecodeLastRuneInString AT EVERY STRING.** (LAID: no walk: one application.) -/
theorem Tryd.utf8_DecodeLastRuneInString (s : ByteArray) (w : World) (hs : s.size ≤ 9223372036854775807) (hT : Lib.Utf8Tabs 4 5 w) :
    Calls Tryd.prog 63 #[.string s] w fun e w' => e = .returned (.tuple #[.int .i32 (Lib.decodeLastL s.data.toList).1, .int .i64 (Lib.decodeLastL s.data.toList).2]) ∧ Below w.heap.size w w' := Any.utf8_DecodeLastRuneInString Tryd.lays271 s w hs hT
open Go.RowKit in
theorem Tryd.strings_TrimSpace_any (s : ByteArray) (w : World) (hs : s.size ≤ 9223372036854775807) (htab : Lib.TabIs Tryd.prog w "strings.asciiSpace" .u8 Lib.asciiSpaceTab) (hU8 : Lib.Utf8Tabs 4 5 w) (hWS : Lib.WhiteTab 1 w) :
    Calls Tryd.prog 28 #[.string s] w fun e w' => e = .returned (.string ⟨(Lib.trimSpaceD s.data.toList).toArray⟩) ∧ Below w.heap.size w w' := Any.strings_TrimSpace_any Tryd.lays163 Tryd.Space_Extra_163 s w hs htab hU8 hWS
open Go.RowKit Go.Lib in
theorem Tryd.unicode_is16_white_d (R oR : Nat) (z : Nat) (w : World) (hz : z < 65536) (hz0 : 255 < z) (c6 : w.cell? ⟨R, oR + 6, none⟩ = some (.int .u16 160)) (c7 : w.cell? ⟨R, oR + 7, none⟩ = some (.int .u16 5760)) (c8 : w.cell? ⟨R, oR + 8, none⟩ = some (.int .u16 5600)) (c9 : w.cell? ⟨R, oR + 9, none⟩ = some (.int .u16 8192)) (c10 : w.cell? ⟨R, oR + 10, none⟩ = some (.int .u16 8202)) (c11 : w.cell? ⟨R, oR + 11, none⟩ = some (.int .u16 1)) (c12 : w.cell? ⟨R, oR + 12, none⟩ = some (.int .u16 8232)) (c13 : w.cell? ⟨R, oR + 13, none⟩ = some (.int .u16 8233)) (c14 : w.cell? ⟨R, oR + 14, none⟩ = some (.int .u16 1)) (c15 : w.cell? ⟨R, oR + 15, none⟩ = some (.int .u16 8239)) (c16 : w.cell? ⟨R, oR + 16, none⟩ = some (.int .u16 8287)) (c17 : w.cell? ⟨R, oR + 17, none⟩ = some (.int .u16 48)) (c18 : w.cell? ⟨R, oR + 18, none⟩ = some (.int .u16 12288)) (c19 : w.cell? ⟨R, oR + 19, none⟩ = some (.int .u16 12288)) (c20 : w.cell? ⟨R, oR + 20, none⟩ = some (.int .u16 1)) :
    Calls Tryd.prog 61 #[.slice (some ⟨R, oR + 6, none⟩) 5 5, .int .u16 z] w fun e w' => e = .returned (.bool (Lib.isSpaceR z)) ∧ ∃ q, w' = w.drewN q := Any.unicode_is16_white_d Tryd.lays311 R oR z w hz hz0 c6 c7 c8 c9 c10 c11 c12 c13 c14 c15 c16 c17 c18 c19 c20
open Go.RowKit Go.Lib in
/-- unicode.isExcludingLatin(White_Space, r), r beyond U+00FF or negative. (LAID: no walk: one application.) -/
theorem Tryd.unicode_isExcludingLatin_white_d (T oT R oR : Nat) (r : Int) (w : World) (hlo : -2147483648 ≤ r) (hhi : r ≤ 2147483647) (hr : r < 0 ∨ 255 < r) (h2 : w.cell? ⟨T, oT, none⟩ = some (.slice (some ⟨R, oR, none⟩) 7 7)) (h3 : w.cell? ⟨T, oT + 1, none⟩ = some (.slice none 0 0)) (h4 : w.cell? ⟨T, oT + 2, none⟩ = some (.int .i64 2)) (h5 : ∀ i, i < 21 → w.cell? ⟨R, oR + i, none⟩ = some (.int .u16 (whiteT.getD i 0))) :
    Calls Tryd.prog 53 #[.pointer (some ⟨T, oT, none⟩), .int .i32 r] w fun e w' => e = .returned (.bool (Lib.isSpaceZ r)) ∧ ∃ q, w' = w.drewN q := Any.unicode_isExcludingLatin_white_d Tryd.lays261 T oT R oR r w hlo hhi hr h2 h3 h4 h5
open Go.RowKit Go.Lib in
/-- **unicode.IsSpace AT EVERY int32.** (LAID: no walk: one application.) -/
theorem Tryd.unicode_IsSpace_any_d (r : Int) (w : World) (hlo : -2147483648 ≤ r) (hhi : r ≤ 2147483647) (hW : Lib.WhiteTab 1 w) :
    Calls Tryd.prog 40 #[.int .i32 r] w fun e w' => e = .returned (.bool (Lib.isSpaceZ r)) ∧ ∃ q, w' = w.drewN q := Any.unicode_IsSpace_any_d Tryd.lays199 r w hlo hhi hW
open Go.RowKit Go.Lib in
theorem Tryd.unicode_is16_any (T : Array Rg) (R oR cap : Nat) (z : Nat) (w : World) (hz : z < 65536) (hT : RgTab .u16 R oR T w) (hok : RgOk 65536 T) (hn : T.size ≤ 1000000000) :
    Calls Tryd.prog 61 #[.slice (some ⟨R, oR, none⟩) T.size cap, .int .u16 z] w fun e w' => e = .returned (.bool (is16Go T z)) ∧ ∃ q, w' = w.drewN q := Any.unicode_is16_any Tryd.lays311 T R oR cap z w hz hT hok hn
def Tryd.lays312_ren : Go.Shelf.Ren := ⟨fun | 312 => 62 | n => n, fun | 194 => 74 | 51 => 65 | 4 => 4 | 3 => 3 | 0 => 0 | 227 => 88 | 201 => 82 | 46 => 87 | n => n, fun | n => n⟩
theorem Tryd.lays312 : Go.Proofs.Lays.n312 Tryd.prog Tryd.lays312_ren := {
  mixed := by kernel_rfl
  f312 := Tryd.func62.trans (congrArg some (by kernel_rfl))
  t0 := Tryd.underlying0
  a0 := Tryd.isAgg0
  z0 := Tryd.sizeOf0
  v0 := Tryd.zeroValue0
  t3 := Tryd.underlying3
  a3 := Tryd.isAgg3
  z3 := Tryd.sizeOf3
  v3 := Tryd.zeroValue3
  t4 := Tryd.underlying4
  a4 := Tryd.isAgg4
  z4 := Tryd.sizeOf4
  v4 := Tryd.zeroValue4
  t46 := Tryd.underlying87
  a46 := Tryd.isAgg87
  z46 := Tryd.sizeOf87
  v46 := Tryd.zeroValue87
  t51 := Tryd.underlying65
  a51 := Tryd.isAgg65
  z51 := Tryd.sizeOf65
  v51 := Tryd.zeroValue65
  t194 := Tryd.underlying74
  a194 := Tryd.isAgg74
  z194 := Tryd.sizeOf74
  v194 := Tryd.zeroValue74
  t201 := Tryd.underlying82
  a201 := Tryd.isAgg82
  z201 := Tryd.sizeOf82
  v201 := Tryd.zeroValue82
  t227 := Tryd.underlying88
  a227 := Tryd.isAgg88
  z227 := Tryd.sizeOf88
  v227 := Tryd.zeroValue88 }
open Go.RowKit Go.Lib in
theorem Tryd.unicode_is32_any (T : Array Rg) (R oR cap : Nat) (z : Nat) (w : World) (hz : z < 4294967296) (hT : RgTab .u32 R oR T w) (hok : RgOk 4294967296 T) (hn : T.size ≤ 1000000000) :
    Calls Tryd.prog 62 #[.slice (some ⟨R, oR, none⟩) T.size cap, .int .u32 z] w fun e w' => e = .returned (.bool (is32Go T z)) ∧ Below w.heap.size w w' := Any.unicode_is32_any Tryd.lays312 T R oR cap z w hz hT hok hn
open Go.RowKit Go.Lib in
theorem Tryd.unicode_isExcludingLatin_any (Tb oT : Nat) (T : RTab) (r : Int) (w : World) (hlo : -2147483648 ≤ r) (hhi : r ≤ 2147483647) (hA : RTabAt Tb oT T w) (hok : RTabOk T) :
    Calls Tryd.prog 53 #[.pointer (some ⟨Tb, oT, none⟩), .int .i32 r] w fun e w' => e = .returned (.bool (exclGo T r)) ∧ Below w.heap.size w w' := Any.unicode_isExcludingLatin_any Tryd.lays261 Tb oT T r w hlo hhi hA hok
open Go.RowKit Go.Lib in
theorem Tryd.strings_indexFunc_grows (g : Nat) (lb : Array Value) (eg : ∀ args w, (callFunc g args).run Tryd.prog w = .ok (.enter g args) w) (p : Nat → Bool) (truth : Bool) (s : ByteArray) (w : World) (hp : PredGrows Tryd.prog g lb p w) :
    Calls Tryd.prog 60 #[.string s, .func (.func g) #[] lb, .bool truth] w fun e w' => e = .returned (.int .i64 (Lib.idxFunc p truth s)) ∧ Below w.heap.size w w' := Any.strings_indexFunc_grows Tryd.lays315 g lb eg p truth s w hp
open Go.RowKit Go.Lib in
theorem Tryd.strings_lastIndexFunc_grows (g : Nat) (lb : Array Value) (eg : ∀ args w, (callFunc g args).run Tryd.prog w = .ok (.enter g args) w) (p : Nat → Bool) (truth : Bool) (s : ByteArray) (w : World) (hs : s.size ≤ 9223372036854775807) (hT : Lib.Utf8Tabs 4 5 w) (hp : PredGrows Tryd.prog g lb p w) :
    Calls Tryd.prog 54 #[.string s, .func (.func g) #[] lb, .bool truth] w fun e w' => e = .returned (.int .i64 (Lib.lastIdxFunc p truth s)) ∧ Below w.heap.size w w' := Any.strings_lastIndexFunc_grows Tryd.lays273 g lb eg p truth s w hs hT hp
open Go.RowKit Go.Lib in
theorem Tryd.strings_TrimLeftFunc_grows (g : Nat) (lb : Array Value) (eg : ∀ args w, (callFunc g args).run Tryd.prog w = .ok (.enter g args) w) (p : Nat → Bool) (s : ByteArray) (w : World) (hp : PredGrows Tryd.prog g lb p w) :
    Calls Tryd.prog 52 #[.string s, .func (.func g) #[] lb] w fun e w' => e = .returned (.string (Lib.trimLeftF p s)) ∧ Below w.heap.size w w' := Any.strings_TrimLeftFunc_grows Tryd.lays272 g lb eg p s w hp
open Go.RowKit Go.Lib in
theorem Tryd.strings_TrimRightFunc_grows (g : Nat) (lb : Array Value) (eg : ∀ args w, (callFunc g args).run Tryd.prog w = .ok (.enter g args) w) (p : Nat → Bool) (s : ByteArray) (w : World) (hs : s.size ≤ 9223372036854775807) (hT : Lib.Utf8Tabs 4 5 w) (hp : PredGrows Tryd.prog g lb p w) :
    Calls Tryd.prog 41 #[.string s, .func (.func g) #[] lb] w fun e w' => e = .returned (.string (Lib.trimRightF p s)) ∧ Below w.heap.size w w' := Any.strings_TrimRightFunc_grows Tryd.lays238 g lb eg p s w hs hT hp
open Go.RowKit Go.Lib in
/-- **strings.TrimFunc(s, f) AT EVERY STRING, AT WHATEVER FUNCTION VALUE.** (LAID: no walk: one application.) -/
theorem Tryd.strings_TrimFunc_grows (g : Nat) (lb : Array Value) (eg : ∀ args w, (callFunc g args).run Tryd.prog w = .ok (.enter g args) w) (p : Nat → Bool) (s : ByteArray) (w : World) (hs : s.size ≤ 9223372036854775807) (hT : Lib.Utf8Tabs 4 5 w) (hp : PredGrows Tryd.prog g lb p w) :
    Calls Tryd.prog 39 #[.string s, .func (.func g) #[] lb] w fun e w' => e = .returned (.string (Lib.trimF p s)) ∧ Below w.heap.size w w' := Any.strings_TrimFunc_grows Tryd.lays237 g lb eg p s w hs hT hp
end Go.Proofs
