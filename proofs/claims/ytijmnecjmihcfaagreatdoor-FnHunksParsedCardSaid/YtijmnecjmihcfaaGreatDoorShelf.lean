/-
  DERIVED: THE SHELF's CONTRACTS AT THIS DUMP, IN PLAIN WORDS (tools/lay-plain.mjs out of 'TryzShelf.lean', which tools/lay-shelf.mjs wrote): THE SAME DECLARATIONS UNDER THE SAME NAMES: 'import', 'namespace', 'open', 'def', 'theorem' AND NOTHING ELSE: no command of the shelf's: FOR A HAND-IN. Each laying: the table of numbers ('.._ren') and one theorem, a field a fact of the dump's own or the kernel's comparison; each contract: ONE APPLICATION.
-/
import Derived.Shelf.Strings.Builder1
import Derived.Shelf.Strings.Builder2
import Derived.Shelf.Strings.OnBuilder
import Derived.Shelf.Strings.TrimSpace
import Derived.Shelf.Small.Utf8
import Derived.Shelf.Strings.BuilderF
import Derived.Shelf.Strings.BuilderK
import Derived.Shelf.Strings.Builder2Cap
import Derived.Shelf.Strconv.Itoa0
import Derived.Shelf.Strconv.Itoa1
import Derived.Shelf.LaysM
import Derived.Shelf.Strconv.ParseIntEmpty
import Derived.Shelf.Strconv.Clone
import Derived.Shelf.Strconv.SyntaxError
import Derived.Shelf.LaysC
import Derived.Shelf.Strconv.ToError
import Derived.Shelf.Strconv.Lower
import Derived.Shelf.Strconv.ParseUint10
import Derived.Shelf.Strconv.ParseUint10Empty
import Derived.Shelf.Strconv.ParseUint10Any
import Derived.Shelf.Strconv.ParseInt10
import Derived.Shelf.Strconv.RangeError
import Derived.Shelf.Strconv.ToErrorRange
import Derived.Shelf.Strconv.ParseUintEmpty
import Derived.Shelf.Strconv.ParseUint10b64
import Derived.Shelf.Strconv.ParseUint10b32
import Derived.Shelf.Strconv.ParseUint10b16
import Derived.Shelf.Strconv.ParseUint10b8
import Derived.Shelf.Strconv.ParseUint10At
import Derived.Shelf.Strconv.ParseInt10At64
import Derived.Shelf.Strconv.ParseInt10At32
import Derived.Shelf.Strconv.ParseInt10At16
import Derived.Shelf.Strconv.ParseInt10At8
import Derived.Shelf.Strconv.ParseInt10All
import Derived.Shelf.Strconv.ParseIntPublic10
import Derived.Shelf.Strconv.ErrVarParseInt
import Derived.Shelf.Strings.Prefix
import Derived.Shelf.Unicode.Latin
import Derived.Shelf.Unicode.Decode
import Derived.Shelf.Unicode.DecodeSlow
import Derived.Shelf.Unicode.DecodeAny
import Derived.Shelf.Unicode.Is16White
import Derived.Shelf.Unicode.IsSpaceAny
import Derived.Shelf.Unicode.DecodeLast
import Derived.Shelf.Strings.TrimSpaceAny
import Derived.Shelf.Unicode.Is16WhiteD
import Derived.Shelf.Unicode.IsSpaceAnyD
import Derived.Shelf.Unicode.Is16Any
import Derived.Shelf.Unicode.Is32Any
import Derived.Shelf.Unicode.ExclAny
import Derived.Shelf.Strings.BuilderCap
import Derived.Shelf.Bytes.SlSmallAll
import Derived.Shelf.Bytes.SlEqualAll
import Derived.Shelf.Bytes.Small
import Derived.Test.YtijmnecjmihcfaaGreatDoorProg
namespace Go.Proofs
open Go.Shelf
def Tryz.lays169_ren : Go.Shelf.Ren := ⟨fun | 169 => 100 | n => n, fun | 70 => 163 | 9 => 9 | 0 => 0 | 72 => 165 | 37 => 34 | 127 => 179 | 3 => 3 | 5 => 5 | n => n, fun | n => n⟩
theorem Tryz.lays169 : Go.Proofs.Lays.n169 Tryz.prog Tryz.lays169_ren := {
  mixed := by kernel_rfl
  f169 := Tryz.func100.trans (congrArg some (by kernel_rfl))
  t0 := Tryz.underlying0
  a0 := Tryz.isAgg0
  z0 := Tryz.sizeOf0
  v0 := Tryz.zeroValue0
  t3 := Tryz.underlying3
  a3 := Tryz.isAgg3
  z3 := Tryz.sizeOf3
  v3 := Tryz.zeroValue3
  t9 := Tryz.underlying9
  a9 := Tryz.isAgg9
  z9 := Tryz.sizeOf9
  v9 := Tryz.zeroValue9
  t37 := Tryz.underlying34
  a37 := Tryz.isAgg34
  z37 := Tryz.sizeOf34
  v37 := Tryz.zeroValue34
  t70 := Tryz.underlying163
  a70 := Tryz.isAgg163
  z70 := Tryz.sizeOf163
  v70 := Tryz.zeroValue163
  t72 := Tryz.underlying165
  a72 := Tryz.isAgg165
  z72 := Tryz.sizeOf165
  v72 := Tryz.zeroValue165
  t127 := Tryz.underlying179
  a127 := Tryz.isAgg179
  z127 := Tryz.sizeOf179
  v127 := Tryz.zeroValue179 }
theorem Tryz.Builder_Extra_169 : Builder.Extra Tryz.prog Tryz.lays169_ren := {
  sizeBuilder := by kernel_rfl
  liesBuilder := by kernel_rfl
  t5 := Tryz.underlying5
  a5 := Tryz.isAgg5
  z5 := Tryz.sizeOf5
  v5 := Tryz.zeroValue5
  infoByte := by kernel_rfl
  cellsByte := by kernel_rfl
  sizeByte := by kernel_rfl
  neB5 := by decide }
open Go.RowKit in
/-- (*strings.Builder).String: "String returns the accumulated string.": OF A BUILDER THAT HOLDS AT LEAST ONE BYTE. ✋ THE MODEL FREEZES THOSE BYTES IN THE BUFFER (unsafe.String): a later write INTO them ends the model's run without an answer; a later append BEHIND them goes on. The statement's order of evaluation is drawn: one draw. (LAID: no walk: one application.) -/
theorem Tryz.Builder_String (B b : Nat) (l : List UInt8) (w : World) (h : Lib.IsBuilder 165 5 B b (Lib.byteCells l) w) (h0 : l ≠ []) :
    Calls Tryz.prog 100 #[.pointer (some ⟨b, 0, none⟩)] w fun e w' => e = .returned (.string ⟨l.toArray⟩) ∧ Below B w w' := Any.Builder_String Tryz.lays169 Tryz.Builder_Extra_169 B b l w h h0
open Go.RowKit in
/-- (*strings.Builder).String OF A BUILDER THAT HOLDS NO BYTE: the empty string. (Its buffer is nil, or a row of which it has taken nothing yet; where that row has NO capacity the model lays one new block for unsafe.SliceData's 'some address'.) One draw. (LAID: no walk: one application.) -/
theorem Tryz.Builder_String_empty (B b : Nat) (w : World) (h : Lib.IsBuilder 165 5 B b [] w) (hBw : B ≤ w.heap.size) :
    Calls Tryz.prog 100 #[.pointer (some ⟨b, 0, none⟩)] w fun e w' => e = .returned (.string ⟨#[]⟩) ∧ Below B w w' := Any.Builder_String_empty Tryz.lays169 Tryz.Builder_Extra_169 B b w h hBw
open Go.RowKit in
/-- (*strings.Builder).String: "String returns the accumulated string.": WHATEVER THE BUILDER HOLDS. (LAID: no walk: one application.) -/
theorem Tryz.Builder_String_any (B b : Nat) (l : List UInt8) (w : World) (h : Lib.IsBuilder 165 5 B b (Lib.byteCells l) w) (hBw : B ≤ w.heap.size) :
    Calls Tryz.prog 100 #[.pointer (some ⟨b, 0, none⟩)] w fun e w' => e = .returned (.string ⟨l.toArray⟩) ∧ Below B w w' := Any.Builder_String_any Tryz.lays169 Tryz.Builder_Extra_169 B b l w h hBw
def Tryz.lays241_ren : Go.Shelf.Ren := ⟨fun | 241 => 115 | 277 => 129 | n => n, fun | 70 => 163 | 3 => 3 | 0 => 0 | 72 => 165 | 37 => 34 | 5 => 5 | n => n, fun | n => n⟩
theorem Tryz.lays241 : Go.Proofs.Lays.n241 Tryz.prog Tryz.lays241_ren := {
  mixed := by kernel_rfl
  f241 := Tryz.func115.trans (congrArg some (by kernel_rfl))
  f277 := Tryz.func129.trans (congrArg some (by kernel_rfl))
  t0 := Tryz.underlying0
  a0 := Tryz.isAgg0
  z0 := Tryz.sizeOf0
  v0 := Tryz.zeroValue0
  t3 := Tryz.underlying3
  a3 := Tryz.isAgg3
  z3 := Tryz.sizeOf3
  v3 := Tryz.zeroValue3
  t37 := Tryz.underlying34
  a37 := Tryz.isAgg34
  z37 := Tryz.sizeOf34
  v37 := Tryz.zeroValue34
  t70 := Tryz.underlying163
  a70 := Tryz.isAgg163
  z70 := Tryz.sizeOf163
  v70 := Tryz.zeroValue163
  t72 := Tryz.underlying165
  a72 := Tryz.isAgg165
  z72 := Tryz.sizeOf165
  v72 := Tryz.zeroValue165 }
theorem Tryz.Builder_Extra_241 : Builder.Extra Tryz.prog Tryz.lays241_ren := {
  sizeBuilder := by kernel_rfl
  liesBuilder := by kernel_rfl
  t5 := Tryz.underlying5
  a5 := Tryz.isAgg5
  z5 := Tryz.sizeOf5
  v5 := Tryz.zeroValue5
  infoByte := by kernel_rfl
  cellsByte := by kernel_rfl
  sizeByte := by kernel_rfl
  neB5 := by decide }
open Go.RowKit in
/-- (*strings.Builder).grow (no doc but "grow copies the buffer to a new, larger buffer so that there are at least n bytes of capacity beyond len(b.buf)."): AT A BUILDER WITHOUT A BUFFER: a new row of whatever bytes for its buffer, none of them its own yet. Three draws. (LAID: no walk: one application.) -/
theorem Tryz.Builder_grow_fresh (B b n : Nat) (w : World) (hB : B ≤ b) (hbk : w.heap[b]? = some (.cells #[.pointer (some ⟨b, 0, none⟩), .slice none 0 0] 165 (0, 0))) (hBw : B ≤ w.heap.size) (hn : n ≤ 281474976710656) :
    Calls Tryz.prog 115 #[.pointer (some ⟨b, 0, none⟩), .int .i64 n] w fun e w' => e = .returned (.tuple #[]) ∧ (Lib.BuilderAt 165 5 B b (.pointer (some ⟨b, 0, none⟩)) [] w' ∧ Below B w w') := Any.Builder_grow_fresh Tryz.lays241 Tryz.Builder_Extra_241 B b n w hB hbk hBw hn
def Tryz.lays165_ren : Go.Shelf.Ren := ⟨fun | 165 => 98 | 240 => 114 | 241 => 115 | 276 => 128 | 277 => 129 | n => n, fun | 70 => 163 | 3 => 3 | 0 => 0 | 4 => 4 | 9 => 9 | 20 => 20 | 72 => 165 | 37 => 34 | 164 => 206 | 5 => 5 | n => n, fun | n => n⟩
theorem Tryz.lays165 : Go.Proofs.Lays.n165 Tryz.prog Tryz.lays165_ren := {
  mixed := by kernel_rfl
  f165 := Tryz.func98.trans (congrArg some (by kernel_rfl))
  f240 := Tryz.func114.trans (congrArg some (by kernel_rfl))
  f241 := Tryz.func115.trans (congrArg some (by kernel_rfl))
  f276 := Tryz.func128.trans (congrArg some (by kernel_rfl))
  f277 := Tryz.func129.trans (congrArg some (by kernel_rfl))
  t0 := Tryz.underlying0
  a0 := Tryz.isAgg0
  z0 := Tryz.sizeOf0
  v0 := Tryz.zeroValue0
  t3 := Tryz.underlying3
  a3 := Tryz.isAgg3
  z3 := Tryz.sizeOf3
  v3 := Tryz.zeroValue3
  t4 := Tryz.underlying4
  a4 := Tryz.isAgg4
  z4 := Tryz.sizeOf4
  v4 := Tryz.zeroValue4
  t9 := Tryz.underlying9
  a9 := Tryz.isAgg9
  z9 := Tryz.sizeOf9
  v9 := Tryz.zeroValue9
  t20 := Tryz.underlying20
  a20 := Tryz.isAgg20
  z20 := Tryz.sizeOf20
  v20 := Tryz.zeroValue20
  t37 := Tryz.underlying34
  a37 := Tryz.isAgg34
  z37 := Tryz.sizeOf34
  v37 := Tryz.zeroValue34
  t70 := Tryz.underlying163
  a70 := Tryz.isAgg163
  z70 := Tryz.sizeOf163
  v70 := Tryz.zeroValue163
  t72 := Tryz.underlying165
  a72 := Tryz.isAgg165
  z72 := Tryz.sizeOf165
  v72 := Tryz.zeroValue165
  t164 := Tryz.underlying206
  a164 := Tryz.isAgg206
  z164 := Tryz.sizeOf206
  v164 := Tryz.zeroValue206 }
theorem Tryz.Builder_Extra_165 : Builder.Extra Tryz.prog Tryz.lays165_ren := {
  sizeBuilder := by kernel_rfl
  liesBuilder := by kernel_rfl
  t5 := Tryz.underlying5
  a5 := Tryz.isAgg5
  z5 := Tryz.sizeOf5
  v5 := Tryz.zeroValue5
  infoByte := by kernel_rfl
  cellsByte := by kernel_rfl
  sizeByte := by kernel_rfl
  neB5 := by decide }
open Go.RowKit in
/-- (*strings.Builder).Grow AT A BUILDER THAT HAS NOT BEEN WRITTEN ('var b strings.Builder; b.Grow(n)'): "Grow grows b's capacity, if necessary, to guarantee space for another n bytes.": it holds no byte behind it as before it. (LAID: no walk: one application.) -/
theorem Tryz.Builder_Grow_fresh (B b n : Nat) (w : World) (hB : B ≤ b) (hbk : w.heap[b]? = some (.cells #[.pointer none, .slice none 0 0] 165 (0, 0))) (hBw : B ≤ w.heap.size) (hn : n ≤ 281474976710656) :
    Calls Tryz.prog 98 #[.pointer (some ⟨b, 0, none⟩), .int .i64 n] w fun e w' => e = .returned (.tuple #[]) ∧ (Lib.BuilderAt 165 5 B b (.pointer (some ⟨b, 0, none⟩)) [] w' ∧ Below B w w') := Any.Builder_Grow_fresh Tryz.lays165 Tryz.Builder_Extra_165 B b n w hB hbk hBw hn
def Tryz.lays156_ren : Go.Shelf.Ren := ⟨fun | 156 => 75 | 165 => 98 | 166 => 99 | 169 => 100 | 240 => 114 | 241 => 115 | 276 => 128 | 277 => 129 | n => n, fun | 31 => 48 | 9 => 9 | 3 => 3 | 4 => 4 | 0 => 0 | 20 => 20 | 72 => 165 | 76 => 97 | 70 => 163 | 37 => 34 | 75 => 62 | 127 => 179 | 164 => 206 | 5 => 5 | 80 => 167 | n => n, fun | n => n⟩
theorem Tryz.lays156 : Go.Proofs.Lays.n156 Tryz.prog Tryz.lays156_ren := {
  mixed := by kernel_rfl
  f156 := Tryz.func75.trans (congrArg some (by kernel_rfl))
  f165 := Tryz.func98.trans (congrArg some (by kernel_rfl))
  f166 := Tryz.func99.trans (congrArg some (by kernel_rfl))
  f169 := Tryz.func100.trans (congrArg some (by kernel_rfl))
  f240 := Tryz.func114.trans (congrArg some (by kernel_rfl))
  f241 := Tryz.func115.trans (congrArg some (by kernel_rfl))
  f276 := Tryz.func128.trans (congrArg some (by kernel_rfl))
  f277 := Tryz.func129.trans (congrArg some (by kernel_rfl))
  t0 := Tryz.underlying0
  a0 := Tryz.isAgg0
  z0 := Tryz.sizeOf0
  v0 := Tryz.zeroValue0
  t3 := Tryz.underlying3
  a3 := Tryz.isAgg3
  z3 := Tryz.sizeOf3
  v3 := Tryz.zeroValue3
  t4 := Tryz.underlying4
  a4 := Tryz.isAgg4
  z4 := Tryz.sizeOf4
  v4 := Tryz.zeroValue4
  t9 := Tryz.underlying9
  a9 := Tryz.isAgg9
  z9 := Tryz.sizeOf9
  v9 := Tryz.zeroValue9
  t20 := Tryz.underlying20
  a20 := Tryz.isAgg20
  z20 := Tryz.sizeOf20
  v20 := Tryz.zeroValue20
  t31 := Tryz.underlying48
  a31 := Tryz.isAgg48
  z31 := Tryz.sizeOf48
  v31 := Tryz.zeroValue48
  t37 := Tryz.underlying34
  a37 := Tryz.isAgg34
  z37 := Tryz.sizeOf34
  v37 := Tryz.zeroValue34
  t70 := Tryz.underlying163
  a70 := Tryz.isAgg163
  z70 := Tryz.sizeOf163
  v70 := Tryz.zeroValue163
  t72 := Tryz.underlying165
  a72 := Tryz.isAgg165
  z72 := Tryz.sizeOf165
  v72 := Tryz.zeroValue165
  t75 := Tryz.underlying62
  a75 := Tryz.isAgg62
  z75 := Tryz.sizeOf62
  v75 := Tryz.zeroValue62
  t76 := Tryz.underlying97
  a76 := Tryz.isAgg97
  z76 := Tryz.sizeOf97
  v76 := Tryz.zeroValue97
  t127 := Tryz.underlying179
  a127 := Tryz.isAgg179
  z127 := Tryz.sizeOf179
  v127 := Tryz.zeroValue179
  t164 := Tryz.underlying206
  a164 := Tryz.isAgg206
  z164 := Tryz.sizeOf206
  v164 := Tryz.zeroValue206 }
theorem Tryz.Builder_Extra_156 : Builder.Extra Tryz.prog Tryz.lays156_ren := {
  sizeBuilder := by kernel_rfl
  liesBuilder := by kernel_rfl
  t5 := Tryz.underlying5
  a5 := Tryz.isAgg5
  z5 := Tryz.sizeOf5
  v5 := Tryz.zeroValue5
  infoByte := by kernel_rfl
  cellsByte := by kernel_rfl
  sizeByte := by kernel_rfl
  neB5 := by decide }
open Go.RowKit in
/-- No element: the empty string; the world is as it was. (Whatever the slice's address and capacity: a nil slice too.) (LAID: no walk: one application.) -/
theorem Tryz.strings_Join_none (a : Option Addr) (c : Nat) (sep : ByteArray) (w : World) :
    Calls Tryz.prog 75 #[.slice a 0 c, .string sep] w fun e w' => e = .returned (.string ⟨#[]⟩) ∧ w' = w := Any.strings_Join_none Tryz.lays156 Tryz.Builder_Extra_156 a c sep w
open Go.RowKit in
/-- strings.Join: "Join concatenates the elements of its first argument to create a single string. The separator string sep is placed between elements in the resulting string.": HOWEVER MANY ELEMENTS. Below the heap's end the world is as it was. (LAID: no walk: one application.) -/
theorem Tryz.strings_Join (bk o c : Nat) (xs : List ByteArray) (sep : ByteArray) (w : World) (hcells : ∀ (j : Nat) x, xs[j]? = some x → w.cell? ⟨bk, o + j, none⟩ = some (.string x)) (hbk : bk < w.heap.size) (hN : xs.length ≤ 140737488355328) (hcap : xs.length ≤ c) (hlen : (Lib.join (xs.map (·.data.toList)) sep.data.toList).length ≤ 140737488355328) :
    Calls Tryz.prog 75 #[.slice (some ⟨bk, o, none⟩) xs.length c, .string sep] w fun e w' => e = .returned (.string ⟨(Lib.join (xs.map (·.data.toList)) sep.data.toList).toArray⟩) ∧ Below w.heap.size w w' := Any.strings_Join Tryz.lays156 Tryz.Builder_Extra_156 bk o c xs sep w hcells hbk hN hcap hlen
def Tryz.lays163_ren : Go.Shelf.Ren := ⟨fun | 163 => 76 | 237 => 101 | 199 => 80 | 238 => 102 | 272 => 116 | 261 => 104 | 273 => 117 | 197 => 79 | 315 => 130 | 311 => 118 | 312 => 119 | 271 => 131 | 260 => 103 | 120 => 140 | n => n, fun | 9 => 9 | 37 => 34 | 3 => 3 | 0 => 0 | 5 => 5 | 4 => 4 | 40 => 137 | 119 => 169 | 21 => 21 | 51 => 170 | 141 => 172 | 105 => 135 | 196 => 188 | 193 => 185 | 198 => 191 | 49 => 189 | 194 => 186 | 201 => 194 | 226 => 209 | 46 => 181 | 227 => 210 | 139 => 184 | 138 => 183 | n => n, fun | 0 => 1 | 6 => 2 | 3 => 4 | 4 => 5 | n => n⟩
theorem Tryz.lays163 : Go.Proofs.Lays.n163 Tryz.prog Tryz.lays163_ren := {
  mixed := by kernel_rfl
  f120 := Tryz.func140.trans (congrArg some (by kernel_rfl))
  f163 := Tryz.func76.trans (congrArg some (by kernel_rfl))
  f197 := Tryz.func79.trans (congrArg some (by kernel_rfl))
  f199 := Tryz.func80.trans (congrArg some (by kernel_rfl))
  f237 := Tryz.func101.trans (congrArg some (by kernel_rfl))
  f238 := Tryz.func102.trans (congrArg some (by kernel_rfl))
  f260 := Tryz.func103.trans (congrArg some (by kernel_rfl))
  f261 := Tryz.func104.trans (congrArg some (by kernel_rfl))
  f271 := Tryz.func131.trans (congrArg some (by kernel_rfl))
  f272 := Tryz.func116.trans (congrArg some (by kernel_rfl))
  f273 := Tryz.func117.trans (congrArg some (by kernel_rfl))
  f311 := Tryz.func118.trans (congrArg some (by kernel_rfl))
  f312 := Tryz.func119.trans (congrArg some (by kernel_rfl))
  f315 := Tryz.func130.trans (congrArg some (by kernel_rfl))
  t0 := Tryz.underlying0
  a0 := Tryz.isAgg0
  z0 := Tryz.sizeOf0
  v0 := Tryz.zeroValue0
  t3 := Tryz.underlying3
  a3 := Tryz.isAgg3
  z3 := Tryz.sizeOf3
  v3 := Tryz.zeroValue3
  t4 := Tryz.underlying4
  a4 := Tryz.isAgg4
  z4 := Tryz.sizeOf4
  v4 := Tryz.zeroValue4
  t5 := Tryz.underlying5
  a5 := Tryz.isAgg5
  z5 := Tryz.sizeOf5
  v5 := Tryz.zeroValue5
  t9 := Tryz.underlying9
  a9 := Tryz.isAgg9
  z9 := Tryz.sizeOf9
  v9 := Tryz.zeroValue9
  t21 := Tryz.underlying21
  a21 := Tryz.isAgg21
  z21 := Tryz.sizeOf21
  v21 := Tryz.zeroValue21
  t37 := Tryz.underlying34
  a37 := Tryz.isAgg34
  z37 := Tryz.sizeOf34
  v37 := Tryz.zeroValue34
  t40 := Tryz.underlying137
  a40 := Tryz.isAgg137
  z40 := Tryz.sizeOf137
  v40 := Tryz.zeroValue137
  t46 := Tryz.underlying181
  a46 := Tryz.isAgg181
  z46 := Tryz.sizeOf181
  v46 := Tryz.zeroValue181
  t49 := Tryz.underlying189
  a49 := Tryz.isAgg189
  z49 := Tryz.sizeOf189
  v49 := Tryz.zeroValue189
  t51 := Tryz.underlying170
  a51 := Tryz.isAgg170
  z51 := Tryz.sizeOf170
  v51 := Tryz.zeroValue170
  t105 := Tryz.underlying135
  a105 := Tryz.isAgg135
  z105 := Tryz.sizeOf135
  v105 := Tryz.zeroValue135
  t119 := Tryz.underlying169
  a119 := Tryz.isAgg169
  z119 := Tryz.sizeOf169
  t138 := Tryz.underlying183
  a138 := Tryz.isAgg183
  z138 := Tryz.sizeOf183
  v138 := Tryz.zeroValue183
  t139 := Tryz.underlying184
  a139 := Tryz.isAgg184
  z139 := Tryz.sizeOf184
  v139 := Tryz.zeroValue184
  t141 := Tryz.underlying172
  a141 := Tryz.isAgg172
  z141 := Tryz.sizeOf172
  v141 := Tryz.zeroValue172
  t193 := Tryz.underlying185
  a193 := Tryz.isAgg185
  z193 := Tryz.sizeOf185
  v193 := Tryz.zeroValue185
  t194 := Tryz.underlying186
  a194 := Tryz.isAgg186
  z194 := Tryz.sizeOf186
  v194 := Tryz.zeroValue186
  t196 := Tryz.underlying188
  a196 := Tryz.isAgg188
  z196 := Tryz.sizeOf188
  v196 := Tryz.zeroValue188
  t198 := Tryz.underlying191
  a198 := Tryz.isAgg191
  z198 := Tryz.sizeOf191
  v198 := Tryz.zeroValue191
  t201 := Tryz.underlying194
  a201 := Tryz.isAgg194
  z201 := Tryz.sizeOf194
  v201 := Tryz.zeroValue194
  t226 := Tryz.underlying209
  a226 := Tryz.isAgg209
  z226 := Tryz.sizeOf209
  v226 := Tryz.zeroValue209
  t227 := Tryz.underlying210
  a227 := Tryz.isAgg210
  z227 := Tryz.sizeOf210
  v227 := Tryz.zeroValue210
  g0 := by kernel_rfl
  g3 := by kernel_rfl
  g4 := by kernel_rfl
  g6 := by kernel_rfl }
theorem Tryz.Space_Extra_163 : Space.Extra Tryz.prog Tryz.lays163_ren := {
  gNamed := by kernel_rfl }
open Go.RowKit in
theorem Tryz.strings_TrimSpace (s : ByteArray) (w : World) (hs : s.size ≤ 9223372036854775807) (hascii : ∀ (j : Nat) b, s.data.toList[j]? = some b → b.toNat < 128) (htab : Lib.TabIs Tryz.prog w "strings.asciiSpace" .u8 Lib.asciiSpaceTab) :
    Calls Tryz.prog 76 #[.string s] w fun e w' => e = .returned (.string ⟨(Lib.trimSpace s.data.toList).toArray⟩) ∧ w' = Lib.bytesWorld w 5 s := Any.strings_TrimSpace Tryz.lays163 Tryz.Space_Extra_163 s w hs hascii htab
def Tryz.lays120_ren : Go.Shelf.Ren := ⟨fun | 120 => 140 | n => n, fun | 5 => 5 | 4 => 4 | n => n, fun | n => n⟩
theorem Tryz.lays120 : Go.Proofs.Lays.n120 Tryz.prog Tryz.lays120_ren := {
  mixed := by kernel_rfl
  f120 := Tryz.func140.trans (congrArg some (by kernel_rfl))
  t4 := Tryz.underlying4
  a4 := Tryz.isAgg4
  z4 := Tryz.sizeOf4
  v4 := Tryz.zeroValue4
  t5 := Tryz.underlying5
  a5 := Tryz.isAgg5
  z5 := Tryz.sizeOf5
  v5 := Tryz.zeroValue5 }
/-- utf8.RuneStart: "RuneStart reports whether the byte could be the first byte of an encoded, possibly invalid rune. Second and subsequent bytes always have the top two bits set to 10.": IT RETURNS 'Lib.runeStart b'; the world is as it was. ('h0', 'h1': b is a byte: a caller has it of every byte that it was handed.) (LAID: no walk: one application.) -/
theorem Tryz.utf8_RuneStart (b : Int) (w : World) (h0 : 0 ≤ b) (h1 : b < 256) :
    Calls Tryz.prog 140 #[.int .u8 b] w fun e w' => e = .returned (.bool (Lib.runeStart b)) ∧ w' = w := Any.utf8_RuneStart Tryz.lays120 b w h0 h1
open Go.RowKit in
/-- (*strings.Builder).String: "String returns the accumulated string.": OF A BUILDER THAT HOLDS AT LEAST ONE BYTE. ✋ THE MODEL FREEZES THOSE BYTES IN THE BUFFER (unsafe.String): a later write INTO them ends the model's run without an answer; a later append BEHIND them goes on. The statement's order of evaluation is drawn: one draw. THE FORM '_f': IT SAYS BESIDES THAT THE BUILDER IS A BUILDER STILL ('Lib.IsBuilderF', the same bytes): SO IT CAN BE WRITTEN ON: 'b.WriteString(b.String()[:k])'. (LAID: no walk: one application.) -/
theorem Tryz.Builder_String_f (B b : Nat) (l : List UInt8) (w : World) (h : Lib.IsBuilderF 165 5 B b (Lib.byteCells l) w) (h0 : l ≠ []) :
    Calls Tryz.prog 100 #[.pointer (some ⟨b, 0, none⟩)] w fun e w' => e = .returned (.string ⟨l.toArray⟩) ∧ (Lib.IsBuilderF 165 5 B b (Lib.byteCells l) w' ∧ Below B w w') := Any.Builder_String_f Tryz.lays169 Tryz.Builder_Extra_169 B b l w h h0
open Go.RowKit in
/-- (*strings.Builder).String OF A BUILDER THAT HOLDS NO BYTE: the empty string; THE FORM '_f': a builder still. (LAID: no walk: one application.) -/
theorem Tryz.Builder_String_empty_f (B b : Nat) (w : World) (h : Lib.IsBuilderF 165 5 B b [] w) (hBw : B ≤ w.heap.size) :
    Calls Tryz.prog 100 #[.pointer (some ⟨b, 0, none⟩)] w fun e w' => e = .returned (.string ⟨#[]⟩) ∧ (Lib.IsBuilderF 165 5 B b [] w' ∧ Below B w w') := Any.Builder_String_empty_f Tryz.lays169 Tryz.Builder_Extra_169 B b w h hBw
open Go.RowKit in
/-- (*strings.Builder).String: "String returns the accumulated string.": WHATEVER THE BUILDER HOLDS; THE FORM '_f': OF A BUILDER THAT MAY HAVE BEEN READ BEFORE; AND IT IS A BUILDER STILL, holding the same bytes: it can be written on. (LAID: no walk: one application.) -/
theorem Tryz.Builder_String_any_f (B b : Nat) (l : List UInt8) (w : World) (h : Lib.IsBuilderF 165 5 B b (Lib.byteCells l) w) (hBw : B ≤ w.heap.size) :
    Calls Tryz.prog 100 #[.pointer (some ⟨b, 0, none⟩)] w fun e w' => e = .returned (.string ⟨l.toArray⟩) ∧ (Lib.IsBuilderF 165 5 B b (Lib.byteCells l) w' ∧ Below B w w') := Any.Builder_String_any_f Tryz.lays169 Tryz.Builder_Extra_169 B b l w h hBw
open Go.RowKit in
/-- (*strings.Builder).String: "String returns the accumulated string.": OF A BUILDER THAT HOLDS AT LEAST ONE BYTE. ✋ THE MODEL FREEZES THOSE BYTES IN THE BUFFER (unsafe.String): a later write INTO them ends the model's run without an answer; a later append BEHIND them goes on. The statement's order of evaluation is drawn: one draw. THE FORM '_k': OVER 'Lib.IsBuilderF' (a builder that 'String()' may have read), AND WITH THE FRAME THAT REACHES ABOVE THE BUILDER: 'Lib.OthersKept': every block that is not b and is no row of uint8's stands as it stood: the iterator of a range among them. (LAID: no walk: one application.) -/
theorem Tryz.Builder_String_k (B b : Nat) (l : List UInt8) (w : World) (h : Lib.IsBuilderF 165 5 B b (Lib.byteCells l) w) (h0 : l ≠ []) :
    Calls Tryz.prog 100 #[.pointer (some ⟨b, 0, none⟩)] w fun e w' => e = .returned (.string ⟨l.toArray⟩) ∧ (Lib.IsBuilderF 165 5 B b (Lib.byteCells l) w' ∧ Below B w w' ∧ Lib.OthersKept 5 (some b) w w') := Any.Builder_String_k Tryz.lays169 Tryz.Builder_Extra_169 B b l w h h0
open Go.RowKit in
/-- (*strings.Builder).String OF A BUILDER THAT HOLDS NO BYTE: the empty string; THE FORM '_k': OVER 'Lib.IsBuilderF' (a builder that 'String()' may have read), AND WITH THE FRAME THAT REACHES ABOVE THE BUILDER: 'Lib.OthersKept': every block that is not b and is no row of uint8's stands as it stood: the iterator of a range among them. (LAID: no walk: one application.) -/
theorem Tryz.Builder_String_empty_k (B b : Nat) (w : World) (h : Lib.IsBuilderF 165 5 B b [] w) (hBw : B ≤ w.heap.size) :
    Calls Tryz.prog 100 #[.pointer (some ⟨b, 0, none⟩)] w fun e w' => e = .returned (.string ⟨#[]⟩) ∧ (Lib.IsBuilderF 165 5 B b [] w' ∧ Below B w w' ∧ Lib.OthersKept 5 (some b) w w') := Any.Builder_String_empty_k Tryz.lays169 Tryz.Builder_Extra_169 B b w h hBw
open Go.RowKit in
/-- (*strings.Builder).String: "String returns the accumulated string.": WHATEVER THE BUILDER HOLDS; THE FORM '_k': OVER 'Lib.IsBuilderF' (a builder that 'String()' may have read), AND WITH THE FRAME THAT REACHES ABOVE THE BUILDER: 'Lib.OthersKept': every block that is not b and is no row of uint8's stands as it stood: the iterator of a range among them. (LAID: no walk: one application.) -/
theorem Tryz.Builder_String_any_k (B b : Nat) (l : List UInt8) (w : World) (h : Lib.IsBuilderF 165 5 B b (Lib.byteCells l) w) (hBw : B ≤ w.heap.size) :
    Calls Tryz.prog 100 #[.pointer (some ⟨b, 0, none⟩)] w fun e w' => e = .returned (.string ⟨l.toArray⟩) ∧ (Lib.IsBuilderF 165 5 B b (Lib.byteCells l) w' ∧ Below B w w' ∧ Lib.OthersKept 5 (some b) w w') := Any.Builder_String_any_k Tryz.lays169 Tryz.Builder_Extra_169 B b l w h hBw
open Go.RowKit in
/-- (*strings.Builder).grow (no doc but "grow copies the buffer to a new, larger buffer so that there are at least n bytes of capacity beyond len(b.buf)."): AT A BUILDER WITHOUT A BUFFER: a new row of whatever bytes for its buffer, none of them its own yet. Three draws. (LAID: no walk: one application.) -/
theorem Tryz.Builder_grow_fresh_cap (B b n : Nat) (w : World) (hB : B ≤ b) (hbk : w.heap[b]? = some (.cells #[.pointer (some ⟨b, 0, none⟩), .slice none 0 0] 165 (0, 0))) (hBw : B ≤ w.heap.size) (hn : n ≤ 281474976710656) :
    Calls Tryz.prog 115 #[.pointer (some ⟨b, 0, none⟩), .int .i64 n] w fun e w' => e = .returned (.tuple #[]) ∧ (Lib.BuilderAt 165 5 B b (.pointer (some ⟨b, 0, none⟩)) [] w' ∧ Below B w w') ∧ ∃ p cap, w'.cell? ⟨b, 1, none⟩ = some (.slice p 0 cap) ∧ n ≤ cap := Any.Builder_grow_fresh_cap Tryz.lays241 Tryz.Builder_Extra_241 B b n w hB hbk hBw hn
open Go.RowKit in
/-- (*strings.Builder).Grow AT A BUILDER THAT HAS NOT BEEN WRITTEN ('var b strings.Builder; b.Grow(n)'): "Grow grows b's capacity, if necessary, to guarantee space for another n bytes.": it holds no byte behind it as before it. (LAID: no walk: one application.) -/
theorem Tryz.Builder_Grow_fresh_cap (B b n : Nat) (w : World) (hB : B ≤ b) (hbk : w.heap[b]? = some (.cells #[.pointer none, .slice none 0 0] 165 (0, 0))) (hBw : B ≤ w.heap.size) (hn : n ≤ 281474976710656) :
    Calls Tryz.prog 98 #[.pointer (some ⟨b, 0, none⟩), .int .i64 n] w fun e w' => e = .returned (.tuple #[]) ∧ (Lib.BuilderAt 165 5 B b (.pointer (some ⟨b, 0, none⟩)) [] w' ∧ Below B w w') ∧ ∃ p cap, w'.cell? ⟨b, 1, none⟩ = some (.slice p 0 cap) ∧ n ≤ cap := Any.Builder_Grow_fresh_cap Tryz.lays165 Tryz.Builder_Extra_165 B b n w hB hbk hBw hn
def Tryz.lays129_ren : Go.Shelf.Ren := ⟨fun | 129 => 142 | n => n, fun | 53 => 197 | 3 => 3 | 4 => 4 | 46 => 181 | 5 => 5 | 9 => 9 | n => n, fun | n => n⟩
theorem Tryz.lays129 : Go.Proofs.Lays.n129 Tryz.prog Tryz.lays129_ren := {
  mixed := by kernel_rfl
  f129 := Tryz.func142.trans (congrArg some (by kernel_rfl))
  t3 := Tryz.underlying3
  a3 := Tryz.isAgg3
  z3 := Tryz.sizeOf3
  v3 := Tryz.zeroValue3
  t4 := Tryz.underlying4
  a4 := Tryz.isAgg4
  z4 := Tryz.sizeOf4
  v4 := Tryz.zeroValue4
  t5 := Tryz.underlying5
  a5 := Tryz.isAgg5
  z5 := Tryz.sizeOf5
  v5 := Tryz.zeroValue5
  t9 := Tryz.underlying9
  a9 := Tryz.isAgg9
  z9 := Tryz.sizeOf9
  v9 := Tryz.zeroValue9
  t46 := Tryz.underlying181
  a46 := Tryz.isAgg181
  z46 := Tryz.sizeOf181
  v46 := Tryz.zeroValue181
  t53 := Tryz.underlying197
  a53 := Tryz.isAgg197
  z53 := Tryz.sizeOf197
  v53 := Tryz.zeroValue197 }
/-- bits.Len64: "Len64 returns the minimum number of bits required to represent x; the result is 0 for x == 0.": IT RETURNS 'Lib.bitLen x'; the world is as it was. ('h0', 'h1': x is a uint64.) (LAID: no walk: one application.) -/
theorem Tryz.bits_Len64 (x : Int) (w : World) (h0 : 0 ≤ x) (h1 : x ≤ 18446744073709551615) :
    Calls Tryz.prog 142 #[.int .u64 x] w fun e w' => e = .returned (.int .i64 (Lib.bitLen x.toNat)) ∧ w' = w := Any.bits_Len64 Tryz.lays129 x w h0 h1
def Tryz.lays317_ren : Go.Shelf.Ren := ⟨fun | 317 => 141 | n => n, fun | 3 => 3 | 46 => 181 | n => n, fun | n => n⟩
theorem Tryz.lays317 : Go.Proofs.Lays.n317 Tryz.prog Tryz.lays317_ren := {
  mixed := by kernel_rfl
  f317 := Tryz.func141.trans (congrArg some (by kernel_rfl))
  t3 := Tryz.underlying3
  a3 := Tryz.isAgg3
  z3 := Tryz.sizeOf3
  v3 := Tryz.zeroValue3
  t46 := Tryz.underlying181
  a46 := Tryz.isAgg181
  z46 := Tryz.sizeOf181
  v46 := Tryz.zeroValue181 }
open Go.Lib in
/-- internal/strconv.log10Pow2: "log10Pow2(x) returns ⌊log₁₀ 2**x⌋ = ⌊x * log₁₀ 2⌋.": '(x * 78913) >> 18', at an x up to 64 (a length in bits). The world is as it was. (LAID: no walk: one application.) -/
theorem Tryz.internal_strconv_log10Pow2 (x : Nat) (h : x ≤ 64) (w : World) :
    Calls Tryz.prog 141 #[.int .i64 x] w fun e w' => e = .returned (.int .i64 (Lib.l10 x)) ∧ w' = w := Any.internal_strconv_log10Pow2 Tryz.lays317 x h w
def Tryz.lays318_ren : Go.Shelf.Ren := ⟨fun | 318 => 143 | n => n, fun | 3 => 3 | 4 => 4 | n => n, fun | n => n⟩
theorem Tryz.lays318 : Go.Proofs.Lays.n318 Tryz.prog Tryz.lays318_ren := {
  mixed := by kernel_rfl
  f318 := Tryz.func143.trans (congrArg some (by kernel_rfl))
  t3 := Tryz.underlying3
  a3 := Tryz.isAgg3
  z3 := Tryz.sizeOf3
  v3 := Tryz.zeroValue3
  t4 := Tryz.underlying4
  a4 := Tryz.isAgg4
  z4 := Tryz.sizeOf4
  v4 := Tryz.zeroValue4 }
open Go.Lib in
/-- internal/strconv.bool2: "bool2 converts b to an integer: 1 for true, 0 for false." The world is as it was. (LAID: no walk: one application.) -/
theorem Tryz.internal_strconv_bool2_int (b : Bool) (w : World) :
    Calls Tryz.prog 143 #[.bool b] w fun e w' => e = .returned (.int .i64 (if b then 1 else 0)) ∧ w' = w := Any.internal_strconv_bool2_int Tryz.lays318 b w
def Tryz.lays283_ren : Go.Shelf.Ren := ⟨fun | 283 => 136 | n => n, fun | 3 => 3 | 9 => 9 | 4 => 4 | n => n, fun | n => n⟩
theorem Tryz.lays283 : Go.Proofs.Lays.n283 Tryz.prog Tryz.lays283_ren := {
  mixed := by kernel_rfl
  f283 := Tryz.func136.trans (congrArg some (by kernel_rfl))
  t3 := Tryz.underlying3
  a3 := Tryz.isAgg3
  z3 := Tryz.sizeOf3
  v3 := Tryz.zeroValue3
  t4 := Tryz.underlying4
  a4 := Tryz.isAgg4
  z4 := Tryz.sizeOf4
  v4 := Tryz.zeroValue4
  t9 := Tryz.underlying9
  a9 := Tryz.isAgg9
  z9 := Tryz.sizeOf9
  v9 := Tryz.zeroValue9 }
open Go.Lib in
/-- internal/strconv.small: "small returns the string for an i with 0 <= i < nSmalls.": i's decimal numeral. The world is as it was. (LAID: no walk: one application.) -/
theorem Tryz.internal_strconv_small (i : Nat) (h : i < 100) (w : World) :
    Calls Tryz.prog 136 #[.int .i64 i] w fun e w' => e = .returned (.string ⟨(Lib.decDigits i).toArray⟩) ∧ w' = w := Any.internal_strconv_small Tryz.lays283 i h w
def Tryz.laysM284_ren : Go.Shelf.Ren := ⟨fun | 284 => 137 | 129 => 142 | 317 => 141 | 318 => 143 | n => n, fun | 53 => 197 | 3 => 3 | 212 => 225 | 0 => 0 | 4 => 4 | 46 => 181 | 5 => 5 | 9 => 9 | n => n, fun | 17 => 9 | n => n⟩
theorem Tryz.laysM284 : Go.Proofs.LaysM.n284 Tryz.prog Tryz.laysM284_ren := {
  mixed := by kernel_rfl
  f129 := Tryz.func142.trans (congrArg some (by kernel_rfl))
  f284 := Tryz.func137.trans (congrArg some (by kernel_rfl))
  f317 := Tryz.func141.trans (congrArg some (by kernel_rfl))
  f318 := Tryz.func143.trans (congrArg some (by kernel_rfl))
  t0 := Tryz.underlying0
  a0 := Tryz.isAgg0
  z0 := Tryz.sizeOf0
  v0 := Tryz.zeroValue0
  t3 := Tryz.underlying3
  a3 := Tryz.isAgg3
  z3 := Tryz.sizeOf3
  v3 := Tryz.zeroValue3
  t4 := Tryz.underlying4
  a4 := Tryz.isAgg4
  z4 := Tryz.sizeOf4
  v4 := Tryz.zeroValue4
  t5 := Tryz.underlying5
  a5 := Tryz.isAgg5
  z5 := Tryz.sizeOf5
  v5 := Tryz.zeroValue5
  t9 := Tryz.underlying9
  a9 := Tryz.isAgg9
  z9 := Tryz.sizeOf9
  v9 := Tryz.zeroValue9
  t46 := Tryz.underlying181
  a46 := Tryz.isAgg181
  z46 := Tryz.sizeOf181
  v46 := Tryz.zeroValue181
  t53 := Tryz.underlying197
  a53 := Tryz.isAgg197
  z53 := Tryz.sizeOf197
  v53 := Tryz.zeroValue197
  t212 := Tryz.underlying225
  a212 := Tryz.isAgg225
  z212 := Tryz.sizeOf225
  v212 := Tryz.zeroValue225
  g17 := by kernel_rfl
  i0 := by kernel_rfl
  i3 := by kernel_rfl
  i4 := by kernel_rfl
  i5 := by kernel_rfl
  i9 := by kernel_rfl
  i46 := by kernel_rfl
  i53 := by kernel_rfl
  i212 := by kernel_rfl
  m17 := by kernel_rfl }
open Go.Lib in
/-- internal/strconv.numDigits, at a d that is not 0: THE NUMBER OF d's DECIMAL DIGITS. The world is as it was. (LAID: no walk: one application.) -/
theorem Tryz.internal_strconv_numDigits (u : Nat) (h1 : 1 ≤ u) (h2 : u < 18446744073709551616) (w : World) (htab : Lib.TabIs Tryz.prog w "internal/strconv.uint64pow10" .u64 Lib.pow10Tab) :
    Calls Tryz.prog 137 #[.int .u64 u] w fun e w' => e = .returned (.int .i64 (Lib.nDigits u)) ∧ w' = w := Any.internal_strconv_numDigits Tryz.laysM284 u h1 h2 w htab
def Tryz.lays247_ren : Go.Shelf.Ren := ⟨fun | 247 => 105 | 287 => 120 | 321 => 132 | 322 => 133 | n => n, fun | 9 => 9 | 3 => 3 | 2 => 2 | 75 => 62 | 4 => 4 | 167 => 196 | 5 => 5 | 53 => 197 | 175 => 198 | 46 => 181 | 37 => 34 | 0 => 0 | 21 => 21 | 80 => 167 | n => n, fun | n => n⟩
theorem Tryz.lays247 : Go.Proofs.Lays.n247 Tryz.prog Tryz.lays247_ren := {
  mixed := by kernel_rfl
  f247 := Tryz.func105.trans (congrArg some (by kernel_rfl))
  f287 := Tryz.func120.trans (congrArg some (by kernel_rfl))
  f321 := Tryz.func132.trans (congrArg some (by kernel_rfl))
  f322 := Tryz.func133.trans (congrArg some (by kernel_rfl))
  t0 := Tryz.underlying0
  a0 := Tryz.isAgg0
  z0 := Tryz.sizeOf0
  v0 := Tryz.zeroValue0
  t2 := Tryz.underlying2
  a2 := Tryz.isAgg2
  z2 := Tryz.sizeOf2
  v2 := Tryz.zeroValue2
  t3 := Tryz.underlying3
  a3 := Tryz.isAgg3
  z3 := Tryz.sizeOf3
  v3 := Tryz.zeroValue3
  t4 := Tryz.underlying4
  a4 := Tryz.isAgg4
  z4 := Tryz.sizeOf4
  v4 := Tryz.zeroValue4
  t5 := Tryz.underlying5
  a5 := Tryz.isAgg5
  z5 := Tryz.sizeOf5
  v5 := Tryz.zeroValue5
  t9 := Tryz.underlying9
  a9 := Tryz.isAgg9
  z9 := Tryz.sizeOf9
  v9 := Tryz.zeroValue9
  t21 := Tryz.underlying21
  a21 := Tryz.isAgg21
  z21 := Tryz.sizeOf21
  v21 := Tryz.zeroValue21
  t37 := Tryz.underlying34
  a37 := Tryz.isAgg34
  z37 := Tryz.sizeOf34
  v37 := Tryz.zeroValue34
  t46 := Tryz.underlying181
  a46 := Tryz.isAgg181
  z46 := Tryz.sizeOf181
  v46 := Tryz.zeroValue181
  t53 := Tryz.underlying197
  a53 := Tryz.isAgg197
  z53 := Tryz.sizeOf197
  v53 := Tryz.zeroValue197
  t75 := Tryz.underlying62
  a75 := Tryz.isAgg62
  z75 := Tryz.sizeOf62
  v75 := Tryz.zeroValue62
  t167 := Tryz.underlying196
  a167 := Tryz.isAgg196
  z167 := Tryz.sizeOf196
  v167 := Tryz.zeroValue196
  t175 := Tryz.underlying198
  a175 := Tryz.isAgg198
  z175 := Tryz.sizeOf198
  v175 := Tryz.zeroValue198 }
open Go.RowKit in
/-- internal/strconv.ParseInt at "": 'if s == "" { return 0, ErrSyntax }'. The world is as it was. (LAID: no walk: one application.) -/
theorem Tryz.internal_strconv_ParseInt_empty (base bits : Int) (w : World) :
    Calls Tryz.prog 105 #[.string ⟨#[]⟩, .int .i64 base, .int .i64 bits] w fun e w' => e = .returned (.tuple #[.int .i64 0, (.iface 196 (.int .i64 2))]) ∧ w' = w := Any.internal_strconv_ParseInt_empty Tryz.lays247 base bits w
def Tryz.laysM316_ren : Go.Shelf.Ren := ⟨fun | 316 => 134 | n => n, fun | 9 => 9 | 3 => 3 | 4 => 4 | 37 => 34 | 0 => 0 | 127 => 179 | 5 => 5 | n => n, fun | n => n⟩
theorem Tryz.laysM316 : Go.Proofs.LaysM.n316 Tryz.prog Tryz.laysM316_ren := {
  mixed := by kernel_rfl
  f316 := Tryz.func134.trans (congrArg some (by kernel_rfl))
  t0 := Tryz.underlying0
  a0 := Tryz.isAgg0
  z0 := Tryz.sizeOf0
  v0 := Tryz.zeroValue0
  t3 := Tryz.underlying3
  a3 := Tryz.isAgg3
  z3 := Tryz.sizeOf3
  v3 := Tryz.zeroValue3
  t4 := Tryz.underlying4
  a4 := Tryz.isAgg4
  z4 := Tryz.sizeOf4
  v4 := Tryz.zeroValue4
  t9 := Tryz.underlying9
  a9 := Tryz.isAgg9
  z9 := Tryz.sizeOf9
  v9 := Tryz.zeroValue9
  t37 := Tryz.underlying34
  a37 := Tryz.isAgg34
  z37 := Tryz.sizeOf34
  v37 := Tryz.zeroValue34
  t127 := Tryz.underlying179
  a127 := Tryz.isAgg179
  z127 := Tryz.sizeOf179
  v127 := Tryz.zeroValue179
  t5 := Tryz.underlying5
  a5 := Tryz.isAgg5
  z5 := Tryz.sizeOf5
  v5 := Tryz.zeroValue5
  i0 := by kernel_rfl
  i3 := by kernel_rfl
  i4 := by kernel_rfl
  i5 := by kernel_rfl
  i9 := by kernel_rfl
  i37 := by kernel_rfl
  i127 := by kernel_rfl }
open Go.RowKit in
/-- internal/stringslite.Clone (what strings.Clone calls): "Clone returns a fresh copy of s.": THE SAME BYTES. Of what was there nothing has turned (a new row is laid, and frozen, where s is not empty). (LAID: no walk: one application.) -/
theorem Tryz.stringslite_Clone (s : ByteArray) (w : World) (hlim : s.size ≤ 281474976710656) :
    Calls Tryz.prog 134 #[.string s] w fun e w' => e = .returned (.string s) ∧ Below w.heap.size w w' := Any.stringslite_Clone Tryz.laysM316 s w hlim
def Tryz.laysM279_ren : Go.Shelf.Ren := ⟨fun | 279 => 121 | 316 => 134 | n => n, fun | 9 => 9 | 168 => 200 | 75 => 62 | 210 => 213 | 3 => 3 | 4 => 4 | 37 => 34 | 0 => 0 | 127 => 179 | 80 => 167 | 5 => 5 | n => n, fun | 15 => 6 | n => n⟩
theorem Tryz.laysM279 : Go.Proofs.LaysM.n279 Tryz.prog Tryz.laysM279_ren := {
  mixed := by kernel_rfl
  f279 := Tryz.func121.trans (congrArg some (by kernel_rfl))
  f316 := Tryz.func134.trans (congrArg some (by kernel_rfl))
  t0 := Tryz.underlying0
  a0 := Tryz.isAgg0
  z0 := Tryz.sizeOf0
  v0 := Tryz.zeroValue0
  t3 := Tryz.underlying3
  a3 := Tryz.isAgg3
  z3 := Tryz.sizeOf3
  v3 := Tryz.zeroValue3
  t4 := Tryz.underlying4
  a4 := Tryz.isAgg4
  z4 := Tryz.sizeOf4
  v4 := Tryz.zeroValue4
  t9 := Tryz.underlying9
  a9 := Tryz.isAgg9
  z9 := Tryz.sizeOf9
  v9 := Tryz.zeroValue9
  t37 := Tryz.underlying34
  a37 := Tryz.isAgg34
  z37 := Tryz.sizeOf34
  v37 := Tryz.zeroValue34
  t75 := Tryz.underlying62
  a75 := Tryz.isAgg62
  z75 := Tryz.sizeOf62
  v75 := Tryz.zeroValue62
  t127 := Tryz.underlying179
  a127 := Tryz.isAgg179
  z127 := Tryz.sizeOf179
  v127 := Tryz.zeroValue179
  t168 := Tryz.underlying200
  a168 := Tryz.isAgg200
  z168 := Tryz.sizeOf200
  v168 := Tryz.zeroValue200
  t210 := Tryz.underlying213
  a210 := Tryz.isAgg213
  z210 := Tryz.sizeOf213
  v210 := Tryz.zeroValue213
  g15 := by kernel_rfl
  t5 := Tryz.underlying5
  a5 := Tryz.isAgg5
  z5 := Tryz.sizeOf5
  v5 := Tryz.zeroValue5
  t80 := Tryz.underlying167
  a80 := Tryz.isAgg167
  z80 := Tryz.sizeOf167
  v80 := Tryz.zeroValue167
  i0 := by kernel_rfl
  i3 := by kernel_rfl
  i4 := by kernel_rfl
  i5 := by kernel_rfl
  i9 := by kernel_rfl
  i37 := by kernel_rfl
  i75 := by kernel_rfl
  i80 := by kernel_rfl
  i127 := by kernel_rfl
  i168 := by kernel_rfl
  i210 := by kernel_rfl
  m15 := by kernel_rfl }
open Go.RowKit in
/-- strconv.syntaxError: '&NumError{fn, stringslite.Clone(str), ErrSyntax}': A POINTER TO A NEW BLOCK that holds fn, str's bytes, and what the variable ErrSyntax holds. Of what was there nothing has turned. (LAID: no walk: one application.) -/
theorem Tryz.strconv_syntaxError (fn s : ByteArray) (ev : Value) (w : World) (hlim : s.size ≤ 281474976710656) (hv : w.cell? ⟨6, 0, none⟩ = some ev) (hev : ev = .nilIface ∨ ∃ te pe, ev = .iface te pe) :
    Calls Tryz.prog 121 #[.string fn, .string s] w fun e w' => ∃ N, e = .returned (.pointer (some ⟨N, 0, none⟩)) ∧ w.heap.size ≤ N ∧ w'.heap[N]? = some (.cells #[.string fn, .string s, ev] 213 (0, 0)) ∧ Below w.heap.size w w' := Any.strconv_syntaxError Tryz.laysM279 fn s ev w hlim hv hev
def Tryz.laysC245_ren : Go.Shelf.Ren := ⟨fun | 245 => 106 | 279 => 121 | 280 => 122 | 281 => 123 | 282 => 124 | 316 => 134 | 171 => 84 | 205 => 135 | 243 => 108 | 246 => 125 | 283 => 136 | 284 => 137 | 285 => 138 | 286 => 139 | 129 => 142 | 317 => 141 | 318 => 143 | 319 => 144 | 320 => 145 | 337 => 146 | 338 => 147 | n => n, fun | 9 => 9 | 3 => 3 | 75 => 62 | 167 => 196 | 4 => 4 | 168 => 200 | 210 => 213 | 37 => 34 | 0 => 0 | 127 => 179 | 145 => 222 | 143 => 220 | 2 => 2 | 171 => 215 | 53 => 197 | 5 => 5 | 173 => 218 | 212 => 225 | 51 => 170 | 20 => 20 | 213 => 226 | 46 => 181 | 232 => 229 | 233 => 230 | 80 => 167 | n => n, fun | 15 => 6 | 16 => 7 | 17 => 9 | 18 => 10 | 19 => 11 | n => n⟩
theorem Tryz.laysC245 : Go.Proofs.LaysC.n245 Tryz.prog Tryz.laysC245_ren := {
  mixed := by kernel_rfl
  f129 := Tryz.func142.trans (congrArg some (by kernel_rfl))
  f171 := Tryz.func84.trans (congrArg some (by kernel_rfl))
  f205 := Tryz.func135.trans (congrArg some (by kernel_rfl))
  f243 := Tryz.func108.trans (congrArg some (by kernel_rfl))
  f245 := Tryz.func106.trans (congrArg some (by kernel_rfl))
  f246 := Tryz.func125.trans (congrArg some (by kernel_rfl))
  f279 := Tryz.func121.trans (congrArg some (by kernel_rfl))
  f280 := Tryz.func122.trans (congrArg some (by kernel_rfl))
  f281 := Tryz.func123.trans (congrArg some (by kernel_rfl))
  f282 := Tryz.func124.trans (congrArg some (by kernel_rfl))
  f283 := Tryz.func136.trans (congrArg some (by kernel_rfl))
  f284 := Tryz.func137.trans (congrArg some (by kernel_rfl))
  f285 := Tryz.func138.trans (congrArg some (by kernel_rfl))
  f286 := Tryz.func139.trans (congrArg some (by kernel_rfl))
  f316 := Tryz.func134.trans (congrArg some (by kernel_rfl))
  f317 := Tryz.func141.trans (congrArg some (by kernel_rfl))
  f318 := Tryz.func143.trans (congrArg some (by kernel_rfl))
  f319 := Tryz.func144.trans (congrArg some (by kernel_rfl))
  f320 := Tryz.func145.trans (congrArg some (by kernel_rfl))
  f337 := Tryz.func146.trans (congrArg some (by kernel_rfl))
  f338 := Tryz.func147.trans (congrArg some (by kernel_rfl))
  t0 := Tryz.underlying0
  a0 := Tryz.isAgg0
  z0 := Tryz.sizeOf0
  v0 := Tryz.zeroValue0
  t2 := Tryz.underlying2
  a2 := Tryz.isAgg2
  z2 := Tryz.sizeOf2
  v2 := Tryz.zeroValue2
  t3 := Tryz.underlying3
  a3 := Tryz.isAgg3
  z3 := Tryz.sizeOf3
  v3 := Tryz.zeroValue3
  t4 := Tryz.underlying4
  a4 := Tryz.isAgg4
  z4 := Tryz.sizeOf4
  v4 := Tryz.zeroValue4
  t5 := Tryz.underlying5
  a5 := Tryz.isAgg5
  z5 := Tryz.sizeOf5
  v5 := Tryz.zeroValue5
  t9 := Tryz.underlying9
  a9 := Tryz.isAgg9
  z9 := Tryz.sizeOf9
  v9 := Tryz.zeroValue9
  t20 := Tryz.underlying20
  a20 := Tryz.isAgg20
  z20 := Tryz.sizeOf20
  v20 := Tryz.zeroValue20
  t37 := Tryz.underlying34
  a37 := Tryz.isAgg34
  z37 := Tryz.sizeOf34
  v37 := Tryz.zeroValue34
  t46 := Tryz.underlying181
  a46 := Tryz.isAgg181
  z46 := Tryz.sizeOf181
  v46 := Tryz.zeroValue181
  t51 := Tryz.underlying170
  a51 := Tryz.isAgg170
  z51 := Tryz.sizeOf170
  v51 := Tryz.zeroValue170
  t53 := Tryz.underlying197
  a53 := Tryz.isAgg197
  z53 := Tryz.sizeOf197
  v53 := Tryz.zeroValue197
  t75 := Tryz.underlying62
  a75 := Tryz.isAgg62
  z75 := Tryz.sizeOf62
  v75 := Tryz.zeroValue62
  t127 := Tryz.underlying179
  a127 := Tryz.isAgg179
  z127 := Tryz.sizeOf179
  v127 := Tryz.zeroValue179
  t143 := Tryz.underlying220
  a143 := Tryz.isAgg220
  z143 := Tryz.sizeOf220
  v143 := Tryz.zeroValue220
  t145 := Tryz.underlying222
  a145 := Tryz.isAgg222
  z145 := Tryz.sizeOf222
  v145 := Tryz.zeroValue222
  t167 := Tryz.underlying196
  a167 := Tryz.isAgg196
  z167 := Tryz.sizeOf196
  v167 := Tryz.zeroValue196
  t168 := Tryz.underlying200
  a168 := Tryz.isAgg200
  z168 := Tryz.sizeOf200
  v168 := Tryz.zeroValue200
  t171 := Tryz.underlying215
  a171 := Tryz.isAgg215
  z171 := Tryz.sizeOf215
  v171 := Tryz.zeroValue215
  t173 := Tryz.underlying218
  a173 := Tryz.isAgg218
  z173 := Tryz.sizeOf218
  v173 := Tryz.zeroValue218
  t210 := Tryz.underlying213
  a210 := Tryz.isAgg213
  z210 := Tryz.sizeOf213
  v210 := Tryz.zeroValue213
  t212 := Tryz.underlying225
  a212 := Tryz.isAgg225
  z212 := Tryz.sizeOf225
  v212 := Tryz.zeroValue225
  t213 := Tryz.underlying226
  a213 := Tryz.isAgg226
  z213 := Tryz.sizeOf226
  t232 := Tryz.underlying229
  a232 := Tryz.isAgg229
  z232 := Tryz.sizeOf229
  v232 := Tryz.zeroValue229
  t233 := Tryz.underlying230
  a233 := Tryz.isAgg230
  z233 := Tryz.sizeOf230
  v233 := Tryz.zeroValue230
  g15 := by kernel_rfl
  g16 := by kernel_rfl
  g17 := by kernel_rfl
  g18 := by kernel_rfl
  g19 := by kernel_rfl
  t80 := Tryz.underlying167
  a80 := Tryz.isAgg167
  z80 := Tryz.sizeOf167
  v80 := Tryz.zeroValue167
  i0 := by kernel_rfl
  i2 := by kernel_rfl
  i3 := by kernel_rfl
  i4 := by kernel_rfl
  i5 := by kernel_rfl
  i9 := by kernel_rfl
  i20 := by kernel_rfl
  i37 := by kernel_rfl
  i46 := by kernel_rfl
  i51 := by kernel_rfl
  i53 := by kernel_rfl
  i75 := by kernel_rfl
  i80 := by kernel_rfl
  i127 := by kernel_rfl
  i143 := by kernel_rfl
  i145 := by kernel_rfl
  i167 := by kernel_rfl
  i168 := by kernel_rfl
  i171 := by kernel_rfl
  i173 := by kernel_rfl
  i210 := by kernel_rfl
  i212 := by kernel_rfl
  i232 := by kernel_rfl
  i233 := by kernel_rfl
  m15 := by kernel_rfl
  m16 := by kernel_rfl
  m17 := by kernel_rfl
  m18 := by kernel_rfl
  m19 := by kernel_rfl
  c0 := by kernel_rfl
  c2 := by kernel_rfl
  c3 := by kernel_rfl
  c4 := by kernel_rfl
  c5 := by kernel_rfl
  c9 := by kernel_rfl
  c20 := by kernel_rfl
  c37 := by kernel_rfl
  c46 := by kernel_rfl
  c51 := by kernel_rfl
  c53 := by kernel_rfl
  c75 := by kernel_rfl
  c80 := by kernel_rfl
  c127 := by kernel_rfl
  c143 := by kernel_rfl
  c145 := by kernel_rfl
  c167 := by kernel_rfl
  c168 := by kernel_rfl
  c171 := by kernel_rfl
  c173 := by kernel_rfl
  c210 := by kernel_rfl
  c212 := by kernel_rfl
  c213 := by kernel_rfl
  c232 := by kernel_rfl
  c233 := by kernel_rfl }
open Go.RowKit in
/-- strconv.toError, at the inner package's ErrSyntax: 'syntaxError(fn, s)' as an error: A *NumError IN A NEW BLOCK. (LAID: no walk: one application.) -/
theorem Tryz.strconv_toError_syntax (fn s : ByteArray) (base bits : Int) (ev : Value) (w : World) (hlim : s.size ≤ 281474976710656) (hv : w.cell? ⟨6, 0, none⟩ = some ev) (hev : ev = .nilIface ∨ ∃ te pe, ev = .iface te pe) :
    Calls Tryz.prog 106 #[.string fn, .string s, .int .i64 base, .int .i64 bits, .iface 196 (.int .i64 2)] w fun e w' => ∃ N, e = .returned (.iface 200 (.pointer (some ⟨N, 0, none⟩))) ∧ w.heap.size ≤ N ∧ w'.heap[N]? = some (.cells #[.string fn, .string s, ev] 213 (0, 0)) ∧ Below w.heap.size w w' := Any.strconv_toError_syntax Tryz.laysC245 fn s base bits ev w hlim hv hev
def Tryz.lays321_ren : Go.Shelf.Ren := ⟨fun | 321 => 132 | n => n, fun | 5 => 5 | n => n, fun | n => n⟩
theorem Tryz.lays321 : Go.Proofs.Lays.n321 Tryz.prog Tryz.lays321_ren := {
  mixed := by kernel_rfl
  f321 := Tryz.func132.trans (congrArg some (by kernel_rfl))
  t5 := Tryz.underlying5
  a5 := Tryz.isAgg5
  z5 := Tryz.sizeOf5
  v5 := Tryz.zeroValue5 }
open Go.RowKit in
/-- internal/strconv.lower: 'c | ('x' - 'X')': the bit 32 set. The world is as it was. (LAID: no walk: one application.) -/
theorem Tryz.internal_strconv_lower (c : Int) (w : World) :
    Calls Tryz.prog 132 #[.int .u8 c] w fun e w' => e = .returned (.int .u8 (bits .or .u8 c 32)) ∧ w' = w := Any.internal_strconv_lower Tryz.lays321 c w
def Tryz.lays287_ren : Go.Shelf.Ren := ⟨fun | 287 => 120 | 321 => 132 | 322 => 133 | n => n, fun | 9 => 9 | 3 => 3 | 53 => 197 | 75 => 62 | 4 => 4 | 167 => 196 | 5 => 5 | 46 => 181 | 37 => 34 | 0 => 0 | 21 => 21 | 80 => 167 | n => n, fun | n => n⟩
theorem Tryz.lays287 : Go.Proofs.Lays.n287 Tryz.prog Tryz.lays287_ren := {
  mixed := by kernel_rfl
  f287 := Tryz.func120.trans (congrArg some (by kernel_rfl))
  f321 := Tryz.func132.trans (congrArg some (by kernel_rfl))
  f322 := Tryz.func133.trans (congrArg some (by kernel_rfl))
  t0 := Tryz.underlying0
  a0 := Tryz.isAgg0
  z0 := Tryz.sizeOf0
  v0 := Tryz.zeroValue0
  t3 := Tryz.underlying3
  a3 := Tryz.isAgg3
  z3 := Tryz.sizeOf3
  v3 := Tryz.zeroValue3
  t4 := Tryz.underlying4
  a4 := Tryz.isAgg4
  z4 := Tryz.sizeOf4
  v4 := Tryz.zeroValue4
  t5 := Tryz.underlying5
  a5 := Tryz.isAgg5
  z5 := Tryz.sizeOf5
  v5 := Tryz.zeroValue5
  t9 := Tryz.underlying9
  a9 := Tryz.isAgg9
  z9 := Tryz.sizeOf9
  v9 := Tryz.zeroValue9
  t21 := Tryz.underlying21
  a21 := Tryz.isAgg21
  z21 := Tryz.sizeOf21
  v21 := Tryz.zeroValue21
  t37 := Tryz.underlying34
  a37 := Tryz.isAgg34
  z37 := Tryz.sizeOf34
  v37 := Tryz.zeroValue34
  t46 := Tryz.underlying181
  a46 := Tryz.isAgg181
  z46 := Tryz.sizeOf181
  v46 := Tryz.zeroValue181
  t53 := Tryz.underlying197
  a53 := Tryz.isAgg197
  z53 := Tryz.sizeOf197
  v53 := Tryz.zeroValue197
  t75 := Tryz.underlying62
  a75 := Tryz.isAgg62
  z75 := Tryz.sizeOf62
  v75 := Tryz.zeroValue62
  t167 := Tryz.underlying196
  a167 := Tryz.isAgg196
  z167 := Tryz.sizeOf196
  v167 := Tryz.zeroValue196 }
open Go.RowKit in
/-- internal/strconv.ParseUint(s, 10, 0), s NOT EMPTY: 'Lib.parseUint10 0' OF ITS BYTES: the number; or (0, ErrSyntax); or (the greatest uint64, ErrRange). The world behind the call: the one new row that '[]byte(s)' lays. (LAID: no walk: one application.) -/
theorem Tryz.internal_strconv_ParseUint_10 (t : ByteArray) (hne : t.size ≠ 0) (hmax : t.size ≤ 9223372036854775806) (w : World) :
    Calls Tryz.prog 120 #[.string t, .int .i64 10, .int .i64 0] w fun e w' => e = .returned (Lib.uintTuple 196 (Lib.parseUint10 0 t.data.toList)) ∧ w' = Lib.bytesWorld w 5 t := Any.internal_strconv_ParseUint_10 Tryz.lays287 t hne hmax w
open Go.RowKit in
/-- internal/strconv.ParseUint("", 10, 0): (0, ErrSyntax). The world is as it was. (LAID: no walk: one application.) -/
theorem Tryz.internal_strconv_ParseUint_10_empty (w : World) :
    Calls Tryz.prog 120 #[.string ⟨#[]⟩, .int .i64 10, .int .i64 0] w fun e w' => e = .returned (Lib.uintTuple 196 .syntax) ∧ w' = w := Any.internal_strconv_ParseUint_10_empty Tryz.lays287 w
open Go.RowKit in
/-- internal/strconv.ParseUint(s, 10, 0): 'Lib.parseMag' OF ITS BYTES. The world: as it was (the empty string), or with the one new row that '[]byte(s)' lays. (LAID: no walk: one application.) -/
theorem Tryz.internal_strconv_ParseUint_10_any (t : ByteArray) (hmax : t.size ≤ 9223372036854775806) (w : World) :
    Calls Tryz.prog 120 #[.string t, .int .i64 10, .int .i64 0] w fun e w' => e = .returned (Lib.uintTuple 196 (Lib.parseMag t.data.toList)) ∧ (w' = w ∨ w' = Lib.bytesWorld w 5 t) := Any.internal_strconv_ParseUint_10_any Tryz.lays287 t hmax w
def Tryz.laysC247_ren : Go.Shelf.Ren := ⟨fun | 247 => 105 | 287 => 120 | 321 => 132 | 322 => 133 | n => n, fun | 9 => 9 | 3 => 3 | 2 => 2 | 75 => 62 | 4 => 4 | 167 => 196 | 5 => 5 | 53 => 197 | 175 => 198 | 46 => 181 | 37 => 34 | 0 => 0 | 21 => 21 | 80 => 167 | n => n, fun | n => n⟩
theorem Tryz.laysC247 : Go.Proofs.LaysC.n247 Tryz.prog Tryz.laysC247_ren := {
  mixed := by kernel_rfl
  f247 := Tryz.func105.trans (congrArg some (by kernel_rfl))
  f287 := Tryz.func120.trans (congrArg some (by kernel_rfl))
  f321 := Tryz.func132.trans (congrArg some (by kernel_rfl))
  f322 := Tryz.func133.trans (congrArg some (by kernel_rfl))
  t0 := Tryz.underlying0
  a0 := Tryz.isAgg0
  z0 := Tryz.sizeOf0
  v0 := Tryz.zeroValue0
  t2 := Tryz.underlying2
  a2 := Tryz.isAgg2
  z2 := Tryz.sizeOf2
  v2 := Tryz.zeroValue2
  t3 := Tryz.underlying3
  a3 := Tryz.isAgg3
  z3 := Tryz.sizeOf3
  v3 := Tryz.zeroValue3
  t4 := Tryz.underlying4
  a4 := Tryz.isAgg4
  z4 := Tryz.sizeOf4
  v4 := Tryz.zeroValue4
  t5 := Tryz.underlying5
  a5 := Tryz.isAgg5
  z5 := Tryz.sizeOf5
  v5 := Tryz.zeroValue5
  t9 := Tryz.underlying9
  a9 := Tryz.isAgg9
  z9 := Tryz.sizeOf9
  v9 := Tryz.zeroValue9
  t21 := Tryz.underlying21
  a21 := Tryz.isAgg21
  z21 := Tryz.sizeOf21
  v21 := Tryz.zeroValue21
  t37 := Tryz.underlying34
  a37 := Tryz.isAgg34
  z37 := Tryz.sizeOf34
  v37 := Tryz.zeroValue34
  t46 := Tryz.underlying181
  a46 := Tryz.isAgg181
  z46 := Tryz.sizeOf181
  v46 := Tryz.zeroValue181
  t53 := Tryz.underlying197
  a53 := Tryz.isAgg197
  z53 := Tryz.sizeOf197
  v53 := Tryz.zeroValue197
  t75 := Tryz.underlying62
  a75 := Tryz.isAgg62
  z75 := Tryz.sizeOf62
  v75 := Tryz.zeroValue62
  t167 := Tryz.underlying196
  a167 := Tryz.isAgg196
  z167 := Tryz.sizeOf196
  v167 := Tryz.zeroValue196
  t175 := Tryz.underlying198
  a175 := Tryz.isAgg198
  z175 := Tryz.sizeOf198
  v175 := Tryz.zeroValue198
  t80 := Tryz.underlying167
  a80 := Tryz.isAgg167
  z80 := Tryz.sizeOf167
  v80 := Tryz.zeroValue167
  i0 := by kernel_rfl
  i2 := by kernel_rfl
  i3 := by kernel_rfl
  i4 := by kernel_rfl
  i5 := by kernel_rfl
  i9 := by kernel_rfl
  i21 := by kernel_rfl
  i37 := by kernel_rfl
  i46 := by kernel_rfl
  i53 := by kernel_rfl
  i75 := by kernel_rfl
  i80 := by kernel_rfl
  i167 := by kernel_rfl
  i175 := by kernel_rfl
  c0 := by kernel_rfl
  c2 := by kernel_rfl
  c3 := by kernel_rfl
  c4 := by kernel_rfl
  c5 := by kernel_rfl
  c9 := by kernel_rfl
  c21 := by kernel_rfl
  c37 := by kernel_rfl
  c46 := by kernel_rfl
  c53 := by kernel_rfl
  c75 := by kernel_rfl
  c80 := by kernel_rfl
  c167 := by kernel_rfl
  c175 := by kernel_rfl }
open Go.RowKit in
/-- internal/strconv.ParseInt(s, 10, 0), s NOT EMPTY: 'Lib.atoiAll' OF ITS BYTES: (the number, nil); (0, ErrSyntax); (the greatest or the least int64 by the sign, ErrRange). The world: as it was, or with the one new row that '[]byte(..)' lays. (LAID: no walk: one application.) -/
theorem Tryz.internal_strconv_ParseInt_10 (s : ByteArray) (hne : s.size ≠ 0) (hmax : s.size ≤ 9223372036854775806) (w : World) :
    Calls Tryz.prog 105 #[.string s, .int .i64 10, .int .i64 0] w fun e w' => e = .returned (Lib.intTuple 196 (Lib.atoiSat s.data.toList) (Lib.atoiAll s.data.toList)) ∧ (w' = w ∨ ∃ t, w' = Lib.bytesWorld w 5 t) := Any.internal_strconv_ParseInt_10 Tryz.laysC247 s hne hmax w
def Tryz.laysM280_ren : Go.Shelf.Ren := ⟨fun | 280 => 122 | 316 => 134 | n => n, fun | 9 => 9 | 168 => 200 | 75 => 62 | 210 => 213 | 3 => 3 | 4 => 4 | 37 => 34 | 0 => 0 | 127 => 179 | 80 => 167 | 5 => 5 | n => n, fun | 16 => 7 | n => n⟩
theorem Tryz.laysM280 : Go.Proofs.LaysM.n280 Tryz.prog Tryz.laysM280_ren := {
  mixed := by kernel_rfl
  f280 := Tryz.func122.trans (congrArg some (by kernel_rfl))
  f316 := Tryz.func134.trans (congrArg some (by kernel_rfl))
  t0 := Tryz.underlying0
  a0 := Tryz.isAgg0
  z0 := Tryz.sizeOf0
  v0 := Tryz.zeroValue0
  t3 := Tryz.underlying3
  a3 := Tryz.isAgg3
  z3 := Tryz.sizeOf3
  v3 := Tryz.zeroValue3
  t4 := Tryz.underlying4
  a4 := Tryz.isAgg4
  z4 := Tryz.sizeOf4
  v4 := Tryz.zeroValue4
  t9 := Tryz.underlying9
  a9 := Tryz.isAgg9
  z9 := Tryz.sizeOf9
  v9 := Tryz.zeroValue9
  t37 := Tryz.underlying34
  a37 := Tryz.isAgg34
  z37 := Tryz.sizeOf34
  v37 := Tryz.zeroValue34
  t75 := Tryz.underlying62
  a75 := Tryz.isAgg62
  z75 := Tryz.sizeOf62
  v75 := Tryz.zeroValue62
  t127 := Tryz.underlying179
  a127 := Tryz.isAgg179
  z127 := Tryz.sizeOf179
  v127 := Tryz.zeroValue179
  t168 := Tryz.underlying200
  a168 := Tryz.isAgg200
  z168 := Tryz.sizeOf200
  v168 := Tryz.zeroValue200
  t210 := Tryz.underlying213
  a210 := Tryz.isAgg213
  z210 := Tryz.sizeOf213
  v210 := Tryz.zeroValue213
  g16 := by kernel_rfl
  t5 := Tryz.underlying5
  a5 := Tryz.isAgg5
  z5 := Tryz.sizeOf5
  v5 := Tryz.zeroValue5
  t80 := Tryz.underlying167
  a80 := Tryz.isAgg167
  z80 := Tryz.sizeOf167
  v80 := Tryz.zeroValue167
  i0 := by kernel_rfl
  i3 := by kernel_rfl
  i4 := by kernel_rfl
  i5 := by kernel_rfl
  i9 := by kernel_rfl
  i37 := by kernel_rfl
  i75 := by kernel_rfl
  i80 := by kernel_rfl
  i127 := by kernel_rfl
  i168 := by kernel_rfl
  i210 := by kernel_rfl
  m16 := by kernel_rfl }
open Go.RowKit in
/-- strconv.rangeError: '&NumError{fn, stringslite.Clone(str), ErrRange}': A POINTER TO A NEW BLOCK that holds fn, str's bytes, and what the variable ErrRange holds. Of what was there nothing has turned. (LAID: no walk: one application.) -/
theorem Tryz.strconv_rangeError (fn s : ByteArray) (ev : Value) (w : World) (hlim : s.size ≤ 281474976710656) (hv : w.cell? ⟨7, 0, none⟩ = some ev) (hev : ev = .nilIface ∨ ∃ te pe, ev = .iface te pe) :
    Calls Tryz.prog 122 #[.string fn, .string s] w fun e w' => ∃ N, e = .returned (.pointer (some ⟨N, 0, none⟩)) ∧ w.heap.size ≤ N ∧ w'.heap[N]? = some (.cells #[.string fn, .string s, ev] 213 (0, 0)) ∧ Below w.heap.size w w' := Any.strconv_rangeError Tryz.laysM280 fn s ev w hlim hv hev
open Go.RowKit in
/-- strconv.toError, at the inner package's ErrRange: 'rangeError(fn, s)' as an error: A *NumError IN A NEW BLOCK. (LAID: no walk: one application.) -/
theorem Tryz.strconv_toError_range (fn s : ByteArray) (base bits : Int) (ev : Value) (w : World) (hlim : s.size ≤ 281474976710656) (hv : w.cell? ⟨7, 0, none⟩ = some ev) (hev : ev = .nilIface ∨ ∃ te pe, ev = .iface te pe) :
    Calls Tryz.prog 106 #[.string fn, .string s, .int .i64 base, .int .i64 bits, .iface 196 (.int .i64 1)] w fun e w' => ∃ N, e = .returned (.iface 200 (.pointer (some ⟨N, 0, none⟩))) ∧ w.heap.size ≤ N ∧ w'.heap[N]? = some (.cells #[.string fn, .string s, ev] 213 (0, 0)) ∧ Below w.heap.size w w' := Any.strconv_toError_range Tryz.laysC245 fn s base bits ev w hlim hv hev
open Go.RowKit in
/-- internal/strconv.ParseUint("", base, bitSize): (0, ErrSyntax): the first test of the text. The world is as it was. (LAID: no walk: one application.) -/
theorem Tryz.internal_strconv_ParseUint_empty (base bits : Int) (w : World) :
    Calls Tryz.prog 120 #[.string ⟨#[]⟩, .int .i64 base, .int .i64 bits] w fun e w' => e = .returned (.tuple #[.int .u64 0, .iface 196 (.int .i64 2)]) ∧ w' = w := Any.internal_strconv_ParseUint_empty Tryz.lays287 base bits w
open Go.RowKit in
/-- internal/strconv.ParseUint(s, 10, 64), s NOT EMPTY: 'Lib.parseUint10 0' OF ITS BYTES: the number; or (0, ErrSyntax); or (the greatest uint64, ErrRange). The world behind the call: the one new row that '[]byte(s)' lays. (LAID: no walk: one application.) -/
theorem Tryz.internal_strconv_ParseUint_10_b64 (t : ByteArray) (hne : t.size ≠ 0) (hmax : t.size ≤ 9223372036854775806) (w : World) :
    Calls Tryz.prog 120 #[.string t, .int .i64 10, .int .i64 64] w fun e w' => e = .returned (Lib.uintTuple 196 (Lib.parseUint10 0 t.data.toList)) ∧ w' = Lib.bytesWorld w 5 t := Any.internal_strconv_ParseUint_10_b64 Tryz.lays287 t hne hmax w
open Go.RowKit in
/-- internal/strconv.ParseUint(s, 10, 32), s NOT EMPTY: 'Lib.parseUintM 4294967295 0' OF ITS BYTES: the number; or (0, ErrSyntax); or (the greatest uint32, ErrRange). The world behind the call: the one new row that '[]byte(s)' lays. (LAID: no walk: one application.) -/
theorem Tryz.internal_strconv_ParseUint_10_b32 (t : ByteArray) (hne : t.size ≠ 0) (hmax : t.size ≤ 9223372036854775806) (w : World) :
    Calls Tryz.prog 120 #[.string t, .int .i64 10, .int .i64 32] w fun e w' => e = .returned (Lib.uintTupleM 196 4294967295 (Lib.parseUintM 4294967295 0 t.data.toList)) ∧ w' = Lib.bytesWorld w 5 t := Any.internal_strconv_ParseUint_10_b32 Tryz.lays287 t hne hmax w
open Go.RowKit in
/-- internal/strconv.ParseUint(s, 10, 16), s NOT EMPTY: 'Lib.parseUintM 65535 0' OF ITS BYTES: the number; or (0, ErrSyntax); or (the greatest uint16, ErrRange). The world behind the call: the one new row that '[]byte(s)' lays. (LAID: no walk: one application.) -/
theorem Tryz.internal_strconv_ParseUint_10_b16 (t : ByteArray) (hne : t.size ≠ 0) (hmax : t.size ≤ 9223372036854775806) (w : World) :
    Calls Tryz.prog 120 #[.string t, .int .i64 10, .int .i64 16] w fun e w' => e = .returned (Lib.uintTupleM 196 65535 (Lib.parseUintM 65535 0 t.data.toList)) ∧ w' = Lib.bytesWorld w 5 t := Any.internal_strconv_ParseUint_10_b16 Tryz.lays287 t hne hmax w
open Go.RowKit in
/-- internal/strconv.ParseUint(s, 10, 8), s NOT EMPTY: 'Lib.parseUintM 255 0' OF ITS BYTES: the number; or (0, ErrSyntax); or (the greatest uint8, ErrRange). The world behind the call: the one new row that '[]byte(s)' lays. (LAID: no walk: one application.) -/
theorem Tryz.internal_strconv_ParseUint_10_b8 (t : ByteArray) (hne : t.size ≠ 0) (hmax : t.size ≤ 9223372036854775806) (w : World) :
    Calls Tryz.prog 120 #[.string t, .int .i64 10, .int .i64 8] w fun e w' => e = .returned (Lib.uintTupleM 196 255 (Lib.parseUintM 255 0 t.data.toList)) ∧ w' = Lib.bytesWorld w 5 t := Any.internal_strconv_ParseUint_10_b8 Tryz.lays287 t hne hmax w
open Go.RowKit in
/-- internal/strconv.ParseUint(s, 10, 0): 'Lib.parseUintB 64' OF ITS BYTES. The world: as it was (the empty string), or with the one new row that '[]byte(s)' lays. (LAID: no walk: one application.) -/
theorem Tryz.internal_strconv_ParseUint_10_at0 (t : ByteArray) (hmax : t.size ≤ 9223372036854775806) (w : World) :
    Calls Tryz.prog 120 #[.string t, .int .i64 10, .int .i64 0] w fun e w' => e = .returned (Lib.uintTupleM 196 18446744073709551615 (Lib.parseUintB 64 t.data.toList)) ∧ (w' = w ∨ w' = Lib.bytesWorld w 5 t) := Any.internal_strconv_ParseUint_10_at0 Tryz.lays287 t hmax w
open Go.RowKit in
/-- internal/strconv.ParseUint(s, 10, 64): 'Lib.parseUintB 64' OF ITS BYTES. The world: as it was (the empty string), or with the one new row that '[]byte(s)' lays. (LAID: no walk: one application.) -/
theorem Tryz.internal_strconv_ParseUint_10_at64 (t : ByteArray) (hmax : t.size ≤ 9223372036854775806) (w : World) :
    Calls Tryz.prog 120 #[.string t, .int .i64 10, .int .i64 64] w fun e w' => e = .returned (Lib.uintTupleM 196 18446744073709551615 (Lib.parseUintB 64 t.data.toList)) ∧ (w' = w ∨ w' = Lib.bytesWorld w 5 t) := Any.internal_strconv_ParseUint_10_at64 Tryz.lays287 t hmax w
open Go.RowKit in
/-- internal/strconv.ParseUint(s, 10, 32): 'Lib.parseUintB 32' OF ITS BYTES. The world: as it was (the empty string), or with the one new row that '[]byte(s)' lays. (LAID: no walk: one application.) -/
theorem Tryz.internal_strconv_ParseUint_10_at32 (t : ByteArray) (hmax : t.size ≤ 9223372036854775806) (w : World) :
    Calls Tryz.prog 120 #[.string t, .int .i64 10, .int .i64 32] w fun e w' => e = .returned (Lib.uintTupleM 196 4294967295 (Lib.parseUintB 32 t.data.toList)) ∧ (w' = w ∨ w' = Lib.bytesWorld w 5 t) := Any.internal_strconv_ParseUint_10_at32 Tryz.lays287 t hmax w
open Go.RowKit in
/-- internal/strconv.ParseUint(s, 10, 16): 'Lib.parseUintB 16' OF ITS BYTES. The world: as it was (the empty string), or with the one new row that '[]byte(s)' lays. (LAID: no walk: one application.) -/
theorem Tryz.internal_strconv_ParseUint_10_at16 (t : ByteArray) (hmax : t.size ≤ 9223372036854775806) (w : World) :
    Calls Tryz.prog 120 #[.string t, .int .i64 10, .int .i64 16] w fun e w' => e = .returned (Lib.uintTupleM 196 65535 (Lib.parseUintB 16 t.data.toList)) ∧ (w' = w ∨ w' = Lib.bytesWorld w 5 t) := Any.internal_strconv_ParseUint_10_at16 Tryz.lays287 t hmax w
open Go.RowKit in
/-- internal/strconv.ParseUint(s, 10, 8): 'Lib.parseUintB 8' OF ITS BYTES. The world: as it was (the empty string), or with the one new row that '[]byte(s)' lays. (LAID: no walk: one application.) -/
theorem Tryz.internal_strconv_ParseUint_10_at8 (t : ByteArray) (hmax : t.size ≤ 9223372036854775806) (w : World) :
    Calls Tryz.prog 120 #[.string t, .int .i64 10, .int .i64 8] w fun e w' => e = .returned (Lib.uintTupleM 196 255 (Lib.parseUintB 8 t.data.toList)) ∧ (w' = w ∨ w' = Lib.bytesWorld w 5 t) := Any.internal_strconv_ParseUint_10_at8 Tryz.lays287 t hmax w
open Go.RowKit in
/-- internal/strconv.ParseInt(s, 10, 64), s NOT EMPTY: 'Lib.parseIntB 64' OF ITS BYTES: (the number, nil); (0, ErrSyntax); (the greatest or the least int64 by the sign, ErrRange). The world: as it was, or with the one new row that '[]byte(..)' lays. (LAID: no walk: one application.) -/
theorem Tryz.internal_strconv_ParseInt_10_at64 (s : ByteArray) (hne : s.size ≠ 0) (hmax : s.size ≤ 9223372036854775806) (w : World) :
    Calls Tryz.prog 105 #[.string s, .int .i64 10, .int .i64 64] w fun e w' => e = .returned (Lib.intTuple 196 (Lib.intSat 64 s.data.toList) (Lib.parseIntB 64 s.data.toList)) ∧ (w' = w ∨ ∃ t, w' = Lib.bytesWorld w 5 t) := Any.internal_strconv_ParseInt_10_at64 Tryz.laysC247 s hne hmax w
open Go.RowKit in
/-- internal/strconv.ParseInt(s, 10, 32), s NOT EMPTY: 'Lib.parseIntB 32' OF ITS BYTES: (the number, nil); (0, ErrSyntax); (the greatest or the least int32 by the sign, ErrRange). The world: as it was, or with the one new row that '[]byte(..)' lays. (LAID: no walk: one application.) -/
theorem Tryz.internal_strconv_ParseInt_10_at32 (s : ByteArray) (hne : s.size ≠ 0) (hmax : s.size ≤ 9223372036854775806) (w : World) :
    Calls Tryz.prog 105 #[.string s, .int .i64 10, .int .i64 32] w fun e w' => e = .returned (Lib.intTuple 196 (Lib.intSat 32 s.data.toList) (Lib.parseIntB 32 s.data.toList)) ∧ (w' = w ∨ ∃ t, w' = Lib.bytesWorld w 5 t) := Any.internal_strconv_ParseInt_10_at32 Tryz.laysC247 s hne hmax w
open Go.RowKit in
/-- internal/strconv.ParseInt(s, 10, 16), s NOT EMPTY: 'Lib.parseIntB 16' OF ITS BYTES: (the number, nil); (0, ErrSyntax); (the greatest or the least int16 by the sign, ErrRange). The world: as it was, or with the one new row that '[]byte(..)' lays. (LAID: no walk: one application.) -/
theorem Tryz.internal_strconv_ParseInt_10_at16 (s : ByteArray) (hne : s.size ≠ 0) (hmax : s.size ≤ 9223372036854775806) (w : World) :
    Calls Tryz.prog 105 #[.string s, .int .i64 10, .int .i64 16] w fun e w' => e = .returned (Lib.intTuple 196 (Lib.intSat 16 s.data.toList) (Lib.parseIntB 16 s.data.toList)) ∧ (w' = w ∨ ∃ t, w' = Lib.bytesWorld w 5 t) := Any.internal_strconv_ParseInt_10_at16 Tryz.laysC247 s hne hmax w
open Go.RowKit in
/-- internal/strconv.ParseInt(s, 10, 8), s NOT EMPTY: 'Lib.parseIntB 8' OF ITS BYTES: (the number, nil); (0, ErrSyntax); (the greatest or the least int8 by the sign, ErrRange). The world: as it was, or with the one new row that '[]byte(..)' lays. (LAID: no walk: one application.) -/
theorem Tryz.internal_strconv_ParseInt_10_at8 (s : ByteArray) (hne : s.size ≠ 0) (hmax : s.size ≤ 9223372036854775806) (w : World) :
    Calls Tryz.prog 105 #[.string s, .int .i64 10, .int .i64 8] w fun e w' => e = .returned (Lib.intTuple 196 (Lib.intSat 8 s.data.toList) (Lib.parseIntB 8 s.data.toList)) ∧ (w' = w ∨ ∃ t, w' = Lib.bytesWorld w 5 t) := Any.internal_strconv_ParseInt_10_at8 Tryz.laysC247 s hne hmax w
open Go.RowKit in
/-- internal/strconv.ParseInt(s, 10, 0), AT EVERY STRING: 'Lib.parseIntB 64' OF ITS BYTES. (LAID: no walk: one application.) -/
theorem Tryz.internal_strconv_ParseInt_10_all0 (s : ByteArray) (hmax : s.size ≤ 9223372036854775806) (w : World) :
    Calls Tryz.prog 105 #[.string s, .int .i64 10, .int .i64 0] w fun e w' => e = .returned (Lib.intTuple 196 (Lib.intSat 64 s.data.toList) (Lib.parseIntB 64 s.data.toList)) ∧ (w' = w ∨ ∃ t, w' = Lib.bytesWorld w 5 t) := Any.internal_strconv_ParseInt_10_all0 Tryz.laysC247 s hmax w
open Go.RowKit in
/-- internal/strconv.ParseInt(s, 10, 64), AT EVERY STRING: 'Lib.parseIntB 64' OF ITS BYTES. (LAID: no walk: one application.) -/
theorem Tryz.internal_strconv_ParseInt_10_all64 (s : ByteArray) (hmax : s.size ≤ 9223372036854775806) (w : World) :
    Calls Tryz.prog 105 #[.string s, .int .i64 10, .int .i64 64] w fun e w' => e = .returned (Lib.intTuple 196 (Lib.intSat 64 s.data.toList) (Lib.parseIntB 64 s.data.toList)) ∧ (w' = w ∨ ∃ t, w' = Lib.bytesWorld w 5 t) := Any.internal_strconv_ParseInt_10_all64 Tryz.laysC247 s hmax w
open Go.RowKit in
/-- internal/strconv.ParseInt(s, 10, 32), AT EVERY STRING: 'Lib.parseIntB 32' OF ITS BYTES. (LAID: no walk: one application.) -/
theorem Tryz.internal_strconv_ParseInt_10_all32 (s : ByteArray) (hmax : s.size ≤ 9223372036854775806) (w : World) :
    Calls Tryz.prog 105 #[.string s, .int .i64 10, .int .i64 32] w fun e w' => e = .returned (Lib.intTuple 196 (Lib.intSat 32 s.data.toList) (Lib.parseIntB 32 s.data.toList)) ∧ (w' = w ∨ ∃ t, w' = Lib.bytesWorld w 5 t) := Any.internal_strconv_ParseInt_10_all32 Tryz.laysC247 s hmax w
open Go.RowKit in
/-- internal/strconv.ParseInt(s, 10, 16), AT EVERY STRING: 'Lib.parseIntB 16' OF ITS BYTES. (LAID: no walk: one application.) -/
theorem Tryz.internal_strconv_ParseInt_10_all16 (s : ByteArray) (hmax : s.size ≤ 9223372036854775806) (w : World) :
    Calls Tryz.prog 105 #[.string s, .int .i64 10, .int .i64 16] w fun e w' => e = .returned (Lib.intTuple 196 (Lib.intSat 16 s.data.toList) (Lib.parseIntB 16 s.data.toList)) ∧ (w' = w ∨ ∃ t, w' = Lib.bytesWorld w 5 t) := Any.internal_strconv_ParseInt_10_all16 Tryz.laysC247 s hmax w
open Go.RowKit in
/-- internal/strconv.ParseInt(s, 10, 8), AT EVERY STRING: 'Lib.parseIntB 8' OF ITS BYTES. (LAID: no walk: one application.) -/
theorem Tryz.internal_strconv_ParseInt_10_all8 (s : ByteArray) (hmax : s.size ≤ 9223372036854775806) (w : World) :
    Calls Tryz.prog 105 #[.string s, .int .i64 10, .int .i64 8] w fun e w' => e = .returned (Lib.intTuple 196 (Lib.intSat 8 s.data.toList) (Lib.parseIntB 8 s.data.toList)) ∧ (w' = w ∨ ∃ t, w' = Lib.bytesWorld w 5 t) := Any.internal_strconv_ParseInt_10_all8 Tryz.laysC247 s hmax w
def Tryz.laysC174_ren : Go.Shelf.Ren := ⟨fun | 174 => 82 | 247 => 105 | 245 => 106 | 287 => 120 | 279 => 121 | 280 => 122 | 281 => 123 | 282 => 124 | 321 => 132 | 322 => 133 | 316 => 134 | 171 => 84 | 205 => 135 | 243 => 108 | 246 => 125 | 283 => 136 | 284 => 137 | 285 => 138 | 286 => 139 | 129 => 142 | 317 => 141 | 318 => 143 | 319 => 144 | 320 => 145 | 337 => 146 | 338 => 147 | n => n, fun | 9 => 9 | 3 => 3 | 2 => 2 | 75 => 62 | 85 => 138 | 4 => 4 | 167 => 196 | 5 => 5 | 53 => 197 | 175 => 198 | 46 => 181 | 168 => 200 | 37 => 34 | 0 => 0 | 210 => 213 | 21 => 21 | 127 => 179 | 145 => 222 | 143 => 220 | 171 => 215 | 173 => 218 | 212 => 225 | 51 => 170 | 20 => 20 | 213 => 226 | 232 => 229 | 233 => 230 | 80 => 167 | n => n, fun | 15 => 6 | 16 => 7 | 17 => 9 | 18 => 10 | 19 => 11 | n => n⟩
theorem Tryz.laysC174 : Go.Proofs.LaysC.n174 Tryz.prog Tryz.laysC174_ren := {
  mixed := by kernel_rfl
  f129 := Tryz.func142.trans (congrArg some (by kernel_rfl))
  f171 := Tryz.func84.trans (congrArg some (by kernel_rfl))
  f174 := Tryz.func82.trans (congrArg some (by kernel_rfl))
  f205 := Tryz.func135.trans (congrArg some (by kernel_rfl))
  f243 := Tryz.func108.trans (congrArg some (by kernel_rfl))
  f245 := Tryz.func106.trans (congrArg some (by kernel_rfl))
  f246 := Tryz.func125.trans (congrArg some (by kernel_rfl))
  f247 := Tryz.func105.trans (congrArg some (by kernel_rfl))
  f279 := Tryz.func121.trans (congrArg some (by kernel_rfl))
  f280 := Tryz.func122.trans (congrArg some (by kernel_rfl))
  f281 := Tryz.func123.trans (congrArg some (by kernel_rfl))
  f282 := Tryz.func124.trans (congrArg some (by kernel_rfl))
  f283 := Tryz.func136.trans (congrArg some (by kernel_rfl))
  f284 := Tryz.func137.trans (congrArg some (by kernel_rfl))
  f285 := Tryz.func138.trans (congrArg some (by kernel_rfl))
  f286 := Tryz.func139.trans (congrArg some (by kernel_rfl))
  f287 := Tryz.func120.trans (congrArg some (by kernel_rfl))
  f316 := Tryz.func134.trans (congrArg some (by kernel_rfl))
  f317 := Tryz.func141.trans (congrArg some (by kernel_rfl))
  f318 := Tryz.func143.trans (congrArg some (by kernel_rfl))
  f319 := Tryz.func144.trans (congrArg some (by kernel_rfl))
  f320 := Tryz.func145.trans (congrArg some (by kernel_rfl))
  f321 := Tryz.func132.trans (congrArg some (by kernel_rfl))
  f322 := Tryz.func133.trans (congrArg some (by kernel_rfl))
  f337 := Tryz.func146.trans (congrArg some (by kernel_rfl))
  f338 := Tryz.func147.trans (congrArg some (by kernel_rfl))
  t0 := Tryz.underlying0
  a0 := Tryz.isAgg0
  z0 := Tryz.sizeOf0
  v0 := Tryz.zeroValue0
  t2 := Tryz.underlying2
  a2 := Tryz.isAgg2
  z2 := Tryz.sizeOf2
  v2 := Tryz.zeroValue2
  t3 := Tryz.underlying3
  a3 := Tryz.isAgg3
  z3 := Tryz.sizeOf3
  v3 := Tryz.zeroValue3
  t4 := Tryz.underlying4
  a4 := Tryz.isAgg4
  z4 := Tryz.sizeOf4
  v4 := Tryz.zeroValue4
  t5 := Tryz.underlying5
  a5 := Tryz.isAgg5
  z5 := Tryz.sizeOf5
  v5 := Tryz.zeroValue5
  t9 := Tryz.underlying9
  a9 := Tryz.isAgg9
  z9 := Tryz.sizeOf9
  v9 := Tryz.zeroValue9
  t20 := Tryz.underlying20
  a20 := Tryz.isAgg20
  z20 := Tryz.sizeOf20
  v20 := Tryz.zeroValue20
  t21 := Tryz.underlying21
  a21 := Tryz.isAgg21
  z21 := Tryz.sizeOf21
  v21 := Tryz.zeroValue21
  t37 := Tryz.underlying34
  a37 := Tryz.isAgg34
  z37 := Tryz.sizeOf34
  v37 := Tryz.zeroValue34
  t46 := Tryz.underlying181
  a46 := Tryz.isAgg181
  z46 := Tryz.sizeOf181
  v46 := Tryz.zeroValue181
  t51 := Tryz.underlying170
  a51 := Tryz.isAgg170
  z51 := Tryz.sizeOf170
  v51 := Tryz.zeroValue170
  t53 := Tryz.underlying197
  a53 := Tryz.isAgg197
  z53 := Tryz.sizeOf197
  v53 := Tryz.zeroValue197
  t75 := Tryz.underlying62
  a75 := Tryz.isAgg62
  z75 := Tryz.sizeOf62
  v75 := Tryz.zeroValue62
  t85 := Tryz.underlying138
  a85 := Tryz.isAgg138
  z85 := Tryz.sizeOf138
  v85 := Tryz.zeroValue138
  t127 := Tryz.underlying179
  a127 := Tryz.isAgg179
  z127 := Tryz.sizeOf179
  v127 := Tryz.zeroValue179
  t143 := Tryz.underlying220
  a143 := Tryz.isAgg220
  z143 := Tryz.sizeOf220
  v143 := Tryz.zeroValue220
  t145 := Tryz.underlying222
  a145 := Tryz.isAgg222
  z145 := Tryz.sizeOf222
  v145 := Tryz.zeroValue222
  t167 := Tryz.underlying196
  a167 := Tryz.isAgg196
  z167 := Tryz.sizeOf196
  v167 := Tryz.zeroValue196
  t168 := Tryz.underlying200
  a168 := Tryz.isAgg200
  z168 := Tryz.sizeOf200
  v168 := Tryz.zeroValue200
  t171 := Tryz.underlying215
  a171 := Tryz.isAgg215
  z171 := Tryz.sizeOf215
  v171 := Tryz.zeroValue215
  t173 := Tryz.underlying218
  a173 := Tryz.isAgg218
  z173 := Tryz.sizeOf218
  v173 := Tryz.zeroValue218
  t175 := Tryz.underlying198
  a175 := Tryz.isAgg198
  z175 := Tryz.sizeOf198
  v175 := Tryz.zeroValue198
  t210 := Tryz.underlying213
  a210 := Tryz.isAgg213
  z210 := Tryz.sizeOf213
  v210 := Tryz.zeroValue213
  t212 := Tryz.underlying225
  a212 := Tryz.isAgg225
  z212 := Tryz.sizeOf225
  v212 := Tryz.zeroValue225
  t213 := Tryz.underlying226
  a213 := Tryz.isAgg226
  z213 := Tryz.sizeOf226
  t232 := Tryz.underlying229
  a232 := Tryz.isAgg229
  z232 := Tryz.sizeOf229
  v232 := Tryz.zeroValue229
  t233 := Tryz.underlying230
  a233 := Tryz.isAgg230
  z233 := Tryz.sizeOf230
  v233 := Tryz.zeroValue230
  g15 := by kernel_rfl
  g16 := by kernel_rfl
  g17 := by kernel_rfl
  g18 := by kernel_rfl
  g19 := by kernel_rfl
  t80 := Tryz.underlying167
  a80 := Tryz.isAgg167
  z80 := Tryz.sizeOf167
  v80 := Tryz.zeroValue167
  i0 := by kernel_rfl
  i2 := by kernel_rfl
  i3 := by kernel_rfl
  i4 := by kernel_rfl
  i5 := by kernel_rfl
  i9 := by kernel_rfl
  i20 := by kernel_rfl
  i21 := by kernel_rfl
  i37 := by kernel_rfl
  i46 := by kernel_rfl
  i51 := by kernel_rfl
  i53 := by kernel_rfl
  i75 := by kernel_rfl
  i80 := by kernel_rfl
  i85 := by kernel_rfl
  i127 := by kernel_rfl
  i143 := by kernel_rfl
  i145 := by kernel_rfl
  i167 := by kernel_rfl
  i168 := by kernel_rfl
  i171 := by kernel_rfl
  i173 := by kernel_rfl
  i175 := by kernel_rfl
  i210 := by kernel_rfl
  i212 := by kernel_rfl
  i232 := by kernel_rfl
  i233 := by kernel_rfl
  m15 := by kernel_rfl
  m16 := by kernel_rfl
  m17 := by kernel_rfl
  m18 := by kernel_rfl
  m19 := by kernel_rfl
  c0 := by kernel_rfl
  c2 := by kernel_rfl
  c3 := by kernel_rfl
  c4 := by kernel_rfl
  c5 := by kernel_rfl
  c9 := by kernel_rfl
  c20 := by kernel_rfl
  c21 := by kernel_rfl
  c37 := by kernel_rfl
  c46 := by kernel_rfl
  c51 := by kernel_rfl
  c53 := by kernel_rfl
  c75 := by kernel_rfl
  c80 := by kernel_rfl
  c85 := by kernel_rfl
  c127 := by kernel_rfl
  c143 := by kernel_rfl
  c145 := by kernel_rfl
  c167 := by kernel_rfl
  c168 := by kernel_rfl
  c171 := by kernel_rfl
  c173 := by kernel_rfl
  c175 := by kernel_rfl
  c210 := by kernel_rfl
  c212 := by kernel_rfl
  c213 := by kernel_rfl
  c232 := by kernel_rfl
  c233 := by kernel_rfl }
open Go.RowKit in
/-- strconv.ParseInt(s, 10, 0), AT EVERY STRING THAT SPELLS AN int64 ('Lib.parseIntB 64 s.data.toList = .ok v'): v, AND NO ERROR. (LAID: no walk: one application.) -/
theorem Tryz.strconv_ParseInt_10_at0_ok (s : ByteArray) (hmax : s.size ≤ 9223372036854775806) (v : Int) (h : Lib.parseIntB 64 s.data.toList = .ok v) (w : World) :
    Calls Tryz.prog 82 #[.string s, .int .i64 10, .int .i64 0] w fun e w' => e = .returned (.tuple #[.int .i64 v, .nilIface]) ∧ (w' = w ∨ ∃ t, w' = Lib.bytesWorld w 5 t) := Any.strconv_ParseInt_10_at0_ok Tryz.laysC174 s hmax v h w
open Go.RowKit in
/-- strconv.ParseInt(s, 10, 0), AT EVERY STRING THAT IS NO DECIMAL NUMERAL: 0, AND AN ERROR THAT IS NOT nil: a *NumError in a new block N: {Func: "ParseInt", Num: s's bytes, Err: what the variable ErrSyntax holds}. Of what was there nothing has turned. (LAID: no walk: one application.) -/
theorem Tryz.strconv_ParseInt_10_at0_syntax (s : ByteArray) (hlim : s.size ≤ 281474976710656) (h : Lib.parseIntB 64 s.data.toList = .«syntax») (ev : Value) (w : World) (hv : w.cell? ⟨6, 0, none⟩ = some ev) (hev : ev = .nilIface ∨ ∃ te pe, ev = .iface te pe) :
    Calls Tryz.prog 82 #[.string s, .int .i64 10, .int .i64 0] w fun e w' => ∃ N, e = .returned (.tuple #[.int .i64 (0), .iface 200 (.pointer (some ⟨N, 0, none⟩))]) ∧ w.heap.size ≤ N ∧ w'.heap[N]? = some (.cells #[.string ⟨#[80, 97, 114, 115, 101, 73, 110, 116]⟩, .string s, ev] 213 (0, 0)) ∧ Below w.heap.size w w' := Any.strconv_ParseInt_10_at0_syntax Tryz.laysC174 s hlim h ev w hv hev
open Go.RowKit in
/-- strconv.ParseInt(s, 10, 0), AT EVERY NUMERAL THAT NO int64 HOLDS: THE GREATEST OR THE LEAST int64, BY THE SIGN ('Lib.intSat 64'), AND AN ERROR THAT IS NOT nil: a *NumError in a new block N: {Func: "ParseInt", Num: s's bytes, Err: what the variable ErrRange holds}. Of what was there nothing has turned. (LAID: no walk: one application.) -/
theorem Tryz.strconv_ParseInt_10_at0_range (s : ByteArray) (hlim : s.size ≤ 281474976710656) (h : Lib.parseIntB 64 s.data.toList = .range) (ev : Value) (w : World) (hv : w.cell? ⟨7, 0, none⟩ = some ev) (hev : ev = .nilIface ∨ ∃ te pe, ev = .iface te pe) :
    Calls Tryz.prog 82 #[.string s, .int .i64 10, .int .i64 0] w fun e w' => ∃ N, e = .returned (.tuple #[.int .i64 (Lib.intSat 64 s.data.toList), .iface 200 (.pointer (some ⟨N, 0, none⟩))]) ∧ w.heap.size ≤ N ∧ w'.heap[N]? = some (.cells #[.string ⟨#[80, 97, 114, 115, 101, 73, 110, 116]⟩, .string s, ev] 213 (0, 0)) ∧ Below w.heap.size w w' := Any.strconv_ParseInt_10_at0_range Tryz.laysC174 s hlim h ev w hv hev
open Go.RowKit in
/-- strconv.ParseInt(s, 10, 64), AT EVERY STRING THAT SPELLS AN int64 ('Lib.parseIntB 64 s.data.toList = .ok v'): v, AND NO ERROR. (LAID: no walk: one application.) -/
theorem Tryz.strconv_ParseInt_10_at64_ok (s : ByteArray) (hmax : s.size ≤ 9223372036854775806) (v : Int) (h : Lib.parseIntB 64 s.data.toList = .ok v) (w : World) :
    Calls Tryz.prog 82 #[.string s, .int .i64 10, .int .i64 64] w fun e w' => e = .returned (.tuple #[.int .i64 v, .nilIface]) ∧ (w' = w ∨ ∃ t, w' = Lib.bytesWorld w 5 t) := Any.strconv_ParseInt_10_at64_ok Tryz.laysC174 s hmax v h w
open Go.RowKit in
/-- strconv.ParseInt(s, 10, 64), AT EVERY STRING THAT IS NO DECIMAL NUMERAL: 0, AND AN ERROR THAT IS NOT nil: a *NumError in a new block N: {Func: "ParseInt", Num: s's bytes, Err: what the variable ErrSyntax holds}. Of what was there nothing has turned. (LAID: no walk: one application.) -/
theorem Tryz.strconv_ParseInt_10_at64_syntax (s : ByteArray) (hlim : s.size ≤ 281474976710656) (h : Lib.parseIntB 64 s.data.toList = .«syntax») (ev : Value) (w : World) (hv : w.cell? ⟨6, 0, none⟩ = some ev) (hev : ev = .nilIface ∨ ∃ te pe, ev = .iface te pe) :
    Calls Tryz.prog 82 #[.string s, .int .i64 10, .int .i64 64] w fun e w' => ∃ N, e = .returned (.tuple #[.int .i64 (0), .iface 200 (.pointer (some ⟨N, 0, none⟩))]) ∧ w.heap.size ≤ N ∧ w'.heap[N]? = some (.cells #[.string ⟨#[80, 97, 114, 115, 101, 73, 110, 116]⟩, .string s, ev] 213 (0, 0)) ∧ Below w.heap.size w w' := Any.strconv_ParseInt_10_at64_syntax Tryz.laysC174 s hlim h ev w hv hev
open Go.RowKit in
/-- strconv.ParseInt(s, 10, 64), AT EVERY NUMERAL THAT NO int64 HOLDS: THE GREATEST OR THE LEAST int64, BY THE SIGN ('Lib.intSat 64'), AND AN ERROR THAT IS NOT nil: a *NumError in a new block N: {Func: "ParseInt", Num: s's bytes, Err: what the variable ErrRange holds}. Of what was there nothing has turned. (LAID: no walk: one application.) -/
theorem Tryz.strconv_ParseInt_10_at64_range (s : ByteArray) (hlim : s.size ≤ 281474976710656) (h : Lib.parseIntB 64 s.data.toList = .range) (ev : Value) (w : World) (hv : w.cell? ⟨7, 0, none⟩ = some ev) (hev : ev = .nilIface ∨ ∃ te pe, ev = .iface te pe) :
    Calls Tryz.prog 82 #[.string s, .int .i64 10, .int .i64 64] w fun e w' => ∃ N, e = .returned (.tuple #[.int .i64 (Lib.intSat 64 s.data.toList), .iface 200 (.pointer (some ⟨N, 0, none⟩))]) ∧ w.heap.size ≤ N ∧ w'.heap[N]? = some (.cells #[.string ⟨#[80, 97, 114, 115, 101, 73, 110, 116]⟩, .string s, ev] 213 (0, 0)) ∧ Below w.heap.size w w' := Any.strconv_ParseInt_10_at64_range Tryz.laysC174 s hlim h ev w hv hev
open Go.RowKit in
/-- strconv.ParseInt(s, 10, 32), AT EVERY STRING THAT SPELLS AN int32 ('Lib.parseIntB 32 s.data.toList = .ok v'): v, AND NO ERROR. (LAID: no walk: one application.) -/
theorem Tryz.strconv_ParseInt_10_at32_ok (s : ByteArray) (hmax : s.size ≤ 9223372036854775806) (v : Int) (h : Lib.parseIntB 32 s.data.toList = .ok v) (w : World) :
    Calls Tryz.prog 82 #[.string s, .int .i64 10, .int .i64 32] w fun e w' => e = .returned (.tuple #[.int .i64 v, .nilIface]) ∧ (w' = w ∨ ∃ t, w' = Lib.bytesWorld w 5 t) := Any.strconv_ParseInt_10_at32_ok Tryz.laysC174 s hmax v h w
open Go.RowKit in
/-- strconv.ParseInt(s, 10, 32), AT EVERY STRING THAT IS NO DECIMAL NUMERAL: 0, AND AN ERROR THAT IS NOT nil: a *NumError in a new block N: {Func: "ParseInt", Num: s's bytes, Err: what the variable ErrSyntax holds}. Of what was there nothing has turned. (LAID: no walk: one application.) -/
theorem Tryz.strconv_ParseInt_10_at32_syntax (s : ByteArray) (hlim : s.size ≤ 281474976710656) (h : Lib.parseIntB 32 s.data.toList = .«syntax») (ev : Value) (w : World) (hv : w.cell? ⟨6, 0, none⟩ = some ev) (hev : ev = .nilIface ∨ ∃ te pe, ev = .iface te pe) :
    Calls Tryz.prog 82 #[.string s, .int .i64 10, .int .i64 32] w fun e w' => ∃ N, e = .returned (.tuple #[.int .i64 (0), .iface 200 (.pointer (some ⟨N, 0, none⟩))]) ∧ w.heap.size ≤ N ∧ w'.heap[N]? = some (.cells #[.string ⟨#[80, 97, 114, 115, 101, 73, 110, 116]⟩, .string s, ev] 213 (0, 0)) ∧ Below w.heap.size w w' := Any.strconv_ParseInt_10_at32_syntax Tryz.laysC174 s hlim h ev w hv hev
open Go.RowKit in
/-- strconv.ParseInt(s, 10, 32), AT EVERY NUMERAL THAT NO int32 HOLDS: THE GREATEST OR THE LEAST int32, BY THE SIGN ('Lib.intSat 32'), AND AN ERROR THAT IS NOT nil: a *NumError in a new block N: {Func: "ParseInt", Num: s's bytes, Err: what the variable ErrRange holds}. Of what was there nothing has turned. (LAID: no walk: one application.) -/
theorem Tryz.strconv_ParseInt_10_at32_range (s : ByteArray) (hlim : s.size ≤ 281474976710656) (h : Lib.parseIntB 32 s.data.toList = .range) (ev : Value) (w : World) (hv : w.cell? ⟨7, 0, none⟩ = some ev) (hev : ev = .nilIface ∨ ∃ te pe, ev = .iface te pe) :
    Calls Tryz.prog 82 #[.string s, .int .i64 10, .int .i64 32] w fun e w' => ∃ N, e = .returned (.tuple #[.int .i64 (Lib.intSat 32 s.data.toList), .iface 200 (.pointer (some ⟨N, 0, none⟩))]) ∧ w.heap.size ≤ N ∧ w'.heap[N]? = some (.cells #[.string ⟨#[80, 97, 114, 115, 101, 73, 110, 116]⟩, .string s, ev] 213 (0, 0)) ∧ Below w.heap.size w w' := Any.strconv_ParseInt_10_at32_range Tryz.laysC174 s hlim h ev w hv hev
open Go.RowKit in
/-- strconv.ParseInt(s, 10, 16), AT EVERY STRING THAT SPELLS AN int16 ('Lib.parseIntB 16 s.data.toList = .ok v'): v, AND NO ERROR. (LAID: no walk: one application.) -/
theorem Tryz.strconv_ParseInt_10_at16_ok (s : ByteArray) (hmax : s.size ≤ 9223372036854775806) (v : Int) (h : Lib.parseIntB 16 s.data.toList = .ok v) (w : World) :
    Calls Tryz.prog 82 #[.string s, .int .i64 10, .int .i64 16] w fun e w' => e = .returned (.tuple #[.int .i64 v, .nilIface]) ∧ (w' = w ∨ ∃ t, w' = Lib.bytesWorld w 5 t) := Any.strconv_ParseInt_10_at16_ok Tryz.laysC174 s hmax v h w
open Go.RowKit in
/-- strconv.ParseInt(s, 10, 16), AT EVERY STRING THAT IS NO DECIMAL NUMERAL: 0, AND AN ERROR THAT IS NOT nil: a *NumError in a new block N: {Func: "ParseInt", Num: s's bytes, Err: what the variable ErrSyntax holds}. Of what was there nothing has turned. (LAID: no walk: one application.) -/
theorem Tryz.strconv_ParseInt_10_at16_syntax (s : ByteArray) (hlim : s.size ≤ 281474976710656) (h : Lib.parseIntB 16 s.data.toList = .«syntax») (ev : Value) (w : World) (hv : w.cell? ⟨6, 0, none⟩ = some ev) (hev : ev = .nilIface ∨ ∃ te pe, ev = .iface te pe) :
    Calls Tryz.prog 82 #[.string s, .int .i64 10, .int .i64 16] w fun e w' => ∃ N, e = .returned (.tuple #[.int .i64 (0), .iface 200 (.pointer (some ⟨N, 0, none⟩))]) ∧ w.heap.size ≤ N ∧ w'.heap[N]? = some (.cells #[.string ⟨#[80, 97, 114, 115, 101, 73, 110, 116]⟩, .string s, ev] 213 (0, 0)) ∧ Below w.heap.size w w' := Any.strconv_ParseInt_10_at16_syntax Tryz.laysC174 s hlim h ev w hv hev
open Go.RowKit in
/-- strconv.ParseInt(s, 10, 16), AT EVERY NUMERAL THAT NO int16 HOLDS: THE GREATEST OR THE LEAST int16, BY THE SIGN ('Lib.intSat 16'), AND AN ERROR THAT IS NOT nil: a *NumError in a new block N: {Func: "ParseInt", Num: s's bytes, Err: what the variable ErrRange holds}. Of what was there nothing has turned. (LAID: no walk: one application.) -/
theorem Tryz.strconv_ParseInt_10_at16_range (s : ByteArray) (hlim : s.size ≤ 281474976710656) (h : Lib.parseIntB 16 s.data.toList = .range) (ev : Value) (w : World) (hv : w.cell? ⟨7, 0, none⟩ = some ev) (hev : ev = .nilIface ∨ ∃ te pe, ev = .iface te pe) :
    Calls Tryz.prog 82 #[.string s, .int .i64 10, .int .i64 16] w fun e w' => ∃ N, e = .returned (.tuple #[.int .i64 (Lib.intSat 16 s.data.toList), .iface 200 (.pointer (some ⟨N, 0, none⟩))]) ∧ w.heap.size ≤ N ∧ w'.heap[N]? = some (.cells #[.string ⟨#[80, 97, 114, 115, 101, 73, 110, 116]⟩, .string s, ev] 213 (0, 0)) ∧ Below w.heap.size w w' := Any.strconv_ParseInt_10_at16_range Tryz.laysC174 s hlim h ev w hv hev
open Go.RowKit in
/-- strconv.ParseInt(s, 10, 8), AT EVERY STRING THAT SPELLS AN int8 ('Lib.parseIntB 8 s.data.toList = .ok v'): v, AND NO ERROR. (LAID: no walk: one application.) -/
theorem Tryz.strconv_ParseInt_10_at8_ok (s : ByteArray) (hmax : s.size ≤ 9223372036854775806) (v : Int) (h : Lib.parseIntB 8 s.data.toList = .ok v) (w : World) :
    Calls Tryz.prog 82 #[.string s, .int .i64 10, .int .i64 8] w fun e w' => e = .returned (.tuple #[.int .i64 v, .nilIface]) ∧ (w' = w ∨ ∃ t, w' = Lib.bytesWorld w 5 t) := Any.strconv_ParseInt_10_at8_ok Tryz.laysC174 s hmax v h w
open Go.RowKit in
/-- strconv.ParseInt(s, 10, 8), AT EVERY STRING THAT IS NO DECIMAL NUMERAL: 0, AND AN ERROR THAT IS NOT nil: a *NumError in a new block N: {Func: "ParseInt", Num: s's bytes, Err: what the variable ErrSyntax holds}. Of what was there nothing has turned. (LAID: no walk: one application.) -/
theorem Tryz.strconv_ParseInt_10_at8_syntax (s : ByteArray) (hlim : s.size ≤ 281474976710656) (h : Lib.parseIntB 8 s.data.toList = .«syntax») (ev : Value) (w : World) (hv : w.cell? ⟨6, 0, none⟩ = some ev) (hev : ev = .nilIface ∨ ∃ te pe, ev = .iface te pe) :
    Calls Tryz.prog 82 #[.string s, .int .i64 10, .int .i64 8] w fun e w' => ∃ N, e = .returned (.tuple #[.int .i64 (0), .iface 200 (.pointer (some ⟨N, 0, none⟩))]) ∧ w.heap.size ≤ N ∧ w'.heap[N]? = some (.cells #[.string ⟨#[80, 97, 114, 115, 101, 73, 110, 116]⟩, .string s, ev] 213 (0, 0)) ∧ Below w.heap.size w w' := Any.strconv_ParseInt_10_at8_syntax Tryz.laysC174 s hlim h ev w hv hev
open Go.RowKit in
/-- strconv.ParseInt(s, 10, 8), AT EVERY NUMERAL THAT NO int8 HOLDS: THE GREATEST OR THE LEAST int8, BY THE SIGN ('Lib.intSat 8'), AND AN ERROR THAT IS NOT nil: a *NumError in a new block N: {Func: "ParseInt", Num: s's bytes, Err: what the variable ErrRange holds}. Of what was there nothing has turned. (LAID: no walk: one application.) -/
theorem Tryz.strconv_ParseInt_10_at8_range (s : ByteArray) (hlim : s.size ≤ 281474976710656) (h : Lib.parseIntB 8 s.data.toList = .range) (ev : Value) (w : World) (hv : w.cell? ⟨7, 0, none⟩ = some ev) (hev : ev = .nilIface ∨ ∃ te pe, ev = .iface te pe) :
    Calls Tryz.prog 82 #[.string s, .int .i64 10, .int .i64 8] w fun e w' => ∃ N, e = .returned (.tuple #[.int .i64 (Lib.intSat 8 s.data.toList), .iface 200 (.pointer (some ⟨N, 0, none⟩))]) ∧ w.heap.size ≤ N ∧ w'.heap[N]? = some (.cells #[.string ⟨#[80, 97, 114, 115, 101, 73, 110, 116]⟩, .string s, ev] 213 (0, 0)) ∧ Below w.heap.size w w' := Any.strconv_ParseInt_10_at8_range Tryz.laysC174 s hlim h ev w hv hev
open Go.RowKit in
theorem Tryz.strconv_ParseInt_10_at0_syntax_var (s : ByteArray) (hlim : s.size ≤ 281474976710656) (h : Lib.parseIntB 64 s.data.toList = .«syntax») (tp : TypeId) (p : Value) (w : World) (hvar : w.var? Tryz.prog "strconv.ErrSyntax" = some #[.iface tp p]) :
    Calls Tryz.prog 82 #[.string s, .int .i64 10, .int .i64 0] w fun e w' => ∃ N, e = .returned (.tuple #[.int .i64 (0), .iface 200 (.pointer (some ⟨N, 0, none⟩))]) ∧ w.heap.size ≤ N ∧ w'.heap[N]? = some (.cells #[.string ⟨#[80, 97, 114, 115, 101, 73, 110, 116]⟩, .string s, .iface tp p] 213 (0, 0)) ∧ Below w.heap.size w w' := Any.strconv_ParseInt_10_at0_syntax_var Tryz.laysC174 s hlim h tp p w hvar
open Go.RowKit in
theorem Tryz.strconv_ParseInt_10_at0_range_var (s : ByteArray) (hlim : s.size ≤ 281474976710656) (h : Lib.parseIntB 64 s.data.toList = .range) (tp : TypeId) (p : Value) (w : World) (hvar : w.var? Tryz.prog "strconv.ErrRange" = some #[.iface tp p]) :
    Calls Tryz.prog 82 #[.string s, .int .i64 10, .int .i64 0] w fun e w' => ∃ N, e = .returned (.tuple #[.int .i64 (Lib.intSat 64 s.data.toList), .iface 200 (.pointer (some ⟨N, 0, none⟩))]) ∧ w.heap.size ≤ N ∧ w'.heap[N]? = some (.cells #[.string ⟨#[80, 97, 114, 115, 101, 73, 110, 116]⟩, .string s, .iface tp p] 213 (0, 0)) ∧ Below w.heap.size w w' := Any.strconv_ParseInt_10_at0_range_var Tryz.laysC174 s hlim h tp p w hvar
open Go.RowKit in
theorem Tryz.strconv_ParseInt_10_at64_syntax_var (s : ByteArray) (hlim : s.size ≤ 281474976710656) (h : Lib.parseIntB 64 s.data.toList = .«syntax») (tp : TypeId) (p : Value) (w : World) (hvar : w.var? Tryz.prog "strconv.ErrSyntax" = some #[.iface tp p]) :
    Calls Tryz.prog 82 #[.string s, .int .i64 10, .int .i64 64] w fun e w' => ∃ N, e = .returned (.tuple #[.int .i64 (0), .iface 200 (.pointer (some ⟨N, 0, none⟩))]) ∧ w.heap.size ≤ N ∧ w'.heap[N]? = some (.cells #[.string ⟨#[80, 97, 114, 115, 101, 73, 110, 116]⟩, .string s, .iface tp p] 213 (0, 0)) ∧ Below w.heap.size w w' := Any.strconv_ParseInt_10_at64_syntax_var Tryz.laysC174 s hlim h tp p w hvar
open Go.RowKit in
theorem Tryz.strconv_ParseInt_10_at64_range_var (s : ByteArray) (hlim : s.size ≤ 281474976710656) (h : Lib.parseIntB 64 s.data.toList = .range) (tp : TypeId) (p : Value) (w : World) (hvar : w.var? Tryz.prog "strconv.ErrRange" = some #[.iface tp p]) :
    Calls Tryz.prog 82 #[.string s, .int .i64 10, .int .i64 64] w fun e w' => ∃ N, e = .returned (.tuple #[.int .i64 (Lib.intSat 64 s.data.toList), .iface 200 (.pointer (some ⟨N, 0, none⟩))]) ∧ w.heap.size ≤ N ∧ w'.heap[N]? = some (.cells #[.string ⟨#[80, 97, 114, 115, 101, 73, 110, 116]⟩, .string s, .iface tp p] 213 (0, 0)) ∧ Below w.heap.size w w' := Any.strconv_ParseInt_10_at64_range_var Tryz.laysC174 s hlim h tp p w hvar
open Go.RowKit in
theorem Tryz.strconv_ParseInt_10_at32_syntax_var (s : ByteArray) (hlim : s.size ≤ 281474976710656) (h : Lib.parseIntB 32 s.data.toList = .«syntax») (tp : TypeId) (p : Value) (w : World) (hvar : w.var? Tryz.prog "strconv.ErrSyntax" = some #[.iface tp p]) :
    Calls Tryz.prog 82 #[.string s, .int .i64 10, .int .i64 32] w fun e w' => ∃ N, e = .returned (.tuple #[.int .i64 (0), .iface 200 (.pointer (some ⟨N, 0, none⟩))]) ∧ w.heap.size ≤ N ∧ w'.heap[N]? = some (.cells #[.string ⟨#[80, 97, 114, 115, 101, 73, 110, 116]⟩, .string s, .iface tp p] 213 (0, 0)) ∧ Below w.heap.size w w' := Any.strconv_ParseInt_10_at32_syntax_var Tryz.laysC174 s hlim h tp p w hvar
open Go.RowKit in
theorem Tryz.strconv_ParseInt_10_at32_range_var (s : ByteArray) (hlim : s.size ≤ 281474976710656) (h : Lib.parseIntB 32 s.data.toList = .range) (tp : TypeId) (p : Value) (w : World) (hvar : w.var? Tryz.prog "strconv.ErrRange" = some #[.iface tp p]) :
    Calls Tryz.prog 82 #[.string s, .int .i64 10, .int .i64 32] w fun e w' => ∃ N, e = .returned (.tuple #[.int .i64 (Lib.intSat 32 s.data.toList), .iface 200 (.pointer (some ⟨N, 0, none⟩))]) ∧ w.heap.size ≤ N ∧ w'.heap[N]? = some (.cells #[.string ⟨#[80, 97, 114, 115, 101, 73, 110, 116]⟩, .string s, .iface tp p] 213 (0, 0)) ∧ Below w.heap.size w w' := Any.strconv_ParseInt_10_at32_range_var Tryz.laysC174 s hlim h tp p w hvar
open Go.RowKit in
theorem Tryz.strconv_ParseInt_10_at16_syntax_var (s : ByteArray) (hlim : s.size ≤ 281474976710656) (h : Lib.parseIntB 16 s.data.toList = .«syntax») (tp : TypeId) (p : Value) (w : World) (hvar : w.var? Tryz.prog "strconv.ErrSyntax" = some #[.iface tp p]) :
    Calls Tryz.prog 82 #[.string s, .int .i64 10, .int .i64 16] w fun e w' => ∃ N, e = .returned (.tuple #[.int .i64 (0), .iface 200 (.pointer (some ⟨N, 0, none⟩))]) ∧ w.heap.size ≤ N ∧ w'.heap[N]? = some (.cells #[.string ⟨#[80, 97, 114, 115, 101, 73, 110, 116]⟩, .string s, .iface tp p] 213 (0, 0)) ∧ Below w.heap.size w w' := Any.strconv_ParseInt_10_at16_syntax_var Tryz.laysC174 s hlim h tp p w hvar
open Go.RowKit in
theorem Tryz.strconv_ParseInt_10_at16_range_var (s : ByteArray) (hlim : s.size ≤ 281474976710656) (h : Lib.parseIntB 16 s.data.toList = .range) (tp : TypeId) (p : Value) (w : World) (hvar : w.var? Tryz.prog "strconv.ErrRange" = some #[.iface tp p]) :
    Calls Tryz.prog 82 #[.string s, .int .i64 10, .int .i64 16] w fun e w' => ∃ N, e = .returned (.tuple #[.int .i64 (Lib.intSat 16 s.data.toList), .iface 200 (.pointer (some ⟨N, 0, none⟩))]) ∧ w.heap.size ≤ N ∧ w'.heap[N]? = some (.cells #[.string ⟨#[80, 97, 114, 115, 101, 73, 110, 116]⟩, .string s, .iface tp p] 213 (0, 0)) ∧ Below w.heap.size w w' := Any.strconv_ParseInt_10_at16_range_var Tryz.laysC174 s hlim h tp p w hvar
open Go.RowKit in
theorem Tryz.strconv_ParseInt_10_at8_syntax_var (s : ByteArray) (hlim : s.size ≤ 281474976710656) (h : Lib.parseIntB 8 s.data.toList = .«syntax») (tp : TypeId) (p : Value) (w : World) (hvar : w.var? Tryz.prog "strconv.ErrSyntax" = some #[.iface tp p]) :
    Calls Tryz.prog 82 #[.string s, .int .i64 10, .int .i64 8] w fun e w' => ∃ N, e = .returned (.tuple #[.int .i64 (0), .iface 200 (.pointer (some ⟨N, 0, none⟩))]) ∧ w.heap.size ≤ N ∧ w'.heap[N]? = some (.cells #[.string ⟨#[80, 97, 114, 115, 101, 73, 110, 116]⟩, .string s, .iface tp p] 213 (0, 0)) ∧ Below w.heap.size w w' := Any.strconv_ParseInt_10_at8_syntax_var Tryz.laysC174 s hlim h tp p w hvar
open Go.RowKit in
theorem Tryz.strconv_ParseInt_10_at8_range_var (s : ByteArray) (hlim : s.size ≤ 281474976710656) (h : Lib.parseIntB 8 s.data.toList = .range) (tp : TypeId) (p : Value) (w : World) (hvar : w.var? Tryz.prog "strconv.ErrRange" = some #[.iface tp p]) :
    Calls Tryz.prog 82 #[.string s, .int .i64 10, .int .i64 8] w fun e w' => ∃ N, e = .returned (.tuple #[.int .i64 (Lib.intSat 8 s.data.toList), .iface 200 (.pointer (some ⟨N, 0, none⟩))]) ∧ w.heap.size ≤ N ∧ w'.heap[N]? = some (.cells #[.string ⟨#[80, 97, 114, 115, 101, 73, 110, 116]⟩, .string s, .iface tp p] 213 (0, 0)) ∧ Below w.heap.size w w' := Any.strconv_ParseInt_10_at8_range_var Tryz.laysC174 s hlim h tp p w hvar
def Tryz.lays207_ren : Go.Shelf.Ren := ⟨fun | 207 => 113 | n => n, fun | 9 => 9 | 4 => 4 | 3 => 3 | n => n, fun | n => n⟩
theorem Tryz.lays207 : Go.Proofs.Lays.n207 Tryz.prog Tryz.lays207_ren := {
  mixed := by kernel_rfl
  f207 := Tryz.func113.trans (congrArg some (by kernel_rfl))
  t3 := Tryz.underlying3
  a3 := Tryz.isAgg3
  z3 := Tryz.sizeOf3
  v3 := Tryz.zeroValue3
  t4 := Tryz.underlying4
  a4 := Tryz.isAgg4
  z4 := Tryz.sizeOf4
  v4 := Tryz.zeroValue4
  t9 := Tryz.underlying9
  a9 := Tryz.isAgg9
  z9 := Tryz.sizeOf9
  v9 := Tryz.zeroValue9 }
open Go.RowKit Go.Lib in
/-- internal/stringslite.HasSuffix (what strings.HasSuffix calls). (LAID: no walk: one application.) -/
theorem Tryz.stringslite_HasSuffix (s p : ByteArray) (w : World) (hs : s.size ≤ 9223372036854775807) :
    Calls Tryz.prog 113 #[.string s, .string p] w fun e w' => e = .returned (.bool (Lib.hasSuffix s.data.toList p.data.toList)) ∧ w' = w := Any.stringslite_HasSuffix Tryz.lays207 s p w hs
def Tryz.lays209_ren : Go.Shelf.Ren := ⟨fun | 209 => 96 | 207 => 113 | n => n, fun | 9 => 9 | 4 => 4 | 3 => 3 | n => n, fun | n => n⟩
theorem Tryz.lays209 : Go.Proofs.Lays.n209 Tryz.prog Tryz.lays209_ren := {
  mixed := by kernel_rfl
  f207 := Tryz.func113.trans (congrArg some (by kernel_rfl))
  f209 := Tryz.func96.trans (congrArg some (by kernel_rfl))
  t3 := Tryz.underlying3
  a3 := Tryz.isAgg3
  z3 := Tryz.sizeOf3
  v3 := Tryz.zeroValue3
  t4 := Tryz.underlying4
  a4 := Tryz.isAgg4
  z4 := Tryz.sizeOf4
  v4 := Tryz.zeroValue4
  t9 := Tryz.underlying9
  a9 := Tryz.isAgg9
  z9 := Tryz.sizeOf9
  v9 := Tryz.zeroValue9 }
open Go.RowKit Go.Lib in
/-- internal/stringslite.TrimSuffix (what strings.TrimSuffix calls). (LAID: no walk: one application.) -/
theorem Tryz.stringslite_TrimSuffix (s p : ByteArray) (w : World) (hs : s.size ≤ 9223372036854775807) :
    Calls Tryz.prog 96 #[.string s, .string p] w fun e w' => e = .returned (.string ⟨(Lib.trimSuffix s.data.toList p.data.toList).toArray⟩) ∧ w' = w := Any.stringslite_TrimSuffix Tryz.lays209 s p w hs
def Tryz.lays102_ren : Go.Shelf.Ren := ⟨fun | 102 => 72 | 209 => 96 | 207 => 113 | n => n, fun | 9 => 9 | 4 => 4 | 3 => 3 | n => n, fun | n => n⟩
theorem Tryz.lays102 : Go.Proofs.Lays.n102 Tryz.prog Tryz.lays102_ren := {
  mixed := by kernel_rfl
  f102 := Tryz.func72.trans (congrArg some (by kernel_rfl))
  f207 := Tryz.func113.trans (congrArg some (by kernel_rfl))
  f209 := Tryz.func96.trans (congrArg some (by kernel_rfl))
  t3 := Tryz.underlying3
  a3 := Tryz.isAgg3
  z3 := Tryz.sizeOf3
  v3 := Tryz.zeroValue3
  t4 := Tryz.underlying4
  a4 := Tryz.isAgg4
  z4 := Tryz.sizeOf4
  v4 := Tryz.zeroValue4
  t9 := Tryz.underlying9
  a9 := Tryz.isAgg9
  z9 := Tryz.sizeOf9
  v9 := Tryz.zeroValue9 }
open Go.RowKit Go.Lib in
/-- strings.TrimSuffix: "TrimSuffix returns s without the provided trailing suffix string. If s doesn't end with suffix, s is returned unchanged.": IT RETURNS 'Lib.trimSuffix s suffix'; the world is as it was. (LAID: no walk: one application.) -/
theorem Tryz.strings_TrimSuffix (s p : ByteArray) (w : World) (hs : s.size ≤ 9223372036854775807) :
    Calls Tryz.prog 72 #[.string s, .string p] w fun e w' => e = .returned (.string ⟨(Lib.trimSuffix s.data.toList p.data.toList).toArray⟩) ∧ w' = w := Any.strings_TrimSuffix Tryz.lays102 s p w hs
def Tryz.lays199_ren : Go.Shelf.Ren := ⟨fun | 199 => 80 | 261 => 104 | 311 => 118 | 312 => 119 | n => n, fun | 21 => 21 | 4 => 4 | 51 => 170 | 141 => 172 | 0 => 0 | 196 => 188 | 193 => 185 | 3 => 3 | 198 => 191 | 49 => 189 | 194 => 186 | 201 => 194 | 226 => 209 | 46 => 181 | 227 => 210 | n => n, fun | 6 => 2 | n => n⟩
theorem Tryz.lays199 : Go.Proofs.Lays.n199 Tryz.prog Tryz.lays199_ren := {
  mixed := by kernel_rfl
  f199 := Tryz.func80.trans (congrArg some (by kernel_rfl))
  f261 := Tryz.func104.trans (congrArg some (by kernel_rfl))
  f311 := Tryz.func118.trans (congrArg some (by kernel_rfl))
  f312 := Tryz.func119.trans (congrArg some (by kernel_rfl))
  t0 := Tryz.underlying0
  a0 := Tryz.isAgg0
  z0 := Tryz.sizeOf0
  v0 := Tryz.zeroValue0
  t3 := Tryz.underlying3
  a3 := Tryz.isAgg3
  z3 := Tryz.sizeOf3
  v3 := Tryz.zeroValue3
  t4 := Tryz.underlying4
  a4 := Tryz.isAgg4
  z4 := Tryz.sizeOf4
  v4 := Tryz.zeroValue4
  t21 := Tryz.underlying21
  a21 := Tryz.isAgg21
  z21 := Tryz.sizeOf21
  v21 := Tryz.zeroValue21
  t46 := Tryz.underlying181
  a46 := Tryz.isAgg181
  z46 := Tryz.sizeOf181
  v46 := Tryz.zeroValue181
  t49 := Tryz.underlying189
  a49 := Tryz.isAgg189
  z49 := Tryz.sizeOf189
  v49 := Tryz.zeroValue189
  t51 := Tryz.underlying170
  a51 := Tryz.isAgg170
  z51 := Tryz.sizeOf170
  v51 := Tryz.zeroValue170
  t141 := Tryz.underlying172
  a141 := Tryz.isAgg172
  z141 := Tryz.sizeOf172
  v141 := Tryz.zeroValue172
  t193 := Tryz.underlying185
  a193 := Tryz.isAgg185
  z193 := Tryz.sizeOf185
  v193 := Tryz.zeroValue185
  t194 := Tryz.underlying186
  a194 := Tryz.isAgg186
  z194 := Tryz.sizeOf186
  v194 := Tryz.zeroValue186
  t196 := Tryz.underlying188
  a196 := Tryz.isAgg188
  z196 := Tryz.sizeOf188
  v196 := Tryz.zeroValue188
  t198 := Tryz.underlying191
  a198 := Tryz.isAgg191
  z198 := Tryz.sizeOf191
  v198 := Tryz.zeroValue191
  t201 := Tryz.underlying194
  a201 := Tryz.isAgg194
  z201 := Tryz.sizeOf194
  v201 := Tryz.zeroValue194
  t226 := Tryz.underlying209
  a226 := Tryz.isAgg209
  z226 := Tryz.sizeOf209
  v226 := Tryz.zeroValue209
  t227 := Tryz.underlying210
  a227 := Tryz.isAgg210
  z227 := Tryz.sizeOf210
  v227 := Tryz.zeroValue210
  g6 := by kernel_rfl }
open Go.RowKit Go.Lib in
theorem Tryz.unicode_IsSpace (r : Int) (w : World) (h0 : 0 ≤ r) (h : r ≤ 255) :
    Calls Tryz.prog 80 #[.int .i32 r] w fun e w' => e = .returned (.bool (Lib.isSpaceL r)) ∧ w' = w := Any.unicode_IsSpace Tryz.lays199 r w h0 h
def Tryz.lays197_ren : Go.Shelf.Ren := ⟨fun | 197 => 79 | 260 => 103 | n => n, fun | 9 => 9 | 21 => 21 | 3 => 3 | 4 => 4 | 5 => 5 | 105 => 135 | 119 => 169 | 0 => 0 | 46 => 181 | 139 => 184 | 138 => 183 | n => n, fun | 3 => 4 | 4 => 5 | n => n⟩
theorem Tryz.lays197 : Go.Proofs.Lays.n197 Tryz.prog Tryz.lays197_ren := {
  mixed := by kernel_rfl
  f197 := Tryz.func79.trans (congrArg some (by kernel_rfl))
  f260 := Tryz.func103.trans (congrArg some (by kernel_rfl))
  t0 := Tryz.underlying0
  a0 := Tryz.isAgg0
  z0 := Tryz.sizeOf0
  v0 := Tryz.zeroValue0
  t3 := Tryz.underlying3
  a3 := Tryz.isAgg3
  z3 := Tryz.sizeOf3
  v3 := Tryz.zeroValue3
  t4 := Tryz.underlying4
  a4 := Tryz.isAgg4
  z4 := Tryz.sizeOf4
  v4 := Tryz.zeroValue4
  t5 := Tryz.underlying5
  a5 := Tryz.isAgg5
  z5 := Tryz.sizeOf5
  v5 := Tryz.zeroValue5
  t9 := Tryz.underlying9
  a9 := Tryz.isAgg9
  z9 := Tryz.sizeOf9
  v9 := Tryz.zeroValue9
  t21 := Tryz.underlying21
  a21 := Tryz.isAgg21
  z21 := Tryz.sizeOf21
  v21 := Tryz.zeroValue21
  t46 := Tryz.underlying181
  a46 := Tryz.isAgg181
  z46 := Tryz.sizeOf181
  v46 := Tryz.zeroValue181
  t105 := Tryz.underlying135
  a105 := Tryz.isAgg135
  z105 := Tryz.sizeOf135
  v105 := Tryz.zeroValue135
  t119 := Tryz.underlying169
  a119 := Tryz.isAgg169
  z119 := Tryz.sizeOf169
  t138 := Tryz.underlying183
  a138 := Tryz.isAgg183
  z138 := Tryz.sizeOf183
  v138 := Tryz.zeroValue183
  t139 := Tryz.underlying184
  a139 := Tryz.isAgg184
  z139 := Tryz.sizeOf184
  v139 := Tryz.zeroValue184
  g3 := by kernel_rfl
  g4 := by kernel_rfl }
open Go.RowKit Go.Lib in
/-- unicode/utf8.DecodeRuneInString: "DecodeRuneInString is like DecodeRune but its input is a string.": ("DecodeRune unpacks the first UTF-8 encoding in p and returns the rune and its width in bytes."): WHERE s BEGINS WITH AN ASCII BYTE x: (x, 1). (LAID: no walk: one application.) -/
theorem Tryz.utf8_DecodeRuneInString_ascii (s : ByteArray) (x : UInt8) (w : World) (h0 : s.data.toList[0]? = some x) (hx : x.toNat < 128) :
    Calls Tryz.prog 79 #[.string s] w fun e w' => e = .returned (.tuple #[.int .i32 x.toNat, .int .i64 1]) ∧ w' = w := Any.utf8_DecodeRuneInString_ascii Tryz.lays197 s x w h0 hx
def Tryz.lays260_ren : Go.Shelf.Ren := ⟨fun | 260 => 103 | n => n, fun | 9 => 9 | 21 => 21 | 3 => 3 | 4 => 4 | 5 => 5 | 119 => 169 | 0 => 0 | 46 => 181 | 139 => 184 | 138 => 183 | n => n, fun | 3 => 4 | 4 => 5 | n => n⟩
theorem Tryz.lays260 : Go.Proofs.Lays.n260 Tryz.prog Tryz.lays260_ren := {
  mixed := by kernel_rfl
  f260 := Tryz.func103.trans (congrArg some (by kernel_rfl))
  t0 := Tryz.underlying0
  a0 := Tryz.isAgg0
  z0 := Tryz.sizeOf0
  v0 := Tryz.zeroValue0
  t3 := Tryz.underlying3
  a3 := Tryz.isAgg3
  z3 := Tryz.sizeOf3
  v3 := Tryz.zeroValue3
  t4 := Tryz.underlying4
  a4 := Tryz.isAgg4
  z4 := Tryz.sizeOf4
  v4 := Tryz.zeroValue4
  t5 := Tryz.underlying5
  a5 := Tryz.isAgg5
  z5 := Tryz.sizeOf5
  v5 := Tryz.zeroValue5
  t9 := Tryz.underlying9
  a9 := Tryz.isAgg9
  z9 := Tryz.sizeOf9
  v9 := Tryz.zeroValue9
  t21 := Tryz.underlying21
  a21 := Tryz.isAgg21
  z21 := Tryz.sizeOf21
  v21 := Tryz.zeroValue21
  t46 := Tryz.underlying181
  a46 := Tryz.isAgg181
  z46 := Tryz.sizeOf181
  v46 := Tryz.zeroValue181
  t119 := Tryz.underlying169
  a119 := Tryz.isAgg169
  z119 := Tryz.sizeOf169
  t138 := Tryz.underlying183
  a138 := Tryz.isAgg183
  z138 := Tryz.sizeOf183
  v138 := Tryz.zeroValue183
  t139 := Tryz.underlying184
  a139 := Tryz.isAgg184
  z139 := Tryz.sizeOf184
  v139 := Tryz.zeroValue184
  g3 := by kernel_rfl
  g4 := by kernel_rfl }
open Go.RowKit Go.Lib in
theorem Tryz.utf8_decodeRuneInStringSlow (s : ByteArray) (w : World) (hT : Lib.Utf8Tabs 4 5 w) :
    Calls Tryz.prog 103 #[.string s] w fun e w' => e = .returned (.tuple #[.int .i32 (Lib.decodeGo s).1, .int .i64 (Lib.decodeGo s).2]) ∧ Below w.heap.size w w' := Any.utf8_decodeRuneInStringSlow Tryz.lays260 s w hT
open Go.RowKit Go.Lib in
/-- **unicode/utf8.DecodeRuneInString AT EVERY STRING.** (LAID: no walk: one application.) -/
theorem Tryz.utf8_DecodeRuneInString (s : ByteArray) (w : World) (hT : Lib.Utf8Tabs 4 5 w) :
    Calls Tryz.prog 79 #[.string s] w fun e w' => e = .returned (.tuple #[.int .i32 (Lib.decodeGo s).1, .int .i64 (Lib.decodeGo s).2]) ∧ Below w.heap.size w w' := Any.utf8_DecodeRuneInString Tryz.lays197 s w hT
def Tryz.lays311_ren : Go.Shelf.Ren := ⟨fun | 311 => 118 | n => n, fun | 193 => 185 | 49 => 189 | 4 => 4 | 3 => 3 | 0 => 0 | 226 => 209 | 198 => 191 | 46 => 181 | n => n, fun | n => n⟩
theorem Tryz.lays311 : Go.Proofs.Lays.n311 Tryz.prog Tryz.lays311_ren := {
  mixed := by kernel_rfl
  f311 := Tryz.func118.trans (congrArg some (by kernel_rfl))
  t0 := Tryz.underlying0
  a0 := Tryz.isAgg0
  z0 := Tryz.sizeOf0
  v0 := Tryz.zeroValue0
  t3 := Tryz.underlying3
  a3 := Tryz.isAgg3
  z3 := Tryz.sizeOf3
  v3 := Tryz.zeroValue3
  t4 := Tryz.underlying4
  a4 := Tryz.isAgg4
  z4 := Tryz.sizeOf4
  v4 := Tryz.zeroValue4
  t46 := Tryz.underlying181
  a46 := Tryz.isAgg181
  z46 := Tryz.sizeOf181
  v46 := Tryz.zeroValue181
  t49 := Tryz.underlying189
  a49 := Tryz.isAgg189
  z49 := Tryz.sizeOf189
  v49 := Tryz.zeroValue189
  t193 := Tryz.underlying185
  a193 := Tryz.isAgg185
  z193 := Tryz.sizeOf185
  v193 := Tryz.zeroValue185
  t198 := Tryz.underlying191
  a198 := Tryz.isAgg191
  z198 := Tryz.sizeOf191
  v198 := Tryz.zeroValue191
  t226 := Tryz.underlying209
  a226 := Tryz.isAgg209
  z226 := Tryz.sizeOf209
  v226 := Tryz.zeroValue209 }
open Go.RowKit Go.Lib in
theorem Tryz.unicode_is16_white (R oR : Nat) (z : Nat) (w : World) (hz : z < 65536) (hz0 : 255 < z) (c6 : w.cell? ⟨R, oR + 6, none⟩ = some (.int .u16 160)) (c7 : w.cell? ⟨R, oR + 7, none⟩ = some (.int .u16 5760)) (c8 : w.cell? ⟨R, oR + 8, none⟩ = some (.int .u16 5600)) (c9 : w.cell? ⟨R, oR + 9, none⟩ = some (.int .u16 8192)) (c10 : w.cell? ⟨R, oR + 10, none⟩ = some (.int .u16 8202)) (c11 : w.cell? ⟨R, oR + 11, none⟩ = some (.int .u16 1)) (c12 : w.cell? ⟨R, oR + 12, none⟩ = some (.int .u16 8232)) (c13 : w.cell? ⟨R, oR + 13, none⟩ = some (.int .u16 8233)) (c14 : w.cell? ⟨R, oR + 14, none⟩ = some (.int .u16 1)) (c15 : w.cell? ⟨R, oR + 15, none⟩ = some (.int .u16 8239)) (c16 : w.cell? ⟨R, oR + 16, none⟩ = some (.int .u16 8287)) (c17 : w.cell? ⟨R, oR + 17, none⟩ = some (.int .u16 48)) (c18 : w.cell? ⟨R, oR + 18, none⟩ = some (.int .u16 12288)) (c19 : w.cell? ⟨R, oR + 19, none⟩ = some (.int .u16 12288)) (c20 : w.cell? ⟨R, oR + 20, none⟩ = some (.int .u16 1)) :
    Calls Tryz.prog 118 #[.slice (some ⟨R, oR + 6, none⟩) 5 5, .int .u16 z] w fun e w' => e = .returned (.bool (Lib.isSpaceR z)) ∧ Below w.heap.size w w' := Any.unicode_is16_white Tryz.lays311 R oR z w hz hz0 c6 c7 c8 c9 c10 c11 c12 c13 c14 c15 c16 c17 c18 c19 c20
def Tryz.lays261_ren : Go.Shelf.Ren := ⟨fun | 261 => 104 | 311 => 118 | 312 => 119 | n => n, fun | 141 => 172 | 21 => 21 | 4 => 4 | 0 => 0 | 196 => 188 | 193 => 185 | 3 => 3 | 51 => 170 | 198 => 191 | 49 => 189 | 194 => 186 | 201 => 194 | 226 => 209 | 46 => 181 | 227 => 210 | n => n, fun | n => n⟩
theorem Tryz.lays261 : Go.Proofs.Lays.n261 Tryz.prog Tryz.lays261_ren := {
  mixed := by kernel_rfl
  f261 := Tryz.func104.trans (congrArg some (by kernel_rfl))
  f311 := Tryz.func118.trans (congrArg some (by kernel_rfl))
  f312 := Tryz.func119.trans (congrArg some (by kernel_rfl))
  t0 := Tryz.underlying0
  a0 := Tryz.isAgg0
  z0 := Tryz.sizeOf0
  v0 := Tryz.zeroValue0
  t3 := Tryz.underlying3
  a3 := Tryz.isAgg3
  z3 := Tryz.sizeOf3
  v3 := Tryz.zeroValue3
  t4 := Tryz.underlying4
  a4 := Tryz.isAgg4
  z4 := Tryz.sizeOf4
  v4 := Tryz.zeroValue4
  t21 := Tryz.underlying21
  a21 := Tryz.isAgg21
  z21 := Tryz.sizeOf21
  v21 := Tryz.zeroValue21
  t46 := Tryz.underlying181
  a46 := Tryz.isAgg181
  z46 := Tryz.sizeOf181
  v46 := Tryz.zeroValue181
  t49 := Tryz.underlying189
  a49 := Tryz.isAgg189
  z49 := Tryz.sizeOf189
  v49 := Tryz.zeroValue189
  t51 := Tryz.underlying170
  a51 := Tryz.isAgg170
  z51 := Tryz.sizeOf170
  v51 := Tryz.zeroValue170
  t141 := Tryz.underlying172
  a141 := Tryz.isAgg172
  z141 := Tryz.sizeOf172
  v141 := Tryz.zeroValue172
  t193 := Tryz.underlying185
  a193 := Tryz.isAgg185
  z193 := Tryz.sizeOf185
  v193 := Tryz.zeroValue185
  t194 := Tryz.underlying186
  a194 := Tryz.isAgg186
  z194 := Tryz.sizeOf186
  v194 := Tryz.zeroValue186
  t196 := Tryz.underlying188
  a196 := Tryz.isAgg188
  z196 := Tryz.sizeOf188
  v196 := Tryz.zeroValue188
  t198 := Tryz.underlying191
  a198 := Tryz.isAgg191
  z198 := Tryz.sizeOf191
  v198 := Tryz.zeroValue191
  t201 := Tryz.underlying194
  a201 := Tryz.isAgg194
  z201 := Tryz.sizeOf194
  v201 := Tryz.zeroValue194
  t226 := Tryz.underlying209
  a226 := Tryz.isAgg209
  z226 := Tryz.sizeOf209
  v226 := Tryz.zeroValue209
  t227 := Tryz.underlying210
  a227 := Tryz.isAgg210
  z227 := Tryz.sizeOf210
  v227 := Tryz.zeroValue210 }
open Go.RowKit Go.Lib in
/-- unicode.isExcludingLatin(White_Space, r), r beyond U+00FF or negative. (LAID: no walk: one application.) -/
theorem Tryz.unicode_isExcludingLatin_white (T oT R oR : Nat) (r : Int) (w : World) (hlo : -2147483648 ≤ r) (hhi : r ≤ 2147483647) (hr : r < 0 ∨ 255 < r) (h2 : w.cell? ⟨T, oT, none⟩ = some (.slice (some ⟨R, oR, none⟩) 7 7)) (h3 : w.cell? ⟨T, oT + 1, none⟩ = some (.slice none 0 0)) (h4 : w.cell? ⟨T, oT + 2, none⟩ = some (.int .i64 2)) (h5 : ∀ i, i < 21 → w.cell? ⟨R, oR + i, none⟩ = some (.int .u16 (whiteT.getD i 0))) :
    Calls Tryz.prog 104 #[.pointer (some ⟨T, oT, none⟩), .int .i32 r] w fun e w' => e = .returned (.bool (Lib.isSpaceZ r)) ∧ Below w.heap.size w w' := Any.unicode_isExcludingLatin_white Tryz.lays261 T oT R oR r w hlo hhi hr h2 h3 h4 h5
open Go.RowKit Go.Lib in
/-- **unicode.IsSpace AT EVERY int32.** (LAID: no walk: one application.) -/
theorem Tryz.unicode_IsSpace_any (r : Int) (w : World) (hlo : -2147483648 ≤ r) (hhi : r ≤ 2147483647) (hW : Lib.WhiteTab 2 w) :
    Calls Tryz.prog 80 #[.int .i32 r] w fun e w' => e = .returned (.bool (Lib.isSpaceZ r)) ∧ Below w.heap.size w w' := Any.unicode_IsSpace_any Tryz.lays199 r w hlo hhi hW
def Tryz.lays271_ren : Go.Shelf.Ren := ⟨fun | 271 => 131 | 120 => 140 | 197 => 79 | 260 => 103 | n => n, fun | 9 => 9 | 21 => 21 | 3 => 3 | 4 => 4 | 5 => 5 | 105 => 135 | 119 => 169 | 0 => 0 | 46 => 181 | 139 => 184 | 138 => 183 | n => n, fun | 3 => 4 | 4 => 5 | n => n⟩
theorem Tryz.lays271 : Go.Proofs.Lays.n271 Tryz.prog Tryz.lays271_ren := {
  mixed := by kernel_rfl
  f120 := Tryz.func140.trans (congrArg some (by kernel_rfl))
  f197 := Tryz.func79.trans (congrArg some (by kernel_rfl))
  f260 := Tryz.func103.trans (congrArg some (by kernel_rfl))
  f271 := Tryz.func131.trans (congrArg some (by kernel_rfl))
  t0 := Tryz.underlying0
  a0 := Tryz.isAgg0
  z0 := Tryz.sizeOf0
  v0 := Tryz.zeroValue0
  t3 := Tryz.underlying3
  a3 := Tryz.isAgg3
  z3 := Tryz.sizeOf3
  v3 := Tryz.zeroValue3
  t4 := Tryz.underlying4
  a4 := Tryz.isAgg4
  z4 := Tryz.sizeOf4
  v4 := Tryz.zeroValue4
  t5 := Tryz.underlying5
  a5 := Tryz.isAgg5
  z5 := Tryz.sizeOf5
  v5 := Tryz.zeroValue5
  t9 := Tryz.underlying9
  a9 := Tryz.isAgg9
  z9 := Tryz.sizeOf9
  v9 := Tryz.zeroValue9
  t21 := Tryz.underlying21
  a21 := Tryz.isAgg21
  z21 := Tryz.sizeOf21
  v21 := Tryz.zeroValue21
  t46 := Tryz.underlying181
  a46 := Tryz.isAgg181
  z46 := Tryz.sizeOf181
  v46 := Tryz.zeroValue181
  t105 := Tryz.underlying135
  a105 := Tryz.isAgg135
  z105 := Tryz.sizeOf135
  v105 := Tryz.zeroValue135
  t119 := Tryz.underlying169
  a119 := Tryz.isAgg169
  z119 := Tryz.sizeOf169
  t138 := Tryz.underlying183
  a138 := Tryz.isAgg183
  z138 := Tryz.sizeOf183
  v138 := Tryz.zeroValue183
  t139 := Tryz.underlying184
  a139 := Tryz.isAgg184
  z139 := Tryz.sizeOf184
  v139 := Tryz.zeroValue184
  g3 := by kernel_rfl
  g4 := by kernel_rfl }
open Go.RowKit Go.Lib in
/-- **unicode/utf8.DecodeLastRuneInString AT EVERY STRING.** (LAID: no walk: one application.) -/
theorem Tryz.utf8_DecodeLastRuneInString (s : ByteArray) (w : World) (hs : s.size ≤ 9223372036854775807) (hT : Lib.Utf8Tabs 4 5 w) :
    Calls Tryz.prog 131 #[.string s] w fun e w' => e = .returned (.tuple #[.int .i32 (Lib.decodeLastL s.data.toList).1, .int .i64 (Lib.decodeLastL s.data.toList).2]) ∧ Below w.heap.size w w' := Any.utf8_DecodeLastRuneInString Tryz.lays271 s w hs hT
open Go.RowKit in
theorem Tryz.strings_TrimSpace_any (s : ByteArray) (w : World) (hs : s.size ≤ 9223372036854775807) (htab : Lib.TabIs Tryz.prog w "strings.asciiSpace" .u8 Lib.asciiSpaceTab) (hU8 : Lib.Utf8Tabs 4 5 w) (hWS : Lib.WhiteTab 2 w) :
    Calls Tryz.prog 76 #[.string s] w fun e w' => e = .returned (.string ⟨(Lib.trimSpaceD s.data.toList).toArray⟩) ∧ Below w.heap.size w w' := Any.strings_TrimSpace_any Tryz.lays163 Tryz.Space_Extra_163 s w hs htab hU8 hWS
open Go.RowKit Go.Lib in
theorem Tryz.unicode_is16_white_d (R oR : Nat) (z : Nat) (w : World) (hz : z < 65536) (hz0 : 255 < z) (c6 : w.cell? ⟨R, oR + 6, none⟩ = some (.int .u16 160)) (c7 : w.cell? ⟨R, oR + 7, none⟩ = some (.int .u16 5760)) (c8 : w.cell? ⟨R, oR + 8, none⟩ = some (.int .u16 5600)) (c9 : w.cell? ⟨R, oR + 9, none⟩ = some (.int .u16 8192)) (c10 : w.cell? ⟨R, oR + 10, none⟩ = some (.int .u16 8202)) (c11 : w.cell? ⟨R, oR + 11, none⟩ = some (.int .u16 1)) (c12 : w.cell? ⟨R, oR + 12, none⟩ = some (.int .u16 8232)) (c13 : w.cell? ⟨R, oR + 13, none⟩ = some (.int .u16 8233)) (c14 : w.cell? ⟨R, oR + 14, none⟩ = some (.int .u16 1)) (c15 : w.cell? ⟨R, oR + 15, none⟩ = some (.int .u16 8239)) (c16 : w.cell? ⟨R, oR + 16, none⟩ = some (.int .u16 8287)) (c17 : w.cell? ⟨R, oR + 17, none⟩ = some (.int .u16 48)) (c18 : w.cell? ⟨R, oR + 18, none⟩ = some (.int .u16 12288)) (c19 : w.cell? ⟨R, oR + 19, none⟩ = some (.int .u16 12288)) (c20 : w.cell? ⟨R, oR + 20, none⟩ = some (.int .u16 1)) :
    Calls Tryz.prog 118 #[.slice (some ⟨R, oR + 6, none⟩) 5 5, .int .u16 z] w fun e w' => e = .returned (.bool (Lib.isSpaceR z)) ∧ ∃ q, w' = w.drewN q := Any.unicode_is16_white_d Tryz.lays311 R oR z w hz hz0 c6 c7 c8 c9 c10 c11 c12 c13 c14 c15 c16 c17 c18 c19 c20
open Go.RowKit Go.Lib in
/-- unicode.isExcludingLatin(White_Space, r), r beyond U+00FF or negative. (LAID: no walk: one application.) -/
theorem Tryz.unicode_isExcludingLatin_white_d (T oT R oR : Nat) (r : Int) (w : World) (hlo : -2147483648 ≤ r) (hhi : r ≤ 2147483647) (hr : r < 0 ∨ 255 < r) (h2 : w.cell? ⟨T, oT, none⟩ = some (.slice (some ⟨R, oR, none⟩) 7 7)) (h3 : w.cell? ⟨T, oT + 1, none⟩ = some (.slice none 0 0)) (h4 : w.cell? ⟨T, oT + 2, none⟩ = some (.int .i64 2)) (h5 : ∀ i, i < 21 → w.cell? ⟨R, oR + i, none⟩ = some (.int .u16 (whiteT.getD i 0))) :
    Calls Tryz.prog 104 #[.pointer (some ⟨T, oT, none⟩), .int .i32 r] w fun e w' => e = .returned (.bool (Lib.isSpaceZ r)) ∧ ∃ q, w' = w.drewN q := Any.unicode_isExcludingLatin_white_d Tryz.lays261 T oT R oR r w hlo hhi hr h2 h3 h4 h5
open Go.RowKit Go.Lib in
/-- **unicode.IsSpace AT EVERY int32.** (LAID: no walk: one application.) -/
theorem Tryz.unicode_IsSpace_any_d (r : Int) (w : World) (hlo : -2147483648 ≤ r) (hhi : r ≤ 2147483647) (hW : Lib.WhiteTab 2 w) :
    Calls Tryz.prog 80 #[.int .i32 r] w fun e w' => e = .returned (.bool (Lib.isSpaceZ r)) ∧ ∃ q, w' = w.drewN q := Any.unicode_IsSpace_any_d Tryz.lays199 r w hlo hhi hW
open Go.RowKit Go.Lib in
theorem Tryz.unicode_is16_any (T : Array Rg) (R oR cap : Nat) (z : Nat) (w : World) (hz : z < 65536) (hT : RgTab .u16 R oR T w) (hok : RgOk 65536 T) (hn : T.size ≤ 1000000000) :
    Calls Tryz.prog 118 #[.slice (some ⟨R, oR, none⟩) T.size cap, .int .u16 z] w fun e w' => e = .returned (.bool (is16Go T z)) ∧ ∃ q, w' = w.drewN q := Any.unicode_is16_any Tryz.lays311 T R oR cap z w hz hT hok hn
def Tryz.lays312_ren : Go.Shelf.Ren := ⟨fun | 312 => 119 | n => n, fun | 194 => 186 | 51 => 170 | 4 => 4 | 3 => 3 | 0 => 0 | 227 => 210 | 201 => 194 | 46 => 181 | n => n, fun | n => n⟩
theorem Tryz.lays312 : Go.Proofs.Lays.n312 Tryz.prog Tryz.lays312_ren := {
  mixed := by kernel_rfl
  f312 := Tryz.func119.trans (congrArg some (by kernel_rfl))
  t0 := Tryz.underlying0
  a0 := Tryz.isAgg0
  z0 := Tryz.sizeOf0
  v0 := Tryz.zeroValue0
  t3 := Tryz.underlying3
  a3 := Tryz.isAgg3
  z3 := Tryz.sizeOf3
  v3 := Tryz.zeroValue3
  t4 := Tryz.underlying4
  a4 := Tryz.isAgg4
  z4 := Tryz.sizeOf4
  v4 := Tryz.zeroValue4
  t46 := Tryz.underlying181
  a46 := Tryz.isAgg181
  z46 := Tryz.sizeOf181
  v46 := Tryz.zeroValue181
  t51 := Tryz.underlying170
  a51 := Tryz.isAgg170
  z51 := Tryz.sizeOf170
  v51 := Tryz.zeroValue170
  t194 := Tryz.underlying186
  a194 := Tryz.isAgg186
  z194 := Tryz.sizeOf186
  v194 := Tryz.zeroValue186
  t201 := Tryz.underlying194
  a201 := Tryz.isAgg194
  z201 := Tryz.sizeOf194
  v201 := Tryz.zeroValue194
  t227 := Tryz.underlying210
  a227 := Tryz.isAgg210
  z227 := Tryz.sizeOf210
  v227 := Tryz.zeroValue210 }
open Go.RowKit Go.Lib in
theorem Tryz.unicode_is32_any (T : Array Rg) (R oR cap : Nat) (z : Nat) (w : World) (hz : z < 4294967296) (hT : RgTab .u32 R oR T w) (hok : RgOk 4294967296 T) (hn : T.size ≤ 1000000000) :
    Calls Tryz.prog 119 #[.slice (some ⟨R, oR, none⟩) T.size cap, .int .u32 z] w fun e w' => e = .returned (.bool (is32Go T z)) ∧ Below w.heap.size w w' := Any.unicode_is32_any Tryz.lays312 T R oR cap z w hz hT hok hn
open Go.RowKit Go.Lib in
theorem Tryz.unicode_isExcludingLatin_any (Tb oT : Nat) (T : RTab) (r : Int) (w : World) (hlo : -2147483648 ≤ r) (hhi : r ≤ 2147483647) (hA : RTabAt Tb oT T w) (hok : RTabOk T) :
    Calls Tryz.prog 104 #[.pointer (some ⟨Tb, oT, none⟩), .int .i32 r] w fun e w' => e = .returned (.bool (exclGo T r)) ∧ Below w.heap.size w w' := Any.unicode_isExcludingLatin_any Tryz.lays261 Tb oT T r w hlo hhi hA hok
def Tryz.laysnb116_ren : Go.Shelf.Ren := ⟨fun | 116 => 91 | 115 => 85 | n => n, fun | 37 => 34 | 4 => 4 | 3 => 3 | 9 => 9 | 5 => 5 | n => n, fun | n => n⟩
theorem Tryz.laysnb116 : Go.Proofs.Lays.nb116 Tryz.prog Tryz.laysnb116_ren := {
  mixed := by kernel_rfl
  f115 := Tryz.func85.trans (congrArg some (by kernel_rfl))
  f116 := Tryz.func91.trans (congrArg some (by kernel_rfl))
  t3 := Tryz.underlying3
  a3 := Tryz.isAgg3
  z3 := Tryz.sizeOf3
  v3 := Tryz.zeroValue3
  t4 := Tryz.underlying4
  a4 := Tryz.isAgg4
  z4 := Tryz.sizeOf4
  v4 := Tryz.zeroValue4
  t9 := Tryz.underlying9
  a9 := Tryz.isAgg9
  z9 := Tryz.sizeOf9
  v9 := Tryz.zeroValue9
  t37 := Tryz.underlying34
  a37 := Tryz.isAgg34
  z37 := Tryz.sizeOf34
  v37 := Tryz.zeroValue34
  t5 := Tryz.underlying5
  a5 := Tryz.isAgg5
  z5 := Tryz.sizeOf5
  v5 := Tryz.zeroValue5 }
theorem Tryz.bytes_HasPrefix_e2 (p1 p2 : Option Addr) (n c d : Nat) (w : World) :
    Calls Tryz.prog 91 #[.slice p1 n c, .slice p2 0 d] w fun e w' => e = .returned (.bool true) ∧ w' = w := Any.bytes_HasPrefix_e2 Tryz.laysnb116 p1 p2 n c d w
theorem Tryz.bytes_HasPrefix_e1 (p1 p2 : Option Addr) (c m d : Nat) (hm : 0 < m) (w : World) :
    Calls Tryz.prog 91 #[.slice p1 0 c, .slice p2 m d] w fun e w' => e = .returned (.bool false) ∧ w' = w := Any.bytes_HasPrefix_e1 Tryz.laysnb116 p1 p2 c m d hm w
def Tryz.laysnb117_ren : Go.Shelf.Ren := ⟨fun | 117 => 65 | 115 => 85 | n => n, fun | 37 => 34 | 4 => 4 | 3 => 3 | 9 => 9 | 5 => 5 | n => n, fun | n => n⟩
theorem Tryz.laysnb117 : Go.Proofs.Lays.nb117 Tryz.prog Tryz.laysnb117_ren := {
  mixed := by kernel_rfl
  f115 := Tryz.func85.trans (congrArg some (by kernel_rfl))
  f117 := Tryz.func65.trans (congrArg some (by kernel_rfl))
  t3 := Tryz.underlying3
  a3 := Tryz.isAgg3
  z3 := Tryz.sizeOf3
  v3 := Tryz.zeroValue3
  t4 := Tryz.underlying4
  a4 := Tryz.isAgg4
  z4 := Tryz.sizeOf4
  v4 := Tryz.zeroValue4
  t9 := Tryz.underlying9
  a9 := Tryz.isAgg9
  z9 := Tryz.sizeOf9
  v9 := Tryz.zeroValue9
  t37 := Tryz.underlying34
  a37 := Tryz.isAgg34
  z37 := Tryz.sizeOf34
  v37 := Tryz.zeroValue34
  t5 := Tryz.underlying5
  a5 := Tryz.isAgg5
  z5 := Tryz.sizeOf5
  v5 := Tryz.zeroValue5 }
theorem Tryz.bytes_HasSuffix_e2 (p1 p2 : Option Addr) (n c d : Nat) (_hnc : n ≤ c) (hbig : n ≤ 9223372036854775807) (w : World) :
    Calls Tryz.prog 65 #[.slice p1 n c, .slice p2 0 d] w fun e w' => e = .returned (.bool true) ∧ w' = w := Any.bytes_HasSuffix_e2 Tryz.laysnb117 p1 p2 n c d _hnc hbig w
theorem Tryz.bytes_HasSuffix_e1 (p1 p2 : Option Addr) (c m d : Nat) (hm : 0 < m) (w : World) :
    Calls Tryz.prog 65 #[.slice p1 0 c, .slice p2 m d] w fun e w' => e = .returned (.bool false) ∧ w' = w := Any.bytes_HasSuffix_e1 Tryz.laysnb117 p1 p2 c m d hm w
def Tryz.laysnb140_ren : Go.Shelf.Ren := ⟨fun | 140 => 95 | 117 => 65 | 115 => 85 | n => n, fun | 37 => 34 | 4 => 4 | 3 => 3 | 9 => 9 | 5 => 5 | n => n, fun | n => n⟩
theorem Tryz.laysnb140 : Go.Proofs.Lays.nb140 Tryz.prog Tryz.laysnb140_ren := {
  mixed := by kernel_rfl
  f115 := Tryz.func85.trans (congrArg some (by kernel_rfl))
  f117 := Tryz.func65.trans (congrArg some (by kernel_rfl))
  f140 := Tryz.func95.trans (congrArg some (by kernel_rfl))
  t3 := Tryz.underlying3
  a3 := Tryz.isAgg3
  z3 := Tryz.sizeOf3
  v3 := Tryz.zeroValue3
  t4 := Tryz.underlying4
  a4 := Tryz.isAgg4
  z4 := Tryz.sizeOf4
  v4 := Tryz.zeroValue4
  t9 := Tryz.underlying9
  a9 := Tryz.isAgg9
  z9 := Tryz.sizeOf9
  v9 := Tryz.zeroValue9
  t37 := Tryz.underlying34
  a37 := Tryz.isAgg34
  z37 := Tryz.sizeOf34
  v37 := Tryz.zeroValue34
  t5 := Tryz.underlying5
  a5 := Tryz.isAgg5
  z5 := Tryz.sizeOf5
  v5 := Tryz.zeroValue5 }
theorem Tryz.bytes_TrimSuffix_e2 (p1 p2 : Option Addr) (n c d : Nat) (hnc : n ≤ c) (hbig : n ≤ 9223372036854775807) (w : World) :
    Calls Tryz.prog 95 #[.slice p1 n c, .slice p2 0 d] w fun e w' => e = .returned (.slice p1 n c) ∧ w' = w := Any.bytes_TrimSuffix_e2 Tryz.laysnb140 p1 p2 n c d hnc hbig w
theorem Tryz.bytes_TrimSuffix_e1 (p1 p2 : Option Addr) (c m d : Nat) (hm : 0 < m) (w : World) :
    Calls Tryz.prog 95 #[.slice p1 0 c, .slice p2 m d] w fun e w' => e = .returned (.slice p1 0 c) ∧ w' = w := Any.bytes_TrimSuffix_e1 Tryz.laysnb140 p1 p2 c m d hm w
/-- bytes.HasPrefix: WHOLE: each argument nil, or of no byte at whatever address, or at an address with its cells. (LAID: no walk: one application.) -/
theorem Tryz.bytes_HasPrefix_all (p1 p2 : Option Addr) (n c m d : Nat) (xs ys : List Int) (w : World) (hx : xs.length = n) (hy : ys.length = m) (hnc : n ≤ c) (h1 : Lib.BytesIn w p1 n xs) (h2 : Lib.BytesIn w p2 m ys) :
    Calls Tryz.prog 91 #[.slice p1 n c, .slice p2 m d] w fun e w' => e = .returned (.bool (Lib.hasPrefix (Lib.bytesOf xs) (Lib.bytesOf ys))) ∧ w' = w := Any.bytes_HasPrefix_all Tryz.laysnb116 p1 p2 n c m d xs ys w hx hy hnc h1 h2
/-- bytes.HasSuffix: WHOLE: each argument nil, or of no byte at whatever address, or at an address with its cells. (LAID: no walk: one application.) -/
theorem Tryz.bytes_HasSuffix_all (p1 p2 : Option Addr) (n c m d : Nat) (xs ys : List Int) (w : World) (hx : xs.length = n) (hy : ys.length = m) (hnc : n ≤ c) (hbig : n ≤ 9223372036854775807) (h1 : Lib.BytesIn w p1 n xs) (h2 : Lib.BytesIn w p2 m ys) :
    Calls Tryz.prog 65 #[.slice p1 n c, .slice p2 m d] w fun e w' => e = .returned (.bool (Lib.hasSuffix (Lib.bytesOf xs) (Lib.bytesOf ys))) ∧ w' = w := Any.bytes_HasSuffix_all Tryz.laysnb117 p1 p2 n c m d xs ys w hx hy hnc hbig h1 h2
/-- bytes.TrimSuffix: WHOLE. (LAID: no walk: one application.) -/
theorem Tryz.bytes_TrimSuffix_all (p1 p2 : Option Addr) (n c m d : Nat) (xs ys : List Int) (w : World) (hx : xs.length = n) (hy : ys.length = m) (hnc : n ≤ c) (hbig : n ≤ 9223372036854775807) (h1 : Lib.BytesIn w p1 n xs) (h2 : Lib.BytesIn w p2 m ys) :
    Calls Tryz.prog 95 #[.slice p1 n c, .slice p2 m d] w fun e w' => e = .returned (Lib.trimSuffixV p1 n c xs ys) ∧ w' = w := Any.bytes_TrimSuffix_all Tryz.laysnb140 p1 p2 n c m d xs ys w hx hy hnc hbig h1 h2
def Tryz.laysnb115_ren : Go.Shelf.Ren := ⟨fun | 115 => 85 | n => n, fun | 37 => 34 | 4 => 4 | 9 => 9 | 5 => 5 | n => n, fun | n => n⟩
theorem Tryz.laysnb115 : Go.Proofs.Lays.nb115 Tryz.prog Tryz.laysnb115_ren := {
  mixed := by kernel_rfl
  f115 := Tryz.func85.trans (congrArg some (by kernel_rfl))
  t4 := Tryz.underlying4
  a4 := Tryz.isAgg4
  z4 := Tryz.sizeOf4
  v4 := Tryz.zeroValue4
  t9 := Tryz.underlying9
  a9 := Tryz.isAgg9
  z9 := Tryz.sizeOf9
  v9 := Tryz.zeroValue9
  t37 := Tryz.underlying34
  a37 := Tryz.isAgg34
  z37 := Tryz.sizeOf34
  v37 := Tryz.zeroValue34
  t5 := Tryz.underlying5
  a5 := Tryz.isAgg5
  z5 := Tryz.sizeOf5
  v5 := Tryz.zeroValue5 }
/-- bytes.Equal: WHOLE. (LAID: no walk: one application.) -/
theorem Tryz.bytes_Equal_all (p1 p2 : Option Addr) (n c m d : Nat) (xs ys : List Int) (w : World) (hx : xs.length = n) (hy : ys.length = m) (h1 : Lib.BytesIn w p1 n xs) (h2 : Lib.BytesIn w p2 m ys) :
    Calls Tryz.prog 85 #[.slice p1 n c, .slice p2 m d] w fun e w' => e = .returned (.bool (Lib.bytesOf xs == Lib.bytesOf ys)) ∧ w' = w := Any.bytes_Equal_all Tryz.laysnb115 p1 p2 n c m d xs ys w hx hy h1 h2
def Tryz.lays115_ren : Go.Shelf.Ren := ⟨fun | 115 => 85 | n => n, fun | 37 => 34 | 4 => 4 | 9 => 9 | 5 => 5 | n => n, fun | n => n⟩
theorem Tryz.lays115 : Go.Proofs.Lays.n115 Tryz.prog Tryz.lays115_ren := {
  mixed := by kernel_rfl
  f115 := Tryz.func85.trans (congrArg some (by kernel_rfl))
  t4 := Tryz.underlying4
  a4 := Tryz.isAgg4
  z4 := Tryz.sizeOf4
  v4 := Tryz.zeroValue4
  t9 := Tryz.underlying9
  a9 := Tryz.isAgg9
  z9 := Tryz.sizeOf9
  v9 := Tryz.zeroValue9
  t37 := Tryz.underlying34
  a37 := Tryz.isAgg34
  z37 := Tryz.sizeOf34
  v37 := Tryz.zeroValue34 }
/-- bytes.Equal: "Equal reports whether a and b are the same length and contain the same bytes. A nil argument is equivalent to an empty slice.": IT RETURNS 'the bytes of the one == the bytes of the other'; the world is as it was. THE TWO ARGUMENTS COME AS WHATEVER VALUES, each with the one fact that the walk wants of it: what 'string(..)' of it gives: for a slice whose cells you know: 'run_convert_bytes_arg' (Derived/Laws/BytesArg.lean) hands that fact; for a nil one: 'run_convert_bytes_nil' (with xs := []). (LAID: no walk: one application.) -/
theorem Tryz.bytes_Equal (v1 v2 : Value) (xs ys : List Int) (w : World) (h1 : (convert 34 9 v1).run Tryz.prog w = .ok (.string (strOfNums xs)) w) (h2 : (convert 34 9 v2).run Tryz.prog w = .ok (.string (strOfNums ys)) w) :
    Calls Tryz.prog 85 #[v1, v2] w fun e w' => e = .returned (.bool (Lib.bytesOf xs == Lib.bytesOf ys)) ∧ w' = w := Any.bytes_Equal Tryz.lays115 v1 v2 xs ys w h1 h2
/-- bytes.HasPrefix: "HasPrefix reports whether the byte slice s begins with prefix.": IT RETURNS 'Lib.hasPrefix (the bytes of s) (the bytes of prefix)'; the world is as it was. ITS CALLEE bytes.Equal IS MET BY ITS OWN CONTRACT OFF THE SHELF (lay that first). 'xs', 'ys': the numbers that the two slices' cells hold. (LAID: no walk: one application.) -/
theorem Tryz.bytes_HasPrefix (b1 o1 n c b2 o2 m d : Nat) (xs ys : List Int) (w : World) (hx : xs.length = n) (hy : ys.length = m) (hnc : n ≤ c) (hc1 : ∀ i, i < n → w.cell? ⟨b1, o1 + i, none⟩ = some (.int .u8 (xs.getD i 0))) (hc2 : ∀ i, i < m → w.cell? ⟨b2, o2 + i, none⟩ = some (.int .u8 (ys.getD i 0))) :
    Calls Tryz.prog 91 #[.slice (some ⟨b1, o1, none⟩) n c, .slice (some ⟨b2, o2, none⟩) m d] w fun e w' => e = .returned (.bool (Lib.hasPrefix (Lib.bytesOf xs) (Lib.bytesOf ys))) ∧ w' = w := Any.bytes_HasPrefix Tryz.laysnb116 b1 o1 n c b2 o2 m d xs ys w hx hy hnc hc1 hc2
/-- bytes.HasSuffix: "HasSuffix reports whether the byte slice s ends with suffix.": IT RETURNS 'Lib.hasSuffix (the bytes of s) (the bytes of suffix)'; the world is as it was. ITS CALLEE bytes.Equal IS MET BY ITS OWN CONTRACT OFF THE SHELF (lay that first). (An empty suffix too: there the model's slicing may keep the slice's address, where the cut falls at its very capacity: the value bears an 'if': 'gA' pays both arms.) (LAID: no walk: one application.) -/
theorem Tryz.bytes_HasSuffix (b1 o1 n c b2 o2 m d : Nat) (xs ys : List Int) (w : World) (hx : xs.length = n) (hy : ys.length = m) (hnc : n ≤ c) (hbig : n ≤ 9223372036854775807) (hc1 : ∀ i, i < n → w.cell? ⟨b1, o1 + i, none⟩ = some (.int .u8 (xs.getD i 0))) (hc2 : ∀ i, i < m → w.cell? ⟨b2, o2 + i, none⟩ = some (.int .u8 (ys.getD i 0))) :
    Calls Tryz.prog 65 #[.slice (some ⟨b1, o1, none⟩) n c, .slice (some ⟨b2, o2, none⟩) m d] w fun e w' => e = .returned (.bool (Lib.hasSuffix (Lib.bytesOf xs) (Lib.bytesOf ys))) ∧ w' = w := Any.bytes_HasSuffix Tryz.laysnb117 b1 o1 n c b2 o2 m d xs ys w hx hy hnc hbig hc1 hc2
/-- bytes.TrimSuffix: "TrimSuffix returns s without the provided trailing suffix string. If s doesn't end with suffix, s is returned unchanged.": IT RETURNS 'Lib.bytesTrimSuffix': s[:len(s)-len(suffix)] OF THE ARGUMENT's OWN MEMORY where s ends with suffix, else s itself; the world is as it was. (LAID: no walk: one application.) -/
theorem Tryz.bytes_TrimSuffix (b1 o1 n c b2 o2 m d : Nat) (xs ys : List Int) (w : World) (hx : xs.length = n) (hy : ys.length = m) (hnc : n ≤ c) (hbig : n ≤ 9223372036854775807) (hc1 : ∀ i, i < n → w.cell? ⟨b1, o1 + i, none⟩ = some (.int .u8 (xs.getD i 0))) (hc2 : ∀ i, i < m → w.cell? ⟨b2, o2 + i, none⟩ = some (.int .u8 (ys.getD i 0))) :
    Calls Tryz.prog 95 #[.slice (some ⟨b1, o1, none⟩) n c, .slice (some ⟨b2, o2, none⟩) m d] w fun e w' => e = .returned (Lib.bytesTrimSuffix b1 o1 n c xs ys) ∧ w' = w := Any.bytes_TrimSuffix Tryz.laysnb140 b1 o1 n c b2 o2 m d xs ys w hx hy hnc hbig hc1 hc2
end Go.Proofs
