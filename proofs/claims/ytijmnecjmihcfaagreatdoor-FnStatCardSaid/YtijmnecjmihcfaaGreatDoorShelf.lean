/-
  DERIVED: THE SHELF's CONTRACTS AT THIS DUMP, IN PLAIN WORDS (tools/lay-plain.mjs out of 'TryzShelf.lean', which tools/lay-shelf.mjs wrote): THE SAME DECLARATIONS UNDER THE SAME NAMES: 'import', 'namespace', 'open', 'def', 'theorem' AND NOTHING ELSE: no command of the shelf's: FOR A HAND-IN. Each laying: the table of numbers ('.._ren') and one theorem, a field a fact of the dump's own or the kernel's comparison; each contract: ONE APPLICATION.
-/
import Derived.Shelf.Strings.Builder1
import Derived.Shelf.Strings.Builder2
import Derived.Shelf.Strings.OnBuilder
import Derived.Shelf.Strings.TrimSpace
import Derived.Shelf.Small.Utf8
import Derived.Shelf.Strings.BuilderF
import Derived.Shelf.Strings.BuilderK
import Derived.Shelf.Strconv.Itoa0
import Derived.Shelf.Strconv.Itoa1
import Derived.Shelf.LaysM
import Derived.Shelf.Strconv.Itoa2
import Derived.Shelf.Strconv.Itoa3
import Derived.Shelf.Strconv.ParseIntEmpty
import Derived.Shelf.Strconv.Clone
import Derived.Shelf.Strconv.SyntaxError
import Derived.Shelf.LaysC
import Derived.Shelf.Strconv.ToError
import Derived.Shelf.Strconv.Lower
import Derived.Shelf.Strconv.ParseUint10
import Derived.Shelf.Strconv.ParseUint10Empty
import Derived.Shelf.Strconv.ParseUint10Any
import Derived.Shelf.Strconv.ParseInt10
import Derived.Shelf.Strconv.RangeError
import Derived.Shelf.Strconv.ToErrorRange
import Derived.Shelf.Strconv.ParseUintEmpty
import Derived.Shelf.Strconv.ParseUint10b64
import Derived.Shelf.Strconv.ParseUint10b32
import Derived.Shelf.Strconv.ParseUint10b16
import Derived.Shelf.Strconv.ParseUint10b8
import Derived.Shelf.Strconv.ParseUint10At
import Derived.Shelf.Strconv.ParseInt10At64
import Derived.Shelf.Strconv.ParseInt10At32
import Derived.Shelf.Strconv.ParseInt10At16
import Derived.Shelf.Strconv.ParseInt10At8
import Derived.Shelf.Strconv.ParseInt10All
import Derived.Shelf.Strconv.ParseIntPublic10
import Derived.Shelf.Strconv.ErrVarParseInt
import Derived.Shelf.GgClosure.StringsIndexFunc
import Derived.Shelf.GgClosure.StringsTrimFunc
import Derived.Shelf.GgClosure.StringsRunes
import Derived.Shelf.Strings.Prefix
import Derived.Shelf.Unicode.Latin
import Derived.Shelf.Unicode.Decode
import Derived.Shelf.Unicode.DecodeSlow
import Derived.Shelf.Unicode.DecodeAny
import Derived.Shelf.Unicode.Is16White
import Derived.Shelf.Unicode.IsSpaceAny
import Derived.Shelf.Unicode.DecodeLast
import Derived.Shelf.Strings.TrimSpaceAny
import Derived.Shelf.Unicode.Is16WhiteD
import Derived.Shelf.Unicode.IsSpaceAnyD
import Derived.Shelf.Unicode.Is16Any
import Derived.Shelf.Unicode.Is32Any
import Derived.Shelf.Unicode.ExclAny
import Derived.Shelf.Strings.FuncGrows
import Derived.Shelf.Bytes.SlSearch0
import Derived.Shelf.Bytes.SlSmallAll
import Derived.Shelf.Bytes.SlEqualAll
import Derived.Shelf.Bytes.Small
import Derived.Test.YtijmnecjmihcfaaGreatDoorProg
namespace Go.Proofs
open Go.Shelf
def Tryz.lays156_ren : Go.Shelf.Ren := ⟨fun | 156 => 75 | 165 => 98 | 166 => 99 | 169 => 100 | 240 => 114 | 241 => 115 | 276 => 128 | 277 => 129 | n => n, fun | 31 => 48 | 9 => 9 | 3 => 3 | 4 => 4 | 0 => 0 | 20 => 20 | 72 => 165 | 76 => 97 | 70 => 163 | 37 => 34 | 75 => 62 | 127 => 179 | 164 => 206 | 5 => 5 | 80 => 167 | n => n, fun | n => n⟩
theorem Tryz.lays156 : Go.Proofs.Lays.n156 Tryz.prog Tryz.lays156_ren := {
  mixed := by kernel_rfl
  f156 := Tryz.func75.trans (congrArg some (by kernel_rfl))
  f165 := Tryz.func98.trans (congrArg some (by kernel_rfl))
  f166 := Tryz.func99.trans (congrArg some (by kernel_rfl))
  f169 := Tryz.func100.trans (congrArg some (by kernel_rfl))
  f240 := Tryz.func114.trans (congrArg some (by kernel_rfl))
  f241 := Tryz.func115.trans (congrArg some (by kernel_rfl))
  f276 := Tryz.func128.trans (congrArg some (by kernel_rfl))
  f277 := Tryz.func129.trans (congrArg some (by kernel_rfl))
  t0 := Tryz.underlying0
  a0 := Tryz.isAgg0
  z0 := Tryz.sizeOf0
  v0 := Tryz.zeroValue0
  t3 := Tryz.underlying3
  a3 := Tryz.isAgg3
  z3 := Tryz.sizeOf3
  v3 := Tryz.zeroValue3
  t4 := Tryz.underlying4
  a4 := Tryz.isAgg4
  z4 := Tryz.sizeOf4
  v4 := Tryz.zeroValue4
  t9 := Tryz.underlying9
  a9 := Tryz.isAgg9
  z9 := Tryz.sizeOf9
  v9 := Tryz.zeroValue9
  t20 := Tryz.underlying20
  a20 := Tryz.isAgg20
  z20 := Tryz.sizeOf20
  v20 := Tryz.zeroValue20
  t31 := Tryz.underlying48
  a31 := Tryz.isAgg48
  z31 := Tryz.sizeOf48
  v31 := Tryz.zeroValue48
  t37 := Tryz.underlying34
  a37 := Tryz.isAgg34
  z37 := Tryz.sizeOf34
  v37 := Tryz.zeroValue34
  t70 := Tryz.underlying163
  a70 := Tryz.isAgg163
  z70 := Tryz.sizeOf163
  v70 := Tryz.zeroValue163
  t72 := Tryz.underlying165
  a72 := Tryz.isAgg165
  z72 := Tryz.sizeOf165
  v72 := Tryz.zeroValue165
  t75 := Tryz.underlying62
  a75 := Tryz.isAgg62
  z75 := Tryz.sizeOf62
  v75 := Tryz.zeroValue62
  t76 := Tryz.underlying97
  a76 := Tryz.isAgg97
  z76 := Tryz.sizeOf97
  v76 := Tryz.zeroValue97
  t127 := Tryz.underlying179
  a127 := Tryz.isAgg179
  z127 := Tryz.sizeOf179
  v127 := Tryz.zeroValue179
  t164 := Tryz.underlying206
  a164 := Tryz.isAgg206
  z164 := Tryz.sizeOf206
  v164 := Tryz.zeroValue206 }
theorem Tryz.Builder_Extra_156 : Builder.Extra Tryz.prog Tryz.lays156_ren := {
  sizeBuilder := by kernel_rfl
  liesBuilder := by kernel_rfl
  t5 := Tryz.underlying5
  a5 := Tryz.isAgg5
  z5 := Tryz.sizeOf5
  v5 := Tryz.zeroValue5
  infoByte := by kernel_rfl
  cellsByte := by kernel_rfl
  sizeByte := by kernel_rfl
  neB5 := by decide }
open Go.RowKit in
/-- strings.Join: "Join concatenates the elements of its first argument to create a single string. The separator string sep is placed between elements in the resulting string.": HOWEVER MANY ELEMENTS. Below the heap's end the world is as it was. (LAID: no walk: one application.) -/
theorem Tryz.strings_Join (bk o c : Nat) (xs : List ByteArray) (sep : ByteArray) (w : World) (hcells : ∀ (j : Nat) x, xs[j]? = some x → w.cell? ⟨bk, o + j, none⟩ = some (.string x)) (hbk : bk < w.heap.size) (hN : xs.length ≤ 140737488355328) (hcap : xs.length ≤ c) (hlen : (Lib.join (xs.map (·.data.toList)) sep.data.toList).length ≤ 140737488355328) :
    Calls Tryz.prog 75 #[.slice (some ⟨bk, o, none⟩) xs.length c, .string sep] w fun e w' => e = .returned (.string ⟨(Lib.join (xs.map (·.data.toList)) sep.data.toList).toArray⟩) ∧ Below w.heap.size w w' := Any.strings_Join Tryz.lays156 Tryz.Builder_Extra_156 bk o c xs sep w hcells hbk hN hcap hlen
def Tryz.lays163_ren : Go.Shelf.Ren := ⟨fun | 163 => 76 | 237 => 101 | 199 => 80 | 238 => 102 | 272 => 116 | 261 => 104 | 273 => 117 | 197 => 79 | 315 => 130 | 311 => 118 | 312 => 119 | 271 => 131 | 260 => 103 | 120 => 140 | n => n, fun | 9 => 9 | 37 => 34 | 3 => 3 | 0 => 0 | 5 => 5 | 4 => 4 | 40 => 137 | 119 => 169 | 21 => 21 | 51 => 170 | 141 => 172 | 105 => 135 | 196 => 188 | 193 => 185 | 198 => 191 | 49 => 189 | 194 => 186 | 201 => 194 | 226 => 209 | 46 => 181 | 227 => 210 | 139 => 184 | 138 => 183 | n => n, fun | 0 => 1 | 6 => 2 | 3 => 4 | 4 => 5 | n => n⟩
theorem Tryz.lays163 : Go.Proofs.Lays.n163 Tryz.prog Tryz.lays163_ren := {
  mixed := by kernel_rfl
  f120 := Tryz.func140.trans (congrArg some (by kernel_rfl))
  f163 := Tryz.func76.trans (congrArg some (by kernel_rfl))
  f197 := Tryz.func79.trans (congrArg some (by kernel_rfl))
  f199 := Tryz.func80.trans (congrArg some (by kernel_rfl))
  f237 := Tryz.func101.trans (congrArg some (by kernel_rfl))
  f238 := Tryz.func102.trans (congrArg some (by kernel_rfl))
  f260 := Tryz.func103.trans (congrArg some (by kernel_rfl))
  f261 := Tryz.func104.trans (congrArg some (by kernel_rfl))
  f271 := Tryz.func131.trans (congrArg some (by kernel_rfl))
  f272 := Tryz.func116.trans (congrArg some (by kernel_rfl))
  f273 := Tryz.func117.trans (congrArg some (by kernel_rfl))
  f311 := Tryz.func118.trans (congrArg some (by kernel_rfl))
  f312 := Tryz.func119.trans (congrArg some (by kernel_rfl))
  f315 := Tryz.func130.trans (congrArg some (by kernel_rfl))
  t0 := Tryz.underlying0
  a0 := Tryz.isAgg0
  z0 := Tryz.sizeOf0
  v0 := Tryz.zeroValue0
  t3 := Tryz.underlying3
  a3 := Tryz.isAgg3
  z3 := Tryz.sizeOf3
  v3 := Tryz.zeroValue3
  t4 := Tryz.underlying4
  a4 := Tryz.isAgg4
  z4 := Tryz.sizeOf4
  v4 := Tryz.zeroValue4
  t5 := Tryz.underlying5
  a5 := Tryz.isAgg5
  z5 := Tryz.sizeOf5
  v5 := Tryz.zeroValue5
  t9 := Tryz.underlying9
  a9 := Tryz.isAgg9
  z9 := Tryz.sizeOf9
  v9 := Tryz.zeroValue9
  t21 := Tryz.underlying21
  a21 := Tryz.isAgg21
  z21 := Tryz.sizeOf21
  v21 := Tryz.zeroValue21
  t37 := Tryz.underlying34
  a37 := Tryz.isAgg34
  z37 := Tryz.sizeOf34
  v37 := Tryz.zeroValue34
  t40 := Tryz.underlying137
  a40 := Tryz.isAgg137
  z40 := Tryz.sizeOf137
  v40 := Tryz.zeroValue137
  t46 := Tryz.underlying181
  a46 := Tryz.isAgg181
  z46 := Tryz.sizeOf181
  v46 := Tryz.zeroValue181
  t49 := Tryz.underlying189
  a49 := Tryz.isAgg189
  z49 := Tryz.sizeOf189
  v49 := Tryz.zeroValue189
  t51 := Tryz.underlying170
  a51 := Tryz.isAgg170
  z51 := Tryz.sizeOf170
  v51 := Tryz.zeroValue170
  t105 := Tryz.underlying135
  a105 := Tryz.isAgg135
  z105 := Tryz.sizeOf135
  v105 := Tryz.zeroValue135
  t119 := Tryz.underlying169
  a119 := Tryz.isAgg169
  z119 := Tryz.sizeOf169
  t138 := Tryz.underlying183
  a138 := Tryz.isAgg183
  z138 := Tryz.sizeOf183
  v138 := Tryz.zeroValue183
  t139 := Tryz.underlying184
  a139 := Tryz.isAgg184
  z139 := Tryz.sizeOf184
  v139 := Tryz.zeroValue184
  t141 := Tryz.underlying172
  a141 := Tryz.isAgg172
  z141 := Tryz.sizeOf172
  v141 := Tryz.zeroValue172
  t193 := Tryz.underlying185
  a193 := Tryz.isAgg185
  z193 := Tryz.sizeOf185
  v193 := Tryz.zeroValue185
  t194 := Tryz.underlying186
  a194 := Tryz.isAgg186
  z194 := Tryz.sizeOf186
  v194 := Tryz.zeroValue186
  t196 := Tryz.underlying188
  a196 := Tryz.isAgg188
  z196 := Tryz.sizeOf188
  v196 := Tryz.zeroValue188
  t198 := Tryz.underlying191
  a198 := Tryz.isAgg191
  z198 := Tryz.sizeOf191
  v198 := Tryz.zeroValue191
  t201 := Tryz.underlying194
  a201 := Tryz.isAgg194
  z201 := Tryz.sizeOf194
  v201 := Tryz.zeroValue194
  t226 := Tryz.underlying209
  a226 := Tryz.isAgg209
  z226 := Tryz.sizeOf209
  v226 := Tryz.zeroValue209
  t227 := Tryz.underlying210
  a227 := Tryz.isAgg210
  z227 := Tryz.sizeOf210
  v227 := Tryz.zeroValue210
  g0 := by kernel_rfl
  g3 := by kernel_rfl
  g4 := by kernel_rfl
  g6 := by kernel_rfl }
theorem Tryz.Space_Extra_163 : Space.Extra Tryz.prog Tryz.lays163_ren := {
  gNamed := by kernel_rfl }
open Go.RowKit in
theorem Tryz.strings_TrimSpace (s : ByteArray) (w : World) (hs : s.size ≤ 9223372036854775807) (hascii : ∀ (j : Nat) b, s.data.toList[j]? = some b → b.toNat < 128) (htab : Lib.TabIs Tryz.prog w "strings.asciiSpace" .u8 Lib.asciiSpaceTab) :
    Calls Tryz.prog 76 #[.string s] w fun e w' => e = .returned (.string ⟨(Lib.trimSpace s.data.toList).toArray⟩) ∧ w' = Lib.bytesWorld w 5 s := Any.strings_TrimSpace Tryz.lays163 Tryz.Space_Extra_163 s w hs hascii htab
def Tryz.laysM171_ren : Go.Shelf.Ren := ⟨fun | 171 => 84 | 243 => 108 | 246 => 125 | 283 => 136 | 284 => 137 | 285 => 138 | 286 => 139 | 129 => 142 | 317 => 141 | 318 => 143 | 319 => 144 | 320 => 145 | 337 => 146 | 338 => 147 | n => n, fun | 3 => 3 | 9 => 9 | 2 => 2 | 4 => 4 | 171 => 215 | 0 => 0 | 53 => 197 | 37 => 34 | 5 => 5 | 173 => 218 | 212 => 225 | 51 => 170 | 20 => 20 | 213 => 226 | 46 => 181 | 232 => 229 | 233 => 230 | n => n, fun | 17 => 9 | 18 => 10 | 19 => 11 | n => n⟩
theorem Tryz.laysM171 : Go.Proofs.LaysM.n171 Tryz.prog Tryz.laysM171_ren := {
  mixed := by kernel_rfl
  f129 := Tryz.func142.trans (congrArg some (by kernel_rfl))
  f171 := Tryz.func84.trans (congrArg some (by kernel_rfl))
  f243 := Tryz.func108.trans (congrArg some (by kernel_rfl))
  f246 := Tryz.func125.trans (congrArg some (by kernel_rfl))
  f283 := Tryz.func136.trans (congrArg some (by kernel_rfl))
  f284 := Tryz.func137.trans (congrArg some (by kernel_rfl))
  f285 := Tryz.func138.trans (congrArg some (by kernel_rfl))
  f286 := Tryz.func139.trans (congrArg some (by kernel_rfl))
  f317 := Tryz.func141.trans (congrArg some (by kernel_rfl))
  f318 := Tryz.func143.trans (congrArg some (by kernel_rfl))
  f319 := Tryz.func144.trans (congrArg some (by kernel_rfl))
  f320 := Tryz.func145.trans (congrArg some (by kernel_rfl))
  f337 := Tryz.func146.trans (congrArg some (by kernel_rfl))
  f338 := Tryz.func147.trans (congrArg some (by kernel_rfl))
  t0 := Tryz.underlying0
  a0 := Tryz.isAgg0
  z0 := Tryz.sizeOf0
  v0 := Tryz.zeroValue0
  t2 := Tryz.underlying2
  a2 := Tryz.isAgg2
  z2 := Tryz.sizeOf2
  v2 := Tryz.zeroValue2
  t3 := Tryz.underlying3
  a3 := Tryz.isAgg3
  z3 := Tryz.sizeOf3
  v3 := Tryz.zeroValue3
  t4 := Tryz.underlying4
  a4 := Tryz.isAgg4
  z4 := Tryz.sizeOf4
  v4 := Tryz.zeroValue4
  t5 := Tryz.underlying5
  a5 := Tryz.isAgg5
  z5 := Tryz.sizeOf5
  v5 := Tryz.zeroValue5
  t9 := Tryz.underlying9
  a9 := Tryz.isAgg9
  z9 := Tryz.sizeOf9
  v9 := Tryz.zeroValue9
  t20 := Tryz.underlying20
  a20 := Tryz.isAgg20
  z20 := Tryz.sizeOf20
  v20 := Tryz.zeroValue20
  t37 := Tryz.underlying34
  a37 := Tryz.isAgg34
  z37 := Tryz.sizeOf34
  v37 := Tryz.zeroValue34
  t46 := Tryz.underlying181
  a46 := Tryz.isAgg181
  z46 := Tryz.sizeOf181
  v46 := Tryz.zeroValue181
  t51 := Tryz.underlying170
  a51 := Tryz.isAgg170
  z51 := Tryz.sizeOf170
  v51 := Tryz.zeroValue170
  t53 := Tryz.underlying197
  a53 := Tryz.isAgg197
  z53 := Tryz.sizeOf197
  v53 := Tryz.zeroValue197
  t171 := Tryz.underlying215
  a171 := Tryz.isAgg215
  z171 := Tryz.sizeOf215
  v171 := Tryz.zeroValue215
  t173 := Tryz.underlying218
  a173 := Tryz.isAgg218
  z173 := Tryz.sizeOf218
  v173 := Tryz.zeroValue218
  t212 := Tryz.underlying225
  a212 := Tryz.isAgg225
  z212 := Tryz.sizeOf225
  v212 := Tryz.zeroValue225
  t213 := Tryz.underlying226
  a213 := Tryz.isAgg226
  z213 := Tryz.sizeOf226
  t232 := Tryz.underlying229
  a232 := Tryz.isAgg229
  z232 := Tryz.sizeOf229
  v232 := Tryz.zeroValue229
  t233 := Tryz.underlying230
  a233 := Tryz.isAgg230
  z233 := Tryz.sizeOf230
  v233 := Tryz.zeroValue230
  g17 := by kernel_rfl
  g18 := by kernel_rfl
  g19 := by kernel_rfl
  i0 := by kernel_rfl
  i2 := by kernel_rfl
  i3 := by kernel_rfl
  i4 := by kernel_rfl
  i5 := by kernel_rfl
  i9 := by kernel_rfl
  i20 := by kernel_rfl
  i37 := by kernel_rfl
  i46 := by kernel_rfl
  i51 := by kernel_rfl
  i53 := by kernel_rfl
  i171 := by kernel_rfl
  i173 := by kernel_rfl
  i212 := by kernel_rfl
  i232 := by kernel_rfl
  i233 := by kernel_rfl
  m17 := by kernel_rfl
  m18 := by kernel_rfl
  m19 := by kernel_rfl }
open Go.RowKit Go.Sort Go.Lib in
/-- strconv.Itoa: "Itoa is equivalent to FormatInt(int64(i), 10).": i's DECIMAL NUMERAL ('Lib.itoa': a '-' where i is negative, then the digits), FOR EVERY int. The world behind the call: the world before it, new blocks behind the heap (the library's 'var a [24]byte'), draws. (LAID: no walk: one application.) -/
theorem Tryz.strconv_Itoa (n : Int) (h0 : -9223372036854775808 ≤ n) (h1 : n ≤ 9223372036854775807) (w : World) (htab : Lib.TabIs Tryz.prog w "internal/strconv.uint64pow10" .u64 Lib.pow10Tab) :
    Calls Tryz.prog 84 #[.int .i64 n] w fun e w' => e = .returned (.string ⟨(Lib.itoa n).toArray⟩) ∧ ∃ k os, w' = grow (w.drewN k) os := Any.strconv_Itoa Tryz.laysM171 n h0 h1 w htab
def Tryz.laysC174_ren : Go.Shelf.Ren := ⟨fun | 174 => 82 | 247 => 105 | 245 => 106 | 287 => 120 | 279 => 121 | 280 => 122 | 281 => 123 | 282 => 124 | 321 => 132 | 322 => 133 | 316 => 134 | 171 => 84 | 205 => 135 | 243 => 108 | 246 => 125 | 283 => 136 | 284 => 137 | 285 => 138 | 286 => 139 | 129 => 142 | 317 => 141 | 318 => 143 | 319 => 144 | 320 => 145 | 337 => 146 | 338 => 147 | n => n, fun | 9 => 9 | 3 => 3 | 2 => 2 | 75 => 62 | 85 => 138 | 4 => 4 | 167 => 196 | 5 => 5 | 53 => 197 | 175 => 198 | 46 => 181 | 168 => 200 | 37 => 34 | 0 => 0 | 210 => 213 | 21 => 21 | 127 => 179 | 145 => 222 | 143 => 220 | 171 => 215 | 173 => 218 | 212 => 225 | 51 => 170 | 20 => 20 | 213 => 226 | 232 => 229 | 233 => 230 | 80 => 167 | n => n, fun | 15 => 6 | 16 => 7 | 17 => 9 | 18 => 10 | 19 => 11 | n => n⟩
theorem Tryz.laysC174 : Go.Proofs.LaysC.n174 Tryz.prog Tryz.laysC174_ren := {
  mixed := by kernel_rfl
  f129 := Tryz.func142.trans (congrArg some (by kernel_rfl))
  f171 := Tryz.func84.trans (congrArg some (by kernel_rfl))
  f174 := Tryz.func82.trans (congrArg some (by kernel_rfl))
  f205 := Tryz.func135.trans (congrArg some (by kernel_rfl))
  f243 := Tryz.func108.trans (congrArg some (by kernel_rfl))
  f245 := Tryz.func106.trans (congrArg some (by kernel_rfl))
  f246 := Tryz.func125.trans (congrArg some (by kernel_rfl))
  f247 := Tryz.func105.trans (congrArg some (by kernel_rfl))
  f279 := Tryz.func121.trans (congrArg some (by kernel_rfl))
  f280 := Tryz.func122.trans (congrArg some (by kernel_rfl))
  f281 := Tryz.func123.trans (congrArg some (by kernel_rfl))
  f282 := Tryz.func124.trans (congrArg some (by kernel_rfl))
  f283 := Tryz.func136.trans (congrArg some (by kernel_rfl))
  f284 := Tryz.func137.trans (congrArg some (by kernel_rfl))
  f285 := Tryz.func138.trans (congrArg some (by kernel_rfl))
  f286 := Tryz.func139.trans (congrArg some (by kernel_rfl))
  f287 := Tryz.func120.trans (congrArg some (by kernel_rfl))
  f316 := Tryz.func134.trans (congrArg some (by kernel_rfl))
  f317 := Tryz.func141.trans (congrArg some (by kernel_rfl))
  f318 := Tryz.func143.trans (congrArg some (by kernel_rfl))
  f319 := Tryz.func144.trans (congrArg some (by kernel_rfl))
  f320 := Tryz.func145.trans (congrArg some (by kernel_rfl))
  f321 := Tryz.func132.trans (congrArg some (by kernel_rfl))
  f322 := Tryz.func133.trans (congrArg some (by kernel_rfl))
  f337 := Tryz.func146.trans (congrArg some (by kernel_rfl))
  f338 := Tryz.func147.trans (congrArg some (by kernel_rfl))
  t0 := Tryz.underlying0
  a0 := Tryz.isAgg0
  z0 := Tryz.sizeOf0
  v0 := Tryz.zeroValue0
  t2 := Tryz.underlying2
  a2 := Tryz.isAgg2
  z2 := Tryz.sizeOf2
  v2 := Tryz.zeroValue2
  t3 := Tryz.underlying3
  a3 := Tryz.isAgg3
  z3 := Tryz.sizeOf3
  v3 := Tryz.zeroValue3
  t4 := Tryz.underlying4
  a4 := Tryz.isAgg4
  z4 := Tryz.sizeOf4
  v4 := Tryz.zeroValue4
  t5 := Tryz.underlying5
  a5 := Tryz.isAgg5
  z5 := Tryz.sizeOf5
  v5 := Tryz.zeroValue5
  t9 := Tryz.underlying9
  a9 := Tryz.isAgg9
  z9 := Tryz.sizeOf9
  v9 := Tryz.zeroValue9
  t20 := Tryz.underlying20
  a20 := Tryz.isAgg20
  z20 := Tryz.sizeOf20
  v20 := Tryz.zeroValue20
  t21 := Tryz.underlying21
  a21 := Tryz.isAgg21
  z21 := Tryz.sizeOf21
  v21 := Tryz.zeroValue21
  t37 := Tryz.underlying34
  a37 := Tryz.isAgg34
  z37 := Tryz.sizeOf34
  v37 := Tryz.zeroValue34
  t46 := Tryz.underlying181
  a46 := Tryz.isAgg181
  z46 := Tryz.sizeOf181
  v46 := Tryz.zeroValue181
  t51 := Tryz.underlying170
  a51 := Tryz.isAgg170
  z51 := Tryz.sizeOf170
  v51 := Tryz.zeroValue170
  t53 := Tryz.underlying197
  a53 := Tryz.isAgg197
  z53 := Tryz.sizeOf197
  v53 := Tryz.zeroValue197
  t75 := Tryz.underlying62
  a75 := Tryz.isAgg62
  z75 := Tryz.sizeOf62
  v75 := Tryz.zeroValue62
  t85 := Tryz.underlying138
  a85 := Tryz.isAgg138
  z85 := Tryz.sizeOf138
  v85 := Tryz.zeroValue138
  t127 := Tryz.underlying179
  a127 := Tryz.isAgg179
  z127 := Tryz.sizeOf179
  v127 := Tryz.zeroValue179
  t143 := Tryz.underlying220
  a143 := Tryz.isAgg220
  z143 := Tryz.sizeOf220
  v143 := Tryz.zeroValue220
  t145 := Tryz.underlying222
  a145 := Tryz.isAgg222
  z145 := Tryz.sizeOf222
  v145 := Tryz.zeroValue222
  t167 := Tryz.underlying196
  a167 := Tryz.isAgg196
  z167 := Tryz.sizeOf196
  v167 := Tryz.zeroValue196
  t168 := Tryz.underlying200
  a168 := Tryz.isAgg200
  z168 := Tryz.sizeOf200
  v168 := Tryz.zeroValue200
  t171 := Tryz.underlying215
  a171 := Tryz.isAgg215
  z171 := Tryz.sizeOf215
  v171 := Tryz.zeroValue215
  t173 := Tryz.underlying218
  a173 := Tryz.isAgg218
  z173 := Tryz.sizeOf218
  v173 := Tryz.zeroValue218
  t175 := Tryz.underlying198
  a175 := Tryz.isAgg198
  z175 := Tryz.sizeOf198
  v175 := Tryz.zeroValue198
  t210 := Tryz.underlying213
  a210 := Tryz.isAgg213
  z210 := Tryz.sizeOf213
  v210 := Tryz.zeroValue213
  t212 := Tryz.underlying225
  a212 := Tryz.isAgg225
  z212 := Tryz.sizeOf225
  v212 := Tryz.zeroValue225
  t213 := Tryz.underlying226
  a213 := Tryz.isAgg226
  z213 := Tryz.sizeOf226
  t232 := Tryz.underlying229
  a232 := Tryz.isAgg229
  z232 := Tryz.sizeOf229
  v232 := Tryz.zeroValue229
  t233 := Tryz.underlying230
  a233 := Tryz.isAgg230
  z233 := Tryz.sizeOf230
  v233 := Tryz.zeroValue230
  g15 := by kernel_rfl
  g16 := by kernel_rfl
  g17 := by kernel_rfl
  g18 := by kernel_rfl
  g19 := by kernel_rfl
  t80 := Tryz.underlying167
  a80 := Tryz.isAgg167
  z80 := Tryz.sizeOf167
  v80 := Tryz.zeroValue167
  i0 := by kernel_rfl
  i2 := by kernel_rfl
  i3 := by kernel_rfl
  i4 := by kernel_rfl
  i5 := by kernel_rfl
  i9 := by kernel_rfl
  i20 := by kernel_rfl
  i21 := by kernel_rfl
  i37 := by kernel_rfl
  i46 := by kernel_rfl
  i51 := by kernel_rfl
  i53 := by kernel_rfl
  i75 := by kernel_rfl
  i80 := by kernel_rfl
  i85 := by kernel_rfl
  i127 := by kernel_rfl
  i143 := by kernel_rfl
  i145 := by kernel_rfl
  i167 := by kernel_rfl
  i168 := by kernel_rfl
  i171 := by kernel_rfl
  i173 := by kernel_rfl
  i175 := by kernel_rfl
  i210 := by kernel_rfl
  i212 := by kernel_rfl
  i232 := by kernel_rfl
  i233 := by kernel_rfl
  m15 := by kernel_rfl
  m16 := by kernel_rfl
  m17 := by kernel_rfl
  m18 := by kernel_rfl
  m19 := by kernel_rfl
  c0 := by kernel_rfl
  c2 := by kernel_rfl
  c3 := by kernel_rfl
  c4 := by kernel_rfl
  c5 := by kernel_rfl
  c9 := by kernel_rfl
  c20 := by kernel_rfl
  c21 := by kernel_rfl
  c37 := by kernel_rfl
  c46 := by kernel_rfl
  c51 := by kernel_rfl
  c53 := by kernel_rfl
  c75 := by kernel_rfl
  c80 := by kernel_rfl
  c85 := by kernel_rfl
  c127 := by kernel_rfl
  c143 := by kernel_rfl
  c145 := by kernel_rfl
  c167 := by kernel_rfl
  c168 := by kernel_rfl
  c171 := by kernel_rfl
  c173 := by kernel_rfl
  c175 := by kernel_rfl
  c210 := by kernel_rfl
  c212 := by kernel_rfl
  c213 := by kernel_rfl
  c232 := by kernel_rfl
  c233 := by kernel_rfl }
open Go.RowKit in
/-- strconv.ParseInt(s, 10, 64), AT EVERY STRING THAT SPELLS AN int64 ('Lib.parseIntB 64 s.data.toList = .ok v'): v, AND NO ERROR. (LAID: no walk: one application.) -/
theorem Tryz.strconv_ParseInt_10_at64_ok (s : ByteArray) (hmax : s.size ≤ 9223372036854775806) (v : Int) (h : Lib.parseIntB 64 s.data.toList = .ok v) (w : World) :
    Calls Tryz.prog 82 #[.string s, .int .i64 10, .int .i64 64] w fun e w' => e = .returned (.tuple #[.int .i64 v, .nilIface]) ∧ (w' = w ∨ ∃ t, w' = Lib.bytesWorld w 5 t) := Any.strconv_ParseInt_10_at64_ok Tryz.laysC174 s hmax v h w
open Go.RowKit in
def Tryz.lays102_ren : Go.Shelf.Ren := ⟨fun | 102 => 72 | 209 => 96 | 207 => 113 | n => n, fun | 9 => 9 | 4 => 4 | 3 => 3 | n => n, fun | n => n⟩
theorem Tryz.lays102 : Go.Proofs.Lays.n102 Tryz.prog Tryz.lays102_ren := {
  mixed := by kernel_rfl
  f102 := Tryz.func72.trans (congrArg some (by kernel_rfl))
  f207 := Tryz.func113.trans (congrArg some (by kernel_rfl))
  f209 := Tryz.func96.trans (congrArg some (by kernel_rfl))
  t3 := Tryz.underlying3
  a3 := Tryz.isAgg3
  z3 := Tryz.sizeOf3
  v3 := Tryz.zeroValue3
  t4 := Tryz.underlying4
  a4 := Tryz.isAgg4
  z4 := Tryz.sizeOf4
  v4 := Tryz.zeroValue4
  t9 := Tryz.underlying9
  a9 := Tryz.isAgg9
  z9 := Tryz.sizeOf9
  v9 := Tryz.zeroValue9 }
open Go.RowKit Go.Lib in
/-- strings.TrimSuffix: "TrimSuffix returns s without the provided trailing suffix string. If s doesn't end with suffix, s is returned unchanged.": IT RETURNS 'Lib.trimSuffix s suffix'; the world is as it was. (LAID: no walk: one application.) -/
theorem Tryz.strings_TrimSuffix (s p : ByteArray) (w : World) (hs : s.size ≤ 9223372036854775807) :
    Calls Tryz.prog 72 #[.string s, .string p] w fun e w' => e = .returned (.string ⟨(Lib.trimSuffix s.data.toList p.data.toList).toArray⟩) ∧ w' = w := Any.strings_TrimSuffix Tryz.lays102 s p w hs
def Tryz.lays199_ren : Go.Shelf.Ren := ⟨fun | 199 => 80 | 261 => 104 | 311 => 118 | 312 => 119 | n => n, fun | 21 => 21 | 4 => 4 | 51 => 170 | 141 => 172 | 0 => 0 | 196 => 188 | 193 => 185 | 3 => 3 | 198 => 191 | 49 => 189 | 194 => 186 | 201 => 194 | 226 => 209 | 46 => 181 | 227 => 210 | n => n, fun | 6 => 2 | n => n⟩
theorem Tryz.lays199 : Go.Proofs.Lays.n199 Tryz.prog Tryz.lays199_ren := {
  mixed := by kernel_rfl
  f199 := Tryz.func80.trans (congrArg some (by kernel_rfl))
  f261 := Tryz.func104.trans (congrArg some (by kernel_rfl))
  f311 := Tryz.func118.trans (congrArg some (by kernel_rfl))
  f312 := Tryz.func119.trans (congrArg some (by kernel_rfl))
  t0 := Tryz.underlying0
  a0 := Tryz.isAgg0
  z0 := Tryz.sizeOf0
  v0 := Tryz.zeroValue0
  t3 := Tryz.underlying3
  a3 := Tryz.isAgg3
  z3 := Tryz.sizeOf3
  v3 := Tryz.zeroValue3
  t4 := Tryz.underlying4
  a4 := Tryz.isAgg4
  z4 := Tryz.sizeOf4
  v4 := Tryz.zeroValue4
  t21 := Tryz.underlying21
  a21 := Tryz.isAgg21
  z21 := Tryz.sizeOf21
  v21 := Tryz.zeroValue21
  t46 := Tryz.underlying181
  a46 := Tryz.isAgg181
  z46 := Tryz.sizeOf181
  v46 := Tryz.zeroValue181
  t49 := Tryz.underlying189
  a49 := Tryz.isAgg189
  z49 := Tryz.sizeOf189
  v49 := Tryz.zeroValue189
  t51 := Tryz.underlying170
  a51 := Tryz.isAgg170
  z51 := Tryz.sizeOf170
  v51 := Tryz.zeroValue170
  t141 := Tryz.underlying172
  a141 := Tryz.isAgg172
  z141 := Tryz.sizeOf172
  v141 := Tryz.zeroValue172
  t193 := Tryz.underlying185
  a193 := Tryz.isAgg185
  z193 := Tryz.sizeOf185
  v193 := Tryz.zeroValue185
  t194 := Tryz.underlying186
  a194 := Tryz.isAgg186
  z194 := Tryz.sizeOf186
  v194 := Tryz.zeroValue186
  t196 := Tryz.underlying188
  a196 := Tryz.isAgg188
  z196 := Tryz.sizeOf188
  v196 := Tryz.zeroValue188
  t198 := Tryz.underlying191
  a198 := Tryz.isAgg191
  z198 := Tryz.sizeOf191
  v198 := Tryz.zeroValue191
  t201 := Tryz.underlying194
  a201 := Tryz.isAgg194
  z201 := Tryz.sizeOf194
  v201 := Tryz.zeroValue194
  t226 := Tryz.underlying209
  a226 := Tryz.isAgg209
  z226 := Tryz.sizeOf209
  v226 := Tryz.zeroValue209
  t227 := Tryz.underlying210
  a227 := Tryz.isAgg210
  z227 := Tryz.sizeOf210
  v227 := Tryz.zeroValue210
  g6 := by kernel_rfl }
open Go.RowKit Go.Lib in
theorem Tryz.unicode_IsSpace (r : Int) (w : World) (h0 : 0 ≤ r) (h : r ≤ 255) :
    Calls Tryz.prog 80 #[.int .i32 r] w fun e w' => e = .returned (.bool (Lib.isSpaceL r)) ∧ w' = w := Any.unicode_IsSpace Tryz.lays199 r w h0 h
def Tryz.lays197_ren : Go.Shelf.Ren := ⟨fun | 197 => 79 | 260 => 103 | n => n, fun | 9 => 9 | 21 => 21 | 3 => 3 | 4 => 4 | 5 => 5 | 105 => 135 | 119 => 169 | 0 => 0 | 46 => 181 | 139 => 184 | 138 => 183 | n => n, fun | 3 => 4 | 4 => 5 | n => n⟩
theorem Tryz.lays197 : Go.Proofs.Lays.n197 Tryz.prog Tryz.lays197_ren := {
  mixed := by kernel_rfl
  f197 := Tryz.func79.trans (congrArg some (by kernel_rfl))
  f260 := Tryz.func103.trans (congrArg some (by kernel_rfl))
  t0 := Tryz.underlying0
  a0 := Tryz.isAgg0
  z0 := Tryz.sizeOf0
  v0 := Tryz.zeroValue0
  t3 := Tryz.underlying3
  a3 := Tryz.isAgg3
  z3 := Tryz.sizeOf3
  v3 := Tryz.zeroValue3
  t4 := Tryz.underlying4
  a4 := Tryz.isAgg4
  z4 := Tryz.sizeOf4
  v4 := Tryz.zeroValue4
  t5 := Tryz.underlying5
  a5 := Tryz.isAgg5
  z5 := Tryz.sizeOf5
  v5 := Tryz.zeroValue5
  t9 := Tryz.underlying9
  a9 := Tryz.isAgg9
  z9 := Tryz.sizeOf9
  v9 := Tryz.zeroValue9
  t21 := Tryz.underlying21
  a21 := Tryz.isAgg21
  z21 := Tryz.sizeOf21
  v21 := Tryz.zeroValue21
  t46 := Tryz.underlying181
  a46 := Tryz.isAgg181
  z46 := Tryz.sizeOf181
  v46 := Tryz.zeroValue181
  t105 := Tryz.underlying135
  a105 := Tryz.isAgg135
  z105 := Tryz.sizeOf135
  v105 := Tryz.zeroValue135
  t119 := Tryz.underlying169
  a119 := Tryz.isAgg169
  z119 := Tryz.sizeOf169
  t138 := Tryz.underlying183
  a138 := Tryz.isAgg183
  z138 := Tryz.sizeOf183
  v138 := Tryz.zeroValue183
  t139 := Tryz.underlying184
  a139 := Tryz.isAgg184
  z139 := Tryz.sizeOf184
  v139 := Tryz.zeroValue184
  g3 := by kernel_rfl
  g4 := by kernel_rfl }
open Go.RowKit Go.Lib in
/-- unicode/utf8.DecodeRuneInString: "DecodeRuneInString is like DecodeRune but its input is a string.": ("DecodeRune unpacks the first UTF-8 encoding in p and returns the rune and its width in bytes."): WHERE s BEGINS WITH AN ASCII BYTE x: (x, 1). (LAID: no walk: one application.) -/
theorem Tryz.utf8_DecodeRuneInString_ascii (s : ByteArray) (x : UInt8) (w : World) (h0 : s.data.toList[0]? = some x) (hx : x.toNat < 128) :
    Calls Tryz.prog 79 #[.string s] w fun e w' => e = .returned (.tuple #[.int .i32 x.toNat, .int .i64 1]) ∧ w' = w := Any.utf8_DecodeRuneInString_ascii Tryz.lays197 s x w h0 hx
def Tryz.laysnb116_ren : Go.Shelf.Ren := ⟨fun | 116 => 91 | 115 => 85 | n => n, fun | 37 => 34 | 4 => 4 | 3 => 3 | 9 => 9 | 5 => 5 | n => n, fun | n => n⟩
theorem Tryz.laysnb116 : Go.Proofs.Lays.nb116 Tryz.prog Tryz.laysnb116_ren := {
  mixed := by kernel_rfl
  f115 := Tryz.func85.trans (congrArg some (by kernel_rfl))
  f116 := Tryz.func91.trans (congrArg some (by kernel_rfl))
  t3 := Tryz.underlying3
  a3 := Tryz.isAgg3
  z3 := Tryz.sizeOf3
  v3 := Tryz.zeroValue3
  t4 := Tryz.underlying4
  a4 := Tryz.isAgg4
  z4 := Tryz.sizeOf4
  v4 := Tryz.zeroValue4
  t9 := Tryz.underlying9
  a9 := Tryz.isAgg9
  z9 := Tryz.sizeOf9
  v9 := Tryz.zeroValue9
  t37 := Tryz.underlying34
  a37 := Tryz.isAgg34
  z37 := Tryz.sizeOf34
  v37 := Tryz.zeroValue34
  t5 := Tryz.underlying5
  a5 := Tryz.isAgg5
  z5 := Tryz.sizeOf5
  v5 := Tryz.zeroValue5 }
def Tryz.laysnb117_ren : Go.Shelf.Ren := ⟨fun | 117 => 65 | 115 => 85 | n => n, fun | 37 => 34 | 4 => 4 | 3 => 3 | 9 => 9 | 5 => 5 | n => n, fun | n => n⟩
theorem Tryz.laysnb117 : Go.Proofs.Lays.nb117 Tryz.prog Tryz.laysnb117_ren := {
  mixed := by kernel_rfl
  f115 := Tryz.func85.trans (congrArg some (by kernel_rfl))
  f117 := Tryz.func65.trans (congrArg some (by kernel_rfl))
  t3 := Tryz.underlying3
  a3 := Tryz.isAgg3
  z3 := Tryz.sizeOf3
  v3 := Tryz.zeroValue3
  t4 := Tryz.underlying4
  a4 := Tryz.isAgg4
  z4 := Tryz.sizeOf4
  v4 := Tryz.zeroValue4
  t9 := Tryz.underlying9
  a9 := Tryz.isAgg9
  z9 := Tryz.sizeOf9
  v9 := Tryz.zeroValue9
  t37 := Tryz.underlying34
  a37 := Tryz.isAgg34
  z37 := Tryz.sizeOf34
  v37 := Tryz.zeroValue34
  t5 := Tryz.underlying5
  a5 := Tryz.isAgg5
  z5 := Tryz.sizeOf5
  v5 := Tryz.zeroValue5 }
def Tryz.laysnb140_ren : Go.Shelf.Ren := ⟨fun | 140 => 95 | 117 => 65 | 115 => 85 | n => n, fun | 37 => 34 | 4 => 4 | 3 => 3 | 9 => 9 | 5 => 5 | n => n, fun | n => n⟩
theorem Tryz.laysnb140 : Go.Proofs.Lays.nb140 Tryz.prog Tryz.laysnb140_ren := {
  mixed := by kernel_rfl
  f115 := Tryz.func85.trans (congrArg some (by kernel_rfl))
  f117 := Tryz.func65.trans (congrArg some (by kernel_rfl))
  f140 := Tryz.func95.trans (congrArg some (by kernel_rfl))
  t3 := Tryz.underlying3
  a3 := Tryz.isAgg3
  z3 := Tryz.sizeOf3
  v3 := Tryz.zeroValue3
  t4 := Tryz.underlying4
  a4 := Tryz.isAgg4
  z4 := Tryz.sizeOf4
  v4 := Tryz.zeroValue4
  t9 := Tryz.underlying9
  a9 := Tryz.isAgg9
  z9 := Tryz.sizeOf9
  v9 := Tryz.zeroValue9
  t37 := Tryz.underlying34
  a37 := Tryz.isAgg34
  z37 := Tryz.sizeOf34
  v37 := Tryz.zeroValue34
  t5 := Tryz.underlying5
  a5 := Tryz.isAgg5
  z5 := Tryz.sizeOf5
  v5 := Tryz.zeroValue5 }
/-- bytes.HasPrefix: WHOLE: each argument nil, or of no byte at whatever address, or at an address with its cells. (LAID: no walk: one application.) -/
theorem Tryz.bytes_HasPrefix_all (p1 p2 : Option Addr) (n c m d : Nat) (xs ys : List Int) (w : World) (hx : xs.length = n) (hy : ys.length = m) (hnc : n ≤ c) (h1 : Lib.BytesIn w p1 n xs) (h2 : Lib.BytesIn w p2 m ys) :
    Calls Tryz.prog 91 #[.slice p1 n c, .slice p2 m d] w fun e w' => e = .returned (.bool (Lib.hasPrefix (Lib.bytesOf xs) (Lib.bytesOf ys))) ∧ w' = w := Any.bytes_HasPrefix_all Tryz.laysnb116 p1 p2 n c m d xs ys w hx hy hnc h1 h2
/-- bytes.HasSuffix: WHOLE: each argument nil, or of no byte at whatever address, or at an address with its cells. (LAID: no walk: one application.) -/
theorem Tryz.bytes_HasSuffix_all (p1 p2 : Option Addr) (n c m d : Nat) (xs ys : List Int) (w : World) (hx : xs.length = n) (hy : ys.length = m) (hnc : n ≤ c) (hbig : n ≤ 9223372036854775807) (h1 : Lib.BytesIn w p1 n xs) (h2 : Lib.BytesIn w p2 m ys) :
    Calls Tryz.prog 65 #[.slice p1 n c, .slice p2 m d] w fun e w' => e = .returned (.bool (Lib.hasSuffix (Lib.bytesOf xs) (Lib.bytesOf ys))) ∧ w' = w := Any.bytes_HasSuffix_all Tryz.laysnb117 p1 p2 n c m d xs ys w hx hy hnc hbig h1 h2
/-- bytes.TrimSuffix: WHOLE. (LAID: no walk: one application.) -/
theorem Tryz.bytes_TrimSuffix_all (p1 p2 : Option Addr) (n c m d : Nat) (xs ys : List Int) (w : World) (hx : xs.length = n) (hy : ys.length = m) (hnc : n ≤ c) (hbig : n ≤ 9223372036854775807) (h1 : Lib.BytesIn w p1 n xs) (h2 : Lib.BytesIn w p2 m ys) :
    Calls Tryz.prog 95 #[.slice p1 n c, .slice p2 m d] w fun e w' => e = .returned (Lib.trimSuffixV p1 n c xs ys) ∧ w' = w := Any.bytes_TrimSuffix_all Tryz.laysnb140 p1 p2 n c m d xs ys w hx hy hnc hbig h1 h2
def Tryz.laysnb115_ren : Go.Shelf.Ren := ⟨fun | 115 => 85 | n => n, fun | 37 => 34 | 4 => 4 | 9 => 9 | 5 => 5 | n => n, fun | n => n⟩
theorem Tryz.laysnb115 : Go.Proofs.Lays.nb115 Tryz.prog Tryz.laysnb115_ren := {
  mixed := by kernel_rfl
  f115 := Tryz.func85.trans (congrArg some (by kernel_rfl))
  t4 := Tryz.underlying4
  a4 := Tryz.isAgg4
  z4 := Tryz.sizeOf4
  v4 := Tryz.zeroValue4
  t9 := Tryz.underlying9
  a9 := Tryz.isAgg9
  z9 := Tryz.sizeOf9
  v9 := Tryz.zeroValue9
  t37 := Tryz.underlying34
  a37 := Tryz.isAgg34
  z37 := Tryz.sizeOf34
  v37 := Tryz.zeroValue34
  t5 := Tryz.underlying5
  a5 := Tryz.isAgg5
  z5 := Tryz.sizeOf5
  v5 := Tryz.zeroValue5 }
/-- bytes.Equal: WHOLE. (LAID: no walk: one application.) -/
theorem Tryz.bytes_Equal_all (p1 p2 : Option Addr) (n c m d : Nat) (xs ys : List Int) (w : World) (hx : xs.length = n) (hy : ys.length = m) (h1 : Lib.BytesIn w p1 n xs) (h2 : Lib.BytesIn w p2 m ys) :
    Calls Tryz.prog 85 #[.slice p1 n c, .slice p2 m d] w fun e w' => e = .returned (.bool (Lib.bytesOf xs == Lib.bytesOf ys)) ∧ w' = w := Any.bytes_Equal_all Tryz.laysnb115 p1 p2 n c m d xs ys w hx hy h1 h2
end Go.Proofs
