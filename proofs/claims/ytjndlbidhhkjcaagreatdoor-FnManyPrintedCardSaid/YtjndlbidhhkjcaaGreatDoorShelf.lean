/-
  DERIVED: THE SHELF's CONTRACTS AT THIS DUMP, IN PLAIN WORDS (tools/lay-plain.mjs out of 'TryzShelf.lean', which tools/lay-shelf.mjs wrote): THE SAME DECLARATIONS UNDER THE SAME NAMES: 'import', 'namespace', 'open', 'def', 'theorem' AND NOTHING ELSE: no command of the shelf's: FOR A HAND-IN. Each laying: the table of numbers ('.._ren') and one theorem, a field a fact of the dump's own or the kernel's comparison; each contract: ONE APPLICATION.
-/
import Derived.Shelf.Strings.Builder1
import Derived.Shelf.Strings.Builder2
import Derived.Shelf.Strings.OnBuilder
import Derived.Shelf.Strings.TrimSpace
import Derived.Shelf.Small.Utf8
import Derived.Shelf.Strings.BuilderF
import Derived.Shelf.Strings.BuilderK
import Derived.Shelf.Strconv.Itoa0
import Derived.Shelf.Strconv.Itoa1
import Derived.Shelf.LaysM
import Derived.Shelf.Strconv.Itoa2
import Derived.Shelf.Strconv.Itoa3
import Derived.Shelf.Strconv.ParseIntEmpty
import Derived.Shelf.Strconv.Clone
import Derived.Shelf.Strconv.SyntaxError
import Derived.Shelf.LaysC
import Derived.Shelf.Strconv.ToError
import Derived.Shelf.Strconv.Lower
import Derived.Shelf.Strconv.ParseUint10
import Derived.Shelf.Strconv.ParseUint10Empty
import Derived.Shelf.Strconv.ParseUint10Any
import Derived.Shelf.Strconv.ParseInt10
import Derived.Shelf.Strconv.RangeError
import Derived.Shelf.Strconv.ToErrorRange
import Derived.Shelf.Strconv.ParseUintEmpty
import Derived.Shelf.Strconv.ParseUint10b64
import Derived.Shelf.Strconv.ParseUint10b32
import Derived.Shelf.Strconv.ParseUint10b16
import Derived.Shelf.Strconv.ParseUint10b8
import Derived.Shelf.Strconv.ParseUint10At
import Derived.Shelf.Strconv.ParseInt10At64
import Derived.Shelf.Strconv.ParseInt10At32
import Derived.Shelf.Strconv.ParseInt10At16
import Derived.Shelf.Strconv.ParseInt10At8
import Derived.Shelf.Strconv.ParseInt10All
import Derived.Shelf.Strconv.ParseIntPublic10
import Derived.Shelf.Strconv.ErrVarParseInt
import Derived.Shelf.GgClosure.StringsIndexFunc
import Derived.Shelf.GgClosure.StringsTrimFunc
import Derived.Shelf.GgClosure.StringsRunes
import Derived.Shelf.Strings.Prefix
import Derived.Shelf.Unicode.Latin
import Derived.Shelf.Unicode.Decode
import Derived.Shelf.Unicode.DecodeSlow
import Derived.Shelf.Unicode.DecodeAny
import Derived.Shelf.Unicode.Is16White
import Derived.Shelf.Unicode.IsSpaceAny
import Derived.Shelf.Unicode.DecodeLast
import Derived.Shelf.Strings.TrimSpaceAny
import Derived.Shelf.Unicode.Is16WhiteD
import Derived.Shelf.Unicode.IsSpaceAnyD
import Derived.Shelf.Unicode.Is16Any
import Derived.Shelf.Unicode.Is32Any
import Derived.Shelf.Unicode.ExclAny
import Derived.Shelf.Strings.FuncGrows
import Derived.Shelf.Bytes.SlSmallAll
import Derived.Shelf.Bytes.SlEqualAll
import Derived.Shelf.Bytes.Small
import Derived.Test.YtjndlbidhhkjcaaGreatDoorProg
namespace Go.Proofs
open Go.Shelf
def Tryz.lays156_ren : Go.Shelf.Ren := ⟨fun | 156 => 92 | 165 => 114 | 166 => 115 | 169 => 116 | 240 => 138 | 241 => 139 | 276 => 172 | 277 => 173 | n => n, fun | 31 => 22 | 9 => 9 | 3 => 3 | 4 => 4 | 0 => 0 | 20 => 20 | 72 => 183 | 76 => 71 | 70 => 181 | 37 => 30 | 75 => 48 | 127 => 211 | 164 => 272 | 5 => 5 | 80 => 149 | n => n, fun | n => n⟩
theorem Tryz.lays156 : Go.Proofs.Lays.n156 Tryz.prog Tryz.lays156_ren := {
  mixed := by kernel_rfl
  f156 := Tryz.func92.trans (congrArg some (by kernel_rfl))
  f165 := Tryz.func114.trans (congrArg some (by kernel_rfl))
  f166 := Tryz.func115.trans (congrArg some (by kernel_rfl))
  f169 := Tryz.func116.trans (congrArg some (by kernel_rfl))
  f240 := Tryz.func138.trans (congrArg some (by kernel_rfl))
  f241 := Tryz.func139.trans (congrArg some (by kernel_rfl))
  f276 := Tryz.func172.trans (congrArg some (by kernel_rfl))
  f277 := Tryz.func173.trans (congrArg some (by kernel_rfl))
  t0 := Tryz.underlying0
  a0 := Tryz.isAgg0
  z0 := Tryz.sizeOf0
  v0 := Tryz.zeroValue0
  t3 := Tryz.underlying3
  a3 := Tryz.isAgg3
  z3 := Tryz.sizeOf3
  v3 := Tryz.zeroValue3
  t4 := Tryz.underlying4
  a4 := Tryz.isAgg4
  z4 := Tryz.sizeOf4
  v4 := Tryz.zeroValue4
  t9 := Tryz.underlying9
  a9 := Tryz.isAgg9
  z9 := Tryz.sizeOf9
  v9 := Tryz.zeroValue9
  t20 := Tryz.underlying20
  a20 := Tryz.isAgg20
  z20 := Tryz.sizeOf20
  v20 := Tryz.zeroValue20
  t31 := Tryz.underlying22
  a31 := Tryz.isAgg22
  z31 := Tryz.sizeOf22
  v31 := Tryz.zeroValue22
  t37 := Tryz.underlying30
  a37 := Tryz.isAgg30
  z37 := Tryz.sizeOf30
  v37 := Tryz.zeroValue30
  t70 := Tryz.underlying181
  a70 := Tryz.isAgg181
  z70 := Tryz.sizeOf181
  v70 := Tryz.zeroValue181
  t72 := Tryz.underlying183
  a72 := Tryz.isAgg183
  z72 := Tryz.sizeOf183
  v72 := Tryz.zeroValue183
  t75 := Tryz.underlying48
  a75 := Tryz.isAgg48
  z75 := Tryz.sizeOf48
  v75 := Tryz.zeroValue48
  t76 := Tryz.underlying71
  a76 := Tryz.isAgg71
  z76 := Tryz.sizeOf71
  v76 := Tryz.zeroValue71
  t127 := Tryz.underlying211
  a127 := Tryz.isAgg211
  z127 := Tryz.sizeOf211
  v127 := Tryz.zeroValue211
  t164 := Tryz.underlying272
  a164 := Tryz.isAgg272
  z164 := Tryz.sizeOf272
  v164 := Tryz.zeroValue272 }
theorem Tryz.Builder_Extra_156 : Builder.Extra Tryz.prog Tryz.lays156_ren := {
  sizeBuilder := by kernel_rfl
  liesBuilder := by kernel_rfl
  t5 := Tryz.underlying5
  a5 := Tryz.isAgg5
  z5 := Tryz.sizeOf5
  v5 := Tryz.zeroValue5
  infoByte := by kernel_rfl
  cellsByte := by kernel_rfl
  sizeByte := by kernel_rfl
  neB5 := by decide }
open Go.RowKit in
/-- strings.Join: "Join concatenates the elements of its first argument to create a single string. The separator string sep is placed between elements in the resulting string.": HOWEVER MANY ELEMENTS. Below the heap's end the world is as it was. (LAID: no walk: one application.) -/
theorem Tryz.strings_Join (bk o c : Nat) (xs : List ByteArray) (sep : ByteArray) (w : World) (hcells : ∀ (j : Nat) x, xs[j]? = some x → w.cell? ⟨bk, o + j, none⟩ = some (.string x)) (hbk : bk < w.heap.size) (hN : xs.length ≤ 140737488355328) (hcap : xs.length ≤ c) (hlen : (Lib.join (xs.map (·.data.toList)) sep.data.toList).length ≤ 140737488355328) :
    Calls Tryz.prog 92 #[.slice (some ⟨bk, o, none⟩) xs.length c, .string sep] w fun e w' => e = .returned (.string ⟨(Lib.join (xs.map (·.data.toList)) sep.data.toList).toArray⟩) ∧ Below w.heap.size w w' := Any.strings_Join Tryz.lays156 Tryz.Builder_Extra_156 bk o c xs sep w hcells hbk hN hcap hlen
def Tryz.lays163_ren : Go.Shelf.Ren := ⟨fun | 163 => 93 | 237 => 117 | 199 => 97 | 238 => 118 | 272 => 140 | 261 => 120 | 273 => 141 | 197 => 96 | 315 => 174 | 311 => 142 | 312 => 143 | 271 => 175 | 260 => 119 | 120 => 189 | n => n, fun | 9 => 9 | 37 => 30 | 3 => 3 | 0 => 0 | 5 => 5 | 4 => 4 | 40 => 168 | 119 => 186 | 21 => 21 | 51 => 187 | 141 => 189 | 105 => 166 | 196 => 220 | 193 => 217 | 198 => 223 | 49 => 221 | 194 => 218 | 201 => 226 | 226 => 275 | 46 => 213 | 227 => 276 | 139 => 216 | 138 => 215 | n => n, fun | 0 => 3 | 6 => 4 | 3 => 5 | 4 => 6 | n => n⟩
theorem Tryz.lays163 : Go.Proofs.Lays.n163 Tryz.prog Tryz.lays163_ren := {
  mixed := by kernel_rfl
  f120 := Tryz.func189.trans (congrArg some (by kernel_rfl))
  f163 := Tryz.func93.trans (congrArg some (by kernel_rfl))
  f197 := Tryz.func96.trans (congrArg some (by kernel_rfl))
  f199 := Tryz.func97.trans (congrArg some (by kernel_rfl))
  f237 := Tryz.func117.trans (congrArg some (by kernel_rfl))
  f238 := Tryz.func118.trans (congrArg some (by kernel_rfl))
  f260 := Tryz.func119.trans (congrArg some (by kernel_rfl))
  f261 := Tryz.func120.trans (congrArg some (by kernel_rfl))
  f271 := Tryz.func175.trans (congrArg some (by kernel_rfl))
  f272 := Tryz.func140.trans (congrArg some (by kernel_rfl))
  f273 := Tryz.func141.trans (congrArg some (by kernel_rfl))
  f311 := Tryz.func142.trans (congrArg some (by kernel_rfl))
  f312 := Tryz.func143.trans (congrArg some (by kernel_rfl))
  f315 := Tryz.func174.trans (congrArg some (by kernel_rfl))
  t0 := Tryz.underlying0
  a0 := Tryz.isAgg0
  z0 := Tryz.sizeOf0
  v0 := Tryz.zeroValue0
  t3 := Tryz.underlying3
  a3 := Tryz.isAgg3
  z3 := Tryz.sizeOf3
  v3 := Tryz.zeroValue3
  t4 := Tryz.underlying4
  a4 := Tryz.isAgg4
  z4 := Tryz.sizeOf4
  v4 := Tryz.zeroValue4
  t5 := Tryz.underlying5
  a5 := Tryz.isAgg5
  z5 := Tryz.sizeOf5
  v5 := Tryz.zeroValue5
  t9 := Tryz.underlying9
  a9 := Tryz.isAgg9
  z9 := Tryz.sizeOf9
  v9 := Tryz.zeroValue9
  t21 := Tryz.underlying21
  a21 := Tryz.isAgg21
  z21 := Tryz.sizeOf21
  v21 := Tryz.zeroValue21
  t37 := Tryz.underlying30
  a37 := Tryz.isAgg30
  z37 := Tryz.sizeOf30
  v37 := Tryz.zeroValue30
  t40 := Tryz.underlying168
  a40 := Tryz.isAgg168
  z40 := Tryz.sizeOf168
  v40 := Tryz.zeroValue168
  t46 := Tryz.underlying213
  a46 := Tryz.isAgg213
  z46 := Tryz.sizeOf213
  v46 := Tryz.zeroValue213
  t49 := Tryz.underlying221
  a49 := Tryz.isAgg221
  z49 := Tryz.sizeOf221
  v49 := Tryz.zeroValue221
  t51 := Tryz.underlying187
  a51 := Tryz.isAgg187
  z51 := Tryz.sizeOf187
  v51 := Tryz.zeroValue187
  t105 := Tryz.underlying166
  a105 := Tryz.isAgg166
  z105 := Tryz.sizeOf166
  v105 := Tryz.zeroValue166
  t119 := Tryz.underlying186
  a119 := Tryz.isAgg186
  z119 := Tryz.sizeOf186
  t138 := Tryz.underlying215
  a138 := Tryz.isAgg215
  z138 := Tryz.sizeOf215
  v138 := Tryz.zeroValue215
  t139 := Tryz.underlying216
  a139 := Tryz.isAgg216
  z139 := Tryz.sizeOf216
  v139 := Tryz.zeroValue216
  t141 := Tryz.underlying189
  a141 := Tryz.isAgg189
  z141 := Tryz.sizeOf189
  v141 := Tryz.zeroValue189
  t193 := Tryz.underlying217
  a193 := Tryz.isAgg217
  z193 := Tryz.sizeOf217
  v193 := Tryz.zeroValue217
  t194 := Tryz.underlying218
  a194 := Tryz.isAgg218
  z194 := Tryz.sizeOf218
  v194 := Tryz.zeroValue218
  t196 := Tryz.underlying220
  a196 := Tryz.isAgg220
  z196 := Tryz.sizeOf220
  v196 := Tryz.zeroValue220
  t198 := Tryz.underlying223
  a198 := Tryz.isAgg223
  z198 := Tryz.sizeOf223
  v198 := Tryz.zeroValue223
  t201 := Tryz.underlying226
  a201 := Tryz.isAgg226
  z201 := Tryz.sizeOf226
  v201 := Tryz.zeroValue226
  t226 := Tryz.underlying275
  a226 := Tryz.isAgg275
  z226 := Tryz.sizeOf275
  v226 := Tryz.zeroValue275
  t227 := Tryz.underlying276
  a227 := Tryz.isAgg276
  z227 := Tryz.sizeOf276
  v227 := Tryz.zeroValue276
  g0 := by kernel_rfl
  g3 := by kernel_rfl
  g4 := by kernel_rfl
  g6 := by kernel_rfl }
theorem Tryz.Space_Extra_163 : Space.Extra Tryz.prog Tryz.lays163_ren := {
  gNamed := by kernel_rfl }
open Go.RowKit in
theorem Tryz.strings_TrimSpace (s : ByteArray) (w : World) (hs : s.size ≤ 9223372036854775807) (hascii : ∀ (j : Nat) b, s.data.toList[j]? = some b → b.toNat < 128) (htab : Lib.TabIs Tryz.prog w "strings.asciiSpace" .u8 Lib.asciiSpaceTab) :
    Calls Tryz.prog 93 #[.string s] w fun e w' => e = .returned (.string ⟨(Lib.trimSpace s.data.toList).toArray⟩) ∧ w' = Lib.bytesWorld w 5 s := Any.strings_TrimSpace Tryz.lays163 Tryz.Space_Extra_163 s w hs hascii htab
def Tryz.laysM171_ren : Go.Shelf.Ren := ⟨fun | 171 => 83 | 243 => 105 | 246 => 136 | 283 => 168 | 284 => 169 | 285 => 170 | 286 => 171 | 129 => 185 | 317 => 184 | 318 => 186 | 319 => 187 | 320 => 188 | 337 => 191 | 338 => 192 | n => n, fun | 3 => 3 | 9 => 9 | 2 => 2 | 4 => 4 | 171 => 267 | 0 => 0 | 53 => 150 | 37 => 30 | 5 => 5 | 173 => 270 | 212 => 286 | 51 => 187 | 20 => 20 | 213 => 287 | 46 => 213 | 232 => 293 | 233 => 154 | n => n, fun | 17 => 10 | 18 => 11 | 19 => 12 | n => n⟩
theorem Tryz.laysM171 : Go.Proofs.LaysM.n171 Tryz.prog Tryz.laysM171_ren := {
  mixed := by kernel_rfl
  f129 := Tryz.func185.trans (congrArg some (by kernel_rfl))
  f171 := Tryz.func83.trans (congrArg some (by kernel_rfl))
  f243 := Tryz.func105.trans (congrArg some (by kernel_rfl))
  f246 := Tryz.func136.trans (congrArg some (by kernel_rfl))
  f283 := Tryz.func168.trans (congrArg some (by kernel_rfl))
  f284 := Tryz.func169.trans (congrArg some (by kernel_rfl))
  f285 := Tryz.func170.trans (congrArg some (by kernel_rfl))
  f286 := Tryz.func171.trans (congrArg some (by kernel_rfl))
  f317 := Tryz.func184.trans (congrArg some (by kernel_rfl))
  f318 := Tryz.func186.trans (congrArg some (by kernel_rfl))
  f319 := Tryz.func187.trans (congrArg some (by kernel_rfl))
  f320 := Tryz.func188.trans (congrArg some (by kernel_rfl))
  f337 := Tryz.func191.trans (congrArg some (by kernel_rfl))
  f338 := Tryz.func192.trans (congrArg some (by kernel_rfl))
  t0 := Tryz.underlying0
  a0 := Tryz.isAgg0
  z0 := Tryz.sizeOf0
  v0 := Tryz.zeroValue0
  t2 := Tryz.underlying2
  a2 := Tryz.isAgg2
  z2 := Tryz.sizeOf2
  v2 := Tryz.zeroValue2
  t3 := Tryz.underlying3
  a3 := Tryz.isAgg3
  z3 := Tryz.sizeOf3
  v3 := Tryz.zeroValue3
  t4 := Tryz.underlying4
  a4 := Tryz.isAgg4
  z4 := Tryz.sizeOf4
  v4 := Tryz.zeroValue4
  t5 := Tryz.underlying5
  a5 := Tryz.isAgg5
  z5 := Tryz.sizeOf5
  v5 := Tryz.zeroValue5
  t9 := Tryz.underlying9
  a9 := Tryz.isAgg9
  z9 := Tryz.sizeOf9
  v9 := Tryz.zeroValue9
  t20 := Tryz.underlying20
  a20 := Tryz.isAgg20
  z20 := Tryz.sizeOf20
  v20 := Tryz.zeroValue20
  t37 := Tryz.underlying30
  a37 := Tryz.isAgg30
  z37 := Tryz.sizeOf30
  v37 := Tryz.zeroValue30
  t46 := Tryz.underlying213
  a46 := Tryz.isAgg213
  z46 := Tryz.sizeOf213
  v46 := Tryz.zeroValue213
  t51 := Tryz.underlying187
  a51 := Tryz.isAgg187
  z51 := Tryz.sizeOf187
  v51 := Tryz.zeroValue187
  t53 := Tryz.underlying150
  a53 := Tryz.isAgg150
  z53 := Tryz.sizeOf150
  v53 := Tryz.zeroValue150
  t171 := Tryz.underlying267
  a171 := Tryz.isAgg267
  z171 := Tryz.sizeOf267
  v171 := Tryz.zeroValue267
  t173 := Tryz.underlying270
  a173 := Tryz.isAgg270
  z173 := Tryz.sizeOf270
  v173 := Tryz.zeroValue270
  t212 := Tryz.underlying286
  a212 := Tryz.isAgg286
  z212 := Tryz.sizeOf286
  v212 := Tryz.zeroValue286
  t213 := Tryz.underlying287
  a213 := Tryz.isAgg287
  z213 := Tryz.sizeOf287
  t232 := Tryz.underlying293
  a232 := Tryz.isAgg293
  z232 := Tryz.sizeOf293
  v232 := Tryz.zeroValue293
  t233 := Tryz.underlying154
  a233 := Tryz.isAgg154
  z233 := Tryz.sizeOf154
  v233 := Tryz.zeroValue154
  g17 := by kernel_rfl
  g18 := by kernel_rfl
  g19 := by kernel_rfl
  i0 := by kernel_rfl
  i2 := by kernel_rfl
  i3 := by kernel_rfl
  i4 := by kernel_rfl
  i5 := by kernel_rfl
  i9 := by kernel_rfl
  i20 := by kernel_rfl
  i37 := by kernel_rfl
  i46 := by kernel_rfl
  i51 := by kernel_rfl
  i53 := by kernel_rfl
  i171 := by kernel_rfl
  i173 := by kernel_rfl
  i212 := by kernel_rfl
  i232 := by kernel_rfl
  i233 := by kernel_rfl
  m17 := by kernel_rfl
  m18 := by kernel_rfl
  m19 := by kernel_rfl }
open Go.RowKit Go.Sort Go.Lib in
/-- strconv.Itoa: "Itoa is equivalent to FormatInt(int64(i), 10).": i's DECIMAL NUMERAL ('Lib.itoa': a '-' where i is negative, then the digits), FOR EVERY int. The world behind the call: the world before it, new blocks behind the heap (the library's 'var a [24]byte'), draws. (LAID: no walk: one application.) -/
theorem Tryz.strconv_Itoa (n : Int) (h0 : -9223372036854775808 ≤ n) (h1 : n ≤ 9223372036854775807) (w : World) (htab : Lib.TabIs Tryz.prog w "internal/strconv.uint64pow10" .u64 Lib.pow10Tab) :
    Calls Tryz.prog 83 #[.int .i64 n] w fun e w' => e = .returned (.string ⟨(Lib.itoa n).toArray⟩) ∧ ∃ k os, w' = grow (w.drewN k) os := Any.strconv_Itoa Tryz.laysM171 n h0 h1 w htab
def Tryz.laysC174_ren : Go.Shelf.Ren := ⟨fun | 174 => 99 | 247 => 121 | 245 => 122 | 287 => 144 | 279 => 145 | 280 => 146 | 281 => 147 | 282 => 148 | 321 => 176 | 322 => 177 | 316 => 178 | 171 => 83 | 205 => 179 | 243 => 105 | 246 => 136 | 283 => 168 | 284 => 169 | 285 => 170 | 286 => 171 | 129 => 185 | 317 => 184 | 318 => 186 | 319 => 187 | 320 => 188 | 337 => 191 | 338 => 192 | n => n, fun | 9 => 9 | 3 => 3 | 2 => 2 | 75 => 48 | 85 => 169 | 4 => 4 | 167 => 228 | 5 => 5 | 53 => 150 | 175 => 229 | 46 => 213 | 168 => 231 | 37 => 30 | 0 => 0 | 210 => 279 | 21 => 21 | 127 => 211 | 145 => 291 | 143 => 289 | 171 => 267 | 173 => 270 | 212 => 286 | 51 => 187 | 20 => 20 | 213 => 287 | 232 => 293 | 233 => 154 | 80 => 149 | n => n, fun | 15 => 8 | 16 => 9 | 17 => 10 | 18 => 11 | 19 => 12 | n => n⟩
theorem Tryz.laysC174 : Go.Proofs.LaysC.n174 Tryz.prog Tryz.laysC174_ren := {
  mixed := by kernel_rfl
  f129 := Tryz.func185.trans (congrArg some (by kernel_rfl))
  f171 := Tryz.func83.trans (congrArg some (by kernel_rfl))
  f174 := Tryz.func99.trans (congrArg some (by kernel_rfl))
  f205 := Tryz.func179.trans (congrArg some (by kernel_rfl))
  f243 := Tryz.func105.trans (congrArg some (by kernel_rfl))
  f245 := Tryz.func122.trans (congrArg some (by kernel_rfl))
  f246 := Tryz.func136.trans (congrArg some (by kernel_rfl))
  f247 := Tryz.func121.trans (congrArg some (by kernel_rfl))
  f279 := Tryz.func145.trans (congrArg some (by kernel_rfl))
  f280 := Tryz.func146.trans (congrArg some (by kernel_rfl))
  f281 := Tryz.func147.trans (congrArg some (by kernel_rfl))
  f282 := Tryz.func148.trans (congrArg some (by kernel_rfl))
  f283 := Tryz.func168.trans (congrArg some (by kernel_rfl))
  f284 := Tryz.func169.trans (congrArg some (by kernel_rfl))
  f285 := Tryz.func170.trans (congrArg some (by kernel_rfl))
  f286 := Tryz.func171.trans (congrArg some (by kernel_rfl))
  f287 := Tryz.func144.trans (congrArg some (by kernel_rfl))
  f316 := Tryz.func178.trans (congrArg some (by kernel_rfl))
  f317 := Tryz.func184.trans (congrArg some (by kernel_rfl))
  f318 := Tryz.func186.trans (congrArg some (by kernel_rfl))
  f319 := Tryz.func187.trans (congrArg some (by kernel_rfl))
  f320 := Tryz.func188.trans (congrArg some (by kernel_rfl))
  f321 := Tryz.func176.trans (congrArg some (by kernel_rfl))
  f322 := Tryz.func177.trans (congrArg some (by kernel_rfl))
  f337 := Tryz.func191.trans (congrArg some (by kernel_rfl))
  f338 := Tryz.func192.trans (congrArg some (by kernel_rfl))
  t0 := Tryz.underlying0
  a0 := Tryz.isAgg0
  z0 := Tryz.sizeOf0
  v0 := Tryz.zeroValue0
  t2 := Tryz.underlying2
  a2 := Tryz.isAgg2
  z2 := Tryz.sizeOf2
  v2 := Tryz.zeroValue2
  t3 := Tryz.underlying3
  a3 := Tryz.isAgg3
  z3 := Tryz.sizeOf3
  v3 := Tryz.zeroValue3
  t4 := Tryz.underlying4
  a4 := Tryz.isAgg4
  z4 := Tryz.sizeOf4
  v4 := Tryz.zeroValue4
  t5 := Tryz.underlying5
  a5 := Tryz.isAgg5
  z5 := Tryz.sizeOf5
  v5 := Tryz.zeroValue5
  t9 := Tryz.underlying9
  a9 := Tryz.isAgg9
  z9 := Tryz.sizeOf9
  v9 := Tryz.zeroValue9
  t20 := Tryz.underlying20
  a20 := Tryz.isAgg20
  z20 := Tryz.sizeOf20
  v20 := Tryz.zeroValue20
  t21 := Tryz.underlying21
  a21 := Tryz.isAgg21
  z21 := Tryz.sizeOf21
  v21 := Tryz.zeroValue21
  t37 := Tryz.underlying30
  a37 := Tryz.isAgg30
  z37 := Tryz.sizeOf30
  v37 := Tryz.zeroValue30
  t46 := Tryz.underlying213
  a46 := Tryz.isAgg213
  z46 := Tryz.sizeOf213
  v46 := Tryz.zeroValue213
  t51 := Tryz.underlying187
  a51 := Tryz.isAgg187
  z51 := Tryz.sizeOf187
  v51 := Tryz.zeroValue187
  t53 := Tryz.underlying150
  a53 := Tryz.isAgg150
  z53 := Tryz.sizeOf150
  v53 := Tryz.zeroValue150
  t75 := Tryz.underlying48
  a75 := Tryz.isAgg48
  z75 := Tryz.sizeOf48
  v75 := Tryz.zeroValue48
  t85 := Tryz.underlying169
  a85 := Tryz.isAgg169
  z85 := Tryz.sizeOf169
  v85 := Tryz.zeroValue169
  t127 := Tryz.underlying211
  a127 := Tryz.isAgg211
  z127 := Tryz.sizeOf211
  v127 := Tryz.zeroValue211
  t143 := Tryz.underlying289
  a143 := Tryz.isAgg289
  z143 := Tryz.sizeOf289
  v143 := Tryz.zeroValue289
  t145 := Tryz.underlying291
  a145 := Tryz.isAgg291
  z145 := Tryz.sizeOf291
  v145 := Tryz.zeroValue291
  t167 := Tryz.underlying228
  a167 := Tryz.isAgg228
  z167 := Tryz.sizeOf228
  v167 := Tryz.zeroValue228
  t168 := Tryz.underlying231
  a168 := Tryz.isAgg231
  z168 := Tryz.sizeOf231
  v168 := Tryz.zeroValue231
  t171 := Tryz.underlying267
  a171 := Tryz.isAgg267
  z171 := Tryz.sizeOf267
  v171 := Tryz.zeroValue267
  t173 := Tryz.underlying270
  a173 := Tryz.isAgg270
  z173 := Tryz.sizeOf270
  v173 := Tryz.zeroValue270
  t175 := Tryz.underlying229
  a175 := Tryz.isAgg229
  z175 := Tryz.sizeOf229
  v175 := Tryz.zeroValue229
  t210 := Tryz.underlying279
  a210 := Tryz.isAgg279
  z210 := Tryz.sizeOf279
  v210 := Tryz.zeroValue279
  t212 := Tryz.underlying286
  a212 := Tryz.isAgg286
  z212 := Tryz.sizeOf286
  v212 := Tryz.zeroValue286
  t213 := Tryz.underlying287
  a213 := Tryz.isAgg287
  z213 := Tryz.sizeOf287
  t232 := Tryz.underlying293
  a232 := Tryz.isAgg293
  z232 := Tryz.sizeOf293
  v232 := Tryz.zeroValue293
  t233 := Tryz.underlying154
  a233 := Tryz.isAgg154
  z233 := Tryz.sizeOf154
  v233 := Tryz.zeroValue154
  g15 := by kernel_rfl
  g16 := by kernel_rfl
  g17 := by kernel_rfl
  g18 := by kernel_rfl
  g19 := by kernel_rfl
  t80 := Tryz.underlying149
  a80 := Tryz.isAgg149
  z80 := Tryz.sizeOf149
  v80 := Tryz.zeroValue149
  i0 := by kernel_rfl
  i2 := by kernel_rfl
  i3 := by kernel_rfl
  i4 := by kernel_rfl
  i5 := by kernel_rfl
  i9 := by kernel_rfl
  i20 := by kernel_rfl
  i21 := by kernel_rfl
  i37 := by kernel_rfl
  i46 := by kernel_rfl
  i51 := by kernel_rfl
  i53 := by kernel_rfl
  i75 := by kernel_rfl
  i80 := by kernel_rfl
  i85 := by kernel_rfl
  i127 := by kernel_rfl
  i143 := by kernel_rfl
  i145 := by kernel_rfl
  i167 := by kernel_rfl
  i168 := by kernel_rfl
  i171 := by kernel_rfl
  i173 := by kernel_rfl
  i175 := by kernel_rfl
  i210 := by kernel_rfl
  i212 := by kernel_rfl
  i232 := by kernel_rfl
  i233 := by kernel_rfl
  m15 := by kernel_rfl
  m16 := by kernel_rfl
  m17 := by kernel_rfl
  m18 := by kernel_rfl
  m19 := by kernel_rfl
  c0 := by kernel_rfl
  c2 := by kernel_rfl
  c3 := by kernel_rfl
  c4 := by kernel_rfl
  c5 := by kernel_rfl
  c9 := by kernel_rfl
  c20 := by kernel_rfl
  c21 := by kernel_rfl
  c37 := by kernel_rfl
  c46 := by kernel_rfl
  c51 := by kernel_rfl
  c53 := by kernel_rfl
  c75 := by kernel_rfl
  c80 := by kernel_rfl
  c85 := by kernel_rfl
  c127 := by kernel_rfl
  c143 := by kernel_rfl
  c145 := by kernel_rfl
  c167 := by kernel_rfl
  c168 := by kernel_rfl
  c171 := by kernel_rfl
  c173 := by kernel_rfl
  c175 := by kernel_rfl
  c210 := by kernel_rfl
  c212 := by kernel_rfl
  c213 := by kernel_rfl
  c232 := by kernel_rfl
  c233 := by kernel_rfl }
open Go.RowKit in
/-- strconv.ParseInt(s, 10, 64), AT EVERY STRING THAT SPELLS AN int64 ('Lib.parseIntB 64 s.data.toList = .ok v'): v, AND NO ERROR. (LAID: no walk: one application.) -/
theorem Tryz.strconv_ParseInt_10_at64_ok (s : ByteArray) (hmax : s.size ≤ 9223372036854775806) (v : Int) (h : Lib.parseIntB 64 s.data.toList = .ok v) (w : World) :
    Calls Tryz.prog 99 #[.string s, .int .i64 10, .int .i64 64] w fun e w' => e = .returned (.tuple #[.int .i64 v, .nilIface]) ∧ (w' = w ∨ ∃ t, w' = Lib.bytesWorld w 5 t) := Any.strconv_ParseInt_10_at64_ok Tryz.laysC174 s hmax v h w
open Go.RowKit in
def Tryz.lays102_ren : Go.Shelf.Ren := ⟨fun | 102 => 89 | 209 => 112 | 207 => 137 | n => n, fun | 9 => 9 | 4 => 4 | 3 => 3 | n => n, fun | n => n⟩
theorem Tryz.lays102 : Go.Proofs.Lays.n102 Tryz.prog Tryz.lays102_ren := {
  mixed := by kernel_rfl
  f102 := Tryz.func89.trans (congrArg some (by kernel_rfl))
  f207 := Tryz.func137.trans (congrArg some (by kernel_rfl))
  f209 := Tryz.func112.trans (congrArg some (by kernel_rfl))
  t3 := Tryz.underlying3
  a3 := Tryz.isAgg3
  z3 := Tryz.sizeOf3
  v3 := Tryz.zeroValue3
  t4 := Tryz.underlying4
  a4 := Tryz.isAgg4
  z4 := Tryz.sizeOf4
  v4 := Tryz.zeroValue4
  t9 := Tryz.underlying9
  a9 := Tryz.isAgg9
  z9 := Tryz.sizeOf9
  v9 := Tryz.zeroValue9 }
open Go.RowKit Go.Lib in
/-- strings.TrimSuffix: "TrimSuffix returns s without the provided trailing suffix string. If s doesn't end with suffix, s is returned unchanged.": IT RETURNS 'Lib.trimSuffix s suffix'; the world is as it was. (LAID: no walk: one application.) -/
theorem Tryz.strings_TrimSuffix (s p : ByteArray) (w : World) (hs : s.size ≤ 9223372036854775807) :
    Calls Tryz.prog 89 #[.string s, .string p] w fun e w' => e = .returned (.string ⟨(Lib.trimSuffix s.data.toList p.data.toList).toArray⟩) ∧ w' = w := Any.strings_TrimSuffix Tryz.lays102 s p w hs
def Tryz.lays199_ren : Go.Shelf.Ren := ⟨fun | 199 => 97 | 261 => 120 | 311 => 142 | 312 => 143 | n => n, fun | 21 => 21 | 4 => 4 | 51 => 187 | 141 => 189 | 0 => 0 | 196 => 220 | 193 => 217 | 3 => 3 | 198 => 223 | 49 => 221 | 194 => 218 | 201 => 226 | 226 => 275 | 46 => 213 | 227 => 276 | n => n, fun | 6 => 4 | n => n⟩
theorem Tryz.lays199 : Go.Proofs.Lays.n199 Tryz.prog Tryz.lays199_ren := {
  mixed := by kernel_rfl
  f199 := Tryz.func97.trans (congrArg some (by kernel_rfl))
  f261 := Tryz.func120.trans (congrArg some (by kernel_rfl))
  f311 := Tryz.func142.trans (congrArg some (by kernel_rfl))
  f312 := Tryz.func143.trans (congrArg some (by kernel_rfl))
  t0 := Tryz.underlying0
  a0 := Tryz.isAgg0
  z0 := Tryz.sizeOf0
  v0 := Tryz.zeroValue0
  t3 := Tryz.underlying3
  a3 := Tryz.isAgg3
  z3 := Tryz.sizeOf3
  v3 := Tryz.zeroValue3
  t4 := Tryz.underlying4
  a4 := Tryz.isAgg4
  z4 := Tryz.sizeOf4
  v4 := Tryz.zeroValue4
  t21 := Tryz.underlying21
  a21 := Tryz.isAgg21
  z21 := Tryz.sizeOf21
  v21 := Tryz.zeroValue21
  t46 := Tryz.underlying213
  a46 := Tryz.isAgg213
  z46 := Tryz.sizeOf213
  v46 := Tryz.zeroValue213
  t49 := Tryz.underlying221
  a49 := Tryz.isAgg221
  z49 := Tryz.sizeOf221
  v49 := Tryz.zeroValue221
  t51 := Tryz.underlying187
  a51 := Tryz.isAgg187
  z51 := Tryz.sizeOf187
  v51 := Tryz.zeroValue187
  t141 := Tryz.underlying189
  a141 := Tryz.isAgg189
  z141 := Tryz.sizeOf189
  v141 := Tryz.zeroValue189
  t193 := Tryz.underlying217
  a193 := Tryz.isAgg217
  z193 := Tryz.sizeOf217
  v193 := Tryz.zeroValue217
  t194 := Tryz.underlying218
  a194 := Tryz.isAgg218
  z194 := Tryz.sizeOf218
  v194 := Tryz.zeroValue218
  t196 := Tryz.underlying220
  a196 := Tryz.isAgg220
  z196 := Tryz.sizeOf220
  v196 := Tryz.zeroValue220
  t198 := Tryz.underlying223
  a198 := Tryz.isAgg223
  z198 := Tryz.sizeOf223
  v198 := Tryz.zeroValue223
  t201 := Tryz.underlying226
  a201 := Tryz.isAgg226
  z201 := Tryz.sizeOf226
  v201 := Tryz.zeroValue226
  t226 := Tryz.underlying275
  a226 := Tryz.isAgg275
  z226 := Tryz.sizeOf275
  v226 := Tryz.zeroValue275
  t227 := Tryz.underlying276
  a227 := Tryz.isAgg276
  z227 := Tryz.sizeOf276
  v227 := Tryz.zeroValue276
  g6 := by kernel_rfl }
open Go.RowKit Go.Lib in
theorem Tryz.unicode_IsSpace (r : Int) (w : World) (h0 : 0 ≤ r) (h : r ≤ 255) :
    Calls Tryz.prog 97 #[.int .i32 r] w fun e w' => e = .returned (.bool (Lib.isSpaceL r)) ∧ w' = w := Any.unicode_IsSpace Tryz.lays199 r w h0 h
def Tryz.lays197_ren : Go.Shelf.Ren := ⟨fun | 197 => 96 | 260 => 119 | n => n, fun | 9 => 9 | 21 => 21 | 3 => 3 | 4 => 4 | 5 => 5 | 105 => 166 | 119 => 186 | 0 => 0 | 46 => 213 | 139 => 216 | 138 => 215 | n => n, fun | 3 => 5 | 4 => 6 | n => n⟩
theorem Tryz.lays197 : Go.Proofs.Lays.n197 Tryz.prog Tryz.lays197_ren := {
  mixed := by kernel_rfl
  f197 := Tryz.func96.trans (congrArg some (by kernel_rfl))
  f260 := Tryz.func119.trans (congrArg some (by kernel_rfl))
  t0 := Tryz.underlying0
  a0 := Tryz.isAgg0
  z0 := Tryz.sizeOf0
  v0 := Tryz.zeroValue0
  t3 := Tryz.underlying3
  a3 := Tryz.isAgg3
  z3 := Tryz.sizeOf3
  v3 := Tryz.zeroValue3
  t4 := Tryz.underlying4
  a4 := Tryz.isAgg4
  z4 := Tryz.sizeOf4
  v4 := Tryz.zeroValue4
  t5 := Tryz.underlying5
  a5 := Tryz.isAgg5
  z5 := Tryz.sizeOf5
  v5 := Tryz.zeroValue5
  t9 := Tryz.underlying9
  a9 := Tryz.isAgg9
  z9 := Tryz.sizeOf9
  v9 := Tryz.zeroValue9
  t21 := Tryz.underlying21
  a21 := Tryz.isAgg21
  z21 := Tryz.sizeOf21
  v21 := Tryz.zeroValue21
  t46 := Tryz.underlying213
  a46 := Tryz.isAgg213
  z46 := Tryz.sizeOf213
  v46 := Tryz.zeroValue213
  t105 := Tryz.underlying166
  a105 := Tryz.isAgg166
  z105 := Tryz.sizeOf166
  v105 := Tryz.zeroValue166
  t119 := Tryz.underlying186
  a119 := Tryz.isAgg186
  z119 := Tryz.sizeOf186
  t138 := Tryz.underlying215
  a138 := Tryz.isAgg215
  z138 := Tryz.sizeOf215
  v138 := Tryz.zeroValue215
  t139 := Tryz.underlying216
  a139 := Tryz.isAgg216
  z139 := Tryz.sizeOf216
  v139 := Tryz.zeroValue216
  g3 := by kernel_rfl
  g4 := by kernel_rfl }
open Go.RowKit Go.Lib in
/-- unicode/utf8.DecodeRuneInString: "DecodeRuneInString is like DecodeRune but its input is a string.": ("DecodeRune unpacks the first UTF-8 encoding in p and returns the rune and its width in bytes."): WHERE s BEGINS WITH AN ASCII BYTE x: (x, 1). (LAID: no walk: one application.) -/
theorem Tryz.utf8_DecodeRuneInString_ascii (s : ByteArray) (x : UInt8) (w : World) (h0 : s.data.toList[0]? = some x) (hx : x.toNat < 128) :
    Calls Tryz.prog 96 #[.string s] w fun e w' => e = .returned (.tuple #[.int .i32 x.toNat, .int .i64 1]) ∧ w' = w := Any.utf8_DecodeRuneInString_ascii Tryz.lays197 s x w h0 hx
def Tryz.laysnb116_ren : Go.Shelf.Ren := ⟨fun | 116 => 70 | 115 => 76 | n => n, fun | 37 => 30 | 4 => 4 | 3 => 3 | 9 => 9 | 5 => 5 | n => n, fun | n => n⟩
theorem Tryz.laysnb116 : Go.Proofs.Lays.nb116 Tryz.prog Tryz.laysnb116_ren := {
  mixed := by kernel_rfl
  f115 := Tryz.func76.trans (congrArg some (by kernel_rfl))
  f116 := Tryz.func70.trans (congrArg some (by kernel_rfl))
  t3 := Tryz.underlying3
  a3 := Tryz.isAgg3
  z3 := Tryz.sizeOf3
  v3 := Tryz.zeroValue3
  t4 := Tryz.underlying4
  a4 := Tryz.isAgg4
  z4 := Tryz.sizeOf4
  v4 := Tryz.zeroValue4
  t9 := Tryz.underlying9
  a9 := Tryz.isAgg9
  z9 := Tryz.sizeOf9
  v9 := Tryz.zeroValue9
  t37 := Tryz.underlying30
  a37 := Tryz.isAgg30
  z37 := Tryz.sizeOf30
  v37 := Tryz.zeroValue30
  t5 := Tryz.underlying5
  a5 := Tryz.isAgg5
  z5 := Tryz.sizeOf5
  v5 := Tryz.zeroValue5 }
def Tryz.laysnb117_ren : Go.Shelf.Ren := ⟨fun | 117 => 61 | 115 => 76 | n => n, fun | 37 => 30 | 4 => 4 | 3 => 3 | 9 => 9 | 5 => 5 | n => n, fun | n => n⟩
theorem Tryz.laysnb117 : Go.Proofs.Lays.nb117 Tryz.prog Tryz.laysnb117_ren := {
  mixed := by kernel_rfl
  f115 := Tryz.func76.trans (congrArg some (by kernel_rfl))
  f117 := Tryz.func61.trans (congrArg some (by kernel_rfl))
  t3 := Tryz.underlying3
  a3 := Tryz.isAgg3
  z3 := Tryz.sizeOf3
  v3 := Tryz.zeroValue3
  t4 := Tryz.underlying4
  a4 := Tryz.isAgg4
  z4 := Tryz.sizeOf4
  v4 := Tryz.zeroValue4
  t9 := Tryz.underlying9
  a9 := Tryz.isAgg9
  z9 := Tryz.sizeOf9
  v9 := Tryz.zeroValue9
  t37 := Tryz.underlying30
  a37 := Tryz.isAgg30
  z37 := Tryz.sizeOf30
  v37 := Tryz.zeroValue30
  t5 := Tryz.underlying5
  a5 := Tryz.isAgg5
  z5 := Tryz.sizeOf5
  v5 := Tryz.zeroValue5 }
def Tryz.laysnb140_ren : Go.Shelf.Ren := ⟨fun | 140 => 77 | 117 => 61 | 115 => 76 | n => n, fun | 37 => 30 | 4 => 4 | 3 => 3 | 9 => 9 | 5 => 5 | n => n, fun | n => n⟩
theorem Tryz.laysnb140 : Go.Proofs.Lays.nb140 Tryz.prog Tryz.laysnb140_ren := {
  mixed := by kernel_rfl
  f115 := Tryz.func76.trans (congrArg some (by kernel_rfl))
  f117 := Tryz.func61.trans (congrArg some (by kernel_rfl))
  f140 := Tryz.func77.trans (congrArg some (by kernel_rfl))
  t3 := Tryz.underlying3
  a3 := Tryz.isAgg3
  z3 := Tryz.sizeOf3
  v3 := Tryz.zeroValue3
  t4 := Tryz.underlying4
  a4 := Tryz.isAgg4
  z4 := Tryz.sizeOf4
  v4 := Tryz.zeroValue4
  t9 := Tryz.underlying9
  a9 := Tryz.isAgg9
  z9 := Tryz.sizeOf9
  v9 := Tryz.zeroValue9
  t37 := Tryz.underlying30
  a37 := Tryz.isAgg30
  z37 := Tryz.sizeOf30
  v37 := Tryz.zeroValue30
  t5 := Tryz.underlying5
  a5 := Tryz.isAgg5
  z5 := Tryz.sizeOf5
  v5 := Tryz.zeroValue5 }
/-- bytes.HasPrefix: WHOLE: each argument nil, or of no byte at whatever address, or at an address with its cells. (LAID: no walk: one application.) -/
theorem Tryz.bytes_HasPrefix_all (p1 p2 : Option Addr) (n c m d : Nat) (xs ys : List Int) (w : World) (hx : xs.length = n) (hy : ys.length = m) (hnc : n ≤ c) (h1 : Lib.BytesIn w p1 n xs) (h2 : Lib.BytesIn w p2 m ys) :
    Calls Tryz.prog 70 #[.slice p1 n c, .slice p2 m d] w fun e w' => e = .returned (.bool (Lib.hasPrefix (Lib.bytesOf xs) (Lib.bytesOf ys))) ∧ w' = w := Any.bytes_HasPrefix_all Tryz.laysnb116 p1 p2 n c m d xs ys w hx hy hnc h1 h2
/-- bytes.HasSuffix: WHOLE: each argument nil, or of no byte at whatever address, or at an address with its cells. (LAID: no walk: one application.) -/
theorem Tryz.bytes_HasSuffix_all (p1 p2 : Option Addr) (n c m d : Nat) (xs ys : List Int) (w : World) (hx : xs.length = n) (hy : ys.length = m) (hnc : n ≤ c) (hbig : n ≤ 9223372036854775807) (h1 : Lib.BytesIn w p1 n xs) (h2 : Lib.BytesIn w p2 m ys) :
    Calls Tryz.prog 61 #[.slice p1 n c, .slice p2 m d] w fun e w' => e = .returned (.bool (Lib.hasSuffix (Lib.bytesOf xs) (Lib.bytesOf ys))) ∧ w' = w := Any.bytes_HasSuffix_all Tryz.laysnb117 p1 p2 n c m d xs ys w hx hy hnc hbig h1 h2
/-- bytes.TrimSuffix: WHOLE. (LAID: no walk: one application.) -/
theorem Tryz.bytes_TrimSuffix_all (p1 p2 : Option Addr) (n c m d : Nat) (xs ys : List Int) (w : World) (hx : xs.length = n) (hy : ys.length = m) (hnc : n ≤ c) (hbig : n ≤ 9223372036854775807) (h1 : Lib.BytesIn w p1 n xs) (h2 : Lib.BytesIn w p2 m ys) :
    Calls Tryz.prog 77 #[.slice p1 n c, .slice p2 m d] w fun e w' => e = .returned (Lib.trimSuffixV p1 n c xs ys) ∧ w' = w := Any.bytes_TrimSuffix_all Tryz.laysnb140 p1 p2 n c m d xs ys w hx hy hnc hbig h1 h2
def Tryz.laysnb115_ren : Go.Shelf.Ren := ⟨fun | 115 => 76 | n => n, fun | 37 => 30 | 4 => 4 | 9 => 9 | 5 => 5 | n => n, fun | n => n⟩
theorem Tryz.laysnb115 : Go.Proofs.Lays.nb115 Tryz.prog Tryz.laysnb115_ren := {
  mixed := by kernel_rfl
  f115 := Tryz.func76.trans (congrArg some (by kernel_rfl))
  t4 := Tryz.underlying4
  a4 := Tryz.isAgg4
  z4 := Tryz.sizeOf4
  v4 := Tryz.zeroValue4
  t9 := Tryz.underlying9
  a9 := Tryz.isAgg9
  z9 := Tryz.sizeOf9
  v9 := Tryz.zeroValue9
  t37 := Tryz.underlying30
  a37 := Tryz.isAgg30
  z37 := Tryz.sizeOf30
  v37 := Tryz.zeroValue30
  t5 := Tryz.underlying5
  a5 := Tryz.isAgg5
  z5 := Tryz.sizeOf5
  v5 := Tryz.zeroValue5 }
/-- bytes.Equal: WHOLE. (LAID: no walk: one application.) -/
theorem Tryz.bytes_Equal_all (p1 p2 : Option Addr) (n c m d : Nat) (xs ys : List Int) (w : World) (hx : xs.length = n) (hy : ys.length = m) (h1 : Lib.BytesIn w p1 n xs) (h2 : Lib.BytesIn w p2 m ys) :
    Calls Tryz.prog 76 #[.slice p1 n c, .slice p2 m d] w fun e w' => e = .returned (.bool (Lib.bytesOf xs == Lib.bytesOf ys)) ∧ w' = w := Any.bytes_Equal_all Tryz.laysnb115 p1 p2 n c m d xs ys w hx hy h1 h2
end Go.Proofs
