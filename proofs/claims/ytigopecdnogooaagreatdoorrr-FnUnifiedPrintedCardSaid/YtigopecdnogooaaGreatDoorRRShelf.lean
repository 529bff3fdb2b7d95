/-
  DERIVED: THE SHELF's CONTRACTS AT THIS DUMP, IN PLAIN WORDS (tools/lay-plain.mjs out of 'TryzShelf.lean', which tools/lay-shelf.mjs wrote): THE SAME DECLARATIONS UNDER THE SAME NAMES: 'import', 'namespace', 'open', 'def', 'theorem' AND NOTHING ELSE: no command of the shelf's: FOR A HAND-IN. Each laying: the table of numbers ('.._ren') and one theorem, a field a fact of the dump's own or the kernel's comparison; each contract: ONE APPLICATION.
-/
import Derived.Shelf.Strings.Builder1
import Derived.Shelf.Strings.Builder2
import Derived.Shelf.Strings.OnBuilder
import Derived.Shelf.Strings.TrimSpace
import Derived.Shelf.Small.Utf8
import Derived.Shelf.Strings.BuilderF
import Derived.Shelf.Strings.BuilderK
import Derived.Shelf.Strings.Builder2Cap
import Derived.Shelf.Strconv.Itoa0
import Derived.Shelf.Strconv.Itoa1
import Derived.Shelf.LaysM
import Derived.Shelf.Strconv.Itoa2
import Derived.Shelf.Strconv.Itoa3
import Derived.Shelf.Strconv.ParseIntEmpty
import Derived.Shelf.Strconv.Clone
import Derived.Shelf.Strconv.SyntaxError
import Derived.Shelf.LaysC
import Derived.Shelf.Strconv.ToError
import Derived.Shelf.Strconv.Lower
import Derived.Shelf.Strconv.ParseUint10
import Derived.Shelf.Strconv.ParseUint10Empty
import Derived.Shelf.Strconv.ParseUint10Any
import Derived.Shelf.Strconv.ParseInt10
import Derived.Shelf.Strconv.RangeError
import Derived.Shelf.Strconv.ToErrorRange
import Derived.Shelf.Strconv.ParseUintEmpty
import Derived.Shelf.Strconv.ParseUint10b64
import Derived.Shelf.Strconv.ParseUint10b32
import Derived.Shelf.Strconv.ParseUint10b16
import Derived.Shelf.Strconv.ParseUint10b8
import Derived.Shelf.Strconv.ParseUint10At
import Derived.Shelf.Strconv.ParseInt10At64
import Derived.Shelf.Strconv.ParseInt10At32
import Derived.Shelf.Strconv.ParseInt10At16
import Derived.Shelf.Strconv.ParseInt10At8
import Derived.Shelf.Strconv.ParseInt10All
import Derived.Shelf.Strconv.ParseIntPublic10
import Derived.Shelf.Strconv.ErrVarParseInt
import Derived.Shelf.GgClosure.StringsIndexFunc
import Derived.Shelf.GgClosure.StringsTrimFunc
import Derived.Shelf.GgClosure.StringsRunes
import Derived.Shelf.Strings.Prefix
import Derived.Shelf.Unicode.Latin
import Derived.Shelf.Unicode.Decode
import Derived.Shelf.Unicode.DecodeSlow
import Derived.Shelf.Unicode.DecodeAny
import Derived.Shelf.Unicode.Is16White
import Derived.Shelf.Unicode.IsSpaceAny
import Derived.Shelf.Unicode.DecodeLast
import Derived.Shelf.Strings.TrimSpaceAny
import Derived.Shelf.Unicode.Is16WhiteD
import Derived.Shelf.Unicode.IsSpaceAnyD
import Derived.Shelf.Unicode.Is16Any
import Derived.Shelf.Unicode.Is32Any
import Derived.Shelf.Unicode.ExclAny
import Derived.Shelf.Strings.FuncGrows
import Derived.Shelf.Strings.BuilderCap
import Derived.Shelf.Bytes.SlSearch0
import Derived.Shelf.Bytes.SlSmallAll
import Derived.Shelf.Bytes.SlEqualAll
import Derived.Shelf.Bytes.Small
import Derived.Test.YtigopecdnogooaaGreatDoorRRProg
namespace Go.Proofs
open Go.Shelf
def Tryz.lays156_ren : Go.Shelf.Ren := ⟨fun | 156 => 100 | 165 => 130 | 166 => 131 | 169 => 132 | 240 => 163 | 241 => 164 | 276 => 183 | 277 => 184 | n => n, fun | 31 => 27 | 9 => 9 | 3 => 3 | 4 => 4 | 0 => 0 | 20 => 20 | 72 => 205 | 76 => 81 | 70 => 203 | 37 => 32 | 75 => 57 | 127 => 252 | 164 => 282 | 5 => 5 | 80 => 126 | n => n, fun | n => n⟩
theorem Tryz.lays156 : Go.Proofs.Lays.n156 Tryz.prog Tryz.lays156_ren := {
  mixed := by kernel_rfl
  f156 := Tryz.func100.trans (congrArg some (by kernel_rfl))
  f165 := Tryz.func130.trans (congrArg some (by kernel_rfl))
  f166 := Tryz.func131.trans (congrArg some (by kernel_rfl))
  f169 := Tryz.func132.trans (congrArg some (by kernel_rfl))
  f240 := Tryz.func163.trans (congrArg some (by kernel_rfl))
  f241 := Tryz.func164.trans (congrArg some (by kernel_rfl))
  f276 := Tryz.func183.trans (congrArg some (by kernel_rfl))
  f277 := Tryz.func184.trans (congrArg some (by kernel_rfl))
  t0 := Tryz.underlying0
  a0 := Tryz.isAgg0
  z0 := Tryz.sizeOf0
  v0 := Tryz.zeroValue0
  t3 := Tryz.underlying3
  a3 := Tryz.isAgg3
  z3 := Tryz.sizeOf3
  v3 := Tryz.zeroValue3
  t4 := Tryz.underlying4
  a4 := Tryz.isAgg4
  z4 := Tryz.sizeOf4
  v4 := Tryz.zeroValue4
  t9 := Tryz.underlying9
  a9 := Tryz.isAgg9
  z9 := Tryz.sizeOf9
  v9 := Tryz.zeroValue9
  t20 := Tryz.underlying20
  a20 := Tryz.isAgg20
  z20 := Tryz.sizeOf20
  v20 := Tryz.zeroValue20
  t31 := Tryz.underlying27
  a31 := Tryz.isAgg27
  z31 := Tryz.sizeOf27
  v31 := Tryz.zeroValue27
  t37 := Tryz.underlying32
  a37 := Tryz.isAgg32
  z37 := Tryz.sizeOf32
  v37 := Tryz.zeroValue32
  t70 := Tryz.underlying203
  a70 := Tryz.isAgg203
  z70 := Tryz.sizeOf203
  v70 := Tryz.zeroValue203
  t72 := Tryz.underlying205
  a72 := Tryz.isAgg205
  z72 := Tryz.sizeOf205
  v72 := Tryz.zeroValue205
  t75 := Tryz.underlying57
  a75 := Tryz.isAgg57
  z75 := Tryz.sizeOf57
  v75 := Tryz.zeroValue57
  t76 := Tryz.underlying81
  a76 := Tryz.isAgg81
  z76 := Tryz.sizeOf81
  v76 := Tryz.zeroValue81
  t127 := Tryz.underlying252
  a127 := Tryz.isAgg252
  z127 := Tryz.sizeOf252
  v127 := Tryz.zeroValue252
  t164 := Tryz.underlying282
  a164 := Tryz.isAgg282
  z164 := Tryz.sizeOf282
  v164 := Tryz.zeroValue282 }
theorem Tryz.Builder_Extra_156 : Builder.Extra Tryz.prog Tryz.lays156_ren := {
  sizeBuilder := by kernel_rfl
  liesBuilder := by kernel_rfl
  t5 := Tryz.underlying5
  a5 := Tryz.isAgg5
  z5 := Tryz.sizeOf5
  v5 := Tryz.zeroValue5
  infoByte := by kernel_rfl
  cellsByte := by kernel_rfl
  sizeByte := by kernel_rfl
  neB5 := by decide }
open Go.RowKit in
/-- strings.Join: "Join concatenates the elements of its first argument to create a single string. The separator string sep is placed between elements in the resulting string.": HOWEVER MANY ELEMENTS. Below the heap's end the world is as it was. (LAID: no walk: one application.) -/
theorem Tryz.strings_Join (bk o c : Nat) (xs : List ByteArray) (sep : ByteArray) (w : World) (hcells : ∀ (j : Nat) x, xs[j]? = some x → w.cell? ⟨bk, o + j, none⟩ = some (.string x)) (hbk : bk < w.heap.size) (hN : xs.length ≤ 140737488355328) (hcap : xs.length ≤ c) (hlen : (Lib.join (xs.map (·.data.toList)) sep.data.toList).length ≤ 140737488355328) :
    Calls Tryz.prog 100 #[.slice (some ⟨bk, o, none⟩) xs.length c, .string sep] w fun e w' => e = .returned (.string ⟨(Lib.join (xs.map (·.data.toList)) sep.data.toList).toArray⟩) ∧ Below w.heap.size w w' := Any.strings_Join Tryz.lays156 Tryz.Builder_Extra_156 bk o c xs sep w hcells hbk hN hcap hlen
def Tryz.lays163_ren : Go.Shelf.Ren := ⟨fun | 163 => 101 | 237 => 133 | 199 => 105 | 238 => 134 | 272 => 165 | 261 => 136 | 273 => 166 | 197 => 104 | 315 => 185 | 311 => 167 | 312 => 168 | 271 => 186 | 260 => 135 | 120 => 194 | n => n, fun | 9 => 9 | 37 => 32 | 3 => 3 | 0 => 0 | 5 => 5 | 4 => 4 | 40 => 173 | 119 => 208 | 21 => 21 | 51 => 209 | 141 => 211 | 105 => 171 | 196 => 260 | 193 => 257 | 198 => 263 | 49 => 261 | 194 => 258 | 201 => 266 | 226 => 285 | 46 => 236 | 227 => 286 | 139 => 256 | 138 => 255 | n => n, fun | 0 => 3 | 6 => 4 | 3 => 6 | 4 => 7 | n => n⟩
theorem Tryz.lays163 : Go.Proofs.Lays.n163 Tryz.prog Tryz.lays163_ren := {
  mixed := by kernel_rfl
  f120 := Tryz.func194.trans (congrArg some (by kernel_rfl))
  f163 := Tryz.func101.trans (congrArg some (by kernel_rfl))
  f197 := Tryz.func104.trans (congrArg some (by kernel_rfl))
  f199 := Tryz.func105.trans (congrArg some (by kernel_rfl))
  f237 := Tryz.func133.trans (congrArg some (by kernel_rfl))
  f238 := Tryz.func134.trans (congrArg some (by kernel_rfl))
  f260 := Tryz.func135.trans (congrArg some (by kernel_rfl))
  f261 := Tryz.func136.trans (congrArg some (by kernel_rfl))
  f271 := Tryz.func186.trans (congrArg some (by kernel_rfl))
  f272 := Tryz.func165.trans (congrArg some (by kernel_rfl))
  f273 := Tryz.func166.trans (congrArg some (by kernel_rfl))
  f311 := Tryz.func167.trans (congrArg some (by kernel_rfl))
  f312 := Tryz.func168.trans (congrArg some (by kernel_rfl))
  f315 := Tryz.func185.trans (congrArg some (by kernel_rfl))
  t0 := Tryz.underlying0
  a0 := Tryz.isAgg0
  z0 := Tryz.sizeOf0
  v0 := Tryz.zeroValue0
  t3 := Tryz.underlying3
  a3 := Tryz.isAgg3
  z3 := Tryz.sizeOf3
  v3 := Tryz.zeroValue3
  t4 := Tryz.underlying4
  a4 := Tryz.isAgg4
  z4 := Tryz.sizeOf4
  v4 := Tryz.zeroValue4
  t5 := Tryz.underlying5
  a5 := Tryz.isAgg5
  z5 := Tryz.sizeOf5
  v5 := Tryz.zeroValue5
  t9 := Tryz.underlying9
  a9 := Tryz.isAgg9
  z9 := Tryz.sizeOf9
  v9 := Tryz.zeroValue9
  t21 := Tryz.underlying21
  a21 := Tryz.isAgg21
  z21 := Tryz.sizeOf21
  v21 := Tryz.zeroValue21
  t37 := Tryz.underlying32
  a37 := Tryz.isAgg32
  z37 := Tryz.sizeOf32
  v37 := Tryz.zeroValue32
  t40 := Tryz.underlying173
  a40 := Tryz.isAgg173
  z40 := Tryz.sizeOf173
  v40 := Tryz.zeroValue173
  t46 := Tryz.underlying236
  a46 := Tryz.isAgg236
  z46 := Tryz.sizeOf236
  v46 := Tryz.zeroValue236
  t49 := Tryz.underlying261
  a49 := Tryz.isAgg261
  z49 := Tryz.sizeOf261
  v49 := Tryz.zeroValue261
  t51 := Tryz.underlying209
  a51 := Tryz.isAgg209
  z51 := Tryz.sizeOf209
  v51 := Tryz.zeroValue209
  t105 := Tryz.underlying171
  a105 := Tryz.isAgg171
  z105 := Tryz.sizeOf171
  v105 := Tryz.zeroValue171
  t119 := Tryz.underlying208
  a119 := Tryz.isAgg208
  z119 := Tryz.sizeOf208
  t138 := Tryz.underlying255
  a138 := Tryz.isAgg255
  z138 := Tryz.sizeOf255
  v138 := Tryz.zeroValue255
  t139 := Tryz.underlying256
  a139 := Tryz.isAgg256
  z139 := Tryz.sizeOf256
  v139 := Tryz.zeroValue256
  t141 := Tryz.underlying211
  a141 := Tryz.isAgg211
  z141 := Tryz.sizeOf211
  v141 := Tryz.zeroValue211
  t193 := Tryz.underlying257
  a193 := Tryz.isAgg257
  z193 := Tryz.sizeOf257
  v193 := Tryz.zeroValue257
  t194 := Tryz.underlying258
  a194 := Tryz.isAgg258
  z194 := Tryz.sizeOf258
  v194 := Tryz.zeroValue258
  t196 := Tryz.underlying260
  a196 := Tryz.isAgg260
  z196 := Tryz.sizeOf260
  v196 := Tryz.zeroValue260
  t198 := Tryz.underlying263
  a198 := Tryz.isAgg263
  z198 := Tryz.sizeOf263
  v198 := Tryz.zeroValue263
  t201 := Tryz.underlying266
  a201 := Tryz.isAgg266
  z201 := Tryz.sizeOf266
  v201 := Tryz.zeroValue266
  t226 := Tryz.underlying285
  a226 := Tryz.isAgg285
  z226 := Tryz.sizeOf285
  v226 := Tryz.zeroValue285
  t227 := Tryz.underlying286
  a227 := Tryz.isAgg286
  z227 := Tryz.sizeOf286
  v227 := Tryz.zeroValue286
  g0 := by kernel_rfl
  g3 := by kernel_rfl
  g4 := by kernel_rfl
  g6 := by kernel_rfl }
theorem Tryz.Space_Extra_163 : Space.Extra Tryz.prog Tryz.lays163_ren := {
  gNamed := by kernel_rfl }
open Go.RowKit in
theorem Tryz.strings_TrimSpace (s : ByteArray) (w : World) (hs : s.size ≤ 9223372036854775807) (hascii : ∀ (j : Nat) b, s.data.toList[j]? = some b → b.toNat < 128) (htab : Lib.TabIs Tryz.prog w "strings.asciiSpace" .u8 Lib.asciiSpaceTab) :
    Calls Tryz.prog 101 #[.string s] w fun e w' => e = .returned (.string ⟨(Lib.trimSpace s.data.toList).toArray⟩) ∧ w' = Lib.bytesWorld w 5 s := Any.strings_TrimSpace Tryz.lays163 Tryz.Space_Extra_163 s w hs hascii htab
def Tryz.laysM171_ren : Go.Shelf.Ren := ⟨fun | 171 => 72 | 243 => 90 | 246 => 124 | 283 => 158 | 284 => 159 | 285 => 160 | 286 => 161 | 129 => 179 | 317 => 178 | 318 => 180 | 319 => 181 | 320 => 182 | 337 => 192 | 338 => 193 | n => n, fun | 3 => 3 | 9 => 9 | 2 => 2 | 4 => 4 | 171 => 247 | 0 => 0 | 53 => 127 | 37 => 32 | 5 => 5 | 173 => 250 | 212 => 279 | 51 => 209 | 20 => 20 | 213 => 280 | 46 => 236 | 232 => 295 | 233 => 131 | n => n, fun | 17 => 8 | 18 => 11 | 19 => 12 | n => n⟩
theorem Tryz.laysM171 : Go.Proofs.LaysM.n171 Tryz.prog Tryz.laysM171_ren := {
  mixed := by kernel_rfl
  f129 := Tryz.func179.trans (congrArg some (by kernel_rfl))
  f171 := Tryz.func72.trans (congrArg some (by kernel_rfl))
  f243 := Tryz.func90.trans (congrArg some (by kernel_rfl))
  f246 := Tryz.func124.trans (congrArg some (by kernel_rfl))
  f283 := Tryz.func158.trans (congrArg some (by kernel_rfl))
  f284 := Tryz.func159.trans (congrArg some (by kernel_rfl))
  f285 := Tryz.func160.trans (congrArg some (by kernel_rfl))
  f286 := Tryz.func161.trans (congrArg some (by kernel_rfl))
  f317 := Tryz.func178.trans (congrArg some (by kernel_rfl))
  f318 := Tryz.func180.trans (congrArg some (by kernel_rfl))
  f319 := Tryz.func181.trans (congrArg some (by kernel_rfl))
  f320 := Tryz.func182.trans (congrArg some (by kernel_rfl))
  f337 := Tryz.func192.trans (congrArg some (by kernel_rfl))
  f338 := Tryz.func193.trans (congrArg some (by kernel_rfl))
  t0 := Tryz.underlying0
  a0 := Tryz.isAgg0
  z0 := Tryz.sizeOf0
  v0 := Tryz.zeroValue0
  t2 := Tryz.underlying2
  a2 := Tryz.isAgg2
  z2 := Tryz.sizeOf2
  v2 := Tryz.zeroValue2
  t3 := Tryz.underlying3
  a3 := Tryz.isAgg3
  z3 := Tryz.sizeOf3
  v3 := Tryz.zeroValue3
  t4 := Tryz.underlying4
  a4 := Tryz.isAgg4
  z4 := Tryz.sizeOf4
  v4 := Tryz.zeroValue4
  t5 := Tryz.underlying5
  a5 := Tryz.isAgg5
  z5 := Tryz.sizeOf5
  v5 := Tryz.zeroValue5
  t9 := Tryz.underlying9
  a9 := Tryz.isAgg9
  z9 := Tryz.sizeOf9
  v9 := Tryz.zeroValue9
  t20 := Tryz.underlying20
  a20 := Tryz.isAgg20
  z20 := Tryz.sizeOf20
  v20 := Tryz.zeroValue20
  t37 := Tryz.underlying32
  a37 := Tryz.isAgg32
  z37 := Tryz.sizeOf32
  v37 := Tryz.zeroValue32
  t46 := Tryz.underlying236
  a46 := Tryz.isAgg236
  z46 := Tryz.sizeOf236
  v46 := Tryz.zeroValue236
  t51 := Tryz.underlying209
  a51 := Tryz.isAgg209
  z51 := Tryz.sizeOf209
  v51 := Tryz.zeroValue209
  t53 := Tryz.underlying127
  a53 := Tryz.isAgg127
  z53 := Tryz.sizeOf127
  v53 := Tryz.zeroValue127
  t171 := Tryz.underlying247
  a171 := Tryz.isAgg247
  z171 := Tryz.sizeOf247
  v171 := Tryz.zeroValue247
  t173 := Tryz.underlying250
  a173 := Tryz.isAgg250
  z173 := Tryz.sizeOf250
  v173 := Tryz.zeroValue250
  t212 := Tryz.underlying279
  a212 := Tryz.isAgg279
  z212 := Tryz.sizeOf279
  v212 := Tryz.zeroValue279
  t213 := Tryz.underlying280
  a213 := Tryz.isAgg280
  z213 := Tryz.sizeOf280
  t232 := Tryz.underlying295
  a232 := Tryz.isAgg295
  z232 := Tryz.sizeOf295
  v232 := Tryz.zeroValue295
  t233 := Tryz.underlying131
  a233 := Tryz.isAgg131
  z233 := Tryz.sizeOf131
  v233 := Tryz.zeroValue131
  g17 := by kernel_rfl
  g18 := by kernel_rfl
  g19 := by kernel_rfl
  i0 := by kernel_rfl
  i2 := by kernel_rfl
  i3 := by kernel_rfl
  i4 := by kernel_rfl
  i5 := by kernel_rfl
  i9 := by kernel_rfl
  i20 := by kernel_rfl
  i37 := by kernel_rfl
  i46 := by kernel_rfl
  i51 := by kernel_rfl
  i53 := by kernel_rfl
  i171 := by kernel_rfl
  i173 := by kernel_rfl
  i212 := by kernel_rfl
  i232 := by kernel_rfl
  i233 := by kernel_rfl
  m17 := by kernel_rfl
  m18 := by kernel_rfl
  m19 := by kernel_rfl }
open Go.RowKit Go.Sort Go.Lib in
/-- strconv.Itoa: "Itoa is equivalent to FormatInt(int64(i), 10).": i's DECIMAL NUMERAL ('Lib.itoa': a '-' where i is negative, then the digits), FOR EVERY int. The world behind the call: the world before it, new blocks behind the heap (the library's 'var a [24]byte'), draws. (LAID: no walk: one application.) -/
theorem Tryz.strconv_Itoa (n : Int) (h0 : -9223372036854775808 ≤ n) (h1 : n ≤ 9223372036854775807) (w : World) (htab : Lib.TabIs Tryz.prog w "internal/strconv.uint64pow10" .u64 Lib.pow10Tab) :
    Calls Tryz.prog 72 #[.int .i64 n] w fun e w' => e = .returned (.string ⟨(Lib.itoa n).toArray⟩) ∧ ∃ k os, w' = grow (w.drewN k) os := Any.strconv_Itoa Tryz.laysM171 n h0 h1 w htab
def Tryz.laysC174_ren : Go.Shelf.Ren := ⟨fun | 174 => 107 | 247 => 137 | 245 => 138 | 287 => 169 | 279 => 170 | 280 => 171 | 281 => 172 | 282 => 173 | 321 => 187 | 322 => 188 | 316 => 189 | 171 => 72 | 205 => 190 | 243 => 90 | 246 => 124 | 283 => 158 | 284 => 159 | 285 => 160 | 286 => 161 | 129 => 179 | 317 => 178 | 318 => 180 | 319 => 181 | 320 => 182 | 337 => 192 | 338 => 193 | n => n, fun | 9 => 9 | 3 => 3 | 2 => 2 | 75 => 57 | 85 => 174 | 4 => 4 | 167 => 268 | 5 => 5 | 53 => 127 | 175 => 269 | 46 => 236 | 168 => 271 | 37 => 32 | 0 => 0 | 210 => 289 | 21 => 21 | 127 => 252 | 145 => 294 | 143 => 292 | 171 => 247 | 173 => 250 | 212 => 279 | 51 => 209 | 20 => 20 | 213 => 280 | 232 => 295 | 233 => 131 | 80 => 126 | n => n, fun | 15 => 9 | 16 => 10 | 17 => 8 | 18 => 11 | 19 => 12 | n => n⟩
theorem Tryz.laysC174 : Go.Proofs.LaysC.n174 Tryz.prog Tryz.laysC174_ren := {
  mixed := by kernel_rfl
  f129 := Tryz.func179.trans (congrArg some (by kernel_rfl))
  f171 := Tryz.func72.trans (congrArg some (by kernel_rfl))
  f174 := Tryz.func107.trans (congrArg some (by kernel_rfl))
  f205 := Tryz.func190.trans (congrArg some (by kernel_rfl))
  f243 := Tryz.func90.trans (congrArg some (by kernel_rfl))
  f245 := Tryz.func138.trans (congrArg some (by kernel_rfl))
  f246 := Tryz.func124.trans (congrArg some (by kernel_rfl))
  f247 := Tryz.func137.trans (congrArg some (by kernel_rfl))
  f279 := Tryz.func170.trans (congrArg some (by kernel_rfl))
  f280 := Tryz.func171.trans (congrArg some (by kernel_rfl))
  f281 := Tryz.func172.trans (congrArg some (by kernel_rfl))
  f282 := Tryz.func173.trans (congrArg some (by kernel_rfl))
  f283 := Tryz.func158.trans (congrArg some (by kernel_rfl))
  f284 := Tryz.func159.trans (congrArg some (by kernel_rfl))
  f285 := Tryz.func160.trans (congrArg some (by kernel_rfl))
  f286 := Tryz.func161.trans (congrArg some (by kernel_rfl))
  f287 := Tryz.func169.trans (congrArg some (by kernel_rfl))
  f316 := Tryz.func189.trans (congrArg some (by kernel_rfl))
  f317 := Tryz.func178.trans (congrArg some (by kernel_rfl))
  f318 := Tryz.func180.trans (congrArg some (by kernel_rfl))
  f319 := Tryz.func181.trans (congrArg some (by kernel_rfl))
  f320 := Tryz.func182.trans (congrArg some (by kernel_rfl))
  f321 := Tryz.func187.trans (congrArg some (by kernel_rfl))
  f322 := Tryz.func188.trans (congrArg some (by kernel_rfl))
  f337 := Tryz.func192.trans (congrArg some (by kernel_rfl))
  f338 := Tryz.func193.trans (congrArg some (by kernel_rfl))
  t0 := Tryz.underlying0
  a0 := Tryz.isAgg0
  z0 := Tryz.sizeOf0
  v0 := Tryz.zeroValue0
  t2 := Tryz.underlying2
  a2 := Tryz.isAgg2
  z2 := Tryz.sizeOf2
  v2 := Tryz.zeroValue2
  t3 := Tryz.underlying3
  a3 := Tryz.isAgg3
  z3 := Tryz.sizeOf3
  v3 := Tryz.zeroValue3
  t4 := Tryz.underlying4
  a4 := Tryz.isAgg4
  z4 := Tryz.sizeOf4
  v4 := Tryz.zeroValue4
  t5 := Tryz.underlying5
  a5 := Tryz.isAgg5
  z5 := Tryz.sizeOf5
  v5 := Tryz.zeroValue5
  t9 := Tryz.underlying9
  a9 := Tryz.isAgg9
  z9 := Tryz.sizeOf9
  v9 := Tryz.zeroValue9
  t20 := Tryz.underlying20
  a20 := Tryz.isAgg20
  z20 := Tryz.sizeOf20
  v20 := Tryz.zeroValue20
  t21 := Tryz.underlying21
  a21 := Tryz.isAgg21
  z21 := Tryz.sizeOf21
  v21 := Tryz.zeroValue21
  t37 := Tryz.underlying32
  a37 := Tryz.isAgg32
  z37 := Tryz.sizeOf32
  v37 := Tryz.zeroValue32
  t46 := Tryz.underlying236
  a46 := Tryz.isAgg236
  z46 := Tryz.sizeOf236
  v46 := Tryz.zeroValue236
  t51 := Tryz.underlying209
  a51 := Tryz.isAgg209
  z51 := Tryz.sizeOf209
  v51 := Tryz.zeroValue209
  t53 := Tryz.underlying127
  a53 := Tryz.isAgg127
  z53 := Tryz.sizeOf127
  v53 := Tryz.zeroValue127
  t75 := Tryz.underlying57
  a75 := Tryz.isAgg57
  z75 := Tryz.sizeOf57
  v75 := Tryz.zeroValue57
  t85 := Tryz.underlying174
  a85 := Tryz.isAgg174
  z85 := Tryz.sizeOf174
  v85 := Tryz.zeroValue174
  t127 := Tryz.underlying252
  a127 := Tryz.isAgg252
  z127 := Tryz.sizeOf252
  v127 := Tryz.zeroValue252
  t143 := Tryz.underlying292
  a143 := Tryz.isAgg292
  z143 := Tryz.sizeOf292
  v143 := Tryz.zeroValue292
  t145 := Tryz.underlying294
  a145 := Tryz.isAgg294
  z145 := Tryz.sizeOf294
  v145 := Tryz.zeroValue294
  t167 := Tryz.underlying268
  a167 := Tryz.isAgg268
  z167 := Tryz.sizeOf268
  v167 := Tryz.zeroValue268
  t168 := Tryz.underlying271
  a168 := Tryz.isAgg271
  z168 := Tryz.sizeOf271
  v168 := Tryz.zeroValue271
  t171 := Tryz.underlying247
  a171 := Tryz.isAgg247
  z171 := Tryz.sizeOf247
  v171 := Tryz.zeroValue247
  t173 := Tryz.underlying250
  a173 := Tryz.isAgg250
  z173 := Tryz.sizeOf250
  v173 := Tryz.zeroValue250
  t175 := Tryz.underlying269
  a175 := Tryz.isAgg269
  z175 := Tryz.sizeOf269
  v175 := Tryz.zeroValue269
  t210 := Tryz.underlying289
  a210 := Tryz.isAgg289
  z210 := Tryz.sizeOf289
  v210 := Tryz.zeroValue289
  t212 := Tryz.underlying279
  a212 := Tryz.isAgg279
  z212 := Tryz.sizeOf279
  v212 := Tryz.zeroValue279
  t213 := Tryz.underlying280
  a213 := Tryz.isAgg280
  z213 := Tryz.sizeOf280
  t232 := Tryz.underlying295
  a232 := Tryz.isAgg295
  z232 := Tryz.sizeOf295
  v232 := Tryz.zeroValue295
  t233 := Tryz.underlying131
  a233 := Tryz.isAgg131
  z233 := Tryz.sizeOf131
  v233 := Tryz.zeroValue131
  g15 := by kernel_rfl
  g16 := by kernel_rfl
  g17 := by kernel_rfl
  g18 := by kernel_rfl
  g19 := by kernel_rfl
  t80 := Tryz.underlying126
  a80 := Tryz.isAgg126
  z80 := Tryz.sizeOf126
  v80 := Tryz.zeroValue126
  i0 := by kernel_rfl
  i2 := by kernel_rfl
  i3 := by kernel_rfl
  i4 := by kernel_rfl
  i5 := by kernel_rfl
  i9 := by kernel_rfl
  i20 := by kernel_rfl
  i21 := by kernel_rfl
  i37 := by kernel_rfl
  i46 := by kernel_rfl
  i51 := by kernel_rfl
  i53 := by kernel_rfl
  i75 := by kernel_rfl
  i80 := by kernel_rfl
  i85 := by kernel_rfl
  i127 := by kernel_rfl
  i143 := by kernel_rfl
  i145 := by kernel_rfl
  i167 := by kernel_rfl
  i168 := by kernel_rfl
  i171 := by kernel_rfl
  i173 := by kernel_rfl
  i175 := by kernel_rfl
  i210 := by kernel_rfl
  i212 := by kernel_rfl
  i232 := by kernel_rfl
  i233 := by kernel_rfl
  m15 := by kernel_rfl
  m16 := by kernel_rfl
  m17 := by kernel_rfl
  m18 := by kernel_rfl
  m19 := by kernel_rfl
  c0 := by kernel_rfl
  c2 := by kernel_rfl
  c3 := by kernel_rfl
  c4 := by kernel_rfl
  c5 := by kernel_rfl
  c9 := by kernel_rfl
  c20 := by kernel_rfl
  c21 := by kernel_rfl
  c37 := by kernel_rfl
  c46 := by kernel_rfl
  c51 := by kernel_rfl
  c53 := by kernel_rfl
  c75 := by kernel_rfl
  c80 := by kernel_rfl
  c85 := by kernel_rfl
  c127 := by kernel_rfl
  c143 := by kernel_rfl
  c145 := by kernel_rfl
  c167 := by kernel_rfl
  c168 := by kernel_rfl
  c171 := by kernel_rfl
  c173 := by kernel_rfl
  c175 := by kernel_rfl
  c210 := by kernel_rfl
  c212 := by kernel_rfl
  c213 := by kernel_rfl
  c232 := by kernel_rfl
  c233 := by kernel_rfl }
open Go.RowKit in
/-- strconv.ParseInt(s, 10, 64), AT EVERY STRING THAT SPELLS AN int64 ('Lib.parseIntB 64 s.data.toList = .ok v'): v, AND NO ERROR. (LAID: no walk: one application.) -/
theorem Tryz.strconv_ParseInt_10_at64_ok (s : ByteArray) (hmax : s.size ≤ 9223372036854775806) (v : Int) (h : Lib.parseIntB 64 s.data.toList = .ok v) (w : World) :
    Calls Tryz.prog 107 #[.string s, .int .i64 10, .int .i64 64] w fun e w' => e = .returned (.tuple #[.int .i64 v, .nilIface]) ∧ (w' = w ∨ ∃ t, w' = Lib.bytesWorld w 5 t) := Any.strconv_ParseInt_10_at64_ok Tryz.laysC174 s hmax v h w
open Go.RowKit in
def Tryz.lays102_ren : Go.Shelf.Ren := ⟨fun | 102 => 97 | 209 => 128 | 207 => 162 | n => n, fun | 9 => 9 | 4 => 4 | 3 => 3 | n => n, fun | n => n⟩
theorem Tryz.lays102 : Go.Proofs.Lays.n102 Tryz.prog Tryz.lays102_ren := {
  mixed := by kernel_rfl
  f102 := Tryz.func97.trans (congrArg some (by kernel_rfl))
  f207 := Tryz.func162.trans (congrArg some (by kernel_rfl))
  f209 := Tryz.func128.trans (congrArg some (by kernel_rfl))
  t3 := Tryz.underlying3
  a3 := Tryz.isAgg3
  z3 := Tryz.sizeOf3
  v3 := Tryz.zeroValue3
  t4 := Tryz.underlying4
  a4 := Tryz.isAgg4
  z4 := Tryz.sizeOf4
  v4 := Tryz.zeroValue4
  t9 := Tryz.underlying9
  a9 := Tryz.isAgg9
  z9 := Tryz.sizeOf9
  v9 := Tryz.zeroValue9 }
open Go.RowKit Go.Lib in
/-- strings.TrimSuffix: "TrimSuffix returns s without the provided trailing suffix string. If s doesn't end with suffix, s is returned unchanged.": IT RETURNS 'Lib.trimSuffix s suffix'; the world is as it was. (LAID: no walk: one application.) -/
theorem Tryz.strings_TrimSuffix (s p : ByteArray) (w : World) (hs : s.size ≤ 9223372036854775807) :
    Calls Tryz.prog 97 #[.string s, .string p] w fun e w' => e = .returned (.string ⟨(Lib.trimSuffix s.data.toList p.data.toList).toArray⟩) ∧ w' = w := Any.strings_TrimSuffix Tryz.lays102 s p w hs
def Tryz.lays199_ren : Go.Shelf.Ren := ⟨fun | 199 => 105 | 261 => 136 | 311 => 167 | 312 => 168 | n => n, fun | 21 => 21 | 4 => 4 | 51 => 209 | 141 => 211 | 0 => 0 | 196 => 260 | 193 => 257 | 3 => 3 | 198 => 263 | 49 => 261 | 194 => 258 | 201 => 266 | 226 => 285 | 46 => 236 | 227 => 286 | n => n, fun | 6 => 4 | n => n⟩
theorem Tryz.lays199 : Go.Proofs.Lays.n199 Tryz.prog Tryz.lays199_ren := {
  mixed := by kernel_rfl
  f199 := Tryz.func105.trans (congrArg some (by kernel_rfl))
  f261 := Tryz.func136.trans (congrArg some (by kernel_rfl))
  f311 := Tryz.func167.trans (congrArg some (by kernel_rfl))
  f312 := Tryz.func168.trans (congrArg some (by kernel_rfl))
  t0 := Tryz.underlying0
  a0 := Tryz.isAgg0
  z0 := Tryz.sizeOf0
  v0 := Tryz.zeroValue0
  t3 := Tryz.underlying3
  a3 := Tryz.isAgg3
  z3 := Tryz.sizeOf3
  v3 := Tryz.zeroValue3
  t4 := Tryz.underlying4
  a4 := Tryz.isAgg4
  z4 := Tryz.sizeOf4
  v4 := Tryz.zeroValue4
  t21 := Tryz.underlying21
  a21 := Tryz.isAgg21
  z21 := Tryz.sizeOf21
  v21 := Tryz.zeroValue21
  t46 := Tryz.underlying236
  a46 := Tryz.isAgg236
  z46 := Tryz.sizeOf236
  v46 := Tryz.zeroValue236
  t49 := Tryz.underlying261
  a49 := Tryz.isAgg261
  z49 := Tryz.sizeOf261
  v49 := Tryz.zeroValue261
  t51 := Tryz.underlying209
  a51 := Tryz.isAgg209
  z51 := Tryz.sizeOf209
  v51 := Tryz.zeroValue209
  t141 := Tryz.underlying211
  a141 := Tryz.isAgg211
  z141 := Tryz.sizeOf211
  v141 := Tryz.zeroValue211
  t193 := Tryz.underlying257
  a193 := Tryz.isAgg257
  z193 := Tryz.sizeOf257
  v193 := Tryz.zeroValue257
  t194 := Tryz.underlying258
  a194 := Tryz.isAgg258
  z194 := Tryz.sizeOf258
  v194 := Tryz.zeroValue258
  t196 := Tryz.underlying260
  a196 := Tryz.isAgg260
  z196 := Tryz.sizeOf260
  v196 := Tryz.zeroValue260
  t198 := Tryz.underlying263
  a198 := Tryz.isAgg263
  z198 := Tryz.sizeOf263
  v198 := Tryz.zeroValue263
  t201 := Tryz.underlying266
  a201 := Tryz.isAgg266
  z201 := Tryz.sizeOf266
  v201 := Tryz.zeroValue266
  t226 := Tryz.underlying285
  a226 := Tryz.isAgg285
  z226 := Tryz.sizeOf285
  v226 := Tryz.zeroValue285
  t227 := Tryz.underlying286
  a227 := Tryz.isAgg286
  z227 := Tryz.sizeOf286
  v227 := Tryz.zeroValue286
  g6 := by kernel_rfl }
open Go.RowKit Go.Lib in
theorem Tryz.unicode_IsSpace (r : Int) (w : World) (h0 : 0 ≤ r) (h : r ≤ 255) :
    Calls Tryz.prog 105 #[.int .i32 r] w fun e w' => e = .returned (.bool (Lib.isSpaceL r)) ∧ w' = w := Any.unicode_IsSpace Tryz.lays199 r w h0 h
def Tryz.lays197_ren : Go.Shelf.Ren := ⟨fun | 197 => 104 | 260 => 135 | n => n, fun | 9 => 9 | 21 => 21 | 3 => 3 | 4 => 4 | 5 => 5 | 105 => 171 | 119 => 208 | 0 => 0 | 46 => 236 | 139 => 256 | 138 => 255 | n => n, fun | 3 => 6 | 4 => 7 | n => n⟩
theorem Tryz.lays197 : Go.Proofs.Lays.n197 Tryz.prog Tryz.lays197_ren := {
  mixed := by kernel_rfl
  f197 := Tryz.func104.trans (congrArg some (by kernel_rfl))
  f260 := Tryz.func135.trans (congrArg some (by kernel_rfl))
  t0 := Tryz.underlying0
  a0 := Tryz.isAgg0
  z0 := Tryz.sizeOf0
  v0 := Tryz.zeroValue0
  t3 := Tryz.underlying3
  a3 := Tryz.isAgg3
  z3 := Tryz.sizeOf3
  v3 := Tryz.zeroValue3
  t4 := Tryz.underlying4
  a4 := Tryz.isAgg4
  z4 := Tryz.sizeOf4
  v4 := Tryz.zeroValue4
  t5 := Tryz.underlying5
  a5 := Tryz.isAgg5
  z5 := Tryz.sizeOf5
  v5 := Tryz.zeroValue5
  t9 := Tryz.underlying9
  a9 := Tryz.isAgg9
  z9 := Tryz.sizeOf9
  v9 := Tryz.zeroValue9
  t21 := Tryz.underlying21
  a21 := Tryz.isAgg21
  z21 := Tryz.sizeOf21
  v21 := Tryz.zeroValue21
  t46 := Tryz.underlying236
  a46 := Tryz.isAgg236
  z46 := Tryz.sizeOf236
  v46 := Tryz.zeroValue236
  t105 := Tryz.underlying171
  a105 := Tryz.isAgg171
  z105 := Tryz.sizeOf171
  v105 := Tryz.zeroValue171
  t119 := Tryz.underlying208
  a119 := Tryz.isAgg208
  z119 := Tryz.sizeOf208
  t138 := Tryz.underlying255
  a138 := Tryz.isAgg255
  z138 := Tryz.sizeOf255
  v138 := Tryz.zeroValue255
  t139 := Tryz.underlying256
  a139 := Tryz.isAgg256
  z139 := Tryz.sizeOf256
  v139 := Tryz.zeroValue256
  g3 := by kernel_rfl
  g4 := by kernel_rfl }
open Go.RowKit Go.Lib in
/-- unicode/utf8.DecodeRuneInString: "DecodeRuneInString is like DecodeRune but its input is a string.": ("DecodeRune unpacks the first UTF-8 encoding in p and returns the rune and its width in bytes."): WHERE s BEGINS WITH AN ASCII BYTE x: (x, 1). (LAID: no walk: one application.) -/
theorem Tryz.utf8_DecodeRuneInString_ascii (s : ByteArray) (x : UInt8) (w : World) (h0 : s.data.toList[0]? = some x) (hx : x.toNat < 128) :
    Calls Tryz.prog 104 #[.string s] w fun e w' => e = .returned (.tuple #[.int .i32 x.toNat, .int .i64 1]) ∧ w' = w := Any.utf8_DecodeRuneInString_ascii Tryz.lays197 s x w h0 hx
def Tryz.laysnb116_ren : Go.Shelf.Ren := ⟨fun | 116 => 80 | 115 => 73 | n => n, fun | 37 => 32 | 4 => 4 | 3 => 3 | 9 => 9 | 5 => 5 | n => n, fun | n => n⟩
theorem Tryz.laysnb116 : Go.Proofs.Lays.nb116 Tryz.prog Tryz.laysnb116_ren := {
  mixed := by kernel_rfl
  f115 := Tryz.func73.trans (congrArg some (by kernel_rfl))
  f116 := Tryz.func80.trans (congrArg some (by kernel_rfl))
  t3 := Tryz.underlying3
  a3 := Tryz.isAgg3
  z3 := Tryz.sizeOf3
  v3 := Tryz.zeroValue3
  t4 := Tryz.underlying4
  a4 := Tryz.isAgg4
  z4 := Tryz.sizeOf4
  v4 := Tryz.zeroValue4
  t9 := Tryz.underlying9
  a9 := Tryz.isAgg9
  z9 := Tryz.sizeOf9
  v9 := Tryz.zeroValue9
  t37 := Tryz.underlying32
  a37 := Tryz.isAgg32
  z37 := Tryz.sizeOf32
  v37 := Tryz.zeroValue32
  t5 := Tryz.underlying5
  a5 := Tryz.isAgg5
  z5 := Tryz.sizeOf5
  v5 := Tryz.zeroValue5 }
def Tryz.laysnb117_ren : Go.Shelf.Ren := ⟨fun | 117 => 59 | 115 => 73 | n => n, fun | 37 => 32 | 4 => 4 | 3 => 3 | 9 => 9 | 5 => 5 | n => n, fun | n => n⟩
theorem Tryz.laysnb117 : Go.Proofs.Lays.nb117 Tryz.prog Tryz.laysnb117_ren := {
  mixed := by kernel_rfl
  f115 := Tryz.func73.trans (congrArg some (by kernel_rfl))
  f117 := Tryz.func59.trans (congrArg some (by kernel_rfl))
  t3 := Tryz.underlying3
  a3 := Tryz.isAgg3
  z3 := Tryz.sizeOf3
  v3 := Tryz.zeroValue3
  t4 := Tryz.underlying4
  a4 := Tryz.isAgg4
  z4 := Tryz.sizeOf4
  v4 := Tryz.zeroValue4
  t9 := Tryz.underlying9
  a9 := Tryz.isAgg9
  z9 := Tryz.sizeOf9
  v9 := Tryz.zeroValue9
  t37 := Tryz.underlying32
  a37 := Tryz.isAgg32
  z37 := Tryz.sizeOf32
  v37 := Tryz.zeroValue32
  t5 := Tryz.underlying5
  a5 := Tryz.isAgg5
  z5 := Tryz.sizeOf5
  v5 := Tryz.zeroValue5 }
def Tryz.laysnb140_ren : Go.Shelf.Ren := ⟨fun | 140 => 86 | 117 => 59 | 115 => 73 | n => n, fun | 37 => 32 | 4 => 4 | 3 => 3 | 9 => 9 | 5 => 5 | n => n, fun | n => n⟩
theorem Tryz.laysnb140 : Go.Proofs.Lays.nb140 Tryz.prog Tryz.laysnb140_ren := {
  mixed := by kernel_rfl
  f115 := Tryz.func73.trans (congrArg some (by kernel_rfl))
  f117 := Tryz.func59.trans (congrArg some (by kernel_rfl))
  f140 := Tryz.func86.trans (congrArg some (by kernel_rfl))
  t3 := Tryz.underlying3
  a3 := Tryz.isAgg3
  z3 := Tryz.sizeOf3
  v3 := Tryz.zeroValue3
  t4 := Tryz.underlying4
  a4 := Tryz.isAgg4
  z4 := Tryz.sizeOf4
  v4 := Tryz.zeroValue4
  t9 := Tryz.underlying9
  a9 := Tryz.isAgg9
  z9 := Tryz.sizeOf9
  v9 := Tryz.zeroValue9
  t37 := Tryz.underlying32
  a37 := Tryz.isAgg32
  z37 := Tryz.sizeOf32
  v37 := Tryz.zeroValue32
  t5 := Tryz.underlying5
  a5 := Tryz.isAgg5
  z5 := Tryz.sizeOf5
  v5 := Tryz.zeroValue5 }
/-- bytes.HasPrefix: WHOLE: each argument nil, or of no byte at whatever address, or at an address with its cells. (LAID: no walk: one application.) -/
theorem Tryz.bytes_HasPrefix_all (p1 p2 : Option Addr) (n c m d : Nat) (xs ys : List Int) (w : World) (hx : xs.length = n) (hy : ys.length = m) (hnc : n ≤ c) (h1 : Lib.BytesIn w p1 n xs) (h2 : Lib.BytesIn w p2 m ys) :
    Calls Tryz.prog 80 #[.slice p1 n c, .slice p2 m d] w fun e w' => e = .returned (.bool (Lib.hasPrefix (Lib.bytesOf xs) (Lib.bytesOf ys))) ∧ w' = w := Any.bytes_HasPrefix_all Tryz.laysnb116 p1 p2 n c m d xs ys w hx hy hnc h1 h2
/-- bytes.HasSuffix: WHOLE: each argument nil, or of no byte at whatever address, or at an address with its cells. (LAID: no walk: one application.) -/
theorem Tryz.bytes_HasSuffix_all (p1 p2 : Option Addr) (n c m d : Nat) (xs ys : List Int) (w : World) (hx : xs.length = n) (hy : ys.length = m) (hnc : n ≤ c) (hbig : n ≤ 9223372036854775807) (h1 : Lib.BytesIn w p1 n xs) (h2 : Lib.BytesIn w p2 m ys) :
    Calls Tryz.prog 59 #[.slice p1 n c, .slice p2 m d] w fun e w' => e = .returned (.bool (Lib.hasSuffix (Lib.bytesOf xs) (Lib.bytesOf ys))) ∧ w' = w := Any.bytes_HasSuffix_all Tryz.laysnb117 p1 p2 n c m d xs ys w hx hy hnc hbig h1 h2
/-- bytes.TrimSuffix: WHOLE. (LAID: no walk: one application.) -/
theorem Tryz.bytes_TrimSuffix_all (p1 p2 : Option Addr) (n c m d : Nat) (xs ys : List Int) (w : World) (hx : xs.length = n) (hy : ys.length = m) (hnc : n ≤ c) (hbig : n ≤ 9223372036854775807) (h1 : Lib.BytesIn w p1 n xs) (h2 : Lib.BytesIn w p2 m ys) :
    Calls Tryz.prog 86 #[.slice p1 n c, .slice p2 m d] w fun e w' => e = .returned (Lib.trimSuffixV p1 n c xs ys) ∧ w' = w := Any.bytes_TrimSuffix_all Tryz.laysnb140 p1 p2 n c m d xs ys w hx hy hnc hbig h1 h2
def Tryz.laysnb115_ren : Go.Shelf.Ren := ⟨fun | 115 => 73 | n => n, fun | 37 => 32 | 4 => 4 | 9 => 9 | 5 => 5 | n => n, fun | n => n⟩
theorem Tryz.laysnb115 : Go.Proofs.Lays.nb115 Tryz.prog Tryz.laysnb115_ren := {
  mixed := by kernel_rfl
  f115 := Tryz.func73.trans (congrArg some (by kernel_rfl))
  t4 := Tryz.underlying4
  a4 := Tryz.isAgg4
  z4 := Tryz.sizeOf4
  v4 := Tryz.zeroValue4
  t9 := Tryz.underlying9
  a9 := Tryz.isAgg9
  z9 := Tryz.sizeOf9
  v9 := Tryz.zeroValue9
  t37 := Tryz.underlying32
  a37 := Tryz.isAgg32
  z37 := Tryz.sizeOf32
  v37 := Tryz.zeroValue32
  t5 := Tryz.underlying5
  a5 := Tryz.isAgg5
  z5 := Tryz.sizeOf5
  v5 := Tryz.zeroValue5 }
/-- bytes.Equal: WHOLE. (LAID: no walk: one application.) -/
theorem Tryz.bytes_Equal_all (p1 p2 : Option Addr) (n c m d : Nat) (xs ys : List Int) (w : World) (hx : xs.length = n) (hy : ys.length = m) (h1 : Lib.BytesIn w p1 n xs) (h2 : Lib.BytesIn w p2 m ys) :
    Calls Tryz.prog 73 #[.slice p1 n c, .slice p2 m d] w fun e w' => e = .returned (.bool (Lib.bytesOf xs == Lib.bytesOf ys)) ∧ w' = w := Any.bytes_Equal_all Tryz.laysnb115 p1 p2 n c m d xs ys w hx hy h1 h2
end Go.Proofs
