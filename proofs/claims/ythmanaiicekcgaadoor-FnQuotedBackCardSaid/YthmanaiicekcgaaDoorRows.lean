/-
  NARROWER THAN 'FOR EVERY INPUT', by the rows' own cells (each row's printed sentence says how): FnIdentity: laid · FnNameDrop: laid · FnQuotedPlain: maps, laid · FnQuotedBack: maps, laid.
  DERIVED. THE GIVEN ROWS OF THIS SEAT. 4 by the template 'for every input the law returns true; each argument reads behind the call as it read before'; 0 by the template 'total and deterministic' (their statements: YthmanaiicekcgaaDoorTotals.lean).
  GIVEN WITH THE SEED: the statements are not yours to turn. If you find one false, say at which input.
  Laid BY PROGRAM, IN A SANDBOX (cutbox-rows.mjs): the forced cells as the released guide's own fill.sh prints them over the translation 14fed3c9077e5988… (all of the seat's roots in one cut). By AI agents, Wed Nov 11 2026. No macro, syntax, notation, axiom, sorry.
-/
import Derived.Test.YthmanaiicekcgaaDoorChecked
import GoSem.PinnedTables
import GoSem.Claim
import GoSem.ClaimJoined
import GoSem.ClaimMapViews
import Derived.JoinedTies
import Derived.KernelRfl
namespace Go.Proofs.YthmanaiicekcgaaDoor
/- THE CELL 'sum', in the pinned program and in every row, IS THE sha256 OF THE DUMP (.gsa) THAT YthmanaiicekcgaaDoorProg.lean LOADS. Nothing in Lean hashes anything: it is a label: what it is worth is what the hold of that sum in a sandbox is worth. -/
noncomputable def Tryd.pinned : Pinned := { name := "ythmanaiicekcgaadoor", sum := "14fed3c9077e59884063acf220de1443fdd4db9564f83dd93d75ee5f300f1d30", checked := Tryd.checked }
namespace Rows
def none {H : Type} : Left H := { results := [], args := [] }

/- WHAT THE LISTED PACKAGE-LEVEL VARIABLES READ AS WHEN THE CALL BEGINS. Each datum BY PROGRAM (the guide's laid-datum.mjs) off the statement by which the dump's own 'gosem.cut.vars' lays the variable. In a bare row this is a premise. The card (YthmanaiicekcgaaDoorCards.lean) ties it to the program's text. -/
def laid_unicode_utf8_acceptRanges {H : Type} : DataW H := .agg [.agg [.lit (.int .u8 128), .lit (.int .u8 191)], .agg [.lit (.int .u8 160), .lit (.int .u8 191)], .agg [.lit (.int .u8 128), .lit (.int .u8 159)], .agg [.lit (.int .u8 144), .lit (.int .u8 191)], .agg [.lit (.int .u8 128), .lit (.int .u8 143)], .agg [.lit (.int .u8 0), .lit (.int .u8 0)], .agg [.lit (.int .u8 0), .lit (.int .u8 0)], .agg [.lit (.int .u8 0), .lit (.int .u8 0)], .agg [.lit (.int .u8 0), .lit (.int .u8 0)], .agg [.lit (.int .u8 0), .lit (.int .u8 0)], .agg [.lit (.int .u8 0), .lit (.int .u8 0)], .agg [.lit (.int .u8 0), .lit (.int .u8 0)], .agg [.lit (.int .u8 0), .lit (.int .u8 0)], .agg [.lit (.int .u8 0), .lit (.int .u8 0)], .agg [.lit (.int .u8 0), .lit (.int .u8 0)], .agg [.lit (.int .u8 0), .lit (.int .u8 0)]]
def laid_unicode_White_Space {H : Type} : DataW H := .ptr (.agg [.slice [.agg [.lit (.int .u16 9), .lit (.int .u16 13), .lit (.int .u16 1)], .agg [.lit (.int .u16 32), .lit (.int .u16 133), .lit (.int .u16 101)], .agg [.lit (.int .u16 160), .lit (.int .u16 5760), .lit (.int .u16 5600)], .agg [.lit (.int .u16 8192), .lit (.int .u16 8202), .lit (.int .u16 1)], .agg [.lit (.int .u16 8232), .lit (.int .u16 8233), .lit (.int .u16 1)], .agg [.lit (.int .u16 8239), .lit (.int .u16 8287), .lit (.int .u16 48)], .agg [.lit (.int .u16 12288), .lit (.int .u16 12288), .lit (.int .u16 1)]] [], .nil, .lit (.int .i64 2)])
def laid_strings_asciiSpace {H : Type} : DataW H := .agg [.lit (.int .u8 0), .lit (.int .u8 0), .lit (.int .u8 0), .lit (.int .u8 0), .lit (.int .u8 0), .lit (.int .u8 0), .lit (.int .u8 0), .lit (.int .u8 0), .lit (.int .u8 0), .lit (.int .u8 1), .lit (.int .u8 1), .lit (.int .u8 1), .lit (.int .u8 1), .lit (.int .u8 1), .lit (.int .u8 0), .lit (.int .u8 0), .lit (.int .u8 0), .lit (.int .u8 0), .lit (.int .u8 0), .lit (.int .u8 0), .lit (.int .u8 0), .lit (.int .u8 0), .lit (.int .u8 0), .lit (.int .u8 0), .lit (.int .u8 0), .lit (.int .u8 0), .lit (.int .u8 0), .lit (.int .u8 0), .lit (.int .u8 0), .lit (.int .u8 0), .lit (.int .u8 0), .lit (.int .u8 0), .lit (.int .u8 1), .lit (.int .u8 0), .lit (.int .u8 0), .lit (.int .u8 0), .lit (.int .u8 0), .lit (.int .u8 0), .lit (.int .u8 0), .lit (.int .u8 0), .lit (.int .u8 0), .lit (.int .u8 0), .lit (.int .u8 0), .lit (.int .u8 0), .lit (.int .u8 0), .lit (.int .u8 0), .lit (.int .u8 0), .lit (.int .u8 0), .lit (.int .u8 0), .lit (.int .u8 0), .lit (.int .u8 0), .lit (.int .u8 0), .lit (.int .u8 0), .lit (.int .u8 0), .lit (.int .u8 0), .lit (.int .u8 0), .lit (.int .u8 0), .lit (.int .u8 0), .lit (.int .u8 0), .lit (.int .u8 0), .lit (.int .u8 0), .lit (.int .u8 0), .lit (.int .u8 0), .lit (.int .u8 0), .lit (.int .u8 0), .lit (.int .u8 0), .lit (.int .u8 0), .lit (.int .u8 0), .lit (.int .u8 0), .lit (.int .u8 0), .lit (.int .u8 0), .lit (.int .u8 0), .lit (.int .u8 0), .lit (.int .u8 0), .lit (.int .u8 0), .lit (.int .u8 0), .lit (.int .u8 0), .lit (.int .u8 0), .lit (.int .u8 0), .lit (.int .u8 0), .lit (.int .u8 0), .lit (.int .u8 0), .lit (.int .u8 0), .lit (.int .u8 0), .lit (.int .u8 0), .lit (.int .u8 0), .lit (.int .u8 0), .lit (.int .u8 0), .lit (.int .u8 0), .lit (.int .u8 0), .lit (.int .u8 0), .lit (.int .u8 0), .lit (.int .u8 0), .lit (.int .u8 0), .lit (.int .u8 0), .lit (.int .u8 0), .lit (.int .u8 0), .lit (.int .u8 0), .lit (.int .u8 0), .lit (.int .u8 0), .lit (.int .u8 0), .lit (.int .u8 0), .lit (.int .u8 0), .lit (.int .u8 0), .lit (.int .u8 0), .lit (.int .u8 0), .lit (.int .u8 0), .lit (.int .u8 0), .lit (.int .u8 0), .lit (.int .u8 0), .lit (.int .u8 0), .lit (.int .u8 0), .lit (.int .u8 0), .lit (.int .u8 0), .lit (.int .u8 0), .lit (.int .u8 0), .lit (.int .u8 0), .lit (.int .u8 0), .lit (.int .u8 0), .lit (.int .u8 0), .lit (.int .u8 0), .lit (.int .u8 0), .lit (.int .u8 0), .lit (.int .u8 0), .lit (.int .u8 0), .lit (.int .u8 0), .lit (.int .u8 0), .lit (.int .u8 0), .lit (.int .u8 0), .lit (.int .u8 0), .lit (.int .u8 0), .lit (.int .u8 0), .lit (.int .u8 0), .lit (.int .u8 0), .lit (.int .u8 0), .lit (.int .u8 0), .lit (.int .u8 0), .lit (.int .u8 0), .lit (.int .u8 0), .lit (.int .u8 0), .lit (.int .u8 0), .lit (.int .u8 0), .lit (.int .u8 0), .lit (.int .u8 0), .lit (.int .u8 0), .lit (.int .u8 0), .lit (.int .u8 0), .lit (.int .u8 0), .lit (.int .u8 0), .lit (.int .u8 0), .lit (.int .u8 0), .lit (.int .u8 0), .lit (.int .u8 0), .lit (.int .u8 0), .lit (.int .u8 0), .lit (.int .u8 0), .lit (.int .u8 0), .lit (.int .u8 0), .lit (.int .u8 0), .lit (.int .u8 0), .lit (.int .u8 0), .lit (.int .u8 0), .lit (.int .u8 0), .lit (.int .u8 0), .lit (.int .u8 0), .lit (.int .u8 0), .lit (.int .u8 0), .lit (.int .u8 0), .lit (.int .u8 0), .lit (.int .u8 0), .lit (.int .u8 0), .lit (.int .u8 0), .lit (.int .u8 0), .lit (.int .u8 0), .lit (.int .u8 0), .lit (.int .u8 0), .lit (.int .u8 0), .lit (.int .u8 0), .lit (.int .u8 0), .lit (.int .u8 0), .lit (.int .u8 0), .lit (.int .u8 0), .lit (.int .u8 0), .lit (.int .u8 0), .lit (.int .u8 0), .lit (.int .u8 0), .lit (.int .u8 0), .lit (.int .u8 0), .lit (.int .u8 0), .lit (.int .u8 0), .lit (.int .u8 0), .lit (.int .u8 0), .lit (.int .u8 0), .lit (.int .u8 0), .lit (.int .u8 0), .lit (.int .u8 0), .lit (.int .u8 0), .lit (.int .u8 0), .lit (.int .u8 0), .lit (.int .u8 0), .lit (.int .u8 0), .lit (.int .u8 0), .lit (.int .u8 0), .lit (.int .u8 0), .lit (.int .u8 0), .lit (.int .u8 0), .lit (.int .u8 0), .lit (.int .u8 0), .lit (.int .u8 0), .lit (.int .u8 0), .lit (.int .u8 0), .lit (.int .u8 0), .lit (.int .u8 0), .lit (.int .u8 0), .lit (.int .u8 0), .lit (.int .u8 0), .lit (.int .u8 0), .lit (.int .u8 0), .lit (.int .u8 0), .lit (.int .u8 0), .lit (.int .u8 0), .lit (.int .u8 0), .lit (.int .u8 0), .lit (.int .u8 0), .lit (.int .u8 0), .lit (.int .u8 0), .lit (.int .u8 0), .lit (.int .u8 0), .lit (.int .u8 0), .lit (.int .u8 0), .lit (.int .u8 0), .lit (.int .u8 0), .lit (.int .u8 0), .lit (.int .u8 0), .lit (.int .u8 0), .lit (.int .u8 0), .lit (.int .u8 0), .lit (.int .u8 0), .lit (.int .u8 0), .lit (.int .u8 0), .lit (.int .u8 0), .lit (.int .u8 0), .lit (.int .u8 0), .lit (.int .u8 0), .lit (.int .u8 0), .lit (.int .u8 0), .lit (.int .u8 0), .lit (.int .u8 0), .lit (.int .u8 0), .lit (.int .u8 0), .lit (.int .u8 0), .lit (.int .u8 0), .lit (.int .u8 0), .lit (.int .u8 0), .lit (.int .u8 0), .lit (.int .u8 0)]
/-- One of Go's own tables, pinned by name: the form's constant. -/
def laid_unicode_utf8_first : DataW Unit := Go.Pinned.utf8First
def laid_strconv_ErrSyntax {H : Type} : DataW H := .iface "*errors.errorString" (.ptr (.agg [.lit (.string [105, 110, 118, 97, 108, 105, 100, 32, 115, 121, 110, 116, 97, 120])]))
def laid_loop_example_pub_g01512_pub_gitdiff_quoteEscapeTable {H : Type} : DataW H := .map [(.int .u8 7, .lit (.int .u8 97)), (.int .u8 8, .lit (.int .u8 98)), (.int .u8 9, .lit (.int .u8 116)), (.int .u8 10, .lit (.int .u8 110)), (.int .u8 11, .lit (.int .u8 118)), (.int .u8 12, .lit (.int .u8 102)), (.int .u8 13, .lit (.int .u8 114)), (.int .u8 34, .lit (.int .u8 34)), (.int .u8 92, .lit (.int .u8 92))]

/-- 'laws.FnIdentity': WHATEVER THE INPUT: true; the input reads as it did. -/
def fnIdentitySpec : ChangeSpec := { name := "fnIdentity", fn := fun _ => fun
  | [d1, d2] => { results := [.lit (.bool true)], args := [d1, d2] }
  | _ => none }
def fnIdentityRow : OpenClaim := { program := "ythmanaiicekcgaadoor", sum := "14fed3c9077e59884063acf220de1443fdd4db9564f83dd93d75ee5f300f1d30", func := "loop.example/pub-g01512/laws.FnIdentity", spec := "fnIdentity", inPlace := ["internal/abi.NoEscape", "internal/bytealg.IndexByteString"], unfollowed := true, recurses := true, named := ["strings.asciiSpace", "unicode/utf8.first", "unicode/utf8.acceptRanges", "unicode.White_Space"], apart := false, laid := [("unicode/utf8.acceptRanges", laid_unicode_utf8_acceptRanges), ("unicode.White_Space", laid_unicode_White_Space), ("strings.asciiSpace", laid_strings_asciiSpace), ("unicode/utf8.first", laid_unicode_utf8_first)] }
def FnIdentitySaid : Prop := fnIdentityRow.holds Tryd.pinned (OpenSpec.ofChange fnIdentitySpec)

/-- ITS FALSE NEIGHBOUR: 'it returns false'. Refute it at one input. -/
def fnIdentityWrong : ChangeSpec := { name := "fnIdentity", fn := fun _ => fun
  | [d1, d2] => { results := [.lit (.bool false)], args := [d1, d2] }
  | _ => none }
def FnIdentityWrongFalsely : Prop := fnIdentityRow.holds Tryd.pinned (OpenSpec.ofChange fnIdentityWrong)

/-- 'laws.FnNameDrop': WHATEVER THE INPUT: true; the input reads as it did. -/
def fnNameDropSpec : ChangeSpec := { name := "fnNameDrop", fn := fun _ => fun
  | [d1, d2, d3] => { results := [.lit (.bool true)], args := [d1, d2, d3] }
  | _ => none }
def fnNameDropRow : OpenClaim := { program := "ythmanaiicekcgaadoor", sum := "14fed3c9077e59884063acf220de1443fdd4db9564f83dd93d75ee5f300f1d30", func := "loop.example/pub-g01512/laws.FnNameDrop", spec := "fnNameDrop", inPlace := ["internal/abi.NoEscape", "internal/bytealg.IndexByteString"], unfollowed := true, recurses := true, named := ["strings.asciiSpace", "unicode/utf8.first", "unicode/utf8.acceptRanges", "unicode.White_Space", "strconv.ErrSyntax"], apart := false, laid := [("unicode/utf8.acceptRanges", laid_unicode_utf8_acceptRanges), ("strconv.ErrSyntax", laid_strconv_ErrSyntax), ("unicode.White_Space", laid_unicode_White_Space), ("strings.asciiSpace", laid_strings_asciiSpace), ("unicode/utf8.first", laid_unicode_utf8_first)] }
def FnNameDropSaid : Prop := fnNameDropRow.holds Tryd.pinned (OpenSpec.ofChange fnNameDropSpec)

/-- ITS FALSE NEIGHBOUR: 'it returns false'. Refute it at one input. -/
def fnNameDropWrong : ChangeSpec := { name := "fnNameDrop", fn := fun _ => fun
  | [d1, d2, d3] => { results := [.lit (.bool false)], args := [d1, d2, d3] }
  | _ => none }
def FnNameDropWrongFalsely : Prop := fnNameDropRow.holds Tryd.pinned (OpenSpec.ofChange fnNameDropWrong)

/-- 'laws.FnQuotedPlain': WHATEVER THE INPUT: true; the input reads as it did. -/
def fnQuotedPlainSpec : ChangeSpec := { name := "fnQuotedPlain", vars := ["loop.example/pub-g01512/pub/gitdiff.quoteEscapeTable"], fn := fun _ => fun
  | [d, g1] => { results := [.lit (.bool true)], args := [d], vars := [g1] }
  | _ => none }
def fnQuotedPlainRow : OpenClaim := { program := "ythmanaiicekcgaadoor", sum := "14fed3c9077e59884063acf220de1443fdd4db9564f83dd93d75ee5f300f1d30", func := "loop.example/pub-g01512/laws.FnQuotedPlain", spec := "fnQuotedPlain", inPlace := ["internal/abi.NoEscape", "internal/bytealg.IndexByteString"], unfollowed := true, recurses := true, named := ["strings.asciiSpace", "unicode/utf8.first", "unicode/utf8.acceptRanges", "unicode.White_Space", "loop.example/pub-g01512/pub/gitdiff.quoteEscapeTable"], maps := true, apart := false, laid := [("unicode/utf8.acceptRanges", laid_unicode_utf8_acceptRanges), ("unicode.White_Space", laid_unicode_White_Space), ("strings.asciiSpace", laid_strings_asciiSpace), ("loop.example/pub-g01512/pub/gitdiff.quoteEscapeTable", laid_loop_example_pub_g01512_pub_gitdiff_quoteEscapeTable), ("unicode/utf8.first", laid_unicode_utf8_first)] }
def FnQuotedPlainSaid : Prop := fnQuotedPlainRow.holds Tryd.pinned (OpenSpec.ofChange fnQuotedPlainSpec)

/-- ITS FALSE NEIGHBOUR: 'it returns false'. Refute it at one input. -/
def fnQuotedPlainWrong : ChangeSpec := { name := "fnQuotedPlain", vars := ["loop.example/pub-g01512/pub/gitdiff.quoteEscapeTable"], fn := fun _ => fun
  | [d, g1] => { results := [.lit (.bool false)], args := [d], vars := [g1] }
  | _ => none }
def FnQuotedPlainWrongFalsely : Prop := fnQuotedPlainRow.holds Tryd.pinned (OpenSpec.ofChange fnQuotedPlainWrong)

/-- 'laws.FnQuotedBack': WHATEVER THE INPUT: true; the input reads as it did. -/
def fnQuotedBackSpec : ChangeSpec := { name := "fnQuotedBack", vars := ["loop.example/pub-g01512/pub/gitdiff.quoteEscapeTable"], fn := fun _ => fun
  | [d, g1] => { results := [.lit (.bool true)], args := [d], vars := [g1] }
  | _ => none }
def fnQuotedBackRow : OpenClaim := { program := "ythmanaiicekcgaadoor", sum := "14fed3c9077e59884063acf220de1443fdd4db9564f83dd93d75ee5f300f1d30", func := "loop.example/pub-g01512/laws.FnQuotedBack", spec := "fnQuotedBack", inPlace := ["internal/abi.NoEscape", "internal/bytealg.IndexByteString"], unfollowed := true, recurses := true, named := ["strings.asciiSpace", "unicode/utf8.first", "unicode/utf8.acceptRanges", "unicode.White_Space", "loop.example/pub-g01512/pub/gitdiff.quoteEscapeTable", "strconv.ErrSyntax"], maps := true, apart := false, laid := [("unicode/utf8.acceptRanges", laid_unicode_utf8_acceptRanges), ("strconv.ErrSyntax", laid_strconv_ErrSyntax), ("unicode.White_Space", laid_unicode_White_Space), ("strings.asciiSpace", laid_strings_asciiSpace), ("loop.example/pub-g01512/pub/gitdiff.quoteEscapeTable", laid_loop_example_pub_g01512_pub_gitdiff_quoteEscapeTable), ("unicode/utf8.first", laid_unicode_utf8_first)] }
def FnQuotedBackSaid : Prop := fnQuotedBackRow.holds Tryd.pinned (OpenSpec.ofChange fnQuotedBackSpec)

/-- ITS FALSE NEIGHBOUR: 'it returns false'. Refute it at one input. -/
def fnQuotedBackWrong : ChangeSpec := { name := "fnQuotedBack", vars := ["loop.example/pub-g01512/pub/gitdiff.quoteEscapeTable"], fn := fun _ => fun
  | [d, g1] => { results := [.lit (.bool false)], args := [d], vars := [g1] }
  | _ => none }
def FnQuotedBackWrongFalsely : Prop := fnQuotedBackRow.holds Tryd.pinned (OpenSpec.ofChange fnQuotedBackWrong)

/- THE SECOND FORM. 'bulk': how many values and letters a reading holds, each counted each time it is reached (what is shared counts as often as it is met; a slice's spare places count too). A statement '..UptoSaid' is the law's where the arguments, and the package variables that the reading takes, are together of bulk at most 1048576: NARROWER than '..Said'. Prove '..Said' where nothing that the law and all that it calls make is longer than what came in: it says more and counts as full. Else prove '..UptoSaid'. A law counts once. -/
mutual
def uptoBulk {H : Type} : DataW H → Nat
  | .lit (.string bytes) => bytes.length + 1
  | .lit _ => 1
  | .nil => 1
  | .ptr d => uptoBulk d + 1
  | .slice elems spare => uptoBulkAll elems + uptoBulkAll spare + 1
  | .agg parts => uptoBulkAll parts + 1
  | .iface _ d => uptoBulk d + 1
  | .map entries => uptoBulkEntries entries + 1
  | .held _ => 1
def uptoBulkAll {H : Type} : List (DataW H) → Nat
  | [] => 0
  | d :: r => uptoBulk d + uptoBulkAll r
def uptoBulkEntries {H : Type} : List (Lit × DataW H) → Nat
  | [] => 0
  | x :: r => uptoBulkEntry x + uptoBulkEntries r
def uptoBulkEntry {H : Type} : Lit × DataW H → Nat
  | (.string bytes, d) => bytes.length + uptoBulk d + 1
  | (_, d) => uptoBulk d + 1
 end
def uptoSmall : (H : Type) → List (DataW H) → Bool := fun _ ds => decide (uptoBulkAll ds ≤ 1048576)
def OpenSpec.upto (s : _root_.Go.ChangeSpec) : _root_.Go.OpenSpec := { _root_.Go.OpenSpec.ofChange s with cond := some uptoSmall }

/-- 'laws.FnIdentity', WHERE WHAT IT READS IS OF BULK AT MOST 1048576: true; the input reads as it did. -/
def fnIdentityUptoRow : OpenClaim := { program := "ythmanaiicekcgaadoor", sum := "14fed3c9077e59884063acf220de1443fdd4db9564f83dd93d75ee5f300f1d30", func := "loop.example/pub-g01512/laws.FnIdentity", spec := "fnIdentity", inPlace := ["internal/abi.NoEscape", "internal/bytealg.IndexByteString"], unfollowed := true, recurses := true, named := ["strings.asciiSpace", "unicode/utf8.first", "unicode/utf8.acceptRanges", "unicode.White_Space"], apart := false, laid := [("unicode/utf8.acceptRanges", laid_unicode_utf8_acceptRanges), ("unicode.White_Space", laid_unicode_White_Space), ("strings.asciiSpace", laid_strings_asciiSpace), ("unicode/utf8.first", laid_unicode_utf8_first)], narrowed := true }
def FnIdentityUptoSaid : Prop := fnIdentityUptoRow.holds Tryd.pinned (OpenSpec.upto fnIdentitySpec)

/-- 'laws.FnNameDrop', WHERE WHAT IT READS IS OF BULK AT MOST 1048576: true; the input reads as it did. -/
def fnNameDropUptoRow : OpenClaim := { program := "ythmanaiicekcgaadoor", sum := "14fed3c9077e59884063acf220de1443fdd4db9564f83dd93d75ee5f300f1d30", func := "loop.example/pub-g01512/laws.FnNameDrop", spec := "fnNameDrop", inPlace := ["internal/abi.NoEscape", "internal/bytealg.IndexByteString"], unfollowed := true, recurses := true, named := ["strings.asciiSpace", "unicode/utf8.first", "unicode/utf8.acceptRanges", "unicode.White_Space", "strconv.ErrSyntax"], apart := false, laid := [("unicode/utf8.acceptRanges", laid_unicode_utf8_acceptRanges), ("strconv.ErrSyntax", laid_strconv_ErrSyntax), ("unicode.White_Space", laid_unicode_White_Space), ("strings.asciiSpace", laid_strings_asciiSpace), ("unicode/utf8.first", laid_unicode_utf8_first)], narrowed := true }
def FnNameDropUptoSaid : Prop := fnNameDropUptoRow.holds Tryd.pinned (OpenSpec.upto fnNameDropSpec)

/-- 'laws.FnQuotedPlain', WHERE WHAT IT READS IS OF BULK AT MOST 1048576: true; the input reads as it did. -/
def fnQuotedPlainUptoRow : OpenClaim := { program := "ythmanaiicekcgaadoor", sum := "14fed3c9077e59884063acf220de1443fdd4db9564f83dd93d75ee5f300f1d30", func := "loop.example/pub-g01512/laws.FnQuotedPlain", spec := "fnQuotedPlain", inPlace := ["internal/abi.NoEscape", "internal/bytealg.IndexByteString"], unfollowed := true, recurses := true, named := ["strings.asciiSpace", "unicode/utf8.first", "unicode/utf8.acceptRanges", "unicode.White_Space", "loop.example/pub-g01512/pub/gitdiff.quoteEscapeTable"], maps := true, apart := false, laid := [("unicode/utf8.acceptRanges", laid_unicode_utf8_acceptRanges), ("unicode.White_Space", laid_unicode_White_Space), ("strings.asciiSpace", laid_strings_asciiSpace), ("loop.example/pub-g01512/pub/gitdiff.quoteEscapeTable", laid_loop_example_pub_g01512_pub_gitdiff_quoteEscapeTable), ("unicode/utf8.first", laid_unicode_utf8_first)], narrowed := true }
def FnQuotedPlainUptoSaid : Prop := fnQuotedPlainUptoRow.holds Tryd.pinned (OpenSpec.upto fnQuotedPlainSpec)

/-- 'laws.FnQuotedBack', WHERE WHAT IT READS IS OF BULK AT MOST 1048576: true; the input reads as it did. -/
def fnQuotedBackUptoRow : OpenClaim := { program := "ythmanaiicekcgaadoor", sum := "14fed3c9077e59884063acf220de1443fdd4db9564f83dd93d75ee5f300f1d30", func := "loop.example/pub-g01512/laws.FnQuotedBack", spec := "fnQuotedBack", inPlace := ["internal/abi.NoEscape", "internal/bytealg.IndexByteString"], unfollowed := true, recurses := true, named := ["strings.asciiSpace", "unicode/utf8.first", "unicode/utf8.acceptRanges", "unicode.White_Space", "loop.example/pub-g01512/pub/gitdiff.quoteEscapeTable", "strconv.ErrSyntax"], maps := true, apart := false, laid := [("unicode/utf8.acceptRanges", laid_unicode_utf8_acceptRanges), ("strconv.ErrSyntax", laid_strconv_ErrSyntax), ("unicode.White_Space", laid_unicode_White_Space), ("strings.asciiSpace", laid_strings_asciiSpace), ("loop.example/pub-g01512/pub/gitdiff.quoteEscapeTable", laid_loop_example_pub_g01512_pub_gitdiff_quoteEscapeTable), ("unicode/utf8.first", laid_unicode_utf8_first)], narrowed := true }
def FnQuotedBackUptoSaid : Prop := fnQuotedBackUptoRow.holds Tryd.pinned (OpenSpec.upto fnQuotedBackSpec)

end Rows
end Go.Proofs.YthmanaiicekcgaaDoor
