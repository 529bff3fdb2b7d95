/-
  DERIVED. GIVEN WITH THE SEED: THE PROGRAM's TIES (one call each: nine closed facts by the kernel) AND EACH ROW's TIE, after the 31st guide's Derived/Test/Toyas{Tie, Card}.lean. No idea stands in it: it is a product of the set-up. Laid BY PROGRAM, IN A SANDBOX (cutbox-door.mjs). By AI agents, Wed Nov 11 2026. No macro, syntax, notation, axiom, sorry.
-/
import Derived.Test.YtijmnecjmihcfaaGreatDoorRows
import Derived.LaidByTextLater
import Derived.SevenTiedAt
import Derived.LaidSub
import Derived.LaidOnce
namespace Go.Proofs.YtijmnecjmihcfaaGreatDoor
open Go
set_option maxRecDepth 100000
theorem seatTie1 : Tryz.prog.laidByTextLater [("math/bits.deBruijn32tab", Rows.laid_math_bits_deBruijn32tab), ("math/bits.deBruijn64tab", Rows.laid_math_bits_deBruijn64tab), ("internal/strconv.uint64pow10", Rows.laid_internal_strconv_uint64pow10), ("unicode/utf8.acceptRanges", Rows.laid_unicode_utf8_acceptRanges), ("strconv.ErrRange", Rows.laid_strconv_ErrRange), ("strconv.ErrSyntax", Rows.laid_strconv_ErrSyntax), ("unicode.White_Space", Rows.laid_unicode_White_Space), ("strings.asciiSpace", Rows.laid_strings_asciiSpace), ("loop.example/pub-g01512/pub/sgdiff.hunkPrefix", Rows.laid_loop_example_pub_g01512_pub_sgdiff_hunkPrefix), ("loop.example/pub-g01512/pub/sgdiff.linePrefixes", Rows.laid_loop_example_pub_g01512_pub_sgdiff_linePrefixes)] [.data, .data, .data, .data, .sentinel, .sentinel, .listed, .data, .widerDeep, .data] true :=
  Program.laidByTextLater_by_one 106 8 257 (by kernel_rfl) (by kernel_rfl) (by kernel_rfl) (by kernel_rfl) (by kernel_rfl) (by kernel_rfl) (fun _ _ => by kernel_rfl)
theorem pin_laid_unicode_utf8_first : Tryz.pinned.checked.prog.pinnedFits "unicode/utf8.first" = true := by kernel_rfl
theorem noOwnUnsafe : Tryz.pinned.checked.prog.headLifts.contains "ownunsafe" = false := by kernel_rfl
theorem fits1 : Tryz.pinned.checked.prog.listedFits [("math/bits.deBruijn32tab", Rows.laid_math_bits_deBruijn32tab), ("math/bits.deBruijn64tab", Rows.laid_math_bits_deBruijn64tab), ("internal/strconv.uint64pow10", Rows.laid_internal_strconv_uint64pow10), ("unicode/utf8.acceptRanges", Rows.laid_unicode_utf8_acceptRanges), ("strconv.ErrRange", Rows.laid_strconv_ErrRange), ("strconv.ErrSyntax", Rows.laid_strconv_ErrSyntax), ("unicode.White_Space", Rows.laid_unicode_White_Space), ("strings.asciiSpace", Rows.laid_strings_asciiSpace), ("loop.example/pub-g01512/pub/sgdiff.hunkPrefix", Rows.laid_loop_example_pub_g01512_pub_sgdiff_hunkPrefix), ("loop.example/pub-g01512/pub/sgdiff.linePrefixes", Rows.laid_loop_example_pub_g01512_pub_sgdiff_linePrefixes), ("unicode/utf8.first", Rows.laid_unicode_utf8_first)] = true := by
  unfold Program.listedFits
  rw [noOwnUnsafe]
  kernel_rfl
theorem tie : Tryz.prog.laidByTextLater [("math/bits.deBruijn32tab", Rows.laid_math_bits_deBruijn32tab), ("math/bits.deBruijn64tab", Rows.laid_math_bits_deBruijn64tab), ("internal/strconv.uint64pow10", Rows.laid_internal_strconv_uint64pow10), ("unicode/utf8.acceptRanges", Rows.laid_unicode_utf8_acceptRanges), ("strconv.ErrRange", Rows.laid_strconv_ErrRange), ("strconv.ErrSyntax", Rows.laid_strconv_ErrSyntax), ("unicode.White_Space", Rows.laid_unicode_White_Space), ("strings.asciiSpace", Rows.laid_strings_asciiSpace), ("loop.example/pub-g01512/pub/sgdiff.hunkPrefix", Rows.laid_loop_example_pub_g01512_pub_sgdiff_hunkPrefix), ("loop.example/pub-g01512/pub/sgdiff.linePrefixes", Rows.laid_loop_example_pub_g01512_pub_sgdiff_linePrefixes)] [.data, .data, .data, .data, .sentinel, .sentinel, .listed, .data, .widerDeep, .data] true :=
  Program.laidByTextLater.sub seatTie1 ["math/bits.deBruijn32tab", "math/bits.deBruijn64tab", "internal/strconv.uint64pow10", "unicode/utf8.acceptRanges", "strconv.ErrRange", "strconv.ErrSyntax", "unicode.White_Space", "strings.asciiSpace", "loop.example/pub-g01512/pub/sgdiff.hunkPrefix", "loop.example/pub-g01512/pub/sgdiff.linePrefixes"] (by kernel_rfl) (by kernel_rfl)
theorem fnHunksDashes_row_tie : Rows.fnHunksDashesRow.laidByTextAt .later Tryz.pinned [.data, .data, .data, .data, .sentinel, .sentinel, .listed, .data, .widerDeep, .data, .pinned] true :=
  OpenClaim.laidByTextAt_pinned rfl rfl tie rfl rfl rfl rfl (fun y hy _e => by
    simp only [Rows.fnHunksDashesRow, List.zip_cons_cons, List.zip_nil_right, List.mem_cons, List.mem_nil_iff, or_false] at hy
    rcases hy with rfl | rfl | rfl | rfl | rfl | rfl | rfl | rfl | rfl | rfl | rfl
    · cases _e
    · cases _e
    · cases _e
    · cases _e
    · cases _e
    · cases _e
    · cases _e
    · cases _e
    · cases _e
    · cases _e
    · exact ⟨pin_laid_unicode_utf8_first, by kernel_rfl⟩) fits1
theorem fnHunksParsed_row_tie : Rows.fnHunksParsedRow.laidByTextAt .later Tryz.pinned [.data, .data, .data, .data, .sentinel, .sentinel, .listed, .data, .widerDeep, .data, .pinned] true :=
  OpenClaim.laidByTextAt_pinned rfl rfl tie rfl rfl rfl rfl (fun y hy _e => by
    simp only [Rows.fnHunksParsedRow, List.zip_cons_cons, List.zip_nil_right, List.mem_cons, List.mem_nil_iff, or_false] at hy
    rcases hy with rfl | rfl | rfl | rfl | rfl | rfl | rfl | rfl | rfl | rfl | rfl
    · cases _e
    · cases _e
    · cases _e
    · cases _e
    · cases _e
    · cases _e
    · cases _e
    · cases _e
    · cases _e
    · cases _e
    · exact ⟨pin_laid_unicode_utf8_first, by kernel_rfl⟩) fits1
theorem fnHunkHeader_row_tie : Rows.fnHunkHeaderRow.laidByTextAt .later Tryz.pinned [.data, .data, .data, .data, .sentinel, .sentinel, .listed, .data, .widerDeep, .data, .pinned] true :=
  OpenClaim.laidByTextAt_pinned rfl rfl tie rfl rfl rfl rfl (fun y hy _e => by
    simp only [Rows.fnHunkHeaderRow, List.zip_cons_cons, List.zip_nil_right, List.mem_cons, List.mem_nil_iff, or_false] at hy
    rcases hy with rfl | rfl | rfl | rfl | rfl | rfl | rfl | rfl | rfl | rfl | rfl
    · cases _e
    · cases _e
    · cases _e
    · cases _e
    · cases _e
    · cases _e
    · cases _e
    · cases _e
    · cases _e
    · cases _e
    · exact ⟨pin_laid_unicode_utf8_first, by kernel_rfl⟩) fits1
theorem fnStat_row_tie : Rows.fnStatRow.laidByTextAt .later Tryz.pinned [.data, .data, .data, .data, .sentinel, .sentinel, .listed, .data, .widerDeep, .data, .pinned] true :=
  OpenClaim.laidByTextAt_pinned rfl rfl tie rfl rfl rfl rfl (fun y hy _e => by
    simp only [Rows.fnStatRow, List.zip_cons_cons, List.zip_nil_right, List.mem_cons, List.mem_nil_iff, or_false] at hy
    rcases hy with rfl | rfl | rfl | rfl | rfl | rfl | rfl | rfl | rfl | rfl | rfl
    · cases _e
    · cases _e
    · cases _e
    · cases _e
    · cases _e
    · cases _e
    · cases _e
    · cases _e
    · cases _e
    · cases _e
    · exact ⟨pin_laid_unicode_utf8_first, by kernel_rfl⟩) fits1
theorem fnHunksAgain_row_tie : Rows.fnHunksAgainRow.laidByTextAt .later Tryz.pinned [.data, .data, .data, .data, .sentinel, .sentinel, .listed, .data, .widerDeep, .data, .pinned] true :=
  OpenClaim.laidByTextAt_pinned rfl rfl tie rfl rfl rfl rfl (fun y hy _e => by
    simp only [Rows.fnHunksAgainRow, List.zip_cons_cons, List.zip_nil_right, List.mem_cons, List.mem_nil_iff, or_false] at hy
    rcases hy with rfl | rfl | rfl | rfl | rfl | rfl | rfl | rfl | rfl | rfl | rfl
    · cases _e
    · cases _e
    · cases _e
    · cases _e
    · cases _e
    · cases _e
    · cases _e
    · cases _e
    · cases _e
    · cases _e
    · exact ⟨pin_laid_unicode_utf8_first, by kernel_rfl⟩) fits1
theorem fnHunksPrinted_row_tie : Rows.fnHunksPrintedRow.laidByTextAt .later Tryz.pinned [.data, .data, .data, .data, .sentinel, .sentinel, .listed, .data, .widerDeep, .data, .pinned] true :=
  OpenClaim.laidByTextAt_pinned rfl rfl tie rfl rfl rfl rfl (fun y hy _e => by
    simp only [Rows.fnHunksPrintedRow, List.zip_cons_cons, List.zip_nil_right, List.mem_cons, List.mem_nil_iff, or_false] at hy
    rcases hy with rfl | rfl | rfl | rfl | rfl | rfl | rfl | rfl | rfl | rfl | rfl
    · cases _e
    · cases _e
    · cases _e
    · cases _e
    · cases _e
    · cases _e
    · cases _e
    · cases _e
    · cases _e
    · cases _e
    · exact ⟨pin_laid_unicode_utf8_first, by kernel_rfl⟩) fits1
theorem fnHunksDashesUpto_row_tie : Rows.fnHunksDashesUptoRow.laidByTextAt .later Tryz.pinned [.data, .data, .data, .data, .sentinel, .sentinel, .listed, .data, .widerDeep, .data, .pinned] true :=
  OpenClaim.laidByTextAt_pinned rfl rfl tie rfl rfl rfl rfl (fun y hy _e => by
    simp only [Rows.fnHunksDashesUptoRow, List.zip_cons_cons, List.zip_nil_right, List.mem_cons, List.mem_nil_iff, or_false] at hy
    rcases hy with rfl | rfl | rfl | rfl | rfl | rfl | rfl | rfl | rfl | rfl | rfl
    · cases _e
    · cases _e
    · cases _e
    · cases _e
    · cases _e
    · cases _e
    · cases _e
    · cases _e
    · cases _e
    · cases _e
    · exact ⟨pin_laid_unicode_utf8_first, by kernel_rfl⟩) fits1
theorem fnHunksParsedUpto_row_tie : Rows.fnHunksParsedUptoRow.laidByTextAt .later Tryz.pinned [.data, .data, .data, .data, .sentinel, .sentinel, .listed, .data, .widerDeep, .data, .pinned] true :=
  OpenClaim.laidByTextAt_pinned rfl rfl tie rfl rfl rfl rfl (fun y hy _e => by
    simp only [Rows.fnHunksParsedUptoRow, List.zip_cons_cons, List.zip_nil_right, List.mem_cons, List.mem_nil_iff, or_false] at hy
    rcases hy with rfl | rfl | rfl | rfl | rfl | rfl | rfl | rfl | rfl | rfl | rfl
    · cases _e
    · cases _e
    · cases _e
    · cases _e
    · cases _e
    · cases _e
    · cases _e
    · cases _e
    · cases _e
    · cases _e
    · exact ⟨pin_laid_unicode_utf8_first, by kernel_rfl⟩) fits1
theorem fnHunkHeaderUpto_row_tie : Rows.fnHunkHeaderUptoRow.laidByTextAt .later Tryz.pinned [.data, .data, .data, .data, .sentinel, .sentinel, .listed, .data, .widerDeep, .data, .pinned] true :=
  OpenClaim.laidByTextAt_pinned rfl rfl tie rfl rfl rfl rfl (fun y hy _e => by
    simp only [Rows.fnHunkHeaderUptoRow, List.zip_cons_cons, List.zip_nil_right, List.mem_cons, List.mem_nil_iff, or_false] at hy
    rcases hy with rfl | rfl | rfl | rfl | rfl | rfl | rfl | rfl | rfl | rfl | rfl
    · cases _e
    · cases _e
    · cases _e
    · cases _e
    · cases _e
    · cases _e
    · cases _e
    · cases _e
    · cases _e
    · cases _e
    · exact ⟨pin_laid_unicode_utf8_first, by kernel_rfl⟩) fits1
theorem fnStatUpto_row_tie : Rows.fnStatUptoRow.laidByTextAt .later Tryz.pinned [.data, .data, .data, .data, .sentinel, .sentinel, .listed, .data, .widerDeep, .data, .pinned] true :=
  OpenClaim.laidByTextAt_pinned rfl rfl tie rfl rfl rfl rfl (fun y hy _e => by
    simp only [Rows.fnStatUptoRow, List.zip_cons_cons, List.zip_nil_right, List.mem_cons, List.mem_nil_iff, or_false] at hy
    rcases hy with rfl | rfl | rfl | rfl | rfl | rfl | rfl | rfl | rfl | rfl | rfl
    · cases _e
    · cases _e
    · cases _e
    · cases _e
    · cases _e
    · cases _e
    · cases _e
    · cases _e
    · cases _e
    · cases _e
    · exact ⟨pin_laid_unicode_utf8_first, by kernel_rfl⟩) fits1
theorem fnHunksAgainUpto_row_tie : Rows.fnHunksAgainUptoRow.laidByTextAt .later Tryz.pinned [.data, .data, .data, .data, .sentinel, .sentinel, .listed, .data, .widerDeep, .data, .pinned] true :=
  OpenClaim.laidByTextAt_pinned rfl rfl tie rfl rfl rfl rfl (fun y hy _e => by
    simp only [Rows.fnHunksAgainUptoRow, List.zip_cons_cons, List.zip_nil_right, List.mem_cons, List.mem_nil_iff, or_false] at hy
    rcases hy with rfl | rfl | rfl | rfl | rfl | rfl | rfl | rfl | rfl | rfl | rfl
    · cases _e
    · cases _e
    · cases _e
    · cases _e
    · cases _e
    · cases _e
    · cases _e
    · cases _e
    · cases _e
    · cases _e
    · exact ⟨pin_laid_unicode_utf8_first, by kernel_rfl⟩) fits1
theorem fnHunksPrintedUpto_row_tie : Rows.fnHunksPrintedUptoRow.laidByTextAt .later Tryz.pinned [.data, .data, .data, .data, .sentinel, .sentinel, .listed, .data, .widerDeep, .data, .pinned] true :=
  OpenClaim.laidByTextAt_pinned rfl rfl tie rfl rfl rfl rfl (fun y hy _e => by
    simp only [Rows.fnHunksPrintedUptoRow, List.zip_cons_cons, List.zip_nil_right, List.mem_cons, List.mem_nil_iff, or_false] at hy
    rcases hy with rfl | rfl | rfl | rfl | rfl | rfl | rfl | rfl | rfl | rfl | rfl
    · cases _e
    · cases _e
    · cases _e
    · cases _e
    · cases _e
    · cases _e
    · cases _e
    · cases _e
    · cases _e
    · cases _e
    · exact ⟨pin_laid_unicode_utf8_first, by kernel_rfl⟩) fits1
end Go.Proofs.YtijmnecjmihcfaaGreatDoor
