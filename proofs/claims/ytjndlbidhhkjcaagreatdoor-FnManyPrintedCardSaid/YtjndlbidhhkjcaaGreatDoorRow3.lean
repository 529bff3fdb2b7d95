/- What the list of laid variables gives: the table of the powers of ten; a fragment by value, opened. -/
import Derived.Test.YtjndlbidhhkjcaaGreatDoorRow2
import Derived.Test.YtjndlbidhhkjcaaGreatDoorPr0

/- What the list of laid variables gives: the table of the powers of ten; a fragment by value, opened. -/
namespace Go.Proofs.YtjndlbidhhkjcaaGreatDoor
open Go.ChangeShapes Go.WideShapes Go.ChangeAt Go.RowKit
set_option linter.unusedVariables false
set_option linter.unusedSimpArgs false

theorem powData_eq : (Rows.laid_internal_strconv_uint64pow10 : DataW Unit) = Lib.tabData .u64 Lib.pow10Tab := by kernel_rfl
theorem gPowType : (Tryz.prog.globals[10]?).map (·.type) = some 286 := by kernel_rfl
theorem cells20 : Tryz.prog.cellsOf 286 = 20 := by kernel_rfl
theorem cellsU64 : Tryz.prog.cellsOf 150 = 1 := by kernel_rfl
theorem pow_of_reads {W : World} (h : Lib.VarReads Tryz.prog W "internal/strconv.uint64pow10" Rows.laid_internal_strconv_uint64pow10) : Pow W := by
  rw [powData_eq] at h
  obtain ⟨g', t', cs, fuel, p, hg', ht', hvar, hd⟩ := h
  obtain rfl := Option.some.inj (gPow0.symm.trans hg')
  obtain rfl := Option.some.inj (gPowType.symm.trans ht')
  unfold Pow Lib.TabIs
  rw [hvar, ← Lib.cells_of_tab Tryz.underlying286 Tryz.underlying150 cellsU64 cells20 hd]

section
open Go.Deep
variable {H : Type} {enc : TypeId × Value → H} {w : World} {base : Nat} {spare : Nat → Bool} {held : Bool}
set_option maxRecDepth 10000 in
theorem open_frag {r : Reach} {b0 : Nat} {v : Value} {d : DataW H} {p : List MemPlace} (hv : Value.okWide Tryz.prog w r b0 55 v) (h : DataW.Trod enc Tryz.prog w base spare held 55 v d p) :
    ∃ cm x1 x2 x3 x4 x5 x6 x7 x8 q ls lc, v = .agg #[.string cm, .int .i64 x1, .int .i64 x2, .int .i64 x3, .int .i64 x4, .int .i64 x5, .int .i64 x6, .int .i64 x7, .int .i64 x8, .slice q (List.length ls) lc] ∧ LinesIn w q lc ls := by
  have hC : Tryz.prog.cellsOf 55 = 10 := by kernel_rfl
  obtain ⟨cs, rfl, hsz⟩ := okWide_struct Tryz.underlying55 hv
  rw [hC] at hsz
  obtain ⟨fuel, hf⟩ := h
  obtain ⟨l⟩ := cs
  have hl : l.length = 10 := by simpa using hsz
  match l, hl with
  | [u0, u1, u2, u3, u4, u5, u6, u7, u8, u9], _ =>
    have hf : DataW.trod enc Tryz.prog w base spare held fuel 55 [u0, u1, u2, u3, u4, u5, u6, u7, u8, u9] = some (d, p) := by simpa [Value.cells] using hf
    obtain ⟨v0, n0, y0, e0, t0⟩ := field_of _ Tryz.underlying55 (by kernel_rfl) (by kernel_rfl) hf 0 _ rfl
    obtain rfl : u0 = v0 := by simpa using e0
    obtain ⟨v1, n1, y1, e1, t1⟩ := field_of _ Tryz.underlying55 (by kernel_rfl) (by kernel_rfl) hf 1 _ rfl
    obtain rfl : u1 = v1 := by simpa using e1
    obtain ⟨v2, n2, y2, e2, t2⟩ := field_of _ Tryz.underlying55 (by kernel_rfl) (by kernel_rfl) hf 2 _ rfl
    obtain rfl : u2 = v2 := by simpa using e2
    obtain ⟨v3, n3, y3, e3, t3⟩ := field_of _ Tryz.underlying55 (by kernel_rfl) (by kernel_rfl) hf 3 _ rfl
    obtain rfl : u3 = v3 := by simpa using e3
    obtain ⟨v4, n4, y4, e4, t4⟩ := field_of _ Tryz.underlying55 (by kernel_rfl) (by kernel_rfl) hf 4 _ rfl
    obtain rfl : u4 = v4 := by simpa using e4
    obtain ⟨v5, n5, y5, e5, t5⟩ := field_of _ Tryz.underlying55 (by kernel_rfl) (by kernel_rfl) hf 5 _ rfl
    obtain rfl : u5 = v5 := by simpa using e5
    obtain ⟨v6, n6, y6, e6, t6⟩ := field_of _ Tryz.underlying55 (by kernel_rfl) (by kernel_rfl) hf 6 _ rfl
    obtain rfl : u6 = v6 := by simpa using e6
    obtain ⟨v7, n7, y7, e7, t7⟩ := field_of _ Tryz.underlying55 (by kernel_rfl) (by kernel_rfl) hf 7 _ rfl
    obtain rfl : u7 = v7 := by simpa using e7
    obtain ⟨v8, n8, y8, e8, t8⟩ := field_of _ Tryz.underlying55 (by kernel_rfl) (by kernel_rfl) hf 8 _ rfl
    obtain rfl : u8 = v8 := by simpa using e8
    obtain ⟨v9, n9, y9, e9, t9⟩ := field_of _ Tryz.underlying55 (by kernel_rfl) (by kernel_rfl) hf 9 _ rfl
    obtain rfl : u9 = v9 := by simpa using e9
    obtain ⟨cm, hz0, _⟩ := DataW.trod_string Tryz.underlying9 t0
    obtain ⟨x1, hz1, _⟩ := DataW.trod_int Tryz.underlying2 t1
    obtain ⟨x2, hz2, _⟩ := DataW.trod_int Tryz.underlying2 t2
    obtain ⟨x3, hz3, _⟩ := DataW.trod_int Tryz.underlying2 t3
    obtain ⟨x4, hz4, _⟩ := DataW.trod_int Tryz.underlying2 t4
    obtain ⟨x5, hz5, _⟩ := DataW.trod_int Tryz.underlying2 t5
    obtain ⟨x6, hz6, _⟩ := DataW.trod_int Tryz.underlying2 t6
    obtain ⟨x7, hz7, _⟩ := DataW.trod_int Tryz.underlying2 t7
    obtain ⟨x8, hz8, _⟩ := DataW.trod_int Tryz.underlying2 t8
    obtain ⟨q, ls, lc, hz9, hin⟩ := open_lines t9
    obtain rfl : u0 = _ := by simpa using hz0
    obtain rfl : u1 = _ := by simpa using hz1
    obtain rfl : u2 = _ := by simpa using hz2
    obtain rfl : u3 = _ := by simpa using hz3
    obtain rfl : u4 = _ := by simpa using hz4
    obtain rfl : u5 = _ := by simpa using hz5
    obtain rfl : u6 = _ := by simpa using hz6
    obtain rfl : u7 = _ := by simpa using hz7
    obtain rfl : u8 = _ := by simpa using hz8
    subst hz9
    exact ⟨cm, x1, x2, x3, x4, x5, x6, x7, x8, q, ls, lc, rfl, hin⟩
end
end Go.Proofs.YtjndlbidhhkjcaaGreatDoor
