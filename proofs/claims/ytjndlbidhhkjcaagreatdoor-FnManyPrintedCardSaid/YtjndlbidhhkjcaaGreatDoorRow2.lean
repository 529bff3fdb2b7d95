/- A world in which the listed variables hold what their initialisers lay; what such a list gives the walk. -/
import Derived.Test.YtjndlbidhhkjcaaGreatDoorGlob
import Derived.Test.YtjndlbidhhkjcaaGreatDoorRows
import Derived.ProofKit
import Derived.OpenShut
import Derived.OpenVars
import Derived.Deep.Slices
import Derived.Deep.Fields
import Derived.Lib.LaidTab
import Derived.Lib.LaidU8
import Derived.WalkKit
import Derived.Deep.DeepHandedRow
import Derived.Deep.DeepWitnessRowRef
import Derived.PinnedBridge
import Derived.Lib.Space

/- What comes in: fragments, opened; the variables' bytes. -/
namespace Go.Proofs.YtjndlbidhhkjcaaGreatDoor
open Go.ChangeShapes Go.WideShapes Go.ChangeAt Go.RowKit Go.Deep
set_option linter.unusedVariables false
set_option linter.unusedSimpArgs false

theorem list_of {α : Type} (P : Nat → α → Prop) : ∀ (n : Nat), (∀ i, i < n → ∃ x, P i x) → ∃ l : List α, l.length = n ∧ ∀ i (hi : i < l.length), P i l[i]
  | 0, _ => ⟨[], rfl, fun i hi => absurd hi (by simp)⟩
  | n + 1, h => by
    obtain ⟨l, hl, hp⟩ := list_of P n (fun i hi => h i (by omega))
    obtain ⟨x, hx⟩ := h n (by omega)
    refine ⟨l ++ [x], by simp [hl], fun i hi => ?_⟩
    by_cases hi2 : i < l.length
    · rw [List.getElem_append_left hi2]
      exact hp i hi2
    · have : i = l.length := by simp at hi; omega
      subst this
      simpa [hl] using hx

section
variable {H : Type} {enc : TypeId × Value → H} {w : World} {base : Nat} {spare : Nat → Bool} {held : Bool}
theorem field_of {fuel : Nat} {t : TypeId} {cs : List Value} {x : DataW H × List MemPlace} (fs : Array Field) (hs : Tryz.prog.underlying t = some (.struct fs)) (hone : oneCellFields Tryz.prog fs = true) (hC : Tryz.prog.cellsOf t = fs.size)
    (h : DataW.trod enc Tryz.prog w base spare held fuel t cs = some x) (j : Nat) (f : Field) (hj : fs[j]? = some f) : ∃ v n y, cs[j]? = some v ∧ DataW.trod enc Tryz.prog w base spare held n f.type [v] = some y := by
  obtain ⟨xs, n, _, _, hlen, hxl, hf⟩ := DataW.trod_struct hs h
  obtain ⟨ho, hk⟩ := hone_of hone j f hj
  have hjs : j < fs.size := (Array.getElem?_eq_some_iff.1 hj).1
  have hjl : j < cs.length := by rw [hlen, hC]; exact hjs
  have h1 := hf j f hj
  rw [ho, hk, List.drop_eq_getElem_cons hjl, List.take_succ_cons, List.take_zero, List.getElem?_eq_getElem (by omega)] at h1
  exact ⟨_, n, _, List.getElem?_eq_getElem hjl, h1⟩

theorem spot_of {a : Addr} {v : Value} (h : w.cell? (a.add 0) = some v) : a = ⟨a.block, a.off, none⟩ := by
  obtain ⟨b, o, s⟩ := a
  have : s = none := by simpa [Addr.add] using World.cell?_spot h
  rw [this]

theorem open_lines {fuel : Nat} {v : Value} {x : DataW H × List MemPlace} (h : DataW.trod enc Tryz.prog w base spare held fuel 53 [v] = some x) : ∃ lp ls lc, v = .slice lp (List.length ls) lc ∧ LinesIn w lp lc ls := by
  have hC : Tryz.prog.cellsOf 77 = 2 := by kernel_rfl
  rcases open_slice Tryz.underlying53 h with ⟨h0, _⟩ | ⟨a, len, cap, m, n, D, Pl, h0, _, hl, _, hm, _, hi⟩
  · refine ⟨none, [], 0, by simpa using h0, Nat.le_refl _, fun _ => rfl, fun h => absurd h (by simp)⟩
  · have hlm : len ≤ m := by rw [hm]; split <;> omega
    obtain ⟨ls, hls, hat⟩ := list_of (fun i (l : LV) => w.cell? (a.add (i * 2)) = some (.int .i64 l.op) ∧ w.cell? (a.add (i * 2 + 1)) = some (.string l.text)) len (fun i hi2 => by
      obtain ⟨cs, hc, ht⟩ := hi i (by omega)
      rw [hC] at hc
      obtain ⟨_, hcl, hcat⟩ := World.cells?_some hc
      obtain ⟨v0, n0, y0, e0, t0⟩ := field_of _ Tryz.underlying77 (by kernel_rfl) (by kernel_rfl) ht 0 _ rfl
      obtain ⟨v1, n1, y1, e1, t1⟩ := field_of _ Tryz.underlying77 (by kernel_rfl) (by kernel_rfl) ht 1 _ rfl
      obtain ⟨z, hz, _⟩ := DataW.trod_int Tryz.underlying3 t0
      obtain ⟨s, hs, _⟩ := DataW.trod_string Tryz.underlying9 t1
      have c0 := hcat 0 (by decide)
      have c1 := hcat 1 (by decide)
      rw [e0] at c0
      rw [e1] at c1
      obtain rfl : v0 = _ := by simpa using hz
      obtain rfl : v1 = _ := by simpa using hs
      rw [Go.Deep.add_add] at c0 c1
      exact ⟨⟨z, s⟩, by simpa using c0, c1⟩)
    refine ⟨some a, ls, cap, by simpa [hls] using h0, by omega, fun h => (by cases h), fun hp => ?_⟩
    have h00 := hat 0 hp
    have ea := spot_of (by simpa using h00.1)
    refine ⟨a.block, a.off, by rw [← ea], fun i hi2 => ?_⟩
    have h1 := hat i hi2
    rw [ea, Go.WideShapes.add_plain, Go.WideShapes.add_plain] at h1
    exact h1

set_option maxRecDepth 10000 in
theorem open_frags1 {fuel : Nat} {v : Value} {x : DataW H × List MemPlace} (h : DataW.trod enc Tryz.prog w base spare held fuel 34 [v] = some x) : ∃ q fs c, v = .slice q (List.length fs) c ∧ FragsIn w q c fs := by
  have hC : Tryz.prog.cellsOf 55 = 10 := by kernel_rfl
  rcases open_slice Tryz.underlying34 h with ⟨h0, _⟩ | ⟨a, len, cap, m, n, D, Pl, h0, _, hl, _, hm, _, hi⟩
  · refine ⟨none, [], 0, by simpa using h0, Nat.le_refl _, fun _ => rfl, fun h => absurd h (by simp)⟩
  · have hlm : len ≤ m := by rw [hm]; split <;> omega
    obtain ⟨fs, hls, hat⟩ := list_of (fun i (f : FV) => (w.cell? (a.add (i * 10)) = some (.string f.comment) ∧ w.cell? (a.add (i * 10 + 1)) = some (.int .i64 f.oldAt) ∧ w.cell? (a.add (i * 10 + 2)) = some (.int .i64 f.oldLines) ∧ w.cell? (a.add (i * 10 + 3)) = some (.int .i64 f.newAt) ∧
        w.cell? (a.add (i * 10 + 4)) = some (.int .i64 f.newLines) ∧ w.cell? (a.add (i * 10 + 5)) = some (.int .i64 f.added) ∧ w.cell? (a.add (i * 10 + 6)) = some (.int .i64 f.deleted) ∧ w.cell? (a.add (i * 10 + 7)) = some (.int .i64 f.leading) ∧ w.cell? (a.add (i * 10 + 8)) = some (.int .i64 f.trailing) ∧
        w.cell? (a.add (i * 10 + 9)) = some (.slice f.lp f.lines.length f.lc)) ∧ LinesIn w f.lp f.lc f.lines) len (fun i hi2 => by
      obtain ⟨cs, hc, ht⟩ := hi i (by omega)
      rw [hC] at hc
      obtain ⟨_, hcl, hcat⟩ := World.cells?_some hc
      obtain ⟨v0, n0, y0, e0, t0⟩ := field_of _ Tryz.underlying55 (by kernel_rfl) (by kernel_rfl) ht 0 _ rfl
      have c0 := hcat 0 (by decide)
      rw [e0, Go.Deep.add_add] at c0
      obtain ⟨v1, n1, y1, e1, t1⟩ := field_of _ Tryz.underlying55 (by kernel_rfl) (by kernel_rfl) ht 1 _ rfl
      have c1 := hcat 1 (by decide)
      rw [e1, Go.Deep.add_add] at c1
      obtain ⟨v2, n2, y2, e2, t2⟩ := field_of _ Tryz.underlying55 (by kernel_rfl) (by kernel_rfl) ht 2 _ rfl
      have c2 := hcat 2 (by decide)
      rw [e2, Go.Deep.add_add] at c2
      obtain ⟨v3, n3, y3, e3, t3⟩ := field_of _ Tryz.underlying55 (by kernel_rfl) (by kernel_rfl) ht 3 _ rfl
      have c3 := hcat 3 (by decide)
      rw [e3, Go.Deep.add_add] at c3
      obtain ⟨v4, n4, y4, e4, t4⟩ := field_of _ Tryz.underlying55 (by kernel_rfl) (by kernel_rfl) ht 4 _ rfl
      have c4 := hcat 4 (by decide)
      rw [e4, Go.Deep.add_add] at c4
      obtain ⟨v5, n5, y5, e5, t5⟩ := field_of _ Tryz.underlying55 (by kernel_rfl) (by kernel_rfl) ht 5 _ rfl
      have c5 := hcat 5 (by decide)
      rw [e5, Go.Deep.add_add] at c5
      obtain ⟨v6, n6, y6, e6, t6⟩ := field_of _ Tryz.underlying55 (by kernel_rfl) (by kernel_rfl) ht 6 _ rfl
      have c6 := hcat 6 (by decide)
      rw [e6, Go.Deep.add_add] at c6
      obtain ⟨v7, n7, y7, e7, t7⟩ := field_of _ Tryz.underlying55 (by kernel_rfl) (by kernel_rfl) ht 7 _ rfl
      have c7 := hcat 7 (by decide)
      rw [e7, Go.Deep.add_add] at c7
      obtain ⟨v8, n8, y8, e8, t8⟩ := field_of _ Tryz.underlying55 (by kernel_rfl) (by kernel_rfl) ht 8 _ rfl
      have c8 := hcat 8 (by decide)
      rw [e8, Go.Deep.add_add] at c8
      obtain ⟨v9, n9, y9, e9, t9⟩ := field_of _ Tryz.underlying55 (by kernel_rfl) (by kernel_rfl) ht 9 _ rfl
      have c9 := hcat 9 (by decide)
      rw [e9, Go.Deep.add_add] at c9
      obtain ⟨z0, hz0, _⟩ := DataW.trod_string Tryz.underlying9 t0
      obtain rfl : v0 = _ := by simpa using hz0
      obtain ⟨z1, hz1, _⟩ := DataW.trod_int Tryz.underlying2 t1
      obtain rfl : v1 = _ := by simpa using hz1
      obtain ⟨z2, hz2, _⟩ := DataW.trod_int Tryz.underlying2 t2
      obtain rfl : v2 = _ := by simpa using hz2
      obtain ⟨z3, hz3, _⟩ := DataW.trod_int Tryz.underlying2 t3
      obtain rfl : v3 = _ := by simpa using hz3
      obtain ⟨z4, hz4, _⟩ := DataW.trod_int Tryz.underlying2 t4
      obtain rfl : v4 = _ := by simpa using hz4
      obtain ⟨z5, hz5, _⟩ := DataW.trod_int Tryz.underlying2 t5
      obtain rfl : v5 = _ := by simpa using hz5
      obtain ⟨z6, hz6, _⟩ := DataW.trod_int Tryz.underlying2 t6
      obtain rfl : v6 = _ := by simpa using hz6
      obtain ⟨z7, hz7, _⟩ := DataW.trod_int Tryz.underlying2 t7
      obtain rfl : v7 = _ := by simpa using hz7
      obtain ⟨z8, hz8, _⟩ := DataW.trod_int Tryz.underlying2 t8
      obtain rfl : v8 = _ := by simpa using hz8
      obtain ⟨lp, ls, lc, rfl, hls⟩ := open_lines t9
      exact ⟨⟨z0, z1, z2, z3, z4, z5, z6, z7, z8, ls, lp, lc⟩, ⟨by simpa using c0, c1, c2, c3, c4, c5, c6, c7, c8, c9⟩, hls⟩)
    refine ⟨some a, fs, cap, by simpa [hls] using h0, by omega, fun h => (by cases h), fun hp => ?_⟩
    have h00 := (hat 0 hp).1.1
    have ea := spot_of (by simpa using h00)
    refine ⟨a.block, a.off, by rw [← ea], fun i hi2 => ?_⟩
    obtain ⟨h1, h2⟩ := hat i hi2
    rw [ea, Go.WideShapes.add_plain, Go.WideShapes.add_plain, Go.WideShapes.add_plain, Go.WideShapes.add_plain, Go.WideShapes.add_plain, Go.WideShapes.add_plain, Go.WideShapes.add_plain, Go.WideShapes.add_plain, Go.WideShapes.add_plain, Go.WideShapes.add_plain] at h1
    exact ⟨h1, h2⟩
set_option maxRecDepth 10000 in
theorem open_frags {r : Reach} {b0 : Nat} {v : Value} {d : DataW H} {p : List MemPlace} (hv : Value.okWide Tryz.prog w r b0 34 v) (h : DataW.Trod enc Tryz.prog w base spare held 34 v d p) : ∃ q fs c, v = .slice q (List.length fs) c ∧ FragsIn w q c fs := by
  obtain ⟨a, len, cap, rfl⟩ := okWide_slice Tryz.underlying34 hv
  obtain ⟨fuel, hf⟩ := h
  exact open_frags1 (v := .slice a len cap) (by simpa [Value.cells] using hf)
end

/-- A listed variable that is a slice of bytes. -/
theorem sliceVar_of {w : World} (n : String) (g : Nat) (l : List UInt8) (hg : Tryz.prog.globalNamed n = some g) (ht : (Tryz.prog.globals[g]?).map (·.type) = some 30) (hl0 : 0 < l.length)
    (h : Lib.VarReads Tryz.prog w n (.slice (l.map fun b => .lit (.int .u8 b.toNat)) [])) : SliceVar w g w.heap.size l := by
  obtain ⟨g', t', cs, fuel, p, hg', ht', hvar, hd⟩ := h
  obtain rfl := Option.some.inj (hg.symm.trans hg')
  obtain rfl := Option.some.inj (ht.symm.trans ht')
  rcases open_ints Tryz.underlying30 Tryz.underlying5 (by kernel_rfl) hd with ⟨_, hx⟩ | ⟨a, len, cap, zs, hcs, _, hlen, hm, hz, hx, hcell, hwz⟩
  · simp at hx
  · simp only [Prod.mk.injEq, DataW.slice.injEq] at hx
    obtain ⟨⟨hx1, hx2⟩, _⟩ := hx
    have hzt : zs.take len = l.map fun b => (b.toNat : Int) := by
      have h1 := congrArg (List.map fun x : DataW Unit => match x with | .lit (.int _ n) => n | _ => 0) hx1
      simpa [lits, List.map_map, Function.comp_def] using h1.symm
    have hzl : zs.length = cap := by simpa using hz
    have hll : l.length = len := by
      have := congrArg List.length hzt
      simp at this
      omega
    have hcs1 : cs = #[.slice (some a) len cap] := by
      apply Array.toList_inj.1
      exact hcs
    subst hcs1
    have hheap : ∃ t fz, w.heap[g]? = some (.cells #[.slice (some a) len cap] t fz) := by
      unfold World.var? at hvar
      rw [hg] at hvar
      simp only [Option.bind_some] at hvar
      split at hvar
      · rename_i c t fz hh
        injection hvar with hvar
        subst hvar
        exact ⟨_, _, hh⟩
      · cases hvar
    obtain ⟨t, fz, hh⟩ := hheap
    have hgl : g < w.heap.size := (Array.getElem?_eq_some_iff.1 hh).1
    have hbytes : ∀ i (hi : i < l.length), w.cell? (a.add i) = some (.int .u8 l[i].toNat) := fun i hi => by
      rw [hcell i (by omega)]
      have h1 : (zs.take len)[i]? = some (l[i].toNat : Int) := by rw [hzt]; simp [hi]
      rw [List.getElem?_take_of_lt (by omega)] at h1
      simp [List.getD, h1]
    have ea := spot_of (hbytes 0 hl0)
    refine ⟨a.block, a.off, cap, ?_, ⟨by omega, fun h => (by cases h), fun _ => ⟨a.block, a.off, rfl, fun i hi => ?_⟩⟩, ?_, hgl⟩
    · rw [cell_of_block hh 0, ← ea, hll]
      rfl
    · have h1 := hbytes i hi
      rw [ea, Go.WideShapes.add_plain] at h1
      exact h1
    · have h1 := hbytes 0 hl0
      rw [ea, Go.WideShapes.add_plain] at h1
      exact cell_lt (a := ⟨a.block, a.off + 0, none⟩) h1
end Go.Proofs.YtjndlbidhhkjcaaGreatDoor

/- A world in which the listed variables hold what their initialisers lay; what such a list gives the walk. -/
namespace Go.Proofs.YtjndlbidhhkjcaaGreatDoor
open Go.ChangeShapes Go.WideShapes Go.ChangeAt Go.RowKit
set_option linter.unusedVariables false
set_option linter.unusedSimpArgs false

theorem own : ownKnob Tryz.prog.godebug = none := by kernel_rfl
theorem laidOut : laidOutB Tryz.prog = true := by kernel_rfl

def putVar (h : Array Obj) (g : Nat) (cs : Array Value) : Array Obj := h.modify g fun
  | .cells _ t frozen => .cells cs t frozen
  | o => o
/-- The integers of a list that is laid. -/
def litsOf : DataW Unit → Array Value
  | .agg l => (l.map fun | .lit (.int k n) => Value.int k n | _ => .nilIface).toArray
  | _ => #[]
def errObj (s : Array UInt8) : Obj := .cells #[.string ⟨s⟩] 291
noncomputable def laidWorld (os : Os) : World :=
  let N := (World.settled Tryz.prog os).heap.size
  let w0 := World.holding Tryz.prog os ⟨#[.cells (Lib.whiteT.map fun (z : Nat) => Value.int .u16 (z : Int)).toArray 223,
    .cells #[.slice (some ⟨N, 0, none⟩) 7 7, .slice none 0 0, .int .i64 2] 220,
    errObj #[105, 110, 118, 97, 108, 105, 100, 32, 115, 121, 110, 116, 97, 120],
    errObj #[118, 97, 108, 117, 101, 32, 111, 117, 116, 32, 111, 102, 32, 114, 97, 110, 103, 101],
    .cells #[.int .u8 64, .int .u8 64, .int .u8 32] 5,
    .cells #[.int .u8 32, .int .u8 45, .int .u8 43, .int .u8 92] 5], #[], []⟩
  let h1 := putVar w0.heap 3 (Lib.asciiSpaceTab.map fun z => Value.int .u8 z).toArray
  let h2 := putVar h1 5 (Lib.firstTab.map fun z => Value.int .u8 z).toArray
  let h3 := putVar h2 6 ((List.range 16).flatMap fun i => [Value.int .u8 (Lib.accLo i), Value.int .u8 (Lib.accHi i)]).toArray
  let h4 := putVar h3 4 #[.pointer (some ⟨N + 1, 0, none⟩)]
  let h5 := putVar h4 8 #[.iface 289 (.pointer (some ⟨N + 2, 0, none⟩))]
  let h6 := putVar h5 9 #[.iface 289 (.pointer (some ⟨N + 3, 0, none⟩))]
  let h7 := putVar h6 0 #[.slice (some ⟨N + 4, 0, none⟩) 3 3]
  let h8 := putVar h7 2 #[.slice (some ⟨N + 5, 0, none⟩) 4 4]
  let h9 := putVar h8 11 (litsOf Rows.laid_math_bits_deBruijn32tab)
  let h10 := putVar h9 12 (litsOf Rows.laid_math_bits_deBruijn64tab)
  let h11 := putVar h10 10 (litsOf Rows.laid_internal_strconv_uint64pow10)
  { w0 with heap := putVar h11 7 (litsOf Rows.laid_loop_example_pub_g01512_pub_gotime_std0x) }

theorem vars_three {H : Type} {enc : TypeId × Value → H} {w : World} {spare : Nat → Bool} {n0 n1 n2 : String} {gs : List (DataW H)} {ps : List MemPlace} (h : DataW.TrodVars enc Tryz.prog w spare [n0, n1, n2] gs ps) : ∃ d0 d1 d2, gs = [d0, d1, d2] := by
  cases gs with
  | nil => simp [DataW.TrodVars] at h
  | cons d ds =>
    obtain ⟨g0, t0, cs0, f0, p0, q0, h1, h2, h3, h4, hs, e⟩ := h
    obtain ⟨_, _, _, _, e0, _, _, _, _, _, e1, _, rfl, _⟩ := trodVars_two hs
    exact ⟨_, _, _, rfl⟩

theorem asciiData_eq : (Rows.laid_strings_asciiSpace : DataW Unit) = Lib.tabData .u8 Lib.asciiSpaceTab := by kernel_rfl
theorem gAsciiType : (Tryz.prog.globals[3]?).map (·.type) = some 186 := by kernel_rfl
theorem cells256 : Tryz.prog.cellsOf 186 = 256 := by kernel_rfl
theorem cells5 : Tryz.prog.cellsOf 5 = 1 := by kernel_rfl
theorem ascii_of_reads {W : World} (h : Lib.VarReads Tryz.prog W "strings.asciiSpace" Rows.laid_strings_asciiSpace) : Asc W := by
  rw [asciiData_eq] at h
  obtain ⟨g', t', cs, fuel, p, hg', ht', hvar, hd⟩ := h
  obtain rfl := Option.some.inj (gAscii0.symm.trans hg')
  obtain rfl := Option.some.inj (gAsciiType.symm.trans ht')
  unfold Asc Lib.TabIs
  rw [hvar, ← Lib.cells_of_tab Tryz.underlying186 Tryz.underlying5 cells5 cells256 hd]
theorem glob_of {W : World} (h1 : Lib.VarReads Tryz.prog W "strings.asciiSpace" Rows.laid_strings_asciiSpace) (h2 : Lib.VarReads Tryz.prog W "loop.example/pub-g01512/pub/sgdiff.hunkPrefix" Rows.laid_loop_example_pub_g01512_pub_sgdiff_hunkPrefix)
    (h3 : Lib.VarReads Tryz.prog W "loop.example/pub-g01512/pub/sgdiff.linePrefixes" Rows.laid_loop_example_pub_g01512_pub_sgdiff_linePrefixes) : Glob W.heap.size W :=
  ⟨ascii_of_reads h1, sliceVar_of _ _ hunkPre (by kernel_rfl) (by kernel_rfl) (by decide) h2, sliceVar_of _ _ prefs (by kernel_rfl) (by kernel_rfl) (by decide) h3, asc_lt (ascii_of_reads h1), Nat.le_refl _⟩
end Go.Proofs.YtjndlbidhhkjcaaGreatDoor
