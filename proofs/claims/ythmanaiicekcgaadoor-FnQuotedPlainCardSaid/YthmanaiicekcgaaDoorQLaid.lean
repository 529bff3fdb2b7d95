/- A world in which the listed variables hold what their initialisers lay, the map of signs among them; what such a list gives a walk. -/
import Derived.Test.YthmanaiicekcgaaDoorRows
import Derived.Test.YthmanaiicekcgaaDoorQA
import Derived.WalkKit
import Derived.ProofKit
import Derived.OpenShut
import Derived.OpenVars
import Derived.ChangeVars
import Derived.Deep.DeepHandedRow
import Derived.Deep.DeepWitnessRowRef
import Derived.Lib.LaidTab
import Derived.Lib.LaidU8
import Derived.PinnedBridge
import Derived.Lib.Space
namespace Go.Proofs.YthmanaiicekcgaaDoor
open Go.ChangeShapes Go.WideShapes Go.ChangeAt Go.RowKit
set_option linter.unusedVariables false
set_option linter.unusedSimpArgs false

theorem own : ownKnob Tryd.prog.godebug = none := by kernel_rfl
theorem laidOut : laidOutB Tryd.prog = true := by kernel_rfl

def putVar (h : Array Obj) (g : Nat) (cs : Array Value) : Array Obj := h.modify g fun
  | .cells _ t frozen => .cells cs t frozen
  | o => o
/-- The map of signs. -/
def signMap : Obj := .map #[⟨.int .u8 7, .int .u8 97, 0⟩, ⟨.int .u8 8, .int .u8 98, 1⟩, ⟨.int .u8 9, .int .u8 116, 2⟩, ⟨.int .u8 10, .int .u8 110, 3⟩, ⟨.int .u8 11, .int .u8 118, 4⟩, ⟨.int .u8 12, .int .u8 102, 5⟩, ⟨.int .u8 13, .int .u8 114, 6⟩, ⟨.int .u8 34, .int .u8 34, 7⟩, ⟨.int .u8 92, .int .u8 92, 8⟩] 9
noncomputable def laidWorld (os : Os) : World :=
  let N := (World.settled Tryd.prog os).heap.size
  let w0 := World.holding Tryd.prog os ⟨#[.cells (Lib.whiteT.map fun (z : Nat) => Value.int .u16 (z : Int)).toArray 95,
    .cells #[.slice (some ⟨N, 0, none⟩) 7 7, .slice none 0 0, .int .i64 2] 92,
    .cells #[.string ⟨#[105, 110, 118, 97, 108, 105, 100, 32, 115, 121, 110, 116, 97, 120]⟩] 62,
    signMap], #[], []⟩
  let h1 := putVar w0.heap 0 (Lib.asciiSpaceTab.map fun z => Value.int .u8 z).toArray
  let h2 := putVar h1 5 (Lib.firstTab.map fun z => Value.int .u8 z).toArray
  let h3 := putVar h2 6 ((List.range 16).flatMap fun i => [Value.int .u8 (Lib.accLo i), Value.int .u8 (Lib.accHi i)]).toArray
  let h4 := putVar h3 1 #[.pointer (some ⟨N + 1, 0, none⟩)]
  let h5 := putVar h4 4 #[.iface 60 (.pointer (some ⟨N + 2, 0, none⟩))]
  let h6 := putVar h5 2 #[.map (some (N + 3))]
  { w0 with heap := h6 }

theorem asciiData_eq : (Rows.laid_strings_asciiSpace : DataW Unit) = Lib.tabData .u8 Lib.asciiSpaceTab := by kernel_rfl
theorem gAsciiType : (Tryd.prog.globals[0]?).map (·.type) = some 59 := by kernel_rfl
theorem gAscii0 : Tryd.prog.globalNamed "strings.asciiSpace" = some 0 := by kernel_rfl
theorem cells256 : Tryd.prog.cellsOf 59 = 256 := by kernel_rfl
theorem cells5 : Tryd.prog.cellsOf 5 = 1 := by kernel_rfl
theorem ascii_of_reads {W : World} (h : Lib.VarReads Tryd.prog W "strings.asciiSpace" Rows.laid_strings_asciiSpace) : Lib.TabIs Tryd.prog W "strings.asciiSpace" .u8 Lib.asciiSpaceTab := by
  rw [asciiData_eq] at h
  obtain ⟨g', t', cs, fuel, p, hg', ht', hvar, hd⟩ := h
  obtain rfl := Option.some.inj (gAscii0.symm.trans hg')
  obtain rfl := Option.some.inj (gAsciiType.symm.trans ht')
  unfold Lib.TabIs
  rw [hvar, ← Lib.cells_of_tab Tryd.underlying59 Tryd.underlying5 cells5 cells256 hd]

theorem gSigns0 : Tryd.prog.globalNamed "loop.example/pub-g01512/pub/gitdiff.quoteEscapeTable" = some 2 := by kernel_rfl
theorem gSignsType : (Tryd.prog.globals[2]?).map (·.type) = some 85 := by kernel_rfl
theorem signs_eq : (Rows.laid_loop_example_pub_g01512_pub_gitdiff_quoteEscapeTable : DataW Unit) = qDatum := by kernel_rfl
theorem qtab_of_reads {W : World} (h : Lib.VarReads Tryd.prog W "loop.example/pub-g01512/pub/gitdiff.quoteEscapeTable" Rows.laid_loop_example_pub_g01512_pub_gitdiff_quoteEscapeTable) : QTab W := by
  rw [signs_eq] at h
  obtain ⟨g', t', cs, fuel, p, hg', ht', hvar, hd⟩ := h
  obtain rfl := Option.some.inj (gSigns0.symm.trans hg')
  obtain rfl := Option.some.inj (gSignsType.symm.trans ht')
  rcases Go.WideElems.open_map Tryd.underlying85 hd with ⟨hcs, hx⟩ | ⟨ba, es, clock, m', rfl, hcs, hb, _, Fi, hx⟩
  · simp [qDatum] at hx
  · obtain ⟨hx1, _⟩ := Prod.mk.inj hx
    have hcs1 : cs = #[.map (some ba)] := by
      apply Array.toList_inj.1
      exact hcs
    subst hcs1
    have hheap : ∃ t fz, W.heap[2]? = some (.cells #[.map (some ba)] t fz) := by
      unfold World.var? at hvar
      rw [gSigns0] at hvar
      simp only [Option.bind_some] at hvar
      split at hvar
      · rename_i c t fz hh
        injection hvar with hvar
        subst hvar
        exact ⟨_, _, hh⟩
      · cases hvar
    obtain ⟨t, fz, hh⟩ := hheap
    refine ⟨ba, es.size, by rw [cell_of_block hh 0]; rfl, ?_⟩
    rw [hx1]
    exact World.ownsMap_of_fit hb Fi (fun x _ z hz => elemAt_plainElem_int Tryd.underlying5 hz)
end Go.Proofs.YthmanaiicekcgaaDoor
