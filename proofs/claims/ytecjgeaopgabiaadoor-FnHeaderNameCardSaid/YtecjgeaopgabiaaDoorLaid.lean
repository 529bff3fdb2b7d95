/- A world in which the library's listed variables hold what their initialisers lay, for the witnesses of the rows; what such a list gives a walk. -/
import Derived.Test.YtecjgeaopgabiaaDoorRows
import Derived.WalkKit
import Derived.ProofKit
import Derived.OpenShut
import Derived.Deep.DeepHandedRow
import Derived.Deep.DeepWitnessRowRef
import Derived.Lib.LaidTab
import Derived.Lib.LaidU8
import Derived.PinnedBridge
import Derived.Lib.Space
namespace Go.Proofs.YtecjgeaopgabiaaDoor
open Go.ChangeShapes Go.WideShapes Go.ChangeAt Go.RowKit

theorem own : ownKnob Tryd.prog.godebug = none := by kernel_rfl

def putVar (h : Array Obj) (g : Nat) (cs : Array Value) : Array Obj := h.modify g fun
  | .cells _ t frozen => .cells cs t frozen
  | o => o
noncomputable def laidWorld (os : Os) : World :=
  let N := (World.settled Tryd.prog os).heap.size
  let w0 := World.holding Tryd.prog os ⟨#[.cells (Lib.whiteT.map fun (z : Nat) => Value.int .u16 (z : Int)).toArray 79,
    .cells #[.slice (some ⟨N, 0, none⟩) 7 7, .slice none 0 0, .int .i64 2] 76,
    .cells #[.string ⟨#[105, 110, 118, 97, 108, 105, 100, 32, 115, 121, 110, 116, 97, 120]⟩] 60], #[], []⟩
  let h1 := putVar w0.heap 0 (Lib.asciiSpaceTab.map fun z => Value.int .u8 z).toArray
  let h2 := putVar h1 4 (Lib.firstTab.map fun z => Value.int .u8 z).toArray
  let h3 := putVar h2 5 ((List.range 16).flatMap fun i => [Value.int .u8 (Lib.accLo i), Value.int .u8 (Lib.accHi i)]).toArray
  let h4 := putVar h3 1 #[.pointer (some ⟨N + 1, 0, none⟩)]
  let h5 := putVar h4 3 #[.iface 58 (.pointer (some ⟨N + 2, 0, none⟩))]
  { w0 with heap := h5 }

theorem asciiData_eq : (Rows.laid_strings_asciiSpace : DataW Unit) = Lib.tabData .u8 Lib.asciiSpaceTab := by kernel_rfl
theorem gAsciiType : (Tryd.prog.globals[0]?).map (·.type) = some 57 := by kernel_rfl
theorem gAscii0 : Tryd.prog.globalNamed "strings.asciiSpace" = some 0 := by kernel_rfl
theorem cells256 : Tryd.prog.cellsOf 57 = 256 := by kernel_rfl
theorem cells5 : Tryd.prog.cellsOf 5 = 1 := by kernel_rfl
theorem ascii_of_reads {W : World} (h : Lib.VarReads Tryd.prog W "strings.asciiSpace" Rows.laid_strings_asciiSpace) : Lib.TabIs Tryd.prog W "strings.asciiSpace" .u8 Lib.asciiSpaceTab := by
  rw [asciiData_eq] at h
  obtain ⟨g', t', cs, fuel, p, hg', ht', hvar, hd⟩ := h
  obtain rfl := Option.some.inj (gAscii0.symm.trans hg')
  obtain rfl := Option.some.inj (gAsciiType.symm.trans ht')
  unfold Lib.TabIs
  rw [hvar, ← Lib.cells_of_tab Tryd.underlying57 Tryd.underlying5 cells5 cells256 hd]
end Go.Proofs.YtecjgeaopgabiaaDoor
