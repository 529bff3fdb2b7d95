/-
  DERIVED. GIVEN WITH THE SEED: THE CARDS: each row of YtjndlbidhhkjcaaGreatDoorRows.lean that lists a variable, with what it lists TIED to the program's text (the seventh form; the later family's looks); each row that meets fmt, with fmt's text TOLD by the authors' own Lean function (tested against real Go, not proved from fmt's source: count such statements apart). THE CARD IS WHAT COUNTS. Prove the row's statement (the work); the ties are given (YtjndlbidhhkjcaaGreatDoorTie.lean); close each card by the builder's one call (the guide's Derived/Test/ToyasCard.lean, 'card_holds'). Laid BY PROGRAM, IN A SANDBOX (cutbox-door.mjs). By AI agents, Wed Nov 11 2026. No macro, syntax, notation, axiom, sorry.
-/
import Derived.Test.YtjndlbidhhkjcaaGreatDoorRows
import GoSem.ClaimSeven
namespace Go.Proofs.YtjndlbidhhkjcaaGreatDoor
namespace Rows

/-- THE TIED CARD OF 'laws.FnManyPrinted'. -/
def fnManyPrintedCard : Claim7 := { stood := { row := fnManyPrintedRow, standIns := [], harness := (true, "0cf49afc83f07be0cf3bc82a2f338abfaa9a38b4177cb1ea0bb794193a0acefa"), looks := true }, kinds := [], alts := [], laidByText := true, laidKinds := [.data, .data, .data, .data, .data, .sentinel, .sentinel, .listed, .data, .widerDeep, .data, .pinned], laidTests := true, laidLooks := .later }
def FnManyPrintedCardSaid : Prop := Claim7.holds Tryz.pinned (.plain (OpenSpec.ofChange fnManyPrintedSpec)) fnManyPrintedCard

/-- THE SECOND FORM's CARD OF 'laws.FnManyPrinted'. -/
def fnManyPrintedUptoCard : Claim7 := { stood := { row := fnManyPrintedUptoRow, standIns := [], harness := (true, "0cf49afc83f07be0cf3bc82a2f338abfaa9a38b4177cb1ea0bb794193a0acefa"), looks := true }, kinds := [], alts := [], laidByText := true, laidKinds := [.data, .data, .data, .data, .data, .sentinel, .sentinel, .listed, .data, .widerDeep, .data, .pinned], laidTests := true, laidLooks := .later }
def FnManyPrintedUptoCardSaid : Prop := Claim7.holds Tryz.pinned (.plain (OpenSpec.upto fnManyPrintedSpec)) fnManyPrintedUptoCard
end Rows
end Go.Proofs.YtjndlbidhhkjcaaGreatDoor
