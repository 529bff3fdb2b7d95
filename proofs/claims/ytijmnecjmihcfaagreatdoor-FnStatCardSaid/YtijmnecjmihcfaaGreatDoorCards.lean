/-
  DERIVED. GIVEN WITH THE SEED: THE CARDS: each row of YtijmnecjmihcfaaGreatDoorRows.lean that lists a variable, with what it lists TIED to the program's text (the seventh form; the later family's looks); each row that meets fmt, with fmt's text TOLD by the authors' own Lean function (tested against real Go, not proved from fmt's source: count such statements apart). THE CARD IS WHAT COUNTS. Prove the row's statement (the work); the ties are given (YtijmnecjmihcfaaGreatDoorTie.lean); close each card by the builder's one call (the guide's Derived/Test/ToyasCard.lean, 'card_holds'). Laid BY PROGRAM, IN A SANDBOX (cutbox-door.mjs). By AI agents, Wed Nov 11 2026. No macro, syntax, notation, axiom, sorry.
-/
import Derived.Test.YtijmnecjmihcfaaGreatDoorRows
import GoSem.ClaimSeven
namespace Go.Proofs.YtijmnecjmihcfaaGreatDoor
namespace Rows

/-- THE TIED CARD OF 'laws.FnHunksDashes'. -/
def fnHunksDashesCard : Claim7 := { stood := { row := fnHunksDashesRow, standIns := [], harness := (true, "f4d171c4160ca4f0d20040a2477d04e3dcfb8cbed81a658674d5b01b9bbbdf82"), looks := true }, kinds := [], alts := [], laidByText := true, laidKinds := [.data, .data, .data, .data, .sentinel, .sentinel, .listed, .data, .widerDeep, .data, .pinned], laidTests := true, laidLooks := .later }
def FnHunksDashesCardSaid : Prop := Claim7.holds Tryz.pinned (.plain (OpenSpec.ofChange fnHunksDashesSpec)) fnHunksDashesCard

/-- THE TIED CARD OF 'laws.FnHunksParsed'. -/
def fnHunksParsedCard : Claim7 := { stood := { row := fnHunksParsedRow, standIns := [], harness := (true, "f4d171c4160ca4f0d20040a2477d04e3dcfb8cbed81a658674d5b01b9bbbdf82"), looks := true }, kinds := [], alts := [], laidByText := true, laidKinds := [.data, .data, .data, .data, .sentinel, .sentinel, .listed, .data, .widerDeep, .data, .pinned], laidTests := true, laidLooks := .later }
def FnHunksParsedCardSaid : Prop := Claim7.holds Tryz.pinned (.plain (OpenSpec.ofChange fnHunksParsedSpec)) fnHunksParsedCard

/-- THE TIED CARD OF 'laws.FnHunkHeader'. -/
def fnHunkHeaderCard : Claim7 := { stood := { row := fnHunkHeaderRow, standIns := [], harness := (true, "f4d171c4160ca4f0d20040a2477d04e3dcfb8cbed81a658674d5b01b9bbbdf82"), looks := true }, kinds := [], alts := [], laidByText := true, laidKinds := [.data, .data, .data, .data, .sentinel, .sentinel, .listed, .data, .widerDeep, .data, .pinned], laidTests := true, laidLooks := .later }
def FnHunkHeaderCardSaid : Prop := Claim7.holds Tryz.pinned (.plain (OpenSpec.ofChange fnHunkHeaderSpec)) fnHunkHeaderCard

/-- THE TIED CARD OF 'laws.FnStat'. -/
def fnStatCard : Claim7 := { stood := { row := fnStatRow, standIns := [], harness := (true, "f4d171c4160ca4f0d20040a2477d04e3dcfb8cbed81a658674d5b01b9bbbdf82"), looks := true }, kinds := [], alts := [], laidByText := true, laidKinds := [.data, .data, .data, .data, .sentinel, .sentinel, .listed, .data, .widerDeep, .data, .pinned], laidTests := true, laidLooks := .later }
def FnStatCardSaid : Prop := Claim7.holds Tryz.pinned (.plain (OpenSpec.ofChange fnStatSpec)) fnStatCard

/-- THE TIED CARD OF 'laws.FnHunksAgain'. -/
def fnHunksAgainCard : Claim7 := { stood := { row := fnHunksAgainRow, standIns := [], harness := (true, "f4d171c4160ca4f0d20040a2477d04e3dcfb8cbed81a658674d5b01b9bbbdf82"), looks := true }, kinds := [], alts := [], laidByText := true, laidKinds := [.data, .data, .data, .data, .sentinel, .sentinel, .listed, .data, .widerDeep, .data, .pinned], laidTests := true, laidLooks := .later }
def FnHunksAgainCardSaid : Prop := Claim7.holds Tryz.pinned (.plain (OpenSpec.ofChange fnHunksAgainSpec)) fnHunksAgainCard

/-- THE TIED CARD OF 'laws.FnHunksPrinted'. -/
def fnHunksPrintedCard : Claim7 := { stood := { row := fnHunksPrintedRow, standIns := [], harness := (true, "f4d171c4160ca4f0d20040a2477d04e3dcfb8cbed81a658674d5b01b9bbbdf82"), looks := true }, kinds := [], alts := [], laidByText := true, laidKinds := [.data, .data, .data, .data, .sentinel, .sentinel, .listed, .data, .widerDeep, .data, .pinned], laidTests := true, laidLooks := .later }
def FnHunksPrintedCardSaid : Prop := Claim7.holds Tryz.pinned (.plain (OpenSpec.ofChange fnHunksPrintedSpec)) fnHunksPrintedCard

/-- THE SECOND FORM's CARD OF 'laws.FnHunksDashes'. -/
def fnHunksDashesUptoCard : Claim7 := { stood := { row := fnHunksDashesUptoRow, standIns := [], harness := (true, "f4d171c4160ca4f0d20040a2477d04e3dcfb8cbed81a658674d5b01b9bbbdf82"), looks := true }, kinds := [], alts := [], laidByText := true, laidKinds := [.data, .data, .data, .data, .sentinel, .sentinel, .listed, .data, .widerDeep, .data, .pinned], laidTests := true, laidLooks := .later }
def FnHunksDashesUptoCardSaid : Prop := Claim7.holds Tryz.pinned (.plain (OpenSpec.upto fnHunksDashesSpec)) fnHunksDashesUptoCard

/-- THE SECOND FORM's CARD OF 'laws.FnHunksParsed'. -/
def fnHunksParsedUptoCard : Claim7 := { stood := { row := fnHunksParsedUptoRow, standIns := [], harness := (true, "f4d171c4160ca4f0d20040a2477d04e3dcfb8cbed81a658674d5b01b9bbbdf82"), looks := true }, kinds := [], alts := [], laidByText := true, laidKinds := [.data, .data, .data, .data, .sentinel, .sentinel, .listed, .data, .widerDeep, .data, .pinned], laidTests := true, laidLooks := .later }
def FnHunksParsedUptoCardSaid : Prop := Claim7.holds Tryz.pinned (.plain (OpenSpec.upto fnHunksParsedSpec)) fnHunksParsedUptoCard

/-- THE SECOND FORM's CARD OF 'laws.FnHunkHeader'. -/
def fnHunkHeaderUptoCard : Claim7 := { stood := { row := fnHunkHeaderUptoRow, standIns := [], harness := (true, "f4d171c4160ca4f0d20040a2477d04e3dcfb8cbed81a658674d5b01b9bbbdf82"), looks := true }, kinds := [], alts := [], laidByText := true, laidKinds := [.data, .data, .data, .data, .sentinel, .sentinel, .listed, .data, .widerDeep, .data, .pinned], laidTests := true, laidLooks := .later }
def FnHunkHeaderUptoCardSaid : Prop := Claim7.holds Tryz.pinned (.plain (OpenSpec.upto fnHunkHeaderSpec)) fnHunkHeaderUptoCard

/-- THE SECOND FORM's CARD OF 'laws.FnStat'. -/
def fnStatUptoCard : Claim7 := { stood := { row := fnStatUptoRow, standIns := [], harness := (true, "f4d171c4160ca4f0d20040a2477d04e3dcfb8cbed81a658674d5b01b9bbbdf82"), looks := true }, kinds := [], alts := [], laidByText := true, laidKinds := [.data, .data, .data, .data, .sentinel, .sentinel, .listed, .data, .widerDeep, .data, .pinned], laidTests := true, laidLooks := .later }
def FnStatUptoCardSaid : Prop := Claim7.holds Tryz.pinned (.plain (OpenSpec.upto fnStatSpec)) fnStatUptoCard

/-- THE SECOND FORM's CARD OF 'laws.FnHunksAgain'. -/
def fnHunksAgainUptoCard : Claim7 := { stood := { row := fnHunksAgainUptoRow, standIns := [], harness := (true, "f4d171c4160ca4f0d20040a2477d04e3dcfb8cbed81a658674d5b01b9bbbdf82"), looks := true }, kinds := [], alts := [], laidByText := true, laidKinds := [.data, .data, .data, .data, .sentinel, .sentinel, .listed, .data, .widerDeep, .data, .pinned], laidTests := true, laidLooks := .later }
def FnHunksAgainUptoCardSaid : Prop := Claim7.holds Tryz.pinned (.plain (OpenSpec.upto fnHunksAgainSpec)) fnHunksAgainUptoCard

/-- THE SECOND FORM's CARD OF 'laws.FnHunksPrinted'. -/
def fnHunksPrintedUptoCard : Claim7 := { stood := { row := fnHunksPrintedUptoRow, standIns := [], harness := (true, "f4d171c4160ca4f0d20040a2477d04e3dcfb8cbed81a658674d5b01b9bbbdf82"), looks := true }, kinds := [], alts := [], laidByText := true, laidKinds := [.data, .data, .data, .data, .sentinel, .sentinel, .listed, .data, .widerDeep, .data, .pinned], laidTests := true, laidLooks := .later }
def FnHunksPrintedUptoCardSaid : Prop := Claim7.holds Tryz.pinned (.plain (OpenSpec.upto fnHunksPrintedSpec)) fnHunksPrintedUptoCard
end Rows
end Go.Proofs.YtijmnecjmihcfaaGreatDoor
