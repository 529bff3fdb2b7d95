/-
  DERIVED. GIVEN WITH THE SEED: THE CARDS: each row of YtecjgeaopgabiaaDoorRows.lean that lists a variable, with what it lists TIED to the program's text (the seventh form; the later family's looks); each row that meets fmt, with fmt's text TOLD by the authors' own Lean function (tested against real Go, not proved from fmt's source: count such statements apart). THE CARD IS WHAT COUNTS. Prove the row's statement (the work); the ties are given (YtecjgeaopgabiaaDoorTie.lean); close each card by the builder's one call (the guide's Derived/Test/ToyasCard.lean, 'card_holds'). Laid BY PROGRAM, IN A SANDBOX (cutbox-door.mjs). By AI agents, Wed Nov 11 2026. No macro, syntax, notation, axiom, sorry.
-/
import Derived.Test.YtecjgeaopgabiaaDoorRows
import GoSem.ClaimSeven
namespace Go.Proofs.YtecjgeaopgabiaaDoor
namespace Rows

/-- THE TIED CARD OF 'laws.FnIdentity'. -/
def fnIdentityCard : Claim7 := { stood := { row := fnIdentityRow, standIns := [], harness := (true, "881536dbcf5b4cd6f05b36c0350172f1201dded72ed7502220d5b3b701046c06"), looks := false }, kinds := [], alts := [], laidByText := true, laidKinds := [.data, .listed, .data, .pinned], laidTests := true, laidLooks := .later }
def FnIdentityCardSaid : Prop := Claim7.holds Tryd.pinned (.plain (OpenSpec.ofChange fnIdentitySpec)) fnIdentityCard

/-- THE TIED CARD OF 'laws.FnIdentityMail'. -/
def fnIdentityMailCard : Claim7 := { stood := { row := fnIdentityMailRow, standIns := [], harness := (true, "881536dbcf5b4cd6f05b36c0350172f1201dded72ed7502220d5b3b701046c06"), looks := false }, kinds := [], alts := [], laidByText := true, laidKinds := [.data, .listed, .data, .pinned], laidTests := true, laidLooks := .later }
def FnIdentityMailCardSaid : Prop := Claim7.holds Tryd.pinned (.plain (OpenSpec.ofChange fnIdentityMailSpec)) fnIdentityMailCard

/-- THE TIED CARD OF 'laws.FnIdentityText'. -/
def fnIdentityTextCard : Claim7 := { stood := { row := fnIdentityTextRow, standIns := [], harness := (true, "881536dbcf5b4cd6f05b36c0350172f1201dded72ed7502220d5b3b701046c06"), looks := false }, kinds := [], alts := [], laidByText := true, laidKinds := [.data, .listed, .data, .pinned], laidTests := true, laidLooks := .later }
def FnIdentityTextCardSaid : Prop := Claim7.holds Tryd.pinned (.plain (OpenSpec.ofChange fnIdentityTextSpec)) fnIdentityTextCard

/-- THE TIED CARD OF 'laws.FnNameDrop'. -/
def fnNameDropCard : Claim7 := { stood := { row := fnNameDropRow, standIns := [], harness := (true, "881536dbcf5b4cd6f05b36c0350172f1201dded72ed7502220d5b3b701046c06"), looks := false }, kinds := [], alts := [], laidByText := true, laidKinds := [.data, .sentinel, .listed, .data, .pinned], laidTests := true, laidLooks := .later }
def FnNameDropCardSaid : Prop := Claim7.holds Tryd.pinned (.plain (OpenSpec.ofChange fnNameDropSpec)) fnNameDropCard

/-- THE TIED CARD OF 'laws.FnHeaderName'. -/
def fnHeaderNameCard : Claim7 := { stood := { row := fnHeaderNameRow, standIns := [], harness := (true, "881536dbcf5b4cd6f05b36c0350172f1201dded72ed7502220d5b3b701046c06"), looks := false }, kinds := [], alts := [], laidByText := true, laidKinds := [.data, .sentinel, .listed, .data, .pinned], laidTests := true, laidLooks := .later }
def FnHeaderNameCardSaid : Prop := Claim7.holds Tryd.pinned (.plain (OpenSpec.ofChange fnHeaderNameSpec)) fnHeaderNameCard

/-- THE SECOND FORM's CARD OF 'laws.FnIdentity'. -/
def fnIdentityUptoCard : Claim7 := { stood := { row := fnIdentityUptoRow, standIns := [], harness := (true, "881536dbcf5b4cd6f05b36c0350172f1201dded72ed7502220d5b3b701046c06"), looks := false }, kinds := [], alts := [], laidByText := true, laidKinds := [.data, .listed, .data, .pinned], laidTests := true, laidLooks := .later }
def FnIdentityUptoCardSaid : Prop := Claim7.holds Tryd.pinned (.plain (OpenSpec.upto fnIdentitySpec)) fnIdentityUptoCard

/-- THE SECOND FORM's CARD OF 'laws.FnIdentityMail'. -/
def fnIdentityMailUptoCard : Claim7 := { stood := { row := fnIdentityMailUptoRow, standIns := [], harness := (true, "881536dbcf5b4cd6f05b36c0350172f1201dded72ed7502220d5b3b701046c06"), looks := false }, kinds := [], alts := [], laidByText := true, laidKinds := [.data, .listed, .data, .pinned], laidTests := true, laidLooks := .later }
def FnIdentityMailUptoCardSaid : Prop := Claim7.holds Tryd.pinned (.plain (OpenSpec.upto fnIdentityMailSpec)) fnIdentityMailUptoCard

/-- THE SECOND FORM's CARD OF 'laws.FnIdentityText'. -/
def fnIdentityTextUptoCard : Claim7 := { stood := { row := fnIdentityTextUptoRow, standIns := [], harness := (true, "881536dbcf5b4cd6f05b36c0350172f1201dded72ed7502220d5b3b701046c06"), looks := false }, kinds := [], alts := [], laidByText := true, laidKinds := [.data, .listed, .data, .pinned], laidTests := true, laidLooks := .later }
def FnIdentityTextUptoCardSaid : Prop := Claim7.holds Tryd.pinned (.plain (OpenSpec.upto fnIdentityTextSpec)) fnIdentityTextUptoCard

/-- THE SECOND FORM's CARD OF 'laws.FnNameDrop'. -/
def fnNameDropUptoCard : Claim7 := { stood := { row := fnNameDropUptoRow, standIns := [], harness := (true, "881536dbcf5b4cd6f05b36c0350172f1201dded72ed7502220d5b3b701046c06"), looks := false }, kinds := [], alts := [], laidByText := true, laidKinds := [.data, .sentinel, .listed, .data, .pinned], laidTests := true, laidLooks := .later }
def FnNameDropUptoCardSaid : Prop := Claim7.holds Tryd.pinned (.plain (OpenSpec.upto fnNameDropSpec)) fnNameDropUptoCard

/-- THE SECOND FORM's CARD OF 'laws.FnHeaderName'. -/
def fnHeaderNameUptoCard : Claim7 := { stood := { row := fnHeaderNameUptoRow, standIns := [], harness := (true, "881536dbcf5b4cd6f05b36c0350172f1201dded72ed7502220d5b3b701046c06"), looks := false }, kinds := [], alts := [], laidByText := true, laidKinds := [.data, .sentinel, .listed, .data, .pinned], laidTests := true, laidLooks := .later }
def FnHeaderNameUptoCardSaid : Prop := Claim7.holds Tryd.pinned (.plain (OpenSpec.upto fnHeaderNameSpec)) fnHeaderNameUptoCard
end Rows
end Go.Proofs.YtecjgeaopgabiaaDoor
