/-
  DERIVED. GIVEN WITH THE SEED: THE CARDS: each row of YthmanaiicekcgaaDoorRows.lean that lists a variable, with what it lists TIED to the program's text (the seventh form; the later family's looks); each row that meets fmt, with fmt's text TOLD by the authors' own Lean function (tested against real Go, not proved from fmt's source: count such statements apart). THE CARD IS WHAT COUNTS. Prove the row's statement (the work); the ties are given (YthmanaiicekcgaaDoorTie.lean); close each card by the builder's one call (the guide's Derived/Test/ToyasCard.lean, 'card_holds'). Laid BY PROGRAM, IN A SANDBOX (cutbox-door.mjs). By AI agents, Wed Nov 11 2026. No macro, syntax, notation, axiom, sorry.
-/
import Derived.Test.YthmanaiicekcgaaDoorRows
import GoSem.ClaimSeven
namespace Go.Proofs.YthmanaiicekcgaaDoor
namespace Rows

/-- THE TIED CARD OF 'laws.FnIdentity'. -/
def fnIdentityCard : Claim7 := { stood := { row := fnIdentityRow, standIns := [], harness := (true, "13ee757ee485eabedbdf8997e824f5f6f3d071f5551f92357a59ebb4b5bfa7fa"), looks := false }, kinds := [], alts := [], laidByText := true, laidKinds := [.data, .listed, .data, .pinned], laidTests := true, laidLooks := .later }
def FnIdentityCardSaid : Prop := Claim7.holds Tryd.pinned (.plain (OpenSpec.ofChange fnIdentitySpec)) fnIdentityCard

/-- THE TIED CARD OF 'laws.FnNameDrop'. -/
def fnNameDropCard : Claim7 := { stood := { row := fnNameDropRow, standIns := [], harness := (true, "13ee757ee485eabedbdf8997e824f5f6f3d071f5551f92357a59ebb4b5bfa7fa"), looks := false }, kinds := [], alts := [], laidByText := true, laidKinds := [.data, .sentinel, .listed, .data, .pinned], laidTests := true, laidLooks := .later }
def FnNameDropCardSaid : Prop := Claim7.holds Tryd.pinned (.plain (OpenSpec.ofChange fnNameDropSpec)) fnNameDropCard

/-- THE TIED CARD OF 'laws.FnQuotedPlain'. -/
def fnQuotedPlainCard : Claim7 := { stood := { row := fnQuotedPlainRow, standIns := [], harness := (true, "13ee757ee485eabedbdf8997e824f5f6f3d071f5551f92357a59ebb4b5bfa7fa"), looks := false }, kinds := [], alts := [], laidByText := true, laidKinds := [.data, .listed, .data, .mapped, .pinned], laidTests := true, laidLooks := .later }
def FnQuotedPlainCardSaid : Prop := Claim7.holds Tryd.pinned (.plain (OpenSpec.ofChange fnQuotedPlainSpec)) fnQuotedPlainCard

/-- THE TIED CARD OF 'laws.FnQuotedBack'. -/
def fnQuotedBackCard : Claim7 := { stood := { row := fnQuotedBackRow, standIns := [], harness := (true, "13ee757ee485eabedbdf8997e824f5f6f3d071f5551f92357a59ebb4b5bfa7fa"), looks := false }, kinds := [], alts := [], laidByText := true, laidKinds := [.data, .sentinel, .listed, .data, .mapped, .pinned], laidTests := true, laidLooks := .later }
def FnQuotedBackCardSaid : Prop := Claim7.holds Tryd.pinned (.plain (OpenSpec.ofChange fnQuotedBackSpec)) fnQuotedBackCard

/-- THE SECOND FORM's CARD OF 'laws.FnIdentity'. -/
def fnIdentityUptoCard : Claim7 := { stood := { row := fnIdentityUptoRow, standIns := [], harness := (true, "13ee757ee485eabedbdf8997e824f5f6f3d071f5551f92357a59ebb4b5bfa7fa"), looks := false }, kinds := [], alts := [], laidByText := true, laidKinds := [.data, .listed, .data, .pinned], laidTests := true, laidLooks := .later }
def FnIdentityUptoCardSaid : Prop := Claim7.holds Tryd.pinned (.plain (OpenSpec.upto fnIdentitySpec)) fnIdentityUptoCard

/-- THE SECOND FORM's CARD OF 'laws.FnNameDrop'. -/
def fnNameDropUptoCard : Claim7 := { stood := { row := fnNameDropUptoRow, standIns := [], harness := (true, "13ee757ee485eabedbdf8997e824f5f6f3d071f5551f92357a59ebb4b5bfa7fa"), looks := false }, kinds := [], alts := [], laidByText := true, laidKinds := [.data, .sentinel, .listed, .data, .pinned], laidTests := true, laidLooks := .later }
def FnNameDropUptoCardSaid : Prop := Claim7.holds Tryd.pinned (.plain (OpenSpec.upto fnNameDropSpec)) fnNameDropUptoCard

/-- THE SECOND FORM's CARD OF 'laws.FnQuotedPlain'. -/
def fnQuotedPlainUptoCard : Claim7 := { stood := { row := fnQuotedPlainUptoRow, standIns := [], harness := (true, "13ee757ee485eabedbdf8997e824f5f6f3d071f5551f92357a59ebb4b5bfa7fa"), looks := false }, kinds := [], alts := [], laidByText := true, laidKinds := [.data, .listed, .data, .mapped, .pinned], laidTests := true, laidLooks := .later }
def FnQuotedPlainUptoCardSaid : Prop := Claim7.holds Tryd.pinned (.plain (OpenSpec.upto fnQuotedPlainSpec)) fnQuotedPlainUptoCard

/-- THE SECOND FORM's CARD OF 'laws.FnQuotedBack'. -/
def fnQuotedBackUptoCard : Claim7 := { stood := { row := fnQuotedBackUptoRow, standIns := [], harness := (true, "13ee757ee485eabedbdf8997e824f5f6f3d071f5551f92357a59ebb4b5bfa7fa"), looks := false }, kinds := [], alts := [], laidByText := true, laidKinds := [.data, .sentinel, .listed, .data, .mapped, .pinned], laidTests := true, laidLooks := .later }
def FnQuotedBackUptoCardSaid : Prop := Claim7.holds Tryd.pinned (.plain (OpenSpec.upto fnQuotedBackSpec)) fnQuotedBackUptoCard
end Rows
end Go.Proofs.YthmanaiicekcgaaDoor
