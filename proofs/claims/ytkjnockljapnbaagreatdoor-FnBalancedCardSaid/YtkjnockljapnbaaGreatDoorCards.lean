/-
  DERIVED. GIVEN WITH THE SEED: THE CARDS: each row of YtkjnockljapnbaaGreatDoorRows.lean that lists a variable, with what it lists TIED to the program's text (the seventh form; the later family's looks); each row that meets fmt, with fmt's text TOLD by the authors' own Lean function (tested against real Go, not proved from fmt's source: count such statements apart). THE CARD IS WHAT COUNTS. Prove the row's statement (the work); the ties are given (YtkjnockljapnbaaGreatDoorTie.lean); close each card by the builder's one call (the guide's Derived/Test/ToyasCard.lean, 'card_holds'). Laid BY PROGRAM, IN A SANDBOX (cutbox-door.mjs). By AI agents, Wed Nov 11 2026. No macro, syntax, notation, axiom, sorry.
-/
import Derived.Test.YtkjnockljapnbaaGreatDoorRows
import GoSem.ClaimSeven
namespace Go.Proofs.YtkjnockljapnbaaGreatDoor
namespace Rows

/-- THE TIED CARD OF 'laws.FnBalanced'. -/
def fnBalancedCard : Claim7 := { stood := { row := fnBalancedRow, standIns := [], harness := (true, "813bbdda0f326906bfa3d974b17ef9ce2f64f5be784cdc0a7247e34732a012b3"), looks := true }, kinds := [], alts := [], laidByText := true, laidKinds := [.data, .data, .data, .data, .handle, .sentinel, .sentinel, .sentinel, .data, .data, .sentinel, .pinned, .pinned], laidTests := true, laidLooks := .later }
def FnBalancedCardSaid : Prop := Claim7.holds Tryz.pinned (.plain (OpenSpec.ofChange fnBalancedSpec)) fnBalancedCard

/-- THE TIED CARD OF 'laws.FnBeginning'. -/
def fnBeginningCard : Claim7 := { stood := { row := fnBeginningRow, standIns := [], harness := (true, "813bbdda0f326906bfa3d974b17ef9ce2f64f5be784cdc0a7247e34732a012b3"), looks := true }, kinds := [], alts := [], laidByText := true, laidKinds := [.data, .data, .data, .data, .handle, .sentinel, .sentinel, .sentinel, .data, .data, .sentinel, .pinned, .pinned], laidTests := true, laidLooks := .later }
def FnBeginningCardSaid : Prop := Claim7.holds Tryz.pinned (.plain (OpenSpec.ofChange fnBeginningSpec)) fnBeginningCard

/-- THE TIED CARD OF 'laws.FnLooseReferences'. -/
def fnLooseReferencesCard : Claim7 := { stood := { row := fnLooseReferencesRow, standIns := [], harness := (true, "813bbdda0f326906bfa3d974b17ef9ce2f64f5be784cdc0a7247e34732a012b3"), looks := true }, kinds := [], alts := [], laidByText := true, laidKinds := [.data, .data, .data, .data, .handle, .sentinel, .sentinel, .sentinel, .data, .data, .sentinel, .pinned, .pinned], laidTests := true, laidLooks := .later }
def FnLooseReferencesCardSaid : Prop := Claim7.holds Tryz.pinned (.plain (OpenSpec.ofChange fnLooseReferencesSpec)) fnLooseReferencesCard

/-- THE TIED CARD OF 'laws.FnPieces'. -/
def fnPiecesCard : Claim7 := { stood := { row := fnPiecesRow, standIns := [], harness := (true, "813bbdda0f326906bfa3d974b17ef9ce2f64f5be784cdc0a7247e34732a012b3"), looks := true }, kinds := [], alts := [], laidByText := true, laidKinds := [.data, .data, .data, .data, .handle, .sentinel, .sentinel, .sentinel, .data, .data, .sentinel, .pinned, .pinned], laidTests := true, laidLooks := .later }
def FnPiecesCardSaid : Prop := Claim7.holds Tryz.pinned (.plain (OpenSpec.ofChange fnPiecesSpec)) fnPiecesCard

/-- THE TIED CARD OF 'laws.FnPlaces'. -/
def fnPlacesCard : Claim7 := { stood := { row := fnPlacesRow, standIns := [], harness := (true, "813bbdda0f326906bfa3d974b17ef9ce2f64f5be784cdc0a7247e34732a012b3"), looks := true }, kinds := [], alts := [], laidByText := true, laidKinds := [.data, .data, .data, .data, .handle, .sentinel, .sentinel, .sentinel, .data, .data, .sentinel, .pinned, .pinned], laidTests := true, laidLooks := .later }
def FnPlacesCardSaid : Prop := Claim7.holds Tryz.pinned (.plain (OpenSpec.ofChange fnPlacesSpec)) fnPlacesCard

/-- THE SECOND FORM's CARD OF 'laws.FnBalanced'. -/
def fnBalancedUptoCard : Claim7 := { stood := { row := fnBalancedUptoRow, standIns := [], harness := (true, "813bbdda0f326906bfa3d974b17ef9ce2f64f5be784cdc0a7247e34732a012b3"), looks := true }, kinds := [], alts := [], laidByText := true, laidKinds := [.data, .data, .data, .data, .handle, .sentinel, .sentinel, .sentinel, .data, .data, .sentinel, .pinned, .pinned], laidTests := true, laidLooks := .later }
def FnBalancedUptoCardSaid : Prop := Claim7.holds Tryz.pinned (.plain (OpenSpec.upto fnBalancedSpec)) fnBalancedUptoCard

/-- THE SECOND FORM's CARD OF 'laws.FnBeginning'. -/
def fnBeginningUptoCard : Claim7 := { stood := { row := fnBeginningUptoRow, standIns := [], harness := (true, "813bbdda0f326906bfa3d974b17ef9ce2f64f5be784cdc0a7247e34732a012b3"), looks := true }, kinds := [], alts := [], laidByText := true, laidKinds := [.data, .data, .data, .data, .handle, .sentinel, .sentinel, .sentinel, .data, .data, .sentinel, .pinned, .pinned], laidTests := true, laidLooks := .later }
def FnBeginningUptoCardSaid : Prop := Claim7.holds Tryz.pinned (.plain (OpenSpec.upto fnBeginningSpec)) fnBeginningUptoCard

/-- THE SECOND FORM's CARD OF 'laws.FnLooseReferences'. -/
def fnLooseReferencesUptoCard : Claim7 := { stood := { row := fnLooseReferencesUptoRow, standIns := [], harness := (true, "813bbdda0f326906bfa3d974b17ef9ce2f64f5be784cdc0a7247e34732a012b3"), looks := true }, kinds := [], alts := [], laidByText := true, laidKinds := [.data, .data, .data, .data, .handle, .sentinel, .sentinel, .sentinel, .data, .data, .sentinel, .pinned, .pinned], laidTests := true, laidLooks := .later }
def FnLooseReferencesUptoCardSaid : Prop := Claim7.holds Tryz.pinned (.plain (OpenSpec.upto fnLooseReferencesSpec)) fnLooseReferencesUptoCard

/-- THE SECOND FORM's CARD OF 'laws.FnPieces'. -/
def fnPiecesUptoCard : Claim7 := { stood := { row := fnPiecesUptoRow, standIns := [], harness := (true, "813bbdda0f326906bfa3d974b17ef9ce2f64f5be784cdc0a7247e34732a012b3"), looks := true }, kinds := [], alts := [], laidByText := true, laidKinds := [.data, .data, .data, .data, .handle, .sentinel, .sentinel, .sentinel, .data, .data, .sentinel, .pinned, .pinned], laidTests := true, laidLooks := .later }
def FnPiecesUptoCardSaid : Prop := Claim7.holds Tryz.pinned (.plain (OpenSpec.upto fnPiecesSpec)) fnPiecesUptoCard

/-- THE SECOND FORM's CARD OF 'laws.FnPlaces'. -/
def fnPlacesUptoCard : Claim7 := { stood := { row := fnPlacesUptoRow, standIns := [], harness := (true, "813bbdda0f326906bfa3d974b17ef9ce2f64f5be784cdc0a7247e34732a012b3"), looks := true }, kinds := [], alts := [], laidByText := true, laidKinds := [.data, .data, .data, .data, .handle, .sentinel, .sentinel, .sentinel, .data, .data, .sentinel, .pinned, .pinned], laidTests := true, laidLooks := .later }
def FnPlacesUptoCardSaid : Prop := Claim7.holds Tryz.pinned (.plain (OpenSpec.upto fnPlacesSpec)) fnPlacesUptoCard
end Rows
end Go.Proofs.YtkjnockljapnbaaGreatDoor
