/-
  DERIVED. GIVEN WITH THE SEED: THE CARDS: each row of YthapcchcahnfaaaGreatDoorRows.lean that lists a variable, with what it lists TIED to the program's text (the seventh form; the later family's looks); each row that meets fmt, with fmt's text TOLD by the authors' own Lean function (tested against real Go, not proved from fmt's source: count such statements apart). THE CARD IS WHAT COUNTS. Prove the row's statement (the work); the ties are given (YthapcchcahnfaaaGreatDoorTie.lean); close each card by the builder's one call (the guide's Derived/Test/ToyasCard.lean, 'card_holds'). Laid BY PROGRAM, IN A SANDBOX (cutbox-door.mjs). By AI agents, Wed Nov 11 2026. No macro, syntax, notation, axiom, sorry.
-/
import Derived.Test.YthapcchcahnfaaaGreatDoorRows
import GoSem.ClaimSeven
namespace Go.Proofs.YthapcchcahnfaaaGreatDoor
namespace Rows

/-- THE TIED CARD OF 'laws.FnReaderFails'. -/
def fnReaderFailsCard : Claim7 := { stood := { row := fnReaderFailsRow, standIns := [], harness := (true, "defcdb7869296457cf0feeecc499ec1a5f9e4f4d2943fb56167c37b0be64c04e"), looks := true }, kinds := [], alts := [], laidByText := true, laidKinds := [.data, .data, .data, .data, .handle, .sentinel, .sentinel, .sentinel, .data, .data, .sentinel, .pinned, .pinned], laidTests := true, laidLooks := .later }
def FnReaderFailsCardSaid : Prop := Claim7.holds Tryz.pinned (.plain (OpenSpec.ofChange fnReaderFailsSpec)) fnReaderFailsCard

/-- THE TIED CARD OF 'laws.FnStrictIsLoose'. -/
def fnStrictIsLooseCard : Claim7 := { stood := { row := fnStrictIsLooseRow, standIns := [], harness := (true, "defcdb7869296457cf0feeecc499ec1a5f9e4f4d2943fb56167c37b0be64c04e"), looks := true }, kinds := [], alts := [], laidByText := true, laidKinds := [.data, .data, .data, .data, .handle, .sentinel, .sentinel, .sentinel, .data, .data, .sentinel, .pinned, .pinned], laidTests := true, laidLooks := .later }
def FnStrictIsLooseCardSaid : Prop := Claim7.holds Tryz.pinned (.plain (OpenSpec.ofChange fnStrictIsLooseSpec)) fnStrictIsLooseCard

/-- THE TIED CARD OF 'laws.FnUnclosed'. -/
def fnUnclosedCard : Claim7 := { stood := { row := fnUnclosedRow, standIns := [], harness := (true, "defcdb7869296457cf0feeecc499ec1a5f9e4f4d2943fb56167c37b0be64c04e"), looks := true }, kinds := [], alts := [], laidByText := true, laidKinds := [.data, .data, .data, .data, .handle, .sentinel, .sentinel, .sentinel, .data, .data, .sentinel, .pinned, .pinned], laidTests := true, laidLooks := .later }
def FnUnclosedCardSaid : Prop := Claim7.holds Tryz.pinned (.plain (OpenSpec.ofChange fnUnclosedSpec)) fnUnclosedCard

/-- THE TIED CARD OF 'laws.FnWithin'. -/
def fnWithinCard : Claim7 := { stood := { row := fnWithinRow, standIns := [], harness := (true, "defcdb7869296457cf0feeecc499ec1a5f9e4f4d2943fb56167c37b0be64c04e"), looks := true }, kinds := [], alts := [], laidByText := true, laidKinds := [.data, .data, .data, .data, .handle, .sentinel, .sentinel, .sentinel, .data, .data, .sentinel, .pinned, .pinned], laidTests := true, laidLooks := .later }
def FnWithinCardSaid : Prop := Claim7.holds Tryz.pinned (.plain (OpenSpec.ofChange fnWithinSpec)) fnWithinCard

/-- THE TIED CARD OF 'laws.FnSkip'. -/
def fnSkipCard : Claim7 := { stood := { row := fnSkipRow, standIns := [], harness := (true, "defcdb7869296457cf0feeecc499ec1a5f9e4f4d2943fb56167c37b0be64c04e"), looks := true }, kinds := [], alts := [], laidByText := true, laidKinds := [.data, .data, .data, .data, .handle, .sentinel, .sentinel, .sentinel, .data, .data, .sentinel, .pinned, .pinned], laidTests := true, laidLooks := .later }
def FnSkipCardSaid : Prop := Claim7.holds Tryz.pinned (.plain (OpenSpec.ofChange fnSkipSpec)) fnSkipCard

/-- THE SECOND FORM's CARD OF 'laws.FnReaderFails'. -/
def fnReaderFailsUptoCard : Claim7 := { stood := { row := fnReaderFailsUptoRow, standIns := [], harness := (true, "defcdb7869296457cf0feeecc499ec1a5f9e4f4d2943fb56167c37b0be64c04e"), looks := true }, kinds := [], alts := [], laidByText := true, laidKinds := [.data, .data, .data, .data, .handle, .sentinel, .sentinel, .sentinel, .data, .data, .sentinel, .pinned, .pinned], laidTests := true, laidLooks := .later }
def FnReaderFailsUptoCardSaid : Prop := Claim7.holds Tryz.pinned (.plain (OpenSpec.upto fnReaderFailsSpec)) fnReaderFailsUptoCard

/-- THE SECOND FORM's CARD OF 'laws.FnStrictIsLoose'. -/
def fnStrictIsLooseUptoCard : Claim7 := { stood := { row := fnStrictIsLooseUptoRow, standIns := [], harness := (true, "defcdb7869296457cf0feeecc499ec1a5f9e4f4d2943fb56167c37b0be64c04e"), looks := true }, kinds := [], alts := [], laidByText := true, laidKinds := [.data, .data, .data, .data, .handle, .sentinel, .sentinel, .sentinel, .data, .data, .sentinel, .pinned, .pinned], laidTests := true, laidLooks := .later }
def FnStrictIsLooseUptoCardSaid : Prop := Claim7.holds Tryz.pinned (.plain (OpenSpec.upto fnStrictIsLooseSpec)) fnStrictIsLooseUptoCard

/-- THE SECOND FORM's CARD OF 'laws.FnUnclosed'. -/
def fnUnclosedUptoCard : Claim7 := { stood := { row := fnUnclosedUptoRow, standIns := [], harness := (true, "defcdb7869296457cf0feeecc499ec1a5f9e4f4d2943fb56167c37b0be64c04e"), looks := true }, kinds := [], alts := [], laidByText := true, laidKinds := [.data, .data, .data, .data, .handle, .sentinel, .sentinel, .sentinel, .data, .data, .sentinel, .pinned, .pinned], laidTests := true, laidLooks := .later }
def FnUnclosedUptoCardSaid : Prop := Claim7.holds Tryz.pinned (.plain (OpenSpec.upto fnUnclosedSpec)) fnUnclosedUptoCard

/-- THE SECOND FORM's CARD OF 'laws.FnWithin'. -/
def fnWithinUptoCard : Claim7 := { stood := { row := fnWithinUptoRow, standIns := [], harness := (true, "defcdb7869296457cf0feeecc499ec1a5f9e4f4d2943fb56167c37b0be64c04e"), looks := true }, kinds := [], alts := [], laidByText := true, laidKinds := [.data, .data, .data, .data, .handle, .sentinel, .sentinel, .sentinel, .data, .data, .sentinel, .pinned, .pinned], laidTests := true, laidLooks := .later }
def FnWithinUptoCardSaid : Prop := Claim7.holds Tryz.pinned (.plain (OpenSpec.upto fnWithinSpec)) fnWithinUptoCard

/-- THE SECOND FORM's CARD OF 'laws.FnSkip'. -/
def fnSkipUptoCard : Claim7 := { stood := { row := fnSkipUptoRow, standIns := [], harness := (true, "defcdb7869296457cf0feeecc499ec1a5f9e4f4d2943fb56167c37b0be64c04e"), looks := true }, kinds := [], alts := [], laidByText := true, laidKinds := [.data, .data, .data, .data, .handle, .sentinel, .sentinel, .sentinel, .data, .data, .sentinel, .pinned, .pinned], laidTests := true, laidLooks := .later }
def FnSkipUptoCardSaid : Prop := Claim7.holds Tryz.pinned (.plain (OpenSpec.upto fnSkipSpec)) fnSkipUptoCard
end Rows
end Go.Proofs.YthapcchcahnfaaaGreatDoor
