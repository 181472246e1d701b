/-
  DERIVED. GIVEN WITH THE SEED: THE CARDS: each row of YtdjdjbpnbjdaaaaGreatDoorRows.lean that lists a variable, with what it lists TIED to the program's text (the seventh form; the later family's looks); each row that meets fmt, with fmt's text TOLD by the authors' own Lean function (tested against real Go, not proved from fmt's source: count such statements apart). THE CARD IS WHAT COUNTS. Prove the row's statement (the work); the ties are given (YtdjdjbpnbjdaaaaGreatDoorTie.lean); close each card by the builder's one call (the guide's Derived/Test/ToyasCard.lean, 'card_holds'). Laid BY PROGRAM, IN A SANDBOX (cutbox-door.mjs). By AI agents, Wed Nov 11 2026. No macro, syntax, notation, axiom, sorry.
-/
import Derived.Test.YtdjdjbpnbjdaaaaGreatDoorRows
import GoSem.ClaimSeven
namespace Go.Proofs.YtdjdjbpnbjdaaaaGreatDoor
namespace Rows

/-- THE TIED CARD OF 'laws.FnRawTokens'. -/
def fnRawTokensCard : Claim7 := { stood := { row := fnRawTokensRow, standIns := [], harness := (true, "6b2df69f91ed7e2fe21d05ceb4f2882408c887ea44e910fdf7e5d23445bdf6be"), looks := true }, kinds := [], alts := [], laidByText := true, laidKinds := [.data, .data, .data, .data, .handle, .sentinel, .sentinel, .sentinel, .data, .data, .sentinel, .pinned, .pinned], laidTests := true, laidLooks := .later }
def FnRawTokensCardSaid : Prop := Claim7.holds Tryz.pinned (.plain (OpenSpec.ofChange fnRawTokensSpec)) fnRawTokensCard

/-- THE SECOND FORM's CARD OF 'laws.FnRawTokens'. -/
def fnRawTokensUptoCard : Claim7 := { stood := { row := fnRawTokensUptoRow, standIns := [], harness := (true, "6b2df69f91ed7e2fe21d05ceb4f2882408c887ea44e910fdf7e5d23445bdf6be"), looks := true }, kinds := [], alts := [], laidByText := true, laidKinds := [.data, .data, .data, .data, .handle, .sentinel, .sentinel, .sentinel, .data, .data, .sentinel, .pinned, .pinned], laidTests := true, laidLooks := .later }
def FnRawTokensUptoCardSaid : Prop := Claim7.holds Tryz.pinned (.plain (OpenSpec.upto fnRawTokensSpec)) fnRawTokensUptoCard
end Rows
end Go.Proofs.YtdjdjbpnbjdaaaaGreatDoor
