/-
  DERIVED. GIVEN WITH THE SEED: THE CARDS: each row of YtgfjdeddghbjcaaGreatDoorRows.lean that lists a variable, with what it lists TIED to the program's text (the seventh form; the later family's looks); each row that meets fmt, with fmt's text TOLD by the authors' own Lean function (tested against real Go, not proved from fmt's source: count such statements apart). THE CARD IS WHAT COUNTS. Prove the row's statement (the work); the ties are given (YtgfjdeddghbjcaaGreatDoorTie.lean); close each card by the builder's one call (the guide's Derived/Test/ToyasCard.lean, 'card_holds'). Laid BY PROGRAM, IN A SANDBOX (cutbox-door.mjs). By AI agents, Wed Nov 11 2026. No macro, syntax, notation, axiom, sorry.
-/
import Derived.Test.YtgfjdeddghbjcaaGreatDoorRows
import GoSem.ClaimSeven
namespace Go.Proofs.YtgfjdeddghbjcaaGreatDoor
namespace Rows

/-- THE TIED CARD OF 'laws.FnShortTies'. -/
def fnShortTiesCard : Claim7 := { stood := { row := fnShortTiesRow, standIns := [], harness := (true, "68d71b3e7205d00a0afef814bebf73d9cf18a0f652a031273971f1e10c3ab626"), looks := true }, kinds := [], alts := [], laidByText := true, laidKinds := [.data, .data, .widerDeep, .widerDeep, .data, .data, .data, .data, .data, .sentinel, .sentinel, .pinned, .pinned], laidTests := true, laidLooks := .later }
def FnShortTiesCardSaid : Prop := Claim7.holds Tryz.pinned (.plain (OpenSpec.ofChange fnShortTiesSpec)) fnShortTiesCard

/-- THE SECOND FORM's CARD OF 'laws.FnShortTies'. -/
def fnShortTiesUptoCard : Claim7 := { stood := { row := fnShortTiesUptoRow, standIns := [], harness := (true, "68d71b3e7205d00a0afef814bebf73d9cf18a0f652a031273971f1e10c3ab626"), looks := true }, kinds := [], alts := [], laidByText := true, laidKinds := [.data, .data, .widerDeep, .widerDeep, .data, .data, .data, .data, .data, .sentinel, .sentinel, .pinned, .pinned], laidTests := true, laidLooks := .later }
def FnShortTiesUptoCardSaid : Prop := Claim7.holds Tryz.pinned (.plain (OpenSpec.upto fnShortTiesSpec)) fnShortTiesUptoCard
end Rows
end Go.Proofs.YtgfjdeddghbjcaaGreatDoor
