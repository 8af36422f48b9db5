/-
  DERIVED. GIVEN WITH THE SEED: THE CARDS: each row of YtnifedmhgncioaaDoorRows.lean that lists a variable, with what it lists TIED to the program's text (the seventh form; the later family's looks); each row that meets fmt, with fmt's text TOLD by the authors' own Lean function (tested against real Go, not proved from fmt's source: count such statements apart). THE CARD IS WHAT COUNTS. Prove the row's statement (the work); the ties are given (YtnifedmhgncioaaDoorTie.lean); close each card by the builder's one call (the guide's Derived/Test/ToyasCard.lean, 'card_holds'). Laid BY PROGRAM, IN A SANDBOX (cutbox-door.mjs). By AI agents, Wed Nov 11 2026. No macro, syntax, notation, axiom, sorry.
-/
import Derived.Test.YtnifedmhgncioaaDoorRows
import GoSem.ClaimSeven
namespace Go.Proofs.YtnifedmhgncioaaDoor
namespace Rows

/-- THE TIED CARD OF 'laws.FnSpecialNames'. -/
def fnSpecialNamesCard : Claim7 := { stood := { row := fnSpecialNamesRow, standIns := [], harness := (true, "c33c63d2c9425c7be7c004ca5b4a7c07b105d94ef62272293292a9642779f72e"), looks := true }, kinds := [], alts := [], laidByText := true, laidKinds := [.data, .data, .widerDeep, .widerDeep, .data, .data, .data, .data, .data, .sentinel, .sentinel, .pinned, .pinned], laidTests := true, laidLooks := .later }
def FnSpecialNamesCardSaid : Prop := Claim7.holds Tryd.pinned (.plain (OpenSpec.ofChange fnSpecialNamesSpec)) fnSpecialNamesCard

/-- THE SECOND FORM's CARD OF 'laws.FnSpecialNames'. -/
def fnSpecialNamesUptoCard : Claim7 := { stood := { row := fnSpecialNamesUptoRow, standIns := [], harness := (true, "c33c63d2c9425c7be7c004ca5b4a7c07b105d94ef62272293292a9642779f72e"), looks := true }, kinds := [], alts := [], laidByText := true, laidKinds := [.data, .data, .widerDeep, .widerDeep, .data, .data, .data, .data, .data, .sentinel, .sentinel, .pinned, .pinned], laidTests := true, laidLooks := .later }
def FnSpecialNamesUptoCardSaid : Prop := Claim7.holds Tryd.pinned (.plain (OpenSpec.upto fnSpecialNamesSpec)) fnSpecialNamesUptoCard
end Rows
end Go.Proofs.YtnifedmhgncioaaDoor
