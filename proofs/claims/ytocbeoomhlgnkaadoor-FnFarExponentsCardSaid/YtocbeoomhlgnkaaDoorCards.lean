/-
  DERIVED. GIVEN WITH THE SEED: THE CARDS: each row of YtocbeoomhlgnkaaDoorRows.lean that lists a variable, with what it lists TIED to the program's text (the seventh form; the later family's looks); each row that meets fmt, with fmt's text TOLD by the authors' own Lean function (tested against real Go, not proved from fmt's source: count such statements apart). THE CARD IS WHAT COUNTS. Prove the row's statement (the work); the ties are given (YtocbeoomhlgnkaaDoorTie.lean); close each card by the builder's one call (the guide's Derived/Test/ToyasCard.lean, 'card_holds'). Laid BY PROGRAM, IN A SANDBOX (cutbox-door.mjs). By AI agents, Wed Nov 11 2026. No macro, syntax, notation, axiom, sorry.
-/
import Derived.Test.YtocbeoomhlgnkaaDoorRows
import GoSem.ClaimSeven
namespace Go.Proofs.YtocbeoomhlgnkaaDoor
namespace Rows

/-- THE TIED CARD OF 'laws.FnFarExponents'. -/
def fnFarExponentsCard : Claim7 := { stood := { row := fnFarExponentsRow, standIns := [], harness := (true, "35bd054385c8c80587f3d85d6359a1300ffcbf0c02950f6e8e3c108a34827e29"), looks := true }, kinds := [], alts := [], laidByText := true, laidKinds := [.data, .data, .widerDeep, .widerDeep, .data, .data, .data, .data, .data, .sentinel, .sentinel, .pinned, .pinned], laidTests := true, laidLooks := .later }
def FnFarExponentsCardSaid : Prop := Claim7.holds Tryd.pinned (.plain (OpenSpec.ofChange fnFarExponentsSpec)) fnFarExponentsCard

/-- THE SECOND FORM's CARD OF 'laws.FnFarExponents'. -/
def fnFarExponentsUptoCard : Claim7 := { stood := { row := fnFarExponentsUptoRow, standIns := [], harness := (true, "35bd054385c8c80587f3d85d6359a1300ffcbf0c02950f6e8e3c108a34827e29"), looks := true }, kinds := [], alts := [], laidByText := true, laidKinds := [.data, .data, .widerDeep, .widerDeep, .data, .data, .data, .data, .data, .sentinel, .sentinel, .pinned, .pinned], laidTests := true, laidLooks := .later }
def FnFarExponentsUptoCardSaid : Prop := Claim7.holds Tryd.pinned (.plain (OpenSpec.upto fnFarExponentsSpec)) fnFarExponentsUptoCard
end Rows
end Go.Proofs.YtocbeoomhlgnkaaDoor
