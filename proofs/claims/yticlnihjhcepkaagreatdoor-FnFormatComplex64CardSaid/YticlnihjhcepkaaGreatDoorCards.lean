/-
  DERIVED. GIVEN WITH THE SEED: THE CARDS: each row of YticlnihjhcepkaaGreatDoorRows.lean that lists a variable, with what it lists TIED to the program's text (the seventh form; the later family's looks); each row that meets fmt, with fmt's text TOLD by the authors' own Lean function (tested against real Go, not proved from fmt's source: count such statements apart). THE CARD IS WHAT COUNTS. Prove the row's statement (the work); the ties are given (YticlnihjhcepkaaGreatDoorTie.lean); close each card by the builder's one call (the guide's Derived/Test/ToyasCard.lean, 'card_holds'). Laid BY PROGRAM, IN A SANDBOX (cutbox-door.mjs). By AI agents, Wed Nov 11 2026. No macro, syntax, notation, axiom, sorry.
-/
import Derived.Test.YticlnihjhcepkaaGreatDoorRows
import GoSem.ClaimSeven
namespace Go.Proofs.YticlnihjhcepkaaGreatDoor
namespace Rows

/-- THE TIED CARD OF 'laws.FnFormatComplex128'. -/
def fnFormatComplex128Card : Claim7 := { stood := { row := fnFormatComplex128Row, standIns := [], harness := (true, "27e6e8fb33f1c34bcbc8bb696f5ec42719ae3b379801b352928679310691c167"), looks := true }, kinds := [], alts := [], laidByText := true, laidKinds := [.data, .data, .data, .data, .pinned, .pinned], laidTests := true, laidLooks := .later }
def FnFormatComplex128CardSaid : Prop := Claim7.holds Tryz.pinned (.plain (OpenSpec.ofChange fnFormatComplex128Spec)) fnFormatComplex128Card

/-- THE TIED CARD OF 'laws.FnFormatComplex64'. -/
def fnFormatComplex64Card : Claim7 := { stood := { row := fnFormatComplex64Row, standIns := [], harness := (true, "27e6e8fb33f1c34bcbc8bb696f5ec42719ae3b379801b352928679310691c167"), looks := true }, kinds := [], alts := [], laidByText := true, laidKinds := [.data, .data, .data, .data, .pinned, .pinned], laidTests := true, laidLooks := .later }
def FnFormatComplex64CardSaid : Prop := Claim7.holds Tryz.pinned (.plain (OpenSpec.ofChange fnFormatComplex64Spec)) fnFormatComplex64Card

/-- THE TIED CARD OF 'laws.FnParse64'. -/
def fnParse64Card : Claim7 := { stood := { row := fnParse64Row, standIns := [], harness := (true, "27e6e8fb33f1c34bcbc8bb696f5ec42719ae3b379801b352928679310691c167"), looks := true }, kinds := [], alts := [], laidByText := true, laidKinds := [.data, .data, .widerDeep, .widerDeep, .data, .data, .data, .data, .data, .sentinel, .sentinel, .pinned, .pinned], laidTests := true, laidLooks := .later }
def FnParse64CardSaid : Prop := Claim7.holds Tryz.pinned (.plain (OpenSpec.ofChange fnParse64Spec)) fnParse64Card

/-- THE TIED CARD OF 'laws.FnParse32'. -/
def fnParse32Card : Claim7 := { stood := { row := fnParse32Row, standIns := [], harness := (true, "27e6e8fb33f1c34bcbc8bb696f5ec42719ae3b379801b352928679310691c167"), looks := true }, kinds := [], alts := [], laidByText := true, laidKinds := [.data, .data, .widerDeep, .widerDeep, .data, .data, .data, .data, .data, .sentinel, .sentinel, .pinned, .pinned], laidTests := true, laidLooks := .later }
def FnParse32CardSaid : Prop := Claim7.holds Tryz.pinned (.plain (OpenSpec.ofChange fnParse32Spec)) fnParse32Card

/-- THE TIED CARD OF 'laws.FnSyntaxZero'. -/
def fnSyntaxZeroCard : Claim7 := { stood := { row := fnSyntaxZeroRow, standIns := [], harness := (true, "27e6e8fb33f1c34bcbc8bb696f5ec42719ae3b379801b352928679310691c167"), looks := true }, kinds := [], alts := [], laidByText := true, laidKinds := [.data, .data, .widerDeep, .widerDeep, .data, .data, .data, .data, .data, .sentinel, .sentinel, .pinned, .pinned], laidTests := true, laidLooks := .later }
def FnSyntaxZeroCardSaid : Prop := Claim7.holds Tryz.pinned (.plain (OpenSpec.ofChange fnSyntaxZeroSpec)) fnSyntaxZeroCard

/-- THE TIED CARD OF 'laws.FnTies'. -/
def fnTiesCard : Claim7 := { stood := { row := fnTiesRow, standIns := [], harness := (true, "27e6e8fb33f1c34bcbc8bb696f5ec42719ae3b379801b352928679310691c167"), looks := true }, kinds := [], alts := [], laidByText := true, laidKinds := [.data, .data, .widerDeep, .widerDeep, .data, .data, .data, .data, .data, .sentinel, .sentinel, .pinned, .pinned], laidTests := true, laidLooks := .later }
def FnTiesCardSaid : Prop := Claim7.holds Tryz.pinned (.plain (OpenSpec.ofChange fnTiesSpec)) fnTiesCard

/-- THE TIED CARD OF 'laws.FnConvertible32'. -/
def fnConvertible32Card : Claim7 := { stood := { row := fnConvertible32Row, standIns := [], harness := (true, "27e6e8fb33f1c34bcbc8bb696f5ec42719ae3b379801b352928679310691c167"), looks := true }, kinds := [], alts := [], laidByText := true, laidKinds := [.data, .data, .widerDeep, .widerDeep, .data, .data, .data, .data, .data, .sentinel, .sentinel, .pinned, .pinned], laidTests := true, laidLooks := .later }
def FnConvertible32CardSaid : Prop := Claim7.holds Tryz.pinned (.plain (OpenSpec.ofChange fnConvertible32Spec)) fnConvertible32Card

/-- THE SECOND FORM's CARD OF 'laws.FnFormatComplex128'. -/
def fnFormatComplex128UptoCard : Claim7 := { stood := { row := fnFormatComplex128UptoRow, standIns := [], harness := (true, "27e6e8fb33f1c34bcbc8bb696f5ec42719ae3b379801b352928679310691c167"), looks := true }, kinds := [], alts := [], laidByText := true, laidKinds := [.data, .data, .data, .data, .pinned, .pinned], laidTests := true, laidLooks := .later }
def FnFormatComplex128UptoCardSaid : Prop := Claim7.holds Tryz.pinned (.plain (OpenSpec.upto fnFormatComplex128Spec)) fnFormatComplex128UptoCard

/-- THE SECOND FORM's CARD OF 'laws.FnFormatComplex64'. -/
def fnFormatComplex64UptoCard : Claim7 := { stood := { row := fnFormatComplex64UptoRow, standIns := [], harness := (true, "27e6e8fb33f1c34bcbc8bb696f5ec42719ae3b379801b352928679310691c167"), looks := true }, kinds := [], alts := [], laidByText := true, laidKinds := [.data, .data, .data, .data, .pinned, .pinned], laidTests := true, laidLooks := .later }
def FnFormatComplex64UptoCardSaid : Prop := Claim7.holds Tryz.pinned (.plain (OpenSpec.upto fnFormatComplex64Spec)) fnFormatComplex64UptoCard

/-- THE SECOND FORM's CARD OF 'laws.FnParse64'. -/
def fnParse64UptoCard : Claim7 := { stood := { row := fnParse64UptoRow, standIns := [], harness := (true, "27e6e8fb33f1c34bcbc8bb696f5ec42719ae3b379801b352928679310691c167"), looks := true }, kinds := [], alts := [], laidByText := true, laidKinds := [.data, .data, .widerDeep, .widerDeep, .data, .data, .data, .data, .data, .sentinel, .sentinel, .pinned, .pinned], laidTests := true, laidLooks := .later }
def FnParse64UptoCardSaid : Prop := Claim7.holds Tryz.pinned (.plain (OpenSpec.upto fnParse64Spec)) fnParse64UptoCard

/-- THE SECOND FORM's CARD OF 'laws.FnParse32'. -/
def fnParse32UptoCard : Claim7 := { stood := { row := fnParse32UptoRow, standIns := [], harness := (true, "27e6e8fb33f1c34bcbc8bb696f5ec42719ae3b379801b352928679310691c167"), looks := true }, kinds := [], alts := [], laidByText := true, laidKinds := [.data, .data, .widerDeep, .widerDeep, .data, .data, .data, .data, .data, .sentinel, .sentinel, .pinned, .pinned], laidTests := true, laidLooks := .later }
def FnParse32UptoCardSaid : Prop := Claim7.holds Tryz.pinned (.plain (OpenSpec.upto fnParse32Spec)) fnParse32UptoCard

/-- THE SECOND FORM's CARD OF 'laws.FnSyntaxZero'. -/
def fnSyntaxZeroUptoCard : Claim7 := { stood := { row := fnSyntaxZeroUptoRow, standIns := [], harness := (true, "27e6e8fb33f1c34bcbc8bb696f5ec42719ae3b379801b352928679310691c167"), looks := true }, kinds := [], alts := [], laidByText := true, laidKinds := [.data, .data, .widerDeep, .widerDeep, .data, .data, .data, .data, .data, .sentinel, .sentinel, .pinned, .pinned], laidTests := true, laidLooks := .later }
def FnSyntaxZeroUptoCardSaid : Prop := Claim7.holds Tryz.pinned (.plain (OpenSpec.upto fnSyntaxZeroSpec)) fnSyntaxZeroUptoCard

/-- THE SECOND FORM's CARD OF 'laws.FnTies'. -/
def fnTiesUptoCard : Claim7 := { stood := { row := fnTiesUptoRow, standIns := [], harness := (true, "27e6e8fb33f1c34bcbc8bb696f5ec42719ae3b379801b352928679310691c167"), looks := true }, kinds := [], alts := [], laidByText := true, laidKinds := [.data, .data, .widerDeep, .widerDeep, .data, .data, .data, .data, .data, .sentinel, .sentinel, .pinned, .pinned], laidTests := true, laidLooks := .later }
def FnTiesUptoCardSaid : Prop := Claim7.holds Tryz.pinned (.plain (OpenSpec.upto fnTiesSpec)) fnTiesUptoCard

/-- THE SECOND FORM's CARD OF 'laws.FnConvertible32'. -/
def fnConvertible32UptoCard : Claim7 := { stood := { row := fnConvertible32UptoRow, standIns := [], harness := (true, "27e6e8fb33f1c34bcbc8bb696f5ec42719ae3b379801b352928679310691c167"), looks := true }, kinds := [], alts := [], laidByText := true, laidKinds := [.data, .data, .widerDeep, .widerDeep, .data, .data, .data, .data, .data, .sentinel, .sentinel, .pinned, .pinned], laidTests := true, laidLooks := .later }
def FnConvertible32UptoCardSaid : Prop := Claim7.holds Tryz.pinned (.plain (OpenSpec.upto fnConvertible32Spec)) fnConvertible32UptoCard
end Rows
end Go.Proofs.YticlnihjhcepkaaGreatDoor
