/-
  DERIVED. GIVEN WITH THE SEED: THE CARDS: each row of YtocbeoomhlgnkaaGreatDoorRows.lean that lists a variable, with what it lists TIED to the program's text (the seventh form; the later family's looks); each row that meets fmt, with fmt's text TOLD by the authors' own Lean function (tested against real Go, not proved from fmt's source: count such statements apart). THE CARD IS WHAT COUNTS. Prove the row's statement (the work); the ties are given (YtocbeoomhlgnkaaGreatDoorTie.lean); close each card by the builder's one call (the guide's Derived/Test/ToyasCard.lean, 'card_holds'). Laid BY PROGRAM, IN A SANDBOX (cutbox-door.mjs). By AI agents, Wed Nov 11 2026. No macro, syntax, notation, axiom, sorry.
-/
import Derived.Test.YtocbeoomhlgnkaaGreatDoorRows
import GoSem.ClaimSeven
namespace Go.Proofs.YtocbeoomhlgnkaaGreatDoor
namespace Rows

/-- THE TIED CARD OF 'laws.FnMidpoints32'. -/
def fnMidpoints32Card : Claim7 := { stood := { row := fnMidpoints32Row, standIns := [], harness := (true, "154e5580ca6663e1cab709ba19396878bcf3a0e8f43a8cdfc4f41b4148a0b190"), looks := true }, kinds := [], alts := [], laidByText := true, laidKinds := [.data, .data, .widerDeep, .widerDeep, .data, .data, .data, .data, .data, .sentinel, .sentinel, .pinned, .pinned], laidTests := true, laidLooks := .later }
def FnMidpoints32CardSaid : Prop := Claim7.holds Tryz.pinned (.plain (OpenSpec.ofChange fnMidpoints32Spec)) fnMidpoints32Card

/-- THE TIED CARD OF 'laws.FnMidpoints64'. -/
def fnMidpoints64Card : Claim7 := { stood := { row := fnMidpoints64Row, standIns := [], harness := (true, "154e5580ca6663e1cab709ba19396878bcf3a0e8f43a8cdfc4f41b4148a0b190"), looks := true }, kinds := [], alts := [], laidByText := true, laidKinds := [.data, .data, .widerDeep, .widerDeep, .data, .data, .data, .data, .data, .sentinel, .sentinel, .pinned, .pinned], laidTests := true, laidLooks := .later }
def FnMidpoints64CardSaid : Prop := Claim7.holds Tryz.pinned (.plain (OpenSpec.ofChange fnMidpoints64Spec)) fnMidpoints64Card

/-- THE TIED CARD OF 'laws.FnMonotone32'. -/
def fnMonotone32Card : Claim7 := { stood := { row := fnMonotone32Row, standIns := [], harness := (true, "154e5580ca6663e1cab709ba19396878bcf3a0e8f43a8cdfc4f41b4148a0b190"), looks := true }, kinds := [], alts := [], laidByText := true, laidKinds := [.data, .data, .widerDeep, .widerDeep, .data, .data, .data, .data, .data, .sentinel, .sentinel, .pinned, .pinned], laidTests := true, laidLooks := .later }
def FnMonotone32CardSaid : Prop := Claim7.holds Tryz.pinned (.plain (OpenSpec.ofChange fnMonotone32Spec)) fnMonotone32Card

/-- THE TIED CARD OF 'laws.FnMonotone64'. -/
def fnMonotone64Card : Claim7 := { stood := { row := fnMonotone64Row, standIns := [], harness := (true, "154e5580ca6663e1cab709ba19396878bcf3a0e8f43a8cdfc4f41b4148a0b190"), looks := true }, kinds := [], alts := [], laidByText := true, laidKinds := [.data, .data, .widerDeep, .widerDeep, .data, .data, .data, .data, .data, .sentinel, .sentinel, .pinned, .pinned], laidTests := true, laidLooks := .later }
def FnMonotone64CardSaid : Prop := Claim7.holds Tryz.pinned (.plain (OpenSpec.ofChange fnMonotone64Spec)) fnMonotone64Card

/-- THE TIED CARD OF 'laws.FnHexDecimal'. -/
def fnHexDecimalCard : Claim7 := { stood := { row := fnHexDecimalRow, standIns := [], harness := (true, "154e5580ca6663e1cab709ba19396878bcf3a0e8f43a8cdfc4f41b4148a0b190"), looks := true }, kinds := [], alts := [], laidByText := true, laidKinds := [.data, .data, .widerDeep, .widerDeep, .data, .data, .data, .data, .data, .sentinel, .sentinel, .pinned, .pinned], laidTests := true, laidLooks := .later }
def FnHexDecimalCardSaid : Prop := Claim7.holds Tryz.pinned (.plain (OpenSpec.ofChange fnHexDecimalSpec)) fnHexDecimalCard

/-- THE TIED CARD OF 'laws.FnHexMoved'. -/
def fnHexMovedCard : Claim7 := { stood := { row := fnHexMovedRow, standIns := [], harness := (true, "154e5580ca6663e1cab709ba19396878bcf3a0e8f43a8cdfc4f41b4148a0b190"), looks := true }, kinds := [], alts := [], laidByText := true, laidKinds := [.data, .data, .widerDeep, .widerDeep, .data, .data, .data, .data, .data, .sentinel, .sentinel, .pinned, .pinned], laidTests := true, laidLooks := .later }
def FnHexMovedCardSaid : Prop := Claim7.holds Tryz.pinned (.plain (OpenSpec.ofChange fnHexMovedSpec)) fnHexMovedCard

/-- THE TIED CARD OF 'laws.FnMinus'. -/
def fnMinusCard : Claim7 := { stood := { row := fnMinusRow, standIns := [], harness := (true, "154e5580ca6663e1cab709ba19396878bcf3a0e8f43a8cdfc4f41b4148a0b190"), looks := true }, kinds := [], alts := [], laidByText := true, laidKinds := [.data, .data, .widerDeep, .widerDeep, .data, .data, .data, .data, .data, .sentinel, .sentinel, .pinned, .pinned], laidTests := true, laidLooks := .later }
def FnMinusCardSaid : Prop := Claim7.holds Tryz.pinned (.plain (OpenSpec.ofChange fnMinusSpec)) fnMinusCard

/-- THE TIED CARD OF 'laws.FnPlus'. -/
def fnPlusCard : Claim7 := { stood := { row := fnPlusRow, standIns := [], harness := (true, "154e5580ca6663e1cab709ba19396878bcf3a0e8f43a8cdfc4f41b4148a0b190"), looks := true }, kinds := [], alts := [], laidByText := true, laidKinds := [.data, .data, .widerDeep, .widerDeep, .data, .data, .data, .data, .data, .sentinel, .sentinel, .pinned, .pinned], laidTests := true, laidLooks := .later }
def FnPlusCardSaid : Prop := Claim7.holds Tryz.pinned (.plain (OpenSpec.ofChange fnPlusSpec)) fnPlusCard

/-- THE TIED CARD OF 'laws.FnPointMoved'. -/
def fnPointMovedCard : Claim7 := { stood := { row := fnPointMovedRow, standIns := [], harness := (true, "154e5580ca6663e1cab709ba19396878bcf3a0e8f43a8cdfc4f41b4148a0b190"), looks := true }, kinds := [], alts := [], laidByText := true, laidKinds := [.data, .data, .widerDeep, .widerDeep, .data, .data, .data, .data, .data, .sentinel, .sentinel, .pinned, .pinned], laidTests := true, laidLooks := .later }
def FnPointMovedCardSaid : Prop := Claim7.holds Tryz.pinned (.plain (OpenSpec.ofChange fnPointMovedSpec)) fnPointMovedCard

/-- THE TIED CARD OF 'laws.FnSyntaxZero'. -/
def fnSyntaxZeroCard : Claim7 := { stood := { row := fnSyntaxZeroRow, standIns := [], harness := (true, "154e5580ca6663e1cab709ba19396878bcf3a0e8f43a8cdfc4f41b4148a0b190"), looks := true }, kinds := [], alts := [], laidByText := true, laidKinds := [.data, .data, .widerDeep, .widerDeep, .data, .data, .data, .data, .data, .sentinel, .sentinel, .pinned, .pinned], laidTests := true, laidLooks := .later }
def FnSyntaxZeroCardSaid : Prop := Claim7.holds Tryz.pinned (.plain (OpenSpec.ofChange fnSyntaxZeroSpec)) fnSyntaxZeroCard

/-- THE TIED CARD OF 'laws.FnZeros'. -/
def fnZerosCard : Claim7 := { stood := { row := fnZerosRow, standIns := [], harness := (true, "154e5580ca6663e1cab709ba19396878bcf3a0e8f43a8cdfc4f41b4148a0b190"), looks := true }, kinds := [], alts := [], laidByText := true, laidKinds := [.data, .data, .widerDeep, .widerDeep, .data, .data, .data, .data, .data, .sentinel, .sentinel, .pinned, .pinned], laidTests := true, laidLooks := .later }
def FnZerosCardSaid : Prop := Claim7.holds Tryz.pinned (.plain (OpenSpec.ofChange fnZerosSpec)) fnZerosCard

/-- THE SECOND FORM's CARD OF 'laws.FnMidpoints32'. -/
def fnMidpoints32UptoCard : Claim7 := { stood := { row := fnMidpoints32UptoRow, standIns := [], harness := (true, "154e5580ca6663e1cab709ba19396878bcf3a0e8f43a8cdfc4f41b4148a0b190"), looks := true }, kinds := [], alts := [], laidByText := true, laidKinds := [.data, .data, .widerDeep, .widerDeep, .data, .data, .data, .data, .data, .sentinel, .sentinel, .pinned, .pinned], laidTests := true, laidLooks := .later }
def FnMidpoints32UptoCardSaid : Prop := Claim7.holds Tryz.pinned (.plain (OpenSpec.upto fnMidpoints32Spec)) fnMidpoints32UptoCard

/-- THE SECOND FORM's CARD OF 'laws.FnMidpoints64'. -/
def fnMidpoints64UptoCard : Claim7 := { stood := { row := fnMidpoints64UptoRow, standIns := [], harness := (true, "154e5580ca6663e1cab709ba19396878bcf3a0e8f43a8cdfc4f41b4148a0b190"), looks := true }, kinds := [], alts := [], laidByText := true, laidKinds := [.data, .data, .widerDeep, .widerDeep, .data, .data, .data, .data, .data, .sentinel, .sentinel, .pinned, .pinned], laidTests := true, laidLooks := .later }
def FnMidpoints64UptoCardSaid : Prop := Claim7.holds Tryz.pinned (.plain (OpenSpec.upto fnMidpoints64Spec)) fnMidpoints64UptoCard

/-- THE SECOND FORM's CARD OF 'laws.FnMonotone32'. -/
def fnMonotone32UptoCard : Claim7 := { stood := { row := fnMonotone32UptoRow, standIns := [], harness := (true, "154e5580ca6663e1cab709ba19396878bcf3a0e8f43a8cdfc4f41b4148a0b190"), looks := true }, kinds := [], alts := [], laidByText := true, laidKinds := [.data, .data, .widerDeep, .widerDeep, .data, .data, .data, .data, .data, .sentinel, .sentinel, .pinned, .pinned], laidTests := true, laidLooks := .later }
def FnMonotone32UptoCardSaid : Prop := Claim7.holds Tryz.pinned (.plain (OpenSpec.upto fnMonotone32Spec)) fnMonotone32UptoCard

/-- THE SECOND FORM's CARD OF 'laws.FnMonotone64'. -/
def fnMonotone64UptoCard : Claim7 := { stood := { row := fnMonotone64UptoRow, standIns := [], harness := (true, "154e5580ca6663e1cab709ba19396878bcf3a0e8f43a8cdfc4f41b4148a0b190"), looks := true }, kinds := [], alts := [], laidByText := true, laidKinds := [.data, .data, .widerDeep, .widerDeep, .data, .data, .data, .data, .data, .sentinel, .sentinel, .pinned, .pinned], laidTests := true, laidLooks := .later }
def FnMonotone64UptoCardSaid : Prop := Claim7.holds Tryz.pinned (.plain (OpenSpec.upto fnMonotone64Spec)) fnMonotone64UptoCard

/-- THE SECOND FORM's CARD OF 'laws.FnHexDecimal'. -/
def fnHexDecimalUptoCard : Claim7 := { stood := { row := fnHexDecimalUptoRow, standIns := [], harness := (true, "154e5580ca6663e1cab709ba19396878bcf3a0e8f43a8cdfc4f41b4148a0b190"), looks := true }, kinds := [], alts := [], laidByText := true, laidKinds := [.data, .data, .widerDeep, .widerDeep, .data, .data, .data, .data, .data, .sentinel, .sentinel, .pinned, .pinned], laidTests := true, laidLooks := .later }
def FnHexDecimalUptoCardSaid : Prop := Claim7.holds Tryz.pinned (.plain (OpenSpec.upto fnHexDecimalSpec)) fnHexDecimalUptoCard

/-- THE SECOND FORM's CARD OF 'laws.FnHexMoved'. -/
def fnHexMovedUptoCard : Claim7 := { stood := { row := fnHexMovedUptoRow, standIns := [], harness := (true, "154e5580ca6663e1cab709ba19396878bcf3a0e8f43a8cdfc4f41b4148a0b190"), looks := true }, kinds := [], alts := [], laidByText := true, laidKinds := [.data, .data, .widerDeep, .widerDeep, .data, .data, .data, .data, .data, .sentinel, .sentinel, .pinned, .pinned], laidTests := true, laidLooks := .later }
def FnHexMovedUptoCardSaid : Prop := Claim7.holds Tryz.pinned (.plain (OpenSpec.upto fnHexMovedSpec)) fnHexMovedUptoCard

/-- THE SECOND FORM's CARD OF 'laws.FnMinus'. -/
def fnMinusUptoCard : Claim7 := { stood := { row := fnMinusUptoRow, standIns := [], harness := (true, "154e5580ca6663e1cab709ba19396878bcf3a0e8f43a8cdfc4f41b4148a0b190"), looks := true }, kinds := [], alts := [], laidByText := true, laidKinds := [.data, .data, .widerDeep, .widerDeep, .data, .data, .data, .data, .data, .sentinel, .sentinel, .pinned, .pinned], laidTests := true, laidLooks := .later }
def FnMinusUptoCardSaid : Prop := Claim7.holds Tryz.pinned (.plain (OpenSpec.upto fnMinusSpec)) fnMinusUptoCard

/-- THE SECOND FORM's CARD OF 'laws.FnPlus'. -/
def fnPlusUptoCard : Claim7 := { stood := { row := fnPlusUptoRow, standIns := [], harness := (true, "154e5580ca6663e1cab709ba19396878bcf3a0e8f43a8cdfc4f41b4148a0b190"), looks := true }, kinds := [], alts := [], laidByText := true, laidKinds := [.data, .data, .widerDeep, .widerDeep, .data, .data, .data, .data, .data, .sentinel, .sentinel, .pinned, .pinned], laidTests := true, laidLooks := .later }
def FnPlusUptoCardSaid : Prop := Claim7.holds Tryz.pinned (.plain (OpenSpec.upto fnPlusSpec)) fnPlusUptoCard

/-- THE SECOND FORM's CARD OF 'laws.FnPointMoved'. -/
def fnPointMovedUptoCard : Claim7 := { stood := { row := fnPointMovedUptoRow, standIns := [], harness := (true, "154e5580ca6663e1cab709ba19396878bcf3a0e8f43a8cdfc4f41b4148a0b190"), looks := true }, kinds := [], alts := [], laidByText := true, laidKinds := [.data, .data, .widerDeep, .widerDeep, .data, .data, .data, .data, .data, .sentinel, .sentinel, .pinned, .pinned], laidTests := true, laidLooks := .later }
def FnPointMovedUptoCardSaid : Prop := Claim7.holds Tryz.pinned (.plain (OpenSpec.upto fnPointMovedSpec)) fnPointMovedUptoCard

/-- THE SECOND FORM's CARD OF 'laws.FnSyntaxZero'. -/
def fnSyntaxZeroUptoCard : Claim7 := { stood := { row := fnSyntaxZeroUptoRow, standIns := [], harness := (true, "154e5580ca6663e1cab709ba19396878bcf3a0e8f43a8cdfc4f41b4148a0b190"), looks := true }, kinds := [], alts := [], laidByText := true, laidKinds := [.data, .data, .widerDeep, .widerDeep, .data, .data, .data, .data, .data, .sentinel, .sentinel, .pinned, .pinned], laidTests := true, laidLooks := .later }
def FnSyntaxZeroUptoCardSaid : Prop := Claim7.holds Tryz.pinned (.plain (OpenSpec.upto fnSyntaxZeroSpec)) fnSyntaxZeroUptoCard

/-- THE SECOND FORM's CARD OF 'laws.FnZeros'. -/
def fnZerosUptoCard : Claim7 := { stood := { row := fnZerosUptoRow, standIns := [], harness := (true, "154e5580ca6663e1cab709ba19396878bcf3a0e8f43a8cdfc4f41b4148a0b190"), looks := true }, kinds := [], alts := [], laidByText := true, laidKinds := [.data, .data, .widerDeep, .widerDeep, .data, .data, .data, .data, .data, .sentinel, .sentinel, .pinned, .pinned], laidTests := true, laidLooks := .later }
def FnZerosUptoCardSaid : Prop := Claim7.holds Tryz.pinned (.plain (OpenSpec.upto fnZerosSpec)) fnZerosUptoCard
end Rows
end Go.Proofs.YtocbeoomhlgnkaaGreatDoor
