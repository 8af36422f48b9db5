/-
  DERIVED. GIVEN WITH THE SEED: THE CARDS: each row of YtoacbkokkkpofaaGreatDoorRows.lean that lists a variable, with what it lists TIED to the program's text (the seventh form; the later family's looks); each row that meets fmt, with fmt's text TOLD by the authors' own Lean function (tested against real Go, not proved from fmt's source: count such statements apart). THE CARD IS WHAT COUNTS. Prove the row's statement (the work); the ties are given (YtoacbkokkkpofaaGreatDoorTie.lean); close each card by the builder's one call (the guide's Derived/Test/ToyasCard.lean, 'card_holds'). Laid BY PROGRAM, IN A SANDBOX (cutbox-door.mjs). By AI agents, Wed Nov 11 2026. No macro, syntax, notation, axiom, sorry.
-/
import Derived.Test.YtoacbkokkkpofaaGreatDoorRows
import GoSem.ClaimSeven
namespace Go.Proofs.YtoacbkokkkpofaaGreatDoor
namespace Rows

/-- THE TIED CARD OF 'laws.FnComplex128'. -/
def fnComplex128Card : Claim7 := { stood := { row := fnComplex128Row, standIns := [], harness := (true, "2195efa08fdaa5a7e6e57b50f79e182e14926f6d289f2bef146e464f0e0fa14b"), looks := true }, kinds := [], alts := [], laidByText := true, laidKinds := [.data, .data, .widerDeep, .widerDeep, .data, .data, .data, .data, .data, .sentinel, .sentinel, .pinned, .pinned], laidTests := true, laidLooks := .later }
def FnComplex128CardSaid : Prop := Claim7.holds Tryz.pinned (.plain (OpenSpec.ofChange fnComplex128Spec)) fnComplex128Card

/-- THE TIED CARD OF 'laws.FnComplex64'. -/
def fnComplex64Card : Claim7 := { stood := { row := fnComplex64Row, standIns := [], harness := (true, "2195efa08fdaa5a7e6e57b50f79e182e14926f6d289f2bef146e464f0e0fa14b"), looks := true }, kinds := [], alts := [], laidByText := true, laidKinds := [.data, .data, .widerDeep, .widerDeep, .data, .data, .data, .data, .data, .sentinel, .sentinel, .pinned, .pinned], laidTests := true, laidLooks := .later }
def FnComplex64CardSaid : Prop := Claim7.holds Tryz.pinned (.plain (OpenSpec.ofChange fnComplex64Spec)) fnComplex64Card

/-- THE TIED CARD OF 'laws.FnComplexParts'. -/
def fnComplexPartsCard : Claim7 := { stood := { row := fnComplexPartsRow, standIns := [], harness := (true, "2195efa08fdaa5a7e6e57b50f79e182e14926f6d289f2bef146e464f0e0fa14b"), looks := true }, kinds := [], alts := [], laidByText := true, laidKinds := [.data, .data, .widerDeep, .widerDeep, .data, .data, .data, .data, .data, .sentinel, .sentinel, .pinned, .pinned], laidTests := true, laidLooks := .later }
def FnComplexPartsCardSaid : Prop := Claim7.holds Tryz.pinned (.plain (OpenSpec.ofChange fnComplexPartsSpec)) fnComplexPartsCard

/-- THE TIED CARD OF 'laws.FnComplexParts32'. -/
def fnComplexParts32Card : Claim7 := { stood := { row := fnComplexParts32Row, standIns := [], harness := (true, "2195efa08fdaa5a7e6e57b50f79e182e14926f6d289f2bef146e464f0e0fa14b"), looks := true }, kinds := [], alts := [], laidByText := true, laidKinds := [.data, .data, .widerDeep, .widerDeep, .data, .data, .data, .data, .data, .sentinel, .sentinel, .pinned, .pinned], laidTests := true, laidLooks := .later }
def FnComplexParts32CardSaid : Prop := Claim7.holds Tryz.pinned (.plain (OpenSpec.ofChange fnComplexParts32Spec)) fnComplexParts32Card

/-- THE TIED CARD OF 'laws.FnSpaces'. -/
def fnSpacesCard : Claim7 := { stood := { row := fnSpacesRow, standIns := [], harness := (true, "2195efa08fdaa5a7e6e57b50f79e182e14926f6d289f2bef146e464f0e0fa14b"), looks := true }, kinds := [], alts := [], laidByText := true, laidKinds := [.data, .data, .widerDeep, .widerDeep, .data, .data, .data, .data, .data, .sentinel, .sentinel, .pinned, .pinned], laidTests := true, laidLooks := .later }
def FnSpacesCardSaid : Prop := Claim7.holds Tryz.pinned (.plain (OpenSpec.ofChange fnSpacesSpec)) fnSpacesCard

/-- THE TIED CARD OF 'laws.FnFaults'. -/
def fnFaultsCard : Claim7 := { stood := { row := fnFaultsRow, standIns := [], harness := (true, "2195efa08fdaa5a7e6e57b50f79e182e14926f6d289f2bef146e464f0e0fa14b"), looks := true }, kinds := [], alts := [], laidByText := true, laidKinds := [.data, .data, .widerDeep, .widerDeep, .data, .data, .data, .data, .data, .sentinel, .sentinel, .pinned, .pinned], laidTests := true, laidLooks := .later }
def FnFaultsCardSaid : Prop := Claim7.holds Tryz.pinned (.plain (OpenSpec.ofChange fnFaultsSpec)) fnFaultsCard

/-- THE TIED CARD OF 'laws.FnOnePart'. -/
def fnOnePartCard : Claim7 := { stood := { row := fnOnePartRow, standIns := [], harness := (true, "2195efa08fdaa5a7e6e57b50f79e182e14926f6d289f2bef146e464f0e0fa14b"), looks := true }, kinds := [], alts := [], laidByText := true, laidKinds := [.data, .data, .widerDeep, .widerDeep, .data, .data, .data, .data, .data, .sentinel, .sentinel, .pinned, .pinned], laidTests := true, laidLooks := .later }
def FnOnePartCardSaid : Prop := Claim7.holds Tryz.pinned (.plain (OpenSpec.ofChange fnOnePartSpec)) fnOnePartCard

/-- THE SECOND FORM's CARD OF 'laws.FnComplex128'. -/
def fnComplex128UptoCard : Claim7 := { stood := { row := fnComplex128UptoRow, standIns := [], harness := (true, "2195efa08fdaa5a7e6e57b50f79e182e14926f6d289f2bef146e464f0e0fa14b"), looks := true }, kinds := [], alts := [], laidByText := true, laidKinds := [.data, .data, .widerDeep, .widerDeep, .data, .data, .data, .data, .data, .sentinel, .sentinel, .pinned, .pinned], laidTests := true, laidLooks := .later }
def FnComplex128UptoCardSaid : Prop := Claim7.holds Tryz.pinned (.plain (OpenSpec.upto fnComplex128Spec)) fnComplex128UptoCard

/-- THE SECOND FORM's CARD OF 'laws.FnComplex64'. -/
def fnComplex64UptoCard : Claim7 := { stood := { row := fnComplex64UptoRow, standIns := [], harness := (true, "2195efa08fdaa5a7e6e57b50f79e182e14926f6d289f2bef146e464f0e0fa14b"), looks := true }, kinds := [], alts := [], laidByText := true, laidKinds := [.data, .data, .widerDeep, .widerDeep, .data, .data, .data, .data, .data, .sentinel, .sentinel, .pinned, .pinned], laidTests := true, laidLooks := .later }
def FnComplex64UptoCardSaid : Prop := Claim7.holds Tryz.pinned (.plain (OpenSpec.upto fnComplex64Spec)) fnComplex64UptoCard

/-- THE SECOND FORM's CARD OF 'laws.FnComplexParts'. -/
def fnComplexPartsUptoCard : Claim7 := { stood := { row := fnComplexPartsUptoRow, standIns := [], harness := (true, "2195efa08fdaa5a7e6e57b50f79e182e14926f6d289f2bef146e464f0e0fa14b"), looks := true }, kinds := [], alts := [], laidByText := true, laidKinds := [.data, .data, .widerDeep, .widerDeep, .data, .data, .data, .data, .data, .sentinel, .sentinel, .pinned, .pinned], laidTests := true, laidLooks := .later }
def FnComplexPartsUptoCardSaid : Prop := Claim7.holds Tryz.pinned (.plain (OpenSpec.upto fnComplexPartsSpec)) fnComplexPartsUptoCard

/-- THE SECOND FORM's CARD OF 'laws.FnComplexParts32'. -/
def fnComplexParts32UptoCard : Claim7 := { stood := { row := fnComplexParts32UptoRow, standIns := [], harness := (true, "2195efa08fdaa5a7e6e57b50f79e182e14926f6d289f2bef146e464f0e0fa14b"), looks := true }, kinds := [], alts := [], laidByText := true, laidKinds := [.data, .data, .widerDeep, .widerDeep, .data, .data, .data, .data, .data, .sentinel, .sentinel, .pinned, .pinned], laidTests := true, laidLooks := .later }
def FnComplexParts32UptoCardSaid : Prop := Claim7.holds Tryz.pinned (.plain (OpenSpec.upto fnComplexParts32Spec)) fnComplexParts32UptoCard

/-- THE SECOND FORM's CARD OF 'laws.FnSpaces'. -/
def fnSpacesUptoCard : Claim7 := { stood := { row := fnSpacesUptoRow, standIns := [], harness := (true, "2195efa08fdaa5a7e6e57b50f79e182e14926f6d289f2bef146e464f0e0fa14b"), looks := true }, kinds := [], alts := [], laidByText := true, laidKinds := [.data, .data, .widerDeep, .widerDeep, .data, .data, .data, .data, .data, .sentinel, .sentinel, .pinned, .pinned], laidTests := true, laidLooks := .later }
def FnSpacesUptoCardSaid : Prop := Claim7.holds Tryz.pinned (.plain (OpenSpec.upto fnSpacesSpec)) fnSpacesUptoCard

/-- THE SECOND FORM's CARD OF 'laws.FnFaults'. -/
def fnFaultsUptoCard : Claim7 := { stood := { row := fnFaultsUptoRow, standIns := [], harness := (true, "2195efa08fdaa5a7e6e57b50f79e182e14926f6d289f2bef146e464f0e0fa14b"), looks := true }, kinds := [], alts := [], laidByText := true, laidKinds := [.data, .data, .widerDeep, .widerDeep, .data, .data, .data, .data, .data, .sentinel, .sentinel, .pinned, .pinned], laidTests := true, laidLooks := .later }
def FnFaultsUptoCardSaid : Prop := Claim7.holds Tryz.pinned (.plain (OpenSpec.upto fnFaultsSpec)) fnFaultsUptoCard

/-- THE SECOND FORM's CARD OF 'laws.FnOnePart'. -/
def fnOnePartUptoCard : Claim7 := { stood := { row := fnOnePartUptoRow, standIns := [], harness := (true, "2195efa08fdaa5a7e6e57b50f79e182e14926f6d289f2bef146e464f0e0fa14b"), looks := true }, kinds := [], alts := [], laidByText := true, laidKinds := [.data, .data, .widerDeep, .widerDeep, .data, .data, .data, .data, .data, .sentinel, .sentinel, .pinned, .pinned], laidTests := true, laidLooks := .later }
def FnOnePartUptoCardSaid : Prop := Claim7.holds Tryz.pinned (.plain (OpenSpec.upto fnOnePartSpec)) fnOnePartUptoCard
end Rows
end Go.Proofs.YtoacbkokkkpofaaGreatDoor
