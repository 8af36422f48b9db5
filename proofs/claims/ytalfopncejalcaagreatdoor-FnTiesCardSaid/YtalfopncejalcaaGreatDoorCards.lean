/-
  DERIVED. GIVEN WITH THE SEED: THE CARDS: each row of YtalfopncejalcaaGreatDoorRows.lean that lists a variable, with what it lists TIED to the program's text (the seventh form; the later family's looks); each row that meets fmt, with fmt's text TOLD by the authors' own Lean function (tested against real Go, not proved from fmt's source: count such statements apart). THE CARD IS WHAT COUNTS. Prove the row's statement (the work); the ties are given (YtalfopncejalcaaGreatDoorTie.lean); close each card by the builder's one call (the guide's Derived/Test/ToyasCard.lean, 'card_holds'). Laid BY PROGRAM, IN A SANDBOX (cutbox-door.mjs). By AI agents, Wed Nov 11 2026. No macro, syntax, notation, axiom, sorry.
-/
import Derived.Test.YtalfopncejalcaaGreatDoorRows
import GoSem.ClaimSeven
namespace Go.Proofs.YtalfopncejalcaaGreatDoor
namespace Rows

/-- THE TIED CARD OF 'laws.FnParse64'. -/
def fnParse64Card : Claim7 := { stood := { row := fnParse64Row, standIns := [], harness := (true, "490e26bed213501c482dae27006635199c81ae2396759d23d692080ff4ac8550"), looks := true }, kinds := [], alts := [], laidByText := true, laidKinds := [.data, .data, .widerDeep, .widerDeep, .data, .data, .data, .data, .data, .sentinel, .sentinel, .pinned, .pinned], laidTests := true, laidLooks := .later }
def FnParse64CardSaid : Prop := Claim7.holds Tryz.pinned (.plain (OpenSpec.ofChange fnParse64Spec)) fnParse64Card

/-- THE TIED CARD OF 'laws.FnParse32'. -/
def fnParse32Card : Claim7 := { stood := { row := fnParse32Row, standIns := [], harness := (true, "490e26bed213501c482dae27006635199c81ae2396759d23d692080ff4ac8550"), looks := true }, kinds := [], alts := [], laidByText := true, laidKinds := [.data, .data, .widerDeep, .widerDeep, .data, .data, .data, .data, .data, .sentinel, .sentinel, .pinned, .pinned], laidTests := true, laidLooks := .later }
def FnParse32CardSaid : Prop := Claim7.holds Tryz.pinned (.plain (OpenSpec.ofChange fnParse32Spec)) fnParse32Card

/-- THE TIED CARD OF 'laws.FnSyntaxZero'. -/
def fnSyntaxZeroCard : Claim7 := { stood := { row := fnSyntaxZeroRow, standIns := [], harness := (true, "490e26bed213501c482dae27006635199c81ae2396759d23d692080ff4ac8550"), looks := true }, kinds := [], alts := [], laidByText := true, laidKinds := [.data, .data, .widerDeep, .widerDeep, .data, .data, .data, .data, .data, .sentinel, .sentinel, .pinned, .pinned], laidTests := true, laidLooks := .later }
def FnSyntaxZeroCardSaid : Prop := Claim7.holds Tryz.pinned (.plain (OpenSpec.ofChange fnSyntaxZeroSpec)) fnSyntaxZeroCard

/-- THE TIED CARD OF 'laws.FnTies'. -/
def fnTiesCard : Claim7 := { stood := { row := fnTiesRow, standIns := [], harness := (true, "490e26bed213501c482dae27006635199c81ae2396759d23d692080ff4ac8550"), looks := true }, kinds := [], alts := [], laidByText := true, laidKinds := [.data, .data, .widerDeep, .widerDeep, .data, .data, .data, .data, .data, .sentinel, .sentinel, .pinned, .pinned], laidTests := true, laidLooks := .later }
def FnTiesCardSaid : Prop := Claim7.holds Tryz.pinned (.plain (OpenSpec.ofChange fnTiesSpec)) fnTiesCard

/-- THE TIED CARD OF 'laws.FnConvertible32'. -/
def fnConvertible32Card : Claim7 := { stood := { row := fnConvertible32Row, standIns := [], harness := (true, "490e26bed213501c482dae27006635199c81ae2396759d23d692080ff4ac8550"), looks := true }, kinds := [], alts := [], laidByText := true, laidKinds := [.data, .data, .widerDeep, .widerDeep, .data, .data, .data, .data, .data, .sentinel, .sentinel, .pinned, .pinned], laidTests := true, laidLooks := .later }
def FnConvertible32CardSaid : Prop := Claim7.holds Tryz.pinned (.plain (OpenSpec.ofChange fnConvertible32Spec)) fnConvertible32Card

/-- THE TIED CARD OF 'laws.FnMidpoints64'. -/
def fnMidpoints64Card : Claim7 := { stood := { row := fnMidpoints64Row, standIns := [], harness := (true, "490e26bed213501c482dae27006635199c81ae2396759d23d692080ff4ac8550"), looks := true }, kinds := [], alts := [], laidByText := true, laidKinds := [.data, .data, .widerDeep, .widerDeep, .data, .data, .data, .data, .data, .sentinel, .sentinel, .pinned, .pinned], laidTests := true, laidLooks := .later }
def FnMidpoints64CardSaid : Prop := Claim7.holds Tryz.pinned (.plain (OpenSpec.ofChange fnMidpoints64Spec)) fnMidpoints64Card

/-- THE TIED CARD OF 'laws.FnMidpoints32'. -/
def fnMidpoints32Card : Claim7 := { stood := { row := fnMidpoints32Row, standIns := [], harness := (true, "490e26bed213501c482dae27006635199c81ae2396759d23d692080ff4ac8550"), looks := true }, kinds := [], alts := [], laidByText := true, laidKinds := [.data, .data, .widerDeep, .widerDeep, .data, .data, .data, .data, .data, .sentinel, .sentinel, .pinned, .pinned], laidTests := true, laidLooks := .later }
def FnMidpoints32CardSaid : Prop := Claim7.holds Tryz.pinned (.plain (OpenSpec.ofChange fnMidpoints32Spec)) fnMidpoints32Card

/-- THE TIED CARD OF 'laws.FnMonotone64'. -/
def fnMonotone64Card : Claim7 := { stood := { row := fnMonotone64Row, standIns := [], harness := (true, "490e26bed213501c482dae27006635199c81ae2396759d23d692080ff4ac8550"), looks := true }, kinds := [], alts := [], laidByText := true, laidKinds := [.data, .data, .widerDeep, .widerDeep, .data, .data, .data, .data, .data, .sentinel, .sentinel, .pinned, .pinned], laidTests := true, laidLooks := .later }
def FnMonotone64CardSaid : Prop := Claim7.holds Tryz.pinned (.plain (OpenSpec.ofChange fnMonotone64Spec)) fnMonotone64Card

/-- THE TIED CARD OF 'laws.FnMonotone32'. -/
def fnMonotone32Card : Claim7 := { stood := { row := fnMonotone32Row, standIns := [], harness := (true, "490e26bed213501c482dae27006635199c81ae2396759d23d692080ff4ac8550"), looks := true }, kinds := [], alts := [], laidByText := true, laidKinds := [.data, .data, .widerDeep, .widerDeep, .data, .data, .data, .data, .data, .sentinel, .sentinel, .pinned, .pinned], laidTests := true, laidLooks := .later }
def FnMonotone32CardSaid : Prop := Claim7.holds Tryz.pinned (.plain (OpenSpec.ofChange fnMonotone32Spec)) fnMonotone32Card

/-- THE TIED CARD OF 'laws.FnMinus'. -/
def fnMinusCard : Claim7 := { stood := { row := fnMinusRow, standIns := [], harness := (true, "490e26bed213501c482dae27006635199c81ae2396759d23d692080ff4ac8550"), looks := true }, kinds := [], alts := [], laidByText := true, laidKinds := [.data, .data, .widerDeep, .widerDeep, .data, .data, .data, .data, .data, .sentinel, .sentinel, .pinned, .pinned], laidTests := true, laidLooks := .later }
def FnMinusCardSaid : Prop := Claim7.holds Tryz.pinned (.plain (OpenSpec.ofChange fnMinusSpec)) fnMinusCard

/-- THE TIED CARD OF 'laws.FnPlus'. -/
def fnPlusCard : Claim7 := { stood := { row := fnPlusRow, standIns := [], harness := (true, "490e26bed213501c482dae27006635199c81ae2396759d23d692080ff4ac8550"), looks := true }, kinds := [], alts := [], laidByText := true, laidKinds := [.data, .data, .widerDeep, .widerDeep, .data, .data, .data, .data, .data, .sentinel, .sentinel, .pinned, .pinned], laidTests := true, laidLooks := .later }
def FnPlusCardSaid : Prop := Claim7.holds Tryz.pinned (.plain (OpenSpec.ofChange fnPlusSpec)) fnPlusCard

/-- THE SECOND FORM's CARD OF 'laws.FnParse64'. -/
def fnParse64UptoCard : Claim7 := { stood := { row := fnParse64UptoRow, standIns := [], harness := (true, "490e26bed213501c482dae27006635199c81ae2396759d23d692080ff4ac8550"), looks := true }, kinds := [], alts := [], laidByText := true, laidKinds := [.data, .data, .widerDeep, .widerDeep, .data, .data, .data, .data, .data, .sentinel, .sentinel, .pinned, .pinned], laidTests := true, laidLooks := .later }
def FnParse64UptoCardSaid : Prop := Claim7.holds Tryz.pinned (.plain (OpenSpec.upto fnParse64Spec)) fnParse64UptoCard

/-- THE SECOND FORM's CARD OF 'laws.FnParse32'. -/
def fnParse32UptoCard : Claim7 := { stood := { row := fnParse32UptoRow, standIns := [], harness := (true, "490e26bed213501c482dae27006635199c81ae2396759d23d692080ff4ac8550"), looks := true }, kinds := [], alts := [], laidByText := true, laidKinds := [.data, .data, .widerDeep, .widerDeep, .data, .data, .data, .data, .data, .sentinel, .sentinel, .pinned, .pinned], laidTests := true, laidLooks := .later }
def FnParse32UptoCardSaid : Prop := Claim7.holds Tryz.pinned (.plain (OpenSpec.upto fnParse32Spec)) fnParse32UptoCard

/-- THE SECOND FORM's CARD OF 'laws.FnSyntaxZero'. -/
def fnSyntaxZeroUptoCard : Claim7 := { stood := { row := fnSyntaxZeroUptoRow, standIns := [], harness := (true, "490e26bed213501c482dae27006635199c81ae2396759d23d692080ff4ac8550"), looks := true }, kinds := [], alts := [], laidByText := true, laidKinds := [.data, .data, .widerDeep, .widerDeep, .data, .data, .data, .data, .data, .sentinel, .sentinel, .pinned, .pinned], laidTests := true, laidLooks := .later }
def FnSyntaxZeroUptoCardSaid : Prop := Claim7.holds Tryz.pinned (.plain (OpenSpec.upto fnSyntaxZeroSpec)) fnSyntaxZeroUptoCard

/-- THE SECOND FORM's CARD OF 'laws.FnTies'. -/
def fnTiesUptoCard : Claim7 := { stood := { row := fnTiesUptoRow, standIns := [], harness := (true, "490e26bed213501c482dae27006635199c81ae2396759d23d692080ff4ac8550"), looks := true }, kinds := [], alts := [], laidByText := true, laidKinds := [.data, .data, .widerDeep, .widerDeep, .data, .data, .data, .data, .data, .sentinel, .sentinel, .pinned, .pinned], laidTests := true, laidLooks := .later }
def FnTiesUptoCardSaid : Prop := Claim7.holds Tryz.pinned (.plain (OpenSpec.upto fnTiesSpec)) fnTiesUptoCard

/-- THE SECOND FORM's CARD OF 'laws.FnConvertible32'. -/
def fnConvertible32UptoCard : Claim7 := { stood := { row := fnConvertible32UptoRow, standIns := [], harness := (true, "490e26bed213501c482dae27006635199c81ae2396759d23d692080ff4ac8550"), looks := true }, kinds := [], alts := [], laidByText := true, laidKinds := [.data, .data, .widerDeep, .widerDeep, .data, .data, .data, .data, .data, .sentinel, .sentinel, .pinned, .pinned], laidTests := true, laidLooks := .later }
def FnConvertible32UptoCardSaid : Prop := Claim7.holds Tryz.pinned (.plain (OpenSpec.upto fnConvertible32Spec)) fnConvertible32UptoCard

/-- THE SECOND FORM's CARD OF 'laws.FnMidpoints64'. -/
def fnMidpoints64UptoCard : Claim7 := { stood := { row := fnMidpoints64UptoRow, standIns := [], harness := (true, "490e26bed213501c482dae27006635199c81ae2396759d23d692080ff4ac8550"), looks := true }, kinds := [], alts := [], laidByText := true, laidKinds := [.data, .data, .widerDeep, .widerDeep, .data, .data, .data, .data, .data, .sentinel, .sentinel, .pinned, .pinned], laidTests := true, laidLooks := .later }
def FnMidpoints64UptoCardSaid : Prop := Claim7.holds Tryz.pinned (.plain (OpenSpec.upto fnMidpoints64Spec)) fnMidpoints64UptoCard

/-- THE SECOND FORM's CARD OF 'laws.FnMidpoints32'. -/
def fnMidpoints32UptoCard : Claim7 := { stood := { row := fnMidpoints32UptoRow, standIns := [], harness := (true, "490e26bed213501c482dae27006635199c81ae2396759d23d692080ff4ac8550"), looks := true }, kinds := [], alts := [], laidByText := true, laidKinds := [.data, .data, .widerDeep, .widerDeep, .data, .data, .data, .data, .data, .sentinel, .sentinel, .pinned, .pinned], laidTests := true, laidLooks := .later }
def FnMidpoints32UptoCardSaid : Prop := Claim7.holds Tryz.pinned (.plain (OpenSpec.upto fnMidpoints32Spec)) fnMidpoints32UptoCard

/-- THE SECOND FORM's CARD OF 'laws.FnMonotone64'. -/
def fnMonotone64UptoCard : Claim7 := { stood := { row := fnMonotone64UptoRow, standIns := [], harness := (true, "490e26bed213501c482dae27006635199c81ae2396759d23d692080ff4ac8550"), looks := true }, kinds := [], alts := [], laidByText := true, laidKinds := [.data, .data, .widerDeep, .widerDeep, .data, .data, .data, .data, .data, .sentinel, .sentinel, .pinned, .pinned], laidTests := true, laidLooks := .later }
def FnMonotone64UptoCardSaid : Prop := Claim7.holds Tryz.pinned (.plain (OpenSpec.upto fnMonotone64Spec)) fnMonotone64UptoCard

/-- THE SECOND FORM's CARD OF 'laws.FnMonotone32'. -/
def fnMonotone32UptoCard : Claim7 := { stood := { row := fnMonotone32UptoRow, standIns := [], harness := (true, "490e26bed213501c482dae27006635199c81ae2396759d23d692080ff4ac8550"), looks := true }, kinds := [], alts := [], laidByText := true, laidKinds := [.data, .data, .widerDeep, .widerDeep, .data, .data, .data, .data, .data, .sentinel, .sentinel, .pinned, .pinned], laidTests := true, laidLooks := .later }
def FnMonotone32UptoCardSaid : Prop := Claim7.holds Tryz.pinned (.plain (OpenSpec.upto fnMonotone32Spec)) fnMonotone32UptoCard

/-- THE SECOND FORM's CARD OF 'laws.FnMinus'. -/
def fnMinusUptoCard : Claim7 := { stood := { row := fnMinusUptoRow, standIns := [], harness := (true, "490e26bed213501c482dae27006635199c81ae2396759d23d692080ff4ac8550"), looks := true }, kinds := [], alts := [], laidByText := true, laidKinds := [.data, .data, .widerDeep, .widerDeep, .data, .data, .data, .data, .data, .sentinel, .sentinel, .pinned, .pinned], laidTests := true, laidLooks := .later }
def FnMinusUptoCardSaid : Prop := Claim7.holds Tryz.pinned (.plain (OpenSpec.upto fnMinusSpec)) fnMinusUptoCard

/-- THE SECOND FORM's CARD OF 'laws.FnPlus'. -/
def fnPlusUptoCard : Claim7 := { stood := { row := fnPlusUptoRow, standIns := [], harness := (true, "490e26bed213501c482dae27006635199c81ae2396759d23d692080ff4ac8550"), looks := true }, kinds := [], alts := [], laidByText := true, laidKinds := [.data, .data, .widerDeep, .widerDeep, .data, .data, .data, .data, .data, .sentinel, .sentinel, .pinned, .pinned], laidTests := true, laidLooks := .later }
def FnPlusUptoCardSaid : Prop := Claim7.holds Tryz.pinned (.plain (OpenSpec.upto fnPlusSpec)) fnPlusUptoCard
end Rows
end Go.Proofs.YtalfopncejalcaaGreatDoor
