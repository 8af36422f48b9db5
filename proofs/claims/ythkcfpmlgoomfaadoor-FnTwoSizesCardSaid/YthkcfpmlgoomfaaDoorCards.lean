/-
  DERIVED. GIVEN WITH THE SEED: THE CARDS: each row of YthkcfpmlgoomfaaDoorRows.lean that lists a variable, with what it lists TIED to the program's text (the seventh form; the later family's looks); each row that meets fmt, with fmt's text TOLD by the authors' own Lean function (tested against real Go, not proved from fmt's source: count such statements apart). THE CARD IS WHAT COUNTS. Prove the row's statement (the work); the ties are given (YthkcfpmlgoomfaaDoorTie.lean); close each card by the builder's one call (the guide's Derived/Test/ToyasCard.lean, 'card_holds'). Laid BY PROGRAM, IN A SANDBOX (cutbox-door.mjs). By AI agents, Wed Nov 11 2026. No macro, syntax, notation, axiom, sorry.
-/
import Derived.Test.YthkcfpmlgoomfaaDoorRows
import GoSem.ClaimSeven
namespace Go.Proofs.YthkcfpmlgoomfaaDoor
namespace Rows

/-- THE TIED CARD OF 'laws.FnX64'. -/
def fnX64Card : Claim7 := { stood := { row := fnX64Row, standIns := [], harness := (true, "4b54d9b8fa14155cb4e24b1872b25066dcadb5ccfe51e6097a04fdffc27b7778"), looks := false }, kinds := [], alts := [], laidByText := true, laidKinds := [.data, .data, .data, .data, .pinned, .pinned], laidTests := true, laidLooks := .later }
def FnX64CardSaid : Prop := Claim7.holds Tryd.pinned (.plain (OpenSpec.ofChange fnX64Spec)) fnX64Card

/-- THE TIED CARD OF 'laws.FnX32'. -/
def fnX32Card : Claim7 := { stood := { row := fnX32Row, standIns := [], harness := (true, "4b54d9b8fa14155cb4e24b1872b25066dcadb5ccfe51e6097a04fdffc27b7778"), looks := false }, kinds := [], alts := [], laidByText := true, laidKinds := [.data, .data, .data, .data, .pinned, .pinned], laidTests := true, laidLooks := .later }
def FnX32CardSaid : Prop := Claim7.holds Tryd.pinned (.plain (OpenSpec.ofChange fnX32Spec)) fnX32Card

/-- THE TIED CARD OF 'laws.FnExact64'. -/
def fnExact64Card : Claim7 := { stood := { row := fnExact64Row, standIns := [], harness := (true, "4b54d9b8fa14155cb4e24b1872b25066dcadb5ccfe51e6097a04fdffc27b7778"), looks := false }, kinds := [], alts := [], laidByText := true, laidKinds := [.data, .data, .data, .data, .pinned, .pinned], laidTests := true, laidLooks := .later }
def FnExact64CardSaid : Prop := Claim7.holds Tryd.pinned (.plain (OpenSpec.ofChange fnExact64Spec)) fnExact64Card

/-- THE TIED CARD OF 'laws.FnHexExact'. -/
def fnHexExactCard : Claim7 := { stood := { row := fnHexExactRow, standIns := [], harness := (true, "4b54d9b8fa14155cb4e24b1872b25066dcadb5ccfe51e6097a04fdffc27b7778"), looks := false }, kinds := [], alts := [], laidByText := true, laidKinds := [.data, .data, .data, .data, .pinned, .pinned], laidTests := true, laidLooks := .later }
def FnHexExactCardSaid : Prop := Claim7.holds Tryd.pinned (.plain (OpenSpec.ofChange fnHexExactSpec)) fnHexExactCard

/-- THE TIED CARD OF 'laws.FnFixedValue'. -/
def fnFixedValueCard : Claim7 := { stood := { row := fnFixedValueRow, standIns := [], harness := (true, "4b54d9b8fa14155cb4e24b1872b25066dcadb5ccfe51e6097a04fdffc27b7778"), looks := false }, kinds := [], alts := [], laidByText := true, laidKinds := [.data, .data, .data, .data, .pinned, .pinned], laidTests := true, laidLooks := .later }
def FnFixedValueCardSaid : Prop := Claim7.holds Tryd.pinned (.plain (OpenSpec.ofChange fnFixedValueSpec)) fnFixedValueCard

/-- THE TIED CARD OF 'laws.FnGeneralValue'. -/
def fnGeneralValueCard : Claim7 := { stood := { row := fnGeneralValueRow, standIns := [], harness := (true, "4b54d9b8fa14155cb4e24b1872b25066dcadb5ccfe51e6097a04fdffc27b7778"), looks := false }, kinds := [], alts := [], laidByText := true, laidKinds := [.data, .data, .data, .data, .pinned, .pinned], laidTests := true, laidLooks := .later }
def FnGeneralValueCardSaid : Prop := Claim7.holds Tryd.pinned (.plain (OpenSpec.ofChange fnGeneralValueSpec)) fnGeneralValueCard

/-- THE TIED CARD OF 'laws.FnF64'. -/
def fnF64Card : Claim7 := { stood := { row := fnF64Row, standIns := [], harness := (true, "4b54d9b8fa14155cb4e24b1872b25066dcadb5ccfe51e6097a04fdffc27b7778"), looks := false }, kinds := [], alts := [], laidByText := true, laidKinds := [.data, .data, .data, .data, .pinned, .pinned], laidTests := true, laidLooks := .later }
def FnF64CardSaid : Prop := Claim7.holds Tryd.pinned (.plain (OpenSpec.ofChange fnF64Spec)) fnF64Card

/-- THE TIED CARD OF 'laws.FnF32'. -/
def fnF32Card : Claim7 := { stood := { row := fnF32Row, standIns := [], harness := (true, "4b54d9b8fa14155cb4e24b1872b25066dcadb5ccfe51e6097a04fdffc27b7778"), looks := false }, kinds := [], alts := [], laidByText := true, laidKinds := [.data, .data, .data, .data, .pinned, .pinned], laidTests := true, laidLooks := .later }
def FnF32CardSaid : Prop := Claim7.holds Tryd.pinned (.plain (OpenSpec.ofChange fnF32Spec)) fnF32Card

/-- THE TIED CARD OF 'laws.FnE64'. -/
def fnE64Card : Claim7 := { stood := { row := fnE64Row, standIns := [], harness := (true, "4b54d9b8fa14155cb4e24b1872b25066dcadb5ccfe51e6097a04fdffc27b7778"), looks := false }, kinds := [], alts := [], laidByText := true, laidKinds := [.data, .data, .data, .data, .pinned, .pinned], laidTests := true, laidLooks := .later }
def FnE64CardSaid : Prop := Claim7.holds Tryd.pinned (.plain (OpenSpec.ofChange fnE64Spec)) fnE64Card

/-- THE TIED CARD OF 'laws.FnE32'. -/
def fnE32Card : Claim7 := { stood := { row := fnE32Row, standIns := [], harness := (true, "4b54d9b8fa14155cb4e24b1872b25066dcadb5ccfe51e6097a04fdffc27b7778"), looks := false }, kinds := [], alts := [], laidByText := true, laidKinds := [.data, .data, .data, .data, .pinned, .pinned], laidTests := true, laidLooks := .later }
def FnE32CardSaid : Prop := Claim7.holds Tryd.pinned (.plain (OpenSpec.ofChange fnE32Spec)) fnE32Card

/-- THE TIED CARD OF 'laws.FnTwoSizes'. -/
def fnTwoSizesCard : Claim7 := { stood := { row := fnTwoSizesRow, standIns := [], harness := (true, "4b54d9b8fa14155cb4e24b1872b25066dcadb5ccfe51e6097a04fdffc27b7778"), looks := false }, kinds := [], alts := [], laidByText := true, laidKinds := [.data, .data, .data, .data, .pinned, .pinned], laidTests := true, laidLooks := .later }
def FnTwoSizesCardSaid : Prop := Claim7.holds Tryd.pinned (.plain (OpenSpec.ofChange fnTwoSizesSpec)) fnTwoSizesCard

/-- THE TIED CARD OF 'laws.FnHalves64'. -/
def fnHalves64Card : Claim7 := { stood := { row := fnHalves64Row, standIns := [], harness := (true, "4b54d9b8fa14155cb4e24b1872b25066dcadb5ccfe51e6097a04fdffc27b7778"), looks := false }, kinds := [], alts := [], laidByText := true, laidKinds := [.data, .data, .data, .data, .pinned, .pinned], laidTests := true, laidLooks := .later }
def FnHalves64CardSaid : Prop := Claim7.holds Tryd.pinned (.plain (OpenSpec.ofChange fnHalves64Spec)) fnHalves64Card

/-- THE SECOND FORM's CARD OF 'laws.FnX64'. -/
def fnX64UptoCard : Claim7 := { stood := { row := fnX64UptoRow, standIns := [], harness := (true, "4b54d9b8fa14155cb4e24b1872b25066dcadb5ccfe51e6097a04fdffc27b7778"), looks := false }, kinds := [], alts := [], laidByText := true, laidKinds := [.data, .data, .data, .data, .pinned, .pinned], laidTests := true, laidLooks := .later }
def FnX64UptoCardSaid : Prop := Claim7.holds Tryd.pinned (.plain (OpenSpec.upto fnX64Spec)) fnX64UptoCard

/-- THE SECOND FORM's CARD OF 'laws.FnX32'. -/
def fnX32UptoCard : Claim7 := { stood := { row := fnX32UptoRow, standIns := [], harness := (true, "4b54d9b8fa14155cb4e24b1872b25066dcadb5ccfe51e6097a04fdffc27b7778"), looks := false }, kinds := [], alts := [], laidByText := true, laidKinds := [.data, .data, .data, .data, .pinned, .pinned], laidTests := true, laidLooks := .later }
def FnX32UptoCardSaid : Prop := Claim7.holds Tryd.pinned (.plain (OpenSpec.upto fnX32Spec)) fnX32UptoCard

/-- THE SECOND FORM's CARD OF 'laws.FnExact64'. -/
def fnExact64UptoCard : Claim7 := { stood := { row := fnExact64UptoRow, standIns := [], harness := (true, "4b54d9b8fa14155cb4e24b1872b25066dcadb5ccfe51e6097a04fdffc27b7778"), looks := false }, kinds := [], alts := [], laidByText := true, laidKinds := [.data, .data, .data, .data, .pinned, .pinned], laidTests := true, laidLooks := .later }
def FnExact64UptoCardSaid : Prop := Claim7.holds Tryd.pinned (.plain (OpenSpec.upto fnExact64Spec)) fnExact64UptoCard

/-- THE SECOND FORM's CARD OF 'laws.FnHexExact'. -/
def fnHexExactUptoCard : Claim7 := { stood := { row := fnHexExactUptoRow, standIns := [], harness := (true, "4b54d9b8fa14155cb4e24b1872b25066dcadb5ccfe51e6097a04fdffc27b7778"), looks := false }, kinds := [], alts := [], laidByText := true, laidKinds := [.data, .data, .data, .data, .pinned, .pinned], laidTests := true, laidLooks := .later }
def FnHexExactUptoCardSaid : Prop := Claim7.holds Tryd.pinned (.plain (OpenSpec.upto fnHexExactSpec)) fnHexExactUptoCard

/-- THE SECOND FORM's CARD OF 'laws.FnFixedValue'. -/
def fnFixedValueUptoCard : Claim7 := { stood := { row := fnFixedValueUptoRow, standIns := [], harness := (true, "4b54d9b8fa14155cb4e24b1872b25066dcadb5ccfe51e6097a04fdffc27b7778"), looks := false }, kinds := [], alts := [], laidByText := true, laidKinds := [.data, .data, .data, .data, .pinned, .pinned], laidTests := true, laidLooks := .later }
def FnFixedValueUptoCardSaid : Prop := Claim7.holds Tryd.pinned (.plain (OpenSpec.upto fnFixedValueSpec)) fnFixedValueUptoCard

/-- THE SECOND FORM's CARD OF 'laws.FnGeneralValue'. -/
def fnGeneralValueUptoCard : Claim7 := { stood := { row := fnGeneralValueUptoRow, standIns := [], harness := (true, "4b54d9b8fa14155cb4e24b1872b25066dcadb5ccfe51e6097a04fdffc27b7778"), looks := false }, kinds := [], alts := [], laidByText := true, laidKinds := [.data, .data, .data, .data, .pinned, .pinned], laidTests := true, laidLooks := .later }
def FnGeneralValueUptoCardSaid : Prop := Claim7.holds Tryd.pinned (.plain (OpenSpec.upto fnGeneralValueSpec)) fnGeneralValueUptoCard

/-- THE SECOND FORM's CARD OF 'laws.FnF64'. -/
def fnF64UptoCard : Claim7 := { stood := { row := fnF64UptoRow, standIns := [], harness := (true, "4b54d9b8fa14155cb4e24b1872b25066dcadb5ccfe51e6097a04fdffc27b7778"), looks := false }, kinds := [], alts := [], laidByText := true, laidKinds := [.data, .data, .data, .data, .pinned, .pinned], laidTests := true, laidLooks := .later }
def FnF64UptoCardSaid : Prop := Claim7.holds Tryd.pinned (.plain (OpenSpec.upto fnF64Spec)) fnF64UptoCard

/-- THE SECOND FORM's CARD OF 'laws.FnF32'. -/
def fnF32UptoCard : Claim7 := { stood := { row := fnF32UptoRow, standIns := [], harness := (true, "4b54d9b8fa14155cb4e24b1872b25066dcadb5ccfe51e6097a04fdffc27b7778"), looks := false }, kinds := [], alts := [], laidByText := true, laidKinds := [.data, .data, .data, .data, .pinned, .pinned], laidTests := true, laidLooks := .later }
def FnF32UptoCardSaid : Prop := Claim7.holds Tryd.pinned (.plain (OpenSpec.upto fnF32Spec)) fnF32UptoCard

/-- THE SECOND FORM's CARD OF 'laws.FnE64'. -/
def fnE64UptoCard : Claim7 := { stood := { row := fnE64UptoRow, standIns := [], harness := (true, "4b54d9b8fa14155cb4e24b1872b25066dcadb5ccfe51e6097a04fdffc27b7778"), looks := false }, kinds := [], alts := [], laidByText := true, laidKinds := [.data, .data, .data, .data, .pinned, .pinned], laidTests := true, laidLooks := .later }
def FnE64UptoCardSaid : Prop := Claim7.holds Tryd.pinned (.plain (OpenSpec.upto fnE64Spec)) fnE64UptoCard

/-- THE SECOND FORM's CARD OF 'laws.FnE32'. -/
def fnE32UptoCard : Claim7 := { stood := { row := fnE32UptoRow, standIns := [], harness := (true, "4b54d9b8fa14155cb4e24b1872b25066dcadb5ccfe51e6097a04fdffc27b7778"), looks := false }, kinds := [], alts := [], laidByText := true, laidKinds := [.data, .data, .data, .data, .pinned, .pinned], laidTests := true, laidLooks := .later }
def FnE32UptoCardSaid : Prop := Claim7.holds Tryd.pinned (.plain (OpenSpec.upto fnE32Spec)) fnE32UptoCard

/-- THE SECOND FORM's CARD OF 'laws.FnTwoSizes'. -/
def fnTwoSizesUptoCard : Claim7 := { stood := { row := fnTwoSizesUptoRow, standIns := [], harness := (true, "4b54d9b8fa14155cb4e24b1872b25066dcadb5ccfe51e6097a04fdffc27b7778"), looks := false }, kinds := [], alts := [], laidByText := true, laidKinds := [.data, .data, .data, .data, .pinned, .pinned], laidTests := true, laidLooks := .later }
def FnTwoSizesUptoCardSaid : Prop := Claim7.holds Tryd.pinned (.plain (OpenSpec.upto fnTwoSizesSpec)) fnTwoSizesUptoCard

/-- THE SECOND FORM's CARD OF 'laws.FnHalves64'. -/
def fnHalves64UptoCard : Claim7 := { stood := { row := fnHalves64UptoRow, standIns := [], harness := (true, "4b54d9b8fa14155cb4e24b1872b25066dcadb5ccfe51e6097a04fdffc27b7778"), looks := false }, kinds := [], alts := [], laidByText := true, laidKinds := [.data, .data, .data, .data, .pinned, .pinned], laidTests := true, laidLooks := .later }
def FnHalves64UptoCardSaid : Prop := Claim7.holds Tryd.pinned (.plain (OpenSpec.upto fnHalves64Spec)) fnHalves64UptoCard
end Rows
end Go.Proofs.YthkcfpmlgoomfaaDoor
