/-
  DERIVED. GIVEN WITH THE SEED: THE CARDS: each row of YtnifedmhgncioaaGreatDoorRows.lean that lists a variable, with what it lists TIED to the program's text (the seventh form; the later family's looks); each row that meets fmt, with fmt's text TOLD by the authors' own Lean function (tested against real Go, not proved from fmt's source: count such statements apart). THE CARD IS WHAT COUNTS. Prove the row's statement (the work); the ties are given (YtnifedmhgncioaaGreatDoorTie.lean); close each card by the builder's one call (the guide's Derived/Test/ToyasCard.lean, 'card_holds'). Laid BY PROGRAM, IN A SANDBOX (cutbox-door.mjs). By AI agents, Wed Nov 11 2026. No macro, syntax, notation, axiom, sorry.
-/
import Derived.Test.YtnifedmhgncioaaGreatDoorRows
import GoSem.ClaimSeven
namespace Go.Proofs.YtnifedmhgncioaaGreatDoor
namespace Rows

/-- THE TIED CARD OF 'laws.FnZeroSign'. -/
def fnZeroSignCard : Claim7 := { stood := { row := fnZeroSignRow, standIns := [], harness := (true, "38af6d9fb38053c238924ca8659ea5a157a78d4ec9a1bbb1bf70cb644b513a76"), looks := true }, kinds := [], alts := [], laidByText := true, laidKinds := [.data, .data, .widerDeep, .widerDeep, .data, .data, .data, .data, .data, .sentinel, .sentinel, .pinned, .pinned], laidTests := true, laidLooks := .later }
def FnZeroSignCardSaid : Prop := Claim7.holds Tryz.pinned (.plain (OpenSpec.ofChange fnZeroSignSpec)) fnZeroSignCard

/-- THE TIED CARD OF 'laws.FnComplexRoundTrip32'. -/
def fnComplexRoundTrip32Card : Claim7 := { stood := { row := fnComplexRoundTrip32Row, standIns := [], harness := (true, "38af6d9fb38053c238924ca8659ea5a157a78d4ec9a1bbb1bf70cb644b513a76"), looks := true }, kinds := [], alts := [], laidByText := true, laidKinds := [.data, .data, .widerDeep, .widerDeep, .data, .data, .data, .data, .data, .sentinel, .sentinel, .pinned, .pinned], laidTests := true, laidLooks := .later }
def FnComplexRoundTrip32CardSaid : Prop := Claim7.holds Tryz.pinned (.plain (OpenSpec.ofChange fnComplexRoundTrip32Spec)) fnComplexRoundTrip32Card

/-- THE TIED CARD OF 'laws.FnEnough32'. -/
def fnEnough32Card : Claim7 := { stood := { row := fnEnough32Row, standIns := [], harness := (true, "38af6d9fb38053c238924ca8659ea5a157a78d4ec9a1bbb1bf70cb644b513a76"), looks := true }, kinds := [], alts := [], laidByText := true, laidKinds := [.data, .data, .widerDeep, .widerDeep, .data, .data, .data, .data, .data, .sentinel, .sentinel, .pinned, .pinned], laidTests := true, laidLooks := .later }
def FnEnough32CardSaid : Prop := Claim7.holds Tryz.pinned (.plain (OpenSpec.ofChange fnEnough32Spec)) fnEnough32Card

/-- THE TIED CARD OF 'laws.FnExact32'. -/
def fnExact32Card : Claim7 := { stood := { row := fnExact32Row, standIns := [], harness := (true, "38af6d9fb38053c238924ca8659ea5a157a78d4ec9a1bbb1bf70cb644b513a76"), looks := true }, kinds := [], alts := [], laidByText := true, laidKinds := [.data, .data, .widerDeep, .widerDeep, .data, .data, .data, .data, .data, .sentinel, .sentinel, .pinned, .pinned], laidTests := true, laidLooks := .later }
def FnExact32CardSaid : Prop := Claim7.holds Tryz.pinned (.plain (OpenSpec.ofChange fnExact32Spec)) fnExact32Card

/-- THE TIED CARD OF 'laws.FnRoundTrip32'. -/
def fnRoundTrip32Card : Claim7 := { stood := { row := fnRoundTrip32Row, standIns := [], harness := (true, "38af6d9fb38053c238924ca8659ea5a157a78d4ec9a1bbb1bf70cb644b513a76"), looks := true }, kinds := [], alts := [], laidByText := true, laidKinds := [.data, .data, .widerDeep, .widerDeep, .data, .data, .data, .data, .data, .sentinel, .sentinel, .pinned, .pinned], laidTests := true, laidLooks := .later }
def FnRoundTrip32CardSaid : Prop := Claim7.holds Tryz.pinned (.plain (OpenSpec.ofChange fnRoundTrip32Spec)) fnRoundTrip32Card

/-- THE TIED CARD OF 'laws.FnShorterFails32'. -/
def fnShorterFails32Card : Claim7 := { stood := { row := fnShorterFails32Row, standIns := [], harness := (true, "38af6d9fb38053c238924ca8659ea5a157a78d4ec9a1bbb1bf70cb644b513a76"), looks := true }, kinds := [], alts := [], laidByText := true, laidKinds := [.data, .data, .widerDeep, .widerDeep, .data, .data, .data, .data, .data, .sentinel, .sentinel, .pinned, .pinned], laidTests := true, laidLooks := .later }
def FnShorterFails32CardSaid : Prop := Claim7.holds Tryz.pinned (.plain (OpenSpec.ofChange fnShorterFails32Spec)) fnShorterFails32Card

/-- THE TIED CARD OF 'laws.FnSizesAgree'. -/
def fnSizesAgreeCard : Claim7 := { stood := { row := fnSizesAgreeRow, standIns := [], harness := (true, "38af6d9fb38053c238924ca8659ea5a157a78d4ec9a1bbb1bf70cb644b513a76"), looks := true }, kinds := [], alts := [], laidByText := true, laidKinds := [.data, .data, .widerDeep, .widerDeep, .data, .data, .data, .data, .data, .sentinel, .sentinel, .pinned, .pinned], laidTests := true, laidLooks := .later }
def FnSizesAgreeCardSaid : Prop := Claim7.holds Tryz.pinned (.plain (OpenSpec.ofChange fnSizesAgreeSpec)) fnSizesAgreeCard

/-- THE SECOND FORM's CARD OF 'laws.FnZeroSign'. -/
def fnZeroSignUptoCard : Claim7 := { stood := { row := fnZeroSignUptoRow, standIns := [], harness := (true, "38af6d9fb38053c238924ca8659ea5a157a78d4ec9a1bbb1bf70cb644b513a76"), looks := true }, kinds := [], alts := [], laidByText := true, laidKinds := [.data, .data, .widerDeep, .widerDeep, .data, .data, .data, .data, .data, .sentinel, .sentinel, .pinned, .pinned], laidTests := true, laidLooks := .later }
def FnZeroSignUptoCardSaid : Prop := Claim7.holds Tryz.pinned (.plain (OpenSpec.upto fnZeroSignSpec)) fnZeroSignUptoCard

/-- THE SECOND FORM's CARD OF 'laws.FnComplexRoundTrip32'. -/
def fnComplexRoundTrip32UptoCard : Claim7 := { stood := { row := fnComplexRoundTrip32UptoRow, standIns := [], harness := (true, "38af6d9fb38053c238924ca8659ea5a157a78d4ec9a1bbb1bf70cb644b513a76"), looks := true }, kinds := [], alts := [], laidByText := true, laidKinds := [.data, .data, .widerDeep, .widerDeep, .data, .data, .data, .data, .data, .sentinel, .sentinel, .pinned, .pinned], laidTests := true, laidLooks := .later }
def FnComplexRoundTrip32UptoCardSaid : Prop := Claim7.holds Tryz.pinned (.plain (OpenSpec.upto fnComplexRoundTrip32Spec)) fnComplexRoundTrip32UptoCard

/-- THE SECOND FORM's CARD OF 'laws.FnEnough32'. -/
def fnEnough32UptoCard : Claim7 := { stood := { row := fnEnough32UptoRow, standIns := [], harness := (true, "38af6d9fb38053c238924ca8659ea5a157a78d4ec9a1bbb1bf70cb644b513a76"), looks := true }, kinds := [], alts := [], laidByText := true, laidKinds := [.data, .data, .widerDeep, .widerDeep, .data, .data, .data, .data, .data, .sentinel, .sentinel, .pinned, .pinned], laidTests := true, laidLooks := .later }
def FnEnough32UptoCardSaid : Prop := Claim7.holds Tryz.pinned (.plain (OpenSpec.upto fnEnough32Spec)) fnEnough32UptoCard

/-- THE SECOND FORM's CARD OF 'laws.FnExact32'. -/
def fnExact32UptoCard : Claim7 := { stood := { row := fnExact32UptoRow, standIns := [], harness := (true, "38af6d9fb38053c238924ca8659ea5a157a78d4ec9a1bbb1bf70cb644b513a76"), looks := true }, kinds := [], alts := [], laidByText := true, laidKinds := [.data, .data, .widerDeep, .widerDeep, .data, .data, .data, .data, .data, .sentinel, .sentinel, .pinned, .pinned], laidTests := true, laidLooks := .later }
def FnExact32UptoCardSaid : Prop := Claim7.holds Tryz.pinned (.plain (OpenSpec.upto fnExact32Spec)) fnExact32UptoCard

/-- THE SECOND FORM's CARD OF 'laws.FnRoundTrip32'. -/
def fnRoundTrip32UptoCard : Claim7 := { stood := { row := fnRoundTrip32UptoRow, standIns := [], harness := (true, "38af6d9fb38053c238924ca8659ea5a157a78d4ec9a1bbb1bf70cb644b513a76"), looks := true }, kinds := [], alts := [], laidByText := true, laidKinds := [.data, .data, .widerDeep, .widerDeep, .data, .data, .data, .data, .data, .sentinel, .sentinel, .pinned, .pinned], laidTests := true, laidLooks := .later }
def FnRoundTrip32UptoCardSaid : Prop := Claim7.holds Tryz.pinned (.plain (OpenSpec.upto fnRoundTrip32Spec)) fnRoundTrip32UptoCard

/-- THE SECOND FORM's CARD OF 'laws.FnShorterFails32'. -/
def fnShorterFails32UptoCard : Claim7 := { stood := { row := fnShorterFails32UptoRow, standIns := [], harness := (true, "38af6d9fb38053c238924ca8659ea5a157a78d4ec9a1bbb1bf70cb644b513a76"), looks := true }, kinds := [], alts := [], laidByText := true, laidKinds := [.data, .data, .widerDeep, .widerDeep, .data, .data, .data, .data, .data, .sentinel, .sentinel, .pinned, .pinned], laidTests := true, laidLooks := .later }
def FnShorterFails32UptoCardSaid : Prop := Claim7.holds Tryz.pinned (.plain (OpenSpec.upto fnShorterFails32Spec)) fnShorterFails32UptoCard

/-- THE SECOND FORM's CARD OF 'laws.FnSizesAgree'. -/
def fnSizesAgreeUptoCard : Claim7 := { stood := { row := fnSizesAgreeUptoRow, standIns := [], harness := (true, "38af6d9fb38053c238924ca8659ea5a157a78d4ec9a1bbb1bf70cb644b513a76"), looks := true }, kinds := [], alts := [], laidByText := true, laidKinds := [.data, .data, .widerDeep, .widerDeep, .data, .data, .data, .data, .data, .sentinel, .sentinel, .pinned, .pinned], laidTests := true, laidLooks := .later }
def FnSizesAgreeUptoCardSaid : Prop := Claim7.holds Tryz.pinned (.plain (OpenSpec.upto fnSizesAgreeSpec)) fnSizesAgreeUptoCard
end Rows
end Go.Proofs.YtnifedmhgncioaaGreatDoor
