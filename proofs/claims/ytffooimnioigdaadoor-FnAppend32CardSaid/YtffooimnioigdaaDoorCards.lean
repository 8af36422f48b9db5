/-
  DERIVED. GIVEN WITH THE SEED: THE CARDS: each row of YtffooimnioigdaaDoorRows.lean that lists a variable, with what it lists TIED to the program's text (the seventh form; the later family's looks); each row that meets fmt, with fmt's text TOLD by the authors' own Lean function (tested against real Go, not proved from fmt's source: count such statements apart). THE CARD IS WHAT COUNTS. Prove the row's statement (the work); the ties are given (YtffooimnioigdaaDoorTie.lean); close each card by the builder's one call (the guide's Derived/Test/ToyasCard.lean, 'card_holds'). Laid BY PROGRAM, IN A SANDBOX (cutbox-door.mjs). By AI agents, Wed Nov 11 2026. No macro, syntax, notation, axiom, sorry.
-/
import Derived.Test.YtffooimnioigdaaDoorRows
import GoSem.ClaimSeven
namespace Go.Proofs.YtffooimnioigdaaDoor
namespace Rows

/-- THE TIED CARD OF 'laws.FnNegative32'. -/
def fnNegative32Card : Claim7 := { stood := { row := fnNegative32Row, standIns := [], harness := (true, "4dc7807e62ce3b4cdd611311c97a4c695f9b76d6c99b627328a8035ac0431540"), looks := false }, kinds := [], alts := [], laidByText := true, laidKinds := [.data, .data, .data, .data, .pinned, .pinned], laidTests := true, laidLooks := .later }
def FnNegative32CardSaid : Prop := Claim7.holds Tryd.pinned (.plain (OpenSpec.ofChange fnNegative32Spec)) fnNegative32Card

/-- THE TIED CARD OF 'laws.FnNegative64'. -/
def fnNegative64Card : Claim7 := { stood := { row := fnNegative64Row, standIns := [], harness := (true, "4dc7807e62ce3b4cdd611311c97a4c695f9b76d6c99b627328a8035ac0431540"), looks := false }, kinds := [], alts := [], laidByText := true, laidKinds := [.data, .data, .data, .data, .pinned, .pinned], laidTests := true, laidLooks := .later }
def FnNegative64CardSaid : Prop := Claim7.holds Tryd.pinned (.plain (OpenSpec.ofChange fnNegative64Spec)) fnNegative64Card

/-- THE TIED CARD OF 'laws.FnCapitals'. -/
def fnCapitalsCard : Claim7 := { stood := { row := fnCapitalsRow, standIns := [], harness := (true, "4dc7807e62ce3b4cdd611311c97a4c695f9b76d6c99b627328a8035ac0431540"), looks := false }, kinds := [], alts := [], laidByText := true, laidKinds := [.data, .data, .data, .data, .pinned, .pinned], laidTests := true, laidLooks := .later }
def FnCapitalsCardSaid : Prop := Claim7.holds Tryd.pinned (.plain (OpenSpec.ofChange fnCapitalsSpec)) fnCapitalsCard

/-- THE TIED CARD OF 'laws.FnAppend32'. -/
def fnAppend32Card : Claim7 := { stood := { row := fnAppend32Row, standIns := [], harness := (true, "4dc7807e62ce3b4cdd611311c97a4c695f9b76d6c99b627328a8035ac0431540"), looks := false }, kinds := [], alts := [], laidByText := true, laidKinds := [.data, .data, .data, .data, .pinned, .pinned], laidTests := true, laidLooks := .later }
def FnAppend32CardSaid : Prop := Claim7.holds Tryd.pinned (.plain (OpenSpec.ofChange fnAppend32Spec)) fnAppend32Card

/-- THE TIED CARD OF 'laws.FnAppend64'. -/
def fnAppend64Card : Claim7 := { stood := { row := fnAppend64Row, standIns := [], harness := (true, "4dc7807e62ce3b4cdd611311c97a4c695f9b76d6c99b627328a8035ac0431540"), looks := false }, kinds := [], alts := [], laidByText := true, laidKinds := [.data, .data, .data, .data, .pinned, .pinned], laidTests := true, laidLooks := .later }
def FnAppend64CardSaid : Prop := Claim7.holds Tryd.pinned (.plain (OpenSpec.ofChange fnAppend64Spec)) fnAppend64Card

/-- THE TIED CARD OF 'laws.FnAppendTwice'. -/
def fnAppendTwiceCard : Claim7 := { stood := { row := fnAppendTwiceRow, standIns := [], harness := (true, "4dc7807e62ce3b4cdd611311c97a4c695f9b76d6c99b627328a8035ac0431540"), looks := false }, kinds := [], alts := [], laidByText := true, laidKinds := [.data, .data, .data, .data, .pinned, .pinned], laidTests := true, laidLooks := .later }
def FnAppendTwiceCardSaid : Prop := Claim7.holds Tryd.pinned (.plain (OpenSpec.ofChange fnAppendTwiceSpec)) fnAppendTwiceCard

/-- THE TIED CARD OF 'laws.FnComplexJoined'. -/
def fnComplexJoinedCard : Claim7 := { stood := { row := fnComplexJoinedRow, standIns := [], harness := (true, "4dc7807e62ce3b4cdd611311c97a4c695f9b76d6c99b627328a8035ac0431540"), looks := false }, kinds := [], alts := [], laidByText := true, laidKinds := [.data, .data, .data, .data, .pinned, .pinned], laidTests := true, laidLooks := .later }
def FnComplexJoinedCardSaid : Prop := Claim7.holds Tryd.pinned (.plain (OpenSpec.ofChange fnComplexJoinedSpec)) fnComplexJoinedCard

/-- THE TIED CARD OF 'laws.FnComplexJoined32'. -/
def fnComplexJoined32Card : Claim7 := { stood := { row := fnComplexJoined32Row, standIns := [], harness := (true, "4dc7807e62ce3b4cdd611311c97a4c695f9b76d6c99b627328a8035ac0431540"), looks := false }, kinds := [], alts := [], laidByText := true, laidKinds := [.data, .data, .data, .data, .pinned, .pinned], laidTests := true, laidLooks := .later }
def FnComplexJoined32CardSaid : Prop := Claim7.holds Tryd.pinned (.plain (OpenSpec.ofChange fnComplexJoined32Spec)) fnComplexJoined32Card

/-- THE SECOND FORM's CARD OF 'laws.FnNegative32'. -/
def fnNegative32UptoCard : Claim7 := { stood := { row := fnNegative32UptoRow, standIns := [], harness := (true, "4dc7807e62ce3b4cdd611311c97a4c695f9b76d6c99b627328a8035ac0431540"), looks := false }, kinds := [], alts := [], laidByText := true, laidKinds := [.data, .data, .data, .data, .pinned, .pinned], laidTests := true, laidLooks := .later }
def FnNegative32UptoCardSaid : Prop := Claim7.holds Tryd.pinned (.plain (OpenSpec.upto fnNegative32Spec)) fnNegative32UptoCard

/-- THE SECOND FORM's CARD OF 'laws.FnNegative64'. -/
def fnNegative64UptoCard : Claim7 := { stood := { row := fnNegative64UptoRow, standIns := [], harness := (true, "4dc7807e62ce3b4cdd611311c97a4c695f9b76d6c99b627328a8035ac0431540"), looks := false }, kinds := [], alts := [], laidByText := true, laidKinds := [.data, .data, .data, .data, .pinned, .pinned], laidTests := true, laidLooks := .later }
def FnNegative64UptoCardSaid : Prop := Claim7.holds Tryd.pinned (.plain (OpenSpec.upto fnNegative64Spec)) fnNegative64UptoCard

/-- THE SECOND FORM's CARD OF 'laws.FnCapitals'. -/
def fnCapitalsUptoCard : Claim7 := { stood := { row := fnCapitalsUptoRow, standIns := [], harness := (true, "4dc7807e62ce3b4cdd611311c97a4c695f9b76d6c99b627328a8035ac0431540"), looks := false }, kinds := [], alts := [], laidByText := true, laidKinds := [.data, .data, .data, .data, .pinned, .pinned], laidTests := true, laidLooks := .later }
def FnCapitalsUptoCardSaid : Prop := Claim7.holds Tryd.pinned (.plain (OpenSpec.upto fnCapitalsSpec)) fnCapitalsUptoCard

/-- THE SECOND FORM's CARD OF 'laws.FnAppend32'. -/
def fnAppend32UptoCard : Claim7 := { stood := { row := fnAppend32UptoRow, standIns := [], harness := (true, "4dc7807e62ce3b4cdd611311c97a4c695f9b76d6c99b627328a8035ac0431540"), looks := false }, kinds := [], alts := [], laidByText := true, laidKinds := [.data, .data, .data, .data, .pinned, .pinned], laidTests := true, laidLooks := .later }
def FnAppend32UptoCardSaid : Prop := Claim7.holds Tryd.pinned (.plain (OpenSpec.upto fnAppend32Spec)) fnAppend32UptoCard

/-- THE SECOND FORM's CARD OF 'laws.FnAppend64'. -/
def fnAppend64UptoCard : Claim7 := { stood := { row := fnAppend64UptoRow, standIns := [], harness := (true, "4dc7807e62ce3b4cdd611311c97a4c695f9b76d6c99b627328a8035ac0431540"), looks := false }, kinds := [], alts := [], laidByText := true, laidKinds := [.data, .data, .data, .data, .pinned, .pinned], laidTests := true, laidLooks := .later }
def FnAppend64UptoCardSaid : Prop := Claim7.holds Tryd.pinned (.plain (OpenSpec.upto fnAppend64Spec)) fnAppend64UptoCard

/-- THE SECOND FORM's CARD OF 'laws.FnAppendTwice'. -/
def fnAppendTwiceUptoCard : Claim7 := { stood := { row := fnAppendTwiceUptoRow, standIns := [], harness := (true, "4dc7807e62ce3b4cdd611311c97a4c695f9b76d6c99b627328a8035ac0431540"), looks := false }, kinds := [], alts := [], laidByText := true, laidKinds := [.data, .data, .data, .data, .pinned, .pinned], laidTests := true, laidLooks := .later }
def FnAppendTwiceUptoCardSaid : Prop := Claim7.holds Tryd.pinned (.plain (OpenSpec.upto fnAppendTwiceSpec)) fnAppendTwiceUptoCard

/-- THE SECOND FORM's CARD OF 'laws.FnComplexJoined'. -/
def fnComplexJoinedUptoCard : Claim7 := { stood := { row := fnComplexJoinedUptoRow, standIns := [], harness := (true, "4dc7807e62ce3b4cdd611311c97a4c695f9b76d6c99b627328a8035ac0431540"), looks := false }, kinds := [], alts := [], laidByText := true, laidKinds := [.data, .data, .data, .data, .pinned, .pinned], laidTests := true, laidLooks := .later }
def FnComplexJoinedUptoCardSaid : Prop := Claim7.holds Tryd.pinned (.plain (OpenSpec.upto fnComplexJoinedSpec)) fnComplexJoinedUptoCard

/-- THE SECOND FORM's CARD OF 'laws.FnComplexJoined32'. -/
def fnComplexJoined32UptoCard : Claim7 := { stood := { row := fnComplexJoined32UptoRow, standIns := [], harness := (true, "4dc7807e62ce3b4cdd611311c97a4c695f9b76d6c99b627328a8035ac0431540"), looks := false }, kinds := [], alts := [], laidByText := true, laidKinds := [.data, .data, .data, .data, .pinned, .pinned], laidTests := true, laidLooks := .later }
def FnComplexJoined32UptoCardSaid : Prop := Claim7.holds Tryd.pinned (.plain (OpenSpec.upto fnComplexJoined32Spec)) fnComplexJoined32UptoCard
end Rows
end Go.Proofs.YtffooimnioigdaaDoor
