/-
  DERIVED. GIVEN WITH THE SEED: THE CARDS: each row of YticlnihjhcepkaaDoorRows.lean that lists a variable, with what it lists TIED to the program's text (the seventh form; the later family's looks); each row that meets fmt, with fmt's text TOLD by the authors' own Lean function (tested against real Go, not proved from fmt's source: count such statements apart). THE CARD IS WHAT COUNTS. Prove the row's statement (the work); the ties are given (YticlnihjhcepkaaDoorTie.lean); close each card by the builder's one call (the guide's Derived/Test/ToyasCard.lean, 'card_holds'). Laid BY PROGRAM, IN A SANDBOX (cutbox-door.mjs). By AI agents, Wed Nov 11 2026. No macro, syntax, notation, axiom, sorry.
-/
import Derived.Test.YticlnihjhcepkaaDoorRows
import GoSem.ClaimSeven
namespace Go.Proofs.YticlnihjhcepkaaDoor
namespace Rows

/-- THE TIED CARD OF 'laws.FnG64'. -/
def fnG64Card : Claim7 := { stood := { row := fnG64Row, standIns := [], harness := (true, "94e360c022fe68471d7f56fb9e10ca8e5039f1df9ef6c67f5a9da7ebab5bdb1e"), looks := false }, kinds := [], alts := [], laidByText := true, laidKinds := [.data, .data, .data, .data, .pinned, .pinned], laidTests := true, laidLooks := .later }
def FnG64CardSaid : Prop := Claim7.holds Tryd.pinned (.plain (OpenSpec.ofChange fnG64Spec)) fnG64Card

/-- THE TIED CARD OF 'laws.FnG32'. -/
def fnG32Card : Claim7 := { stood := { row := fnG32Row, standIns := [], harness := (true, "94e360c022fe68471d7f56fb9e10ca8e5039f1df9ef6c67f5a9da7ebab5bdb1e"), looks := false }, kinds := [], alts := [], laidByText := true, laidKinds := [.data, .data, .data, .data, .pinned, .pinned], laidTests := true, laidLooks := .later }
def FnG32CardSaid : Prop := Claim7.holds Tryd.pinned (.plain (OpenSpec.ofChange fnG32Spec)) fnG32Card

/-- THE TIED CARD OF 'laws.FnHalves32'. -/
def fnHalves32Card : Claim7 := { stood := { row := fnHalves32Row, standIns := [], harness := (true, "94e360c022fe68471d7f56fb9e10ca8e5039f1df9ef6c67f5a9da7ebab5bdb1e"), looks := false }, kinds := [], alts := [], laidByText := true, laidKinds := [.data, .data, .data, .data, .pinned, .pinned], laidTests := true, laidLooks := .later }
def FnHalves32CardSaid : Prop := Claim7.holds Tryd.pinned (.plain (OpenSpec.ofChange fnHalves32Spec)) fnHalves32Card

/-- THE TIED CARD OF 'laws.FnShort64'. -/
def fnShort64Card : Claim7 := { stood := { row := fnShort64Row, standIns := [], harness := (true, "94e360c022fe68471d7f56fb9e10ca8e5039f1df9ef6c67f5a9da7ebab5bdb1e"), looks := false }, kinds := [], alts := [], laidByText := true, laidKinds := [.data, .data, .data, .data, .pinned, .pinned], laidTests := true, laidLooks := .later }
def FnShort64CardSaid : Prop := Claim7.holds Tryd.pinned (.plain (OpenSpec.ofChange fnShort64Spec)) fnShort64Card

/-- THE TIED CARD OF 'laws.FnShort32'. -/
def fnShort32Card : Claim7 := { stood := { row := fnShort32Row, standIns := [], harness := (true, "94e360c022fe68471d7f56fb9e10ca8e5039f1df9ef6c67f5a9da7ebab5bdb1e"), looks := false }, kinds := [], alts := [], laidByText := true, laidKinds := [.data, .data, .data, .data, .pinned, .pinned], laidTests := true, laidLooks := .later }
def FnShort32CardSaid : Prop := Claim7.holds Tryd.pinned (.plain (OpenSpec.ofChange fnShort32Spec)) fnShort32Card

/-- THE SECOND FORM's CARD OF 'laws.FnG64'. -/
def fnG64UptoCard : Claim7 := { stood := { row := fnG64UptoRow, standIns := [], harness := (true, "94e360c022fe68471d7f56fb9e10ca8e5039f1df9ef6c67f5a9da7ebab5bdb1e"), looks := false }, kinds := [], alts := [], laidByText := true, laidKinds := [.data, .data, .data, .data, .pinned, .pinned], laidTests := true, laidLooks := .later }
def FnG64UptoCardSaid : Prop := Claim7.holds Tryd.pinned (.plain (OpenSpec.upto fnG64Spec)) fnG64UptoCard

/-- THE SECOND FORM's CARD OF 'laws.FnG32'. -/
def fnG32UptoCard : Claim7 := { stood := { row := fnG32UptoRow, standIns := [], harness := (true, "94e360c022fe68471d7f56fb9e10ca8e5039f1df9ef6c67f5a9da7ebab5bdb1e"), looks := false }, kinds := [], alts := [], laidByText := true, laidKinds := [.data, .data, .data, .data, .pinned, .pinned], laidTests := true, laidLooks := .later }
def FnG32UptoCardSaid : Prop := Claim7.holds Tryd.pinned (.plain (OpenSpec.upto fnG32Spec)) fnG32UptoCard

/-- THE SECOND FORM's CARD OF 'laws.FnHalves32'. -/
def fnHalves32UptoCard : Claim7 := { stood := { row := fnHalves32UptoRow, standIns := [], harness := (true, "94e360c022fe68471d7f56fb9e10ca8e5039f1df9ef6c67f5a9da7ebab5bdb1e"), looks := false }, kinds := [], alts := [], laidByText := true, laidKinds := [.data, .data, .data, .data, .pinned, .pinned], laidTests := true, laidLooks := .later }
def FnHalves32UptoCardSaid : Prop := Claim7.holds Tryd.pinned (.plain (OpenSpec.upto fnHalves32Spec)) fnHalves32UptoCard

/-- THE SECOND FORM's CARD OF 'laws.FnShort64'. -/
def fnShort64UptoCard : Claim7 := { stood := { row := fnShort64UptoRow, standIns := [], harness := (true, "94e360c022fe68471d7f56fb9e10ca8e5039f1df9ef6c67f5a9da7ebab5bdb1e"), looks := false }, kinds := [], alts := [], laidByText := true, laidKinds := [.data, .data, .data, .data, .pinned, .pinned], laidTests := true, laidLooks := .later }
def FnShort64UptoCardSaid : Prop := Claim7.holds Tryd.pinned (.plain (OpenSpec.upto fnShort64Spec)) fnShort64UptoCard

/-- THE SECOND FORM's CARD OF 'laws.FnShort32'. -/
def fnShort32UptoCard : Claim7 := { stood := { row := fnShort32UptoRow, standIns := [], harness := (true, "94e360c022fe68471d7f56fb9e10ca8e5039f1df9ef6c67f5a9da7ebab5bdb1e"), looks := false }, kinds := [], alts := [], laidByText := true, laidKinds := [.data, .data, .data, .data, .pinned, .pinned], laidTests := true, laidLooks := .later }
def FnShort32UptoCardSaid : Prop := Claim7.holds Tryd.pinned (.plain (OpenSpec.upto fnShort32Spec)) fnShort32UptoCard
end Rows
end Go.Proofs.YticlnihjhcepkaaDoor
