/-
  Rational numbers in memory; a byte of a string.
-/
import Derived.Test.YticlnihjhcepkaaGreatDoorGc
namespace Go.Proofs.YticlnihjhcepkaaGreatDoor
open Go.RowKit
set_option linter.unusedSimpArgs false
set_option linter.unusedVariables false

theorem str_idx (s : List UInt8) (i : Nat) (hi : i < s.length) : ∀ h : i < (⟨s.toArray⟩ : ByteArray).size, (⟨s.toArray⟩ : ByteArray)[i]'h = s.getD i 0 := by
  intro h
  rw [List.getD_eq_getElem?_getD, List.getElem?_eq_getElem hi]
  rfl

def ratZ : List Value := [.bool false, .slice none 0 0, .slice none 0 0]
/-- A rational number in memory. -/
def RatV (w : World) (v : Value) (neg : Bool) (n d : Nat) : Prop := ∃ vn vd, v = .agg #[.bool neg, vn, vd] ∧ NatV w vn n ∧ NatV w vd d
/-- The same in a block. -/
def RatR (w : World) (D : Nat) (neg : Bool) (n d : Nat) : Prop := ∃ vn vd, Row w D [.bool neg, vn, vd] ∧ NatV w vn n ∧ NatV w vd d

theorem set3_nat {w : World} {D : Nat} {v : Value} {n : Nat} {f : Bool} {x y : Value} (hr : Row w D [.bool f, x, y]) (h : NatV w v n) (u0 : Bool) (u1 u2 : Value) :
    NatV (((w.setCell ⟨D, 0, none⟩ (.bool u0)).setCell ⟨D, 1, none⟩ u1).setCell ⟨D, 2, none⟩ u2) v n := by
  refine NatV.setB (f := u0) (NatV.setB (f := u0) (NatV.setB (f := f) h ?_) ?_) ?_
  · exact hr.cell 0
  · exact (hr.setCell 0 (.bool u0)).cell 0
  · exact ((hr.setCell 0 (.bool u0)).setCell 1 u1).cell 0
theorem set3_row {w : World} {D : Nat} {x y z : Value} (hr : Row w D [x, y, z]) (u0 u1 u2 : Value) :
    Row (((w.setCell ⟨D, 0, none⟩ u0).setCell ⟨D, 1, none⟩ u1).setCell ⟨D, 2, none⟩ u2) D [u0, u1, u2] := ((hr.setCell 0 u0).setCell 1 u1).setCell 2 u2
theorem set3_other {w : World} {D B : Nat} {xs : List Value} (hr : Row w B xs) (hne : B ≠ D) (u0 u1 u2 : Value) :
    Row (((w.setCell ⟨D, 0, none⟩ u0).setCell ⟨D, 1, none⟩ u1).setCell ⟨D, 2, none⟩ u2) B xs := ((hr.setCell_other (a := ⟨D, 0, none⟩) hne u0).setCell_other (a := ⟨D, 1, none⟩) hne u1).setCell_other (a := ⟨D, 2, none⟩) hne u2
theorem grown_set3 {w w1 : World} (h : w.grownBy w1 none) {B : Nat} (hB : w.heap.size ≤ B) (u0 u1 u2 : Value) :
    w.grownBy (((w1.setCell ⟨B, 0, none⟩ u0).setCell ⟨B, 1, none⟩ u1).setCell ⟨B, 2, none⟩ u2) none := grown_setN (grown_setN (grown_setN h _ hB) _ hB) _ hB

end Go.Proofs.YticlnihjhcepkaaGreatDoor
