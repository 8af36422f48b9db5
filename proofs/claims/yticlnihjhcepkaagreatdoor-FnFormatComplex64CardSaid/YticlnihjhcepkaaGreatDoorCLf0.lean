/-
  The parts of a number in the reference and in the library.
-/
import Derived.Test.YticlnihjhcepkaaGreatDoorGc
import Derived.Test.YticlnihjhcepkaaGreatDoorGf
namespace Go.Proofs.YticlnihjhcepkaaGreatDoor
open Go.RowKit
set_option linter.unusedSimpArgs false
set_option linter.unusedVariables false

/-- The parts of the bits: of 64 and of 32. -/
def m64 (b : Nat) : Nat := flMant 11 52 b
def e64 (b : Nat) : Int := flExp 11 52 (-1023) b - 52
def m32 (b : Nat) : Nat := flMant 8 23 b
def e32 (b : Nat) : Int := flExp 8 23 (-127) b - 23
theorem m64_is (b : Nat) : (if b % 9223372036854775808 / 4503599627370496 = 0 then b % 9223372036854775808 % 4503599627370496 else b % 9223372036854775808 % 4503599627370496 + 4503599627370496) = m64 b := by
  unfold m64 flMant flE flF
  have h1 : b % 9223372036854775808 / 4503599627370496 = b / 2 ^ 52 % 2 ^ 11 := by omega
  have h2 : b % 9223372036854775808 % 4503599627370496 = b % 2 ^ 52 := by omega
  rw [h1, h2]
theorem e64_is (b : Nat) : (if b % 9223372036854775808 / 4503599627370496 = 0 then 1 else ((b % 9223372036854775808 / 4503599627370496 : Nat) : Int)) - 1023 - 52 = e64 b := by
  unfold e64 flExp flE
  have h1 : b % 9223372036854775808 / 4503599627370496 = b / 2 ^ 52 % 2 ^ 11 := by omega
  rw [h1]
  rfl
theorem m32_is (b : Nat) : (if b % 2147483648 / 8388608 = 0 then b % 2147483648 % 8388608 else b % 2147483648 % 8388608 + 8388608) = m32 b := by
  unfold m32 flMant flE flF
  have h1 : b % 2147483648 / 8388608 = b / 2 ^ 23 % 2 ^ 8 := by omega
  have h2 : b % 2147483648 % 8388608 = b % 2 ^ 23 := by omega
  rw [h1, h2]
theorem e32_is (b : Nat) : (if b % 2147483648 / 8388608 = 0 then 1 else ((b % 2147483648 / 8388608 : Nat) : Int)) - 127 - 23 = e32 b := by
  unfold e32 flExp flE
  have h1 : b % 2147483648 / 8388608 = b / 2 ^ 23 % 2 ^ 8 := by omega
  rw [h1]
  rfl
theorem neg64_is (b : Nat) (hb : b < 18446744073709551616) : flNeg 11 52 b = decide (9223372036854775808 ≤ b) := by
  unfold flNeg
  rw [decide_eq_decide]
  omega
theorem neg32_is (b : Nat) (hb : b < 4294967296) : flNeg 8 23 b = decide (2147483648 ≤ b) := by
  unfold flNeg
  rw [decide_eq_decide]
  omega
theorem fin64_E (b : Nat) (h : b % 9223372036854775808 < 9218868437227405312) : flE 11 52 b ≠ 2 ^ 11 - 1 := by unfold flE; omega
theorem fin32_E (b : Nat) (h : b % 2147483648 < 2139095040) : flE 8 23 b ≠ 2 ^ 8 - 1 := by unfold flE; omega
theorem m64_lt (b : Nat) : m64 b < 2 ^ 53 := by unfold m64 flMant flF; split <;> omega
theorem m32_lt (b : Nat) : m32 b < 2 ^ 24 := by unfold m32 flMant flF; split <;> omega
theorem e64_bd (b : Nat) (h : b % 9223372036854775808 < 9218868437227405312) : -1074 ≤ e64 b ∧ e64 b ≤ 971 := by
  have := fin64_E b h
  unfold e64 flExp flE at *
  split <;> omega
theorem e32_bd (b : Nat) (h : b % 2147483648 < 2139095040) : -149 ≤ e32 b ∧ e32 b ≤ 104 := by
  have := fin32_E b h
  unfold e32 flExp flE at *
  split <;> omega
end Go.Proofs.YticlnihjhcepkaaGreatDoor
