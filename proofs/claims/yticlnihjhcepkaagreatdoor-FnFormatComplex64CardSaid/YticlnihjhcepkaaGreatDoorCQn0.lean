/-
  Plain: the nearest number of a size, as the reference finds it.
-/
import Derived.Test.YticlnihjhcepkaaGreatDoorGp
import Derived.Test.YticlnihjhcepkaaGreatDoorGa
namespace Go.Proofs.YticlnihjhcepkaaGreatDoor
open Go.RowKit
set_option linter.unusedSimpArgs false
set_option linter.unusedVariables false

/-- Two to the power of k is at most a/b. -/
def le2 (a b : Nat) (k : Int) : Prop := b * 2 ^ k.toNat ≤ a * 2 ^ (-k).toNat
instance (a b : Nat) (k : Int) : Decidable (le2 a b k) := by unfold le2; exact inferInstance
/-- The place of the first binary digit. -/
def ordB (a b : Nat) : Int := if le2 a b ((nbits a : Int) - nbits b) then (nbits a : Int) - nbits b else (nbits a : Int) - nbits b - 1
theorem p2 (k : Nat) : 0 < 2 ^ k := Nat.two_pow_pos k

theorem le2_scale {a b : Nat} {k j : Int} {n : Nat} (hn : k + j = (n : Int)) : le2 a b k ↔ 2 ^ n * (b * 2 ^ (-j).toNat) ≤ a * 2 ^ j.toNat := by
  unfold le2
  refine le_of_scale (p2 j.toNat) (p2 (-k).toNat) ?_ ?_
  · rw [Nat.mul_assoc, ← Nat.pow_add, Nat.mul_left_comm, ← Nat.pow_add, Nat.mul_assoc, ← Nat.pow_add]
    congr 2; omega
  · rw [Nat.mul_assoc, ← Nat.pow_add, Nat.mul_assoc, ← Nat.pow_add]
    congr 2; omega

theorem le2_cross {a b c d : Nat} (hb : 0 < b) (hd : 0 < d) (h : a * d = c * b) (k : Int) : le2 a b k ↔ le2 c d k := by
  unfold le2
  refine le_of_scale hd hb ?_ ?_
  · ac_rfl
  · rw [Nat.mul_right_comm, h, Nat.mul_right_comm]
theorem le2_mono {a b : Nat} {k j : Int} (h : j ≤ k) (hk : le2 a b k) : le2 a b j := by
  unfold le2 at *
  have h1 : b * 2 ^ j.toNat * 2 ^ (-k).toNat ≤ b * 2 ^ k.toNat * 2 ^ (-j).toNat := by
    rw [Nat.mul_assoc, ← Nat.pow_add, Nat.mul_assoc, ← Nat.pow_add]
    exact Nat.mul_le_mul_left _ (Nat.pow_le_pow_right (by omega) (by omega))
  have h2 := Nat.mul_le_mul_right (2 ^ (-j).toNat) hk
  have h3 : b * 2 ^ j.toNat * 2 ^ (-k).toNat ≤ a * 2 ^ (-j).toNat * 2 ^ (-k).toNat := by
    rw [Nat.mul_right_comm a]
    exact Nat.le_trans h1 h2
  exact Nat.le_of_mul_le_mul_right h3 (p2 _)
theorem le2_unique {a b : Nat} {k j : Int} (h1 : le2 a b k) (h2 : ¬ le2 a b (k + 1)) (h3 : le2 a b j) (h4 : ¬ le2 a b (j + 1)) : k = j := by
  rcases Int.lt_trichotomy k j with h | h | h
  · exact absurd (le2_mono (by omega) h3) h2
  · exact h
  · exact absurd (le2_mono (by omega) h1) h4

theorem ordB_spec (a b : Nat) (ha : a ≠ 0) (hb : b ≠ 0) : le2 a b (ordB a b) ∧ ¬ le2 a b (ordB a b + 1) := by
  have a1 := nbits_le ha
  have a2 := nbits_lt a
  have b1 := nbits_le hb
  have b2 := nbits_lt b
  have hup : ¬ le2 a b ((nbits a : Int) - nbits b + 1) := by
    rw [le2_scale (j := (nbits b : Int) - 1) (n := nbits a) (by omega)]
    have hp := nbits_pos hb
    rw [show ((nbits b : Int) - 1).toNat = nbits b - 1 by omega, show (-((nbits b : Int) - 1)).toNat = 0 by omega, Nat.pow_zero, Nat.mul_one, Nat.not_le, Nat.mul_comm (2 ^ nbits a)]
    exact Nat.lt_of_lt_of_le (Nat.mul_lt_mul_of_pos_right a2 (p2 _)) (by rw [Nat.mul_comm]; exact Nat.mul_le_mul_right _ b1)
  have hlo : le2 a b ((nbits a : Int) - nbits b - 1) := by
    have hp := nbits_pos ha
    rw [le2_scale (j := (nbits b : Int)) (n := nbits a - 1) (by omega)]
    rw [show ((nbits b : Int)).toNat = nbits b by omega, show (-((nbits b : Int))).toNat = 0 by omega, Nat.pow_zero, Nat.mul_one]
    exact Nat.mul_le_mul a1 (Nat.le_of_lt b2)
  unfold ordB
  split
  · next h => exact ⟨h, hup⟩
  · next h => exact ⟨hlo, by rw [Int.sub_add_cancel]; exact h⟩

theorem ordB_is {a b : Nat} {k : Int} (ha : a ≠ 0) (hb : b ≠ 0) (h1 : le2 a b k) (h2 : ¬ le2 a b (k + 1)) : ordB a b = k :=
  le2_unique (ordB_spec a b ha hb).1 (ordB_spec a b ha hb).2 h1 h2

/-- a/b by two to the power of e, rounded. -/
def rB (a b : Nat) (e : Int) : Nat := rndE (a * 2 ^ (-e).toNat) (b * 2 ^ e.toNat)
/-- The exponent of two of the last place. -/
def nearE (f bias : Int) (a b : Nat) : Int := if a = 0 then 1 - bias - f else max (1 - bias - f) (ordB a b - f)
/-- The bits of the nearest number, without the sign. -/
def nearB (f bias : Int) (inf : Nat) (a b : Nat) : Nat :=
  if nearE f bias a b ≤ bias - f then (nearE f bias a b - (1 - bias - f)).toNat * 2 ^ f.toNat + rB a b (nearE f bias a b) else inf

theorem rB_le (a b : Nat) (f bias : Int) (hb : b ≠ 0) (hf : 0 ≤ f) : rB a b (nearE f bias a b) ≤ 2 ^ (f.toNat + 1) := by
  unfold rB nearE
  by_cases h0 : a = 0
  · subst h0
    refine rndE_le (Nat.mul_pos (by omega) (p2 _)) ?_
    rw [Nat.zero_mul]; exact Nat.zero_le _
  · rw [if_neg h0]
    obtain ⟨h1, h2⟩ := ordB_spec a b h0 hb
    generalize ordB a b = k at *
    obtain ⟨e, he⟩ : ∃ e, max (1 - bias - f) (k - f) = e := ⟨_, rfl⟩
    rw [he]
    have h3 : ¬ le2 a b (e + f + 1) := fun h => h2 (le2_mono (by omega) h)
    rw [le2_scale (j := -e) (n := f.toNat + 1) (by omega), Int.neg_neg, Nat.not_le] at h3
    exact rndE_le (Nat.mul_pos (by omega) (p2 _)) (Nat.le_of_lt h3)
end Go.Proofs.YticlnihjhcepkaaGreatDoor
