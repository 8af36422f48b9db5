/-
  Plain: the exact decimal's value and place.
-/
import Derived.Test.YticlnihjhcepkaaGreatDoorGf
import Derived.Test.YticlnihjhcepkaaGreatDoorGa
namespace Go.Proofs.YticlnihjhcepkaaGreatDoor
open Go.RowKit
set_option linter.unusedSimpArgs false
set_option linter.unusedVariables false

theorem natL_ten {n j : Nat} (h : n < 10 ^ j) : (natL n).length ≤ j := natL_len_le (Nat.lt_of_lt_of_le h (Nat.pow_le_pow_left (by decide) _))

theorem nDig_pow (v k n : Nat) (h0 : v ≠ 0) (hv : nDig v = n) : nDig (v * 10 ^ k) = n + k := by
  induction k with
  | zero => simpa using hv
  | succ k ih =>
    rw [Nat.pow_succ, ← Nat.mul_assoc, nDig_mul10 (Nat.mul_ne_zero h0 (Nat.ne_of_gt (Nat.pow_pos (by omega)))), ih]
    omega

theorem nDig_ge {a k : Nat} (h : 10 ^ k ≤ a) : k < nDig a := by
  have h2 := lt_pow_nDig a
  exact (Nat.pow_lt_pow_iff_right (by omega : 1 < 10)).1 (Nat.lt_of_le_of_lt h h2)
theorem nDig_lt {a k : Nat} (h : a < 10 ^ k) : nDig a ≤ k := by
  by_cases h0 : a = 0
  · subst h0; rw [nDig_zero]; omega
  · have h2 := nDig_low h0
    have h3 := (Nat.pow_lt_pow_iff_right (by omega : 1 < 10)).1 (Nat.lt_of_le_of_lt h2 h)
    omega

/-- The exact decimal is the value. -/
theorem slowN_val (m : Nat) (e : Int) (hm0 : m ≠ 0) : (0 ≤ e → 0 ≤ (slowN m e).2 ∧ (slowN m e).1 * 10 ^ (slowN m e).2.toNat = m * 2 ^ e.toNat ∧ (slowN m e).2 + nDig (slowN m e).1 = nDig (m * 2 ^ e.toNat)) ∧
    (e < 0 → 0 ≤ (slowN m e).2 - e ∧ (slowN m e).1 * 10 ^ ((slowN m e).2 - e).toNat = m * 5 ^ (-e).toNat ∧ (slowN m e).2 + nDig (slowN m e).1 = nDig (m * 5 ^ (-e).toNat) + e) := by
  unfold slowN shD
  constructor
  · intro h
    rw [if_pos h]
    dsimp only
    have hM0 : m * 2 ^ e.toNat ≠ 0 := Nat.mul_ne_zero hm0 (Nat.ne_of_gt (Nat.pow_pos (by omega)))
    have h1 := core_mul m (2 ^ e.toNat) hm0 (Nat.ne_of_gt (Nat.pow_pos (by omega)))
    have h2 := core_spec (m * 2 ^ e.toNat) hM0
    have h3 := nDig_core (m * 2 ^ e.toNat) hM0
    rw [h1.1]
    refine ⟨by omega, ?_, by omega⟩
    rw [show ((tz m : Int) + (tz (core m * 2 ^ e.toNat) : Int)).toNat = tz (m * 2 ^ e.toNat) by omega]
    exact h2.1
  · intro h
    rw [if_neg (by omega)]
    dsimp only
    have hM0 : m * 5 ^ (-e).toNat ≠ 0 := Nat.mul_ne_zero hm0 (Nat.ne_of_gt (Nat.pow_pos (by omega)))
    have h1 := core_mul m (5 ^ (-e).toNat) hm0 (Nat.ne_of_gt (Nat.pow_pos (by omega)))
    have h2 := core_spec (m * 5 ^ (-e).toNat) hM0
    have h3 := nDig_core (m * 5 ^ (-e).toNat) hM0
    rw [h1.1]
    refine ⟨by omega, ?_, by omega⟩
    rw [show ((tz m : Int) + e + (tz (core m * 5 ^ (-e).toNat) : Int) - e).toNat = tz (m * 5 ^ (-e).toNat) by omega]
    exact h2.1

theorem slowN_dp (m : Nat) (e : Int) (hm0 : m ≠ 0) (hm : m < 2 ^ 53) (he1 : -1074 ≤ e) (he2 : e ≤ 971) : -380 ≤ (slowN m e).2 + nDig (slowN m e).1 ∧ (slowN m e).2 + nDig (slowN m e).1 ≤ 380 := by
  obtain ⟨hp, hn⟩ := slowN_val m e hm0
  by_cases h : 0 ≤ e
  · rw [(hp h).2.2]
    have := nDig_two_pow (53 + e.toNat) (m * 2 ^ e.toNat) (by rw [Nat.pow_add]; exact Nat.mul_lt_mul_of_pos_right hm (Nat.pow_pos (by omega))) (by omega)
    omega
  · rw [(hn (by omega)).2.2]
    obtain ⟨n, hn'⟩ : ∃ n, (-e).toNat = n := ⟨_, rfl⟩
    rw [hn']
    have hn2 : n ≤ 1074 := by omega
    have h2n : 2 ^ n ≤ 10 ^ (n / 3) * 8 := by
      have h1 : (2 : Nat) ^ n = 2 ^ (3 * (n / 3)) * 2 ^ (n % 3) := by rw [← Nat.pow_add]; congr 1; omega
      have h2 : (2 : Nat) ^ (3 * (n / 3)) ≤ 10 ^ (n / 3) := by rw [Nat.pow_mul]; exact Nat.pow_le_pow_left (by decide) _
      have h3 : (2 : Nat) ^ (n % 3) ≤ 2 ^ 3 := Nat.pow_le_pow_right (by omega) (by omega)
      rw [h1]
      exact Nat.mul_le_mul h2 (by omega)
    have h10 : (10 : Nat) ^ n = 5 ^ n * 2 ^ n := by rw [← Nat.mul_pow]
    constructor
    · -- from below
      by_cases h370 : n ≤ 370
      · omega
      · have hge : 10 ^ (n - n / 3 - 1) ≤ m * 5 ^ n := by
          have h4 : 10 ^ (n / 3 + 1) * 10 ^ (n - n / 3 - 1) = 10 ^ n := by rw [← Nat.pow_add]; congr 1; omega
          have h5 : 10 ^ n ≤ 10 ^ (n / 3 + 1) * 5 ^ n := by
            rw [h10, Nat.pow_succ, Nat.mul_comm (5 ^ n)]
            exact Nat.mul_le_mul_right _ (by omega)
          have h6 : 10 ^ (n - n / 3 - 1) ≤ 5 ^ n := by
            rw [← h4] at h5
            exact Nat.le_of_mul_le_mul_left h5 (Nat.pow_pos (by omega))
          exact Nat.le_trans h6 (Nat.le_mul_of_pos_left _ (by omega))
        have := nDig_ge hge
        omega
    · have hlt : m * 5 ^ n < 10 ^ (n + 16) := by
        have h5 : m * 5 ^ n < 2 ^ 53 * 5 ^ n := Nat.mul_lt_mul_of_pos_right hm (Nat.pow_pos (by omega))
        have h6 : 5 ^ n ≤ 10 ^ n := Nat.pow_le_pow_left (by omega) _
        rw [Nat.pow_add, Nat.mul_comm (10 ^ n)]
        exact Nat.lt_of_lt_of_le h5 (Nat.mul_le_mul (by decide) h6)
      have := nDig_lt hlt
      omega

end Go.Proofs.YticlnihjhcepkaaGreatDoor
