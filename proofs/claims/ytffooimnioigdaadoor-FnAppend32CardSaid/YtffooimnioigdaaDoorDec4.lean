/-
  Walk: rightShift.
-/
import Derived.Test.YtffooimnioigdaaDoorPs
import Derived.Deep.CutBlock
namespace Go.Proofs.YtffooimnioigdaaDoor
open Go.RowKit
set_option linter.unusedSimpArgs false
set_option linter.unusedVariables false

/-- The number that r digits make, zeros behind the last one. -/
def xR (N L r : Nat) : Nat := N * 10 ^ r / 10 ^ L

theorem xR_zero (N L : Nat) (h : N < 10 ^ L) : xR N L 0 = 0 := by unfold xR; rw [Nat.pow_zero, Nat.mul_one, Nat.div_eq_of_lt h]
theorem xR_le (N L r : Nat) (h : r ≤ L) : xR N L r = N / 10 ^ (L - r) := by
  unfold xR
  have e : 10 ^ L = 10 ^ (L - r) * 10 ^ r := by rw [← Nat.pow_add]; congr 1; omega
  rw [e, Nat.mul_div_mul_right _ _ (Nat.pow_pos (by omega))]
theorem xR_ge (N L r : Nat) (h : L ≤ r) : xR N L r = N * 10 ^ (r - L) := by
  unfold xR
  have e : 10 ^ r = 10 ^ (r - L) * 10 ^ L := by rw [← Nat.pow_add]; congr 1; omega
  rw [e, ← Nat.mul_assoc, Nat.mul_div_cancel _ (Nat.pow_pos (by omega))]
theorem xR_succ_lt (N L r : Nat) (h : r < L) : xR N L (r + 1) = xR N L r * 10 + N / 10 ^ (L - 1 - r) % 10 := by
  rw [xR_le _ _ _ (by omega), xR_le _ _ _ (by omega), show L - r = (L - 1 - r) + 1 by omega, Nat.pow_succ, ← Nat.div_div_eq_div_mul, show L - (r + 1) = L - 1 - r by omega]
  omega
theorem xR_succ_ge (N L r : Nat) (h : L ≤ r) : xR N L (r + 1) = xR N L r * 10 := by
  rw [xR_ge _ _ _ (by omega), xR_ge _ _ _ h, show r + 1 - L = (r - L) + 1 by omega, Nat.pow_succ, Nat.mul_assoc]
theorem xR_back (N L r t : Nat) : xR N L r = xR N L (r + t) / 10 ^ t := by
  unfold xR
  rw [Nat.div_div_eq_div_mul, Nat.pow_add, ← Nat.mul_assoc, Nat.mul_div_mul_right _ _ (Nat.pow_pos (by omega))]

theorem mod_step (X B c : Nat) (hB : 0 < B) (hc : c ≤ 9) : X % (10 * B) % B * 10 + c = (X * 10 + c) % (10 * B) := by
  rw [Nat.mod_mod_of_dvd _ (Nat.dvd_mul_left B 10)]
  have h1 := Nat.mod_add_div X B
  have h2 := Nat.mod_lt X hB
  have e : X * 10 + c = X % B * 10 + c + 10 * B * (X / B) := by
    conv => lhs; rw [← h1]
    rw [Nat.add_mul, Nat.mul_assoc 10 B, Nat.mul_comm (B * (X / B)) 10]; omega
  rw [e, Nat.add_mul_mod_self_left, Nat.mod_eq_of_lt (a := X % B * 10 + c) (by omega)]
theorem dig_step (X B : Nat) : X % (10 * B) / B = X / B % 10 := by
  rw [Nat.mul_comm 10 B, Nat.mod_mul_right_div_self]

/-- The quotient's size behind w digits. -/
theorem xR_size (N L B r0 w : Nat) (hB : 0 < B) (h1 : B ≤ xR N L r0) (h2 : xR N L r0 < 10 * B) : 10 ^ w ≤ xR N L (r0 + w) / B ∧ xR N L (r0 + w) / B < 10 ^ (w + 1) := by
  have hb := xR_back N L r0 w
  have p : 0 < 10 ^ w := Nat.pow_pos (by omega)
  generalize xR N L (r0 + w) = X at *
  rw [hb] at h1 h2
  constructor
  · rw [Nat.le_div_iff_mul_le hB, Nat.mul_comm]
    exact (Nat.le_div_iff_mul_le p).1 h1
  · rw [Nat.div_lt_iff_lt_mul hB]
    have := (Nat.div_lt_iff_lt_mul p).1 h2
    rw [Nat.pow_succ, Nat.mul_assoc, Nat.mul_comm (10 ^ w)]
    exact this

theorem xR_mono (N L r t : Nat) : xR N L r ≤ xR N L (r + t) := by
  rw [xR_back N L r t]; exact Nat.div_le_self _ _

/-- While something is left, the digits are no more than those of N * 5^k. -/
theorem xR_w (N L k r0 w : Nat) (h1 : 2 ^ k ≤ xR N L r0) (h2 : xR N L r0 < 10 * 2 ^ k) (hr : r0 + w ≤ L + k) : w < nDig (N * 5 ^ k) := by
  have hB : 0 < 2 ^ k := Nat.pow_pos (by omega)
  have h3 := (xR_size N L (2 ^ k) r0 w hB h1 h2).1
  have h4 := xR_mono N L (r0 + w) (L + k - (r0 + w))
  rw [show r0 + w + (L + k - (r0 + w)) = L + k by omega, xR_ge _ _ _ (Nat.le_add_right L k), Nat.add_sub_cancel_left] at h4
  have h5 : N * 10 ^ k / 2 ^ k = N * 5 ^ k := by
    rw [show (10 : Nat) = 5 * 2 by rfl, Nat.mul_pow, ← Nat.mul_assoc, Nat.mul_div_cancel _ hB]
  have h6 := Nat.div_le_div_right (c := 2 ^ k) h4
  rw [h5] at h6
  have h7 := lt_pow_nDig (N * 5 ^ k)
  exact (Nat.pow_lt_pow_iff_right (by omega : 1 < 10)).1 (Nat.lt_of_le_of_lt (Nat.le_trans h3 h6) h7)

theorem xR_done (N L k r : Nat) (h : L + k + 1 ≤ r) : xR N L r % (10 * 2 ^ k) = 0 := by
  rw [xR_ge _ _ _ (by omega)]
  obtain ⟨t, ht⟩ : ∃ t, r - L = (k + 1) + t := ⟨r - L - (k + 1), by omega⟩
  have e : N * 10 ^ (r - L) = 10 * 2 ^ k * (N * (5 ^ k * 10 ^ t)) := by
    rw [ht, Nat.pow_add, Nat.pow_succ, show (10 : Nat) ^ k = 2 ^ k * 5 ^ k by rw [← Nat.mul_pow]]
    simp only [Nat.mul_assoc, Nat.mul_comm, Nat.mul_left_comm]
  rw [e, Nat.mul_mod_right]

/-- The end of the long division. -/
theorem xR_end (N L k r0 w : Nat) (h0 : xR N L (r0 + w) % (10 * 2 ^ k) = 0) (hr : L + 1 ≤ r0 + w) (hk : r0 + w ≤ L + k + 1) :
    xR N L (r0 + w - 1) / 2 ^ k * 10 ^ (L + k + 1 - (r0 + w)) = N * 5 ^ k := by
  obtain ⟨s, hs⟩ : ∃ s, r0 + w = s + 1 := ⟨r0 + w - 1, by omega⟩
  rw [hs] at h0 hr hk ⊢
  rw [Nat.add_sub_cancel]
  rw [xR_succ_ge _ _ _ (by omega), Nat.mul_comm _ 10, Nat.mul_mod_mul_left] at h0
  have h1 : xR N L s % 2 ^ k = 0 := by omega
  have h2 : xR N L s / 2 ^ k * 2 ^ k = xR N L s := Nat.div_mul_cancel (Nat.dvd_of_mod_eq_zero h1)
  have p : 0 < 2 ^ k := Nat.pow_pos (by omega)
  refine Nat.eq_of_mul_eq_mul_right p ?_
  rw [Nat.mul_right_comm, h2, xR_ge _ _ _ (by omega), Nat.mul_assoc, ← Nat.pow_add, Nat.mul_assoc, show s - L + (L + k + 1 - (s + 1)) = k by omega, show (10 : Nat) = 5 * 2 by rfl, Nat.mul_pow]

theorem xR_digs (N L B r0 w : Nat) (bs : List UInt8) (hl : w ≤ bs.length) (hw : 1 ≤ w) (h : ∀ i, i < w → bs.getD i 0 = UInt8.ofNat (48 + xR N L (r0 + i) / B % 10)) : bs.take w = digs (xR N L (r0 + w - 1) / B) w := by
  refine take_digs bs _ w hl fun j hj => ?_
  rw [h _ (by omega)]
  refine dg_of _ _ _ ?_
  have := xR_back N L (r0 + (w - 1 - j)) j
  rw [show r0 + (w - 1 - j) + j = r0 + w - 1 by omega] at this
  rw [this, Nat.div_div_eq_div_mul, Nat.div_div_eq_div_mul, Nat.mul_comm]

theorem u64_and_mask (n k : Nat) (hk : k ≤ 60) (hn : n < 18446744073709551616) : bits .and .u64 (n : Int) ((2 ^ k : Nat) - 1 : Int) = ((n % 2 ^ k : Nat) : Int) := by
  have p : 0 < 2 ^ k := Nat.pow_pos (by omega)
  have hk60 : 2 ^ k ≤ 2 ^ 60 := Nat.pow_le_pow_right (by omega) hk
  have h := u64_and_nat n (2 ^ k - 1) hn (by omega)
  rw [Nat.and_two_pow_sub_one_eq_mod] at h
  rw [← h]
  congr 1
  omega
end Go.Proofs.YtffooimnioigdaaDoor
