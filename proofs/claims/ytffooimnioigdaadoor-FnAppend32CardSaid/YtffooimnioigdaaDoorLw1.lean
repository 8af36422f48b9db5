/-
  Walks: the reference's KindOf, the laws' small functions.
-/
import Derived.Test.YtffooimnioigdaaDoorFm1
namespace Go.Proofs.YtffooimnioigdaaDoor
open Go.RowKit
set_option linter.unusedSimpArgs false
set_option linter.unusedVariables false

def kindB (inf s b : Nat) : Int := if b % s < inf then 0 else if b % s = inf then 1 else 2

theorem kindB_0 {inf s b m : Nat} (hm : b % s = m) (h : m < inf) : kindB inf s b = 0 := by unfold kindB; rw [hm, if_pos h]
theorem kindB_fin {inf s b : Nat} (h : kindB inf s b = 0) : b % s < inf := by
  unfold kindB at h
  by_cases h1 : b % s < inf
  · exact h1
  · rw [if_neg h1] at h
    split at h <;> omega
theorem kindB_1 {inf s b m : Nat} (hm : b % s = m) (h : m = inf) : kindB inf s b = 1 := by unfold kindB; rw [hm, if_neg (by omega), if_pos h]
theorem kindB_2 {inf s b m : Nat} (hm : b % s = m) (h : inf < m) : kindB inf s b = 2 := by unfold kindB; rw [hm, if_neg (by omega), if_neg (by omega)]

theorem u64_andNot_top (n k : Nat) (hn : n < 2 ^ (k + 1)) (hk : k ≤ 63) : bits .andNot .u64 (n : Int) ((2 ^ k : Nat) : Int) = ((n % 2 ^ k : Nat) : Int) := by
  have p : 0 < 2 ^ k := Nat.pow_pos (by omega)
  have hk63 : 2 ^ k ≤ 2 ^ 63 := Nat.pow_le_pow_right (by omega) hk
  have hk64 : 2 ^ (k + 1) ≤ 2 ^ 64 := Nat.pow_le_pow_right (by omega) (by omega)
  have hn64 : n < 18446744073709551616 := by omega
  have h0 : (BitVec.ofInt 64 (n : Int)).toNat = n := by rw [BitVec.toNat_ofInt]; omega
  have h1 : (BitVec.ofInt 64 ((2 ^ k : Nat) : Int)).toNat = 2 ^ k := by rw [BitVec.toNat_ofInt]; omega
  have key : (BitVec.ofInt 64 (n : Int) &&& ~~~ (BitVec.ofInt 64 ((2 ^ k : Nat) : Int))).toNat = n % 2 ^ k := by
    apply Nat.eq_of_testBit_eq
    intro i
    rw [← BitVec.getLsbD, BitVec.getLsbD_and, BitVec.getLsbD_not, BitVec.getLsbD, BitVec.getLsbD, h0, h1, Nat.testBit_mod_two_pow, Nat.testBit_two_pow]
    by_cases hik : i < k
    · have h2 : ¬ k = i := by omega
      have h3 : i < 64 := by omega
      simp [hik, h2, h3]
    · by_cases hie : k = i
      · simp [hie]
      · have h4 : n.testBit i = false := Nat.testBit_lt_two_pow (Nat.lt_of_lt_of_le hn (Nat.pow_le_pow_right (by omega) (by omega)))
        simp [hik, h4]
  have hmod : n % 2 ^ k ≤ n := Nat.mod_le _ _
  show IntKind.u64.wrap ((BitVec.ofInt 64 (n : Int) &&& ~~~ (BitVec.ofInt 64 ((2 ^ k : Nat) : Int))).toNat : Nat) = _
  rw [key, IntKind.wrap_u64]
  omega

theorem bias64_any (w : World) : Calls Tryd.prog 29 #[.int .i64 64] w fun e w' => e = .returned (.int .i64 1023) ∧ w = w' := by
  go_enter Tryd.func29, Tryd.ntmps29
  go_wp2
  go_ret
  exact ⟨rfl, rfl⟩
theorem bias32_any (w : World) : Calls Tryd.prog 29 #[.int .i64 32] w fun e w' => e = .returned (.int .i64 127) ∧ w = w' := by
  go_enter Tryd.func29, Tryd.ntmps29
  go_wp2
  go_ret
  exact ⟨rfl, rfl⟩
theorem frac64_any (w : World) : Calls Tryd.prog 30 #[.int .i64 64] w fun e w' => e = .returned (.int .i64 52) ∧ w = w' := by
  go_enter Tryd.func30, Tryd.ntmps30
  go_wp2
  go_ret
  exact ⟨rfl, rfl⟩
theorem frac32_any (w : World) : Calls Tryd.prog 30 #[.int .i64 32] w fun e w' => e = .returned (.int .i64 23) ∧ w = w' := by
  go_enter Tryd.func30, Tryd.ntmps30
  go_wp2
  go_ret
  exact ⟨rfl, rfl⟩
theorem sign64_any (w : World) : Calls Tryd.prog 22 #[.int .i64 64] w fun e w' => e = .returned (.int .u64 9223372036854775808) ∧ w = w' := by
  go_enter Tryd.func22, Tryd.ntmps22
  go_wp2
  go_ret
  exact ⟨rfl, rfl⟩
theorem sign32_any (w : World) : Calls Tryd.prog 22 #[.int .i64 32] w fun e w' => e = .returned (.int .u64 2147483648) ∧ w = w' := by
  go_enter Tryd.func22, Tryd.ntmps22
  go_wp2
  go_ret
  exact ⟨rfl, rfl⟩
theorem inf64_any (w : World) : Calls Tryd.prog 23 #[.int .i64 64] w fun e w' => e = .returned (.int .u64 9218868437227405312) ∧ w = w' := by
  go_enter Tryd.func23, Tryd.ntmps23
  go_wp2_with (first | (go_at_call 29; refine (bias64_any _).mono ?_; rintro e w' ⟨rfl, rfl⟩) | (go_at_call 30; refine (frac64_any _).mono ?_; rintro e w' ⟨rfl, rfl⟩))
  go_ret
  exact ⟨rfl, rfl⟩
theorem inf32_any (w : World) : Calls Tryd.prog 23 #[.int .i64 32] w fun e w' => e = .returned (.int .u64 2139095040) ∧ w = w' := by
  go_enter Tryd.func23, Tryd.ntmps23
  go_wp2_with (first | (go_at_call 29; refine (bias32_any _).mono ?_; rintro e w' ⟨rfl, rfl⟩) | (go_at_call 30; refine (frac32_any _).mono ?_; rintro e w' ⟨rfl, rfl⟩))
  go_ret
  exact ⟨rfl, rfl⟩

theorem kind64_any (b : Nat) (w : World) (hb : b < 18446744073709551616) : Calls Tryd.prog 11 #[.int .i64 64, .int .u64 (b : Int)] w fun e w' => e = .returned (.int .i64 (kindB 9218868437227405312 9223372036854775808 b)) ∧ w = w' := by
  have hand : bits .andNot .u64 (b : Int) 9223372036854775808 = ((b % 9223372036854775808 : Nat) : Int) := u64_andNot_top b 63 (by omega) (by omega)
  obtain ⟨m, hm⟩ : ∃ m, b % 9223372036854775808 = m := ⟨_, rfl⟩
  rw [hm] at hand
  rcases Nat.lt_trichotomy m 9218868437227405312 with h | h | h
  · have hk := kindB_0 (inf := 9218868437227405312) hm h
    have h1 : (m : Int) < 9218868437227405312 := by omega
    have HK := Lib.hid hk
    clear hk h hm
    go_enter Tryd.func11, Tryd.ntmps11
    go_wp2_with (first | (go_at_call 22; refine (sign64_any _).mono ?_; rintro e w' ⟨rfl, rfl⟩) | (go_at_call 23; refine (inf64_any _).mono ?_; rintro e w' ⟨rfl, rfl⟩))
    go_ret
    exact ⟨by rw [HK.out]; rfl, rfl⟩
  · have hk := kindB_1 (inf := 9218868437227405312) hm h
    have h1 : decide ((m : Int) < 9218868437227405312) = false := by simp; omega
    have h2 : ((m : Int) == 9218868437227405312) = true := by rw [beq_iff_eq]; omega
    have HK := Lib.hid hk
    clear hk h hm
    go_enter Tryd.func11, Tryd.ntmps11
    go_wp2_with (first | (go_at_call 22; refine (sign64_any _).mono ?_; rintro e w' ⟨rfl, rfl⟩) | (go_at_call 23; refine (inf64_any _).mono ?_; rintro e w' ⟨rfl, rfl⟩))
    go_ret
    exact ⟨by rw [HK.out]; rfl, rfl⟩
  · have hk := kindB_2 (inf := 9218868437227405312) hm h
    have h1 : decide ((m : Int) < 9218868437227405312) = false := by simp; omega
    have h2 : ((m : Int) == 9218868437227405312) = false := by rw [beq_eq_false_iff_ne]; omega
    have HK := Lib.hid hk
    clear hk h hm
    go_enter Tryd.func11, Tryd.ntmps11
    go_wp2_with (first | (go_at_call 22; refine (sign64_any _).mono ?_; rintro e w' ⟨rfl, rfl⟩) | (go_at_call 23; refine (inf64_any _).mono ?_; rintro e w' ⟨rfl, rfl⟩))
    go_ret
    exact ⟨by rw [HK.out]; rfl, rfl⟩

theorem kind32_any (b : Nat) (w : World) (hb : b < 4294967296) : Calls Tryd.prog 11 #[.int .i64 32, .int .u64 (b : Int)] w fun e w' => e = .returned (.int .i64 (kindB 2139095040 2147483648 b)) ∧ w = w' := by
  have hand : bits .andNot .u64 (b : Int) 2147483648 = ((b % 2147483648 : Nat) : Int) := u64_andNot_top b 31 (by omega) (by omega)
  obtain ⟨m, hm⟩ : ∃ m, b % 2147483648 = m := ⟨_, rfl⟩
  rw [hm] at hand
  rcases Nat.lt_trichotomy m 2139095040 with h | h | h
  · have hk := kindB_0 (inf := 2139095040) hm h
    have h1 : (m : Int) < 2139095040 := by omega
    have HK := Lib.hid hk
    clear hk h hm
    go_enter Tryd.func11, Tryd.ntmps11
    go_wp2_with (first | (go_at_call 22; refine (sign32_any _).mono ?_; rintro e w' ⟨rfl, rfl⟩) | (go_at_call 23; refine (inf32_any _).mono ?_; rintro e w' ⟨rfl, rfl⟩))
    go_ret
    exact ⟨by rw [HK.out]; rfl, rfl⟩
  · have hk := kindB_1 (inf := 2139095040) hm h
    have h1 : decide ((m : Int) < 2139095040) = false := by simp; omega
    have h2 : ((m : Int) == 2139095040) = true := by rw [beq_iff_eq]; omega
    have HK := Lib.hid hk
    clear hk h hm
    go_enter Tryd.func11, Tryd.ntmps11
    go_wp2_with (first | (go_at_call 22; refine (sign32_any _).mono ?_; rintro e w' ⟨rfl, rfl⟩) | (go_at_call 23; refine (inf32_any _).mono ?_; rintro e w' ⟨rfl, rfl⟩))
    go_ret
    exact ⟨by rw [HK.out]; rfl, rfl⟩
  · have hk := kindB_2 (inf := 2139095040) hm h
    have h1 : decide ((m : Int) < 2139095040) = false := by simp; omega
    have h2 : ((m : Int) == 2139095040) = false := by rw [beq_eq_false_iff_ne]; omega
    have HK := Lib.hid hk
    clear hk h hm
    go_enter Tryd.func11, Tryd.ntmps11
    go_wp2_with (first | (go_at_call 22; refine (sign32_any _).mono ?_; rintro e w' ⟨rfl, rfl⟩) | (go_at_call 23; refine (inf32_any _).mono ?_; rintro e w' ⟨rfl, rfl⟩))
    go_ret
    exact ⟨by rw [HK.out]; rfl, rfl⟩

/-- The seven formats with digits. -/
def isFmt (f : Int) : Bool := f == 101 || f == 69 || f == 102 || f == 103 || f == 71 || f == 120 || f == 88

theorem isFormat_any (f : Int) (w : World) : Calls Tryd.prog 12 #[.int .u8 f] w fun e w' => e = .returned (.bool (isFmt f)) ∧ w = w' := by
  obtain ⟨r, hr⟩ : ∃ r, isFmt f = r := ⟨_, rfl⟩
  rw [hr]
  have HR := Lib.hid hr
  clear hr
  by_cases h1 : f = 101
  · subst h1
    go_enter Tryd.func12, Tryd.ntmps12
    go_wp2
    go_ret
    exact ⟨by rw [← HR.out]; rfl, rfl⟩
  have h1' : (f == 101) = false := by rw [beq_eq_false_iff_ne]; exact h1
  by_cases h2 : f = 69
  · subst h2
    go_enter Tryd.func12, Tryd.ntmps12
    go_wp2
    go_ret
    exact ⟨by rw [← HR.out]; rfl, rfl⟩
  have h2' : (f == 69) = false := by rw [beq_eq_false_iff_ne]; exact h2
  by_cases h3 : f = 102
  · subst h3
    go_enter Tryd.func12, Tryd.ntmps12
    go_wp2
    go_ret
    exact ⟨by rw [← HR.out]; rfl, rfl⟩
  have h3' : (f == 102) = false := by rw [beq_eq_false_iff_ne]; exact h3
  by_cases h4 : f = 103
  · subst h4
    go_enter Tryd.func12, Tryd.ntmps12
    go_wp2
    go_ret
    exact ⟨by rw [← HR.out]; rfl, rfl⟩
  have h4' : (f == 103) = false := by rw [beq_eq_false_iff_ne]; exact h4
  by_cases h5 : f = 71
  · subst h5
    go_enter Tryd.func12, Tryd.ntmps12
    go_wp2
    go_ret
    exact ⟨by rw [← HR.out]; rfl, rfl⟩
  have h5' : (f == 71) = false := by rw [beq_eq_false_iff_ne]; exact h5
  by_cases h6 : f = 120
  · subst h6
    go_enter Tryd.func12, Tryd.ntmps12
    go_wp2
    go_ret
    exact ⟨by rw [← HR.out]; rfl, rfl⟩
  have h6' : (f == 120) = false := by rw [beq_eq_false_iff_ne]; exact h6
  by_cases h7 : f = 88
  · subst h7
    go_enter Tryd.func12, Tryd.ntmps12
    go_wp2
    go_ret
    exact ⟨by rw [← HR.out]; rfl, rfl⟩
  have h7' : (f == 88) = false := by rw [beq_eq_false_iff_ne]; exact h7
  go_enter Tryd.func12, Tryd.ntmps12
  go_wp2
  go_ret
  exact ⟨by rw [← HR.out]; simp [isFmt, h1, h2, h3, h4, h5, h6, h7], rfl⟩

theorem zeroBits_any (b : Nat) (w : World) (hb : b < 18446744073709551616) : Calls Tryd.prog 14 #[.int .u64 (b : Int)] w fun e w' => e = .returned (.bool (decide (b * 2 % 18446744073709551616 = 0))) ∧ w = w' := by
  have h : IntKind.u64.wrap ((b : Int) * 2) = ((b * 2 % 18446744073709551616 : Nat) : Int) := by rw [IntKind.wrap_u64]; omega
  obtain ⟨m, hm⟩ : ∃ m, b * 2 % 18446744073709551616 = m := ⟨_, rfl⟩
  rw [hm] at h ⊢
  have h2 : ((m : Int) == 0) = decide (m = 0) := by rw [Bool.eq_iff_iff]; simp
  go_enter Tryd.func14, Tryd.ntmps14
  go_wp2
  go_ret
  exact ⟨rfl, rfl⟩
end Go.Proofs.YtffooimnioigdaaDoor
