/-
  Plain: a number without the zeros at its end; what trim leaves of digits.
-/
import Derived.Test.YtffooimnioigdaaDoorDec3
namespace Go.Proofs.YtffooimnioigdaaDoor
open Go.RowKit
set_option linter.unusedSimpArgs false
set_option linter.unusedVariables false

/-- The number of zeros at the end. -/
def tz (M : Nat) : Nat := if M % 10 = 0 ∧ M ≠ 0 then tz (M / 10) + 1 else 0
termination_by M
decreasing_by omega

/-- The number without the zeros at its end. -/
def core (M : Nat) : Nat := M / 10 ^ tz M

theorem tz_yes {M : Nat} (h : M % 10 = 0) (h0 : M ≠ 0) : tz M = tz (M / 10) + 1 := by rw [tz, if_pos ⟨h, h0⟩]
theorem tz_no {M : Nat} (h : M % 10 ≠ 0) : tz M = 0 := by rw [tz, if_neg (fun e => h e.1)]
theorem core_yes {M : Nat} (h : M % 10 = 0) (h0 : M ≠ 0) : core M = core (M / 10) := by
  unfold core; rw [tz_yes h h0, Nat.pow_succ, Nat.mul_comm, Nat.div_div_eq_div_mul]
theorem core_no {M : Nat} (h : M % 10 ≠ 0) : core M = M := by unfold core; rw [tz_no h]; simp

theorem core_spec (M : Nat) (h0 : M ≠ 0) : core M * 10 ^ tz M = M ∧ core M % 10 ≠ 0 := by
  induction M using Nat.strongRecOn with
  | _ M ih =>
    by_cases h : M % 10 = 0
    · have h1 := ih (M / 10) (by omega) (by omega)
      rw [core_yes h h0, tz_yes h h0, Nat.pow_succ, ← Nat.mul_assoc, h1.1]
      exact ⟨by omega, h1.2⟩
    · rw [core_no h, tz_no h]; simp; omega

theorem core_ne (M : Nat) (h0 : M ≠ 0) : core M ≠ 0 := by
  have := (core_spec M h0).2; intro e; rw [e] at this; simp at this

theorem core_unique {A B a b : Nat} (h : A * 10 ^ a = B * 10 ^ b) (hA : A % 10 ≠ 0) (hB : B % 10 ≠ 0) : A = B ∧ a = b := by
  induction a generalizing b with
  | zero =>
    cases b with
    | zero => simp at h; exact ⟨h, rfl⟩
    | succ b => rw [Nat.pow_zero, Nat.mul_one, Nat.pow_succ, ← Nat.mul_assoc] at h; omega
  | succ a ih =>
    cases b with
    | zero => rw [Nat.pow_zero, Nat.mul_one, Nat.pow_succ, ← Nat.mul_assoc] at h; omega
    | succ b =>
      rw [Nat.pow_succ, Nat.pow_succ, ← Nat.mul_assoc, ← Nat.mul_assoc] at h
      have := ih (Nat.eq_of_mul_eq_mul_right (by omega) h)
      exact ⟨this.1, by rw [this.2]⟩

theorem core_of {A a M : Nat} (h : A * 10 ^ a = M) (hA : A % 10 ≠ 0) : core M = A ∧ tz M = a := by
  have h0 : M ≠ 0 := by
    rw [← h]
    exact Nat.mul_ne_zero (by intro e; rw [e] at hA; simp at hA) (Nat.ne_of_gt (Nat.pow_pos (by omega)))
  have := core_spec M h0
  exact core_unique (this.1.trans h.symm) this.2 hA

theorem nDig_core (M : Nat) (h0 : M ≠ 0) : nDig (core M) + tz M = nDig M := by
  induction M using Nat.strongRecOn with
  | _ M ih =>
    by_cases h : M % 10 = 0
    · have h1 := ih (M / 10) (by omega) (by omega)
      have h2 := nDig_mul10 (d := M / 10) (by omega)
      rw [show M / 10 * 10 = M by omega] at h2
      rw [core_yes h h0, tz_yes h h0]; omega
    · rw [core_no h, tz_no h, Nat.add_zero]

theorem dg_zero_iff (M : Nat) : Lib.dg M 0 = 48 ↔ M % 10 = 0 := by
  have := dg_toNat M 0
  rw [Nat.pow_zero, Nat.div_one] at this
  constructor
  · intro e; rw [e] at this; have h : (48 : UInt8).toNat = 48 := by decide
    omega
  · intro e; apply UInt8.toNat_inj.1; rw [this, e]; rfl

theorem take_of_succ (l : List UInt8) (M n : Nat) (h : l.take (n + 1) = digs M (n + 1)) : l.take n = digs (M / 10) n ∧ l.getD n 0 = Lib.dg M 0 := by
  constructor
  · have h1 : (l.take (n + 1)).take n = (digs M (n + 1)).take n := by rw [h]
    rw [List.take_take, Nat.min_eq_left (by omega), digs_succ, List.take_append_of_le_length (by rw [digs_length]; omega), List.take_of_length_le (l := digs (M / 10) n) (by rw [digs_length]; omega)] at h1
    exact h1
  · have := digs_get l M (n + 1) h n (by omega)
    rw [this]; congr 1; omega

/-- What trim leaves. -/
theorem trimZ_core (bs : List UInt8) (M : Nat) (h0 : M ≠ 0) (h : bs.take (nDig M) = digs M (nDig M)) :
    trimZ bs (nDig M) = nDig (core M) ∧ bs.take (nDig (core M)) = digs (core M) (nDig (core M)) := by
  induction M using Nat.strongRecOn with
  | _ M ih =>
    obtain ⟨n, hn⟩ : ∃ n, nDig M = n + 1 := ⟨nDig M - 1, by have := nDig_pos h0; omega⟩
    by_cases hz : M % 10 = 0
    · have h2 := nDig_mul10 (d := M / 10) (by omega)
      rw [show M / 10 * 10 = M by omega, hn] at h2
      have h3 : nDig (M / 10) = n := by omega
      rw [hn] at h
      have h4 := take_of_succ bs M n h
      have h1 := ih (M / 10) (by omega) (by omega) (by rw [h3]; exact h4.1)
      rw [core_yes hz h0, hn, trimZ, if_pos (by rw [h4.2, dg_zero_iff]; exact hz), ← h3]
      exact h1
    · rw [core_no hz]
      refine ⟨?_, h⟩
      rw [hn] at h ⊢
      have h4 := take_of_succ bs M n h
      rw [trimZ, if_neg (by rw [h4.2, dg_zero_iff]; exact hz)]

theorem nDig_mono (a b : Nat) (h : a ≤ b) : nDig a ≤ nDig b := by
  by_cases h0 : a = 0
  · subst h0; rw [nDig_zero]; exact Nat.zero_le _
  · have h1 := nDig_low h0
    have h2 := lt_pow_nDig b
    have h3 := (Nat.pow_lt_pow_iff_right (by omega : 1 < 10)).1 (Nat.lt_of_le_of_lt h1 (Nat.lt_of_le_of_lt h h2))
    have := nDig_pos h0
    omega

/-- A decimal that holds N * 10^p, N without zeros at the end. -/
structure DecN (w : World) (g N : Nat) (p : Int) (ng : Bool) : Prop where
  ne : N % 10 ≠ 0
  dec : ∃ bs, bs.take (nDig N) = digs N (nDig N) ∧ Dec w g bs (nDig N : Nat) (p + nDig N) ng false

theorem DecN.grown {w w' : World} {row : Option Nat} {g N : Nat} {p : Int} {ng : Bool} (h : DecN w g N p ng) (hg : w.grownBy w' row) (hne : some g ≠ row) : DecN w' g N p ng := by
  obtain ⟨h1, bs, h2, h3⟩ := h
  exact ⟨h1, bs, h2, h3.grown hg hne⟩

/-- What trim leaves of a decimal. -/
theorem DecN.of_trim {w : World} {g M : Nat} {p : Int} {ng : Bool} {bs : List UInt8} {dp : Int} (h0 : M ≠ 0) (h : bs.take (nDig M) = digs M (nDig M))
    (hd : Dec w g bs (trimZ bs (nDig M) : Nat) (trimDp (trimZ bs (nDig M)) dp) ng false) (hp : dp = p + nDig M) : DecN w g (core M) (p + tz M) ng := by
  obtain ⟨h1, h2⟩ := trimZ_core bs M h0 h
  have h3 := nDig_core M h0
  refine ⟨(core_spec M h0).2, bs, h2, ?_⟩
  rw [h1] at hd
  have h4 : trimDp (nDig (core M)) dp = p + tz M + nDig (core M) := by
    have := nDig_pos (core_ne M h0)
    unfold trimDp; rw [if_neg (by omega), hp]; omega
  rw [h4] at hd
  exact hd
end Go.Proofs.YtffooimnioigdaaDoor
