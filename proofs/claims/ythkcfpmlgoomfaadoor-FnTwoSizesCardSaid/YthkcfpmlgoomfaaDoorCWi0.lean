/-
  Plain: a number of 32 bits as the nearest of 64 bits; texts depend on the value alone.
-/
import Derived.Test.YthkcfpmlgoomfaaDoorCQn0
import Derived.Test.YthkcfpmlgoomfaaDoorGq
namespace Go.Proofs.YthkcfpmlgoomfaaDoor
open Go.RowKit
set_option linter.unusedSimpArgs false
set_option linter.unusedVariables false

theorem ordT_cross {a b c d : Nat} (ha : a ≠ 0) (hb : b ≠ 0) (hc : c ≠ 0) (hd : d ≠ 0) (h : a * d = c * b) : ordT a b = ordT c d := by
  obtain ⟨h1, h2⟩ := ordT_spec c d hc hd
  exact ordT_is ha hb ((leT_cross (by omega) (by omega) h _).2 h1) (fun hh => h2 ((leT_cross (by omega) (by omega) h _).1 hh))

theorem specT_cross {a b c d : Nat} (hb : b ≠ 0) (hd : d ≠ 0) (h : a * d = c * b) (f : Int) (pr : Nat) : specT a b f pr = specT c d f pr := by
  have hr : ∀ k, rT a b k = rT c d k := fun k => rT_cross (by omega) (by omega) h k
  have hz : a = 0 ↔ c = 0 := by
    constructor
    · intro h0
      rw [h0, Nat.zero_mul] at h
      rcases Nat.mul_eq_zero.1 h.symm with h1 | h1
      · exact h1
      · exact absurd h1 hb
    · intro h0
      rw [h0, Nat.zero_mul] at h
      rcases Nat.mul_eq_zero.1 h with h1 | h1
      · exact h1
      · exact absurd h1 hd
  have hx : ∀ k, expoS a b k = expoS c d k := by
    intro k
    unfold expoS
    by_cases h0 : a = 0
    · rw [if_pos h0, if_pos (hz.1 h0)]
    · rw [if_neg h0, if_neg (fun hh => h0 (hz.2 hh))]
      unfold sigS
      rw [ordT_cross h0 hb (fun hh => h0 (hz.2 hh)) hd h, hr]
  unfold specT
  rw [hx, hx, hr]

/-- A number in place is its own nearest. -/
theorem near_exact (s : Nat) (E : Int) (a b : Nat) (hb : b ≠ 0) (hab : a * vD E = vN s E * b) (h1 : 4503599627370496 ≤ s) (h2 : s < 9007199254740992) (hE1 : -1074 ≤ E) (hE2 : E ≤ 971) :
    nearB 52 1023 9218868437227405312 a b = (E + 1074).toNat * 4503599627370496 + s := by
  have hs0 : s ≠ 0 := by omega
  have hvn := vN_ne E hs0
  have hvd := vD_pos E
  have ha : a ≠ 0 := by
    intro h0
    rw [h0, Nat.zero_mul] at hab
    exact absurd hab.symm (Nat.mul_ne_zero hvn hb)
  have ho : ordB a b = E + 52 := by
    refine ordB_is ha hb ((le2_cross (by omega) hvd hab _).2 ?_) (fun hh => ?_)
    · rw [le2_scale (j := -E) (n := 52) (by omega), Int.neg_neg]
      unfold vN vD
      rw [Nat.mul_assoc s, Nat.mul_comm (2 ^ (-E).toNat) (2 ^ E.toNat)]
      exact Nat.mul_le_mul_right _ h1
    · have := (le2_cross (by omega) hvd hab _).1 hh
      rw [le2_scale (j := -E) (n := 53) (by omega), Int.neg_neg] at this
      unfold vN vD at this
      rw [Nat.mul_assoc s, Nat.mul_comm (2 ^ (-E).toNat) (2 ^ E.toNat)] at this
      have h3 := Nat.le_of_mul_le_mul_right this (Nat.mul_pos (p2 _) (p2 _))
      omega
  have hne : nearE 52 1023 a b = E := by
    unfold nearE
    rw [if_neg ha, ho]
    omega
  have hrb : rB a b E = s := by
    unfold rB
    have : rndE (a * 2 ^ (-E).toNat) (b * 2 ^ E.toNat) = rndE (s * 1) 1 := by
      refine rndE_cross (Nat.mul_pos (by omega) (p2 _)) (by omega) ?_
      rw [Nat.mul_one, Nat.mul_one]
      unfold vN vD at hab
      rw [hab]
      ac_rfl
    rw [this]
    exact rndE_mul s 1 (by omega)
  unfold nearB
  rw [hne, if_pos (by omega), hrb]
  congr 2

/-- The fields of a number in place. -/
theorem fields64 (s : Nat) (E : Int) (g : Nat) (h1 : 4503599627370496 ≤ s) (h2 : s < 9007199254740992) (hE1 : -1074 ≤ E) (hE2 : E ≤ 971) (hg : g = 0 ∨ g = 9223372036854775808) :
    m64 ((E + 1074).toNat * 4503599627370496 + s + g) = s ∧ e64 ((E + 1074).toNat * 4503599627370496 + s + g) = E ∧ ((E + 1074).toNat * 4503599627370496 + s + g) % 9223372036854775808 < 9218868437227405312 ∧ (E + 1074).toNat * 4503599627370496 + s + g < 18446744073709551616 ∧ decide (9223372036854775808 ≤ (E + 1074).toNat * 4503599627370496 + s + g) = decide (g = 9223372036854775808) := by
  obtain ⟨q, hq⟩ : ∃ q, (E + 1074).toNat = q := ⟨_, rfl⟩
  rw [hq]
  have hq2 : q ≤ 2045 := by omega
  have f1 : flE 11 52 (q * 4503599627370496 + s + g) = q + 1 := by unfold flE; omega
  have f2 : flF 52 (q * 4503599627370496 + s + g) = s - 4503599627370496 := by unfold flF; omega
  refine ⟨?_, ?_, by omega, by omega, ?_⟩
  · unfold m64 flMant
    rw [f1, if_neg (by omega), f2]
    omega
  · unfold e64 flExp
    rw [f1, if_neg (by omega)]
    omega
  · rw [decide_eq_decide]; omega

/-- The widened number: finite, of the same sign and value. -/
theorem widen_val (m : Nat) (e : Int) (g : Nat) (hm : m < 16777216) (he1 : -149 ≤ e) (he2 : e ≤ 104) (hg : g = 0 ∨ g = 9223372036854775808) :
    ∃ N, nearB 52 1023 9218868437227405312 (vN m e) (vD e) + g = N ∧ N < 18446744073709551616 ∧ N % 9223372036854775808 < 9218868437227405312 ∧ decide (9223372036854775808 ≤ N) = decide (g = 9223372036854775808) ∧ vN m e * vD (e64 N) = vN (m64 N) (e64 N) * vD e := by
  by_cases h0 : m = 0
  · subst h0
    have hV : vN 0 e = 0 := by unfold vN; rw [Nat.zero_mul]
    have hn : nearB 52 1023 9218868437227405312 (vN 0 e) (vD e) = 0 := by
      rw [hV]
      unfold nearB nearE
      rw [if_pos rfl, if_pos (by omega)]
      unfold rB
      rw [Nat.zero_mul]
      have := rndE_mul 0 (vD e * 2 ^ ((1 : Int) - 1023 - 52).toNat) (Nat.mul_pos (vD_pos e) (p2 _))
      rw [Nat.zero_mul] at this
      rw [this]
      rfl
    rw [hn, hV]
    refine ⟨g, by omega, by omega, by omega, by rw [decide_eq_decide]; omega, ?_⟩
    have : m64 g = 0 := by
      rcases hg with rfl | rfl
      · rfl
      · unfold m64 flMant flE flF; decide
    rw [this]
    unfold vN
    rw [Nat.zero_mul, Nat.zero_mul, Nat.zero_mul]
  · obtain ⟨k, hk⟩ : ∃ k, m.log2 = k := ⟨_, rfl⟩
    have hlo : 2 ^ k ≤ m := by rw [← hk]; exact Nat.log2_self_le h0
    have hhi : m < 2 ^ (k + 1) := by rw [← hk]; exact Nat.lt_log2_self
    have hk24 : k < 24 := (Nat.pow_lt_pow_iff_right (by omega : 1 < 2)).1 (Nat.lt_of_le_of_lt hlo hm)
    have hs1 : 4503599627370496 ≤ m * 2 ^ (52 - k) := by
      have := Nat.mul_le_mul_right (2 ^ (52 - k)) hlo
      rw [← Nat.pow_add, show k + (52 - k) = 52 by omega] at this
      exact this
    have hs2 : m * 2 ^ (52 - k) < 9007199254740992 := by
      have := Nat.mul_lt_mul_of_pos_right hhi (p2 (52 - k))
      rw [← Nat.pow_add, show k + 1 + (52 - k) = 53 by omega] at this
      exact this
    have hsh := v_shift m (52 - k) e
    have hne := near_exact (m * 2 ^ (52 - k)) (e - (52 - k : Nat)) (vN m e) (vD e) (Nat.ne_of_gt (vD_pos e)) hsh.symm hs1 hs2 (by omega) (by omega)
    obtain ⟨f1, f2, f3, f4, f5⟩ := fields64 (m * 2 ^ (52 - k)) (e - (52 - k : Nat)) g hs1 hs2 (by omega) (by omega) hg
    refine ⟨_, rfl, ?_⟩
    rw [hne]
    refine ⟨f4, f3, f5, ?_⟩
    rw [f1, f2]
    exact hsh.symm

theorem efgP_ne (neg : Bool) (f : Int) (P : Pick) : efgP neg f P ≠ [] := by
  intro h
  have hl := congrArg List.length h
  unfold efgP efgL at hl
  split at hl
  · unfold efgE at hl
    simp at hl
  · split at hl
    · unfold efgF fInt at hl
      split at hl
      · simp only [List.length_append, List.length_take, List.length_replicate, List.length_nil] at hl; omega
      · simp at hl
    · simp at hl
end Go.Proofs.YthkcfpmlgoomfaaDoor
