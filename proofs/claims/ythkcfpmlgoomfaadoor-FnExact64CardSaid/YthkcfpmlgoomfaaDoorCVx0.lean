/-
  Plain: with many places the fixed format is the exact value.
-/
import Derived.Test.YthkcfpmlgoomfaaDoorGv
namespace Go.Proofs.YthkcfpmlgoomfaaDoor
open Go.RowKit
set_option linter.unusedSimpArgs false
set_option linter.unusedVariables false

/-- The exact decimal is the value. -/
theorem slowN_val (m : Nat) (e : Int) (hm0 : m ≠ 0) : (0 ≤ e → 0 ≤ (slowN m e).2 ∧ (slowN m e).1 * 10 ^ (slowN m e).2.toNat = m * 2 ^ e.toNat ∧ (slowN m e).2 + nDig (slowN m e).1 = nDig (m * 2 ^ e.toNat)) ∧
    (e < 0 → 0 ≤ (slowN m e).2 - e ∧ (slowN m e).1 * 10 ^ ((slowN m e).2 - e).toNat = m * 5 ^ (-e).toNat ∧ (slowN m e).2 + nDig (slowN m e).1 = nDig (m * 5 ^ (-e).toNat) + e) := by
  unfold slowN shD
  constructor
  · intro h
    rw [if_pos h]
    dsimp only
    have hM0 : m * 2 ^ e.toNat ≠ 0 := Nat.mul_ne_zero hm0 (Nat.ne_of_gt (Nat.pow_pos (by omega)))
    have h1 := core_mul m (2 ^ e.toNat) hm0 (Nat.ne_of_gt (Nat.pow_pos (by omega)))
    have h2 := core_spec (m * 2 ^ e.toNat) hM0
    have h3 := nDig_core (m * 2 ^ e.toNat) hM0
    rw [h1.1]
    refine ⟨by omega, ?_, by omega⟩
    rw [show ((tz m : Int) + (tz (core m * 2 ^ e.toNat) : Int)).toNat = tz (m * 2 ^ e.toNat) by omega]
    exact h2.1
  · intro h
    rw [if_neg (by omega)]
    dsimp only
    have hM0 : m * 5 ^ (-e).toNat ≠ 0 := Nat.mul_ne_zero hm0 (Nat.ne_of_gt (Nat.pow_pos (by omega)))
    have h1 := core_mul m (5 ^ (-e).toNat) hm0 (Nat.ne_of_gt (Nat.pow_pos (by omega)))
    have h2 := core_spec (m * 5 ^ (-e).toNat) hM0
    have h3 := nDig_core (m * 5 ^ (-e).toNat) hM0
    rw [h1.1]
    refine ⟨by omega, ?_, by omega⟩
    rw [show ((tz m : Int) + e + (tz (core m * 5 ^ (-e).toNat) : Int) - e).toNat = tz (m * 5 ^ (-e).toNat) by omega]
    exact h2.1

theorem nDig_ge {a k : Nat} (h : 10 ^ k ≤ a) : k < nDig a := by
  have h2 := lt_pow_nDig a
  exact (Nat.pow_lt_pow_iff_right (by omega : 1 < 10)).1 (Nat.lt_of_le_of_lt h h2)
theorem nDig_lt {a k : Nat} (h : a < 10 ^ k) : nDig a ≤ k := by
  by_cases h0 : a = 0
  · subst h0; rw [nDig_zero]; omega
  · have h2 := nDig_low h0
    have h3 := (Nat.pow_lt_pow_iff_right (by omega : 1 < 10)).1 (Nat.lt_of_le_of_lt h2 h)
    omega

theorem slowN_dp (m : Nat) (e : Int) (hm0 : m ≠ 0) (hm : m < 2 ^ 53) (he1 : -1074 ≤ e) (he2 : e ≤ 971) : -380 ≤ (slowN m e).2 + nDig (slowN m e).1 ∧ (slowN m e).2 + nDig (slowN m e).1 ≤ 380 := by
  obtain ⟨hp, hn⟩ := slowN_val m e hm0
  by_cases h : 0 ≤ e
  · rw [(hp h).2.2]
    have := nDig_two_pow (53 + e.toNat) (m * 2 ^ e.toNat) (by rw [Nat.pow_add]; exact Nat.mul_lt_mul_of_pos_right hm (Nat.pow_pos (by omega))) (by omega)
    omega
  · rw [(hn (by omega)).2.2]
    obtain ⟨n, hn'⟩ : ∃ n, (-e).toNat = n := ⟨_, rfl⟩
    rw [hn']
    have hn2 : n ≤ 1074 := by omega
    have h2n : 2 ^ n ≤ 10 ^ (n / 3) * 8 := by
      have h1 : (2 : Nat) ^ n = 2 ^ (3 * (n / 3)) * 2 ^ (n % 3) := by rw [← Nat.pow_add]; congr 1; omega
      have h2 : (2 : Nat) ^ (3 * (n / 3)) ≤ 10 ^ (n / 3) := by rw [Nat.pow_mul]; exact Nat.pow_le_pow_left (by decide) _
      have h3 : (2 : Nat) ^ (n % 3) ≤ 2 ^ 3 := Nat.pow_le_pow_right (by omega) (by omega)
      rw [h1]
      exact Nat.mul_le_mul h2 (by omega)
    have h10 : (10 : Nat) ^ n = 5 ^ n * 2 ^ n := by rw [← Nat.mul_pow]
    constructor
    · -- from below
      by_cases h370 : n ≤ 370
      · omega
      · have hge : 10 ^ (n - n / 3 - 1) ≤ m * 5 ^ n := by
          have h4 : 10 ^ (n / 3 + 1) * 10 ^ (n - n / 3 - 1) = 10 ^ n := by rw [← Nat.pow_add]; congr 1; omega
          have h5 : 10 ^ n ≤ 10 ^ (n / 3 + 1) * 5 ^ n := by
            rw [h10, Nat.pow_succ, Nat.mul_comm (5 ^ n)]
            exact Nat.mul_le_mul_right _ (by omega)
          have h6 : 10 ^ (n - n / 3 - 1) ≤ 5 ^ n := by
            rw [← h4] at h5
            exact Nat.le_of_mul_le_mul_left h5 (Nat.pow_pos (by omega))
          exact Nat.le_trans h6 (Nat.le_mul_of_pos_left _ (by omega))
        have := nDig_ge hge
        omega
    · have hlt : m * 5 ^ n < 10 ^ (n + 16) := by
        have h5 : m * 5 ^ n < 2 ^ 53 * 5 ^ n := Nat.mul_lt_mul_of_pos_right hm (Nat.pow_pos (by omega))
        have h6 : 5 ^ n ≤ 10 ^ n := Nat.pow_le_pow_left (by omega) _
        rw [Nat.pow_add, Nat.mul_comm (10 ^ n)]
        exact Nat.lt_of_lt_of_le h5 (Nat.mul_le_mul (by decide) h6)
      have := nDig_lt hlt
      omega

/-- The digits with 1074 places or more. -/
theorem pick_exact (m : Nat) (x prec : Int) (hm : m < 2 ^ 53) (hx1 : -1022 ≤ x) (hx2 : x ≤ 1023) (hp : 1074 ≤ prec) :
    pick 11 (-1085) 52 m x prec 102 = if m = 0 then ⟨[], 0, prec, false⟩ else ⟨digs (slowN m (x - 52)).1 (nDig (slowN m (x - 52)).1), (slowN m (x - 52)).2 + nDig (slowN m (x - 52)).1, prec, false⟩ := by
  unfold pick
  by_cases hm0 : m = 0
  · rw [if_pos hm0, if_pos hm0]
    have : decide (prec < 0) = false := by simp; omega
    rw [this]
  rw [if_neg hm0, if_neg hm0, if_neg (by omega)]
  have hfp : fixPrec prec 102 = prec := by unfold fixPrec; rw [if_neg (by omega)]
  have hfd : ¬ fixDig x prec 102 ≤ 18 := by
    unfold fixDig
    rw [if_pos rfl]
    split <;> omega
  rw [if_neg hfd, hfp]
  obtain ⟨h1, h2, h3, h4, h5, h6⟩ := slowN_bd m (x - (52 : Nat)) hm0 hm (by omega) (by omega)
  have hr : slowR m (x - (52 : Nat)) prec 102 = slowN m (x - (52 : Nat)) := by
    unfold slowR
    rw [if_neg (show ¬ ((102 : Int) = 101 ∨ (102 : Int) = 69) by decide), if_pos rfl]
    unfold rndD
    rw [if_neg (by omega)]
  rw [hr]
  unfold pkDec
  have hN0 : (slowN m (x - (52 : Nat))).1 ≠ 0 := by intro h; rw [h] at h1; simp at h1
  rw [if_neg hN0, core_no h1, tz_no h1]
  simp

theorem fFrac_more (ds : List UInt8) (dp pr : Int) (more : Nat) (h0 : 0 < pr) (hpr : (ds.length : Int) - dp ≤ pr) (hdp : -dp ≤ pr) : fFrac ds dp (pr + more) = fFrac ds dp pr ++ List.replicate more 48 := by
  unfold fFrac
  rw [if_pos h0, if_pos (by omega)]
  have h1 : fLz dp (pr + more) = fLz dp pr := by unfold fLz; omega
  have h2 : fM ds.length dp (pr + more) = fM ds.length dp pr := by unfold fM; rw [h1]; unfold fLz; omega
  rw [h1, h2]
  have h3 : (max 0 (pr + more - fLz dp pr - fM ds.length dp pr)).toNat = (max 0 (pr - fLz dp pr - fM ds.length dp pr)).toNat + more := by
    unfold fM fLz; omega
  rw [h3, ← List.replicate_append_replicate]
  simp

/-- The text with 1074 places and more. -/
theorem exact_text (b : Nat) (hfin : flE 11 52 b ≠ 2 ^ 11 - 1) (hm : flMant 11 52 b < 2 ^ 53) (hx1 : -1022 ≤ flExp 11 52 (-1023) b) (hx2 : flExp 11 52 (-1023) b ≤ 1023) :
    ∃ a d, ratL (ftoa64L b 102 1074) = some (flNeg 11 52 b, a, d) ∧ a * 2 ^ (-(flExp 11 52 (-1023) b - 52)).toNat = flMant 11 52 b * 2 ^ (flExp 11 52 (-1023) b - 52).toNat * d ∧ (a = 0 ↔ flMant 11 52 b = 0) ∧ (natL a).length ≤ 40000 ∧ (natL d).length ≤ 40000 ∧ (ftoa64L b 102 1074).length ≤ 2500 ∧ ∀ more : Nat, ftoa64L b 102 (1074 + more) = ftoa64L b 102 1074 ++ List.replicate more 48 := by
  have htx : ∀ prec : Int, 1074 ≤ prec → ftoa64L b 102 prec = efgP (flNeg 11 52 b) 102 (pick 11 (-1085) 52 (flMant 11 52 b) (flExp 11 52 (-1023) b) prec 102) := by
    intro prec h
    unfold ftoa64L ftoaL
    rw [if_neg hfin, if_neg (by omega), if_neg (by omega)]
  generalize flMant 11 52 b = m at *
  generalize flExp 11 52 (-1023) b = x at *
  generalize flNeg 11 52 b = neg at *
  -- digits and point
  obtain ⟨ds, dp, hok, hlen, hd1, hd2, hsh, hpk⟩ : ∃ ds dp, DsOk ds ∧ ds.length ≤ 800 ∧ -390 ≤ dp ∧ dp ≤ 390 ∧ (ds.length : Int) - dp ≤ 1074 ∧ ∀ prec : Int, 1074 ≤ prec → pick 11 (-1085) 52 m x prec 102 = ⟨ds, dp, prec, false⟩ := by
    by_cases hm0 : m = 0
    · exact ⟨[], 0, DsOk.nil, by simp, by omega, by omega, by simp, fun prec h => by rw [pick_exact m x prec hm hx1 hx2 h, if_pos hm0]⟩
    · obtain ⟨h1, h2, h3, h4, h5, h6⟩ := slowN_bd m (x - 52) hm0 hm (by omega) (by omega)
      have h7 := slowN_dp m (x - 52) hm0 hm (by omega) (by omega)
      have hN0 : (slowN m (x - 52)).1 ≠ 0 := by intro h; rw [h] at h1; simp at h1
      refine ⟨digs (slowN m (x - 52)).1 (nDig (slowN m (x - 52)).1), (slowN m (x - 52)).2 + nDig (slowN m (x - 52)).1, DsOk.digs _ hN0, by rw [digs_length]; omega, by omega, by omega, by rw [digs_length]; omega, fun prec h => by rw [pick_exact m x prec hm hx1 hx2 h, if_neg hm0]⟩
  have htf : ∀ prec : Int, 1074 ≤ prec → ftoa64L b 102 prec = efgF neg ds dp prec := by
    intro prec h
    rw [htx prec h, hpk prec h]
    rfl
  obtain ⟨k, hk, hr⟩ := ratL_f neg ds dp 1074 hok.dig (by omega) hd1 hd2 hok.lead
  have hlen2 := efgF_len neg ds dp 1074 (allD_of_dig hok.dig) (by omega)
  -- the value
  have hval : ∃ a d, rdV neg (dval ds * 10 ^ k) (dxv ds dp - (k : Int)) = (neg, a, d) ∧ a * 2 ^ (-(x - 52)).toNat = m * 2 ^ (x - 52).toNat * d ∧ (a = 0 ↔ m = 0) ∧ (natL a).length ≤ 40000 ∧ (natL d).length ≤ 40000 := by
    have hV := hok.lt
    by_cases hm0 : m = 0
    · have h9 := hpk 1074 (by omega)
      rw [pick_exact m x 1074 hm hx1 hx2 (by omega), if_pos hm0] at h9
      have hds : ds = [] := by injection h9 with h _ _ _; exact h.symm
      refine ⟨0, 1, ?_, by rw [hm0]; simp, by simp [hm0], by rw [natL_zero]; simp, Nat.le_trans (natL_len_le (k := 1) (by decide)) (by omega)⟩
      rw [hds]
      simp [rdV, dval]
    · have h9 := hpk 1074 (by omega)
      rw [pick_exact m x 1074 hm hx1 hx2 (by omega), if_neg hm0] at h9
      obtain ⟨hp, hn⟩ := slowN_val m (x - 52) hm0
      obtain ⟨h1, h2, h3, h4, h5, h6⟩ := slowN_bd m (x - 52) hm0 hm (by omega) (by omega)
      generalize hNP : slowN m (x - 52) = NP at *
      obtain ⟨N, P⟩ := NP
      dsimp only at *
      have hds : ds = digs N (nDig N) := by injection h9 with h _ _ _; exact h.symm
      have hdp : dp = P + nDig N := by injection h9 with _ h _ _; exact h.symm
      have hN0 : N ≠ 0 := by intro h; rw [h] at h1; simp at h1
      have hdv : dval ds = N := by rw [hds, dval_digs, Nat.mod_eq_of_lt (lt_pow_nDig N)]
      have hdx : dxv ds dp = P := by unfold dxv; rw [hds, digs_length, hdp]; omega
      rw [hdv] at hV
      have hle : ds.length ≤ 800 := hlen
      have hv0 : N * 10 ^ k ≠ 0 := Nat.mul_ne_zero hN0 (Nat.ne_of_gt (Nat.pow_pos (by omega)))
      rw [hdv, hdx]
      refine ⟨N * 10 ^ k * 10 ^ (P - (k : Int)).toNat, 10 ^ (-(P - (k : Int))).toNat, by unfold rdV; rw [if_neg hv0], ?_, ?_, ?_, ?_⟩
      · by_cases he : 0 ≤ x - 52
        · obtain ⟨g1, g2, _⟩ := hp he
          rw [← g2, show (-(x - 52)).toNat = 0 by omega, Nat.pow_zero, Nat.mul_one]
          simp only [Nat.mul_assoc, ← Nat.pow_add]
          congr 2
          omega
        · obtain ⟨g1, g2, _⟩ := hn (by omega)
          obtain ⟨q, hq⟩ : ∃ q, (-(x - 52)).toNat = q := ⟨_, rfl⟩
          rw [hq] at g2 ⊢
          rw [show (x - 52).toNat = 0 by omega, Nat.pow_zero, Nat.mul_one]
          refine Nat.eq_of_mul_eq_mul_right (Nat.pow_pos (n := q) (by omega : 0 < 5)) ?_
          have e1 : N * 10 ^ k * 10 ^ (P - (k : Int)).toNat * 2 ^ q * 5 ^ q = N * 10 ^ k * 10 ^ (P - (k : Int)).toNat * 10 ^ q := by rw [Nat.mul_assoc _ (2 ^ q), ← Nat.mul_pow]
          have e2 : m * 10 ^ (-(P - (k : Int))).toNat * 5 ^ q = m * 5 ^ q * 10 ^ (-(P - (k : Int))).toNat := by rw [Nat.mul_assoc, Nat.mul_comm (10 ^ _), ← Nat.mul_assoc]
          rw [e1, e2, ← g2]
          simp only [Nat.mul_assoc, ← Nat.pow_add]
          congr 2
          omega
      · exact ⟨fun h => absurd h (Nat.mul_ne_zero hv0 (Nat.ne_of_gt (Nat.pow_pos (by omega)))), fun h => absurd h hm0⟩
      · have : N * 10 ^ k * 10 ^ (P - (k : Int)).toNat < 10 ^ (ds.length + k + (P - (k : Int)).toNat) := by
          rw [Nat.pow_add, Nat.pow_add]
          exact Nat.mul_lt_mul_of_pos_right (Nat.mul_lt_mul_of_pos_right hV (Nat.pow_pos (by omega))) (Nat.pow_pos (by omega))
        have := natL_ten this
        omega
      · have : 10 ^ (-(P - (k : Int))).toNat < 10 ^ ((-(P - (k : Int))).toNat + 1) := Nat.pow_lt_pow_right (by omega) (by omega)
        have := natL_ten this
        omega
  obtain ⟨a, d, hv1, hv2, hv3, hv4, hv5⟩ := hval
  refine ⟨a, d, ?_, hv2, hv3, hv4, hv5, ?_, fun more => ?_⟩
  · rw [htf 1074 (by omega), hr, hv1]
  · rw [htf 1074 (by omega)]; omega
  · rw [htf 1074 (by omega), htf (1074 + more) (by omega)]
    unfold efgF
    rw [fFrac_more ds dp 1074 more (by omega) (by omega) (by omega)]
    simp
end Go.Proofs.YthkcfpmlgoomfaaDoor
