/-
  Plain: the reference's shortest digits are shortFloat's.
-/
import Derived.Test.YticlnihjhcepkaaGreatDoorCSh4
namespace Go.Proofs.YticlnihjhcepkaaGreatDoor
open Go.RowKit
set_option linter.unusedSimpArgs false
set_option linter.unusedVariables false

/-- The greatest power of ten below the N-th that divides. -/
theorem max_pow (T N : Nat) (hN : 2 ≤ N) (h : 10 ∣ T) : ∃ j, 1 ≤ j ∧ j ≤ N - 1 ∧ 10 ^ j ∣ T ∧ (j = N - 1 ∨ ¬ 10 ^ (j + 1) ∣ T) := by
  obtain ⟨k, hk⟩ : ∃ k, N = k + 2 := ⟨N - 2, by omega⟩
  subst hk
  clear hN
  induction k with
  | zero => exact ⟨1, by omega, by omega, by simpa using h, Or.inl (by omega)⟩
  | succ k ih =>
    obtain ⟨j, h1, h2, h3, h4⟩ := ih
    rcases h4 with h4 | h4
    · by_cases h5 : 10 ^ (j + 1) ∣ T
      · exact ⟨j + 1, by omega, by omega, h5, Or.inl (by omega)⟩
      · exact ⟨j, h1, by omega, h3, Or.inr h5⟩
    · exact ⟨j, h1, by omega, h3, Or.inr h4⟩

theorem rndE_cases (A B : Nat) : (rndE A B = A / B ∧ (2 * (A % B) < B ∨ 2 * (A % B) = B)) ∨ (rndE A B = A / B + 1 ∧ (B < 2 * (A % B) ∨ 2 * (A % B) = B)) := by
  unfold rndE
  split <;> omega

section
variable {G H s c dmin dmax N : Nat} {p e : Int} {a b : Nat} {rd : Nat → Int → Bool}

/-- No multiple in the interval: nothing is found. -/
theorem step_none {n i : Nat} (h : Stp1 G H s dmin dmax N a b e rd n i) (hno : ∀ t, ¬ (dmin ≤ t * 10 ^ i ∧ t * 10 ^ i ≤ dmax)) : (belS rd a b e n || aboS rd a b e n) = false := by
  have h1 : belS rd a b e n = false := by
    unfold belS
    by_cases h0 : 0 < lowS a b ((n : Int) - 1 - e)
    · have := h.rd _ h0
      rw [Bool.and_eq_false_iff]
      right
      rw [Bool.eq_false_iff]
      intro hh
      exact hno _ (this.1 hh)
    · rw [decide_eq_false h0]; rfl
  have h2 : aboS rd a b e n = false := by
    unfold aboS
    have := h.rd (lowS a b ((n : Int) - 1 - e) + 1) (by omega)
    rw [Bool.and_eq_false_iff]
    right
    rw [Bool.eq_false_iff]
    intro hh
    exact hno _ (this.1 hh)
  rw [h1, h2]
  rfl

theorem bel_iff {n i : Nat} (h : Stp1 G H s dmin dmax N a b e rd n i) : belS rd a b e n = true ↔ 0 < s * G / H / 10 ^ i ∧ dmin ≤ s * G / H / 10 ^ i * 10 ^ i ∧ s * G / H / 10 ^ i * 10 ^ i ≤ dmax := by
  unfold belS
  rw [Bool.and_eq_true, decide_eq_true_eq]
  constructor
  · intro ⟨h1, h2⟩
    have := (h.rd _ h1).1 h2
    rw [h.low] at h1 this
    exact ⟨h1, this⟩
  · intro ⟨h1, h2⟩
    rw [← h.low] at h1 h2
    exact ⟨h1, (h.rd _ h1).2 h2⟩
theorem abo_iff {n i : Nat} (h : Stp1 G H s dmin dmax N a b e rd n i) : aboS rd a b e n = true ↔ s * G % (H * 10 ^ i) ≠ 0 ∧ dmin ≤ (s * G / H / 10 ^ i + 1) * 10 ^ i ∧ (s * G / H / 10 ^ i + 1) * 10 ^ i ≤ dmax := by
  unfold aboS
  rw [Bool.and_eq_true, decide_eq_true_eq, h.rst0]
  have h2 := h.rd (lowS a b ((n : Int) - 1 - e) + 1) (by omega)
  rw [h.low] at h2 ⊢
  rw [h2]

theorem div_bounds (x m : Nat) (hm : 0 < m) : x / m * m ≤ x ∧ x < x / m * m + m := by
  have h1 := Nat.div_add_mod x m
  have h2 := Nat.mod_lt x hm
  rw [Nat.mul_comm] at h1
  omega

/-- The one multiple of a power of ten in the interval is found. -/
theorem step_one (hI : Iv G H s c dmin dmax) {n i t : Nat} (h : Stp1 G H s dmin dmax N a b e rd n i) (hi : 1 ≤ i) (hq : 10 ^ i ≤ s * G / H) (h1 : dmin ≤ t * 10 ^ i) (h2 : t * 10 ^ i ≤ dmax) :
    (belS rd a b e n || aboS rd a b e n) = true ∧ pickS rd a b e n = t ∧ tieS rd a b e n = false ∧ (t = s * G / H / 10 ^ i ∨ t = s * G / H / 10 ^ i + 1) := by
  have ht := hI.ten
  have hp : 10 ≤ 10 ^ i := by
    obtain ⟨j, rfl⟩ : ∃ j, i = j + 1 := ⟨i - 1, by omega⟩
    rw [Nat.pow_succ]; have := p10 j; omega
  obtain ⟨q, hqq⟩ : ∃ q, s * G / H = q := ⟨_, rfl⟩
  obtain ⟨l, hl⟩ : ∃ l, q / 10 ^ i = l := ⟨_, rfl⟩
  have hb := bel_iff h
  have ha := abo_iff h
  have hlow := h.low
  have hs := hI.some
  rw [hqq, hl] at hb ha hlow
  rw [hqq] at hq hs ⊢
  rw [hl]
  obtain ⟨d1, d2⟩ := div_bounds q (10 ^ i) (by omega)
  rw [hl] at d1 d2
  have hl0 : 0 < l := by rw [← hl]; exact Nat.div_pos hq (by omega)
  have hmul : ∀ x y : Nat, x + 1 ≤ y → x * 10 ^ i + 10 ^ i ≤ y * 10 ^ i := fun x y hxy => by
    have := Nat.mul_le_mul_right (10 ^ i) hxy
    rw [Nat.add_mul, Nat.one_mul] at this
    exact this
  have e1 : (l + 1) * 10 ^ i = l * 10 ^ i + 10 ^ i := by rw [Nat.add_mul, Nat.one_mul]
  rw [e1] at ha
  have hqd : q ≤ dmax ∧ dmin ≤ q + 1 := by omega
  -- t is l or l + 1
  have htl : t = l ∨ t = l + 1 := by
    rcases Nat.lt_trichotomy t l with h3 | h3 | h3
    · have := hmul t l h3; omega
    · exact Or.inl h3
    · rcases Nat.lt_or_ge (l + 1) t with h4 | h4
      · have := hmul (l + 1) t h4; omega
      · right; omega
  unfold pickS tieS
  rw [hlow]
  rcases htl with rfl | rfl
  · have hbt : belS rd a b e n = true := hb.2 ⟨hl0, h1, h2⟩
    have haf : aboS rd a b e n = false := by
      rw [Bool.eq_false_iff]
      intro hh
      have := ha.1 hh
      omega
    rw [hbt, haf]
    exact ⟨rfl, rfl, rfl, Or.inl rfl⟩
  · rw [e1] at h1 h2
    have hbf : belS rd a b e n = false := by
      rw [Bool.eq_false_iff]
      intro hh
      have := hb.1 hh
      omega
    have hat : aboS rd a b e n = true := by
      refine ha.2 ⟨fun h0 => ?_, h1, h2⟩
      -- the value itself would be the multiple below
      have hv : l * 10 ^ i * H = s * G := by
        have h3 := Nat.div_add_mod (s * G) (H * 10 ^ i)
        rw [h0, Nat.add_zero, ← Nat.div_div_eq_div_mul, hqq, hl] at h3
        rw [← h3]
        ac_rfl
      have h4 := hI.above (l * 10 ^ i) (by omega)
      omega
    rw [hbf, hat]
    exact ⟨rfl, rfl, rfl, Or.inr rfl⟩

theorem shortest_eq (hI : Iv G H s c dmin dmax) (hb : 0 < b) (hV : ∀ i : Nat, a * 10 ^ (p - i).toNat * (H * 10 ^ i) = s * G * (b * 10 ^ (-(p - i)).toNat)) (hN : p + 1 + e = N) (hN1 : 1 ≤ N) (hN17 : N ≤ 17)
    (hlo : 10 ^ (N - 1) * H ≤ s * G) (hup : s * G < 10 ^ N * H) (hrd : ∀ (d i : Nat), 0 < d → (rd d ((i : Int) - p) = true ↔ dmin ≤ d * 10 ^ i ∧ d * 10 ^ i ≤ dmax)) (hsp : N = 1 → 10 ≤ dmax → 19 * H < 2 * (s * G)) :
    ∃ near n tie, nearS rd a b e 16 1 = (near, n, tie) ∧ (tie = false → (digS e near n).1 = dsC (shAns G H s dmin dmax p).1 ∧ (digS e near n).2 + 1 = nDig (shAns G H s dmin dmax p).1 + (shAns G H s dmin dmax p).2 ∧ (shAns G H s dmin dmax p).1 ≠ 0) := by
  have hH := hI.h0
  have st := fun n i hi => stp1 (dmin := dmin) (dmax := dmax) hb hH hV hN hrd n i hi
  have hten := hI.ten
  have hpos := hI.pos
  have hsome := hI.some
  have hq1 : 10 ^ (N - 1) ≤ s * G / H := (Nat.le_div_iff_mul_le hH).2 hlo
  have hq2 : s * G / H < 10 ^ N := (Nat.div_lt_iff_lt_mul hH).2 hup
  have hpN : 10 ^ N = 10 * 10 ^ (N - 1) := by rw [Nat.mul_comm, ← Nat.pow_succ]; congr 1; omega
  have pow10 : ∀ i, 1 ≤ i → ∃ k, 10 ^ i = 10 * 10 ^ k ∧ i = k + 1 := fun i hi => ⟨i - 1, by rw [Nat.mul_comm, ← Nat.pow_succ]; congr 1; omega, by omega⟩
  by_cases hC : dmin ≤ dmax / 10 * 10
  · -- a multiple of ten
    have hT2 : dmax / 10 * 10 ≤ dmax := Nat.div_mul_le_self _ _
    have hans : shAns G H s dmin dmax p = (dmax / 10, -(p - 1)) := by unfold shAns; rw [if_pos hC]
    rw [hans]
    dsimp only
    obtain ⟨T, hT⟩ : ∃ T, dmax / 10 = T := ⟨_, rfl⟩
    rw [hT] at hC hT2 ⊢
    have huniq : ∀ k, dmin ≤ 10 * k → 10 * k ≤ dmax → k = T := fun k h1 h2 => by omega
    rcases Nat.lt_or_ge N 2 with hN2 | hN2
    · -- one digit
      have hNe : N = 1 := by omega
      subst hNe
      have h10 : T = 1 := by omega
      subst h10
      have hgt := hsp rfl (by omega)
      have h9 : s * G / H = 9 := by
        refine Nat.div_eq_of_lt_le ?_ ?_
        · omega
        · rw [Nat.pow_one] at hup; omega
      have S1 := st 1 0 rfl
      have hr : H < 2 * (s * G % H) := by
        have := Nat.div_add_mod (s * G) H
        rw [h9] at this
        omega
      have ha : aboS rd a b e 1 = true := by
        rw [abo_iff S1, h9, Nat.pow_zero, Nat.mul_one]
        exact ⟨by omega, by omega, by omega⟩
      have hpk : pickS rd a b e 1 = 10 := by
        unfold pickS
        rw [ha, S1.low, h9, decide_eq_true (S1.rst2.2 (by rw [Nat.pow_zero, Nat.mul_one]; exact hr)), Bool.or_true]
        rfl
      refine ⟨_, _, _, nearS_found rd a b e 1 (by rw [ha, Bool.or_true]) 16 1 (Nat.le_refl _) (by omega) (fun j h1 h2 => by omega), fun _ => ?_⟩
      rw [hpk, digS_one, dsC_one]
      refine ⟨rfl, ?_, by omega⟩
      have : nDig 1 = 1 := nDig_unique 0 1 (by omega) (by omega)
      rw [this]
      dsimp only
      omega
    · obtain ⟨j, j1, j2, j3, j4⟩ := max_pow (T * 10) N hN2 (Nat.dvd_mul_left _ _)
      obtain ⟨t, ht⟩ := j3
      rw [Nat.mul_comm (10 ^ j)] at ht
      have S1 := st (N - j) j (by omega)
      have hpj : 10 ^ j ≤ 10 ^ (N - 1) := Nat.pow_le_pow_right (by omega) j2
      obtain ⟨f1, f2, f3, f4⟩ := step_one hI S1 j1 (by omega) (by rw [← ht]; exact hC) (by rw [← ht]; exact hT2)
      have hnone : ∀ n, 1 ≤ n → n < N - j → (belS rd a b e n || aboS rd a b e n) = false := by
        intro n h1 h2
        refine step_none (st n (N - n) (by omega)) (fun t' ⟨h3, h4⟩ => ?_)
        obtain ⟨k, hk1, hk2⟩ := pow10 (N - n) (by omega)
        have h5 : t' * 10 ^ (N - n) = 10 * (t' * 10 ^ k) := by rw [hk1]; ac_rfl
        have h6 := huniq (t' * 10 ^ k) (by omega) (by omega)
        rcases j4 with j4 | j4
        · omega
        · apply j4
          have h7 : 10 ^ (j + 1) ∣ 10 ^ (N - n) := Nat.pow_dvd_pow 10 (by omega)
          have h8 : T * 10 = t' * 10 ^ (N - n) := by omega
          rw [h8]
          exact Nat.dvd_trans h7 (Nat.dvd_mul_left _ _)
      refine ⟨_, _, _, nearS_found rd a b e (N - j) f1 16 1 (by omega) (by omega) hnone, fun _ => ?_⟩
      rw [f2]
      -- the size of t
      have hl1 : 10 ^ (N - j - 1) ≤ s * G / H / 10 ^ j := by
        rw [Nat.le_div_iff_mul_le (p10 j), ← Nat.pow_add, show N - j - 1 + j = N - 1 by omega]
        exact hq1
      have hl2 : s * G / H / 10 ^ j < 10 ^ (N - j) := by
        rw [Nat.div_lt_iff_lt_mul (p10 j), ← Nat.pow_add, show N - j + j = N by omega]
        exact hq2
      have ht1 : 10 ^ (N - j - 1) ≤ t := by omega
      have ht2 : t ≤ 10 ^ (N - j) := by omega
      have hp1 := p10 (N - j - 1)
      have ht10 : j < N - 1 → t % 10 ≠ 0 := by
        intro h1 h2
        rcases j4 with j4 | j4
        · omega
        · apply j4
          refine ⟨t / 10, ?_⟩
          rw [ht, Nat.pow_succ]
          have : t = t / 10 * 10 := by omega
          rw [this, Nat.mul_div_cancel _ (by omega)]
          ac_rfl
      have hT0 : T ≠ 0 := by omega
      -- T = t * 10^(j-1)
      have hTt : T = t * 10 ^ (j - 1) := by
        obtain ⟨k, hk1, hk2⟩ := pow10 j j1
        rw [hk1] at ht
        rw [hk2, Nat.add_sub_cancel]
        have h3 : t * (10 * 10 ^ k) = 10 * (t * 10 ^ k) := by ac_rfl
        omega
      rcases Nat.lt_or_ge t (10 ^ (N - j)) with h1 | h1
      · have h3 : t % 10 ≠ 0 := by
          by_cases h2 : j < N - 1
          · exact ht10 h2
          · rw [show N - j = 1 by omega, Nat.pow_one] at h1
            omega
        rw [digS_n e t (N - j) (by omega) ht1 h1 h3]
        have hnd := nDig_of_range (show 1 ≤ N - j by omega) ht1 h1
        refine ⟨?_, ?_, hT0⟩
        · rw [hTt, dsC_pow t _ (by omega)]
        · rw [hTt, nDig_pow t (j - 1) _ (by omega) hnd]
          dsimp only
          omega
      · have hte : t = 10 ^ (N - j) := by omega
        have hjN : j = N - 1 := by
          by_cases h2 : j < N - 1
          · exfalso
            apply ht10 h2
            obtain ⟨k, hk1, hk2⟩ := pow10 (N - j) (by omega)
            rw [hte, hk1]; omega
          · omega
        have h10 : t = 10 := by rw [hte, show N - j = 1 by omega, Nat.pow_one]
        subst h10
        rw [show N - j = 1 by omega, digS_one]
        have hT3 : T = 1 * 10 ^ (N - 1) := by
          rw [hTt, Nat.one_mul, ← Nat.pow_succ']
          congr 1; omega
        have hn1 : nDig 1 = 1 := nDig_unique 0 1 (by omega) (by omega)
        refine ⟨?_, ?_, hT0⟩
        · rw [hT3, dsC_pow 1 _ (by omega), dsC_one]
        · rw [hT3, nDig_pow 1 (N - 1) 1 (by omega) hn1]
          dsimp only
          omega
  · -- no multiple of ten
    have hno10 : ∀ k, ¬ (dmin ≤ 10 * k ∧ 10 * k ≤ dmax) := fun k hk => by omega
    have hnone : ∀ n, 1 ≤ n → n < N → (belS rd a b e n || aboS rd a b e n) = false := by
      intro n h1 h2
      refine step_none (st n (N - n) (by omega)) (fun t' ⟨h3, h4⟩ => ?_)
      obtain ⟨k, hk1, hk2⟩ := pow10 (N - n) (by omega)
      have h5 : t' * 10 ^ (N - n) = 10 * (t' * 10 ^ k) := by rw [hk1]; ac_rfl
      exact hno10 (t' * 10 ^ k) ⟨by omega, by omega⟩
    have S1 := st N 0 (by omega)
    have hbel := bel_iff S1
    have habo := abo_iff S1
    have hlow := S1.low
    have hr2 := S1.rst2
    have hr3 := S1.rst3
    simp only [Nat.pow_zero, Nat.div_one, Nat.mul_one] at hbel habo hlow hr2 hr3
    have hnear := hI.near
    have hrn := rndE_cases (s * G) H
    have hp1 := p10 (N - 1)
    obtain ⟨q, hq⟩ : ∃ q, s * G / H = q := ⟨_, rfl⟩
    obtain ⟨r, hr⟩ : ∃ r, s * G % H = r := ⟨_, rfl⟩
    rw [hq] at hbel habo hlow hsome hq1 hq2 hrn
    rw [hr] at habo hr2 hr3 hsome hrn
    have hfound : (belS rd a b e N || aboS rd a b e N) = true := by
      rw [Bool.or_eq_true]
      rcases hsome with ⟨h1, h2⟩ | ⟨h1, h2, h3⟩
      · exact Or.inl (hbel.2 ⟨by omega, h1, h2⟩)
      · exact Or.inr (habo.2 ⟨h3, by omega, h2⟩)
    refine ⟨_, _, _, nearS_found rd a b e N hfound 16 1 hN1 (by omega) hnone, fun htie => ?_⟩
    have hans : shAns G H s dmin dmax p = (if dmin < dmax then rndE (s * G) H else dmin, -p) := by
      unfold shAns
      rw [if_neg hC]
      split <;> rfl
    rw [hans]
    dsimp only
    -- the pick is the code's
    have hpk : pickS rd a b e N = (if dmin < dmax then rndE (s * G) H else dmin) ∧ dmin ≤ pickS rd a b e N ∧ pickS rd a b e N ≤ dmax ∧ pickS rd a b e N ≤ q + 1 ∧ q ≤ pickS rd a b e N := by
      unfold tieS at htie
      unfold pickS
      rw [hlow]
      rw [Bool.or_eq_true] at hfound
      generalize hB : belS rd a b e N = B at *
      generalize hA : aboS rd a b e N = A at *
      cases B <;> cases A
      · rcases hfound with h | h <;> cases h
      · have h1 := habo.1 rfl
        have h2 : ¬ (dmin ≤ q ∧ q ≤ dmax) := fun h => by have := hbel.2 ⟨by omega, h⟩; cases this
        simp only [Bool.not_false, Bool.true_or, Bool.and_self, if_true]
        refine ⟨?_, by omega, by omega, by omega, by omega⟩
        split
        · next h3 => have := hnear h3; omega
        · omega
      · have h1 := hbel.1 rfl
        simp only [Bool.false_and, Bool.false_eq_true, if_false]
        refine ⟨?_, by omega, by omega, by omega, by omega⟩
        split
        · next h3 =>
          have h4 := hnear h3
          rcases hrn with ⟨h5, h6⟩ | ⟨h5, h6⟩
          · omega
          · exfalso
            have := habo.2 ⟨by omega, by omega, by omega⟩
            cases this
        · omega
      · have h1 := hbel.1 rfl
        have h2 := habo.1 rfl
        have h3 : dmin < dmax := by omega
        simp only [Bool.true_and, decide_eq_false_iff_not] at htie
        rw [hr3] at htie
        rw [if_pos h3]
        by_cases h4 : H < 2 * r
        · rw [decide_eq_true (hr2.2 h4)]
          simp only [Bool.not_true, Bool.or_true, Bool.and_self, if_true]
          refine ⟨?_, by omega, by omega, by omega, by omega⟩
          rcases hrn with ⟨h5, h6⟩ | ⟨h5, h6⟩ <;> omega
        · rw [decide_eq_false (fun hh => h4 (hr2.1 hh))]
          simp only [Bool.not_true, Bool.or_false, Bool.and_false, Bool.false_eq_true, if_false]
          refine ⟨?_, by omega, by omega, by omega, by omega⟩
          rcases hrn with ⟨h5, h6⟩ | ⟨h5, h6⟩ <;> omega
    obtain ⟨k1, k2, k3, k4, k5⟩ := hpk
    rw [← k1]
    generalize pickS rd a b e N = t at *
    have ht3 : t % 10 ≠ 0 := fun h => hno10 (t / 10) ⟨by omega, by omega⟩
    have ht2 : t < 10 ^ N := by
      rcases Nat.lt_or_ge t (10 ^ N) with h | h
      · exact h
      · exfalso; exact hno10 (10 ^ (N - 1)) ⟨by omega, by omega⟩
    rw [digS_n e t N hN1 (by omega) ht2 ht3]
    have hnd := nDig_of_range hN1 (show 10 ^ (N - 1) ≤ t by omega) ht2
    refine ⟨rfl, ?_, by omega⟩
    rw [hnd]
    dsimp only
    omega
end
end Go.Proofs.YticlnihjhcepkaaGreatDoor
