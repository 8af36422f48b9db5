/-
  Plain: the reference's shortest digits of a number are shortFloat's, for both kinds.
-/
import Derived.Test.YticlnihjhcepkaaGreatDoorCSh5
namespace Go.Proofs.YticlnihjhcepkaaGreatDoor
open Go.RowKit
set_option linter.unusedSimpArgs false
set_option linter.unusedVariables false

theorem inI_cross {X Y X' Y' : Nat} (s : Nat) (low : Bool) (hY : 0 < Y) (hY' : 0 < Y') (h : X * Y' = X' * Y) : inI X Y s low ↔ inI X' Y' s low := by
  have key : ∀ (A B A' B' : Nat), A * Y' = A' * Y → B * Y' = B' * Y → ((A ≤ B ↔ A' ≤ B') ∧ (A < B ↔ A' < B')) := by
    intro A B A' B' h1 h2
    constructor
    · rw [← Nat.mul_le_mul_right_iff hY', h1, h2, Nat.mul_le_mul_right_iff hY]
    · rw [← Nat.mul_lt_mul_right hY', h1, h2, Nat.mul_lt_mul_right hY]
  have k1 := key (4 * (s * Y)) (4 * X + Y) (4 * (s * Y')) (4 * X' + Y') (by ac_rfl) (by rw [Nat.add_mul, Nat.add_mul, Nat.mul_assoc, h, Nat.mul_comm Y Y']; ac_rfl)
  have k2 := key (2 * (s * Y)) (2 * X + Y) (2 * (s * Y')) (2 * X' + Y') (by ac_rfl) (by rw [Nat.add_mul, Nat.add_mul, Nat.mul_assoc, h, Nat.mul_comm Y Y']; ac_rfl)
  have k3 := key (2 * X) (2 * (s * Y) + Y) (2 * X') (2 * (s * Y') + Y') (by rw [Nat.mul_assoc, h]; ac_rfl) (by rw [Nat.add_mul, Nat.add_mul, Nat.mul_comm Y Y']; ac_rfl)
  unfold inI
  rw [k2.1, k3.1, k2.2, k3.2]
  cases low
  · simp only [Bool.false_eq_true, if_false]
  · simp only [if_true]; rw [k1.1]

theorem le_cross2 {A B C D : Nat} (hB : 0 < B) (hD : 0 < D) (h : A * D = C * B) : B ≤ A ↔ D ≤ C := by
  rw [← Nat.mul_le_mul_right_iff hD, h, Nat.mul_comm B D, Nat.mul_le_mul_right_iff hB]

theorem pow3 (p i : Int) (hi : 0 ≤ i) : 10 ^ (p - i).toNat * 10 ^ (-p).toNat * 10 ^ i.toNat = 10 ^ p.toNat * 10 ^ (-(p - i)).toNat := by
  rw [← Nat.pow_add, ← Nat.pow_add, ← Nat.pow_add]; congr 1; omega

theorem hV_of (s : Nat) (E p : Int) (i : Nat) : vN s E * 10 ^ (p - i).toNat * (gH E p * 10 ^ i) = s * gG E p * (vD E * 10 ^ (-(p - i)).toNat) := by
  have h := pow3 p i (by omega)
  rw [Int.toNat_natCast] at h
  unfold vN vD gG gH
  calc s * 2 ^ E.toNat * 10 ^ (p - i).toNat * (2 ^ (-E).toNat * 10 ^ (-p).toNat * 10 ^ i) = s * 2 ^ E.toNat * 2 ^ (-E).toNat * (10 ^ (p - i).toNat * 10 ^ (-p).toNat * 10 ^ i) := by ac_rfl
    _ = s * 2 ^ E.toNat * 2 ^ (-E).toNat * (10 ^ p.toNat * 10 ^ (-(p - i)).toNat) := by rw [h]
    _ = s * (2 ^ E.toNat * 10 ^ p.toNat) * (2 ^ (-E).toNat * 10 ^ (-(p - i)).toNat) := by ac_rfl

/-- The place of the first digit. -/
theorem ord_of (s : Nat) (E p : Int) (hs : s ≠ 0) (hq : s * gG E p / gH E p ≠ 0) : p + 1 + ordT (vN s E) (vD E) = (nDig (s * gG E p / gH E p) : Nat) := by
  obtain ⟨q, hq2⟩ : ∃ q, s * gG E p / gH E p = q := ⟨_, rfl⟩
  have hH := gH_pos E p
  rw [hq2] at hq ⊢
  have hn := nDig_pos hq
  have l1 := nDig_low hq
  have l2 := lt_pow_nDig q
  have key : ∀ i : Nat, leT (vN s E) (vD E) ((i : Int) - p) ↔ 10 ^ i ≤ q := by
    intro i
    have h1 := le_cross2 (Nat.mul_pos (vD_pos E) (p10 _)) (Nat.mul_pos hH (p10 i)) (hV_of s E p i)
    unfold leT
    rw [show -((i : Int) - p) = p - i by omega, show (i : Int) - p = -(p - i) by omega, h1, ← hq2, Nat.le_div_iff_mul_le hH, Nat.mul_comm]
  have := ordT_is (vN_ne E hs) (Nat.ne_of_gt (vD_pos E)) ((key (nDig q - 1)).2 l1) (by
    rw [show ((nDig q - 1 : Nat) : Int) - p + 1 = ((nDig q : Nat) : Int) - p by omega, key]
    omega)
  rw [this]
  omega

/-- When a decimal number of the scale reads back. -/
theorem rd_of {s c dmin dmax : Nat} {E p : Int} (hI : Iv (gG E p) (gH E p) s c dmin dmax) (f : Nat) (F bias : Int) (inf : Nat) (hF : F = f) (hE : 1 - bias - F ≤ E) (hEb : E ≤ bias - F) (hs : s < 2 ^ (f + 1)) (hn : E = 1 - bias - F ∨ 2 ^ f ≤ s) (hinf : inf = (2 * bias + 1).toNat * 2 ^ f) (hbias : 1 ≤ bias) (hf : 1 ≤ f)
    (hc : c = 1 ↔ (s = 2 ^ f ∧ 1 - bias - F < E)) (d i : Nat) (hd : 0 < d) :
    decide (nearB F bias inf (d * 10 ^ ((i : Int) - p).toNat) (10 ^ (-((i : Int) - p)).toNat) = (E - (1 - bias - F)).toNat * 2 ^ f + s) = true ↔ dmin ≤ d * 10 ^ i ∧ d * 10 ^ i ≤ dmax := by
  rw [decide_eq_true_iff, near_iff f F bias inf _ _ s E hF (Nat.ne_of_gt (p10 _)) (Nat.ne_of_gt (Nat.mul_pos hd (p10 _))) hE hEb hs hn hinf hbias hf, hI.mem,
    show decide (s = 2 ^ f ∧ 1 - bias - F < E) = decide (c = 1) from decide_eq_decide.2 hc.symm]
  refine inI_cross s _ (Nat.mul_pos (p10 _) (p2 _)) (gG_pos E p) ?_
  have h := pow3 p i (by omega)
  rw [Int.toNat_natCast] at h
  rw [show -((i : Int) - p) = p - i by omega, show (i : Int) - p = -(p - i) by omega]
  unfold gG gH
  calc d * 10 ^ (-(p - i)).toNat * 2 ^ (-E).toNat * (2 ^ E.toNat * 10 ^ p.toNat) = d * 2 ^ (-E).toNat * 2 ^ E.toNat * (10 ^ p.toNat * 10 ^ (-(p - i)).toNat) := by ac_rfl
    _ = d * 2 ^ (-E).toNat * 2 ^ E.toNat * (10 ^ (p - i).toNat * 10 ^ (-p).toNat * 10 ^ i) := by rw [h]
    _ = d * 10 ^ i * (2 ^ (-E).toNat * 10 ^ (-p).toNat) * (10 ^ (p - i).toNat * 2 ^ E.toNat) := by ac_rfl

theorem small_ok {G H s k : Nat} (h0 : 1 ≤ k) (h1 : (4 * k - 2) * G < 40 * H) (h2 : 19 * H < 2 * (k * G)) (h : 40 * H ≤ 4 * (s * G) + 2 * G) : 19 * H < 2 * (s * G) := by
  rcases Nat.lt_or_ge s k with h3 | h3
  · exfalso
    have h4 : (4 * s + 2) * G ≤ (4 * k - 2) * G := Nat.mul_le_mul_right _ (by omega)
    rw [Nat.add_mul, Nat.mul_assoc] at h4
    omega
  · have := Nat.mul_le_mul_right G h3
    omega
set_option exponentiation.threshold 2000 in
theorem small_64 : (4 * 2 - 2) * gG (-1074) 324 < 40 * gH (-1074) 324 ∧ 19 * gH (-1074) 324 < 2 * (2 * gG (-1074) 324) := by decide +kernel
theorem small_32 : (4 * 7 - 2) * gG (-149) 45 < 40 * gH (-149) 45 ∧ 19 * gH (-149) 45 < 2 * (7 * gG (-149) 45) := by decide +kernel

/-- The reference's shortest digits. -/
theorem short_ref (Z : Nat) (ME : Int) (mb m : Nat) (x bias : Int) (inf : Nat) (hz : Kd Z ME mb m x) (hnorm : 2 ^ mb ≤ m ∨ x - (mb : Nat) = ME + Z) (hm0 : m ≠ 0) (hb : bias = 1 - (ME + Z) - mb) (hinf : inf = (2 * bias + 1).toNat * 2 ^ mb) :
    ∃ near n tie, nearS (fun d k => decide (nearB (mb : Nat) bias inf (d * 10 ^ k.toNat) (10 ^ (-k).toNat) = (x - (mb : Nat) - (ME + Z)).toNat * 2 ^ mb + m)) (vN m (x - (mb : Nat))) (vD (x - (mb : Nat))) (ordT (vN m (x - (mb : Nat))) (vD (x - (mb : Nat)))) 16 1 = (near, n, tie) ∧
      (tie = false →
        (digS (ordT (vN m (x - (mb : Nat))) (vD (x - (mb : Nat)))) near n).1 = dsC (shortF Z ME (m * 2 ^ shS m) (x - (mb : Nat) - (shS m : Nat))).1 ∧
        (digS (ordT (vN m (x - (mb : Nat))) (vD (x - (mb : Nat)))) near n).2 + 1 = nDig (shortF Z ME (m * 2 ^ shS m) (x - (mb : Nat) - (shS m : Nat))).1 + (shortF Z ME (m * 2 ^ shS m) (x - (mb : Nat) - (shS m : Nat))).2 ∧
        (shortF Z ME (m * 2 ^ shS m) (x - (mb : Nat) - (shS m : Nat))).1 ≠ 0) := by
  obtain ⟨c, dmin, dmax, p, hc, hI, -, -, hp, hS⟩ := short_is Z ME mb m x hz hnorm hm0
  rw [hS]
  have hleast : 1 - bias - (mb : Nat) = ME + Z := by omega
  have hE1 : ME + Z ≤ x - (mb : Nat) := by unfold Kd at hz; omega
  have hE2 : x - (mb : Nat) ≤ bias - (mb : Nat) := by unfold Kd at hz; omega
  have hm1 : m < 2 ^ (mb + 1) := by
    rcases hz with ⟨_, _, rfl, _, _, h⟩ | ⟨_, _, rfl, _, _, h⟩ <;> exact h
  have hm53 : m < 9007199254740992 := by unfold Kd at hz; omega
  have hbias : 1 ≤ bias := by unfold Kd at hz; omega
  have hmb : 1 ≤ mb := by unfold Kd at hz; omega
  have hmbn : mb = 23 ∨ mb = 52 := by unfold Kd at hz; omega
  have hkind : (ME + Z = -1074 ∨ ME + Z = -149) := by unfold Kd at hz; omega
  generalize x - (mb : Nat) = E at *
  have hH := gH_pos E p
  have hG := gG_pos E p
  have hcc := hI.cc
  have hGH : gH E p ≤ gG E p := by omega
  have hmG : gG E p ≤ m * gG E p := Nat.le_mul_of_pos_left _ (by omega)
  have hq0 : m * gG E p / gH E p ≠ 0 := by
    have : 1 ≤ m * gG E p / gH E p := (Nat.le_div_iff_mul_le hH).2 (by omega)
    omega
  have hN := ord_of m E p hm0 hq0
  have l1 := nDig_low hq0
  have l2 := lt_pow_nDig (m * gG E p / gH E p)
  have hN1 := nDig_pos hq0
  have hlo := (Nat.le_div_iff_mul_le hH).1 l1
  have hup := (Nat.div_lt_iff_lt_mul hH).1 l2
  have hmGu : m * gG E p < 100000000000000000 * gH E p := by
    rcases hcc with ⟨h1, h2, h3, h4⟩ | ⟨h1, h2, h3⟩
    · have h5 := (hc.1 h1).1
      have h6 : m ≤ 4503599627370496 := by
        rcases hmbn with h | h <;> rw [h] at h5 <;> omega
      have := Nat.mul_le_mul_right (gG E p) h6
      omega
    · have : m * gG E p ≤ 9007199254740992 * gG E p := Nat.mul_le_mul_right _ (by omega)
      omega
  have hN17 : nDig (m * gG E p / gH E p) ≤ 17 := by
    have h1 : m * gG E p / gH E p < 10 ^ 17 := (Nat.div_lt_iff_lt_mul hH).2 hmGu
    have h2 := Nat.lt_of_le_of_lt l1 h1
    have := (Nat.pow_lt_pow_iff_right (by omega : 1 < 10)).1 h2
    omega
  refine shortest_eq hI (vD_pos E) (hV_of m E p) hN (by omega) hN17 hlo hup ?_ ?_
  · intro d i hd
    have := rd_of hI mb (mb : Nat) bias inf rfl (by omega) hE2 hm1 (by rcases hnorm with h | h; exact Or.inr h; exact Or.inl (by omega)) hinf hbias hmb (by rw [hc, hleast]) d i hd
    rw [hleast] at this
    exact this
  · intro hn1 hd
    rw [hn1] at hup
    have h40 : 40 * gH E p ≤ 4 * (m * gG E p) + 2 * gG E p := by
      have := (hI.up 10).1 hd
      split at this <;> omega
    have hEl : E = ME + Z := by
      rcases hnorm with h | h
      · exfalso
        have h8 : (8388608 : Nat) ≤ m := by rcases hmbn with h9 | h9 <;> rw [h9] at h <;> omega
        have := Nat.mul_le_mul_right (gG E p) h8
        omega
      · exact h
    have hc2 : c = 2 := by
      rcases hcc with ⟨h1, -⟩ | ⟨h1, -⟩
      · have := (hc.1 h1).2; omega
      · exact h1
    have hpv := hp hc2
    rcases hkind with hk | hk
    · rw [hEl, hk] at hpv
      rw [hEl, hk, show p = 324 by omega] at h40 ⊢
      exact small_ok (k := 2) (by omega) small_64.1 small_64.2 h40
    · rw [hEl, hk] at hpv
      rw [hEl, hk, show p = 45 by omega] at h40 ⊢
      exact small_ok (k := 7) (by omega) small_32.1 small_32.2 h40
end Go.Proofs.YticlnihjhcepkaaGreatDoor
