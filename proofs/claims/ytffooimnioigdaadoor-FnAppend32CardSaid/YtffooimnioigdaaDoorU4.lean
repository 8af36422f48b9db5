/-
  Walks of uscale.go: shortFloat for numbers of 32 and of 64 bits.
-/
import Derived.Test.YtffooimnioigdaaDoorU3
namespace Go.Proofs.YtffooimnioigdaaDoor
open Go.RowKit
set_option linter.unusedSimpArgs false
set_option linter.unusedVariables false

/-- An unrounded product with ten to the power of p and two to the power of e. -/
def usE (x : Nat) (e p : Int) : Nat := us x (pmHi (p + 348).toNat) (pmLo (p + 348).toNat) (-(e + p * 108853 / 32768 + 3)).toNat

theorem wrapU (k : Nat) (h : k < 18446744073709551616) : IntKind.u64.wrap (k : Int) = (k : Int) := by rw [IntKind.wrap_u64]; omega
theorem wrapI (k : Nat) (h : k < 9223372036854775808) : IntKind.i64.wrap (k : Int) = (k : Int) := by rw [IntKind.wrap_i64]; omega

/-- The power of ten, the two ends of the interval, and whether the significand is odd. -/
def shC (Z : Nat) (ME : Int) (m : Nat) (e : Int) : Int × Nat × Nat × Nat :=
  if m = 9223372036854775808 ∧ ME < e then (-(((e + Z) * 631305 - 261663) / 2097152), (m + 18446744073709551616 - 2 ^ (Z - 2)) % 18446744073709551616, (m + 2 ^ (Z - 1)) % 18446744073709551616, m / 2 ^ Z % 2)
  else if ME ≤ e then (-((e + Z) * 78913 / 262144), (m + 18446744073709551616 - 2 ^ (Z - 1)) % 18446744073709551616, (m + 2 ^ (Z - 1)) % 18446744073709551616, m / 2 ^ Z % 2)
  else (-((ME + Z) * 78913 / 262144), (m + 18446744073709551616 - 2 ^ (Z + (ME - e).toNat - 1)) % 18446744073709551616, (m + 2 ^ (Z + (ME - e).toNat - 1)) % 18446744073709551616, m / 2 ^ (Z + (ME - e).toNat) % 2)

def shortF (Z : Nat) (ME : Int) (m : Nat) (e : Int) : Nat × Int :=
  let c := shC Z ME m e
  let dmin := uCeil (uNudge (usE c.2.1 e c.1) c.2.2.2)
  let dmax := uFloor (uNudge (usE c.2.2.1 e c.1) (-(c.2.2.2 : Int)))
  if dmin ≤ dmax / 10 * 10 then (dmax / 10, -(c.1 - 1)) else if dmin < dmax then (uRound (usE m e c.1), -c.1) else (dmin, -c.1)

set_option maxRecDepth 100000 in
set_option maxHeartbeats 2000000 in
theorem shortFloat64_any (T : Nat) (m : Nat) (x : Int) (w : World) (he : Env T w) (hm : m < 18446744073709551616) (hx1 : -1137 ≤ x) (hx2 : x ≤ 960) :
    Calls Tryd.prog 51 #[.int .u64 m, .int .i64 x] w fun e w' =>
      e = .returned (.tuple #[.int .u64 ((shortF 11 (-1085) m x).1 : Nat), .int .i64 (shortF 11 (-1085) m x).2]) ∧ w.grownBy w' none := by
  have KEY : ∀ (p : Int) (mn mx od : Nat), shC 11 (-1085) m x = (p, mn, mx, od) → ∀ (u1 u2 u3 u4 dmin dmax : Nat), usE mn x p = u1 → uNudge u1 od = u2 → uCeil u2 = dmin → usE mx x p = u3 → uNudge u3 (-(od : Int)) = u4 → uFloor u4 = dmax →
      shortF 11 (-1085) m x = if dmin ≤ dmax / 10 * 10 then (dmax / 10, -(p - 1)) else if dmin < dmax then (uRound (usE m x p), -p) else (dmin, -p) := by
    intro p mn mx od h u1 u2 u3 u4 dmin dmax h1 h2 h3 h4 h5 h6
    unfold shortF
    simp only [h, h1, h2, h3, h4, h5, h6]
  have HKEY := Lib.hid KEY
  clear KEY
  by_cases hA : m = 9223372036854775808 ∧ -1085 < x
  case' pos =>
    obtain ⟨hm63, hxm⟩ := hA
    have hC : shC 11 (-1085) m x = (-(((x + 11) * 631305 - 261663) / 2097152), (m + 18446744073709551616 - 2 ^ (11 - 2)) % 18446744073709551616, (m + 2 ^ (11 - 1)) % 18446744073709551616, m / 2 ^ 11 % 2) := by
      unfold shC; rw [if_pos ⟨hm63, hxm⟩]; rfl
    obtain ⟨q, hq⟩ : ∃ q : Int, q = ((x + 11) * 631305 - 261663) / 2097152 := ⟨_, rfl⟩
    rw [← hq] at hC
    have hq1 : -348 ≤ -q := by omega
    have hq2 : -q ≤ 347 := by omega
    have hs : 0 ≤ -(x + (-q) * 108853 / 32768 + 3) ∧ -(x + (-q) * 108853 / 32768 + 3) < 64 := by omega
    have hb1 : ((m : Int) == 9223372036854775808) = true := by rw [beq_iff_eq]; omega
    have hb2 : decide ((-1085 : Int) < x) = true := by simpa using hxm
    have e1 : IntKind.u64.wrap ((m : Int) - 512) = ((m + 18446744073709551616 - 2 ^ (11 - 2)) % 18446744073709551616 : Nat) := by rw [IntKind.wrap_u64]; omega
    have e2 : IntKind.u64.wrap ((m : Int) + 1024) = ((m + 2 ^ (11 - 1)) % 18446744073709551616 : Nat) := by rw [IntKind.wrap_u64]; omega
    have e3 : bits .and .i64 ((m : Int) / 2048) 1 = (m / 2 ^ 11 % 2 : Nat) := by rw [i64_and1]; omega
    have hmn : (m + 18446744073709551616 - 2 ^ (11 - 2)) % 18446744073709551616 < 18446744073709551616 := by omega
    have hmx : (m + 2 ^ (11 - 1)) % 18446744073709551616 < 18446744073709551616 := by omega
    have hod : m / 2 ^ 11 % 2 < 2 := by omega
    clear hm63
    generalize (m + 18446744073709551616 - 2 ^ (11 - 2)) % 18446744073709551616 = mn at *
    generalize (m + 2 ^ (11 - 1)) % 18446744073709551616 = mx at *
    generalize m / 2 ^ 11 % 2 = od at *
    have Hq := Lib.hid hq
    have HC := Lib.hid hC
    clear hq hC
    go_enter Tryd.func51, Tryd.ntmps51
    go_wp2_with fail
    refine (skewed_is _ q _ (by omega) (by omega) Hq.out).mono ?_
    rintro e w1 ⟨rfl, rfl⟩
    go_wp2_with fail
  case' neg =>
    have hA' : ((m : Int) == 9223372036854775808) = false ∨ ((m : Int) == 9223372036854775808) = true ∧ decide ((-1085 : Int) < x) = false := by
      by_cases h : m = 9223372036854775808
      · right; exact ⟨by rw [beq_iff_eq]; omega, by simp; omega⟩
      · left; rw [beq_eq_false_iff_ne]; omega
    by_cases hB : -1085 ≤ x
    case' pos =>
      have hC : shC 11 (-1085) m x = (-((x + 11) * 78913 / 262144), (m + 18446744073709551616 - 2 ^ (11 - 1)) % 18446744073709551616, (m + 2 ^ (11 - 1)) % 18446744073709551616, m / 2 ^ 11 % 2) := by
        unfold shC; rw [if_neg hA, if_pos hB]; rfl
      obtain ⟨q, hq⟩ : ∃ q : Int, q = (x + 11) * 78913 / 262144 := ⟨_, rfl⟩
      rw [← hq] at hC
      have hq1 : -348 ≤ -q := by omega
      have hq2 : -q ≤ 347 := by omega
      have hs : 0 ≤ -(x + (-q) * 108853 / 32768 + 3) ∧ -(x + (-q) * 108853 / 32768 + 3) < 64 := by omega
      have hb3 : decide ((-1085 : Int) ≤ x) = true := by simpa using hB
      have e1 : IntKind.u64.wrap ((m : Int) - 1024) = ((m + 18446744073709551616 - 2 ^ (11 - 1)) % 18446744073709551616 : Nat) := by rw [IntKind.wrap_u64]; omega
      have e2 : IntKind.u64.wrap ((m : Int) + 1024) = ((m + 2 ^ (11 - 1)) % 18446744073709551616 : Nat) := by rw [IntKind.wrap_u64]; omega
      have e3 : bits .and .i64 ((m : Int) / 2048) 1 = (m / 2 ^ 11 % 2 : Nat) := by rw [i64_and1]; omega
      have hmn : (m + 18446744073709551616 - 2 ^ (11 - 1)) % 18446744073709551616 < 18446744073709551616 := by omega
      have hmx : (m + 2 ^ (11 - 1)) % 18446744073709551616 < 18446744073709551616 := by omega
      have hod : m / 2 ^ 11 % 2 < 2 := by omega
      clear hA
      generalize (m + 18446744073709551616 - 2 ^ (11 - 1)) % 18446744073709551616 = mn at *
      generalize (m + 2 ^ (11 - 1)) % 18446744073709551616 = mx at *
      generalize m / 2 ^ 11 % 2 = od at *
      have Hq := Lib.hid hq
      have HC := Lib.hid hC
      clear hq hC
      rcases hA' with hb1 | ⟨hb1, hb2⟩
      all_goals
        go_enter Tryd.func51, Tryd.ntmps51
        go_wp2_with fail
        refine (log10Pow2_is _ q _ (by omega) (by omega) Hq.out).mono ?_
        rintro e w1 ⟨rfl, rfl⟩
        go_wp2_with fail
    case' neg =>
      obtain ⟨y, hz⟩ : ∃ y : Nat, 11 + (-1085 - x) = (y : Int) + 1 := ⟨11 - 1 + (-1085 - x).toNat, by omega⟩
      have ez : 11 + (-1085 - x).toNat = y + 1 := by omega
      have hz1 : 11 - 1 < y := by omega
      have hz2 : y ≤ 62 := by omega
      have hC : shC 11 (-1085) m x = (-((-1085 + 11) * 78913 / 262144), (m + 18446744073709551616 - 2 ^ y) % 18446744073709551616, (m + 2 ^ y) % 18446744073709551616, m / 2 ^ (y + 1) % 2) := by
        unfold shC; rw [if_neg hA, if_neg hB, ez]; rfl
      obtain ⟨q, hq⟩ : ∃ q : Int, q = (-1085 + 11) * 78913 / 262144 := ⟨_, rfl⟩
      rw [← hq] at hC
      have hq' : q = (x + ((y : Int) + 1)) * 78913 / 262144 := by rw [hq, show (-1085 + 11 : Int) = x + ((y : Int) + 1) by omega]
      have hq1 : -348 ≤ -q := by omega
      have hq2 : -q ≤ 347 := by omega
      have hs : 0 ≤ -(x + (-q) * 108853 / 32768 + 3) ∧ -(x + (-q) * 108853 / 32768 + 3) < 64 := by omega
      have hb3 : decide ((-1085 : Int) ≤ x) = false := by simpa using hB
      have hpw : 2 ^ y < 9223372036854775808 := by
        have : 2 ^ y ≤ 2 ^ 62 := Nat.pow_le_pow_right (by omega) (by omega)
        omega
      have hpc : (2 : Int) ^ y = ((2 ^ y : Nat) : Int) := by simp
      have hpw2 : IntKind.u64.wrap ((2 : Int) ^ y) = (2 : Int) ^ y := by rw [hpc]; exact wrapU _ (by omega)
      have e1 : IntKind.u64.wrap ((m : Int) - 2 ^ y) = ((m + 18446744073709551616 - 2 ^ y) % 18446744073709551616 : Nat) := by rw [hpc, IntKind.wrap_u64]; omega
      have e2 : IntKind.u64.wrap ((m : Int) + 2 ^ y) = ((m + 2 ^ y) % 18446744073709551616 : Nat) := by rw [hpc, IntKind.wrap_u64]; omega
      have hdv : m / 2 ^ (y + 1) < 9223372036854775808 := by
        have : 2 ≤ 2 ^ (y + 1) := by
          have : 2 ^ 1 ≤ 2 ^ (y + 1) := Nat.pow_le_pow_right (by omega) (by omega)
          omega
        have := Nat.div_le_div_left this (by omega : 0 < 2) (a := m)
        omega
      have hdc : (m : Int) / 2 ^ (y + 1) = ((m / 2 ^ (y + 1) : Nat) : Int) := by simp
      have hdw : IntKind.i64.wrap ((m : Int) / 2 ^ (y + 1)) = (m : Int) / 2 ^ (y + 1) := by rw [hdc]; exact wrapI _ (by omega)
      have e3 : bits .and .i64 ((m : Int) / 2 ^ (y + 1)) 1 = (m / 2 ^ (y + 1) % 2 : Nat) := by rw [i64_and1, hdc]; omega
      have hmn : (m + 18446744073709551616 - 2 ^ y) % 18446744073709551616 < 18446744073709551616 := by omega
      have hmx : (m + 2 ^ y) % 18446744073709551616 < 18446744073709551616 := by omega
      have hod : m / 2 ^ (y + 1) % 2 < 2 := by omega
      clear hA hpc hdc ez
      generalize (m + 18446744073709551616 - 2 ^ y) % 18446744073709551616 = mn at *
      generalize (m + 2 ^ y) % 18446744073709551616 = mx at *
      generalize m / 2 ^ (y + 1) % 2 = od at *
      have Hq := Lib.hid hq'
      have HC := Lib.hid hC
      clear hq hC hq'
      rcases hA' with hb1 | ⟨hb1, hb2⟩
      all_goals
        go_enter Tryd.func51, Tryd.ntmps51
        go_wp2_with fail
        refine (log10Pow2_is _ q _ (by omega) (by omega) Hq.out).mono ?_
        rintro e w1 ⟨rfl, rfl⟩
        go_wp2_with fail
  all_goals
    obtain ⟨lp, hlp⟩ : ∃ lp : Int, lp = (-q) * 108853 / 32768 := ⟨_, rfl⟩
    have hl1 : -10000 ≤ lp := by omega
    have hl2 : lp ≤ 10000 := by omega
    obtain ⟨s, hsx⟩ : ∃ s : Nat, -(x + lp + 3) = (s : Int) := ⟨(-(x + lp + 3)).toNat, by omega⟩
    have hs3 : s < 64 := by omega
    have hse : (-(x + (-q) * 108853 / 32768 + 3)).toNat = s := by omega
    have Hlp := Lib.hid hlp
    have Hs := Lib.hid hsx
    have Hse := Lib.hid hse
    clear hlp hsx hse hs
    refine (log2Pow10_is _ lp _ (by omega) (by omega) Hlp.out).mono ?_
    rintro e w1 ⟨rfl, rfl⟩
    go_wp2_with fail
    refine (prescale_any T w.heap.size x _ lp _ _ _ _ (he.alloc _) he.size (Row.new w [.int .u64 0, .int .u64 0, .int .i64 0] _) hq1 hq2 (by omega) (by omega) hl1 hl2).mono ?_
    rintro e w1 ⟨rfl, hr1, hg1⟩
    have hg : w.grownBy w1 none := grown_forget (World.grownBy_alloc w _ none) hg1 (Nat.le_refl _)
    clear hg1
    have hUS : ∀ y r, usE y x (-q) = r → us y (pmHi (-q + 348).toNat) (pmLo (-q + 348).toNat) s = r := by
      intro y r h
      rw [← h]; unfold usE; rw [Hse.out]
    have HUS := Lib.hid hUS
    clear hUS
    obtain ⟨u1, hu1⟩ : ∃ u1, usE mn x (-q) = u1 := ⟨_, rfl⟩
    obtain ⟨u2, hu2⟩ : ∃ u2, uNudge u1 od = u2 := ⟨_, rfl⟩
    obtain ⟨dmin, hdmin⟩ : ∃ d, uCeil u2 = d := ⟨_, rfl⟩
    obtain ⟨u3, hu3⟩ : ∃ u3, usE mx x (-q) = u3 := ⟨_, rfl⟩
    obtain ⟨u4, hu4⟩ : ∃ u4, uNudge u3 (-(od : Int)) = u4 := ⟨_, rfl⟩
    obtain ⟨dmax, hdmax⟩ : ∃ d, uFloor u4 = d := ⟨_, rfl⟩
    obtain ⟨u5, hu5⟩ : ∃ u5, usE m x (-q) = u5 := ⟨_, rfl⟩
    have hK := HKEY.out _ _ _ _ HC.out _ _ _ _ _ _ hu1 hu2 hdmin hu3 hu4 hdmax
    rw [hu5] at hK
    have b1 : u1 < 18446744073709551616 := by rw [← hu1]; exact us_lt _ _ _ _ hmn (pm_lt _).1
    have b3 : u3 < 18446744073709551616 := by rw [← hu3]; exact us_lt _ _ _ _ hmx (pm_lt _).1
    have b5 : u5 < 18446744073709551616 := by rw [← hu5]; exact us_lt _ _ _ _ hm (pm_lt _).1
    have b2 : u2 < 18446744073709551616 := by rw [← hu2]; exact uNudge_lt _ _
    have b4 : u4 < 18446744073709551616 := by rw [← hu4]; exact uNudge_lt _ _
    have b6 : dmin < 4611686018427387904 := by rw [← hdmin]; unfold uCeil; omega
    have b7 : dmax < 4611686018427387904 := by rw [← hdmax]; unfold uFloor; omega
    have hu1' := HUS.out _ _ hu1
    have hu3' := HUS.out _ _ hu3
    have hu5' := HUS.out _ _ hu5
    have Hu1 := Lib.hid hu1'
    have Hu2 := Lib.hid hu2
    have Hdmin := Lib.hid hdmin
    have Hu3 := Lib.hid hu3'
    have Hu4 := Lib.hid hu4
    have Hdmax := Lib.hid hdmax
    have Hu5 := Lib.hid hu5'
    have HK := Lib.hid hK
    clear hu1 hu2 hdmin hu3 hu4 hdmax hu5 hK hu1' hu3' hu5' HKEY HUS
    go_wp2_with fail
    refine (uscale_row _ _ _ s u1 _ _ _ hmn (pm_lt _).1 (pm_lt _).2 hs3 Hs.out hr1 Hu1.out).mono ?_
    rintro e w2 ⟨rfl, hg2⟩
    have hr2 := hr1.grown hg2 (by simp)
    have hg := grown_none_trans hg hg2
    clear hg2
    go_wp2_with fail
    refine (nudge_is u1 u2 od _ b1 (by omega) (by omega) Hu2.out).mono ?_
    rintro e w3 ⟨rfl, rfl⟩
    go_wp2_with fail
    refine (ceil_is u2 dmin _ b2 Hdmin.out).mono ?_
    rintro e w3 ⟨rfl, rfl⟩
    go_wp2_with fail
    refine (uscale_row _ _ _ s u3 _ _ _ hmx (pm_lt _).1 (pm_lt _).2 hs3 Hs.out hr2 Hu3.out).mono ?_
    rintro e w3 ⟨rfl, hg2⟩
    have hr3 := hr2.grown hg2 (by simp)
    have hg := grown_none_trans hg hg2
    clear hg2
    go_wp2_with fail
    refine (nudge_is u3 u4 (-(od : Int)) _ b3 (by omega) (by omega) Hu4.out).mono ?_
    rintro e w3 ⟨rfl, rfl⟩
    go_wp2_with fail
    refine (floor_is u4 dmax _ b4 Hdmax.out).mono ?_
    rintro e w3 ⟨rfl, rfl⟩
    by_cases hd1 : dmin ≤ dmax / 10 * 10
    · have hfin := HK.out
      rw [if_pos hd1] at hfin
      have HF := Lib.hid hfin
      clear hfin
      go_wp2_with fail
      go_ret2
      refine ⟨?_, hg⟩
      rw [HF.out]
      rfl
    · have hK2 := HK.out
      rw [if_neg hd1] at hK2
      by_cases hd2 : dmin < dmax
      · rw [if_pos hd2] at hK2
        have HF := Lib.hid hK2
        clear hK2
        go_wp2_with fail
        refine (uscale_row _ _ _ s u5 _ _ _ hm (pm_lt _).1 (pm_lt _).2 hs3 Hs.out hr3 Hu5.out).mono ?_
        rintro e w4 ⟨rfl, hg2⟩
        have hg := grown_none_trans hg hg2
        clear hg2
        go_wp2_with fail
        refine (round_is u5 _ _ b5 rfl).mono ?_
        rintro e w5 ⟨rfl, rfl⟩
        go_wp2_with fail
        go_ret2
        refine ⟨?_, hg⟩
        rw [HF.out, Int.neg_neg]
        rfl
      · rw [if_neg hd2] at hK2
        have HF := Lib.hid hK2
        clear hK2
        go_wp2_with fail
        go_ret2
        refine ⟨?_, hg⟩
        rw [HF.out, Int.neg_neg]
        rfl

set_option maxRecDepth 100000 in
set_option maxHeartbeats 2000000 in
theorem shortFloat32_any (T : Nat) (m : Nat) (x : Int) (w : World) (he : Env T w) (hm : m < 18446744073709551616) (hx1 : -212 ≤ x) (hx2 : x ≤ 64) :
    Calls Tryd.prog 43 #[.int .u64 m, .int .i64 x] w fun e w' =>
      e = .returned (.tuple #[.int .u64 ((shortF 40 (-189) m x).1 : Nat), .int .i64 (shortF 40 (-189) m x).2]) ∧ w.grownBy w' none := by
  have KEY : ∀ (p : Int) (mn mx od : Nat), shC 40 (-189) m x = (p, mn, mx, od) → ∀ (u1 u2 u3 u4 dmin dmax : Nat), usE mn x p = u1 → uNudge u1 od = u2 → uCeil u2 = dmin → usE mx x p = u3 → uNudge u3 (-(od : Int)) = u4 → uFloor u4 = dmax →
      shortF 40 (-189) m x = if dmin ≤ dmax / 10 * 10 then (dmax / 10, -(p - 1)) else if dmin < dmax then (uRound (usE m x p), -p) else (dmin, -p) := by
    intro p mn mx od h u1 u2 u3 u4 dmin dmax h1 h2 h3 h4 h5 h6
    unfold shortF
    simp only [h, h1, h2, h3, h4, h5, h6]
  have HKEY := Lib.hid KEY
  clear KEY
  by_cases hA : m = 9223372036854775808 ∧ -189 < x
  case' pos =>
    obtain ⟨hm63, hxm⟩ := hA
    have hC : shC 40 (-189) m x = (-(((x + 40) * 631305 - 261663) / 2097152), (m + 18446744073709551616 - 2 ^ (40 - 2)) % 18446744073709551616, (m + 2 ^ (40 - 1)) % 18446744073709551616, m / 2 ^ 40 % 2) := by
      unfold shC; rw [if_pos ⟨hm63, hxm⟩]; rfl
    obtain ⟨q, hq⟩ : ∃ q : Int, q = ((x + 40) * 631305 - 261663) / 2097152 := ⟨_, rfl⟩
    rw [← hq] at hC
    have hq1 : -348 ≤ -q := by omega
    have hq2 : -q ≤ 347 := by omega
    have hs : 0 ≤ -(x + (-q) * 108853 / 32768 + 3) ∧ -(x + (-q) * 108853 / 32768 + 3) < 64 := by omega
    have hb1 : ((m : Int) == 9223372036854775808) = true := by rw [beq_iff_eq]; omega
    have hb2 : decide ((-189 : Int) < x) = true := by simpa using hxm
    have e1 : IntKind.u64.wrap ((m : Int) - 274877906944) = ((m + 18446744073709551616 - 2 ^ (40 - 2)) % 18446744073709551616 : Nat) := by rw [IntKind.wrap_u64]; omega
    have e2 : IntKind.u64.wrap ((m : Int) + 549755813888) = ((m + 2 ^ (40 - 1)) % 18446744073709551616 : Nat) := by rw [IntKind.wrap_u64]; omega
    have e3 : bits .and .i64 ((m : Int) / 1099511627776) 1 = (m / 2 ^ 40 % 2 : Nat) := by rw [i64_and1]; omega
    have hmn : (m + 18446744073709551616 - 2 ^ (40 - 2)) % 18446744073709551616 < 18446744073709551616 := by omega
    have hmx : (m + 2 ^ (40 - 1)) % 18446744073709551616 < 18446744073709551616 := by omega
    have hod : m / 2 ^ 40 % 2 < 2 := by omega
    clear hm63
    generalize (m + 18446744073709551616 - 2 ^ (40 - 2)) % 18446744073709551616 = mn at *
    generalize (m + 2 ^ (40 - 1)) % 18446744073709551616 = mx at *
    generalize m / 2 ^ 40 % 2 = od at *
    have Hq := Lib.hid hq
    have HC := Lib.hid hC
    clear hq hC
    go_enter Tryd.func43, Tryd.ntmps43
    go_wp2_with fail
    refine (skewed_is _ q _ (by omega) (by omega) Hq.out).mono ?_
    rintro e w1 ⟨rfl, rfl⟩
    go_wp2_with fail
  case' neg =>
    have hA' : ((m : Int) == 9223372036854775808) = false ∨ ((m : Int) == 9223372036854775808) = true ∧ decide ((-189 : Int) < x) = false := by
      by_cases h : m = 9223372036854775808
      · right; exact ⟨by rw [beq_iff_eq]; omega, by simp; omega⟩
      · left; rw [beq_eq_false_iff_ne]; omega
    by_cases hB : -189 ≤ x
    case' pos =>
      have hC : shC 40 (-189) m x = (-((x + 40) * 78913 / 262144), (m + 18446744073709551616 - 2 ^ (40 - 1)) % 18446744073709551616, (m + 2 ^ (40 - 1)) % 18446744073709551616, m / 2 ^ 40 % 2) := by
        unfold shC; rw [if_neg hA, if_pos hB]; rfl
      obtain ⟨q, hq⟩ : ∃ q : Int, q = (x + 40) * 78913 / 262144 := ⟨_, rfl⟩
      rw [← hq] at hC
      have hq1 : -348 ≤ -q := by omega
      have hq2 : -q ≤ 347 := by omega
      have hs : 0 ≤ -(x + (-q) * 108853 / 32768 + 3) ∧ -(x + (-q) * 108853 / 32768 + 3) < 64 := by omega
      have hb3 : decide ((-189 : Int) ≤ x) = true := by simpa using hB
      have e1 : IntKind.u64.wrap ((m : Int) - 549755813888) = ((m + 18446744073709551616 - 2 ^ (40 - 1)) % 18446744073709551616 : Nat) := by rw [IntKind.wrap_u64]; omega
      have e2 : IntKind.u64.wrap ((m : Int) + 549755813888) = ((m + 2 ^ (40 - 1)) % 18446744073709551616 : Nat) := by rw [IntKind.wrap_u64]; omega
      have e3 : bits .and .i64 ((m : Int) / 1099511627776) 1 = (m / 2 ^ 40 % 2 : Nat) := by rw [i64_and1]; omega
      have hmn : (m + 18446744073709551616 - 2 ^ (40 - 1)) % 18446744073709551616 < 18446744073709551616 := by omega
      have hmx : (m + 2 ^ (40 - 1)) % 18446744073709551616 < 18446744073709551616 := by omega
      have hod : m / 2 ^ 40 % 2 < 2 := by omega
      clear hA
      generalize (m + 18446744073709551616 - 2 ^ (40 - 1)) % 18446744073709551616 = mn at *
      generalize (m + 2 ^ (40 - 1)) % 18446744073709551616 = mx at *
      generalize m / 2 ^ 40 % 2 = od at *
      have Hq := Lib.hid hq
      have HC := Lib.hid hC
      clear hq hC
      rcases hA' with hb1 | ⟨hb1, hb2⟩
      all_goals
        go_enter Tryd.func43, Tryd.ntmps43
        go_wp2_with fail
        refine (log10Pow2_is _ q _ (by omega) (by omega) Hq.out).mono ?_
        rintro e w1 ⟨rfl, rfl⟩
        go_wp2_with fail
    case' neg =>
      obtain ⟨y, hz⟩ : ∃ y : Nat, 40 + (-189 - x) = (y : Int) + 1 := ⟨40 - 1 + (-189 - x).toNat, by omega⟩
      have ez : 40 + (-189 - x).toNat = y + 1 := by omega
      have hz1 : 40 - 1 < y := by omega
      have hz2 : y ≤ 62 := by omega
      have hC : shC 40 (-189) m x = (-((-189 + 40) * 78913 / 262144), (m + 18446744073709551616 - 2 ^ y) % 18446744073709551616, (m + 2 ^ y) % 18446744073709551616, m / 2 ^ (y + 1) % 2) := by
        unfold shC; rw [if_neg hA, if_neg hB, ez]; rfl
      obtain ⟨q, hq⟩ : ∃ q : Int, q = (-189 + 40) * 78913 / 262144 := ⟨_, rfl⟩
      rw [← hq] at hC
      have hq' : q = (x + ((y : Int) + 1)) * 78913 / 262144 := by rw [hq, show (-189 + 40 : Int) = x + ((y : Int) + 1) by omega]
      have hq1 : -348 ≤ -q := by omega
      have hq2 : -q ≤ 347 := by omega
      have hs : 0 ≤ -(x + (-q) * 108853 / 32768 + 3) ∧ -(x + (-q) * 108853 / 32768 + 3) < 64 := by omega
      have hb3 : decide ((-189 : Int) ≤ x) = false := by simpa using hB
      have hpw : 2 ^ y < 9223372036854775808 := by
        have : 2 ^ y ≤ 2 ^ 62 := Nat.pow_le_pow_right (by omega) (by omega)
        omega
      have hpc : (2 : Int) ^ y = ((2 ^ y : Nat) : Int) := by simp
      have hpw2 : IntKind.u64.wrap ((2 : Int) ^ y) = (2 : Int) ^ y := by rw [hpc]; exact wrapU _ (by omega)
      have e1 : IntKind.u64.wrap ((m : Int) - 2 ^ y) = ((m + 18446744073709551616 - 2 ^ y) % 18446744073709551616 : Nat) := by rw [hpc, IntKind.wrap_u64]; omega
      have e2 : IntKind.u64.wrap ((m : Int) + 2 ^ y) = ((m + 2 ^ y) % 18446744073709551616 : Nat) := by rw [hpc, IntKind.wrap_u64]; omega
      have hdv : m / 2 ^ (y + 1) < 9223372036854775808 := by
        have : 2 ≤ 2 ^ (y + 1) := by
          have : 2 ^ 1 ≤ 2 ^ (y + 1) := Nat.pow_le_pow_right (by omega) (by omega)
          omega
        have := Nat.div_le_div_left this (by omega : 0 < 2) (a := m)
        omega
      have hdc : (m : Int) / 2 ^ (y + 1) = ((m / 2 ^ (y + 1) : Nat) : Int) := by simp
      have hdw : IntKind.i64.wrap ((m : Int) / 2 ^ (y + 1)) = (m : Int) / 2 ^ (y + 1) := by rw [hdc]; exact wrapI _ (by omega)
      have e3 : bits .and .i64 ((m : Int) / 2 ^ (y + 1)) 1 = (m / 2 ^ (y + 1) % 2 : Nat) := by rw [i64_and1, hdc]; omega
      have hmn : (m + 18446744073709551616 - 2 ^ y) % 18446744073709551616 < 18446744073709551616 := by omega
      have hmx : (m + 2 ^ y) % 18446744073709551616 < 18446744073709551616 := by omega
      have hod : m / 2 ^ (y + 1) % 2 < 2 := by omega
      clear hA hpc hdc ez
      generalize (m + 18446744073709551616 - 2 ^ y) % 18446744073709551616 = mn at *
      generalize (m + 2 ^ y) % 18446744073709551616 = mx at *
      generalize m / 2 ^ (y + 1) % 2 = od at *
      have Hq := Lib.hid hq'
      have HC := Lib.hid hC
      clear hq hC hq'
      rcases hA' with hb1 | ⟨hb1, hb2⟩
      all_goals
        go_enter Tryd.func43, Tryd.ntmps43
        go_wp2_with fail
        refine (log10Pow2_is _ q _ (by omega) (by omega) Hq.out).mono ?_
        rintro e w1 ⟨rfl, rfl⟩
        go_wp2_with fail
  all_goals
    obtain ⟨lp, hlp⟩ : ∃ lp : Int, lp = (-q) * 108853 / 32768 := ⟨_, rfl⟩
    have hl1 : -10000 ≤ lp := by omega
    have hl2 : lp ≤ 10000 := by omega
    obtain ⟨s, hsx⟩ : ∃ s : Nat, -(x + lp + 3) = (s : Int) := ⟨(-(x + lp + 3)).toNat, by omega⟩
    have hs3 : s < 64 := by omega
    have hse : (-(x + (-q) * 108853 / 32768 + 3)).toNat = s := by omega
    have Hlp := Lib.hid hlp
    have Hs := Lib.hid hsx
    have Hse := Lib.hid hse
    clear hlp hsx hse hs
    refine (log2Pow10_is _ lp _ (by omega) (by omega) Hlp.out).mono ?_
    rintro e w1 ⟨rfl, rfl⟩
    go_wp2_with fail
    refine (prescale_any T w.heap.size x _ lp _ _ _ _ (he.alloc _) he.size (Row.new w [.int .u64 0, .int .u64 0, .int .i64 0] _) hq1 hq2 (by omega) (by omega) hl1 hl2).mono ?_
    rintro e w1 ⟨rfl, hr1, hg1⟩
    have hg : w.grownBy w1 none := grown_forget (World.grownBy_alloc w _ none) hg1 (Nat.le_refl _)
    clear hg1
    have hUS : ∀ y r, usE y x (-q) = r → us y (pmHi (-q + 348).toNat) (pmLo (-q + 348).toNat) s = r := by
      intro y r h
      rw [← h]; unfold usE; rw [Hse.out]
    have HUS := Lib.hid hUS
    clear hUS
    obtain ⟨u1, hu1⟩ : ∃ u1, usE mn x (-q) = u1 := ⟨_, rfl⟩
    obtain ⟨u2, hu2⟩ : ∃ u2, uNudge u1 od = u2 := ⟨_, rfl⟩
    obtain ⟨dmin, hdmin⟩ : ∃ d, uCeil u2 = d := ⟨_, rfl⟩
    obtain ⟨u3, hu3⟩ : ∃ u3, usE mx x (-q) = u3 := ⟨_, rfl⟩
    obtain ⟨u4, hu4⟩ : ∃ u4, uNudge u3 (-(od : Int)) = u4 := ⟨_, rfl⟩
    obtain ⟨dmax, hdmax⟩ : ∃ d, uFloor u4 = d := ⟨_, rfl⟩
    obtain ⟨u5, hu5⟩ : ∃ u5, usE m x (-q) = u5 := ⟨_, rfl⟩
    have hK := HKEY.out _ _ _ _ HC.out _ _ _ _ _ _ hu1 hu2 hdmin hu3 hu4 hdmax
    rw [hu5] at hK
    have b1 : u1 < 18446744073709551616 := by rw [← hu1]; exact us_lt _ _ _ _ hmn (pm_lt _).1
    have b3 : u3 < 18446744073709551616 := by rw [← hu3]; exact us_lt _ _ _ _ hmx (pm_lt _).1
    have b5 : u5 < 18446744073709551616 := by rw [← hu5]; exact us_lt _ _ _ _ hm (pm_lt _).1
    have b2 : u2 < 18446744073709551616 := by rw [← hu2]; exact uNudge_lt _ _
    have b4 : u4 < 18446744073709551616 := by rw [← hu4]; exact uNudge_lt _ _
    have b6 : dmin < 4611686018427387904 := by rw [← hdmin]; unfold uCeil; omega
    have b7 : dmax < 4611686018427387904 := by rw [← hdmax]; unfold uFloor; omega
    have hu1' := HUS.out _ _ hu1
    have hu3' := HUS.out _ _ hu3
    have hu5' := HUS.out _ _ hu5
    have Hu1 := Lib.hid hu1'
    have Hu2 := Lib.hid hu2
    have Hdmin := Lib.hid hdmin
    have Hu3 := Lib.hid hu3'
    have Hu4 := Lib.hid hu4
    have Hdmax := Lib.hid hdmax
    have Hu5 := Lib.hid hu5'
    have HK := Lib.hid hK
    clear hu1 hu2 hdmin hu3 hu4 hdmax hu5 hK hu1' hu3' hu5' HKEY HUS
    go_wp2_with fail
    refine (uscale_row _ _ _ s u1 _ _ _ hmn (pm_lt _).1 (pm_lt _).2 hs3 Hs.out hr1 Hu1.out).mono ?_
    rintro e w2 ⟨rfl, hg2⟩
    have hr2 := hr1.grown hg2 (by simp)
    have hg := grown_none_trans hg hg2
    clear hg2
    go_wp2_with fail
    refine (nudge_is u1 u2 od _ b1 (by omega) (by omega) Hu2.out).mono ?_
    rintro e w3 ⟨rfl, rfl⟩
    go_wp2_with fail
    refine (ceil_is u2 dmin _ b2 Hdmin.out).mono ?_
    rintro e w3 ⟨rfl, rfl⟩
    go_wp2_with fail
    refine (uscale_row _ _ _ s u3 _ _ _ hmx (pm_lt _).1 (pm_lt _).2 hs3 Hs.out hr2 Hu3.out).mono ?_
    rintro e w3 ⟨rfl, hg2⟩
    have hr3 := hr2.grown hg2 (by simp)
    have hg := grown_none_trans hg hg2
    clear hg2
    go_wp2_with fail
    refine (nudge_is u3 u4 (-(od : Int)) _ b3 (by omega) (by omega) Hu4.out).mono ?_
    rintro e w3 ⟨rfl, rfl⟩
    go_wp2_with fail
    refine (floor_is u4 dmax _ b4 Hdmax.out).mono ?_
    rintro e w3 ⟨rfl, rfl⟩
    by_cases hd1 : dmin ≤ dmax / 10 * 10
    · have hfin := HK.out
      rw [if_pos hd1] at hfin
      have HF := Lib.hid hfin
      clear hfin
      go_wp2_with fail
      go_ret2
      refine ⟨?_, hg⟩
      rw [HF.out]
      rfl
    · have hK2 := HK.out
      rw [if_neg hd1] at hK2
      by_cases hd2 : dmin < dmax
      · rw [if_pos hd2] at hK2
        have HF := Lib.hid hK2
        clear hK2
        go_wp2_with fail
        refine (uscale_row _ _ _ s u5 _ _ _ hm (pm_lt _).1 (pm_lt _).2 hs3 Hs.out hr3 Hu5.out).mono ?_
        rintro e w4 ⟨rfl, hg2⟩
        have hg := grown_none_trans hg hg2
        clear hg2
        go_wp2_with fail
        refine (round_is u5 _ _ b5 rfl).mono ?_
        rintro e w5 ⟨rfl, rfl⟩
        go_wp2_with fail
        go_ret2
        refine ⟨?_, hg⟩
        rw [HF.out, Int.neg_neg]
        rfl
      · rw [if_neg hd2] at hK2
        have HF := Lib.hid hK2
        clear hK2
        go_wp2_with fail
        go_ret2
        refine ⟨?_, hg⟩
        rw [HF.out, Int.neg_neg]
        rfl
end Go.Proofs.YtffooimnioigdaaDoor
