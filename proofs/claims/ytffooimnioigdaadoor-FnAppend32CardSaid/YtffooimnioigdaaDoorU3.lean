/-
  Walk of uscale.go: fixedWidthFloat.
-/
import Derived.Test.YtffooimnioigdaaDoorU2
namespace Go.Proofs.YtffooimnioigdaaDoor
open Go.RowKit
set_option linter.unusedSimpArgs false
set_option linter.unusedVariables false

def uDivs (u : Nat) : Nat → Nat
  | 0 => u
  | k + 1 => uDiv (uDivs u k) 10

theorem uDiv_lt (u : Nat) (h : u < 18446744073709551616) : uDiv u 10 < 18446744073709551616 := by
  have := b2n_le (decide (u % 10 ≠ 0))
  have h1 : uDiv u 10 < 2 ^ 64 := Nat.or_lt_two_pow (Nat.or_lt_two_pow (by omega) (by omega)) (by omega)
  omega

theorem uDivs_lt (u k : Nat) (h : u < 18446744073709551616) : uDivs u k < 18446744073709551616 := by
  induction k with
  | zero => exact h
  | succ k ih => exact uDiv_lt _ ih

/-- The scaled number, and the power of ten it was scaled by, before the digits behind the precision go. -/
def fwU (m : Nat) (e n : Int) : Nat × Int :=
  let p := n - 1 - (e + 63) * 78913 / 262144
  let u := us m (pmHi (p + 348).toNat) (pmLo (p + 348).toNat) (-(e + p * 108853 / 32768 + 3)).toNat
  if 10 ^ n.toNat * 4 - 2 ≤ u then (uDiv u 10, p - 1) else (u, p)

def fwf (m : Nat) (e n prec : Int) (isF : Bool) : Nat × Int :=
  let up := fwU m e n
  if isF && decide (prec < up.2) then (uRound (uDivs up.1 (up.2 - prec).toNat), -prec) else (uRound up.1, -up.2)

set_option maxHeartbeats 1000000 in
theorem fixedWidthFloat_any (T : Nat) (m : Nat) (x n prec f : Int) (w : World) (he : Env T w) (hm : m < 18446744073709551616) (hx1 : -1200 ≤ x) (hx2 : x ≤ 1000)
    (hn1 : 1 ≤ n) (hn2 : n ≤ 18) (hp1 : 0 ≤ prec) (hp2 : prec ≤ 100000) (hE1 : -1074 ≤ x + 63) (hE2 : x + 63 ≤ 1024) :
    Calls Tryd.prog 47 #[.int .u64 m, .int .i64 x, .int .i64 n, .int .i64 prec, .int .u8 f] w fun e w' =>
      e = .returned (.tuple #[.int .u64 ((fwf m x n prec (f == 102)).1 : Nat), .int .i64 (fwf m x n prec (f == 102)).2]) ∧ w.grownBy w' none := by
  obtain ⟨q, hq⟩ : ∃ q : Int, q = (x + 63) * 78913 / 262144 := ⟨_, rfl⟩
  obtain ⟨lp, hlp⟩ : ∃ lp : Int, lp = (n - 1 - q) * 108853 / 32768 := ⟨_, rfl⟩
  have hs1 : 0 ≤ -(x + lp + 3) := by omega
  have hs2 : -(x + lp + 3) < 64 := by omega
  obtain ⟨s, hs⟩ : ∃ s : Nat, -(x + lp + 3) = (s : Int) := ⟨(-(x + lp + 3)).toNat, by omega⟩
  have hs3 : s < 64 := by omega
  obtain ⟨u, hu⟩ : ∃ u : Nat, us m (pmHi (n - 1 - q + 348).toNat) (pmLo (n - 1 - q + 348).toNat) s = u := ⟨_, rfl⟩
  have hul : u < 18446744073709551616 := by rw [← hu]; exact us_lt _ _ _ _ hm (pm_lt _).1
  have hq1 : -348 ≤ n - 1 - q := by omega
  have hq2 : n - 1 - q ≤ 347 := by omega
  have hl1 : -10000 ≤ lp := by omega
  have hl2 : lp ≤ 10000 := by omega
  have hU : fwU m x n = if 10 ^ n.toNat * 4 - 2 ≤ u then (uDiv u 10, n - 1 - q - 1) else (u, n - 1 - q) := by
    unfold fwU
    simp only [← hq, ← hlp]
    rw [show (-(x + lp + 3)).toNat = s by omega, hu]
  obtain ⟨k, hk⟩ : ∃ k : Nat, n = (k : Int) := ⟨n.toNat, by omega⟩
  subst hk
  rw [Int.toNat_natCast] at hU
  have Hq := Lib.hid hq
  have Hlp := Lib.hid hlp
  have Hs := Lib.hid hs
  have Hu := Lib.hid hu
  have HU := Lib.hid hU
  have hp10 := he.p10 k (by omega)
  have ht10 : 10 ^ k ≤ 1000000000000000000 := by
    have : 10 ^ k ≤ 10 ^ 18 := Nat.pow_le_pow_right (by omega) (by omega)
    omega
  have ht1 : 1 ≤ 10 ^ k := Nat.pos_of_ne_zero (by simp)
  clear hq hlp hs hu hU
  generalize 10 ^ k = t at *
  go_enter Tryd.func47, Tryd.ntmps47
  go_wp2_with fail
  refine (log10Pow2_is _ q _ (by omega) (by omega) Hq.out).mono ?_
  rintro e w1 ⟨rfl, rfl⟩
  go_wp2_with fail
  refine (log2Pow10_is _ lp _ (by omega) (by omega) Hlp.out).mono ?_
  rintro e w1 ⟨rfl, rfl⟩
  go_wp2_with fail
  refine (prescale_any T w.heap.size x _ lp _ _ _ _ (he.alloc _) he.size (Row.new w [.int .u64 0, .int .u64 0, .int .i64 0] _) hq1 hq2 (by omega) (by omega) hl1 hl2).mono ?_
  rintro e w1 ⟨rfl, hr1, hg1⟩
  have hg : w.grownBy w1 none := grown_forget (World.grownBy_alloc w _ none) hg1 (Nat.le_refl _)
  clear hg1
  go_wp2_with fail
  refine (uscale_row m _ _ s u _ _ _ hm (pm_lt _).1 (pm_lt _).2 hs3 Hs.out hr1 Hu.out).mono ?_
  rintro e w2 ⟨rfl, hg2⟩
  have hg3 := grown_none_trans hg hg2
  have hz : w2.cell? ⟨2, k, none⟩ = some (.int .u64 (t : Int)) := hg3.cell hp10 (by simp)
  clear hg hg2 hr1 hp10 w1
  go_wp2_with fail
  refine (unmin_any t _ ht1 (by omega)).mono ?_
  rintro e w3 ⟨rfl, rfl⟩
  have key : ∀ (u1 : Nat) (p1 : Int), fwU m x k = (u1, p1) → ∀ j : Nat, fwf m x k prec (f == 102) = if (f == 102) && decide (prec < p1) then (uRound (uDivs u1 (p1 - prec).toNat), -prec) else (uRound u1, -p1) := by
    intro u1 p1 h _
    unfold fwf
    rw [h]
  have KEY := Lib.hid key
  clear key
  by_cases hf : f = 102
  · subst hf
    by_cases hc : t * 4 - 2 ≤ u
    case' pos =>
      obtain ⟨u1, hu1⟩ : ∃ u1, uDiv u 10 = u1 := ⟨_, rfl⟩
      have hul1 : u1 < 18446744073709551616 := by rw [← hu1]; exact uDiv_lt u hul
      have hF : fwU m x k = (u1, k - 1 - q - 1) := by rw [HU.out, if_pos hc, hu1]
      have HF := Lib.hid hF
      have Hu1 := Lib.hid hu1
      clear hF hu1
      go_wp2_with fail
      refine (div_is u u1 _ hul Hu1.out).mono ?_
      rintro e w4 ⟨rfl, hg4⟩
      have hg5 := grown_none_trans hg3 hg4
      have hp1a : -400 ≤ (k : Int) - 1 - q - 1 := by omega
      have hp1b : (k : Int) - 1 - q - 1 ≤ 400 := by omega
      clear hg3 hg4 hz w3 hul Hu1
      go_wp2_with fail
      generalize hp1e : (k : Int) - 1 - q - 1 = p1 at *
      have Hp1e := Lib.hid hp1e
      clear hp1e
      have hg3 := hg5
      clear hg5
    case' neg =>
      have hF : fwU m x k = (u, k - 1 - q) := by rw [HU.out, if_neg hc]
      have HF := Lib.hid hF
      clear hF
      go_wp2_with fail
      have hp1a : -400 ≤ (k : Int) - 1 - q := by omega
      have hp1b : (k : Int) - 1 - q ≤ 400 := by omega
      clear hz Hq Hlp Hu
      generalize hp1e : (k : Int) - 1 - q = p1 at *
      have Hp1e := Lib.hid hp1e
      clear hp1e
      generalize u = u1 at *
      have hul1 := hul
      clear hul
    all_goals
      go_loopw [13, 11] (fun uv pv wr => ∃ j : Nat, (j : Int) ≤ 600 ∧ uv = .int .u64 (uDivs u1 j : Nat) ∧ pv = .int .i64 (p1 - j) ∧ (j = 0 ∨ prec ≤ p1 - j) ∧ w.grownBy wr none) (fun _ pv _ => (intOf pv - prec).toNat)
      case atStart => exact ⟨0, by omega, rfl, by simp <;> omega, .inl rfl, hg3⟩
      case round =>
        obtain ⟨j, hj0, rfl, rfl, hj, hgr⟩ := hrel
        have hul2 := uDivs_lt u1 j hul1
        by_cases hlt : prec < p1 - j
        · go_wp2_with fail
          refine (div_is _ _ _ hul2 rfl).mono ?_
          rintro e w5 ⟨rfl, hg5⟩
          go_wp2_with fail
          go_roundw
          case rel => exact ⟨j + 1, by omega, rfl, by go_num, .inr (by omega), grown_none_trans hgr hg5⟩
          case measure => simp [intOf]; omega
        · have hfin : fwf m x k prec ((102 : Int) == 102) = (uRound (uDivs u1 j), -(p1 - j)) := by
            rw [KEY.out u1 p1 HF.out 0]
            by_cases hj1 : prec < p1
            · have ej : j = (p1 - prec).toNat := by omega
              rw [if_pos (by simp [hj1]), ← ej]
              congr 1; omega
            · have ej : j = 0 := by omega
              subst ej
              rw [if_neg (by simp [hj1])]
              simp [uDivs]
          have HFin := Lib.hid hfin
          clear hfin
          go_wp2_with fail
          refine (round_is _ _ _ hul2 rfl).mono ?_
          rintro e w5 ⟨rfl, rfl⟩
          go_wp2_with fail
          go_ret2
          refine ⟨?_, hgr⟩
          rw [HFin.out]
          rfl
  · have hb : (f == 102) = false := by simpa using hf
    clear hf
    by_cases hc : t * 4 - 2 ≤ u
    case' pos =>
      obtain ⟨u1, hu1⟩ : ∃ u1, uDiv u 10 = u1 := ⟨_, rfl⟩
      have hul1 : u1 < 18446744073709551616 := by rw [← hu1]; exact uDiv_lt u hul
      have hF : fwU m x k = (u1, k - 1 - q - 1) := by rw [HU.out, if_pos hc, hu1]
      have HF := Lib.hid hF
      have Hu1 := Lib.hid hu1
      clear hF hu1
      go_wp2_with fail
      refine (div_is u u1 _ hul Hu1.out).mono ?_
      rintro e w4 ⟨rfl, hg4⟩
      have hg5 := grown_none_trans hg3 hg4
      have hp1a : -400 ≤ (k : Int) - 1 - q - 1 := by omega
      have hp1b : (k : Int) - 1 - q - 1 ≤ 400 := by omega
      clear hg3 hg4 hz w3 hul Hu1
      go_wp2_with fail
      generalize hp1e : (k : Int) - 1 - q - 1 = p1 at *
      have Hp1e := Lib.hid hp1e
      clear hp1e
      have hg3 := hg5
      clear hg5
    case' neg =>
      have hF : fwU m x k = (u, k - 1 - q) := by rw [HU.out, if_neg hc]
      have HF := Lib.hid hF
      clear hF
      go_wp2_with fail
      have hp1a : -400 ≤ (k : Int) - 1 - q := by omega
      have hp1b : (k : Int) - 1 - q ≤ 400 := by omega
      clear hz Hq Hlp Hu
      generalize hp1e : (k : Int) - 1 - q = p1 at *
      have Hp1e := Lib.hid hp1e
      clear hp1e
      generalize u = u1 at *
      have hul1 := hul
      clear hul
    all_goals
      have hfin : fwf m x k prec (f == 102) = (uRound u1, -p1) := by
        rw [KEY.out u1 p1 HF.out 0, hb]
        simp
      have HFin := Lib.hid hfin
      clear hfin
      go_wp2_with fail
      refine (round_is _ _ _ hul1 rfl).mono ?_
      rintro e w5 ⟨rfl, rfl⟩
      go_wp2_with fail
      go_ret2
      refine ⟨?_, hg3⟩
      rw [HFin.out]
      rfl
end Go.Proofs.YtffooimnioigdaaDoor
