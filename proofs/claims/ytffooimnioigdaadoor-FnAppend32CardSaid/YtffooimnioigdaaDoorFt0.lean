/-
  Plain: what ftoa32 and ftoa64 write.
-/
import Derived.Test.YtffooimnioigdaaDoorDec7
import Derived.Test.YtffooimnioigdaaDoorX1
import Derived.Test.YtffooimnioigdaaDoorB1
import Derived.Test.YtffooimnioigdaaDoorU4
namespace Go.Proofs.YtffooimnioigdaaDoor
open Go.RowKit
set_option linter.unusedSimpArgs false
set_option linter.unusedVariables false

/-- The sign, the field of the exponent, the field of the fraction; the significand and the exponent. -/
def flNeg (eb mb b : Nat) : Bool := decide (b / 2 ^ (eb + mb) ≠ 0)
def flE (eb mb b : Nat) : Nat := b / 2 ^ mb % 2 ^ eb
def flF (mb b : Nat) : Nat := b % 2 ^ mb
def flMant (eb mb b : Nat) : Nat := if flE eb mb b = 0 then flF mb b else flF mb b + 2 ^ mb
def flExp (eb mb : Nat) (bias : Int) (b : Nat) : Int := (if flE eb mb b = 0 then 1 else (flE eb mb b : Int)) + bias

/-- Digits, the place of the point, the precision, and whether they are the shortest. -/
structure Pick where
  ds : List UInt8
  dp : Int
  prec : Int
  sh : Bool

def efgP (neg : Bool) (f : Int) (P : Pick) : List UInt8 := efgL neg P.ds P.dp (gAdj P.dp P.ds.length P.prec f P.sh).1 (gAdj P.dp P.ds.length P.prec f P.sh).2

/-- The digits of d without the zeros at the end. -/
def dsOf (d : Nat) : List UInt8 := (digs d (nDig d)).take (trimZ (digs d (nDig d)) (nDig d))
theorem dsOf_length (d : Nat) : (dsOf d).length = trimZ (digs d (nDig d)) (nDig d) := by
  unfold dsOf
  rw [List.length_take, digs_length]
  have := trimZ_le (digs d (nDig d)) (nDig d)
  omega

/-- The shift that brings the first bit to the top. -/
def shS (m : Nat) : Nat := 64 - Lib.bitLen m

def shPrec (nd dp prec f : Int) : Int := if f = 101 ∨ f = 69 then max (nd - 1) 0 else if f = 102 then max (nd - dp) 0 else if f = 103 ∨ f = 71 then nd else prec

/-- The shortest digits. -/
def pkShort (Z : Nat) (ME : Int) (m : Nat) (e prec f : Int) : Pick :=
  let r := shortF Z ME (m * 2 ^ shS m) (e - shS m)
  ⟨dsOf r.1, nDig r.1 + r.2, shPrec (dsOf r.1).length (nDig r.1 + r.2) prec f, true⟩

/-- The number of digits that the quick way is asked for. -/
def fixPrec (prec f : Int) : Int := if (f = 103 ∨ f = 71) ∧ prec = 0 then 1 else prec
def fixDig (exp prec f : Int) : Int :=
  if f = 102 then (if 0 ≤ exp then 1 + (1 + exp) * 78913 / 262144 + prec else 1 + prec - -exp * 78913 / 262144)
  else if f = 101 ∨ f = 69 then prec + 1 else if f = 103 ∨ f = 71 then fixPrec prec f else 1

def pkFix (m : Nat) (e digits prec f : Int) : Pick :=
  if 0 < digits then
    let r := fwf (m * 2 ^ shS m) (e - shS m) digits prec (f == 102)
    if r.1 ≠ 0 then ⟨dsOf r.1, nDig r.1 + r.2, prec, false⟩ else ⟨[], 0, prec, false⟩
  else ⟨[], 0, prec, false⟩

/-- The exact decimal. -/
def slowN (m : Nat) (e : Int) : Nat × Int := shD (core m) (tz m) e
def slowR (m : Nat) (e prec f : Int) : Nat × Int :=
  rndD (slowN m e).1 (slowN m e).2 (if f = 101 ∨ f = 69 then prec + 1 else if f = 102 then (slowN m e).2 + nDig (slowN m e).1 + prec else prec)
def pkDec (r : Nat × Int) (prec : Int) : Pick := if r.1 = 0 then ⟨[], 0, prec, false⟩ else ⟨digs (core r.1) (nDig (core r.1)), r.2 + tz r.1 + nDig (core r.1), prec, false⟩

def pick (Z : Nat) (ME : Int) (mb : Nat) (m : Nat) (exp prec f : Int) : Pick :=
  if m = 0 then ⟨[], 0, prec, decide (prec < 0)⟩
  else if prec < 0 then pkShort Z ME m (exp - mb) prec f
  else if fixDig exp prec f ≤ 18 then pkFix m (exp - mb) (fixDig exp prec f) (fixPrec prec f) f
  else pkDec (slowR m (exp - mb) (fixPrec prec f) f) (fixPrec prec f)

/-- What is written of the bits b in the format f with the precision prec. -/
def ftoaL (eb mb : Nat) (bias : Int) (Z : Nat) (ME : Int) (b : Nat) (f prec : Int) : List UInt8 :=
  if flE eb mb b = 2 ^ eb - 1 then (if flF mb b ≠ 0 then [78, 97, 78] else if flNeg eb mb b then [45, 73, 110, 102] else [43, 73, 110, 102])
  else if f = 98 then fmtBL (flNeg eb mb b) (flMant eb mb b) (flExp eb mb bias b - mb)
  else if f = 120 ∨ f = 88 then xL (flNeg eb mb b) prec f (flMant eb mb b) mb (flExp eb mb bias b)
  else efgP (flNeg eb mb b) f (pick Z ME mb (flMant eb mb b) (flExp eb mb bias b) prec f)

def ftoa64L (b : Nat) (f prec : Int) : List UInt8 := ftoaL 11 52 (-1023) 11 (-1085) b f prec
def ftoa32L (b : Nat) (f prec : Int) : List UInt8 := ftoaL 8 23 (-127) 40 (-189) b f prec

/-- Bounds. -/
theorem shortF_bd (Z : Nat) (ME : Int) (m : Nat) (e : Int) (hZ : Z = 11 ∧ ME = -1085 ∧ -1137 ≤ e ∧ e ≤ 960 ∨ Z = 40 ∧ ME = -189 ∧ -212 ≤ e ∧ e ≤ 64) (hm : m < 18446744073709551616) : (shortF Z ME m e).1 < 18446744073709551616 ∧ -400 ≤ (shortF Z ME m e).2 ∧ (shortF Z ME m e).2 ≤ 400 := by
  have hc1 : -390 ≤ (shC Z ME m e).1 ∧ (shC Z ME m e).1 ≤ 390 := by
    unfold shC
    rcases hZ with ⟨rfl, rfl, h1, h2⟩ | ⟨rfl, rfl, h1, h2⟩ <;> (repeat' split) <;> dsimp only <;> omega
  unfold shortF
  dsimp only
  have hr : ∀ u, uRound u < 18446744073709551616 := fun u => by unfold uRound; omega
  have hcl : ∀ u, uCeil u < 18446744073709551616 := fun u => by unfold uCeil; omega
  have hfl : ∀ u d, uFloor (uNudge u d) < 18446744073709551616 := fun u d => by unfold uFloor uNudge; omega
  have h3 := hfl (usE (shC Z ME m e).2.2.1 e (shC Z ME m e).1) (-((shC Z ME m e).2.2.2 : Int))
  split
  · dsimp only; omega
  · split
    · dsimp only; have := hr (usE m e (shC Z ME m e).1); omega
    · dsimp only; have := hcl (uNudge (usE (shC Z ME m e).2.1 e (shC Z ME m e).1) (shC Z ME m e).2.2.2); omega

theorem fwf_bd (m : Nat) (e n prec : Int) (isF : Bool) (hx1 : -1200 ≤ e) (hx2 : e ≤ 1000) (hn1 : 1 ≤ n) (hn2 : n ≤ 18) (hp1 : 0 ≤ prec) (hp2 : prec ≤ 100000) :
    (fwf m e n prec isF).1 < 18446744073709551616 ∧ -400 ≤ (fwf m e n prec isF).2 ∧ (fwf m e n prec isF).2 ≤ 400 := by
  have hr : ∀ u, uRound u < 18446744073709551616 := fun u => by unfold uRound; omega
  have h2 : -390 ≤ (fwU m e n).2 ∧ (fwU m e n).2 ≤ 390 := by
    unfold fwU
    dsimp only
    split <;> dsimp only <;> omega
  unfold fwf
  dsimp only
  split
  · rename_i h
    simp only [Bool.and_eq_true, decide_eq_true_eq] at h
    dsimp only
    have := hr (uDivs (fwU m e n).1 ((fwU m e n).2 - prec).toNat)
    omega
  · dsimp only
    have := hr (fwU m e n).1
    omega
theorem nDig_two_pow (n m : Nat) (h : m < 2 ^ n) (hn : n ≤ 1024) : nDig m ≤ 309 := by
  have h1 : m < 10 ^ 309 := Nat.lt_of_lt_of_le h (Nat.le_trans (Nat.pow_le_pow_right (by omega) hn) (by decide +kernel))
  by_cases h0 : m = 0
  · subst h0; rw [nDig_zero]; omega
  · have h2 := nDig_low h0
    have h3 := (Nat.pow_lt_pow_iff_right (by omega : 1 < 10)).1 (Nat.lt_of_le_of_lt h2 h1)
    omega
theorem nDig_five_pow (n m : Nat) (h : m < 2 ^ 53) (hn : n ≤ 1074) : nDig (m * 5 ^ n) ≤ 767 := by
  have h1 : m * 5 ^ n < 10 ^ 767 := Nat.lt_of_lt_of_le (Nat.mul_lt_mul_of_pos_right h (Nat.pow_pos (by omega))) (Nat.le_trans (Nat.mul_le_mul_left _ (Nat.pow_le_pow_right (by omega) hn)) (by decide +kernel))
  by_cases h0 : m * 5 ^ n = 0
  · rw [h0, nDig_zero]; omega
  · have h2 := nDig_low h0
    have h3 := (Nat.pow_lt_pow_iff_right (by omega : 1 < 10)).1 (Nat.lt_of_le_of_lt h2 h1)
    omega

theorem ten_le_five (n : Nat) : 10 ^ (n / 2) ≤ 5 ^ n := by
  have h1 : (10 : Nat) ^ (n / 2) ≤ 25 ^ (n / 2) := Nat.pow_le_pow_left (by omega) _
  have h2 : (25 : Nat) ^ (n / 2) = 5 ^ (2 * (n / 2)) := by rw [Nat.pow_mul]
  have h3 : (5 : Nat) ^ (2 * (n / 2)) ≤ 5 ^ n := Nat.pow_le_pow_right (by omega) (by omega)
  omega

theorem slowN_bd (m : Nat) (e : Int) (hm0 : m ≠ 0) (hm : m < 2 ^ 53) (he1 : -1074 ≤ e) (he2 : e ≤ 971) :
    (slowN m e).1 % 10 ≠ 0 ∧ nDig (slowN m e).1 ≤ 767 ∧ -1074 ≤ (slowN m e).2 ∧ (slowN m e).2 ≤ 800 ∧ -540 ≤ (slowN m e).2 + nDig (slowN m e).1 ∧ (slowN m e).2 + nDig (slowN m e).1 ≤ 800 := by
  unfold slowN shD
  by_cases h0 : 0 ≤ e
  · rw [if_pos h0]
    dsimp only
    obtain ⟨k, rfl⟩ : ∃ k : Nat, e = (k : Int) := ⟨e.toNat, by omega⟩
    rw [Int.toNat_natCast]
    have h1 := core_mul m (2 ^ k) hm0 (Nat.ne_of_gt (Nat.pow_pos (by omega)))
    have hM0 : m * 2 ^ k ≠ 0 := Nat.mul_ne_zero hm0 (Nat.ne_of_gt (Nat.pow_pos (by omega)))
    have h2 := nDig_core (m * 2 ^ k) hM0
    have h3 := nDig_two_pow (53 + k) (m * 2 ^ k) (by rw [Nat.pow_add]; exact Nat.mul_lt_mul_of_pos_right hm (Nat.pow_pos (by omega))) (by omega)
    have h4 := nDig_pos hM0
    rw [h1.1]
    refine ⟨(core_spec _ hM0).2, by omega, by omega, by omega, by omega, by omega⟩
  · rw [if_neg h0]
    dsimp only
    obtain ⟨n, rfl⟩ : ∃ n : Nat, e = -(n : Int) := ⟨(-e).toNat, by omega⟩
    rw [Int.neg_neg, Int.toNat_natCast]
    have h1 := core_mul m (5 ^ n) hm0 (Nat.ne_of_gt (Nat.pow_pos (by omega)))
    have hM0 : m * 5 ^ n ≠ 0 := Nat.mul_ne_zero hm0 (Nat.ne_of_gt (Nat.pow_pos (by omega)))
    have h2 := nDig_core (m * 5 ^ n) hM0
    have h3 := nDig_five_pow n m hm (by omega)
    have h4 : n / 2 < nDig (m * 5 ^ n) := by
      have h5 := lt_pow_nDig (m * 5 ^ n)
      have h6 : 10 ^ (n / 2) ≤ m * 5 ^ n := Nat.le_trans (ten_le_five n) (Nat.le_mul_of_pos_left _ (by omega))
      exact (Nat.pow_lt_pow_iff_right (by omega : 1 < 10)).1 (Nat.lt_of_le_of_lt h6 h5)
    rw [h1.1]
    refine ⟨(core_spec _ hM0).2, by omega, by omega, by omega, by omega, by omega⟩

theorem rndD_bd (N : Nat) (p n : Int) (hN : N % 10 ≠ 0) (h0 : (rndD N p n).1 ≠ 0) :
    nDig (rndD N p n).1 ≤ nDig N + 1 ∧ p + nDig N ≤ (rndD N p n).2 + nDig (rndD N p n).1 ∧ (rndD N p n).2 + nDig (rndD N p n).1 ≤ p + nDig N + 1 := by
  have hN0 : N ≠ 0 := by intro e; rw [e] at hN; simp at hN
  unfold rndD at h0 ⊢
  by_cases h : 0 ≤ n ∧ n < nDig N
  · rw [if_pos h] at h0 ⊢
    dsimp only at h0 ⊢
    obtain ⟨k, rfl⟩ : ∃ k : Nat, n = (k : Int) := ⟨n.toNat, by omega⟩
    rw [Int.toNat_natCast] at h0 ⊢
    obtain ⟨L, hL⟩ : ∃ L, nDig N = L := ⟨_, rfl⟩
    have h1 := nDig_low hN0
    have h2 := lt_pow_nDig N
    rw [hL] at h h0 h1 h2 ⊢
    have hk : k < L := by omega
    have pp : 0 < 10 ^ (L - k) := Nat.pow_pos (by omega)
    have hq : N / 10 ^ (L - k) < 10 ^ k := by
      rw [Nat.div_lt_iff_lt_mul pp, ← Nat.pow_add, show k + (L - k) = L by omega]; exact h2
    have hup : rndQ N (L - k) ≤ 10 ^ k := by unfold rndQ; split <;> omega
    have hlow : 1 ≤ k → 10 ^ (k - 1) ≤ rndQ N (L - k) := by
      intro hk1
      have : 10 ^ (k - 1) ≤ N / 10 ^ (L - k) := by
        rw [Nat.le_div_iff_mul_le pp, ← Nat.pow_add, show k - 1 + (L - k) = L - 1 by omega]; exact h1
      unfold rndQ; omega
    have hu : nDig (rndQ N (L - k)) ≤ k + 1 := by
      have h5 := nDig_low h0
      have h6 := (Nat.pow_le_pow_iff_right (by omega : 1 < 10)).1 (Nat.le_trans h5 hup)
      omega
    have hl : k ≤ nDig (rndQ N (L - k)) := by
      rcases Nat.eq_zero_or_pos k with h | h
      · omega
      · have h5 := lt_pow_nDig (rndQ N (L - k))
        have h6 := (Nat.pow_lt_pow_iff_right (by omega : 1 < 10)).1 (Nat.lt_of_le_of_lt (hlow h) h5)
        omega
    omega
  · rw [if_neg h]; dsimp only; omega

/-- What the slow way hands to the writer. -/
theorem pkDec_is (m : Nat) (e prec f : Int) (hm0 : m ≠ 0) (hm : m < 2 ^ 53) (he1 : -1074 ≤ e) (he2 : e ≤ 971) :
    ∃ ds dp, pkDec (slowR m e prec f) prec = ⟨ds, dp, prec, false⟩ ∧ ds.length ≤ 800 ∧ -900 ≤ dp ∧ dp ≤ 900 ∧ (ds = [] → dp = 0) ∧
      ∀ (w : World) (g : Nat) (ng : Bool), DecV w g (slowR m e prec f).1 (slowR m e prec f).2 ng → ∃ bs, bs.take ds.length = ds ∧ Dec w g bs (ds.length : Nat) dp ng false := by
  obtain ⟨h1, h2, h3, h4, h5, h6⟩ := slowN_bd m e hm0 hm he1 he2
  unfold pkDec
  by_cases h0 : (slowR m e prec f).1 = 0
  · rw [if_pos h0]
    refine ⟨[], 0, rfl, by simp, by omega, by omega, fun _ => rfl, fun w g ng hd => ?_⟩
    obtain ⟨bs, hb⟩ := hd.zero h0
    exact ⟨bs, by simp, hb⟩
  · rw [if_neg h0]
    have h7 := rndD_bd (slowN m e).1 (slowN m e).2 _ h1 h0
    have h8 := nDig_core (slowR m e prec f).1 h0
    have h9 := nDig_pos (core_ne (slowR m e prec f).1 h0)
    refine ⟨_, _, rfl, ?_, ?_, ?_, fun hh => ?_, fun w g ng hd => ?_⟩
    · rw [digs_length]; unfold slowR at *; omega
    · unfold slowR at *; omega
    · unfold slowR at *; omega
    · have := congrArg List.length hh
      rw [digs_length] at this
      simp at this
      omega
    · obtain ⟨_, bs, hb, hdd⟩ := hd.pos h0
      rw [digs_length]
      exact ⟨bs, hb, hdd⟩
end Go.Proofs.YtffooimnioigdaaDoor
