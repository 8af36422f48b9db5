/-
  Walk: fmtX.
-/
import Derived.Test.YtffooimnioigdaaDoorF1
namespace Go.Proofs.YtffooimnioigdaaDoor
open Go.RowKit
set_option linter.unusedSimpArgs false
set_option linter.unusedVariables false

theorem and_pow (a k : Nat) : a &&& 2 ^ k = a / 2 ^ k % 2 * 2 ^ k := by
  apply Nat.eq_of_testBit_eq
  intro i
  rw [Nat.testBit_and, Nat.testBit_two_pow]
  have h := Nat.testBit_eq_decide_div_mod_eq (x := a) (i := k)
  rcases Nat.mod_two_eq_zero_or_one (a / 2 ^ k) with h2 | h2
  · rw [h2] at h ⊢
    by_cases e : k = i
    · subst e; rw [h]; simp
    · simp [e]
  · rw [h2] at h ⊢
    by_cases e : k = i
    · subst e; rw [h]; simp
    · simp [e]
theorem u64_and_p60 (a : Nat) (ha : a < 18446744073709551616) : bits .and .u64 (a : Int) 1152921504606846976 = ((a / 1152921504606846976 % 2 * 1152921504606846976 : Nat) : Int) := by
  have h := u64_and_nat a 1152921504606846976 ha (by omega)
  rw [show (1152921504606846976 : Nat) = 2 ^ 60 by decide, and_pow] at h
  exact h
theorem u64_and_p61 (a : Nat) (ha : a < 18446744073709551616) : bits .and .u64 (a : Int) 2305843009213693952 = ((a / 2305843009213693952 % 2 * 2305843009213693952 : Nat) : Int) := by
  have h := u64_and_nat a 2305843009213693952 ha (by omega)
  rw [show (2305843009213693952 : Nat) = 2 ^ 61 by decide, and_pow] at h
  exact h
theorem u64_and_m60 (a : Nat) (ha : a < 18446744073709551616) : bits .and .u64 (a : Int) 1152921504606846975 = ((a % 1152921504606846976 : Nat) : Int) := by
  have h := u64_and_nat a 1152921504606846975 ha (by omega)
  rw [show (1152921504606846975 : Nat) = 2 ^ 60 - 1 by decide, Nat.and_two_pow_sub_one_eq_mod] at h
  exact h
theorem u64_and15 (a : Nat) (ha : a < 18446744073709551616) : bits .and .u64 (a : Int) 15 = ((a % 16 : Nat) : Int) := by
  have h := u64_and_nat a 15 ha (by omega)
  rw [show (15 : Nat) = 2 ^ 4 - 1 by decide, Nat.and_two_pow_sub_one_eq_mod] at h
  exact h

/-- The mantissa with its leading one at bit 60, and its exponent. -/
def xNorm (m : Nat) (e : Int) : Nat × Int := if m = 0 then (0, e) else (m * 2 ^ (60 - m.log2), e - ((60 - m.log2 : Nat) : Int))

theorem xNorm_is {m j mj : Nat} {e : Int} (h : mj = m * 2 ^ j) (hj : j ≤ 60) (h1 : mj < 2 ^ 61) (hz : mj = 0 ∨ 1152921504606846976 ≤ mj) (h0 : m = 0 → j = 0) : xNorm m e = (mj, e - (j : Int)) := by
  unfold xNorm
  by_cases hm : m = 0
  · rw [if_pos hm]
    rw [h0 hm, h, hm]
    simp
  · rw [if_neg hm]
    have hp : 0 < 2 ^ j := Nat.two_pow_pos j
    have hmj : 2 ^ 60 ≤ mj := by
      rcases hz with h2 | h2
      · rw [h2] at h
        have := Nat.mul_eq_zero.1 h.symm
        omega
      · exact h2
    have hlog : m.log2 = 60 - j := by
      rw [Nat.log2_eq_iff hm]
      constructor
      · refine Nat.le_of_mul_le_mul_right ?_ hp
        rw [← Nat.pow_add, ← h, show 60 - j + j = 60 by omega]
        exact hmj
      · refine Nat.lt_of_mul_lt_mul_right (a := 2 ^ j) ?_
        rw [← Nat.pow_add, ← h, show 60 - j + 1 + j = 61 by omega]
        exact h1
    rw [hlog, show 60 - (60 - j) = j by omega, h]

/-- The mantissa rounded to prec hexadecimal digits. -/
def xRnd (prec : Int) (m : Nat) (e : Int) : Nat × Int :=
  if 0 ≤ prec ∧ prec < 15 then
    let s := prec.toNat * 4
    let q := m / 2 ^ (60 - s)
    let r := (if 576460752303423488 < (m * 2 ^ s % 2 ^ 60 ||| q % 2) then q + 1 else q) * 2 ^ (60 - s)
    if r / 2 ^ 61 % 2 = 0 then (r, e) else (r / 2, e + 1)
  else (m, e)

theorem xRnd_bd (prec : Int) (m : Nat) (e : Int) (hm : m < 2305843009213693952) : (xRnd prec m e).1 < 4611686018427387904 ∧ e ≤ (xRnd prec m e).2 ∧ (xRnd prec m e).2 ≤ e + 1 := by
  unfold xRnd
  split
  · dsimp only
    have hpp : 0 < 2 ^ (60 - prec.toNat * 4) := Nat.two_pow_pos _
    have h1 : m / 2 ^ (60 - prec.toNat * 4) * 2 ^ (60 - prec.toNat * 4) ≤ m := Nat.div_mul_le_self _ _
    have h2 : 2 ^ (60 - prec.toNat * 4) ≤ 2 ^ 60 := Nat.pow_le_pow_right (by omega) (by omega)
    have h3 : (if 576460752303423488 < (m * 2 ^ (prec.toNat * 4) % 2 ^ 60 ||| m / 2 ^ (60 - prec.toNat * 4) % 2) then m / 2 ^ (60 - prec.toNat * 4) + 1 else m / 2 ^ (60 - prec.toNat * 4)) * 2 ^ (60 - prec.toNat * 4) < 4611686018427387904 := by
      split
      · rw [Nat.add_mul, Nat.one_mul]; omega
      · omega
    generalize (if 576460752303423488 < (m * 2 ^ (prec.toNat * 4) % 2 ^ 60 ||| m / 2 ^ (60 - prec.toNat * 4) % 2) then m / 2 ^ (60 - prec.toNat * 4) + 1 else m / 2 ^ (60 - prec.toNat * 4)) * 2 ^ (60 - prec.toNat * 4) = r at h3 ⊢
    split <;> (refine ⟨?_, ?_, ?_⟩ <;> (try dsimp only) <;> omega)
  · (try dsimp only); omega

def hexA (up : Bool) : ByteArray := if up then { data := #[48, 49, 50, 51, 52, 53, 54, 55, 56, 57, 65, 66, 67, 68, 69, 70] } else { data := #[48, 49, 50, 51, 52, 53, 54, 55, 56, 57, 97, 98, 99, 100, 101, 102] }

theorem hexA_size (up : Bool) : (hexA up).size = 16 := by cases up <;> rfl
def hexD (up : Bool) (d : Nat) : UInt8 := if h : d < (hexA up).size then (hexA up)[d] else 0
theorem hexD_is (up : Bool) (d : Nat) (h : d < (hexA up).size) : (hexA up)[d] = hexD up d := by unfold hexD; rw [dif_pos h]
/-- The digits until nothing is left; so many digits. -/
def hexZ (up : Bool) : Nat → Nat → List UInt8
  | 0, _ => []
  | k + 1, m => if m = 0 then [] else hexD up (m / 2 ^ 60 % 16) :: hexZ up k (m * 16 % 2 ^ 64)
def hexN (up : Bool) : Nat → Nat → List UInt8
  | 0, _ => []
  | k + 1, m => hexD up (m / 2 ^ 60 % 16) :: hexN up k (m * 16 % 2 ^ 64)
theorem hexZ_len (up : Bool) (k m : Nat) : (hexZ up k m).length ≤ k := by
  induction k generalizing m with
  | zero => simp [hexZ]
  | succ k ih => unfold hexZ; split <;> simp; exact ih _
theorem hexN_len (up : Bool) (k m : Nat) : (hexN up k m).length = k := by
  induction k generalizing m with
  | zero => simp [hexN]
  | succ k ih => unfold hexN; simp; exact ih _
def xExp (e : Int) : List UInt8 :=
  (if e < 0 then 45 else 43) :: (if e.natAbs < 100 then [UInt8.ofNat (48 + e.natAbs / 10), UInt8.ofNat (48 + e.natAbs % 10)]
    else if e.natAbs < 1000 then [UInt8.ofNat (48 + e.natAbs / 100), UInt8.ofNat (48 + e.natAbs / 10 % 10), UInt8.ofNat (48 + e.natAbs % 10)]
    else [UInt8.ofNat (48 + e.natAbs / 1000), UInt8.ofNat (48 + e.natAbs / 100 % 10), UInt8.ofNat (48 + e.natAbs / 10 % 10), UInt8.ofNat (48 + e.natAbs % 10)])
def xFrac (up : Bool) (prec : Int) (m : Nat) : List UInt8 :=
  if prec < 0 ∧ m ≠ 0 then 46 :: hexZ up 16 m else if 0 < prec then 46 :: hexN up prec.toNat m else []

/-- The format x: what is rounded, and what is written. -/
def xFin (prec : Int) (m mb : Nat) (e : Int) : Nat × Int := xRnd prec (xNorm (m * 2 ^ (60 - mb)) (if m = 0 then 0 else e)).1 (xNorm (m * 2 ^ (60 - mb)) (if m = 0 then 0 else e)).2
def xL (neg : Bool) (prec f : Int) (m mb : Nat) (e : Int) : List UInt8 :=
  eSign neg ++ ([48, UInt8.ofNat f.toNat, UInt8.ofNat (48 + (xFin prec m mb e).1 / 2 ^ 60 % 2)] ++ (xFrac (f == 88) prec ((xFin prec m mb e).1 * 16 % 2 ^ 64) ++ ([if f = 88 then 80 else 112] ++ xExp (xFin prec m mb e).2)))

set_option maxRecDepth 100000 in
set_option maxHeartbeats 4000000 in
theorem fmtX_any (T : Nat) (neg : Bool) (dst : Value) (prec f : Int) (m mb : Nat) (e : Int) (xs : List UInt8) (w : World) (he : Env T w) (hown : OwnB T w dst xs)
    (hx : xs.length ≤ 140737489000000) (hf : f = 120 ∨ f = 88) (hp1 : -9223372036854775808 ≤ prec) (hp2 : prec ≤ 100000) (he1 : -2000 ≤ e) (he2 : e ≤ 2000) (hmb : mb = 52 ∨ mb = 23) (hm : m < 2 ^ (mb + 1)) :
    Calls Tryd.prog 40 #[dst, .int .i64 prec, .int .u8 f, .bool neg, .int .u64 (m : Int), .int .i64 e, .int .i64 (mb : Int)] w fun r w' =>
      ∃ v', r = .returned v' ∧ OwnB T w' v' (xs ++ xL neg prec f m mb e) ∧ Stp w dst w' v' := by
  have hf1 : 0 ≤ f := by omega
  have hf2 : f ≤ 255 := by omega
  have HF := Lib.hid hf
  clear hf
  have hap := Ap.start hown he (Or.inl rfl : Dig w dst dst [])
  clear hown he
  refine calls_F Tryd.func40 rfl (by rw [Tryd.ntmps40]; simp) ?_
  intro σ hσ
  rw [Tryd.ntmps40]
  have s0 : σ 0 = dst := hσ 0 (by simp)
  have s1 : σ 1 = .int .i64 prec := hσ 1 (by simp)
  have s2 : σ 2 = .int .u8 f := hσ 2 (by simp)
  have s3 : σ 3 = .bool neg := hσ 3 (by simp)
  have s4 : σ 4 = .int .u64 (m : Int) := hσ 4 (by simp)
  have s5 : σ 5 = .int .i64 e := hσ 5 (by simp)
  have s6 : σ 6 = .int .i64 (mb : Int) := hσ 6 (by simp)
  clear hσ
  have hmr : m < 2 ^ 53 := by rcases hmb with rfl | rfl <;> omega
  go_wp2_with fail
  refine cut_F (fun s' w' => s' 0 = dst ∧ s' 1 = .int .i64 prec ∧ s' 2 = .int .u8 f ∧ s' 3 = .bool neg ∧ s' 4 = .int .u64 (m : Int) ∧ s' 5 = .int .i64 (if m = 0 then 0 else e) ∧ s' 6 = .int .i64 (mb : Int) ∧ w = w') ?_ ?_
  · intro R' K' HR hK'
    by_cases h : m = 0
    · subst h
      refine cond_yes (by simp [over_cons, over_nil, *]) (by decide) ?_
      go_wp2_with fail
      exact got HR (by simp [over_cons, over_nil, *])
    · refine cond_no (by simp [over_cons, over_nil, *]) (by decide) ?_
      go_wp2_with fail
      exact got HR (by simp [over_cons, over_nil, *])
  clear s0 s1 s2 s3 s4 s5 s6 σ
  rintro σ w' ⟨s0, s1, s2, s3, s4, s5, s6, rfl⟩
  obtain ⟨e0, he0⟩ : ∃ e0 : Int, (if m = 0 then 0 else e) = e0 := ⟨_, rfl⟩
  have hb1 : -2000 ≤ e0 ∧ e0 ≤ 2000 := by rw [← he0]; split <;> omega
  rw [he0] at s5
  obtain ⟨m1, hm1⟩ : ∃ m1 : Nat, m * 2 ^ (60 - mb) = m1 := ⟨_, rfl⟩
  have hm1b : m1 < 2 ^ 61 := by rw [← hm1]; rcases hmb with rfl | rfl <;> omega
  have HM1 := Lib.hid hm1
  have HE0 := Lib.hid he0
  clear hm1 he0
  go_upto_region 3 with fail
  refine cut_F (fun s' w' => s' 0 = dst ∧ s' 1 = .int .i64 prec ∧ s' 2 = .int .u8 f ∧ s' 3 = .bool neg ∧ s' 4 = .int .u64 (m1 : Int) ∧ s' 5 = .int .i64 e0 ∧ w = w') ?_ ?_
  · intro R' K' HR hK'
    rcases hmb with rfl | rfl
    · have hq : (m : Int) * 256 = (m1 : Int) := by have : m * 256 = m1 := HM1.out; omega
      go_wp2_with fail
      exact got HR (by simp [over_cons, over_nil, *])
    · have hq : (m : Int) * 137438953472 = (m1 : Int) := by have : m * 137438953472 = m1 := HM1.out; omega
      go_wp2_with fail
      exact got HR (by simp [over_cons, over_nil, *])
  clear s0 s1 s2 s3 s4 s5 s6 σ
  rintro σ w' ⟨s0, s1, s2, s3, s4, s5, rfl⟩
  go_wp2_with fail
  refine loop_F (fun k s' w' => ∃ (j mj : Nat), mj < 2 ^ 61 ∧ j ≤ 60 ∧ (m1 = 0 → j = 0) ∧ k = 2 ^ 61 - mj ∧ mj = m1 * 2 ^ j ∧ s' 0 = dst ∧ s' 1 = .int .i64 prec ∧ s' 2 = .int .u8 f ∧ s' 3 = .bool neg ∧ s' 4 = .int .u64 (mj : Int) ∧ s' 5 = .int .i64 (e0 - (j : Int)) ∧ w = w') (2 ^ 61 - m1) ⟨0, m1, hm1b, by omega, fun _ => rfl, rfl, by simp, by simp [over_cons, over_nil, *], by simp [over_cons, over_nil, *], by simp [over_cons, over_nil, *], by simp [over_cons, over_nil, *], by simp [over_cons, over_nil, *], by simp [over_cons, over_nil, *], rfl⟩ ?_
  clear s0 s1 s2 s3 s4 s5 σ
  rintro k σ wk ⟨j, mj, hmj, hj, hj0, rfl, hmje, s0, s1, s2, s3, s4, s5, rfl⟩ RK KK HRK hKK
  have HMJ := Lib.hid hmje
  have HJ0 := Lib.hid hj0
  clear hmje hj0
  have hm61 : mj < 2305843009213693952 := by omega
  go_upto_region 4 with fail
  refine cut_F (fun s' w' => s' 32 = .bool (decide (mj ≠ 0 ∧ mj < 1152921504606846976)) ∧ s' 0 = dst ∧ s' 1 = .int .i64 prec ∧ s' 2 = .int .u8 f ∧ s' 3 = .bool neg ∧ s' 4 = .int .u64 (mj : Int) ∧ s' 5 = .int .i64 (e0 - (j : Int)) ∧ w = w') ?_ ?_
  · intro R2 K2 HR hK2
    by_cases hz0 : mj = 0
    · go_wp2_with fail
      exact got HR (by simp [over_cons, over_nil, *])
    · by_cases hzl : mj < 1152921504606846976
      · have hb : bits .and .u64 (mj : Int) 1152921504606846976 = (0 : Int) := by rw [u64_and_p60 mj (by omega)]; omega
        go_wp2_with fail
        exact got HR (by simp [over_cons, over_nil, *])
      · have hb : bits .and .u64 (mj : Int) 1152921504606846976 = (1152921504606846976 : Int) := by rw [u64_and_p60 mj (by omega)]; omega
        go_wp2_with fail
        exact got HR (by simp [over_cons, over_nil, *])
  clear s0 s1 s2 s3 s4 s5 σ
  rintro σ w' ⟨s32, s0, s1, s2, s3, s4, s5, rfl⟩
  go_wp2_with fail
  refine cond_F _ (by rw [over_nil, s32]) (by decide) (fun h => ?_) (fun h => ?_)
  · have h' := of_decide_eq_true h
    have hz0 : ¬ mj = 0 := h'.1
    have hzl : mj < 1152921504606846976 := h'.2
    clear h h'
    have hjl : j < 60 := by
      have := HMJ.out
      by_cases h : j < 60
      · exact h
      · have hj60 : j = 60 := by omega
        rw [hj60] at this
        omega
    go_wp2_with fail
    exact gotk HRK (2 ^ 61 - mj * 2) (by omega) ⟨j + 1, mj * 2, by omega, by omega, fun h => absurd (by rw [HMJ.out, h]; simp) hz0, rfl, by rw [HMJ.out, Nat.pow_succ, Nat.mul_assoc], by simp [over_cons, over_nil, *], by simp [over_cons, over_nil, *], by simp [over_cons, over_nil, *], by simp [over_cons, over_nil, *], by simp [over_cons, over_nil, *], by simp [over_cons, over_nil, *]; omega, rfl⟩
  have hz : mj = 0 ∨ 1152921504606846976 ≤ mj := by have := of_decide_eq_false h; omega
  have hnorm := xNorm_is (e := e0) HMJ.out hj hmj hz HJ0.out
  have HNORM := Lib.hid hnorm
  have hk1 : -2060 ≤ e0 - (j : Int) ∧ e0 - (j : Int) ≤ 2000 := by omega
  obtain ⟨e1, he1'⟩ : ∃ e1, e0 - (j : Int) = e1 := ⟨_, rfl⟩
  rw [he1'] at hk1 s5 HNORM
  clear h s32 hnorm HJ0 HMJ hj hz hKK HRK he1'
  go_upto_region 7 with fail
  refine cut_F (fun s' w' => s' 42 = .bool (decide (0 ≤ prec ∧ prec < 15)) ∧ s' 0 = dst ∧ s' 1 = .int .i64 prec ∧ s' 2 = .int .u8 f ∧ s' 3 = .bool neg ∧ s' 4 = .int .u64 (mj : Int) ∧ s' 5 = .int .i64 e1 ∧ w = w') ?_ ?_
  · intro R2 K2 HR hK2
    by_cases h1 : 0 ≤ prec
    · go_wp2_with fail
      exact got HR (by simp [over_cons, over_nil, *])
    · have h1' : decide (0 ≤ prec) = false := by simpa using h1
      go_wp2_with fail
      exact got HR (by simp [over_cons, over_nil, *])
  clear s0 s1 s2 s3 s4 s5 σ
  rintro σ w' ⟨s42, s0, s1, s2, s3, s4, s5, rfl⟩
  go_wp2_with fail
  refine cut_F (fun s' w' => s' 0 = dst ∧ s' 1 = .int .i64 prec ∧ s' 2 = .int .u8 f ∧ s' 3 = .bool neg ∧ s' 4 = .int .u64 ((xRnd prec mj e1).1 : Int) ∧ s' 5 = .int .i64 (xRnd prec mj e1).2 ∧ w = w') ?_ ?_
  · intro R2 K2 HR hK2
    refine cond_F _ (by rw [over_nil, s42]) (by decide) (fun h => ?_) (fun h => ?_)
    · have h' := of_decide_eq_true h
      obtain ⟨p, hp⟩ : ∃ p : Nat, prec = (p : Int) := ⟨prec.toNat, by omega⟩
      have hp15 : p < 15 := by omega
      subst hp
      clear h h' s42
      obtain ⟨q, hq⟩ : ∃ q : Nat, mj / 2 ^ (60 - p * 4) = q := ⟨_, rfl⟩
      obtain ⟨X, hX⟩ : ∃ X : Nat, (mj * 2 ^ (p * 4) % 2 ^ 60 ||| q % 2) = X := ⟨_, rfl⟩
      have hp2' : 2 ^ (60 - p * 4) * 2 ^ (p * 4) = 2 ^ 60 := by rw [← Nat.pow_add]; congr 1; omega
      have hpp : 0 < 2 ^ (60 - p * 4) := Nat.two_pow_pos _
      have hq1 : q * 2 ^ (60 - p * 4) ≤ mj := by rw [← hq]; exact Nat.div_mul_le_self _ _
      have hq2 : q < 2 ^ 61 := by
        refine Nat.lt_of_le_of_lt ?_ hm61
        rw [← hq]; exact Nat.div_le_self _ _
      have hq3 : (q + 1) * 2 ^ (60 - p * 4) ≤ mj + 2 ^ 60 := by
        rw [Nat.add_mul, Nat.one_mul]
        have : 2 ^ (60 - p * 4) ≤ 2 ^ 60 := Nat.pow_le_pow_right (by omega) (by omega)
        omega
      have hqi : (mj : Int) / 2 ^ (60 - p * 4) = (q : Int) := by rw [← hq]; simp
      have hXi : bits .or .u64 (bits .and .u64 (IntKind.u64.wrap ((mj : Int) * 2 ^ (p * 4))) 1152921504606846975) (bits .and .u64 (q : Int) 1) = (X : Int) := by
        have e1 : IntKind.u64.wrap ((mj : Int) * 2 ^ (p * 4)) = ((mj * 2 ^ (p * 4) % 18446744073709551616 : Nat) : Int) := by
          rw [IntKind.wrap_u64]; simp
        rw [e1, u64_and_m60 _ (by omega), u64_and1 _ (by omega)]
        have := u64_or_nat (mj * 2 ^ (p * 4) % 18446744073709551616 % 1152921504606846976) (q % 2) (by omega) (by omega)
        rw [this, show mj * 2 ^ (p * 4) % 18446744073709551616 % 1152921504606846976 = mj * 2 ^ (p * 4) % 2 ^ 60 by omega, hX]
      have hxr : ∀ r : Nat, (if 576460752303423488 < X then q + 1 else q) * 2 ^ (60 - p * 4) = r → xRnd (p : Int) mj e1 = if r / 2 ^ 61 % 2 = 0 then (r, e1) else (r / 2, e1 + 1) := by
        intro r hr
        unfold xRnd
        rw [if_pos (by omega)]
        simp only [Int.toNat_natCast, hq, hX, hr]
      have HXR := Lib.hid hxr
      clear hxr hX hq hp2' hpp
      by_cases hc : 576460752303423488 < X
      · have hci : (576460752303423488 : Int) < (X : Int) := by omega
        obtain ⟨r, hr⟩ : ∃ r : Nat, (q + 1) * 2 ^ (60 - p * 4) = r := ⟨_, rfl⟩
        have hxr := HXR.out r (by rw [if_pos hc, hr])
        have hrb : r < 18446744073709551616 := by omega
        have hri : IntKind.u64.wrap (((q : Int) + 1) * 2 ^ (60 - p * 4)) = (r : Int) := by
          have : ((q : Int) + 1) * 2 ^ (60 - p * 4) = (r : Int) := by rw [← hr]; simp
          rw [this, IntKind.wrap_u64]; omega
        have HXR2 := Lib.hid hxr
        clear hr hq1 hq3 hxr HXR
        by_cases hb : r / 2 ^ 61 % 2 = 0
        · have hbi : bits .and .u64 (r : Int) 2305843009213693952 = (0 : Int) := by rw [u64_and_p61 r hrb]; omega
          have hxr := HXR2.out
          rw [if_pos hb] at hxr
          clear hb
          ((repeat (go_wp2_with fail; first | (refine cond_yes ?hc (by decide) ?_; (case hc => (simp [over_cons, over_nil, *]; done))) | (refine cond_no ?hc (by decide) ?_; (case hc => (simp [over_cons, over_nil, *]; done))))); go_wp2_with fail)
          exact got HR (by rw [hxr]; simp [over_cons, over_nil, *])
        · have hbi : bits .and .u64 (r : Int) 2305843009213693952 = (2305843009213693952 : Int) := by rw [u64_and_p61 r hrb]; omega
          have hxr := HXR2.out
          rw [if_neg hb] at hxr
          clear hb
          ((repeat (go_wp2_with fail; first | (refine cond_yes ?hc (by decide) ?_; (case hc => (simp [over_cons, over_nil, *]; done))) | (refine cond_no ?hc (by decide) ?_; (case hc => (simp [over_cons, over_nil, *]; done))))); go_wp2_with fail)
          exact got HR (by rw [hxr]; simp [over_cons, over_nil, *])
      · have hci : decide ((576460752303423488 : Int) < (X : Int)) = false := by simp; omega
        obtain ⟨r, hr⟩ : ∃ r : Nat, q * 2 ^ (60 - p * 4) = r := ⟨_, rfl⟩
        have hxr := HXR.out r (by rw [if_neg hc, hr])
        have hrb : r < 18446744073709551616 := by omega
        have hri : IntKind.u64.wrap ((q : Int) * 2 ^ (60 - p * 4)) = (r : Int) := by
          have : (q : Int) * 2 ^ (60 - p * 4) = (r : Int) := by rw [← hr]; simp
          rw [this, IntKind.wrap_u64]; omega
        have HXR2 := Lib.hid hxr
        clear hr hq1 hq3 hxr HXR
        by_cases hb : r / 2 ^ 61 % 2 = 0
        · have hbi : bits .and .u64 (r : Int) 2305843009213693952 = (0 : Int) := by rw [u64_and_p61 r hrb]; omega
          have hxr := HXR2.out
          rw [if_pos hb] at hxr
          clear hb
          ((repeat (go_wp2_with fail; first | (refine cond_yes ?hc (by decide) ?_; (case hc => (simp [over_cons, over_nil, *]; done))) | (refine cond_no ?hc (by decide) ?_; (case hc => (simp [over_cons, over_nil, *]; done))))); go_wp2_with fail)
          exact got HR (by rw [hxr]; simp [over_cons, over_nil, *])
        · have hbi : bits .and .u64 (r : Int) 2305843009213693952 = (2305843009213693952 : Int) := by rw [u64_and_p61 r hrb]; omega
          have hxr := HXR2.out
          rw [if_neg hb] at hxr
          clear hb
          ((repeat (go_wp2_with fail; first | (refine cond_yes ?hc (by decide) ?_; (case hc => (simp [over_cons, over_nil, *]; done))) | (refine cond_no ?hc (by decide) ?_; (case hc => (simp [over_cons, over_nil, *]; done))))); go_wp2_with fail)
          exact got HR (by rw [hxr]; simp [over_cons, over_nil, *])
    · have hx0 : xRnd prec mj e1 = (mj, e1) := by unfold xRnd; rw [if_neg (of_decide_eq_false h)]
      go_wp2_with fail
      exact got HR (by rw [hx0]; simp [over_cons, over_nil, *])
  clear s0 s1 s2 s3 s4 s5 s42 σ
  rintro σ w' ⟨s0, s1, s2, s3, s4, s5, rfl⟩
  have hrb := xRnd_bd prec mj e1 hm61
  obtain ⟨mR, hmR⟩ : ∃ mR, (xRnd prec mj e1).1 = mR := ⟨_, rfl⟩
  obtain ⟨eR, heR⟩ : ∃ eR, (xRnd prec mj e1).2 = eR := ⟨_, rfl⟩
  have HMR := Lib.hid hmR
  have HER := Lib.hid heR
  have hrb1 : mR < 4611686018427387904 := by rw [← hmR]; exact hrb.1
  have hrb2 : -2060 ≤ eR ∧ eR ≤ 2001 := by rw [← heR]; omega
  rw [hmR] at s4
  rw [heR] at s5
  clear hmR heR hrb
  go_wp2_with fail
  refine cut_F (fun s' w' => s' 17 = .string (hexA (f == 88)) ∧ s' 0 = dst ∧ s' 1 = .int .i64 prec ∧ s' 2 = .int .u8 f ∧ s' 3 = .bool neg ∧ s' 4 = .int .u64 (mR : Int) ∧ s' 5 = .int .i64 eR ∧ w = w') ?_ ?_
  · intro R2 K2 HR hK2
    refine cond_F (f == 88) (by simp [over_cons, over_nil, *]) (by decide) (fun h => ?_) (fun h => ?_)
    · go_wp2_with fail
      exact got HR (by simp [over_cons, over_nil, hexA, *])
    · go_wp2_with fail
      exact got HR (by simp [over_cons, over_nil, hexA, *])
  clear s0 s1 s2 s3 s4 s5 σ
  rintro σ w' ⟨s17, s0, s1, s2, s3, s4, s5, rfl⟩
  go_wp2_with fail
  refine cut_F (fun s' w' => ∃ v, s' 0 = v ∧ Ap T w dst dst [] w' v (xs ++ eSign neg) ∧ s' 17 = .string (hexA (f == 88)) ∧ s' 1 = .int .i64 prec ∧ s' 2 = .int .u8 f ∧ s' 4 = .int .u64 (mR : Int) ∧ s' 5 = .int .i64 eR) ?_ ?_
  · intro R' K' HR hK'
    refine cond_F neg (by simp [over_cons, over_nil, *]) (by decide) (fun h => ?_) (fun h => ?_)
    · subst h
      go_wp2_with (at_builtin; refine wpList_appF rfl _ _ _ _ rfl (by decide) (by decide) byteTy (hap.own.alloc _) (by simp [over_cons, over_nil, *]) _ (by simp [over_cons, over_nil, *]) [45] (src_new Tryd.underlying33 [45] _) (by simp only [List.length_append, List.length_cons, List.length_nil, List.length_replicate] at *; omega) ?_; intro v w' ho1 hs1; replace hap := hap.step ho1 hs1; clear ho1 hs1)
      exact got HR ⟨v, by simp [over_cons, over_nil, *], hap, by simp [over_cons, over_nil, *], by simp [over_cons, over_nil, *], by simp [over_cons, over_nil, *], by simp [over_cons, over_nil, *], by simp [over_cons, over_nil, *]⟩
    · subst h
      go_wp2_with fail
      exact got HR ⟨dst, by simp [over_cons, over_nil, *], hap.to (by simp [eSign]), by simp [over_cons, over_nil, *], by simp [over_cons, over_nil, *], by simp [over_cons, over_nil, *], by simp [over_cons, over_nil, *], by simp [over_cons, over_nil, *]⟩
  clear s0 s1 s2 s3 s4 s5 s17 σ hap
  rintro σ w1 ⟨v1, s0, hap, s17, s1, s2, s4, s5⟩
  have hsl : (eSign neg).length ≤ 1 := by cases neg <;> simp [eSign]
  obtain ⟨sg, hsg⟩ : ∃ sg, eSign neg = sg := ⟨_, rfl⟩
  rw [hsg] at hap hsl
  have HSG := Lib.hid hsg
  clear hsg
  have hlb : bits .and .u64 ((mR : Int) / 1152921504606846976) 1 = ((mR / 1152921504606846976 % 2 : Nat) : Int) := by
    have := u64_and1 (mR / 1152921504606846976) (by omega)
    simpa using this
  have hld : mR / 1152921504606846976 % 2 < 2 := Nat.mod_lt _ (by omega)
  obtain ⟨ld, hld'⟩ : ∃ ld, mR / 1152921504606846976 % 2 = ld := ⟨_, rfl⟩
  rw [hld'] at hlb hld
  have HLD := Lib.hid hld'
  obtain ⟨m2, hm2⟩ : ∃ m2, mR * 16 % 18446744073709551616 = m2 := ⟨_, rfl⟩
  have hm2b : m2 < 18446744073709551616 := by rw [← hm2]; exact Nat.mod_lt _ (by omega)
  have hm2i : IntKind.u64.wrap ((mR : Int) * 16) = (m2 : Int) := by rw [IntKind.wrap_u64, ← hm2]; simp
  have HM2 := Lib.hid hm2
  clear hld' hm2
  go_upto_region 24 with (at_builtin; refine wpList_appF rfl _ _ _ _ rfl (by decide) (by decide) byteTy (hap.own.alloc _) (by simp [over_cons, over_nil, *]) _ (by simp [over_cons, over_nil, *]) [UInt8.ofNat ((48 : Int)).toNat, UInt8.ofNat (f).toNat, UInt8.ofNat (48 + (ld : Int)).toNat] (src_three_at Tryd.underlying33 ((48 : Int)) (f) (48 + (ld : Int)) (by omega) (by omega) (by omega) (by omega) (by omega) (by omega) _) (by simp only [List.length_append, List.length_cons, List.length_nil, List.length_replicate] at *; omega) ?_; intro v w' ho1 hs1; replace hap := hap.step ho1 hs1; clear ho1 hs1)
  refine cut_F (fun s' w'' => s' 94 = .bool (decide (prec < 0 ∧ m2 ≠ 0)) ∧ s' 0 = v ∧ s' 17 = .string (hexA (f == 88)) ∧ s' 1 = .int .i64 prec ∧ s' 2 = .int .u8 f ∧ s' 4 = .int .u64 (m2 : Int) ∧ s' 5 = .int .i64 eR ∧ w' = w'') ?_ ?_
  · intro R2 K2 HR hK2
    by_cases h1 : prec < 0
    · by_cases h0 : m2 = 0
      · go_wp2_with fail
        exact got HR (by simp [over_cons, over_nil, *])
      · have h0' : ((m2 : Int) != 0) = true := by simp [h0]
        go_wp2_with fail
        exact got HR (by simp [over_cons, over_nil, *])
    · have h1' : decide (prec < 0) = false := by simpa using h1
      go_wp2_with fail
      exact got HR (by simp [over_cons, over_nil, *])
  clear s0 s1 s2 s4 s5 s17 σ
  rintro σ w3 ⟨s94, s0, s17, s1, s2, s4, s5, rfl⟩
  have hXs : (xs ++ sg ++ [UInt8.ofNat (Int.toNat 48), UInt8.ofNat f.toNat, UInt8.ofNat (48 + (ld : Int)).toNat]).length ≤ xs.length + 4 := by
    simp only [List.length_append, List.length_cons, List.length_nil]; omega
  obtain ⟨out, hout⟩ : ∃ out, xs ++ sg ++ [UInt8.ofNat (Int.toNat 48), UInt8.ofNat f.toNat, UInt8.ofNat (48 + (ld : Int)).toNat] = out := ⟨_, rfl⟩
  rw [hout] at hap hXs
  have HOUT := Lib.hid hout
  clear hout
  obtain ⟨up, hup⟩ : ∃ up, (f == 88) = up := ⟨_, rfl⟩
  rw [hup] at s17
  have HUP := Lib.hid hup
  clear hup
  go_wp2_with fail
  refine cut_F (fun s' w' => ∃ v, s' 0 = v ∧ Ap T w dst dst [] w' v (out ++ xFrac up prec m2) ∧ s' 2 = .int .u8 f ∧ s' 5 = .int .i64 eR) ?_ ?_
  · intro R' K' HR hK'
    refine cond_F _ (by rw [over_nil, s94]) (by decide) (fun h => ?_) (fun h => ?_)
    · have hfr : xFrac up prec m2 = 46 :: hexZ up 16 m2 := by unfold xFrac; rw [if_pos (of_decide_eq_true h)]
      clear h s94
      have HFR := Lib.hid hfr
      clear hfr
      go_wp2_with (at_builtin; refine wpList_appF rfl _ _ _ _ rfl (by decide) (by decide) byteTy (hap.own.alloc _) (by simp [over_cons, over_nil, *]) _ (by simp [over_cons, over_nil, *]) [46] (src_new Tryd.underlying33 [46] _) (by simp only [List.length_append, List.length_cons, List.length_nil, List.length_replicate] at *; omega) ?_; intro v w' ho1 hs1; replace hap := hap.step ho1 hs1; clear ho1 hs1)
      refine loop_F (fun k s' w' => ∃ (i mi : Nat) (v : Value) (l : List UInt8), i ≤ 16 ∧ k = 16 - i ∧ mi = m2 * 16 ^ i % 18446744073709551616 ∧ l.length ≤ i ∧ l ++ hexZ up (16 - i) mi = hexZ up 16 m2 ∧ s' 0 = v ∧ Ap T w dst dst [] w' v (out ++ [46] ++ l) ∧ s' 2 = .int .u8 f ∧ s' 5 = .int .i64 eR ∧ s' 4 = .int .u64 (mi : Int) ∧ s' 17 = .string (hexA up)) 16 ⟨0, m2, _, [], Nat.zero_le _, rfl, by omega, by simp, rfl, rfl, (hap.to (by simp)).at (by simp [over_cons, over_nil, *]), by simp [over_cons, over_nil, *], by simp [over_cons, over_nil, *], by simp [over_cons, over_nil, *], by simp [over_cons, over_nil, *]⟩ ?_
      clear s0 s1 s2 s4 s5 s17 σ hap
      rintro k σ wk ⟨i, mi, vk, l, hi, rfl, hmi, hll, hlz, s0, hap, s2, s5, s4, s17⟩ RK KK HRK hKK
      have hmib : mi < 18446744073709551616 := by rw [hmi]; exact Nat.mod_lt _ (by omega)
      have HMI := Lib.hid hmi
      have HLZ := Lib.hid hlz
      clear hmi hlz
      by_cases hz : mi = 0
      · have hlz := HLZ.out
        have e0 : hexZ up (16 - i) mi = [] := by
          rw [hz]; cases h : 16 - i <;> simp [hexZ]
        rw [e0, List.append_nil] at hlz
        have HLL := Lib.hid hlz
        clear hlz e0
        subst hz
        ((repeat (go_wp2_with fail; first | (refine cond_yes ?hc (by decide) ?_; (case hc => (simp [over_cons, over_nil, *]; done))) | (refine cond_no ?hc (by decide) ?_; (case hc => (simp [over_cons, over_nil, *]; done))))); go_wp2_with fail)
        exact got HR ⟨vk, by simp [over_cons, over_nil, *], hap.to (by rw [HFR.out, HLL.out]; simp), by simp [over_cons, over_nil, *], by simp [over_cons, over_nil, *]⟩
      · have hi16 : i < 16 := by
          by_cases h : i < 16
          · exact h
          · have : i = 16 := by omega
            have hm := HMI.out
            rw [this] at hm
            omega
        have hsz := hexA_size up
        have hdi : bits .and .u64 ((mi : Int) / 1152921504606846976) 15 = ((mi / 1152921504606846976 % 16 : Nat) : Int) := by
          have := u64_and15 (mi / 1152921504606846976) (by omega)
          simpa using this
        have hdb : mi / 1152921504606846976 % 16 < 16 := Nat.mod_lt _ (by omega)
        obtain ⟨d, hd⟩ : ∃ d, mi / 1152921504606846976 % 16 = d := ⟨_, rfl⟩
        rw [hd] at hdi hdb
        have HD := Lib.hid hd
        clear hd
        have hzi : ((mi : Int) != 0) = true := by simp [hz]
        obtain ⟨mn, hmn⟩ : ∃ mn, mi * 16 % 18446744073709551616 = mn := ⟨_, rfl⟩
        have hmni : IntKind.u64.wrap ((mi : Int) * 16) = (mn : Int) := by rw [IntKind.wrap_u64, ← hmn]; simp
        have HMN := Lib.hid hmn
        clear hmn
        ((repeat (go_wp2_with (first | (at_builtin; refine wpList_appF rfl _ _ _ _ rfl (by decide) (by decide) byteTy (hap.own.alloc _) (by simp [over_cons, over_nil, *]) _ (by simp [over_cons, over_nil, *]) [(hexA up)[d]'(by omega)] (src_new Tryd.underlying33 [(hexA up)[d]'(by omega)] _) (by simp only [List.length_append, List.length_cons, List.length_nil, List.length_replicate] at *; omega) ?_; intro v w' ho1 hs1; replace hap := hap.step ho1 hs1; clear ho1 hs1)); first | (refine cond_yes ?hc (by decide) ?_; (case hc => (simp [over_cons, over_nil, *]; done))) | (refine cond_no ?hc (by decide) ?_; (case hc => (simp [over_cons, over_nil, *]; done))))); go_wp2_with (first | (at_builtin; refine wpList_appF rfl _ _ _ _ rfl (by decide) (by decide) byteTy (hap.own.alloc _) (by simp [over_cons, over_nil, *]) _ (by simp [over_cons, over_nil, *]) [(hexA up)[d]'(by omega)] (src_new Tryd.underlying33 [(hexA up)[d]'(by omega)] _) (by simp only [List.length_append, List.length_cons, List.length_nil, List.length_replicate] at *; omega) ?_; intro v w' ho1 hs1; replace hap := hap.step ho1 hs1; clear ho1 hs1)))
        exact gotk HRK (16 - (i + 1)) (by omega) ⟨i + 1, mn, v, l ++ [(hexA up)[d]'(by omega)], by omega, rfl, by rw [← HMN.out, HMI.out, Nat.pow_succ, ← Nat.mul_assoc]; generalize m2 * 16 ^ i = z; omega, by simp; omega, by
          rw [← HLZ.out, show 16 - i = (16 - (i + 1)) + 1 by omega]
          conv => rhs; unfold hexZ
          rw [if_neg hz, hexD_is, ← HD.out, ← HMN.out]
          simp, by simp [over_cons, over_nil], hap.to (by simp), by simp [over_cons, over_nil, *], by simp [over_cons, over_nil, *], by simp [over_cons, over_nil, *], by simp [over_cons, over_nil, *]⟩
    · have hn := of_decide_eq_false h
      clear s94
      by_cases hp : 0 < prec
      · obtain ⟨N, hN⟩ : ∃ N : Nat, prec = (N : Int) := ⟨prec.toNat, by omega⟩
        subst hN
        have hfr : xFrac up (N : Int) m2 = 46 :: hexN up N m2 := by unfold xFrac; rw [if_neg hn, if_pos hp, Int.toNat_natCast]
        have HFR := Lib.hid hfr
        have hNp : 0 < N := by omega
        clear h hn hfr
        go_wp2_with fail
        refine cond_yes (by simp [over_cons, over_nil, *]) (by decide) ?_
        go_wp2_with (at_builtin; refine wpList_appF rfl _ _ _ _ rfl (by decide) (by decide) byteTy (hap.own.alloc _) (by simp [over_cons, over_nil, *]) _ (by simp [over_cons, over_nil, *]) [46] (src_new Tryd.underlying33 [46] _) (by simp only [List.length_append, List.length_cons, List.length_nil, List.length_replicate] at *; omega) ?_; intro v w' ho1 hs1; replace hap := hap.step ho1 hs1; clear ho1 hs1)
        refine loop_F (fun k s' w' => ∃ (i mi : Nat) (v : Value) (l : List UInt8), i ≤ N ∧ k = N - i ∧ mi < 18446744073709551616 ∧ l.length = i ∧ l ++ hexN up (N - i) mi = hexN up N m2 ∧ s' 0 = v ∧ Ap T w dst dst [] w' v (out ++ [46] ++ l) ∧ s' 1 = .int .i64 (N : Int) ∧ s' 18 = .int .i64 (i : Int) ∧ s' 2 = .int .u8 f ∧ s' 5 = .int .i64 eR ∧ s' 4 = .int .u64 (mi : Int) ∧ s' 17 = .string (hexA up)) N ⟨0, m2, _, [], Nat.zero_le _, rfl, by omega, by simp, rfl, rfl, (hap.to (by simp)).at (by simp [over_cons, over_nil, *]), by simp [over_cons, over_nil, *], by simp [over_cons, over_nil, *], by simp [over_cons, over_nil, *], by simp [over_cons, over_nil, *], by simp [over_cons, over_nil, *], by simp [over_cons, over_nil, *]⟩ ?_
        clear s0 s1 s2 s4 s5 s17 σ hap
        rintro k σ wk ⟨i, mi, vk, l, hi, rfl, hmib, hll, hlz, s0, hap, s1, s18, s2, s5, s4, s17⟩ RK KK HRK hKK
        have HLZ := Lib.hid hlz
        clear hlz
        by_cases hz : i < N
        · have hsz := hexA_size up
          have hdi : bits .and .u64 ((mi : Int) / 1152921504606846976) 15 = ((mi / 1152921504606846976 % 16 : Nat) : Int) := by
            have := u64_and15 (mi / 1152921504606846976) (by omega)
            simpa using this
          have hdb : mi / 1152921504606846976 % 16 < 16 := Nat.mod_lt _ (by omega)
          obtain ⟨d, hd⟩ : ∃ d, mi / 1152921504606846976 % 16 = d := ⟨_, rfl⟩
          rw [hd] at hdi hdb
          have HD := Lib.hid hd
          clear hd
          obtain ⟨mn, hmn⟩ : ∃ mn, mi * 16 % 18446744073709551616 = mn := ⟨_, rfl⟩
          have hmni : IntKind.u64.wrap ((mi : Int) * 16) = (mn : Int) := by rw [IntKind.wrap_u64, ← hmn]; simp
          have hmnb : mn < 18446744073709551616 := by rw [← hmn]; exact Nat.mod_lt _ (by omega)
          have HMN := Lib.hid hmn
          clear hmn
          ((repeat (go_wp2_with (first | (at_builtin; refine wpList_appF rfl _ _ _ _ rfl (by decide) (by decide) byteTy (hap.own.alloc _) (by simp [over_cons, over_nil, *]) _ (by simp [over_cons, over_nil, *]) [(hexA up)[d]'(by omega)] (src_new Tryd.underlying33 [(hexA up)[d]'(by omega)] _) (by simp only [List.length_append, List.length_cons, List.length_nil, List.length_replicate] at *; omega) ?_; intro v w' ho1 hs1; replace hap := hap.step ho1 hs1; clear ho1 hs1)); first | (refine cond_yes ?hc (by decide) ?_; (case hc => (simp [over_cons, over_nil, *]; done))) | (refine cond_no ?hc (by decide) ?_; (case hc => (simp [over_cons, over_nil, *]; done))))); go_wp2_with (first | (at_builtin; refine wpList_appF rfl _ _ _ _ rfl (by decide) (by decide) byteTy (hap.own.alloc _) (by simp [over_cons, over_nil, *]) _ (by simp [over_cons, over_nil, *]) [(hexA up)[d]'(by omega)] (src_new Tryd.underlying33 [(hexA up)[d]'(by omega)] _) (by simp only [List.length_append, List.length_cons, List.length_nil, List.length_replicate] at *; omega) ?_; intro v w' ho1 hs1; replace hap := hap.step ho1 hs1; clear ho1 hs1)))
          exact gotk HRK (N - (i + 1)) (by omega) ⟨i + 1, mn, v, l ++ [(hexA up)[d]'(by omega)], by omega, rfl, hmnb, by simp; omega, by
            rw [← HLZ.out, show N - i = (N - (i + 1)) + 1 by omega]
            conv => rhs; unfold hexN
            rw [hexD_is, ← HD.out, ← HMN.out]
            simp, by simp [over_cons, over_nil], hap.to (by simp), by simp [over_cons, over_nil, *], by simp [over_cons, over_nil, *], by simp [over_cons, over_nil, *], by simp [over_cons, over_nil, *], by simp [over_cons, over_nil, *], by simp [over_cons, over_nil, *]⟩
        have hiN : i = N := by omega
        have hif : decide (i < N) = false := by simpa using hz
        have hlz := HLZ.out
        rw [hiN, Nat.sub_self, show hexN up 0 mi = [] from rfl, List.append_nil] at hlz
        have HLL := Lib.hid hlz
        clear hlz
        ((repeat (go_wp2_with fail; first | (refine cond_yes ?hc (by decide) ?_; (case hc => (simp [over_cons, over_nil, *]; done))) | (refine cond_no ?hc (by decide) ?_; (case hc => (simp [over_cons, over_nil, *]; done))))); go_wp2_with fail)
        exact got HR ⟨vk, by simp [over_cons, over_nil, *], hap.to (by rw [HFR.out, HLL.out]; simp), by simp [over_cons, over_nil, *], by simp [over_cons, over_nil, *]⟩
      · have hfr : xFrac up prec m2 = [] := by unfold xFrac; rw [if_neg hn, if_neg hp]
        have hpi : decide (0 < prec) = false := by simpa using hp
        clear h hn
        ((repeat (go_wp2_with fail; first | (refine cond_yes ?hc (by decide) ?_; (case hc => (simp [over_cons, over_nil, *]; done))) | (refine cond_no ?hc (by decide) ?_; (case hc => (simp [over_cons, over_nil, *]; done))))); go_wp2_with fail)
        exact got HR ⟨v, by simp [over_cons, over_nil, *], hap.to (by rw [hfr]; simp), by simp [over_cons, over_nil, *], by simp [over_cons, over_nil, *]⟩
  clear s0 s1 s2 s4 s5 s17 s94 σ hap
  rintro σ w3 ⟨v3, s0, hap, s2, s5⟩
  have hfl : (xFrac up prec m2).length ≤ 100020 := by
    unfold xFrac
    split
    · have := hexZ_len up 16 m2; simp; omega
    · split
      · simp [hexN_len]; omega
      · simp
  obtain ⟨fr, hfr⟩ : ∃ fr, xFrac up prec m2 = fr := ⟨_, rfl⟩
  rw [hfr] at hap hfl
  have HFR := Lib.hid hfr
  clear hfr
  go_wp2_with (first | (go_at_call 54; refine (Tryd.internal_strconv_lower _ _).mono ?_; rintro e w' ⟨rfl, rfl⟩))
  refine cut_F (fun s' w'' => s' 19 = .int .u8 (if f = 88 then 80 else 112) ∧ s' 0 = v3 ∧ s' 5 = .int .i64 eR ∧ w' = w'') ?_ ?_
  · intro R2 K2 HR hK2
    rcases HF.out with hf | hf
    · have hl : bits .or .u8 120 32 = (120 : Int) := by decide
      subst hf
      ((repeat (go_wp2_with fail; first | (refine cond_yes ?hc (by decide) ?_; (case hc => (simp [over_cons, over_nil, *]; done))) | (refine cond_no ?hc (by decide) ?_; (case hc => (simp [over_cons, over_nil, *]; done))))); go_wp2_with fail)
      exact got HR (by simp [over_cons, over_nil, *])
    · have hl : bits .or .u8 88 32 = (120 : Int) := by decide
      subst hf
      ((repeat (go_wp2_with fail; first | (refine cond_yes ?hc (by decide) ?_; (case hc => (simp [over_cons, over_nil, *]; done))) | (refine cond_no ?hc (by decide) ?_; (case hc => (simp [over_cons, over_nil, *]; done))))); go_wp2_with fail)
      exact got HR (by simp [over_cons, over_nil, *])
  clear s0 s2 s5 σ
  rintro σ w4 ⟨s19, s0, s5, rfl⟩
  obtain ⟨pc, hpc⟩ : ∃ pc : Int, (if f = 88 then 80 else 112) = pc := ⟨_, rfl⟩
  have hpcb : 0 ≤ pc ∧ pc < 256 := by rw [← hpc]; split <;> omega
  rw [hpc] at s19
  have HPC := Lib.hid hpc
  clear hpc
  go_wp2_with (at_builtin; refine wpList_appF rfl _ _ _ _ rfl (by decide) (by decide) byteTy (hap.own.alloc _) (by simp [over_cons, over_nil, *]) _ (by simp [over_cons, over_nil, *]) [UInt8.ofNat (pc).toNat] (src_one_at Tryd.underlying33 (pc) (by omega) (by omega) _) (by simp only [List.length_append, List.length_cons, List.length_nil, List.length_replicate] at *; omega) ?_; intro v w' ho1 hs1; replace hap := hap.step ho1 hs1; clear ho1 hs1)
  refine cut_F (fun s' w'' => s' 19 = .int .u8 (if eR < 0 then 45 else 43) ∧ s' 0 = v ∧ s' 5 = .int .i64 (eR.natAbs : Int) ∧ w' = w'') ?_ ?_
  · intro R2 K2 HR hK2
    by_cases h : eR < 0
    · have ha : -eR = (eR.natAbs : Int) := by omega
      ((repeat (go_wp2_with fail; first | (refine cond_yes ?hc (by decide) ?_; (case hc => (simp [over_cons, over_nil, *]; done))) | (refine cond_no ?hc (by decide) ?_; (case hc => (simp [over_cons, over_nil, *]; done))))); go_wp2_with fail)
      exact got HR (by simp [over_cons, over_nil, *])
    · have h' : decide (eR < 0) = false := by simpa using h
      have ha : eR = (eR.natAbs : Int) := by omega
      have HA := Lib.hid ha
      clear ha
      ((repeat (go_wp2_with fail; first | (refine cond_yes ?hc (by decide) ?_; (case hc => (simp [over_cons, over_nil, *]; done))) | (refine cond_no ?hc (by decide) ?_; (case hc => (simp [over_cons, over_nil, *]; done))))); go_wp2_with fail)
      exact got HR (by simp [over_cons, over_nil, *]; omega)
  clear s0 s19 s5 σ
  rintro σ w4 ⟨s19, s0, s5, rfl⟩
  obtain ⟨sc, hsc⟩ : ∃ sc : Int, (if eR < 0 then 45 else 43) = sc := ⟨_, rfl⟩
  have hscb : 0 ≤ sc ∧ sc < 256 := by rw [← hsc]; split <;> omega
  rw [hsc] at s19
  have HSC := Lib.hid hsc
  clear hsc
  obtain ⟨a, ha⟩ : ∃ a : Nat, eR.natAbs = a := ⟨_, rfl⟩
  have hab : a ≤ 2060 := by omega
  rw [ha] at s5
  have HA := Lib.hid ha
  clear ha
  have hfinal : ∀ tl : List UInt8, UInt8.ofNat sc.toNat :: tl = xExp eR → out ++ fr ++ [UInt8.ofNat pc.toNat] ++ [UInt8.ofNat sc.toNat] ++ tl = xs ++ xL neg prec f m mb e := by
    intro tl htl
    unfold xL xFin
    rw [HE0.out, HM1.out, HNORM.out]
    dsimp only
    rw [HMR.out, HER.out, ← htl, HUP.out, HSG.out]
    rw [show mR * 16 % 2 ^ 64 = m2 from HM2.out, HFR.out, show mR / 2 ^ 60 % 2 = ld from HLD.out, ← HOUT.out]
    have : UInt8.ofNat pc.toNat = if f = 88 then 80 else 112 := by rw [← HPC.out]; split <;> rfl
    rw [this]
    have h2 : (48 + (ld : Int)).toNat = 48 + ld := by omega
    rw [h2]
    simp
  have hexp : ∀ tl : List UInt8, (if a < 100 then [UInt8.ofNat (48 + a / 10), UInt8.ofNat (48 + a % 10)]
    else if a < 1000 then [UInt8.ofNat (48 + a / 100), UInt8.ofNat (48 + a / 10 % 10), UInt8.ofNat (48 + a % 10)]
    else [UInt8.ofNat (48 + a / 1000), UInt8.ofNat (48 + a / 100 % 10), UInt8.ofNat (48 + a / 10 % 10), UInt8.ofNat (48 + a % 10)]) = tl → UInt8.ofNat sc.toNat :: tl = xExp eR := by
    intro tl htl
    unfold xExp
    rw [HA.out, htl, ← HSC.out]
    split <;> rfl
  have HFINAL := Lib.hid hfinal
  have HEXP := Lib.hid hexp
  clear hfinal hexp
  by_cases h100 : a < 100
  · have h100i : (a : Int) < 100 := by omega
    ((repeat (go_wp2_with (first | (at_builtin; refine wpList_appF rfl _ _ _ _ rfl (by decide) (by decide) byteTy (hap.own.alloc _) (by simp [over_cons, over_nil, *]) _ (by simp [over_cons, over_nil, *]) [UInt8.ofNat (sc).toNat] (src_one_at Tryd.underlying33 (sc) (by omega) (by omega) _) (by simp only [List.length_append, List.length_cons, List.length_nil, List.length_replicate] at *; omega) ?_; intro v w' ho1 hs1; replace hap := hap.step ho1 hs1; clear ho1 hs1) | (at_builtin; refine wpList_appF rfl _ _ _ _ rfl (by decide) (by decide) byteTy (hap.own.alloc _) (by simp [over_cons, over_nil, *]) _ (by simp [over_cons, over_nil, *]) [UInt8.ofNat ((a : Int) / 10 + 48).toNat, UInt8.ofNat ((a : Int) % 10 + 48).toNat] (src_two_at Tryd.underlying33 ((a : Int) / 10 + 48) ((a : Int) % 10 + 48) (by omega) (by omega) (by omega) (by omega) _) (by simp only [List.length_append, List.length_cons, List.length_nil, List.length_replicate] at *; omega) ?_; intro v w' ho1 hs1; replace hap := hap.step ho1 hs1; clear ho1 hs1)); first | (refine cond_yes ?hc (by decide) ?_; (case hc => (simp [over_cons, over_nil, *]; done))) | (refine cond_no ?hc (by decide) ?_; (case hc => (simp [over_cons, over_nil, *]; done))))); go_wp2_with (first | (at_builtin; refine wpList_appF rfl _ _ _ _ rfl (by decide) (by decide) byteTy (hap.own.alloc _) (by simp [over_cons, over_nil, *]) _ (by simp [over_cons, over_nil, *]) [UInt8.ofNat (sc).toNat] (src_one_at Tryd.underlying33 (sc) (by omega) (by omega) _) (by simp only [List.length_append, List.length_cons, List.length_nil, List.length_replicate] at *; omega) ?_; intro v w' ho1 hs1; replace hap := hap.step ho1 hs1; clear ho1 hs1) | (at_builtin; refine wpList_appF rfl _ _ _ _ rfl (by decide) (by decide) byteTy (hap.own.alloc _) (by simp [over_cons, over_nil, *]) _ (by simp [over_cons, over_nil, *]) [UInt8.ofNat ((a : Int) / 10 + 48).toNat, UInt8.ofNat ((a : Int) % 10 + 48).toNat] (src_two_at Tryd.underlying33 ((a : Int) / 10 + 48) ((a : Int) % 10 + 48) (by omega) (by omega) (by omega) (by omega) _) (by simp only [List.length_append, List.length_cons, List.length_nil, List.length_replicate] at *; omega) ?_; intro v w' ho1 hs1; replace hap := hap.step ho1 hs1; clear ho1 hs1)))
    refine ret_F v rfl (by decide) (by simp [over_cons]) ⟨v, rfl, ?_, hap.stp⟩
    refine cast (congrArg (OwnB T w' v) (HFINAL.out _ (HEXP.out _ ?_))) hap.own
    rw [if_pos h100, show ((a : Int) / 10 + 48).toNat = 48 + a / 10 by omega, show ((a : Int) % 10 + 48).toNat = 48 + a % 10 by omega]
  · have h100' : decide ((a : Int) < 100) = false := by simp; omega
    by_cases h1000 : a < 1000
    · have h1000i : (a : Int) < 1000 := by omega
      ((repeat (go_wp2_with (first | (at_builtin; refine wpList_appF rfl _ _ _ _ rfl (by decide) (by decide) byteTy (hap.own.alloc _) (by simp [over_cons, over_nil, *]) _ (by simp [over_cons, over_nil, *]) [UInt8.ofNat (sc).toNat] (src_one_at Tryd.underlying33 (sc) (by omega) (by omega) _) (by simp only [List.length_append, List.length_cons, List.length_nil, List.length_replicate] at *; omega) ?_; intro v w' ho1 hs1; replace hap := hap.step ho1 hs1; clear ho1 hs1) | (at_builtin; refine wpList_appF rfl _ _ _ _ rfl (by decide) (by decide) byteTy (hap.own.alloc _) (by simp [over_cons, over_nil, *]) _ (by simp [over_cons, over_nil, *]) [UInt8.ofNat ((a : Int) / 100 + 48).toNat, UInt8.ofNat ((a : Int) / 10 % 10 + 48).toNat, UInt8.ofNat ((a : Int) % 10 + 48).toNat] (src_three_at Tryd.underlying33 ((a : Int) / 100 + 48) ((a : Int) / 10 % 10 + 48) ((a : Int) % 10 + 48) (by omega) (by omega) (by omega) (by omega) (by omega) (by omega) _) (by simp only [List.length_append, List.length_cons, List.length_nil, List.length_replicate] at *; omega) ?_; intro v w' ho1 hs1; replace hap := hap.step ho1 hs1; clear ho1 hs1)); first | (refine cond_yes ?hc (by decide) ?_; (case hc => (simp [over_cons, over_nil, *]; done))) | (refine cond_no ?hc (by decide) ?_; (case hc => (simp [over_cons, over_nil, *]; done))))); go_wp2_with (first | (at_builtin; refine wpList_appF rfl _ _ _ _ rfl (by decide) (by decide) byteTy (hap.own.alloc _) (by simp [over_cons, over_nil, *]) _ (by simp [over_cons, over_nil, *]) [UInt8.ofNat (sc).toNat] (src_one_at Tryd.underlying33 (sc) (by omega) (by omega) _) (by simp only [List.length_append, List.length_cons, List.length_nil, List.length_replicate] at *; omega) ?_; intro v w' ho1 hs1; replace hap := hap.step ho1 hs1; clear ho1 hs1) | (at_builtin; refine wpList_appF rfl _ _ _ _ rfl (by decide) (by decide) byteTy (hap.own.alloc _) (by simp [over_cons, over_nil, *]) _ (by simp [over_cons, over_nil, *]) [UInt8.ofNat ((a : Int) / 100 + 48).toNat, UInt8.ofNat ((a : Int) / 10 % 10 + 48).toNat, UInt8.ofNat ((a : Int) % 10 + 48).toNat] (src_three_at Tryd.underlying33 ((a : Int) / 100 + 48) ((a : Int) / 10 % 10 + 48) ((a : Int) % 10 + 48) (by omega) (by omega) (by omega) (by omega) (by omega) (by omega) _) (by simp only [List.length_append, List.length_cons, List.length_nil, List.length_replicate] at *; omega) ?_; intro v w' ho1 hs1; replace hap := hap.step ho1 hs1; clear ho1 hs1)))
      refine ret_F v rfl (by decide) (by simp [over_cons]) ⟨v, rfl, ?_, hap.stp⟩
      refine cast (congrArg (OwnB T w' v) (HFINAL.out _ (HEXP.out _ ?_))) hap.own
      rw [if_neg h100, if_pos h1000, show ((a : Int) / 100 + 48).toNat = 48 + a / 100 by omega, show ((a : Int) / 10 % 10 + 48).toNat = 48 + a / 10 % 10 by omega, show ((a : Int) % 10 + 48).toNat = 48 + a % 10 by omega]
    · have h1000' : decide ((a : Int) < 1000) = false := by simp; omega
      ((repeat (go_wp2_with (first | (at_builtin; refine wpList_appF rfl _ _ _ _ rfl (by decide) (by decide) byteTy (hap.own.alloc _) (by simp [over_cons, over_nil, *]) _ (by simp [over_cons, over_nil, *]) [UInt8.ofNat (sc).toNat] (src_one_at Tryd.underlying33 (sc) (by omega) (by omega) _) (by simp only [List.length_append, List.length_cons, List.length_nil, List.length_replicate] at *; omega) ?_; intro v w' ho1 hs1; replace hap := hap.step ho1 hs1; clear ho1 hs1) | (at_builtin; refine wpList_appF rfl _ _ _ _ rfl (by decide) (by decide) byteTy (hap.own.alloc _) (by simp [over_cons, over_nil, *]) _ (by simp [over_cons, over_nil, *]) [UInt8.ofNat ((a : Int) / 1000 + 48).toNat, UInt8.ofNat ((a : Int) / 100 % 10 + 48).toNat, UInt8.ofNat ((a : Int) / 10 % 10 + 48).toNat, UInt8.ofNat ((a : Int) % 10 + 48).toNat] (src_four_at Tryd.underlying33 ((a : Int) / 1000 + 48) ((a : Int) / 100 % 10 + 48) ((a : Int) / 10 % 10 + 48) ((a : Int) % 10 + 48) (by omega) (by omega) (by omega) (by omega) (by omega) (by omega) (by omega) (by omega) _) (by simp only [List.length_append, List.length_cons, List.length_nil, List.length_replicate] at *; omega) ?_; intro v w' ho1 hs1; replace hap := hap.step ho1 hs1; clear ho1 hs1)); first | (refine cond_yes ?hc (by decide) ?_; (case hc => (simp [over_cons, over_nil, *]; done))) | (refine cond_no ?hc (by decide) ?_; (case hc => (simp [over_cons, over_nil, *]; done))))); go_wp2_with (first | (at_builtin; refine wpList_appF rfl _ _ _ _ rfl (by decide) (by decide) byteTy (hap.own.alloc _) (by simp [over_cons, over_nil, *]) _ (by simp [over_cons, over_nil, *]) [UInt8.ofNat (sc).toNat] (src_one_at Tryd.underlying33 (sc) (by omega) (by omega) _) (by simp only [List.length_append, List.length_cons, List.length_nil, List.length_replicate] at *; omega) ?_; intro v w' ho1 hs1; replace hap := hap.step ho1 hs1; clear ho1 hs1) | (at_builtin; refine wpList_appF rfl _ _ _ _ rfl (by decide) (by decide) byteTy (hap.own.alloc _) (by simp [over_cons, over_nil, *]) _ (by simp [over_cons, over_nil, *]) [UInt8.ofNat ((a : Int) / 1000 + 48).toNat, UInt8.ofNat ((a : Int) / 100 % 10 + 48).toNat, UInt8.ofNat ((a : Int) / 10 % 10 + 48).toNat, UInt8.ofNat ((a : Int) % 10 + 48).toNat] (src_four_at Tryd.underlying33 ((a : Int) / 1000 + 48) ((a : Int) / 100 % 10 + 48) ((a : Int) / 10 % 10 + 48) ((a : Int) % 10 + 48) (by omega) (by omega) (by omega) (by omega) (by omega) (by omega) (by omega) (by omega) _) (by simp only [List.length_append, List.length_cons, List.length_nil, List.length_replicate] at *; omega) ?_; intro v w' ho1 hs1; replace hap := hap.step ho1 hs1; clear ho1 hs1)))
      refine ret_F v rfl (by decide) (by simp [over_cons]) ⟨v, rfl, ?_, hap.stp⟩
      refine cast (congrArg (OwnB T w' v) (HFINAL.out _ (HEXP.out _ ?_))) hap.own
      rw [if_neg h100, if_neg h1000, show ((a : Int) / 1000 + 48).toNat = 48 + a / 1000 by omega, show ((a : Int) / 100 % 10 + 48).toNat = 48 + a / 100 % 10 by omega, show ((a : Int) / 10 % 10 + 48).toNat = 48 + a / 10 % 10 by omega, show ((a : Int) % 10 + 48).toNat = 48 + a % 10 by omega]
end Go.Proofs.YtffooimnioigdaaDoor
