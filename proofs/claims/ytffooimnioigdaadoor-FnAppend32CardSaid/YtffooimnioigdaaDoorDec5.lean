/-
  Walk: rightShift.
-/
import Derived.Test.YtffooimnioigdaaDoorDec4
namespace Go.Proofs.YtffooimnioigdaaDoor
open Go.RowKit
set_option linter.unusedSimpArgs false
set_option linter.unusedVariables false

set_option maxRecDepth 100000 in
set_option maxHeartbeats 4000000 in
theorem rightShift_any (T g N k : Nat) (bs : List UInt8) (dp : Int) (ng tr : Bool) (w : World) (he : Env T w) (hgT : T ≤ g) (hd : Dec w g bs (nDig N : Nat) dp ng tr) (hbs : bs.take (nDig N) = digs N (nDig N))
    (hN : N % 10 ≠ 0) (hk1 : 1 ≤ k) (hk2 : k ≤ 60) (hM : nDig (N * 5 ^ k) ≤ 800) (hM2 : nDig N ≤ 800) (hp1 : -2000 ≤ dp) (hp2 : dp ≤ 2000) :
    Calls Tryd.prog 69 #[.pointer (some ⟨g, 0, none⟩), .int .u64 (k : Int)] w fun r w' =>
      r = .returned (.tuple #[]) ∧ ∃ (Q z : Nat) (bs' : List UInt8), Q * 10 ^ z = N * 5 ^ k ∧ bs'.take (nDig Q) = digs Q (nDig Q) ∧
        Dec w' g bs' (trimZ bs' (nDig Q) : Nat) (trimDp (trimZ bs' (nDig Q)) (dp + nDig Q - nDig N - k + z)) ng tr ∧ Gr w w' g := by
  have hlt := hd.lt
  have d1 := hd.cnd
  have d2 := hd.cdp
  have fz := hd.frozen
  obtain ⟨L, hL⟩ : ∃ L, nDig N = L := ⟨_, rfl⟩
  rw [hL] at hd hbs d1 hM2
  have hN0 : N ≠ 0 := by intro e; rw [e] at hN; simp at hN
  have hLp : 1 ≤ L := by rw [← hL]; exact nDig_pos hN0
  have hNL : N < 10 ^ L := by rw [← hL]; exact lt_pow_nDig N
  obtain ⟨B, hB⟩ : ∃ B, 2 ^ k = B := ⟨_, rfl⟩
  have hB1 : 2 ≤ B := by rw [← hB]; exact Nat.le_trans (by omega : 2 ≤ 2 ^ 1) (Nat.pow_le_pow_right (by omega) hk1)
  have hB2 : B ≤ 2 ^ 60 := by rw [← hB]; exact Nat.pow_le_pow_right (by omega) hk2
  have hBi : (2 : Int) ^ k = (B : Int) := by rw [← hB]; simp
  have hx0 := xR_zero N L hNL
  have HX0 := Lib.hid hx0
  have HD := Lib.hid hd
  have HBS := Lib.hid hbs
  have HL := Lib.hid hL
  have HNL := Lib.hid hNL
  have HB := Lib.hid hB
  have HN := Lib.hid hN
  have HM := Lib.hid hM
  clear hx0 hd hbs hL hNL hB he hN hM hN0
  refine calls_F Tryd.func69 rfl (by rw [Tryd.ntmps69]; simp) ?_
  intro σ hσ
  rw [Tryd.ntmps69]
  have s0 : σ 0 = .pointer (some ⟨g, 0, none⟩) := hσ 0 (by simp)
  have s1 : σ 1 = .int .u64 (k : Int) := hσ 1 (by simp)
  clear hσ
  go_upto_block 0 with fail
  refine cut_F (fun s' w' => ∃ r0 n : Nat, 1 ≤ r0 ∧ n = xR N L r0 ∧ B ≤ n ∧ n < 10 * B ∧ (L < r0 → xR N L (r0 - 1) < B) ∧ r0 ≤ L + 2 ^ 60 ∧ s' 4 = .int .i64 (r0 : Int) ∧ s' 5 = .int .i64 0 ∧ s' 6 = .int .u64 (n : Int) ∧ s' 0 = .pointer (some ⟨g, 0, none⟩) ∧ s' 1 = .int .u64 (k : Int) ∧ w = w') ?_ ?_
  · intro R2 K2 HR hK2
    go_wp2_with fail
    refine loop_F (fun kk s' w' => ∃ (r n : Nat), r ≤ L ∧ kk = L - r ∧ n = xR N L r ∧ n < 10 * B ∧ (r = 0 → n = 0) ∧ s' 4 = .int .i64 (r : Int) ∧ s' 5 = .int .i64 0 ∧ s' 6 = .int .u64 (n : Int) ∧ s' 0 = .pointer (some ⟨g, 0, none⟩) ∧ s' 1 = .int .u64 (k : Int) ∧ w = w') L
      ⟨0, 0, Nat.zero_le _, rfl, HX0.out.symm, by omega, fun _ => rfl, by simp [over_cons, over_nil, *], by simp [over_cons, over_nil, *], by simp [over_cons, over_nil, *], by simp [over_cons, over_nil, *], by simp [over_cons, over_nil, *], rfl⟩ ?_
    clear s0 s1 σ
    rintro kk σ wk ⟨r, n, hr, hkk, hn, hnb, hz, s4, s5, s6, s0, s1, rfl⟩ RK KK HRK hKK
    have HX := Lib.hid hn
    have HKK := Lib.hid hkk
    clear hn hkk
    by_cases hnB : n < B
    · have hq : (n : Int) / (B : Int) = 0 := by rw [← Int.natCast_ediv, Nat.div_eq_of_lt hnB]; rfl
      by_cases hrL : r < L
      · have c1 := HD.out.digit r (by omega)
        have hdg := digs_get bs N L HBS.out r hrL
        obtain ⟨x, hx⟩ : ∃ x, N / 10 ^ (L - 1 - r) % 10 = x := ⟨_, rfl⟩
        have hx9 : x ≤ 9 := by rw [← hx]; have : N / 10 ^ (L - 1 - r) % 10 < 10 := Nat.mod_lt _ (by omega); omega
        rw [hdg, dg_toNat, hx, show ((48 + x : Nat) : Int) = 48 + (x : Int) by omega] at c1
        have hsucc := xR_succ_lt N L r hrL
        rw [← HX.out, hx] at hsucc
        have HSU := Lib.hid hsucc
        have hri : (r : Int) < 800 := by omega
        clear hdg hx hsucc
        ((repeat (go_wp2_with fail; first | (refine cond_yes ?hc (by decide) ?_; (case hc => (simp [over_cons, over_nil, *]; done))) | (refine cond_no ?hc (by decide) ?_; (case hc => (simp [over_cons, over_nil, *]; done))))); go_wp2_with fail)
        refine gotk HRK (L - (r + 1)) (by have := HKK.out; omega) ⟨r + 1, n * 10 + x, by omega, rfl, HSU.out.symm, by omega, fun h => absurd h (by omega), by simp [over_cons, over_nil, *], by simp [over_cons, over_nil, *], by simp [over_cons, over_nil]; omega, by simp [over_cons, over_nil, *], by simp [over_cons, over_nil, *], rfl⟩
      · have hrL' : r = L := by omega
        subst hrL'
        have hNn : n = N := by rw [HX.out, xR_ge _ _ _ (Nat.le_refl _), Nat.sub_self, Nat.pow_zero, Nat.mul_one]
        have hnz : ((n : Int) == 0) = false := by
          rw [beq_eq_false_iff_ne]
          have := HN.out
          intro e
          have : n = 0 := by omega
          rw [← hNn, this] at HN
          exact HN.out (by simp)
        have hn1 : 1 ≤ n := by rw [beq_eq_false_iff_ne] at hnz; omega
        have HNN := Lib.hid hNn
        clear hNn hrL
        ((repeat (go_wp2_with fail; first | (refine cond_yes ?hc (by decide) ?_; (case hc => (simp [over_cons, over_nil, *]; done))) | (refine cond_no ?hc (by decide) ?_; (case hc => (simp [over_cons, over_nil, *]; done))))); go_wp2_with fail)
        refine loop_F (fun kk s' w' => ∃ (r' n' : Nat), r ≤ r' ∧ kk = 10 * B - n' ∧ n' = xR N r r' ∧ n' < 10 * B ∧ r' + 1 ≤ r + n' ∧ r' ≤ r + 2 ^ 60 ∧ (r < r' → xR N r (r' - 1) < B) ∧ s' 4 = .int .i64 (r' : Int) ∧ s' 5 = .int .i64 0 ∧ s' 6 = .int .u64 (n' : Int) ∧ s' 0 = .pointer (some ⟨g, 0, none⟩) ∧ s' 1 = .int .u64 (k : Int) ∧ w = w') (10 * B - n)
          ⟨r, n, Nat.le_refl _, rfl, HX.out, hnb, by omega, by omega, fun h => absurd h (by omega), by simp [over_cons, over_nil, *], by simp [over_cons, over_nil, *], by simp [over_cons, over_nil, *], by simp [over_cons, over_nil, *], by simp [over_cons, over_nil, *], rfl⟩ ?_
        clear s0 s1 s4 s5 s6 σ HX HKK HNN hnz hn1 hz hnb hq hnB n HRK hKK
        rintro k2 σ wk ⟨r', n, hrr, hkk, hn, hnb, hrn, hr60, hpr, s4, s5, s6, s0, s1, rfl⟩ RL KL HRL hKL
        have HX := Lib.hid hn
        have HKK := Lib.hid hkk
        have HPR := Lib.hid hpr
        clear hn hkk hpr
        have hr0 : (r' : Int) ≤ 1152921504606847776 := by omega
        by_cases hnB : n < B
        · have hq : (n : Int) / (B : Int) = 0 := by rw [← Int.natCast_ediv, Nat.div_eq_of_lt hnB]; rfl
          have hsucc := xR_succ_ge N r r' hrr
          rw [← HX.out] at hsucc
          have HSU := Lib.hid hsucc
          clear hsucc
          ((repeat (go_wp2_with fail; first | (refine cond_yes ?hc (by decide) ?_; (case hc => (simp [over_cons, over_nil, *]; done))) | (refine cond_no ?hc (by decide) ?_; (case hc => (simp [over_cons, over_nil, *]; done))))); go_wp2_with fail)
          exact gotk HRL (10 * B - n * 10) (by have := HKK.out; omega) ⟨r' + 1, n * 10, by omega, rfl, HSU.out.symm, by omega, by omega, by omega, fun _ => by rw [Nat.add_sub_cancel, ← HX.out]; exact hnB, by simp [over_cons, over_nil, *], by simp [over_cons, over_nil, *], by simp [over_cons, over_nil], by simp [over_cons, over_nil, *], by simp [over_cons, over_nil, *], rfl⟩
        · have hq : 0 < (n : Int) / (B : Int) := by rw [← Int.natCast_ediv]; have := Nat.div_pos (Nat.le_of_not_lt hnB) (by omega); omega
          have hq2 : ((n : Int) / (B : Int) == 0) = false := by rw [beq_eq_false_iff_ne]; omega
          ((repeat (go_wp2_with fail; first | (refine cond_yes ?hc (by decide) ?_; (case hc => (simp [over_cons, over_nil, *]; done))) | (refine cond_no ?hc (by decide) ?_; (case hc => (simp [over_cons, over_nil, *]; done))))); go_wp2_with fail)
          exact got HR ⟨r', n, by omega, HX.out, by omega, hnb, HPR.out, hr60, by simp [over_cons, over_nil, *], by simp [over_cons, over_nil, *], by simp [over_cons, over_nil, *], by simp [over_cons, over_nil, *], by simp [over_cons, over_nil, *], rfl⟩
    · have hq : 0 < (n : Int) / (B : Int) := by rw [← Int.natCast_ediv]; have := Nat.div_pos (Nat.le_of_not_lt hnB) (by omega); omega
      have hq2 : ((n : Int) / (B : Int) == 0) = false := by rw [beq_eq_false_iff_ne]; omega
      ((repeat (go_wp2_with fail; first | (refine cond_yes ?hc (by decide) ?_; (case hc => (simp [over_cons, over_nil, *]; done))) | (refine cond_no ?hc (by decide) ?_; (case hc => (simp [over_cons, over_nil, *]; done))))); go_wp2_with fail)
      exact got HR ⟨r, n, by omega, HX.out, by omega, hnb, fun h => absurd h (by omega), by omega, by simp [over_cons, over_nil, *], by simp [over_cons, over_nil, *], by simp [over_cons, over_nil, *], by simp [over_cons, over_nil, *], by simp [over_cons, over_nil, *], rfl⟩
  clear s0 s1 σ HX0
  rintro σ w' ⟨r0, n, hr1, hn, hnb1, hnb2, hpr, hr60, s4, s5, s6, s0, s1, rfl⟩
  have hNX := hn
  have HX := Lib.hid hNX
  have HPR := Lib.hid hpr
  clear hn hpr hNX
  have hr0 : (r0 : Int) ≤ 1152921504606847776 := by omega
  have hwB : IntKind.u64.wrap (B : Int) = (B : Int) := by rw [IntKind.wrap_u64]; omega
  go_wp2_with fail
  have hdd := HD.out.setDp (dp - ((r0 : Int) - 1))
  have hgg := (Gr.refl w g).set 801 (.int .i64 (dp - ((r0 : Int) - 1)))
  have HDD := Lib.hid hdd
  have HGG := Lib.hid hgg
  clear hdd hgg
  refine loop_F (fun kk s' w' => ∃ (wd n' : Nat) (bs' : List UInt8), (wd = 0 ∨ r0 + wd ≤ L) ∧ kk = L - (r0 + wd) ∧ n' = xR N L (r0 + wd) % (10 * B) ∧ s' 4 = .int .i64 ((r0 : Int) + wd) ∧ s' 5 = .int .i64 (wd : Int) ∧ s' 6 = .int .u64 (n' : Int) ∧ s' 8 = .int .u64 ((B : Int) - 1) ∧ s' 0 = .pointer (some ⟨g, 0, none⟩) ∧ s' 1 = .int .u64 (k : Int) ∧ Dec w' g bs' L (dp - ((r0 : Int) - 1)) ng tr ∧ Gr w w' g ∧ (∀ i, r0 + wd ≤ i → i < L → bs'.getD i 0 = Lib.dg N (L - 1 - i)) ∧ (∀ i, i < wd → bs'.getD i 0 = UInt8.ofNat (48 + xR N L (r0 + i) / B % 10))) (L - r0)
    ⟨0, n, bs, Or.inl rfl, rfl, by rw [Nat.add_zero, ← HX.out, Nat.mod_eq_of_lt hnb2], by simp [over_cons, over_nil, *], by simp [over_cons, over_nil, *], by simp [over_cons, over_nil, *], by simp [over_cons, over_nil, *], by simp [over_cons, over_nil, *], by simp [over_cons, over_nil, *], HDD.out, HGG.out, fun i _ hi => digs_get bs N L HBS.out i hi, fun i hi => absurd hi (by omega)⟩ ?_
  clear s0 s1 s4 s5 s6 σ HDD HGG hlt d1 d2 fz
  rintro kk σ wk ⟨wd, n', bs', hwd, hkk, hn, s4, s5, s6, s8, s0, s1, hd, hg, hun, hwr⟩ RK KK HRK hKK
  have HXW := Lib.hid hn
  have HKK := Lib.hid hkk
  have HUN := Lib.hid hun
  have HWR := Lib.hid hwr
  have HD := Lib.hid hd
  have HG := Lib.hid hg
  have hlt := hd.lt
  have fz := hd.frozen
  have d1 := hd.cnd
  have hn10 : n' < 10 * B := by rw [hn]; exact Nat.mod_lt _ (by omega)
  clear hn hkk hun hwr hd hg
  by_cases hrL : r0 + wd < L
  · have hrLi : (r0 : Int) + (wd : Int) < (L : Int) := by omega
    obtain ⟨x, hx⟩ : ∃ x, N / 10 ^ (L - 1 - (r0 + wd)) % 10 = x := ⟨_, rfl⟩
    have hx9 : x ≤ 9 := by rw [← hx]; have : N / 10 ^ (L - 1 - (r0 + wd)) % 10 < 10 := Nat.mod_lt _ (by omega); omega
    have c1 := HD.out.digit (r0 + wd) (by omega)
    rw [HUN.out _ (Nat.le_refl _) hrL, dg_toNat, hx, show ((48 + x : Nat) : Int) = 48 + (x : Int) by omega] at c1
    have hdW : ∃ v, wk.cell? ⟨g, wd, none⟩ = some v := ⟨_, HD.out.digit wd (by omega)⟩
    obtain ⟨vW, hvW⟩ := hdW
    have hand := u64_and_mask n' k hk2 (by omega)
    rw [HB.out] at hand
    have hdig : (n' : Int) / (B : Int) = ((n' / B : Nat) : Int) := by rw [Int.natCast_ediv]
    have hdb : n' / B ≤ 9 := by have := Nat.div_lt_of_lt_mul (m := n') (n := B) (k := 10) (by rw [Nat.mul_comm]; exact hn10); omega
    have hmb : n' % B < B := Nat.mod_lt _ (by omega)
    have hstep := mod_step (xR N L (r0 + wd)) B x (by omega) hx9
    have hsu := xR_succ_lt N L (r0 + wd) hrL
    rw [hx] at hsu
    rw [← hsu, ← HXW.out] at hstep
    have hdst := dig_step (xR N L (r0 + wd)) B
    rw [← HXW.out] at hdst
    have HST := Lib.hid hstep
    have HDS := Lib.hid hdst
    clear hstep hdst hsu hx
    obtain ⟨q, hq⟩ : ∃ q, n' / B = q := ⟨_, rfl⟩
    obtain ⟨m, hm⟩ : ∃ m, n' % B = m := ⟨_, rfl⟩
    rw [hq] at hdig hdb HDS
    rw [hm] at hand hmb HST
    have hwi : (wd : Int) < 800 := by omega
    have hri : (r0 : Int) + (wd : Int) < 800 := by omega
    have hrn : ((r0 : Int) + (wd : Int)).toNat = r0 + wd := by omega
    clear hq hm
    ((repeat (go_wp2_with fail; first | (refine cond_yes ?hc (by decide) ?_; (case hc => (simp [over_cons, over_nil, *]; done))) | (refine cond_no ?hc (by decide) ?_; (case hc => (simp [over_cons, over_nil, *]; done))))); go_wp2_with fail)
    have hlen : bs'.length = 800 := HD.out.len
    have hq48 : ((q : Int) + 48).toNat = 48 + q := by omega
    refine gotk HRK (L - (r0 + (wd + 1))) (by have := HKK.out; omega) ⟨wd + 1, m * 10 + x, bs'.set wd (UInt8.ofNat ((q : Int) + 48).toNat), Or.inr (by omega), rfl, HST.out, ?_, by simp [over_cons, over_nil, *], ?_, by simp [over_cons, over_nil, *], by simp [over_cons, over_nil, *], by simp [over_cons, over_nil, *], HD.out.setDigit wd (by omega) _ (by omega) (by omega), HG.out.set _ _, ?_, ?_⟩
    · simp [over_cons, over_nil]; omega
    · simp [over_cons, over_nil]; omega
    · intro i h1 h2
      rw [getD_set _ _ _ _ (by omega), if_neg (by omega)]
      exact HUN.out i (by omega) h2
    · intro i hi
      rw [getD_set _ _ _ _ (by omega)]
      by_cases hiw : wd = i
      · subst hiw
        rw [if_pos rfl, hq48, HDS.out]
      · rw [if_neg hiw]
        exact HWR.out i (by omega)
  · have hrLi : decide ((r0 : Int) + (wd : Int) < (L : Int)) = false := by simp; omega
    ((repeat (go_wp2_with fail; first | (refine cond_yes ?hc (by decide) ?_; (case hc => (simp [over_cons, over_nil, *]; done))) | (refine cond_no ?hc (by decide) ?_; (case hc => (simp [over_cons, over_nil, *]; done))))); go_wp2_with fail)
    have hw8 : wd ≤ 800 := by omega
    have hnn : n' = 0 → L + 1 ≤ r0 + wd ∧ 1 ≤ wd := by
      intro h0
      exfalso
      have e := HXW.out
      by_cases hz : wd = 0
      · rw [hz, Nat.add_zero, ← HX.out, Nat.mod_eq_of_lt hnb2] at e
        omega
      · have hrl : r0 + wd = L := by omega
        rw [hrl, xR_ge _ _ _ (Nat.le_refl _), Nat.sub_self, Nat.pow_zero, Nat.mul_one, h0] at e
        have h1 : N % (10 * B) % 10 = N % 10 := Nat.mod_mod_of_dvd _ (Nat.dvd_mul_right 10 B)
        rw [← e] at h1
        exact HN.out h1.symm
    have hk0 : r0 + wd ≤ L + k + 1 := by
      by_cases hz : L < r0
      · have h1 := HPR.out hz
        rw [xR_ge _ _ _ (by omega), ← HB.out] at h1
        have hN1 : 1 ≤ N := by have := HN.out; rcases Nat.eq_zero_or_pos N with h | h; (rw [h] at this; simp at this); exact h
        have h2 : 10 ^ (r0 - 1 - L) < 10 ^ k := Nat.lt_of_le_of_lt (Nat.le_mul_of_pos_left _ hN1) (Nat.lt_of_lt_of_le h1 (Nat.pow_le_pow_left (by omega) k))
        have h3 := (Nat.pow_lt_pow_iff_right (by omega : 1 < 10)).1 h2
        omega
      · omega
    refine loop_F (fun kk s' w' => ∃ (wd n' : Nat) (bs' : List UInt8), L ≤ r0 + wd ∧ r0 + wd ≤ L + k + 1 ∧ wd ≤ 800 ∧ kk = L + k + 2 - (r0 + wd) ∧ n' = xR N L (r0 + wd) % (10 * B) ∧ (n' = 0 → L + 1 ≤ r0 + wd ∧ 1 ≤ wd) ∧ s' 5 = .int .i64 (wd : Int) ∧ s' 6 = .int .u64 (n' : Int) ∧ s' 8 = .int .u64 ((B : Int) - 1) ∧ s' 0 = .pointer (some ⟨g, 0, none⟩) ∧ s' 1 = .int .u64 (k : Int) ∧ Dec w' g bs' L (dp - ((r0 : Int) - 1)) ng tr ∧ Gr w w' g ∧ (∀ i, i < wd → bs'.getD i 0 = UInt8.ofNat (48 + xR N L (r0 + i) / B % 10))) (L + k + 2 - (r0 + wd))
      ⟨wd, n', bs', by omega, hk0, hw8, rfl, HXW.out, hnn, by simp [over_cons, over_nil, *], by simp [over_cons, over_nil, *], by simp [over_cons, over_nil, *], by simp [over_cons, over_nil, *], by simp [over_cons, over_nil, *], HD.out, HG.out, HWR.out⟩ ?_
    clear s0 s1 s4 s5 s6 s8 σ HD HG hlt d1 fz HXW HWR HUN HKK hn10 hrL hrLi hw8 hnn hk0 hwd wd n' bs' HRK hKK
    rintro k4 σ wl ⟨wd, n', bs', hge, hke, hw8, hkk, hn, hnn, s5, s6, s8, s0, s1, hd, hg, hwr⟩ RL KL HRL hKL
    have HXW := Lib.hid hn
    have HKK := Lib.hid hkk
    have HNN := Lib.hid hnn
    have HWR := Lib.hid hwr
    have HD := Lib.hid hd
    have HG := Lib.hid hg
    have hlt := hd.lt
    have fz := hd.frozen
    have hn10 : n' < 10 * B := by rw [hn]; exact Nat.mod_lt _ (by omega)
    clear hn hkk hnn hwr hd hg
    by_cases hz : n' = 0
    · obtain ⟨hL1, hw1⟩ := HNN.out hz
      subst hz
      have hend := xR_end N L k r0 wd (by rw [HB.out]; exact HXW.out.symm) hL1 hke
      rw [HB.out] at hend
      have hdg := xR_digs N L B r0 wd bs' (by rw [HD.out.len]; exact hw8) hw1 HWR.out
      have hsz := xR_size N L B r0 (wd - 1) (by omega) (by rw [← HX.out]; exact hnb1) (by rw [← HX.out]; exact hnb2)
      rw [show r0 + (wd - 1) = r0 + wd - 1 by omega] at hsz
      have hnd := nDig_unique (wd - 1) _ hsz.1 hsz.2
      rw [show wd - 1 + 1 = wd by omega] at hnd
      obtain ⟨Q, hQ⟩ : ∃ Q, xR N L (r0 + wd - 1) / B = Q := ⟨_, rfl⟩
      rw [hQ] at hend hdg hnd
      have htrim := fun (n : Nat) (W : World) (dp' : Int) (hdd : Dec W g bs' n dp' ng tr) (hn : n ≤ 800) => trim_any g n bs' dp' ng tr W hdd hn
      have HTR := Lib.hid htrim
      have HEN := Lib.hid hend
      have HDG := Lib.hid hdg
      have HND := Lib.hid hnd
      have d1 := HD.out.cnd
      clear htrim hend hdg hnd hsz hQ
      ((repeat (go_wp2_with fail; first | (refine cond_yes ?hc (by decide) ?_; (case hc => (simp [over_cons, over_nil, *]; done))) | (refine cond_no ?hc (by decide) ?_; (case hc => (simp [over_cons, over_nil, *]; done))))); go_wp2_with fail)
      refine (HTR.out wd _ _ (HD.out.setNd _) hw8).mono ?_
      rintro e w7 ⟨rfl, hd7, hg7⟩
      go_wp2_with fail
      refine end_F rfl ⟨rfl, Q, L + k + 1 - (r0 + wd), bs', HEN.out, ?_, ?_, ?_⟩
      · rw [HND.out]; exact HDG.out
      · rw [HND.out, HL.out]
        rw [show dp + (wd : Int) - (L : Int) - (k : Int) + ((L + k + 1 - (r0 + wd) : Nat) : Int) = dp - ((r0 : Int) - 1) by omega]
        exact hd7
      · exact (HG.out.set _ _).trans hg7
    · have hrk : r0 + wd ≤ L + k := by
        rcases Nat.lt_or_ge (L + k) (r0 + wd) with h | h
        · have := xR_done N L k (r0 + wd) (by omega)
          rw [HB.out] at this
          exact absurd (HXW.out.trans this) hz
        · exact h
      have hw : wd < 800 := by
        have h := xR_w N L k r0 wd (by rw [HB.out, ← HX.out]; exact hnb1) (by rw [HB.out, ← HX.out]; exact hnb2) hrk
        have := HM.out
        omega
      have hdW : ∃ v, wl.cell? ⟨g, wd, none⟩ = some v := ⟨_, HD.out.digit wd (by omega)⟩
      obtain ⟨vW, hvW⟩ := hdW
      have hand := u64_and_mask n' k hk2 (by omega)
      rw [HB.out] at hand
      have hdig : (n' : Int) / (B : Int) = ((n' / B : Nat) : Int) := by rw [Int.natCast_ediv]
      have hdb : n' / B ≤ 9 := by have := Nat.div_lt_of_lt_mul (m := n') (n := B) (k := 10) (by rw [Nat.mul_comm]; exact hn10); omega
      have hmb : n' % B < B := Nat.mod_lt _ (by omega)
      have hstep := mod_step (xR N L (r0 + wd)) B 0 (by omega) (by omega)
      have hsu := xR_succ_ge N L (r0 + wd) hge
      rw [Nat.add_zero, ← hsu, ← HXW.out] at hstep
      have hdst := dig_step (xR N L (r0 + wd)) B
      rw [← HXW.out] at hdst
      have HST := Lib.hid hstep
      have HDS := Lib.hid hdst
      clear hstep hdst hsu
      obtain ⟨q, hq⟩ : ∃ q, n' / B = q := ⟨_, rfl⟩
      obtain ⟨m, hm⟩ : ∃ m, n' % B = m := ⟨_, rfl⟩
      rw [hq] at hdig hdb HDS
      rw [hm] at hand hmb HST
      have hwi : (wd : Int) < 800 := by omega
      have hzi : 0 < n' := by omega
      clear hq hm hz
      ((repeat (go_wp2_with fail; first | (refine cond_yes ?hc (by decide) ?_; (case hc => (simp [over_cons, over_nil, *]; done))) | (refine cond_no ?hc (by decide) ?_; (case hc => (simp [over_cons, over_nil, *]; done))))); go_wp2_with fail)
      have hlen : bs'.length = 800 := HD.out.len
      have hq48 : ((q : Int) + 48).toNat = 48 + q := by omega
      refine gotk HRL (L + k + 2 - (r0 + (wd + 1))) (by have := HKK.out; omega) ⟨wd + 1, m * 10, bs'.set wd (UInt8.ofNat ((q : Int) + 48).toNat), by omega, by omega, by omega, rfl, HST.out, fun _ => by omega, by simp [over_cons, over_nil, *], ?_, by simp [over_cons, over_nil, *], by simp [over_cons, over_nil, *], by simp [over_cons, over_nil, *], HD.out.setDigit wd (by omega) _ (by omega) (by omega), HG.out.set _ _, ?_⟩
      · simp [over_cons, over_nil]
      · intro i hi
        rw [getD_set _ _ _ _ (by omega)]
        by_cases hiw : wd = i
        · subst hiw
          rw [if_pos rfl, hq48, HDS.out]
        · rw [if_neg hiw]
          exact HWR.out i (by omega)

/-- rightShift on a decimal that holds N * 10^p. -/
theorem rightShift_N (T g N k : Nat) (p : Int) (ng : Bool) (w : World) (he : Env T w) (hgT : T ≤ g) (hd : DecN w g N p ng)
    (hk1 : 1 ≤ k) (hk2 : k ≤ 60) (hM : nDig (N * 5 ^ k) ≤ 800) (hp1 : -1200 ≤ p) (hp2 : p ≤ 1200) :
    Calls Tryd.prog 69 #[.pointer (some ⟨g, 0, none⟩), .int .u64 (k : Int)] w fun r w' =>
      r = .returned (.tuple #[]) ∧ DecN w' g (core (N * 5 ^ k)) (p - k + tz (N * 5 ^ k)) ng ∧ Gr w w' g := by
  obtain ⟨hne, bs, hbs, hdec⟩ := hd
  have hN0 : N ≠ 0 := by intro e; rw [e] at hne; simp at hne
  have hle : nDig N ≤ nDig (N * 5 ^ k) := nDig_mono _ _ (Nat.le_mul_of_pos_right _ (Nat.pow_pos (by omega)))
  refine (rightShift_any T g N k bs _ ng false w he hgT hdec hbs hne hk1 hk2 hM (by omega) (by omega) (by omega)).mono ?_
  rintro r w' ⟨rfl, Q, z, bs', hQ, hb, hd', hg⟩
  refine ⟨rfl, ?_, hg⟩
  have hM0 : N * 5 ^ k ≠ 0 := Nat.mul_ne_zero hN0 (Nat.ne_of_gt (Nat.pow_pos (by omega)))
  have hQ0 : Q ≠ 0 := by intro e; rw [e, Nat.zero_mul] at hQ; exact hM0 hQ.symm
  have hc := core_spec Q hQ0
  have hcc := core_of (A := core Q) (a := tz Q + z) (M := N * 5 ^ k) (by rw [Nat.pow_add, ← Nat.mul_assoc, hc.1, hQ]) hc.2
  have := DecN.of_trim (p := p - k + z) hQ0 hb hd' (by omega)
  rw [hcc.1, hcc.2]
  rw [show p - (k : Int) + ((tz Q + z : Nat) : Int) = p - k + z + tz Q by omega]
  exact this

/-- leftShift on a decimal that holds N * 10^p. -/
theorem leftShift_N (T g N k : Nat) (p : Int) (ng : Bool) (w : World) (he : Env T w) (hgT : T ≤ g) (hd : DecN w g N p ng)
    (hk1 : 1 ≤ k) (hk2 : k ≤ 60) (hM : nDig N + chN k ≤ 800) (hp1 : -1200 ≤ p) (hp2 : p ≤ 1200) :
    Calls Tryd.prog 68 #[.pointer (some ⟨g, 0, none⟩), .int .u64 (k : Int)] w fun r w' =>
      r = .returned (.tuple #[]) ∧ DecN w' g (core (N * 2 ^ k)) (p + tz (N * 2 ^ k)) ng ∧ Gr w w' g := by
  obtain ⟨hne, bs, hbs, hdec⟩ := hd
  have hN0 : N ≠ 0 := by intro e; rw [e] at hne; simp at hne
  refine (leftShift_any T g N k bs _ ng false w he hgT hdec hbs hN0 hk1 hk2 hM (by omega) (by omega)).mono ?_
  rintro r w' ⟨rfl, bs', hb, hd', hg⟩
  have hM0 : N * 2 ^ k ≠ 0 := Nat.mul_ne_zero hN0 (Nat.ne_of_gt (Nat.pow_pos (by omega)))
  exact ⟨rfl, DecN.of_trim (p := p) hM0 hb hd' (by omega), hg⟩
end Go.Proofs.YtffooimnioigdaaDoor
