/-
  Walks: shouldRoundUp, RoundUp, RoundDown, Round.
-/
import Derived.Test.YtffooimnioigdaaDoorDec5
import Derived.StillTailTactics
namespace Go.Proofs.YtffooimnioigdaaDoor
open Go.RowKit
set_option linter.unusedSimpArgs false
set_option linter.unusedVariables false

/-- Is the number, without its last t digits, to be rounded up? -/
def rndUp (N t : Nat) : Bool := decide (10 ^ t < 2 * (N % 10 ^ t)) || (decide (10 ^ t = 2 * (N % 10 ^ t)) && decide (N / 10 ^ t % 2 = 1))
/-- The number without its last t digits, rounded. -/
def rndQ (N t : Nat) : Nat := N / 10 ^ t + if rndUp N t then 1 else 0

/-- A decimal that holds M * 10^p. -/
structure DecV (w : World) (g M : Nat) (p : Int) (ng : Bool) : Prop where
  pos : M ≠ 0 → DecN w g (core M) (p + tz M) ng
  zero : M = 0 → ∃ bs, Dec w g bs 0 0 ng false

theorem mod_pow_succ (N s : Nat) : N % 10 ^ (s + 1) = N / 10 ^ s % 10 * 10 ^ s + N % 10 ^ s := by
  rw [Nat.pow_succ, Nat.mod_mul, Nat.mul_comm (10 ^ s), Nat.add_comm]

theorem rndUp_half (N : Nat) (h : N % 10 = 5) : rndUp N 1 = decide (N / 10 % 10 % 2 = 1) := by
  unfold rndUp
  rw [Nat.pow_one, h]
  simp

theorem rndUp_else (N s : Nat) (hN : N % 10 ≠ 0) (h : ¬ (N / 10 ^ s % 10 = 5 ∧ s = 0)) : rndUp N (s + 1) = decide (5 ≤ N / 10 ^ s % 10) := by
  unfold rndUp
  have e := mod_pow_succ N s
  have p : 0 < 10 ^ s := Nat.pow_pos (by omega)
  have hl := Nat.mod_lt N p
  obtain ⟨d, hd⟩ : ∃ d, N / 10 ^ s % 10 = d := ⟨_, rfl⟩
  have hnz : d = 5 → N % 10 ^ s ≠ 0 := by
    intro h5 e0
    cases s with
    | zero => exact h ⟨by rw [hd]; exact h5, rfl⟩
    | succ s =>
      have : N % 10 ^ (s + 1) % 10 = N % 10 := Nat.mod_mod_of_dvd _ ⟨10 ^ s, by rw [Nat.pow_succ, Nat.mul_comm]⟩
      rw [e0] at this
      exact hN this.symm
  rw [hd] at e ⊢
  rw [e, Nat.pow_succ]
  generalize N % 10 ^ s = x at *
  generalize 10 ^ s = P at *
  rcases Nat.lt_or_ge d 5 with h5 | h5
  · have : d * P ≤ 4 * P := Nat.mul_le_mul_right _ (by omega)
    have h1 : ¬ P * 10 < 2 * (d * P + x) := by omega
    have h2 : ¬ P * 10 = 2 * (d * P + x) := by omega
    simp [h1, h2, h5]
  · have h1 : P * 10 < 2 * (d * P + x) := by
      rcases Nat.lt_or_ge 5 d with h6 | h6
      · have : 6 * P ≤ d * P := Nat.mul_le_mul_right _ h6
        omega
      · have h5' : d = 5 := by omega
        have hx := hnz h5'
        rw [h5']
        omega
    simp [h1, h5]

set_option maxRecDepth 100000 in
set_option maxHeartbeats 1000000 in
theorem should_any (g N n : Nat) (p : Int) (ng : Bool) (w : World) (hd : DecN w g N p ng) (hn : n < nDig N) (hL8 : nDig N ≤ 800) :
    Calls Tryd.prog 70 #[.pointer (some ⟨g, 0, none⟩), .int .i64 (n : Int)] w fun r w' =>
      r = .returned (.bool (rndUp N (nDig N - n))) ∧ w = w' := by
  obtain ⟨hN, bs, hbs, hd⟩ := hd
  have hlt := hd.lt
  have d1 := hd.cnd
  have d3 := hd.ctr
  obtain ⟨L, hL⟩ : ∃ L, nDig N = L := ⟨_, rfl⟩
  rw [hL] at d1 hbs hn hL8
  rw [hL]
  have c1 := hd.digit n (by omega)
  rw [digs_get bs N L hbs n hn, dg_toNat] at c1
  obtain ⟨s, hs⟩ : ∃ s, L - 1 - n = s := ⟨_, rfl⟩
  rw [hs] at c1
  rw [show L - n = s + 1 by omega]
  have hni : (n : Int) < (L : Int) := by omega
  have hni2 : decide (L ≤ n) = false := by simp; omega
  have hn0 : decide ((n : Int) < 0) = false := by simp
  have hn8 : (n : Int) < 800 := by omega
  have hd9 : N / 10 ^ s % 10 < 10 := Nat.mod_lt _ (by omega)
  obtain ⟨res, hres⟩ : ∃ res, rndUp N (s + 1) = res := ⟨_, rfl⟩
  have hE := rndUp_else N s hN
  have HE := Lib.hid hE
  have HRES := Lib.hid hres
  have HD := Lib.hid hd
  have HBS := Lib.hid hbs
  rw [hres]
  obtain ⟨d, hdd⟩ : ∃ d, N / 10 ^ s % 10 = d := ⟨_, rfl⟩
  rw [hdd] at c1 hd9
  rw [show ((48 + d : Nat) : Int) = 48 + (d : Int) by omega] at c1
  have HDD := Lib.hid hdd
  have HN := Lib.hid hN
  have HL := Lib.hid hL
  clear hE hres hd hbs hdd hL hN
  refine calls_F Tryd.func70 rfl (by rw [Tryd.ntmps70]; simp) ?_
  intro σ hσ
  rw [Tryd.ntmps70]
  have s0 : σ 0 = .pointer (some ⟨g, 0, none⟩) := hσ 0 (by simp)
  have s1 : σ 1 = .int .i64 (n : Int) := hσ 1 (by simp)
  clear hσ
  by_cases h5 : d = 5
  · subst h5
    by_cases hs0 : s = 0
    · have hnL : ((n : Int) + 1 == (L : Int)) = true := by simp; omega
      have hhalf := rndUp_half N (by have := HDD.out; rw [hs0, Nat.pow_zero, Nat.div_one] at this; exact this)
      rw [hs0] at HRES
      rw [Nat.zero_add] at HRES
      rw [HRES.out] at hhalf
      by_cases hn1 : 1 ≤ n
      · have c2 := HD.out.digit (n - 1) (by omega)
        rw [digs_get bs N L HBS.out (n - 1) (by omega), dg_toNat, show L - 1 - (n - 1) = 1 by omega, Nat.pow_one] at c2
        obtain ⟨y, hy⟩ : ∃ y, N / 10 % 10 = y := ⟨_, rfl⟩
        have hy9 : y < 10 := by omega
        rw [hy] at c2 hhalf
        rw [show ((48 + y : Nat) : Int) = 48 + (y : Int) by omega] at c2
        have hn1' : decide (0 < n) = true := by simp; omega
        have hHALF := Lib.hid hhalf
        obtain ⟨j, hj⟩ : ∃ j, n - 1 = j := ⟨_, rfl⟩
        rw [hj] at c2
        have hnj : (n : Int) - 1 = (j : Int) := by omega
        have hj8 : (j : Int) < 800 := by omega
        clear hhalf hy
        ((repeat (go_wp2_with fail; first | (refine cond_yes ?hc (by decide) ?_; (case hc => (simp [over_cons, over_nil, *]; done))) | (refine cond_no ?hc (by decide) ?_; (case hc => (simp [over_cons, over_nil, *]; done))))); go_wp2_with fail)
        refine ret_F (.bool ((48 + (y : Int) - 48) % 2 != 0)) rfl (by decide) (by simp [over_cons, over_nil, *]) ⟨?_, rfl⟩
        rw [hHALF.out]
        congr 2
        rw [Bool.eq_iff_iff]; simp only [bne_iff_ne, decide_eq_true_eq]; omega
      · have hn0' : decide (0 < n) = false := by simp; omega
        have hnz : n = 0 := by omega
        have hL1 : L = 1 := by omega
        have hq : N / 10 = 0 := by
          have := lt_pow_nDig N
          rw [HL.out, hL1] at this
          omega
        rw [hq] at hhalf
        have hHALF := Lib.hid hhalf
        clear hhalf hq hnz hL1
        ((repeat (go_wp2_with fail; first | (refine cond_yes ?hc (by decide) ?_; (case hc => (simp [over_cons, over_nil, *]; done))) | (refine cond_no ?hc (by decide) ?_; (case hc => (simp [over_cons, over_nil, *]; done))))); go_wp2_with fail)
        refine ret_F (.bool false) rfl (by decide) (by simp [over_cons, over_nil, *]) ⟨?_, rfl⟩
        rw [hHALF.out]; rfl
    · have hnL : ((n : Int) + 1 == (L : Int)) = false := by rw [beq_eq_false_iff_ne]; omega
      have hr := HE.out (fun h => hs0 h.2)
      rw [HRES.out, HDD.out] at hr
      have HR := Lib.hid hr
      clear hr
      ((repeat (go_wp2_with fail; first | (refine cond_yes ?hc (by decide) ?_; (case hc => (simp [over_cons, over_nil, *]; done))) | (refine cond_no ?hc (by decide) ?_; (case hc => (simp [over_cons, over_nil, *]; done))))); go_wp2_with fail)
      refine ret_F (.bool (decide (5 ≤ 5))) rfl (by decide) (by simp [over_cons, over_nil, *]) ⟨?_, rfl⟩
      rw [HR.out]
  · have hr := HE.out (fun h => h5 (HDD.out.symm.trans h.1))
    rw [HRES.out, HDD.out] at hr
    have HR := Lib.hid hr
    have h53 : ((48 : Int) + (d : Int) == 53) = false := by rw [beq_eq_false_iff_ne]; omega
    clear hr
    ((repeat (go_wp2_with fail; first | (refine cond_yes ?hc (by decide) ?_; (case hc => (simp [over_cons, over_nil, *]; done))) | (refine cond_no ?hc (by decide) ?_; (case hc => (simp [over_cons, over_nil, *]; done))))); go_wp2_with fail)
    refine ret_F (.bool (decide (53 ≤ 48 + (d : Int)))) rfl (by decide) (by simp [over_cons, over_nil, *]) ⟨?_, rfl⟩
    rw [HR.out]
    congr 2
    rw [Bool.eq_iff_iff]; simp only [decide_eq_true_eq]; omega

set_option maxRecDepth 100000 in
set_option maxHeartbeats 1000000 in
theorem RoundDown_any (g N n : Nat) (p : Int) (ng : Bool) (w : World) (hd : DecN w g N p ng) (hn : n < nDig N) (hL8 : nDig N ≤ 800) :
    Calls Tryd.prog 72 #[.pointer (some ⟨g, 0, none⟩), .int .i64 (n : Int)] w fun r w' =>
      r = .returned (.tuple #[]) ∧ DecV w' g (N / 10 ^ (nDig N - n)) (p + (nDig N - n : Nat)) ng ∧ Gr w w' g := by
  obtain ⟨hN, bs, hbs, hd⟩ := hd
  have hlt := hd.lt
  have d1 := hd.cnd
  have fz := hd.frozen
  have hN0 : N ≠ 0 := by intro e; rw [e] at hN; simp at hN
  obtain ⟨L, hL⟩ : ∃ L, nDig N = L := ⟨_, rfl⟩
  rw [hL] at d1 hbs hn hL8 hd
  rw [hL]
  have hpost : ∀ w', Dec w' g bs (trimZ bs n : Nat) (trimDp (trimZ bs n) (p + L)) ng false → DecV w' g (N / 10 ^ (L - n)) (p + (L - n : Nat)) ng := by
    intro w' hd'
    have htk : bs.take n = digs (N / 10 ^ (L - n)) n := by
      refine take_digs bs _ n (by rw [hd.len]; omega) fun j hj => ?_
      rw [digs_get bs N L hbs _ (by omega)]
      unfold Lib.dg
      rw [Nat.div_div_eq_div_mul, ← Nat.pow_add]
      congr 5; omega
    refine ⟨fun h0 => ?_, fun h0 => ?_⟩
    · have hn1 : 1 ≤ n := by
        rcases Nat.eq_zero_or_pos n with h | h
        · exfalso; apply h0; rw [h, Nat.sub_zero, ← hL]; exact Nat.div_eq_of_lt (lt_pow_nDig N)
        · exact h
      have hq : nDig (N / 10 ^ (L - n)) = n := by
        have h1 := nDig_low hN0
        have h2 := lt_pow_nDig N
        rw [hL] at h1 h2
        have pp : 0 < 10 ^ (L - n) := Nat.pow_pos (by omega)
        have := nDig_unique (n - 1) (N / 10 ^ (L - n)) ((Nat.le_div_iff_mul_le pp).2 (by rw [← Nat.pow_add, show n - 1 + (L - n) = L - 1 by omega]; exact h1))
          ((Nat.div_lt_iff_lt_mul pp).2 (by rw [← Nat.pow_add, show n - 1 + 1 + (L - n) = L by omega]; exact h2))
        omega
      have h3 := DecN.of_trim (w := w') (g := g) (M := N / 10 ^ (L - n)) (p := p + (L - n : Nat)) (ng := ng) (bs := bs) (dp := p + L) h0 (by rw [hq]; exact htk) (by rw [hq]; exact hd') (by rw [hq]; omega)
      exact h3
    · have hn0 : n = 0 := by
        rcases Nat.eq_zero_or_pos n with h | h
        · exact h
        · exfalso
          have h1 := nDig_low hN0
          rw [hL] at h1
          have pp : 0 < 10 ^ (L - n) := Nat.pow_pos (by omega)
          have h2 : 10 ^ (n - 1) ≤ N / 10 ^ (L - n) := (Nat.le_div_iff_mul_le pp).2 (by rw [← Nat.pow_add, show n - 1 + (L - n) = L - 1 by omega]; exact h1)
          have : 0 < 10 ^ (n - 1) := Nat.pow_pos (by omega)
          omega
      subst hn0
      exact ⟨bs, hd'⟩
  have HP := Lib.hid hpost
  have HD := Lib.hid hd
  have hni : (n : Int) < (L : Int) := by omega
  have hni2 : decide (L ≤ n) = false := by simp; omega
  have hn0 : decide ((n : Int) < 0) = false := by simp
  clear hpost hd hbs hL hN hN0
  refine calls_F Tryd.func72 rfl (by rw [Tryd.ntmps72]; simp) ?_
  intro σ hσ
  rw [Tryd.ntmps72]
  have s0 : σ 0 = .pointer (some ⟨g, 0, none⟩) := hσ 0 (by simp)
  have s1 : σ 1 = .int .i64 (n : Int) := hσ 1 (by simp)
  clear hσ
  ((repeat (go_wp2_with fail; first | (refine cond_yes ?hc (by decide) ?_; (case hc => (simp [over_cons, over_nil, *]; done))) | (refine cond_no ?hc (by decide) ?_; (case hc => (simp [over_cons, over_nil, *]; done))))); go_wp2_with fail)
  refine (trim_any g n bs _ ng false _ (HD.out.setNd _) (by omega)).mono ?_
  rintro e w7 ⟨rfl, hd7, hg7⟩
  go_wp2_with fail
  exact end_F rfl ⟨rfl, HP.out _ hd7, ((Gr.refl w g).set _ _).trans hg7⟩

theorem nines_step (q j : Nat) (h : q + 1 = (q / 10 ^ j + 1) * 10 ^ j) (h9 : q / 10 ^ j % 10 = 9) : q + 1 = (q / 10 ^ (j + 1) + 1) * 10 ^ (j + 1) := by
  have e : q / 10 ^ (j + 1) = q / 10 ^ j / 10 := by rw [Nat.pow_succ, Nat.div_div_eq_div_mul]
  rw [h, e, Nat.pow_succ, Nat.mul_comm (10 ^ j) 10, ← Nat.mul_assoc]
  congr 1
  omega

set_option maxRecDepth 100000 in
set_option maxHeartbeats 1000000 in
theorem RoundUp_any (g N n : Nat) (p : Int) (ng : Bool) (w : World) (hd : DecN w g N p ng) (hn : n < nDig N) (hL8 : nDig N ≤ 800) (hp1 : -2000 ≤ p) (hp2 : p ≤ 2000) :
    Calls Tryd.prog 71 #[.pointer (some ⟨g, 0, none⟩), .int .i64 (n : Int)] w fun r w' =>
      r = .returned (.tuple #[]) ∧ DecV w' g (N / 10 ^ (nDig N - n) + 1) (p + (nDig N - n : Nat)) ng ∧ Gr w w' g := by
  obtain ⟨hN, bs, hbs, hd⟩ := hd
  have hlt := hd.lt
  have d1 := hd.cnd
  have d2 := hd.cdp
  have fz := hd.frozen
  have hN0 : N ≠ 0 := by intro e; rw [e] at hN; simp at hN
  obtain ⟨L, hL⟩ : ∃ L, nDig N = L := ⟨_, rfl⟩
  rw [hL] at d1 d2 hbs hn hL8 hd
  rw [hL]
  obtain ⟨q, hq⟩ : ∃ q, N / 10 ^ (L - n) = q := ⟨_, rfl⟩
  have pp : 0 < 10 ^ (L - n) := Nat.pow_pos (by omega)
  have hqlt : q < 10 ^ n := by
    have h2 := lt_pow_nDig N
    rw [hL] at h2
    rw [← hq, Nat.div_lt_iff_lt_mul pp, ← Nat.pow_add, show n + (L - n) = L by omega]
    exact h2
  have hqlow : 1 ≤ n → 10 ^ (n - 1) ≤ q := by
    intro hn1
    have h1 := nDig_low hN0
    rw [hL] at h1
    rw [← hq, Nat.le_div_iff_mul_le pp, ← Nat.pow_add, show n - 1 + (L - n) = L - 1 by omega]
    exact h1
  have htk : bs.take n = digs q n := by
    rw [← hq]
    refine take_digs bs _ n (by rw [hd.len]; omega) fun j hj => ?_
    rw [digs_get bs N L hbs _ (by omega)]
    unfold Lib.dg
    rw [Nat.div_div_eq_div_mul, ← Nat.pow_add]
    congr 5; omega
  rw [hq]
  have HD := Lib.hid hd
  have HTK := Lib.hid htk
  have HQL := Lib.hid hqlow
  have HQT := Lib.hid hqlt
  have hni : (n : Int) < (L : Int) := by omega
  have hni2 : decide (L ≤ n) = false := by simp; omega
  have hn0 : decide ((n : Int) < 0) = false := by simp
  clear hd hbs hL hN hN0 hq pp hqlt hqlow htk
  refine calls_F Tryd.func71 rfl (by rw [Tryd.ntmps71]; simp) ?_
  intro σ hσ
  rw [Tryd.ntmps71]
  have s0 : σ 0 = .pointer (some ⟨g, 0, none⟩) := hσ 0 (by simp)
  have s1 : σ 1 = .int .i64 (n : Int) := hσ 1 (by simp)
  clear hσ
  ((repeat (go_wp2_with fail; first | (refine cond_yes ?hc (by decide) ?_; (case hc => (simp [over_cons, over_nil, *]; done))) | (refine cond_no ?hc (by decide) ?_; (case hc => (simp [over_cons, over_nil, *]; done))))); go_wp2_with fail)
  refine loop_F (fun kk s' w' => ∃ i : Nat, i ≤ n ∧ kk = i ∧ q + 1 = (q / 10 ^ (n - i) + 1) * 10 ^ (n - i) ∧ s' 4 = .int .i64 ((i : Int) - 1) ∧ s' 0 = .pointer (some ⟨g, 0, none⟩) ∧ w = w') n
    ⟨n, Nat.le_refl _, rfl, by simp, by simp [over_cons, over_nil, *], by simp [over_cons, over_nil, *], rfl⟩ ?_
  clear s0 s1 σ
  rintro i σ wk ⟨_, hi, rfl, hnine, s4, s0, rfl⟩ RK KK HRK hKK
  have HNI := Lib.hid hnine
  clear hnine
  cases i with
  | zero =>
    rw [show ((0 : Nat) : Int) - 1 = -1 by omega] at s4
    have c0 := HD.out.digit 0 (by omega)
    ((repeat (go_wp2_with fail; first | (refine cond_yes ?hc (by decide) ?_; (case hc => (simp [over_cons, over_nil, *]; done))) | (refine cond_no ?hc (by decide) ?_; (case hc => (simp [over_cons, over_nil, *]; done))))); go_wp2_with fail)
    refine end_F rfl ⟨rfl, ⟨fun _ => ?_, fun h => absurd h (by omega)⟩, (((Gr.refl w g).set _ _).set _ _).set _ _⟩
    have hq1 : q + 1 = 1 * 10 ^ n := by
      have h1 := HNI.out
      rw [Nat.sub_zero, Nat.div_eq_of_lt HQT.out, Nat.zero_add] at h1
      exact h1
    have hc := core_of hq1.symm (by decide)
    rw [hc.1, hc.2]
    have hd1 : nDig 1 = 1 := nDig_unique 0 1 (by decide) (by decide)
    refine ⟨by decide, bs.set 0 49, ?_, ?_⟩
    · rw [hd1]
      have hlen : bs.length = 800 := HD.out.len
      cases bs with
      | nil => simp at hlen
      | cons b l => rfl
    · rw [hd1]
      have h3 := ((HD.out.setDigit 0 (by omega) 49 (by omega) (by omega)).setNd 1).setDp (p + (L : Int) + 1)
      rw [show p + ((L - n : Nat) : Int) + (n : Int) + ((1 : Nat) : Int) = p + (L : Int) + 1 by omega]
      exact h3
  | succ i =>
    rw [show ((i + 1 : Nat) : Int) - 1 = (i : Int) by omega] at s4
    have c1 := HD.out.digit i (by omega)
    rw [digs_get bs q n HTK.out i (by omega), dg_toNat] at c1
    obtain ⟨j, hj⟩ : ∃ j, n - 1 - i = j := ⟨_, rfl⟩
    rw [hj] at c1
    have hj2 : n - (i + 1) = j := by omega
    rw [hj2] at HNI
    obtain ⟨x, hx⟩ : ∃ x, q / 10 ^ j % 10 = x := ⟨_, rfl⟩
    have hx9 : x ≤ 9 := by rw [← hx]; have : q / 10 ^ j % 10 < 10 := Nat.mod_lt _ (by omega); omega
    rw [hx, show ((48 + x : Nat) : Int) = 48 + (x : Int) by omega] at c1
    have HXX := Lib.hid hx
    have hi8 : (i : Int) < 800 := by omega
    clear hx
    by_cases h9 : x = 9
    · subst h9
      have hst := nines_step q j HNI.out HXX.out
      have HST := Lib.hid hst
      clear hst
      ((repeat (go_wp2_with fail; first | (refine cond_yes ?hc (by decide) ?_; (case hc => (simp [over_cons, over_nil, *]; done))) | (refine cond_no ?hc (by decide) ?_; (case hc => (simp [over_cons, over_nil, *]; done))))); go_wp2_with fail)
      exact gotk HRK i (by omega) ⟨i, by omega, rfl, by rw [show n - i = j + 1 by omega]; exact HST.out, by simp [over_cons, over_nil, *], by simp [over_cons, over_nil, *], rfl⟩
    · have hx57 : (48 : Int) + (x : Int) < 57 := by omega
      ((repeat (go_wp2_with fail; first | (refine cond_yes ?hc (by decide) ?_; (case hc => (simp [over_cons, over_nil, *]; done))) | (refine cond_no ?hc (by decide) ?_; (case hc => (simp [over_cons, over_nil, *]; done))))); go_wp2_with fail)
      go_still_tail 10, (by kernel_rfl)
      ((repeat (go_wp2_with fail; first | (refine cond_yes ?hc (by decide) ?_; (case hc => (simp [over_cons, over_nil, *]; done))) | (refine cond_no ?hc (by decide) ?_; (case hc => (simp [over_cons, over_nil, *]; done))))); go_wp2_with fail)
      refine end_F_ret rfl ⟨rfl, ⟨fun _ => ?_, fun h => absurd h (by omega)⟩, ?_⟩
      · have hmod : (q / 10 ^ j + 1) % 10 ≠ 0 := by have := HXX.out; omega
        have hc := core_of HNI.out.symm hmod
        have hup : q / 10 ^ j + 1 < 10 ^ (i + 1) := by
          have h1 : q / 10 ^ j < 10 ^ (i + 1) := by
            rw [Nat.div_lt_iff_lt_mul (Nat.pow_pos (by omega)), ← Nat.pow_add, show i + 1 + j = n by omega]
            exact HQT.out
          rw [Nat.pow_succ] at h1 ⊢
          omega
        have hlow : 10 ^ i ≤ q / 10 ^ j + 1 := by
          have h1 := HQL.out (by omega)
          have h2 : 10 ^ i ≤ q / 10 ^ j := by
            rw [Nat.le_div_iff_mul_le (Nat.pow_pos (by omega)), ← Nat.pow_add, show i + j = n - 1 by omega]
            exact h1
          omega
        have hnd := nDig_unique i _ hlow hup
        have hlen : bs.length = 800 := HD.out.len
        rw [hc.1, hc.2]
        refine ⟨hmod, bs.set i (UInt8.ofNat (48 + (x : Int) + 1).toNat), ?_, ?_⟩
        · rw [hnd]
          refine take_digs _ _ _ (by rw [List.length_set]; omega) fun t ht => ?_
          rw [getD_set _ _ _ _ (by omega)]
          by_cases ht0 : t = 0
          · subst ht0
            rw [if_pos (by omega), show (48 + (x : Int) + 1).toNat = 48 + (x + 1) by omega]
            refine dg_of _ _ _ ?_
            rw [Nat.pow_zero, Nat.div_one]
            have := HXX.out
            omega
          · rw [if_neg (by omega), digs_get bs q n HTK.out _ (by omega)]
            obtain ⟨u, rfl⟩ : ∃ u, t = u + 1 := ⟨t - 1, by omega⟩
            unfold Lib.dg
            have e1 : (q / 10 ^ j + 1) / 10 ^ (u + 1) = q / 10 ^ j / 10 ^ (u + 1) := by
              rw [Nat.pow_succ, Nat.mul_comm, ← Nat.div_div_eq_div_mul, ← Nat.div_div_eq_div_mul]
              congr 1
              have := HXX.out
              omega
            rw [e1, Nat.div_div_eq_div_mul, ← Nat.pow_add]
            congr 5; omega
        · rw [hnd]
          have h3 := ((HD.out.setDigit i (by omega) (48 + (x : Int) + 1) (by omega) (by omega)).setNd ((i : Int) + 1)).drew
          rw [show p + ((L - n : Nat) : Int) + (j : Int) + ((i + 1 : Nat) : Int) = p + (L : Int) by omega]
          rw [show ((i + 1 : Nat) : Int) = (i : Int) + 1 by omega]
          exact h3
      · exact (((Gr.refl w g).set _ _).set _ _).drew

theorem DecV.grown {w w' : World} {row : Option Nat} {g M : Nat} {p : Int} {ng : Bool} (h : DecV w g M p ng) (hg : w.grownBy w' row) (hne : some g ≠ row) : DecV w' g M p ng :=
  ⟨fun h0 => (h.pos h0).grown hg hne, fun h0 => by obtain ⟨bs, hb⟩ := h.zero h0; exact ⟨bs, hb.grown hg hne⟩⟩

/-- What Round makes of N * 10^p: the number and its exponent. -/
def rndD (N : Nat) (p n : Int) : Nat × Int := if 0 ≤ n ∧ n < nDig N then (rndQ N (nDig N - n.toNat), p + (nDig N - n.toNat : Nat)) else (N, p)

theorem DecN.toV {w : World} {g N : Nat} {p : Int} {ng : Bool} (h : DecN w g N p ng) : DecV w g N p ng := by
  have h0 : N ≠ 0 := by intro e; have := h.ne; rw [e] at this; simp at this
  refine ⟨fun _ => ?_, fun e => absurd e h0⟩
  rw [core_no h.ne, tz_no h.ne]
  simpa using h

set_option maxRecDepth 100000 in
set_option maxHeartbeats 1000000 in
theorem Round_any (g N : Nat) (n p : Int) (ng : Bool) (w : World) (hd : DecN w g N p ng) (hL8 : nDig N ≤ 800) (hp1 : -2000 ≤ p) (hp2 : p ≤ 2000) :
    Calls Tryd.prog 50 #[.pointer (some ⟨g, 0, none⟩), .int .i64 n] w fun r w' =>
      r = .returned (.tuple #[]) ∧ DecV w' g (rndD N p n).1 (rndD N p n).2 ng ∧ Gr w w' g := by
  have hlt : g < w.heap.size := by obtain ⟨_, bs, _, hd⟩ := hd; exact hd.lt
  have d1 : w.cell? ⟨g, 800, none⟩ = some (.int .i64 (nDig N : Nat)) := by obtain ⟨_, bs, _, hd⟩ := hd; exact hd.cnd
  obtain ⟨L, hL⟩ : ∃ L, nDig N = L := ⟨_, rfl⟩
  have HD := Lib.hid hd
  have hL8' := hL8
  rw [hL] at d1 hL8
  have HL := Lib.hid hL
  have HL8 := Lib.hid hL8'
  clear hd hL hL8'
  refine calls_F Tryd.func50 rfl (by rw [Tryd.ntmps50]; simp) ?_
  intro σ hσ
  rw [Tryd.ntmps50]
  have s0 : σ 0 = .pointer (some ⟨g, 0, none⟩) := hσ 0 (by simp)
  have s1 : σ 1 = .int .i64 n := hσ 1 (by simp)
  clear hσ
  by_cases hin : 0 ≤ n ∧ n < (L : Int)
  · obtain ⟨h0, h1⟩ := hin
    obtain ⟨k, rfl⟩ : ∃ k : Nat, n = (k : Int) := ⟨n.toNat, by omega⟩
    have hkL : k < L := by omega
    have hni2 : decide (L ≤ k) = false := by simp; omega
    have hn0 : decide ((k : Int) < 0) = false := by simp
    have hres : rndD N p (k : Int) = (N / 10 ^ (nDig N - k) + (if rndUp N (nDig N - k) then 1 else 0), p + (nDig N - k : Nat)) := by
      unfold rndD rndQ
      rw [if_pos (by have := HL.out; omega), Int.toNat_natCast]
    have HRES := Lib.hid hres
    clear hres
    ((repeat (go_wp2_with fail; first | (refine cond_yes ?hc (by decide) ?_; (case hc => (simp [over_cons, over_nil, *]; done))) | (refine cond_no ?hc (by decide) ?_; (case hc => (simp [over_cons, over_nil, *]; done))))); go_wp2_with fail)
    refine (should_any g N k p ng _ HD.out (by rw [HL.out]; exact hkL) HL8.out).mono ?_
    rintro e w7 ⟨rfl, rfl⟩
    go_wp2_with fail
    refine cond_F (rndUp N (nDig N - k)) (by simp [over_cons, over_nil, *]) (by decide) (fun h => ?_) (fun h => ?_)
    · rw [h] at HRES
      have HUP := Lib.hid h
      clear h
      go_wp2_with fail
      refine (RoundUp_any g N k p ng _ HD.out (by rw [HL.out]; exact hkL) HL8.out hp1 hp2).mono ?_
      rintro e w8 ⟨rfl, hd8, hg8⟩
      go_wp2_with fail
      exact end_F rfl ⟨rfl, by rw [HRES.out]; exact hd8, hg8⟩
    · rw [h] at HRES
      have HUP := Lib.hid h
      clear h
      go_wp2_with fail
      refine (RoundDown_any g N k p ng _ HD.out (by rw [HL.out]; exact hkL) HL8.out).mono ?_
      rintro e w8 ⟨rfl, hd8, hg8⟩
      go_wp2_with fail
      exact end_F rfl ⟨rfl, by rw [HRES.out]; exact hd8, hg8⟩
  · have hres : rndD N p n = (N, p) := by
      unfold rndD
      rw [if_neg (by rw [HL.out]; exact hin)]
    have HRES := Lib.hid hres
    clear hres
    by_cases hneg : n < 0
    · clear hin
      ((repeat (go_wp2_with fail; first | (refine cond_yes ?hc (by decide) ?_; (case hc => (simp [over_cons, over_nil, *]; done))) | (refine cond_no ?hc (by decide) ?_; (case hc => (simp [over_cons, over_nil, *]; done))))); go_wp2_with fail)
      exact end_F_ret rfl ⟨rfl, by rw [HRES.out]; exact HD.out.toV, Gr.refl w g⟩
    · have hge : (L : Int) ≤ n := by omega
      have hneg' : decide (n < 0) = false := by simpa using hneg
      clear hin
      ((repeat (go_wp2_with fail; first | (refine cond_yes ?hc (by decide) ?_; (case hc => (simp [over_cons, over_nil, *]; done))) | (refine cond_no ?hc (by decide) ?_; (case hc => (simp [over_cons, over_nil, *]; done))))); go_wp2_with fail)
      exact end_F_ret rfl ⟨rfl, by rw [HRES.out]; exact HD.out.toV, Gr.refl w g⟩
end Go.Proofs.YtffooimnioigdaaDoor
