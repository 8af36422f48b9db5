/-
  Walks: Assign, Shift.
-/
import Derived.Test.YtffooimnioigdaaDoorDec6
namespace Go.Proofs.YtffooimnioigdaaDoor
open Go.RowKit
set_option linter.unusedSimpArgs false
set_option linter.unusedVariables false

theorem Gr.setNew {w w1 : World} {g b : Nat} (h : Gr w w1 g) (hb : w.heap.size ≤ b) (i : Nat) (u : Value) : Gr w (w1.setCell ⟨b, i, none⟩ u) g :=
  grown_trans h (grown_setCell w1 ⟨b, i, none⟩ u) (fun j e hj => by cases e; dsimp only at hj; omega)
theorem Gr.alloc {w w1 : World} {g : Nat} (h : Gr w w1 g) (o : Obj) : Gr w (w1.alloc o) g := h.trans (World.grownBy_alloc w1 o _)
theorem Dec.setOther {w : World} {g b : Nat} {bs : List UInt8} {nd dp : Int} {ng tr : Bool} (h : Dec w g bs nd dp ng tr) (hb : g ≠ b) (i : Nat) (u : Value) : Dec (w.setCell ⟨b, i, none⟩ u) g bs nd dp ng tr :=
  ⟨h.1, h.2.setCell_other hb u⟩
theorem BRow.setOther {w : World} {g b : Nat} {bs : List UInt8} (h : BRow w g bs) (hb : g ≠ b) (i : Nat) (u : Value) : BRow (w.setCell ⟨b, i, none⟩ u) g bs := Row.setCell_other h hb u
theorem BRow.cellD {w : World} {g : Nat} {bs : List UInt8} (h : BRow w g bs) (i : Nat) (hi : i < bs.length) : w.cell? ⟨g, i, none⟩ = some (.int .u8 ((bs.getD i 0).toNat : Int)) := by
  rw [h.row.cell, List.getElem?_map, List.getD_eq_getElem?_getD, List.getElem?_eq_getElem hi]
  rfl
theorem BRow.setD {w : World} {g : Nat} {bs : List UInt8} (h : BRow w g bs) (i : Nat) (c : Int) (h1 : 0 ≤ c) (h2 : c < 256) : BRow (w.setCell ⟨g, i, none⟩ (.int .u8 c)) g (bs.set i (UInt8.ofNat c.toNat)) := by
  have := Row.setCell h i (.int .u8 c)
  rw [← encB_of c h1 h2, ← List.map_set] at this
  rw [encB_of c h1 h2] at this
  exact this

set_option maxRecDepth 100000 in
set_option maxHeartbeats 1000000 in
theorem Assign_any (g v : Nat) (bs : List UInt8) (nd dp : Int) (ng : Bool) (w : World) (hd : Dec w g bs nd dp ng false) (hv : v < 18446744073709551616) :
    Calls Tryd.prog 48 #[.pointer (some ⟨g, 0, none⟩), .int .u64 (v : Int)] w fun r w' =>
      r = .returned (.tuple #[]) ∧ DecV w' g v 0 ng ∧ Gr w w' g := by
  have hlt := hd.lt
  have HD := Lib.hid hd
  have hn20 := nDig_le v hv
  obtain ⟨L, hL⟩ : ∃ L, nDig v = L := ⟨_, rfl⟩
  rw [hL] at hn20
  have hvL : v < 10 ^ L := by rw [← hL]; exact lt_pow_nDig v
  have HL := Lib.hid hL
  have HVL := Lib.hid hvL
  clear hd hL hvL
  refine calls_F Tryd.func48 rfl (by rw [Tryd.ntmps48]; simp) ?_
  intro σ hσ
  rw [Tryd.ntmps48]
  have s0 : σ 0 = .pointer (some ⟨g, 0, none⟩) := hσ 0 (by simp)
  have s1 : σ 1 = .int .u64 (v : Int) := hσ 1 (by simp)
  clear hσ
  go_wp2_with fail
  have hrow : BRow (w.alloc (Obj.cells ((List.replicate 24 (0 : UInt8)).map encB).toArray 70)) w.heap.size (List.replicate 24 0) := Row.new w _ _
  have hdec : Dec (w.alloc (Obj.cells ((List.replicate 24 (0 : UInt8)).map encB).toArray 70)) g bs nd dp ng false := HD.out.grown (World.grownBy_alloc w _ none) (by simp)
  have hgr := (Gr.refl w g).alloc (Obj.cells ((List.replicate 24 (0 : UInt8)).map encB).toArray 70)
  obtain ⟨b, hb⟩ : ∃ b, w.heap.size = b := ⟨_, rfl⟩
  rw [hb] at hrow
  have hgb : g ≠ b := by omega
  have HB := Lib.hid hb
  refine loop_F (fun kk s' w' => ∃ (n u : Nat) (ds : List UInt8), n ≤ L ∧ kk = u ∧ u = v / 10 ^ n ∧ (n = L ∨ 0 < u) ∧ ds.length = 24 ∧ (∀ j, j < n → ds.getD j 0 = Lib.dg v j) ∧ s' 0 = .pointer (some ⟨g, 0, none⟩) ∧ s' 1 = .int .u64 (u : Int) ∧ s' 4 = .pointer (some ⟨b, 0, none⟩) ∧ s' 5 = .int .i64 (n : Int) ∧ BRow w' b ds ∧ Dec w' g bs nd dp ng false ∧ Gr w w' g) v
    ⟨0, v, List.replicate 24 0, Nat.zero_le _, rfl, by simp, ?_, by simp, fun j hj => absurd hj (by omega), by simp [over_cons, over_nil, *], by simp [over_cons, over_nil, *], by simp [over_cons, over_nil, *], by simp [over_cons, over_nil, *], hrow, hdec, hgr⟩ ?_
  · by_cases h0 : v = 0
    · left; rw [← HL.out, h0, nDig_zero]
    · right; omega
  clear s0 s1 σ hrow hdec hgr HD hb
  rintro u σ wk ⟨n, _, ds, hn, rfl, hu, hnu, hdl, hds, s0, s1, s4, s5, hrow, hdec, hgr⟩ RK KK HRK hKK
  have hb1 := hrow.row.lt
  have hg1 := hdec.lt
  have fzb := hrow.row.frozen
  have HU := Lib.hid hu
  have HDL := Lib.hid hdl
  have HDS := Lib.hid hds
  have HROW := Lib.hid hrow
  have HDEC := Lib.hid hdec
  have HGR := Lib.hid hgr
  have hu64 : u < 18446744073709551616 := by rw [hu]; exact Nat.lt_of_le_of_lt (Nat.div_le_self _ _) hv
  clear hu hdl hds hrow hdec hgr
  by_cases hz : u = 0
  · subst hz
    have hnL : n = L := by omega
    subst hnL
    have d1 := HDEC.out.cnd
    have fz := HDEC.out.frozen
    ((repeat (go_wp2_with fail; first | (refine cond_yes ?hc (by decide) ?_; (case hc => (simp [over_cons, over_nil, *]; done))) | (refine cond_no ?hc (by decide) ?_; (case hc => (simp [over_cons, over_nil, *]; done))))); go_wp2_with fail)
    have hdec2 := HDEC.out.setNd 0
    have hrow2 := HROW.out.setOther (Ne.symm hgb) 800 (.int .i64 0)
    have hgr2 := HGR.out.set 800 (.int .i64 0)
    refine loop_F (fun kk s' w' => ∃ (i : Nat) (bs' : List UInt8), i ≤ n ∧ kk = i ∧ (∀ t, t < n - i → bs'.getD t 0 = Lib.dg v (n - 1 - t)) ∧ s' 0 = .pointer (some ⟨g, 0, none⟩) ∧ s' 4 = .pointer (some ⟨b, 0, none⟩) ∧ s' 5 = .int .i64 ((i : Int) - 1) ∧ BRow w' b ds ∧ Dec w' g bs' ((n : Int) - i) dp ng false ∧ Gr w w' g) n
      ⟨n, bs, Nat.le_refl _, rfl, fun t ht => absurd ht (by omega), by simp [over_cons, over_nil, *], by simp [over_cons, over_nil, *], by simp [over_cons, over_nil, *], hrow2, by rw [Int.sub_self]; exact hdec2, hgr2⟩ ?_
    clear s0 s1 s4 s5 σ hrow2 hdec2 hgr2 HROW HDEC HGR hb1 hg1 fzb d1 fz HRK hKK
    rintro i σ wl ⟨_, bs2, hi, rfl, hbs, s0, s4, s5, hrow, hdec, hgr⟩ RL KL HRL hKL
    have hb1 := hrow.row.lt
    have hg1 := hdec.lt
    have fz := hdec.frozen
    have d1 := hdec.cnd
    have HBS := Lib.hid hbs
    have HROW := Lib.hid hrow
    have HDEC := Lib.hid hdec
    have HGR := Lib.hid hgr
    clear hbs hrow hdec hgr
    cases i with
    | zero =>
      rw [show ((0 : Nat) : Int) - 1 = -1 by omega] at s5
      rw [show (n : Int) - ((0 : Nat) : Int) = (n : Int) by omega] at d1 HDEC
      have d2 := HDEC.out.cdp
      ((repeat (go_wp2_with fail; first | (refine cond_yes ?hc (by decide) ?_; (case hc => (simp [over_cons, over_nil, *]; done))) | (refine cond_no ?hc (by decide) ?_; (case hc => (simp [over_cons, over_nil, *]; done))))); go_wp2_with fail)
      refine (trim_any g n bs2 _ ng false _ (HDEC.out.setDp _) (by omega)).mono ?_
      rintro e w7 ⟨rfl, hd7, hg7⟩
      go_wp2_with fail
      have htk : bs2.take n = digs v n := take_digs bs2 v n (by rw [HDEC.out.len]; omega) (fun j hj => by
        rw [HBS.out _ (by omega)]; congr 1; omega)
      refine end_F rfl ⟨rfl, ⟨fun h0 => ?_, fun h0 => ?_⟩, (HGR.out.set _ _).trans hg7⟩
      · refine DecN.of_trim (p := 0) h0 (by rw [HL.out]; exact htk) (by rw [HL.out]; exact hd7) (by rw [HL.out]; omega)
      · have : n = 0 := by rw [← HL.out, h0, nDig_zero]
        subst this
        exact ⟨bs2, hd7⟩
    | succ i =>
      rw [show ((i + 1 : Nat) : Int) - 1 = (i : Int) by omega] at s5
      obtain ⟨m, hm⟩ : ∃ m, n - (i + 1) = m := ⟨_, rfl⟩
      rw [show (n : Int) - ((i + 1 : Nat) : Int) = (m : Int) by omega] at d1 HDEC
      have hdl := HDL.out
      have c1 := HROW.out.cellD i (by omega)
      rw [HDS.out i (by omega)] at c1
      have hc57 := isDig_dg v i
      obtain ⟨c, hc⟩ : ∃ c, Lib.dg v i = c := ⟨_, rfl⟩
      rw [hc] at c1 hc57
      unfold isDig at hc57
      have HC := Lib.hid hc
      obtain ⟨vm, hvm⟩ : ∃ x, wl.cell? ⟨g, m, none⟩ = some x := ⟨_, HDEC.out.digit m (by omega)⟩
      have hm8 : (m : Int) < 800 := by omega
      have hi8 : (i : Int) < 24 := by omega
      clear hc hdl
      ((repeat (go_wp2_with fail; first | (refine cond_yes ?hc (by decide) ?_; (case hc => (simp [over_cons, over_nil, *]; done))) | (refine cond_no ?hc (by decide) ?_; (case hc => (simp [over_cons, over_nil, *]; done))))); go_wp2_with fail)
      go_still_tail 11, (by kernel_rfl)
      ((repeat (go_wp2_with fail; first | (refine cond_yes ?hc (by decide) ?_; (case hc => (simp [over_cons, over_nil, *]; done))) | (refine cond_no ?hc (by decide) ?_; (case hc => (simp [over_cons, over_nil, *]; done))))); go_wp2_with fail)
      have hlen : bs2.length = 800 := HDEC.out.len
      refine gotk HRL i (by omega) ⟨i, bs2.set m (UInt8.ofNat ((c.toNat : Nat) : Int).toNat), by omega, rfl, ?_, by simp [over_cons, over_nil, *], by simp [over_cons, over_nil, *], by simp [over_cons, over_nil, *], ?_, ?_, ?_⟩
      · intro t ht
        rw [getD_set _ _ _ _ (by omega)]
        by_cases htm : m = t
        · subst htm
          rw [if_pos rfl, Int.toNat_natCast, ← HC.out]
          have h1 : n - 1 - m = i := by omega
          rw [h1]
          apply UInt8.toNat_inj.1
          rw [UInt8.toNat_ofNat']
          have := dg_toNat v i
          have h2 : v / 10 ^ i % 10 < 10 := Nat.mod_lt _ (by omega)
          omega
        · rw [if_neg htm]
          exact HBS.out t (by omega)
      · exact ((HROW.out.setOther (Ne.symm hgb) _ _).setOther (Ne.symm hgb) _ _)
      · have h3 := ((HDEC.out.setDigit m (by omega) (c.toNat : Int) (by omega) (by omega)).setNd ((m : Int) + 1)).drew
        rw [show (n : Int) - (i : Int) = (m : Int) + 1 by omega]
        exact h3
      · exact ((HGR.out.set _ _).set _ _).drew
  · have hnL : n < L := by
      rcases Nat.lt_or_ge n L with h | h
      · exact h
      · exfalso
        have h1 := HU.out
        rw [show n = L by omega, Nat.div_eq_of_lt HVL.out] at h1
        exact hz h1
    obtain ⟨vm, hvm⟩ : ∃ x, wk.cell? ⟨b, n, none⟩ = some x := ⟨_, HROW.out.cellD n (by rw [HDL.out]; omega)⟩
    have hn24 : (n : Int) < 24 := by omega
    have hu0 : 0 < u := by omega
    clear hz
    ((repeat (go_wp2_with fail; first | (refine cond_yes ?hc (by decide) ?_; (case hc => (simp [over_cons, over_nil, *]; done))) | (refine cond_no ?hc (by decide) ?_; (case hc => (simp [over_cons, over_nil, *]; done))))); go_wp2_with fail)
    have hdl := HDL.out
    refine gotk HRK (u / 10) (by omega) ⟨n + 1, u / 10, ds.set n (UInt8.ofNat ((u : Int) - 10 * ((u : Int) / 10) + 48).toNat), by omega, rfl, ?_, ?_, by rw [List.length_set]; exact hdl, ?_, by simp [over_cons, over_nil, *], by simp [over_cons, over_nil], by simp [over_cons, over_nil, *], by simp [over_cons, over_nil], HROW.out.setD n _ (by omega) (by omega), HDEC.out.setOther hgb _ _, HGR.out.setNew (by rw [HB.out]; exact Nat.le_refl _) _ _⟩
    · rw [HU.out, Nat.div_div_eq_div_mul, ← Nat.pow_succ]
    · by_cases h : n + 1 = L
      · exact Or.inl h
      · right
        have hv0 : v ≠ 0 := by intro e; have := HU.out; rw [e, Nat.zero_div] at this; omega
        have h1 := nDig_low hv0
        rw [HL.out] at h1
        rw [HU.out, Nat.div_div_eq_div_mul, ← Nat.pow_succ]
        refine Nat.div_pos (Nat.le_trans (Nat.pow_le_pow_right (by omega) (by omega)) h1) (Nat.pow_pos (by omega))
    · intro j hj
      rw [getD_set _ _ _ _ (by omega)]
      by_cases hjn : n = j
      · subst hjn
        rw [if_pos rfl, show ((u : Int) - 10 * ((u : Int) / 10) + 48).toNat = 48 + u % 10 by omega]
        exact dg_of _ _ _ (by rw [← HU.out])
      · rw [if_neg hjn]
        exact HDS.out j (by omega)

/-- What Shift makes of N * 10^p. -/
def shD (N : Nat) (p k : Int) : Nat × Int := if 0 ≤ k then (core (N * 2 ^ k.toNat), p + tz (N * 2 ^ k.toNat)) else (core (N * 5 ^ (-k).toNat), p + k + tz (N * 5 ^ (-k).toNat))

theorem core_mul (M c : Nat) (h0 : M ≠ 0) (hc : c ≠ 0) : core (core M * c) = core (M * c) ∧ tz M + tz (core M * c) = tz (M * c) := by
  have h1 := core_spec M h0
  have hx : core M * c ≠ 0 := Nat.mul_ne_zero (core_ne M h0) hc
  have h2 := core_spec (core M * c) hx
  have h3 := core_of (A := core (core M * c)) (a := tz M + tz (core M * c)) (M := M * c) (by
    rw [Nat.add_comm, Nat.pow_add, ← Nat.mul_assoc, h2.1, Nat.mul_right_comm, h1.1]) h2.2
  exact ⟨h3.1.symm, h3.2.symm⟩

theorem nDig_core_le (M : Nat) (h0 : M ≠ 0) : nDig (core M) ≤ nDig M := by have := nDig_core M h0; omega

set_option maxRecDepth 100000 in
set_option maxHeartbeats 1000000 in
theorem Shift_any (T g N : Nat) (p k : Int) (ng : Bool) (w : World) (he : Env T w) (hgT : T ≤ g) (hd : DecN w g N p ng)
    (hk1 : -1100 ≤ k) (hk2 : k ≤ 1000) (hp1 : 0 ≤ p) (hp2 : p ≤ 20) (hM1 : 0 ≤ k → nDig (N * 2 ^ k.toNat) ≤ 781) (hM2 : k < 0 → nDig (N * 5 ^ (-k).toNat) ≤ 800) :
    Calls Tryd.prog 49 #[.pointer (some ⟨g, 0, none⟩), .int .i64 k] w fun r w' =>
      r = .returned (.tuple #[]) ∧ DecN w' g (shD N p k).1 (shD N p k).2 ng ∧ Gr w w' g := by
  have hne := hd.ne
  have hN0 : N ≠ 0 := by intro e; rw [e] at hne; simp at hne
  have hL1 := nDig_pos hN0
  have hlt : g < w.heap.size := by obtain ⟨_, bs, _, hd⟩ := hd; exact hd.lt
  have d1 : w.cell? ⟨g, 800, none⟩ = some (.int .i64 (nDig N : Nat)) := by obtain ⟨_, bs, _, hd⟩ := hd; exact hd.cnd
  obtain ⟨L, hL⟩ : ∃ L, nDig N = L := ⟨_, rfl⟩
  rw [hL] at d1 hL1
  have hLz : ((L : Int) == 0) = false := by rw [beq_eq_false_iff_ne]; omega
  have HD := Lib.hid hd
  have HE := Lib.hid he
  have HNE := Lib.hid hne
  have HN0 := Lib.hid hN0
  clear hd he hne hN0 hL
  refine calls_F Tryd.func49 rfl (by rw [Tryd.ntmps49]; simp) ?_
  intro σ hσ
  rw [Tryd.ntmps49]
  have s0 : σ 0 = .pointer (some ⟨g, 0, none⟩) := hσ 0 (by simp)
  have s1 : σ 1 = .int .i64 k := hσ 1 (by simp)
  clear hσ
  rcases Int.lt_trichotomy k 0 with hk | hk | hk
  · obtain ⟨n, rfl⟩ : ∃ n : Nat, k = -(n : Int) := ⟨(-k).toNat, by omega⟩
    have hM := hM2 hk
    rw [Int.neg_neg, Int.toNat_natCast] at hM
    have hres : shD N p (-(n : Int)) = (core (N * 5 ^ n), p - n + tz (N * 5 ^ n)) := by
      unfold shD; rw [if_neg (by omega), Int.neg_neg, Int.toNat_natCast]; rfl
    have HRES := Lib.hid hres
    have HM := Lib.hid hM
    have hk' : decide (0 < -(n : Int)) = false := by simp
    have hn0 : 1 ≤ n := by omega
    have hn00 : 0 < n := by omega
    clear hM1 hM2 hres hM
    ((repeat (go_wp2_with fail; first | (refine cond_yes ?hc (by decide) ?_; (case hc => (simp [over_cons, over_nil, *]; done))) | (refine cond_no ?hc (by decide) ?_; (case hc => (simp [over_cons, over_nil, *]; done))))); go_wp2_with fail)
    refine loop_F (fun kk s' w' => ∃ j : Nat, j < n ∧ kk = n - j ∧ s' 0 = .pointer (some ⟨g, 0, none⟩) ∧ s' 1 = .int .i64 (-((n : Int) - j)) ∧ DecN w' g (core (N * 5 ^ j)) (p - j + tz (N * 5 ^ j)) ng ∧ Gr w w' g) n
      ⟨0, by omega, rfl, by simp [over_cons, over_nil, *], by simp [over_cons, over_nil, *], by rw [Nat.pow_zero, Nat.mul_one, core_no HNE.out, tz_no HNE.out]; simpa using HD.out, Gr.refl w g⟩ ?_
    clear s0 s1 σ
    rintro kk σ wk ⟨j, hj, hkk, s0, s1, hdec, hgr⟩ RK KK HRK hKK
    have HKK := Lib.hid hkk
    have HDEC := Lib.hid hdec
    have HGR := Lib.hid hgr
    have hj0 : N * 5 ^ j ≠ 0 := Nat.mul_ne_zero HN0.out (Nat.ne_of_gt (Nat.pow_pos (by omega)))
    have HJ0 := Lib.hid hj0
    have htz : (tz (N * 5 ^ j) : Int) ≤ 800 := by
      have h1 := nDig_core (N * 5 ^ j) hj0
      have h2 := nDig_mono (N * 5 ^ j) (N * 5 ^ n) (Nat.mul_le_mul_left _ (Nat.pow_le_pow_right (by omega) (by omega)))
      have := HM.out
      omega
    have hnd : ∀ c, j + c ≤ n → nDig (core (N * 5 ^ j) * 5 ^ c) ≤ 800 := by
      intro c hc
      have h1 := core_spec (N * 5 ^ j) hj0
      have h2 : core (N * 5 ^ j) * 5 ^ c ≤ N * 5 ^ n := by
        have h3 : core (N * 5 ^ j) ≤ N * 5 ^ j := by
          have := Nat.le_mul_of_pos_right (core (N * 5 ^ j)) (Nat.pow_pos (n := tz (N * 5 ^ j)) (by omega : 0 < 10))
          omega
        refine Nat.le_trans (Nat.mul_le_mul_right _ h3) ?_
        rw [Nat.mul_assoc, ← Nat.pow_add]
        exact Nat.mul_le_mul_left _ (Nat.pow_le_pow_right (by omega) hc)
      exact Nat.le_trans (nDig_mono _ _ h2) HM.out
    have HND := Lib.hid hnd
    have hcm : ∀ c, core (core (N * 5 ^ j) * 5 ^ c) = core (N * 5 ^ (j + c)) ∧ tz (N * 5 ^ j) + tz (core (N * 5 ^ j) * 5 ^ c) = tz (N * 5 ^ (j + c)) := by
      intro c
      have := core_mul (N * 5 ^ j) (5 ^ c) hj0 (Nat.ne_of_gt (Nat.pow_pos (by omega)))
      rw [Nat.mul_assoc, ← Nat.pow_add] at this
      exact this
    have HCM := Lib.hid hcm
    obtain ⟨q, hq⟩ : ∃ q : Int, p - j + tz (N * 5 ^ j) = q := ⟨_, rfl⟩
    have hq1 : -1200 ≤ q := by omega
    have hq2 : q ≤ 1200 := by omega
    have HQ := Lib.hid hq
    rw [hq] at HDEC
    clear hkk hdec hgr hj0 htz hnd hcm hq
    by_cases hn60 : 60 < n - j
    · have ht : -((n : Int) - (j : Int)) < -60 := by omega
      ((repeat (go_wp2_with fail; first | (refine cond_yes ?hc (by decide) ?_; (case hc => (simp [over_cons, over_nil, *]; done))) | (refine cond_no ?hc (by decide) ?_; (case hc => (simp [over_cons, over_nil, *]; done))))); go_wp2_with fail)
      refine (rightShift_N T g _ 60 q ng _ (HE.out.grown HGR.out (fun k e => by cases e; exact hgT)) hgT HDEC.out (by omega) (by omega) (HND.out 60 (by omega)) hq1 hq2).mono ?_
      rintro e w7 ⟨rfl, hd7, hg7⟩
      ((repeat (go_wp2_with fail; first | (refine cond_yes ?hc (by decide) ?_; (case hc => (simp [over_cons, over_nil, *]; done))) | (refine cond_no ?hc (by decide) ?_; (case hc => (simp [over_cons, over_nil, *]; done))))); go_wp2_with fail)
      refine gotk HRK (n - (j + 60)) (by have := HKK.out; omega) ⟨j + 60, by omega, rfl, by simp [over_cons, over_nil, *], ?_, ?_, HGR.out.trans hg7⟩
      · have : -((n : Int) - ((j + 60 : Nat) : Int)) = -((n : Int) - (j : Int)) + 60 := by omega
        rw [this]; simp [over_cons, over_nil]
      · have h1 := HCM.out 60
        rw [h1.1] at hd7
        rw [show p - ((j + 60 : Nat) : Int) + (tz (N * 5 ^ (j + 60)) : Int) = q - ((60 : Nat) : Int) + (tz (core (N * 5 ^ j) * 5 ^ 60) : Int) by rw [← h1.2, ← HQ.out]; omega]
        exact hd7
    · obtain ⟨c, hc⟩ : ∃ c, n - j = c := ⟨_, rfl⟩
      have ht : decide (-((n : Int) - (j : Int)) < -60) = false := by simp; omega
      have hci : -(-((n : Int) - (j : Int))) = (c : Int) := by omega
      rw [show -((n : Int) - (j : Int)) = -(c : Int) by omega] at s1 ht
      have hc64 : IntKind.u64.wrap (c : Int) = (c : Int) := by rw [IntKind.wrap_u64]; omega
      have hc0 : (c : Int) ≤ 60 := by omega
      clear hci
      ((repeat (go_wp2_with fail; first | (refine cond_yes ?hc (by decide) ?_; (case hc => (simp [over_cons, over_nil, *]; done))) | (refine cond_no ?hc (by decide) ?_; (case hc => (simp [over_cons, over_nil, *]; done))))); go_wp2_with fail)
      refine (rightShift_N T g _ c q ng _ (HE.out.grown HGR.out (fun k e => by cases e; exact hgT)) hgT HDEC.out (by omega) (by omega) (HND.out c (by omega)) hq1 hq2).mono ?_
      rintro e w7 ⟨rfl, hd7, hg7⟩
      ((repeat (go_wp2_with fail; first | (refine cond_yes ?hc (by decide) ?_; (case hc => (simp [over_cons, over_nil, *]; done))) | (refine cond_no ?hc (by decide) ?_; (case hc => (simp [over_cons, over_nil, *]; done))))); go_wp2_with fail)
      refine end_F rfl ⟨rfl, ?_, HGR.out.trans hg7⟩
      have h1 := HCM.out c
      rw [show j + c = n by omega] at h1
      rw [HRES.out]
      rw [h1.1] at hd7
      dsimp only
      rw [show p - (n : Int) + (tz (N * 5 ^ n) : Int) = q - (c : Int) + (tz (core (N * 5 ^ j) * 5 ^ c) : Int) by rw [← h1.2, ← HQ.out]; omega]
      exact hd7
  · subst hk
    have hres : shD N p 0 = (N, p) := by
      unfold shD
      rw [if_pos (by omega)]
      have h1 := HNE.out
      rw [show ((0 : Int).toNat) = 0 by rfl, Nat.pow_zero, Nat.mul_one, core_no h1, tz_no h1]
      simp
    have HRES := Lib.hid hres
    clear hres hM1 hM2
    ((repeat (go_wp2_with fail; first | (refine cond_yes ?hc (by decide) ?_; (case hc => (simp [over_cons, over_nil, *]; done))) | (refine cond_no ?hc (by decide) ?_; (case hc => (simp [over_cons, over_nil, *]; done))))); go_wp2_with fail)
    refine end_F rfl ⟨rfl, by rw [HRES.out]; exact HD.out, Gr.refl w g⟩
  · obtain ⟨n, rfl⟩ : ∃ n : Nat, k = (n : Int) := ⟨k.toNat, by omega⟩
    have hM := hM1 (by omega)
    rw [Int.toNat_natCast] at hM
    have hres : shD N p (n : Int) = (core (N * 2 ^ n), p + tz (N * 2 ^ n)) := by
      unfold shD; rw [if_pos (by omega), Int.toNat_natCast]
    have HRES := Lib.hid hres
    have HM := Lib.hid hM
    have hn0 : 1 ≤ n := by omega
    have hn00 : 0 < n := by omega
    clear hM1 hM2 hres hM
    ((repeat (go_wp2_with fail; first | (refine cond_yes ?hc (by decide) ?_; (case hc => (simp [over_cons, over_nil, *]; done))) | (refine cond_no ?hc (by decide) ?_; (case hc => (simp [over_cons, over_nil, *]; done))))); go_wp2_with fail)
    refine loop_F (fun kk s' w' => ∃ j : Nat, j < n ∧ kk = n - j ∧ s' 0 = .pointer (some ⟨g, 0, none⟩) ∧ s' 1 = .int .i64 ((n : Int) - j) ∧ DecN w' g (core (N * 2 ^ j)) (p + tz (N * 2 ^ j)) ng ∧ Gr w w' g) n
      ⟨0, by omega, rfl, by simp [over_cons, over_nil, *], by simp [over_cons, over_nil, *], by rw [Nat.pow_zero, Nat.mul_one, core_no HNE.out, tz_no HNE.out]; simpa using HD.out, Gr.refl w g⟩ ?_
    clear s0 s1 σ
    rintro kk σ wk ⟨j, hj, hkk, s0, s1, hdec, hgr⟩ RK KK HRK hKK
    have HKK := Lib.hid hkk
    have HDEC := Lib.hid hdec
    have HGR := Lib.hid hgr
    have hj0 : N * 2 ^ j ≠ 0 := Nat.mul_ne_zero HN0.out (Nat.ne_of_gt (Nat.pow_pos (by omega)))
    have HJ0 := Lib.hid hj0
    have htz : (tz (N * 2 ^ j) : Int) ≤ 781 := by
      have h1 := nDig_core (N * 2 ^ j) hj0
      have h2 := nDig_mono (N * 2 ^ j) (N * 2 ^ n) (Nat.mul_le_mul_left _ (Nat.pow_le_pow_right (by omega) (by omega)))
      have := HM.out
      omega
    have hnd : ∀ c, j + c ≤ n → nDig (core (N * 2 ^ j) * 2 ^ c) ≤ 781 := by
      intro c hc
      have h1 := core_spec (N * 2 ^ j) hj0
      have h2 : core (N * 2 ^ j) * 2 ^ c ≤ N * 2 ^ n := by
        have h3 : core (N * 2 ^ j) ≤ N * 2 ^ j := by
          have := Nat.le_mul_of_pos_right (core (N * 2 ^ j)) (Nat.pow_pos (n := tz (N * 2 ^ j)) (by omega : 0 < 10))
          omega
        refine Nat.le_trans (Nat.mul_le_mul_right _ h3) ?_
        rw [Nat.mul_assoc, ← Nat.pow_add]
        exact Nat.mul_le_mul_left _ (Nat.pow_le_pow_right (by omega) hc)
      exact Nat.le_trans (nDig_mono _ _ h2) HM.out
    have HND := Lib.hid hnd
    have hcm : ∀ c, core (core (N * 2 ^ j) * 2 ^ c) = core (N * 2 ^ (j + c)) ∧ tz (N * 2 ^ j) + tz (core (N * 2 ^ j) * 2 ^ c) = tz (N * 2 ^ (j + c)) := by
      intro c
      have := core_mul (N * 2 ^ j) (2 ^ c) hj0 (Nat.ne_of_gt (Nat.pow_pos (by omega)))
      rw [Nat.mul_assoc, ← Nat.pow_add] at this
      exact this
    have HCM := Lib.hid hcm
    obtain ⟨q, hq⟩ : ∃ q : Int, p + tz (N * 2 ^ j) = q := ⟨_, rfl⟩
    have hq1 : -1200 ≤ q := by omega
    have hq2 : q ≤ 1200 := by omega
    have HQ := Lib.hid hq
    rw [hq] at HDEC
    clear hkk hdec hgr hj0 htz hnd hcm hq
    by_cases hn60 : 60 < n - j
    · have ht : 60 < (n : Int) - (j : Int) := by omega
      ((repeat (go_wp2_with fail; first | (refine cond_yes ?hc (by decide) ?_; (case hc => (simp [over_cons, over_nil, *]; done))) | (refine cond_no ?hc (by decide) ?_; (case hc => (simp [over_cons, over_nil, *]; done))))); go_wp2_with fail)
      have hc60 : chN 60 ≤ 19 := (cheat_row 60 (by omega) (by omega)).le19
      have hn0c := HND.out 0 (by omega)
      rw [Nat.pow_zero, Nat.mul_one] at hn0c
      refine (leftShift_N T g _ 60 q ng _ (HE.out.grown HGR.out (fun k e => by cases e; exact hgT)) hgT HDEC.out (by omega) (by omega) (by omega) hq1 hq2).mono ?_
      rintro e w7 ⟨rfl, hd7, hg7⟩
      ((repeat (go_wp2_with fail; first | (refine cond_yes ?hc (by decide) ?_; (case hc => (simp [over_cons, over_nil, *]; done))) | (refine cond_no ?hc (by decide) ?_; (case hc => (simp [over_cons, over_nil, *]; done))))); go_wp2_with fail)
      refine gotk HRK (n - (j + 60)) (by have := HKK.out; omega) ⟨j + 60, by omega, rfl, by simp [over_cons, over_nil, *], ?_, ?_, HGR.out.trans hg7⟩
      · have : (n : Int) - ((j + 60 : Nat) : Int) = (n : Int) - (j : Int) - 60 := by omega
        rw [this]; simp [over_cons, over_nil]
      · have h1 := HCM.out 60
        rw [h1.1] at hd7
        rw [show p + (tz (N * 2 ^ (j + 60)) : Int) = q + (tz (core (N * 2 ^ j) * 2 ^ 60) : Int) by rw [← h1.2, ← HQ.out]; omega]
        exact hd7
    · obtain ⟨c, hc⟩ : ∃ c, n - j = c := ⟨_, rfl⟩
      have ht : decide (60 < c) = false := by simp; omega
      have ht2 : decide ((60 : Int) < (c : Int)) = false := by simp; omega
      rw [show (n : Int) - (j : Int) = (c : Int) by omega] at s1
      have hc64 : IntKind.u64.wrap (c : Int) = (c : Int) := by rw [IntKind.wrap_u64]; omega
      have hc0 : (c : Int) ≤ 60 := by omega
      ((repeat (go_wp2_with fail; first | (refine cond_yes ?hc (by decide) ?_; (case hc => (simp [over_cons, over_nil, *]; done))) | (refine cond_no ?hc (by decide) ?_; (case hc => (simp [over_cons, over_nil, *]; done))))); go_wp2_with fail)
      have hcc : chN c ≤ 19 := (cheat_row c (by omega) (by omega)).le19
      have hn0c := HND.out 0 (by omega)
      rw [Nat.pow_zero, Nat.mul_one] at hn0c
      refine (leftShift_N T g _ c q ng _ (HE.out.grown HGR.out (fun k e => by cases e; exact hgT)) hgT HDEC.out (by omega) (by omega) (by omega) hq1 hq2).mono ?_
      rintro e w7 ⟨rfl, hd7, hg7⟩
      ((repeat (go_wp2_with fail; first | (refine cond_yes ?hc (by decide) ?_; (case hc => (simp [over_cons, over_nil, *]; done))) | (refine cond_no ?hc (by decide) ?_; (case hc => (simp [over_cons, over_nil, *]; done))))); go_wp2_with fail)
      refine end_F rfl ⟨rfl, ?_, HGR.out.trans hg7⟩
      have h1 := HCM.out c
      rw [show j + c = n by omega] at h1
      rw [HRES.out]
      rw [h1.1] at hd7
      dsimp only
      rw [show p + (tz (N * 2 ^ n) : Int) = q + (tz (core (N * 2 ^ j) * 2 ^ c) : Int) by rw [← h1.2, ← HQ.out]; omega]
      exact hd7
end Go.Proofs.YtffooimnioigdaaDoor
