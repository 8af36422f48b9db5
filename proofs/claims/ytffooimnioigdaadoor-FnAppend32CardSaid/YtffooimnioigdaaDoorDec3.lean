/-
  Walk: leftShift.
-/
import Derived.Test.YtffooimnioigdaaDoorPd
namespace Go.Proofs.YtffooimnioigdaaDoor
open Go.RowKit
set_option linter.unusedSimpArgs false
set_option linter.unusedVariables false

/-- The carry of the left shift behind q digits. -/
def lCar (N k q : Nat) : Nat := N % 10 ^ q * 2 ^ k / 10 ^ q

theorem lCar_zero (N k : Nat) : lCar N k 0 = 0 := by unfold lCar; simp [Nat.mod_one]
theorem lCar_lt (N k q : Nat) : lCar N k q < 2 ^ k := by
  unfold lCar
  have p : 0 < 10 ^ q := Nat.pow_pos (by omega)
  have p2 : 0 < 2 ^ k := Nat.pow_pos (by omega)
  rw [Nat.div_lt_iff_lt_mul p, Nat.mul_comm (2 ^ k)]
  exact Nat.mul_lt_mul_of_pos_right (Nat.mod_lt _ p) p2
theorem lCar_add (N k q : Nat) : lCar N k q + N / 10 ^ q % 10 * 2 ^ k = N % 10 ^ (q + 1) * 2 ^ k / 10 ^ q := by
  have p : 0 < 10 ^ q := Nat.pow_pos (by omega)
  unfold lCar
  rw [Nat.pow_succ, Nat.mod_mul, Nat.add_mul, Nat.mul_assoc, Nat.add_mul_div_left _ _ p]
theorem lCar_succ (N k q : Nat) : lCar N k (q + 1) = (lCar N k q + N / 10 ^ q % 10 * 2 ^ k) / 10 := by
  rw [lCar_add, Nat.div_div_eq_div_mul, ← Nat.pow_succ]; rfl
theorem lCar_digit (N k q : Nat) : N * 2 ^ k / 10 ^ q % 10 = (lCar N k q + N / 10 ^ q % 10 * 2 ^ k) % 10 := by
  have p : 0 < 10 ^ q := Nat.pow_pos (by omega)
  rw [lCar_add]
  have e : N * 2 ^ k = N % 10 ^ (q + 1) * 2 ^ k + 10 ^ q * (10 * (N / 10 ^ (q + 1) * 2 ^ k)) := by
    conv => lhs; rw [← Nat.mod_add_div N (10 ^ (q + 1)), Nat.add_mul]
    congr 1
    rw [Nat.pow_succ]
    simp only [Nat.mul_assoc]
  rw [e, Nat.add_mul_div_left _ _ p]
  omega
theorem lCar_full (N k L : Nat) (h : N < 10 ^ L) : lCar N k L = N * 2 ^ k / 10 ^ L := by
  unfold lCar; rw [Nat.mod_eq_of_lt h]

theorem dg_of (M j x : Nat) (h : M / 10 ^ j % 10 = x) : UInt8.ofNat (48 + x) = Lib.dg M j := by unfold Lib.dg; rw [h]

theorem getD_set (l : List UInt8) (i j : Nat) (c : UInt8) (hi : i < l.length) : (l.set i c).getD j 0 = if i = j then c else l.getD j 0 := by
  rw [List.getD_eq_getElem?_getD, List.getElem?_set, List.getD_eq_getElem?_getD]
  by_cases h : i = j
  · subst h; simp [hi]
  · simp [h]

theorem take_digs (l : List UInt8) (M n : Nat) (hn : n ≤ l.length) (h : ∀ j, j < n → l.getD (n - 1 - j) 0 = Lib.dg M j) : l.take n = digs M n := by
  apply List.ext_getElem
  · rw [List.length_take, digs_length]; omega
  · intro i h1 h2
    rw [digs_length] at h2
    have := h (n - 1 - i) (by omega)
    rw [show n - 1 - (n - 1 - i) = i by omega, List.getD_eq_getElem?_getD, List.getElem?_eq_getElem (by omega)] at this
    rw [List.getElem_take]
    simpa [digs] using this

theorem digs_get (l : List UInt8) (N n : Nat) (h : l.take n = digs N n) (i : Nat) (hi : i < n) : l.getD i 0 = Lib.dg N (n - 1 - i) := by
  have h1 : (l.take n).getD i 0 = (digs N n).getD i 0 := by rw [h]
  have h2 : (digs N n).getD i 0 = Lib.dg N (n - 1 - i) := by
    rw [List.getD_eq_getElem?_getD, List.getElem?_eq_getElem (by rw [digs_length]; exact hi)]
    simp [digs]
  rw [← h2, ← h1, List.getD_eq_getElem?_getD, List.getD_eq_getElem?_getD, List.getElem?_take, if_pos hi]

theorem arrLen800 : Tryd.prog.arrayLen 73 = 800 := by simp [Program.arrayLen, Program.elem, Tryd.underlying73]
theorem slice800 (g n : Nat) (W : World) (hn : n ≤ 800) : (Instr.sliceAt 73 (.pointer (some ⟨g, 0, none⟩)) (some (.int .i64 0)) (some (.int .i64 (n : Int))) none).run Tryd.prog W = .ok (.slice (some ⟨g, 0, none⟩) n 800) W := by
  rw [run_sliceAt_array_lh W 73 ⟨g, 0, none⟩ (by simp [Program.arrayLen, Program.elem, Tryd.underlying73]) .i64 .i64 0 (n : Int) (by omega) (by omega) (by rw [arrLen800]; omega)]
  go_simp

set_option maxRecDepth 100000 in
set_option maxHeartbeats 4000000 in
theorem leftShift_any (T g N k : Nat) (bs : List UInt8) (dp : Int) (ng tr : Bool) (w : World) (he : Env T w) (hgT : T ≤ g) (hd : Dec w g bs (nDig N : Nat) dp ng tr) (hbs : bs.take (nDig N) = digs N (nDig N))
    (hN : N ≠ 0) (hk1 : 1 ≤ k) (hk2 : k ≤ 60) (hM : nDig N + chN k ≤ 800) (hp1 : -2000 ≤ dp) (hp2 : dp ≤ 2000) :
    Calls Tryd.prog 68 #[.pointer (some ⟨g, 0, none⟩), .int .u64 (k : Int)] w fun r w' =>
      r = .returned (.tuple #[]) ∧ ∃ bs', bs'.take (nDig (N * 2 ^ k)) = digs (N * 2 ^ k) (nDig (N * 2 ^ k)) ∧
        Dec w' g bs' (trimZ bs' (nDig (N * 2 ^ k)) : Nat) (trimDp (trimZ bs' (nDig (N * 2 ^ k))) (dp + nDig (N * 2 ^ k) - nDig N)) ng tr ∧ Gr w w' g := by
  have hch := cheat_digits N k hN hk1 hk2
  have hrow := cheat_row k hk1 hk2
  have hpos := hrow.pos
  have h19 := hrow.le19
  obtain ⟨cb, co, cc, hcbT, hcc, c0, hcells⟩ := he.cheats
  have c1 := (hcells k (by omega)).1
  have c2 := (hcells k (by omega)).2
  have hsl : (chS k).length ≤ 100 := by rw [hrow.str, digs_length]; omega
  have hlt := hd.lt
  have d1 := hd.cnd
  have hTs := he.size
  have hg8 := he.glob
  have hpre := fun n : Nat => prefix_any g (nDig N) bs (chS k) dp ng tr (nDig N : Nat) (w.drewN n) (hd.drewN n) (by omega) hsl
  rw [hbs] at hpre
  have HPRE := Lib.hid hpre
  obtain ⟨L, hL⟩ : ∃ L, nDig N = L := ⟨_, rfl⟩
  obtain ⟨pb, hpb⟩ : ∃ pb, pfxLt (digs N L) (chS k) = pb := ⟨_, rfl⟩
  rw [hL] at hM d1 hd HPRE hch hbs
  rw [hpb] at hch
  have hLp : 1 ≤ L := by rw [← hL]; exact nDig_pos hN
  have HD := Lib.hid hd
  have HBS := Lib.hid hbs
  have HCH := Lib.hid hch
  have HPB := Lib.hid hpb
  have HL := Lib.hid hL
  have hci : (k : Int) < 61 := by omega
  clear hpre hcells hrow hd hbs hch hpb hL he
  refine calls_F Tryd.func68 rfl (by rw [Tryd.ntmps68]; simp) ?_
  intro σ hσ
  rw [Tryd.ntmps68]
  have s0 : σ 0 = .pointer (some ⟨g, 0, none⟩) := hσ 0 (by simp)
  have s1 : σ 1 = .int .u64 (k : Int) := hσ 1 (by simp)
  clear hσ
  have hslice := fun W => slice800 g L W (by omega)
  have hLi : (L : Int) ≤ 800 := by omega
  go_wp2_with fail
  go_quiet ((go_at_call 78; exact Calls.quiet_of (HPRE.out _)))
  go_wp2_with fail
  obtain ⟨D, hD⟩ : ∃ D : Nat, (if pb = true then chN k - 1 else chN k) = D := ⟨_, rfl⟩
  have hnM : nDig (N * 2 ^ k) = L + D := by have := HCH.out; rw [← hD]; split at this <;> simp_all <;> omega
  have hDb : D ≤ chN k := by rw [← hD]; split <;> omega
  have HNM := Lib.hid hnM
  have HDD := Lib.hid hD
  clear hnM hD
  refine cut_F (fun s' w' => s' 4 = .int .i64 (D : Int) ∧ s' 0 = .pointer (some ⟨g, 0, none⟩) ∧ s' 1 = .int .u64 (k : Int) ∧ Dec w' g bs L dp ng tr ∧ Gr w w' g) ?_ ?_
  · intro R2 K2 HR hK2
    refine cond_F pb (by simp [over_cons, over_nil, HPB.out]) (by decide) (fun h => ?_) (fun h => ?_)
    · have hDi : ((chN k : Nat) : Int) - 1 = (D : Int) := by have := HDD.out; rw [if_pos h] at this; omega
      go_wp2_with fail
      exact got HR ⟨by simp [over_cons, over_nil, *], by simp [over_cons, over_nil, *], by simp [over_cons, over_nil, *], HD.out.drewN _, (Gr.refl w g).drewN _⟩
    · have hDi : (chN k : Int) = (D : Int) := by have := HDD.out; rw [h] at this; simp at this; omega
      go_wp2_with fail
      exact got HR ⟨by simp [over_cons, over_nil, *], by simp [over_cons, over_nil, *], by simp [over_cons, over_nil, *], HD.out.drewN _, (Gr.refl w g).drewN _⟩
  clear s0 s1 σ HD hslice c0 c1 c2 d1 hlt hTs
  rintro σ w1 ⟨s4, s0, s1, hd, hg⟩
  have hlt := hd.lt
  have d1 := hd.cnd
  have HD := Lib.hid hd
  have HG := Lib.hid hg
  clear hd hg
  go_wp2_with fail
  refine loop_F (fun kk s' w' => ∃ (r c : Nat) (bs' : List UInt8), r ≤ L ∧ kk = r ∧ c = lCar N k (L - r) ∧ s' 5 = .int .i64 ((r : Int) - 1) ∧ s' 6 = .int .i64 ((r : Int) + D) ∧ s' 7 = .int .u64 (c : Int) ∧ s' 4 = .int .i64 (D : Int) ∧ s' 0 = .pointer (some ⟨g, 0, none⟩) ∧ s' 1 = .int .u64 (k : Int) ∧ Dec w' g bs' L dp ng tr ∧ Gr w w' g ∧ (∀ i, i < r → bs'.getD i 0 = Lib.dg N (L - 1 - i)) ∧ (∀ j, j < L - r → bs'.getD (L + D - 1 - j) 0 = Lib.dg (N * 2 ^ k) j)) L
    ⟨L, 0, bs, Nat.le_refl _, rfl, by rw [Nat.sub_self, lCar_zero], by simp [over_cons, over_nil, *], by simp [over_cons, over_nil, *], by simp [over_cons, over_nil, *], by simp [over_cons, over_nil, *], by simp [over_cons, over_nil, *], by simp [over_cons, over_nil, *], HD.out, HG.out, fun i hi => digs_get bs N L HBS.out i hi, fun j hj => absurd hj (by omega)⟩ ?_
  clear s0 s1 s4 σ HD HG hlt d1
  rintro r σ wk ⟨_, c, bs', hr, rfl, hc, s5, s6, s7, s4, s0, s1, hd, hg, hun, hwr⟩ RK KK HRK hKK
  have HC := Lib.hid hc
  have HUN := Lib.hid hun
  have HWR := Lib.hid hwr
  have HD := Lib.hid hd
  have HG := Lib.hid hg
  have hlt := hd.lt
  have fz := hd.frozen
  have hcb : c < 2 ^ k := by rw [hc]; exact lCar_lt _ _ _
  have hk60 : 2 ^ k ≤ 2 ^ 60 := Nat.pow_le_pow_right (by omega) hk2
  clear hc hun hwr hd hg
  cases r with
  | zero =>
    rw [show ((0 : Nat) : Int) - 1 = -1 by omega] at s5
    rw [show ((0 : Nat) : Int) + (D : Int) = (D : Int) by omega] at s6
    have hfull := lCar_full N k L (by have := lt_pow_nDig N; rw [HL.out] at this; exact this)
    have hc0 : c = N * 2 ^ k / 10 ^ L := by rw [← hfull]; exact HC.out
    obtain ⟨M, hMd⟩ : ∃ M, N * 2 ^ k = M := ⟨_, rfl⟩
    have hMlt : M < 10 ^ (L + D) := by have := lt_pow_nDig (N * 2 ^ k); rw [HNM.out, hMd] at this; exact this
    rw [hMd] at hc0
    have HMD := Lib.hid hMd
    have HC0 := Lib.hid hc0
    have HML := Lib.hid hMlt
    have hwr : ∀ j, j < L → bs'.getD (L + D - 1 - j) 0 = Lib.dg M j := by rw [← hMd]; exact HWR.out
    have HWR2 := Lib.hid hwr
    clear hfull hc0 hMd hMlt hwr HC HWR HUN
    ((repeat (go_wp2_with fail; first | (refine cond_yes ?hc (by decide) ?_; (case hc => (simp [over_cons, over_nil, *]; done))) | (refine cond_no ?hc (by decide) ?_; (case hc => (simp [over_cons, over_nil, *]; done))))); go_wp2_with fail)
    refine loop_F (fun kk s' w' => ∃ (t c : Nat) (bs' : List UInt8), t ≤ D ∧ kk = c ∧ c = M / 10 ^ (L + t) ∧ c < 2 ^ 60 ∧ s' 6 = .int .i64 ((D : Int) - t) ∧ s' 7 = .int .u64 (c : Int) ∧ s' 4 = .int .i64 (D : Int) ∧ s' 0 = .pointer (some ⟨g, 0, none⟩) ∧ Dec w' g bs' L dp ng tr ∧ Gr w w' g ∧ (∀ j, j < L + t → bs'.getD (L + D - 1 - j) 0 = Lib.dg M j)) c
      ⟨0, c, bs', Nat.zero_le _, rfl, HC0.out, by omega, by simp [over_cons, over_nil, *], by simp [over_cons, over_nil, *], by simp [over_cons, over_nil, *], by simp [over_cons, over_nil, *], HD.out, HG.out, HWR2.out⟩ ?_
    clear s0 s1 s4 s5 s6 s7 σ HD HG HWR2 HC0 hlt fz hcb
    rintro c' σ wl ⟨t, _, bs2, ht, rfl, hc, hcb, s6, s7, s4, s0, hd, hg, hwr⟩ RL KL HRL hKL
    have HC := Lib.hid hc
    have HWR := Lib.hid hwr
    have HD := Lib.hid hd
    have HG := Lib.hid hg
    have hlt := hd.lt
    have fz := hd.frozen
    clear hc hwr hd hg
    by_cases hz : c' = 0
    · have htD : t = D := by
        have h1 : M < 10 ^ (L + t) := by
          have := HC.out
          rw [hz] at this
          have p : 0 < 10 ^ (L + t) := Nat.pow_pos (by omega)
          rcases Nat.lt_or_ge M (10 ^ (L + t)) with h | h
          · exact h
          · have := Nat.div_pos h p; omega
        have hM0 : M ≠ 0 := by
          rw [← HMD.out]
          exact Nat.mul_ne_zero hN (Nat.ne_of_gt (Nat.pow_pos (by omega)))
        have h2 := nDig_low hM0
        rw [← HMD.out, HNM.out, HMD.out] at h2
        have h3 : 10 ^ (L + D - 1) < 10 ^ (L + t) := Nat.lt_of_le_of_lt h2 h1
        have h4 := (Nat.pow_lt_pow_iff_right (by omega : 1 < 10)).1 h3
        omega
      subst hz
      have htk : bs2.take (L + D) = digs M (L + D) := take_digs bs2 M (L + D) (by rw [HD.out.len]; omega) (fun j hj => HWR.out j (by omega))
      have HTK := Lib.hid htk
      have d1 := HD.out.cnd
      have d2 := HD.out.cdp
      have htrim := fun (n : Nat) (W : World) (dp' : Int) (hdd : Dec W g bs2 n dp' ng tr) (hn : n ≤ 800) => trim_any g n bs2 dp' ng tr W hdd hn
      have HTR := Lib.hid htrim
      clear htk htrim HC
      go_wp2_with fail
      refine cond_no (by simp [over_cons, over_nil, *]) (by decide) ?_
      go_wp2_with fail
      have hd2 : Dec (wl.setCell ⟨g, 800, none⟩ (.int .i64 ((L : Int) + D))) g bs2 ((L + D : Nat) : Int) dp ng tr := by
        have := HD.out.setNd ((L : Int) + D)
        rw [show ((L + D : Nat) : Int) = (L : Int) + D by omega]
        exact this
      have hg2 := HG.out.set 800 (.int .i64 ((L : Int) + D))
      have HD2 := Lib.hid hd2
      have HG2 := Lib.hid hg2
      generalize wl.setCell ⟨g, 800, none⟩ (.int .i64 ((L : Int) + D)) = w5 at *
      have hlt5 := hd2.lt
      have fz5 := hd2.frozen
      have e1 := hd2.cnd
      clear hd2 hg2 HD HG hlt fz d1 d2
      refine cut_F (fun s' w' => s' 0 = .pointer (some ⟨g, 0, none⟩) ∧ s' 4 = .int .i64 (D : Int) ∧ Dec w' g bs2 ((L + D : Nat) : Int) dp ng tr ∧ Gr w w' g) ?_ ?_
      · intro R2 K2 HR hK2
        by_cases h8 : L + D = 800
        · have h8i : (800 : Int) ≤ (L : Int) + D := by omega
          refine cond_yes (by simp [over_cons, over_nil, *]) (by decide) ?_
          go_wp2_with fail
          refine got HR ⟨by simp [over_cons, over_nil, *], by simp [over_cons, over_nil, *], ?_, HG2.out.set _ _⟩
          have := HD2.out.setNd 800
          rw [show ((L + D : Nat) : Int) = 800 by omega]
          exact this
        · have h8i : decide ((800 : Int) ≤ (L : Int) + D) = false := by simp; omega
          refine cond_no (by simp [over_cons, over_nil, *]) (by decide) ?_
          go_wp2_with fail
          exact got HR ⟨by simp [over_cons, over_nil, *], by simp [over_cons, over_nil, *], HD2.out, HG2.out⟩
      clear s0 s4 s6 s7 σ HD2 HG2 hlt5 fz5 e1
      rintro σ w6 ⟨s0, s4, hd, hg⟩
      have hlt := hd.lt
      have fz := hd.frozen
      have d2 := hd.cdp
      have hd3 := fun x => hd.setDp x
      have HD3 := Lib.hid hd3
      have HG3 := Lib.hid hg
      clear hd hg hd3
      go_wp2_with fail
      refine (HTR.out (L + D) _ _ (HD3.out _) (by omega)).mono ?_
      rintro e w7 ⟨rfl, hd7, hg7⟩
      go_wp2_with fail
      refine end_F rfl ⟨rfl, bs2, ?_, ?_, ?_⟩
      · rw [HMD.out, ← HMD.out, HNM.out, HMD.out]; exact HTK.out
      · rw [HNM.out, HL.out]
        rw [show dp + ((L + D : Nat) : Int) - (L : Int) = dp + (D : Int) by omega]
        exact hd7
      · exact (HG3.out.set _ _).trans hg7
    · have htD : t < D := by
        have hc := HC.out
        have h1 : 10 ^ (L + t) ≤ M := by
          rcases Nat.lt_or_ge M (10 ^ (L + t)) with h | h
          · rw [Nat.div_eq_of_lt h] at hc; omega
          · exact h
        have h3 : 10 ^ (L + t) < 10 ^ (L + D) := Nat.lt_of_le_of_lt h1 HML.out
        have h4 := (Nat.pow_lt_pow_iff_right (by omega : 1 < 10)).1 h3
        omega
      obtain ⟨W, hW⟩ : ∃ W, D - t - 1 = W := ⟨_, rfl⟩
      have hWb : W < 800 := by omega
      have hWi : (W : Int) < 800 := by omega
      rw [show (D : Int) - (t : Int) = (W : Int) + 1 by omega] at s6
      have hdW : ∃ v, wl.cell? ⟨g, W, none⟩ = some v := ⟨_, HD.out.digit W hWb⟩
      obtain ⟨vW, hvW⟩ := hdW
      have hzi : 0 < c' := by omega
      have hnn : IntKind.u64.wrap (c' : Int) = (c' : Int) := by rw [IntKind.wrap_u64]; omega
      have HW := Lib.hid hW
      clear hW
      ((repeat (go_wp2_with fail; first | (refine cond_yes ?hc (by decide) ?_; (case hc => (simp [over_cons, over_nil, *]; done))) | (refine cond_no ?hc (by decide) ?_; (case hc => (simp [over_cons, over_nil, *]; done))))); go_wp2_with fail)
      have hlen : bs2.length = 800 := HD.out.len
      have hc := HC.out
      refine gotk HRL (c' / 10) (by omega) ⟨t + 1, c' / 10, bs2.set W (UInt8.ofNat ((c' : Int) - 10 * ((c' : Int) / 10) + 48).toNat), by omega, rfl, ?_, by omega, ?_, by simp [over_cons, over_nil], by simp [over_cons, over_nil, *], by simp [over_cons, over_nil, *], HD.out.setDigit W hWb _ (by omega) (by omega), HG.out.set _ _, ?_⟩
      · rw [hc, Nat.div_div_eq_div_mul, ← Nat.pow_succ]; rfl
      · have : (D : Int) - ((t + 1 : Nat) : Int) = (W : Int) := by have := HW.out; omega
        rw [this]; simp [over_cons, over_nil]
      · intro j hj
        rw [getD_set _ _ _ _ (by omega)]
        by_cases hjq : j = L + t
        · rw [hjq, if_pos (by have := HW.out; omega), show ((c' : Int) - 10 * ((c' : Int) / 10) + 48).toNat = 48 + c' % 10 by omega]
          exact dg_of _ _ _ (by rw [← hc])
        · rw [if_neg (by have := HW.out; omega)]
          exact HWR.out j (by omega)
  | succ r =>
    obtain ⟨q, hq⟩ : ∃ q, L - (r + 1) = q := ⟨_, rfl⟩
    obtain ⟨x, hx⟩ : ∃ x, N / 10 ^ q % 10 = x := ⟨_, rfl⟩
    have hx9 : x ≤ 9 := by rw [← hx]; have : N / 10 ^ q % 10 < 10 := Nat.mod_lt _ (by omega); omega
    have d1 := HD.out.digit r (by omega)
    rw [HUN.out r (by omega), show L - 1 - r = q by omega, dg_toNat, hx, show ((48 + x : Nat) : Int) = 48 + (x : Int) by omega] at d1
    obtain ⟨y, hy⟩ : ∃ y, x * 2 ^ k = y := ⟨_, rfl⟩
    have hyb : y ≤ 9 * 2 ^ 60 := by rw [← hy]; exact Nat.mul_le_mul hx9 hk60
    have hyi : IntKind.u64.wrap ((x : Int) * 2 ^ k) = (y : Int) := by
      have : (x : Int) * 2 ^ k = (y : Int) := by rw [← hy]; simp
      rw [this, IntKind.wrap_u64]; omega
    obtain ⟨n, hn⟩ : ∃ n, c + y = n := ⟨_, rfl⟩
    have hnb : n < 18446744073709551616 := by omega
    have hni : (c : Int) + (y : Int) = (n : Int) := by omega
    obtain ⟨W, hW⟩ : ∃ W, r + D = W := ⟨_, rfl⟩
    have hWb : W < 800 := by omega
    have hWi : (W : Int) < 800 := by omega
    rw [show ((r + 1 : Nat) : Int) - 1 = (r : Int) by omega] at s5
    rw [show ((r + 1 : Nat) : Int) + (D : Int) = (W : Int) + 1 by omega] at s6
    have hri : (r : Int) < 800 := by omega
    have HX := Lib.hid hx
    have HY := Lib.hid hy
    have HQ := Lib.hid hq
    have HN := Lib.hid hn
    have HW := Lib.hid hW
    clear hx hy hq hn hW
    have hdW : ∃ v, wk.cell? ⟨g, W, none⟩ = some v := ⟨_, HD.out.digit W hWb⟩
    obtain ⟨vW, hvW⟩ := hdW
    have h48 : (48 : Int) + (x : Int) - 48 = (x : Int) := by omega
    have hnn : IntKind.u64.wrap (n : Int) = (n : Int) := by rw [IntKind.wrap_u64]; omega
    ((repeat (go_wp2_with fail; first | (refine cond_yes ?hc (by decide) ?_; (case hc => (simp [over_cons, over_nil, *]; done))) | (refine cond_no ?hc (by decide) ?_; (case hc => (simp [over_cons, over_nil, *]; done))))); go_wp2_with fail)
    have hcq : c = lCar N k q := by have := HC.out; rw [HQ.out] at this; exact this
    have hnq : lCar N k q + N / 10 ^ q % 10 * 2 ^ k = n := by rw [HX.out, HY.out, ← hcq, HN.out]
    have hLr : L - r = q + 1 := by have := HQ.out; omega
    have hWq : L + D - 1 - q = W := by have := HQ.out; have := HW.out; omega
    have hlen : bs'.length = 800 := HD.out.len
    refine gotk HRK r (by omega) ⟨r, n / 10, bs'.set W (UInt8.ofNat ((n : Int) - 10 * ((n : Int) / 10) + 48).toNat), by omega, rfl, ?_, by simp [over_cons, over_nil, *], ?_, by simp [over_cons, over_nil], by simp [over_cons, over_nil, *], by simp [over_cons, over_nil, *], by simp [over_cons, over_nil, *], HD.out.setDigit W hWb _ (by omega) (by omega), HG.out.set _ _, ?_, ?_⟩
    · rw [hLr, lCar_succ, hnq]
    · have : (r : Int) + (D : Int) = (W : Int) := by have := HW.out; omega
      rw [this]; simp [over_cons, over_nil]
    · intro i hi
      rw [getD_set _ _ _ _ (by omega), if_neg (by have := HW.out; omega)]
      exact HUN.out i (by omega)
    · intro j hj
      rw [hLr] at hj
      rw [getD_set _ _ _ _ (by omega)]
      by_cases hjq : j = q
      · rw [hjq, if_pos hWq.symm, show ((n : Int) - 10 * ((n : Int) / 10) + 48).toNat = 48 + n % 10 by omega]
        exact dg_of _ _ _ (by rw [lCar_digit, hnq])
      · rw [if_neg (by have := HQ.out; have := HW.out; omega)]
        exact HWR.out j (by rw [HQ.out]; omega)
end Go.Proofs.YtffooimnioigdaaDoor
