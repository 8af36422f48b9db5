/-
  Walk of spec/format.go: hexadecimal.
-/
import Derived.Test.YticlnihjhcepkaaGreatDoorGg
import Derived.Test.YticlnihjhcepkaaGreatDoorGc
namespace Go.Proofs.YticlnihjhcepkaaGreatDoor
open Go.RowKit
set_option linter.unusedSimpArgs false
set_option linter.unusedVariables false

set_option maxHeartbeats 2000000 in
theorem speczerosI_any (n : Int) (w : World) (h1 : -100000 ≤ n) (h2 : n ≤ 100000) :
    Calls Tryz.prog 90 #[.int .i64 n] w fun e w' => e = .returned (.string ⟨(List.replicate n.toNat (48 : UInt8)).toArray⟩) ∧ w.grownBy w' none := by
  by_cases h : 0 ≤ n
  · obtain ⟨k, rfl⟩ : ∃ k : Nat, n = (k : Int) := ⟨n.toNat, by omega⟩
    exact speczeros_any k w (by omega)
  · have h0 : n.toNat = 0 := by omega
    rw [h0]
    refine calls_F Tryz.func90 rfl (by rw [Tryz.ntmps90]; simp) ?_
    intro σ hσ
    rw [Tryz.ntmps90]
    have s0 : σ 0 = .int .i64 n := hσ 0 (by simp)
    clear hσ
    have hown0 : OwnB w.heap.size (w.alloc (Obj.cells #[] 5)) (.slice (some ⟨w.heap.size, 0, none⟩) 0 0) [] := by
      refine ⟨⟨w.heap.size, [], rfl, Row.new w [] _, by simp [maxLen]⟩, fun k hk => ?_⟩
      simp [Value.ownBlock] at hk
      omega
    have HOWN := Lib.hid hown0
    have hcv := str_of_own hown0
    have hd : decide (0 < n) = false := by simp; omega
    clear hown0 h0
    ((repeat (go_wp2_with fail; first | (refine cdY ?_ ?_; focus (simp [ov, *]; done)) | (refine cdN ?_ ?_; focus (simp [ov, *]; done)))); go_wp2_with fail)
    refine loop_F (fun kk s' w' => kk = 0 ∧ s' 0 = .int .i64 n ∧ s' 3 = .slice (some ⟨w.heap.size, 0, none⟩) 0 0 ∧ w' = w.alloc (Obj.cells #[] 5)) 0
      ⟨rfl, by simp [ov, *], by simp [ov, *], rfl⟩ ?_
    clear s0 σ
    rintro kk σ wk ⟨_, s0, s3, rfl⟩ RK KK HRK hKK
    ((repeat (go_wp2_with fail; first | (refine cdY ?_ ?_; focus (simp [ov, *]; done)) | (refine cdN ?_ ?_; focus (simp [ov, *]; done)))); go_wp2_with fail)
    exact ret_F _ rfl (by decide) (by simp [ov, *]) ⟨rfl, World.grownBy_alloc w _ none⟩

theorem tz2_odd (m z : Nat) (hm : m ≠ 0) (hz : z < tz2 m) : m / 2 ^ z % 2 = 0 := by
  obtain ⟨a, ha, ho⟩ := tz2_spec m hm
  obtain ⟨d, hd⟩ : ∃ d, tz2 m = z + (d + 1) := ⟨tz2 m - z - 1, by omega⟩
  rw [hd, Nat.pow_add, Nat.mul_assoc] at ha
  rw [ha, Nat.mul_div_cancel_left _ (Nat.two_pow_pos _), Nat.pow_succ, Nat.mul_comm (2 ^ d) 2, Nat.mul_assoc]
  omega
theorem tz2_bit (m : Nat) (hm : m ≠ 0) : m / 2 ^ tz2 m % 2 = 1 := by
  obtain ⟨a, ha, ho⟩ := tz2_spec m hm
  have : m / 2 ^ tz2 m = a := by
    conv => lhs; lhs; rw [ha]
    exact Nat.mul_div_cancel_left _ (Nat.two_pow_pos _)
  rw [this]; exact ho
theorem nib_step (M t q : Nat) : 2 * (M / 2 ^ (t + 1) % 2 ^ q) + M / 2 ^ t % 2 = M / 2 ^ t % 2 ^ (q + 1) := by
  have h1 : M / 2 ^ (t + 1) = M / 2 ^ t / 2 := by rw [Nat.pow_succ, Nat.div_div_eq_div_mul]
  rw [h1, Nat.pow_succ, Nat.mul_comm (2 ^ q) 2, Nat.mod_mul]
  omega

theorem hxM_le (m c : Nat) (hm0 : m ≠ 0) : hxM m c ≤ 2 ^ (4 * c + 1) := by
  have hhi := @Nat.lt_log2_self m
  have key : ∀ a b, a / b < 2 ^ (4 * c + 1) → rndE a b ≤ 2 ^ (4 * c + 1) := by
    intro a b h
    unfold rndE
    split <;> omega
  unfold hxM
  split
  · rename_i h
    refine key _ _ ?_
    rw [Nat.div_one, show 4 * c + 1 = m.log2 + 1 + (4 * c - m.log2) by omega, Nat.pow_add]
    exact Nat.mul_lt_mul_of_pos_right hhi (Nat.two_pow_pos _)
  · rename_i h
    refine key _ _ ?_
    rw [Nat.div_lt_iff_lt_mul (Nat.two_pow_pos _), ← Nat.pow_add, show 4 * c + 1 + (m.log2 - 4 * c) = m.log2 + 1 by omega]
    exact hhi

set_option maxRecDepth 100000 in
set_option maxHeartbeats 8000000 in
theorem hexadecimal_any (size : Int) (b m : Nat) (e0 : Int) (up : Bool) (prec : Int) (w : World) (hm : m < 2 ^ 53) (he1 : -2000 ≤ e0) (he2 : e0 ≤ 2000) (hp1 : -1 ≤ prec) (hp2 : prec ≤ 6000)
    (hP : ∀ W, Calls Tryz.prog 44 #[.int .i64 size, .int .u64 (b : Int)] W fun e w' => e = .returned (.tuple #[.int .u64 (m : Int), .int .i64 e0]) ∧ W.grownBy w' none) :
    Calls Tryz.prog 68 #[.int .i64 size, .int .u64 (b : Int), .bool up, .int .i64 prec] w fun e w' => e = .returned (.string ⟨(hexadL up m e0 prec).toArray⟩) ∧ w.grownBy w' none := by
  have HP := Lib.hid hP
  clear hP
  refine calls_F Tryz.func68 rfl (by rw [Tryz.ntmps68]; simp) ?_
  intro σ hσ
  rw [Tryz.ntmps68]
  have s0 : σ 0 = .int .i64 size := hσ 0 (by simp)
  have s1 : σ 1 = .int .u64 (b : Int) := hσ 1 (by simp)
  have s2 : σ 2 = .bool up := hσ 2 (by simp)
  have s3 : σ 3 = .int .i64 prec := hσ 3 (by simp)
  clear hσ
  go_wp2_with fail
  refine (HP.out _).mono ?_
  rintro r w1 ⟨rfl, hg1⟩
  have HG1 := Lib.hid hg1
  clear hg1 HP
  go_wp2_with fail
  obtain ⟨xc, hxc⟩ : ∃ xc : UInt8, (if up = true then (88 : UInt8) else 120) = xc := ⟨_, rfl⟩
  obtain ⟨lt, hlt⟩ : ∃ lt : UInt8, (if up = true then (80 : UInt8) else 112) = lt := ⟨_, rfl⟩
  refine cut_F (fun s' w' => s' 3 = .int .i64 prec ∧ s' 9 = .int .u64 (m : Int) ∧ s' 10 = .int .i64 e0 ∧ s' 11 = .string (hexA up) ∧ s' 12 = .string ⟨#[48, xc]⟩ ∧ s' 13 = .int .u8 (lt.toNat : Int) ∧ w1 = w') ?_ ?_
  · intro R' K' HR hK'
    subst hxc
    subst hlt
    cases up
    · ((repeat (go_wp2_with fail; first | (refine cdY ?_ ?_; focus (simp [ov, *]; done)) | (refine cdN ?_ ?_; focus (simp [ov, *]; done)))); go_wp2_with fail)
      exact got HR (by simp [over_cons, over_nil, hexA, *])
    · ((repeat (go_wp2_with fail; first | (refine cdY ?_ ?_; focus (simp [ov, *]; done)) | (refine cdN ?_ ?_; focus (simp [ov, *]; done)))); go_wp2_with fail)
      refine got HR ⟨by simp [ov, *], by simp [ov, *], by simp [ov, *], by simp [over_cons, over_nil, hexA], by simp [over_cons, over_nil], by simp [over_cons, over_nil], rfl⟩
  clear s0 s1 s2 s3 σ
  rintro σ w' ⟨s3, s9, s10, s11, s12, s13, rfl⟩
  have HXC := Lib.hid hxc
  have HLT := Lib.hid hlt
  clear hxc hlt
  by_cases hm0 : m = 0
  · subst hm0
    have hres : hexadL up 0 e0 prec = [48, xc] ++ (ptL (48 :: List.replicate prec.toNat 48) ++ expT lt 0 false) := by
      unfold hexadL
      rw [HXC.out, HLT.out, if_pos rfl]
    have HRES := Lib.hid hres
    have HZ := Lib.hid (fun W => speczerosI_any prec W (by omega) (by omega))
    have hrl : (List.replicate prec.toNat (48 : UInt8)).length ≤ 6000 := by simp; omega
    generalize List.replicate prec.toNat (48 : UInt8) = zs at *
    have HPT := Lib.hid (fun W => pointed_any (48 :: zs) W (by simp) (by simp; omega))
    have HET := Lib.hid (fun W => exponentText_any lt 0 false W (by omega) (by omega))
    have hpl : (ptL (48 :: zs)).length ≤ 10000 := by rw [ptL_cons]; split <;> simp; omega
    have hel : (expT lt 0 false).length ≤ 100 := by rw [expT_xExp lt 0 (by omega) (by omega), List.length_cons]; exact Nat.le_trans (Nat.add_le_add_right (by decide : (xExp 0).length ≤ 10) 1) (by omega)
    generalize ptL (48 :: zs) = ps at *
    generalize expT lt 0 false = es at *
    have c1 : (⟨#[48]⟩ : ByteArray) ++ ⟨zs.toArray⟩ = ⟨(48 :: zs).toArray⟩ := cat_mk [48] zs
    have c2 : (⟨#[48, xc]⟩ : ByteArray) ++ ⟨ps.toArray⟩ = ⟨(48 :: xc :: ps).toArray⟩ := cat_mk [48, xc] ps
    have c3 : (⟨(48 :: xc :: ps).toArray⟩ : ByteArray) ++ ⟨es.toArray⟩ = ⟨(48 :: xc :: (ps ++ es)).toArray⟩ := cat_mk (48 :: xc :: ps) es
    have z1 : (⟨zs.toArray⟩ : ByteArray).size = zs.length := by simp [ByteArray.size]
    have z2 : (⟨ps.toArray⟩ : ByteArray).size = ps.length := by simp [ByteArray.size]
    have z3 : (⟨es.toArray⟩ : ByteArray).size = es.length := by simp [ByteArray.size]
    have z4 : (⟨(48 :: xc :: ps).toArray⟩ : ByteArray).size = ps.length + 2 := by simp [ByteArray.size]
    generalize zs.length = l1 at *
    generalize ps.length = l2 at *
    generalize es.length = l3 at *
    clear hres
    ((repeat (go_wp2_with fail; first | (refine cdY ?_ ?_; focus (simp [ov, *]; done)) | (refine cdN ?_ ?_; focus (simp [ov, *]; done)))); go_wp2_with fail)
    refine (HZ.out _).mono ?_
    rintro r w2 ⟨rfl, hg2⟩
    have HG2 := Lib.hid (grown_none_tr HG1.out hg2)
    clear hg2
    go_wp2_with fail
    refine (HPT.out _).mono ?_
    rintro r w3 ⟨rfl, hg3⟩
    have HG3 := Lib.hid (grown_none_tr HG2.out hg3)
    clear hg3
    go_wp2_with fail
    refine (HET.out _).mono ?_
    rintro r w4 ⟨rfl, hg4⟩
    have HG4 := Lib.hid (grown_none_tr HG3.out hg4)
    clear hg4
    ((repeat (go_wp2_with fail; first | (refine cdY ?_ ?_; focus (simp [ov, *]; done)) | (refine cdN ?_ ?_; focus (simp [ov, *]; done)))); go_wp2_with fail)
    exact ret_F (.string ⟨(48 :: xc :: (ps ++ es)).toArray⟩) rfl (by decide) (by simp [ov, *]) ⟨by rw [HRES.out]; rfl, HG4.out⟩
  -- a number that is not zero
  have hk0 : m.log2 ≤ 52 := by have := (Nat.log2_lt hm0).2 hm; omega
  have hnb : nbits m = m.log2 + 1 := by unfold nbits; rw [if_neg hm0]
  have hml : m < 18446744073709551616 := Nat.lt_trans hm (by decide)
  have hnl : (natL m).length ≤ 3 := natL_len_le (Nat.lt_trans hm (by decide))
  have htz := tz2_le m hm0
  have hcb : hxCnt m prec ≤ 6000 := by unfold hxCnt; split <;> omega
  have hres : hexadL up m e0 prec = [48, xc] ++ (ptL (hxT up (hxF m (hxCnt m prec)) (hxCnt m prec + 1)) ++ expT lt (e0 + m.log2 + hxE m (hxCnt m prec)) false) := by
    unfold hexadL
    rw [HXC.out, HLT.out, if_neg hm0]
  have HRES := Lib.hid hres
  have HNO := Lib.hid (fun W => natOf_any m W hml)
  have HNB := Lib.hid (fun v W h => natBits_any v m W h (by omega))
  rw [hnb] at HNB
  have HBT := Lib.hid (fun z (hz : z ≤ 100) v W h => bit_any v m z W h (by omega) (by omega))
  have HTO := Lib.hid (fun z => tz2_odd m z hm0)
  have HTB := Lib.hid (tz2_bit m hm0)
  obtain ⟨c, hc⟩ : ∃ c, hxCnt m prec = c := ⟨_, rfl⟩
  obtain ⟨k, hk⟩ : ∃ k, m.log2 = k := ⟨_, rfl⟩
  obtain ⟨t, ht⟩ : ∃ t, tz2 m = t := ⟨_, rfl⟩
  rw [hc, hk] at HRES
  rw [hc] at hcb
  rw [hk] at hk0 htz HNB
  rw [ht] at htz HTO HTB
  have hcdef : c = if prec < 0 then (k - t + 3) / 4 else prec.toNat := by rw [← hc]; unfold hxCnt; rw [hk, ht]
  have HCD := Lib.hid hcdef
  have HK := Lib.hid hk
  have hm0' : ((m : Int) == 0) = false := by rw [beq_eq_false_iff_ne]; omega
  have hm0'' : (m == 0) = false := by rw [beq_eq_false_iff_ne]; exact hm0
  clear hres hc hk ht hcdef hnb
  ((repeat (go_wp2_with fail; first | (refine cdY ?_ ?_; focus (simp [ov, *]; done)) | (refine cdN ?_ ?_; focus (simp [ov, *]; done)))); go_wp2_with fail)
  refine (HNO.out _).mono ?_
  rintro r w2 ⟨v14, rfl, hv14, hg2⟩
  have HG2 := Lib.hid (grown_none_tr HG1.out hg2)
  have HV14 := Lib.hid hv14
  clear hv14 hg2
  go_wp2_with fail
  refine (HNB.out _ _ HV14.out).mono ?_
  rintro r w3 ⟨rfl, rfl⟩
  go_wp2_with fail
  refine cut_F (fun s' w' => s' 10 = .int .i64 (e0 + (k : Int)) ∧ s' 11 = .string (hexA up) ∧ s' 12 = .string ⟨#[48, xc]⟩ ∧ s' 13 = .int .u8 (lt.toNat : Int) ∧ s' 14 = v14 ∧ s' 15 = .int .i64 (k : Int) ∧ s' 16 = .int .i64 (c : Int) ∧ w2 = w') ?_ ?_
  · intro R' K' HR hK'
    by_cases hneg : prec < 0
    · have hcd := HCD.out
      rw [if_pos hneg] at hcd
      ((repeat (go_wp2_with fail; first | (refine cdY ?_ ?_; focus (simp [ov, *]; done)) | (refine cdN ?_ ?_; focus (simp [ov, *]; done)))); go_wp2_with fail)
      refine loop_F (fun kk s' w' => ∃ z : Nat, z ≤ t ∧ kk = t - z ∧ s' 17 = .int .i64 (z : Int) ∧ s' 10 = .int .i64 (e0 + (k : Int)) ∧ s' 11 = .string (hexA up) ∧ s' 12 = .string ⟨#[48, xc]⟩ ∧ s' 13 = .int .u8 (lt.toNat : Int) ∧ s' 14 = v14 ∧ s' 15 = .int .i64 (k : Int) ∧ w2 = w') t
        ⟨0, Nat.zero_le _, rfl, by simp [ov, *], by simp [ov, *], by simp [ov, *], by simp [ov, *], by simp [ov, *], by simp [ov, *], by simp [ov, *], rfl⟩ ?_
      clear s3 s9 s10 s11 s12 s13 σ
      rintro kk σ wk ⟨z, hz, hkk, s17, s10, s11, s12, s13, s14, s15, rfl⟩ RK KK HRK hKK
      have HKK := Lib.hid hkk
      clear hkk
      have HB := Lib.hid (HBT.out z (by omega) v14 w2 HV14.out)
      by_cases hzt : z = t
      · subst hzt
        rw [HTB.out] at HB
        ((repeat (go_wp2_with (first | (refine HB.out.mono ?_; rintro r w8 ⟨rfl, rfl⟩)); first | (refine cdY ?_ ?_; focus (simp [ov, *]; done)) | (refine cdN ?_ ?_; focus (simp [ov, *]; done)))); go_wp2_with (first | (refine HB.out.mono ?_; rintro r w8 ⟨rfl, rfl⟩)))
        exact got HR ⟨by simp [ov, *], by simp [ov, *], by simp [ov, *], by simp [ov, *], by simp [ov, *], by simp [ov, *], by simp [over_cons, over_nil]; omega, rfl⟩
      · have hzt2 : z < t := by omega
        rw [HTO.out z hzt2] at HB
        ((repeat (go_wp2_with (first | (refine HB.out.mono ?_; rintro r w8 ⟨rfl, rfl⟩)); first | (refine cdY ?_ ?_; focus (simp [ov, *]; done)) | (refine cdN ?_ ?_; focus (simp [ov, *]; done)))); go_wp2_with (first | (refine HB.out.mono ?_; rintro r w8 ⟨rfl, rfl⟩)))
        exact gotk HRK (t - (z + 1)) (by have := HKK.out; omega) ⟨z + 1, by omega, rfl, by simp [over_cons, over_nil], by simp [ov, *], by simp [ov, *], by simp [ov, *], by simp [ov, *], by simp [ov, *], by simp [ov, *], rfl⟩
    · have hcd := HCD.out
      rw [if_neg hneg] at hcd
      have hpc : prec = (c : Int) := by omega
      have hneg' : decide (prec < 0) = false := by simpa using hneg
      subst hpc
      clear hneg hcd
      ((repeat (go_wp2_with fail; first | (refine cdY ?_ ?_; focus (simp [ov, *]; done)) | (refine cdN ?_ ?_; focus (simp [ov, *]; done)))); go_wp2_with fail)
      exact got HR (by simp [ov, *])
  clear s3 s9 s10 s11 s12 s13 σ HNO HNB HBT HTO HTB HCD hm0' hm0'' hp1 hp2
  rintro σ w' ⟨s10, s11, s12, s13, s14, s15, s16, rfl⟩
  -- the rounded number
  have hM1 : ∀ W, NatV W v14 m → Calls Tryz.prog 45 #[v14, .int .u64 2, .int .i64 (4 * (c : Int) - (k : Int))] W fun x w' => ∃ vn vd, x = .returned (.agg #[.bool false, vn, vd]) ∧ NatV w' vn (m * 2 ^ (4 * (c : Int) - (k : Int)).toNat) ∧ NatV w' vd (2 ^ (-(4 * (c : Int) - (k : Int))).toNat) ∧ W.grownBy w' none :=
    fun W h => scaled_any v14 m 2 (4 * (c : Int) - (k : Int)) W h (by omega) (by omega) (by omega) (by omega) (by omega)
  have hMl1 : (natL (m * 2 ^ (4 * (c : Int) - (k : Int)).toNat)).length ≤ 80000 := by
    have h1 : m * 2 ^ (4 * (c : Int) - (k : Int)).toNat < 1073741824 ^ (2 + (4 * (c : Int) - (k : Int)).toNat) := by
      rw [Nat.pow_add]
      exact Nat.mul_lt_mul_of_lt_of_le (Nat.lt_trans hm (by decide)) (Nat.pow_le_pow_left (by decide) _) (Nat.pow_pos (by decide))
    exact Nat.le_trans (natL_len_le h1) (by omega)
  have hMl2 : (natL (2 ^ (-(4 * (c : Int) - (k : Int))).toNat)).length ≤ 80000 := by
    have h1 : 2 ^ (-(4 * (c : Int) - (k : Int))).toNat < 1073741824 ^ ((-(4 * (c : Int) - (k : Int))).toNat + 1) := Nat.lt_of_lt_of_le (Nat.pow_lt_pow_right (by decide) (Nat.lt_succ_self _)) (Nat.pow_le_pow_left (by decide) _)
    exact Nat.le_trans (natL_len_le h1) (by omega)
  have hMv : rndE (m * 2 ^ (4 * (c : Int) - (k : Int)).toNat) (2 ^ (-(4 * (c : Int) - (k : Int))).toNat) = hxM m c := by
    unfold hxM
    rw [HK.out]
    by_cases h : k ≤ 4 * c
    · rw [if_pos h, show (4 * (c : Int) - (k : Int)).toNat = 4 * c - k by omega, show (-(4 * (c : Int) - (k : Int))).toNat = 0 by omega, Nat.pow_zero]
    · rw [if_neg h, show (4 * (c : Int) - (k : Int)).toNat = 0 by omega, show (-(4 * (c : Int) - (k : Int))).toNat = k - 4 * c by omega, Nat.pow_zero, Nat.mul_one]
  have HM1 := Lib.hid hM1
  have HRO := Lib.hid (fun vn vd W h1 h2 => rounded_any false vn vd _ _ W h1 h2 (Nat.two_pow_pos (-(4 * (c : Int) - (k : Int))).toNat) hMl1 hMl2)
  rw [hMv] at HRO
  clear hM1 hMl1 hMl2 hMv
  go_wp2_with fail
  refine (HM1.out _ HV14.out).mono ?_
  rintro r w4 ⟨vn, vd, rfl, hvn, hvd, hg4⟩
  have HVN := Lib.hid hvn
  have HVD := Lib.hid hvd
  have HG4 := Lib.hid (grown_none_tr HG2.out hg4)
  clear hvn hvd hg4 HM1
  go_wp2_with fail
  refine (HRO.out _ _ _ HVN.out HVD.out).mono ?_
  rintro r w5 ⟨v18, rfl, hv18, hg5⟩
  have HV18 := Lib.hid hv18
  have HG5 := Lib.hid (grown_none_tr HG4.out hg5)
  clear hv18 hg5 HRO HVN HVD HG4 HG2 HV14
  have hMle := hxM_le m c hm0
  have hMl : (natL (hxM m c)).length ≤ 24002 := by
    have h1 : hxM m c < 1073741824 ^ (4 * c + 2) := Nat.lt_of_le_of_lt hMle (Nat.lt_of_lt_of_le (Nat.pow_lt_pow_right (by decide) (by omega : 4 * c + 1 < 4 * c + 2)) (Nat.pow_le_pow_left (by decide) _))
    exact Nat.le_trans (natL_len_le h1) (by omega)
  have hFle : (natL (hxF m c)).length ≤ 24002 := by
    refine Nat.le_trans (natL_mono ?_) hMl
    unfold hxF
    split <;> omega
  have hE1 : hxE m c ≤ 1 := by unfold hxE; split <;> omega
  have hFd : hxF m c = if 4 * c + 1 < nbits (hxM m c) then hxM m c / 2 else hxM m c := rfl
  have hEd : hxE m c = if 4 * c + 1 < nbits (hxM m c) then 1 else 0 := rfl
  have HNB := Lib.hid (fun v W h => natBits_any v (hxM m c) W h (by omega))
  have HNO := Lib.hid (fun W => natOf_any 2 W (by omega))
  have hn2 : (natL 2).length ≤ 90000 := Nat.le_trans (natL_len_le (k := 1) (by decide)) (by omega)
  have HDV := Lib.hid (fun v v2 W h h2 => divNat_any v v2 (hxM m c) 2 W h h2 (by omega) (by omega) hn2)
  have hnbl : nbits (hxM m c) ≤ 30000 := by
    by_cases h0 : hxM m c = 0
    · rw [h0]; simp [nbits]
    · have h1 := nbits_le h0
      have h3 := (Nat.pow_le_pow_iff_right (a := 2) (by decide)).1 (Nat.le_trans h1 hMle)
      omega
  generalize hxF m c = F at *
  generalize hxE m c = E1 at *
  generalize hxM m c = M at *
  generalize nbits M = nb at *
  have HFD := Lib.hid hFd
  have HED := Lib.hid hEd
  clear hFd hEd hMle hMl hn2
  go_wp2_with fail
  refine (HNB.out _ _ HV18.out).mono ?_
  rintro r w6 ⟨rfl, rfl⟩
  go_wp2_with fail
  refine cut_F (fun s' w' => ∃ v, s' 10 = .int .i64 (e0 + (k : Int) + (E1 : Int)) ∧ s' 11 = .string (hexA up) ∧ s' 12 = .string ⟨#[48, xc]⟩ ∧ s' 13 = .int .u8 (lt.toNat : Int) ∧ s' 16 = .int .i64 (c : Int) ∧ s' 18 = v ∧ NatV w' v F ∧ w.grownBy w' none) ?_ ?_
  · intro R' K' HR hK'
    by_cases hgt : 4 * c + 1 < nb
    · have hF := HFD.out
      have hE := HED.out
      rw [if_pos hgt] at hF hE
      subst hF
      subst hE
      have g1 : 4 * (c : Int) + 1 < (nb : Int) := by omega
      ((repeat (go_wp2_with fail; first | (refine cdY ?_ ?_; focus (simp [ov, *]; done)) | (refine cdN ?_ ?_; focus (simp [ov, *]; done)))); go_wp2_with fail)
      refine (HNO.out _).mono ?_
      rintro r w7 ⟨v2, rfl, hv2, hg7⟩
      have HV2 := Lib.hid hv2
      have HV18b := Lib.hid (HV18.out.grown hg7)
      have HG7 := Lib.hid (grown_none_tr HG5.out hg7)
      clear hv2 hg7
      go_wp2_with fail
      refine (HDV.out _ _ _ HV18b.out HV2.out).mono ?_
      rintro r w8 ⟨vq, vr, rfl, hvq, hvr, hg8⟩
      have HVQ := Lib.hid hvq
      have HG8 := Lib.hid (grown_none_tr HG7.out hg8)
      clear hvq hvr hg8
      ((repeat (go_wp2_with fail; first | (refine cdY ?_ ?_; focus (simp [ov, *]; done)) | (refine cdN ?_ ?_; focus (simp [ov, *]; done)))); go_wp2_with fail)
      exact got HR ⟨vq, by simp [ov, *], by simp [ov, *], by simp [ov, *], by simp [ov, *], by simp [ov, *], by simp [ov, *], HVQ.out, HG8.out⟩
    · have hF := HFD.out
      have hE := HED.out
      rw [if_neg hgt] at hF hE
      subst hF
      subst hE
      have g1 : decide (4 * (c : Int) + 1 < (nb : Int)) = false := by simp; omega
      have g2 : decide (4 * c + 1 < nb) = false := by simp; omega
      ((repeat (go_wp2_with fail; first | (refine cdY ?_ ?_; focus (simp [ov, *]; done)) | (refine cdN ?_ ?_; focus (simp [ov, *]; done)))); go_wp2_with fail)
      exact got HR ⟨v18, by simp [ov, *], by simp [ov, *], by simp [ov, *], by simp [ov, *], by simp [ov, *], by simp [ov, *], HV18.out, HG5.out⟩
  clear s10 s11 s12 s13 s14 s15 s16 σ HFD HED HNB HNO HDV hnbl HV18 HG5
  rintro σ wF ⟨vF, s10, s11, s12, s13, s16, s18, hvF, hgF⟩
  have HVF := Lib.hid hvF
  have HGF := Lib.hid hgF
  have HBT := Lib.hid (fun z (hz : z ≤ 100000) W (h : wF.grownBy W none) => bit_any vF F z W (hvF.grown h) (by omega) (by omega))
  clear hvF hgF
  have hown0 : OwnB wF.heap.size (wF.alloc (Obj.cells #[] 5)) (.slice (some ⟨wF.heap.size, 0, none⟩) 0 0) [] := by
    refine ⟨⟨wF.heap.size, [], rfl, Row.new wF [] _, by simp [maxLen]⟩, fun k hk => ?_⟩
    simp [Value.ownBlock] at hk
    omega
  have HOWN := Lib.hid hown0
  have HGA := Lib.hid (World.grownBy_alloc wF (Obj.cells #[] 5) none)
  obtain ⟨B, hB⟩ : ∃ B, wF.heap.size = B := ⟨_, rfl⟩
  rw [hB] at HOWN
  have hsz := hexA_size up
  have hidx := hexD_is up
  clear hown0
  ((repeat (go_wp2_with fail; first | (refine cdY ?_ ?_; focus (simp [ov, *]; done)) | (refine cdN ?_ ?_; focus (simp [ov, *]; done)))); go_wp2_with fail)
  refine loop_F (fun kk s' w' => ∃ (r : Nat) (out : List UInt8) (vo : Value), r ≤ c + 1 ∧ kk = r ∧ out ++ hxT up F r = hxT up F (c + 1) ∧ out.length + r = c + 1 ∧ s' 10 = .int .i64 (e0 + (k : Int) + (E1 : Int)) ∧ s' 11 = .string (hexA up) ∧ s' 12 = .string ⟨#[48, xc]⟩ ∧ s' 13 = .int .u8 (lt.toNat : Int) ∧ s' 18 = vF ∧ s' 19 = vo ∧ s' 20 = .int .i64 ((r : Int) - 1) ∧ OwnB B w' vo out ∧ wF.grownBy w' none) (c + 1)
    ⟨c + 1, [], .slice (some ⟨B, 0, none⟩) 0 0, Nat.le_refl _, rfl, rfl, by simp, by simp [ov, *], by simp [ov, *], by simp [ov, *], by simp [ov, *], by simp [ov, *], by simp [ov, *], by simp [ov, *], HOWN.out, HGA.out⟩ ?_
  clear s10 s11 s12 s13 s16 s18 σ HOWN HGA
  rintro kk σ wi ⟨r, out, vo, hr, hkk, hout, hol, s10, s11, s12, s13, s18, s19, s20, hob, hg⟩ RI KI HRI hKI
  have HKK := Lib.hid hkk
  have HOUT := Lib.hid hout
  have HOL := Lib.hid hol
  have HOB := Lib.hid hob
  have HG := Lib.hid hg
  have holl : out.length ≤ 6001 := by omega
  clear hkk hout hol hob hg
  by_cases hr0 : r = 0
  · subst hr0
    have hfin : out = hxT up F (c + 1) := by have := HOUT.out; simpa [hxT] using this
    have hcv := str_of_own HOB.out
    have HPT := Lib.hid (fun W => pointed_any out W (by have := HOL.out; omega) (by omega))
    have HET := Lib.hid (fun W => exponentText_any lt (e0 + (k : Int) + (E1 : Int)) false W (by omega) (by omega))
    have hpl : (ptL out).length ≤ 10000 := by
      unfold ptL
      split
      · omega
      · simp; omega
    have hel : (expT lt (e0 + (k : Int) + (E1 : Int)) false).length ≤ 100 := by
      rw [expT_xExp lt _ (by omega) (by omega), List.length_cons]
      unfold xExp
      rw [List.length_cons]
      split
      · simp
      · split <;> simp
    rw [← hfin] at HRES
    generalize expT lt (e0 + (k : Int) + (E1 : Int)) false = es at *
    generalize ptL out = ps at *
    have c2 : (⟨#[48, xc]⟩ : ByteArray) ++ ⟨ps.toArray⟩ = ⟨(48 :: xc :: ps).toArray⟩ := cat_mk [48, xc] ps
    have c3 : (⟨(48 :: xc :: ps).toArray⟩ : ByteArray) ++ ⟨es.toArray⟩ = ⟨(48 :: xc :: (ps ++ es)).toArray⟩ := cat_mk (48 :: xc :: ps) es
    have z2 : (⟨ps.toArray⟩ : ByteArray).size = ps.length := by simp [ByteArray.size]
    have z3 : (⟨es.toArray⟩ : ByteArray).size = es.length := by simp [ByteArray.size]
    have z4 : (⟨(48 :: xc :: ps).toArray⟩ : ByteArray).size = ps.length + 2 := by simp [ByteArray.size]
    generalize ps.length = l2 at *
    generalize es.length = l3 at *
    clear hfin hsz hidx
    ((repeat (go_wp2_with fail; first | (refine cdY ?_ ?_; focus (simp [ov, *]; done)) | (refine cdN ?_ ?_; focus (simp [ov, *]; done)))); go_wp2_with fail)
    refine (HPT.out _).mono ?_
    rintro r w8 ⟨rfl, hg8⟩
    have HG8 := Lib.hid (grown_none_tr HG.out hg8)
    clear hg8
    go_wp2_with fail
    refine (HET.out _).mono ?_
    rintro r w9 ⟨rfl, hg9⟩
    have HG9 := Lib.hid (grown_none_tr HGF.out (grown_none_tr HG8.out hg9))
    clear hg9
    ((repeat (go_wp2_with fail; first | (refine cdY ?_ ?_; focus (simp [ov, *]; done)) | (refine cdN ?_ ?_; focus (simp [ov, *]; done)))); go_wp2_with fail)
    exact ret_F (.string ⟨(48 :: xc :: (ps ++ es)).toArray⟩) rfl (by decide) (by simp [ov, *]) ⟨by rw [HRES.out]; rfl, HG9.out⟩
  · obtain ⟨i, rfl⟩ : ∃ j, r = j + 1 := ⟨r - 1, by omega⟩
    have e1 : ((i + 1 : Nat) : Int) - 1 = (i : Int) := by omega
    rw [e1] at s20
    have hi0 : (0 : Int) ≤ (i : Int) := by omega
    have hi6 : i ≤ 6000 := by omega
    clear e1 hr0
    ((repeat (go_wp2_with fail; first | (refine cdY ?_ ?_; focus (simp [ov, *]; done)) | (refine cdN ?_ ?_; focus (simp [ov, *]; done)))); go_wp2_with fail)
    refine loop_F (fun k2 s' w' => ∃ (j d : Nat), j ≤ 4 ∧ k2 = j ∧ d = F / 2 ^ (4 * i + j) % 2 ^ (4 - j) ∧ d < 16 ∧ s' 10 = .int .i64 (e0 + (k : Int) + (E1 : Int)) ∧ s' 11 = .string (hexA up) ∧ s' 12 = .string ⟨#[48, xc]⟩ ∧ s' 13 = .int .u8 (lt.toNat : Int) ∧ s' 18 = vF ∧ s' 19 = vo ∧ s' 20 = .int .i64 (i : Int) ∧ s' 21 = .int .i64 (d : Int) ∧ s' 22 = .int .i64 ((j : Int) - 1) ∧ wi = w') 4
      ⟨4, 0, by omega, rfl, by simp [Nat.mod_one], by omega, by simp [ov, *], by simp [ov, *], by simp [ov, *], by simp [ov, *], by simp [ov, *], by simp [ov, *], by simp [ov, *], by simp [ov, *], by simp [ov, *], rfl⟩ ?_
    clear s10 s11 s12 s13 s18 s19 s20 σ
    rintro k2 σ wj ⟨j, d, hj, hk2, hd, hd16, s10, s11, s12, s13, s18, s19, s20, s21, s22, rfl⟩ RJ KJ HRJ hKJ
    have HK2 := Lib.hid hk2
    have HD := Lib.hid hd
    clear hk2 hd
    by_cases hj0 : j = 0
    · subst hj0
      have hdd : d = F / 16 ^ i % 16 := by
        have := HD.out
        rw [Nat.add_zero, Nat.sub_zero, Nat.pow_mul] at this
        exact this
      have hlt : d < (hexA up).size := by rw [hsz]; exact hd16
      have hix := hidx d hlt
      have hdi : (d : Int) < 16 := by omega
      have HDD := Lib.hid hdd
      clear hidx hdd
      obtain ⟨x, hx⟩ : ∃ x, hexD up d = x := ⟨_, rfl⟩
      rw [hx] at hix
      have HX := Lib.hid hx
      clear hx
      ((repeat (go_wp2_with (first | (at_builtin; refine wpList_appF rfl _ _ _ _ rfl (by decide) (by decide) byteTy (HOB.out.alloc _) (by simp [ov, *]) _ (by simp [ov, *]) [x] (src_new Tryz.underlying51 [x] _) (by simp; omega) ?_; intro v2 w2 ho1 hs1)); first | (refine cdY ?_ ?_; focus (simp [ov, *]; done)) | (refine cdN ?_ ?_; focus (simp [ov, *]; done)))); go_wp2_with (first | (at_builtin; refine wpList_appF rfl _ _ _ _ rfl (by decide) (by decide) byteTy (HOB.out.alloc _) (by simp [ov, *]) _ (by simp [ov, *]) [x] (src_new Tryz.underlying51 [x] _) (by simp; omega) ?_; intro v2 w2 ho1 hs1)))
      refine gotk HRI i (by have := HKK.out; omega) ⟨i, out ++ [x], v2, by omega, rfl, ?_, by have := HOL.out; rw [List.length_append]; simp; omega, by simp [ov, *], by simp [ov, *], by simp [ov, *], by simp [ov, *], by simp [ov, *], by simp [ov, *], by simp [over_cons, over_nil], ho1, ?_⟩
      · rw [← HOUT.out, hxT, List.append_assoc, ← HX.out, HDD.out]
        rfl
      · refine grown_trans (grown_none_trans HG.out (World.grownBy_alloc wi _ none)) hs1.1 (fun j e hj => ?_)
        have := HOB.out.2 j e
        omega
    · obtain ⟨j', rfl⟩ : ∃ j', j = j' + 1 := ⟨j - 1, by omega⟩
      have e1 : ((j' + 1 : Nat) : Int) - 1 = (j' : Int) := by omega
      rw [e1] at s22
      have hns := nib_step F (4 * i + j') (3 - j')
      have hd2 := HD.out
      rw [show 4 * i + (j' + 1) = 4 * i + j' + 1 by omega, show 4 - (j' + 1) = 3 - j' by omega] at hd2
      rw [← hd2, show 3 - j' + 1 = 4 - j' by omega] at hns
      have hBT := HBT.out (4 * i + j') (by omega) wi HG.out
      rw [show ((4 * i + j' : Nat) : Int) = 4 * (i : Int) + (j' : Int) by omega] at hBT
      have HB := Lib.hid hBT
      have hlim : F / 2 ^ (4 * i + j') % 2 ^ (4 - j') < 16 := by
        have h1 : F / 2 ^ (4 * i + j') % 2 ^ (4 - j') < 2 ^ (4 - j') := Nat.mod_lt _ (Nat.two_pow_pos _)
        have h2 : 2 ^ (4 - j') ≤ 2 ^ 4 := Nat.pow_le_pow_right (by omega) (by omega)
        omega
      obtain ⟨bt, hbt⟩ : ∃ bt, F / 2 ^ (4 * i + j') % 2 = bt := ⟨_, rfl⟩
      rw [hbt] at hns HB
      have hb1 : bt < 2 := by rw [← hbt]; omega
      have hj1 : (0 : Int) ≤ (j' : Int) := by omega
      have hj3 : j' ≤ 3 := by omega
      have HNS := Lib.hid hns
      have HLI := Lib.hid hlim
      clear hns hd2 hBT hlim hbt e1 hj0 hidx
      ((repeat (go_wp2_with (first | (refine HB.out.mono ?_; rintro r w8 ⟨rfl, rfl⟩)); first | (refine cdY ?_ ?_; focus (simp [ov, *]; done)) | (refine cdN ?_ ?_; focus (simp [ov, *]; done)))); go_wp2_with (first | (refine HB.out.mono ?_; rintro r w8 ⟨rfl, rfl⟩)))
      exact gotk HRJ j' (by have := HK2.out; omega) ⟨j', 2 * d + bt, by omega, rfl, HNS.out, by rw [HNS.out]; exact HLI.out, by simp [ov, *], by simp [ov, *], by simp [ov, *], by simp [ov, *], by simp [ov, *], by simp [ov, *], by simp [ov, *], by simp [over_cons, over_nil], by simp [over_cons, over_nil], rfl⟩
end Go.Proofs.YticlnihjhcepkaaGreatDoor
