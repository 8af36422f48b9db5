/-
  Walk: ftoa32.
-/
import Derived.Test.YticlnihjhcepkaaGreatDoorGf
import Derived.Deep.RegionHeld3
namespace Go.Proofs.YticlnihjhcepkaaGreatDoor
open Go.RowKit
set_option linter.unusedSimpArgs false
set_option linter.unusedVariables false

set_option maxRecDepth 100000 in
set_option maxHeartbeats 4000000 in
theorem ftoa32_any (T b : Nat) (dst : Value) (prec f : Int) (xs : List UInt8) (w : World) (he : Env T w) (hown : OwnB T w dst xs) (hx : xs.length ≤ 140737488900000) (hb : b < 2 ^ (1 + 8 + 23)) (hf1 : 0 ≤ f) (hf2 : f ≤ 255) (hp1 : -9223372036854775808 ≤ prec) (hp2 : prec ≤ 50000) :
    Calls Tryz.prog 113 #[dst, .float .f32 b, .int .u8 f, .int .i64 prec] w fun r w' =>
      ∃ v', r = .returned v' ∧ OwnB T w' v' (xs ++ ftoa32L b f prec) ∧ Stp w dst w' v' := by
  have hb64 : b < 4294967296 := hb
  clear hb
  have HE := Lib.hid he
  have HOWN := Lib.hid hown
  clear he hown
  refine calls_F Tryz.func113 rfl (by rw [Tryz.ntmps113]; simp) ?_
  intro σ hσ
  rw [Tryz.ntmps113]
  have s0 : σ 0 = dst := hσ 0 (by simp)
  have s1 : σ 1 = .float .f32 b := hσ 1 (by simp)
  have s2 : σ 2 = .int .u8 f := hσ 2 (by simp)
  have s3 : σ 3 = .int .i64 prec := hσ 3 (by simp)
  clear hσ
  have hneg : ((b : Int) / 2147483648 != 0) = flNeg 8 23 b := by
    unfold flNeg
    rw [Bool.eq_iff_iff]; simp only [bne_iff_ne, decide_eq_true_eq]; omega
  have hext := fun W => ext_f32bits b W
  have hE1 : b / 8388608 < 9223372036854775808 := by omega
  have hE0 : IntKind.i64.wrap ((b : Int) / 8388608) = ((b / 8388608 : Nat) : Int) := by rw [IntKind.wrap_i64]; omega
  have hE := i64_and_low (b / 8388608) 8 255 (by decide) (by omega) hE1
  have hF := u64_and_low b 23 8388607 (by decide) (by omega) (by omega)
  have hEe : b / 8388608 % 2 ^ 8 = flE 8 23 b := rfl
  have hFe : b % 2 ^ 23 = flF 23 b := rfl
  rw [hEe] at hE
  rw [hFe] at hF
  have hEb : flE 8 23 b < 256 := Nat.mod_lt _ (by decide)
  have hFb : flF 23 b < 8388608 := Nat.mod_lt _ (by decide)
  obtain ⟨N0, hN0⟩ : ∃ N0, b / 8388608 = N0 := ⟨_, rfl⟩
  rw [hN0] at hE0 hE hE1
  clear hEe hFe hN0
  ((repeat (go_wp2_with fail; first | (refine cdY ?_ ?_; focus (simp [ov, *]; done)) | (refine cdN ?_ ?_; focus (simp [ov, *]; done)))); go_wp2_with fail)
  go_quiet (fail)
  go_upto_region 16 with fail
  obtain ⟨neg, hng⟩ : ∃ neg, flNeg 8 23 b = neg := ⟨_, rfl⟩
  obtain ⟨E, hEE⟩ : ∃ E, flE 8 23 b = E := ⟨_, rfl⟩
  obtain ⟨F, hFF⟩ : ∃ F, flF 23 b = F := ⟨_, rfl⟩
  refine rebase_F (fun s' => s' 0 = dst ∧ s' 2 = .int .u8 f ∧ s' 3 = .int .i64 prec ∧ s' 10 = .int .i64 8 ∧ s' 11 = .int .i64 23 ∧ s' 12 = .int .i64 (-127) ∧ s' 13 = .bool neg ∧ s' 14 = .int .i64 (E : Int) ∧ s' 15 = .int .u64 (F : Int)) ⟨by simp [ov, *], by simp [ov, *], by simp [ov, *], by simp [ov, *], by simp [ov, *], by simp [ov, *], by simp [ov, *], by simp [ov, *], by simp [ov, *]⟩ ?_
  rw [hEE] at hEb
  rw [hFF] at hFb
  have HNG := Lib.hid hng
  have HEE := Lib.hid hEE
  have HFF := Lib.hid hFF
  clear s0 s1 s2 s3 σ hneg hext hF hE hE0 hE1 N0 hng hEE hFF
  rintro σ ⟨s0, s2, s3, s10, s11, s12, s13, s14, s15⟩
  have hTs := HOWN.out.lt
  have howq := HOWN.out.drewN nq
  have hstq := Stp.drewN0 w dst nq
  have henq := HE.out.drewN nq
  generalize w.drewN nq = w1 at *
  have HO1 := Lib.hid howq
  have HS1 := Lib.hid hstq
  have HE1 := Lib.hid henq
  clear howq hstq henq HOWN HE
  by_cases hE7 : E = 255
  · have hL : ftoa32L b f prec = if F ≠ 0 then [78, 97, 78] else if neg then [45, 73, 110, 102] else [43, 73, 110, 102] := by
      unfold ftoa32L ftoaL
      rw [HEE.out, HFF.out, HNG.out, hE7, if_pos (by decide)]
    have HLL := Lib.hid hL
    clear hL
    subst hE7
    by_cases hF0 : F = 0
    · subst hF0
      cases neg
      · ((repeat (go_wp2_with (first | (at_builtin; refine wpList_appFc rfl _ _ _ _ rfl (by decide) byteTy HO1.out (by simp [ov, *]) [43, 73, 110, 102] (src_str Tryz.underlying9 _ _ rfl) (by simp only [List.length_append, List.length_cons, List.length_nil, List.length_replicate] at *; omega) ?_; intro v w' ho1 hs1)); first | (refine cdY ?_ ?_; focus (simp [ov, *]; done)) | (refine cdN ?_ ?_; focus (simp [ov, *]; done)))); go_wp2_with (first | (at_builtin; refine wpList_appFc rfl _ _ _ _ rfl (by decide) byteTy HO1.out (by simp [ov, *]) [43, 73, 110, 102] (src_str Tryz.underlying9 _ _ rfl) (by simp only [List.length_append, List.length_cons, List.length_nil, List.length_replicate] at *; omega) ?_; intro v w' ho1 hs1)))
        exact ret_F v rfl (by decide) (by simp [ov, *]) ⟨v, rfl, by rw [HLL.out]; exact ho1, HS1.out.trans hs1⟩
      · ((repeat (go_wp2_with (first | (at_builtin; refine wpList_appFc rfl _ _ _ _ rfl (by decide) byteTy HO1.out (by simp [ov, *]) [45, 73, 110, 102] (src_str Tryz.underlying9 _ _ rfl) (by simp only [List.length_append, List.length_cons, List.length_nil, List.length_replicate] at *; omega) ?_; intro v w' ho1 hs1)); first | (refine cdY ?_ ?_; focus (simp [ov, *]; done)) | (refine cdN ?_ ?_; focus (simp [ov, *]; done)))); go_wp2_with (first | (at_builtin; refine wpList_appFc rfl _ _ _ _ rfl (by decide) byteTy HO1.out (by simp [ov, *]) [45, 73, 110, 102] (src_str Tryz.underlying9 _ _ rfl) (by simp only [List.length_append, List.length_cons, List.length_nil, List.length_replicate] at *; omega) ?_; intro v w' ho1 hs1)))
        exact ret_F v rfl (by decide) (by simp [ov, *]) ⟨v, rfl, by rw [HLL.out]; exact ho1, HS1.out.trans hs1⟩
    · have hF0' : ((F : Int) != 0) = true := by rw [bne_iff_ne]; omega
      ((repeat (go_wp2_with (first | (at_builtin; refine wpList_appFc rfl _ _ _ _ rfl (by decide) byteTy HO1.out (by simp [ov, *]) [78, 97, 78] (src_str Tryz.underlying9 _ _ rfl) (by simp only [List.length_append, List.length_cons, List.length_nil, List.length_replicate] at *; omega) ?_; intro v w' ho1 hs1)); first | (refine cdY ?_ ?_; focus (simp [ov, *]; done)) | (refine cdN ?_ ?_; focus (simp [ov, *]; done)))); go_wp2_with (first | (at_builtin; refine wpList_appFc rfl _ _ _ _ rfl (by decide) byteTy HO1.out (by simp [ov, *]) [78, 97, 78] (src_str Tryz.underlying9 _ _ rfl) (by simp only [List.length_append, List.length_cons, List.length_nil, List.length_replicate] at *; omega) ?_; intro v w' ho1 hs1)))
      exact ret_F v rfl (by decide) (by simp [ov, *]) ⟨v, rfl, by rw [HLL.out, if_pos hF0]; exact ho1, HS1.out.trans hs1⟩
  have hE7' : ((E : Int) == 255) = false := by rw [beq_eq_false_iff_ne]; omega
  ((repeat (go_wp2_with fail; first | (refine cdY ?_ ?_; focus (simp [ov, *]; done)) | (refine cdN ?_ ?_; focus (simp [ov, *]; done)))); go_wp2_with fail)
  obtain ⟨m, hm⟩ : ∃ m, flMant 8 23 b = m := ⟨_, rfl⟩
  obtain ⟨x, hxx⟩ : ∃ x, flExp 8 23 (-127) b = x := ⟨_, rfl⟩
  have hm1 : m = if E = 0 then F else F + 8388608 := by rw [← hm]; unfold flMant; rw [HEE.out, HFF.out]
  have hx1 : x = (if E = 0 then 1 else (E : Int)) + -127 := by rw [← hxx]; unfold flExp; rw [HEE.out]
  have hmb : m < 16777216 := by rw [hm1]; split <;> omega
  have hxl : -126 ≤ x := by rw [hx1]; split <;> omega
  have hxu : x ≤ 127 := by rw [hx1]; split <;> omega
  have HM := Lib.hid hm
  have HXX := Lib.hid hxx
  have HM1 := Lib.hid hm1
  have HX1 := Lib.hid hx1
  clear hm hxx hm1 hx1
  refine cut_F (fun s' w' => s' 0 = dst ∧ s' 2 = .int .u8 f ∧ s' 3 = .int .i64 prec ∧ s' 11 = .int .i64 23 ∧ s' 12 = .int .i64 (-127) ∧ s' 13 = .bool neg ∧ s' 14 = .int .i64 (x + 127) ∧ s' 15 = .int .u64 (m : Int) ∧ w1 = w') ?_ ?_
  · intro R2 K2 HR hK2
    by_cases hE0 : E = 0
    · subst hE0
      have hx1 : x + 127 = 1 := by rw [HX1.out]; rfl
      have hm1 : m = F := by rw [HM1.out]; rfl
      refine cond_yes (by simp [ov, *]) (by decide) ?_
      ((repeat (go_wp2_with fail; first | (refine cdY ?_ ?_; focus (simp [ov, *]; done)) | (refine cdN ?_ ?_; focus (simp [ov, *]; done)))); go_wp2_with fail)
      exact got HR ⟨by simp [ov, *], by simp [ov, *], by simp [ov, *], by simp [ov, *], by simp [ov, *], by simp [ov, *], by rw [hx1]; simp [over_cons, over_nil], by simp [ov, *], rfl⟩
    · have hE0' : ((E : Int) == 0) = false := by rw [beq_eq_false_iff_ne]; omega
      have hx1 : x + 127 = (E : Int) := by rw [HX1.out, if_neg hE0]; omega
      have hm1 : m = F + 8388608 := by rw [HM1.out, if_neg hE0]
      have hor : bits .or .u64 (F : Int) 8388608 = (m : Int) := by rw [hm1]; exact u64_or_top F 23 (by omega) (by omega)
      clear hm1
      refine cond_no (by simp [ov, *]) (by decide) ?_
      ((repeat (go_wp2_with fail; first | (refine cdY ?_ ?_; focus (simp [ov, *]; done)) | (refine cdN ?_ ?_; focus (simp [ov, *]; done)))); go_wp2_with fail)
      exact got HR ⟨by simp [ov, *], by simp [ov, *], by simp [ov, *], by simp [ov, *], by simp [ov, *], by simp [ov, *], by rw [hx1]; simp [ov, *], by simp [ov, *], rfl⟩
  clear s0 s2 s3 s10 s11 s12 s13 s14 s15 σ hE7' hEb hFb
  rintro σ w' ⟨s0, s2, s3, s11, s12, s13, s14, s15, rfl⟩
  have hLL : ftoa32L b f prec = if f = 98 then fmtBL neg m (x - 23) else if f = 120 ∨ f = 88 then xL neg prec f m 23 x else efgP neg f (pick 40 (-189) 23 m x prec f) := by
    unfold ftoa32L ftoaL
    rw [HEE.out, HNG.out, HM.out, HXX.out, if_neg (by omega)]
    rfl
  have HLL := Lib.hid hLL
  clear hLL HEE HFF HM1 HX1 HM HXX HNG hE7
  go_upto_region 26 with fail
  refine rebase_F (fun s' => s' 0 = dst ∧ s' 2 = .int .u8 f ∧ s' 3 = .int .i64 prec ∧ s' 11 = .int .i64 23 ∧ s' 13 = .bool neg ∧ s' 14 = .int .i64 x ∧ s' 15 = .int .u64 (m : Int)) ⟨by simp [ov, *], by simp [ov, *], by simp [ov, *], by simp [ov, *], by simp [ov, *], by simp [over_cons, over_nil]; omega, by simp [ov, *]⟩ ?_
  clear s0 s2 s3 s11 s12 s13 s14 s15 σ
  rintro σ ⟨s0, s2, s3, s11, s13, s14, s15⟩
  by_cases hf98 : f = 98
  · subst hf98
    ((repeat (go_wp2_with fail; first | (refine cdY ?_ ?_; focus (simp [ov, *]; done)) | (refine cdN ?_ ?_; focus (simp [ov, *]; done)))); go_wp2_with fail)
    refine (fmtB_any T m neg (x - 23) dst xs _ HE1.out HO1.out (by omega) (by omega) (by omega) (by omega)).mono ?_
    rintro e w7 ⟨v', rfl, ho7, hs7⟩
    ((repeat (go_wp2_with fail; first | (refine cdY ?_ ?_; focus (simp [ov, *]; done)) | (refine cdN ?_ ?_; focus (simp [ov, *]; done)))); go_wp2_with fail)
    exact ret_F v' rfl (by decide) (by simp [ov, *]) ⟨v', rfl, by rw [HLL.out]; exact ho7, HS1.out.trans hs7⟩
  have hf98' : (f == 98) = false := by rw [beq_eq_false_iff_ne]; exact hf98
  by_cases hfx : f = 120 ∨ f = 88
  · have hL2 : ftoa32L b f prec = xL neg prec f m 23 x := by rw [HLL.out, if_neg hf98, if_pos hfx]
    have HL2 := Lib.hid hL2
    clear hL2 HLL hf98
    rcases hfx with hfx | hfx
    all_goals
      subst hfx
      ((repeat (go_wp2_with fail; first | (refine cdY ?_ ?_; focus (simp [ov, *]; done)) | (refine cdN ?_ ?_; focus (simp [ov, *]; done)))); go_wp2_with fail)
      refine (fmtX_any T neg dst prec _ m 23 x xs _ HE1.out HO1.out (by omega) (by simp) (by omega) (by omega) (by omega) (by omega) (by simp) (by omega)).mono ?_
      rintro e w7 ⟨v', rfl, ho7, hs7⟩
      ((repeat (go_wp2_with fail; first | (refine cdY ?_ ?_; focus (simp [ov, *]; done)) | (refine cdN ?_ ?_; focus (simp [ov, *]; done)))); go_wp2_with fail)
      exact ret_F v' rfl (by decide) (by simp [ov, *]) ⟨v', rfl, by rw [HL2.out]; exact ho7, HS1.out.trans hs7⟩
  have hL2 : ftoa32L b f prec = efgP neg f (pick 40 (-189) 23 m x prec f) := by rw [HLL.out, if_neg hf98, if_neg hfx]
  have HL2 := Lib.hid hL2
  have hf120 : (f == 120) = false := by rw [beq_eq_false_iff_ne]; omega
  have hf88 : (f == 88) = false := by rw [beq_eq_false_iff_ne]; omega
  clear hL2 HLL hf98 hfx
  by_cases hm0 : m = 0
  · have hL3 : ftoa32L b f prec = efgP neg f ⟨[], 0, prec, decide (prec < 0)⟩ := by rw [HL2.out]; unfold pick; rw [if_pos hm0]
    have HL3 := Lib.hid hL3
    clear hL3 HL2
    subst hm0
    ((repeat (go_wp2_with fail; first | (refine cdY ?_ ?_; focus (simp [ov, *]; done)) | (refine cdN ?_ ?_; focus (simp [ov, *]; done)))); go_wp2_with fail)
    refine (fmtEFG_any T neg (decide (prec < 0)) dst (.slice none 0 0) [] 0 0 prec f xs _ HE1.out HO1.out (Or.inl rfl) rfl (fun _ => Or.inl rfl) (by omega) hf1 hf2 (by omega) (by omega) (by omega) (by omega) hp1 ?_ (by omega)).mono ?_
    · by_cases h : -100000 ≤ prec
      · exact Or.inl h
      · exact Or.inr (Or.inr ⟨rfl, by simp; omega⟩)
    rintro e w7 ⟨v', rfl, ho7, hs7⟩
    ((repeat (go_wp2_with fail; first | (refine cdY ?_ ?_; focus (simp [ov, *]; done)) | (refine cdN ?_ ?_; focus (simp [ov, *]; done)))); go_wp2_with fail)
    exact ret_F v' rfl (by decide) (by simp [ov, *]) ⟨v', rfl, by rw [HL3.out]; exact ho7, HS1.out.trans hs7⟩
  have hm0' : ((m : Int) == 0) = false := by rw [beq_eq_false_iff_ne]; omega
  obtain ⟨hb1, hb2, hb3, hb4⟩ := bitLen_bd m (by omega) hm0
  have hbl := Lib.bitLen_le m 24 (by omega) hmb
  have hlen := fun W => len64_is m W (by omega)
  obtain ⟨S, hS⟩ : ∃ S, shS m = S := ⟨_, rfl⟩
  have hSi : (64 : Int) - (Lib.bitLen m : Int) = (S : Int) := by rw [← hS]; unfold shS; omega
  obtain ⟨mm, hmm⟩ : ∃ mm, m * 2 ^ S = mm := ⟨_, rfl⟩
  have hmm64 : mm < 18446744073709551616 := by
    rw [← hmm, show (18446744073709551616 : Nat) = 2 ^ Lib.bitLen m * 2 ^ S by rw [← Nat.pow_add, show Lib.bitLen m + S = 64 by omega]]
    exact Nat.mul_lt_mul_of_pos_right hb3 (Nat.pow_pos (by omega))
  have hmmi : IntKind.u64.wrap ((m : Int) * 2 ^ S) = (mm : Int) := by
    have : (m : Int) * 2 ^ S = (mm : Int) := by rw [← hmm]; simp
    rw [this, IntKind.wrap_u64]; omega
  have hS1 : 40 ≤ S := by omega
  have hS2 : S ≤ 63 := by omega
  have HLEN := Lib.hid hlen
  have HSS := Lib.hid hS
  have HMM := Lib.hid hmm
  obtain ⟨bl, hbl2⟩ : ∃ bl, Lib.bitLen m = bl := ⟨_, rfl⟩
  rw [hbl2] at HLEN hSi
  clear hb1 hb2 hb3 hb4 hbl hlen hS hmm hbl2
  by_cases hpn : prec < 0
  · have hL3 : ftoa32L b f prec = efgP neg f (pkShort 40 (-189) m (x - 23) prec f) := by rw [HL2.out]; unfold pick; rw [if_neg hm0, if_pos hpn]; rfl
    have HL3 := Lib.hid hL3
    clear hL3 HL2
    ((repeat (go_wp2_with fail; first | (refine cdY ?_ ?_; focus (simp [ov, *]; done)) | (refine cdN ?_ ?_; focus (simp [ov, *]; done)))); go_wp2_with fail)
    refine (HLEN.out _).mono ?_
    rintro e w7 ⟨rfl, rfl⟩
    ((repeat (go_wp2_with fail; first | (refine cdY ?_ ?_; focus (simp [ov, *]; done)) | (refine cdN ?_ ?_; focus (simp [ov, *]; done)))); go_wp2_with fail)
    obtain ⟨d, hd⟩ : ∃ d, (shortF 40 (-189) mm (x - S - 23)).1 = d := ⟨_, rfl⟩
    obtain ⟨p, hp⟩ : ∃ p, (shortF 40 (-189) mm (x - S - 23)).2 = p := ⟨_, rfl⟩
    have hbd := shortF_bd 40 (-189) mm (x - S - 23) (Or.inr ⟨rfl, rfl, by omega, by omega⟩) hmm64
    rw [hd, hp] at hbd
    obtain ⟨hd64, hpl, hpu⟩ := hbd
    have hsf := fun W (hW : Env T W) => shortFloat32_any T mm (x - S - 23) W hW hmm64 (by omega) (by omega)
    rw [hd, hp] at hsf
    refine (hsf _ (HE1.out.alloc _)).mono ?_
    rintro e w8 ⟨rfl, hg8⟩
    have hrow8 : BRow w8 w1.heap.size (List.replicate 32 0) := BRow.grown (BRow.new w1 (List.replicate 32 0) _) hg8 (by simp)
    have hk8 : Keep T w dst xs w8 := (Keep.alloc ⟨HO1.out, HS1.out, HE1.out⟩ _).grown0 hg8
    have hne8 : dst.ownBlock ≠ some w1.heap.size := HO1.out.ne_new
    have hlt8 := hrow8.lt
    have HROW8 := Lib.hid hrow8
    have HK8 := Lib.hid hk8
    have HNE8 := Lib.hid hne8
    have hnum := numDigits_any T d w8.drew HK8.out.drew.env hd64
    have hset := setDigits_any w1.heap.size 32 d p (List.replicate 32 0) w8.drew (Row.drew HROW8.out) (by simp) (by simp) (by simp) hd64 (by omega) (by omega)
    rw [List.length_replicate] at hset
    have HNUM := Lib.hid hnum
    have HSET := Lib.hid hset
    have HDD := Lib.hid hd
    have HPP := Lib.hid hp
    have hnd20 := nDig_le d hd64
    have htz := trimZ_le (digs d (nDig d)) (nDig d)
    obtain ⟨n, hn⟩ : ∃ n, nDig d = n := ⟨_, rfl⟩
    rw [hn] at HNUM HSET hnd20 htz
    obtain ⟨nd, hnd⟩ : ∃ nd, trimZ (digs d n) n = nd := ⟨_, rfl⟩
    rw [hnd] at HSET htz
    have HN := Lib.hid hn
    have HND := Lib.hid hnd
    clear hg8 hrow8 hk8 hne8 hnum hset hsf hd hp hn hnd
    ((repeat (go_wp2_with fail; first | (refine cdY ?_ ?_; focus (simp [ov, *]; done)) | (refine cdN ?_ ?_; focus (simp [ov, *]; done)))); go_wp2_with fail)
    go_region_held3 (fun _ => True) (trivial) (first | (go_at_call 137; refine HNUM.out.mono ?_; rintro e w9 ⟨rfl, rfl⟩) | (go_at_call 136; refine HSET.out.mono ?_; rintro e w9 ⟨rfl, hrow9, hg9⟩))
    have hk9 : Keep T w dst xs w9 := HK8.out.drew.write hg9 HS1.out.1.size HE1.out.size HNE8.out
    have hrow10 : BRow w9 w1.heap.size (digs d n ++ List.drop n (List.replicate 32 0)) := hrow9
    have HK9 := Lib.hid hk9
    have HROW9 := Lib.hid hrow10
    clear hk9 hrow9 hrow10 hg9 HNUM HSET HROW8 HK8
    go_upto_block 1 with fail
    obtain ⟨dp, hdp⟩ : ∃ dp : Int, (n : Int) + p = dp := ⟨_, rfl⟩
    obtain ⟨pr, hpr⟩ : ∃ pr : Int, shPrec nd dp prec f = pr := ⟨_, rfl⟩
    have HPR := Lib.hid hpr
    have hnd20' : (nd : Int) ≤ 20 := by omega
    have hdpl : -400 ≤ dp := by omega
    have hdpu : dp ≤ 420 := by omega
    rw [hdp]
    have HDP := Lib.hid hdp
    clear hpr hdp
    refine cut_F (fun s' w' => s' 0 = dst ∧ s' 2 = .int .u8 f ∧ s' 3 = .int .i64 pr ∧ s' 13 = .bool neg ∧ s' 16 = .pointer (some ⟨w1.heap.size, 0, none⟩) ∧ s' 22 = .int .i64 dp ∧ s' 23 = .int .i64 (nd : Int) ∧ w9 = w') ?_ ?_
    · intro R2 K2 HR hK2
      by_cases h1 : f = 101
      · have hp' : pr = max ((nd : Int) - 1) 0 := by rw [← HPR.out]; unfold shPrec; rw [if_pos (Or.inl h1)]
        subst h1
        ((repeat (go_wp2_with fail; first | (refine cdY ?_ ?_; focus (simp [ov, *]; done)) | (refine cdN ?_ ?_; focus (simp [ov, *]; done)))); go_wp2_with fail)
        exact got HR ⟨by simp [ov, *], by simp [ov, *], by simp [ov, *], by simp [ov, *], by simp [ov, *], by simp [ov, *], by simp [ov, *], rfl⟩
      have h1' : (f == 101) = false := by rw [beq_eq_false_iff_ne]; exact h1
      by_cases h2 : f = 69
      · have hp' : pr = max ((nd : Int) - 1) 0 := by rw [← HPR.out]; unfold shPrec; rw [if_pos (Or.inr h2)]
        subst h2
        ((repeat (go_wp2_with fail; first | (refine cdY ?_ ?_; focus (simp [ov, *]; done)) | (refine cdN ?_ ?_; focus (simp [ov, *]; done)))); go_wp2_with fail)
        exact got HR ⟨by simp [ov, *], by simp [ov, *], by simp [ov, *], by simp [ov, *], by simp [ov, *], by simp [ov, *], by simp [ov, *], rfl⟩
      have h2' : (f == 69) = false := by rw [beq_eq_false_iff_ne]; exact h2
      by_cases h3 : f = 102
      · have hp' : pr = max ((nd : Int) - dp) 0 := by rw [← HPR.out]; unfold shPrec; rw [if_neg (by omega), if_pos h3]
        subst h3
        ((repeat (go_wp2_with fail; first | (refine cdY ?_ ?_; focus (simp [ov, *]; done)) | (refine cdN ?_ ?_; focus (simp [ov, *]; done)))); go_wp2_with fail)
        exact got HR ⟨by simp [ov, *], by simp [ov, *], by simp [ov, *], by simp [ov, *], by simp [ov, *], by simp [ov, *], by simp [ov, *], rfl⟩
      have h3' : (f == 102) = false := by rw [beq_eq_false_iff_ne]; exact h3
      by_cases h4 : f = 103
      · have hp' : pr = (nd : Int) := by rw [← HPR.out]; unfold shPrec; rw [if_neg (by omega), if_neg (by omega), if_pos (Or.inl h4)]
        subst h4
        ((repeat (go_wp2_with fail; first | (refine cdY ?_ ?_; focus (simp [ov, *]; done)) | (refine cdN ?_ ?_; focus (simp [ov, *]; done)))); go_wp2_with fail)
        exact got HR ⟨by simp [ov, *], by simp [ov, *], by simp [ov, *], by simp [ov, *], by simp [ov, *], by simp [ov, *], by simp [ov, *], rfl⟩
      have h4' : (f == 103) = false := by rw [beq_eq_false_iff_ne]; exact h4
      by_cases h5 : f = 71
      · have hp' : pr = (nd : Int) := by rw [← HPR.out]; unfold shPrec; rw [if_neg (by omega), if_neg (by omega), if_pos (Or.inr h5)]
        subst h5
        ((repeat (go_wp2_with fail; first | (refine cdY ?_ ?_; focus (simp [ov, *]; done)) | (refine cdN ?_ ?_; focus (simp [ov, *]; done)))); go_wp2_with fail)
        exact got HR ⟨by simp [ov, *], by simp [ov, *], by simp [ov, *], by simp [ov, *], by simp [ov, *], by simp [ov, *], by simp [ov, *], rfl⟩
      have h5' : (f == 71) = false := by rw [beq_eq_false_iff_ne]; exact h5
      have hp' : pr = prec := by rw [← HPR.out]; unfold shPrec; rw [if_neg (by omega), if_neg (by omega), if_neg (by omega)]
      ((repeat (go_wp2_with fail; first | (refine cdY ?_ ?_; focus (simp [ov, *]; done)) | (refine cdN ?_ ?_; focus (simp [ov, *]; done)))); go_wp2_with fail)
      exact got HR ⟨by simp [ov, *], by simp [ov, *], by simp [ov, *], by simp [ov, *], by simp [ov, *], by simp [ov, *], by simp [ov, *], rfl⟩
    clear s0 s2 s3 s11 s13 s14 s15 σ
    rintro σ w10 ⟨s0, s2, s3, s13, s16, s22, s23, rfl⟩
    have hlt9 := HROW9.out.lt
    ((repeat (go_wp2_with fail; first | (refine cdY ?_ ?_; focus (simp [ov, *]; done)) | (refine cdN ?_ ?_; focus (simp [ov, *]; done)))); go_wp2_with fail)
    have hprb : -9223372036854775808 ≤ pr ∧ pr ≤ 100000 ∧ (-100000 ≤ pr ∨ (f ≠ 103 ∧ f ≠ 71)) := by
      rw [← HPR.out]; unfold shPrec
      by_cases h1 : f = 101 ∨ f = 69
      · rw [if_pos h1]; omega
      rw [if_neg h1]
      by_cases h2 : f = 102
      · rw [if_pos h2]; omega
      rw [if_neg h2]
      by_cases h3 : f = 103 ∨ f = 71
      · rw [if_pos h3]; omega
      rw [if_neg h3]
      omega
    have hdsl : (dsOf d).length = nd := by rw [dsOf_length, HN.out, HND.out]
    have hbl : (digs d n ++ List.drop n (List.replicate 32 (0 : UInt8))).length = 32 := by simp [digs_length]; omega
    refine (fmtEFG_any T neg true dst (.slice (some ⟨w1.heap.size, 0, none⟩) 32 32) (dsOf d) dp nd pr f xs _ HK9.out.env HK9.out.own ?_ (by rw [hdsl]) ?_ (by omega) hf1 hf2 (by omega) (by omega) (by omega) (by omega) hprb.1 ?_ hprb.2.1).mono ?_
    · refine Or.inr ⟨w1.heap.size, 32, _, by rw [hbl], by omega, by omega, ⟨[], by rw [List.append_nil]; exact HROW9.out⟩, HNE8.out, ?_, by omega⟩
      rw [hdsl, List.take_append_of_le_length (by rw [digs_length]; exact htz)]
      unfold dsOf
      rw [HN.out, HND.out]
    · intro _
      exact Or.inr ⟨w1.heap.size, 32, 32, rfl, by omega, by omega⟩
    · rcases hprb.2.2 with h | h
      · exact Or.inl h
      · exact Or.inr (Or.inl h)
    rintro e w11 ⟨v', rfl, ho7, hs7⟩
    ((repeat (go_wp2_with fail; first | (refine cdY ?_ ?_; focus (simp [ov, *]; done)) | (refine cdN ?_ ?_; focus (simp [ov, *]; done)))); go_wp2_with fail)
    refine ret_F v' rfl (by decide) (by simp [ov, *]) ⟨v', rfl, ?_, HK9.out.stp.trans hs7⟩
    rw [HL3.out]
    have hfin : efgP neg f (pkShort 40 (-189) m (x - 23) prec f) = efgL neg (dsOf d) dp (gAdj dp nd pr f true).1 (gAdj dp nd pr f true).2 := by
      unfold efgP pkShort
      rw [HSS.out, HMM.out, show x - 23 - (S : Int) = x - S - 23 by omega]
      dsimp only
      rw [HDD.out, HPP.out, hdsl, HN.out, HDP.out, HPR.out]
    rw [hfin]
    exact ho7
  have hopt := HE1.out.opt
  have hTg := HE1.out.glob
  have hTs1 := HE1.out.size
  have hpn' : decide (prec < 0) = false := by simpa using hpn
  obtain ⟨pf, hpf⟩ : ∃ pf, fixPrec prec f = pf := ⟨_, rfl⟩
  obtain ⟨dg, hdg⟩ : ∃ dg, fixDig x prec f = dg := ⟨_, rfl⟩
  have hpf1 : 0 ≤ pf := by rw [← hpf]; unfold fixPrec; split <;> omega
  have hpf2 : pf ≤ 50000 := by rw [← hpf]; unfold fixPrec; split <;> omega
  have hL3 : ftoa32L b f prec = efgP neg f (if dg ≤ 18 then pkFix m (x - 23) dg pf f else pkDec (slowR m (x - 23) pf f) pf) := by
    rw [HL2.out]; unfold pick; rw [if_neg hm0, if_neg hpn, hdg, hpf]; rfl
  have HL3 := Lib.hid hL3
  have HPF := Lib.hid hpf
  have HDG := Lib.hid hdg
  clear hL3 hpf hdg HL2
  ((repeat (go_upto_block 2 with fail; first | (refine cdY ?_ ?_; focus (simp [ov, *]; done)) | (refine cdN ?_ ?_; focus (simp [ov, *]; done)))); go_upto_block 2 with fail)
  refine cut_F (fun s' w' => s' 0 = dst ∧ s' 2 = .int .u8 f ∧ s' 3 = .int .i64 pf ∧ s' 11 = .int .i64 23 ∧ s' 13 = .bool neg ∧ s' 14 = .int .i64 x ∧ s' 15 = .int .u64 (m : Int) ∧ s' 24 = .int .i64 dg ∧ w1 = w') ?_ ?_
  · intro R2 K2 HR hK2
    by_cases h3 : f = 102
    · have hp' : pf = prec := by rw [← HPF.out]; unfold fixPrec; rw [if_neg (by omega)]
      by_cases hx0 : 0 ≤ x
      · have hd' : dg = 1 + (1 + x) * 78913 / 262144 + prec := by rw [← HDG.out]; unfold fixDig; rw [if_pos h3, if_pos hx0]
        subst h3
        ((repeat (go_wp2_with fail; first | (refine cdY ?_ ?_; focus (simp [ov, *]; done)) | (refine cdN ?_ ?_; focus (simp [ov, *]; done)))); go_wp2_with fail)
        refine (log10Pow2_is (1 + x) ((1 + x) * 78913 / 262144) _ (by omega) (by omega) rfl).mono ?_
        rintro e w7 ⟨rfl, rfl⟩
        ((repeat (go_wp2_with fail; first | (refine cdY ?_ ?_; focus (simp [ov, *]; done)) | (refine cdN ?_ ?_; focus (simp [ov, *]; done)))); go_wp2_with fail)
        exact got HR ⟨by simp [ov, *], by simp [ov, *], by simp [ov, *], by simp [ov, *], by simp [ov, *], by simp [ov, *], by simp [ov, *], by simp [ov, *], rfl⟩
      · have hd' : dg = 1 + prec - -x * 78913 / 262144 := by rw [← HDG.out]; unfold fixDig; rw [if_pos h3, if_neg hx0]
        have hx0' : decide (0 ≤ x) = false := by simpa using hx0
        subst h3
        ((repeat (go_wp2_with fail; first | (refine cdY ?_ ?_; focus (simp [ov, *]; done)) | (refine cdN ?_ ?_; focus (simp [ov, *]; done)))); go_wp2_with fail)
        refine (log10Pow2_is (-x) (-x * 78913 / 262144) _ (by omega) (by omega) rfl).mono ?_
        rintro e w7 ⟨rfl, rfl⟩
        ((repeat (go_wp2_with fail; first | (refine cdY ?_ ?_; focus (simp [ov, *]; done)) | (refine cdN ?_ ?_; focus (simp [ov, *]; done)))); go_wp2_with fail)
        exact got HR ⟨by simp [ov, *], by simp [ov, *], by simp [ov, *], by simp [ov, *], by simp [ov, *], by simp [ov, *], by simp [ov, *], by simp [ov, *], rfl⟩
    have h3' : (f == 102) = false := by rw [beq_eq_false_iff_ne]; exact h3
    by_cases h1 : f = 101
    · have hp' : pf = prec := by rw [← HPF.out]; unfold fixPrec; rw [if_neg (by omega)]
      have hd' : dg = prec + 1 := by rw [← HDG.out]; unfold fixDig; rw [if_neg h3, if_pos (Or.inl h1)]
      subst h1
      ((repeat (go_wp2_with fail; first | (refine cdY ?_ ?_; focus (simp [ov, *]; done)) | (refine cdN ?_ ?_; focus (simp [ov, *]; done)))); go_wp2_with fail)
      exact got HR ⟨by simp [ov, *], by simp [ov, *], by simp [ov, *], by simp [ov, *], by simp [ov, *], by simp [ov, *], by simp [ov, *], by simp [ov, *], rfl⟩
    have h1' : (f == 101) = false := by rw [beq_eq_false_iff_ne]; exact h1
    by_cases h2 : f = 69
    · have hp' : pf = prec := by rw [← HPF.out]; unfold fixPrec; rw [if_neg (by omega)]
      have hd' : dg = prec + 1 := by rw [← HDG.out]; unfold fixDig; rw [if_neg h3, if_pos (Or.inr h2)]
      subst h2
      ((repeat (go_wp2_with fail; first | (refine cdY ?_ ?_; focus (simp [ov, *]; done)) | (refine cdN ?_ ?_; focus (simp [ov, *]; done)))); go_wp2_with fail)
      exact got HR ⟨by simp [ov, *], by simp [ov, *], by simp [ov, *], by simp [ov, *], by simp [ov, *], by simp [ov, *], by simp [ov, *], by simp [ov, *], rfl⟩
    have h2' : (f == 69) = false := by rw [beq_eq_false_iff_ne]; exact h2
    by_cases h4 : f = 103 ∨ f = 71
    · have hd' : dg = pf := by rw [← HDG.out, ← HPF.out]; unfold fixDig; rw [if_neg h3, if_neg (by omega), if_pos h4]
      by_cases hz : prec = 0
      · have hp' : pf = 1 := by rw [← HPF.out]; unfold fixPrec; rw [if_pos ⟨h4, hz⟩]
        subst hz
        rcases h4 with h4 | h4
        · subst h4
          ((repeat (go_wp2_with fail; first | (refine cdY ?_ ?_; focus (simp [ov, *]; done)) | (refine cdN ?_ ?_; focus (simp [ov, *]; done)))); go_wp2_with fail)
          exact got HR ⟨by simp [ov, *], by simp [ov, *], by simp [ov, *], by simp [ov, *], by simp [ov, *], by simp [ov, *], by simp [ov, *], by simp [ov, *], rfl⟩
        · subst h4
          ((repeat (go_wp2_with fail; first | (refine cdY ?_ ?_; focus (simp [ov, *]; done)) | (refine cdN ?_ ?_; focus (simp [ov, *]; done)))); go_wp2_with fail)
          exact got HR ⟨by simp [ov, *], by simp [ov, *], by simp [ov, *], by simp [ov, *], by simp [ov, *], by simp [ov, *], by simp [ov, *], by simp [ov, *], rfl⟩
      · have hp' : pf = prec := by rw [← HPF.out]; unfold fixPrec; rw [if_neg (fun h => hz h.2)]
        have hz' : (prec == 0) = false := by rw [beq_eq_false_iff_ne]; exact hz
        rcases h4 with h4 | h4
        · subst h4
          ((repeat (go_wp2_with fail; first | (refine cdY ?_ ?_; focus (simp [ov, *]; done)) | (refine cdN ?_ ?_; focus (simp [ov, *]; done)))); go_wp2_with fail)
          exact got HR ⟨by simp [ov, *], by simp [ov, *], by simp [ov, *], by simp [ov, *], by simp [ov, *], by simp [ov, *], by simp [ov, *], by simp [ov, *], rfl⟩
        · subst h4
          ((repeat (go_wp2_with fail; first | (refine cdY ?_ ?_; focus (simp [ov, *]; done)) | (refine cdN ?_ ?_; focus (simp [ov, *]; done)))); go_wp2_with fail)
          exact got HR ⟨by simp [ov, *], by simp [ov, *], by simp [ov, *], by simp [ov, *], by simp [ov, *], by simp [ov, *], by simp [ov, *], by simp [ov, *], rfl⟩
    have h4' : (f == 103) = false := by rw [beq_eq_false_iff_ne]; omega
    have h5' : (f == 71) = false := by rw [beq_eq_false_iff_ne]; omega
    have hp' : pf = prec := by rw [← HPF.out]; unfold fixPrec; rw [if_neg (fun h => h4 h.1)]
    have hd' : dg = 1 := by rw [← HDG.out]; unfold fixDig; rw [if_neg h3, if_neg (by omega), if_neg h4]
    ((repeat (go_wp2_with fail; first | (refine cdY ?_ ?_; focus (simp [ov, *]; done)) | (refine cdN ?_ ?_; focus (simp [ov, *]; done)))); go_wp2_with fail)
    exact got HR ⟨by simp [ov, *], by simp [ov, *], by simp [ov, *], by simp [ov, *], by simp [ov, *], by simp [ov, *], by simp [ov, *], by simp [ov, *], rfl⟩
  clear s0 s2 s3 s11 s13 s14 s15 σ hpn'
  rintro σ w2 ⟨s0, s2, s3, s11, s13, s14, s15, s24, rfl⟩
  by_cases hdg18 : dg ≤ 18
  · have hL4 : ftoa32L b f prec = efgP neg f (pkFix m (x - 23) dg pf f) := by rw [HL3.out, if_pos hdg18]
    have HL4 := Lib.hid hL4
    clear hL4 HL3
    have hrowN := BRow.new w1 (List.replicate 24 0) 188
    have hkN : Keep T w dst xs (w1.alloc (Obj.cells ((List.replicate 24 (0 : UInt8)).map encB).toArray 188)) := Keep.alloc ⟨HO1.out, HS1.out, HE1.out⟩ _
    have HROWN := Lib.hid hrowN
    have HKN := Lib.hid hkN
    have hneN : dst.ownBlock ≠ some w1.heap.size := HO1.out.ne_new
    have HNEN := Lib.hid hneN
    clear hrowN hkN hneN
    ((repeat (go_wp2_with fail; first | (refine cdY ?_ ?_; focus (simp [ov, *]; done)) | (refine cdN ?_ ?_; focus (simp [ov, *]; done)))); go_wp2_with fail)
    refine cut_F (fun s' w' => ∃ (ds bs : List UInt8) (dp : Int), pkFix m (x - 23) dg pf f = ⟨ds, dp, pf, false⟩ ∧ bs.length = 24 ∧ bs.take ds.length = ds ∧ ds.length ≤ 20 ∧ -420 ≤ dp ∧ dp ≤ 420 ∧ BRow w' w1.heap.size bs ∧ Keep T w dst xs w' ∧ s' 0 = dst ∧ s' 2 = .int .u8 f ∧ s' 3 = .int .i64 pf ∧ s' 13 = .bool neg ∧ s' 25 = .pointer (some ⟨w1.heap.size, 0, none⟩) ∧ s' 26 = .int .i64 dp ∧ s' 27 = .int .i64 (ds.length : Nat)) ?_ ?_
    · intro R2 K2 HR hK2
      by_cases hd0 : 0 < dg
      · refine cond_yes (by simp [ov, *]) (by decide) ?_
        ((repeat (go_wp2_with fail; first | (refine cdY ?_ ?_; focus (simp [ov, *]; done)) | (refine cdN ?_ ?_; focus (simp [ov, *]; done)))); go_wp2_with fail)
        refine (HLEN.out _).mono ?_
        rintro e w7 ⟨rfl, rfl⟩
        ((repeat (go_wp2_with fail; first | (refine cdY ?_ ?_; focus (simp [ov, *]; done)) | (refine cdN ?_ ?_; focus (simp [ov, *]; done)))); go_wp2_with fail)
        obtain ⟨d, hd⟩ : ∃ d, (fwf mm (x - S - 23) dg pf (f == 102)).1 = d := ⟨_, rfl⟩
        obtain ⟨p, hp⟩ : ∃ p, (fwf mm (x - S - 23) dg pf (f == 102)).2 = p := ⟨_, rfl⟩
        have hbd := fwf_bd mm (x - S - 23) dg pf (f == 102) (by omega) (by omega) (by omega) hdg18 hpf1 (by omega)
        rw [hd, hp] at hbd
        obtain ⟨hd64, hpl, hpu⟩ := hbd
        have hsf := fun W (hW : Env T W) => fixedWidthFloat_any T mm (x - S - 23) dg pf f W hW hmm64 (by omega) (by omega) (by omega) hdg18 hpf1 (by omega) (by omega) (by omega)
        rw [hd, hp] at hsf
        refine (hsf _ HKN.out.env).mono ?_
        rintro e w8 ⟨rfl, hg8⟩
        have hrow8 : BRow w8 w1.heap.size (List.replicate 24 0) := BRow.grown HROWN.out hg8 (by simp)
        have hk8 : Keep T w dst xs w8 := HKN.out.grown0 hg8
        have hlt8 := hrow8.lt
        have HROW8 := Lib.hid hrow8
        have HK8 := Lib.hid hk8
        have hpk : pkFix m (x - 23) dg pf f = if d ≠ 0 then ⟨dsOf d, nDig d + p, pf, false⟩ else ⟨[], 0, pf, false⟩ := by
          unfold pkFix
          rw [if_pos hd0, HSS.out, HMM.out, show x - 23 - (S : Int) = x - S - 23 by omega]
          dsimp only
          rw [hd, hp]
        have HPK := Lib.hid hpk
        clear hg8 hrow8 hk8 hsf hd hp hpk
        by_cases hdz : d = 0
        · subst hdz
          ((repeat (go_wp2_with fail; first | (refine cdY ?_ ?_; focus (simp [ov, *]; done)) | (refine cdN ?_ ?_; focus (simp [ov, *]; done)))); go_wp2_with fail)
          exact got HR ⟨[], List.replicate 24 0, 0, by rw [HPK.out, if_neg (by simp)], by simp, by simp, by simp, by omega, by omega, HROW8.out, HK8.out, by simp [ov, *], by simp [ov, *], by simp [ov, *], by simp [ov, *], by simp [ov, *], by simp [ov, *], by simp [ov, *]⟩
        · have hdz' : ((d : Int) != 0) = true := by rw [bne_iff_ne]; omega
          have hnum := numDigits_any T d w8.drew HK8.out.drew.env hd64
          have hset := setDigits_any w1.heap.size 24 d p (List.replicate 24 0) w8.drew (Row.drew HROW8.out) (by simp) (by simp) (by simp) hd64 (by omega) (by omega)
          rw [List.length_replicate] at hset
          have HNUM := Lib.hid hnum
          have HSET := Lib.hid hset
          have hnd20 := nDig_le d hd64
          have htz := trimZ_le (digs d (nDig d)) (nDig d)
          obtain ⟨n, hn⟩ : ∃ n, nDig d = n := ⟨_, rfl⟩
          rw [hn] at HNUM HSET hnd20 htz
          obtain ⟨nd, hnd⟩ : ∃ nd, trimZ (digs d n) n = nd := ⟨_, rfl⟩
          rw [hnd] at HSET htz
          have HN := Lib.hid hn
          have HND := Lib.hid hnd
          clear hnum hset hn hnd
          ((repeat (go_wp2_with fail; first | (refine cdY ?_ ?_; focus (simp [ov, *]; done)) | (refine cdN ?_ ?_; focus (simp [ov, *]; done)))); go_wp2_with fail)
          go_region_held3 (fun _ => True) (trivial) (first | (go_at_call 137; refine HNUM.out.mono ?_; rintro e w9 ⟨rfl, rfl⟩) | (go_at_call 136; refine HSET.out.mono ?_; rintro e w9 ⟨rfl, hrow9, hg9⟩))
          have hk9 : Keep T w dst xs w9 := HK8.out.drew.write hg9 HS1.out.1.size HE1.out.size HNEN.out
          have hrow10 : BRow w9 w1.heap.size (digs d n ++ List.drop n (List.replicate 24 0)) := hrow9
          have HK9 := Lib.hid hk9
          have HROW9 := Lib.hid hrow10
          clear hk9 hrow9 hrow10 hg9 HNUM HSET HROW8 HK8
          have hdsl : (dsOf d).length = nd := by rw [dsOf_length, HN.out, HND.out]
          have HDSL := Lib.hid hdsl
          clear hdsl
          go_wp2_with fail
          simp only [Fr_set, Fr_defers, Fr_mk]
          refine hK2 _ _ _ ?_
          refine got HR ⟨dsOf d, digs d n ++ List.drop n (List.replicate 24 0), n + p, by rw [HPK.out, if_pos hdz, HN.out], by simp [digs_length]; omega, ?_, by rw [HDSL.out]; omega, by omega, by omega, HROW9.out, HK9.out, by simp [ov, *], by simp [ov, *], by simp [ov, *], by simp [ov, *], by simp [ov, *], by simp [ov, *], by rw [HDSL.out]; simp [over_cons, over_nil]⟩
          rw [HDSL.out, List.take_append_of_le_length (by rw [digs_length]; exact htz)]
          unfold dsOf
          rw [HN.out, HND.out]
      · have hd0' : decide (0 < dg) = false := by simpa using hd0
        refine cond_no (by simp [ov, *]) (by decide) ?_
        ((repeat (go_wp2_with fail; first | (refine cdY ?_ ?_; focus (simp [ov, *]; done)) | (refine cdN ?_ ?_; focus (simp [ov, *]; done)))); go_wp2_with fail)
        exact got HR ⟨[], List.replicate 24 0, 0, by unfold pkFix; rw [if_neg (by omega)], by simp, by simp, by simp, by omega, by omega, HROWN.out, HKN.out, by simp [ov, *], by simp [ov, *], by simp [ov, *], by simp [ov, *], by simp [ov, *], by simp [ov, *], by simp [ov, *]⟩
    clear s0 s2 s3 s11 s13 s14 s15 s24 σ
    rintro σ w9 ⟨ds, bs, dp, hpk, hbl, htk, hdl, hdp1, hdp2, hrow, hk, s0, s2, s3, s13, s25, s26, s27⟩
    have hlt9 := hrow.lt
    have HPK := Lib.hid hpk
    have HROW9 := Lib.hid hrow
    have HK9 := Lib.hid hk
    have HTK := Lib.hid htk
    have HBL := Lib.hid hbl
    clear hpk hrow hk htk hbl
    ((repeat (go_wp2_with fail; first | (refine cdY ?_ ?_; focus (simp [ov, *]; done)) | (refine cdN ?_ ?_; focus (simp [ov, *]; done)))); go_wp2_with fail)
    refine (fmtEFG_any T neg false dst (.slice (some ⟨w1.heap.size, 0, none⟩) 24 24) ds dp (ds.length : Nat) pf f xs _ HK9.out.env HK9.out.own ?_ rfl ?_ (by omega) hf1 hf2 (by omega) (by omega) (by omega) (by omega) (by omega) (Or.inl (by omega)) (by omega)).mono ?_
    · exact Or.inr ⟨w1.heap.size, 24, bs, by rw [HBL.out], by rw [HBL.out]; omega, by omega, ⟨[], by rw [List.append_nil]; exact HROW9.out⟩, HNEN.out, HTK.out, by rw [HBL.out]; omega⟩
    · intro _
      exact Or.inr ⟨w1.heap.size, 24, 24, rfl, by omega, by omega⟩
    rintro e w11 ⟨v', rfl, ho7, hs7⟩
    ((repeat (go_wp2_with fail; first | (refine cdY ?_ ?_; focus (simp [ov, *]; done)) | (refine cdN ?_ ?_; focus (simp [ov, *]; done)))); go_wp2_with fail)
    refine ret_F v' rfl (by decide) (by simp [ov, *]) ⟨v', rfl, ?_, HK9.out.stp.trans hs7⟩
    rw [HL4.out, HPK.out]
    exact ho7
  · have hL4 : ftoa32L b f prec = efgP neg f (pkDec (slowR m (x - 23) pf f) pf) := by rw [HL3.out, if_neg hdg18]
    have HL4 := Lib.hid hL4
    have hdg18' : decide (dg ≤ 18) = false := by simpa using hdg18
    have hmb53 : m < 2 ^ 53 := by omega
    clear hL4 HL3
    have hkN : Keep T w dst xs (w1.alloc (Obj.cells Tryz.zeroCells169 169)) := Keep.alloc ⟨HO1.out, HS1.out, HE1.out⟩ _
    have HKN := Lib.hid hkN
    have hneN : dst.ownBlock ≠ some w1.heap.size := HO1.out.ne_new
    have HNEN := Lib.hid hneN
    have hfk : f = 102 ∨ f = 101 ∨ f = 69 ∨ f = 103 ∨ f = 71 := by
      have h := HDG.out
      unfold fixDig at h
      by_cases h1 : f = 102
      · exact Or.inl h1
      rw [if_neg h1] at h
      by_cases h2 : f = 101 ∨ f = 69
      · omega
      rw [if_neg h2] at h
      by_cases h3 : f = 103 ∨ f = 71
      · omega
      rw [if_neg h3] at h
      omega
    have HFK := Lib.hid hfk
    clear hkN hneN hfk
    ((repeat (go_wp2_with fail; first | (refine cdY ?_ ?_; focus (simp [ov, *]; done)) | (refine cdN ?_ ?_; focus (simp [ov, *]; done)))); go_wp2_with fail)
    refine (Assign_any w1.heap.size m _ 0 0 false _ (Dec.new w1) (by omega)).mono ?_
    rintro e w3 ⟨rfl, hd3, hg3⟩
    have hk3 : Keep T w dst xs w3 := HKN.out.write hg3 HS1.out.1.size HE1.out.size HNEN.out
    have hn3 := hd3.pos hm0
    rw [Int.zero_add] at hn3
    have HK3 := Lib.hid hk3
    have HN3 := Lib.hid hn3
    clear hd3 hg3 hk3 hn3 HKN
    ((repeat (go_wp2_with fail; first | (refine cdY ?_ ?_; focus (simp [ov, *]; done)) | (refine cdN ?_ ?_; focus (simp [ov, *]; done)))); go_wp2_with fail)
    obtain ⟨hb1, hb2, hb3, hb4, hb5, hb6⟩ := slowN_bd m (x - 23) hm0 hmb53 (by omega) (by omega)
    have hcm : core m ≤ m := by
      have := (core_spec m hm0).1
      have h2 := Nat.le_mul_of_pos_right (core m) (Nat.pow_pos (n := tz m) (by omega : 0 < 10))
      omega
    have htzm : tz m ≤ 16 := by
      have h1 := nDig_core m hm0
      have h2 : nDig m ≤ 16 := by
        have h3 := nDig_low hm0
        have h4 := (Nat.pow_lt_pow_iff_right (by omega : 1 < 10)).1 (Nat.lt_of_le_of_lt h3 (Nat.lt_of_lt_of_le hmb (by decide : (16777216 : Nat) ≤ 10 ^ 16)))
        omega
      omega
    refine (Shift_any T w1.heap.size (core m) (tz m) (x - 23) false _ HK3.out.env HE1.out.size HN3.out (by omega) (by omega) (by omega) (by omega) ?_ ?_).mono ?_
    · intro hk0
      have := nDig_two_pow (53 + (x - 23).toNat) (core m * 2 ^ (x - 23).toNat) (by rw [Nat.pow_add]; exact Nat.mul_lt_mul_of_pos_right (Nat.lt_of_le_of_lt hcm hmb53) (Nat.pow_pos (by omega))) (by omega)
      omega
    · intro hk0
      have := nDig_five_pow (-(x - 23)).toNat (core m) (Nat.lt_of_le_of_lt hcm hmb53) (by omega)
      omega
    rintro e w4 ⟨rfl, hd4, hg4⟩
    have hk4 : Keep T w dst xs w4 := HK3.out.write hg4 HS1.out.1.size HE1.out.size HNEN.out
    have hN : shD (core m) (tz m) (x - 23) = slowN m (x - 23) := rfl
    rw [hN] at hd4
    obtain ⟨N1, hN1⟩ : ∃ N1, (slowN m (x - 23)).1 = N1 := ⟨_, rfl⟩
    obtain ⟨p1, hp1'⟩ : ∃ p1, (slowN m (x - 23)).2 = p1 := ⟨_, rfl⟩
    rw [hN1, hp1'] at hd4
    rw [hN1] at hb1 hb2 hb5 hb6
    rw [hp1'] at hb3 hb4 hb5 hb6
    obtain ⟨L1, hL1⟩ : ∃ L1, nDig N1 = L1 := ⟨_, rfl⟩
    have hlt4 : w1.heap.size < w4.heap.size := by obtain ⟨_, bs, _, hd⟩ := hd4; exact hd.lt
    have d1 : w4.cell? ⟨w1.heap.size, 801, none⟩ = some (.int .i64 (p1 + (nDig N1 : Nat))) := by obtain ⟨_, bs, _, hd⟩ := hd4; exact hd.cdp
    rw [hL1] at d1 hb2 hb5 hb6
    have hR : slowR m (x - 23) pf f = rndD N1 p1 (if f = 101 ∨ f = 69 then pf + 1 else if f = 102 then p1 + L1 + pf else pf) := by
      unfold slowR; rw [hN1, hp1', hL1]
    have hrn := fun n => Round_any w1.heap.size N1 n p1 false w4 hd4 (by omega) (by omega) (by omega)
    have HRN := Lib.hid hrn
    have HRR := Lib.hid hR
    have HK4 := Lib.hid hk4
    clear hN hN1 hp1' hL1 hd4 hg4 hk4 hrn hR HK3 HN3 hb1 hb3 hb4 hcm htzm
    ((repeat (go_upto_block 3 with fail; first | (refine cdY ?_ ?_; focus (simp [ov, *]; done)) | (refine cdN ?_ ?_; focus (simp [ov, *]; done)))); go_upto_block 3 with fail)
    refine cut_F (fun s' w' => s' 0 = dst ∧ s' 2 = .int .u8 f ∧ s' 3 = .int .i64 pf ∧ s' 13 = .bool neg ∧ s' 33 = .pointer (some ⟨w1.heap.size, 0, none⟩) ∧ DecV w' w1.heap.size (slowR m (x - 23) pf f).1 (slowR m (x - 23) pf f).2 false ∧ Keep T w dst xs w') ?_ ?_
    · intro R2 K2 HR hK2
      rcases HFK.out with h | h | h | h | h
      · subst h
        have hrr : slowR m (x - 23) pf 102 = rndD N1 p1 (p1 + L1 + pf) := by rw [HRR.out]; rfl
        have HRR2 := Lib.hid hrr
        clear hrr
        ((repeat (go_wp2_with fail; first | (refine cdY ?_ ?_; focus (simp [ov, *]; done)) | (refine cdN ?_ ?_; focus (simp [ov, *]; done)))); go_wp2_with fail)
        refine (HRN.out (p1 + L1 + pf)).mono ?_
        rintro e w5 ⟨rfl, hd5, hg5⟩
        ((repeat (go_wp2_with fail; first | (refine cdY ?_ ?_; focus (simp [ov, *]; done)) | (refine cdN ?_ ?_; focus (simp [ov, *]; done)))); go_wp2_with fail)
        exact got HR ⟨by simp [ov, *], by simp [ov, *], by simp [ov, *], by simp [ov, *], by simp [ov, *], by rw [HRR2.out]; exact hd5, HK4.out.write hg5 HS1.out.1.size HE1.out.size HNEN.out⟩
      · subst h
        have hrr : slowR m (x - 23) pf 101 = rndD N1 p1 (pf + 1) := by rw [HRR.out]; rfl
        have HRR2 := Lib.hid hrr
        clear hrr
        ((repeat (go_wp2_with fail; first | (refine cdY ?_ ?_; focus (simp [ov, *]; done)) | (refine cdN ?_ ?_; focus (simp [ov, *]; done)))); go_wp2_with fail)
        refine (HRN.out (pf + 1)).mono ?_
        rintro e w5 ⟨rfl, hd5, hg5⟩
        ((repeat (go_wp2_with fail; first | (refine cdY ?_ ?_; focus (simp [ov, *]; done)) | (refine cdN ?_ ?_; focus (simp [ov, *]; done)))); go_wp2_with fail)
        exact got HR ⟨by simp [ov, *], by simp [ov, *], by simp [ov, *], by simp [ov, *], by simp [ov, *], by rw [HRR2.out]; exact hd5, HK4.out.write hg5 HS1.out.1.size HE1.out.size HNEN.out⟩
      · subst h
        have hrr : slowR m (x - 23) pf 69 = rndD N1 p1 (pf + 1) := by rw [HRR.out]; rfl
        have HRR2 := Lib.hid hrr
        clear hrr
        ((repeat (go_wp2_with fail; first | (refine cdY ?_ ?_; focus (simp [ov, *]; done)) | (refine cdN ?_ ?_; focus (simp [ov, *]; done)))); go_wp2_with fail)
        refine (HRN.out (pf + 1)).mono ?_
        rintro e w5 ⟨rfl, hd5, hg5⟩
        ((repeat (go_wp2_with fail; first | (refine cdY ?_ ?_; focus (simp [ov, *]; done)) | (refine cdN ?_ ?_; focus (simp [ov, *]; done)))); go_wp2_with fail)
        exact got HR ⟨by simp [ov, *], by simp [ov, *], by simp [ov, *], by simp [ov, *], by simp [ov, *], by rw [HRR2.out]; exact hd5, HK4.out.write hg5 HS1.out.1.size HE1.out.size HNEN.out⟩
      · subst h
        have hrr : slowR m (x - 23) pf 103 = rndD N1 p1 pf := by rw [HRR.out]; rfl
        have hz : (pf == 0) = false := by
          rw [beq_eq_false_iff_ne, ← HPF.out]; unfold fixPrec; split <;> omega
        have HRR2 := Lib.hid hrr
        clear hrr
        ((repeat (go_wp2_with fail; first | (refine cdY ?_ ?_; focus (simp [ov, *]; done)) | (refine cdN ?_ ?_; focus (simp [ov, *]; done)))); go_wp2_with fail)
        refine (HRN.out pf).mono ?_
        rintro e w5 ⟨rfl, hd5, hg5⟩
        ((repeat (go_wp2_with fail; first | (refine cdY ?_ ?_; focus (simp [ov, *]; done)) | (refine cdN ?_ ?_; focus (simp [ov, *]; done)))); go_wp2_with fail)
        exact got HR ⟨by simp [ov, *], by simp [ov, *], by simp [ov, *], by simp [ov, *], by simp [ov, *], by rw [HRR2.out]; exact hd5, HK4.out.write hg5 HS1.out.1.size HE1.out.size HNEN.out⟩
      · subst h
        have hrr : slowR m (x - 23) pf 71 = rndD N1 p1 pf := by rw [HRR.out]; rfl
        have hz : (pf == 0) = false := by
          rw [beq_eq_false_iff_ne, ← HPF.out]; unfold fixPrec; split <;> omega
        have HRR2 := Lib.hid hrr
        clear hrr
        ((repeat (go_wp2_with fail; first | (refine cdY ?_ ?_; focus (simp [ov, *]; done)) | (refine cdN ?_ ?_; focus (simp [ov, *]; done)))); go_wp2_with fail)
        refine (HRN.out pf).mono ?_
        rintro e w5 ⟨rfl, hd5, hg5⟩
        ((repeat (go_wp2_with fail; first | (refine cdY ?_ ?_; focus (simp [ov, *]; done)) | (refine cdN ?_ ?_; focus (simp [ov, *]; done)))); go_wp2_with fail)
        exact got HR ⟨by simp [ov, *], by simp [ov, *], by simp [ov, *], by simp [ov, *], by simp [ov, *], by rw [HRR2.out]; exact hd5, HK4.out.write hg5 HS1.out.1.size HE1.out.size HNEN.out⟩
    clear s0 s2 s3 s11 s13 s14 s15 s24 σ HRN HRR d1 hlt4 HK4
    rintro σ w5 ⟨s0, s2, s3, s13, s33, hdv, hk⟩
    obtain ⟨ds, dp, hpk, hdl, hdp1, hdp2, hdp0, hdec⟩ := pkDec_is m (x - 23) pf f hm0 hmb53 (by omega) (by omega)
    obtain ⟨bs, htk, hd⟩ := hdec w5 w1.heap.size false hdv
    have hlt5 := hd.lt
    have e1 := hd.cnd
    have e2 := hd.cdp
    have HPK := Lib.hid hpk
    have HDP0 := Lib.hid hdp0
    have HTK := Lib.hid htk
    have HD5 := Lib.hid hd
    have HK5 := Lib.hid hk
    clear hdec hdv hpk hdp0 htk hd hk
    ((repeat (go_wp2_with fail; first | (refine cdY ?_ ?_; focus (simp [ov, *]; done)) | (refine cdN ?_ ?_; focus (simp [ov, *]; done)))); go_wp2_with fail)
    go_still_tail 16, (by kernel_rfl)
    ((repeat (go_wp2_with fail; first | (refine cdY ?_ ?_; focus (simp [ov, *]; done)) | (refine cdN ?_ ?_; focus (simp [ov, *]; done)))); go_wp2_with fail)
    have hbl : bs.length = 800 := HD5.out.len
    refine (fmtEFG_any T neg false dst (.slice (some ⟨w1.heap.size, 0, none⟩) 800 800) ds dp (ds.length : Nat) pf f xs _ HK5.out.drew.env HK5.out.drew.own ?_ rfl (fun h => Or.inl (HDP0.out h)) (by omega) hf1 hf2 (by omega) (by omega) (by omega) (by omega) (by omega) (Or.inl (by omega)) (by omega)).mono ?_
    · exact Or.inr ⟨w1.heap.size, 800, bs, by rw [hbl], by rw [hbl]; omega, by omega, ⟨_, HD5.out.drew.2⟩, HNEN.out, HTK.out, by rw [hbl]; exact hdl⟩
    rintro e w11 ⟨v', rfl, ho7, hs7⟩
    ((repeat (go_wp2_with fail; first | (refine cdY ?_ ?_; focus (simp [ov, *]; done)) | (refine cdN ?_ ?_; focus (simp [ov, *]; done)))); go_wp2_with fail)
    refine ret_F v' rfl (by decide) (by simp [ov, *]) ⟨v', rfl, ?_, HK5.out.drew.stp.trans hs7⟩
    rw [HL4.out, HPK.out]
    exact ho7
end Go.Proofs.YticlnihjhcepkaaGreatDoor
