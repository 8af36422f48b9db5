/-
  For every input laws.FnNegative64 returns true: the text of a negative number of 64 bits is a minus sign and the text of its magnitude.
  Condition: the package-level tables of internal/strconv and math/bits start as the program's text lays them (the card ties them).
-/
import Derived.Test.YtffooimnioigdaaDoorRw2
namespace Go.Proofs.YtffooimnioigdaaDoor
open Go.ChangeShapes Go.WideShapes Go.ChangeAt Go.RowKit
set_option linter.unusedSimpArgs false
set_option linter.unusedVariables false

theorem flE_top (eb mb b : Nat) (hb : b < 2 ^ (eb + mb)) : flE eb mb (b + 2 ^ (eb + mb)) = flE eb mb b := by
  unfold flE
  rw [show 2 ^ (eb + mb) = 2 ^ mb * 2 ^ eb by rw [Nat.pow_add, Nat.mul_comm], Nat.add_mul_div_left _ _ (Nat.pow_pos (by omega)), Nat.add_mod_right]
theorem flF_top (eb mb b : Nat) : flF mb (b + 2 ^ (eb + mb)) = flF mb b := by
  unfold flF
  rw [show 2 ^ (eb + mb) = 2 ^ mb * 2 ^ eb by rw [Nat.pow_add, Nat.mul_comm], Nat.add_mul_mod_self_left]
theorem flNeg_low (eb mb b : Nat) (hb : b < 2 ^ (eb + mb)) : flNeg eb mb b = false := by unfold flNeg; rw [Nat.div_eq_of_lt hb]; rfl
theorem flNeg_top (eb mb b : Nat) (hb : b < 2 ^ (eb + mb)) : flNeg eb mb (b + 2 ^ (eb + mb)) = true := by
  unfold flNeg
  rw [Nat.add_div_right _ (Nat.pow_pos (by omega)), Nat.div_eq_of_lt hb]; rfl

theorem gAdj_fmt (dp nd prec f : Int) (sh : Bool) (h : f = 101 ∨ f = 69 ∨ f = 102 ∨ f = 103 ∨ f = 71) : (gAdj dp nd prec f sh).2 = 101 ∨ (gAdj dp nd prec f sh).2 = 69 ∨ (gAdj dp nd prec f sh).2 = 102 := by
  unfold gAdj
  (repeat' split) <;> dsimp only <;> omega

theorem efgP_neg (f : Int) (P : Pick) (h : f = 101 ∨ f = 69 ∨ f = 102 ∨ f = 103 ∨ f = 71) : efgP true f P = 45 :: efgP false f P := by
  unfold efgP
  have h1 := gAdj_fmt P.dp P.ds.length P.prec f P.sh h
  generalize (gAdj P.dp (↑P.ds.length) P.prec f P.sh) = g at h1 ⊢
  unfold efgL
  by_cases h2 : g.2 = 101 ∨ g.2 = 69
  · rw [if_pos h2, if_pos h2]; rfl
  · rw [if_neg h2, if_neg h2, if_pos (by omega), if_pos (by omega)]; rfl

theorem fin_E (eb mb b : Nat) (h : b < (2 ^ eb - 1) * 2 ^ mb) : flE eb mb b ≠ 2 ^ eb - 1 := by
  unfold flE
  have h1 : b / 2 ^ mb < 2 ^ eb - 1 := (Nat.div_lt_iff_lt_mul (Nat.pow_pos (by omega))).2 h
  have h2 := Nat.mod_le (b / 2 ^ mb) (2 ^ eb)
  omega

/-- A minus sign ahead. -/
theorem ftoaL_neg (eb mb : Nat) (bias : Int) (Z : Nat) (ME : Int) (b : Nat) (f prec : Int) (hb : b < 2 ^ (eb + mb)) (hk : flE eb mb b ≠ 2 ^ eb - 1) (hf : f = 98 ∨ isFmt f = true) :
    ftoaL eb mb bias Z ME (b + 2 ^ (eb + mb)) f prec = 45 :: ftoaL eb mb bias Z ME b f prec := by
  have e1 := flE_top eb mb b hb
  have e2 := flF_top eb mb b
  have e3 : flMant eb mb (b + 2 ^ (eb + mb)) = flMant eb mb b := by unfold flMant; rw [e1, e2]
  have e4 : flExp eb mb bias (b + 2 ^ (eb + mb)) = flExp eb mb bias b := by unfold flExp; rw [e1]
  unfold ftoaL
  rw [e1, e2, e3, e4, flNeg_low eb mb b hb, flNeg_top eb mb b hb, if_neg hk, if_neg hk]
  by_cases h98 : f = 98
  · rw [if_pos h98, if_pos h98]; rfl
  rw [if_neg h98, if_neg h98]
  by_cases hx : f = 120 ∨ f = 88
  · rw [if_pos hx, if_pos hx]; rfl
  rw [if_neg hx, if_neg hx]
  refine efgP_neg f _ ?_
  rcases hf with h | h
  · exact absurd h h98
  · unfold isFmt at h
    simp only [Bool.or_eq_true, beq_iff_eq] at h
    omega

set_option maxRecDepth 100000 in
set_option maxHeartbeats 8000000 in
theorem negative64_any (T : Nat) (a f prec : Int) (w : World) (he : Env T w) (ha1 : 0 ≤ a) (ha2 : a < 18446744073709551616) (hf1 : 0 ≤ f) (hf2 : f ≤ 255) (hp1 : -9223372036854775808 ≤ prec) (hp2 : prec ≤ 9223372036854775807) :
    Calls Tryd.prog 4 #[.int .u64 a, .int .u8 f, .int .i64 prec] w fun e w' => e = .returned (.bool true) ∧ w.grownBy w' none := by
  obtain ⟨n, rfl⟩ : ∃ n : Nat, a = (n : Int) := ⟨a.toNat, by omega⟩
  have hn : n < 18446744073709551616 := by omega
  obtain ⟨b, hb⟩ : ∃ b, n % 9223372036854775808 = b := ⟨_, rfl⟩
  have hb63 : b < 9223372036854775808 := by rw [← hb]; exact Nat.mod_lt _ (by omega)
  have hand : bits .and .u64 (n : Int) 9223372036854775807 = (b : Int) := by
    rw [← hb]; exact u64_and_low n 63 9223372036854775807 (by decide) (by omega) hn
  have hK := fun W => kind64_any b W (by omega)
  have hZ := fun W => zeroBits_any b W (by omega)
  have hI := fun W => isFormat_any f W
  obtain ⟨k, hk⟩ : ∃ k, kindB 9218868437227405312 9223372036854775808 b = k := ⟨_, rfl⟩
  obtain ⟨z, hz⟩ : ∃ z, decide (b * 2 % 18446744073709551616 = 0) = z := ⟨_, rfl⟩
  obtain ⟨i, hi⟩ : ∃ i, isFmt f = i := ⟨_, rfl⟩
  rw [hk] at hK
  rw [hz] at hZ
  rw [hi] at hI
  have HK := Lib.hid hK
  have HZ := Lib.hid hZ
  have HI := Lib.hid hI
  have Hk := Lib.hid hk
  have Hz := Lib.hid hz
  have Hi := Lib.hid hi
  have HE := Lib.hid he
  clear hK hZ hI hk hz hi he hb ha1 ha2
  refine calls_F Tryd.func4 rfl (by rw [Tryd.ntmps4]; simp) ?_
  intro σ hσ
  rw [Tryd.ntmps4]
  have s0 : σ 0 = .int .u64 (n : Int) := hσ 0 (by simp)
  have s1 : σ 1 = .int .u8 f := hσ 1 (by simp)
  have s2 : σ 2 = .int .i64 prec := hσ 2 (by simp)
  clear hσ
  by_cases hk0 : k = 0
  case neg =>
    have hk0' : (k != 0) = true := by rw [bne_iff_ne]; exact hk0
    ((repeat (go_wp2_with fail; first | (refine cond_yes ?hc (by decide) ?_; (case hc => (simp [over_cons, over_nil, *]; done))) | (refine cond_no ?hc (by decide) ?_; (case hc => (simp [over_cons, over_nil, *]; done))))); go_wp2_with fail)
    refine (HK.out _).mono ?_
    rintro e w7 ⟨rfl, rfl⟩
    ((repeat (go_wp2_with fail; first | (refine cond_yes ?hc (by decide) ?_; (case hc => (simp [over_cons, over_nil, *]; done))) | (refine cond_no ?hc (by decide) ?_; (case hc => (simp [over_cons, over_nil, *]; done))))); go_wp2_with fail)
    all_goals (try ((repeat (go_wp2_with fail; first | (refine cond_yes ?hc (by decide) ?_; (case hc => (simp [over_cons, over_nil, *]; done))) | (refine cond_no ?hc (by decide) ?_; (case hc => (simp [over_cons, over_nil, *]; done))))); go_wp2_with fail))
    all_goals exact ret_F (.bool true) rfl (by decide) (by simp [over_cons, over_nil, *]) ⟨rfl, grown_refl w none⟩
  have hk0' : (k != 0) = false := by rw [hk0]; rfl
  cases z
  case true =>
    ((repeat (go_wp2_with fail; first | (refine cond_yes ?hc (by decide) ?_; (case hc => (simp [over_cons, over_nil, *]; done))) | (refine cond_no ?hc (by decide) ?_; (case hc => (simp [over_cons, over_nil, *]; done))))); go_wp2_with fail)
    refine (HK.out _).mono ?_
    rintro e w7 ⟨rfl, rfl⟩
    ((repeat (go_wp2_with fail; first | (refine cond_yes ?hc (by decide) ?_; (case hc => (simp [over_cons, over_nil, *]; done))) | (refine cond_no ?hc (by decide) ?_; (case hc => (simp [over_cons, over_nil, *]; done))))); go_wp2_with fail)
    refine (HZ.out _).mono ?_
    rintro e w7 ⟨rfl, rfl⟩
    ((repeat (go_wp2_with fail; first | (refine cond_yes ?hc (by decide) ?_; (case hc => (simp [over_cons, over_nil, *]; done))) | (refine cond_no ?hc (by decide) ?_; (case hc => (simp [over_cons, over_nil, *]; done))))); go_wp2_with fail)
    all_goals (try ((repeat (go_wp2_with fail; first | (refine cond_yes ?hc (by decide) ?_; (case hc => (simp [over_cons, over_nil, *]; done))) | (refine cond_no ?hc (by decide) ?_; (case hc => (simp [over_cons, over_nil, *]; done))))); go_wp2_with fail))
    all_goals exact ret_F (.bool true) rfl (by decide) (by simp [over_cons, over_nil, *]) ⟨rfl, grown_refl w none⟩
  by_cases hfm : i = true ∨ f = 98
  case neg =>
    have hi0 : i = false := by cases i <;> simp_all
    have hf98 : (f != 98) = true := by rw [bne_iff_ne]; omega
    subst hi0
    clear hfm
    ((repeat (go_wp2_with fail; first | (refine cond_yes ?hc (by decide) ?_; (case hc => (simp [over_cons, over_nil, *]; done))) | (refine cond_no ?hc (by decide) ?_; (case hc => (simp [over_cons, over_nil, *]; done))))); go_wp2_with fail)
    refine (HK.out _).mono ?_
    rintro e w7 ⟨rfl, rfl⟩
    ((repeat (go_wp2_with fail; first | (refine cond_yes ?hc (by decide) ?_; (case hc => (simp [over_cons, over_nil, *]; done))) | (refine cond_no ?hc (by decide) ?_; (case hc => (simp [over_cons, over_nil, *]; done))))); go_wp2_with fail)
    refine (HZ.out _).mono ?_
    rintro e w7 ⟨rfl, rfl⟩
    ((repeat (go_wp2_with fail; first | (refine cond_yes ?hc (by decide) ?_; (case hc => (simp [over_cons, over_nil, *]; done))) | (refine cond_no ?hc (by decide) ?_; (case hc => (simp [over_cons, over_nil, *]; done))))); go_wp2_with fail)
    refine (HI.out _).mono ?_
    rintro e w7 ⟨rfl, rfl⟩
    ((repeat (go_wp2_with fail; first | (refine cond_yes ?hc (by decide) ?_; (case hc => (simp [over_cons, over_nil, *]; done))) | (refine cond_no ?hc (by decide) ?_; (case hc => (simp [over_cons, over_nil, *]; done))))); go_wp2_with fail)
    all_goals (try ((repeat (go_wp2_with fail; first | (refine cond_yes ?hc (by decide) ?_; (case hc => (simp [over_cons, over_nil, *]; done))) | (refine cond_no ?hc (by decide) ?_; (case hc => (simp [over_cons, over_nil, *]; done))))); go_wp2_with fail))
    all_goals exact ret_F (.bool true) rfl (by decide) (by simp [over_cons, over_nil, *]) ⟨rfl, grown_refl w none⟩
  have hpick : (!i && f != 98) = false := by
    rcases hfm with h | h
    · rw [h]; rfl
    · rw [h]; simp
  by_cases hpr : -1 ≤ prec ∧ prec ≤ 1100
  case neg =>
    cases i
    all_goals
      have hf98 : True := trivial
      by_cases hpl : prec < -1
      · ((repeat (go_wp2_with fail; first | (refine cond_yes ?hc (by decide) ?_; (case hc => (simp [over_cons, over_nil, *]; done))) | (refine cond_no ?hc (by decide) ?_; (case hc => (simp [over_cons, over_nil, *]; done))))); go_wp2_with fail)
        refine (HK.out _).mono ?_
        rintro e w7 ⟨rfl, rfl⟩
        ((repeat (go_wp2_with fail; first | (refine cond_yes ?hc (by decide) ?_; (case hc => (simp [over_cons, over_nil, *]; done))) | (refine cond_no ?hc (by decide) ?_; (case hc => (simp [over_cons, over_nil, *]; done))))); go_wp2_with fail)
        refine (HZ.out _).mono ?_
        rintro e w7 ⟨rfl, rfl⟩
        ((repeat (go_wp2_with fail; first | (refine cond_yes ?hc (by decide) ?_; (case hc => (simp [over_cons, over_nil, *]; done))) | (refine cond_no ?hc (by decide) ?_; (case hc => (simp [over_cons, over_nil, *]; done))))); go_wp2_with fail)
        refine (HI.out _).mono ?_
        rintro e w7 ⟨rfl, rfl⟩
        ((repeat (go_wp2_with fail; first | (refine cond_yes ?hc (by decide) ?_; (case hc => (simp [over_cons, over_nil, *]; done))) | (refine cond_no ?hc (by decide) ?_; (case hc => (simp [over_cons, over_nil, *]; done))))); go_wp2_with fail)
        all_goals (try ((repeat (go_wp2_with fail; first | (refine cond_yes ?hc (by decide) ?_; (case hc => (simp [over_cons, over_nil, *]; done))) | (refine cond_no ?hc (by decide) ?_; (case hc => (simp [over_cons, over_nil, *]; done))))); go_wp2_with fail))
        all_goals exact ret_F (.bool true) rfl (by decide) (by simp [over_cons, over_nil, *]) ⟨rfl, grown_refl w none⟩
      · have hpl' : decide (prec < -1) = false := by simpa using hpl
        have hpu : 1100 < prec := by omega
        ((repeat (go_wp2_with fail; first | (refine cond_yes ?hc (by decide) ?_; (case hc => (simp [over_cons, over_nil, *]; done))) | (refine cond_no ?hc (by decide) ?_; (case hc => (simp [over_cons, over_nil, *]; done))))); go_wp2_with fail)
        refine (HK.out _).mono ?_
        rintro e w7 ⟨rfl, rfl⟩
        ((repeat (go_wp2_with fail; first | (refine cond_yes ?hc (by decide) ?_; (case hc => (simp [over_cons, over_nil, *]; done))) | (refine cond_no ?hc (by decide) ?_; (case hc => (simp [over_cons, over_nil, *]; done))))); go_wp2_with fail)
        refine (HZ.out _).mono ?_
        rintro e w7 ⟨rfl, rfl⟩
        ((repeat (go_wp2_with fail; first | (refine cond_yes ?hc (by decide) ?_; (case hc => (simp [over_cons, over_nil, *]; done))) | (refine cond_no ?hc (by decide) ?_; (case hc => (simp [over_cons, over_nil, *]; done))))); go_wp2_with fail)
        refine (HI.out _).mono ?_
        rintro e w7 ⟨rfl, rfl⟩
        ((repeat (go_wp2_with fail; first | (refine cond_yes ?hc (by decide) ?_; (case hc => (simp [over_cons, over_nil, *]; done))) | (refine cond_no ?hc (by decide) ?_; (case hc => (simp [over_cons, over_nil, *]; done))))); go_wp2_with fail)
        all_goals (try ((repeat (go_wp2_with fail; first | (refine cond_yes ?hc (by decide) ?_; (case hc => (simp [over_cons, over_nil, *]; done))) | (refine cond_no ?hc (by decide) ?_; (case hc => (simp [over_cons, over_nil, *]; done))))); go_wp2_with fail))
        all_goals exact ret_F (.bool true) rfl (by decide) (by simp [over_cons, over_nil, *]) ⟨rfl, grown_refl w none⟩
  obtain ⟨hpl, hpu⟩ := hpr
  have hpl' : decide (prec < -1) = false := by simp; omega
  have hpu' : decide (1100 < prec) = false := by simp; omega
  obtain ⟨c, hc⟩ : ∃ c, b + 9223372036854775808 = c := ⟨_, rfl⟩
  have hor : bits .or .u64 (b : Int) 9223372036854775808 = (c : Int) := by
    have h := u64_or_nat b 9223372036854775808 (by omega) (by omega)
    have h2 : b ||| 9223372036854775808 = c := by
      rw [← hc]
      have := Nat.two_pow_add_eq_or_of_lt (show b < 2 ^ 63 from hb63) 1
      rw [Nat.mul_one] at this
      rw [Nat.add_comm, show (9223372036854775808 : Nat) = 2 ^ 63 by rfl, this, Nat.or_comm]
    rw [h2] at h
    exact h
  have hkb : flE 11 52 b ≠ 2 ^ 11 - 1 := by
    have hlt := kindB_fin (Hk.out.trans hk0)
    rw [Nat.mod_eq_of_lt hb63] at hlt
    refine fin_E 11 52 b ?_
    exact hlt
  have hneg : ftoa64L c f prec = 45 :: ftoa64L b f prec := by
    rw [← hc]
    refine ftoaL_neg 11 52 (-1023) 11 (-1085) b f prec hb63 hkb ?_
    rcases hfm with h | h
    · exact Or.inr (by rw [Hi.out, h])
    · exact Or.inl h
  have HNEG := Lib.hid hneg
  have hF1 := fun T W he => Format64_any T c prec f W he (by omega) hf1 hf2 hp1 (by omega)
  have hF2 := fun T W he => Format64_any T b prec f W he (by omega) hf1 hf2 hp1 (by omega)
  have HF1 := Lib.hid hF1
  have HF2 := Lib.hid hF2
  clear hneg hkb hc hF1 hF2 hfm
  obtain ⟨t1, ht1⟩ : ∃ t, ftoa64L c f prec = t := ⟨_, rfl⟩
  obtain ⟨t2, ht2⟩ : ∃ t, ftoa64L b f prec = t := ⟨_, rfl⟩
  have hlen : t2.length ≤ 4000000 := by rw [← ht2]; exact ftoa64L_len b f prec (by omega) (by omega)
  rw [ht1] at HF1 HNEG
  rw [ht2] at HF2 HNEG
  clear ht1 ht2
  cases i
  case true =>
    ((repeat (go_wp2_with fail; first | (refine cond_yes ?hc (by decide) ?_; (case hc => (simp [over_cons, over_nil, *]; done))) | (refine cond_no ?hc (by decide) ?_; (case hc => (simp [over_cons, over_nil, *]; done))))); go_wp2_with fail)
    refine (HK.out _).mono ?_
    rintro e w7 ⟨rfl, rfl⟩
    ((repeat (go_wp2_with fail; first | (refine cond_yes ?hc (by decide) ?_; (case hc => (simp [over_cons, over_nil, *]; done))) | (refine cond_no ?hc (by decide) ?_; (case hc => (simp [over_cons, over_nil, *]; done))))); go_wp2_with fail)
    refine (HZ.out _).mono ?_
    rintro e w7 ⟨rfl, rfl⟩
    ((repeat (go_wp2_with fail; first | (refine cond_yes ?hc (by decide) ?_; (case hc => (simp [over_cons, over_nil, *]; done))) | (refine cond_no ?hc (by decide) ?_; (case hc => (simp [over_cons, over_nil, *]; done))))); go_wp2_with fail)
    refine (HI.out _).mono ?_
    rintro e w7 ⟨rfl, rfl⟩
    ((repeat (go_wp2_with fail; first | (refine cond_yes ?hc (by decide) ?_; (case hc => (simp [over_cons, over_nil, *]; done))) | (refine cond_no ?hc (by decide) ?_; (case hc => (simp [over_cons, over_nil, *]; done))))); go_wp2_with fail)
    refine (HF1.out T _ HE.out).mono ?_
    rintro e w8 ⟨rfl, hg8⟩
    have HG8 := Lib.hid hg8
    clear hg8
    ((repeat (go_wp2_with fail; first | (refine cond_yes ?hc (by decide) ?_; (case hc => (simp [over_cons, over_nil, *]; done))) | (refine cond_no ?hc (by decide) ?_; (case hc => (simp [over_cons, over_nil, *]; done))))); go_wp2_with fail)
    refine (HF2.out T _ (HE.out.grown HG8.out (by simp))).mono ?_
    rintro e w9 ⟨rfl, hg9⟩
    have HG9 := Lib.hid hg9
    clear hg9
    ((repeat (go_wp2_with fail; first | (refine cond_yes ?hc (by decide) ?_; (case hc => (simp [over_cons, over_nil, *]; done))) | (refine cond_no ?hc (by decide) ?_; (case hc => (simp [over_cons, over_nil, *]; done))))); go_wp2_with fail)
    refine ret_F (.bool true) rfl (by decide) ?_ ⟨rfl, grown_none_trans HG8.out HG9.out⟩
    simp only [over_cons, if_true]
    rw [HNEG.out]
    show Value.bool (45 :: t2 == ((⟨[45].toArray⟩ : ByteArray) ++ ⟨t2.toArray⟩).toList) = _
    rw [cat_mk, toList_mk]
    simp
  case false =>
    have hf98 : f = 98 := by simpa using hpick
    have hf98' : (f != 98) = false := by rw [hf98]; rfl
    clear hpick hf98
    ((repeat (go_wp2_with fail; first | (refine cond_yes ?hc (by decide) ?_; (case hc => (simp [over_cons, over_nil, *]; done))) | (refine cond_no ?hc (by decide) ?_; (case hc => (simp [over_cons, over_nil, *]; done))))); go_wp2_with fail)
    refine (HK.out _).mono ?_
    rintro e w7 ⟨rfl, rfl⟩
    ((repeat (go_wp2_with fail; first | (refine cond_yes ?hc (by decide) ?_; (case hc => (simp [over_cons, over_nil, *]; done))) | (refine cond_no ?hc (by decide) ?_; (case hc => (simp [over_cons, over_nil, *]; done))))); go_wp2_with fail)
    refine (HZ.out _).mono ?_
    rintro e w7 ⟨rfl, rfl⟩
    ((repeat (go_wp2_with fail; first | (refine cond_yes ?hc (by decide) ?_; (case hc => (simp [over_cons, over_nil, *]; done))) | (refine cond_no ?hc (by decide) ?_; (case hc => (simp [over_cons, over_nil, *]; done))))); go_wp2_with fail)
    refine (HI.out _).mono ?_
    rintro e w7 ⟨rfl, rfl⟩
    ((repeat (go_wp2_with fail; first | (refine cond_yes ?hc (by decide) ?_; (case hc => (simp [over_cons, over_nil, *]; done))) | (refine cond_no ?hc (by decide) ?_; (case hc => (simp [over_cons, over_nil, *]; done))))); go_wp2_with fail)
    refine (HF1.out T _ HE.out).mono ?_
    rintro e w8 ⟨rfl, hg8⟩
    have HG8 := Lib.hid hg8
    clear hg8
    ((repeat (go_wp2_with fail; first | (refine cond_yes ?hc (by decide) ?_; (case hc => (simp [over_cons, over_nil, *]; done))) | (refine cond_no ?hc (by decide) ?_; (case hc => (simp [over_cons, over_nil, *]; done))))); go_wp2_with fail)
    refine (HF2.out T _ (HE.out.grown HG8.out (by simp))).mono ?_
    rintro e w9 ⟨rfl, hg9⟩
    have HG9 := Lib.hid hg9
    clear hg9
    ((repeat (go_wp2_with fail; first | (refine cond_yes ?hc (by decide) ?_; (case hc => (simp [over_cons, over_nil, *]; done))) | (refine cond_no ?hc (by decide) ?_; (case hc => (simp [over_cons, over_nil, *]; done))))); go_wp2_with fail)
    refine ret_F (.bool true) rfl (by decide) ?_ ⟨rfl, grown_none_trans HG8.out HG9.out⟩
    simp only [over_cons, if_true]
    rw [HNEG.out]
    show Value.bool (45 :: t2 == ((⟨[45].toArray⟩ : ByteArray) ++ ⟨t2.toArray⟩).toList) = _
    rw [cat_mk, toList_mk]
    simp
end Go.Proofs.YtffooimnioigdaaDoor
