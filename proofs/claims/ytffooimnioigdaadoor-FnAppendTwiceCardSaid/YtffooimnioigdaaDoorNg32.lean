/-
  Walk: the law FnNegative32.
-/
import Derived.Test.YtffooimnioigdaaDoorNg64
import Derived.Test.YtffooimnioigdaaDoorWd
namespace Go.Proofs.YtffooimnioigdaaDoor
open Go.ChangeShapes Go.WideShapes Go.ChangeAt Go.RowKit
set_option linter.unusedSimpArgs false
set_option linter.unusedVariables false

theorem u32_and31 (n : Nat) (hn : n < 4294967296) : bits .and .u32 (n : Int) 2147483647 = ((n % 2147483648 : Nat) : Int) := by
  have h0 : (BitVec.ofInt 32 (n : Int)).toNat = n := by rw [BitVec.toNat_ofInt]; omega
  have h1 : (BitVec.ofInt 32 (2147483647 : Int)).toNat = 2 ^ 31 - 1 := by decide
  have key : (BitVec.ofInt 32 (n : Int) &&& BitVec.ofInt 32 2147483647).toNat = n % 2 ^ 31 := by
    rw [BitVec.toNat_and, h0, h1, Nat.and_two_pow_sub_one_eq_mod]
  show IntKind.u32.wrap ((BitVec.ofInt 32 (n : Int) &&& BitVec.ofInt 32 2147483647).toNat : Nat) = _
  rw [key, IntKind.wrap_u32]
  omega
theorem u32_or31 (b : Nat) (hb : b < 2147483648) : bits .or .u32 (b : Int) 2147483648 = ((b + 2147483648 : Nat) : Int) := by
  have h0 : (BitVec.ofInt 32 (b : Int)).toNat = b := by rw [BitVec.toNat_ofInt]; omega
  have h1 : (BitVec.ofInt 32 (2147483648 : Int)).toNat = 2 ^ 31 := by decide
  have key : (BitVec.ofInt 32 (b : Int) ||| BitVec.ofInt 32 2147483648).toNat = b + 2147483648 := by
    have := Nat.two_pow_add_eq_or_of_lt (show b < 2 ^ 31 from hb) 1
    rw [Nat.mul_one] at this
    rw [BitVec.toNat_or, h0, h1, Nat.or_comm, ← this]
    omega
  show IntKind.u32.wrap ((BitVec.ofInt 32 (b : Int) ||| BitVec.ofInt 32 2147483648).toNat : Nat) = _
  rw [key, IntKind.wrap_u32]
  omega

set_option maxRecDepth 100000 in
set_option maxHeartbeats 8000000 in
theorem negative32_any (T : Nat) (a f prec : Int) (w : World) (he : Env T w) (ha1 : 0 ≤ a) (ha2 : a < 4294967296) (hf1 : 0 ≤ f) (hf2 : f ≤ 255) (hp1 : -9223372036854775808 ≤ prec) (hp2 : prec ≤ 9223372036854775807) :
    Calls Tryd.prog 3 #[.int .u32 a, .int .u8 f, .int .i64 prec] w fun e w' => e = .returned (.bool true) ∧ w.grownBy w' none := by
  obtain ⟨n, rfl⟩ : ∃ n : Nat, a = (n : Int) := ⟨a.toNat, by omega⟩
  have hn : n < 4294967296 := by omega
  obtain ⟨b, hb⟩ : ∃ b, n % 2147483648 = b := ⟨_, rfl⟩
  have hb63 : b < 2147483648 := by rw [← hb]; exact Nat.mod_lt _ (by omega)
  have hand : bits .and .u32 (n : Int) 2147483647 = (b : Int) := by
    rw [← hb]; exact u32_and31 n hn
  have hK := fun W => kind32_any b W (by omega)
  have hI := fun W => isFormat_any f W
  obtain ⟨k, hk⟩ : ∃ k, kindB 2139095040 2147483648 b = k := ⟨_, rfl⟩
  obtain ⟨i, hi⟩ : ∃ i, isFmt f = i := ⟨_, rfl⟩
  rw [hk] at hK
  rw [hi] at hI
  have HK := Lib.hid hK
  have HI := Lib.hid hI
  have Hk := Lib.hid hk
  have Hi := Lib.hid hi
  have HE := Lib.hid he
  clear hK hI hk hi he hb ha1 ha2
  refine calls_F Tryd.func3 rfl (by rw [Tryd.ntmps3]; simp) ?_
  intro σ hσ
  rw [Tryd.ntmps3]
  have s0 : σ 0 = .int .u32 (n : Int) := hσ 0 (by simp)
  have s1 : σ 1 = .int .u8 f := hσ 1 (by simp)
  have s2 : σ 2 = .int .i64 prec := hσ 2 (by simp)
  clear hσ
  by_cases hk0 : k = 0
  case neg =>
    have hk0' : (k != 0) = true := by rw [bne_iff_ne]; exact hk0
    ((repeat (go_wp2_with fail; first | (refine cond_yes ?hc (by decide) ?_; (case hc => (simp [over_cons, over_nil, *]; done))) | (refine cond_no ?hc (by decide) ?_; (case hc => (simp [over_cons, over_nil, *]; done))))); go_wp2_with fail)
    refine (HK.out _).mono ?_
    rintro e w7 ⟨rfl, rfl⟩
    ((repeat (go_wp2_with fail; first | (refine cond_yes ?hc (by decide) ?_; (case hc => (simp [over_cons, over_nil, *]; done))) | (refine cond_no ?hc (by decide) ?_; (case hc => (simp [over_cons, over_nil, *]; done))))); go_wp2_with fail)
    all_goals (try ((repeat (go_wp2_with fail; first | (refine cond_yes ?hc (by decide) ?_; (case hc => (simp [over_cons, over_nil, *]; done))) | (refine cond_no ?hc (by decide) ?_; (case hc => (simp [over_cons, over_nil, *]; done))))); go_wp2_with fail))
    all_goals exact ret_F (.bool true) rfl (by decide) (by simp [over_cons, over_nil, *]) ⟨rfl, grown_refl w none⟩
  have hk0' : (k != 0) = false := by rw [hk0]; rfl
  by_cases hz0 : b = 0
  case pos =>
    have hz' : ((b : Int) == 0) = true := by rw [hz0]; rfl
    clear hz0
    ((repeat (go_wp2_with fail; first | (refine cond_yes ?hc (by decide) ?_; (case hc => (simp [over_cons, over_nil, *]; done))) | (refine cond_no ?hc (by decide) ?_; (case hc => (simp [over_cons, over_nil, *]; done))))); go_wp2_with fail)
    refine (HK.out _).mono ?_
    rintro e w7 ⟨rfl, rfl⟩
    ((repeat (go_wp2_with fail; first | (refine cond_yes ?hc (by decide) ?_; (case hc => (simp [over_cons, over_nil, *]; done))) | (refine cond_no ?hc (by decide) ?_; (case hc => (simp [over_cons, over_nil, *]; done))))); go_wp2_with fail)
    all_goals (try ((repeat (go_wp2_with fail; first | (refine cond_yes ?hc (by decide) ?_; (case hc => (simp [over_cons, over_nil, *]; done))) | (refine cond_no ?hc (by decide) ?_; (case hc => (simp [over_cons, over_nil, *]; done))))); go_wp2_with fail))
    all_goals exact ret_F (.bool true) rfl (by decide) (by simp [over_cons, over_nil, *]) ⟨rfl, grown_refl w none⟩
  have hz' : ((b : Int) == 0) = false := by rw [beq_eq_false_iff_ne]; omega
  by_cases hfm : i = true ∨ f = 98
  case neg =>
    have hi0 : i = false := by cases i <;> simp_all
    have hf98 : (f != 98) = true := by rw [bne_iff_ne]; omega
    subst hi0
    clear hfm
    ((repeat (go_wp2_with fail; first | (refine cond_yes ?hc (by decide) ?_; (case hc => (simp [over_cons, over_nil, *]; done))) | (refine cond_no ?hc (by decide) ?_; (case hc => (simp [over_cons, over_nil, *]; done))))); go_wp2_with fail)
    refine (HK.out _).mono ?_
    rintro e w7 ⟨rfl, rfl⟩
    ((repeat (go_wp2_with fail; first | (refine cond_yes ?hc (by decide) ?_; (case hc => (simp [over_cons, over_nil, *]; done))) | (refine cond_no ?hc (by decide) ?_; (case hc => (simp [over_cons, over_nil, *]; done))))); go_wp2_with fail)
    refine (HI.out _).mono ?_
    rintro e w7 ⟨rfl, rfl⟩
    ((repeat (go_wp2_with fail; first | (refine cond_yes ?hc (by decide) ?_; (case hc => (simp [over_cons, over_nil, *]; done))) | (refine cond_no ?hc (by decide) ?_; (case hc => (simp [over_cons, over_nil, *]; done))))); go_wp2_with fail)
    all_goals (try ((repeat (go_wp2_with fail; first | (refine cond_yes ?hc (by decide) ?_; (case hc => (simp [over_cons, over_nil, *]; done))) | (refine cond_no ?hc (by decide) ?_; (case hc => (simp [over_cons, over_nil, *]; done))))); go_wp2_with fail))
    all_goals exact ret_F (.bool true) rfl (by decide) (by simp [over_cons, over_nil, *]) ⟨rfl, grown_refl w none⟩
  have hpick : (!i && f != 98) = false := by
    rcases hfm with h | h
    · rw [h]; rfl
    · rw [h]; simp
  by_cases hpr : -1 ≤ prec ∧ prec ≤ 1100
  case neg =>
    cases i
    all_goals
      have hf98 : True := trivial
      by_cases hpl : prec < -1
      · ((repeat (go_wp2_with fail; first | (refine cond_yes ?hc (by decide) ?_; (case hc => (simp [over_cons, over_nil, *]; done))) | (refine cond_no ?hc (by decide) ?_; (case hc => (simp [over_cons, over_nil, *]; done))))); go_wp2_with fail)
        refine (HK.out _).mono ?_
        rintro e w7 ⟨rfl, rfl⟩
        ((repeat (go_wp2_with fail; first | (refine cond_yes ?hc (by decide) ?_; (case hc => (simp [over_cons, over_nil, *]; done))) | (refine cond_no ?hc (by decide) ?_; (case hc => (simp [over_cons, over_nil, *]; done))))); go_wp2_with fail)
        refine (HI.out _).mono ?_
        rintro e w7 ⟨rfl, rfl⟩
        ((repeat (go_wp2_with fail; first | (refine cond_yes ?hc (by decide) ?_; (case hc => (simp [over_cons, over_nil, *]; done))) | (refine cond_no ?hc (by decide) ?_; (case hc => (simp [over_cons, over_nil, *]; done))))); go_wp2_with fail)
        all_goals (try ((repeat (go_wp2_with fail; first | (refine cond_yes ?hc (by decide) ?_; (case hc => (simp [over_cons, over_nil, *]; done))) | (refine cond_no ?hc (by decide) ?_; (case hc => (simp [over_cons, over_nil, *]; done))))); go_wp2_with fail))
        all_goals exact ret_F (.bool true) rfl (by decide) (by simp [over_cons, over_nil, *]) ⟨rfl, grown_refl w none⟩
      · have hpl' : decide (prec < -1) = false := by simpa using hpl
        have hpu : 1100 < prec := by omega
        ((repeat (go_wp2_with fail; first | (refine cond_yes ?hc (by decide) ?_; (case hc => (simp [over_cons, over_nil, *]; done))) | (refine cond_no ?hc (by decide) ?_; (case hc => (simp [over_cons, over_nil, *]; done))))); go_wp2_with fail)
        refine (HK.out _).mono ?_
        rintro e w7 ⟨rfl, rfl⟩
        ((repeat (go_wp2_with fail; first | (refine cond_yes ?hc (by decide) ?_; (case hc => (simp [over_cons, over_nil, *]; done))) | (refine cond_no ?hc (by decide) ?_; (case hc => (simp [over_cons, over_nil, *]; done))))); go_wp2_with fail)
        refine (HI.out _).mono ?_
        rintro e w7 ⟨rfl, rfl⟩
        ((repeat (go_wp2_with fail; first | (refine cond_yes ?hc (by decide) ?_; (case hc => (simp [over_cons, over_nil, *]; done))) | (refine cond_no ?hc (by decide) ?_; (case hc => (simp [over_cons, over_nil, *]; done))))); go_wp2_with fail)
        all_goals (try ((repeat (go_wp2_with fail; first | (refine cond_yes ?hc (by decide) ?_; (case hc => (simp [over_cons, over_nil, *]; done))) | (refine cond_no ?hc (by decide) ?_; (case hc => (simp [over_cons, over_nil, *]; done))))); go_wp2_with fail))
        all_goals exact ret_F (.bool true) rfl (by decide) (by simp [over_cons, over_nil, *]) ⟨rfl, grown_refl w none⟩
  obtain ⟨hpl, hpu⟩ := hpr
  have hpl' : decide (prec < -1) = false := by simp; omega
  have hpu' : decide (1100 < prec) = false := by simp; omega
  obtain ⟨c, hc⟩ : ∃ c, b + 2147483648 = c := ⟨_, rfl⟩
  have hor : bits .or .u32 (b : Int) 2147483648 = (c : Int) := by rw [← hc]; exact u32_or31 b hb63
  have hkb : flE 8 23 b ≠ 2 ^ 8 - 1 := by
    have hlt := kindB_fin (Hk.out.trans hk0)
    rw [Nat.mod_eq_of_lt hb63] at hlt
    refine fin_E 8 23 b ?_
    exact hlt
  have hneg : ftoa32L c f prec = 45 :: ftoa32L b f prec := by
    rw [← hc]
    refine ftoaL_neg 8 23 (-127) 40 (-189) b f prec hb63 hkb ?_
    rcases hfm with h | h
    · exact Or.inr (by rw [Hi.out, h])
    · exact Or.inl h
  have HNEG := Lib.hid hneg
  have hfin := kindB_fin (Hk.out.trans hk0)
  obtain ⟨r1, _, hw1, hr1⟩ := Wd.widen_back c (by omega) (by rw [← hc, Nat.add_mod_right]; exact hfin)
  obtain ⟨r2, _, hw2, hr2⟩ := Wd.widen_back b (by omega) hfin
  have hF1 := fun T W he => Format32_any T c r1 prec f W he (by omega) hw1 hr1 hf1 hf2 hp1 (by omega)
  have hF2 := fun T W he => Format32_any T b r2 prec f W he (by omega) hw2 hr2 hf1 hf2 hp1 (by omega)
  have HF1 := Lib.hid hF1
  have HF2 := Lib.hid hF2
  clear hneg hkb hc hF1 hF2 hfm hfin hw1 hr1 hw2 hr2
  obtain ⟨t1, ht1⟩ : ∃ t, ftoa32L c f prec = t := ⟨_, rfl⟩
  obtain ⟨t2, ht2⟩ : ∃ t, ftoa32L b f prec = t := ⟨_, rfl⟩
  have hlen : t2.length ≤ 4000000 := by rw [← ht2]; exact ftoa32L_len b f prec (by omega) (by omega)
  rw [ht1] at HF1 HNEG
  rw [ht2] at HF2 HNEG
  clear ht1 ht2
  cases i
  case true =>
    ((repeat (go_wp2_with fail; first | (refine cond_yes ?hc (by decide) ?_; (case hc => (simp [over_cons, over_nil, *]; done))) | (refine cond_no ?hc (by decide) ?_; (case hc => (simp [over_cons, over_nil, *]; done))))); go_wp2_with fail)
    refine (HK.out _).mono ?_
    rintro e w7 ⟨rfl, rfl⟩
    ((repeat (go_wp2_with fail; first | (refine cond_yes ?hc (by decide) ?_; (case hc => (simp [over_cons, over_nil, *]; done))) | (refine cond_no ?hc (by decide) ?_; (case hc => (simp [over_cons, over_nil, *]; done))))); go_wp2_with fail)
    refine (HI.out _).mono ?_
    rintro e w7 ⟨rfl, rfl⟩
    ((repeat (go_wp2_with fail; first | (refine cond_yes ?hc (by decide) ?_; (case hc => (simp [over_cons, over_nil, *]; done))) | (refine cond_no ?hc (by decide) ?_; (case hc => (simp [over_cons, over_nil, *]; done))))); go_wp2_with fail)
    refine (HF1.out T _ HE.out).mono ?_
    rintro e w8 ⟨rfl, hg8⟩
    have HG8 := Lib.hid hg8
    clear hg8
    ((repeat (go_wp2_with fail; first | (refine cond_yes ?hc (by decide) ?_; (case hc => (simp [over_cons, over_nil, *]; done))) | (refine cond_no ?hc (by decide) ?_; (case hc => (simp [over_cons, over_nil, *]; done))))); go_wp2_with fail)
    refine (HF2.out T _ (HE.out.grown HG8.out (by simp))).mono ?_
    rintro e w9 ⟨rfl, hg9⟩
    have HG9 := Lib.hid hg9
    clear hg9
    ((repeat (go_wp2_with fail; first | (refine cond_yes ?hc (by decide) ?_; (case hc => (simp [over_cons, over_nil, *]; done))) | (refine cond_no ?hc (by decide) ?_; (case hc => (simp [over_cons, over_nil, *]; done))))); go_wp2_with fail)
    refine ret_F (.bool true) rfl (by decide) ?_ ⟨rfl, grown_none_trans HG8.out HG9.out⟩
    simp only [over_cons, if_true]
    rw [HNEG.out]
    show Value.bool (45 :: t2 == ((⟨[45].toArray⟩ : ByteArray) ++ ⟨t2.toArray⟩).toList) = _
    rw [cat_mk, toList_mk]
    simp
  case false =>
    have hf98 : f = 98 := by simpa using hpick
    have hf98' : (f != 98) = false := by rw [hf98]; rfl
    clear hpick hf98
    ((repeat (go_wp2_with fail; first | (refine cond_yes ?hc (by decide) ?_; (case hc => (simp [over_cons, over_nil, *]; done))) | (refine cond_no ?hc (by decide) ?_; (case hc => (simp [over_cons, over_nil, *]; done))))); go_wp2_with fail)
    refine (HK.out _).mono ?_
    rintro e w7 ⟨rfl, rfl⟩
    ((repeat (go_wp2_with fail; first | (refine cond_yes ?hc (by decide) ?_; (case hc => (simp [over_cons, over_nil, *]; done))) | (refine cond_no ?hc (by decide) ?_; (case hc => (simp [over_cons, over_nil, *]; done))))); go_wp2_with fail)
    refine (HI.out _).mono ?_
    rintro e w7 ⟨rfl, rfl⟩
    ((repeat (go_wp2_with fail; first | (refine cond_yes ?hc (by decide) ?_; (case hc => (simp [over_cons, over_nil, *]; done))) | (refine cond_no ?hc (by decide) ?_; (case hc => (simp [over_cons, over_nil, *]; done))))); go_wp2_with fail)
    refine (HF1.out T _ HE.out).mono ?_
    rintro e w8 ⟨rfl, hg8⟩
    have HG8 := Lib.hid hg8
    clear hg8
    ((repeat (go_wp2_with fail; first | (refine cond_yes ?hc (by decide) ?_; (case hc => (simp [over_cons, over_nil, *]; done))) | (refine cond_no ?hc (by decide) ?_; (case hc => (simp [over_cons, over_nil, *]; done))))); go_wp2_with fail)
    refine (HF2.out T _ (HE.out.grown HG8.out (by simp))).mono ?_
    rintro e w9 ⟨rfl, hg9⟩
    have HG9 := Lib.hid hg9
    clear hg9
    ((repeat (go_wp2_with fail; first | (refine cond_yes ?hc (by decide) ?_; (case hc => (simp [over_cons, over_nil, *]; done))) | (refine cond_no ?hc (by decide) ?_; (case hc => (simp [over_cons, over_nil, *]; done))))); go_wp2_with fail)
    refine ret_F (.bool true) rfl (by decide) ?_ ⟨rfl, grown_none_trans HG8.out HG9.out⟩
    simp only [over_cons, if_true]
    rw [HNEG.out]
    show Value.bool (45 :: t2 == ((⟨[45].toArray⟩ : ByteArray) ++ ⟨t2.toArray⟩).toList) = _
    rw [cat_mk, toList_mk]
    simp
end Go.Proofs.YtffooimnioigdaaDoor
