/-
  Walk of laws.FnGeneralValue.
-/
import Derived.Test.YthkcfpmlgoomfaaDoorCVg0
import Derived.Test.YthkcfpmlgoomfaaDoorCLf
import Derived.Test.YthkcfpmlgoomfaaDoorGh
namespace Go.Proofs.YthkcfpmlgoomfaaDoor
open Go.ChangeShapes Go.WideShapes Go.ChangeAt Go.RowKit
set_option linter.unusedSimpArgs false
set_option linter.unusedVariables false

set_option maxRecDepth 100000 in
set_option maxHeartbeats 4000000 in
theorem general_value_any (T n m : Nat) (prec : Int) (w : World) (he : Env T w) (hn : n < 18446744073709551616) (hm : m < 4294967296) (hp1 : -9223372036854775808 ≤ prec) (hp2 : prec ≤ 9223372036854775807) :
    Calls Tryd.prog 8 #[.int .u64 (n : Int), .int .u32 (m : Int), .int .i64 prec] w fun e w' => e = .returned (.bool true) ∧ w.grownBy w' none := by
  have HK1 := Lib.hid (fun W => kind64_any n W hn)
  have HK2 := Lib.hid (fun W => kind32_any m W hm)
  have HE := Lib.hid he
  clear he
  refine calls_F Tryd.func8 rfl (by rw [Tryd.ntmps8]; simp) ?_
  intro σ hσ
  rw [Tryd.ntmps8]
  have s0 : σ 0 = .int .u64 (n : Int) := hσ 0 (by simp)
  have s1 : σ 1 = .int .u32 (m : Int) := hσ 1 (by simp)
  have s2 : σ 2 = .int .i64 prec := hσ 2 (by simp)
  clear hσ
  by_cases hf1 : n % 9223372036854775808 < 9218868437227405312
  case neg =>
    have hk := kindB_ne hf1
    generalize kindB 9218868437227405312 9223372036854775808 n = k1 at *
    ((repeat (go_wp2_with fail; first | (refine cond_yes ?hc (by decide) ?_; (case hc => (simp [over_cons, over_nil, *]; done))) | (refine cond_no ?hc (by decide) ?_; (case hc => (simp [over_cons, over_nil, *]; done))))); go_wp2_with fail)
    refine (HK1.out _).mono ?_
    rintro e w7 ⟨rfl, rfl⟩
    ((repeat (go_wp2_with fail; first | (refine cond_yes ?hc (by decide) ?_; (case hc => (simp [over_cons, over_nil, *]; done))) | (refine cond_no ?hc (by decide) ?_; (case hc => (simp [over_cons, over_nil, *]; done))))); go_wp2_with fail)
    all_goals (try ((repeat (go_wp2_with fail; first | (refine cond_yes ?hc (by decide) ?_; (case hc => (simp [over_cons, over_nil, *]; done))) | (refine cond_no ?hc (by decide) ?_; (case hc => (simp [over_cons, over_nil, *]; done))))); go_wp2_with fail))
    all_goals exact ret_F (.bool true) rfl (by decide) (by simp [over_cons, over_nil, *]) ⟨rfl, grown_refl w none⟩
  rw [kindB_0 rfl hf1] at HK1
  by_cases hf2 : m % 2147483648 < 2139095040
  case neg =>
    have hk := kindB_ne hf2
    generalize kindB 2139095040 2147483648 m = k2 at *
    ((repeat (go_wp2_with fail; first | (refine cond_yes ?hc (by decide) ?_; (case hc => (simp [over_cons, over_nil, *]; done))) | (refine cond_no ?hc (by decide) ?_; (case hc => (simp [over_cons, over_nil, *]; done))))); go_wp2_with fail)
    refine (HK1.out _).mono ?_
    rintro e w7 ⟨rfl, rfl⟩
    ((repeat (go_wp2_with fail; first | (refine cond_yes ?hc (by decide) ?_; (case hc => (simp [over_cons, over_nil, *]; done))) | (refine cond_no ?hc (by decide) ?_; (case hc => (simp [over_cons, over_nil, *]; done))))); go_wp2_with fail)
    refine (HK2.out _).mono ?_
    rintro e w7 ⟨rfl, rfl⟩
    ((repeat (go_wp2_with fail; first | (refine cond_yes ?hc (by decide) ?_; (case hc => (simp [over_cons, over_nil, *]; done))) | (refine cond_no ?hc (by decide) ?_; (case hc => (simp [over_cons, over_nil, *]; done))))); go_wp2_with fail)
    all_goals (try ((repeat (go_wp2_with fail; first | (refine cond_yes ?hc (by decide) ?_; (case hc => (simp [over_cons, over_nil, *]; done))) | (refine cond_no ?hc (by decide) ?_; (case hc => (simp [over_cons, over_nil, *]; done))))); go_wp2_with fail))
    all_goals exact ret_F (.bool true) rfl (by decide) (by simp [over_cons, over_nil, *]) ⟨rfl, grown_refl w none⟩
  rw [kindB_0 rfl hf2] at HK2
  by_cases hpr : 1 ≤ prec ∧ prec ≤ 1000
  case neg =>
    by_cases hpl : prec < 1
    · ((repeat (go_wp2_with fail; first | (refine cond_yes ?hc (by decide) ?_; (case hc => (simp [over_cons, over_nil, *]; done))) | (refine cond_no ?hc (by decide) ?_; (case hc => (simp [over_cons, over_nil, *]; done))))); go_wp2_with fail)
      refine (HK1.out _).mono ?_
      rintro e w7 ⟨rfl, rfl⟩
      ((repeat (go_wp2_with fail; first | (refine cond_yes ?hc (by decide) ?_; (case hc => (simp [over_cons, over_nil, *]; done))) | (refine cond_no ?hc (by decide) ?_; (case hc => (simp [over_cons, over_nil, *]; done))))); go_wp2_with fail)
      refine (HK2.out _).mono ?_
      rintro e w7 ⟨rfl, rfl⟩
      ((repeat (go_wp2_with fail; first | (refine cond_yes ?hc (by decide) ?_; (case hc => (simp [over_cons, over_nil, *]; done))) | (refine cond_no ?hc (by decide) ?_; (case hc => (simp [over_cons, over_nil, *]; done))))); go_wp2_with fail)
      all_goals (try ((repeat (go_wp2_with fail; first | (refine cond_yes ?hc (by decide) ?_; (case hc => (simp [over_cons, over_nil, *]; done))) | (refine cond_no ?hc (by decide) ?_; (case hc => (simp [over_cons, over_nil, *]; done))))); go_wp2_with fail))
      all_goals exact ret_F (.bool true) rfl (by decide) (by simp [over_cons, over_nil, *]) ⟨rfl, grown_refl w none⟩
    · have hpl' : decide (prec < 1) = false := by simpa using hpl
      have hpu : 1000 < prec := by omega
      ((repeat (go_wp2_with fail; first | (refine cond_yes ?hc (by decide) ?_; (case hc => (simp [over_cons, over_nil, *]; done))) | (refine cond_no ?hc (by decide) ?_; (case hc => (simp [over_cons, over_nil, *]; done))))); go_wp2_with fail)
      refine (HK1.out _).mono ?_
      rintro e w7 ⟨rfl, rfl⟩
      ((repeat (go_wp2_with fail; first | (refine cond_yes ?hc (by decide) ?_; (case hc => (simp [over_cons, over_nil, *]; done))) | (refine cond_no ?hc (by decide) ?_; (case hc => (simp [over_cons, over_nil, *]; done))))); go_wp2_with fail)
      refine (HK2.out _).mono ?_
      rintro e w7 ⟨rfl, rfl⟩
      ((repeat (go_wp2_with fail; first | (refine cond_yes ?hc (by decide) ?_; (case hc => (simp [over_cons, over_nil, *]; done))) | (refine cond_no ?hc (by decide) ?_; (case hc => (simp [over_cons, over_nil, *]; done))))); go_wp2_with fail)
      all_goals (try ((repeat (go_wp2_with fail; first | (refine cond_yes ?hc (by decide) ?_; (case hc => (simp [over_cons, over_nil, *]; done))) | (refine cond_no ?hc (by decide) ?_; (case hc => (simp [over_cons, over_nil, *]; done))))); go_wp2_with fail))
      all_goals exact ret_F (.bool true) rfl (by decide) (by simp [over_cons, over_nil, *]) ⟨rfl, grown_refl w none⟩
  obtain ⟨hpl, hpu⟩ := hpr
  obtain ⟨p, rfl⟩ : ∃ p : Nat, prec = (p : Int) := ⟨prec.toNat, by omega⟩
  have hq1 : 1 ≤ p := by omega
  have hq2 : p ≤ 1000 := by omega
  have hpl' : decide ((p : Int) < 1) = false := by simp; omega
  have hpl'' : decide (p < 1) = false := by simp; omega
  have hp0 : (p == 0) = false := by rw [beq_eq_false_iff_ne]; omega
  have hpu' : decide (1000 < (p : Int)) = false := by simp; omega
  have hpu'' : decide (1000 < p) = false := by simp; omega
  have hp0' : ¬ p = 0 := by omega
  have HQ1 := Lib.hid (fun W => general_eq 11 52 (-1023) 11 (-1085) n p (fin64_E n hf1) (hz64 n hf1) hq1 hq2 W)
  have HQ2 := Lib.hid (fun W => general_eq_s 11 52 (-1023) 11 (-1085) n (fin64_E n hf1) (hz64 n hf1) W)
  have HQ3 := Lib.hid (fun W => general_eq 8 23 (-127) 40 (-189) m p (fin32_E m hf2) (hz32 m hf2) hq1 hq2 W)
  have HQ4 := Lib.hid (fun W => general_eq_s 8 23 (-127) 40 (-189) m (fin32_E m hf2) (hz32 m hf2) W)
  obtain ⟨r, hr1, hr2, hr3⟩ := Wd.widen_back m hm hf2
  have HF1 := Lib.hid (fun T W he => Format64_any T n (p : Int) 103 W he hn (by omega) (by omega) (by omega) (by omega))
  have HF2 := Lib.hid (fun T W he => Format64_any T n ((p : Int) - 1) 101 W he hn (by omega) (by omega) (by omega) (by omega))
  have HF3 := Lib.hid (fun T W he => Format64_any T n (-1) 103 W he hn (by omega) (by omega) (by omega) (by omega))
  have HF4 := Lib.hid (fun T W he => Format64_any T n (-1) 101 W he hn (by omega) (by omega) (by omega) (by omega))
  have HG1 := Lib.hid (fun T W he => Format32_any T m r (p : Int) 103 W he hm hr2 hr3 (by omega) (by omega) (by omega) (by omega))
  have HG2 := Lib.hid (fun T W he => Format32_any T m r ((p : Int) - 1) 101 W he hm hr2 hr3 (by omega) (by omega) (by omega) (by omega))
  have HG3 := Lib.hid (fun T W he => Format32_any T m r (-1) 103 W he hm hr2 hr3 (by omega) (by omega) (by omega) (by omega))
  have HG4 := Lib.hid (fun T W he => Format32_any T m r (-1) 101 W he hm hr2 hr3 (by omega) (by omega) (by omega) (by omega))
  unfold ftoa64L at HF1 HF2 HF3 HF4
  unfold ftoa32L at HG1 HG2 HG3 HG4
  generalize ftoaL 11 52 (-1023) 11 (-1085) n 103 p = t1 at *
  generalize ftoaL 11 52 (-1023) 11 (-1085) n 101 ((p : Int) - 1) = t2 at *
  generalize ftoaL 11 52 (-1023) 11 (-1085) n 103 (-1) = t3 at *
  generalize ftoaL 11 52 (-1023) 11 (-1085) n 101 (-1) = t4 at *
  generalize ftoaL 8 23 (-127) 40 (-189) m 103 p = t5 at *
  generalize ftoaL 8 23 (-127) 40 (-189) m 101 ((p : Int) - 1) = t6 at *
  generalize ftoaL 8 23 (-127) 40 (-189) m 103 (-1) = t7 at *
  generalize ftoaL 8 23 (-127) 40 (-189) m 101 (-1) = t8 at *
  clear hr1 hr2 hr3
  ((repeat (go_wp2_with fail; first | (refine cond_yes ?hc (by decide) ?_; (case hc => (simp [over_cons, over_nil, *]; done))) | (refine cond_no ?hc (by decide) ?_; (case hc => (simp [over_cons, over_nil, *]; done))))); go_wp2_with fail)
  refine (HK1.out _).mono ?_
  rintro e w7 ⟨rfl, rfl⟩
  ((repeat (go_wp2_with fail; first | (refine cond_yes ?hc (by decide) ?_; (case hc => (simp [over_cons, over_nil, *]; done))) | (refine cond_no ?hc (by decide) ?_; (case hc => (simp [over_cons, over_nil, *]; done))))); go_wp2_with fail)
  refine (HK2.out _).mono ?_
  rintro e w7 ⟨rfl, rfl⟩
  have HW0 := Lib.hid (grown_refl w none)
  ((repeat (go_wp2_with fail; first | (refine cond_yes ?hc (by decide) ?_; (case hc => (simp [over_cons, over_nil, *]; done))) | (refine cond_no ?hc (by decide) ?_; (case hc => (simp [over_cons, over_nil, *]; done))))); go_wp2_with fail)
  refine (HF1.out T _ (HE.out.grown HW0.out (by simp))).mono ?_
  rintro e w1 ⟨rfl, hg1⟩
  have HW1 := Lib.hid (grown_none_trans HW0.out hg1)
  clear hg1
  ((repeat (go_wp2_with fail; first | (refine cond_yes ?hc (by decide) ?_; (case hc => (simp [over_cons, over_nil, *]; done))) | (refine cond_no ?hc (by decide) ?_; (case hc => (simp [over_cons, over_nil, *]; done))))); go_wp2_with fail)
  refine (HF2.out T _ (HE.out.grown HW1.out (by simp))).mono ?_
  rintro e w2 ⟨rfl, hg2⟩
  have HW2 := Lib.hid (grown_none_trans HW1.out hg2)
  clear hg2
  ((repeat (go_wp2_with fail; first | (refine cond_yes ?hc (by decide) ?_; (case hc => (simp [over_cons, over_nil, *]; done))) | (refine cond_no ?hc (by decide) ?_; (case hc => (simp [over_cons, over_nil, *]; done))))); go_wp2_with fail)
  refine (HQ1.out _).mono ?_
  rintro e w3 ⟨rfl, hg3⟩
  have HW3 := Lib.hid (grown_none_trans HW2.out hg3)
  clear hg3
  ((repeat (go_wp2_with fail; first | (refine cond_yes ?hc (by decide) ?_; (case hc => (simp [over_cons, over_nil, *]; done))) | (refine cond_no ?hc (by decide) ?_; (case hc => (simp [over_cons, over_nil, *]; done))))); go_wp2_with fail)
  refine (HF3.out T _ (HE.out.grown HW3.out (by simp))).mono ?_
  rintro e w4 ⟨rfl, hg4⟩
  have HW4 := Lib.hid (grown_none_trans HW3.out hg4)
  clear hg4
  ((repeat (go_wp2_with fail; first | (refine cond_yes ?hc (by decide) ?_; (case hc => (simp [over_cons, over_nil, *]; done))) | (refine cond_no ?hc (by decide) ?_; (case hc => (simp [over_cons, over_nil, *]; done))))); go_wp2_with fail)
  refine (HF4.out T _ (HE.out.grown HW4.out (by simp))).mono ?_
  rintro e w5 ⟨rfl, hg5⟩
  have HW5 := Lib.hid (grown_none_trans HW4.out hg5)
  clear hg5
  ((repeat (go_wp2_with fail; first | (refine cond_yes ?hc (by decide) ?_; (case hc => (simp [over_cons, over_nil, *]; done))) | (refine cond_no ?hc (by decide) ?_; (case hc => (simp [over_cons, over_nil, *]; done))))); go_wp2_with fail)
  refine (HQ2.out _).mono ?_
  rintro e w6 ⟨rfl, hg6⟩
  have HW6 := Lib.hid (grown_none_trans HW5.out hg6)
  clear hg6
  ((repeat (go_wp2_with fail; first | (refine cond_yes ?hc (by decide) ?_; (case hc => (simp [over_cons, over_nil, *]; done))) | (refine cond_no ?hc (by decide) ?_; (case hc => (simp [over_cons, over_nil, *]; done))))); go_wp2_with fail)
  refine (HG1.out T _ (HE.out.grown HW6.out (by simp))).mono ?_
  rintro e w7 ⟨rfl, hg7⟩
  have HW7 := Lib.hid (grown_none_trans HW6.out hg7)
  clear hg7
  ((repeat (go_wp2_with fail; first | (refine cond_yes ?hc (by decide) ?_; (case hc => (simp [over_cons, over_nil, *]; done))) | (refine cond_no ?hc (by decide) ?_; (case hc => (simp [over_cons, over_nil, *]; done))))); go_wp2_with fail)
  refine (HG2.out T _ (HE.out.grown HW7.out (by simp))).mono ?_
  rintro e w8 ⟨rfl, hg8⟩
  have HW8 := Lib.hid (grown_none_trans HW7.out hg8)
  clear hg8
  ((repeat (go_wp2_with fail; first | (refine cond_yes ?hc (by decide) ?_; (case hc => (simp [over_cons, over_nil, *]; done))) | (refine cond_no ?hc (by decide) ?_; (case hc => (simp [over_cons, over_nil, *]; done))))); go_wp2_with fail)
  refine (HQ3.out _).mono ?_
  rintro e w9 ⟨rfl, hg9⟩
  have HW9 := Lib.hid (grown_none_trans HW8.out hg9)
  clear hg9
  ((repeat (go_wp2_with fail; first | (refine cond_yes ?hc (by decide) ?_; (case hc => (simp [over_cons, over_nil, *]; done))) | (refine cond_no ?hc (by decide) ?_; (case hc => (simp [over_cons, over_nil, *]; done))))); go_wp2_with fail)
  refine (HG3.out T _ (HE.out.grown HW9.out (by simp))).mono ?_
  rintro e w10 ⟨rfl, hg10⟩
  have HW10 := Lib.hid (grown_none_trans HW9.out hg10)
  clear hg10
  ((repeat (go_wp2_with fail; first | (refine cond_yes ?hc (by decide) ?_; (case hc => (simp [over_cons, over_nil, *]; done))) | (refine cond_no ?hc (by decide) ?_; (case hc => (simp [over_cons, over_nil, *]; done))))); go_wp2_with fail)
  refine (HG4.out T _ (HE.out.grown HW10.out (by simp))).mono ?_
  rintro e w11 ⟨rfl, hg11⟩
  have HW11 := Lib.hid (grown_none_trans HW10.out hg11)
  clear hg11
  ((repeat (go_wp2_with fail; first | (refine cond_yes ?hc (by decide) ?_; (case hc => (simp [over_cons, over_nil, *]; done))) | (refine cond_no ?hc (by decide) ?_; (case hc => (simp [over_cons, over_nil, *]; done))))); go_wp2_with fail)
  refine (HQ4.out _).mono ?_
  rintro e w12 ⟨rfl, hg12⟩
  have HW12 := Lib.hid (grown_none_trans HW11.out hg12)
  clear hg12
  ((repeat (go_wp2_with fail; first | (refine cond_yes ?hc (by decide) ?_; (case hc => (simp [over_cons, over_nil, *]; done))) | (refine cond_no ?hc (by decide) ?_; (case hc => (simp [over_cons, over_nil, *]; done))))); go_wp2_with fail)
  exact ret_F (.bool true) rfl (by decide) (by simp [over_cons, over_nil, *]) ⟨rfl, HW12.out⟩
end Go.Proofs.YthkcfpmlgoomfaaDoor
