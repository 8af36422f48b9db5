/-
  Walk of laws.FnFixedValue.
-/
import Derived.Test.YthkcfpmlgoomfaaDoorGv
import Derived.Test.YthkcfpmlgoomfaaDoorCLf
import Derived.Test.YthkcfpmlgoomfaaDoorGh
namespace Go.Proofs.YthkcfpmlgoomfaaDoor
open Go.ChangeShapes Go.WideShapes Go.ChangeAt Go.RowKit
set_option linter.unusedSimpArgs false
set_option linter.unusedVariables false

theorem hz64 (b : Nat) (hfin : b % 9223372036854775808 < 9218868437227405312) :
    11 = 11 ∧ (-1085 : Int) = -1085 ∧ 52 = 52 ∧ -1022 ≤ flExp 11 52 (-1023) b ∧ flExp 11 52 (-1023) b ≤ 1023 ∧ flMant 11 52 b < 2 ^ 53 ∨ 11 = 40 ∧ (-1085 : Int) = -189 ∧ 52 = 23 ∧ -126 ≤ flExp 11 52 (-1023) b ∧ flExp 11 52 (-1023) b ≤ 127 ∧ flMant 11 52 b < 2 ^ 24 := by
  have h1 := e64_bd b hfin
  have h2 := m64_lt b
  unfold e64 at h1
  unfold m64 at h2
  exact Or.inl ⟨rfl, rfl, rfl, by omega, by omega, h2⟩
theorem hz32 (b : Nat) (hfin : b % 2147483648 < 2139095040) :
    40 = 11 ∧ (-189 : Int) = -1085 ∧ 23 = 52 ∧ -1022 ≤ flExp 8 23 (-127) b ∧ flExp 8 23 (-127) b ≤ 1023 ∧ flMant 8 23 b < 2 ^ 53 ∨ 40 = 40 ∧ (-189 : Int) = -189 ∧ 23 = 23 ∧ -126 ≤ flExp 8 23 (-127) b ∧ flExp 8 23 (-127) b ≤ 127 ∧ flMant 8 23 b < 2 ^ 24 := by
  have h1 := e32_bd b hfin
  have h2 := m32_lt b
  unfold e32 at h1
  unfold m32 at h2
  exact Or.inr ⟨rfl, rfl, rfl, by omega, by omega, h2⟩

theorem kindB_ne {inf s b : Nat} (h : ¬ b % s < inf) : (kindB inf s b != 0) = true := by
  unfold kindB
  rw [if_neg h]
  split <;> rfl

set_option maxRecDepth 100000 in
set_option maxHeartbeats 4000000 in
theorem fixedValue_any (T n m : Nat) (w : World) (he : Env T w) (hn : n < 18446744073709551616) (hm : m < 4294967296) :
    Calls Tryd.prog 7 #[.int .u64 (n : Int), .int .u32 (m : Int)] w fun e w' => e = .returned (.bool true) ∧ w.grownBy w' none := by
  have HK1 := Lib.hid (fun W => kind64_any n W hn)
  have HK2 := Lib.hid (fun W => kind32_any m W hm)
  have HE := Lib.hid he
  clear he
  refine calls_F Tryd.func7 rfl (by rw [Tryd.ntmps7]; simp) ?_
  intro σ hσ
  rw [Tryd.ntmps7]
  have s0 : σ 0 = .int .u64 (n : Int) := hσ 0 (by simp)
  have s1 : σ 1 = .int .u32 (m : Int) := hσ 1 (by simp)
  clear hσ
  by_cases hf1 : n % 9223372036854775808 < 9218868437227405312
  case neg =>
    have hk := kindB_ne hf1
    generalize kindB 9218868437227405312 9223372036854775808 n = k1 at *
    ((repeat (go_wp2_with fail; first | (refine cond_yes ?hc (by decide) ?_; (case hc => (simp [over_cons, over_nil, *]; done))) | (refine cond_no ?hc (by decide) ?_; (case hc => (simp [over_cons, over_nil, *]; done))))); go_wp2_with fail)
    refine (HK1.out _).mono ?_
    rintro e w7 ⟨rfl, rfl⟩
    ((repeat (go_wp2_with fail; first | (refine cond_yes ?hc (by decide) ?_; (case hc => (simp [over_cons, over_nil, *]; done))) | (refine cond_no ?hc (by decide) ?_; (case hc => (simp [over_cons, over_nil, *]; done))))); go_wp2_with fail)
    all_goals (try ((repeat (go_wp2_with fail; first | (refine cond_yes ?hc (by decide) ?_; (case hc => (simp [over_cons, over_nil, *]; done))) | (refine cond_no ?hc (by decide) ?_; (case hc => (simp [over_cons, over_nil, *]; done))))); go_wp2_with fail))
    all_goals exact ret_F (.bool true) rfl (by decide) (by simp [over_cons, over_nil, *]) ⟨rfl, grown_refl w none⟩
  rw [kindB_0 rfl hf1] at HK1
  by_cases hf2 : m % 2147483648 < 2139095040
  case neg =>
    have hk := kindB_ne hf2
    generalize kindB 2139095040 2147483648 m = k2 at *
    ((repeat (go_wp2_with fail; first | (refine cond_yes ?hc (by decide) ?_; (case hc => (simp [over_cons, over_nil, *]; done))) | (refine cond_no ?hc (by decide) ?_; (case hc => (simp [over_cons, over_nil, *]; done))))); go_wp2_with fail)
    refine (HK1.out _).mono ?_
    rintro e w7 ⟨rfl, rfl⟩
    ((repeat (go_wp2_with fail; first | (refine cond_yes ?hc (by decide) ?_; (case hc => (simp [over_cons, over_nil, *]; done))) | (refine cond_no ?hc (by decide) ?_; (case hc => (simp [over_cons, over_nil, *]; done))))); go_wp2_with fail)
    refine (HK2.out _).mono ?_
    rintro e w7 ⟨rfl, rfl⟩
    ((repeat (go_wp2_with fail; first | (refine cond_yes ?hc (by decide) ?_; (case hc => (simp [over_cons, over_nil, *]; done))) | (refine cond_no ?hc (by decide) ?_; (case hc => (simp [over_cons, over_nil, *]; done))))); go_wp2_with fail)
    all_goals (try ((repeat (go_wp2_with fail; first | (refine cond_yes ?hc (by decide) ?_; (case hc => (simp [over_cons, over_nil, *]; done))) | (refine cond_no ?hc (by decide) ?_; (case hc => (simp [over_cons, over_nil, *]; done))))); go_wp2_with fail))
    all_goals exact ret_F (.bool true) rfl (by decide) (by simp [over_cons, over_nil, *]) ⟨rfl, grown_refl w none⟩
  rw [kindB_0 rfl hf2] at HK2
  have HQ1 := Lib.hid (fun W => fixed_eq 11 52 (-1023) 11 (-1085) n (fin64_E n hf1) (hz64 n hf1) W)
  have HQ2 := Lib.hid (fun W => fixed_eq 8 23 (-127) 40 (-189) m (fin32_E m hf2) (hz32 m hf2) W)
  obtain ⟨r, hr1, hr2, hr3⟩ := Wd.widen_back m hm hf2
  have HF1 := Lib.hid (fun T W he => Format64_any T n (-1) 102 W he hn (by omega) (by omega) (by omega) (by omega))
  have HF2 := Lib.hid (fun T W he => Format64_any T n (-1) 101 W he hn (by omega) (by omega) (by omega) (by omega))
  have HG1 := Lib.hid (fun T W he => Format32_any T m r (-1) 102 W he hm hr2 hr3 (by omega) (by omega) (by omega) (by omega))
  have HG2 := Lib.hid (fun T W he => Format32_any T m r (-1) 101 W he hm hr2 hr3 (by omega) (by omega) (by omega) (by omega))
  unfold ftoa64L at HF1 HF2
  unfold ftoa32L at HG1 HG2
  generalize ftoaL 11 52 (-1023) 11 (-1085) n 102 (-1) = t1 at *
  generalize ftoaL 11 52 (-1023) 11 (-1085) n 101 (-1) = t2 at *
  generalize ftoaL 8 23 (-127) 40 (-189) m 102 (-1) = t3 at *
  generalize ftoaL 8 23 (-127) 40 (-189) m 101 (-1) = t4 at *
  clear hr1 hr2 hr3
  ((repeat (go_wp2_with fail; first | (refine cond_yes ?hc (by decide) ?_; (case hc => (simp [over_cons, over_nil, *]; done))) | (refine cond_no ?hc (by decide) ?_; (case hc => (simp [over_cons, over_nil, *]; done))))); go_wp2_with fail)
  refine (HK1.out _).mono ?_
  rintro e w7 ⟨rfl, rfl⟩
  ((repeat (go_wp2_with fail; first | (refine cond_yes ?hc (by decide) ?_; (case hc => (simp [over_cons, over_nil, *]; done))) | (refine cond_no ?hc (by decide) ?_; (case hc => (simp [over_cons, over_nil, *]; done))))); go_wp2_with fail)
  refine (HK2.out _).mono ?_
  rintro e w7 ⟨rfl, rfl⟩
  ((repeat (go_wp2_with fail; first | (refine cond_yes ?hc (by decide) ?_; (case hc => (simp [over_cons, over_nil, *]; done))) | (refine cond_no ?hc (by decide) ?_; (case hc => (simp [over_cons, over_nil, *]; done))))); go_wp2_with fail)
  refine (HF1.out T _ HE.out).mono ?_
  rintro e w1 ⟨rfl, hg1⟩
  have HW1 := Lib.hid hg1
  clear hg1
  ((repeat (go_wp2_with fail; first | (refine cond_yes ?hc (by decide) ?_; (case hc => (simp [over_cons, over_nil, *]; done))) | (refine cond_no ?hc (by decide) ?_; (case hc => (simp [over_cons, over_nil, *]; done))))); go_wp2_with fail)
  refine (HF2.out T _ (HE.out.grown HW1.out (by simp))).mono ?_
  rintro e w2 ⟨rfl, hg2⟩
  have HW2 := Lib.hid (grown_none_trans HW1.out hg2)
  clear hg2
  ((repeat (go_wp2_with fail; first | (refine cond_yes ?hc (by decide) ?_; (case hc => (simp [over_cons, over_nil, *]; done))) | (refine cond_no ?hc (by decide) ?_; (case hc => (simp [over_cons, over_nil, *]; done))))); go_wp2_with fail)
  refine (HQ1.out _).mono ?_
  rintro e w3 ⟨rfl, hg3⟩
  have HW3 := Lib.hid (grown_none_trans HW2.out hg3)
  clear hg3
  ((repeat (go_wp2_with fail; first | (refine cond_yes ?hc (by decide) ?_; (case hc => (simp [over_cons, over_nil, *]; done))) | (refine cond_no ?hc (by decide) ?_; (case hc => (simp [over_cons, over_nil, *]; done))))); go_wp2_with fail)
  refine (HG1.out T _ (HE.out.grown HW3.out (by simp))).mono ?_
  rintro e w4 ⟨rfl, hg4⟩
  have HW4 := Lib.hid (grown_none_trans HW3.out hg4)
  clear hg4
  ((repeat (go_wp2_with fail; first | (refine cond_yes ?hc (by decide) ?_; (case hc => (simp [over_cons, over_nil, *]; done))) | (refine cond_no ?hc (by decide) ?_; (case hc => (simp [over_cons, over_nil, *]; done))))); go_wp2_with fail)
  refine (HG2.out T _ (HE.out.grown HW4.out (by simp))).mono ?_
  rintro e w5 ⟨rfl, hg5⟩
  have HW5 := Lib.hid (grown_none_trans HW4.out hg5)
  clear hg5
  ((repeat (go_wp2_with fail; first | (refine cond_yes ?hc (by decide) ?_; (case hc => (simp [over_cons, over_nil, *]; done))) | (refine cond_no ?hc (by decide) ?_; (case hc => (simp [over_cons, over_nil, *]; done))))); go_wp2_with fail)
  refine (HQ2.out _).mono ?_
  rintro e w6 ⟨rfl, hg6⟩
  have HW6 := Lib.hid (grown_none_trans HW5.out hg6)
  clear hg6
  ((repeat (go_wp2_with fail; first | (refine cond_yes ?hc (by decide) ?_; (case hc => (simp [over_cons, over_nil, *]; done))) | (refine cond_no ?hc (by decide) ?_; (case hc => (simp [over_cons, over_nil, *]; done))))); go_wp2_with fail)
  exact ret_F (.bool true) rfl (by decide) (by simp [over_cons, over_nil, *]) ⟨rfl, HW6.out⟩
end Go.Proofs.YthkcfpmlgoomfaaDoor
