/-
  Walk of laws.FnHalves32.
-/
import Derived.Test.YticlnihjhcepkaaDoorGq
import Derived.Test.YticlnihjhcepkaaDoorGh
namespace Go.Proofs.YticlnihjhcepkaaDoor
open Go.ChangeShapes Go.WideShapes Go.ChangeAt Go.RowKit
set_option linter.unusedSimpArgs false
set_option linter.unusedVariables false
attribute [local go_sem] undef

set_option maxRecDepth 100000 in
set_option maxHeartbeats 8000000 in
theorem qh32_any (T n : Nat) (prec : Int) (w : World) (he : Env T w) (hn : n < 4294967296) (hp1 : -9223372036854775808 ≤ prec) (hp2 : prec ≤ 9223372036854775807) :
    Calls Tryd.prog 5 #[.int .u32 (n : Int), .int .i64 prec] w fun e w' => e = .returned (.bool true) ∧ w.grownBy w' none := by
  have HFI := Lib.hid (fun W => finite32_any n W hn)
  have HE := Lib.hid he
  clear he
  refine calls_F Tryd.func5 rfl (by rw [Tryd.ntmps5]; simp) ?_
  intro σ hσ
  rw [Tryd.ntmps5]
  have s0 : σ 0 = .int .u32 (n : Int) := hσ 0 (by simp)
  have s1 : σ 1 = .int .i64 prec := hσ 1 (by simp)
  clear hσ
  by_cases hfin : n % 2147483648 < 2139095040
  case neg =>
    rw [decide_eq_false hfin] at HFI
    ((repeat (go_wp2_with fail; first | (refine cond_yes ?hc (by decide) ?_; (case hc => (simp [over_cons, over_nil, *]; done))) | (refine cond_no ?hc (by decide) ?_; (case hc => (simp [over_cons, over_nil, *]; done))))); go_wp2_with fail)
    refine (HFI.out _).mono ?_
    rintro e w7 ⟨rfl, rfl⟩
    ((repeat (go_wp2_with fail; first | (refine cond_yes ?hc (by decide) ?_; (case hc => (simp [over_cons, over_nil, *]; done))) | (refine cond_no ?hc (by decide) ?_; (case hc => (simp [over_cons, over_nil, *]; done))))); go_wp2_with fail)
    all_goals (try ((repeat (go_wp2_with fail; first | (refine cond_yes ?hc (by decide) ?_; (case hc => (simp [over_cons, over_nil, *]; done))) | (refine cond_no ?hc (by decide) ?_; (case hc => (simp [over_cons, over_nil, *]; done))))); go_wp2_with fail))
    all_goals exact ret_F (.bool true) rfl (by decide) (by simp [over_cons, over_nil, *]) ⟨rfl, grown_refl w none⟩
  rw [decide_eq_true hfin] at HFI
  by_cases hpr : 0 ≤ prec ∧ prec ≤ 5000
  case neg =>
    by_cases hpl : prec < 0
    · ((repeat (go_wp2_with fail; first | (refine cond_yes ?hc (by decide) ?_; (case hc => (simp [over_cons, over_nil, *]; done))) | (refine cond_no ?hc (by decide) ?_; (case hc => (simp [over_cons, over_nil, *]; done))))); go_wp2_with fail)
      refine (HFI.out _).mono ?_
      rintro e w7 ⟨rfl, rfl⟩
      ((repeat (go_wp2_with fail; first | (refine cond_yes ?hc (by decide) ?_; (case hc => (simp [over_cons, over_nil, *]; done))) | (refine cond_no ?hc (by decide) ?_; (case hc => (simp [over_cons, over_nil, *]; done))))); go_wp2_with fail)
      all_goals (try ((repeat (go_wp2_with fail; first | (refine cond_yes ?hc (by decide) ?_; (case hc => (simp [over_cons, over_nil, *]; done))) | (refine cond_no ?hc (by decide) ?_; (case hc => (simp [over_cons, over_nil, *]; done))))); go_wp2_with fail))
      all_goals exact ret_F (.bool true) rfl (by decide) (by simp [over_cons, over_nil, *]) ⟨rfl, grown_refl w none⟩
    · have hpl' : decide (prec < 0) = false := by simpa using hpl
      have hpu : 5000 < prec := by omega
      ((repeat (go_wp2_with fail; first | (refine cond_yes ?hc (by decide) ?_; (case hc => (simp [over_cons, over_nil, *]; done))) | (refine cond_no ?hc (by decide) ?_; (case hc => (simp [over_cons, over_nil, *]; done))))); go_wp2_with fail)
      refine (HFI.out _).mono ?_
      rintro e w7 ⟨rfl, rfl⟩
      ((repeat (go_wp2_with fail; first | (refine cond_yes ?hc (by decide) ?_; (case hc => (simp [over_cons, over_nil, *]; done))) | (refine cond_no ?hc (by decide) ?_; (case hc => (simp [over_cons, over_nil, *]; done))))); go_wp2_with fail)
      all_goals (try ((repeat (go_wp2_with fail; first | (refine cond_yes ?hc (by decide) ?_; (case hc => (simp [over_cons, over_nil, *]; done))) | (refine cond_no ?hc (by decide) ?_; (case hc => (simp [over_cons, over_nil, *]; done))))); go_wp2_with fail))
      all_goals exact ret_F (.bool true) rfl (by decide) (by simp [over_cons, over_nil, *]) ⟨rfl, grown_refl w none⟩
  obtain ⟨hpl, hpu⟩ := hpr
  obtain ⟨p, rfl⟩ : ∃ p : Nat, prec = (p : Int) := ⟨prec.toNat, by omega⟩
  have hp5 : p ≤ 5000 := by omega
  have hpl' : decide ((p : Int) < 0) = false := by simp
  have hpu' : decide (5000 < (p : Int)) = false := by simp; omega
  have hpu'' : decide (5000 < p) = false := by simp; omega
  have HH1 := Lib.hid (fun W => half32_any n 101 p hn hfin hp5 W)
  have HH2 := Lib.hid (fun W => half32_any n 102 p hn hfin hp5 W)
  have HX1 := Lib.hid (fun W => spec32_efg n 101 p hn hfin (by unfold isEfg; omega) hp5 W)
  have HX2 := Lib.hid (fun W => spec32_efg n 102 p hn hfin (by unfold isEfg; omega) hp5 W)
  obtain ⟨r, hr1, hr2, hr3⟩ := Wd.widen_back n hn hfin
  have HF1 := Lib.hid (fun T W he => Format32_any T n r (p : Int) 101 W he hn hr2 hr3 (by omega) (by omega) (by omega) (by omega))
  have HF2 := Lib.hid (fun T W he => Format32_any T n r (p : Int) 102 W he hn hr2 hr3 (by omega) (by omega) (by omega) (by omega))
  clear hr1 hr2 hr3

  generalize ftoa32L n 101 p = t1 at *
  generalize ftoa32L n 102 p = t2 at *
  ((repeat (go_wp2_with fail; first | (refine cond_yes ?hc (by decide) ?_; (case hc => (simp [over_cons, over_nil, *]; done))) | (refine cond_no ?hc (by decide) ?_; (case hc => (simp [over_cons, over_nil, *]; done))))); go_wp2_with fail)
  refine (HFI.out _).mono ?_
  rintro e w7 ⟨rfl, rfl⟩
  ((repeat (go_wp2_with fail; first | (refine cond_yes ?hc (by decide) ?_; (case hc => (simp [over_cons, over_nil, *]; done))) | (refine cond_no ?hc (by decide) ?_; (case hc => (simp [over_cons, over_nil, *]; done))))); go_wp2_with fail)
  refine (HH1.out _).mono ?_
  rintro e w7 ⟨r1, rfl, hg7⟩
  have HG7 := Lib.hid hg7
  clear hg7
  cases r1
  case true =>
    ((repeat (go_wp2_with fail; first | (refine cond_yes ?hc (by decide) ?_; (case hc => (simp [over_cons, over_nil, *]; done))) | (refine cond_no ?hc (by decide) ?_; (case hc => (simp [over_cons, over_nil, *]; done))))); go_wp2_with fail)
    refine (HF1.out T _ (HE.out.grown HG7.out (by simp))).mono ?_
    rintro e w8 ⟨rfl, hg8⟩
    have HG8 := Lib.hid (grown_none_trans HG7.out hg8)
    clear hg8
    ((repeat (go_wp2_with fail; first | (refine cond_yes ?hc (by decide) ?_; (case hc => (simp [over_cons, over_nil, *]; done))) | (refine cond_no ?hc (by decide) ?_; (case hc => (simp [over_cons, over_nil, *]; done))))); go_wp2_with fail)
    refine (HX1.out _).mono ?_
    rintro e w9 ⟨rfl, hg9⟩
    have HG9 := Lib.hid (grown_none_trans HG8.out hg9)
    clear hg9
    ((repeat (go_wp2_with fail; first | (refine cond_yes ?hc (by decide) ?_; (case hc => (simp [over_cons, over_nil, *]; done))) | (refine cond_no ?hc (by decide) ?_; (case hc => (simp [over_cons, over_nil, *]; done))))); go_wp2_with fail)
    refine (HH2.out _).mono ?_
    rintro e wA ⟨r2, rfl, hgA⟩
    have HGA := Lib.hid (grown_none_trans HG9.out hgA)
    clear hgA
    cases r2
    case true =>
      ((repeat (go_wp2_with fail; first | (refine cond_yes ?hc (by decide) ?_; (case hc => (simp [over_cons, over_nil, *]; done))) | (refine cond_no ?hc (by decide) ?_; (case hc => (simp [over_cons, over_nil, *]; done))))); go_wp2_with fail)
      refine (HF2.out T _ (HE.out.grown HGA.out (by simp))).mono ?_
      rintro e wB ⟨rfl, hgB⟩
      have HGB := Lib.hid (grown_none_trans HGA.out hgB)
      clear hgB
      ((repeat (go_wp2_with fail; first | (refine cond_yes ?hc (by decide) ?_; (case hc => (simp [over_cons, over_nil, *]; done))) | (refine cond_no ?hc (by decide) ?_; (case hc => (simp [over_cons, over_nil, *]; done))))); go_wp2_with fail)
      refine (HX2.out _).mono ?_
      rintro e wC ⟨rfl, hgC⟩
      have HGC := Lib.hid (grown_none_trans HGB.out hgC)
      clear hgC
      ((repeat (go_wp2_with fail; first | (refine cond_yes ?hc (by decide) ?_; (case hc => (simp [over_cons, over_nil, *]; done))) | (refine cond_no ?hc (by decide) ?_; (case hc => (simp [over_cons, over_nil, *]; done))))); go_wp2_with fail)
      exact ret_F (.bool true) rfl (by decide) (by simp [over_cons, over_nil, *]) ⟨rfl, HGC.out⟩
    case false =>
      ((repeat (go_wp2_with fail; first | (refine cond_yes ?hc (by decide) ?_; (case hc => (simp [over_cons, over_nil, *]; done))) | (refine cond_no ?hc (by decide) ?_; (case hc => (simp [over_cons, over_nil, *]; done))))); go_wp2_with fail)
      exact ret_F (.bool true) rfl (by decide) (by simp [over_cons, over_nil, *]) ⟨rfl, HGA.out⟩
  case false =>
    ((repeat (go_wp2_with fail; first | (refine cond_yes ?hc (by decide) ?_; (case hc => (simp [over_cons, over_nil, *]; done))) | (refine cond_no ?hc (by decide) ?_; (case hc => (simp [over_cons, over_nil, *]; done))))); go_wp2_with fail)
    refine (HH2.out _).mono ?_
    rintro e wA ⟨r2, rfl, hgA⟩
    have HGA := Lib.hid (grown_none_trans HG7.out hgA)
    clear hgA
    cases r2
    case true =>
      ((repeat (go_wp2_with fail; first | (refine cond_yes ?hc (by decide) ?_; (case hc => (simp [over_cons, over_nil, *]; done))) | (refine cond_no ?hc (by decide) ?_; (case hc => (simp [over_cons, over_nil, *]; done))))); go_wp2_with fail)
      refine (HF2.out T _ (HE.out.grown HGA.out (by simp))).mono ?_
      rintro e wB ⟨rfl, hgB⟩
      have HGB := Lib.hid (grown_none_trans HGA.out hgB)
      clear hgB
      ((repeat (go_wp2_with fail; first | (refine cond_yes ?hc (by decide) ?_; (case hc => (simp [over_cons, over_nil, *]; done))) | (refine cond_no ?hc (by decide) ?_; (case hc => (simp [over_cons, over_nil, *]; done))))); go_wp2_with fail)
      refine (HX2.out _).mono ?_
      rintro e wC ⟨rfl, hgC⟩
      have HGC := Lib.hid (grown_none_trans HGB.out hgC)
      clear hgC
      ((repeat (go_wp2_with fail; first | (refine cond_yes ?hc (by decide) ?_; (case hc => (simp [over_cons, over_nil, *]; done))) | (refine cond_no ?hc (by decide) ?_; (case hc => (simp [over_cons, over_nil, *]; done))))); go_wp2_with fail)
      exact ret_F (.bool true) rfl (by decide) (by simp [over_cons, over_nil, *]) ⟨rfl, HGC.out⟩
    case false =>
      ((repeat (go_wp2_with fail; first | (refine cond_yes ?hc (by decide) ?_; (case hc => (simp [over_cons, over_nil, *]; done))) | (refine cond_no ?hc (by decide) ?_; (case hc => (simp [over_cons, over_nil, *]; done))))); go_wp2_with fail)
      exact ret_F (.bool true) rfl (by decide) (by simp [over_cons, over_nil, *]) ⟨rfl, HGA.out⟩
end Go.Proofs.YticlnihjhcepkaaDoor
