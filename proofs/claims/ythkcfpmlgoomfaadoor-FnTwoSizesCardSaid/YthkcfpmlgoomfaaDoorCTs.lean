/-
  Walk of laws.FnTwoSizes.
-/
import Derived.Test.YthkcfpmlgoomfaaDoorCWi1
import Derived.Test.YthkcfpmlgoomfaaDoorGh
namespace Go.Proofs.YthkcfpmlgoomfaaDoor
open Go.ChangeShapes Go.WideShapes Go.ChangeAt Go.RowKit
set_option linter.unusedSimpArgs false
set_option linter.unusedVariables false
attribute [local go_sem] undef

theorem kindB_ne' {inf s b : Nat} (h : ¬ b % s < inf) : (kindB inf s b != 0) = true := by
  unfold kindB
  rw [if_neg h]
  split <;> rfl

theorem ftoa32L_ne (n : Nat) (f : Int) (pr : Nat) (hfin : n % 2147483648 < 2139095040) (hf : isEfg f) : ftoa32L n f pr ≠ [] := by
  unfold ftoa32L ftoaL
  rw [if_neg (fin32_E n hfin), if_neg (by unfold isEfg at hf; omega), if_neg (by unfold isEfg at hf; omega)]
  exact efgP_ne _ _ _

set_option maxRecDepth 100000 in
set_option maxHeartbeats 8000000 in
theorem twoSizes_any (T n : Nat) (f prec : Int) (w : World) (he : Env T w) (hn : n < 4294967296) (hf1 : 0 ≤ f) (hf2 : f ≤ 255) (hp1 : -9223372036854775808 ≤ prec) (hp2 : prec ≤ 9223372036854775807) :
    Calls Tryd.prog 13 #[.int .u32 (n : Int), .int .u8 f, .int .i64 prec] w fun e w' => e = .returned (.bool true) ∧ w.grownBy w' none := by
  have HK := Lib.hid (fun W => kind32_any n W hn)
  have HE := Lib.hid he
  clear he
  refine calls_F Tryd.func13 rfl (by rw [Tryd.ntmps13]; simp) ?_
  intro σ hσ
  rw [Tryd.ntmps13]
  have s0 : σ 0 = .int .u32 (n : Int) := hσ 0 (by simp)
  have s1 : σ 1 = .int .u8 f := hσ 1 (by simp)
  have s2 : σ 2 = .int .i64 prec := hσ 2 (by simp)
  clear hσ
  by_cases hfin : n % 2147483648 < 2139095040
  case neg =>
    have hk := kindB_ne' hfin
    generalize kindB 2139095040 2147483648 n = k1 at *
    ((repeat (go_wp2_with fail; first | (refine cond_yes ?hc (by decide) ?_; (case hc => (simp [over_cons, over_nil, *]; done))) | (refine cond_no ?hc (by decide) ?_; (case hc => (simp [over_cons, over_nil, *]; done))))); go_wp2_with fail)
    refine (HK.out _).mono ?_
    rintro e w7 ⟨rfl, rfl⟩
    ((repeat (go_wp2_with fail; first | (refine cond_yes ?hc (by decide) ?_; (case hc => (simp [over_cons, over_nil, *]; done))) | (refine cond_no ?hc (by decide) ?_; (case hc => (simp [over_cons, over_nil, *]; done))))); go_wp2_with fail)
    all_goals (try ((repeat (go_wp2_with fail; first | (refine cond_yes ?hc (by decide) ?_; (case hc => (simp [over_cons, over_nil, *]; done))) | (refine cond_no ?hc (by decide) ?_; (case hc => (simp [over_cons, over_nil, *]; done))))); go_wp2_with fail))
    all_goals exact ret_F (.bool true) rfl (by decide) (by simp [over_cons, over_nil, *]) ⟨rfl, grown_refl w none⟩
  rw [kindB_0 rfl hfin] at HK
  by_cases hfm : f = 101 ∨ f = 102 ∨ f = 103
  case neg =>
    have g1 : (f != 101) = true := by rw [bne_iff_ne]; omega
    have g2 : (f != 102) = true := by rw [bne_iff_ne]; omega
    have g3 : (f != 103) = true := by rw [bne_iff_ne]; omega
    have q1 : (f == 101) = false := by rw [beq_eq_false_iff_ne]; omega
    have q2 : (f == 102) = false := by rw [beq_eq_false_iff_ne]; omega
    have q3 : (f == 103) = false := by rw [beq_eq_false_iff_ne]; omega
    clear hfm
    ((repeat (go_wp2_with fail; first | (refine cond_yes ?hc (by decide) ?_; (case hc => (simp [over_cons, over_nil, *]; done))) | (refine cond_no ?hc (by decide) ?_; (case hc => (simp [over_cons, over_nil, *]; done))))); go_wp2_with fail)
    refine (HK.out _).mono ?_
    rintro e w7 ⟨rfl, rfl⟩
    ((repeat (go_wp2_with fail; first | (refine cond_yes ?hc (by decide) ?_; (case hc => (simp [over_cons, over_nil, *]; done))) | (refine cond_no ?hc (by decide) ?_; (case hc => (simp [over_cons, over_nil, *]; done))))); go_wp2_with fail)
    all_goals (try ((repeat (go_wp2_with fail; first | (refine cond_yes ?hc (by decide) ?_; (case hc => (simp [over_cons, over_nil, *]; done))) | (refine cond_no ?hc (by decide) ?_; (case hc => (simp [over_cons, over_nil, *]; done))))); go_wp2_with fail))
    all_goals exact ret_F (.bool true) rfl (by decide) (by simp [over_cons, over_nil, *]) ⟨rfl, grown_refl w none⟩
  by_cases hpr : 0 ≤ prec ∧ prec ≤ 1100
  case neg =>
    by_cases hpl : prec < 0
    · rcases hfm with rfl | rfl | rfl
      all_goals
        ((repeat (go_wp2_with fail; first | (refine cond_yes ?hc (by decide) ?_; (case hc => (simp [over_cons, over_nil, *]; done))) | (refine cond_no ?hc (by decide) ?_; (case hc => (simp [over_cons, over_nil, *]; done))))); go_wp2_with fail)
        refine (HK.out _).mono ?_
        rintro e w7 ⟨rfl, rfl⟩
        ((repeat (go_wp2_with fail; first | (refine cond_yes ?hc (by decide) ?_; (case hc => (simp [over_cons, over_nil, *]; done))) | (refine cond_no ?hc (by decide) ?_; (case hc => (simp [over_cons, over_nil, *]; done))))); go_wp2_with fail)
        all_goals (try ((repeat (go_wp2_with fail; first | (refine cond_yes ?hc (by decide) ?_; (case hc => (simp [over_cons, over_nil, *]; done))) | (refine cond_no ?hc (by decide) ?_; (case hc => (simp [over_cons, over_nil, *]; done))))); go_wp2_with fail))
        all_goals exact ret_F (.bool true) rfl (by decide) (by simp [over_cons, over_nil, *]) ⟨rfl, grown_refl w none⟩
    · have hpl' : decide (prec < 0) = false := by simpa using hpl
      have hpu : 1100 < prec := by omega
      rcases hfm with rfl | rfl | rfl
      all_goals
        ((repeat (go_wp2_with fail; first | (refine cond_yes ?hc (by decide) ?_; (case hc => (simp [over_cons, over_nil, *]; done))) | (refine cond_no ?hc (by decide) ?_; (case hc => (simp [over_cons, over_nil, *]; done))))); go_wp2_with fail)
        refine (HK.out _).mono ?_
        rintro e w7 ⟨rfl, rfl⟩
        ((repeat (go_wp2_with fail; first | (refine cond_yes ?hc (by decide) ?_; (case hc => (simp [over_cons, over_nil, *]; done))) | (refine cond_no ?hc (by decide) ?_; (case hc => (simp [over_cons, over_nil, *]; done))))); go_wp2_with fail)
        all_goals (try ((repeat (go_wp2_with fail; first | (refine cond_yes ?hc (by decide) ?_; (case hc => (simp [over_cons, over_nil, *]; done))) | (refine cond_no ?hc (by decide) ?_; (case hc => (simp [over_cons, over_nil, *]; done))))); go_wp2_with fail))
        all_goals exact ret_F (.bool true) rfl (by decide) (by simp [over_cons, over_nil, *]) ⟨rfl, grown_refl w none⟩
  obtain ⟨hpl, hpu⟩ := hpr
  obtain ⟨p, rfl⟩ : ∃ p : Nat, prec = (p : Int) := ⟨prec.toNat, by omega⟩
  have hp5 : p ≤ 1100 := by omega
  have hpl' : decide ((p : Int) < 0) = false := by simp
  have hpu' : decide (1100 < (p : Int)) = false := by simp; omega
  have hpu'' : decide (1100 < p) = false := by simp; omega
  have hef : isEfg f := by unfold isEfg; omega
  obtain ⟨N, hN1, hN2, hN3, hN4⟩ := widen_any n hn hfin
  have ht := hN3 f p hef (by omega)
  have hne := ftoa32L_ne n f p hfin hef
  obtain ⟨r, hr1, hr2, hr3⟩ := Wd.widen_back n hn hfin
  have HF1 := Lib.hid (fun T W he => Format32_any T n r (p : Int) f W he hn hr2 hr3 (by omega) (by omega) (by omega) (by omega))
  have HF2 := Lib.hid (fun T W he => Format64_any T N (p : Int) f W he hN1 (by omega) (by omega) (by omega) (by omega))
  rw [ht] at HF2
  have HWI := Lib.hid hN4
  clear hr1 hr2 hr3 hN3 hN4 ht
  generalize ftoa32L n f p = t1 at *
  obtain ⟨c, tl, rfl⟩ : ∃ c tl, t1 = c :: tl := by
    cases t1 with
    | nil => exact absurd rfl hne
    | cons c tl => exact ⟨c, tl, rfl⟩
  clear hne hpl hpu hef
  rcases hfm with rfl | rfl | rfl
  all_goals
    ((repeat (go_wp2_with fail; first | (refine cond_yes ?hc (by decide) ?_; (case hc => (simp [over_cons, over_nil, *]; done))) | (refine cond_no ?hc (by decide) ?_; (case hc => (simp [over_cons, over_nil, *]; done))))); go_wp2_with fail)
    refine (HK.out _).mono ?_
    rintro e w7 ⟨rfl, rfl⟩
    ((repeat (go_wp2_with fail; first | (refine cond_yes ?hc (by decide) ?_; (case hc => (simp [over_cons, over_nil, *]; done))) | (refine cond_no ?hc (by decide) ?_; (case hc => (simp [over_cons, over_nil, *]; done))))); go_wp2_with fail)
    refine (HF1.out T _ HE.out).mono ?_
    rintro e w8 ⟨rfl, hg8⟩
    have HG8 := Lib.hid hg8
    clear hg8
    ((repeat (go_wp2_with fail; first | (refine cond_yes ?hc (by decide) ?_; (case hc => (simp [over_cons, over_nil, *]; done))) | (refine cond_no ?hc (by decide) ?_; (case hc => (simp [over_cons, over_nil, *]; done))))); go_wp2_with fail)
    refine (HWI.out _).mono ?_
    rintro e w9 ⟨rfl, hg9⟩
    have HG9 := Lib.hid (grown_none_trans HG8.out hg9)
    clear hg9
    ((repeat (go_wp2_with fail; first | (refine cond_yes ?hc (by decide) ?_; (case hc => (simp [over_cons, over_nil, *]; done))) | (refine cond_no ?hc (by decide) ?_; (case hc => (simp [over_cons, over_nil, *]; done))))); go_wp2_with fail)
    refine (HF2.out T _ (HE.out.grown HG9.out (by simp))).mono ?_
    rintro e w10 ⟨rfl, hg10⟩
    have HG10 := Lib.hid (grown_none_trans HG9.out hg10)
    clear hg10
    ((repeat (go_wp2_with fail; first | (refine cond_yes ?hc (by decide) ?_; (case hc => (simp [over_cons, over_nil, *]; done))) | (refine cond_no ?hc (by decide) ?_; (case hc => (simp [over_cons, over_nil, *]; done))))); go_wp2_with fail)
    exact ret_F (.bool true) rfl (by decide) (by simp [over_cons, over_nil, *]) ⟨rfl, HG10.out⟩
end Go.Proofs.YthkcfpmlgoomfaaDoor
