/-
  Walk of laws.FnFormatComplex64.
-/
import Derived.Test.YticlnihjhcepkaaGreatDoorCFk2
import Derived.Test.YticlnihjhcepkaaGreatDoorCFc4n
import Derived.Test.YticlnihjhcepkaaGreatDoorGh
namespace Go.Proofs.YticlnihjhcepkaaGreatDoor
open Go.ChangeShapes Go.WideShapes Go.ChangeAt Go.RowKit
set_option linter.unusedSimpArgs false
set_option linter.unusedVariables false
attribute [local go_sem] undef

set_option maxRecDepth 100000 in
set_option maxHeartbeats 8000000 in
theorem fcl64_any (T re im : Nat) (f prec : Int) (w : World) (he : Env T w) (hre : re < 4294967296) (him : im < 4294967296) (hf1 : 0 ≤ f) (hf2 : f ≤ 255) (hp1 : -9223372036854775808 ≤ prec) (hp2 : prec ≤ 9223372036854775807) :
    Calls Tryz.prog 4 #[.int .u32 (re : Int), .int .u32 (im : Int), .int .u8 f, .int .i64 prec] w fun e w' => e = .returned (.bool true) ∧ w.grownBy w' none := by
  have HKN := Lib.hid (known_any f w)
  have HE := Lib.hid he
  clear he
  refine calls_F Tryz.func4 rfl (by rw [Tryz.ntmps4]; simp) ?_
  intro σ hσ
  rw [Tryz.ntmps4]
  have s0 : σ 0 = .int .u32 (re : Int) := hσ 0 (by simp)
  have s1 : σ 1 = .int .u32 (im : Int) := hσ 1 (by simp)
  have s2 : σ 2 = .int .u8 f := hσ 2 (by simp)
  have s3 : σ 3 = .int .i64 prec := hσ 3 (by simp)
  clear hσ
  by_cases hpl : prec < -1
  · ((repeat (go_wp2_with fail; first | (refine cdY ?_ ?_; focus (simp [ov, *]; done)) | (refine cdN ?_ ?_; focus (simp [ov, *]; done)))); go_wp2_with fail)
    refine HKN.out.mono ?_
    rintro e w1 ⟨b, rfl, hb, hg1⟩
    have HG1 := Lib.hid hg1
    clear hg1 hb
    cases b
    all_goals
      ((repeat (go_wp2_with fail; first | (refine cdY ?_ ?_; focus (simp [ov, *]; done)) | (refine cdN ?_ ?_; focus (simp [ov, *]; done)))); go_wp2_with fail)
      exact ret_F (.bool true) rfl (by decide) (by simp [ov, *]) ⟨rfl, HG1.out⟩
  have hpl' : decide (prec < -1) = false := by simpa using hpl
  by_cases hpu : 5000 < prec
  · ((repeat (go_wp2_with fail; first | (refine cdY ?_ ?_; focus (simp [ov, *]; done)) | (refine cdN ?_ ?_; focus (simp [ov, *]; done)))); go_wp2_with fail)
    refine HKN.out.mono ?_
    rintro e w1 ⟨b, rfl, hb, hg1⟩
    have HG1 := Lib.hid hg1
    clear hg1 hb
    cases b
    all_goals
      ((repeat (go_wp2_with fail; first | (refine cdY ?_ ?_; focus (simp [ov, *]; done)) | (refine cdN ?_ ?_; focus (simp [ov, *]; done)))); go_wp2_with fail)
      exact ret_F (.bool true) rfl (by decide) (by simp [ov, *]) ⟨rfl, HG1.out⟩
  have hpu' : decide (5000 < prec) = false := by simpa using hpu
  ((repeat (go_wp2_with fail; first | (refine cdY ?_ ?_; focus (simp [ov, *]; done)) | (refine cdN ?_ ?_; focus (simp [ov, *]; done)))); go_wp2_with fail)
  refine HKN.out.mono ?_
  rintro e w1 ⟨b, rfl, hb, hg1⟩
  have HG1 := Lib.hid hg1
  clear hg1
  cases b
  case false =>
    ((repeat (go_wp2_with fail; first | (refine cdY ?_ ?_; focus (simp [ov, *]; done)) | (refine cdN ?_ ?_; focus (simp [ov, *]; done)))); go_wp2_with fail)
    exact ret_F (.bool true) rfl (by decide) (by simp [ov, *]) ⟨rfl, HG1.out⟩
  have hkn := hb rfl
  clear hb
  obtain ⟨t1, hS1, hA1, hB1⟩ := formatAll32 re hre f prec hkn (by omega) (by omega)
  obtain ⟨t2, hS2, hA2, hB2⟩ := formatAll32 im him f prec hkn (by omega) (by omega)
  have HS1 := Lib.hid hS1
  have HS2 := Lib.hid hS2
  have HFC := Lib.hid (fun W (h : Env T W) => FormatC64A_any T re im prec f W h hre him hf1 hf2 hp1 (by omega))
  have hIl := ftoa32L_len im f prec him (by omega)
  have hRl := ftoa32L_len re f prec hre (by omega)
  have HFB : Hid ((prec = -1 → t1 = false ∧ t2 = false) → ∀ W, Calls Tryz.prog 13 #[.int .i64 32, .int .u64 (re : Int), .int .u64 (im : Int), .int .u8 f, .int .i64 prec] W fun e w' => e = .returned (.string ⟨(cplxL (ftoa32L re f prec) (ftoa32L im f prec)).toArray⟩) ∧ W.grownBy w' none) := by
    intro h W
    refine formatComplexBits_any 32 f prec re im _ _ W (ftoa32L_ne im f prec) hRl hIl ?_ ?_
    · intro W
      by_cases hp : prec = -1
      · exact hA1 hp (h hp).1 W
      · exact hB1 hp W
    · intro W
      by_cases hp : prec = -1
      · exact hA2 hp (h hp).2 W
      · exact hB2 hp W
  clear hS1 hS2 hA1 hA2 hB1 hB2 hIl hRl hkn HKN
  generalize cplxL (ftoa32L re f prec) (ftoa32L im f prec) = L at *
  by_cases hp : prec = -1
  · subst hp
    ((repeat (go_wp2_with fail; first | (refine cdY ?_ ?_; focus (simp [ov, *]; done)) | (refine cdN ?_ ?_; focus (simp [ov, *]; done)))); go_wp2_with fail)
    refine (HS1.out _).mono ?_
    rintro e w2 ⟨rfl, hg2⟩
    have HG2 := Lib.hid (grown_none_trans HG1.out hg2)
    clear hg2
    cases t1
    case true =>
      ((repeat (go_wp2_with fail; first | (refine cdY ?_ ?_; focus (simp [ov, *]; done)) | (refine cdN ?_ ?_; focus (simp [ov, *]; done)))); go_wp2_with fail)
      exact ret_F (.bool true) rfl (by decide) (by simp [ov, *]) ⟨rfl, HG2.out⟩
    ((repeat (go_wp2_with fail; first | (refine cdY ?_ ?_; focus (simp [ov, *]; done)) | (refine cdN ?_ ?_; focus (simp [ov, *]; done)))); go_wp2_with fail)
    refine (HS2.out _).mono ?_
    rintro e w3 ⟨rfl, hg3⟩
    have HG3 := Lib.hid (grown_none_trans HG2.out hg3)
    clear hg3
    cases t2
    case true =>
      ((repeat (go_wp2_with fail; first | (refine cdY ?_ ?_; focus (simp [ov, *]; done)) | (refine cdN ?_ ?_; focus (simp [ov, *]; done)))); go_wp2_with fail)
      exact ret_F (.bool true) rfl (by decide) (by simp [ov, *]) ⟨rfl, HG3.out⟩
    replace HFB := Lib.hid (HFB.out (by simp))
    ((repeat (go_wp2_with fail; first | (refine cdY ?_ ?_; focus (simp [ov, *]; done)) | (refine cdN ?_ ?_; focus (simp [ov, *]; done)))); go_wp2_with fail)
    refine (HFC.out _ (HE.out.grown HG3.out (by simp))).mono ?_
    rintro e w4 ⟨rfl, hg4⟩
    have HG4 := Lib.hid (grown_none_trans HG3.out hg4)
    clear hg4
    ((repeat (go_wp2_with fail; first | (refine cdY ?_ ?_; focus (simp [ov, *]; done)) | (refine cdN ?_ ?_; focus (simp [ov, *]; done)))); go_wp2_with fail)
    refine (HFB.out _).mono ?_
    rintro e w5 ⟨rfl, hg5⟩
    have HG5 := Lib.hid (grown_none_trans HG4.out hg5)
    clear hg5
    ((repeat (go_wp2_with fail; first | (refine cdY ?_ ?_; focus (simp [ov, *]; done)) | (refine cdN ?_ ?_; focus (simp [ov, *]; done)))); go_wp2_with fail)
    exact ret_F (.bool true) rfl (by decide) (by simp [ov, *]) ⟨rfl, HG5.out⟩
  · have hp' : (prec == -1) = false := by rw [beq_eq_false_iff_ne]; exact hp
    replace HFB := Lib.hid (HFB.out (fun h => absurd h hp))
    ((repeat (go_wp2_with fail; first | (refine cdY ?_ ?_; focus (simp [ov, *]; done)) | (refine cdN ?_ ?_; focus (simp [ov, *]; done)))); go_wp2_with fail)
    refine (HFC.out _ (HE.out.grown HG1.out (by simp))).mono ?_
    rintro e w4 ⟨rfl, hg4⟩
    have HG4 := Lib.hid (grown_none_trans HG1.out hg4)
    clear hg4
    ((repeat (go_wp2_with fail; first | (refine cdY ?_ ?_; focus (simp [ov, *]; done)) | (refine cdN ?_ ?_; focus (simp [ov, *]; done)))); go_wp2_with fail)
    refine (HFB.out _).mono ?_
    rintro e w5 ⟨rfl, hg5⟩
    have HG5 := Lib.hid (grown_none_trans HG4.out hg5)
    clear hg5
    ((repeat (go_wp2_with fail; first | (refine cdY ?_ ?_; focus (simp [ov, *]; done)) | (refine cdN ?_ ?_; focus (simp [ov, *]; done)))); go_wp2_with fail)
    exact ret_F (.bool true) rfl (by decide) (by simp [ov, *]) ⟨rfl, HG5.out⟩
end Go.Proofs.YticlnihjhcepkaaGreatDoor
