/-
  Walk: impl.FormatComplex64.
-/
import Derived.Test.YticlnihjhcepkaaGreatDoorCFc
import Derived.Test.YticlnihjhcepkaaGreatDoorCAc4
import Derived.Test.YticlnihjhcepkaaGreatDoorCAf3
namespace Go.Proofs.YticlnihjhcepkaaGreatDoor
open Go.RowKit
set_option linter.unusedSimpArgs false
set_option linter.unusedVariables false

set_option maxRecDepth 100000 in
set_option maxHeartbeats 1000000 in
theorem iFormatC64_any (T re im : Nat) (prec f : Int) (R I : List UInt8) (w : World) (he : Env T w)
    (hR : ∀ (d : Value) (ys : List UInt8) (W : World), Env T W → OwnB T W d ys → ys.length ≤ 140737488900000 → Calls Tryz.prog 107 #[d, .float .f64 re, .int .u8 f, .int .i64 prec, .int .i64 32] W fun r w' => ∃ v', r = .returned v' ∧ OwnB T w' v' (ys ++ R) ∧ Stp W d w' v')
    (hI : ∀ (d : Value) (ys : List UInt8) (W : World), Env T W → OwnB T W d ys → ys.length ≤ 140737488900000 → Calls Tryz.prog 107 #[d, .float .f64 im, .int .u8 f, .int .i64 prec, .int .i64 32] W fun r w' => ∃ v', r = .returned v' ∧ OwnB T w' v' (ys ++ I) ∧ Stp W d w' v')
    (hRl : R.length ≤ 4000000) (hIl : I.length ≤ 4000000) (hIn : I ≠ []) :
    Calls Tryz.prog 61 #[.complex .f64 re im, .int .u8 f, .int .i64 prec, .int .i64 64] w fun e w' =>
      e = .returned (.string ⟨(cplxL R I).toArray⟩) ∧ w.grownBy w' none := by
  have H := fun (d : Value) (W : World) (hE : Env T W) (hO : OwnB T W d []) => appendComplex64_any T re im d prec f [] R I W hE hO (by simp) hR hI hRl hIl hIn
  have H := Lib.hid H
  have hsl := fun W => slice64 w.heap.size 0 W (by omega)
  have HE := Lib.hid he
  clear he hR hI
  refine calls_F Tryz.func61 rfl (by rw [Tryz.ntmps61]; simp) ?_
  intro σ hσ
  rw [Tryz.ntmps61]
  have s0 : σ 0 = .complex .f64 re im := hσ 0 (by simp)
  have s1 : σ 1 = .int .u8 f := hσ 1 (by simp)
  have s2 : σ 2 = .int .i64 prec := hσ 2 (by simp)
  have s3 : σ 3 = .int .i64 64 := hσ 3 (by simp)
  clear hσ
  ((repeat (go_wp2_with fail; first | (refine cdY ?_ ?_; focus (simp [ov, *]; done)) | (refine cdN ?_ ?_; focus (simp [ov, *]; done)))); go_wp2_with fail)
  refine (H.out _ _ (HE.out.alloc _) (OwnB.fresh HE.out.size _ _ 64 rfl (by omega))).mono ?_
  rintro e w7 ⟨v, rfl, ho, hs⟩
  rw [List.nil_append] at ho
  have hcv := str_of_own ho
  have hg : w.grownBy w7 none := by
    have h1 := hs.1
    refine grown_trans (World.grownBy_alloc w _ none) h1 (fun j e hj => ?_)
    simp [Value.ownBlock] at e
    omega
  have HG := Lib.hid hg
  clear ho hs hg hsl
  ((repeat (go_wp2_with fail; first | (refine cdY ?_ ?_; focus (simp [ov, *]; done)) | (refine cdN ?_ ?_; focus (simp [ov, *]; done)))); go_wp2_with fail)
  exact ret_F _ rfl (by decide) (by simp [ov, *]) ⟨rfl, HG.out⟩

theorem sFormatC64_any (T re im : Nat) (prec f : Int) (R I : List UInt8) (w : World) (he : Env T w)
    (hR : ∀ (d : Value) (ys : List UInt8) (W : World), Env T W → OwnB T W d ys → ys.length ≤ 140737488900000 → Calls Tryz.prog 107 #[d, .float .f64 re, .int .u8 f, .int .i64 prec, .int .i64 32] W fun r w' => ∃ v', r = .returned v' ∧ OwnB T w' v' (ys ++ R) ∧ Stp W d w' v')
    (hI : ∀ (d : Value) (ys : List UInt8) (W : World), Env T W → OwnB T W d ys → ys.length ≤ 140737488900000 → Calls Tryz.prog 107 #[d, .float .f64 im, .int .u8 f, .int .i64 prec, .int .i64 32] W fun r w' => ∃ v', r = .returned v' ∧ OwnB T w' v' (ys ++ I) ∧ Stp W d w' v')
    (hRl : R.length ≤ 4000000) (hIl : I.length ≤ 4000000) (hIn : I ≠ []) :
    Calls Tryz.prog 30 #[.complex .f64 re im, .int .u8 f, .int .i64 prec, .int .i64 64] w fun e w' =>
      e = .returned (.string ⟨(cplxL R I).toArray⟩) ∧ w.grownBy w' none := by
  have H := Lib.hid (iFormatC64_any T re im prec f R I w he hR hI hRl hIl hIn)
  clear he hR hI
  go_enter Tryz.func30, Tryz.ntmps30
  go_wp2_with (go_at_call 61; refine H.out.mono ?_; rintro e w7 ⟨rfl, hg⟩)
  go_ret
  exact ⟨rfl, hg⟩

theorem FormatC64_any (T re im r q : Nat) (prec f : Int) (w : World) (he : Env T w) (hr : re < 4294967296) (hi : im < 4294967296) (hw1 : floatToFloatBits .f32 re .f64 = some r) (hr1 : floatToFloatBits .f64 r .f32 = some re) (hw2 : floatToFloatBits .f32 im .f64 = some q) (hr2 : floatToFloatBits .f64 q .f32 = some im) (hf1 : 0 ≤ f) (hf2 : f ≤ 255) (hp1 : -9223372036854775808 ≤ prec) (hp2 : prec ≤ 5000) :
    Calls Tryz.prog 14 #[.int .u32 (re : Int), .int .u32 (im : Int), .int .u8 f, .int .i64 prec] w fun e w' =>
      e = .returned (.string ⟨(cplxL (ftoa32L re f prec) (ftoa32L im f prec)).toArray⟩) ∧ w.grownBy w' none := by
  have H := Lib.hid (sFormatC64_any T r q prec f (ftoa32L re f prec) (ftoa32L im f prec) w he
    (fun d ys W hE hO hl => iAppend32_any T re r d prec f ys W hE hO hl hr hr1 hf1 hf2 hp1 (by omega))
    (fun d ys W hE hO hl => iAppend32_any T im q d prec f ys W hE hO hl hi hr2 hf1 hf2 hp1 (by omega))
    (ftoa32L_len re f prec hr (by omega)) (ftoa32L_len im f prec hi (by omega)) (ftoa32L_ne im f prec))
  have hext := fun W => ext_f32from re W
  have hext2 := fun W => ext_f32from im W
  have hcv1 := fun W => run_convert_float_float (P := Tryz.prog) W 60 57 .f32 .f64 re r (by rw [Tryz.underlying60]; rfl) Tryz.underlying57 hw1
  have hcv2 := fun W => run_convert_float_float (P := Tryz.prog) W 60 57 .f32 .f64 im q (by rw [Tryz.underlying60]; rfl) Tryz.underlying57 hw2
  clear he hw1 hr1 hw2 hr2
  go_enter Tryz.func14, Tryz.ntmps14
  go_wp2_with (go_at_call 30; refine H.out.mono ?_; rintro e w7 ⟨rfl, hg⟩)
  go_ret
  exact ⟨rfl, hg⟩
end Go.Proofs.YticlnihjhcepkaaGreatDoor
