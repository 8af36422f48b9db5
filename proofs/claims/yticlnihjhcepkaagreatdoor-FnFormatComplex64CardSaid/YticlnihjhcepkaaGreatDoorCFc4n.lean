/-
  Walk: impl.FormatComplex64, whatever the bits.
-/
import Derived.Test.YticlnihjhcepkaaGreatDoorCFc4
import Derived.Test.YticlnihjhcepkaaGreatDoorCNw0
namespace Go.Proofs.YticlnihjhcepkaaGreatDoor
open Go.RowKit
set_option linter.unusedSimpArgs false
set_option linter.unusedVariables false

theorem FormatC64A_any (T re im : Nat) (prec f : Int) (w : World) (he : Env T w) (hr : re < 4294967296) (hi : im < 4294967296) (hf1 : 0 ≤ f) (hf2 : f ≤ 255) (hp1 : -9223372036854775808 ≤ prec) (hp2 : prec ≤ 5000) :
    Calls Tryz.prog 14 #[.int .u32 (re : Int), .int .u32 (im : Int), .int .u8 f, .int .i64 prec] w fun e w' =>
      e = .returned (.string ⟨(cplxL (ftoa32L re f prec) (ftoa32L im f prec)).toArray⟩) ∧ w.grownBy w' none := by
  by_cases n1 : Nan32 re
  · by_cases n2 : Nan32 im
    · obtain ⟨r, hr', hcv1⟩ := conv_nan_up re n1 w
      obtain ⟨q, hq', hcv2⟩ := conv_nan_up im n2 w.drew
      rw [ftoa32L_nan re f prec n1, ftoa32L_nan im f prec n2]
      have H := Lib.hid (sFormatC64_any T r q prec f [78, 97, 78] [78, 97, 78] w.drew.drew ((he.drewN 1).drewN 1)
        (fun d ys W hE hO hl => iAppendN_any T r d prec f ys W hE hO hl hr' hf1 hf2 hp1 (by omega))
        (fun d ys W hE hO hl => iAppendN_any T q d prec f ys W hE hO hl hq' hf1 hf2 hp1 (by omega)) (by simp) (by simp) (by simp))
      have hext := fun W => ext_f32from re W
      have hext2 := fun W => ext_f32from im W
      clear he n1 n2 hr' hq'
      go_enter Tryz.func14, Tryz.ntmps14
      go_wp2_with (go_at_call 30; refine H.out.mono ?_; rintro e w7 ⟨rfl, hg⟩)
      go_ret
      exact ⟨rfl, grown_none_trans (drew_grown w) (grown_none_trans (drew_grown _) hg)⟩
    · obtain ⟨r, hr', hcv1⟩ := conv_nan_up re n1 w
      obtain ⟨q, hq', hw2, hr2⟩ := widen_all im hi n2
      rw [ftoa32L_nan re f prec n1]
      have H := Lib.hid (sFormatC64_any T r q prec f [78, 97, 78] (ftoa32L im f prec) w.drew (he.drewN 1)
        (fun d ys W hE hO hl => iAppendN_any T r d prec f ys W hE hO hl hr' hf1 hf2 hp1 (by omega))
        (fun d ys W hE hO hl => iAppend32_any T im q d prec f ys W hE hO hl hi hr2 hf1 hf2 hp1 (by omega)) (by simp) (ftoa32L_len im f prec hi (by omega)) (ftoa32L_ne im f prec))
      have hext := fun W => ext_f32from re W
      have hext2 := fun W => ext_f32from im W
      have hcv2 := fun W => run_convert_float_float (P := Tryz.prog) W 60 57 .f32 .f64 im q (by rw [Tryz.underlying60]; rfl) Tryz.underlying57 hw2
      clear he n1 n2 hr' hq' hw2 hr2
      go_enter Tryz.func14, Tryz.ntmps14
      go_wp2_with (go_at_call 30; refine H.out.mono ?_; rintro e w7 ⟨rfl, hg⟩)
      go_ret
      exact ⟨rfl, grown_none_trans (drew_grown w) hg⟩
  · obtain ⟨r, hr', hw1, hr1⟩ := widen_all re hr n1
    by_cases n2 : Nan32 im
    · obtain ⟨q, hq', hcv2⟩ := conv_nan_up im n2 w
      rw [ftoa32L_nan im f prec n2]
      have H := Lib.hid (sFormatC64_any T r q prec f (ftoa32L re f prec) [78, 97, 78] w.drew (he.drewN 1)
        (fun d ys W hE hO hl => iAppend32_any T re r d prec f ys W hE hO hl hr hr1 hf1 hf2 hp1 (by omega))
        (fun d ys W hE hO hl => iAppendN_any T q d prec f ys W hE hO hl hq' hf1 hf2 hp1 (by omega)) (ftoa32L_len re f prec hr (by omega)) (by simp) (by simp))
      have hext := fun W => ext_f32from re W
      have hext2 := fun W => ext_f32from im W
      have hcv1 := fun W => run_convert_float_float (P := Tryz.prog) W 60 57 .f32 .f64 re r (by rw [Tryz.underlying60]; rfl) Tryz.underlying57 hw1
      clear he n1 n2 hr' hq' hw1 hr1
      go_enter Tryz.func14, Tryz.ntmps14
      go_wp2_with (go_at_call 30; refine H.out.mono ?_; rintro e w7 ⟨rfl, hg⟩)
      go_ret
      exact ⟨rfl, grown_none_trans (drew_grown w) hg⟩
    · obtain ⟨q, hq', hw2, hr2⟩ := widen_all im hi n2
      exact FormatC64_any T re im r q prec f w he hr hi hw1 hr1 hw2 hr2 hf1 hf2 hp1 hp2
end Go.Proofs.YticlnihjhcepkaaGreatDoor
