/-
  Walk: impl.FormatComplex128.
-/
import Derived.Test.YticlnihjhcepkaaGreatDoorCFc
import Derived.Test.YticlnihjhcepkaaGreatDoorCAf0
namespace Go.Proofs.YticlnihjhcepkaaGreatDoor
open Go.RowKit
set_option linter.unusedSimpArgs false
set_option linter.unusedVariables false

theorem FormatC128_any (T re im : Nat) (prec f : Int) (w : World) (he : Env T w) (hr : re < 18446744073709551616) (hi : im < 18446744073709551616) (hf1 : 0 ≤ f) (hf2 : f ≤ 255) (hp1 : -9223372036854775808 ≤ prec) (hp2 : prec ≤ 5000) :
    Calls Tryz.prog 12 #[.int .u64 (re : Int), .int .u64 (im : Int), .int .u8 f, .int .i64 prec] w fun e w' =>
      e = .returned (.string ⟨(cplxL (ftoa64L re f prec) (ftoa64L im f prec)).toArray⟩) ∧ w.grownBy w' none := by
  have H := Lib.hid (sFormatC128_any T re im prec f (ftoa64L re f prec) (ftoa64L im f prec) w he
    (fun d ys W hE hO hl => iAppend64_any T re d prec f ys W hE hO hl hr hf1 hf2 hp1 (by omega))
    (fun d ys W hE hO hl => iAppend64_any T im d prec f ys W hE hO hl hi hf1 hf2 hp1 (by omega))
    (ftoa64L_len re f prec hr (by omega)) (ftoa64L_len im f prec hi (by omega)) (ftoa64L_ne' im f prec))
  have hext := fun W => ext_f64from re W
  have hext2 := fun W => ext_f64from im W
  clear he
  go_enter Tryz.func12, Tryz.ntmps12
  go_wp2_with (go_at_call 30; refine H.out.mono ?_; rintro e w7 ⟨rfl, hg⟩)
  go_ret
  exact ⟨rfl, hg⟩

end Go.Proofs.YticlnihjhcepkaaGreatDoor
