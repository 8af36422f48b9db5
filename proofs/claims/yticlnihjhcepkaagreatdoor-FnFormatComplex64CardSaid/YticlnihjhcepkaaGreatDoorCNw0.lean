/-
  Walk at 32 bits that are not a number: AppendFloat.
-/
import Derived.Test.YticlnihjhcepkaaGreatDoorCNn
import Derived.Test.YticlnihjhcepkaaGreatDoorCFt2
namespace Go.Proofs.YticlnihjhcepkaaGreatDoor
open Go.RowKit
set_option linter.unusedSimpArgs false
set_option linter.unusedVariables false

theorem drew_grown (w : World) : w.grownBy w.drew none := grown_drewN w 1 none

set_option maxHeartbeats 1000000 in
theorem iAppendN_any (T r : Nat) (dst : Value) (prec f : Int) (xs : List UInt8) (w : World) (he : Env T w) (hown : OwnB T w dst xs) (hx : xs.length ≤ 140737488900000) (hr : Nan64 r) (hf1 : 0 ≤ f) (hf2 : f ≤ 255) (hp1 : -9223372036854775808 ≤ prec) (hp2 : prec ≤ 50000) :
    Calls Tryz.prog 107 #[dst, .float .f64 r, .int .u8 f, .int .i64 prec, .int .i64 32] w fun r w' =>
      ∃ v', r = .returned v' ∧ OwnB T w' v' (xs ++ [78, 97, 78]) ∧ Stp w dst w' v' := by
  obtain ⟨n, hn, hcv0⟩ := conv_nan_down r hr w
  have hl := ftoa32L_nan n f prec hn
  have H := Lib.hid (ftoa32_any T n dst prec f xs w.drew (he.drewN 1) (hown.drewN 1) hx hn.1 hf1 hf2 hp1 hp2)
  rw [hl] at H
  clear he hown hr hn hl
  refine calls_F Tryz.func107 rfl (by rw [Tryz.ntmps107]; simp) ?_
  intro σ hσ
  rw [Tryz.ntmps107]
  have s0 : σ 0 = dst := hσ 0 (by simp)
  have s1 : σ 1 = .float .f64 r := hσ 1 (by simp)
  have s2 : σ 2 = .int .u8 f := hσ 2 (by simp)
  have s3 : σ 3 = .int .i64 prec := hσ 3 (by simp)
  have s4 : σ 4 = .int .i64 32 := hσ 4 (by simp)
  clear hσ
  ((repeat (go_wp2_with fail; first | (refine cdY ?_ ?_; focus (simp [ov, *]; done)) | (refine cdN ?_ ?_; focus (simp [ov, *]; done)))); go_wp2_with fail)
  refine H.out.mono ?_
  rintro e w7 ⟨v, rfl, ho, hs⟩
  have HO := Lib.hid ho
  have HS := Lib.hid (((Stp.refl w dst).drewN 1).trans hs)
  clear ho hs hcv0
  ((repeat (go_wp2_with fail; first | (refine cdY ?_ ?_; focus (simp [ov, *]; done)) | (refine cdN ?_ ?_; focus (simp [ov, *]; done)))); go_wp2_with fail)
  exact ret_F _ rfl (by decide) (by simp [ov, *]) ⟨_, rfl, HO.out, HS.out⟩

end Go.Proofs.YticlnihjhcepkaaGreatDoor
