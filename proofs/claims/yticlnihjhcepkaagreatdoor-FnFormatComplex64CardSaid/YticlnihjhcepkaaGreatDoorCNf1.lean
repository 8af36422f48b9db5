/-
  Walk of spec/format.go: Format, at the formats x and X.
-/
import Derived.Test.YticlnihjhcepkaaGreatDoorCNc4
import Derived.Test.YticlnihjhcepkaaGreatDoorGc
namespace Go.Proofs.YticlnihjhcepkaaGreatDoor
open Go.RowKit
set_option linter.unusedSimpArgs false
set_option linter.unusedVariables false

set_option maxRecDepth 100000 in
set_option maxHeartbeats 8000000 in
theorem formatX_any (size : Int) (b : Nat) (neg : Bool) (N D : Nat) (f prec : Int) (res : List UInt8) (w : World) (hf : f = 120 ∨ f = 88) (hrl : res.length ≤ 1000000)
    (hI : ∀ W, Calls Tryz.prog 47 #[.int .i64 size, .int .u64 (b : Int)] W fun e w' => e = .returned (.bool neg) ∧ W = w')
    (hK : ∀ W, Calls Tryz.prog 23 #[.int .i64 size, .int .u64 (b : Int)] W fun e w' => e = .returned (.int .i64 0) ∧ W = w')
    (hV : ∀ W, Calls Tryz.prog 24 #[.int .i64 size, .int .u64 (b : Int)] W fun x w' => ∃ vn vd, x = .returned (.tuple #[.agg #[.bool neg, vn, vd], .bool true]) ∧ NatV w' vn N ∧ NatV w' vd D ∧ W.grownBy w' none)
    (hH : ∀ W, Calls Tryz.prog 68 #[.int .i64 size, .int .u64 (b : Int), .bool (f == 88), .int .i64 prec] W fun e w' => e = .returned (.string ⟨res.toArray⟩) ∧ W.grownBy w' none) :
    Calls Tryz.prog 32 #[.int .i64 size, .int .u64 (b : Int), .int .u8 f, .int .i64 prec] w fun e w' => e = .returned (.string ⟨(eSign neg ++ res).toArray⟩) ∧ w.grownBy w' none := by
  have HI := Lib.hid hI
  have HK := Lib.hid hK
  have HV := Lib.hid hV
  have HH := Lib.hid hH
  clear hI hK hV hH
  refine calls_F Tryz.func32 rfl (by rw [Tryz.ntmps32]; simp) ?_
  intro σ hσ
  rw [Tryz.ntmps32]
  have s0 : σ 0 = .int .i64 size := hσ 0 (by simp)
  have s1 : σ 1 = .int .u64 (b : Int) := hσ 1 (by simp)
  have s2 : σ 2 = .int .u8 f := hσ 2 (by simp)
  have s3 : σ 3 = .int .i64 prec := hσ 3 (by simp)
  clear hσ
  go_wp2_with fail
  refine (HI.out _).mono ?_
  rintro r w1 ⟨rfl, rfl⟩
  go_wp2_with fail
  refine cut_F (fun s' w' => s' 0 = .int .i64 size ∧ s' 1 = .int .u64 (b : Int) ∧ s' 2 = .int .u8 f ∧ s' 3 = .int .i64 prec ∧ s' 9 = .string ⟨(eSign neg).toArray⟩ ∧ w = w') ?_ ?_
  · intro R' K' HR hK'
    cases neg
    · ((repeat (go_wp2_with fail; first | (refine cdY ?_ ?_; focus (simp [ov, *]; done)) | (refine cdN ?_ ?_; focus (simp [ov, *]; done)))); go_wp2_with fail)
      exact got HR (by simp [over_cons, over_nil, eSign, *])
    · ((repeat (go_wp2_with fail; first | (refine cdY ?_ ?_; focus (simp [ov, *]; done)) | (refine cdN ?_ ?_; focus (simp [ov, *]; done)))); go_wp2_with fail)
      exact got HR (by simp [over_cons, over_nil, eSign, *])
  clear s0 s1 s2 s3 σ HI
  rintro σ w' ⟨s0, s1, s2, s3, s9, rfl⟩
  go_wp2_with fail
  refine (HK.out _).mono ?_
  rintro r w1 ⟨rfl, rfl⟩
  ((repeat (go_wp2_with fail; first | (refine cdY ?_ ?_; focus (simp [ov, *]; done)) | (refine cdN ?_ ?_; focus (simp [ov, *]; done)))); go_wp2_with fail)
  refine (HV.out _).mono ?_
  rintro r w2 ⟨vn, vd, rfl, hvn, hvd, hg2⟩
  have HG2 := Lib.hid hg2
  obtain ⟨an, cn, rfl⟩ := hvn.len
  obtain ⟨ad, cd, rfl⟩ := hvd.len
  clear hvn hvd hg2
  generalize (natL N).length = LN at *
  generalize (natL D).length = LD at *
  have HGA := Lib.hid (fun o => grown_none_tr HG2.out (World.grownBy_alloc w2 o none))
  have hsl : (eSign neg).length ≤ 1 := eSign_len neg
  obtain ⟨sg, hsg⟩ : ∃ sg, eSign neg = sg := ⟨_, rfl⟩
  rw [hsg] at s9 hsl
  have HSG := Lib.hid hsg
  clear hsg
  have c1 := cat_mk sg res
  have z1 : (⟨sg.toArray⟩ : ByteArray).size = sg.length := by simp [ByteArray.size]
  have z2 : (⟨res.toArray⟩ : ByteArray).size = res.length := by simp [ByteArray.size]
  generalize sg.length = l1 at *
  generalize res.length = l2 at *
  rcases hf with rfl | rfl
  all_goals
    ((repeat (go_wp2_with fail; first | (refine cdY ?_ ?_; focus (simp [ov, *]; done)) | (refine cdN ?_ ?_; focus (simp [ov, *]; done)))); go_wp2_with fail)
    refine (HH.out _).mono ?_
    rintro r w4 ⟨rfl, hg4⟩
    have HG4 := Lib.hid (grown_none_tr (HGA.out _) hg4)
    clear hg4
    ((repeat (go_wp2_with fail; first | (refine cdY ?_ ?_; focus (simp [ov, *]; done)) | (refine cdN ?_ ?_; focus (simp [ov, *]; done)))); go_wp2_with fail)
    exact ret_F (.string ⟨(sg ++ res).toArray⟩) rfl (by decide) (by simp [ov, *]) ⟨by rw [HSG.out], HG4.out⟩
end Go.Proofs.YticlnihjhcepkaaGreatDoor
