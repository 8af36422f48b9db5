/-
  Walks at 32 bits that are not a number: FormatFloat, AppendFloat.
-/
import Derived.Test.YtffooimnioigdaaDoorNn
namespace Go.Proofs.YtffooimnioigdaaDoor
open Go.RowKit
set_option linter.unusedSimpArgs false
set_option linter.unusedVariables false

theorem drew_grown (w : World) : w.grownBy w.drew none := grown_drewN w 1 none

set_option maxHeartbeats 1000000 in
theorem iFormatN_any (T r : Nat) (prec f : Int) (w : World) (he : Env T w) (hr : Nan64 r) (hf1 : 0 ≤ f) (hf2 : f ≤ 255) (hp1 : -9223372036854775808 ≤ prec) (hp2 : prec ≤ 50000) :
    Calls Tryd.prog 31 #[.float .f64 r, .int .u8 f, .int .i64 prec, .int .i64 32] w fun e w' =>
      e = .returned (.string ⟨([78, 97, 78] : List UInt8).toArray⟩) ∧ w.grownBy w' none := by
  obtain ⟨c, hc⟩ : ∃ c : Nat, max (prec + 4) 24 = (c : Int) := ⟨(max (prec + 4) 24).toNat, by omega⟩
  have hc1 : c ≤ 1000000 := by omega
  have hmk := mkBytes c hc1
  obtain ⟨n, hn, hcv0⟩ := conv_nan_down r hr (w.alloc (.cells (madeCells #[.int .u8 0] c) 5))
  have hl := ftoa32L_nan n f prec hn
  have HNAN := Lib.hid hn
  have HL := Lib.hid hl
  have HE := Lib.hid he
  clear he hr hn hl
  refine calls_F Tryd.func31 rfl (by rw [Tryd.ntmps31]; simp) ?_
  intro σ hσ
  rw [Tryd.ntmps31]
  have s0 : σ 0 = .float .f64 r := hσ 0 (by simp)
  have s1 : σ 1 = .int .u8 f := hσ 1 (by simp)
  have s2 : σ 2 = .int .i64 prec := hσ 2 (by simp)
  have s3 : σ 3 = .int .i64 32 := hσ 3 (by simp)
  clear hσ
  ((repeat (go_wp2_with fail; first | (refine cond_yes ?hc (by decide) ?_; (case hc => (simp [over_cons, over_nil, *]; done))) | (refine cond_no ?hc (by decide) ?_; (case hc => (simp [over_cons, over_nil, *]; done))))); go_wp2_with fail)
  refine (ftoa32_any T n _ prec f [] _ ((HE.out.alloc _).drewN 1) ((OwnB.made HE.out.size c hc1).drewN 1) (by simp) HNAN.out.1 hf1 hf2 hp1 hp2).mono ?_
  rintro e w7 ⟨v, rfl, ho, hs⟩
  rw [List.nil_append, HL.out] at ho
  have hcv := str_of_own ho
  have hg : w.grownBy w7 none := by
    have h1 := hs.1
    refine grown_trans (grown_none_trans (World.grownBy_alloc w _ none) (drew_grown _)) h1 (fun j e hj => ?_)
    simp [Value.ownBlock] at e
    omega
  have HG := Lib.hid hg
  clear ho hs hg hmk hcv0
  ((repeat (go_wp2_with fail; first | (refine cond_yes ?hc (by decide) ?_; (case hc => (simp [over_cons, over_nil, *]; done))) | (refine cond_no ?hc (by decide) ?_; (case hc => (simp [over_cons, over_nil, *]; done))))); go_wp2_with fail)
  exact ret_F _ rfl (by decide) (by simp [over_cons, over_nil, *]) ⟨rfl, HG.out⟩

theorem sFormatN_any (T r : Nat) (prec f : Int) (w : World) (he : Env T w) (hr : Nan64 r) (hf1 : 0 ≤ f) (hf2 : f ≤ 255) (hp1 : -9223372036854775808 ≤ prec) (hp2 : prec ≤ 50000) :
    Calls Tryd.prog 24 #[.float .f64 r, .int .u8 f, .int .i64 prec, .int .i64 32] w fun e w' =>
      e = .returned (.string ⟨([78, 97, 78] : List UInt8).toArray⟩) ∧ w.grownBy w' none := by
  have H := Lib.hid (iFormatN_any T r prec f w he hr hf1 hf2 hp1 hp2)
  clear he hr
  go_enter Tryd.func24, Tryd.ntmps24
  go_wp2_with (go_at_call 31; refine H.out.mono ?_; rintro e w7 ⟨rfl, hg⟩)
  go_ret
  exact ⟨rfl, hg⟩

theorem FormatN_any (T b : Nat) (prec f : Int) (w : World) (he : Env T w) (hb : Nan32 b) (hf1 : 0 ≤ f) (hf2 : f ≤ 255) (hp1 : -9223372036854775808 ≤ prec) (hp2 : prec ≤ 50000) :
    Calls Tryd.prog 13 #[.int .u32 (b : Int), .int .u8 f, .int .i64 prec] w fun e w' =>
      e = .returned (.string ⟨([78, 97, 78] : List UInt8).toArray⟩) ∧ w.grownBy w' none := by
  obtain ⟨r, hr, hcv1⟩ := conv_nan_up b hb w
  have H := Lib.hid (sFormatN_any T r prec f w.drew (he.drewN 1) hr hf1 hf2 hp1 hp2)
  have hext := fun W => ext_f32from b W
  clear he hr hb
  go_enter Tryd.func13, Tryd.ntmps13
  go_wp2_with (go_at_call 24; refine H.out.mono ?_; rintro e w7 ⟨rfl, hg⟩)
  go_ret
  exact ⟨rfl, grown_none_trans (drew_grown w) hg⟩

set_option maxHeartbeats 1000000 in
theorem iAppendN_any (T r : Nat) (dst : Value) (prec f : Int) (xs : List UInt8) (w : World) (he : Env T w) (hown : OwnB T w dst xs) (hx : xs.length ≤ 140737488900000) (hr : Nan64 r) (hf1 : 0 ≤ f) (hf2 : f ≤ 255) (hp1 : -9223372036854775808 ≤ prec) (hp2 : prec ≤ 50000) :
    Calls Tryd.prog 32 #[dst, .float .f64 r, .int .u8 f, .int .i64 prec, .int .i64 32] w fun r w' =>
      ∃ v', r = .returned v' ∧ OwnB T w' v' (xs ++ [78, 97, 78]) ∧ Stp w dst w' v' := by
  obtain ⟨n, hn, hcv0⟩ := conv_nan_down r hr w
  have hl := ftoa32L_nan n f prec hn
  have H := Lib.hid (ftoa32_any T n dst prec f xs w.drew (he.drewN 1) (hown.drewN 1) hx hn.1 hf1 hf2 hp1 hp2)
  rw [hl] at H
  clear he hown hr hn hl
  refine calls_F Tryd.func32 rfl (by rw [Tryd.ntmps32]; simp) ?_
  intro σ hσ
  rw [Tryd.ntmps32]
  have s0 : σ 0 = dst := hσ 0 (by simp)
  have s1 : σ 1 = .float .f64 r := hσ 1 (by simp)
  have s2 : σ 2 = .int .u8 f := hσ 2 (by simp)
  have s3 : σ 3 = .int .i64 prec := hσ 3 (by simp)
  have s4 : σ 4 = .int .i64 32 := hσ 4 (by simp)
  clear hσ
  ((repeat (go_wp2_with fail; first | (refine cond_yes ?hc (by decide) ?_; (case hc => (simp [over_cons, over_nil, *]; done))) | (refine cond_no ?hc (by decide) ?_; (case hc => (simp [over_cons, over_nil, *]; done))))); go_wp2_with fail)
  refine H.out.mono ?_
  rintro e w7 ⟨v, rfl, ho, hs⟩
  have HO := Lib.hid ho
  have HS := Lib.hid (((Stp.refl w dst).drewN 1).trans hs)
  clear ho hs hcv0
  ((repeat (go_wp2_with fail; first | (refine cond_yes ?hc (by decide) ?_; (case hc => (simp [over_cons, over_nil, *]; done))) | (refine cond_no ?hc (by decide) ?_; (case hc => (simp [over_cons, over_nil, *]; done))))); go_wp2_with fail)
  exact ret_F _ rfl (by decide) (by simp [over_cons, over_nil, *]) ⟨_, rfl, HO.out, HS.out⟩

theorem sAppendN_any (T r : Nat) (dst : Value) (prec f : Int) (xs : List UInt8) (w : World) (he : Env T w) (hown : OwnB T w dst xs) (hx : xs.length ≤ 140737488900000) (hr : Nan64 r) (hf1 : 0 ≤ f) (hf2 : f ≤ 255) (hp1 : -9223372036854775808 ≤ prec) (hp2 : prec ≤ 50000) :
    Calls Tryd.prog 27 #[dst, .float .f64 r, .int .u8 f, .int .i64 prec, .int .i64 32] w fun r w' =>
      ∃ v', r = .returned v' ∧ OwnB T w' v' (xs ++ [78, 97, 78]) ∧ Stp w dst w' v' := by
  have H := Lib.hid (iAppendN_any T r dst prec f xs w he hown hx hr hf1 hf2 hp1 hp2)
  clear he hown hr
  go_enter Tryd.func27, Tryd.ntmps27
  go_wp2_with (go_at_call 32; refine H.out.mono ?_; rintro e w7 ⟨v, rfl, ho, hs⟩)
  go_ret
  exact ⟨_, rfl, ho, hs⟩

set_option maxHeartbeats 1000000 in
theorem AppendN_any (T b : Nat) (dst : Value) (prec f : Int) (xs : List UInt8) (w : World) (he : Env T w) (hrd : Rd w dst xs) (hx : xs.length ≤ 140737488400000) (hb : Nan32 b) (hf1 : 0 ≤ f) (hf2 : f ≤ 255) (hp1 : -9223372036854775808 ≤ prec) (hp2 : prec ≤ 50000) :
    Calls Tryd.prog 18 #[dst, .int .u32 (b : Int), .int .u8 f, .int .i64 prec] w fun r w' =>
      ∃ v', r = .returned v' ∧ OwnB T w' v' (xs ++ [78, 97, 78]) ∧ w.grownBy w' none := by
  have hT := he.size
  have HE := Lib.hid (he.up hT (Nat.le_refl _))
  have HRD := Lib.hid hrd
  have H := Lib.hid (fun (r : Nat) (hr : Nan64 r) (d : Value) (W : World) (hE : Env w.heap.size W) (hO : OwnB w.heap.size W d xs) => sAppendN_any w.heap.size r d prec f xs W hE hO (by omega) hr hf1 hf2 hp1 hp2)
  have hext := fun W => ext_f32from b W
  have HB := Lib.hid hb
  clear he hrd hb
  refine calls_F Tryd.func18 rfl (by rw [Tryd.ntmps18]; simp) ?_
  intro σ hσ
  rw [Tryd.ntmps18]
  have s0 : σ 0 = dst := hσ 0 (by simp)
  have s1 : σ 1 = .int .u32 (b : Int) := hσ 1 (by simp)
  have s2 : σ 2 = .int .u8 f := hσ 2 (by simp)
  have s3 : σ 3 = .int .i64 prec := hσ 3 (by simp)
  clear hσ
  have HO0 := Lib.hid (OwnB.none (T := w.heap.size) (w := w) (Nat.le_refl _) 5)
  have HRD1 := Lib.hid (HRD.out.grown (World.grownBy_alloc w (.cells #[] 5) none))
  ((repeat (go_wp2_with (first | (at_builtin; refine wpList_appF rfl _ _ _ _ rfl (by decide) (by decide) byteTy HO0.out (by simp [over_cons, over_nil, *]) _ (by simp [over_cons, over_nil, *]) xs HRD1.out.src (by simp; omega) ?_; intro v1 w1 ho1 hs1; obtain ⟨r, hr, hcv1⟩ := conv_nan_up b HB.out w1; replace hr := Lib.hid hr)); first | (refine cond_yes ?hc (by decide) ?_; (case hc => (simp [over_cons, over_nil, *]; done))) | (refine cond_no ?hc (by decide) ?_; (case hc => (simp [over_cons, over_nil, *]; done))))); go_wp2_with (first | (at_builtin; refine wpList_appF rfl _ _ _ _ rfl (by decide) (by decide) byteTy HO0.out (by simp [over_cons, over_nil, *]) _ (by simp [over_cons, over_nil, *]) xs HRD1.out.src (by simp; omega) ?_; intro v1 w1 ho1 hs1; obtain ⟨r, hr, hcv1⟩ := conv_nan_up b HB.out w1; replace hr := Lib.hid hr)))
  have hg1 := grown_own (Nat.le_refl _) (World.grownBy_alloc w _ none) HO0.out hs1
  rw [List.nil_append] at ho1
  have hg1' := grown_none_trans hg1 (drew_grown w1)
  have ho1' : OwnB w.heap.size w1.drew v1 xs := ho1.drewN 1
  refine (H.out r hr.out _ _ (HE.out.grown hg1' (by simp)) ho1').mono ?_
  rintro e w2 ⟨v2, rfl, ho2, hs2⟩
  have hg2 := grown_own (Nat.le_refl _) hg1' ho1' hs2
  have HO2 := Lib.hid ho2
  have HG2 := Lib.hid hg2
  clear ho1 hs1 ho2 hs2 hg1 hg2 hg1' ho1' hcv1
  ((repeat (go_wp2_with fail; first | (refine cond_yes ?hc (by decide) ?_; (case hc => (simp [over_cons, over_nil, *]; done))) | (refine cond_no ?hc (by decide) ?_; (case hc => (simp [over_cons, over_nil, *]; done))))); go_wp2_with fail)
  exact ret_F _ rfl (by decide) (by simp [over_cons, over_nil, *]) ⟨_, rfl, HO2.out.down hT, HG2.out⟩
end Go.Proofs.YtffooimnioigdaaDoor
