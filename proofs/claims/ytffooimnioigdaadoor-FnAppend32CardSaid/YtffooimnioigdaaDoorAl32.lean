/-
  Walk: the law FnAppend32.
-/
import Derived.Test.YtffooimnioigdaaDoorAl64
import Derived.Test.YtffooimnioigdaaDoorNw
namespace Go.Proofs.YtffooimnioigdaaDoor
open Go.ChangeShapes Go.WideShapes Go.ChangeAt Go.RowKit
set_option linter.unusedSimpArgs false
set_option linter.unusedVariables false

set_option maxRecDepth 100000 in
set_option maxHeartbeats 4000000 in
theorem append32_law (T b : Nat) (dst : Value) (f prec : Int) (xs : List UInt8) (w : World) (he : Env T w) (hTw : T = w.heap.size) (hrd : Rd w dst xs) (hx : xs.length ≤ 140737488355328) (hb : b < 4294967296) (hf1 : 0 ≤ f) (hf2 : f ≤ 255) (hp1 : -9223372036854775808 ≤ prec) (hp2 : prec ≤ 9223372036854775807) :
    Calls Tryd.prog 6 #[dst, .int .u32 (b : Int), .int .u8 f, .int .i64 prec] w fun e w' => e = .returned (.bool true) ∧ w.grownBy w' none := by
  have HE := Lib.hid he
  have HRD := Lib.hid hrd
  clear he hrd
  refine calls_F Tryd.func6 rfl (by rw [Tryd.ntmps6]; simp) ?_
  intro σ hσ
  rw [Tryd.ntmps6]
  have s0 : σ 0 = dst := hσ 0 (by simp)
  have s1 : σ 1 = .int .u32 (b : Int) := hσ 1 (by simp)
  have s2 : σ 2 = .int .u8 f := hσ 2 (by simp)
  have s3 : σ 3 = .int .i64 prec := hσ 3 (by simp)
  clear hσ
  by_cases hpu : 5000 < prec
  · ((repeat (go_wp2_with fail; first | (refine cond_yes ?hc (by decide) ?_; (case hc => (simp [over_cons, over_nil, *]; done))) | (refine cond_no ?hc (by decide) ?_; (case hc => (simp [over_cons, over_nil, *]; done))))); go_wp2_with fail)
    exact ret_F (.bool true) rfl (by decide) (by simp [over_cons, over_nil, *]) ⟨rfl, grown_refl w none⟩
  have hpu' : decide (5000 < prec) = false := by simpa using hpu
  obtain ⟨L, hl, hF, hA⟩ : ∃ L : List UInt8, L.length ≤ 4000000 ∧ (∀ W : World, Env T W → Calls Tryd.prog 13 #[.int .u32 (b : Int), .int .u8 f, .int .i64 prec] W fun e w' => e = .returned (.string ⟨L.toArray⟩) ∧ W.grownBy w' none) ∧
      (∀ W : World, Env T W → Rd W dst xs → Calls Tryd.prog 18 #[dst, .int .u32 (b : Int), .int .u8 f, .int .i64 prec] W fun r w' => ∃ v', r = .returned v' ∧ OwnB T w' v' (xs ++ L) ∧ W.grownBy w' none) := by
    by_cases hn : Nan32 b
    · exact ⟨[78, 97, 78], by simp, fun W hW => FormatN_any T b prec f W hW hn hf1 hf2 hp1 (by omega), fun W hW hR => AppendN_any T b dst prec f xs W hW hR (by omega) hn hf1 hf2 hp1 (by omega)⟩
    · obtain ⟨r, _, hw1, hr1⟩ := widen_all b hb hn
      exact ⟨ftoa32L b f prec, ftoa32L_len b f prec hb (by omega), fun W hW => Format32_any T b r prec f W hW hb hw1 hr1 hf1 hf2 hp1 (by omega), fun W hW hR => Append32_any T b r dst prec f xs W hW hR (by omega) hb hw1 hr1 hf1 hf2 hp1 (by omega)⟩
  have HF := Lib.hid hF
  have HA := Lib.hid hA
  clear hF hA
  have HO0 := Lib.hid (OwnB.none (T := T) (w := w) (by omega) 5)
  have HG0 := Lib.hid (World.grownBy_alloc w (.cells #[] 5) none)
  have HRD1 := Lib.hid (HRD.out.grown HG0.out)
  ((repeat (go_wp2_with (first | (at_builtin; refine wpList_appF rfl _ _ _ _ rfl (by decide) (by decide) byteTy HO0.out (by simp [over_cons, over_nil, *]) _ (by simp [over_cons, over_nil, *]) xs HRD1.out.src (by simp; omega) ?_; intro v1 w1 ho1 hs1)); first | (refine cond_yes ?hc (by decide) ?_; (case hc => (simp [over_cons, over_nil, *]; done))) | (refine cond_no ?hc (by decide) ?_; (case hc => (simp [over_cons, over_nil, *]; done))))); go_wp2_with (first | (at_builtin; refine wpList_appF rfl _ _ _ _ rfl (by decide) (by decide) byteTy HO0.out (by simp [over_cons, over_nil, *]) _ (by simp [over_cons, over_nil, *]) xs HRD1.out.src (by simp; omega) ?_; intro v1 w1 ho1 hs1)))
  have hg1 := grown_own (by omega) HG0.out HO0.out hs1
  rw [List.nil_append] at ho1
  refine (HF.out _ (HE.out.grown hg1 (by simp))).mono ?_
  rintro e w2 ⟨rfl, hg2⟩
  have HO1 := Lib.hid (ho1.grown0 hg2)
  have HG1 := Lib.hid (grown_none_trans hg1 hg2)
  clear ho1 hs1 hg1 hg2
  ((repeat (go_wp2_with (first | (at_builtin; refine wpList_appG rfl _ _ _ _ rfl (by decide) (by decide) byteTy HO1.out (by simp [over_cons, over_nil, *]) _ (by simp [over_cons, over_nil, *]) L (src_str Tryd.underlying9 ⟨L.toArray⟩ L (by simp)) (by omega) ?_; intro v3 w3 ho3 hs3)); first | (refine cond_yes ?hc (by decide) ?_; (case hc => (simp [over_cons, over_nil, *]; done))) | (refine cond_no ?hc (by decide) ?_; (case hc => (simp [over_cons, over_nil, *]; done))))); go_wp2_with (first | (at_builtin; refine wpList_appG rfl _ _ _ _ rfl (by decide) (by decide) byteTy HO1.out (by simp [over_cons, over_nil, *]) _ (by simp [over_cons, over_nil, *]) L (src_str Tryd.underlying9 ⟨L.toArray⟩ L (by simp)) (by omega) ?_; intro v3 w3 ho3 hs3)))
  have hg3 := grown_own (by omega) HG1.out HO1.out hs3
  refine (HA.out _ (HE.out.grown hg3 (by simp)) (HRD.out.grown hg3)).mono ?_
  rintro e w4 ⟨v4, rfl, ho4, hg4⟩
  have HO3 := Lib.hid (ho3.grown0 hg4)
  have HO4 := Lib.hid ho4
  have HG4 := Lib.hid (grown_none_trans hg3 hg4)
  clear ho3 hs3 hg3 ho4 hg4
  ((repeat (go_wp2_with fail; first | (refine cond_yes ?hc (by decide) ?_; (case hc => (simp [over_cons, over_nil, *]; done))) | (refine cond_no ?hc (by decide) ?_; (case hc => (simp [over_cons, over_nil, *]; done))))); go_wp2_with fail)
  refine (sameBytes_any T _ _ (xs ++ L) _ HO4.out HO3.out).mono ?_
  rintro e w5 ⟨rfl, rfl⟩
  ((repeat (go_wp2_with fail; first | (refine cond_yes ?hc (by decide) ?_; (case hc => (simp [over_cons, over_nil, *]; done))) | (refine cond_no ?hc (by decide) ?_; (case hc => (simp [over_cons, over_nil, *]; done))))); go_wp2_with fail)
  exact ret_F (.bool true) rfl (by decide) (by simp [over_cons, over_nil, *]) ⟨rfl, HG4.out⟩
end Go.Proofs.YtffooimnioigdaaDoor
