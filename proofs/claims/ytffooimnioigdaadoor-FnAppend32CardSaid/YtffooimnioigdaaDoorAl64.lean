/-
  Walk: the law FnAppend64.
-/
import Derived.Test.YtffooimnioigdaaDoorAp
import Derived.Test.YtffooimnioigdaaDoorRw2
namespace Go.Proofs.YtffooimnioigdaaDoor
open Go.ChangeShapes Go.WideShapes Go.ChangeAt Go.RowKit
set_option linter.unusedSimpArgs false
set_option linter.unusedVariables false

/-- append over a frame that is a function, the sum of the lengths far below 2^48. -/
theorem wpList_appG {P : Program} {ops : Array Oper} {rest : List Oper} {o : Oper} {Q : Exit → Act → World → Prop} {w : World} {n : Nat} {env : List (Nat × Value)} {σ : Nat → Value} (hgd : o.guard = none) (ks kx : Nat) (t tx : TypeId)
    (ho : o.op = .call { callee := .builtin .append, args := #[.tmp ks, .tmp kx], argTypes := #[t, tx] }) (hks : ks < n) (hkx : kx < n) (hty : ByteTy P t) {T : Nat} {v : Value} {xs : List UInt8} (hown : OwnB T w v xs) (hs : over env σ ks = v)
    (xv : Value) (hx : over env σ kx = xv) (ys : List UInt8) (hsrc : Src P 1 tx xv ys.length (ys.map encB) w) (hb : xs.length + ys.length ≤ 200000000000000)
    (h : ∀ v' w', OwnB T w' v' (xs ++ ys) → Stp w v w' v' → wpList P ops Q rest ((Fr n env σ).put o.dst v') w') : wpList P ops Q (o :: rest) (Fr n env σ) w := by
  obtain ⟨e, i, z, h1, h2, h3, h4, h5, h6⟩ := hty
  have hlt := hown.lt
  obtain ⟨v', w', hrun, hown', hstp⟩ := run_append_Own (P := P) w t tx o.type e i z h1 h2 h3 h4 h5 v (xs.map encB) hown.1 xv ys.length (ys.map encB) hsrc (by rw [h6]; simp only [List.length_map]; omega) (by omega)
  have es := (Fr_eval n env σ ks hks).trans hs
  have ex := (Fr_eval n env σ kx hkx).trans hx
  refine wpList_plain hgd fun K hK => ?_
  unfold Oper.wp execOp
  simp only [ho, resolve, invoke, builtin, Sem.run_bind, Sem.run_pure, Result.andThen_ok, List.map_toArray, List.map_cons, List.map_nil, es, ex, hrun]
  refine hK _ _ (h v' w' ⟨by rw [List.map_append]; exact hown', fun k hk => ?_⟩ hstp)
  by_cases hkl : k < w.heap.size
  · exact hown.2 k (hstp.2 k hk hkl)
  · omega

set_option maxRecDepth 100000 in
set_option maxHeartbeats 4000000 in
theorem append64_law (T b : Nat) (dst : Value) (f prec : Int) (xs : List UInt8) (w : World) (he : Env T w) (hTw : T = w.heap.size) (hrd : Rd w dst xs) (hx : xs.length ≤ 140737488355328) (hb : b < 18446744073709551616) (hf1 : 0 ≤ f) (hf2 : f ≤ 255) (hp1 : -9223372036854775808 ≤ prec) (hp2 : prec ≤ 9223372036854775807) :
    Calls Tryd.prog 7 #[dst, .int .u64 (b : Int), .int .u8 f, .int .i64 prec] w fun e w' => e = .returned (.bool true) ∧ w.grownBy w' none := by
  have HE := Lib.hid he
  have HRD := Lib.hid hrd
  clear he hrd
  refine calls_F Tryd.func7 rfl (by rw [Tryd.ntmps7]; simp) ?_
  intro σ hσ
  rw [Tryd.ntmps7]
  have s0 : σ 0 = dst := hσ 0 (by simp)
  have s1 : σ 1 = .int .u64 (b : Int) := hσ 1 (by simp)
  have s2 : σ 2 = .int .u8 f := hσ 2 (by simp)
  have s3 : σ 3 = .int .i64 prec := hσ 3 (by simp)
  clear hσ
  by_cases hpu : 5000 < prec
  · ((repeat (go_wp2_with fail; first | (refine cond_yes ?hc (by decide) ?_; (case hc => (simp [over_cons, over_nil, *]; done))) | (refine cond_no ?hc (by decide) ?_; (case hc => (simp [over_cons, over_nil, *]; done))))); go_wp2_with fail)
    exact ret_F (.bool true) rfl (by decide) (by simp [over_cons, over_nil, *]) ⟨rfl, grown_refl w none⟩
  have hpu' : decide (5000 < prec) = false := by simpa using hpu
  have hF := fun (W : World) (hW : Env T W) => Format64_any T b prec f W hW hb hf1 hf2 hp1 (by omega)
  have hA := fun (W : World) (hW : Env T W) (hR : Rd W dst xs) => Append64_any T b dst prec f xs W hW hR (by omega) hb hf1 hf2 hp1 (by omega)
  have hl := ftoa64L_len b f prec hb (by omega)
  generalize ftoa64L b f prec = L at hF hA hl
  have HF := Lib.hid hF
  have HA := Lib.hid hA
  clear hF hA
  have HO0 := Lib.hid (OwnB.none (T := T) (w := w) (by omega) 5)
  have HG0 := Lib.hid (World.grownBy_alloc w (.cells #[] 5) none)
  have HRD1 := Lib.hid (HRD.out.grown HG0.out)
  ((repeat (go_wp2_with (first | (at_builtin; refine wpList_appF rfl _ _ _ _ rfl (by decide) (by decide) byteTy HO0.out (by simp [over_cons, over_nil, *]) _ (by simp [over_cons, over_nil, *]) xs HRD1.out.src (by simp; omega) ?_; intro v1 w1 ho1 hs1)); first | (refine cond_yes ?hc (by decide) ?_; (case hc => (simp [over_cons, over_nil, *]; done))) | (refine cond_no ?hc (by decide) ?_; (case hc => (simp [over_cons, over_nil, *]; done))))); go_wp2_with (first | (at_builtin; refine wpList_appF rfl _ _ _ _ rfl (by decide) (by decide) byteTy HO0.out (by simp [over_cons, over_nil, *]) _ (by simp [over_cons, over_nil, *]) xs HRD1.out.src (by simp; omega) ?_; intro v1 w1 ho1 hs1)))
  have hg1 := grown_own (by omega) HG0.out HO0.out hs1
  rw [List.nil_append] at ho1
  refine (HF.out _ (HE.out.grown hg1 (by simp))).mono ?_
  rintro e w2 ⟨rfl, hg2⟩
  have HO1 := Lib.hid (ho1.grown0 hg2)
  have HG1 := Lib.hid (grown_none_trans hg1 hg2)
  clear ho1 hs1 hg1 hg2
  ((repeat (go_wp2_with (first | (at_builtin; refine wpList_appG rfl _ _ _ _ rfl (by decide) (by decide) byteTy HO1.out (by simp [over_cons, over_nil, *]) _ (by simp [over_cons, over_nil, *]) L (src_str Tryd.underlying9 ⟨L.toArray⟩ L (by simp)) (by omega) ?_; intro v3 w3 ho3 hs3)); first | (refine cond_yes ?hc (by decide) ?_; (case hc => (simp [over_cons, over_nil, *]; done))) | (refine cond_no ?hc (by decide) ?_; (case hc => (simp [over_cons, over_nil, *]; done))))); go_wp2_with (first | (at_builtin; refine wpList_appG rfl _ _ _ _ rfl (by decide) (by decide) byteTy HO1.out (by simp [over_cons, over_nil, *]) _ (by simp [over_cons, over_nil, *]) L (src_str Tryd.underlying9 ⟨L.toArray⟩ L (by simp)) (by omega) ?_; intro v3 w3 ho3 hs3)))
  have hg3 := grown_own (by omega) HG1.out HO1.out hs3
  refine (HA.out _ (HE.out.grown hg3 (by simp)) (HRD.out.grown hg3)).mono ?_
  rintro e w4 ⟨v4, rfl, ho4, hg4⟩
  have HO3 := Lib.hid (ho3.grown0 hg4)
  have HO4 := Lib.hid ho4
  have HG4 := Lib.hid (grown_none_trans hg3 hg4)
  clear ho3 hs3 hg3 ho4 hg4
  ((repeat (go_wp2_with fail; first | (refine cond_yes ?hc (by decide) ?_; (case hc => (simp [over_cons, over_nil, *]; done))) | (refine cond_no ?hc (by decide) ?_; (case hc => (simp [over_cons, over_nil, *]; done))))); go_wp2_with fail)
  refine (sameBytes_any T _ _ (xs ++ L) _ HO4.out HO3.out).mono ?_
  rintro e w5 ⟨rfl, rfl⟩
  ((repeat (go_wp2_with fail; first | (refine cond_yes ?hc (by decide) ?_; (case hc => (simp [over_cons, over_nil, *]; done))) | (refine cond_no ?hc (by decide) ?_; (case hc => (simp [over_cons, over_nil, *]; done))))); go_wp2_with fail)
  exact ret_F (.bool true) rfl (by decide) (by simp [over_cons, over_nil, *]) ⟨rfl, HG4.out⟩
end Go.Proofs.YtffooimnioigdaaDoor
