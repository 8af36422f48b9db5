/-
  Walks: FormatComplex of internal/strconv and of strconv, impl.FormatComplex128, impl.FormatComplex64.
-/
import Derived.Test.YtffooimnioigdaaDoorAc
import Derived.Test.YtffooimnioigdaaDoorLen
namespace Go.Proofs.YtffooimnioigdaaDoor
open Go.RowKit
set_option linter.unusedSimpArgs false
set_option linter.unusedVariables false

theorem arrLen64 : Tryd.prog.arrayLen 57 = 64 := by simp [Program.arrayLen, Program.elem, Tryd.underlying57]
theorem slice64 (g n : Nat) (W : World) (hn : n ≤ 64) : (Instr.sliceAt 57 (.pointer (some ⟨g, 0, none⟩)) none (some (.int .i64 (n : Int))) none).run Tryd.prog W = .ok (.slice (some ⟨g, 0, none⟩) n 64) W := by
  rw [run_sliceAt_array_h W 57 ⟨g, 0, none⟩ (by simp [Program.arrayLen, Program.elem, Tryd.underlying57]) .i64 (n : Int) (by omega) (by rw [arrLen64]; omega)]
  go_simp

theorem OwnB.fresh {T : Nat} {w : World} (hT : T ≤ w.heap.size) (xs : List Value) (e : TypeId) (n : Nat) (hn : xs.length = n) (h : n ≤ 1000) : OwnB T (w.alloc (.cells xs.toArray e)) (.slice (some ⟨w.heap.size, 0, none⟩) 0 n) [] := by
  refine ⟨⟨w.heap.size, xs, ?_, Row.new w xs e, ?_⟩, fun k hk => ?_⟩
  · simp [hn]
  · simp [maxLen]; omega
  · simp [Value.ownBlock] at hk; omega

theorem fInt_ne' (ds : List UInt8) (dp : Int) : fInt ds dp ≠ [] := by
  unfold fInt
  split
  · intro h
    have := congrArg List.length h
    simp only [List.length_append, List.length_take, List.length_replicate, List.length_nil] at this
    omega
  · simp
theorem efgL_ne' (neg : Bool) (ds : List UInt8) (dp pr f : Int) : efgL neg ds dp pr f ≠ [] := by
  unfold efgL
  split
  · unfold efgE; simp
  · split
    · unfold efgF
      have := fInt_ne' ds dp
      simp [this]
    · simp
theorem ftoaL_ne (eb mb : Nat) (bias : Int) (Z : Nat) (ME : Int) (b : Nat) (f prec : Int) : ftoaL eb mb bias Z ME b f prec ≠ [] := by
  unfold ftoaL
  split
  · (repeat' split) <;> simp
  · split
    · unfold fmtBL; simp
    · split
      · unfold xL; simp
      · unfold efgP
        exact efgL_ne' _ _ _ _ _
theorem ftoa64L_ne' (b : Nat) (f prec : Int) : ftoa64L b f prec ≠ [] := ftoaL_ne _ _ _ _ _ _ _ _
theorem ftoa32L_ne (b : Nat) (f prec : Int) : ftoa32L b f prec ≠ [] := ftoaL_ne _ _ _ _ _ _ _ _

set_option maxRecDepth 100000 in
set_option maxHeartbeats 1000000 in
theorem iFormatC128_any (T re im : Nat) (prec f : Int) (R I : List UInt8) (w : World) (he : Env T w)
    (hR : ∀ (d : Value) (ys : List UInt8) (W : World), Env T W → OwnB T W d ys → ys.length ≤ 140737488900000 → Calls Tryd.prog 32 #[d, .float .f64 re, .int .u8 f, .int .i64 prec, .int .i64 64] W fun r w' => ∃ v', r = .returned v' ∧ OwnB T w' v' (ys ++ R) ∧ Stp W d w' v')
    (hI : ∀ (d : Value) (ys : List UInt8) (W : World), Env T W → OwnB T W d ys → ys.length ≤ 140737488900000 → Calls Tryd.prog 32 #[d, .float .f64 im, .int .u8 f, .int .i64 prec, .int .i64 64] W fun r w' => ∃ v', r = .returned v' ∧ OwnB T w' v' (ys ++ I) ∧ Stp W d w' v')
    (hRl : R.length ≤ 4000000) (hIl : I.length ≤ 4000000) (hIn : I ≠ []) :
    Calls Tryd.prog 33 #[.complex .f64 re im, .int .u8 f, .int .i64 prec, .int .i64 128] w fun e w' =>
      e = .returned (.string ⟨(cplxL R I).toArray⟩) ∧ w.grownBy w' none := by
  have H := fun (d : Value) (W : World) (hE : Env T W) (hO : OwnB T W d []) => appendComplex128_any T re im d prec f [] R I W hE hO (by simp) hR hI hRl hIl hIn
  have H := Lib.hid H
  have hsl := fun W => slice64 w.heap.size 0 W (by omega)
  have HE := Lib.hid he
  clear he hR hI
  refine calls_F Tryd.func33 rfl (by rw [Tryd.ntmps33]; simp) ?_
  intro σ hσ
  rw [Tryd.ntmps33]
  have s0 : σ 0 = .complex .f64 re im := hσ 0 (by simp)
  have s1 : σ 1 = .int .u8 f := hσ 1 (by simp)
  have s2 : σ 2 = .int .i64 prec := hσ 2 (by simp)
  have s3 : σ 3 = .int .i64 128 := hσ 3 (by simp)
  clear hσ
  ((repeat (go_wp2_with fail; first | (refine cond_yes ?hc (by decide) ?_; (case hc => (simp [over_cons, over_nil, *]; done))) | (refine cond_no ?hc (by decide) ?_; (case hc => (simp [over_cons, over_nil, *]; done))))); go_wp2_with fail)
  refine (H.out _ _ (HE.out.alloc _) (OwnB.fresh HE.out.size _ _ 64 rfl (by omega))).mono ?_
  rintro e w7 ⟨v, rfl, ho, hs⟩
  rw [List.nil_append] at ho
  have hcv := str_of_own ho
  have hg : w.grownBy w7 none := by
    have h1 := hs.1
    refine grown_trans (World.grownBy_alloc w _ none) h1 (fun j e hj => ?_)
    simp [Value.ownBlock] at e
    omega
  have HG := Lib.hid hg
  clear ho hs hg hsl
  ((repeat (go_wp2_with fail; first | (refine cond_yes ?hc (by decide) ?_; (case hc => (simp [over_cons, over_nil, *]; done))) | (refine cond_no ?hc (by decide) ?_; (case hc => (simp [over_cons, over_nil, *]; done))))); go_wp2_with fail)
  exact ret_F _ rfl (by decide) (by simp [over_cons, over_nil, *]) ⟨rfl, HG.out⟩

theorem sFormatC128_any (T re im : Nat) (prec f : Int) (R I : List UInt8) (w : World) (he : Env T w)
    (hR : ∀ (d : Value) (ys : List UInt8) (W : World), Env T W → OwnB T W d ys → ys.length ≤ 140737488900000 → Calls Tryd.prog 32 #[d, .float .f64 re, .int .u8 f, .int .i64 prec, .int .i64 64] W fun r w' => ∃ v', r = .returned v' ∧ OwnB T w' v' (ys ++ R) ∧ Stp W d w' v')
    (hI : ∀ (d : Value) (ys : List UInt8) (W : World), Env T W → OwnB T W d ys → ys.length ≤ 140737488900000 → Calls Tryd.prog 32 #[d, .float .f64 im, .int .u8 f, .int .i64 prec, .int .i64 64] W fun r w' => ∃ v', r = .returned v' ∧ OwnB T w' v' (ys ++ I) ∧ Stp W d w' v')
    (hRl : R.length ≤ 4000000) (hIl : I.length ≤ 4000000) (hIn : I ≠ []) :
    Calls Tryd.prog 28 #[.complex .f64 re im, .int .u8 f, .int .i64 prec, .int .i64 128] w fun e w' =>
      e = .returned (.string ⟨(cplxL R I).toArray⟩) ∧ w.grownBy w' none := by
  have H := Lib.hid (iFormatC128_any T re im prec f R I w he hR hI hRl hIl hIn)
  clear he hR hI
  go_enter Tryd.func28, Tryd.ntmps28
  go_wp2_with (go_at_call 33; refine H.out.mono ?_; rintro e w7 ⟨rfl, hg⟩)
  go_ret
  exact ⟨rfl, hg⟩

set_option maxRecDepth 100000 in
set_option maxHeartbeats 1000000 in
theorem iFormatC64_any (T re im : Nat) (prec f : Int) (R I : List UInt8) (w : World) (he : Env T w)
    (hR : ∀ (d : Value) (ys : List UInt8) (W : World), Env T W → OwnB T W d ys → ys.length ≤ 140737488900000 → Calls Tryd.prog 32 #[d, .float .f64 re, .int .u8 f, .int .i64 prec, .int .i64 32] W fun r w' => ∃ v', r = .returned v' ∧ OwnB T w' v' (ys ++ R) ∧ Stp W d w' v')
    (hI : ∀ (d : Value) (ys : List UInt8) (W : World), Env T W → OwnB T W d ys → ys.length ≤ 140737488900000 → Calls Tryd.prog 32 #[d, .float .f64 im, .int .u8 f, .int .i64 prec, .int .i64 32] W fun r w' => ∃ v', r = .returned v' ∧ OwnB T w' v' (ys ++ I) ∧ Stp W d w' v')
    (hRl : R.length ≤ 4000000) (hIl : I.length ≤ 4000000) (hIn : I ≠ []) :
    Calls Tryd.prog 33 #[.complex .f64 re im, .int .u8 f, .int .i64 prec, .int .i64 64] w fun e w' =>
      e = .returned (.string ⟨(cplxL R I).toArray⟩) ∧ w.grownBy w' none := by
  have H := fun (d : Value) (W : World) (hE : Env T W) (hO : OwnB T W d []) => appendComplex64_any T re im d prec f [] R I W hE hO (by simp) hR hI hRl hIl hIn
  have H := Lib.hid H
  have hsl := fun W => slice64 w.heap.size 0 W (by omega)
  have HE := Lib.hid he
  clear he hR hI
  refine calls_F Tryd.func33 rfl (by rw [Tryd.ntmps33]; simp) ?_
  intro σ hσ
  rw [Tryd.ntmps33]
  have s0 : σ 0 = .complex .f64 re im := hσ 0 (by simp)
  have s1 : σ 1 = .int .u8 f := hσ 1 (by simp)
  have s2 : σ 2 = .int .i64 prec := hσ 2 (by simp)
  have s3 : σ 3 = .int .i64 64 := hσ 3 (by simp)
  clear hσ
  ((repeat (go_wp2_with fail; first | (refine cond_yes ?hc (by decide) ?_; (case hc => (simp [over_cons, over_nil, *]; done))) | (refine cond_no ?hc (by decide) ?_; (case hc => (simp [over_cons, over_nil, *]; done))))); go_wp2_with fail)
  refine (H.out _ _ (HE.out.alloc _) (OwnB.fresh HE.out.size _ _ 64 rfl (by omega))).mono ?_
  rintro e w7 ⟨v, rfl, ho, hs⟩
  rw [List.nil_append] at ho
  have hcv := str_of_own ho
  have hg : w.grownBy w7 none := by
    have h1 := hs.1
    refine grown_trans (World.grownBy_alloc w _ none) h1 (fun j e hj => ?_)
    simp [Value.ownBlock] at e
    omega
  have HG := Lib.hid hg
  clear ho hs hg hsl
  ((repeat (go_wp2_with fail; first | (refine cond_yes ?hc (by decide) ?_; (case hc => (simp [over_cons, over_nil, *]; done))) | (refine cond_no ?hc (by decide) ?_; (case hc => (simp [over_cons, over_nil, *]; done))))); go_wp2_with fail)
  exact ret_F _ rfl (by decide) (by simp [over_cons, over_nil, *]) ⟨rfl, HG.out⟩

theorem sFormatC64_any (T re im : Nat) (prec f : Int) (R I : List UInt8) (w : World) (he : Env T w)
    (hR : ∀ (d : Value) (ys : List UInt8) (W : World), Env T W → OwnB T W d ys → ys.length ≤ 140737488900000 → Calls Tryd.prog 32 #[d, .float .f64 re, .int .u8 f, .int .i64 prec, .int .i64 32] W fun r w' => ∃ v', r = .returned v' ∧ OwnB T w' v' (ys ++ R) ∧ Stp W d w' v')
    (hI : ∀ (d : Value) (ys : List UInt8) (W : World), Env T W → OwnB T W d ys → ys.length ≤ 140737488900000 → Calls Tryd.prog 32 #[d, .float .f64 im, .int .u8 f, .int .i64 prec, .int .i64 32] W fun r w' => ∃ v', r = .returned v' ∧ OwnB T w' v' (ys ++ I) ∧ Stp W d w' v')
    (hRl : R.length ≤ 4000000) (hIl : I.length ≤ 4000000) (hIn : I ≠ []) :
    Calls Tryd.prog 28 #[.complex .f64 re im, .int .u8 f, .int .i64 prec, .int .i64 64] w fun e w' =>
      e = .returned (.string ⟨(cplxL R I).toArray⟩) ∧ w.grownBy w' none := by
  have H := Lib.hid (iFormatC64_any T re im prec f R I w he hR hI hRl hIl hIn)
  clear he hR hI
  go_enter Tryd.func28, Tryd.ntmps28
  go_wp2_with (go_at_call 33; refine H.out.mono ?_; rintro e w7 ⟨rfl, hg⟩)
  go_ret
  exact ⟨rfl, hg⟩

theorem FormatC128_any (T re im : Nat) (prec f : Int) (w : World) (he : Env T w) (hr : re < 18446744073709551616) (hi : im < 18446744073709551616) (hf1 : 0 ≤ f) (hf2 : f ≤ 255) (hp1 : -9223372036854775808 ≤ prec) (hp2 : prec ≤ 5000) :
    Calls Tryd.prog 20 #[.int .u64 (re : Int), .int .u64 (im : Int), .int .u8 f, .int .i64 prec] w fun e w' =>
      e = .returned (.string ⟨(cplxL (ftoa64L re f prec) (ftoa64L im f prec)).toArray⟩) ∧ w.grownBy w' none := by
  have H := Lib.hid (sFormatC128_any T re im prec f (ftoa64L re f prec) (ftoa64L im f prec) w he
    (fun d ys W hE hO hl => iAppend64_any T re d prec f ys W hE hO hl hr hf1 hf2 hp1 (by omega))
    (fun d ys W hE hO hl => iAppend64_any T im d prec f ys W hE hO hl hi hf1 hf2 hp1 (by omega))
    (ftoa64L_len re f prec hr (by omega)) (ftoa64L_len im f prec hi (by omega)) (ftoa64L_ne' im f prec))
  have hext := fun W => ext_f64from re W
  have hext2 := fun W => ext_f64from im W
  clear he
  go_enter Tryd.func20, Tryd.ntmps20
  go_wp2_with (go_at_call 28; refine H.out.mono ?_; rintro e w7 ⟨rfl, hg⟩)
  go_ret
  exact ⟨rfl, hg⟩

theorem FormatC64_any (T re im r q : Nat) (prec f : Int) (w : World) (he : Env T w) (hr : re < 4294967296) (hi : im < 4294967296) (hw1 : floatToFloatBits .f32 re .f64 = some r) (hr1 : floatToFloatBits .f64 r .f32 = some re) (hw2 : floatToFloatBits .f32 im .f64 = some q) (hr2 : floatToFloatBits .f64 q .f32 = some im) (hf1 : 0 ≤ f) (hf2 : f ≤ 255) (hp1 : -9223372036854775808 ≤ prec) (hp2 : prec ≤ 5000) :
    Calls Tryd.prog 21 #[.int .u32 (re : Int), .int .u32 (im : Int), .int .u8 f, .int .i64 prec] w fun e w' =>
      e = .returned (.string ⟨(cplxL (ftoa32L re f prec) (ftoa32L im f prec)).toArray⟩) ∧ w.grownBy w' none := by
  have H := Lib.hid (sFormatC64_any T r q prec f (ftoa32L re f prec) (ftoa32L im f prec) w he
    (fun d ys W hE hO hl => iAppend32_any T re r d prec f ys W hE hO hl hr hr1 hf1 hf2 hp1 (by omega))
    (fun d ys W hE hO hl => iAppend32_any T im q d prec f ys W hE hO hl hi hr2 hf1 hf2 hp1 (by omega))
    (ftoa32L_len re f prec hr (by omega)) (ftoa32L_len im f prec hi (by omega)) (ftoa32L_ne im f prec))
  have hext := fun W => ext_f32from re W
  have hext2 := fun W => ext_f32from im W
  have hcv1 := fun W => run_convert_float_float (P := Tryd.prog) W 48 47 .f32 .f64 re r (by rw [Tryd.underlying48]; rfl) Tryd.underlying47 hw1
  have hcv2 := fun W => run_convert_float_float (P := Tryd.prog) W 48 47 .f32 .f64 im q (by rw [Tryd.underlying48]; rfl) Tryd.underlying47 hw2
  clear he hw1 hr1 hw2 hr2
  go_enter Tryd.func21, Tryd.ntmps21
  go_wp2_with (go_at_call 28; refine H.out.mono ?_; rintro e w7 ⟨rfl, hg⟩)
  go_ret
  exact ⟨rfl, hg⟩
end Go.Proofs.YtffooimnioigdaaDoor
