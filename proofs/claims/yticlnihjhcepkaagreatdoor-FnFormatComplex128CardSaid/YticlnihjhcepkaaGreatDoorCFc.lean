/-
  Walks: FormatComplex of internal/strconv and of strconv, impl.FormatComplex128, impl.FormatComplex64.
-/
import Derived.Test.YticlnihjhcepkaaGreatDoorCAc
import Derived.Test.YticlnihjhcepkaaGreatDoorGg
namespace Go.Proofs.YticlnihjhcepkaaGreatDoor
open Go.RowKit
set_option linter.unusedSimpArgs false
set_option linter.unusedVariables false

theorem arrLen64 : Tryz.prog.arrayLen 115 = 64 := by simp [Program.arrayLen, Program.elem, Tryz.underlying115]
theorem slice64 (g n : Nat) (W : World) (hn : n ≤ 64) : (Instr.sliceAt 115 (.pointer (some ⟨g, 0, none⟩)) none (some (.int .i64 (n : Int))) none).run Tryz.prog W = .ok (.slice (some ⟨g, 0, none⟩) n 64) W := by
  rw [run_sliceAt_array_h W 115 ⟨g, 0, none⟩ (by simp [Program.arrayLen, Program.elem, Tryz.underlying115]) .i64 (n : Int) (by omega) (by rw [arrLen64]; omega)]
  go_simp

theorem OwnB.fresh {T : Nat} {w : World} (hT : T ≤ w.heap.size) (xs : List Value) (e : TypeId) (n : Nat) (hn : xs.length = n) (h : n ≤ 1000) : OwnB T (w.alloc (.cells xs.toArray e)) (.slice (some ⟨w.heap.size, 0, none⟩) 0 n) [] := by
  refine ⟨⟨w.heap.size, xs, ?_, Row.new w xs e, ?_⟩, fun k hk => ?_⟩
  · simp [hn]
  · simp [maxLen]; omega
  · simp [Value.ownBlock] at hk; omega

theorem fInt_ne' (ds : List UInt8) (dp : Int) : fInt ds dp ≠ [] := by
  unfold fInt
  split
  · intro h
    have := congrArg List.length h
    simp only [List.length_append, List.length_take, List.length_replicate, List.length_nil] at this
    omega
  · simp
theorem efgL_ne' (neg : Bool) (ds : List UInt8) (dp pr f : Int) : efgL neg ds dp pr f ≠ [] := by
  unfold efgL
  split
  · unfold efgE; simp
  · split
    · unfold efgF
      have := fInt_ne' ds dp
      simp [this]
    · simp
theorem ftoaL_ne (eb mb : Nat) (bias : Int) (Z : Nat) (ME : Int) (b : Nat) (f prec : Int) : ftoaL eb mb bias Z ME b f prec ≠ [] := by
  unfold ftoaL
  split
  · (repeat' split) <;> simp
  · split
    · unfold fmtBL; simp
    · split
      · unfold xL; simp
      · unfold efgP
        exact efgL_ne' _ _ _ _ _
theorem ftoa64L_ne' (b : Nat) (f prec : Int) : ftoa64L b f prec ≠ [] := ftoaL_ne _ _ _ _ _ _ _ _
theorem ftoa32L_ne (b : Nat) (f prec : Int) : ftoa32L b f prec ≠ [] := ftoaL_ne _ _ _ _ _ _ _ _

set_option maxRecDepth 100000 in
set_option maxHeartbeats 1000000 in
theorem iFormatC128_any (T re im : Nat) (prec f : Int) (R I : List UInt8) (w : World) (he : Env T w)
    (hR : ∀ (d : Value) (ys : List UInt8) (W : World), Env T W → OwnB T W d ys → ys.length ≤ 140737488900000 → Calls Tryz.prog 107 #[d, .float .f64 re, .int .u8 f, .int .i64 prec, .int .i64 64] W fun r w' => ∃ v', r = .returned v' ∧ OwnB T w' v' (ys ++ R) ∧ Stp W d w' v')
    (hI : ∀ (d : Value) (ys : List UInt8) (W : World), Env T W → OwnB T W d ys → ys.length ≤ 140737488900000 → Calls Tryz.prog 107 #[d, .float .f64 im, .int .u8 f, .int .i64 prec, .int .i64 64] W fun r w' => ∃ v', r = .returned v' ∧ OwnB T w' v' (ys ++ I) ∧ Stp W d w' v')
    (hRl : R.length ≤ 4000000) (hIl : I.length ≤ 4000000) (hIn : I ≠ []) :
    Calls Tryz.prog 61 #[.complex .f64 re im, .int .u8 f, .int .i64 prec, .int .i64 128] w fun e w' =>
      e = .returned (.string ⟨(cplxL R I).toArray⟩) ∧ w.grownBy w' none := by
  have H := fun (d : Value) (W : World) (hE : Env T W) (hO : OwnB T W d []) => appendComplex128_any T re im d prec f [] R I W hE hO (by simp) hR hI hRl hIl hIn
  have H := Lib.hid H
  have hsl := fun W => slice64 w.heap.size 0 W (by omega)
  have HE := Lib.hid he
  clear he hR hI
  refine calls_F Tryz.func61 rfl (by rw [Tryz.ntmps61]; simp) ?_
  intro σ hσ
  rw [Tryz.ntmps61]
  have s0 : σ 0 = .complex .f64 re im := hσ 0 (by simp)
  have s1 : σ 1 = .int .u8 f := hσ 1 (by simp)
  have s2 : σ 2 = .int .i64 prec := hσ 2 (by simp)
  have s3 : σ 3 = .int .i64 128 := hσ 3 (by simp)
  clear hσ
  ((repeat (go_wp2_with fail; first | (refine cdY ?_ ?_; focus (simp [ov, *]; done)) | (refine cdN ?_ ?_; focus (simp [ov, *]; done)))); go_wp2_with fail)
  refine (H.out _ _ (HE.out.alloc _) (OwnB.fresh HE.out.size _ _ 64 rfl (by omega))).mono ?_
  rintro e w7 ⟨v, rfl, ho, hs⟩
  rw [List.nil_append] at ho
  have hcv := str_of_own ho
  have hg : w.grownBy w7 none := by
    have h1 := hs.1
    refine grown_trans (World.grownBy_alloc w _ none) h1 (fun j e hj => ?_)
    simp [Value.ownBlock] at e
    omega
  have HG := Lib.hid hg
  clear ho hs hg hsl
  ((repeat (go_wp2_with fail; first | (refine cdY ?_ ?_; focus (simp [ov, *]; done)) | (refine cdN ?_ ?_; focus (simp [ov, *]; done)))); go_wp2_with fail)
  exact ret_F _ rfl (by decide) (by simp [ov, *]) ⟨rfl, HG.out⟩

theorem sFormatC128_any (T re im : Nat) (prec f : Int) (R I : List UInt8) (w : World) (he : Env T w)
    (hR : ∀ (d : Value) (ys : List UInt8) (W : World), Env T W → OwnB T W d ys → ys.length ≤ 140737488900000 → Calls Tryz.prog 107 #[d, .float .f64 re, .int .u8 f, .int .i64 prec, .int .i64 64] W fun r w' => ∃ v', r = .returned v' ∧ OwnB T w' v' (ys ++ R) ∧ Stp W d w' v')
    (hI : ∀ (d : Value) (ys : List UInt8) (W : World), Env T W → OwnB T W d ys → ys.length ≤ 140737488900000 → Calls Tryz.prog 107 #[d, .float .f64 im, .int .u8 f, .int .i64 prec, .int .i64 64] W fun r w' => ∃ v', r = .returned v' ∧ OwnB T w' v' (ys ++ I) ∧ Stp W d w' v')
    (hRl : R.length ≤ 4000000) (hIl : I.length ≤ 4000000) (hIn : I ≠ []) :
    Calls Tryz.prog 30 #[.complex .f64 re im, .int .u8 f, .int .i64 prec, .int .i64 128] w fun e w' =>
      e = .returned (.string ⟨(cplxL R I).toArray⟩) ∧ w.grownBy w' none := by
  have H := Lib.hid (iFormatC128_any T re im prec f R I w he hR hI hRl hIl hIn)
  clear he hR hI
  go_enter Tryz.func30, Tryz.ntmps30
  go_wp2_with (go_at_call 61; refine H.out.mono ?_; rintro e w7 ⟨rfl, hg⟩)
  go_ret
  exact ⟨rfl, hg⟩

set_option maxRecDepth 100000 in
set_option maxHeartbeats 1000000 in
theorem iFormatC64_any (T re im : Nat) (prec f : Int) (R I : List UInt8) (w : World) (he : Env T w)
    (hR : ∀ (d : Value) (ys : List UInt8) (W : World), Env T W → OwnB T W d ys → ys.length ≤ 140737488900000 → Calls Tryz.prog 107 #[d, .float .f64 re, .int .u8 f, .int .i64 prec, .int .i64 32] W fun r w' => ∃ v', r = .returned v' ∧ OwnB T w' v' (ys ++ R) ∧ Stp W d w' v')
    (hI : ∀ (d : Value) (ys : List UInt8) (W : World), Env T W → OwnB T W d ys → ys.length ≤ 140737488900000 → Calls Tryz.prog 107 #[d, .float .f64 im, .int .u8 f, .int .i64 prec, .int .i64 32] W fun r w' => ∃ v', r = .returned v' ∧ OwnB T w' v' (ys ++ I) ∧ Stp W d w' v')
    (hRl : R.length ≤ 4000000) (hIl : I.length ≤ 4000000) (hIn : I ≠ []) :
    Calls Tryz.prog 61 #[.complex .f64 re im, .int .u8 f, .int .i64 prec, .int .i64 64] w fun e w' =>
      e = .returned (.string ⟨(cplxL R I).toArray⟩) ∧ w.grownBy w' none := by
  have H := fun (d : Value) (W : World) (hE : Env T W) (hO : OwnB T W d []) => appendComplex64_any T re im d prec f [] R I W hE hO (by simp) hR hI hRl hIl hIn
  have H := Lib.hid H
  have hsl := fun W => slice64 w.heap.size 0 W (by omega)
  have HE := Lib.hid he
  clear he hR hI
  refine calls_F Tryz.func61 rfl (by rw [Tryz.ntmps61]; simp) ?_
  intro σ hσ
  rw [Tryz.ntmps61]
  have s0 : σ 0 = .complex .f64 re im := hσ 0 (by simp)
  have s1 : σ 1 = .int .u8 f := hσ 1 (by simp)
  have s2 : σ 2 = .int .i64 prec := hσ 2 (by simp)
  have s3 : σ 3 = .int .i64 64 := hσ 3 (by simp)
  clear hσ
  ((repeat (go_wp2_with fail; first | (refine cdY ?_ ?_; focus (simp [ov, *]; done)) | (refine cdN ?_ ?_; focus (simp [ov, *]; done)))); go_wp2_with fail)
  refine (H.out _ _ (HE.out.alloc _) (OwnB.fresh HE.out.size _ _ 64 rfl (by omega))).mono ?_
  rintro e w7 ⟨v, rfl, ho, hs⟩
  rw [List.nil_append] at ho
  have hcv := str_of_own ho
  have hg : w.grownBy w7 none := by
    have h1 := hs.1
    refine grown_trans (World.grownBy_alloc w _ none) h1 (fun j e hj => ?_)
    simp [Value.ownBlock] at e
    omega
  have HG := Lib.hid hg
  clear ho hs hg hsl
  ((repeat (go_wp2_with fail; first | (refine cdY ?_ ?_; focus (simp [ov, *]; done)) | (refine cdN ?_ ?_; focus (simp [ov, *]; done)))); go_wp2_with fail)
  exact ret_F _ rfl (by decide) (by simp [ov, *]) ⟨rfl, HG.out⟩

theorem sFormatC64_any (T re im : Nat) (prec f : Int) (R I : List UInt8) (w : World) (he : Env T w)
    (hR : ∀ (d : Value) (ys : List UInt8) (W : World), Env T W → OwnB T W d ys → ys.length ≤ 140737488900000 → Calls Tryz.prog 107 #[d, .float .f64 re, .int .u8 f, .int .i64 prec, .int .i64 32] W fun r w' => ∃ v', r = .returned v' ∧ OwnB T w' v' (ys ++ R) ∧ Stp W d w' v')
    (hI : ∀ (d : Value) (ys : List UInt8) (W : World), Env T W → OwnB T W d ys → ys.length ≤ 140737488900000 → Calls Tryz.prog 107 #[d, .float .f64 im, .int .u8 f, .int .i64 prec, .int .i64 32] W fun r w' => ∃ v', r = .returned v' ∧ OwnB T w' v' (ys ++ I) ∧ Stp W d w' v')
    (hRl : R.length ≤ 4000000) (hIl : I.length ≤ 4000000) (hIn : I ≠ []) :
    Calls Tryz.prog 30 #[.complex .f64 re im, .int .u8 f, .int .i64 prec, .int .i64 64] w fun e w' =>
      e = .returned (.string ⟨(cplxL R I).toArray⟩) ∧ w.grownBy w' none := by
  have H := Lib.hid (iFormatC64_any T re im prec f R I w he hR hI hRl hIl hIn)
  clear he hR hI
  go_enter Tryz.func30, Tryz.ntmps30
  go_wp2_with (go_at_call 61; refine H.out.mono ?_; rintro e w7 ⟨rfl, hg⟩)
  go_ret
  exact ⟨rfl, hg⟩

end Go.Proofs.YticlnihjhcepkaaGreatDoor
