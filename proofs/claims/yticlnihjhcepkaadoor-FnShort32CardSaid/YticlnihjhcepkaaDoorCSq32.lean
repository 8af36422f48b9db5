/-
  Walk of laws.FnShort32.
-/
import Derived.Test.YticlnihjhcepkaaDoorCSr4
import Derived.Test.YticlnihjhcepkaaDoorCLf
import Derived.Test.YticlnihjhcepkaaDoorGh
namespace Go.Proofs.YticlnihjhcepkaaDoor
open Go.ChangeShapes Go.WideShapes Go.ChangeAt Go.RowKit
set_option linter.unusedSimpArgs false
set_option linter.unusedVariables false
attribute [local go_sem] undef

theorem five_fmt32 (i : Nat) (h : i < 5) : ∃ f : Int, ([.int .u8 101, .int .u8 69, .int .u8 102, .int .u8 103, .int .u8 71] : List Value)[i]? = some (.int .u8 f) ∧ isEfg f := by
  match i, h with
  | 0, _ => exact ⟨101, rfl, by unfold isEfg; omega⟩
  | 1, _ => exact ⟨69, rfl, by unfold isEfg; omega⟩
  | 2, _ => exact ⟨102, rfl, by unfold isEfg; omega⟩
  | 3, _ => exact ⟨103, rfl, by unfold isEfg; omega⟩
  | 4, _ => exact ⟨71, rfl, by unfold isEfg; omega⟩

set_option maxRecDepth 100000 in
set_option maxHeartbeats 8000000 in
theorem qs32_any (T n : Nat) (w : World) (he : Env T w) (hn : n < 4294967296) :
    Calls Tryd.prog 7 #[.int .u32 (n : Int)] w fun e w' => e = .returned (.bool true) ∧ w.grownBy w' none := by
  have HFI := Lib.hid (fun W => finite32_any n W hn)
  have HE := Lib.hid he
  clear he
  refine calls_F Tryd.func7 rfl (by rw [Tryd.ntmps7]; simp) ?_
  intro σ hσ
  rw [Tryd.ntmps7]
  have s0 : σ 0 = .int .u32 (n : Int) := hσ 0 (by simp)
  clear hσ
  by_cases hfin : n % 2147483648 < 2139095040
  case neg =>
    rw [decide_eq_false hfin] at HFI
    ((repeat (go_wp2_with fail; first | (refine cdY ?_ ?_; focus (simp [ov, *]; done)) | (refine cdN ?_ ?_; focus (simp [ov, *]; done)))); go_wp2_with fail)
    refine (HFI.out _).mono ?_
    rintro e w7 ⟨rfl, rfl⟩
    ((repeat (go_wp2_with fail; first | (refine cdY ?_ ?_; focus (simp [ov, *]; done)) | (refine cdN ?_ ?_; focus (simp [ov, *]; done)))); go_wp2_with fail)
    all_goals (try ((repeat (go_wp2_with fail; first | (refine cdY ?_ ?_; focus (simp [ov, *]; done)) | (refine cdN ?_ ?_; focus (simp [ov, *]; done)))); go_wp2_with fail))
    all_goals exact ret_F (.bool true) rfl (by decide) (by simp [ov, *]) ⟨rfl, grown_refl w none⟩
  rw [decide_eq_true hfin] at HFI
  obtain ⟨t, tx, hST, hFM, hEQ⟩ := short32_any n hn hfin
  have HST := Lib.hid hST
  have HFM := Lib.hid hFM
  obtain ⟨r, hr1, hr2, hr3⟩ := Wd.widen_back n hn hfin
  have HF : Hid (t = false → ∀ f, isEfg f → ∀ T W, Env T W → Calls Tryd.prog 11 #[.int .u32 (n : Int), .int .u8 f, .int .i64 (-1)] W fun e w' => e = .returned (.string ⟨(tx f).toArray⟩) ∧ W.grownBy w' none) := by
    intro ht f hf T W he
    rw [← hEQ ht f hf]
    have h1 : 0 ≤ f ∧ f ≤ 255 := by unfold isEfg at hf; omega
    exact Format32_any T n r (-1) f W he hn hr2 hr3 h1.1 h1.2 (by omega) (by omega)
  clear hST hFM hEQ
  ((repeat (go_wp2_with fail; first | (refine cdY ?_ ?_; focus (simp [ov, *]; done)) | (refine cdN ?_ ?_; focus (simp [ov, *]; done)))); go_wp2_with fail)
  refine (HFI.out _).mono ?_
  rintro e w6 ⟨rfl, rfl⟩
  ((repeat (go_wp2_with fail; first | (refine cdY ?_ ?_; focus (simp [ov, *]; done)) | (refine cdN ?_ ?_; focus (simp [ov, *]; done)))); go_wp2_with fail)
  refine (HST.out _).mono ?_
  rintro e w7 ⟨rfl, hg7⟩
  have HG7 := Lib.hid hg7
  clear hg7
  cases t
  case true =>
    ((repeat (go_wp2_with fail; first | (refine cdY ?_ ?_; focus (simp [ov, *]; done)) | (refine cdN ?_ ?_; focus (simp [ov, *]; done)))); go_wp2_with fail)
    all_goals (try ((repeat (go_wp2_with fail; first | (refine cdY ?_ ?_; focus (simp [ov, *]; done)) | (refine cdN ?_ ?_; focus (simp [ov, *]; done)))); go_wp2_with fail))
    exact ret_F (.bool true) rfl (by decide) (by simp [ov, *]) ⟨rfl, HG7.out⟩
  replace HF := Lib.hid (HF.out rfl)
  have HROW := Lib.hid (fun W (h : (w7.alloc (.cells #[.int .u8 101, .int .u8 69, .int .u8 102, .int .u8 103, .int .u8 71] 5)).grownBy W none) => (Row.new w7 [.int .u8 101, .int .u8 69, .int .u8 102, .int .u8 103, .int .u8 71] 5).grown h (by simp))
  have HGA := Lib.hid (grown_none_trans HG7.out (World.grownBy_alloc w7 (.cells #[.int .u8 101, .int .u8 69, .int .u8 102, .int .u8 103, .int .u8 71] 5) none))
  ((repeat (go_wp2_with fail; first | (refine cdY ?_ ?_; focus (simp [ov, *]; done)) | (refine cdN ?_ ?_; focus (simp [ov, *]; done)))); go_wp2_with fail)
  refine loop_F (fun kk s' w' => ∃ i : Nat, kk = 5 - i ∧ i ≤ 5 ∧ s' 0 = .int .u32 (n : Int) ∧ s' 3 = .int .u64 (n : Int) ∧ s' 15 = .slice (some ⟨w7.heap.size, 0, none⟩) 5 5 ∧ s' 16 = .int .i64 5 ∧ s' 17 = .int .i64 (i : Int) ∧ (w7.alloc (.cells #[.int .u8 101, .int .u8 69, .int .u8 102, .int .u8 103, .int .u8 71] 5)).grownBy w' none) 5
    ⟨0, rfl, by omega, by simp [ov, *], by simp [ov, *], by simp [ov, *], by simp [ov, *], by simp [ov, *], grown_refl _ none⟩ ?_
  clear s0 σ
  rintro kk σ wk ⟨i, hkk, hi, s0, s3, s12, s13, s14, hg⟩ RK KK HRK hKK
  have HKK := Lib.hid hkk
  have HG := Lib.hid hg
  have HGW := Lib.hid (grown_none_trans HGA.out hg)
  have hcell := HROW.out wk hg
  generalize w7.heap.size = B at *
  clear hkk hg
  by_cases h5 : i < 5
  · obtain ⟨f, hf1, hf2⟩ := five_fmt32 i h5
    have c0 := hcell.cell i
    rw [hf1] at c0
    have HF2 := Lib.hid hf2
    have f1 : (i : Int) < 5 := by omega
    have hw : IntKind.i64.wrap ((i : Int) + 1) = (i : Int) + 1 := wrapIn _ (by omega) (by omega)
    clear hcell hf1 hf2
    ((repeat (go_wp2_with fail; first | (refine cdY ?_ ?_; focus (simp [ov, *]; done)) | (refine cdN ?_ ?_; focus (simp [ov, *]; done)))); go_wp2_with fail)
    refine (HF.out f HF2.out T _ (HE.out.grown HGW.out (by simp))).mono ?_
    rintro e w8 ⟨rfl, hg8⟩
    have HG8 := Lib.hid (grown_none_trans HG.out hg8)
    clear hg8 c0
    ((repeat (go_wp2_with fail; first | (refine cdY ?_ ?_; focus (simp [ov, *]; done)) | (refine cdN ?_ ?_; focus (simp [ov, *]; done)))); go_wp2_with fail)
    refine (HFM.out f HF2.out _).mono ?_
    rintro e w9 ⟨rfl, hg9⟩
    have HG9 := Lib.hid (grown_none_trans HG8.out hg9)
    clear hg9
    ((repeat (go_wp2_with fail; first | (refine cdY ?_ ?_; focus (simp [ov, *]; done)) | (refine cdN ?_ ?_; focus (simp [ov, *]; done)))); go_wp2_with fail)
    exact gotk HRK (5 - (i + 1)) (by have := HKK.out; omega) ⟨i + 1, rfl, by omega, by simp [ov, *], by simp [ov, *], by simp [ov, *], by simp [ov, *], by simp [over_cons, over_nil, *], HG9.out⟩
  · have e5 : i = 5 := by omega
    subst e5
    clear hcell
    ((repeat (go_wp2_with fail; first | (refine cdY ?_ ?_; focus (simp [ov, *]; done)) | (refine cdN ?_ ?_; focus (simp [ov, *]; done)))); go_wp2_with fail)
    exact ret_F (.bool true) rfl (by decide) (by simp [ov, *]) ⟨rfl, HGW.out⟩
end Go.Proofs.YticlnihjhcepkaaDoor
