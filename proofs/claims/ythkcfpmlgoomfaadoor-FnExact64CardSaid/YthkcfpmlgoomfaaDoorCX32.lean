/-
  Walk of laws.FnX32.
-/
import Derived.Test.YthkcfpmlgoomfaaDoorCX64
import Derived.Test.YthkcfpmlgoomfaaDoorCLf
import Derived.Test.YthkcfpmlgoomfaaDoorGh
namespace Go.Proofs.YthkcfpmlgoomfaaDoor
open Go.ChangeShapes Go.WideShapes Go.ChangeAt Go.RowKit
set_option linter.unusedSimpArgs false
set_option linter.unusedVariables false

/-- The library's text in the formats x and X. -/
theorem ftoa32L_x (b : Nat) (f prec : Int) (hb : b < 4294967296) (hfin : b % 2147483648 < 2139095040) (hf : f = 120 ∨ f = 88) (hp : -1 ≤ prec) :
    ftoa32L b f prec = eSign (decide (2147483648 ≤ b)) ++ hexadL (f == 88) (m32 b) (e32 b) prec := by
  unfold ftoa32L ftoaL
  rw [if_neg (fin32_E b hfin), if_neg (by rcases hf with h | h <;> omega), if_pos hf, neg32_is b hb]
  have h1 := e32_bd b hfin
  have h2 := m32_lt b
  unfold e32 at h1 ⊢
  unfold m32 at h2 ⊢
  exact xL_hexad _ prec f (flMant 8 23 b) 23 _ hf hp (by omega) h2 (by omega) (by omega)

set_option maxRecDepth 100000 in
set_option maxHeartbeats 4000000 in
theorem x32_any (T n : Nat) (prec : Int) (w : World) (he : Env T w) (hn : n < 4294967296) (hp1 : -9223372036854775808 ≤ prec) (hp2 : prec ≤ 9223372036854775807) :
    Calls Tryd.prog 4 #[.int .u32 (n : Int), .int .i64 prec] w fun e w' => e = .returned (.bool true) ∧ w.grownBy w' none := by
  have HFI := Lib.hid (fun W => finite32_any n W hn)
  have HE := Lib.hid he
  clear he
  refine calls_F Tryd.func4 rfl (by rw [Tryd.ntmps4]; simp) ?_
  intro σ hσ
  rw [Tryd.ntmps4]
  have s0 : σ 0 = .int .u32 (n : Int) := hσ 0 (by simp)
  have s1 : σ 1 = .int .i64 prec := hσ 1 (by simp)
  clear hσ
  by_cases hfin : n % 2147483648 < 2139095040
  case neg =>
    rw [decide_eq_false hfin] at HFI
    ((repeat (go_wp2_with fail; first | (refine cond_yes ?hc (by decide) ?_; (case hc => (simp [over_cons, over_nil, *]; done))) | (refine cond_no ?hc (by decide) ?_; (case hc => (simp [over_cons, over_nil, *]; done))))); go_wp2_with fail)
    refine (HFI.out _).mono ?_
    rintro e w7 ⟨rfl, rfl⟩
    ((repeat (go_wp2_with fail; first | (refine cond_yes ?hc (by decide) ?_; (case hc => (simp [over_cons, over_nil, *]; done))) | (refine cond_no ?hc (by decide) ?_; (case hc => (simp [over_cons, over_nil, *]; done))))); go_wp2_with fail)
    all_goals (try ((repeat (go_wp2_with fail; first | (refine cond_yes ?hc (by decide) ?_; (case hc => (simp [over_cons, over_nil, *]; done))) | (refine cond_no ?hc (by decide) ?_; (case hc => (simp [over_cons, over_nil, *]; done))))); go_wp2_with fail))
    all_goals exact ret_F (.bool true) rfl (by decide) (by simp [over_cons, over_nil, *]) ⟨rfl, grown_refl w none⟩
  rw [decide_eq_true hfin] at HFI
  by_cases hpr : -1 ≤ prec ∧ prec ≤ 5000
  case neg =>
    by_cases hpl : prec < -1
    · ((repeat (go_wp2_with fail; first | (refine cond_yes ?hc (by decide) ?_; (case hc => (simp [over_cons, over_nil, *]; done))) | (refine cond_no ?hc (by decide) ?_; (case hc => (simp [over_cons, over_nil, *]; done))))); go_wp2_with fail)
      refine (HFI.out _).mono ?_
      rintro e w7 ⟨rfl, rfl⟩
      ((repeat (go_wp2_with fail; first | (refine cond_yes ?hc (by decide) ?_; (case hc => (simp [over_cons, over_nil, *]; done))) | (refine cond_no ?hc (by decide) ?_; (case hc => (simp [over_cons, over_nil, *]; done))))); go_wp2_with fail)
      all_goals (try ((repeat (go_wp2_with fail; first | (refine cond_yes ?hc (by decide) ?_; (case hc => (simp [over_cons, over_nil, *]; done))) | (refine cond_no ?hc (by decide) ?_; (case hc => (simp [over_cons, over_nil, *]; done))))); go_wp2_with fail))
      all_goals exact ret_F (.bool true) rfl (by decide) (by simp [over_cons, over_nil, *]) ⟨rfl, grown_refl w none⟩
    · have hpl' : decide (prec < -1) = false := by simpa using hpl
      have hpu : 5000 < prec := by omega
      ((repeat (go_wp2_with fail; first | (refine cond_yes ?hc (by decide) ?_; (case hc => (simp [over_cons, over_nil, *]; done))) | (refine cond_no ?hc (by decide) ?_; (case hc => (simp [over_cons, over_nil, *]; done))))); go_wp2_with fail)
      refine (HFI.out _).mono ?_
      rintro e w7 ⟨rfl, rfl⟩
      ((repeat (go_wp2_with fail; first | (refine cond_yes ?hc (by decide) ?_; (case hc => (simp [over_cons, over_nil, *]; done))) | (refine cond_no ?hc (by decide) ?_; (case hc => (simp [over_cons, over_nil, *]; done))))); go_wp2_with fail)
      all_goals (try ((repeat (go_wp2_with fail; first | (refine cond_yes ?hc (by decide) ?_; (case hc => (simp [over_cons, over_nil, *]; done))) | (refine cond_no ?hc (by decide) ?_; (case hc => (simp [over_cons, over_nil, *]; done))))); go_wp2_with fail))
      all_goals exact ret_F (.bool true) rfl (by decide) (by simp [over_cons, over_nil, *]) ⟨rfl, grown_refl w none⟩
  obtain ⟨hpl, hpu⟩ := hpr
  have hpl' : decide (prec < -1) = false := by simp; omega
  have hpu' : decide (5000 < prec) = false := by simp; omega
  have hm := m32_lt n
  have hee := e32_bd n hfin
  have hm53 : m32 n < 2 ^ 53 := Nat.lt_of_lt_of_le hm (by decide)
  have hk : kindB 2139095040 2147483648 n = 0 := kindB_0 rfl hfin
  have hK := fun W => kind32_any n W hn
  rw [hk] at hK
  have hI := fun W => isNeg32_any n W hn
  have hV := fun W => valueOf32_any n (m32 n) (e32 n) W hn hk (m32_is n) (e32_is n)
  have hP := fun W => parts32_any n W hn
  simp only [m32_is, e32_is] at hP
  have hFX : ∀ (f : Int) (hf : f = 120 ∨ f = 88) W, Calls Tryd.prog 17 #[.int .i64 32, .int .u64 (n : Int), .int .u8 f, .int .i64 prec] W fun e w' => e = .returned (.string ⟨(ftoa32L n f prec).toArray⟩) ∧ W.grownBy w' none := by
    intro f hf W
    rw [ftoa32L_x n f prec hn hfin hf hpl]
    exact formatX_any 32 n (decide (2147483648 ≤ n)) _ _ f prec (hexadL (f == 88) (m32 n) (e32 n) prec) W hf (Nat.le_trans (hexadL_len _ _ _ _ (by omega) hm53 (by omega) (by omega)) (by omega)) hI hK hV
      (fun W => hexadecimal_any 32 n (m32 n) (e32 n) (f == 88) prec W hm53 (by omega) (by omega) hpl (by omega) hP)
  have HX1 := Lib.hid (hFX 120 (Or.inl rfl))
  have HX2 := Lib.hid (hFX 88 (Or.inr rfl))
  obtain ⟨r, hr1, hr2, hr3⟩ := Wd.widen_back n hn hfin
  have HF1 := Lib.hid (fun T W he => Format32_any T n r prec 120 W he hn hr2 hr3 (by omega) (by omega) hp1 (by omega))
  have HF2 := Lib.hid (fun T W he => Format32_any T n r prec 88 W he hn hr2 hr3 (by omega) (by omega) hp1 (by omega))
  clear hr1 hr2 hr3
  generalize ftoa32L n 120 prec = t1 at *
  generalize ftoa32L n 88 prec = t2 at *
  clear hm hee hm53 hk hK hI hV hP hFX
  ((repeat (go_wp2_with fail; first | (refine cond_yes ?hc (by decide) ?_; (case hc => (simp [over_cons, over_nil, *]; done))) | (refine cond_no ?hc (by decide) ?_; (case hc => (simp [over_cons, over_nil, *]; done))))); go_wp2_with fail)
  refine (HFI.out _).mono ?_
  rintro e w7 ⟨rfl, rfl⟩
  ((repeat (go_wp2_with fail; first | (refine cond_yes ?hc (by decide) ?_; (case hc => (simp [over_cons, over_nil, *]; done))) | (refine cond_no ?hc (by decide) ?_; (case hc => (simp [over_cons, over_nil, *]; done))))); go_wp2_with fail)
  refine (HF1.out T _ HE.out).mono ?_
  rintro e w8 ⟨rfl, hg8⟩
  have HG8 := Lib.hid hg8
  clear hg8
  ((repeat (go_wp2_with fail; first | (refine cond_yes ?hc (by decide) ?_; (case hc => (simp [over_cons, over_nil, *]; done))) | (refine cond_no ?hc (by decide) ?_; (case hc => (simp [over_cons, over_nil, *]; done))))); go_wp2_with fail)
  refine (HX1.out _).mono ?_
  rintro e w9 ⟨rfl, hg9⟩
  have HG9 := Lib.hid (grown_none_trans HG8.out hg9)
  clear hg9
  ((repeat (go_wp2_with fail; first | (refine cond_yes ?hc (by decide) ?_; (case hc => (simp [over_cons, over_nil, *]; done))) | (refine cond_no ?hc (by decide) ?_; (case hc => (simp [over_cons, over_nil, *]; done))))); go_wp2_with fail)
  refine (HF2.out T _ (HE.out.grown HG9.out (by simp))).mono ?_
  rintro e w10 ⟨rfl, hg10⟩
  have HG10 := Lib.hid (grown_none_trans HG9.out hg10)
  clear hg10
  ((repeat (go_wp2_with fail; first | (refine cond_yes ?hc (by decide) ?_; (case hc => (simp [over_cons, over_nil, *]; done))) | (refine cond_no ?hc (by decide) ?_; (case hc => (simp [over_cons, over_nil, *]; done))))); go_wp2_with fail)
  refine (HX2.out _).mono ?_
  rintro e w11 ⟨rfl, hg11⟩
  have HG11 := Lib.hid (grown_none_trans HG10.out hg11)
  clear hg11
  ((repeat (go_wp2_with fail; first | (refine cond_yes ?hc (by decide) ?_; (case hc => (simp [over_cons, over_nil, *]; done))) | (refine cond_no ?hc (by decide) ?_; (case hc => (simp [over_cons, over_nil, *]; done))))); go_wp2_with fail)
  refine ret_F (.bool true) rfl (by decide) (by simp [over_cons, over_nil, *]) ⟨rfl, HG11.out⟩
end Go.Proofs.YthkcfpmlgoomfaaDoor
