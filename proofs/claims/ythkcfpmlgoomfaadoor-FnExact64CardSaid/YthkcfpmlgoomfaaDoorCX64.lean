/-
  Walk of laws.FnX64.
-/
import Derived.Test.YthkcfpmlgoomfaaDoorCNf1
import Derived.Test.YthkcfpmlgoomfaaDoorCLf
import Derived.Test.YthkcfpmlgoomfaaDoorGh
namespace Go.Proofs.YthkcfpmlgoomfaaDoor
open Go.ChangeShapes Go.WideShapes Go.ChangeAt Go.RowKit
set_option linter.unusedSimpArgs false
set_option linter.unusedVariables false

theorem hexadL_len (up : Bool) (m : Nat) (e prec : Int) (hp : prec ≤ 6000) (hm : m < 2 ^ 53) (he1 : -2000 ≤ e) (he2 : e ≤ 2000) : (hexadL up m e prec).length ≤ 20000 := by
  have hE : ∀ c, hxE m c ≤ 1 := fun c => by unfold hxE; split <;> omega
  have hpt : ∀ l : List UInt8, (ptL l).length ≤ l.length + 1 := fun l => by unfold ptL; split <;> simp; omega
  have hex : ∀ (lt : UInt8) (x : Int), -9999 ≤ x → x ≤ 9999 → (expT lt x false).length ≤ 100 := fun lt x h1 h2 => by
    rw [expT_xExp lt x h1 h2, List.length_cons]
    unfold xExp
    rw [List.length_cons]
    split
    · simp
    · split <;> simp
  unfold hexadL
  rw [List.length_append]
  by_cases h0 : m = 0
  · rw [if_pos h0, List.length_append]
    have h1 := hpt (48 :: List.replicate prec.toNat 48)
    have h2 := hex (if up then 80 else 112) 0 (by omega) (by omega)
    simp only [List.length_cons, List.length_replicate, List.length_nil] at *
    omega
  · rw [if_neg h0, List.length_append]
    have hl : m.log2 < 53 := (Nat.log2_lt h0).2 hm
    have hc : hxCnt m prec ≤ 6000 := by unfold hxCnt; split <;> omega
    have h1 := hpt (hxT up (hxF m (hxCnt m prec)) (hxCnt m prec + 1))
    rw [hxT_len] at h1
    have h3 := hE (hxCnt m prec)
    have h2 := hex (if up then 80 else 112) (e + m.log2 + hxE m (hxCnt m prec)) (by omega) (by omega)
    simp only [List.length_cons, List.length_nil] at *
    omega

/-- The library's text in the formats x and X. -/
theorem ftoa64L_x (b : Nat) (f prec : Int) (hb : b < 18446744073709551616) (hfin : b % 9223372036854775808 < 9218868437227405312) (hf : f = 120 ∨ f = 88) (hp : -1 ≤ prec) :
    ftoa64L b f prec = eSign (decide (9223372036854775808 ≤ b)) ++ hexadL (f == 88) (m64 b) (e64 b) prec := by
  unfold ftoa64L ftoaL
  rw [if_neg (fin64_E b hfin), if_neg (by rcases hf with h | h <;> omega), if_pos hf, neg64_is b hb]
  have h1 := e64_bd b hfin
  have h2 := m64_lt b
  unfold e64 at h1 ⊢
  unfold m64 at h2 ⊢
  exact xL_hexad _ prec f (flMant 11 52 b) 52 _ hf hp (by omega) h2 (by omega) (by omega)

set_option maxRecDepth 100000 in
set_option maxHeartbeats 4000000 in
theorem x64_any (T n : Nat) (prec : Int) (w : World) (he : Env T w) (hn : n < 18446744073709551616) (hp1 : -9223372036854775808 ≤ prec) (hp2 : prec ≤ 9223372036854775807) :
    Calls Tryd.prog 3 #[.int .u64 (n : Int), .int .i64 prec] w fun e w' => e = .returned (.bool true) ∧ w.grownBy w' none := by
  have HFI := Lib.hid (fun W => finite64_any n W hn)
  have HE := Lib.hid he
  clear he
  refine calls_F Tryd.func3 rfl (by rw [Tryd.ntmps3]; simp) ?_
  intro σ hσ
  rw [Tryd.ntmps3]
  have s0 : σ 0 = .int .u64 (n : Int) := hσ 0 (by simp)
  have s1 : σ 1 = .int .i64 prec := hσ 1 (by simp)
  clear hσ
  by_cases hfin : n % 9223372036854775808 < 9218868437227405312
  case neg =>
    rw [decide_eq_false hfin] at HFI
    ((repeat (go_wp2_with fail; first | (refine cond_yes ?hc (by decide) ?_; (case hc => (simp [over_cons, over_nil, *]; done))) | (refine cond_no ?hc (by decide) ?_; (case hc => (simp [over_cons, over_nil, *]; done))))); go_wp2_with fail)
    refine (HFI.out _).mono ?_
    rintro e w7 ⟨rfl, rfl⟩
    ((repeat (go_wp2_with fail; first | (refine cond_yes ?hc (by decide) ?_; (case hc => (simp [over_cons, over_nil, *]; done))) | (refine cond_no ?hc (by decide) ?_; (case hc => (simp [over_cons, over_nil, *]; done))))); go_wp2_with fail)
    all_goals (try ((repeat (go_wp2_with fail; first | (refine cond_yes ?hc (by decide) ?_; (case hc => (simp [over_cons, over_nil, *]; done))) | (refine cond_no ?hc (by decide) ?_; (case hc => (simp [over_cons, over_nil, *]; done))))); go_wp2_with fail))
    all_goals exact ret_F (.bool true) rfl (by decide) (by simp [over_cons, over_nil, *]) ⟨rfl, grown_refl w none⟩
  rw [decide_eq_true hfin] at HFI
  by_cases hpr : -1 ≤ prec ∧ prec ≤ 5000
  case neg =>
    by_cases hpl : prec < -1
    · ((repeat (go_wp2_with fail; first | (refine cond_yes ?hc (by decide) ?_; (case hc => (simp [over_cons, over_nil, *]; done))) | (refine cond_no ?hc (by decide) ?_; (case hc => (simp [over_cons, over_nil, *]; done))))); go_wp2_with fail)
      refine (HFI.out _).mono ?_
      rintro e w7 ⟨rfl, rfl⟩
      ((repeat (go_wp2_with fail; first | (refine cond_yes ?hc (by decide) ?_; (case hc => (simp [over_cons, over_nil, *]; done))) | (refine cond_no ?hc (by decide) ?_; (case hc => (simp [over_cons, over_nil, *]; done))))); go_wp2_with fail)
      all_goals (try ((repeat (go_wp2_with fail; first | (refine cond_yes ?hc (by decide) ?_; (case hc => (simp [over_cons, over_nil, *]; done))) | (refine cond_no ?hc (by decide) ?_; (case hc => (simp [over_cons, over_nil, *]; done))))); go_wp2_with fail))
      all_goals exact ret_F (.bool true) rfl (by decide) (by simp [over_cons, over_nil, *]) ⟨rfl, grown_refl w none⟩
    · have hpl' : decide (prec < -1) = false := by simpa using hpl
      have hpu : 5000 < prec := by omega
      ((repeat (go_wp2_with fail; first | (refine cond_yes ?hc (by decide) ?_; (case hc => (simp [over_cons, over_nil, *]; done))) | (refine cond_no ?hc (by decide) ?_; (case hc => (simp [over_cons, over_nil, *]; done))))); go_wp2_with fail)
      refine (HFI.out _).mono ?_
      rintro e w7 ⟨rfl, rfl⟩
      ((repeat (go_wp2_with fail; first | (refine cond_yes ?hc (by decide) ?_; (case hc => (simp [over_cons, over_nil, *]; done))) | (refine cond_no ?hc (by decide) ?_; (case hc => (simp [over_cons, over_nil, *]; done))))); go_wp2_with fail)
      all_goals (try ((repeat (go_wp2_with fail; first | (refine cond_yes ?hc (by decide) ?_; (case hc => (simp [over_cons, over_nil, *]; done))) | (refine cond_no ?hc (by decide) ?_; (case hc => (simp [over_cons, over_nil, *]; done))))); go_wp2_with fail))
      all_goals exact ret_F (.bool true) rfl (by decide) (by simp [over_cons, over_nil, *]) ⟨rfl, grown_refl w none⟩
  obtain ⟨hpl, hpu⟩ := hpr
  have hpl' : decide (prec < -1) = false := by simp; omega
  have hpu' : decide (5000 < prec) = false := by simp; omega
  have hm := m64_lt n
  have hee := e64_bd n hfin
  have hm53 : m64 n < 2 ^ 53 := Nat.lt_of_lt_of_le hm (by decide)
  have hk : kindB 9218868437227405312 9223372036854775808 n = 0 := kindB_0 rfl hfin
  have hK := fun W => kind64_any n W hn
  rw [hk] at hK
  have hI := fun W => isNeg64_any n W hn
  have hV := fun W => valueOf64_any n (m64 n) (e64 n) W hn hk (m64_is n) (e64_is n)
  have hP := fun W => parts64_any n W hn
  simp only [m64_is, e64_is] at hP
  have hFX : ∀ (f : Int) (hf : f = 120 ∨ f = 88) W, Calls Tryd.prog 17 #[.int .i64 64, .int .u64 (n : Int), .int .u8 f, .int .i64 prec] W fun e w' => e = .returned (.string ⟨(ftoa64L n f prec).toArray⟩) ∧ W.grownBy w' none := by
    intro f hf W
    rw [ftoa64L_x n f prec hn hfin hf hpl]
    exact formatX_any 64 n (decide (9223372036854775808 ≤ n)) _ _ f prec (hexadL (f == 88) (m64 n) (e64 n) prec) W hf (Nat.le_trans (hexadL_len _ _ _ _ (by omega) hm53 (by omega) (by omega)) (by omega)) hI hK hV
      (fun W => hexadecimal_any 64 n (m64 n) (e64 n) (f == 88) prec W hm53 (by omega) (by omega) hpl (by omega) hP)
  have HX1 := Lib.hid (hFX 120 (Or.inl rfl))
  have HX2 := Lib.hid (hFX 88 (Or.inr rfl))
  have HF1 := Lib.hid (fun T W he => Format64_any T n prec 120 W he hn (by omega) (by omega) hp1 (by omega))
  have HF2 := Lib.hid (fun T W he => Format64_any T n prec 88 W he hn (by omega) (by omega) hp1 (by omega))
  generalize ftoa64L n 120 prec = t1 at *
  generalize ftoa64L n 88 prec = t2 at *
  clear hm hee hm53 hk hK hI hV hP hFX
  ((repeat (go_wp2_with fail; first | (refine cond_yes ?hc (by decide) ?_; (case hc => (simp [over_cons, over_nil, *]; done))) | (refine cond_no ?hc (by decide) ?_; (case hc => (simp [over_cons, over_nil, *]; done))))); go_wp2_with fail)
  refine (HFI.out _).mono ?_
  rintro e w7 ⟨rfl, rfl⟩
  ((repeat (go_wp2_with fail; first | (refine cond_yes ?hc (by decide) ?_; (case hc => (simp [over_cons, over_nil, *]; done))) | (refine cond_no ?hc (by decide) ?_; (case hc => (simp [over_cons, over_nil, *]; done))))); go_wp2_with fail)
  refine (HF1.out T _ HE.out).mono ?_
  rintro e w8 ⟨rfl, hg8⟩
  have HG8 := Lib.hid hg8
  clear hg8
  ((repeat (go_wp2_with fail; first | (refine cond_yes ?hc (by decide) ?_; (case hc => (simp [over_cons, over_nil, *]; done))) | (refine cond_no ?hc (by decide) ?_; (case hc => (simp [over_cons, over_nil, *]; done))))); go_wp2_with fail)
  refine (HX1.out _).mono ?_
  rintro e w9 ⟨rfl, hg9⟩
  have HG9 := Lib.hid (grown_none_trans HG8.out hg9)
  clear hg9
  ((repeat (go_wp2_with fail; first | (refine cond_yes ?hc (by decide) ?_; (case hc => (simp [over_cons, over_nil, *]; done))) | (refine cond_no ?hc (by decide) ?_; (case hc => (simp [over_cons, over_nil, *]; done))))); go_wp2_with fail)
  refine (HF2.out T _ (HE.out.grown HG9.out (by simp))).mono ?_
  rintro e w10 ⟨rfl, hg10⟩
  have HG10 := Lib.hid (grown_none_trans HG9.out hg10)
  clear hg10
  ((repeat (go_wp2_with fail; first | (refine cond_yes ?hc (by decide) ?_; (case hc => (simp [over_cons, over_nil, *]; done))) | (refine cond_no ?hc (by decide) ?_; (case hc => (simp [over_cons, over_nil, *]; done))))); go_wp2_with fail)
  refine (HX2.out _).mono ?_
  rintro e w11 ⟨rfl, hg11⟩
  have HG11 := Lib.hid (grown_none_trans HG10.out hg11)
  clear hg11
  ((repeat (go_wp2_with fail; first | (refine cond_yes ?hc (by decide) ?_; (case hc => (simp [over_cons, over_nil, *]; done))) | (refine cond_no ?hc (by decide) ?_; (case hc => (simp [over_cons, over_nil, *]; done))))); go_wp2_with fail)
  refine ret_F (.bool true) rfl (by decide) (by simp [over_cons, over_nil, *]) ⟨rfl, HG11.out⟩
end Go.Proofs.YthkcfpmlgoomfaaDoor
