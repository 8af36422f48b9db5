/-
  Walk: AppendComplex at 64.
-/
import Derived.Test.YticlnihjhcepkaaGreatDoorCAc
namespace Go.Proofs.YticlnihjhcepkaaGreatDoor
open Go.RowKit
set_option linter.unusedSimpArgs false
set_option linter.unusedVariables false

set_option maxRecDepth 100000 in
set_option maxHeartbeats 4000000 in
theorem appendComplex64_any (T re im : Nat) (dst : Value) (prec f : Int) (xs R I : List UInt8) (w : World) (he : Env T w) (hown : OwnB T w dst xs) (hx : xs.length ≤ 1000)
    (hR : ∀ (d : Value) (ys : List UInt8) (W : World), Env T W → OwnB T W d ys → ys.length ≤ 140737488900000 → Calls Tryz.prog 107 #[d, .float .f64 re, .int .u8 f, .int .i64 prec, .int .i64 32] W fun r w' => ∃ v', r = .returned v' ∧ OwnB T w' v' (ys ++ R) ∧ Stp W d w' v')
    (hI : ∀ (d : Value) (ys : List UInt8) (W : World), Env T W → OwnB T W d ys → ys.length ≤ 140737488900000 → Calls Tryz.prog 107 #[d, .float .f64 im, .int .u8 f, .int .i64 prec, .int .i64 32] W fun r w' => ∃ v', r = .returned v' ∧ OwnB T w' v' (ys ++ I) ∧ Stp W d w' v')
    (hRl : R.length ≤ 4000000) (hIl : I.length ≤ 4000000) (hIn : I ≠ []) :
    Calls Tryz.prog 89 #[dst, .complex .f64 re im, .int .u8 f, .int .i64 prec, .int .i64 64] w fun r w' =>
      ∃ v', r = .returned v' ∧ OwnB T w' v' (xs ++ cplxL R I) ∧ Stp w dst w' v' := by
  have hap := Ap.start hown he (Or.inl rfl : Dig w dst dst [])
  have HR := Lib.hid hR
  have HI := Lib.hid hI
  clear hR hI he hown
  refine calls_F Tryz.func89 rfl (by rw [Tryz.ntmps89]; simp) ?_
  intro σ hσ
  rw [Tryz.ntmps89]
  have s0 : σ 0 = dst := hσ 0 (by simp)
  have s1 : σ 1 = .complex .f64 re im := hσ 1 (by simp)
  have s2 : σ 2 = .int .u8 f := hσ 2 (by simp)
  have s3 : σ 3 = .int .i64 prec := hσ 3 (by simp)
  have s4 : σ 4 = .int .i64 64 := hσ 4 (by simp)
  clear hσ
  ((repeat (go_wp2_with (first | (at_builtin; refine wpList_appF rfl _ _ _ _ rfl (by decide) (by decide) byteTy (hap.own.alloc _) (by simp [ov, *]) _ (by simp [ov, *]) [40] (src_new Tryz.underlying51 [40] _) (by simp only [List.length_append, List.length_cons, List.length_nil, List.length_replicate] at *; omega) ?_; intro v w' ho1 hs1; replace hap := hap.step ho1 hs1; clear ho1 hs1)); first | (refine cdY ?_ ?_; focus (simp [ov, *]; done)) | (refine cdN ?_ ?_; focus (simp [ov, *]; done)))); go_wp2_with (first | (at_builtin; refine wpList_appF rfl _ _ _ _ rfl (by decide) (by decide) byteTy (hap.own.alloc _) (by simp [ov, *]) _ (by simp [ov, *]) [40] (src_new Tryz.underlying51 [40] _) (by simp only [List.length_append, List.length_cons, List.length_nil, List.length_replicate] at *; omega) ?_; intro v w' ho1 hs1; replace hap := hap.step ho1 hs1; clear ho1 hs1)))
  refine (HR.out _ _ _ hap.env hap.own (by simp; omega)).mono ?_
  rintro e w2 ⟨v2, rfl, ho2, hs2⟩
  replace hap := hap.step0 ho2 hs2
  clear ho2 hs2
  obtain ⟨A, hA⟩ : ∃ A, xs ++ [40] ++ R = A := ⟨_, rfl⟩
  rw [hA] at hap
  have hAl : A.length ≤ 5000000 := by rw [← hA]; simp; omega
  obtain ⟨g2, c2, rfl, hg2, _, hc2, hc2'⟩ := hap.own.block
  have HA := Lib.hid hA
  clear hA
  ((repeat (go_wp2_with fail; first | (refine cdY ?_ ?_; focus (simp [ov, *]; done)) | (refine cdN ?_ ?_; focus (simp [ov, *]; done)))); go_wp2_with fail)
  refine (HI.out _ _ _ hap.env hap.own (by omega)).mono ?_
  rintro e w3 ⟨v3, rfl, ho3, hs3⟩
  replace hap := hap.step0 ho3 hs3
  clear ho3 hs3
  obtain ⟨i0, It, rfl⟩ : ∃ u us, I = u :: us := by
    cases I with
    | nil => exact absurd rfl hIn
    | cons u us => exact ⟨u, us, rfl⟩
  obtain ⟨g3, c3, rfl, hg3, _, hc3, hc3'⟩ := hap.own.block
  obtain ⟨N, hN⟩ : ∃ N, A.length = N := ⟨_, rfl⟩
  obtain ⟨L, hL⟩ : ∃ L, (A ++ i0 :: It).length = L := ⟨_, rfl⟩
  have hNL : N + (It.length + 1) = L := by rw [← hN, ← hL]; simp
  have hcell := hap.own.cell A.length i0 (by simp)
  have hAl2 := hAl
  rw [hN] at hcell hAl
  rw [hL] at hap hc3
  simp only [hN, hL]
  have hi0 : (N : Int) < (L : Int) := by omega
  have hi0' : N < L := by omega
  have hge : (0 : Int) ≤ (N : Int) := by omega
  unfold encB at hcell
  have HNL := Lib.hid hNL
  have HN := Lib.hid hN
  have HL := Lib.hid hL
  clear hNL hN hL hIn
  by_cases h43 : i0 = 43
  · subst h43
    ((repeat (go_wp2_with (first | (at_builtin; refine wpList_appB rfl (.tmp 66) (.const (.string ⟨#[105, 41]⟩)) _ _ rfl byteTy hap.own ((Fr_eval _ _ _ 66 (by decide)).trans (by simp [ov, *])) _ rfl [105, 41] (src_str Tryz.underlying9 _ [105, 41] rfl) (by simp only [List.length_append, List.length_cons, List.length_nil, List.length_replicate] at *; omega) ?_; intro v5 w5 ho5 hs5; replace hap := hap.step0 ho5 hs5; clear ho5 hs5)); first | (refine cdY ?_ ?_; focus (simp [ov, *]; done)) | (refine cdN ?_ ?_; focus (simp [ov, *]; done)))); go_wp2_with (first | (at_builtin; refine wpList_appB rfl (.tmp 66) (.const (.string ⟨#[105, 41]⟩)) _ _ rfl byteTy hap.own ((Fr_eval _ _ _ 66 (by decide)).trans (by simp [ov, *])) _ rfl [105, 41] (src_str Tryz.underlying9 _ [105, 41] rfl) (by simp only [List.length_append, List.length_cons, List.length_nil, List.length_replicate] at *; omega) ?_; intro v5 w5 ho5 hs5; replace hap := hap.step0 ho5 hs5; clear ho5 hs5)))
    refine ret_F v5 rfl (by decide) (by simp [ov, *]) ⟨v5, rfl, ?_, hap.stp⟩
    have e : xs ++ cplxL R (43 :: It) = A ++ 43 :: It ++ [105, 41] := by rw [← HA.out]; simp [cplxL, sgnL]
    rw [e]
    exact hap.own
  by_cases h45 : i0 = 45
  · subst h45
    ((repeat (go_wp2_with (first | (at_builtin; refine wpList_appB rfl (.tmp 66) (.const (.string ⟨#[105, 41]⟩)) _ _ rfl byteTy hap.own ((Fr_eval _ _ _ 66 (by decide)).trans (by simp [ov, *])) _ rfl [105, 41] (src_str Tryz.underlying9 _ [105, 41] rfl) (by simp only [List.length_append, List.length_cons, List.length_nil, List.length_replicate] at *; omega) ?_; intro v5 w5 ho5 hs5; replace hap := hap.step0 ho5 hs5; clear ho5 hs5)); first | (refine cdY ?_ ?_; focus (simp [ov, *]; done)) | (refine cdN ?_ ?_; focus (simp [ov, *]; done)))); go_wp2_with (first | (at_builtin; refine wpList_appB rfl (.tmp 66) (.const (.string ⟨#[105, 41]⟩)) _ _ rfl byteTy hap.own ((Fr_eval _ _ _ 66 (by decide)).trans (by simp [ov, *])) _ rfl [105, 41] (src_str Tryz.underlying9 _ [105, 41] rfl) (by simp only [List.length_append, List.length_cons, List.length_nil, List.length_replicate] at *; omega) ?_; intro v5 w5 ho5 hs5; replace hap := hap.step0 ho5 hs5; clear ho5 hs5)))
    refine ret_F v5 rfl (by decide) (by simp [ov, *]) ⟨v5, rfl, ?_, hap.stp⟩
    have e : xs ++ cplxL R (45 :: It) = A ++ 45 :: It ++ [105, 41] := by rw [← HA.out]; simp [cplxL, sgnL]
    rw [e]
    exact hap.own
  have h43' : ((i0.toNat : Int) != 43) = true := by
    rw [bne_iff_ne]
    intro h
    apply h43
    apply UInt8.toNat_inj.1
    exact Int.ofNat_inj.1 h
  have h45' : ((i0.toNat : Int) != 45) = true := by
    rw [bne_iff_ne]
    intro h
    apply h45
    apply UInt8.toNat_inj.1
    exact Int.ofNat_inj.1 h
  ((repeat (go_wp2_with (first | (at_builtin; refine wpList_appF rfl _ _ _ _ rfl (by decide) (by decide) byteTy (hap.own.alloc _) (by simp [ov, *]) _ (by simp [ov, *]) [0] (src_new Tryz.underlying51 [0] _) (by simp only [List.length_append, List.length_cons, List.length_nil, List.length_replicate] at *; omega) ?_; intro v w' ho1 hs1; replace hap := hap.step ho1 hs1; clear ho1 hs1)); first | (refine cdY ?_ ?_; focus (simp [ov, *]; done)) | (refine cdN ?_ ?_; focus (simp [ov, *]; done)))); go_wp2_with (first | (at_builtin; refine wpList_appF rfl _ _ _ _ rfl (by decide) (by decide) byteTy (hap.own.alloc _) (by simp [ov, *]) _ (by simp [ov, *]) [0] (src_new Tryz.underlying51 [0] _) (by simp only [List.length_append, List.length_cons, List.length_nil, List.length_replicate] at *; omega) ?_; intro v w' ho1 hs1; replace hap := hap.step ho1 hs1; clear ho1 hs1)))
  obtain ⟨g4, c4, rfl, hg4, _, hc4, hc4'⟩ := hap.own.block
  obtain ⟨M, hM⟩ : ∃ M, (A ++ i0 :: It ++ [0]).length = M := ⟨_, rfl⟩
  have hML : M = N + (It.length + 2) := by
    have h1 := HNL.out
    have h2 := HL.out
    rw [← hM, List.length_append, h2]
    simp
    omega
  simp only [hM]
  rw [hM] at hc4 hap
  have hm1 : (N : Int) + 1 ≤ (M : Int) := by omega
  have hm2 : (N : Int) ≤ (M : Int) := by omega
  have hm3 : (M : Int) ≤ (c4 : Int) := by omega
  have hm4 : (0 : Int) ≤ (N : Int) + 1 := by omega
  have HML := Lib.hid hML
  have HM := Lib.hid hM
  have hw1 : IntKind.i64.wrap ((N : Int) + 1) = (N : Int) + 1 := IntWalk.i64_in _ (by omega)
  have hw2 : ((N : Int) + 1).toNat = N + 1 := by omega
  have hq1 : ¬ (c4 = N + 1) := by omega
  have hq2 : ¬ (N + 1 = c4) := by omega
  have hq3 : ¬ (c4 = N) := by omega
  have hq4 : ¬ (N = c4) := by omega
  have hq5 : N + 1 < c4 := by omega
  have hq6 : N < c4 := by omega
  have hown4 : OwnB T w'.drew (.slice (some ⟨g4, 0, none⟩) M c4) (A ++ i0 :: It ++ [0]) := hap.own.drewN 1
  have hcp := copy_moved hown4 3 (c4 - (N + 1)) (c4 - N) (M - (N + 1)) (M - N) (by simp; omega) (by simp; omega)
  have hmv := OwnB.moved hown4
  rw [HN.out] at hcp hmv
  obtain ⟨W5, hW5⟩ : ∃ W, w'.drew.setCells g4 (N + 1) ((i0 :: It).map encB) = W := ⟨_, rfl⟩
  rw [hW5] at hcp hmv
  have hgd : (A ++ i0 :: It ++ [0]).getD N 0 = i0 := by
    rw [← HN.out, List.append_assoc]
    simp [List.getD]
  rw [hgd] at hmv
  have hc5 := OwnB.cell hmv.1 A.length i0 (by simp)
  have hf5 := OwnB.frozen hmv.1 A.length
  have hld := OwnB.laid 43 hmv.1
  rw [HN.out] at hc5 hf5 hld
  have e43 : encB 43 = .int .u8 43 := rfl
  rw [e43] at hld
  have hap5 : Ap T w dst dst [] (W5.setCell ⟨g4, N, none⟩ (.int .u8 43)) (.slice (some ⟨g4, 0, none⟩) M c4) (A ++ 43 :: i0 :: It) :=
    ⟨hld.1, (hap.stp.drewN 1).trans (hmv.2.trans hld.2), OwnB.env hmv.1 hld.2 (OwnB.env hown4 hmv.2 (hap.env.drewN 1)), Or.inl rfl⟩
  have HAP := Lib.hid hap5
  clear hML hM hcell hap hown4 hmv hld hap5 hgd hW5
  go_still_tail 7, (by kernel_rfl)
  ((repeat (go_wp2_with (first | (at_builtin; refine wpList_appB rfl (.tmp 66) (.const (.string ⟨#[105, 41]⟩)) _ _ rfl byteTy HAP.out.own ((Fr_eval _ _ _ 66 (by decide)).trans (by simp [ov, *])) _ rfl [105, 41] (src_str Tryz.underlying9 _ [105, 41] rfl) (by simp only [List.length_append, List.length_cons, List.length_nil, List.length_replicate] at *; omega) ?_; intro v5 w5 ho5 hs5; have hap := HAP.out.step0 ho5 hs5; clear ho5 hs5)); first | (refine cdY ?_ ?_; focus (simp [ov, *]; done)) | (refine cdN ?_ ?_; focus (simp [ov, *]; done)))); go_wp2_with (first | (at_builtin; refine wpList_appB rfl (.tmp 66) (.const (.string ⟨#[105, 41]⟩)) _ _ rfl byteTy HAP.out.own ((Fr_eval _ _ _ 66 (by decide)).trans (by simp [ov, *])) _ rfl [105, 41] (src_str Tryz.underlying9 _ [105, 41] rfl) (by simp only [List.length_append, List.length_cons, List.length_nil, List.length_replicate] at *; omega) ?_; intro v5 w5 ho5 hs5; have hap := HAP.out.step0 ho5 hs5; clear ho5 hs5)))
  refine ret_F v5 rfl (by decide) (by simp [ov, *]) ⟨v5, rfl, ?_, hap.stp⟩
  have e : xs ++ cplxL R (i0 :: It) = A ++ 43 :: i0 :: It ++ [105, 41] := by rw [← HA.out]; simp [cplxL, sgnL, h43, h45]
  rw [e]
  exact hap.own
end Go.Proofs.YticlnihjhcepkaaGreatDoor
