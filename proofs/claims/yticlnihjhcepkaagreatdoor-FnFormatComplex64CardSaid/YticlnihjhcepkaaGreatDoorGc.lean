/-
  Lemmas and walks of functions, several texts in one.
-/
import Derived.Test.YticlnihjhcepkaaGreatDoorGb
import Derived.Laws.Rows
import Derived.Laws.ResultCell
/-
  Walk of spec/nat.go: SubNat.
-/
namespace Go.Proofs.YticlnihjhcepkaaGreatDoor
open Go.RowKit
set_option linter.unusedSimpArgs false
set_option linter.unusedVariables false

set_option maxRecDepth 10000 in
set_option maxHeartbeats 4000000 in
theorem subNat_any (v1 v2 : Value) (a b : Nat) (w : World) (hr1 : NatV w v1 a) (hr2 : NatV w v2 b) (hx1 : (natL a).length ≤ 100000) (hab : b ≤ a) :
    Calls Tryz.prog 87 #[v1, v2] w fun e w' => ∃ v', e = .returned v' ∧ NatV w' v' (a - b) ∧ w.grownBy w' none ∧ ∀ k, v'.ownBlock = some k → w.heap.size ≤ k := by
  obtain ⟨a1, c1, rfl⟩ := hr1.len
  obtain ⟨a2, c2, rfl⟩ := hr2.len
  have hx2 := Nat.le_trans (natL_mono hab) hx1
  have hN12 := natL_mono hab
  obtain ⟨N1, hN1⟩ : ∃ N, (natL a).length = N := ⟨_, rfl⟩
  obtain ⟨N2, hN2⟩ : ∃ N, (natL b).length = N := ⟨_, rfl⟩
  unfold NatV at hr1 hr2
  simp only [hN1, hN2] at hr1 hr2 ⊢
  rw [hN1] at hx1 hN12
  rw [hN2] at hx2 hN12
  have HN1 := Lib.hid hN1
  have HN2 := Lib.hid hN2
  have HR1 := Lib.hid hr1
  have HR2 := Lib.hid hr2
  have HO0 := Lib.hid (OwnI.fresh0 (T := w.heap.size) (w := w) (Nat.le_refl _) 3)
  have HG0 := Lib.hid (World.grownBy_alloc w (.cells #[] 3) none)
  clear hr1 hr2 hN1 hN2
  refine calls_F Tryz.func87 rfl (by rw [Tryz.ntmps87]; simp) ?_
  intro σ hσ
  rw [Tryz.ntmps87]
  have s0 : σ 0 = .slice a1 N1 c1 := hσ 0 (by simp)
  have s1 : σ 1 = .slice a2 N2 c2 := hσ 1 (by simp)
  clear hσ
  ((repeat (go_wp2_with fail; first | (refine cdY ?_ ?_; focus (simp [ov, *]; done)) | (refine cdN ?_ ?_; focus (simp [ov, *]; done)))); go_wp2_with fail)
  refine loop_F (fun kk s' w' => ∃ (i br : Nat) (l : List Nat) (v : Value), i ≤ N1 ∧ kk = N1 - i ∧ br ≤ 1 ∧ l.length = i ∧ Limbs l ∧ lval l + lval ((natL b).take i) = lval ((natL a).take i) + 1073741824 ^ i * br ∧ s' 0 = .slice a1 N1 c1 ∧ s' 1 = .slice a2 N2 c2 ∧ s' 5 = v ∧ s' 6 = .int .i64 (br : Int) ∧ s' 11 = .int .i64 (N1 : Int) ∧ s' 12 = .int .i64 (i : Int) ∧ OwnI w.heap.size w' v l ∧ w.grownBy w' none) N1
    ⟨0, 0, [], _, by omega, rfl, by omega, rfl, Limbs.nil, by simp [lval], by simp [ov, *], by simp [ov, *], by simp [ov, *], by simp [ov, *], by simp [ov, *], by simp [ov, *], HO0.out, HG0.out⟩ ?_
  clear s0 s1 σ HO0 HG0
  rintro kk σ wk ⟨i, br, l, v, hi, hkk, hbr, hll, hlm, hval, s0, s1, s5, s6, s11, s12, hown, hg⟩ RK KK HRK hKK
  have HKK := Lib.hid hkk
  have HLM := Lib.hid hlm
  have HV := Lib.hid hval
  have HO := Lib.hid hown
  have HG := Lib.hid hg
  clear hkk hlm hval hown hg
  by_cases hend : i = N1
  · subst hend
    have hT := trimF_any v l wk (RdI.of_own HO.out) (by omega) HLM.out
    have hlv : lval l = a - b := by
      have h1 := HV.out
      rw [lval_take_ge (natL a) _ (by rw [HN1.out]; exact Nat.le_refl _), lval_take_ge (natL b) _ (by rw [HN2.out]; exact hN12), lval_natL, lval_natL] at h1
      refine sub_end (br := br) HLM.out ?_ hab
      rw [hll]
      exact h1
    rw [hlv] at hT
    have HT := Lib.hid hT
    clear hT hlv
    ((repeat (go_wp2_with fail; first | (refine cdY ?_ ?_; focus (simp [ov, *]; done)) | (refine cdN ?_ ?_; focus (simp [ov, *]; done)))); go_wp2_with fail)
    refine HT.out.mono ?_
    rintro e w5 ⟨v5, rfl, hn5, hg5, hf5⟩
    have HF5 := Lib.hid (fun (k : Nat) (hk : v5.ownBlock = some k) => Nat.le_trans HG.out.size (hf5 k hk))
    have HN5 := Lib.hid hn5
    have HG5 := Lib.hid (grown_none_tr HG.out hg5)
    clear hn5 hg5 hf5
    ((repeat (go_wp2_with fail; first | (refine cdY ?_ ?_; focus (simp [ov, *]; done)) | (refine cdN ?_ ?_; focus (simp [ov, *]; done)))); go_wp2_with fail)
    exact ret_F v5 rfl (by decide) (by simp [ov, *]) ⟨v5, rfl, HN5.out, HG5.out, HF5.out⟩
  · have hlt : i < N1 := by omega
    have hlt1 : (i : Int) < (N1 : Int) := by omega
    have hge : (0 : Int) ≤ (i : Int) := by omega
    have hne : natL a ≠ [] := by intro h; have := HN1.out; rw [h] at this; simp at this; omega
    obtain ⟨g1, rfl, hLL1, hcc1, hm1, hcell1⟩ := (HR1.out.grown HG.out).at hne
    obtain ⟨x, hx⟩ : ∃ u, (natL a)[i]? = some u := ⟨(natL a)[i]'(by rw [HN1.out]; omega), List.getElem?_eq_getElem _⟩
    have hc1 := hcell1 i x hx
    unfold encI at hc1
    have hgx : (natL a).getD i 0 = x := by rw [List.getD_eq_getElem?_getD, hx]; rfl
    have hxl : x < 1073741824 := by rw [← hgx]; exact (natL_limbs a).getD i
    have hyl := (natL_limbs b).getD i
    have hA := fun (W : World) (hW : wk.grownBy W none) => at_any (.slice a2 N2 c2) (natL b) i W ((HR2.out.grown HG.out).grown hW) (by omega) (by rw [HN2.out]; omega)
    obtain ⟨y, hy⟩ : ∃ y, (natL b).getD i 0 = y := ⟨_, rfl⟩
    rw [hy] at hA hyl
    have HA := Lib.hid hA
    have HC1 := Lib.hid hc1
    have HGX := Lib.hid hgx
    have HGY := Lib.hid hy
    have hw1 : IntKind.i64.wrap ((x : Int) - (y : Int)) = (x : Int) - (y : Int) := IntWalk.i64_in _ (by omega)
    have hw2 : IntKind.i64.wrap ((x : Int) - (y : Int) - (br : Int)) = (x : Int) - (y : Int) - (br : Int) := IntWalk.i64_in _ (by omega)
    clear hx hgx hy hcell1 hne hLL1 hA hc1
    ((repeat (go_wp2_with fail; first | (refine cdY ?_ ?_; focus (simp [ov, *]; done)) | (refine cdN ?_ ?_; focus (simp [ov, *]; done)))); go_wp2_with fail)
    refine wp_region_noPanic ?_
    refine wp_region_held_drew (S := fun w' => wk.grownBy w' none) (by kernel_rfl) (grown_drewN wk 1 none) (fun hHeld => ?_)
    (refine take_T 0 15 ?_; refine take_T 1 16 ?_; refine take_T 2 17 ?_)
    (refine take_F 3 18 (oi := ?_) (v := ?_) ?_ ?_ (by kernel_rfl) (by kernel_rfl) (by kernel_rfl) (fun _ _ _ _ _ h => h) ?_ (by assumption) ?_ ?_; rotate_left 2; (focus ((simp only [List.getElem?_toArray, List.getElem?_cons_succ, List.getElem?_cons_zero]); rfl)); (focus rfl); (focus (first | rfl | (simp only [Region.wanted, yielded, List.getElem?_toArray, List.getElem?_cons_succ, List.getElem?_cons_zero, Option.bind_some, Option.map_some, Fr_get?, over_cons, over_nil]; rfl) | go_simp)); (focus (intro W hS; have hcw := cellI_grown hS HC1.out; go_simp; try with_reducible rfl)))
    (refine take_T 4 19 ?_; refine take_T 5 20 ?_; refine take_T 8 23 ?_)
    (refine only_F 6 (oi := ?_) ?_ (by kernel_rfl) ?_ ?_; rotate_left 1; (focus ((simp only [List.getElem?_toArray, List.getElem?_cons_succ, List.getElem?_cons_zero]); rfl)); (focus (first | rfl | go_simp)); intro K hK; go_simp; (refine (HA.out _ hHeld).mono ?_; rintro e w9 ⟨rfl, rfl⟩); go_wp2_with fail; replace hHeld := hHeld; refine hK.out _ _ hHeld ?_; clear hK K)
    (refine take_T 7 22 ?_; refine take_T 9 24 ?_; refine take_T 10 8 ?_)
    refine wpAnyH_done (by kernel_rfl) ?_ _
    refine NoPanic.normal ?_
    clear hw1 hw2
    have hod := HO.out.drew
    have hgd := grown_none_tr HG.out (grown_drewN wk 1 none)
    have hgd' : w.grownBy wk.drew none := hgd
    clear hgd hHeld
    generalize wk.drew = wd at *
    have HOD := Lib.hid hod
    have HGD := Lib.hid hgd'
    clear hod hgd'
    by_cases hneg : x < y + br
    · have f1 : (x : Int) - (y : Int) - (br : Int) < 0 := by omega
      obtain ⟨z, hz⟩ : ∃ z : Nat, z + y + br = x + 1073741824 := ⟨x + 1073741824 - y - br, by omega⟩
      ((repeat (go_wp2_with (first | (at_builtin; refine wpList_appI rfl _ _ _ _ rfl (by decide) (by decide) intTy (HOD.out.alloc _) (by simp [ov, *]) _ (by simp [ov, *]) [z] (src_intZ Tryz.underlying43 _ z _ (by omega)) (by simp; omega) ?_; intro v1 w1 ho1 hs1)); first | (refine cdY ?_ ?_; focus (simp [ov, *]; done)) | (refine cdN ?_ ?_; focus (simp [ov, *]; done)))); go_wp2_with (first | (at_builtin; refine wpList_appI rfl _ _ _ _ rfl (by decide) (by decide) intTy (HOD.out.alloc _) (by simp [ov, *]) _ (by simp [ov, *]) [z] (src_intZ Tryz.underlying43 _ z _ (by omega)) (by simp; omega) ?_; intro v1 w1 ho1 hs1)))
      exact gotk HRK (N1 - (i + 1)) (by have := HKK.out; omega) ⟨i + 1, 1, l ++ [z], v1, by omega, rfl, by omega, by simp [hll], HLM.out.append (Limbs.one (by omega)), sub_step hll HV.out (by rw [HGX.out, HGY.out]; omega), by simp [ov, *], by simp [ov, *], by simp [ov, *], by simp [over_cons, over_nil], by simp [ov, *], by simp [over_cons, over_nil], ho1, grown_ownI (Nat.le_refl _) (grown_none_tr HGD.out (World.grownBy_alloc _ _ none)) (HOD.out.alloc _) hs1⟩
    · have f1 : decide ((x : Int) - (y : Int) - (br : Int) < 0) = false := by simp; omega
      obtain ⟨z, hz⟩ : ∃ z : Nat, z + y + br = x := ⟨x - y - br, by omega⟩
      ((repeat (go_wp2_with (first | (at_builtin; refine wpList_appI rfl _ _ _ _ rfl (by decide) (by decide) intTy (HOD.out.alloc _) (by simp [ov, *]) _ (by simp [ov, *]) [z] (src_intZ Tryz.underlying43 _ z _ (by omega)) (by simp; omega) ?_; intro v1 w1 ho1 hs1)); first | (refine cdY ?_ ?_; focus (simp [ov, *]; done)) | (refine cdN ?_ ?_; focus (simp [ov, *]; done)))); go_wp2_with (first | (at_builtin; refine wpList_appI rfl _ _ _ _ rfl (by decide) (by decide) intTy (HOD.out.alloc _) (by simp [ov, *]) _ (by simp [ov, *]) [z] (src_intZ Tryz.underlying43 _ z _ (by omega)) (by simp; omega) ?_; intro v1 w1 ho1 hs1)))
      exact gotk HRK (N1 - (i + 1)) (by have := HKK.out; omega) ⟨i + 1, 0, l ++ [z], v1, by omega, rfl, by omega, by simp [hll], HLM.out.append (Limbs.one (by omega)), sub_step hll HV.out (by rw [HGX.out, HGY.out]; omega), by simp [ov, *], by simp [ov, *], by simp [ov, *], by simp [over_cons, over_nil], by simp [ov, *], by simp [over_cons, over_nil], ho1, grown_ownI (Nat.le_refl _) (grown_none_tr HGD.out (World.grownBy_alloc _ _ none)) (HOD.out.alloc _) hs1⟩
end Go.Proofs.YticlnihjhcepkaaGreatDoor

/-
  Walk of spec/nat.go: ShiftNat.
-/
namespace Go.Proofs.YticlnihjhcepkaaGreatDoor
open Go.RowKit
set_option linter.unusedSimpArgs false
set_option linter.unusedVariables false

theorem wrap64I (x : Nat) (h : x < 9223372036854775808) : wrap64 (x : Int) = (x : Int) := by unfold wrap64; omega

set_option maxRecDepth 10000 in
set_option maxHeartbeats 4000000 in
theorem shiftNat_any (v1 : Value) (a n : Nat) (w : World) (hr1 : NatV w v1 a) (hx1 : (natL a).length ≤ 100000) (hn : n ≤ 3000000) :
    Calls Tryz.prog 60 #[v1, .int .i64 (n : Int)] w fun e w' => ∃ v', e = .returned v' ∧ NatV w' v' (a * 2 ^ n) ∧ w.grownBy w' none := by
  obtain ⟨a1, c1, rfl⟩ := hr1.len
  obtain ⟨N1, hN1⟩ : ∃ N, (natL a).length = N := ⟨_, rfl⟩
  unfold NatV at hr1
  simp only [hN1] at hr1 ⊢
  rw [hN1] at hx1
  have HN1 := Lib.hid hN1
  have HR1 := Lib.hid hr1
  obtain ⟨K, hK⟩ : ∃ K, n / 30 = K := ⟨_, rfl⟩
  obtain ⟨r, hr⟩ : ∃ r, n % 30 = r := ⟨_, rfl⟩
  have hK2 : K ≤ 100000 := by omega
  have hr2 : r < 30 := by omega
  have hpr : 2 ^ r ≤ 536870912 := by
    have := Nat.pow_le_pow_right (n := 2) (by decide) (show r ≤ 29 by omega)
    omega
  have hpr0 : 0 < 2 ^ r := Nat.pow_pos (by decide)
  have hmk := mkInts K (by omega)
  have hmk2 : ∀ w : World, (Instr.makeSlice 43 (.int .i64 ((n : Int) / 30)) (.int .i64 ((n : Int) / 30))).run Tryz.prog w = .ok (.slice (some ⟨w.heap.size, 0, none⟩) K K) (w.alloc (.cells (madeCells #[.int .i64 0] K) 3)) := fun w => by
    have e : (n : Int) / 30 = (K : Int) := by omega
    rw [e]
    exact hmk w
  have HO0 := Lib.hid (OwnI.made (T := w.heap.size) (w := w) (Nat.le_refl _) K (by omega))
  have HG0 := Lib.hid (World.grownBy_alloc w (.cells (madeCells #[.int .i64 0] K) 3) none)
  have HK := Lib.hid hK
  have HRR := Lib.hid hr
  clear hr1 hN1 hmk hK hr
  refine calls_F Tryz.func60 rfl (by rw [Tryz.ntmps60]; simp) ?_
  intro σ hσ
  rw [Tryz.ntmps60]
  have s0 : σ 0 = .slice a1 N1 c1 := hσ 0 (by simp)
  have s1 : σ 1 = .int .i64 (n : Int) := hσ 1 (by simp)
  clear hσ
  ((repeat (go_wp2_with fail; first | (refine cdY ?_ ?_; focus (simp [ov, *]; done)) | (refine cdN ?_ ?_; focus (simp [ov, *]; done)))); go_wp2_with fail)
  clear hmk2
  refine loop_F (fun kk s' w' => ∃ (i c : Nat) (l : List Nat) (v : Value), i ≤ N1 ∧ kk = N1 - i ∧ c < 2 ^ r ∧ l.length = K + i ∧ Limbs l ∧ lval l + 1073741824 ^ (K + i) * c = 1073741824 ^ K * (lval ((natL a).take i) * 2 ^ r) ∧ s' 1 = .int .i64 (n : Int) ∧ s' 5 = v ∧ s' 6 = .int .i64 (c : Int) ∧ s' 13 = .slice a1 N1 c1 ∧ s' 14 = .int .i64 (N1 : Int) ∧ s' 15 = .int .i64 (i : Int) ∧ OwnI w.heap.size w' v l ∧ w.grownBy w' none) N1
    ⟨0, 0, List.replicate K 0, _, by omega, rfl, hpr0, by simp, Limbs.rep _, by rw [lval_rep]; simp [lval], by simp [ov, *], by simp [ov, *], by simp [ov, *], by simp [ov, *], by simp [ov, *], by simp [ov, *], HO0.out, HG0.out⟩ ?_
  clear s0 s1 σ HO0 HG0
  rintro kk σ wk ⟨i, c, l, v, hi, hkk, hcl, hll, hlm, hval, s1, s5, s6, s13, s14, s15, hown, hg⟩ RK KK HRK hKK
  have HKK := Lib.hid hkk
  have HLM := Lib.hid hlm
  have HV := Lib.hid hval
  have HO := Lib.hid hown
  have HG := Lib.hid hg
  have hcl2 : c < 536870912 := by omega
  have HCL := Lib.hid hcl
  clear hkk hlm hval hown hg hcl
  by_cases hend : i = N1
  · subst hend
    have hT := fun (V : Value) (W : World) (h : OwnI w.heap.size W V (l ++ [c])) => trimN_any V (l ++ [c]) W (RdI.of_own h) (by simp; omega) (HLM.out.append (Limbs.one (by omega)))
    have hlv : lval (l ++ [c]) = a * 2 ^ n := by
      rw [lval_append, lval_one, hll, HV.out, lval_take_ge _ _ (by rw [HN1.out]; exact Nat.le_refl _), lval_natL, pow_B, Nat.mul_left_comm, ← Nat.pow_add]
      congr 2
      have := HK.out
      have := HRR.out
      omega
    rw [hlv] at hT
    have HT := Lib.hid hT
    clear hT hlv
    ((repeat (go_wp2_with (first | (at_builtin; refine wpList_appI rfl _ _ _ _ rfl (by decide) (by decide) intTy (HO.out.alloc _) (by simp [ov, *]) _ (by simp [ov, *]) [c] (src_intZ Tryz.underlying43 _ c _ (by omega)) (by simp; omega) ?_; intro v3 w3 ho3 hs3)); first | (refine cdY ?_ ?_; focus (simp [ov, *]; done)) | (refine cdN ?_ ?_; focus (simp [ov, *]; done)))); go_wp2_with (first | (at_builtin; refine wpList_appI rfl _ _ _ _ rfl (by decide) (by decide) intTy (HO.out.alloc _) (by simp [ov, *]) _ (by simp [ov, *]) [c] (src_intZ Tryz.underlying43 _ c _ (by omega)) (by simp; omega) ?_; intro v3 w3 ho3 hs3)))
    have hg3 := grown_ownI (Nat.le_refl _) (grown_none_tr HG.out (World.grownBy_alloc wk _ none)) (HO.out.alloc _) hs3
    refine (HT.out _ _ ho3).mono ?_
    rintro e w5 ⟨v5, rfl, hn5, hg5⟩
    have HN5 := Lib.hid hn5
    have HG5 := Lib.hid (grown_none_tr hg3 hg5)
    clear hn5 hg5 ho3 hs3 hg3
    ((repeat (go_wp2_with fail; first | (refine cdY ?_ ?_; focus (simp [ov, *]; done)) | (refine cdN ?_ ?_; focus (simp [ov, *]; done)))); go_wp2_with fail)
    exact ret_F v5 rfl (by decide) (by simp [ov, *]) ⟨v5, rfl, HN5.out, HG5.out⟩
  · have hlt : i < N1 := by omega
    have hlt1 : (i : Int) < (N1 : Int) := by omega
    have hne : natL a ≠ [] := by intro h; have := HN1.out; rw [h] at this; simp at this; omega
    obtain ⟨g1, rfl, hLL1, hcc1, hm1, hcell1⟩ := (HR1.out.grown HG.out).at hne
    obtain ⟨x, hx⟩ : ∃ u, (natL a)[i]? = some u := ⟨(natL a)[i]'(by rw [HN1.out]; omega), List.getElem?_eq_getElem _⟩
    have hc1 := hcell1 i x hx
    unfold encI at hc1
    have hgx : (natL a).getD i 0 = x := by rw [List.getD_eq_getElem?_getD, hx]; rfl
    have hxl : x < 1073741824 := by rw [← hgx]; exact (natL_limbs a).getD i
    have HGX := Lib.hid hgx
    obtain ⟨p, hp⟩ : ∃ p, x * 2 ^ r = p := ⟨_, rfl⟩
    have hpl : p + 2 ^ r ≤ 1073741824 * 2 ^ r := by
      rw [← hp]
      have := Nat.mul_le_mul_right (2 ^ r) (show x + 1 ≤ 1073741824 by omega)
      rw [Nat.add_mul, Nat.one_mul] at this
      exact this
    have hpl2 : p < 1152921504606846976 := by omega
    have hw : ∀ [Inhabited Nat], wrap64 ((x : Int) * 2 ^ (n % 30)) = (p : Int) := by
      intro _
      have e : (x : Int) * 2 ^ (n % 30) = ((x * 2 ^ (n % 30) : Nat) : Int) := by push_cast; rfl
      rw [e, HRR.out, hp]
      exact wrap64I p (by omega)
    have hcq : (p + c) / 1073741824 < 2 ^ r := by
      rw [Nat.div_lt_iff_lt_mul (by decide)]
      have := HCL.out
      omega
    have HP := Lib.hid hp
    have HCQ := Lib.hid hcq
    clear hx hgx hcell1 hne hLL1 hp hpl hcq
    ((repeat (go_wp2_with (first | (at_builtin; refine wpList_appI rfl _ _ _ _ rfl (by decide) (by decide) intTy (HO.out.alloc _) (by simp [ov, *]) _ (by simp [ov, *]) [(p + c) % 1073741824] (src_intZ Tryz.underlying43 _ ((p + c) % 1073741824) _ (by omega)) (by simp; omega) ?_; intro v1 w1 ho1 hs1)); first | (refine cdY ?_ ?_; focus (simp [ov, *]; done)) | (refine cdN ?_ ?_; focus (simp [ov, *]; done)))); go_wp2_with (first | (at_builtin; refine wpList_appI rfl _ _ _ _ rfl (by decide) (by decide) intTy (HO.out.alloc _) (by simp [ov, *]) _ (by simp [ov, *]) [(p + c) % 1073741824] (src_intZ Tryz.underlying43 _ ((p + c) % 1073741824) _ (by omega)) (by simp; omega) ?_; intro v1 w1 ho1 hs1)))
    clear hw
    exact gotk HRK (N1 - (i + 1)) (by have := HKK.out; omega) ⟨i + 1, (p + c) / 1073741824, l ++ [(p + c) % 1073741824], v1, by omega, rfl, HCQ.out, by simp [hll]; omega, HLM.out.append (Limbs.one (Nat.mod_lt _ (by decide))), shift_step hll HV.out (by rw [HGX.out, HP.out]), by simp [ov, *], by simp [ov, *], by simp [over_cons, over_nil], by simp [ov, *], by simp [ov, *], by simp [over_cons, over_nil], ho1, grown_ownI (Nat.le_refl _) (grown_none_tr HG.out (World.grownBy_alloc wk _ none)) (HO.out.alloc _) hs1⟩
end Go.Proofs.YticlnihjhcepkaaGreatDoor

/-
  Walk of spec/nat.go: highNat.
-/
namespace Go.Proofs.YticlnihjhcepkaaGreatDoor
open Go.RowKit
set_option linter.unusedSimpArgs false
set_option linter.unusedVariables false

/-- append, as one operation of a region. -/
theorem step_appI {P : Program} {o : Oper} {K : Act → World → Prop} {Q : Exit → Act → World → Prop} {w : World} {n : Nat} {env : List (Nat × Value)} {σ : Nat → Value} (ks kx d : Nat) (t tx : TypeId)
    (ho : o.op = .call { callee := .builtin .append, args := #[.tmp ks, .tmp kx], argTypes := #[t, tx] }) (hd : o.dst = some d) (hks : ks < n) (hkx : kx < n) (hty : IntTy P t) {T : Nat} {v : Value} {xs : List Nat} (hown : OwnI T w v xs) (hs : over env σ ks = v)
    (xv : Value) (hx : over env σ kx = xv) (ys : List Nat) (hsrc : Src P 1 tx xv ys.length (ys.map encI) w) (hb : xs.length + ys.length ≤ 10000000)
    (h : ∀ v' w', OwnI T w' v' (xs ++ ys) → Stp w v w' v' → K (Fr n ((d, v') :: env) σ) w') : Oper.wp P o (Fr n env σ) w K Q := by
  obtain ⟨e, i, z, h1, h2, h3, h4, h5, h6⟩ := hty
  have hlt := hown.lt
  obtain ⟨v', w', hrun, hown', hstp⟩ := run_append_Own (P := P) w t tx o.type e i z h1 h2 h3 h4 h5 v (xs.map encI) hown.1 xv ys.length (ys.map encI) hsrc (by rw [h6]; simp only [List.length_map]; omega) (by omega)
  have es := (Fr_eval n env σ ks hks).trans hs
  have ex := (Fr_eval n env σ kx hkx).trans hx
  unfold Oper.wp execOp
  simp only [ho, resolve, invoke, builtin, Sem.run_bind, Sem.run_pure, Result.andThen_ok, List.map_toArray, List.map_cons, List.map_nil, es, ex, hrun]
  show K ((Fr n env σ).put o.dst v') w'
  rw [hd, Fr_put]
  refine h v' w' ⟨by rw [List.map_append]; exact hown', fun k hk => ?_⟩ hstp
  by_cases hkl : k < w.heap.size
  · exact hown.2 k (hstp.2 k hk hkl)
  · omega

theorem lval_of_limbs (l : List Nat) (x : Nat) (hl : Limbs l) (h : ∀ j, j < l.length → l.getD j 0 = x / 1073741824 ^ j % 1073741824) (hx : x < 1073741824 ^ l.length) : lval l = x := by
  induction l generalizing x with
  | nil => simp at hx; simp [lval, hx]
  | cons y r ih =>
    have h0 := h 0 (by simp)
    simp [List.getD] at h0
    have h1 := ih (x / 1073741824) hl.cons.2 (fun j hj => by
      have := h (j + 1) (by simpa using hj)
      rw [List.getD_cons_succ, Nat.pow_succ, Nat.mul_comm, ← Nat.div_div_eq_div_mul] at this
      exact this) (by
      rw [List.length_cons, Nat.pow_succ] at hx
      exact (Nat.div_lt_iff_lt_mul (by decide)).2 hx)
    rw [lval, h1, h0]
    omega

set_option maxRecDepth 10000 in
set_option maxHeartbeats 4000000 in
theorem highNat_any (v1 : Value) (a n : Nat) (w : World) (hr1 : NatV w v1 a) (hx1 : (natL a).length ≤ 100000) (hn : n ≤ 3000000) :
    Calls Tryz.prog 85 #[v1, .int .i64 (n : Int)] w fun e w' => ∃ v', e = .returned v' ∧ NatV w' v' (a / 2 ^ n) ∧ w.grownBy w' none := by
  obtain ⟨a1, c1, rfl⟩ := hr1.len
  obtain ⟨N1, hN1⟩ : ∃ N, (natL a).length = N := ⟨_, rfl⟩
  unfold NatV at hr1
  simp only [hN1] at hr1 ⊢
  rw [hN1] at hx1
  have HN1 := Lib.hid hN1
  have HR1 := Lib.hid hr1
  obtain ⟨q, hq⟩ : ∃ q, n / 30 = q := ⟨_, rfl⟩
  obtain ⟨r, hr⟩ : ∃ r, n % 30 = r := ⟨_, rfl⟩
  have hq2 : q ≤ 100000 := by omega
  have hr2 : r < 30 := by omega
  have hhi : ∀ i, ((natL a).getD (q + i) 0 / 2 ^ r + (natL a).getD (q + i + 1) 0 * 2 ^ (30 - r)) % 1073741824 = a / 2 ^ n / 1073741824 ^ i % 1073741824 := fun i => by
    have := high_limb a n i
    rw [hq, hr] at this
    exact this
  have HHI := Lib.hid hhi
  have HO0 := Lib.hid (OwnI.fresh0 (T := w.heap.size) (w := w) (Nat.le_refl _) 3)
  have HG0 := Lib.hid (World.grownBy_alloc w (.cells #[] 3) none)
  have hq3 : (n : Int) / 30 = (q : Int) := by omega
  have hr3 : (n : Int) % 30 = (r : Int) := by omega
  have hr4 : (n : Int).tmod 30 = (r : Int) := by rw [Int.tmod_eq_emod_of_nonneg (by omega)]; exact hr3
  have hr5 : IntKind.i64.wrap (30 - (r : Int)) = ((30 - r : Nat) : Int) := by
    rw [show (30 : Int) - (r : Int) = ((30 - r : Nat) : Int) by omega]
    exact wrapIS _ (by omega)
  have HQ := Lib.hid hq
  have HR4 := Lib.hid hr4
  have HR5 := Lib.hid hr5
  clear hr1 hN1 hq hr hhi hr3 hr4 hr5
  refine calls_F Tryz.func85 rfl (by rw [Tryz.ntmps85]; simp) ?_
  intro σ hσ
  rw [Tryz.ntmps85]
  have s0 : σ 0 = .slice a1 N1 c1 := hσ 0 (by simp)
  have s1 : σ 1 = .int .i64 (n : Int) := hσ 1 (by simp)
  clear hσ
  ((repeat (go_wp2_with fail; first | (refine cdY ?_ ?_; focus (simp [ov, *]; done)) | (refine cdN ?_ ?_; focus (simp [ov, *]; done)))); go_wp2_with fail)
  refine loop_F (fun kk s' w' => ∃ (k i : Nat) (l : List Nat) (v : Value), k = q + i ∧ kk = N1 - k ∧ (i = 0 ∨ k ≤ N1) ∧ l.length = i ∧ Limbs l ∧ (∀ j, j < i → l.getD j 0 = a / 2 ^ n / 1073741824 ^ j % 1073741824) ∧ s' 0 = .slice a1 N1 c1 ∧ s' 1 = .int .i64 (n : Int) ∧ s' 5 = v ∧ s' 6 = .int .i64 (k : Int) ∧ OwnI w.heap.size w' v l ∧ w.grownBy w' none) (N1 - q)
    ⟨q, 0, [], _, rfl, rfl, Or.inl rfl, rfl, Limbs.nil, fun j hj => by omega, by simp [ov, *], by simp [ov, *], by simp [ov, *], by simp [ov, *], HO0.out, HG0.out⟩ ?_
  clear s0 s1 σ HO0 HG0 hq3
  rintro kk σ wk ⟨k, i, l, v, hki, hkk, hor, hll, hlm, hval, s0, s1, s5, s6, hown, hg⟩ RK KK HRK hKK
  have HKK := Lib.hid hkk
  have HLM := Lib.hid hlm
  have HV := Lib.hid hval
  have HO := Lib.hid hown
  have HG := Lib.hid hg
  have HOR := Lib.hid hor
  have HKI := Lib.hid hki
  have hk5 : k ≤ 200000 := by omega
  have hi5 : i ≤ 200000 := by omega
  clear hkk hlm hval hown hg hor hki
  by_cases hend : k < N1
  case neg =>
    have f1 : decide ((k : Int) < (N1 : Int)) = false := by simp; omega
    have f2 : decide (k < N1) = false := by simp; omega
    have hlv : lval l = a / 2 ^ n := by
      refine lval_of_limbs l _ HLM.out (fun j hj => HV.out j (by omega)) ?_
      rw [hll]
      refine (Nat.div_lt_iff_lt_mul (Nat.pow_pos (by decide))).2 ?_
      have h1 := natL_lt a
      rw [HN1.out] at h1
      refine Nat.lt_of_lt_of_le h1 ?_
      rw [pow_B, pow_B, ← Nat.pow_add]
      refine Nat.pow_le_pow_right (by decide) ?_
      have := HKI.out
      have := HQ.out
      omega
    have hT := trimN_any v l wk (RdI.of_own HO.out) (by have := HOR.out; have := HKI.out; omega) HLM.out
    rw [hlv] at hT
    have HT := Lib.hid hT
    clear hT hlv
    ((repeat (go_wp2_with fail; first | (refine cdY ?_ ?_; focus (simp [ov, *]; done)) | (refine cdN ?_ ?_; focus (simp [ov, *]; done)))); go_wp2_with fail)
    refine HT.out.mono ?_
    rintro e w5 ⟨v5, rfl, hn5, hg5⟩
    have HN5 := Lib.hid hn5
    have HG5 := Lib.hid (grown_none_tr HG.out hg5)
    clear hn5 hg5
    ((repeat (go_wp2_with fail; first | (refine cdY ?_ ?_; focus (simp [ov, *]; done)) | (refine cdN ?_ ?_; focus (simp [ov, *]; done)))); go_wp2_with fail)
    exact ret_F v5 rfl (by decide) (by simp [ov, *]) ⟨v5, rfl, HN5.out, HG5.out⟩
  case pos =>
    have f1 : (k : Int) < (N1 : Int) := by omega
    have hne : natL a ≠ [] := by intro h; have := HN1.out; rw [h] at this; simp at this; omega
    obtain ⟨g1, rfl, hLL1, hcc1, hm1, hcell1⟩ := HR1.out.at hne
    obtain ⟨x, hx⟩ : ∃ u, (natL a)[k]? = some u := ⟨(natL a)[k]'(by rw [HN1.out]; omega), List.getElem?_eq_getElem _⟩
    have hc1 := hcell1 k x hx
    unfold encI at hc1
    have hgx : (natL a).getD k 0 = x := by rw [List.getD_eq_getElem?_getD, hx]; rfl
    have hxl : x < 1073741824 := by rw [← hgx]; exact (natL_limbs a).getD _
    have hyl := (natL_limbs a).getD (k + 1)
    have hA := fun (W : World) (hW : w.grownBy W none) => at_any (.slice (some ⟨g1, 0, none⟩) N1 c1) (natL a) (k + 1) W (HR1.out.grown hW) (by omega) (by rw [HN1.out]; omega)
    have hlimb := HHI.out i
    rw [← HKI.out, hgx] at hlimb
    generalize (natL a).getD (k + 1) 0 = y at hA hyl hlimb
    have HA := Lib.hid hA
    have HC1 := Lib.hid hc1
    have HLB := Lib.hid hlimb
    clear hx hgx hcell1 hne hLL1 hA hc1 hlimb
    ((repeat (go_wp2_with fail; first | (refine cdY ?_ ?_; focus (simp [ov, *]; done)) | (refine cdN ?_ ?_; focus (simp [ov, *]; done)))); go_wp2_with fail)
    refine wp_region_noPanic ?_
    refine wp_region_held_drew (S := fun w' => w.grownBy w' none) (by kernel_rfl) (grown_none_tr HG.out (grown_drewN wk 1 none)) (fun hHeld => ?_)
    have hod := HO.out.drew
    generalize wk.drew = wd at hHeld hod ⊢
    have HOD := Lib.hid hod
    clear hod
    have hw1 : IntKind.i64.wrap ((k : Int) + 1) = ((k + 1 : Nat) : Int) := by
      rw [show (k : Int) + 1 = ((k + 1 : Nat) : Int) by omega]
      exact wrapIS _ (by omega)
    have HW1 := Lib.hid hw1
    clear hw1
    have hp1 : 2 ^ (30 - r) ≤ 1073741824 := by
      have := Nat.pow_le_pow_right (n := 2) (by decide) (show 30 - r ≤ 30 by omega)
      omega
    obtain ⟨p, hp⟩ : ∃ p, y * 2 ^ (30 - r) = p := ⟨_, rfl⟩
    have hpl : p < 1152921504606846976 := by
      rw [← hp]
      have h1 := Nat.mul_le_mul (show y ≤ 1073741823 by omega) hp1
      omega
    have hd1 : x / 2 ^ r ≤ x := Nat.div_le_self _ _
    obtain ⟨u, hu⟩ : ∃ u, x / 2 ^ r = u := ⟨_, rfl⟩
    have HP := Lib.hid hp
    have HU := Lib.hid hu
    have hul : u < 1073741824 := by omega
    have e1 : ((x : Int) / 2 ^ r) = (u : Int) := by rw [← hu]; push_cast; rfl
    have e2 : ((y : Int) * 2 ^ (30 - r)) = (p : Int) := by rw [← hp]; push_cast; rfl
    have hwp : IntKind.i64.wrap (p : Int) = (p : Int) := wrapIS p (by omega)
    have hws : IntKind.i64.wrap ((u : Int) + (p : Int)) = ((u + p : Nat) : Int) := by
      rw [show (u : Int) + (p : Int) = ((u + p : Nat) : Int) by omega]
      exact wrapIS _ (by omega)
    have htm : ((u + p : Nat) : Int).tmod 1073741824 = (((u + p) % 1073741824 : Nat) : Int) := by rw [Int.tmod_eq_emod_of_nonneg (by omega)]; omega
    have E1 := Lib.hid e1
    have E2 := Lib.hid e2
    have HWP := Lib.hid hwp
    have HWS := Lib.hid hws
    have HTM := Lib.hid htm
    clear hp hu hd1 hp1 e1 e2 hwp hws htm
    (refine take_T 0 16 ?_; refine take_T 1 17 ?_; refine take_T 2 18 ?_; refine take_T 3 19 ?_)
    (refine take_F 4 20 (oi := ?_) (v := ?_) ?_ ?_ (by kernel_rfl) (by kernel_rfl) (by kernel_rfl) (fun _ _ _ _ _ h => h) ?_ (by assumption) ?_ ?_; rotate_left 2; (focus ((simp only [List.getElem?_toArray, List.getElem?_cons_succ, List.getElem?_cons_zero]); rfl)); (focus rfl); (focus (first | rfl | (simp only [Region.wanted, yielded, List.getElem?_toArray, List.getElem?_cons_succ, List.getElem?_cons_zero, Option.bind_some, Option.map_some, Fr_get?, over_cons, over_nil]; rfl) | go_simp)); (focus (intro W hS; have hcw := cellI_grown hS HC1.out; go_simp; try with_reducible rfl)))
    (refine take_T 5 21 ?_)
    (refine take_F 6 22 (oi := ?_) (v := ?_) ?_ ?_ (by kernel_rfl) (by kernel_rfl) (by kernel_rfl) (fun _ _ _ _ _ h => h) ?_ (by assumption) ?_ ?_; rotate_left 2; (focus ((simp only [List.getElem?_toArray, List.getElem?_cons_succ, List.getElem?_cons_zero]); rfl)); (focus rfl); (focus (first | rfl | (simp only [Region.wanted, yielded, List.getElem?_toArray, List.getElem?_cons_succ, List.getElem?_cons_zero, Option.bind_some, Option.map_some, Fr_get?, over_cons, over_nil]; rfl) | go_simp)); (focus (intro W hS; have hr4 := HR4.out; go_simp; try with_reducible rfl)))
    (refine take_F 7 23 (oi := ?_) (v := ?_) ?_ ?_ (by kernel_rfl) (by kernel_rfl) (by kernel_rfl) (fun _ _ _ _ _ h => h) ?_ (by assumption) ?_ ?_; rotate_left 2; (focus ((simp only [List.getElem?_toArray, List.getElem?_cons_succ, List.getElem?_cons_zero]); rfl)); (focus rfl); (focus (first | rfl | (simp only [Region.wanted, yielded, List.getElem?_toArray, List.getElem?_cons_succ, List.getElem?_cons_zero, Option.bind_some, Option.map_some, Fr_get?, over_cons, over_nil]; rfl) | go_simp)); (focus (intro W hS; have e1 := E1.out; go_simp; try with_reducible rfl)))
    (refine take_T 8 24 ?_; refine take_T 9 25 ?_)
    (refine take_F 10 26 (oi := ?_) (v := ?_) ?_ ?_ (by kernel_rfl) (by kernel_rfl) (by kernel_rfl) (fun _ _ _ _ _ h => h) ?_ (by assumption) ?_ ?_; rotate_left 2; (focus ((simp only [List.getElem?_toArray, List.getElem?_cons_succ, List.getElem?_cons_zero]); rfl)); (focus rfl); (focus (first | rfl | (simp only [Region.wanted, yielded, List.getElem?_toArray, List.getElem?_cons_succ, List.getElem?_cons_zero, Option.bind_some, Option.map_some, Fr_get?, over_cons, over_nil]; rfl) | go_simp)); (focus (intro W hS; have hw1 := HW1.out; go_simp; try with_reducible rfl)))
    (refine take_T 12 28 ?_)
    (refine take_F 13 29 (oi := ?_) (v := ?_) ?_ ?_ (by kernel_rfl) (by kernel_rfl) (by kernel_rfl) (fun _ _ _ _ _ h => h) ?_ (by assumption) ?_ ?_; rotate_left 2; (focus ((simp only [List.getElem?_toArray, List.getElem?_cons_succ, List.getElem?_cons_zero]); rfl)); (focus rfl); (focus (first | rfl | (simp only [Region.wanted, yielded, List.getElem?_toArray, List.getElem?_cons_succ, List.getElem?_cons_zero, Option.bind_some, Option.map_some, Fr_get?, over_cons, over_nil]; rfl) | go_simp)); (focus (intro W hS; have hr4 := HR4.out; go_simp; try with_reducible rfl)))
    (refine take_F 14 30 (oi := ?_) (v := ?_) ?_ ?_ (by kernel_rfl) (by kernel_rfl) (by kernel_rfl) (fun _ _ _ _ _ h => h) ?_ (by assumption) ?_ ?_; rotate_left 2; (focus ((simp only [List.getElem?_toArray, List.getElem?_cons_succ, List.getElem?_cons_zero]); rfl)); (focus rfl); (focus (first | rfl | (simp only [Region.wanted, yielded, List.getElem?_toArray, List.getElem?_cons_succ, List.getElem?_cons_zero, Option.bind_some, Option.map_some, Fr_get?, over_cons, over_nil]; rfl) | go_simp)); (focus (intro W hS; have hr5 := HR5.out; go_simp; try with_reducible rfl)))
    (refine only_F 11 (oi := ?_) ?_ (by kernel_rfl) ?_ ?_; rotate_left 1; (focus ((simp only [List.getElem?_toArray, List.getElem?_cons_succ, List.getElem?_cons_zero]); rfl)); (focus (first | rfl | go_simp)); intro K hK; go_simp; (refine (HA.out _ hHeld).mono ?_; rintro e w9 ⟨rfl, rfl⟩); go_wp2_with fail; replace hHeld := hHeld; refine hK.out _ _ hHeld ?_; clear hK K)
    (refine take_F 15 31 (oi := ?_) (v := ?_) ?_ ?_ (by kernel_rfl) (by kernel_rfl) (by kernel_rfl) (fun _ _ _ _ _ h => h) ?_ (by assumption) ?_ ?_; rotate_left 2; (focus ((simp only [List.getElem?_toArray, List.getElem?_cons_succ, List.getElem?_cons_zero]); rfl)); (focus rfl); (focus (first | rfl | (simp only [Region.wanted, yielded, List.getElem?_toArray, List.getElem?_cons_succ, List.getElem?_cons_zero, Option.bind_some, Option.map_some, Fr_get?, over_cons, over_nil]; rfl) | go_simp)); (focus (intro W hS; have e2 := E2.out; have hwp := HWP.out; go_simp; try with_reducible rfl)))
    (refine take_F 16 32 (oi := ?_) (v := ?_) ?_ ?_ (by kernel_rfl) (by kernel_rfl) (by kernel_rfl) (fun _ _ _ _ _ h => h) ?_ (by assumption) ?_ ?_; rotate_left 2; (focus ((simp only [List.getElem?_toArray, List.getElem?_cons_succ, List.getElem?_cons_zero]); rfl)); (focus rfl); (focus (first | rfl | (simp only [Region.wanted, yielded, List.getElem?_toArray, List.getElem?_cons_succ, List.getElem?_cons_zero, Option.bind_some, Option.map_some, Fr_get?, over_cons, over_nil]; rfl) | go_simp)); (focus (intro W hS; have hws := HWS.out; go_simp; try with_reducible rfl)))
    (refine take_F 17 33 (oi := ?_) (v := ?_) ?_ ?_ (by kernel_rfl) (by kernel_rfl) (by kernel_rfl) (fun _ _ _ _ _ h => h) ?_ (by assumption) ?_ ?_; rotate_left 2; (focus ((simp only [List.getElem?_toArray, List.getElem?_cons_succ, List.getElem?_cons_zero]); rfl)); (focus rfl); (focus (first | rfl | (simp only [Region.wanted, yielded, List.getElem?_toArray, List.getElem?_cons_succ, List.getElem?_cons_zero, Option.bind_some, Option.map_some, Fr_get?, over_cons, over_nil]; rfl) | go_simp)); (focus (intro W hS; have htm := HTM.out; go_simp; try with_reducible rfl)))
    (refine only_F 18 (oi := ?_) ?_ (by kernel_rfl) ?_ ?_; rotate_left 1; (focus ((simp only [List.getElem?_toArray, List.getElem?_cons_succ, List.getElem?_cons_zero]); rfl)); (focus rfl); intro K hK; go_simp; refine hK.out _ _ (grown_none_tr hHeld (World.grownBy_alloc _ _ none)) ?_; clear hK K)
    (refine only_F 19 (oi := ?_) ?_ (by kernel_rfl) ?_ ?_; rotate_left 1; (focus ((simp only [List.getElem?_toArray, List.getElem?_cons_succ, List.getElem?_cons_zero]); rfl)); (focus rfl); intro K hK; refine step_appI 16 34 35 _ _ rfl rfl (by decide) (by decide) intTy (HOD.out.alloc _) (by simp [ov, *]) _ (by simp [ov, *]) [(u + p) % 1073741824] (src_intZ Tryz.underlying43 _ ((u + p) % 1073741824) _ (by rw [Int.tmod_eq_emod_of_nonneg (by omega)]; omega)) (by simp; omega) ?_; intro v1 w1 ho1 hs1; have hH1 : w.grownBy w1 none := grown_ownI (Nat.le_refl _) (grown_none_tr hHeld (World.grownBy_alloc _ _ none)) (HOD.out.alloc _) hs1; refine hK.out _ _ hH1 ?_; clear hK K hs1 hHeld)
    (refine take_T 20 5 ?_)
    refine wpAnyH_done (by kernel_rfl) ?_ _
    refine NoPanic.normal ?_
    have HO1 := Lib.hid ho1
    have HH1 := Lib.hid hH1
    clear ho1 hH1
    ((repeat (go_wp2_with fail; first | (refine cdY ?_ ?_; focus (simp [ov, *]; done)) | (refine cdN ?_ ?_; focus (simp [ov, *]; done)))); go_wp2_with fail)
    refine gotk HRK (N1 - (k + 1)) (by have := HKK.out; omega) ⟨k + 1, i + 1, l ++ [(u + p) % 1073741824], v1, by have := HKI.out; omega, rfl, Or.inr (by omega), by simp [hll], HLM.out.append (Limbs.one (Nat.mod_lt _ (by decide))), fun j hj => ?_, by simp [ov, *], by simp [ov, *], by simp [ov, *], by simp [over_cons, over_nil], HO1.out, HH1.out⟩
    by_cases hji : j < i
    · rw [List.getD_eq_getElem?_getD, List.getElem?_append_left (by omega), ← List.getD_eq_getElem?_getD]
      exact HV.out j hji
    · have hji2 : j = i := by omega
      subst hji2
      rw [List.getD_eq_getElem?_getD, List.getElem?_append_right (by omega), hll, Nat.sub_self, ← HLB.out, HU.out, HP.out]
      rfl
end Go.Proofs.YticlnihjhcepkaaGreatDoor

/-
  Walk of spec/nat.go: DivNat.
-/
namespace Go.Proofs.YticlnihjhcepkaaGreatDoor
open Go.RowKit
set_option linter.unusedSimpArgs false
set_option linter.unusedVariables false

theorem natL_zero' : natL (1 / 1073741824) = [] := by rw [Nat.div_eq_of_lt (by decide)]; exact natL_zero

set_option maxRecDepth 10000 in
set_option maxHeartbeats 8000000 in
theorem divNat_any (v1 v2 : Value) (a b : Nat) (w : World) (hr1 : NatV w v1 a) (hr2 : NatV w v2 b) (hb : 0 < b) (hx1 : (natL a).length ≤ 90000) (hx2 : (natL b).length ≤ 90000) :
    Calls Tryz.prog 56 #[v1, v2] w fun e w' => ∃ vq vr, e = .returned (.tuple #[vq, vr]) ∧ NatV w' vq (a / b) ∧ NatV w' vr (a % b) ∧ w.grownBy w' none := by
  obtain ⟨a1, c1, rfl⟩ := hr1.len
  have hB1 := natBits_any _ a w hr1 (by omega)
  have hB2 := natBits_any _ b w hr2 (by omega)
  obtain ⟨N1, hN1⟩ : ∃ N, (natL a).length = N := ⟨_, rfl⟩
  simp only [hN1] at hr1 hB1 ⊢
  rw [hN1] at hx1
  have hnb : nbits a ≤ 30 * N1 := by
    by_cases h0 : a = 0
    · rw [h0]; simp [nbits]
    · have h1 := nbits_le h0
      have h2 := natL_lt a
      rw [hN1, pow_B] at h2
      have h3 := (Nat.pow_lt_pow_iff_right (a := 2) (by decide)).1 (Nat.lt_of_le_of_lt h1 h2)
      omega
  have HN1 := Lib.hid hN1
  have HR1 := Lib.hid hr1
  have HR2 := Lib.hid hr2
  have hmk := mkInts N1 (by omega)
  have HO0 := Lib.hid (OwnI.made (T := w.heap.size) (w := w) (Nat.le_refl _) N1 (by omega))
  have HG0 := Lib.hid (World.grownBy_alloc w (.cells (madeCells #[.int .i64 0] N1) 3) none)
  -- the number of binary digits of the quotient
  obtain ⟨m0, hm0, hm1, hm2, hm3⟩ : ∃ m0 : Nat, m0 ≤ 30 * N1 ∧ (max 0 ((nbits a : Int) - (nbits b : Int) + 1) = (m0 : Int)) ∧ (((nbits a : Int) - (nbits b : Int) < 0 ∧ m0 = 0) ∨ (nbits a : Int) - (nbits b : Int) = (m0 : Int) - 1) ∧ a / 2 ^ m0 < b := by
    by_cases h : nbits a < nbits b
    · exact ⟨0, by omega, by omega, Or.inl ⟨by omega, rfl⟩, by simpa using div_small h⟩
    · have hp := nbits_pos (show b ≠ 0 by omega)
      exact ⟨nbits a - nbits b + 1, by omega, by omega, Or.inr (by omega), div_start a b (nbits a - nbits b) (by omega) (by omega)⟩
  have hH := fun (W : World) (z : Int) (hz : z = (m0 : Int)) (h : NatV W (.slice a1 N1 c1) a) => hz ▸ highNat_any (.slice a1 N1 c1) a m0 W h (by omega) (by omega)
  have HH := Lib.hid hH
  have HM3 := Lib.hid hm3
  have hcs : ((nbits a : Int) - (nbits b : Int) + 1 ≤ 0) ∨ (0 < (nbits a : Int) - (nbits b : Int) + 1) := by omega
  have HM1 := Lib.hid hm1
  have HM2 := Lib.hid hm2
  generalize hna : nbits a = na at *
  generalize hnb2 : nbits b = nb at *
  have HB1 := Lib.hid hB1
  have HB2 := Lib.hid hB2
  have hnbb : nb ≤ 3000000 := by
    have h0 : b ≠ 0 := by omega
    have h1 := nbits_le h0
    have h2 := natL_lt b
    rw [pow_B] at h2
    have h3 := (Nat.pow_lt_pow_iff_right (a := 2) (by decide)).1 (Nat.lt_of_le_of_lt h1 h2)
    omega
  clear hr1 hr2 hN1 hH hm3 hm2 hm1 hB1 hB2 hna hnb2
  refine calls_F Tryz.func56 rfl (by rw [Tryz.ntmps56]; simp) ?_
  intro σ hσ
  rw [Tryz.ntmps56]
  have s0 : σ 0 = .slice a1 N1 c1 := hσ 0 (by simp)
  have s1 : σ 1 = v2 := hσ 1 (by simp)
  clear hσ
  rcases hcs with hcs | hcs
  all_goals
    ((repeat (go_wp2_with fail; first | (refine cdY ?_ ?_; focus (simp [ov, *]; done)) | (refine cdN ?_ ?_; focus (simp [ov, *]; done)))); go_wp2_with fail)
    refine HB1.out.mono ?_
    rintro e w1 ⟨rfl, rfl⟩
    ((repeat (go_wp2_with fail; first | (refine cdY ?_ ?_; focus (simp [ov, *]; done)) | (refine cdN ?_ ?_; focus (simp [ov, *]; done)))); go_wp2_with fail)
    refine HB2.out.mono ?_
    rintro e w1 ⟨rfl, rfl⟩
    ((repeat (go_wp2_with fail; first | (refine cdY ?_ ?_; focus (simp [ov, *]; done)) | (refine cdN ?_ ?_; focus (simp [ov, *]; done)))); go_wp2_with fail)
    refine (HH.out _ _ (by have := HM1.out; omega) (HR1.out.grown HG0.out)).mono ?_
    rintro e wr ⟨vr, rfl, hnr, hgr⟩
    have HNR := Lib.hid hnr
    have HGR := Lib.hid (grown_none_tr HG0.out hgr)
    have HOR := Lib.hid (HO0.out.grown0 hgr)
    clear hnr hgr hmk
    ((repeat (go_wp2_with fail; first | (refine cdY ?_ ?_; focus (simp [ov, *]; done)) | (refine cdN ?_ ?_; focus (simp [ov, *]; done)))); go_wp2_with fail)
    obtain ⟨B0, hB0⟩ : ∃ B0, w.heap.size = B0 := ⟨_, rfl⟩
    simp only [hB0] at HOR ⊢
    have HB0 := Lib.hid hB0
    clear hB0
    refine loop_F (fun kk s' w' => ∃ (m : Nat) (d : Int) (vr : Value) (l : List Nat), kk = m ∧ m ≤ 30 * N1 ∧ ((d < 0 ∧ m = 0) ∨ d = (m : Int) - 1) ∧ l.length = N1 ∧ Limbs l ∧ lval l = 2 ^ m * (a / 2 ^ m / b) ∧ s' 0 = .slice a1 N1 c1 ∧ s' 1 = v2 ∧ s' 7 = .slice (some ⟨B0, 0, none⟩) N1 N1 ∧ s' 8 = vr ∧ s' 9 = .int .i64 d ∧ NatV w' vr (a / 2 ^ m % b) ∧ OwnI B0 w' (.slice (some ⟨B0, 0, none⟩) N1 N1) l ∧ w.grownBy w' none) m0
      ⟨m0, _, vr, List.replicate N1 0, rfl, hm0, HM2.out, by simp, Limbs.rep _, by rw [lval_rep, Nat.div_eq_of_lt HM3.out, Nat.mul_zero], by simp [ov, *], by simp [ov, *], by simp [ov, *], by simp [ov, *], by simp [ov, *], by rw [Nat.mod_eq_of_lt HM3.out]; exact HNR.out, HOR.out, HGR.out⟩ ?_
    clear s0 s1 σ HNR HGR HOR HO0 HG0 HH HB1 HB2 HM1 HM2 HM3 hcs
    rintro kk σ wk ⟨m, d, vr, l, hkk, hmN, hd, hll, hlm, hval, s0, s1, s7, s8, s9, hnr, hown, hg⟩ RK KK HRK hKK
    have HKK := Lib.hid hkk
    have HLM := Lib.hid hlm
    have HV := Lib.hid hval
    have HO := Lib.hid hown
    have HG := Lib.hid hg
    have HNR := Lib.hid hnr
    have HLL := Lib.hid hll
    clear hkk hlm hval hown hg hnr hll
    by_cases hd0 : d < 0
    · have hm00 : m = 0 := by omega
      have hlv : lval l = a / b := by
        rw [HV.out, hm00]; simp
      have hT := trimN_any _ l wk (RdI.of_own HO.out) (by rw [HLL.out]; omega) HLM.out
      rw [hlv] at hT
      have HT := Lib.hid hT
      have hnr2 : NatV wk vr (a % b) := by have := HNR.out; rw [hm00] at this; simpa using this
      have HNR2 := Lib.hid hnr2
      clear hT hlv hd hnr2
      ((repeat (go_wp2_with fail; first | (refine cdY ?_ ?_; focus (simp [ov, *]; done)) | (refine cdN ?_ ?_; focus (simp [ov, *]; done)))); go_wp2_with fail)
      refine HT.out.mono ?_
      rintro e w5 ⟨v5, rfl, hn5, hg5⟩
      have HN5 := Lib.hid hn5
      have HG5 := Lib.hid hg5
      clear hn5 hg5
      ((repeat (go_wp2_with fail; first | (refine cdY ?_ ?_; focus (simp [ov, *]; done)) | (refine cdN ?_ ?_; focus (simp [ov, *]; done)))); go_wp2_with fail)
      exact ret_F2 v5 vr rfl (by decide) (by decide) (by simp [ov, *]) (by simp [ov, *]) ⟨v5, vr, rfl, HN5.out, HNR2.out.grown HG5.out, grown_none_tr HG.out HG5.out⟩
    · obtain ⟨j, rfl⟩ : ∃ j, m = j + 1 := ⟨m - 1, by omega⟩
      have hdj : d = (j : Int) := by omega
      subst hdj
      clear hd hd0
      obtain ⟨R, hR⟩ : ∃ R, a / 2 ^ (j + 1) % b = R := ⟨_, rfl⟩
      obtain ⟨t, ht⟩ : ∃ t, a / 2 ^ j % 2 = t := ⟨_, rfl⟩
      have hst := div_step a b j hb
      rw [hR, ht] at hst
      rw [hR] at HNR
      have hRb : R < b := by rw [← hR]; exact Nat.mod_lt _ hb
      have ht2 : t < 2 := by rw [← ht]; exact Nat.mod_lt _ (by decide)
      have hlR : (natL R).length ≤ 90000 := Nat.le_trans (natL_mono (by omega)) hx2
      have hl2 : ∀ x, x ≤ 2 * b → (natL x).length ≤ 90001 := fun x hx => by
        have h3 := natL_len_le (n := x) (k := (natL b).length + 1) (by
          have h1 := natL_lt b
          rw [Nat.pow_succ]
          generalize 1073741824 ^ (natL b).length = Y at h1 ⊢
          omega)
        omega
      have HSH := Lib.hid (fun (W : World) (h : NatV W vr R) => shiftNat_any vr R 1 W h (by omega) (by omega))
      have hbt := fun (W : World) (h : w.grownBy W none) => bit_any (.slice a1 N1 c1) a j W (HR1.out.grown h) (by rw [HN1.out]; omega) (by omega)
      rw [ht] at hbt
      have HBT := Lib.hid hbt
      have HON := Lib.hid (fun W => natOf_any 1 W (by decide))
      have HAD := Lib.hid (fun (V U : Value) (W : World) (h1 : NatV W V (R * 2 ^ 1)) (h2 : NatV W U 1) => addNat_any V U (R * 2 ^ 1) 1 W h1 h2 (by have := hl2 (R * 2 ^ 1) (by omega); omega) (by rw [natL_pos (by decide), natL_zero']; simp))
      have HCM := Lib.hid (fun (V : Value) (X : Nat) (W : World) (hX : X ≤ 2 * b) (h1 : NatV W V X) (h2 : w.grownBy W none) => cmpNat_any V v2 X b W h1 (HR2.out.grown h2) (by have := hl2 X hX; omega) (by omega))
      have HSB := Lib.hid (fun (V : Value) (X : Nat) (W : World) (hX : X ≤ 2 * b) (hXb : b ≤ X) (h1 : NatV W V X) (h2 : w.grownBy W none) => subNat_any V v2 X b W h1 (HR2.out.grown h2) (by have := hl2 X hX; omega) hXb)
      have HST := Lib.hid hst
      clear hR ht hst hlR hl2 hbt
      by_cases ht1 : t = 1
      · subst ht1
        by_cases hXb : b ≤ R * 2 ^ 1 + 1
        ·
          ((repeat (go_wp2_with fail; first | (refine cdY ?_ ?_; focus (simp [ov, *]; done)) | (refine cdN ?_ ?_; focus (simp [ov, *]; done)))); go_wp2_with fail)
          refine (HSH.out _ HNR.out).mono ?_
          rintro e w2 ⟨v3, rfl, hn2, hg2⟩
          have HN2 := Lib.hid hn2
          have HG2 := Lib.hid (grown_none_tr HG.out hg2)
          have HO2 := Lib.hid (HO.out.grown0 hg2)
          clear hn2 hg2
          ((repeat (go_wp2_with fail; first | (refine cdY ?_ ?_; focus (simp [ov, *]; done)) | (refine cdN ?_ ?_; focus (simp [ov, *]; done)))); go_wp2_with fail)
          refine (HBT.out _ HG2.out).mono ?_
          rintro e w3 ⟨rfl, rfl⟩
          ((repeat (go_wp2_with fail; first | (refine cdY ?_ ?_; focus (simp [ov, *]; done)) | (refine cdN ?_ ?_; focus (simp [ov, *]; done)))); go_wp2_with fail)
          refine (HON.out _).mono ?_
          rintro e w4 ⟨v4, rfl, hn4, hg4⟩
          have HN4 := Lib.hid hn4
          have HN2' := Lib.hid (HN2.out.grown hg4)
          have HG4 := Lib.hid (grown_none_tr HG2.out hg4)
          have HO4 := Lib.hid (HO2.out.grown0 hg4)
          clear hn4 hg4
          ((repeat (go_wp2_with fail; first | (refine cdY ?_ ?_; focus (simp [ov, *]; done)) | (refine cdN ?_ ?_; focus (simp [ov, *]; done)))); go_wp2_with fail)
          refine (HAD.out _ _ _ HN2'.out HN4.out).mono ?_
          rintro e w5 ⟨v5, rfl, hn5, hg5⟩
          have HN5 := Lib.hid hn5
          have HG5 := Lib.hid (grown_none_tr HG4.out hg5)
          have HO5 := Lib.hid (HO4.out.grown0 hg5)
          clear hn5 hg5
          ((repeat (go_wp2_with fail; first | (refine cdY ?_ ?_; focus (simp [ov, *]; done)) | (refine cdN ?_ ?_; focus (simp [ov, *]; done)))); go_wp2_with fail)
          have hcmp := HCM.out _ (R * 2 ^ 1 + 1) _ (by omega) HN5.out HG5.out
          have hge : b ≤ (R * 2 ^ 1 + 1) := hXb
          obtain ⟨κ, hκ, hκ0⟩ : ∃ κ : Int, cmpN (R * 2 ^ 1 + 1) b = κ ∧ 0 ≤ κ := ⟨_, rfl, by unfold cmpN; rw [if_neg (by omega)]; split <;> omega⟩
          rw [hκ] at hcmp
          clear hκ hge
          refine hcmp.mono ?_
          rintro e w6 ⟨rfl, hg6⟩
          clear hcmp
          have HN6 := Lib.hid (HN5.out.grown hg6)
          have HG6 := Lib.hid (grown_none_tr HG5.out hg6)
          have HO6 := Lib.hid (HO5.out.grown0 hg6)
          clear hg6
          ((repeat (go_wp2_with fail; first | (refine cdY ?_ ?_; focus (simp [ov, *]; done)) | (refine cdN ?_ ?_; focus (simp [ov, *]; done)))); go_wp2_with fail)
          refine (HSB.out _ (R * 2 ^ 1 + 1) _ (by omega) hXb HN6.out HG6.out).mono ?_
          rintro e w7 ⟨v7, rfl, hn7, hg7, hf7⟩
          have HF7 := Lib.hid (fun (k : Nat) (hk : v7.ownBlock = some k) => (show k ≠ B0 by have := hf7 k hk; have := HO6.out.lt; omega))
          have HN7 := Lib.hid hn7
          have HG7 := Lib.hid (grown_none_tr HG6.out hg7)
          have HO7 := Lib.hid (HO6.out.grown0 hg7)
          clear hn7 hg7 hf7
          ((repeat (go_wp2_with fail; first | (refine cdY ?_ ?_; focus (simp [ov, *]; done)) | (refine cdN ?_ ?_; focus (simp [ov, *]; done)))); go_wp2_with fail)
          obtain ⟨kq, hkq⟩ : ∃ q, j / 30 = q := ⟨_, rfl⟩
          obtain ⟨r, hr⟩ : ∃ r, j % 30 = r := ⟨_, rfl⟩
          have hkN : kq < N1 := by omega
          have hr30 : r < 30 := by omega
          obtain ⟨P, hP⟩ : ∃ P, 2 ^ r = P := ⟨_, rfl⟩
          have hPl : P ≤ 536870912 := by
            rw [← hP]
            have := Nat.pow_le_pow_right (n := 2) (by decide) (show r ≤ 29 by omega)
            omega
          have hPI : ((2 : Int) ^ r) = (P : Int) := by rw [← hP]; push_cast; rfl
          obtain ⟨o, ho⟩ : ∃ u, l[kq]? = some u := ⟨l[kq]'(by rw [HLL.out]; exact hkN), List.getElem?_eq_getElem _⟩
          have hco := HO7.out.cell kq o ho
          unfold encI at hco
          have hfo := HO7.out.frozen kq
          have hgo : l.getD kq 0 = o := by rw [List.getD_eq_getElem?_getD, ho]; rfl
          have hql := quot_limb HLM.out j _ HV.out
          have hqs := quot_set (l := l) j (by rw [hkq, HLL.out]; exact hkN)
          rw [hkq, hr, hgo, hP] at hql hqs
          have hol : o < 1073741824 := by omega
          have HQS := Lib.hid hqs
          have HQL := Lib.hid hql
          have q1 : ∀ [Inhabited Nat], (j : Int).tdiv 30 = (kq : Int) := by intro _; rw [Int.tdiv_eq_ediv_of_nonneg (by omega)]; omega
          have q2 : ∀ [Inhabited Nat], (j : Int) / 30 = (kq : Int) := by intro _; omega
          have r1 : ∀ [Inhabited Nat], (j : Int).tmod 30 = (r : Int) := by intro _; rw [Int.tmod_eq_emod_of_nonneg (by omega)]; omega
          have r2 : ∀ [Inhabited Nat], (j : Int) % 30 = (r : Int) := by intro _; omega
          have p1 : ∀ [Inhabited Nat], wrap64 ((2 : Int) ^ r) = (P : Int) := by intro _; rw [hPI]; exact wrap64I P (by omega)
          have p2 : ∀ [Inhabited Nat], IntKind.i64.wrap ((2 : Int) ^ r) = (P : Int) := by intro _; rw [hPI]; exact wrapIS P (by omega)
          have p3 : ∀ [Inhabited Nat], IntKind.i64.wrap (1 * (2 : Int) ^ r) = (P : Int) := by intro _; rw [Int.one_mul, hPI]; exact wrapIS P (by omega)
          have p4 : ∀ [Inhabited Nat], IntKind.i64.wrap ((o : Int) + (P : Int)) = ((o + P : Nat) : Int) := by
            intro _
            rw [show (o : Int) + (P : Int) = ((o + P : Nat) : Int) by omega]
            exact wrapIS _ (by omega)
          have w1q : ∀ [Inhabited Nat], IntKind.i64.wrap (kq : Int) = (kq : Int) := by intro _; exact wrapIS kq (by omega)
          have w1r : ∀ [Inhabited Nat], IntKind.i64.wrap (r : Int) = (r : Int) := by intro _; exact wrapIS r (by omega)
          have w1P : ∀ [Inhabited Nat], IntKind.i64.wrap (P : Int) = (P : Int) := by intro _; exact wrapIS P (by omega)
          have hkN1 : (kq : Int) < (N1 : Int) := by omega
          have HKQ := Lib.hid hkq
          have HRR := Lib.hid hr
          have HPP := Lib.hid hP
          clear hkq hr hP ho hgo hql hqs hPI
          go_still_tail 13, (by kernel_rfl)
          ((repeat (go_wp2_with fail; first | (refine cdY ?_ ?_; focus (simp [ov, *]; done)) | (refine cdN ?_ ?_; focus (simp [ov, *]; done)))); go_wp2_with fail)
          clear q1 q2 r1 r2 p1 p2 p3 p4 w1q w1r w1P hco hfo
          have e2 : w7.setCell ⟨B0, kq, none⟩ (.int .i64 ((o : Int) + (P : Int))) = w7.setCell ⟨B0, kq, none⟩ (encI (o + P)) := by
            unfold encI
            rw [show (o : Int) + (P : Int) = ((o + P : Nat) : Int) by omega]
          rw [e2]
          clear e2
          have hfin := HST.out.1 (by omega)
          have hown9 : OwnI B0 (w7.setCell ⟨B0, kq, none⟩ (encI (o + P))).drew (.slice (some ⟨B0, 0, none⟩) N1 N1) (l.set kq (o + P)) := (HO7.out.laid kq (o + P) (by rw [HLL.out]; exact hkN)).drew
          have hg9 : w.grownBy (w7.setCell ⟨B0, kq, none⟩ (encI (o + P))).drew none := grown_none_tr (grown_setN HG7.out _ (by show w.heap.size ≤ B0; have := HB0.out; omega)) (grown_drewN _ 1 none)
          have hn9 : NatV (w7.setCell ⟨B0, kq, none⟩ (encI (o + P))).drew v7 (a / 2 ^ j % b) := by
            refine NatV.grown ?_ (grown_drewN _ 1 none)
            rw [hfin.1]
            have := NatV.set HN7.out ⟨B0, kq, none⟩ (encI (o + P)) HF7.out
            rwa [show (R * 2 ^ 1 + 1) - b = 2 * R + 1 - b by omega] at this
          have hlv9 : lval (l.set kq (o + P)) = 2 ^ j * (a / 2 ^ j / b) := by
            have h1 := HQS.out
            rw [h1, HV.out, hfin.2, Nat.mul_add, Nat.mul_one, Nat.pow_succ, Nat.mul_assoc]
          refine gotk HRK j (by have := HKK.out; omega) ⟨j, (j : Int) - 1, v7, l.set kq (o + P), rfl, by omega, Or.inr rfl, by rw [List.length_set]; exact HLL.out, HLM.out.set _ _ HQL.out, hlv9, by simp [ov, *], by simp [ov, *], by simp [ov, *], by simp [ov, *], by simp [over_cons, over_nil], hn9, hown9, hg9⟩
        ·
          ((repeat (go_wp2_with fail; first | (refine cdY ?_ ?_; focus (simp [ov, *]; done)) | (refine cdN ?_ ?_; focus (simp [ov, *]; done)))); go_wp2_with fail)
          refine (HSH.out _ HNR.out).mono ?_
          rintro e w2 ⟨v3, rfl, hn2, hg2⟩
          have HN2 := Lib.hid hn2
          have HG2 := Lib.hid (grown_none_tr HG.out hg2)
          have HO2 := Lib.hid (HO.out.grown0 hg2)
          clear hn2 hg2
          ((repeat (go_wp2_with fail; first | (refine cdY ?_ ?_; focus (simp [ov, *]; done)) | (refine cdN ?_ ?_; focus (simp [ov, *]; done)))); go_wp2_with fail)
          refine (HBT.out _ HG2.out).mono ?_
          rintro e w3 ⟨rfl, rfl⟩
          ((repeat (go_wp2_with fail; first | (refine cdY ?_ ?_; focus (simp [ov, *]; done)) | (refine cdN ?_ ?_; focus (simp [ov, *]; done)))); go_wp2_with fail)
          refine (HON.out _).mono ?_
          rintro e w4 ⟨v4, rfl, hn4, hg4⟩
          have HN4 := Lib.hid hn4
          have HN2' := Lib.hid (HN2.out.grown hg4)
          have HG4 := Lib.hid (grown_none_tr HG2.out hg4)
          have HO4 := Lib.hid (HO2.out.grown0 hg4)
          clear hn4 hg4
          ((repeat (go_wp2_with fail; first | (refine cdY ?_ ?_; focus (simp [ov, *]; done)) | (refine cdN ?_ ?_; focus (simp [ov, *]; done)))); go_wp2_with fail)
          refine (HAD.out _ _ _ HN2'.out HN4.out).mono ?_
          rintro e w5 ⟨v5, rfl, hn5, hg5⟩
          have HN5 := Lib.hid hn5
          have HG5 := Lib.hid (grown_none_tr HG4.out hg5)
          have HO5 := Lib.hid (HO4.out.grown0 hg5)
          clear hn5 hg5
          ((repeat (go_wp2_with fail; first | (refine cdY ?_ ?_; focus (simp [ov, *]; done)) | (refine cdN ?_ ?_; focus (simp [ov, *]; done)))); go_wp2_with fail)
          have hcmp := HCM.out _ (R * 2 ^ 1 + 1) _ (by omega) HN5.out HG5.out
          obtain ⟨κ, hκ, hκ0⟩ : ∃ κ : Int, cmpN (R * 2 ^ 1 + 1) b = κ ∧ decide (0 ≤ κ) = false := ⟨-1, by unfold cmpN; rw [if_pos (by omega)], by decide⟩
          rw [hκ] at hcmp
          clear hκ
          refine hcmp.mono ?_
          rintro e w6 ⟨rfl, hg6⟩
          clear hcmp
          have HN6 := Lib.hid (HN5.out.grown hg6)
          have HG6 := Lib.hid (grown_none_tr HG5.out hg6)
          have HO6 := Lib.hid (HO5.out.grown0 hg6)
          clear hg6
          ((repeat (go_wp2_with fail; first | (refine cdY ?_ ?_; focus (simp [ov, *]; done)) | (refine cdN ?_ ?_; focus (simp [ov, *]; done)))); go_wp2_with fail)
          have hfin := HST.out.2 (by omega)
          refine gotk HRK j (by have := HKK.out; omega) ⟨j, (j : Int) - 1, v5, l, rfl, by omega, Or.inr rfl, HLL.out, HLM.out, by rw [HV.out, hfin.2, Nat.pow_succ, Nat.mul_assoc], by simp [ov, *], by simp [ov, *], by simp [ov, *], by simp [ov, *], by simp [over_cons, over_nil], ?_, HO6.out, HG6.out⟩
          rw [hfin.1]
          have := HN6.out
          rwa [show (R * 2 ^ 1 + 1) = 2 * R + 1 by omega] at this
      · have ht0 : t = 0 := by omega
        subst ht0
        clear ht1 ht2
        by_cases hXb : b ≤ R * 2 ^ 1
        ·
          ((repeat (go_wp2_with fail; first | (refine cdY ?_ ?_; focus (simp [ov, *]; done)) | (refine cdN ?_ ?_; focus (simp [ov, *]; done)))); go_wp2_with fail)
          refine (HSH.out _ HNR.out).mono ?_
          rintro e w2 ⟨v3, rfl, hn2, hg2⟩
          have HN2 := Lib.hid hn2
          have HG2 := Lib.hid (grown_none_tr HG.out hg2)
          have HO2 := Lib.hid (HO.out.grown0 hg2)
          clear hn2 hg2
          ((repeat (go_wp2_with fail; first | (refine cdY ?_ ?_; focus (simp [ov, *]; done)) | (refine cdN ?_ ?_; focus (simp [ov, *]; done)))); go_wp2_with fail)
          refine (HBT.out _ HG2.out).mono ?_
          rintro e w3 ⟨rfl, rfl⟩
          ((repeat (go_wp2_with fail; first | (refine cdY ?_ ?_; focus (simp [ov, *]; done)) | (refine cdN ?_ ?_; focus (simp [ov, *]; done)))); go_wp2_with fail)
          have hcmp := HCM.out _ (R * 2 ^ 1) _ (by omega) HN2.out HG2.out
          have hge : b ≤ (R * 2 ^ 1) := hXb
          obtain ⟨κ, hκ, hκ0⟩ : ∃ κ : Int, cmpN (R * 2 ^ 1) b = κ ∧ 0 ≤ κ := ⟨_, rfl, by unfold cmpN; rw [if_neg (by omega)]; split <;> omega⟩
          rw [hκ] at hcmp
          clear hκ hge
          refine hcmp.mono ?_
          rintro e w6 ⟨rfl, hg6⟩
          clear hcmp
          have HN6 := Lib.hid (HN2.out.grown hg6)
          have HG6 := Lib.hid (grown_none_tr HG2.out hg6)
          have HO6 := Lib.hid (HO2.out.grown0 hg6)
          clear hg6
          ((repeat (go_wp2_with fail; first | (refine cdY ?_ ?_; focus (simp [ov, *]; done)) | (refine cdN ?_ ?_; focus (simp [ov, *]; done)))); go_wp2_with fail)
          refine (HSB.out _ (R * 2 ^ 1) _ (by omega) hXb HN6.out HG6.out).mono ?_
          rintro e w7 ⟨v7, rfl, hn7, hg7, hf7⟩
          have HF7 := Lib.hid (fun (k : Nat) (hk : v7.ownBlock = some k) => (show k ≠ B0 by have := hf7 k hk; have := HO6.out.lt; omega))
          have HN7 := Lib.hid hn7
          have HG7 := Lib.hid (grown_none_tr HG6.out hg7)
          have HO7 := Lib.hid (HO6.out.grown0 hg7)
          clear hn7 hg7 hf7
          ((repeat (go_wp2_with fail; first | (refine cdY ?_ ?_; focus (simp [ov, *]; done)) | (refine cdN ?_ ?_; focus (simp [ov, *]; done)))); go_wp2_with fail)
          obtain ⟨kq, hkq⟩ : ∃ q, j / 30 = q := ⟨_, rfl⟩
          obtain ⟨r, hr⟩ : ∃ r, j % 30 = r := ⟨_, rfl⟩
          have hkN : kq < N1 := by omega
          have hr30 : r < 30 := by omega
          obtain ⟨P, hP⟩ : ∃ P, 2 ^ r = P := ⟨_, rfl⟩
          have hPl : P ≤ 536870912 := by
            rw [← hP]
            have := Nat.pow_le_pow_right (n := 2) (by decide) (show r ≤ 29 by omega)
            omega
          have hPI : ((2 : Int) ^ r) = (P : Int) := by rw [← hP]; push_cast; rfl
          obtain ⟨o, ho⟩ : ∃ u, l[kq]? = some u := ⟨l[kq]'(by rw [HLL.out]; exact hkN), List.getElem?_eq_getElem _⟩
          have hco := HO7.out.cell kq o ho
          unfold encI at hco
          have hfo := HO7.out.frozen kq
          have hgo : l.getD kq 0 = o := by rw [List.getD_eq_getElem?_getD, ho]; rfl
          have hql := quot_limb HLM.out j _ HV.out
          have hqs := quot_set (l := l) j (by rw [hkq, HLL.out]; exact hkN)
          rw [hkq, hr, hgo, hP] at hql hqs
          have hol : o < 1073741824 := by omega
          have HQS := Lib.hid hqs
          have HQL := Lib.hid hql
          have q1 : ∀ [Inhabited Nat], (j : Int).tdiv 30 = (kq : Int) := by intro _; rw [Int.tdiv_eq_ediv_of_nonneg (by omega)]; omega
          have q2 : ∀ [Inhabited Nat], (j : Int) / 30 = (kq : Int) := by intro _; omega
          have r1 : ∀ [Inhabited Nat], (j : Int).tmod 30 = (r : Int) := by intro _; rw [Int.tmod_eq_emod_of_nonneg (by omega)]; omega
          have r2 : ∀ [Inhabited Nat], (j : Int) % 30 = (r : Int) := by intro _; omega
          have p1 : ∀ [Inhabited Nat], wrap64 ((2 : Int) ^ r) = (P : Int) := by intro _; rw [hPI]; exact wrap64I P (by omega)
          have p2 : ∀ [Inhabited Nat], IntKind.i64.wrap ((2 : Int) ^ r) = (P : Int) := by intro _; rw [hPI]; exact wrapIS P (by omega)
          have p3 : ∀ [Inhabited Nat], IntKind.i64.wrap (1 * (2 : Int) ^ r) = (P : Int) := by intro _; rw [Int.one_mul, hPI]; exact wrapIS P (by omega)
          have p4 : ∀ [Inhabited Nat], IntKind.i64.wrap ((o : Int) + (P : Int)) = ((o + P : Nat) : Int) := by
            intro _
            rw [show (o : Int) + (P : Int) = ((o + P : Nat) : Int) by omega]
            exact wrapIS _ (by omega)
          have w1q : ∀ [Inhabited Nat], IntKind.i64.wrap (kq : Int) = (kq : Int) := by intro _; exact wrapIS kq (by omega)
          have w1r : ∀ [Inhabited Nat], IntKind.i64.wrap (r : Int) = (r : Int) := by intro _; exact wrapIS r (by omega)
          have w1P : ∀ [Inhabited Nat], IntKind.i64.wrap (P : Int) = (P : Int) := by intro _; exact wrapIS P (by omega)
          have hkN1 : (kq : Int) < (N1 : Int) := by omega
          have HKQ := Lib.hid hkq
          have HRR := Lib.hid hr
          have HPP := Lib.hid hP
          clear hkq hr hP ho hgo hql hqs hPI
          go_still_tail 13, (by kernel_rfl)
          ((repeat (go_wp2_with fail; first | (refine cdY ?_ ?_; focus (simp [ov, *]; done)) | (refine cdN ?_ ?_; focus (simp [ov, *]; done)))); go_wp2_with fail)
          clear q1 q2 r1 r2 p1 p2 p3 p4 w1q w1r w1P hco hfo
          have e2 : w7.setCell ⟨B0, kq, none⟩ (.int .i64 ((o : Int) + (P : Int))) = w7.setCell ⟨B0, kq, none⟩ (encI (o + P)) := by
            unfold encI
            rw [show (o : Int) + (P : Int) = ((o + P : Nat) : Int) by omega]
          rw [e2]
          clear e2
          have hfin := HST.out.1 (by omega)
          have hown9 : OwnI B0 (w7.setCell ⟨B0, kq, none⟩ (encI (o + P))).drew (.slice (some ⟨B0, 0, none⟩) N1 N1) (l.set kq (o + P)) := (HO7.out.laid kq (o + P) (by rw [HLL.out]; exact hkN)).drew
          have hg9 : w.grownBy (w7.setCell ⟨B0, kq, none⟩ (encI (o + P))).drew none := grown_none_tr (grown_setN HG7.out _ (by show w.heap.size ≤ B0; have := HB0.out; omega)) (grown_drewN _ 1 none)
          have hn9 : NatV (w7.setCell ⟨B0, kq, none⟩ (encI (o + P))).drew v7 (a / 2 ^ j % b) := by
            refine NatV.grown ?_ (grown_drewN _ 1 none)
            rw [hfin.1]
            have := NatV.set HN7.out ⟨B0, kq, none⟩ (encI (o + P)) HF7.out
            rwa [show (R * 2 ^ 1) - b = 2 * R + 0 - b by omega] at this
          have hlv9 : lval (l.set kq (o + P)) = 2 ^ j * (a / 2 ^ j / b) := by
            have h1 := HQS.out
            rw [h1, HV.out, hfin.2, Nat.mul_add, Nat.mul_one, Nat.pow_succ, Nat.mul_assoc]
          refine gotk HRK j (by have := HKK.out; omega) ⟨j, (j : Int) - 1, v7, l.set kq (o + P), rfl, by omega, Or.inr rfl, by rw [List.length_set]; exact HLL.out, HLM.out.set _ _ HQL.out, hlv9, by simp [ov, *], by simp [ov, *], by simp [ov, *], by simp [ov, *], by simp [over_cons, over_nil], hn9, hown9, hg9⟩
        ·
          ((repeat (go_wp2_with fail; first | (refine cdY ?_ ?_; focus (simp [ov, *]; done)) | (refine cdN ?_ ?_; focus (simp [ov, *]; done)))); go_wp2_with fail)
          refine (HSH.out _ HNR.out).mono ?_
          rintro e w2 ⟨v3, rfl, hn2, hg2⟩
          have HN2 := Lib.hid hn2
          have HG2 := Lib.hid (grown_none_tr HG.out hg2)
          have HO2 := Lib.hid (HO.out.grown0 hg2)
          clear hn2 hg2
          ((repeat (go_wp2_with fail; first | (refine cdY ?_ ?_; focus (simp [ov, *]; done)) | (refine cdN ?_ ?_; focus (simp [ov, *]; done)))); go_wp2_with fail)
          refine (HBT.out _ HG2.out).mono ?_
          rintro e w3 ⟨rfl, rfl⟩
          ((repeat (go_wp2_with fail; first | (refine cdY ?_ ?_; focus (simp [ov, *]; done)) | (refine cdN ?_ ?_; focus (simp [ov, *]; done)))); go_wp2_with fail)
          have hcmp := HCM.out _ (R * 2 ^ 1) _ (by omega) HN2.out HG2.out
          obtain ⟨κ, hκ, hκ0⟩ : ∃ κ : Int, cmpN (R * 2 ^ 1) b = κ ∧ decide (0 ≤ κ) = false := ⟨-1, by unfold cmpN; rw [if_pos (by omega)], by decide⟩
          rw [hκ] at hcmp
          clear hκ
          refine hcmp.mono ?_
          rintro e w6 ⟨rfl, hg6⟩
          clear hcmp
          have HN6 := Lib.hid (HN2.out.grown hg6)
          have HG6 := Lib.hid (grown_none_tr HG2.out hg6)
          have HO6 := Lib.hid (HO2.out.grown0 hg6)
          clear hg6
          ((repeat (go_wp2_with fail; first | (refine cdY ?_ ?_; focus (simp [ov, *]; done)) | (refine cdN ?_ ?_; focus (simp [ov, *]; done)))); go_wp2_with fail)
          have hfin := HST.out.2 (by omega)
          refine gotk HRK j (by have := HKK.out; omega) ⟨j, (j : Int) - 1, v3, l, rfl, by omega, Or.inr rfl, HLL.out, HLM.out, by rw [HV.out, hfin.2, Nat.pow_succ, Nat.mul_assoc], by simp [ov, *], by simp [ov, *], by simp [ov, *], by simp [ov, *], by simp [over_cons, over_nil], ?_, HO6.out, HG6.out⟩
          rw [hfin.1]
          have := HN6.out
          rwa [show (R * 2 ^ 1) = 2 * R + 0 by omega] at this
end Go.Proofs.YticlnihjhcepkaaGreatDoor

/-
  Walks (without isFormat and zeroBits): the reference's KindOf, the laws' small functions.
-/
namespace Go.Proofs.YticlnihjhcepkaaGreatDoor
open Go.RowKit
set_option linter.unusedSimpArgs false
set_option linter.unusedVariables false

def kindB (inf s b : Nat) : Int := if b % s < inf then 0 else if b % s = inf then 1 else 2

theorem kindB_0 {inf s b m : Nat} (hm : b % s = m) (h : m < inf) : kindB inf s b = 0 := by unfold kindB; rw [hm, if_pos h]
theorem kindB_fin {inf s b : Nat} (h : kindB inf s b = 0) : b % s < inf := by
  unfold kindB at h
  by_cases h1 : b % s < inf
  · exact h1
  · rw [if_neg h1] at h
    split at h <;> omega
theorem kindB_1 {inf s b m : Nat} (hm : b % s = m) (h : m = inf) : kindB inf s b = 1 := by unfold kindB; rw [hm, if_neg (by omega), if_pos h]
theorem kindB_2 {inf s b m : Nat} (hm : b % s = m) (h : inf < m) : kindB inf s b = 2 := by unfold kindB; rw [hm, if_neg (by omega), if_neg (by omega)]

theorem u64_andNot_top (n k : Nat) (hn : n < 2 ^ (k + 1)) (hk : k ≤ 63) : bits .andNot .u64 (n : Int) ((2 ^ k : Nat) : Int) = ((n % 2 ^ k : Nat) : Int) := by
  have p : 0 < 2 ^ k := Nat.pow_pos (by omega)
  have hk63 : 2 ^ k ≤ 2 ^ 63 := Nat.pow_le_pow_right (by omega) hk
  have hk64 : 2 ^ (k + 1) ≤ 2 ^ 64 := Nat.pow_le_pow_right (by omega) (by omega)
  have hn64 : n < 18446744073709551616 := by omega
  have h0 : (BitVec.ofInt 64 (n : Int)).toNat = n := by rw [BitVec.toNat_ofInt]; omega
  have h1 : (BitVec.ofInt 64 ((2 ^ k : Nat) : Int)).toNat = 2 ^ k := by rw [BitVec.toNat_ofInt]; omega
  have key : (BitVec.ofInt 64 (n : Int) &&& ~~~ (BitVec.ofInt 64 ((2 ^ k : Nat) : Int))).toNat = n % 2 ^ k := by
    apply Nat.eq_of_testBit_eq
    intro i
    rw [← BitVec.getLsbD, BitVec.getLsbD_and, BitVec.getLsbD_not, BitVec.getLsbD, BitVec.getLsbD, h0, h1, Nat.testBit_mod_two_pow, Nat.testBit_two_pow]
    by_cases hik : i < k
    · have h2 : ¬ k = i := by omega
      have h3 : i < 64 := by omega
      simp [hik, h2, h3]
    · by_cases hie : k = i
      · simp [hie]
      · have h4 : n.testBit i = false := Nat.testBit_lt_two_pow (Nat.lt_of_lt_of_le hn (Nat.pow_le_pow_right (by omega) (by omega)))
        simp [hik, h4]
  have hmod : n % 2 ^ k ≤ n := Nat.mod_le _ _
  show IntKind.u64.wrap ((BitVec.ofInt 64 (n : Int) &&& ~~~ (BitVec.ofInt 64 ((2 ^ k : Nat) : Int))).toNat : Nat) = _
  rw [key, IntKind.wrap_u64]
  omega

theorem bias64_any (w : World) : Calls Tryz.prog 49 #[.int .i64 64] w fun e w' => e = .returned (.int .i64 1023) ∧ w = w' := by
  go_enter Tryz.func49, Tryz.ntmps49
  go_wp2
  go_ret
  exact ⟨rfl, rfl⟩
theorem bias32_any (w : World) : Calls Tryz.prog 49 #[.int .i64 32] w fun e w' => e = .returned (.int .i64 127) ∧ w = w' := by
  go_enter Tryz.func49, Tryz.ntmps49
  go_wp2
  go_ret
  exact ⟨rfl, rfl⟩
theorem frac64_any (w : World) : Calls Tryz.prog 48 #[.int .i64 64] w fun e w' => e = .returned (.int .i64 52) ∧ w = w' := by
  go_enter Tryz.func48, Tryz.ntmps48
  go_wp2
  go_ret
  exact ⟨rfl, rfl⟩
theorem frac32_any (w : World) : Calls Tryz.prog 48 #[.int .i64 32] w fun e w' => e = .returned (.int .i64 23) ∧ w = w' := by
  go_enter Tryz.func48, Tryz.ntmps48
  go_wp2
  go_ret
  exact ⟨rfl, rfl⟩
theorem sign64_any (w : World) : Calls Tryz.prog 28 #[.int .i64 64] w fun e w' => e = .returned (.int .u64 9223372036854775808) ∧ w = w' := by
  go_enter Tryz.func28, Tryz.ntmps28
  go_wp2
  go_ret
  exact ⟨rfl, rfl⟩
theorem sign32_any (w : World) : Calls Tryz.prog 28 #[.int .i64 32] w fun e w' => e = .returned (.int .u64 2147483648) ∧ w = w' := by
  go_enter Tryz.func28, Tryz.ntmps28
  go_wp2
  go_ret
  exact ⟨rfl, rfl⟩
theorem inf64_any (w : World) : Calls Tryz.prog 38 #[.int .i64 64] w fun e w' => e = .returned (.int .u64 9218868437227405312) ∧ w = w' := by
  go_enter Tryz.func38, Tryz.ntmps38
  go_wp2_with (first | (go_at_call 49; refine (bias64_any _).mono ?_; rintro e w' ⟨rfl, rfl⟩) | (go_at_call 48; refine (frac64_any _).mono ?_; rintro e w' ⟨rfl, rfl⟩))
  go_ret
  exact ⟨rfl, rfl⟩
theorem inf32_any (w : World) : Calls Tryz.prog 38 #[.int .i64 32] w fun e w' => e = .returned (.int .u64 2139095040) ∧ w = w' := by
  go_enter Tryz.func38, Tryz.ntmps38
  go_wp2_with (first | (go_at_call 49; refine (bias32_any _).mono ?_; rintro e w' ⟨rfl, rfl⟩) | (go_at_call 48; refine (frac32_any _).mono ?_; rintro e w' ⟨rfl, rfl⟩))
  go_ret
  exact ⟨rfl, rfl⟩

theorem kind64_any (b : Nat) (w : World) (hb : b < 18446744073709551616) : Calls Tryz.prog 23 #[.int .i64 64, .int .u64 (b : Int)] w fun e w' => e = .returned (.int .i64 (kindB 9218868437227405312 9223372036854775808 b)) ∧ w = w' := by
  have hand : bits .andNot .u64 (b : Int) 9223372036854775808 = ((b % 9223372036854775808 : Nat) : Int) := u64_andNot_top b 63 (by omega) (by omega)
  obtain ⟨m, hm⟩ : ∃ m, b % 9223372036854775808 = m := ⟨_, rfl⟩
  rw [hm] at hand
  rcases Nat.lt_trichotomy m 9218868437227405312 with h | h | h
  · have hk := kindB_0 (inf := 9218868437227405312) hm h
    have h1 : (m : Int) < 9218868437227405312 := by omega
    have HK := Lib.hid hk
    clear hk h hm
    go_enter Tryz.func23, Tryz.ntmps23
    go_wp2_with (first | (go_at_call 28; refine (sign64_any _).mono ?_; rintro e w' ⟨rfl, rfl⟩) | (go_at_call 38; refine (inf64_any _).mono ?_; rintro e w' ⟨rfl, rfl⟩))
    go_ret
    exact ⟨by rw [HK.out]; rfl, rfl⟩
  · have hk := kindB_1 (inf := 9218868437227405312) hm h
    have h1 : decide ((m : Int) < 9218868437227405312) = false := by simp; omega
    have h2 : ((m : Int) == 9218868437227405312) = true := by rw [beq_iff_eq]; omega
    have HK := Lib.hid hk
    clear hk h hm
    go_enter Tryz.func23, Tryz.ntmps23
    go_wp2_with (first | (go_at_call 28; refine (sign64_any _).mono ?_; rintro e w' ⟨rfl, rfl⟩) | (go_at_call 38; refine (inf64_any _).mono ?_; rintro e w' ⟨rfl, rfl⟩))
    go_ret
    exact ⟨by rw [HK.out]; rfl, rfl⟩
  · have hk := kindB_2 (inf := 9218868437227405312) hm h
    have h1 : decide ((m : Int) < 9218868437227405312) = false := by simp; omega
    have h2 : ((m : Int) == 9218868437227405312) = false := by rw [beq_eq_false_iff_ne]; omega
    have HK := Lib.hid hk
    clear hk h hm
    go_enter Tryz.func23, Tryz.ntmps23
    go_wp2_with (first | (go_at_call 28; refine (sign64_any _).mono ?_; rintro e w' ⟨rfl, rfl⟩) | (go_at_call 38; refine (inf64_any _).mono ?_; rintro e w' ⟨rfl, rfl⟩))
    go_ret
    exact ⟨by rw [HK.out]; rfl, rfl⟩

theorem kind32_any (b : Nat) (w : World) (hb : b < 4294967296) : Calls Tryz.prog 23 #[.int .i64 32, .int .u64 (b : Int)] w fun e w' => e = .returned (.int .i64 (kindB 2139095040 2147483648 b)) ∧ w = w' := by
  have hand : bits .andNot .u64 (b : Int) 2147483648 = ((b % 2147483648 : Nat) : Int) := u64_andNot_top b 31 (by omega) (by omega)
  obtain ⟨m, hm⟩ : ∃ m, b % 2147483648 = m := ⟨_, rfl⟩
  rw [hm] at hand
  rcases Nat.lt_trichotomy m 2139095040 with h | h | h
  · have hk := kindB_0 (inf := 2139095040) hm h
    have h1 : (m : Int) < 2139095040 := by omega
    have HK := Lib.hid hk
    clear hk h hm
    go_enter Tryz.func23, Tryz.ntmps23
    go_wp2_with (first | (go_at_call 28; refine (sign32_any _).mono ?_; rintro e w' ⟨rfl, rfl⟩) | (go_at_call 38; refine (inf32_any _).mono ?_; rintro e w' ⟨rfl, rfl⟩))
    go_ret
    exact ⟨by rw [HK.out]; rfl, rfl⟩
  · have hk := kindB_1 (inf := 2139095040) hm h
    have h1 : decide ((m : Int) < 2139095040) = false := by simp; omega
    have h2 : ((m : Int) == 2139095040) = true := by rw [beq_iff_eq]; omega
    have HK := Lib.hid hk
    clear hk h hm
    go_enter Tryz.func23, Tryz.ntmps23
    go_wp2_with (first | (go_at_call 28; refine (sign32_any _).mono ?_; rintro e w' ⟨rfl, rfl⟩) | (go_at_call 38; refine (inf32_any _).mono ?_; rintro e w' ⟨rfl, rfl⟩))
    go_ret
    exact ⟨by rw [HK.out]; rfl, rfl⟩
  · have hk := kindB_2 (inf := 2139095040) hm h
    have h1 : decide ((m : Int) < 2139095040) = false := by simp; omega
    have h2 : ((m : Int) == 2139095040) = false := by rw [beq_eq_false_iff_ne]; omega
    have HK := Lib.hid hk
    clear hk h hm
    go_enter Tryz.func23, Tryz.ntmps23
    go_wp2_with (first | (go_at_call 28; refine (sign32_any _).mono ?_; rintro e w' ⟨rfl, rfl⟩) | (go_at_call 38; refine (inf32_any _).mono ?_; rintro e w' ⟨rfl, rfl⟩))
    go_ret
    exact ⟨by rw [HK.out]; rfl, rfl⟩
end Go.Proofs.YticlnihjhcepkaaGreatDoor

/-
  Walk of spec/digits.go: rounded.
-/
namespace Go.Proofs.YticlnihjhcepkaaGreatDoor
open Go.RowKit
set_option linter.unusedSimpArgs false
set_option linter.unusedVariables false

/-- a by b, to the nearest natural number, of two the even one. -/
def rndE (a b : Nat) : Nat := if b < 2 * (a % b) ∨ (2 * (a % b) = b ∧ a / b % 2 = 1) then a / b + 1 else a / b

set_option maxRecDepth 10000 in
set_option maxHeartbeats 4000000 in
theorem rounded_any (neg : Bool) (vn vd : Value) (a b : Nat) (w : World) (hr1 : NatV w vn a) (hr2 : NatV w vd b) (hb : 0 < b) (hx1 : (natL a).length ≤ 80000) (hx2 : (natL b).length ≤ 80000) :
    Calls Tryz.prog 51 #[.agg #[.bool neg, vn, vd]] w fun e w' => ∃ v', e = .returned v' ∧ NatV w' v' (rndE a b) ∧ w.grownBy w' none := by
  obtain ⟨a1, c1, rfl⟩ := hr1.len
  obtain ⟨a2, c2, rfl⟩ := hr2.len
  obtain ⟨N1, hN1⟩ : ∃ N, (natL a).length = N := ⟨_, rfl⟩
  obtain ⟨N2, hN2⟩ : ∃ N, (natL b).length = N := ⟨_, rfl⟩
  simp only [hN1] at hr1 ⊢
  simp only [hN2] at hr2 ⊢
  have hlq : (natL (a / b)).length ≤ 80000 := Nat.le_trans (natL_mono (Nat.div_le_self _ _)) hx1
  have hlr : (natL (a % b)).length ≤ 80000 := Nat.le_trans (natL_mono (Nat.le_of_lt (Nat.mod_lt _ hb))) hx2
  have hrb := Nat.mod_lt a hb
  have hl2 : (natL (a % b * 2 ^ 1)).length ≤ 80001 := by
    obtain ⟨K, hK⟩ : ∃ K, K = 80000 := ⟨_, rfl⟩
    rw [← hK] at hx2
    rw [show 80001 = K + 1 by omega]
    refine natL_len_le ?_
    have h1 := natL_lt b
    have h2 : 1073741824 ^ (natL b).length ≤ 1073741824 ^ K := Nat.pow_le_pow_right (by decide) hx2
    generalize 1073741824 ^ (natL b).length = Y at h1 h2
    have e : 1073741824 ^ (K + 1) = 1073741824 ^ K * 1073741824 := Nat.pow_succ ..
    rw [e]
    generalize 1073741824 ^ K = Z at h2 ⊢
    omega
  rw [hN1] at hx1
  rw [hN2] at hx2
  have HN1 := Lib.hid hN1
  have HN2 := Lib.hid hN2
  have HR1 := Lib.hid hr1
  have HR2 := Lib.hid hr2
  have HD := Lib.hid (fun (W : World) (h : w.grownBy W none) => divNat_any (.slice a1 N1 c1) (.slice a2 N2 c2) a b W (hr1.grown h) (hr2.grown h) hb (by rw [hN1]; omega) (by rw [hN2]; omega))
  have HSH := Lib.hid (fun (V : Value) (W : World) (h : NatV W V (a % b)) => shiftNat_any V (a % b) 1 W h (by omega) (by omega))
  have hcm := fun (V : Value) (W : World) (h : NatV W V (a % b * 2 ^ 1)) (hg : w.grownBy W none) => cmpNat_any V (.slice a2 N2 c2) (a % b * 2 ^ 1) b W h (hr2.grown hg) (by omega) (by rw [hN2]; omega)
  have HON := Lib.hid (fun W => natOf_any 1 W (by decide))
  have HAD := Lib.hid (fun (V U : Value) (W : World) (h1 : NatV W V (a / b)) (h2 : NatV W U 1) => addNat_any V U (a / b) 1 W h1 h2 (by omega) (by rw [natL_pos (by decide), natL_zero']; simp))
  have HCM := Lib.hid hcm
  have HG0 := Lib.hid (World.grownBy_alloc w (.cells #[.bool neg, .slice a1 N1 c1, .slice a2 N2 c2] 45) none)
  clear hr1 hr2 hN1 hN2 hcm
  refine calls_F Tryz.func51 rfl (by rw [Tryz.ntmps51]; simp) ?_
  intro σ hσ
  rw [Tryz.ntmps51]
  have s0 : σ 0 = .agg #[.bool neg, .slice a1 N1 c1, .slice a2 N2 c2] := hσ 0 (by simp)
  clear hσ
  ((repeat (go_wp2_with fail; first | (refine cdY ?_ ?_; focus (simp [ov, *]; done)) | (refine cdN ?_ ?_; focus (simp [ov, *]; done)))); go_wp2_with fail)
  refine (HD.out _ HG0.out).mono ?_
  rintro e w1 ⟨vq, vr, rfl, hnq, hnr, hg1⟩
  have hc0 : (w.alloc (.cells #[.bool neg, .slice a1 N1 c1, .slice a2 N2 c2] 45)).cell? ⟨w.heap.size, 2, none⟩ = some (.slice a2 N2 c2) := (Row.new w [.bool neg, .slice a1 N1 c1, .slice a2 N2 c2] 45).cell 2
  have hc1 := cellI_grown hg1 hc0
  obtain ⟨aq, cq, rfl⟩ := hnq.len
  obtain ⟨M, hM⟩ : ∃ M, (natL (a / b)).length = M := ⟨_, rfl⟩
  simp only [hM] at hnq ⊢
  have HM := Lib.hid hM
  have HNQ := Lib.hid hnq
  have HNR := Lib.hid hnr
  have HG1 := Lib.hid (grown_none_tr HG0.out hg1)
  have HC1 := Lib.hid hc1
  generalize w.heap.size = B0 at *
  clear hnq hnr hg1 hc0 hc1 hM HD HG0
  ((repeat (go_wp2_with fail; first | (refine cdY ?_ ?_; focus (simp [ov, *]; done)) | (refine cdN ?_ ?_; focus (simp [ov, *]; done)))); go_wp2_with fail)
  refine (HSH.out _ _ HNR.out).mono ?_
  rintro e w2 ⟨v2, rfl, hn2, hg2⟩
  have hc2 := cellI_grown hg2 HC1.out
  have HN2' := Lib.hid hn2
  have HNQ2 := Lib.hid (HNQ.out.grown hg2)
  have HG2 := Lib.hid (grown_none_tr HG1.out hg2)
  clear hn2 hg2
  ((repeat (go_wp2_with fail; first | (refine cdY ?_ ?_; focus (simp [ov, *]; done)) | (refine cdN ?_ ?_; focus (simp [ov, *]; done)))); go_wp2_with fail)
  have hcmp := HCM.out _ _ HN2'.out HG2.out
  obtain ⟨κ, hκ⟩ : ∃ κ, cmpN (a % b * 2 ^ 1) b = κ := ⟨_, rfl⟩
  rw [hκ] at hcmp
  have HK := Lib.hid hκ
  refine hcmp.mono ?_
  rintro e w3 ⟨rfl, hg3⟩
  have HNQ3 := Lib.hid (HNQ2.out.grown hg3)
  have HG3 := Lib.hid (grown_none_tr HG2.out hg3)
  clear hκ hcmp hg3 hc2
  obtain ⟨q, hq⟩ : ∃ q, a / b = q := ⟨_, rfl⟩
  obtain ⟨r, hr⟩ : ∃ r, a % b = r := ⟨_, rfl⟩
  have hrnd : rndE a b = if b < 2 * r ∨ (2 * r = b ∧ q % 2 = 1) then q + 1 else q := by unfold rndE; rw [hq, hr]
  rw [hq] at HNQ3 HAD HM
  rw [hr] at HK
  have HRND := Lib.hid hrnd
  clear hq hr hrnd hlq hlr hrb hl2
  by_cases h1 : b < 2 * r
  · have hk : κ = 1 := by rw [← HK.out]; exact cmpN_gt (by omega)
    subst hk
    have hun : undef = Value.tuple #[] := rfl
    ((repeat (go_wp2_with fail; first | (refine cdY ?_ ?_; focus (simp [ov, *]; done)) | (refine cdN ?_ ?_; focus (simp [ov, *]; done)))); go_wp2_with fail)
    refine (HON.out _).mono ?_
    rintro e w4 ⟨v4, rfl, hn4, hg4⟩
    have HN4 := Lib.hid hn4
    have HG4 := Lib.hid hg4
    clear hn4 hg4
    ((repeat (go_wp2_with fail; first | (refine cdY ?_ ?_; focus (simp [ov, *]; done)) | (refine cdN ?_ ?_; focus (simp [ov, *]; done)))); go_wp2_with fail)
    refine (HAD.out _ _ _ (HNQ3.out.grown HG4.out) HN4.out).mono ?_
    rintro e w5 ⟨v5, rfl, hn5, hg5⟩
    have HN5 := Lib.hid hn5
    have HG5 := Lib.hid (grown_none_tr HG3.out (grown_none_tr HG4.out hg5))
    clear hn5 hg5
    ((repeat (go_wp2_with fail; first | (refine cdY ?_ ?_; focus (simp [ov, *]; done)) | (refine cdN ?_ ?_; focus (simp [ov, *]; done)))); go_wp2_with fail)
    refine ret_F v5 rfl (by decide) (by simp [ov, *]) ⟨v5, rfl, ?_, HG5.out⟩
    rw [HRND.out, if_pos (by omega)]
    exact HN5.out
  by_cases h2 : 2 * r = b
  · have hk : κ = 0 := by rw [← HK.out]; exact cmpN_eq (by omega)
    subst hk
    by_cases hq0 : q = 0
    · have hM0 : M = 0 := by have := HM.out; rw [hq0, natL_zero] at this; simpa using this.symm
      subst hM0
      ((repeat (go_wp2_with fail; first | (refine cdY ?_ ?_; focus (simp [ov, *]; done)) | (refine cdN ?_ ?_; focus (simp [ov, *]; done)))); go_wp2_with fail)
      refine ret_F (.slice aq 0 cq) rfl (by decide) (by simp [ov, *]) ⟨_, rfl, ?_, HG3.out⟩
      rw [HRND.out, if_neg (by omega)]
      exact HNQ3.out
    · have hMp : 0 < M := by
        have := natL_ne hq0
        have h5 := HM.out
        cases hr : natL q with
        | nil => exact absurd hr this
        | cons y s => rw [hr] at h5; simp at h5; omega
      have hMp1 : (0 : Int) < (M : Int) := by omega
      obtain ⟨g, rfl, hLL, hcc, hm, hcell⟩ := RdI.at HNQ3.out (natL_ne hq0)
      have hx0 : (natL q)[0]? = some (q % 1073741824) := by rw [natL_pos hq0]; rfl
      have hcq := hcell 0 _ hx0
      unfold encI at hcq
      obtain ⟨x, hx⟩ : ∃ x, q % 1073741824 = x := ⟨_, rfl⟩
      rw [hx] at hcq
      have hxq : x % 2 = q % 2 := by omega
      have hxl : x < 1073741824 := by omega
      have HXQ := Lib.hid hxq
      clear hcell hx0 hx hxq hLL
      by_cases hodd : x % 2 = 1
      · have f1 : ((x : Int) % 2 == 1) = true := by rw [beq_iff_eq]; omega
        have hqo : q % 2 = 1 := by rw [← HXQ.out]; exact hodd
        ((repeat (go_wp2_with fail; first | (refine cdY ?_ ?_; focus (simp [ov, *]; done)) | (refine cdN ?_ ?_; focus (simp [ov, *]; done)))); go_wp2_with fail)
        refine (HON.out _).mono ?_
        rintro e w4 ⟨v4, rfl, hn4, hg4⟩
        have HN4 := Lib.hid hn4
        have HG4 := Lib.hid hg4
        clear hn4 hg4
        ((repeat (go_wp2_with fail; first | (refine cdY ?_ ?_; focus (simp [ov, *]; done)) | (refine cdN ?_ ?_; focus (simp [ov, *]; done)))); go_wp2_with fail)
        refine (HAD.out _ _ _ (HNQ3.out.grown HG4.out) HN4.out).mono ?_
        rintro e w5 ⟨v5, rfl, hn5, hg5⟩
        have HN5 := Lib.hid hn5
        have HG5 := Lib.hid (grown_none_tr HG3.out (grown_none_tr HG4.out hg5))
        clear hn5 hg5
        ((repeat (go_wp2_with fail; first | (refine cdY ?_ ?_; focus (simp [ov, *]; done)) | (refine cdN ?_ ?_; focus (simp [ov, *]; done)))); go_wp2_with fail)
        refine ret_F v5 rfl (by decide) (by simp [ov, *]) ⟨v5, rfl, ?_, HG5.out⟩
        rw [HRND.out, if_pos (by omega)]
        exact HN5.out
      · have f1 : ((x : Int) % 2 == 1) = false := by rw [beq_eq_false_iff_ne]; omega
        ((repeat (go_wp2_with fail; first | (refine cdY ?_ ?_; focus (simp [ov, *]; done)) | (refine cdN ?_ ?_; focus (simp [ov, *]; done)))); go_wp2_with fail)
        refine ret_F (.slice (some ⟨g, 0, none⟩) M cq) rfl (by decide) (by simp [ov, *]) ⟨_, rfl, ?_, HG3.out⟩
        rw [HRND.out, if_neg (by have := HXQ.out; omega)]
        exact HNQ3.out
  · have hk : κ = -1 := by rw [← HK.out]; exact cmpN_lt (by omega)
    subst hk
    ((repeat (go_wp2_with fail; first | (refine cdY ?_ ?_; focus (simp [ov, *]; done)) | (refine cdN ?_ ?_; focus (simp [ov, *]; done)))); go_wp2_with fail)
    refine ret_F (.slice aq M cq) rfl (by decide) (by simp [ov, *]) ⟨_, rfl, ?_, HG3.out⟩
    rw [HRND.out, if_neg (by omega)]
    exact HNQ3.out
end Go.Proofs.YticlnihjhcepkaaGreatDoor

/-
  Walk of spec/nat.go: scaled.
-/
namespace Go.Proofs.YticlnihjhcepkaaGreatDoor
open Go.RowKit
set_option linter.unusedSimpArgs false
set_option linter.unusedVariables false

/-- A store into a block that begins with a bool leaves a number as it is. -/
theorem NatV.setB {w : World} {v : Value} {n B k : Nat} {f : Bool} {u : Value} (h : NatV w v n) (hc : w.cell? ⟨B, 0, none⟩ = some (.bool f)) : NatV (w.setCell ⟨B, k, none⟩ u) v n := by
  rcases h with h | ⟨g, c, h1, h2, h3, h4⟩
  · exact Or.inl h
  · refine Or.inr ⟨g, c, h1, h2, h3, fun j x hx => ?_⟩
    have hne : g ≠ B := by
      intro e
      subst e
      obtain ⟨y, hy⟩ : ∃ y, (natL n)[0]? = some y := by
        cases hl : natL n with
        | nil => rw [hl] at hx; simp at hx
        | cons y s => exact ⟨y, rfl⟩
      have := h4 0 y hy
      rw [hc] at this
      unfold encI at this
      cases this
    have hb : (w.setCell ⟨B, k, none⟩ u).heap[(⟨g, j, none⟩ : Addr).block]? = w.heap[(⟨g, j, none⟩ : Addr).block]? := Below.heap_setCell w ⟨B, k, none⟩ u g hne
    rw [World.cell?_of_block hb]
    exact h4 j x hx

set_option maxRecDepth 10000 in
set_option maxHeartbeats 4000000 in
theorem scaledUp_any (v : Value) (n base E : Nat) (w : World) (hr : NatV w v n) (hn : (natL n).length ≤ 20000) (hb0 : 1 ≤ base) (hb : base < 18446744073709551616) (hE : E ≤ 30000) :
    Calls Tryz.prog 45 #[v, .int .u64 (base : Int), .int .i64 (E : Int)] w fun e w' => ∃ vn vd, e = .returned (.agg #[.bool false, vn, vd]) ∧ NatV w' vn (n * base ^ E) ∧ NatV w' vd 1 ∧ w.grownBy w' none := by
  have HP := Lib.hid (fun W => powNat_any base E W hb0 hb hE)
  have hl := pow_len base E (base ^ E) hb hE (Nat.le_refl _)
  have HM := Lib.hid (fun (V : Value) (W : World) (hW : w.grownBy W none) (h : NatV W V (base ^ E)) => mulNat_any v V n (base ^ E) W (hr.grown hW) h (by omega) (by omega))
  have HO := Lib.hid (fun W => natOf_any 1 W (by decide))
  have HG0 := Lib.hid (fun o => World.grownBy_alloc w o none)
  have hE0 : (0 : Int) ≤ (E : Int) := by omega
  clear hr hl
  go_enter Tryz.func45, Tryz.ntmps45
  go_wp2_with fail
  refine (HP.out _).mono ?_
  rintro e w1 ⟨v1, rfl, hn1, hg1⟩
  have HR1 := Lib.hid (Row.grown (Row.new w [Value.bool false, .slice none 0 0, .slice none 0 0] 45) hg1 (by simp))
  have HN1 := Lib.hid hn1
  have HG1 := Lib.hid (grown_none_tr (HG0.out _) hg1)
  clear hn1 hg1
  go_wp2_with fail
  refine (HM.out _ _ HG1.out HN1.out).mono ?_
  rintro e w2 ⟨v2, rfl, hn2, hg2⟩
  have HN2 := Lib.hid hn2
  have HG2 := Lib.hid hg2
  clear hn2 hg2
  go_wp2_with fail
  refine (HO.out _).mono ?_
  rintro e w3 ⟨v3, rfl, hn3, hg3⟩
  have hr3 := (HR1.out.grown HG2.out (by simp)).grown hg3 (by simp)
  have hn2 := HN2.out.grown hg3
  obtain ⟨B, hB⟩ : ∃ B, w.heap.size = B := ⟨_, rfl⟩
  rw [hB] at hr3
  simp only [hB]
  have k0 := hr3.cell 0
  have k1 := hr3.cell 1
  have k2 := hr3.cell 2
  have f0 := hr3.frozen 0
  have f1 := hr3.frozen 1
  have f2 := hr3.frozen 2
  simp only [List.getElem?_cons_zero, List.getElem?_cons_succ] at k0 k1 k2
  have HG3 := Lib.hid (grown_none_tr HG1.out (grown_none_tr HG2.out hg3))
  obtain ⟨a2, c2, rfl⟩ := hn2.len
  obtain ⟨a3, c3, rfl⟩ := hn3.len
  generalize (natL (n * base ^ E)).length = L2 at hn2 ⊢
  generalize (natL 1).length = L3 at hn3 ⊢
  have HN2' := Lib.hid hn2
  have HN3 := Lib.hid hn3
  have HB := Lib.hid hB
  have HK0 := Lib.hid k0
  have HR3 := Lib.hid hr3
  clear hn2 hn3 hg3 hr3 hB HN2 HG2 HR1 HN1 HG1
  go_wp2_with fail
  obtain ⟨ty, hrow⟩ := ((HR3.out.setCell 0 (.bool false)).setCell 1 (.slice a2 L2 c2)).setCell 2 (.slice a3 L3 c3)
  have HN2 := HN2'.out
  have hk0 := HK0.out
  refine bodyPost_ret (v := .agg #[.bool false, .slice a2 L2 c2, .slice a3 L3 c3]) (results_cell_row rfl _ _ B ty _ (0, 0) _ rfl hrow Tryz.underlying45 rfl (by kernel_rfl)) rfl ⟨_, _, rfl, ?_, ?_, ?_⟩
  · refine NatV.setB (f := false) (NatV.setB (f := false) (NatV.setB (f := false) HN2 hk0) ?_) ?_
    · exact (HR3.out.setCell 0 (.bool false)).cell 0
    · exact ((HR3.out.setCell 0 (.bool false)).setCell 1 (.slice a2 L2 c2)).cell 0
  · refine NatV.setB (f := false) (NatV.setB (f := false) (NatV.setB (f := false) HN3.out hk0) ?_) ?_
    · exact (HR3.out.setCell 0 (.bool false)).cell 0
    · exact ((HR3.out.setCell 0 (.bool false)).setCell 1 (.slice a2 L2 c2)).cell 0
  · exact grown_setN (grown_setN (grown_setN HG3.out _ (Nat.le_of_eq HB.out)) _ (Nat.le_of_eq HB.out)) _ (Nat.le_of_eq HB.out)

set_option maxRecDepth 10000 in
set_option maxHeartbeats 4000000 in
theorem scaledDown_any (v : Value) (n base E : Nat) (w : World) (hr : NatV w v n) (hE1 : 1 ≤ E) (hb0 : 1 ≤ base) (hb : base < 18446744073709551616) (hE : E ≤ 30000) :
    Calls Tryz.prog 45 #[v, .int .u64 (base : Int), .int .i64 (-(E : Int))] w fun e w' => ∃ vn vd, e = .returned (.agg #[.bool false, vn, vd]) ∧ NatV w' vn n ∧ NatV w' vd (base ^ E) ∧ w.grownBy w' none := by
  have HP := Lib.hid (fun W => powNat_any base E W hb0 hb hE)
  have HG0 := Lib.hid (fun o => World.grownBy_alloc w o none)
  have hE0 : decide ((0 : Int) ≤ -(E : Int)) = false := by simp; omega
  have hE2 : decide (E = 0) = false := by simp; omega
  obtain ⟨a2, c2, rfl⟩ := hr.len
  generalize (natL n).length = L2 at hr ⊢
  have HV := Lib.hid hr
  clear hr
  go_enter Tryz.func45, Tryz.ntmps45
  go_wp2_with fail
  refine (HP.out _).mono ?_
  rintro e w3 ⟨v3, rfl, hn3, hg3⟩
  have hr3 := Row.grown (Row.new w [Value.bool false, .slice none 0 0, .slice none 0 0] 45) hg3 (by simp)
  obtain ⟨B, hB⟩ : ∃ B, w.heap.size = B := ⟨_, rfl⟩
  rw [hB] at hr3
  simp only [hB]
  have k0 := hr3.cell 0
  have k1 := hr3.cell 1
  have k2 := hr3.cell 2
  have f0 := hr3.frozen 0
  have f1 := hr3.frozen 1
  have f2 := hr3.frozen 2
  simp only [List.getElem?_cons_zero, List.getElem?_cons_succ] at k0 k1 k2
  have HG3 := Lib.hid (grown_none_tr (HG0.out _) hg3)
  have HN2' := Lib.hid (HV.out.grown HG3.out)
  obtain ⟨a3, c3, rfl⟩ := hn3.len
  generalize (natL (base ^ E)).length = L3 at hn3 ⊢
  have HN3 := Lib.hid hn3
  have HB := Lib.hid hB
  have HK0 := Lib.hid k0
  have HR3 := Lib.hid hr3
  clear hn3 hg3 hr3 hB
  go_wp2_with fail
  obtain ⟨ty, hrow⟩ := ((HR3.out.setCell 0 (.bool false)).setCell 1 (.slice a2 L2 c2)).setCell 2 (.slice a3 L3 c3)
  have HN2 := HN2'.out
  have hk0 := HK0.out
  refine bodyPost_ret (v := .agg #[.bool false, .slice a2 L2 c2, .slice a3 L3 c3]) (results_cell_row rfl _ _ B ty _ (0, 0) _ rfl hrow Tryz.underlying45 rfl (by kernel_rfl)) rfl ⟨_, _, rfl, ?_, ?_, ?_⟩
  · refine NatV.setB (f := false) (NatV.setB (f := false) (NatV.setB (f := false) HN2 hk0) ?_) ?_
    · exact (HR3.out.setCell 0 (.bool false)).cell 0
    · exact ((HR3.out.setCell 0 (.bool false)).setCell 1 (.slice a2 L2 c2)).cell 0
  · refine NatV.setB (f := false) (NatV.setB (f := false) (NatV.setB (f := false) HN3.out hk0) ?_) ?_
    · exact (HR3.out.setCell 0 (.bool false)).cell 0
    · exact ((HR3.out.setCell 0 (.bool false)).setCell 1 (.slice a2 L2 c2)).cell 0
  · exact grown_setN (grown_setN (grown_setN HG3.out _ (Nat.le_of_eq HB.out)) _ (Nat.le_of_eq HB.out)) _ (Nat.le_of_eq HB.out)
end Go.Proofs.YticlnihjhcepkaaGreatDoor

/-
  Walk of spec/value.go: parts.
-/
namespace Go.Proofs.YticlnihjhcepkaaGreatDoor
open Go.RowKit
set_option linter.unusedSimpArgs false
set_option linter.unusedVariables false

set_option maxRecDepth 10000 in
set_option maxHeartbeats 4000000 in
theorem parts64_any (n : Nat) (w : World) (hn : n < 18446744073709551616) :
    Calls Tryz.prog 44 #[.int .i64 64, .int .u64 (n : Int)] w fun e w' => e = .returned (.tuple #[.int .u64 (if n % 9223372036854775808 / 4503599627370496 = 0 then n % 9223372036854775808 % 4503599627370496 else n % 9223372036854775808 % 4503599627370496 + 4503599627370496 : Nat), .int .i64 ((if n % 9223372036854775808 / 4503599627370496 = 0 then 1 else ((n % 9223372036854775808 / 4503599627370496 : Nat) : Int)) - 1023 - 52)]) ∧ w.grownBy w' none := by
  obtain ⟨q, hq⟩ : ∃ q, n % 9223372036854775808 = q := ⟨_, rfl⟩
  have hand : bits .andNot .u64 (n : Int) 9223372036854775808 = (q : Int) := by rw [← hq]; exact u64_andNot_top n 63 (by omega) (by omega)
  rw [hq]
  obtain ⟨e, he⟩ : ∃ e, q / 4503599627370496 = e := ⟨_, rfl⟩
  obtain ⟨s, hs⟩ : ∃ s, q % 4503599627370496 = s := ⟨_, rfl⟩
  rw [he, hs]
  have hql : q < 9223372036854775808 := by rw [← hq]; exact Nat.mod_lt _ (by decide)
  have hes : s + e * 4503599627370496 = q := by omega
  have hel : e < 2048 := by omega
  have hsl : s < 4503599627370496 := by omega
  have hdv : ∀ [Inhabited Nat], (q : Int) / 4503599627370496 = (e : Int) := by intro _; omega
  have hdv2 : ∀ [Inhabited Nat], (q : Int) / 2 ^ 52 = (e : Int) := by
    intro _
    have h1 : ((2 : Int) ^ 52) = 4503599627370496 := by decide
    rw [h1]; omega
  have hml : ∀ [Inhabited Nat], IntKind.u64.wrap ((e : Int) * 2 ^ 52) = ((e * 4503599627370496 : Nat) : Int) := by
    intro _
    have h1 : ((2 : Int) ^ 52) = 4503599627370496 := by decide
    rw [h1, IntKind.wrap_u64]; omega
  have hsub : ∀ [Inhabited Nat], IntKind.u64.wrap ((q : Int) - (e : Int) * 4503599627370496) = (s : Int) := by intro _; rw [IntKind.wrap_u64]; omega
  have hw0 : ∀ [Inhabited Nat], IntKind.u64.wrap 4503599627370496 = 4503599627370496 := by intro _; rw [IntKind.wrap_u64]; omega
  have hadd : ∀ [Inhabited Nat], IntKind.u64.wrap ((s : Int) + 4503599627370496) = (s : Int) + 4503599627370496 := by intro _; rw [IntKind.wrap_u64]; omega
  have hex1 : ∀ [Inhabited Nat], IntKind.i64.wrap ((e : Int) - 1023) = (e : Int) - 1023 := by intro _; exact IntWalk.i64_in _ (by omega)
  have hex2 : ∀ [Inhabited Nat], IntKind.i64.wrap ((e : Int) - 1023 - 52) = (e : Int) - 1023 - 52 := by intro _; exact IntWalk.i64_in _ (by omega)
  have HES := Lib.hid hes
  clear hq he hs hes
  refine calls_F Tryz.func44 rfl (by rw [Tryz.ntmps44]; simp) ?_
  intro σ hσ
  rw [Tryz.ntmps44]
  have s0 : σ 0 = .int .i64 64 := hσ 0 (by simp)
  have s1 : σ 1 = .int .u64 (n : Int) := hσ 1 (by simp)
  clear hσ
  ((repeat (go_wp2_with fail; first | (refine cdY ?_ ?_; focus (simp [ov, *]; done)) | (refine cdN ?_ ?_; focus (simp [ov, *]; done)))); go_wp2_with fail)
  refine (frac64_any _).mono ?_
  rintro e1 w1 ⟨rfl, rfl⟩
  ((repeat (go_wp2_with fail; first | (refine cdY ?_ ?_; focus (simp [ov, *]; done)) | (refine cdN ?_ ?_; focus (simp [ov, *]; done)))); go_wp2_with fail)
  refine (sign64_any _).mono ?_
  rintro e1 w1 ⟨rfl, rfl⟩
  by_cases he0 : e = 0
  · subst he0
    have hqs : q = s := by have := HES.out; omega
    subst hqs
    ((repeat (go_wp2_with fail; first | (refine cdY ?_ ?_; focus (simp [ov, *]; done)) | (refine cdN ?_ ?_; focus (simp [ov, *]; done)))); go_wp2_with fail)
    refine (bias64_any _).mono ?_
    rintro e1 w1 ⟨rfl, rfl⟩
    ((repeat (go_wp2_with fail; first | (refine cdY ?_ ?_; focus (simp [ov, *]; done)) | (refine cdN ?_ ?_; focus (simp [ov, *]; done)))); go_wp2_with fail)
    exact ret_F2 (.int .u64 (q : Int)) (.int .i64 (-1074)) rfl (by decide) (by decide) (by simp [ov, *]) (by simp [ov, *]) ⟨by simp, grown_refl w none⟩
  · have f1 : ((e : Int) == 0) = false := by rw [beq_eq_false_iff_ne]; omega
    ((repeat (go_wp2_with fail; first | (refine cdY ?_ ?_; focus (simp [ov, *]; done)) | (refine cdN ?_ ?_; focus (simp [ov, *]; done)))); go_wp2_with fail)
    refine wp_region_noPanic ?_
    refine wp_region_held_drew (S := fun w' => w.grownBy w' none) (by kernel_rfl) (grown_drewN w 1 none) (fun hHeld => ?_)
    (refine take_T 0 34 ?_; refine take_T 1 35 ?_; refine take_T 2 36 ?_; refine take_T 3 37 ?_; refine take_T 4 38 ?_; refine take_T 5 39 ?_; refine take_T 8 42 ?_)
    (refine only_F 6 (oi := ?_) ?_ (by kernel_rfl) ?_ ?_; rotate_left 1; (focus ((simp only [List.getElem?_toArray, List.getElem?_cons_succ, List.getElem?_cons_zero]); rfl)); (focus (first | rfl | go_simp)); intro K hK; go_simp; (refine (bias64_any _).mono ?_; rintro e1 w9 ⟨rfl, rfl⟩); go_wp2_with fail; replace hHeld := hHeld; refine hK.out _ _ hHeld ?_; clear hK K)
    (refine take_T 7 41 ?_; refine take_T 9 43 ?_; refine take_T 10 4 ?_; refine take_T 11 5 ?_)
    refine wpAnyH_done (by kernel_rfl) ?_ _
    refine NoPanic.normal ?_
    ((repeat (go_wp2_with fail; first | (refine cdY ?_ ?_; focus (simp [ov, *]; done)) | (refine cdN ?_ ?_; focus (simp [ov, *]; done)))); go_wp2_with fail)
    exact ret_F2 (.int .u64 ((s : Int) + 4503599627370496)) (.int .i64 ((e : Int) - 1023 - 52)) rfl (by decide) (by decide) (by simp [ov, *]) (by simp [ov, *]) ⟨by simp [he0], hHeld⟩

set_option maxRecDepth 10000 in
set_option maxHeartbeats 4000000 in
theorem parts32_any (n : Nat) (w : World) (hn : n < 4294967296) :
    Calls Tryz.prog 44 #[.int .i64 32, .int .u64 (n : Int)] w fun e w' => e = .returned (.tuple #[.int .u64 (if n % 2147483648 / 8388608 = 0 then n % 2147483648 % 8388608 else n % 2147483648 % 8388608 + 8388608 : Nat), .int .i64 ((if n % 2147483648 / 8388608 = 0 then 1 else ((n % 2147483648 / 8388608 : Nat) : Int)) - 127 - 23)]) ∧ w.grownBy w' none := by
  obtain ⟨q, hq⟩ : ∃ q, n % 2147483648 = q := ⟨_, rfl⟩
  have hand : bits .andNot .u64 (n : Int) 2147483648 = (q : Int) := by rw [← hq]; exact u64_andNot_top n 31 (by omega) (by omega)
  rw [hq]
  obtain ⟨e, he⟩ : ∃ e, q / 8388608 = e := ⟨_, rfl⟩
  obtain ⟨s, hs⟩ : ∃ s, q % 8388608 = s := ⟨_, rfl⟩
  rw [he, hs]
  have hql : q < 2147483648 := by rw [← hq]; exact Nat.mod_lt _ (by decide)
  have hes : s + e * 8388608 = q := by omega
  have hel : e < 256 := by omega
  have hsl : s < 8388608 := by omega
  have hdv : ∀ [Inhabited Nat], (q : Int) / 8388608 = (e : Int) := by intro _; omega
  have hdv2 : ∀ [Inhabited Nat], (q : Int) / 2 ^ 23 = (e : Int) := by
    intro _
    have h1 : ((2 : Int) ^ 23) = 8388608 := by decide
    rw [h1]; omega
  have hml : ∀ [Inhabited Nat], IntKind.u64.wrap ((e : Int) * 2 ^ 23) = ((e * 8388608 : Nat) : Int) := by
    intro _
    have h1 : ((2 : Int) ^ 23) = 8388608 := by decide
    rw [h1, IntKind.wrap_u64]; omega
  have hsub : ∀ [Inhabited Nat], IntKind.u64.wrap ((q : Int) - (e : Int) * 8388608) = (s : Int) := by intro _; rw [IntKind.wrap_u64]; omega
  have hw0 : ∀ [Inhabited Nat], IntKind.u64.wrap 8388608 = 8388608 := by intro _; rw [IntKind.wrap_u64]; omega
  have hadd : ∀ [Inhabited Nat], IntKind.u64.wrap ((s : Int) + 8388608) = (s : Int) + 8388608 := by intro _; rw [IntKind.wrap_u64]; omega
  have hex1 : ∀ [Inhabited Nat], IntKind.i64.wrap ((e : Int) - 127) = (e : Int) - 127 := by intro _; exact IntWalk.i64_in _ (by omega)
  have hex2 : ∀ [Inhabited Nat], IntKind.i64.wrap ((e : Int) - 127 - 23) = (e : Int) - 127 - 23 := by intro _; exact IntWalk.i64_in _ (by omega)
  have HES := Lib.hid hes
  clear hq he hs hes
  refine calls_F Tryz.func44 rfl (by rw [Tryz.ntmps44]; simp) ?_
  intro σ hσ
  rw [Tryz.ntmps44]
  have s0 : σ 0 = .int .i64 32 := hσ 0 (by simp)
  have s1 : σ 1 = .int .u64 (n : Int) := hσ 1 (by simp)
  clear hσ
  ((repeat (go_wp2_with fail; first | (refine cdY ?_ ?_; focus (simp [ov, *]; done)) | (refine cdN ?_ ?_; focus (simp [ov, *]; done)))); go_wp2_with fail)
  refine (frac32_any _).mono ?_
  rintro e1 w1 ⟨rfl, rfl⟩
  ((repeat (go_wp2_with fail; first | (refine cdY ?_ ?_; focus (simp [ov, *]; done)) | (refine cdN ?_ ?_; focus (simp [ov, *]; done)))); go_wp2_with fail)
  refine (sign32_any _).mono ?_
  rintro e1 w1 ⟨rfl, rfl⟩
  by_cases he0 : e = 0
  · subst he0
    have hqs : q = s := by have := HES.out; omega
    subst hqs
    ((repeat (go_wp2_with fail; first | (refine cdY ?_ ?_; focus (simp [ov, *]; done)) | (refine cdN ?_ ?_; focus (simp [ov, *]; done)))); go_wp2_with fail)
    refine (bias32_any _).mono ?_
    rintro e1 w1 ⟨rfl, rfl⟩
    ((repeat (go_wp2_with fail; first | (refine cdY ?_ ?_; focus (simp [ov, *]; done)) | (refine cdN ?_ ?_; focus (simp [ov, *]; done)))); go_wp2_with fail)
    exact ret_F2 (.int .u64 (q : Int)) (.int .i64 (-149)) rfl (by decide) (by decide) (by simp [ov, *]) (by simp [ov, *]) ⟨by simp, grown_refl w none⟩
  · have f1 : ((e : Int) == 0) = false := by rw [beq_eq_false_iff_ne]; omega
    ((repeat (go_wp2_with fail; first | (refine cdY ?_ ?_; focus (simp [ov, *]; done)) | (refine cdN ?_ ?_; focus (simp [ov, *]; done)))); go_wp2_with fail)
    refine wp_region_noPanic ?_
    refine wp_region_held_drew (S := fun w' => w.grownBy w' none) (by kernel_rfl) (grown_drewN w 1 none) (fun hHeld => ?_)
    (refine take_T 0 34 ?_; refine take_T 1 35 ?_; refine take_T 2 36 ?_; refine take_T 3 37 ?_; refine take_T 4 38 ?_; refine take_T 5 39 ?_; refine take_T 8 42 ?_)
    (refine only_F 6 (oi := ?_) ?_ (by kernel_rfl) ?_ ?_; rotate_left 1; (focus ((simp only [List.getElem?_toArray, List.getElem?_cons_succ, List.getElem?_cons_zero]); rfl)); (focus (first | rfl | go_simp)); intro K hK; go_simp; (refine (bias32_any _).mono ?_; rintro e1 w9 ⟨rfl, rfl⟩); go_wp2_with fail; replace hHeld := hHeld; refine hK.out _ _ hHeld ?_; clear hK K)
    (refine take_T 7 41 ?_; refine take_T 9 43 ?_; refine take_T 10 4 ?_; refine take_T 11 5 ?_)
    refine wpAnyH_done (by kernel_rfl) ?_ _
    refine NoPanic.normal ?_
    ((repeat (go_wp2_with fail; first | (refine cdY ?_ ?_; focus (simp [ov, *]; done)) | (refine cdN ?_ ?_; focus (simp [ov, *]; done)))); go_wp2_with fail)
    exact ret_F2 (.int .u64 ((s : Int) + 8388608)) (.int .i64 ((e : Int) - 127 - 23)) rfl (by decide) (by decide) (by simp [ov, *]) (by simp [ov, *]) ⟨by simp [he0], hHeld⟩
end Go.Proofs.YticlnihjhcepkaaGreatDoor

/-
  Walk of spec/value.go: IsNegative.
-/
namespace Go.Proofs.YticlnihjhcepkaaGreatDoor
open Go.RowKit
set_option linter.unusedSimpArgs false
set_option linter.unusedVariables false

theorem u64_and_top (n k : Nat) (hn : n < 2 ^ (k + 1)) (hk : k ≤ 63) : bits .and .u64 (n : Int) ((2 ^ k : Nat) : Int) = (((if n < 2 ^ k then 0 else 2 ^ k) : Nat) : Int) := by
  have p : 0 < 2 ^ k := Nat.pow_pos (by omega)
  have hk63 : 2 ^ k ≤ 2 ^ 63 := Nat.pow_le_pow_right (by omega) hk
  have hk64 : 2 ^ (k + 1) ≤ 2 ^ 64 := Nat.pow_le_pow_right (by omega) (by omega)
  have hn64 : n < 18446744073709551616 := by omega
  have h0 : (BitVec.ofInt 64 (n : Int)).toNat = n := by rw [BitVec.toNat_ofInt]; omega
  have h1 : (BitVec.ofInt 64 ((2 ^ k : Nat) : Int)).toNat = 2 ^ k := by rw [BitVec.toNat_ofInt]; omega
  have key : (BitVec.ofInt 64 (n : Int) &&& BitVec.ofInt 64 ((2 ^ k : Nat) : Int)).toNat = if n < 2 ^ k then 0 else 2 ^ k := by
    rw [BitVec.toNat_and, h0, h1]
    apply Nat.eq_of_testBit_eq
    intro i
    rw [Nat.testBit_and, Nat.testBit_two_pow]
    by_cases hik : k = i
    · subst hik
      by_cases h : n < 2 ^ k
      · rw [if_pos h, Nat.testBit_lt_two_pow h]; simp
      · rw [if_neg h, Nat.testBit_two_pow_self]
        have : n.testBit k = true := by
          rw [Nat.testBit_eq_decide_div_mod_eq, decide_eq_true_eq]
          have h2 : n / 2 ^ k = 1 := by
            rw [Nat.pow_succ] at hn
            exact Nat.div_eq_of_lt_le (by omega) (by omega)
          rw [h2]
        simp [this]
    · by_cases h : n < 2 ^ k
      · rw [if_pos h]; simp [hik]
      · rw [if_neg h, Nat.testBit_two_pow]; simp [hik]
  show IntKind.u64.wrap ((BitVec.ofInt 64 (n : Int) &&& BitVec.ofInt 64 ((2 ^ k : Nat) : Int)).toNat : Nat) = _
  rw [key, IntKind.wrap_u64]
  split <;> omega

theorem isNeg64_any (n : Nat) (w : World) (hn : n < 18446744073709551616) :
    Calls Tryz.prog 47 #[.int .i64 64, .int .u64 (n : Int)] w fun e w' => e = .returned (.bool (decide (9223372036854775808 ≤ n))) ∧ w = w' := by
  have hand : bits .and .u64 (n : Int) 9223372036854775808 = (((if n < 2 ^ 63 then 0 else 2 ^ 63) : Nat) : Int) := u64_and_top n 63 hn (by omega)
  by_cases h : n < 9223372036854775808
  · have e1 : bits .and .u64 (n : Int) 9223372036854775808 = 0 := by rw [hand, if_pos (show n < 2 ^ 63 from h)]; rfl
    have e2 : decide (9223372036854775808 ≤ n) = false := by simp; omega
    rw [e2]
    clear hand
    go_enter Tryz.func47, Tryz.ntmps47
    go_wp2_with (go_at_call 28; refine (sign64_any _).mono ?_; rintro e w' ⟨rfl, rfl⟩)
    go_ret
    exact ⟨rfl, rfl⟩
  · have e1 : bits .and .u64 (n : Int) 9223372036854775808 = 9223372036854775808 := by rw [hand, if_neg (show ¬ n < 2 ^ 63 from h)]; rfl
    have e2 : decide (9223372036854775808 ≤ n) = true := by simp; omega
    rw [e2]
    clear hand
    go_enter Tryz.func47, Tryz.ntmps47
    go_wp2_with (go_at_call 28; refine (sign64_any _).mono ?_; rintro e w' ⟨rfl, rfl⟩)
    go_ret
    exact ⟨rfl, rfl⟩
theorem isNeg32_any (n : Nat) (w : World) (hn : n < 4294967296) :
    Calls Tryz.prog 47 #[.int .i64 32, .int .u64 (n : Int)] w fun e w' => e = .returned (.bool (decide (2147483648 ≤ n))) ∧ w = w' := by
  have hand : bits .and .u64 (n : Int) 2147483648 = (((if n < 2 ^ 31 then 0 else 2 ^ 31) : Nat) : Int) := u64_and_top n 31 hn (by omega)
  by_cases h : n < 2147483648
  · have e1 : bits .and .u64 (n : Int) 2147483648 = 0 := by rw [hand, if_pos (show n < 2 ^ 31 from h)]; rfl
    have e2 : decide (2147483648 ≤ n) = false := by simp; omega
    rw [e2]
    clear hand
    go_enter Tryz.func47, Tryz.ntmps47
    go_wp2_with (go_at_call 28; refine (sign32_any _).mono ?_; rintro e w' ⟨rfl, rfl⟩)
    go_ret
    exact ⟨rfl, rfl⟩
  · have e1 : bits .and .u64 (n : Int) 2147483648 = 2147483648 := by rw [hand, if_neg (show ¬ n < 2 ^ 31 from h)]; rfl
    have e2 : decide (2147483648 ≤ n) = true := by simp; omega
    rw [e2]
    clear hand
    go_enter Tryz.func47, Tryz.ntmps47
    go_wp2_with (go_at_call 28; refine (sign32_any _).mono ?_; rintro e w' ⟨rfl, rfl⟩)
    go_ret
    exact ⟨rfl, rfl⟩
end Go.Proofs.YticlnihjhcepkaaGreatDoor

/-
  Walk of spec: scaled at whatever exponent.
-/
namespace Go.Proofs.YticlnihjhcepkaaGreatDoor
open Go.RowKit
set_option linter.unusedSimpArgs false
set_option linter.unusedVariables false

theorem scaled_any (v : Value) (n base : Nat) (e : Int) (w : World) (hr : NatV w v n) (hn : (natL n).length ≤ 20000) (hb0 : 1 ≤ base) (hb : base < 18446744073709551616) (he1 : -30000 ≤ e) (he2 : e ≤ 30000) :
    Calls Tryz.prog 45 #[v, .int .u64 (base : Int), .int .i64 e] w fun x w' => ∃ vn vd, x = .returned (.agg #[.bool false, vn, vd]) ∧ NatV w' vn (n * base ^ e.toNat) ∧ NatV w' vd (base ^ (-e).toNat) ∧ w.grownBy w' none := by
  by_cases h : 0 ≤ e
  · obtain ⟨E, rfl⟩ : ∃ E : Nat, e = (E : Int) := ⟨e.toNat, by omega⟩
    have h1 : ((E : Int)).toNat = E := by omega
    have h2 : (-(E : Int)).toNat = 0 := by omega
    rw [h1, h2, Nat.pow_zero]
    exact scaledUp_any v n base E w hr hn hb0 hb (by omega)
  · obtain ⟨E, rfl⟩ : ∃ E : Nat, e = -(E : Int) := ⟨(-e).toNat, by omega⟩
    have h1 : (-(E : Int)).toNat = 0 := by omega
    have h2 : (- -(E : Int)).toNat = E := by omega
    rw [h1, h2, Nat.pow_zero, Nat.mul_one]
    exact scaledDown_any v n base E w hr (by omega) hb0 hb (by omega)
end Go.Proofs.YticlnihjhcepkaaGreatDoor

/-
  Walk of spec/value.go: ValueOf at a finite number of 64 bits.
-/
namespace Go.Proofs.YticlnihjhcepkaaGreatDoor
open Go.RowKit
set_option linter.unusedSimpArgs false
set_option linter.unusedVariables false

set_option maxRecDepth 10000 in
set_option maxHeartbeats 4000000 in
theorem valueOf64_any (n s : Nat) (e : Int) (w : World) (hn : n < 18446744073709551616) (hk : kindB 9218868437227405312 9223372036854775808 n = 0)
    (hs : (if n % 9223372036854775808 / 4503599627370496 = 0 then n % 9223372036854775808 % 4503599627370496 else n % 9223372036854775808 % 4503599627370496 + 4503599627370496) = s)
    (he : (if n % 9223372036854775808 / 4503599627370496 = 0 then 1 else ((n % 9223372036854775808 / 4503599627370496 : Nat) : Int)) - 1023 - 52 = e) :
    Calls Tryz.prog 24 #[.int .i64 64, .int .u64 (n : Int)] w fun x w' => ∃ vn vd, x = .returned (.tuple #[.agg #[.bool (decide (9223372036854775808 ≤ n)), vn, vd], .bool true]) ∧ NatV w' vn (s * 2 ^ e.toNat) ∧ NatV w' vd (2 ^ (-e).toNat) ∧ w.grownBy w' none := by
  have hK := fun W => kind64_any n W hn
  rw [hk] at hK
  have hP := fun W => parts64_any n W hn
  rw [hs, he] at hP
  have hsl : s < 18446744073709551616 := by rw [← hs]; split <;> omega
  have hel : -1074 ≤ e ∧ e ≤ 1100 := by rw [← he]; split <;> omega
  have HK := Lib.hid hK
  have HP := Lib.hid hP
  have HO := Lib.hid (fun W => natOf_any s W hsl)
  have HS := Lib.hid (fun (V : Value) (W : World) (h : NatV W V s) => scaled_any V s 2 e W h (Nat.le_trans (natL_len_le (k := 3) (by omega)) (by omega)) (by omega) (by omega) (by omega) (by omega))
  have HI := Lib.hid (fun W => isNeg64_any n W hn)
  have HG0 := Lib.hid (fun o => World.grownBy_alloc w o none)
  generalize decide (9223372036854775808 ≤ n) = neg at HI ⊢
  clear hK hP hs he hk
  go_enter Tryz.func24, Tryz.ntmps24
  go_wp2_with fail
  refine (HK.out _).mono ?_
  rintro x w1 ⟨rfl, rfl⟩
  go_wp2_with fail
  refine (HP.out _).mono ?_
  rintro x w1 ⟨rfl, hg1⟩
  have HR1 := Lib.hid (Row.grown (Row.new w [Value.bool false, .slice none 0 0, .slice none 0 0] 45) hg1 (by simp))
  have HG1 := Lib.hid (grown_none_tr (HG0.out _) hg1)
  clear hg1
  go_wp2_with fail
  refine (HO.out _).mono ?_
  rintro x w2 ⟨v2, rfl, hn2, hg2⟩
  have HN2 := Lib.hid hn2
  have HG2 := Lib.hid hg2
  clear hn2 hg2
  go_wp2_with fail
  refine (HS.out _ _ HN2.out).mono ?_
  rintro x w3 ⟨vn, vd, rfl, hnn, hnd, hg3⟩
  have HR3 := Lib.hid ((HR1.out.grown HG2.out (by simp)).grown hg3 (by simp))
  have HNN := Lib.hid hnn
  have HND := Lib.hid hnd
  have HG3 := Lib.hid (grown_none_tr HG1.out (grown_none_tr HG2.out hg3))
  obtain ⟨an, cn, rfl⟩ := hnn.len
  obtain ⟨ad, cd, rfl⟩ := hnd.len
  clear hnn hnd hg3
  generalize (natL (s * 2 ^ e.toNat)).length = L2 at *
  generalize (natL (2 ^ (-e).toNat)).length = L3 at *
  go_wp2_with fail
  refine (HI.out _).mono ?_
  rintro x w5 ⟨rfl, hw5⟩
  have hrA := HR3.out.alloc (.cells #[Value.bool false, .slice an L2 cn, .slice ad L3 cd] 45)
  have hrB := Row.new w3 [Value.bool false, .slice an L2 cn, .slice ad L3 cd] 45
  have hlt := HR3.out.lt
  obtain ⟨B, hB⟩ : ∃ B, w.heap.size = B := ⟨_, rfl⟩
  obtain ⟨D, hD⟩ : ∃ D, w3.heap.size = D := ⟨_, rfl⟩
  rw [hB] at hrA hlt
  rw [hD] at hrB hlt
  simp only [hB, hD]
  have hg4 := World.grownBy_alloc w3 (.cells #[Value.bool false, .slice an L2 cn, .slice ad L3 cd] 45) none
  have hrB' : Row (w3.alloc (.cells #[Value.bool false, .slice an L2 cn, .slice ad L3 cd] 45)) D [Value.bool false, .slice an L2 cn, .slice ad L3 cd] := hrB
  rw [hw5] at hrA hrB' hg4
  clear hrB
  have k0 := hrA.cell 0
  have k1 := hrA.cell 1
  have k2 := hrA.cell 2
  have f0 := hrA.frozen 0
  have f1 := hrA.frozen 1
  have f2 := hrA.frozen 2
  have m0 := hrB'.cell 0
  have m1 := hrB'.cell 1
  have m2 := hrB'.cell 2
  have g0 := hrB'.frozen 0
  simp only [List.getElem?_cons_zero, List.getElem?_cons_succ] at k0 k1 k2 m0 m1 m2
  have hne : ¬ (B = D) := by omega
  have hne2 : ¬ (D = B) := by omega
  have HRA := Lib.hid hrA
  have HRB := Lib.hid hrB'
  have HG5 := Lib.hid (grown_none_tr HG3.out hg4)
  have HN5 := Lib.hid (HNN.out.grown hg4)
  have HD5 := Lib.hid (HND.out.grown hg4)
  have HB := Lib.hid hB
  have HDD := Lib.hid hD
  have HM0 := Lib.hid m0
  have HK0 := Lib.hid k0
  have HSZ := Lib.hid HG3.out.size
  clear hrA hrB' hlt hg4 hw5 hB hD HR3 HR1 HG1 HG2 HN2 HNN HND
  go_wp2_with fail
  have hr0 := HRA.out.setCell_other (a := ⟨D, 0, none⟩) hne (.bool neg)
  have hq0 := HK0.out
  have hrow3 := ((hr0.setCell 0 (.bool neg)).setCell 1 (.slice an L2 cn)).setCell 2 (.slice ad L3 cd)
  obtain ⟨ty, hrow⟩ := hrow3
  have hc1 : (w5.setCell ⟨D, 0, none⟩ (.bool neg)).cell? ⟨B, 0, none⟩ = some (.bool false) := hr0.cell 0
  have hc2 : ((w5.setCell ⟨D, 0, none⟩ (.bool neg)).setCell ⟨B, 0, none⟩ (.bool neg)).cell? ⟨B, 0, none⟩ = some (.bool neg) := (hr0.setCell 0 (.bool neg)).cell 0
  have hc3 : (((w5.setCell ⟨D, 0, none⟩ (.bool neg)).setCell ⟨B, 0, none⟩ (.bool neg)).setCell ⟨B, 1, none⟩ (.slice an L2 cn)).cell? ⟨B, 0, none⟩ = some (.bool neg) := ((hr0.setCell 0 (.bool neg)).setCell 1 (.slice an L2 cn)).cell 0
  refine bodyPost_ret (v := .tuple #[.agg #[.bool neg, .slice an L2 cn, .slice ad L3 cd], .bool true]) ?_ rfl ⟨_, _, rfl, ?_, ?_, ?_⟩
  · rw [results_cell_tmp (p := 4) (u := 5) (ty := 45) rfl]
    have hl := run_loadVar_row (P := Tryz.prog) _ B ty 45 _ (0, 0) _ hrow Tryz.underlying45 rfl (by kernel_rfl)
    simp [asAddr, hl]
  · exact NatV.setB (NatV.setB (NatV.setB (NatV.setB HN5.out HM0.out) hc1) hc2) hc3
  · exact NatV.setB (NatV.setB (NatV.setB (NatV.setB HD5.out HM0.out) hc1) hc2) hc3
  · have hBw := HB.out
    have hDw := HDD.out
    have hsz := HSZ.out
    exact grown_setN (grown_setN (grown_setN (grown_setN HG5.out _ (by show w.heap.size ≤ D; omega)) _ (by show w.heap.size ≤ B; omega)) _ (by show w.heap.size ≤ B; omega)) _ (by show w.heap.size ≤ B; omega)

set_option maxRecDepth 10000 in
set_option maxHeartbeats 4000000 in
theorem valueOf32_any (n s : Nat) (e : Int) (w : World) (hn : n < 4294967296) (hk : kindB 2139095040 2147483648 n = 0)
    (hs : (if n % 2147483648 / 8388608 = 0 then n % 2147483648 % 8388608 else n % 2147483648 % 8388608 + 8388608) = s)
    (he : (if n % 2147483648 / 8388608 = 0 then 1 else ((n % 2147483648 / 8388608 : Nat) : Int)) - 127 - 23 = e) :
    Calls Tryz.prog 24 #[.int .i64 32, .int .u64 (n : Int)] w fun x w' => ∃ vn vd, x = .returned (.tuple #[.agg #[.bool (decide (2147483648 ≤ n)), vn, vd], .bool true]) ∧ NatV w' vn (s * 2 ^ e.toNat) ∧ NatV w' vd (2 ^ (-e).toNat) ∧ w.grownBy w' none := by
  have hK := fun W => kind32_any n W hn
  rw [hk] at hK
  have hP := fun W => parts32_any n W hn
  rw [hs, he] at hP
  have hsl : s < 4294967296 := by rw [← hs]; split <;> omega
  have hel : -1074 ≤ e ∧ e ≤ 1100 := by rw [← he]; split <;> omega
  have HK := Lib.hid hK
  have HP := Lib.hid hP
  have HO := Lib.hid (fun W => natOf_any s W (by omega))
  have HS := Lib.hid (fun (V : Value) (W : World) (h : NatV W V s) => scaled_any V s 2 e W h (Nat.le_trans (natL_len_le (k := 3) (by omega)) (by omega)) (by omega) (by omega) (by omega) (by omega))
  have HI := Lib.hid (fun W => isNeg32_any n W hn)
  have HG0 := Lib.hid (fun o => World.grownBy_alloc w o none)
  generalize decide (2147483648 ≤ n) = neg at HI ⊢
  clear hK hP hs he hk
  go_enter Tryz.func24, Tryz.ntmps24
  go_wp2_with fail
  refine (HK.out _).mono ?_
  rintro x w1 ⟨rfl, rfl⟩
  go_wp2_with fail
  refine (HP.out _).mono ?_
  rintro x w1 ⟨rfl, hg1⟩
  have HR1 := Lib.hid (Row.grown (Row.new w [Value.bool false, .slice none 0 0, .slice none 0 0] 45) hg1 (by simp))
  have HG1 := Lib.hid (grown_none_tr (HG0.out _) hg1)
  clear hg1
  go_wp2_with fail
  refine (HO.out _).mono ?_
  rintro x w2 ⟨v2, rfl, hn2, hg2⟩
  have HN2 := Lib.hid hn2
  have HG2 := Lib.hid hg2
  clear hn2 hg2
  go_wp2_with fail
  refine (HS.out _ _ HN2.out).mono ?_
  rintro x w3 ⟨vn, vd, rfl, hnn, hnd, hg3⟩
  have HR3 := Lib.hid ((HR1.out.grown HG2.out (by simp)).grown hg3 (by simp))
  have HNN := Lib.hid hnn
  have HND := Lib.hid hnd
  have HG3 := Lib.hid (grown_none_tr HG1.out (grown_none_tr HG2.out hg3))
  obtain ⟨an, cn, rfl⟩ := hnn.len
  obtain ⟨ad, cd, rfl⟩ := hnd.len
  clear hnn hnd hg3
  generalize (natL (s * 2 ^ e.toNat)).length = L2 at *
  generalize (natL (2 ^ (-e).toNat)).length = L3 at *
  go_wp2_with fail
  refine (HI.out _).mono ?_
  rintro x w5 ⟨rfl, hw5⟩
  have hrA := HR3.out.alloc (.cells #[Value.bool false, .slice an L2 cn, .slice ad L3 cd] 45)
  have hrB := Row.new w3 [Value.bool false, .slice an L2 cn, .slice ad L3 cd] 45
  have hlt := HR3.out.lt
  obtain ⟨B, hB⟩ : ∃ B, w.heap.size = B := ⟨_, rfl⟩
  obtain ⟨D, hD⟩ : ∃ D, w3.heap.size = D := ⟨_, rfl⟩
  rw [hB] at hrA hlt
  rw [hD] at hrB hlt
  simp only [hB, hD]
  have hg4 := World.grownBy_alloc w3 (.cells #[Value.bool false, .slice an L2 cn, .slice ad L3 cd] 45) none
  have hrB' : Row (w3.alloc (.cells #[Value.bool false, .slice an L2 cn, .slice ad L3 cd] 45)) D [Value.bool false, .slice an L2 cn, .slice ad L3 cd] := hrB
  rw [hw5] at hrA hrB' hg4
  clear hrB
  have k0 := hrA.cell 0
  have k1 := hrA.cell 1
  have k2 := hrA.cell 2
  have f0 := hrA.frozen 0
  have f1 := hrA.frozen 1
  have f2 := hrA.frozen 2
  have m0 := hrB'.cell 0
  have m1 := hrB'.cell 1
  have m2 := hrB'.cell 2
  have g0 := hrB'.frozen 0
  simp only [List.getElem?_cons_zero, List.getElem?_cons_succ] at k0 k1 k2 m0 m1 m2
  have hne : ¬ (B = D) := by omega
  have hne2 : ¬ (D = B) := by omega
  have HRA := Lib.hid hrA
  have HRB := Lib.hid hrB'
  have HG5 := Lib.hid (grown_none_tr HG3.out hg4)
  have HN5 := Lib.hid (HNN.out.grown hg4)
  have HD5 := Lib.hid (HND.out.grown hg4)
  have HB := Lib.hid hB
  have HDD := Lib.hid hD
  have HM0 := Lib.hid m0
  have HK0 := Lib.hid k0
  have HSZ := Lib.hid HG3.out.size
  clear hrA hrB' hlt hg4 hw5 hB hD HR3 HR1 HG1 HG2 HN2 HNN HND
  go_wp2_with fail
  have hr0 := HRA.out.setCell_other (a := ⟨D, 0, none⟩) hne (.bool neg)
  have hq0 := HK0.out
  have hrow3 := ((hr0.setCell 0 (.bool neg)).setCell 1 (.slice an L2 cn)).setCell 2 (.slice ad L3 cd)
  obtain ⟨ty, hrow⟩ := hrow3
  have hc1 : (w5.setCell ⟨D, 0, none⟩ (.bool neg)).cell? ⟨B, 0, none⟩ = some (.bool false) := hr0.cell 0
  have hc2 : ((w5.setCell ⟨D, 0, none⟩ (.bool neg)).setCell ⟨B, 0, none⟩ (.bool neg)).cell? ⟨B, 0, none⟩ = some (.bool neg) := (hr0.setCell 0 (.bool neg)).cell 0
  have hc3 : (((w5.setCell ⟨D, 0, none⟩ (.bool neg)).setCell ⟨B, 0, none⟩ (.bool neg)).setCell ⟨B, 1, none⟩ (.slice an L2 cn)).cell? ⟨B, 0, none⟩ = some (.bool neg) := ((hr0.setCell 0 (.bool neg)).setCell 1 (.slice an L2 cn)).cell 0
  refine bodyPost_ret (v := .tuple #[.agg #[.bool neg, .slice an L2 cn, .slice ad L3 cd], .bool true]) ?_ rfl ⟨_, _, rfl, ?_, ?_, ?_⟩
  · rw [results_cell_tmp (p := 4) (u := 5) (ty := 45) rfl]
    have hl := run_loadVar_row (P := Tryz.prog) _ B ty 45 _ (0, 0) _ hrow Tryz.underlying45 rfl (by kernel_rfl)
    simp [asAddr, hl]
  · exact NatV.setB (NatV.setB (NatV.setB (NatV.setB HN5.out HM0.out) hc1) hc2) hc3
  · exact NatV.setB (NatV.setB (NatV.setB (NatV.setB HD5.out HM0.out) hc1) hc2) hc3
  · have hBw := HB.out
    have hDw := HDD.out
    have hsz := HSZ.out
    exact grown_setN (grown_setN (grown_setN (grown_setN HG5.out _ (by show w.heap.size ≤ D; omega)) _ (by show w.heap.size ≤ B; omega)) _ (by show w.heap.size ≤ B; omega)) _ (by show w.heap.size ≤ B; omega)
end Go.Proofs.YticlnihjhcepkaaGreatDoor
