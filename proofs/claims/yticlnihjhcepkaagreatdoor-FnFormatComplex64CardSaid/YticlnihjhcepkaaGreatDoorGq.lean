/-
  Lemmas and walks of functions, several texts in one.
-/
import Derived.Test.YticlnihjhcepkaaGreatDoorCTr0
import Derived.Test.YticlnihjhcepkaaGreatDoorGp
import Derived.Test.YticlnihjhcepkaaGreatDoorGg
import Derived.Test.YticlnihjhcepkaaGreatDoorGc
import Derived.Test.YticlnihjhcepkaaGreatDoorCLf0
/-
  Walk of spec/digits.go: timesTen.
-/
namespace Go.Proofs.YticlnihjhcepkaaGreatDoor
open Go.RowKit
set_option linter.unusedSimpArgs false
set_option linter.unusedVariables false
attribute [local go_sem] undef

theorem grown_set3s (w : World) (B : Nat) (u0 u1 u2 : Value) : w.grownBy (((w.setCell ⟨B, 0, none⟩ u0).setCell ⟨B, 1, none⟩ u1).setCell ⟨B, 2, none⟩ u2) (some B) :=
  grown_trans (grown_trans (grown_setCell w ⟨B, 0, none⟩ _) (grown_setCell _ ⟨B, 1, none⟩ _) (fun _ h _ => h)) (grown_setCell _ ⟨B, 2, none⟩ _) (fun _ h _ => h)

set_option maxRecDepth 100000 in
set_option maxHeartbeats 8000000 in
theorem timesTen_up (neg : Bool) (vn vd : Value) (a b N : Nat) (w : World) (hn : NatV w vn a) (hd : NatV w vd b) (hla : (natL a).length ≤ 100000) (hlb : (natL b).length ≤ 100000) (hN : N ≤ 30000) :
    Calls Tryz.prog 55 #[.agg #[.bool neg, vn, vd], .int .i64 (N : Int)] w fun e w' => ∃ vr, e = .returned vr ∧ RatV w' vr neg (a * 10 ^ N) (b) ∧ w.grownBy w' none := by
  have HP := Lib.hid (fun W => powNat_any 10 N W (by omega) (by omega) hN)
  have hpl : (natL (10 ^ N)).length ≤ 100000 := by have := pow_len 10 N (10 ^ N) (by omega) hN (Nat.le_refl _); omega
  have HM := Lib.hid (fun V W (hg : w.grownBy W none) (hv : NatV W V (10 ^ N)) => mulNat_any vn V a (10 ^ N) W (hn.grown hg) hv hla hpl)
  have HNA := Lib.hid hn
  have HNB := Lib.hid hd
  obtain ⟨an, cn, rfl⟩ := hn.len
  obtain ⟨ad, cd, rfl⟩ := hd.len
  generalize (natL a).length = LN at *
  generalize (natL b).length = LD at *
  obtain ⟨w1, hw1⟩ : ∃ w1, (w.alloc (.cells #[.bool neg, .slice an LN cn, .slice ad LD cd] 45)).alloc (.cells #[.bool false, .slice none 0 0, .slice none 0 0] 45) = w1 := ⟨_, rfl⟩
  obtain ⟨B, hB⟩ : ∃ B, w.heap.size = B := ⟨_, rfl⟩
  have hrT : Row w1 B [.bool neg, .slice an LN cn, .slice ad LD cd] := by rw [← hw1, ← hB]; exact (Row.new w _ _).alloc _
  have hrR : Row w1 (B + 1) ratZ := by
    rw [← hw1, ← hB]
    have := Row.new (w.alloc (.cells #[.bool neg, .slice an LN cn, .slice ad LD cd] 45)) ratZ 45
    have e : (w.alloc (.cells #[.bool neg, .slice an LN cn, .slice ad LD cd] 45)).heap.size = w.heap.size + 1 := by show (w.heap.push _).size = _; simp
    rw [e] at this
    exact this
  have hg1 : w.grownBy w1 none := by rw [← hw1]; exact grown_none_tr (World.grownBy_alloc w _ none) (World.grownBy_alloc _ _ none)
  have HRT := Lib.hid hrT
  have HRR := Lib.hid hrR
  have HG1 := Lib.hid hg1
  have HW1 := Lib.hid hw1
  have HB := Lib.hid hB
  clear hrT hrR hg1 hw1 hn hd hla hlb hpl
  refine calls_F Tryz.func55 rfl (by rw [Tryz.ntmps55]; simp) ?_
  intro σ hσ
  rw [Tryz.ntmps55]
  have s0 : σ 0 = .agg #[.bool neg, .slice an LN cn, .slice ad LD cd] := hσ 0 (by simp)
  have s1 : σ 1 = .int .i64 (N : Int) := hσ 1 (by simp)
  clear hσ
  go_upto_region 1 with fail
  rw [HW1.out]
  clear HW1
  have hcell0 : ∀ W, w1.grownBy W (some (B + 1)) → W.cell? ⟨B, 0, none⟩ = some (.bool neg) := fun W h => (HRT.out.grown h (by simp)).cell 0
  have hcell1 : ∀ W, w1.grownBy W (some (B + 1)) → W.cell? ⟨B, 1, none⟩ = some (.slice an LN cn) := fun W h => (HRT.out.grown h (by simp)).cell 1
  have hcell2 : ∀ W, w1.grownBy W (some (B + 1)) → W.cell? ⟨B, 2, none⟩ = some (.slice ad LD cd) := fun W h => (HRT.out.grown h (by simp)).cell 2
  have HC0 := Lib.hid hcell0
  have HC1 := Lib.hid hcell1
  have HC2 := Lib.hid hcell2
  clear hcell0 hcell1 hcell2 hB
  ((repeat (go_wp2_with fail; first | (refine cdY ?_ ?_; focus (simp [ov, *]; done)) | (refine cdN ?_ ?_; focus (simp [ov, *]; done)))); go_wp2_with fail)
  refine wp_region_noPanic ?_
  refine wp_region_held_drew (S := fun W => w1.grownBy W (some (B + 1))) (by kernel_rfl) (grown_drewN w1 1 _) (fun hHeld => ?_)
  have hrD := HRR.out.drew
  have hG := grown_none_tr HG1.out (grown_drewN w1 1 none)
  replace hG : w.grownBy w1.drew none := hG
  (refine take_T 0 7 ?_)
  (refine take_F 1 8 (oi := ?_) (v := ?_) ?_ ?_ (by kernel_rfl) (by kernel_rfl) (by kernel_rfl) (fun _ _ _ _ _ h => h) ?_ (by assumption) ?_ ?_; rotate_left 2; (focus ((simp only [List.getElem?_toArray, List.getElem?_cons_succ, List.getElem?_cons_zero]); rfl)); (focus rfl); (focus (first | rfl | (simp only [Region.wanted, yielded, List.getElem?_toArray, List.getElem?_cons_succ, List.getElem?_cons_zero, Option.bind_some, Option.map_some, Fr_get?, over_cons, over_nil]; rfl) | go_simp)); (focus (intro W hS; have hc := HC0.out W hS; go_simp; try with_reducible rfl)))
  (refine take_T 2 9 ?_)
  (refine take_F 3 10 (oi := ?_) (v := ?_) ?_ ?_ (by kernel_rfl) (by kernel_rfl) (by kernel_rfl) (fun _ _ _ _ _ h => h) ?_ (by assumption) ?_ ?_; rotate_left 2; (focus ((simp only [List.getElem?_toArray, List.getElem?_cons_succ, List.getElem?_cons_zero]); rfl)); (focus rfl); (focus (first | rfl | (simp only [Region.wanted, yielded, List.getElem?_toArray, List.getElem?_cons_succ, List.getElem?_cons_zero, Option.bind_some, Option.map_some, Fr_get?, over_cons, over_nil]; rfl) | go_simp)); (focus (intro W hS; have hc := HC1.out W hS; go_simp; try with_reducible rfl)))
  (refine take_T 4 11 ?_; refine take_T 7 14 ?_)
  (refine take_F 8 15 (oi := ?_) (v := ?_) ?_ ?_ (by kernel_rfl) (by kernel_rfl) (by kernel_rfl) (fun _ _ _ _ _ h => h) ?_ (by assumption) ?_ ?_; rotate_left 2; (focus ((simp only [List.getElem?_toArray, List.getElem?_cons_succ, List.getElem?_cons_zero]); rfl)); (focus rfl); (focus (first | rfl | (simp only [Region.wanted, yielded, List.getElem?_toArray, List.getElem?_cons_succ, List.getElem?_cons_zero, Option.bind_some, Option.map_some, Fr_get?, over_cons, over_nil]; rfl) | go_simp)); (focus (intro W hS; have hc := HC2.out W hS; go_simp; try with_reducible rfl)))
  (refine only_F 5 (oi := ?_) ?_ (by kernel_rfl) ?_ ?_; rotate_left 1; (focus ((simp only [List.getElem?_toArray, List.getElem?_cons_succ, List.getElem?_cons_zero]); rfl)); (focus (first | rfl | go_simp)); intro K hK; go_simp; (refine (HP.out _).mono ?_; rintro e w9 ⟨v9, rfl, hn9, hg9⟩); go_wp2_with fail; replace hHeld := grown_trans hHeld hg9 (fun j e => by cases e); refine hK.out _ _ hHeld ?_; clear hK K)
  replace hrD := hrD.grown hg9 (by simp)
  replace hG := grown_none_tr hG hg9
  clear hg9
  (refine only_F 6 (oi := ?_) ?_ (by kernel_rfl) ?_ ?_; rotate_left 1; (focus ((simp only [List.getElem?_toArray, List.getElem?_cons_succ, List.getElem?_cons_zero]); rfl)); (focus (first | rfl | go_simp)); intro K hK; go_simp; (refine (HM.out _ _ hG hn9).mono ?_; rintro e wA ⟨vA, rfl, hvn, hgA⟩); go_wp2_with fail; replace hHeld := grown_trans hHeld hgA (fun j e => by cases e); refine hK.out _ _ hHeld ?_; clear hK K)
  replace hrD := hrD.grown hgA (by simp)
  replace hG := grown_none_tr hG hgA
  clear hgA hn9
  have hvd := HNB.out.grown hG
  obtain ⟨am, cm, rfl⟩ := hvn.len
  generalize (natL (a * 10 ^ N)).length = LM at *
  (refine take_T 9 16 ?_)
  have k0 := hrD.cell 0
  have k1 := hrD.cell 1
  have k2 := hrD.cell 2
  have t0 := hrD.frozen 0
  have t1 := hrD.frozen 1
  have t2 := hrD.frozen 2
  unfold ratZ at k0 k1 k2
  simp only [List.getElem?_cons_zero, List.getElem?_cons_succ] at k0 k1 k2
  have HG := Lib.hid (grown_set3 hG (B := B + 1) (by have := HB.out; omega) (.bool neg) (.slice am LM cm) (.slice ad LD cd))
  have HVN := Lib.hid (set3_nat hrD hvn neg (.slice am LM cm) (.slice ad LD cd))
  have HVD := Lib.hid (set3_nat hrD hvd neg (.slice am LM cm) (.slice ad LD cd))
  have HROW := Lib.hid (set3_row hrD (.bool neg) (.slice am LM cm) (.slice ad LD cd))
  (refine only_F 10 (oi := ?_) ?_ (by kernel_rfl) ?_ ?_; rotate_left 1; (focus ((simp only [List.getElem?_toArray, List.getElem?_cons_succ, List.getElem?_cons_zero]); rfl)); (focus (first | rfl | go_simp)); intro K hK; go_simp; (skip); go_wp2_with fail; replace hHeld := grown_trans hHeld (grown_set3s _ _ (.bool neg) (.slice am LM cm) (.slice ad LD cd)) (fun j e _ => e ▸ rfl); refine hK.out _ _ hHeld ?_; clear hK K)
  refine wpAnyH_done (by kernel_rfl) ?_ _
  refine NoPanic.normal ?_
  ((repeat (go_wp2_with fail; first | (refine cdY ?_ ?_; focus (simp [ov, *]; done)) | (refine cdN ?_ ?_; focus (simp [ov, *]; done)))); go_wp2_with fail)
  obtain ⟨ty, hrow⟩ := HROW.out
  exact bodyPost_ret (v := .agg #[.bool neg, .slice am LM cm, .slice ad LD cd]) (results_cell_row rfl _ _ (B + 1) ty _ (0, 0) _ (by rw [Fr_getD 28 _ σ 4 (by decide)]; simp [ov, *]) hrow Tryz.underlying45 rfl (by kernel_rfl)) (Fr_defers ..) ⟨_, rfl, ⟨_, _, rfl, HVN.out, HVD.out⟩, HG.out⟩

set_option maxRecDepth 100000 in
set_option maxHeartbeats 8000000 in
theorem timesTen_down (neg : Bool) (vn vd : Value) (a b N : Nat) (w : World) (hn : NatV w vn a) (hd : NatV w vd b) (hla : (natL a).length ≤ 100000) (hlb : (natL b).length ≤ 100000) (hN : N ≤ 30000) (hN1 : 1 ≤ N) :
    Calls Tryz.prog 55 #[.agg #[.bool neg, vn, vd], .int .i64 (-(N : Int))] w fun e w' => ∃ vr, e = .returned vr ∧ RatV w' vr neg (a) (b * 10 ^ N) ∧ w.grownBy w' none := by
  have HP := Lib.hid (fun W => powNat_any 10 N W (by omega) (by omega) hN)
  have hpl : (natL (10 ^ N)).length ≤ 100000 := by have := pow_len 10 N (10 ^ N) (by omega) hN (Nat.le_refl _); omega
  have HM := Lib.hid (fun V W (hg : w.grownBy W none) (hv : NatV W V (10 ^ N)) => mulNat_any vd V b (10 ^ N) W (hd.grown hg) hv hlb hpl)
  have HNA := Lib.hid hn
  have HNB := Lib.hid hd
  obtain ⟨an, cn, rfl⟩ := hn.len
  obtain ⟨ad, cd, rfl⟩ := hd.len
  generalize (natL a).length = LN at *
  generalize (natL b).length = LD at *
  obtain ⟨w1, hw1⟩ : ∃ w1, (w.alloc (.cells #[.bool neg, .slice an LN cn, .slice ad LD cd] 45)).alloc (.cells #[.bool false, .slice none 0 0, .slice none 0 0] 45) = w1 := ⟨_, rfl⟩
  obtain ⟨B, hB⟩ : ∃ B, w.heap.size = B := ⟨_, rfl⟩
  have hrT : Row w1 B [.bool neg, .slice an LN cn, .slice ad LD cd] := by rw [← hw1, ← hB]; exact (Row.new w _ _).alloc _
  have hrR : Row w1 (B + 1) ratZ := by
    rw [← hw1, ← hB]
    have := Row.new (w.alloc (.cells #[.bool neg, .slice an LN cn, .slice ad LD cd] 45)) ratZ 45
    have e : (w.alloc (.cells #[.bool neg, .slice an LN cn, .slice ad LD cd] 45)).heap.size = w.heap.size + 1 := by show (w.heap.push _).size = _; simp
    rw [e] at this
    exact this
  have hg1 : w.grownBy w1 none := by rw [← hw1]; exact grown_none_tr (World.grownBy_alloc w _ none) (World.grownBy_alloc _ _ none)
  have HRT := Lib.hid hrT
  have HRR := Lib.hid hrR
  have HG1 := Lib.hid hg1
  have HW1 := Lib.hid hw1
  have HB := Lib.hid hB
  clear hrT hrR hg1 hw1 hn hd hla hlb hpl
  refine calls_F Tryz.func55 rfl (by rw [Tryz.ntmps55]; simp) ?_
  intro σ hσ
  rw [Tryz.ntmps55]
  have s0 : σ 0 = .agg #[.bool neg, .slice an LN cn, .slice ad LD cd] := hσ 0 (by simp)
  have s1 : σ 1 = .int .i64 (-(N : Int)) := hσ 1 (by simp)
  have f1 : decide ((0 : Int) ≤ -(N : Int)) = false := by simp; omega
  have f2 : decide (N = 0) = false := by simp; omega
  clear hσ
  go_upto_region 1 with fail
  rw [HW1.out]
  clear HW1
  have hcell0 : ∀ W, w1.grownBy W (some (B + 1)) → W.cell? ⟨B, 0, none⟩ = some (.bool neg) := fun W h => (HRT.out.grown h (by simp)).cell 0
  have hcell1 : ∀ W, w1.grownBy W (some (B + 1)) → W.cell? ⟨B, 1, none⟩ = some (.slice an LN cn) := fun W h => (HRT.out.grown h (by simp)).cell 1
  have hcell2 : ∀ W, w1.grownBy W (some (B + 1)) → W.cell? ⟨B, 2, none⟩ = some (.slice ad LD cd) := fun W h => (HRT.out.grown h (by simp)).cell 2
  have HC0 := Lib.hid hcell0
  have HC1 := Lib.hid hcell1
  have HC2 := Lib.hid hcell2
  clear hcell0 hcell1 hcell2 hB
  ((repeat (go_wp2_with fail; first | (refine cdY ?_ ?_; focus (simp [ov, *]; done)) | (refine cdN ?_ ?_; focus (simp [ov, *]; done)))); go_wp2_with fail)
  refine wp_region_noPanic ?_
  refine wp_region_held_drew (S := fun W => w1.grownBy W (some (B + 1))) (by kernel_rfl) (grown_drewN w1 1 _) (fun hHeld => ?_)
  have hrD := HRR.out.drew
  have hG := grown_none_tr HG1.out (grown_drewN w1 1 none)
  replace hG : w.grownBy w1.drew none := hG
  (refine take_T 0 17 ?_)
  (refine take_F 1 18 (oi := ?_) (v := ?_) ?_ ?_ (by kernel_rfl) (by kernel_rfl) (by kernel_rfl) (fun _ _ _ _ _ h => h) ?_ (by assumption) ?_ ?_; rotate_left 2; (focus ((simp only [List.getElem?_toArray, List.getElem?_cons_succ, List.getElem?_cons_zero]); rfl)); (focus rfl); (focus (first | rfl | (simp only [Region.wanted, yielded, List.getElem?_toArray, List.getElem?_cons_succ, List.getElem?_cons_zero, Option.bind_some, Option.map_some, Fr_get?, over_cons, over_nil]; rfl) | go_simp)); (focus (intro W hS; have hc := HC0.out W hS; go_simp; try with_reducible rfl)))
  (refine take_T 2 19 ?_)
  (refine take_F 3 20 (oi := ?_) (v := ?_) ?_ ?_ (by kernel_rfl) (by kernel_rfl) (by kernel_rfl) (fun _ _ _ _ _ h => h) ?_ (by assumption) ?_ ?_; rotate_left 2; (focus ((simp only [List.getElem?_toArray, List.getElem?_cons_succ, List.getElem?_cons_zero]); rfl)); (focus rfl); (focus (first | rfl | (simp only [Region.wanted, yielded, List.getElem?_toArray, List.getElem?_cons_succ, List.getElem?_cons_zero, Option.bind_some, Option.map_some, Fr_get?, over_cons, over_nil]; rfl) | go_simp)); (focus (intro W hS; have hc := HC1.out W hS; go_simp; try with_reducible rfl)))
  (refine take_T 4 21 ?_)
  (refine take_F 5 22 (oi := ?_) (v := ?_) ?_ ?_ (by kernel_rfl) (by kernel_rfl) (by kernel_rfl) (fun _ _ _ _ _ h => h) ?_ (by assumption) ?_ ?_; rotate_left 2; (focus ((simp only [List.getElem?_toArray, List.getElem?_cons_succ, List.getElem?_cons_zero]); rfl)); (focus rfl); (focus (first | rfl | (simp only [Region.wanted, yielded, List.getElem?_toArray, List.getElem?_cons_succ, List.getElem?_cons_zero, Option.bind_some, Option.map_some, Fr_get?, over_cons, over_nil]; rfl) | go_simp)); (focus (intro W hS; have hc := HC2.out W hS; go_simp; try with_reducible rfl)))
  (refine take_T 6 23 ?_)
  (refine take_F 7 24 (oi := ?_) (v := ?_) ?_ ?_ (by kernel_rfl) (by kernel_rfl) (by kernel_rfl) (fun _ _ _ _ _ h => h) ?_ (by assumption) ?_ ?_; rotate_left 2; (focus ((simp only [List.getElem?_toArray, List.getElem?_cons_succ, List.getElem?_cons_zero]); rfl)); (focus rfl); (focus (first | rfl | (simp only [Region.wanted, yielded, List.getElem?_toArray, List.getElem?_cons_succ, List.getElem?_cons_zero, Option.bind_some, Option.map_some, Fr_get?, over_cons, over_nil]; rfl) | go_simp)); (focus (intro W hS; go_simp; rw [wrapIS N (by omega)])))
  (refine only_F 8 (oi := ?_) ?_ (by kernel_rfl) ?_ ?_; rotate_left 1; (focus ((simp only [List.getElem?_toArray, List.getElem?_cons_succ, List.getElem?_cons_zero]); rfl)); (focus (first | rfl | go_simp)); intro K hK; go_simp; (refine (HP.out _).mono ?_; rintro e w9 ⟨v9, rfl, hn9, hg9⟩); go_wp2_with fail; replace hHeld := grown_trans hHeld hg9 (fun j e => by cases e); refine hK.out _ _ hHeld ?_; clear hK K)
  replace hrD := hrD.grown hg9 (by simp)
  replace hG := grown_none_tr hG hg9
  clear hg9
  (refine only_F 9 (oi := ?_) ?_ (by kernel_rfl) ?_ ?_; rotate_left 1; (focus ((simp only [List.getElem?_toArray, List.getElem?_cons_succ, List.getElem?_cons_zero]); rfl)); (focus (first | rfl | go_simp)); intro K hK; go_simp; (refine (HM.out _ _ hG hn9).mono ?_; rintro e wA ⟨vA, rfl, hvd, hgA⟩); go_wp2_with fail; replace hHeld := grown_trans hHeld hgA (fun j e => by cases e); refine hK.out _ _ hHeld ?_; clear hK K)
  replace hrD := hrD.grown hgA (by simp)
  replace hG := grown_none_tr hG hgA
  clear hgA hn9
  have hvn := HNA.out.grown hG
  obtain ⟨am, cm, rfl⟩ := hvd.len
  generalize (natL (b * 10 ^ N)).length = LM at *
  (refine take_T 10 27 ?_)
  have k0 := hrD.cell 0
  have k1 := hrD.cell 1
  have k2 := hrD.cell 2
  have t0 := hrD.frozen 0
  have t1 := hrD.frozen 1
  have t2 := hrD.frozen 2
  unfold ratZ at k0 k1 k2
  simp only [List.getElem?_cons_zero, List.getElem?_cons_succ] at k0 k1 k2
  have HG := Lib.hid (grown_set3 hG (B := B + 1) (by have := HB.out; omega) (.bool neg) (.slice an LN cn) (.slice am LM cm))
  have HVN := Lib.hid (set3_nat hrD hvn neg (.slice an LN cn) (.slice am LM cm))
  have HVD := Lib.hid (set3_nat hrD hvd neg (.slice an LN cn) (.slice am LM cm))
  have HROW := Lib.hid (set3_row hrD (.bool neg) (.slice an LN cn) (.slice am LM cm))
  (refine only_F 11 (oi := ?_) ?_ (by kernel_rfl) ?_ ?_; rotate_left 1; (focus ((simp only [List.getElem?_toArray, List.getElem?_cons_succ, List.getElem?_cons_zero]); rfl)); (focus (first | rfl | go_simp)); intro K hK; go_simp; (skip); go_wp2_with fail; replace hHeld := grown_trans hHeld (grown_set3s _ _ (.bool neg) (.slice an LN cn) (.slice am LM cm)) (fun j e _ => e ▸ rfl); refine hK.out _ _ hHeld ?_; clear hK K)
  refine wpAnyH_done (by kernel_rfl) ?_ _
  refine NoPanic.normal ?_
  ((repeat (go_wp2_with fail; first | (refine cdY ?_ ?_; focus (simp [ov, *]; done)) | (refine cdN ?_ ?_; focus (simp [ov, *]; done)))); go_wp2_with fail)
  obtain ⟨ty, hrow⟩ := HROW.out
  exact bodyPost_ret (v := .agg #[.bool neg, .slice an LN cn, .slice am LM cm]) (results_cell_row rfl _ _ (B + 1) ty _ (0, 0) _ (by rw [Fr_getD 28 _ σ 4 (by decide)]; simp [ov, *]) hrow Tryz.underlying45 rfl (by kernel_rfl)) (Fr_defers ..) ⟨_, rfl, ⟨_, _, rfl, HVN.out, HVD.out⟩, HG.out⟩

theorem timesTen_any (neg : Bool) (vn vd : Value) (a b : Nat) (k : Int) (w : World) (hn : NatV w vn a) (hd : NatV w vd b) (hla : (natL a).length ≤ 100000) (hlb : (natL b).length ≤ 100000) (hk1 : -30000 ≤ k) (hk2 : k ≤ 30000) :
    Calls Tryz.prog 55 #[.agg #[.bool neg, vn, vd], .int .i64 k] w fun e w' => ∃ vr, e = .returned vr ∧ RatV w' vr neg (a * 10 ^ k.toNat) (b * 10 ^ (-k).toNat) ∧ w.grownBy w' none := by
  by_cases hk0 : 0 ≤ k
  · obtain ⟨N, rfl⟩ : ∃ N : Nat, k = (N : Int) := ⟨k.toNat, by omega⟩
    rw [Int.toNat_natCast, show (-(N : Int)).toNat = 0 by omega, Nat.pow_zero, Nat.mul_one]
    exact timesTen_up neg vn vd a b N w hn hd hla hlb (by omega)
  · obtain ⟨N, rfl⟩ : ∃ N : Nat, k = -(N : Int) := ⟨(-k).toNat, by omega⟩
    rw [Int.neg_neg, Int.toNat_natCast, show (-(N : Int)).toNat = 0 by omega, Nat.pow_zero, Nat.mul_one]
    exact timesTen_down neg vn vd a b N w hn hd hla hlb (by omega) (by omega)
end Go.Proofs.YticlnihjhcepkaaGreatDoor

/-
  Walk of spec/digits.go: orderOfTen.
-/
namespace Go.Proofs.YticlnihjhcepkaaGreatDoor
open Go.RowKit
set_option linter.unusedSimpArgs false
set_option linter.unusedVariables false
attribute [local go_sem] undef

theorem wrapIn (j : Int) (h1 : -9223372036854775808 ≤ j) (h2 : j ≤ 9223372036854775807) : IntKind.i64.wrap j = j := by rw [IntKind.wrap_i64]; omega
theorem nDig_natL (a : Nat) (h : (natL a).length ≤ 100) : nDig a ≤ 904 := by
  refine nDig_lt (Nat.lt_of_lt_of_le (natL_lt a) (Nat.le_trans (Nat.pow_le_pow_right (by omega) h) ?_))
  decide +kernel
theorem decT_len1 (a : Nat) (h0 : a ≠ 0) : (decT a).length = nDig a := by rw [decT_digs a h0, digs_length]
theorem natL_ten' (a k : Nat) (j : Int) (h : (natL a).length ≤ 100) (hj : j ≤ k) (hk : k ≤ 10000) : (natL (a * 10 ^ j.toNat)).length ≤ 20000 := by
  refine Nat.le_trans (natL_len_le (k := 100 + k) ?_) (by omega)
  rw [Nat.pow_add]
  refine Nat.mul_lt_mul_of_lt_of_le (Nat.lt_of_lt_of_le (natL_lt a) (Nat.pow_le_pow_right (by omega) h)) ?_ (Nat.pow_pos (by omega))
  exact Nat.le_trans (Nat.pow_le_pow_left (by omega) _) (Nat.pow_le_pow_right (by omega) (by omega))

theorem rat_field1 (n v : Value) (neg : Bool) (w : World) : (Instr.field 45 (Value.agg #[Value.bool neg, n, v]) 1).run Tryz.prog w = .ok n w := by
  kernel_rfl
theorem rat_field2 (n v : Value) (neg : Bool) (w : World) : (Instr.field 45 (Value.agg #[Value.bool neg, n, v]) 2).run Tryz.prog w = .ok v w := by
  kernel_rfl

/-- A number in a block: the block and its world. -/
structure InBlk (w w1 : World) (B : Nat) (neg : Bool) (vn vd : Value) : Prop where
  row : Row w1 B [.bool neg, vn, vd]
  grown : w.grownBy w1 none
  size : w.heap.size = B
theorem InBlk.new (w : World) (neg : Bool) (vn vd : Value) (t : TypeId) : InBlk w (w.alloc (.cells #[.bool neg, vn, vd] t)) w.heap.size neg vn vd := ⟨Row.new w _ _, World.grownBy_alloc w _ none, rfl⟩

set_option maxRecDepth 100000 in
set_option maxHeartbeats 8000000 in
theorem orderOfTen_any (neg : Bool) (vn vd : Value) (a b : Nat) (w : World) (hn : NatV w vn a) (hd : NatV w vd b) (ha : a ≠ 0) (hb : b ≠ 0) (hla : (natL a).length ≤ 100) (hlb : (natL b).length ≤ 100) :
    Calls Tryz.prog 54 #[.agg #[.bool neg, vn, vd]] w fun e w' => e = .returned (.int .i64 (ordT a b)) ∧ w.grownBy w' none := by
  have da := nDig_natL a hla
  have db := nDig_natL b hlb
  obtain ⟨j, hj⟩ : ∃ j : Int, (nDig a : Int) - nDig b = j := ⟨_, rfl⟩
  have HTA := Lib.hid (fun W h => natText_any vn a W (hn.grown h) (by omega))
  have HTB := Lib.hid (fun W h => natText_any vd b W (hd.grown h) (by omega))
  have HTT := Lib.hid (fun W h => timesTen_any neg vn vd a b (-j) W (hn.grown h) (hd.grown h) (by omega) (by omega) (by omega) (by omega))
  obtain ⟨κ, hκ⟩ : ∃ κ, cmpN (a * 10 ^ (-j).toNat) (b * 10 ^ (- -j).toNat) = κ := ⟨_, rfl⟩
  have hcm : ∀ V U W, NatV W V (a * 10 ^ (-j).toNat) → NatV W U (b * 10 ^ (- -j).toNat) → Calls Tryz.prog 59 #[V, U] W fun e w' => e = .returned (.int .i64 κ) ∧ W.grownBy w' none := by
    intro V U W h1 h2
    rw [← hκ]
    exact cmpNat_any V U _ _ W h1 h2 (by have := natL_ten' a 1000 (-j) hla (by omega) (by omega); omega) (by have := natL_ten' b 1000 (- -j) hlb (by omega) (by omega); omega)
  have hκ2 : leT a b j ↔ ¬ κ < 0 := by
    rw [← hκ]
    unfold cmpN
    rw [Int.neg_neg]
    show b * 10 ^ j.toNat ≤ a * 10 ^ (-j).toNat ↔ _
    generalize b * 10 ^ j.toNat = y
    generalize a * 10 ^ (-j).toNat = x
    split
    · constructor <;> intro h <;> omega
    · split <;> (constructor <;> intro h <;> omega)
  have hj1 : -1000 ≤ j := by omega
  have hj2 : j ≤ 1000 := by omega
  have hord : ordT a b = if κ < 0 then j - 1 else j := by
    unfold ordT
    rw [hj]
    by_cases h : κ < 0
    · rw [if_pos h, if_neg (fun hh => hκ2.1 hh h)]
    · rw [if_neg h, if_pos (hκ2.2 h)]
  obtain ⟨res, hres⟩ : ∃ res, ordT a b = res := ⟨_, rfl⟩
  have HRES := Lib.hid (hres.symm.trans hord)
  rw [hres]
  clear hres
  have HCM := Lib.hid hcm
  have lA := decT_len1 a ha
  have lB := decT_len1 b hb
  have yA : (⟨(decT a).toArray⟩ : ByteArray).size = nDig a := by rw [← lA]; simp [ByteArray.size]
  have yB : (⟨(decT b).toArray⟩ : ByteArray).size = nDig b := by rw [← lB]; simp [ByteArray.size]
  generalize decT a = tA at *
  generalize decT b = tB at *
  generalize nDig a = NA at *
  generalize nDig b = NB at *
  clear lA lB hcm hord hκ hκ2 hla hlb ha hb
  obtain ⟨an, cn, rfl⟩ := hn.len
  obtain ⟨ad, cd, rfl⟩ := hd.len
  generalize (natL a).length = LN at *
  generalize (natL b).length = LD at *
  obtain ⟨w1, hw1⟩ : ∃ w1, w.alloc (.cells #[.bool neg, .slice an LN cn, .slice ad LD cd] 45) = w1 := ⟨_, rfl⟩
  obtain ⟨B, hB⟩ : ∃ B, w.heap.size = B := ⟨_, rfl⟩
  have hib := InBlk.new w neg (.slice an LN cn) (.slice ad LD cd) 45
  rw [hw1, hB] at hib
  have HIB := Lib.hid hib
  have HW1 := Lib.hid hw1
  have HB := Lib.hid hB
  clear hib hw1 hn hd
  refine calls_F Tryz.func54 rfl (by rw [Tryz.ntmps54]; simp) ?_
  intro σ hσ
  rw [Tryz.ntmps54]
  have s0 : σ 0 = .agg #[.bool neg, .slice an LN cn, .slice ad LD cd] := hσ 0 (by simp)
  clear hσ
  go_upto_region 1 with fail
  rw [HW1.out]
  clear HW1 hB
  have hcell0 : ∀ W, w1.grownBy W none → W.cell? ⟨B, 0, none⟩ = some (.bool neg) := fun W h => (HIB.out.row.grown h (by simp)).cell 0
  have hcell1 : ∀ W, w1.grownBy W none → W.cell? ⟨B, 1, none⟩ = some (.slice an LN cn) := fun W h => (HIB.out.row.grown h (by simp)).cell 1
  have hcell2 : ∀ W, w1.grownBy W none → W.cell? ⟨B, 2, none⟩ = some (.slice ad LD cd) := fun W h => (HIB.out.row.grown h (by simp)).cell 2
  have HC0 := Lib.hid hcell0
  have HC1 := Lib.hid hcell1
  have HC2 := Lib.hid hcell2
  clear hcell0 hcell1 hcell2
  have HJ := Lib.hid hj
  refine cut_F (fun s' w' => s' 1 = .pointer (some ⟨B, 0, none⟩) ∧ s' 3 = .int .i64 j ∧ w1.grownBy w' none) ?_ ?_
  · intro R' K' HR hK'
    refine wp_region_noPanic ?_
    refine wp_region_held_drew (S := fun W => w1.grownBy W none) (by kernel_rfl) (grown_drewN w1 1 none) (fun hHeld => ?_)
    (refine take_T 0 4 ?_)
    (refine take_F 1 5 (oi := ?_) (v := ?_) ?_ ?_ (by kernel_rfl) (by kernel_rfl) (by kernel_rfl) (fun _ _ _ _ _ h => h) ?_ (by assumption) ?_ ?_; rotate_left 2; (focus ((simp only [List.getElem?_toArray, List.getElem?_cons_succ, List.getElem?_cons_zero]); rfl)); (focus rfl); (focus (first | rfl | (simp only [Region.wanted, yielded, List.getElem?_toArray, List.getElem?_cons_succ, List.getElem?_cons_zero, Option.bind_some, Option.map_some, Fr_get?, over_cons, over_nil]; rfl) | go_simp)); (focus (intro W hS; have hc := HC1.out W hS; go_simp; try with_reducible rfl)))
    (refine take_T 4 8 ?_)
    (refine take_F 5 9 (oi := ?_) (v := ?_) ?_ ?_ (by kernel_rfl) (by kernel_rfl) (by kernel_rfl) (fun _ _ _ _ _ h => h) ?_ (by assumption) ?_ ?_; rotate_left 2; (focus ((simp only [List.getElem?_toArray, List.getElem?_cons_succ, List.getElem?_cons_zero]); rfl)); (focus rfl); (focus (first | rfl | (simp only [Region.wanted, yielded, List.getElem?_toArray, List.getElem?_cons_succ, List.getElem?_cons_zero, Option.bind_some, Option.map_some, Fr_get?, over_cons, over_nil]; rfl) | go_simp)); (focus (intro W hS; have hc := HC2.out W hS; go_simp; try with_reducible rfl)))
    (refine only_F 2 (oi := ?_) ?_ (by kernel_rfl) ?_ ?_; rotate_left 1; (focus ((simp only [List.getElem?_toArray, List.getElem?_cons_succ, List.getElem?_cons_zero]); rfl)); (focus (first | rfl | go_simp)); intro K hK; go_simp; (refine (HTA.out _ (grown_none_tr HIB.out.grown hHeld)).mono ?_; rintro e w9 ⟨rfl, hg9⟩); go_wp2_with fail; replace hHeld := grown_none_tr hHeld hg9; refine hK.out _ _ hHeld ?_; clear hK K)
    clear hg9
    (refine take_T 3 7 ?_)
    (refine only_F 6 (oi := ?_) ?_ (by kernel_rfl) ?_ ?_; rotate_left 1; (focus ((simp only [List.getElem?_toArray, List.getElem?_cons_succ, List.getElem?_cons_zero]); rfl)); (focus (first | rfl | go_simp)); intro K hK; go_simp; (refine (HTB.out _ (grown_none_tr HIB.out.grown hHeld)).mono ?_; rintro e w10 ⟨rfl, hg10⟩); go_wp2_with fail; replace hHeld := grown_none_tr hHeld hg10; refine hK.out _ _ hHeld ?_; clear hK K)
    clear hg10
    (refine take_T 7 11 ?_)
    (refine take_F 8 12 (oi := ?_) (v := ?_) ?_ ?_ (by kernel_rfl) (by kernel_rfl) (by kernel_rfl) (fun _ _ _ _ _ h => h) ?_ (by assumption) ?_ ?_; rotate_left 2; (focus ((simp only [List.getElem?_toArray, List.getElem?_cons_succ, List.getElem?_cons_zero]); rfl)); (focus rfl); (focus (first | rfl | (simp only [Region.wanted, yielded, List.getElem?_toArray, List.getElem?_cons_succ, List.getElem?_cons_zero, Option.bind_some, Option.map_some, Fr_get?, over_cons, over_nil]; rfl) | go_simp)); (focus (intro W hS; go_simp; rw [wrapIn _ (by omega) (by omega)])))
    (refine take_T 9 3 ?_)
    refine wpAnyH_done (by kernel_rfl) ?_ _
    refine NoPanic.normal ?_
    exact hK' _ _ _ (got HR ⟨by simp [ov, *], by simp [ov, *], hHeld⟩)
  clear s0 σ HTA HTB
  rintro σ w2 ⟨s1, s3, hg2⟩
  have HG2 := Lib.hid hg2
  clear hg2 hj
  go_upto_region 2 with fail
  refine cut_F (fun s' w' => s' 3 = .int .i64 j ∧ s' 24 = .bool (decide (κ < 0)) ∧ w1.grownBy w' none) ?_ ?_
  · intro R' K' HR hK'
    refine wp_region_noPanic ?_
    refine wp_region_held_drew (S := fun W => w1.grownBy W none) (by kernel_rfl) (grown_none_tr HG2.out (grown_drewN w2 1 none)) (fun hHeld => ?_)
    (refine take_F 0 13 (oi := ?_) (v := ?_) ?_ ?_ (by kernel_rfl) (by kernel_rfl) (by kernel_rfl) (fun _ _ _ _ _ h => h) ?_ (by assumption) ?_ ?_; rotate_left 2; (focus ((simp only [List.getElem?_toArray, List.getElem?_cons_succ, List.getElem?_cons_zero]); rfl)); (focus rfl); (focus (first | rfl | (simp only [Region.wanted, yielded, List.getElem?_toArray, List.getElem?_cons_succ, List.getElem?_cons_zero, Option.bind_some, Option.map_some, Fr_get?, over_cons, over_nil]; rfl) | go_simp)); (focus (intro W hS; have c0 := HC0.out W hS; have c1 := HC1.out W hS; have c2 := HC2.out W hS; go_simp; try with_reducible rfl)))
    (refine take_T 1 14 ?_)
    (refine take_F 2 15 (oi := ?_) (v := ?_) ?_ ?_ (by kernel_rfl) (by kernel_rfl) (by kernel_rfl) (fun _ _ _ _ _ h => h) ?_ (by assumption) ?_ ?_; rotate_left 2; (focus ((simp only [List.getElem?_toArray, List.getElem?_cons_succ, List.getElem?_cons_zero]); rfl)); (focus rfl); (focus (first | rfl | (simp only [Region.wanted, yielded, List.getElem?_toArray, List.getElem?_cons_succ, List.getElem?_cons_zero, Option.bind_some, Option.map_some, Fr_get?, over_cons, over_nil]; rfl) | go_simp)); (focus (intro W hS; go_simp; rw [wrapIn _ (by omega) (by omega)])))
    (refine take_F 5 18 (oi := ?_) (v := ?_) ?_ ?_ (by kernel_rfl) (by kernel_rfl) (by kernel_rfl) (fun _ _ _ _ _ h => h) ?_ (by assumption) ?_ ?_; rotate_left 2; (focus ((simp only [List.getElem?_toArray, List.getElem?_cons_succ, List.getElem?_cons_zero]); rfl)); (focus rfl); (focus (first | rfl | (simp only [Region.wanted, yielded, List.getElem?_toArray, List.getElem?_cons_succ, List.getElem?_cons_zero, Option.bind_some, Option.map_some, Fr_get?, over_cons, over_nil]; rfl) | go_simp)); (focus (intro W hS; have c0 := HC0.out W hS; have c1 := HC1.out W hS; have c2 := HC2.out W hS; go_simp; try with_reducible rfl)))
    (refine take_T 6 19 ?_)
    (refine take_F 7 20 (oi := ?_) (v := ?_) ?_ ?_ (by kernel_rfl) (by kernel_rfl) (by kernel_rfl) (fun _ _ _ _ _ h => h) ?_ (by assumption) ?_ ?_; rotate_left 2; (focus ((simp only [List.getElem?_toArray, List.getElem?_cons_succ, List.getElem?_cons_zero]); rfl)); (focus rfl); (focus (first | rfl | (simp only [Region.wanted, yielded, List.getElem?_toArray, List.getElem?_cons_succ, List.getElem?_cons_zero, Option.bind_some, Option.map_some, Fr_get?, over_cons, over_nil]; rfl) | go_simp)); (focus (intro W hS; go_simp; rw [wrapIn _ (by omega) (by omega)])))
    (refine only_F 3 (oi := ?_) ?_ (by kernel_rfl) ?_ ?_; rotate_left 1; (focus ((simp only [List.getElem?_toArray, List.getElem?_cons_succ, List.getElem?_cons_zero]); rfl)); (focus (first | rfl | go_simp)); intro K hK; go_simp; (refine (HTT.out _ (grown_none_tr HIB.out.grown hHeld)).mono ?_; rintro e w3 ⟨v3, rfl, hv3, hg3⟩); go_wp2_with fail; replace hHeld := grown_none_tr hHeld hg3; refine hK.out _ _ hHeld ?_; clear hK K)
    clear hg3
    obtain ⟨n3, d3, rfl, hn3, hd3⟩ := hv3
    (refine take_F 4 17 (oi := ?_) (v := ?_) ?_ ?_ (by kernel_rfl) (by kernel_rfl) (by kernel_rfl) (fun _ _ _ _ _ h => h) ?_ (by assumption) ?_ ?_; rotate_left 2; (focus ((simp only [List.getElem?_toArray, List.getElem?_cons_succ, List.getElem?_cons_zero]); rfl)); (focus rfl); (focus (first | rfl | (simp only [Region.wanted, yielded, List.getElem?_toArray, List.getElem?_cons_succ, List.getElem?_cons_zero, Option.bind_some, Option.map_some, Fr_get?, over_cons, over_nil]; rfl) | go_simp)); (focus (intro W hS; go_simp; rw [rat_field1]; rfl)))
    (refine only_F 8 (oi := ?_) ?_ (by kernel_rfl) ?_ ?_; rotate_left 1; (focus ((simp only [List.getElem?_toArray, List.getElem?_cons_succ, List.getElem?_cons_zero]); rfl)); (focus (first | rfl | go_simp)); intro K hK; go_simp; (refine (HTT.out _ (grown_none_tr HIB.out.grown hHeld)).mono ?_; rintro e w4 ⟨v4, rfl, hv4, hg4⟩; replace hn3 := hn3.grown hg4); go_wp2_with fail; replace hHeld := grown_none_tr hHeld hg4; refine hK.out _ _ hHeld ?_; clear hK K)
    clear hg4
    obtain ⟨n4, d4, rfl, hn4, hd4⟩ := hv4
    (refine take_F 9 22 (oi := ?_) (v := ?_) ?_ ?_ (by kernel_rfl) (by kernel_rfl) (by kernel_rfl) (fun _ _ _ _ _ h => h) ?_ (by assumption) ?_ ?_; rotate_left 2; (focus ((simp only [List.getElem?_toArray, List.getElem?_cons_succ, List.getElem?_cons_zero]); rfl)); (focus rfl); (focus (first | rfl | (simp only [Region.wanted, yielded, List.getElem?_toArray, List.getElem?_cons_succ, List.getElem?_cons_zero, Option.bind_some, Option.map_some, Fr_get?, over_cons, over_nil]; rfl) | go_simp)); (focus (intro W hS; go_simp; rw [rat_field2]; rfl)))
    (refine only_F 10 (oi := ?_) ?_ (by kernel_rfl) ?_ ?_; rotate_left 1; (focus ((simp only [List.getElem?_toArray, List.getElem?_cons_succ, List.getElem?_cons_zero]); rfl)); (focus (first | rfl | go_simp)); intro K hK; go_simp; (refine (HCM.out _ _ _ hn3 hd4).mono ?_; rintro e w5 ⟨rfl, hg5⟩); go_wp2_with fail; replace hHeld := grown_none_tr hHeld hg5; refine hK.out _ _ hHeld ?_; clear hK K)
    clear hg5 hn3 hd3 hn4 hd4
    (refine take_T 11 24 ?_)
    refine wpAnyH_done (by kernel_rfl) ?_ _
    refine NoPanic.normal ?_
    exact hK' _ _ _ (got HR ⟨by simp [ov, *], by simp [ov, *], hHeld⟩)
  clear s1 s3 σ HTT HCM HC0 HC1 HC2
  rintro σ w3 ⟨s3, s24, hg3⟩
  have HG3 := Lib.hid (grown_none_tr HIB.out.grown hg3)
  clear hg3
  by_cases h : κ < 0
  · have hf : decide (κ < 0) = true := by simp [h]
    rw [hf] at s24
    have HH := Lib.hid h
    clear h hf
    ((repeat (go_wp2_with fail; first | (refine cdY ?_ ?_; focus (simp [ov, *]; done)) | (refine cdN ?_ ?_; focus (simp [ov, *]; done)))); go_wp2_with fail)
    exact ret_F (.int .i64 (j - 1)) rfl (by decide) (by simp [ov, *]) ⟨by rw [HRES.out, if_pos HH.out], HG3.out⟩
  · have hf : decide (κ < 0) = false := by simp; omega
    rw [hf] at s24
    have HH := Lib.hid h
    clear h hf
    ((repeat (go_wp2_with fail; first | (refine cdY ?_ ?_; focus (simp [ov, *]; done)) | (refine cdN ?_ ?_; focus (simp [ov, *]; done)))); go_wp2_with fail)
    exact ret_F (.int .i64 j) rfl (by decide) (by simp [ov, *]) ⟨by rw [HRES.out, if_neg (by have := HH.out; omega)], HG3.out⟩
end Go.Proofs.YticlnihjhcepkaaGreatDoor

/-
  Walk of spec/digits.go: significant.
-/
namespace Go.Proofs.YticlnihjhcepkaaGreatDoor
open Go.RowKit
set_option linter.unusedSimpArgs false
set_option linter.unusedVariables false
attribute [local go_sem] undef

theorem slice_head (s : List UInt8) (n : Nat) : (⟨s.toArray⟩ : ByteArray).extract 0 n = ⟨(s.take n).toArray⟩ := by
  apply ByteArray.ext
  simp [ByteArray.data_extract]

theorem nDig_pow10 {R n : Nat} (h : R ≤ 10 ^ n) : nDig R ≤ n + 1 := nDig_lt (Nat.lt_of_le_of_lt h (Nat.pow_lt_pow_right (by omega) (by omega)))

set_option maxRecDepth 100000 in
set_option maxHeartbeats 8000000 in
theorem significant_any (neg : Bool) (vn vd : Value) (a b n : Nat) (w : World) (hn : NatV w vn a) (hd : NatV w vd b) (ha : a ≠ 0) (hb : b ≠ 0) (hla : (natL a).length ≤ 100) (hlb : (natL b).length ≤ 100) (hn1 : 1 ≤ n) (hn2 : n ≤ 6000) :
    Calls Tryz.prog 92 #[.agg #[.bool neg, vn, vd], .int .i64 (n : Int)] w fun e w' => e = .returned (.tuple #[.string ⟨(sigS a b n).1.toArray⟩, .int .i64 (sigS a b n).2]) ∧ w.grownBy w' none := by
  have da := nDig_natL a hla
  have db := nDig_natL b hlb
  have hEb : -1000 ≤ ordT a b ∧ ordT a b ≤ 1000 := by unfold ordT; split <;> omega
  obtain ⟨-, hub⟩ := rT_bounds a b n ha hb hn1
  have HOT := Lib.hid (fun W h => orderOfTen_any neg vn vd a b W (hn.grown h) (hd.grown h) ha hb hla hlb)
  have HTT := Lib.hid (fun W h => timesTen_any neg vn vd a b ((n : Int) - 1 - ordT a b) W (hn.grown h) (hd.grown h) (by omega) (by omega) (by omega) (by omega))
  have HRD := Lib.hid (fun V U W (h1 : NatV W V (a * 10 ^ ((n : Int) - 1 - ordT a b).toNat)) (h2 : NatV W U (b * 10 ^ (-((n : Int) - 1 - ordT a b)).toNat)) => rounded_any neg V U _ _ W h1 h2 (Nat.mul_pos (by omega) (p10 _)) (by have := natL_ten' a 8000 ((n : Int) - 1 - ordT a b) hla (by omega) (by omega); omega) (by have := natL_ten' b 8000 (-((n : Int) - 1 - ordT a b)) hlb (by omega) (by omega); omega))
  have hRlen : (natL (rT a b ((n : Int) - 1 - ordT a b))).length ≤ 90000 := Nat.le_trans (natL_ten (Nat.lt_of_le_of_lt hub (Nat.pow_lt_pow_right (by omega) (Nat.lt_succ_self n)))) (by omega)
  have HNT := Lib.hid (fun V W (h : NatV W V (rT a b ((n : Int) - 1 - ordT a b))) => natText_any V _ W h hRlen)
  obtain ⟨res, hres⟩ : ∃ res, sigS a b n = res := ⟨_, rfl⟩
  have hsg := hres.symm
  unfold sigS at hsg
  rw [hres]
  have hRd : ∃ R, rndE (a * 10 ^ ((n : Int) - 1 - ordT a b).toNat) (b * 10 ^ (-((n : Int) - 1 - ordT a b)).toNat) = R ∧ rT a b ((n : Int) - 1 - ordT a b) = R := ⟨_, rfl, rfl⟩
  obtain ⟨R, hR1, hR2⟩ := hRd
  rw [hR2] at hsg hub HNT
  simp only [hR1] at HRD
  have htl : (decT R).length ≤ n + 1 := by
    by_cases h0 : R = 0
    · subst h0; show [48].length ≤ _; simp
    · rw [decT_len1 R h0]; exact nDig_pow10 hub
  clear hR1 hR2 hres hRlen da db hub
  obtain ⟨E, hE⟩ : ∃ E, ordT a b = E := ⟨_, rfl⟩
  simp only [hE] at HOT HTT HRD hsg hEb
  clear hE
  obtain ⟨hE1, hE2⟩ := hEb
  have y1 : (⟨(decT R).toArray⟩ : ByteArray).size = (decT R).length := by simp [ByteArray.size]
  have hsl := slice_head (decT R) n
  generalize decT R = tx at *
  obtain ⟨T, hT⟩ : ∃ T, tx.length = T := ⟨_, rfl⟩
  rw [hT] at y1 htl hsg
  have HSG := Lib.hid hsg
  clear hsg hT
  obtain ⟨an, cn, rfl⟩ := hn.len
  obtain ⟨ad, cd, rfl⟩ := hd.len
  generalize (natL a).length = LN at *
  generalize (natL b).length = LD at *
  obtain ⟨w1, hw1⟩ : ∃ w1, w.alloc (.cells #[.bool neg, .slice an LN cn, .slice ad LD cd] 45) = w1 := ⟨_, rfl⟩
  obtain ⟨B, hB⟩ : ∃ B, w.heap.size = B := ⟨_, rfl⟩
  have hib := InBlk.new w neg (.slice an LN cn) (.slice ad LD cd) 45
  rw [hw1, hB] at hib
  have HIB := Lib.hid hib
  have HW1 := Lib.hid hw1
  clear hib hw1 hn hd
  refine calls_F Tryz.func92 rfl (by rw [Tryz.ntmps92]; simp) ?_
  intro σ hσ
  rw [Tryz.ntmps92]
  have s0 : σ 0 = .agg #[.bool neg, .slice an LN cn, .slice ad LD cd] := hσ 0 (by simp)
  have s1 : σ 1 = .int .i64 (n : Int) := hσ 1 (by simp)
  clear hσ
  go_upto_region 1 with fail
  rw [HW1.out]
  clear HW1 hB
  have c0 := HIB.out.row.cell 0
  have c1 := HIB.out.row.cell 1
  have c2 := HIB.out.row.cell 2
  simp only [List.getElem?_cons_zero, List.getElem?_cons_succ] at c0 c1 c2
  ((repeat (go_wp2_with fail; first | (refine cdY ?_ ?_; focus (simp [ov, *]; done)) | (refine cdN ?_ ?_; focus (simp [ov, *]; done)))); go_wp2_with fail)
  refine (HOT.out _ HIB.out.grown).mono ?_
  rintro e w2 ⟨rfl, hg2⟩
  have HG2 := Lib.hid (grown_none_tr HIB.out.grown hg2)
  have hr2 := HIB.out.row.grown hg2 (by simp)
  clear hg2 c0 c1 c2
  have c0 := hr2.cell 0
  have c1 := hr2.cell 1
  have c2 := hr2.cell 2
  simp only [List.getElem?_cons_zero, List.getElem?_cons_succ] at c0 c1 c2
  clear hr2
  ((repeat (go_wp2_with fail; first | (refine cdY ?_ ?_; focus (simp [ov, *]; done)) | (refine cdN ?_ ?_; focus (simp [ov, *]; done)))); go_wp2_with fail)
  refine (HTT.out _ HG2.out).mono ?_
  rintro e w3 ⟨v3, rfl, hv3, hg3⟩
  obtain ⟨n3, d3, rfl, hn3, hd3⟩ := hv3
  have HN3 := Lib.hid hn3
  have HD3 := Lib.hid hd3
  have HG3 := Lib.hid (grown_none_tr HG2.out hg3)
  clear hn3 hd3 hg3 c0 c1 c2
  ((repeat (go_wp2_with fail; first | (refine cdY ?_ ?_; focus (simp [ov, *]; done)) | (refine cdN ?_ ?_; focus (simp [ov, *]; done)))); go_wp2_with fail)
  refine (HRD.out _ _ _ HN3.out HD3.out).mono ?_
  rintro e w4 ⟨v4, rfl, hn4, hg4⟩
  have HN4 := Lib.hid hn4
  have HG4 := Lib.hid (grown_none_tr HG3.out hg4)
  clear hn4 hg4
  ((repeat (go_wp2_with fail; first | (refine cdY ?_ ?_; focus (simp [ov, *]; done)) | (refine cdN ?_ ?_; focus (simp [ov, *]; done)))); go_wp2_with fail)
  refine (HNT.out _ _ HN4.out).mono ?_
  rintro e w5 ⟨rfl, hg5⟩
  have HG5 := Lib.hid (grown_none_tr HG4.out hg5)
  clear hg5
  by_cases hc : n < T
  · have f1 : (n : Int) < (T : Int) := by omega
    have hres2 : res = (tx.take n, E + 1) := by rw [HSG.out, if_pos hc]
    have HRES := Lib.hid hres2
    clear hres2 hc
    ((repeat (go_wp2_with fail; first | (refine cdY ?_ ?_; focus (simp [ov, *]; done)) | (refine cdN ?_ ?_; focus (simp [ov, *]; done)))); go_wp2_with fail)
    exact ret_F2 (.string ⟨(tx.take n).toArray⟩) (.int .i64 (E + 1)) rfl (by decide) (by decide) (by simp [ov, *]) (by simp [ov, *]) ⟨by rw [HRES.out], HG5.out⟩
  · have f1 : decide ((n : Int) < (T : Int)) = false := by simp; omega
    have f2 : decide (n < T) = false := by simp; omega
    have hres2 : res = (tx, E) := by rw [HSG.out, if_neg hc]
    have HRES := Lib.hid hres2
    clear hres2 hc
    ((repeat (go_wp2_with fail; first | (refine cdY ?_ ?_; focus (simp [ov, *]; done)) | (refine cdN ?_ ?_; focus (simp [ov, *]; done)))); go_wp2_with fail)
    exact ret_F2 (.string ⟨tx.toArray⟩) (.int .i64 E) rfl (by decide) (by decide) (by simp [ov, *]) (by simp [ov, *]) ⟨by rw [HRES.out], HG5.out⟩
end Go.Proofs.YticlnihjhcepkaaGreatDoor

/-
  Walk of spec/format.go: fixed.
-/
namespace Go.Proofs.YticlnihjhcepkaaGreatDoor
open Go.RowKit
set_option linter.unusedSimpArgs false
set_option linter.unusedVariables false
attribute [local go_sem] undef

theorem slice_tail (s : List UInt8) (n N : Nat) (h : s.length = N) : (⟨s.toArray⟩ : ByteArray).extract n N = ⟨(s.drop n).toArray⟩ := by
  apply ByteArray.ext
  simp [ByteArray.data_extract, ← h]
  exact List.take_of_length_le (by simp)

set_option maxRecDepth 100000 in
set_option maxHeartbeats 8000000 in
theorem fixed_any (neg : Bool) (vn vd : Value) (a b pr : Nat) (w : World) (hn : NatV w vn a) (hd : NatV w vd b) (hb : b ≠ 0) (hla : (natL a).length ≤ 100) (hlb : (natL b).length ≤ 100) (hp : pr ≤ 6000) :
    Calls Tryz.prog 65 #[.agg #[.bool neg, vn, vd], .int .i64 (pr : Int)] w fun e w' => e = .returned (.string ⟨(fixT (rT a b pr) pr).toArray⟩) ∧ w.grownBy w' none := by
  have HTT := Lib.hid (fun W h => timesTen_any neg vn vd a b (pr : Int) W (hn.grown h) (hd.grown h) (by omega) (by omega) (by omega) (by omega))
  have HRD := Lib.hid (fun V U W (h1 : NatV W V (a * 10 ^ ((pr : Int)).toNat)) (h2 : NatV W U (b * 10 ^ (-(pr : Int)).toNat)) => rounded_any neg V U _ _ W h1 h2 (Nat.mul_pos (by omega) (p10 _)) (by have := natL_ten' a 8000 (pr : Int) hla (by omega) (by omega); omega) (by have := natL_ten' b 8000 (-(pr : Int)) hlb (by omega) (by omega); omega))
  have hWl : rT a b pr < 10 ^ (904 + pr + 1) := by
    have h1 : rT a b pr ≤ a * 10 ^ pr := by
      unfold rT
      rw [Int.toNat_natCast, show (-(pr : Int)).toNat = 0 by omega, Nat.pow_zero, Nat.mul_one]
      exact rndE_le (by omega) (Nat.le_mul_of_pos_right _ (by omega))
    refine Nat.lt_of_le_of_lt h1 ?_
    have h2 := lt_pow_nDig a
    have h3 := nDig_natL a hla
    refine Nat.lt_of_lt_of_le (Nat.mul_lt_mul_of_pos_right h2 (p10 pr)) ?_
    rw [← Nat.pow_add]
    exact Nat.pow_le_pow_right (by omega) (by omega)
  have hRlen : (natL (rT a b pr)).length ≤ 90000 := Nat.le_trans (natL_ten hWl) (by omega)
  have HNT := Lib.hid (fun V W (h : NatV W V (rT a b pr)) => natText_any V _ W h hRlen)
  have hRd : ∃ R, rndE (a * 10 ^ ((pr : Int)).toNat) (b * 10 ^ (-(pr : Int)).toNat) = R ∧ rT a b pr = R := ⟨_, rfl, rfl⟩
  obtain ⟨R, hR1, hR2⟩ := hRd
  rw [hR2] at hWl HNT ⊢
  simp only [hR1] at HRD
  have htl : (decT R).length ≤ 6905 ∧ 1 ≤ (decT R).length := by
    by_cases h0 : R = 0
    · subst h0; show [48].length ≤ _ ∧ 1 ≤ [48].length; simp
    · rw [decT_len1 R h0]
      have := nDig_pos h0
      have := nDig_lt hWl
      omega
  clear hR1 hR2 hRlen hWl
  obtain ⟨res, hres⟩ : ∃ res, fixT R pr = res := ⟨_, rfl⟩
  have hsg := hres.symm
  unfold fixT at hsg
  dsimp only at hsg
  rw [hres]
  clear hres
  obtain ⟨S, hS⟩ : ∃ S, zeroS (pr + 1 - (decT R).length) ++ decT R = S := ⟨_, rfl⟩
  have hSl : S.length = max (pr + 1) (decT R).length := by rw [← hS, List.length_append]; unfold zeroS; rw [List.length_replicate]; omega
  rw [hS] at hsg
  have y1 : (⟨(decT R).toArray⟩ : ByteArray).size = (decT R).length := by simp [ByteArray.size]
  have ct := cat_mk (zeroS (pr + 1 - (decT R).length)) (decT R)
  rw [hS] at ct
  generalize decT R = tx at *
  obtain ⟨T, hT⟩ : ∃ T, tx.length = T := ⟨_, rfl⟩
  rw [hT] at y1 htl hSl ct hS
  have hS0 : ¬ T < pr + 1 → S = tx := fun h => by rw [← hS, show pr + 1 - T = 0 by omega]; rfl
  have HS0 := Lib.hid hS0
  have HSG := Lib.hid hsg
  obtain ⟨ht1, ht2⟩ := htl
  clear hsg hT hS0
  have HZ := Lib.hid (fun W => speczeros_any (pr + 1 - T) W (by omega))
  obtain ⟨an, cn, rfl⟩ := hn.len
  obtain ⟨ad, cd, rfl⟩ := hd.len
  generalize (natL a).length = LN at *
  generalize (natL b).length = LD at *
  obtain ⟨w1, hw1⟩ : ∃ w1, w.alloc (.cells #[.bool neg, .slice an LN cn, .slice ad LD cd] 45) = w1 := ⟨_, rfl⟩
  obtain ⟨B, hB⟩ : ∃ B, w.heap.size = B := ⟨_, rfl⟩
  have hib := InBlk.new w neg (.slice an LN cn) (.slice ad LD cd) 45
  rw [hw1, hB] at hib
  have HIB := Lib.hid hib
  have HW1 := Lib.hid hw1
  clear hib hw1 hn hd hS
  refine calls_F Tryz.func65 rfl (by rw [Tryz.ntmps65]; simp) ?_
  intro σ hσ
  rw [Tryz.ntmps65]
  have s0 : σ 0 = .agg #[.bool neg, .slice an LN cn, .slice ad LD cd] := hσ 0 (by simp)
  have s1 : σ 1 = .int .i64 (pr : Int) := hσ 1 (by simp)
  clear hσ
  go_upto_region 1 with fail
  rw [HW1.out]
  clear HW1 hB
  have c0 := HIB.out.row.cell 0
  have c1 := HIB.out.row.cell 1
  have c2 := HIB.out.row.cell 2
  simp only [List.getElem?_cons_zero, List.getElem?_cons_succ] at c0 c1 c2
  ((repeat (go_wp2_with fail; first | (refine cdY ?_ ?_; focus (simp [ov, *]; done)) | (refine cdN ?_ ?_; focus (simp [ov, *]; done)))); go_wp2_with fail)
  refine (HTT.out _ HIB.out.grown).mono ?_
  rintro e w3 ⟨v3, rfl, hv3, hg3⟩
  obtain ⟨n3, d3, rfl, hn3, hd3⟩ := hv3
  have HN3 := Lib.hid hn3
  have HD3 := Lib.hid hd3
  have HG3 := Lib.hid (grown_none_tr HIB.out.grown hg3)
  clear hn3 hd3 hg3 c0 c1 c2
  ((repeat (go_wp2_with fail; first | (refine cdY ?_ ?_; focus (simp [ov, *]; done)) | (refine cdN ?_ ?_; focus (simp [ov, *]; done)))); go_wp2_with fail)
  refine (HRD.out _ _ _ HN3.out HD3.out).mono ?_
  rintro e w4 ⟨v4, rfl, hn4, hg4⟩
  have HN4 := Lib.hid hn4
  have HG4 := Lib.hid (grown_none_tr HG3.out hg4)
  clear hn4 hg4
  ((repeat (go_wp2_with fail; first | (refine cdY ?_ ?_; focus (simp [ov, *]; done)) | (refine cdN ?_ ?_; focus (simp [ov, *]; done)))); go_wp2_with fail)
  refine (HNT.out _ _ HN4.out).mono ?_
  rintro e w5 ⟨rfl, hg5⟩
  have HG5 := Lib.hid (grown_none_tr HG4.out hg5)
  clear hg5
  go_wp2_with fail
  refine cut_F (fun s' w' => s' 1 = .int .i64 (pr : Int) ∧ s' 5 = .string ⟨S.toArray⟩ ∧ w.grownBy w' none) ?_ ?_
  · intro R' K' HR hK'
    by_cases hc : T < pr + 1
    · have f1 : (T : Int) < (pr : Int) + 1 := by omega
      have f2 : ((pr : Int) + 1 - (T : Int)) = ((pr + 1 - T : Nat) : Int) := by omega
      ((repeat (go_wp2_with fail; first | (refine cdY ?_ ?_; focus (simp [ov, *]; done)) | (refine cdN ?_ ?_; focus (simp [ov, *]; done)))); go_wp2_with fail)
      refine (HZ.out _).mono ?_
      rintro e w6 ⟨rfl, hg6⟩
      have HG6 := Lib.hid (grown_none_tr HG5.out hg6)
      clear hg6
      have ct2 : (⟨(List.replicate (pr + 1 - T) (48 : UInt8)).toArray⟩ : ByteArray) ++ ⟨tx.toArray⟩ = ⟨S.toArray⟩ := ct
      have ct3 := ct2
      simp only [List.toArray_replicate] at ct3
      ((repeat (go_wp2_with fail; first | (refine cdY ?_ ?_; focus (simp [ov, *]; done)) | (refine cdN ?_ ?_; focus (simp [ov, *]; done)))); go_wp2_with fail)
      exact got HR ⟨by simp [ov, *], by simp [ov, *], HG6.out⟩
    · have f1 : decide ((T : Int) < (pr : Int) + 1) = false := by simp; omega
      have f2 : decide (T < pr + 1) = false := by simp; omega
      ((repeat (go_wp2_with fail; first | (refine cdY ?_ ?_; focus (simp [ov, *]; done)) | (refine cdN ?_ ?_; focus (simp [ov, *]; done)))); go_wp2_with fail)
      exact got HR ⟨by simp [ov, *], by rw [HS0.out hc]; simp [ov, *], HG5.out⟩
  clear s0 s1 σ HTT HRD HNT HZ HN3 HD3 HN4 y1 ct
  rintro σ w6 ⟨s1, s5, hg6⟩
  have HG6 := Lib.hid hg6
  clear hg6
  have y2 : (⟨S.toArray⟩ : ByteArray).size = S.length := by simp [ByteArray.size]
  by_cases h0 : pr = 0
  · subst h0
    have hres2 : res = S := by rw [HSG.out, if_pos rfl]
    have HRES := Lib.hid hres2
    clear hres2
    ((repeat (go_wp2_with fail; first | (refine cdY ?_ ?_; focus (simp [ov, *]; done)) | (refine cdN ?_ ?_; focus (simp [ov, *]; done)))); go_wp2_with fail)
    exact ret_F (.string ⟨S.toArray⟩) rfl (by decide) (by simp [ov, *]) ⟨by rw [HRES.out], HG6.out⟩
  · obtain ⟨D, hD⟩ : ∃ D, S.length = D + pr := ⟨S.length - pr, by omega⟩
    have hres2 : res = S.take D ++ 46 :: S.drop D := by rw [HSG.out, if_neg h0, hD, Nat.add_sub_cancel]
    have HRES := Lib.hid hres2
    have hD1 : D ≤ 6905 := by omega
    have e1 := slice_head S D
    have e2 := slice_tail S D (D + pr) hD
    have e3 : (⟨(S.take D).toArray⟩ : ByteArray) ++ ⟨#[46]⟩ = ⟨(S.take D ++ [46]).toArray⟩ := cat_mk (S.take D) [46]
    have e4 := cat_mk (S.take D ++ [46]) (S.drop D)
    rw [List.append_assoc] at e4
    rw [hD] at y2
    have f1 : ((pr : Int) == 0) = false := by rw [beq_eq_false_iff_ne]; omega
    have f2 : (pr == 0) = false := by rw [beq_eq_false_iff_ne]; omega
    have HDD := Lib.hid hD
    clear hres2 hSl hD
    ((repeat (go_wp2_with fail; first | (refine cdY ?_ ?_; focus (simp [ov, *]; done)) | (refine cdN ?_ ?_; focus (simp [ov, *]; done)))); go_wp2_with fail)
    refine wp_region_noPanic ?_
    refine wp_region_held_drew (S := fun W => w6.grownBy W none) (by kernel_rfl) (grown_drewN w6 1 none) (fun hHeld => ?_)
    (refine take_T 0 27 ?_; refine take_T 1 28 ?_; refine take_T 2 29 ?_; refine take_T 3 30 ?_)
    (refine take_F 4 31 (oi := ?_) (v := ?_) ?_ ?_ (by kernel_rfl) (by kernel_rfl) (by kernel_rfl) (fun _ _ _ _ _ h => h) ?_ (by assumption) ?_ ?_; rotate_left 2; (focus ((simp only [List.getElem?_toArray, List.getElem?_cons_succ, List.getElem?_cons_zero]); rfl)); (focus rfl); (focus (first | rfl | (simp only [Region.wanted, yielded, List.getElem?_toArray, List.getElem?_cons_succ, List.getElem?_cons_zero, Option.bind_some, Option.map_some, Fr_get?, over_cons, over_nil]; rfl) | go_simp)); (focus (intro W hS; go_simp; first | rw [wrapIS D (by omega)] | rw [wrapIn _ (by omega) (by omega)])))
    (refine take_F 5 32 (oi := ?_) (v := ?_) ?_ ?_ (by kernel_rfl) (by kernel_rfl) (by kernel_rfl) (fun _ _ _ _ _ h => h) ?_ (by assumption) ?_ ?_; rotate_left 2; (focus ((simp only [List.getElem?_toArray, List.getElem?_cons_succ, List.getElem?_cons_zero]); rfl)); (focus rfl); (focus (first | rfl | (simp only [Region.wanted, yielded, List.getElem?_toArray, List.getElem?_cons_succ, List.getElem?_cons_zero, Option.bind_some, Option.map_some, Fr_get?, over_cons, over_nil]; rfl) | go_simp)); (focus (intro W hS; go_simp; rw [if_pos (by omega)])))
    (refine take_F 6 33 (oi := ?_) (v := ?_) ?_ ?_ (by kernel_rfl) (by kernel_rfl) (by kernel_rfl) (fun _ _ _ _ _ h => h) ?_ (by assumption) ?_ ?_; rotate_left 2; (focus ((simp only [List.getElem?_toArray, List.getElem?_cons_succ, List.getElem?_cons_zero]); rfl)); (focus rfl); (focus (first | rfl | (simp only [Region.wanted, yielded, List.getElem?_toArray, List.getElem?_cons_succ, List.getElem?_cons_zero, Option.bind_some, Option.map_some, Fr_get?, over_cons, over_nil]; rfl) | go_simp)); (focus (intro W hS; go_simp; rw [if_neg (by omega)])))
    (refine take_T 7 34 ?_; refine take_T 8 35 ?_; refine take_T 9 36 ?_; refine take_T 10 37 ?_)
    (refine take_F 11 38 (oi := ?_) (v := ?_) ?_ ?_ (by kernel_rfl) (by kernel_rfl) (by kernel_rfl) (fun _ _ _ _ _ h => h) ?_ (by assumption) ?_ ?_; rotate_left 2; (focus ((simp only [List.getElem?_toArray, List.getElem?_cons_succ, List.getElem?_cons_zero]); rfl)); (focus rfl); (focus (first | rfl | (simp only [Region.wanted, yielded, List.getElem?_toArray, List.getElem?_cons_succ, List.getElem?_cons_zero, Option.bind_some, Option.map_some, Fr_get?, over_cons, over_nil]; rfl) | go_simp)); (focus (intro W hS; go_simp; first | rw [wrapIS D (by omega)] | rw [wrapIn _ (by omega) (by omega)])))
    (refine take_F 12 39 (oi := ?_) (v := ?_) ?_ ?_ (by kernel_rfl) (by kernel_rfl) (by kernel_rfl) (fun _ _ _ _ _ h => h) ?_ (by assumption) ?_ ?_; rotate_left 2; (focus ((simp only [List.getElem?_toArray, List.getElem?_cons_succ, List.getElem?_cons_zero]); rfl)); (focus rfl); (focus (first | rfl | (simp only [Region.wanted, yielded, List.getElem?_toArray, List.getElem?_cons_succ, List.getElem?_cons_zero, Option.bind_some, Option.map_some, Fr_get?, over_cons, over_nil]; rfl) | go_simp)); (focus (intro W hS; go_simp; first | with_reducible rfl | rw [if_pos (by omega)] | rw [if_neg (by omega)])))
    (refine take_F 13 40 (oi := ?_) (v := ?_) ?_ ?_ (by kernel_rfl) (by kernel_rfl) (by kernel_rfl) (fun _ _ _ _ _ h => h) ?_ (by assumption) ?_ ?_; rotate_left 2; (focus ((simp only [List.getElem?_toArray, List.getElem?_cons_succ, List.getElem?_cons_zero]); rfl)); (focus rfl); (focus (first | rfl | (simp only [Region.wanted, yielded, List.getElem?_toArray, List.getElem?_cons_succ, List.getElem?_cons_zero, Option.bind_some, Option.map_some, Fr_get?, over_cons, over_nil]; rfl) | go_simp)); (focus (intro W hS; go_simp; have hdd := HDD.out; rw [if_neg (by omega)])))
    (refine take_T 14 4 ?_)
    refine wpAnyH_done (by kernel_rfl) ?_ _
    refine NoPanic.normal ?_
    ((repeat (go_wp2_with fail; first | (refine cdY ?_ ?_; focus (simp [ov, *]; done)) | (refine cdN ?_ ?_; focus (simp [ov, *]; done)))); go_wp2_with fail)
    exact ret_F (.string ⟨(S.take D ++ ([46] ++ S.drop D)).toArray⟩) rfl (by decide) (by simp [ov, *]) ⟨by rw [HRES.out]; rfl, grown_none_tr HG6.out hHeld⟩
end Go.Proofs.YticlnihjhcepkaaGreatDoor

/-
  Walk of spec/format.go: exponential, with a precision of at least 0.
-/
namespace Go.Proofs.YticlnihjhcepkaaGreatDoor
open Go.RowKit
set_option linter.unusedSimpArgs false
set_option linter.unusedVariables false
attribute [local go_sem] undef

set_option maxRecDepth 100000 in
set_option maxHeartbeats 8000000 in
theorem exponential_any (size : Int) (n : Nat) (neg : Bool) (a b pr : Nat) (w : World) (hb : b ≠ 0) (hla : (natL a).length ≤ 100) (hlb : (natL b).length ≤ 100) (hp : pr ≤ 5500)
    (hV : ∀ W, Calls Tryz.prog 24 #[.int .i64 size, .int .u64 (n : Int)] W fun x w' => ∃ vn vd, x = .returned (.tuple #[.agg #[.bool neg, vn, vd], .bool true]) ∧ NatV w' vn a ∧ NatV w' vd b ∧ W.grownBy w' none) :
    Calls Tryz.prog 62 #[.int .i64 size, .int .u64 (n : Int), .int .i64 (pr : Int)] w fun e w' => e = .returned (.tuple #[.string ⟨(expoS a b pr).1.toArray⟩, .int .i64 (expoS a b pr).2]) ∧ w.grownBy w' none := by
  have HV := Lib.hid hV
  have HZ := Lib.hid (fun W => speczeros_any pr W (by omega))
  have HSG := Lib.hid (fun vn vd W (h1 : NatV W vn a) (h2 : NatV W vd b) (h : a ≠ 0) => significant_any false vn vd a b (pr + 1) W h1 h2 h hb hla hlb (by omega) (by omega))
  obtain ⟨res, hres⟩ : ∃ res, expoS a b pr = res := ⟨_, rfl⟩
  have HRES := Lib.hid (hres.symm.trans (show expoS a b pr = if a = 0 then (48 :: zeroS pr, 0) else sigS a b (pr + 1) from rfl))
  rw [hres]
  have HNL := Lib.hid (show (natL a).length = 0 ↔ a = 0 from ⟨fun h => by by_cases h0 : a = 0; exact h0; exact absurd (List.length_eq_zero_iff.1 h) (natL_ne h0), fun h => by rw [h, natL_zero]; rfl⟩)
  have ct := cat_mk [48] (List.replicate pr 48)
  have ct2 := ct
  simp only [List.toArray_replicate] at ct2
  clear hres hV hla hlb
  refine calls_F Tryz.func62 rfl (by rw [Tryz.ntmps62]; simp) ?_
  intro σ hσ
  rw [Tryz.ntmps62]
  have s0 : σ 0 = .int .i64 size := hσ 0 (by simp)
  have s1 : σ 1 = .int .u64 (n : Int) := hσ 1 (by simp)
  have s2 : σ 2 = .int .i64 (pr : Int) := hσ 2 (by simp)
  clear hσ
  go_wp2_with fail
  refine (HV.out _).mono ?_
  rintro e w2 ⟨vn, vd, rfl, hvn, hvd, hg2⟩
  obtain ⟨an, cn, rfl⟩ := hvn.len
  obtain ⟨ad, cd, rfl⟩ := hvd.len
  obtain ⟨LN, hLN⟩ : ∃ LN, (natL a).length = LN := ⟨_, rfl⟩
  rw [hLN] at hvn HNL
  simp only [hLN]
  generalize (natL b).length = LD at *
  obtain ⟨w3, hw3⟩ : ∃ w', World.alloc w2 (.cells #[.bool neg, .slice an LN cn, .slice ad LD cd] 45) = w' := ⟨_, rfl⟩
  obtain ⟨B, hB⟩ : ∃ A, (World.heap w2).size = A := ⟨_, rfl⟩
  have hib := InBlk.new w2 neg (.slice an LN cn) (.slice ad LD cd) 45
  rw [hw3, hB] at hib
  have HIB := Lib.hid hib
  have HVN := Lib.hid (hvn.grown hib.grown)
  have HVD := Lib.hid (hvd.grown hib.grown)
  have HG3 := Lib.hid (grown_none_tr hg2 hib.grown)
  have HW3 := Lib.hid hw3
  have HB := Lib.hid hB
  have HSZ := Lib.hid hg2.size
  clear hvn hvd hg2 hib hw3 hB hLN
  go_upto_region 2 with fail
  rw [HW3.out, HB.out]
  clear HW3
  have c0 := HIB.out.row.cell 0
  have c1 := HIB.out.row.cell 1
  have c2 := HIB.out.row.cell 2
  have t0 := HIB.out.row.frozen 0
  simp only [List.getElem?_cons_zero, List.getElem?_cons_succ] at c0 c1 c2
  by_cases h0 : LN = 0
  · have ha0 : a = 0 := HNL.out.1 h0
    subst h0
    have hr2 : res = (48 :: zeroS pr, 0) := by rw [HRES.out, if_pos ha0]
    have HR2 := Lib.hid hr2
    clear hr2
    ((repeat (go_wp2_with fail; first | (refine cdY ?_ ?_; focus (simp [ov, *]; done)) | (refine cdN ?_ ?_; focus (simp [ov, *]; done)))); go_wp2_with fail)
    refine (HZ.out _).mono ?_
    rintro e w4 ⟨rfl, hg4⟩
    have HG4 := Lib.hid (grown_none_tr HG3.out hg4)
    clear hg4
    ((repeat (go_wp2_with fail; first | (refine cdY ?_ ?_; focus (simp [ov, *]; done)) | (refine cdN ?_ ?_; focus (simp [ov, *]; done)))); go_wp2_with fail)
    exact ret_F2 (.string ⟨(48 :: zeroS pr).toArray⟩) (.int .i64 0) rfl (by decide) (by decide) (by simp only [over_cons, over_nil]; exact congrArg Value.string ct) (by simp [ov, *]) ⟨by rw [HR2.out], HG4.out⟩
  · have ha0 : a ≠ 0 := fun h => h0 (HNL.out.2 h)
    have f1 : ((LN : Int) == 0) = false := by rw [beq_eq_false_iff_ne]; omega
    have f2 : (LN == 0) = false := by rw [beq_eq_false_iff_ne]; omega
    have f3 : decide ((pr : Int) < 0) = false := by simp
    have hr2 : res = sigS a b (pr + 1) := by rw [HRES.out, if_neg ha0]
    have HR2 := Lib.hid hr2
    have HA0 := Lib.hid ha0
    clear hr2 ha0
    ((repeat (go_upto_region 7 with fail; first | (refine cdY ?_ ?_; focus (simp [ov, *]; done)) | (refine cdN ?_ ?_; focus (simp [ov, *]; done)))); go_upto_region 7 with fail)
    obtain ⟨w4, hw4⟩ : ∃ w4, w3.setCell ⟨B, 0, none⟩ (.bool false) = w4 := ⟨_, rfl⟩
    have hr4 := HIB.out.row.setCell 0 (.bool false)
    simp only [List.set_cons_zero] at hr4
    have hn4 := NatV.setB (u := .bool false) (k := 0) HVN.out c0
    have hd4 := NatV.setB (u := .bool false) (k := 0) HVD.out c0
    have hg4 := grown_setN HG3.out (a := ⟨B, 0, none⟩) (.bool false) (by show w.heap.size ≤ B; have := HB.out; have := HSZ.out; omega)
    rw [hw4] at hr4 hn4 hd4 hg4
    rw [hw4]
    have HN4 := Lib.hid hn4
    have HD4 := Lib.hid hd4
    have HG4 := Lib.hid hg4
    clear c0 c1 c2 t0 hn4 hd4 hg4 hw4
    have c0 := hr4.cell 0
    have c1 := hr4.cell 1
    have c2 := hr4.cell 2
    simp only [List.getElem?_cons_zero, List.getElem?_cons_succ] at c0 c1 c2
    clear hr4
    ((repeat (go_wp2_with fail; first | (refine cdY ?_ ?_; focus (simp [ov, *]; done)) | (refine cdN ?_ ?_; focus (simp [ov, *]; done)))); go_wp2_with fail)
    refine (HSG.out _ _ _ HN4.out HD4.out HA0.out).mono ?_
    rintro e w5 ⟨rfl, hg5⟩
    have HG5 := Lib.hid (grown_none_tr HG4.out hg5)
    clear hg5 c0 c1 c2
    generalize sigS a b (pr + 1) = sg at *
    obtain ⟨sx, se⟩ := sg
    ((repeat (go_wp2_with fail; first | (refine cdY ?_ ?_; focus (simp [ov, *]; done)) | (refine cdN ?_ ?_; focus (simp [ov, *]; done)))); go_wp2_with fail)
    exact ret_F2 (.string ⟨sx.toArray⟩) (.int .i64 se) rfl (by decide) (by decide) (by simp [ov, *]) (by simp [ov, *]) ⟨by rw [HR2.out], HG5.out⟩
end Go.Proofs.YticlnihjhcepkaaGreatDoor

/-
  Walks of spec: trimZeros, placed.
-/
namespace Go.Proofs.YticlnihjhcepkaaGreatDoor
open Go.RowKit
set_option linter.unusedSimpArgs false
set_option linter.unusedVariables false
attribute [local go_sem] undef

theorem trimS_len (s : List UInt8) : (trimS s).length ≤ s.length ∧ (1 ≤ s.length → 1 ≤ (trimS s).length) := by
  obtain ⟨n, hn⟩ : ∃ n, s.length = n := ⟨_, rfl⟩
  induction n using Nat.strongRecOn generalizing s with
  | ind n ih =>
    rw [trimS]
    split
    · next h =>
      have hd : s.dropLast.length = n - 1 := by rw [List.length_dropLast, hn]
      obtain ⟨i1, i2⟩ := ih (n - 1) (by omega) s.dropLast hd
      exact ⟨by omega, fun _ => i2 (by omega)⟩
    · exact ⟨Nat.le_refl _, id⟩

set_option maxRecDepth 100000 in
set_option maxHeartbeats 8000000 in
theorem trimZeros_any (s : List UInt8) (w : World) (h0 : 1 ≤ s.length) (hs : s.length ≤ 100000) :
    Calls Tryz.prog 93 #[.string ⟨s.toArray⟩] w fun e w' => e = .returned (.string ⟨(trimS s).toArray⟩) ∧ w.grownBy w' none := by
  refine calls_F Tryz.func93 rfl (by rw [Tryz.ntmps93]; simp) ?_
  intro σ hσ
  rw [Tryz.ntmps93]
  have s0 : σ 0 = .string ⟨s.toArray⟩ := hσ 0 (by simp)
  clear hσ
  ((repeat (go_wp2_with fail; first | (refine cdY ?_ ?_; focus (simp [ov, *]; done)) | (refine cdN ?_ ?_; focus (simp [ov, *]; done)))); go_wp2_with fail)
  refine loop_F (fun kk s' w' => ∃ u : List UInt8, kk = u.length ∧ u.length ≤ 100000 ∧ 1 ≤ u.length ∧ s' 0 = .string ⟨u.toArray⟩ ∧ trimS u = trimS s ∧ w.grownBy w' none) s.length ⟨s, rfl, hs, h0, by simp [ov, *], rfl, grown_refl w none⟩ ?_
  clear s0 σ h0 hs
  rintro kk σ wk ⟨u, hkk, hul, hu1, s0, htr, hg⟩ RK KK HRK hKK
  have HTR := Lib.hid htr
  have HG := Lib.hid hg
  clear htr hg
  have y1 : (⟨u.toArray⟩ : ByteArray).size = u.length := by simp [ByteArray.size]
  by_cases h1 : u.length = 1
  · have hfin : trimS s = u := by
      have e : trimS u = u := by rw [trimS, dif_neg (by omega)]
      rw [← HTR.out, e]
    have HF := Lib.hid hfin
    rw [h1] at y1
    clear hfin hkk h1 hul hu1
    ((repeat (go_wp2_with fail; first | (refine cdY ?_ ?_; focus (simp [ov, *]; done)) | (refine cdN ?_ ?_; focus (simp [ov, *]; done)))); go_wp2_with fail)
    exact ret_F (.string ⟨u.toArray⟩) rfl (by decide) (by simp [ov, *]) ⟨by rw [HF.out], HG.out⟩
  · obtain ⟨N, hN⟩ : ∃ N, u.length = N + 1 := ⟨u.length - 1, by omega⟩
    have hidx := str_idx u N (by omega)
    have hdl : u.dropLast = u.take N := by rw [List.dropLast_eq_take, hN, Nat.add_sub_cancel]
    have hlast : u.getLast? = some (u.getD N 0) := by
      rw [List.getLast?_eq_getElem?, hN, Nat.add_sub_cancel, List.getD_eq_getElem?_getD, List.getElem?_eq_getElem (by omega)]
      rfl
    rw [hN] at y1 hkk
    have hN1 : 0 < N := by omega
    have hN2 : (0 : Int) < (N : Int) := by omega
    have hN3 : (1 : Int) < (N : Int) + 1 := by omega
    have hN4 : 1 < N + 1 := by omega
    have hN5 : N ≤ 100000 := by omega
    have hsl := slice_head u N
    obtain ⟨c, hc⟩ : ∃ c, u.getD N 0 = c := ⟨_, rfl⟩
    rw [hc] at hidx hlast
    have HN := Lib.hid hN
    have HLA := Lib.hid hlast
    have HDL := Lib.hid hdl
    clear hc hul hu1 h1 hN hlast hdl
    by_cases h48 : c = 48
    · have f1 : ((c.toNat : Int) == 48) = true := by rw [h48]; rfl
      have f2 : (c.toNat == 48) = true := by rw [h48]; rfl
      have HC := Lib.hid h48
      clear h48
      ((repeat (go_wp2_with fail; first | (refine cdY ?_ ?_; focus (simp [ov, *]; done)) | (refine cdN ?_ ?_; focus (simp [ov, *]; done)))); go_wp2_with fail)
      refine gotk HRK N (by omega) ⟨u.take N, by rw [List.length_take, HN.out]; omega, by rw [List.length_take, HN.out]; omega, by rw [List.length_take, HN.out]; omega, by simp [ov, *], ?_, HG.out⟩
      rw [← HTR.out, trimS.eq_1 u, dif_pos ⟨by rw [HN.out]; omega, by rw [HLA.out, HC.out]⟩, HDL.out]
    · have hcn : c.toNat ≠ 48 := fun h => h48 (UInt8.toNat_inj.1 h)
      have f1 : ((c.toNat : Int) == 48) = false := by rw [beq_eq_false_iff_ne]; omega
      have f2 : (c.toNat == 48) = false := by rw [beq_eq_false_iff_ne]; omega
      have hfin : trimS s = u := by
        have e : trimS u = u := by
          rw [trimS, dif_neg]
          rintro ⟨-, h⟩
          rw [HLA.out] at h
          exact h48 (Option.some.inj h)
        rw [← HTR.out, e]
      have HF := Lib.hid hfin
      clear hfin h48 hcn
      ((repeat (go_wp2_with fail; first | (refine cdY ?_ ?_; focus (simp [ov, *]; done)) | (refine cdN ?_ ?_; focus (simp [ov, *]; done)))); go_wp2_with fail)
      exact ret_F (.string ⟨u.toArray⟩) rfl (by decide) (by simp [ov, *]) ⟨by rw [HF.out], HG.out⟩

set_option maxRecDepth 100000 in
set_option maxHeartbeats 8000000 in
theorem placed_any (s : List UInt8) (e : Int) (w : World) (h0 : 1 ≤ s.length) (hs : s.length ≤ 7000) (he1 : -1000 ≤ e) (he2 : e ≤ 1000) :
    Calls Tryz.prog 66 #[.string ⟨s.toArray⟩, .int .i64 e, .int .i64 (max 0 ((s.length : Int) - 1 - e))] w fun r w' => r = .returned (.string ⟨(placedT s e (max 0 ((s.length : Int) - 1 - e))).toArray⟩) ∧ w.grownBy w' none := by
  obtain ⟨A, hA⟩ : ∃ A : Nat, max 0 ((s.length : Int) - 1 - e) = (A : Int) := ⟨(max 0 ((s.length : Int) - 1 - e)).toNat, by omega⟩
  rw [hA]
  obtain ⟨res, hres⟩ : ∃ res, placedT s e (A : Int) = res := ⟨_, rfl⟩
  have hsg := hres.symm
  unfold placedT at hsg
  dsimp only at hsg
  rw [hres]
  clear hres
  obtain ⟨k, hk⟩ : ∃ k, s.length = k := ⟨_, rfl⟩
  have y1 : (⟨s.toArray⟩ : ByteArray).size = k := by rw [← hk]; simp [ByteArray.size]
  have HZ := Lib.hid (fun n W (h : n ≤ 100000) => speczeros_any n W h)
  refine calls_F Tryz.func66 rfl (by rw [Tryz.ntmps66]; simp) ?_
  intro σ hσ
  rw [Tryz.ntmps66]
  have s0 : σ 0 = .string ⟨s.toArray⟩ := hσ 0 (by simp)
  have s1 : σ 1 = .int .i64 e := hσ 1 (by simp)
  have s2 : σ 2 = .int .i64 (A : Int) := hσ 2 (by simp)
  clear hσ
  have hcut : ∃ (s1' : List UInt8) (y z : Nat), (if e < 0 then zeroS (-e).toNat ++ s else s) = s1' ∧ (if e < 0 then 0 else e) = (y : Int) ∧ (y : Int) + 1 + A - s1'.length = z ∧ s1'.length ≤ 9000 ∧ y ≤ 1000 ∧ z ≤ 9000 := by
    by_cases hn : e < 0
    · refine ⟨zeroS (-e).toNat ++ s, 0, 0, by rw [if_pos hn], by rw [if_pos hn]; rfl, ?_, ?_, by omega, by omega⟩
      · rw [List.length_append]; unfold zeroS; rw [List.length_replicate]; omega
      · rw [List.length_append]; unfold zeroS; rw [List.length_replicate]; omega
    · refine ⟨s, e.toNat, (e + 1 + A - s.length).toNat, by rw [if_neg hn], by rw [if_neg hn]; omega, by omega, by omega, by omega, by omega⟩
  obtain ⟨u, y, z, hu, hy, hz, hul, hyl, hzl⟩ := hcut
  rw [hu, hy, hz, Int.toNat_natCast, show ((y : Int) + 1).toNat = y + 1 by omega] at hsg
  have HSG := Lib.hid hsg
  clear hsg
  go_wp2_with fail
  refine cut_F (fun s' w' => s' 0 = .string ⟨u.toArray⟩ ∧ s' 1 = .int .i64 (y : Int) ∧ s' 2 = .int .i64 (A : Int) ∧ w.grownBy w' none) ?_ ?_
  · intro R' K' HR hK'
    by_cases hn : e < 0
    · rw [if_pos hn] at hu hy
      obtain ⟨t, ht⟩ : ∃ t : Nat, e = -((t : Int) + 1) := ⟨(-e - 1).toNat, by omega⟩
      subst ht
      have hy0 : y = 0 := by omega
      subst hy0
      rw [show (-(-((t : Int) + 1))).toNat = t + 1 by omega] at hu
      have ct := cat_mk (zeroS (t + 1)) s
      rw [hu] at ct
      have ct2 := ct
      unfold zeroS at ct2
      simp only [List.toArray_replicate] at ct2
      have f1 : decide (-((t : Int) + 1) < 0) = true := by rw [decide_eq_true_eq]; omega
      have HZ1 := Lib.hid (fun W => HZ.out (t + 1) W (by omega))
      have hcast : (((t + 1 : Nat) : Nat) : Int) = (t : Int) + 1 := by omega
      simp only [hcast] at HZ1
      have hk7 : k ≤ 7000 := by omega
      clear hu hy hz hul hA hs hn HZ hcast hk
      ((repeat (go_wp2_with fail; first | (refine cdY ?_ ?_; focus (simp [ov, *]; done)) | (refine cdN ?_ ?_; focus (simp [ov, *]; done)))); go_wp2_with fail)
      refine (HZ1.out _).mono ?_
      rintro r w4 ⟨rfl, hg4⟩
      have HG4 := Lib.hid hg4
      clear hg4
      ((repeat (go_wp2_with fail; first | (refine cdY ?_ ?_; focus (simp [ov, *]; done)) | (refine cdN ?_ ?_; focus (simp [ov, *]; done)))); go_wp2_with fail)
      exact got HR ⟨by simp [ov, *], by simp [ov, *], by simp [ov, *], HG4.out⟩
    · rw [if_neg hn] at hu hy
      subst hu
      subst hy
      have f1 : decide ((y : Int) < 0) = false := by simp
      clear hn hz
      ((repeat (go_wp2_with fail; first | (refine cdY ?_ ?_; focus (simp [ov, *]; done)) | (refine cdN ?_ ?_; focus (simp [ov, *]; done)))); go_wp2_with fail)
      exact got HR ⟨by simp [ov, *], by simp [ov, *], by simp [ov, *], grown_refl w none⟩
  clear s0 s1 s2 σ y1
  rintro σ w4 ⟨s0, s1, s2, hg4⟩
  have HG4 := Lib.hid hg4
  clear hg4
  have y1 : (⟨u.toArray⟩ : ByteArray).size = u.length := by simp [ByteArray.size]
  have HZ2 := Lib.hid (fun W => HZ.out z W (by omega))
  obtain ⟨U, hU⟩ : ∃ U, u.length = U := ⟨_, rfl⟩
  rw [hU] at y1 hz hul
  have ct := cat_mk u (zeroS z)
  obtain ⟨S, hS⟩ : ∃ S, u ++ zeroS z = S := ⟨_, rfl⟩
  have hSl : S.length = y + 1 + A := by
    rw [← hS, List.length_append, hU]
    unfold zeroS
    rw [List.length_replicate]
    omega
  rw [hS] at ct
  rw [hS] at HSG
  have ct2 := ct
  unfold zeroS at ct2
  simp only [List.toArray_replicate] at ct2
  have HU := Lib.hid hu
  clear hu hy hA hs HZ h0 hU hk hS he1 he2
  go_upto_region 4 with fail
  refine cut_F (fun s' w' => s' 0 = .string ⟨S.toArray⟩ ∧ s' 1 = .int .i64 (y : Int) ∧ s' 2 = .int .i64 (A : Int) ∧ w.grownBy w' none) ?_ ?_
  · intro R' K' HR hK'
    ((repeat (go_wp2_with fail; first | (refine cdY ?_ ?_; focus (simp [ov, *]; done)) | (refine cdN ?_ ?_; focus (simp [ov, *]; done)))); go_wp2_with fail)
    refine (HZ2.out _).mono ?_
    rintro r w5 ⟨rfl, hg5⟩
    have HG5 := Lib.hid (grown_none_tr HG4.out hg5)
    clear hg5
    ((repeat (go_wp2_with fail; first | (refine cdY ?_ ?_; focus (simp [ov, *]; done)) | (refine cdN ?_ ?_; focus (simp [ov, *]; done)))); go_wp2_with fail)
    exact got HR ⟨by simp [ov, *], by simp [ov, *], by simp [ov, *], HG5.out⟩
  clear s0 s1 s2 σ HZ2 ct ct2 y1
  rintro σ w5 ⟨s0, s1, s2, hg5⟩
  have HG5 := Lib.hid hg5
  clear hg5
  have y2 : (⟨S.toArray⟩ : ByteArray).size = y + 1 + A := by rw [← hSl]; simp [ByteArray.size]
  have e1 := slice_head S (y + 1)
  by_cases hA0 : A = 0
  · subst hA0
    have hr2 : res = S.take (y + 1) := by rw [HSG.out, if_pos (show ((0 : Nat) : Int) = 0 from rfl)]
    have HR2 := Lib.hid hr2
    clear hr2 hSl
    ((repeat (go_wp2_with fail; first | (refine cdY ?_ ?_; focus (simp [ov, *]; done)) | (refine cdN ?_ ?_; focus (simp [ov, *]; done)))); go_wp2_with fail)
    exact ret_F (.string ⟨(S.take (y + 1)).toArray⟩) rfl (by decide) (by simp [ov, *]) ⟨by rw [HR2.out], HG5.out⟩
  · have hr2 : res = S.take (y + 1) ++ 46 :: S.drop (y + 1) := by rw [HSG.out, if_neg (by omega)]
    have HR2 := Lib.hid hr2
    have e2 := slice_tail S (y + 1) (y + 1 + A) hSl
    have e3 : (⟨(S.take (y + 1)).toArray⟩ : ByteArray) ++ ⟨#[46]⟩ = ⟨(S.take (y + 1) ++ [46]).toArray⟩ := cat_mk (S.take (y + 1)) [46]
    have e4 := cat_mk (S.take (y + 1) ++ [46]) (S.drop (y + 1))
    rw [List.append_assoc] at e4
    have f1 : ((A : Int) == 0) = false := by rw [beq_eq_false_iff_ne]; omega
    have f2 : (A == 0) = false := by rw [beq_eq_false_iff_ne]; omega
    have HSL := Lib.hid hSl
    have hA9 : A ≤ 18000 := by omega
    clear hr2 hSl hA0
    ((repeat (go_wp2_with fail; first | (refine cdY ?_ ?_; focus (simp [ov, *]; done)) | (refine cdN ?_ ?_; focus (simp [ov, *]; done)))); go_wp2_with fail)
    refine wp_region_noPanic ?_
    refine wp_region_held_drew (S := fun W => w5.grownBy W none) (by kernel_rfl) (grown_drewN w5 1 none) (fun hHeld => ?_)
    (refine take_T 0 30 ?_; refine take_T 1 31 ?_)
    (refine take_F 2 32 (oi := ?_) (v := ?_) ?_ ?_ (by kernel_rfl) (by kernel_rfl) (by kernel_rfl) (fun _ _ _ _ _ h => h) ?_ (by assumption) ?_ ?_; rotate_left 2; (focus ((simp only [List.getElem?_toArray, List.getElem?_cons_succ, List.getElem?_cons_zero]); rfl)); (focus rfl); (focus (first | rfl | (simp only [Region.wanted, yielded, List.getElem?_toArray, List.getElem?_cons_succ, List.getElem?_cons_zero, Option.bind_some, Option.map_some, Fr_get?, over_cons, over_nil]; rfl) | go_simp)); (focus (intro W hS; go_simp; rw [wrapIn _ (by omega) (by omega)])))
    (refine take_F 3 33 (oi := ?_) (v := ?_) ?_ ?_ (by kernel_rfl) (by kernel_rfl) (by kernel_rfl) (fun _ _ _ _ _ h => h) ?_ (by assumption) ?_ ?_; rotate_left 2; (focus ((simp only [List.getElem?_toArray, List.getElem?_cons_succ, List.getElem?_cons_zero]); rfl)); (focus rfl); (focus (first | rfl | (simp only [Region.wanted, yielded, List.getElem?_toArray, List.getElem?_cons_succ, List.getElem?_cons_zero, Option.bind_some, Option.map_some, Fr_get?, over_cons, over_nil]; rfl) | go_simp)); (focus (intro W hS; go_simp; first | with_reducible rfl | rw [if_pos (by omega)])))
    (refine take_F 4 34 (oi := ?_) (v := ?_) ?_ ?_ (by kernel_rfl) (by kernel_rfl) (by kernel_rfl) (fun _ _ _ _ _ h => h) ?_ (by assumption) ?_ ?_; rotate_left 2; (focus ((simp only [List.getElem?_toArray, List.getElem?_cons_succ, List.getElem?_cons_zero]); rfl)); (focus rfl); (focus (first | rfl | (simp only [Region.wanted, yielded, List.getElem?_toArray, List.getElem?_cons_succ, List.getElem?_cons_zero, Option.bind_some, Option.map_some, Fr_get?, over_cons, over_nil]; rfl) | go_simp)); (focus (intro W hS; go_simp; rw [if_neg (by omega)])))
    (refine take_T 5 35 ?_; refine take_T 6 36 ?_)
    (refine take_F 7 37 (oi := ?_) (v := ?_) ?_ ?_ (by kernel_rfl) (by kernel_rfl) (by kernel_rfl) (fun _ _ _ _ _ h => h) ?_ (by assumption) ?_ ?_; rotate_left 2; (focus ((simp only [List.getElem?_toArray, List.getElem?_cons_succ, List.getElem?_cons_zero]); rfl)); (focus rfl); (focus (first | rfl | (simp only [Region.wanted, yielded, List.getElem?_toArray, List.getElem?_cons_succ, List.getElem?_cons_zero, Option.bind_some, Option.map_some, Fr_get?, over_cons, over_nil]; rfl) | go_simp)); (focus (intro W hS; go_simp; rw [wrapIn _ (by omega) (by omega)])))
    (refine take_F 8 38 (oi := ?_) (v := ?_) ?_ ?_ (by kernel_rfl) (by kernel_rfl) (by kernel_rfl) (fun _ _ _ _ _ h => h) ?_ (by assumption) ?_ ?_; rotate_left 2; (focus ((simp only [List.getElem?_toArray, List.getElem?_cons_succ, List.getElem?_cons_zero]); rfl)); (focus rfl); (focus (first | rfl | (simp only [Region.wanted, yielded, List.getElem?_toArray, List.getElem?_cons_succ, List.getElem?_cons_zero, Option.bind_some, Option.map_some, Fr_get?, over_cons, over_nil]; rfl) | go_simp)); (focus (intro W hS; go_simp; first | with_reducible rfl | rw [if_pos (by omega)] | rw [if_neg (by omega)])))
    (refine take_F 9 39 (oi := ?_) (v := ?_) ?_ ?_ (by kernel_rfl) (by kernel_rfl) (by kernel_rfl) (fun _ _ _ _ _ h => h) ?_ (by assumption) ?_ ?_; rotate_left 2; (focus ((simp only [List.getElem?_toArray, List.getElem?_cons_succ, List.getElem?_cons_zero]); rfl)); (focus rfl); (focus (first | rfl | (simp only [Region.wanted, yielded, List.getElem?_toArray, List.getElem?_cons_succ, List.getElem?_cons_zero, Option.bind_some, Option.map_some, Fr_get?, over_cons, over_nil]; rfl) | go_simp)); (focus (intro W hS; go_simp; have hsl := HSL.out; rw [if_neg (by omega)])))
    (refine take_T 10 6 ?_)
    refine wpAnyH_done (by kernel_rfl) ?_ _
    refine NoPanic.normal ?_
    ((repeat (go_wp2_with fail; first | (refine cdY ?_ ?_; focus (simp [ov, *]; done)) | (refine cdN ?_ ?_; focus (simp [ov, *]; done)))); go_wp2_with fail)
    exact ret_F (.string ⟨(S.take (y + 1) ++ ([46] ++ S.drop (y + 1))).toArray⟩) rfl (by decide) (by simp [ov, *]) ⟨by rw [HR2.out]; rfl, grown_none_tr HG5.out hHeld⟩
end Go.Proofs.YticlnihjhcepkaaGreatDoor

/-
  Walk of spec/format.go: general.
-/
namespace Go.Proofs.YticlnihjhcepkaaGreatDoor
open Go.RowKit
set_option linter.unusedSimpArgs false
set_option linter.unusedVariables false
attribute [local go_sem] undef

def limG (prec : Int) : Int := if prec < 0 then 6 else if prec = 0 then 1 else prec
def cntG (prec : Int) : Int := if prec < 0 then -1 else limG prec - 1

set_option maxRecDepth 100000 in
set_option maxHeartbeats 8000000 in
theorem general_any (size : Int) (n : Nat) (c : UInt8) (prec : Int) (sx : List UInt8) (se : Int) (w : World) (hp1 : -1 ≤ prec) (hp2 : prec ≤ 5500) (hx1 : 1 ≤ sx.length) (hx2 : sx.length ≤ 7000) (he1 : -1000 ≤ se) (he2 : se ≤ 1000)
    (hE : ∀ W, Calls Tryz.prog 62 #[.int .i64 size, .int .u64 (n : Int), .int .i64 (cntG prec)] W fun e w' => e = .returned (.tuple #[.string ⟨sx.toArray⟩, .int .i64 se]) ∧ W.grownBy w' none) :
    Calls Tryz.prog 67 #[.int .i64 size, .int .u64 (n : Int), .int .u8 (c.toNat : Int), .int .i64 prec] w fun e w' => e = .returned (.string ⟨(gT c (trimS sx) se (limG prec)).toArray⟩) ∧ w.grownBy w' none := by
  have hlim : -10000 ≤ limG prec ∧ limG prec ≤ 10000 := by unfold limG; split <;> (try split) <;> omega
  have HLIM := Lib.hid (show limG prec = if prec < 0 then 6 else if prec = 0 then 1 else prec from rfl)
  have HCNT := Lib.hid (show cntG prec = if prec < 0 then -1 else limG prec - 1 from rfl)
  have HE := Lib.hid hE
  have HTR := Lib.hid (fun W => trimZeros_any sx W hx1 (by omega))
  obtain ⟨t1, t2⟩ := trimS_len sx
  have ht1 : 1 ≤ (trimS sx).length := t2 hx1
  have ht2 : (trimS sx).length ≤ 7000 := by omega
  generalize trimS sx = t at *
  obtain ⟨res, hres⟩ : ∃ res, gT c t se (limG prec) = res := ⟨_, rfl⟩
  have hsg := hres.symm
  unfold gT at hsg
  rw [hres]
  have HSG := Lib.hid hsg
  have HPT := Lib.hid (fun W => pointed_any t W ht1 (by omega))
  have HXT := Lib.hid (fun W => exponentText_any c se false W (by omega) (by omega))
  have HPL := Lib.hid (fun W => placed_any t se W ht1 ht2 he1 he2)
  have hpl : (ptL t).length ≤ 8000 := by
    unfold ptL
    split
    · omega
    · simp; omega
  have hxl : (expT c se false).length ≤ 100 := by
    unfold expT
    have := decT_len se.natAbs (by omega)
    rw [List.length_cons, List.length_cons]
    split
    · rw [List.length_cons]; omega
    · omega
  have cpx := cat_mk (ptL t) (expT c se false)
  generalize limG prec = lim at *
  generalize cntG prec = cnt at *
  obtain ⟨hl1, hl2⟩ := hlim
  clear hres hsg hE t1 t2
  refine calls_F Tryz.func67 rfl (by rw [Tryz.ntmps67]; simp) ?_
  intro σ hσ
  rw [Tryz.ntmps67]
  have s0 : σ 0 = .int .i64 size := hσ 0 (by simp)
  have s1 : σ 1 = .int .u64 (n : Int) := hσ 1 (by simp)
  have s2 : σ 2 = .int .u8 (c.toNat : Int) := hσ 2 (by simp)
  have s3 : σ 3 = .int .i64 prec := hσ 3 (by simp)
  clear hσ
  have hcnt : (prec < 0 ∧ lim = 6 ∧ cnt = -1) ∨ (prec = 0 ∧ lim = 1 ∧ cnt = 0) ∨ (0 < prec ∧ lim = prec ∧ cnt = prec - 1) := by
    have h1 := HLIM.out
    have h2 := HCNT.out
    by_cases hn : prec < 0
    · rw [if_pos hn] at h1 h2; exact Or.inl ⟨hn, h1, h2⟩
    · rw [if_neg hn] at h1 h2
      by_cases h0 : prec = 0
      · rw [if_pos h0] at h1; exact Or.inr (Or.inl ⟨h0, h1, by omega⟩)
      · rw [if_neg h0] at h1; exact Or.inr (Or.inr ⟨by omega, h1, by omega⟩)
  obtain ⟨l1, hl1'⟩ : ∃ l1, (if prec < 0 then 6 else prec) = l1 := ⟨_, rfl⟩
  have hcn : prec < 0 ∧ l1 = 6 ∧ lim = 6 ∧ cnt = -1 ∨ prec = 0 ∧ l1 = 0 ∧ lim = 1 ∧ cnt = 0 ∨ 0 < prec ∧ l1 = prec ∧ lim = prec ∧ cnt = prec - 1 := by
    rcases hcnt with ⟨h, h1, h2⟩ | ⟨h, h1, h2⟩ | ⟨h, h1, h2⟩
    · rw [if_pos h] at hl1'; exact Or.inl ⟨h, hl1'.symm, h1, h2⟩
    · rw [if_neg (by omega)] at hl1'; exact Or.inr (Or.inl ⟨h, by omega, h1, h2⟩)
    · rw [if_neg (by omega)] at hl1'; exact Or.inr (Or.inr ⟨h, by omega, h1, h2⟩)
  have HCN := Lib.hid hcn
  clear hcnt HLIM HCNT hl1' hcn
  go_wp2_with fail
  refine cut_F (fun s' w' => s' 0 = .int .i64 size ∧ s' 1 = .int .u64 (n : Int) ∧ s' 2 = .int .u8 (c.toNat : Int) ∧ s' 3 = .int .i64 prec ∧ s' 9 = .int .i64 l1 ∧ w = w') ?_ ?_
  · intro R' K' HR hK'
    by_cases hn : prec < 0
    · have e : l1 = 6 := by have := HCN.out; omega
      subst e
      clear HCN
      ((repeat (go_wp2_with fail; first | (refine cdY ?_ ?_; focus (simp [ov, *]; done)) | (refine cdN ?_ ?_; focus (simp [ov, *]; done)))); go_wp2_with fail)
      exact got HR ⟨by simp [ov, *], by simp [ov, *], by simp [ov, *], by simp [ov, *], by simp [over_cons, over_nil], rfl⟩
    · have e : l1 = prec := by have := HCN.out; omega
      subst e
      have f1 : decide (l1 < 0) = false := by simpa using hn
      clear HCN
      ((repeat (go_wp2_with fail; first | (refine cdY ?_ ?_; focus (simp [ov, *]; done)) | (refine cdN ?_ ?_; focus (simp [ov, *]; done)))); go_wp2_with fail)
      exact got HR ⟨by simp [ov, *], by simp [ov, *], by simp [ov, *], by simp [ov, *], by simp [ov, *], rfl⟩
  clear s0 s1 s2 s3 σ
  rintro σ w' ⟨s0, s1, s2, s3, s9, rfl⟩
  go_wp2_with fail
  refine cut_F (fun s' w' => s' 0 = .int .i64 size ∧ s' 1 = .int .u64 (n : Int) ∧ s' 2 = .int .u8 (c.toNat : Int) ∧ s' 3 = .int .i64 prec ∧ s' 9 = .int .i64 lim ∧ w = w') ?_ ?_
  · intro R' K' HR hK'
    by_cases hn : prec = 0
    · have e : lim = 1 := by have := HCN.out; omega
      subst e
      subst hn
      clear HCN
      ((repeat (go_wp2_with fail; first | (refine cdY ?_ ?_; focus (simp [ov, *]; done)) | (refine cdN ?_ ?_; focus (simp [ov, *]; done)))); go_wp2_with fail)
      exact got HR ⟨by simp [ov, *], by simp [ov, *], by simp [ov, *], by simp [ov, *], by simp [over_cons, over_nil], rfl⟩
    · have e : l1 = lim := by have := HCN.out; omega
      subst e
      have f1 : (prec == 0) = false := by simpa using hn
      clear HCN
      ((repeat (go_wp2_with fail; first | (refine cdY ?_ ?_; focus (simp [ov, *]; done)) | (refine cdN ?_ ?_; focus (simp [ov, *]; done)))); go_wp2_with fail)
      exact got HR ⟨by simp [ov, *], by simp [ov, *], by simp [ov, *], by simp [ov, *], by simp [ov, *], rfl⟩
  clear s0 s1 s2 s3 s9 σ
  rintro σ w' ⟨s0, s1, s2, s3, s9, rfl⟩
  go_wp2_with fail
  refine cut_F (fun s' w' => s' 0 = .int .i64 size ∧ s' 1 = .int .u64 (n : Int) ∧ s' 2 = .int .u8 (c.toNat : Int) ∧ s' 9 = .int .i64 lim ∧ s' 10 = .int .i64 cnt ∧ w = w') ?_ ?_
  · intro R' K' HR hK'
    by_cases hn : prec < 0
    · have e : cnt = -1 := by have := HCN.out; omega
      subst e
      have f1 : decide (0 ≤ prec) = false := by simp; omega
      clear HCN
      ((repeat (go_wp2_with fail; first | (refine cdY ?_ ?_; focus (simp [ov, *]; done)) | (refine cdN ?_ ?_; focus (simp [ov, *]; done)))); go_wp2_with fail)
      exact got HR ⟨by simp [ov, *], by simp [ov, *], by simp [ov, *], by simp [ov, *], by simp [over_cons, over_nil], rfl⟩
    · have e : cnt = lim - 1 := by have := HCN.out; omega
      subst e
      have f1 : (0 : Int) ≤ prec := by omega
      clear HCN
      ((repeat (go_wp2_with fail; first | (refine cdY ?_ ?_; focus (simp [ov, *]; done)) | (refine cdN ?_ ?_; focus (simp [ov, *]; done)))); go_wp2_with fail)
      exact got HR ⟨by simp [ov, *], by simp [ov, *], by simp [ov, *], by simp [ov, *], by simp [ov, *], rfl⟩
  clear s0 s1 s2 s3 s9 σ HCN
  rintro σ w' ⟨s0, s1, s2, s9, s10, rfl⟩
  ((repeat (go_wp2_with fail; first | (refine cdY ?_ ?_; focus (simp [ov, *]; done)) | (refine cdN ?_ ?_; focus (simp [ov, *]; done)))); go_wp2_with fail)
  refine (HE.out _).mono ?_
  rintro e w2 ⟨rfl, hg2⟩
  have HG2 := Lib.hid hg2
  clear hg2
  ((repeat (go_wp2_with fail; first | (refine cdY ?_ ?_; focus (simp [ov, *]; done)) | (refine cdN ?_ ?_; focus (simp [ov, *]; done)))); go_wp2_with fail)
  refine (HTR.out _).mono ?_
  rintro e w3 ⟨rfl, hg3⟩
  have HG3 := Lib.hid (grown_none_tr HG2.out hg3)
  clear hg3 HE HTR
  by_cases hc : se < -4 ∨ lim ≤ se
  · have hr2 : res = ptL t ++ expT c se false := by rw [HSG.out, if_pos hc]
    have HR2 := Lib.hid hr2
    have y1 : (⟨(ptL t).toArray⟩ : ByteArray).size = (ptL t).length := by simp [ByteArray.size]
    have y2 : (⟨(expT c se false).toArray⟩ : ByteArray).size = (expT c se false).length := by simp [ByteArray.size]
    clear hr2
    generalize ptL t = p at *
    generalize expT c se false = q at *
    rcases (show se < -4 ∨ (¬ se < -4 ∧ lim ≤ se) by omega) with h | ⟨h, h2⟩
    · clear hc
      ((repeat (go_wp2_with fail; first | (refine cdY ?_ ?_; focus (simp [ov, *]; done)) | (refine cdN ?_ ?_; focus (simp [ov, *]; done)))); go_wp2_with fail)
      refine (HPT.out _).mono ?_
      rintro e w4 ⟨rfl, hg4⟩
      have HG4 := Lib.hid (grown_none_tr HG3.out hg4)
      clear hg4
      ((repeat (go_wp2_with fail; first | (refine cdY ?_ ?_; focus (simp [ov, *]; done)) | (refine cdN ?_ ?_; focus (simp [ov, *]; done)))); go_wp2_with fail)
      refine (HXT.out _).mono ?_
      rintro e w5 ⟨rfl, hg5⟩
      have HG5 := Lib.hid (grown_none_tr HG4.out hg5)
      clear hg5
      ((repeat (go_wp2_with fail; first | (refine cdY ?_ ?_; focus (simp [ov, *]; done)) | (refine cdN ?_ ?_; focus (simp [ov, *]; done)))); go_wp2_with fail)
      exact ret_F (.string ⟨(p ++ q).toArray⟩) rfl (by decide) (by simp [ov, *]) ⟨by rw [HR2.out], HG5.out⟩
    · have f1 : decide (se < -4) = false := by simpa using h
      clear hc
      ((repeat (go_wp2_with fail; first | (refine cdY ?_ ?_; focus (simp [ov, *]; done)) | (refine cdN ?_ ?_; focus (simp [ov, *]; done)))); go_wp2_with fail)
      refine (HPT.out _).mono ?_
      rintro e w4 ⟨rfl, hg4⟩
      have HG4 := Lib.hid (grown_none_tr HG3.out hg4)
      clear hg4
      ((repeat (go_wp2_with fail; first | (refine cdY ?_ ?_; focus (simp [ov, *]; done)) | (refine cdN ?_ ?_; focus (simp [ov, *]; done)))); go_wp2_with fail)
      refine (HXT.out _).mono ?_
      rintro e w5 ⟨rfl, hg5⟩
      have HG5 := Lib.hid (grown_none_tr HG4.out hg5)
      clear hg5
      ((repeat (go_wp2_with fail; first | (refine cdY ?_ ?_; focus (simp [ov, *]; done)) | (refine cdN ?_ ?_; focus (simp [ov, *]; done)))); go_wp2_with fail)
      exact ret_F (.string ⟨(p ++ q).toArray⟩) rfl (by decide) (by simp [ov, *]) ⟨by rw [HR2.out], HG5.out⟩
  · have hr2 : res = placedT t se (max 0 ((t.length : Int) - 1 - se)) := by rw [HSG.out, if_neg hc]
    have HR2 := Lib.hid hr2
    have y1 : (⟨t.toArray⟩ : ByteArray).size = t.length := by simp [ByteArray.size]
    have f1 : decide (se < -4) = false := by simp; omega
    have f2 : decide (lim ≤ se) = false := by simp; omega
    clear hr2 hc cpx hpl hxl
    generalize placedT t se (max 0 ((t.length : Int) - 1 - se)) = q at *
    ((repeat (go_wp2_with fail; first | (refine cdY ?_ ?_; focus (simp [ov, *]; done)) | (refine cdN ?_ ?_; focus (simp [ov, *]; done)))); go_wp2_with fail)
    refine (HPL.out _).mono ?_
    rintro e w4 ⟨rfl, hg4⟩
    have HG4 := Lib.hid (grown_none_tr HG3.out hg4)
    clear hg4
    ((repeat (go_wp2_with fail; first | (refine cdY ?_ ?_; focus (simp [ov, *]; done)) | (refine cdN ?_ ?_; focus (simp [ov, *]; done)))); go_wp2_with fail)
    exact ret_F (.string ⟨q.toArray⟩) rfl (by decide) (by simp [ov, *]) ⟨by rw [HR2.out], HG4.out⟩
end Go.Proofs.YticlnihjhcepkaaGreatDoor

/-
  Walk of spec/format.go: Format, at the formats e, E, f, g, G.
-/
namespace Go.Proofs.YticlnihjhcepkaaGreatDoor
open Go.RowKit
set_option linter.unusedSimpArgs false
set_option linter.unusedVariables false
attribute [local go_sem] undef

set_option maxRecDepth 100000 in
set_option maxHeartbeats 8000000 in
theorem formatE_any (size : Int) (b : Nat) (neg : Bool) (N D : Nat) (f : Int) (c : UInt8) (prec : Int) (sx : List UInt8) (se : Int) (hf : f = 101 ∧ c = 101 ∨ f = 69 ∧ c = 69) (hx1 : 1 ≤ sx.length) (hx2 : sx.length ≤ 7000) (he1 : -1000 ≤ se) (he2 : se ≤ 1000) (w : World)
    (hI : ∀ W, Calls Tryz.prog 47 #[.int .i64 size, .int .u64 (b : Int)] W fun e w' => e = .returned (.bool neg) ∧ W = w')
    (hK : ∀ W, Calls Tryz.prog 23 #[.int .i64 size, .int .u64 (b : Int)] W fun e w' => e = .returned (.int .i64 0) ∧ W = w')
    (hV : ∀ W, Calls Tryz.prog 24 #[.int .i64 size, .int .u64 (b : Int)] W fun x w' => ∃ vn vd, x = .returned (.tuple #[.agg #[.bool neg, vn, vd], .bool true]) ∧ NatV w' vn N ∧ NatV w' vd D ∧ W.grownBy w' none)
    (hE : ∀ W, Calls Tryz.prog 62 #[.int .i64 size, .int .u64 (b : Int), .int .i64 prec] W fun e w' => e = .returned (.tuple #[.string ⟨sx.toArray⟩, .int .i64 se]) ∧ W.grownBy w' none) :
    Calls Tryz.prog 32 #[.int .i64 size, .int .u64 (b : Int), .int .u8 f, .int .i64 prec] w fun e w' => e = .returned (.string ⟨(eSign neg ++ eT c sx se).toArray⟩) ∧ w.grownBy w' none := by
  have HI := Lib.hid hI
  have HK := Lib.hid hK
  have HV := Lib.hid hV
  clear hI hK hV
  have HE := Lib.hid hE
  have HPT := Lib.hid (fun W => pointed_any sx W hx1 (by omega))
  have hx : ∀ W, Calls Tryz.prog 64 #[.int .u8 f, .int .i64 se, .bool false] W fun r w' => r = .returned (.string ⟨(expT c se false).toArray⟩) ∧ W.grownBy w' none := by
    intro W
    rcases hf with ⟨rfl, rfl⟩ | ⟨rfl, rfl⟩
    · exact exponentText_any 101 se false W (by omega) (by omega)
    · exact exponentText_any 69 se false W (by omega) (by omega)
  have HXT := Lib.hid hx
  have hpl : (ptL sx).length ≤ 8000 := by
    unfold ptL
    split
    · omega
    · simp; omega
  have hxl : (expT c se false).length ≤ 100 := by
    unfold expT
    have := decT_len se.natAbs (by omega)
    rw [List.length_cons, List.length_cons]
    split
    · rw [List.length_cons]; omega
    · omega
  have hres : eT c sx se = ptL sx ++ expT c se false := rfl
  rw [hres]
  replace hf : f = 101 ∨ f = 69 := by rcases hf with ⟨h, -⟩ | ⟨h, -⟩ <;> simp [h]
  clear hE hx hres
  generalize ptL sx = p at *
  generalize expT c se false = q at *
  refine calls_F Tryz.func32 rfl (by rw [Tryz.ntmps32]; simp) ?_
  intro σ hσ
  rw [Tryz.ntmps32]
  have s0 : σ 0 = .int .i64 size := hσ 0 (by simp)
  have s1 : σ 1 = .int .u64 (b : Int) := hσ 1 (by simp)
  have s2 : σ 2 = .int .u8 f := hσ 2 (by simp)
  have s3 : σ 3 = .int .i64 prec := hσ 3 (by simp)
  clear hσ
  go_wp2_with fail
  refine (HI.out _).mono ?_
  rintro r w1 ⟨rfl, rfl⟩
  go_wp2_with fail
  refine cut_F (fun s' w' => s' 0 = .int .i64 size ∧ s' 1 = .int .u64 (b : Int) ∧ s' 2 = .int .u8 f ∧ s' 3 = .int .i64 prec ∧ s' 9 = .string ⟨(eSign neg).toArray⟩ ∧ w = w') ?_ ?_
  · intro R' K' HR hK'
    cases neg
    · ((repeat (go_wp2_with fail; first | (refine cdY ?_ ?_; focus (simp [ov, *]; done)) | (refine cdN ?_ ?_; focus (simp [ov, *]; done)))); go_wp2_with fail)
      exact got HR (by simp [over_cons, over_nil, eSign, *])
    · ((repeat (go_wp2_with fail; first | (refine cdY ?_ ?_; focus (simp [ov, *]; done)) | (refine cdN ?_ ?_; focus (simp [ov, *]; done)))); go_wp2_with fail)
      exact got HR (by simp [over_cons, over_nil, eSign, *])
  clear s0 s1 s2 s3 σ HI
  rintro σ w' ⟨s0, s1, s2, s3, s9, rfl⟩
  go_wp2_with fail
  refine (HK.out _).mono ?_
  rintro r w1 ⟨rfl, rfl⟩
  ((repeat (go_wp2_with fail; first | (refine cdY ?_ ?_; focus (simp [ov, *]; done)) | (refine cdN ?_ ?_; focus (simp [ov, *]; done)))); go_wp2_with fail)
  refine (HV.out _).mono ?_
  rintro r w2 ⟨vn, vd, rfl, hvn, hvd, hg2⟩
  have HG2 := Lib.hid hg2
  obtain ⟨an, cn, rfl⟩ := hvn.len
  obtain ⟨ad, cd, rfl⟩ := hvd.len
  have HVN := Lib.hid hvn
  have HVD := Lib.hid hvd
  clear hvn hvd hg2
  generalize (natL N).length = LN at *
  generalize (natL D).length = LD at *
  have HGA := Lib.hid (fun o => grown_none_tr HG2.out (World.grownBy_alloc w2 o none))
  have hsl : (eSign neg).length ≤ 1 := eSign_len neg
  obtain ⟨sg, hsg⟩ : ∃ sg, eSign neg = sg := ⟨_, rfl⟩
  rw [hsg] at s9 hsl
  have HSG := Lib.hid hsg
  clear hsg
  have z1 : (⟨sg.toArray⟩ : ByteArray).size = sg.length := by simp [ByteArray.size]
  have c1 := cat_mk sg p
  have c2 := cat_mk (sg ++ p) q
  rw [List.append_assoc] at c2
  have z2 : (⟨p.toArray⟩ : ByteArray).size = p.length := by simp [ByteArray.size]
  have z3 : (⟨q.toArray⟩ : ByteArray).size = q.length := by simp [ByteArray.size]
  have z4 : (⟨(sg ++ p).toArray⟩ : ByteArray).size = sg.length + p.length := by simp [ByteArray.size]
  rcases hf with rfl | rfl
  all_goals
    ((repeat (go_wp2_with fail; first | (refine cdY ?_ ?_; focus (simp [ov, *]; done)) | (refine cdN ?_ ?_; focus (simp [ov, *]; done)))); go_wp2_with fail)
    refine (HE.out _).mono ?_
    rintro r w3 ⟨rfl, hg3⟩
    have HG3 := Lib.hid (grown_none_tr (HGA.out _) hg3)
    clear hg3
    ((repeat (go_wp2_with fail; first | (refine cdY ?_ ?_; focus (simp [ov, *]; done)) | (refine cdN ?_ ?_; focus (simp [ov, *]; done)))); go_wp2_with fail)
    refine (HPT.out _).mono ?_
    rintro r w4 ⟨rfl, hg4⟩
    have HG4 := Lib.hid (grown_none_tr HG3.out hg4)
    clear hg4
    ((repeat (go_wp2_with fail; first | (refine cdY ?_ ?_; focus (simp [ov, *]; done)) | (refine cdN ?_ ?_; focus (simp [ov, *]; done)))); go_wp2_with fail)
    refine (HXT.out _).mono ?_
    rintro r w5 ⟨rfl, hg5⟩
    have HG5 := Lib.hid (grown_none_tr HG4.out hg5)
    clear hg5
    ((repeat (go_wp2_with fail; first | (refine cdY ?_ ?_; focus (simp [ov, *]; done)) | (refine cdN ?_ ?_; focus (simp [ov, *]; done)))); go_wp2_with fail)
    exact ret_F (.string ⟨(sg ++ (p ++ q)).toArray⟩) rfl (by decide) (by simp [ov, *]) ⟨by rw [HSG.out], HG5.out⟩

set_option maxRecDepth 100000 in
set_option maxHeartbeats 8000000 in
theorem formatF_any (size : Int) (b : Nat) (neg : Bool) (N D : Nat) (f : Int) (pr : Nat) (prec : Int) (hpr : prec = (pr : Int)) (hf : f = 102) (hD : D ≠ 0) (hlN : (natL N).length ≤ 100) (hlD : (natL D).length ≤ 100) (hp : pr ≤ 5500) (w : World)
    (hI : ∀ W, Calls Tryz.prog 47 #[.int .i64 size, .int .u64 (b : Int)] W fun e w' => e = .returned (.bool neg) ∧ W = w')
    (hK : ∀ W, Calls Tryz.prog 23 #[.int .i64 size, .int .u64 (b : Int)] W fun e w' => e = .returned (.int .i64 0) ∧ W = w')
    (hV : ∀ W, Calls Tryz.prog 24 #[.int .i64 size, .int .u64 (b : Int)] W fun x w' => ∃ vn vd, x = .returned (.tuple #[.agg #[.bool neg, vn, vd], .bool true]) ∧ NatV w' vn N ∧ NatV w' vd D ∧ W.grownBy w' none) :
    Calls Tryz.prog 32 #[.int .i64 size, .int .u64 (b : Int), .int .u8 f, .int .i64 prec] w fun e w' => e = .returned (.string ⟨(eSign neg ++ fixT (rT N D pr) pr).toArray⟩) ∧ w.grownBy w' none := by
  have HI := Lib.hid hI
  have HK := Lib.hid hK
  have HV := Lib.hid hV
  clear hI hK hV
  have HFX := Lib.hid (fun vn vd W (h1 : NatV W vn N) (h2 : NatV W vd D) => fixed_any neg vn vd N D pr W h1 h2 hD hlN hlD (by omega))
  have hfl : (fixT (rT N D pr) pr).length ≤ 9000000 := by
    have hWl : rT N D pr < 10 ^ (904 + pr + 1) := by
      have h1 : rT N D pr ≤ N * 10 ^ pr := by
        unfold rT
        rw [Int.toNat_natCast, show (-(pr : Int)).toNat = 0 by omega, Nat.pow_zero, Nat.mul_one]
        exact rndE_le (by omega) (Nat.le_mul_of_pos_right _ (by omega))
      refine Nat.lt_of_le_of_lt h1 ?_
      have h2 := lt_pow_nDig N
      have h3 := nDig_natL N hlN
      refine Nat.lt_of_lt_of_le (Nat.mul_lt_mul_of_pos_right h2 (p10 pr)) ?_
      rw [← Nat.pow_add]
      exact Nat.pow_le_pow_right (by omega) (by omega)
    generalize rT N D pr = R at *
    have htl : (decT R).length ≤ 6905 := by
      by_cases h0 : R = 0
      · subst h0; show [48].length ≤ _; simp
      · rw [decT_len1 R h0]
        have := nDig_lt hWl
        omega
    unfold fixT
    dsimp only
    split
    · simp [zeroS]; omega
    · simp [zeroS]; omega
  subst hpr
  generalize fixT (rT N D pr) pr = q at *
  refine calls_F Tryz.func32 rfl (by rw [Tryz.ntmps32]; simp) ?_
  intro σ hσ
  rw [Tryz.ntmps32]
  have s0 : σ 0 = .int .i64 size := hσ 0 (by simp)
  have s1 : σ 1 = .int .u64 (b : Int) := hσ 1 (by simp)
  have s2 : σ 2 = .int .u8 f := hσ 2 (by simp)
  have s3 : σ 3 = .int .i64 (pr : Int) := hσ 3 (by simp)
  clear hσ
  go_wp2_with fail
  refine (HI.out _).mono ?_
  rintro r w1 ⟨rfl, rfl⟩
  go_wp2_with fail
  refine cut_F (fun s' w' => s' 0 = .int .i64 size ∧ s' 1 = .int .u64 (b : Int) ∧ s' 2 = .int .u8 f ∧ s' 3 = .int .i64 (pr : Int) ∧ s' 9 = .string ⟨(eSign neg).toArray⟩ ∧ w = w') ?_ ?_
  · intro R' K' HR hK'
    cases neg
    · ((repeat (go_wp2_with fail; first | (refine cdY ?_ ?_; focus (simp [ov, *]; done)) | (refine cdN ?_ ?_; focus (simp [ov, *]; done)))); go_wp2_with fail)
      exact got HR (by simp [over_cons, over_nil, eSign, *])
    · ((repeat (go_wp2_with fail; first | (refine cdY ?_ ?_; focus (simp [ov, *]; done)) | (refine cdN ?_ ?_; focus (simp [ov, *]; done)))); go_wp2_with fail)
      exact got HR (by simp [over_cons, over_nil, eSign, *])
  clear s0 s1 s2 s3 σ HI
  rintro σ w' ⟨s0, s1, s2, s3, s9, rfl⟩
  go_wp2_with fail
  refine (HK.out _).mono ?_
  rintro r w1 ⟨rfl, rfl⟩
  ((repeat (go_wp2_with fail; first | (refine cdY ?_ ?_; focus (simp [ov, *]; done)) | (refine cdN ?_ ?_; focus (simp [ov, *]; done)))); go_wp2_with fail)
  refine (HV.out _).mono ?_
  rintro r w2 ⟨vn, vd, rfl, hvn, hvd, hg2⟩
  have HG2 := Lib.hid hg2
  obtain ⟨an, cn, rfl⟩ := hvn.len
  obtain ⟨ad, cd, rfl⟩ := hvd.len
  have HVN := Lib.hid hvn
  have HVD := Lib.hid hvd
  clear hvn hvd hg2
  generalize (natL N).length = LN at *
  generalize (natL D).length = LD at *
  have HGA := Lib.hid (fun o => grown_none_tr HG2.out (World.grownBy_alloc w2 o none))
  have hsl : (eSign neg).length ≤ 1 := eSign_len neg
  obtain ⟨sg, hsg⟩ : ∃ sg, eSign neg = sg := ⟨_, rfl⟩
  rw [hsg] at s9 hsl
  have HSG := Lib.hid hsg
  clear hsg
  have z1 : (⟨sg.toArray⟩ : ByteArray).size = sg.length := by simp [ByteArray.size]
  have c1 := cat_mk sg q
  have z2 : (⟨q.toArray⟩ : ByteArray).size = q.length := by simp [ByteArray.size]
  subst hf
  have f1 : (0 : Int) ≤ (pr : Int) := by omega
  ((repeat (go_upto_region 19 with fail; first | (refine cdY ?_ ?_; focus (simp [ov, *]; done)) | (refine cdN ?_ ?_; focus (simp [ov, *]; done)))); go_upto_region 19 with fail)
  obtain ⟨w3, hw3⟩ : ∃ w', World.alloc w2 (.cells #[.bool neg, .slice an LN cn, .slice ad LD cd] 45) = w' := ⟨_, rfl⟩
  obtain ⟨B, hB⟩ : ∃ A, (World.heap w2).size = A := ⟨_, rfl⟩
  have hib := InBlk.new w2 neg (.slice an LN cn) (.slice ad LD cd) 45
  rw [hw3, hB] at hib
  rw [hw3, hB]
  have hn3 := HVN.out.grown hib.grown
  have hd3 := HVD.out.grown hib.grown
  have HN3 := Lib.hid hn3
  have HD3 := Lib.hid hd3
  have HG3 := Lib.hid (grown_none_tr HG2.out hib.grown)
  have k0 := hib.row.cell 0
  have k1 := hib.row.cell 1
  have k2 := hib.row.cell 2
  simp only [List.getElem?_cons_zero, List.getElem?_cons_succ] at k0 k1 k2
  clear hib hw3 hB hn3 hd3
  ((repeat (go_wp2_with fail; first | (refine cdY ?_ ?_; focus (simp [ov, *]; done)) | (refine cdN ?_ ?_; focus (simp [ov, *]; done)))); go_wp2_with fail)
  refine (HFX.out _ _ _ HN3.out HD3.out).mono ?_
  rintro r w4 ⟨rfl, hg4⟩
  have HG4 := Lib.hid (grown_none_tr HG3.out hg4)
  clear hg4 k0 k1 k2
  ((repeat (go_wp2_with fail; first | (refine cdY ?_ ?_; focus (simp [ov, *]; done)) | (refine cdN ?_ ?_; focus (simp [ov, *]; done)))); go_wp2_with fail)
  exact ret_F (.string ⟨(sg ++ q).toArray⟩) rfl (by decide) (by simp [ov, *]) ⟨by rw [HSG.out], HG4.out⟩

set_option maxRecDepth 100000 in
set_option maxHeartbeats 8000000 in
theorem formatG_any (size : Int) (b : Nat) (neg : Bool) (N D : Nat) (f : Int) (c : UInt8) (prec : Int) (res : List UInt8) (hf : f = 103 ∧ c = 101 ∨ f = 71 ∧ c = 69) (hrl : res.length ≤ 1000000) (w : World)
    (hI : ∀ W, Calls Tryz.prog 47 #[.int .i64 size, .int .u64 (b : Int)] W fun e w' => e = .returned (.bool neg) ∧ W = w')
    (hK : ∀ W, Calls Tryz.prog 23 #[.int .i64 size, .int .u64 (b : Int)] W fun e w' => e = .returned (.int .i64 0) ∧ W = w')
    (hV : ∀ W, Calls Tryz.prog 24 #[.int .i64 size, .int .u64 (b : Int)] W fun x w' => ∃ vn vd, x = .returned (.tuple #[.agg #[.bool neg, vn, vd], .bool true]) ∧ NatV w' vn N ∧ NatV w' vd D ∧ W.grownBy w' none)
    (hG : ∀ W, Calls Tryz.prog 67 #[.int .i64 size, .int .u64 (b : Int), .int .u8 (c.toNat : Int), .int .i64 prec] W fun e w' => e = .returned (.string ⟨res.toArray⟩) ∧ W.grownBy w' none) :
    Calls Tryz.prog 32 #[.int .i64 size, .int .u64 (b : Int), .int .u8 f, .int .i64 prec] w fun e w' => e = .returned (.string ⟨(eSign neg ++ res).toArray⟩) ∧ w.grownBy w' none := by
  have HI := Lib.hid hI
  have HK := Lib.hid hK
  have HV := Lib.hid hV
  clear hI hK hV
  refine calls_F Tryz.func32 rfl (by rw [Tryz.ntmps32]; simp) ?_
  intro σ hσ
  rw [Tryz.ntmps32]
  have s0 : σ 0 = .int .i64 size := hσ 0 (by simp)
  have s1 : σ 1 = .int .u64 (b : Int) := hσ 1 (by simp)
  have s2 : σ 2 = .int .u8 f := hσ 2 (by simp)
  have s3 : σ 3 = .int .i64 prec := hσ 3 (by simp)
  clear hσ
  go_wp2_with fail
  refine (HI.out _).mono ?_
  rintro r w1 ⟨rfl, rfl⟩
  go_wp2_with fail
  refine cut_F (fun s' w' => s' 0 = .int .i64 size ∧ s' 1 = .int .u64 (b : Int) ∧ s' 2 = .int .u8 f ∧ s' 3 = .int .i64 prec ∧ s' 9 = .string ⟨(eSign neg).toArray⟩ ∧ w = w') ?_ ?_
  · intro R' K' HR hK'
    cases neg
    · ((repeat (go_wp2_with fail; first | (refine cdY ?_ ?_; focus (simp [ov, *]; done)) | (refine cdN ?_ ?_; focus (simp [ov, *]; done)))); go_wp2_with fail)
      exact got HR (by simp [over_cons, over_nil, eSign, *])
    · ((repeat (go_wp2_with fail; first | (refine cdY ?_ ?_; focus (simp [ov, *]; done)) | (refine cdN ?_ ?_; focus (simp [ov, *]; done)))); go_wp2_with fail)
      exact got HR (by simp [over_cons, over_nil, eSign, *])
  clear s0 s1 s2 s3 σ HI
  rintro σ w' ⟨s0, s1, s2, s3, s9, rfl⟩
  go_wp2_with fail
  refine (HK.out _).mono ?_
  rintro r w1 ⟨rfl, rfl⟩
  ((repeat (go_wp2_with fail; first | (refine cdY ?_ ?_; focus (simp [ov, *]; done)) | (refine cdN ?_ ?_; focus (simp [ov, *]; done)))); go_wp2_with fail)
  refine (HV.out _).mono ?_
  rintro r w2 ⟨vn, vd, rfl, hvn, hvd, hg2⟩
  have HG2 := Lib.hid hg2
  obtain ⟨an, cn, rfl⟩ := hvn.len
  obtain ⟨ad, cd, rfl⟩ := hvd.len
  have HVN := Lib.hid hvn
  have HVD := Lib.hid hvd
  clear hvn hvd hg2
  generalize (natL N).length = LN at *
  generalize (natL D).length = LD at *
  have HGA := Lib.hid (fun o => grown_none_tr HG2.out (World.grownBy_alloc w2 o none))
  have hsl : (eSign neg).length ≤ 1 := eSign_len neg
  obtain ⟨sg, hsg⟩ : ∃ sg, eSign neg = sg := ⟨_, rfl⟩
  rw [hsg] at s9 hsl
  have HSG := Lib.hid hsg
  clear hsg
  have z1 : (⟨sg.toArray⟩ : ByteArray).size = sg.length := by simp [ByteArray.size]
  have c1 := cat_mk sg res
  have z2 : (⟨res.toArray⟩ : ByteArray).size = res.length := by simp [ByteArray.size]
  rcases hf with ⟨rfl, rfl⟩ | ⟨rfl, rfl⟩
  · have HG := Lib.hid (show ∀ W, Calls Tryz.prog 67 #[.int .i64 size, .int .u64 (b : Int), .int .u8 101, .int .i64 prec] W fun e w' => e = .returned (.string ⟨res.toArray⟩) ∧ W.grownBy w' none from hG)
    clear hG
    ((repeat (go_wp2_with fail; first | (refine cdY ?_ ?_; focus (simp [ov, *]; done)) | (refine cdN ?_ ?_; focus (simp [ov, *]; done)))); go_wp2_with fail)
    refine (HG.out _).mono ?_
    rintro r w4 ⟨rfl, hg4⟩
    have HG4 := Lib.hid (grown_none_tr (HGA.out _) hg4)
    clear hg4
    ((repeat (go_wp2_with fail; first | (refine cdY ?_ ?_; focus (simp [ov, *]; done)) | (refine cdN ?_ ?_; focus (simp [ov, *]; done)))); go_wp2_with fail)
    exact ret_F (.string ⟨(sg ++ res).toArray⟩) rfl (by decide) (by simp [ov, *]) ⟨by rw [HSG.out], HG4.out⟩
  · have HG := Lib.hid (show ∀ W, Calls Tryz.prog 67 #[.int .i64 size, .int .u64 (b : Int), .int .u8 69, .int .i64 prec] W fun e w' => e = .returned (.string ⟨res.toArray⟩) ∧ W.grownBy w' none from hG)
    clear hG
    ((repeat (go_wp2_with fail; first | (refine cdY ?_ ?_; focus (simp [ov, *]; done)) | (refine cdN ?_ ?_; focus (simp [ov, *]; done)))); go_wp2_with fail)
    refine (HG.out _).mono ?_
    rintro r w4 ⟨rfl, hg4⟩
    have HG4 := Lib.hid (grown_none_tr (HGA.out _) hg4)
    clear hg4
    ((repeat (go_wp2_with fail; first | (refine cdY ?_ ?_; focus (simp [ov, *]; done)) | (refine cdN ?_ ?_; focus (simp [ov, *]; done)))); go_wp2_with fail)
    exact ret_F (.string ⟨(sg ++ res).toArray⟩) rfl (by decide) (by simp [ov, *]) ⟨by rw [HSG.out], HG4.out⟩
end Go.Proofs.YticlnihjhcepkaaGreatDoor

/-
  Format of the reference, at e E f g G with a precision: what ftoa writes.
-/
namespace Go.Proofs.YticlnihjhcepkaaGreatDoor
open Go.RowKit
set_option linter.unusedSimpArgs false
set_option linter.unusedVariables false

theorem v_len (m : Nat) (e : Int) (hm : m < 2 ^ 53) (h1 : -1074 ≤ e) (h2 : e ≤ 971) : (natL (vN m e)).length ≤ 100 ∧ (natL (vD e)).length ≤ 100 := by
  obtain ⟨K, hK⟩ : ∃ K, K = 100 := ⟨_, rfl⟩
  rw [← hK]
  constructor
  · refine natL_len_le ?_
    unfold vN
    refine Nat.lt_of_lt_of_le (Nat.mul_lt_mul_of_pos_right hm (Nat.two_pow_pos _)) ?_
    rw [← Nat.pow_add, pow_B]
    exact Nat.pow_le_pow_right (by omega) (by omega)
  · refine natL_len_le ?_
    unfold vD
    rw [pow_B]
    exact Nat.pow_lt_pow_right (by omega) (by omega)

theorem sigN_exp (a b n : Nat) (ha : (natL a).length ≤ 100) (hb : (natL b).length ≤ 100) : -1000 ≤ (sigN a b n).2 ∧ (sigN a b n).2 ≤ 1000 := by
  have da := nDig_natL a ha
  have db := nDig_natL b hb
  have hE : -905 ≤ ordT a b ∧ ordT a b ≤ 905 := by unfold ordT; split <;> omega
  unfold sigN
  split <;> dsimp only <;> omega

theorem expoS_bd (a b pr : Nat) (hb : b ≠ 0) (hla : (natL a).length ≤ 100) (hlb : (natL b).length ≤ 100) : (expoS a b pr).1.length = pr + 1 ∧ -1000 ≤ (expoS a b pr).2 ∧ (expoS a b pr).2 ≤ 1000 := by
  unfold expoS
  by_cases h : a = 0
  · rw [if_pos h]
    refine ⟨?_, by dsimp only; omega, by dsimp only; omega⟩
    simp [zeroS]
  · rw [if_neg h, sigS_is a b (pr + 1) h hb (by omega)]
    have := sigN_exp a b (pr + 1) hla hlb
    exact ⟨digs_length .., this.1, this.2⟩

def isEfg (f : Int) : Prop := f = 101 ∨ f = 69 ∨ f = 102 ∨ f = 103 ∨ f = 71

theorem limG_nat (pr : Nat) : limG (pr : Int) = (limS pr : Nat) ∧ cntG (pr : Int) = ((limS pr - 1 : Nat) : Int) := by
  have h : limG (pr : Int) = (limS pr : Nat) := by unfold limG limS; rw [if_neg (by omega)]; split <;> split <;> omega
  refine ⟨h, ?_⟩
  have h1 : 1 ≤ limS pr := by unfold limS; split <;> omega
  unfold cntG
  rw [if_neg (by omega), h]
  omega

set_option maxRecDepth 10000 in
theorem specEfg (size : Int) (n : Nat) (neg : Bool) (a b : Nat) (f : Int) (pr : Nat) (hf : isEfg f) (hb : b ≠ 0) (hla : (natL a).length ≤ 100) (hlb : (natL b).length ≤ 100) (hp : pr ≤ 5000)
    (hI : ∀ W, Calls Tryz.prog 47 #[.int .i64 size, .int .u64 (n : Int)] W fun e w' => e = .returned (.bool neg) ∧ W = w')
    (hK : ∀ W, Calls Tryz.prog 23 #[.int .i64 size, .int .u64 (n : Int)] W fun e w' => e = .returned (.int .i64 0) ∧ W = w')
    (hV : ∀ W, Calls Tryz.prog 24 #[.int .i64 size, .int .u64 (n : Int)] W fun x w' => ∃ vn vd, x = .returned (.tuple #[.agg #[.bool neg, vn, vd], .bool true]) ∧ NatV w' vn a ∧ NatV w' vd b ∧ W.grownBy w' none) (w : World) :
    Calls Tryz.prog 32 #[.int .i64 size, .int .u64 (n : Int), .int .u8 f, .int .i64 (pr : Int)] w fun e w' => e = .returned (.string ⟨(eSign neg ++ specT a b f pr).toArray⟩) ∧ w.grownBy w' none := by
  have hX : ∀ (k : Nat), k ≤ 5500 → ∀ W, Calls Tryz.prog 62 #[.int .i64 size, .int .u64 (n : Int), .int .i64 (k : Int)] W fun e w' => e = .returned (.tuple #[.string ⟨(expoS a b k).1.toArray⟩, .int .i64 (expoS a b k).2]) ∧ W.grownBy w' none :=
    fun k hk W => exponential_any size n neg a b k W hb hla hlb hk hV
  obtain ⟨x1, x2, x3⟩ := expoS_bd a b pr hb hla hlb
  have hl1 : limS pr ≤ 5001 ∧ 1 ≤ limS pr := by unfold limS; split <;> omega
  obtain ⟨y1, y2, y3⟩ := expoS_bd a b (limS pr - 1) hb hla hlb
  have hgl : ∀ c, (gT c (trimS (expoS a b (limS pr - 1)).1) (expoS a b (limS pr - 1)).2 (limS pr : Nat)).length ≤ 1000000 := by
    intro c
    obtain ⟨t1, t2⟩ := trimS_len (expoS a b (limS pr - 1)).1
    generalize trimS (expoS a b (limS pr - 1)).1 = t at *
    generalize (expoS a b (limS pr - 1)).2 = E at *
    unfold gT
    split
    · have hxl : (expT c E false).length ≤ 100 := by
        unfold expT
        have := decT_len E.natAbs (by omega)
        rw [List.length_cons, List.length_cons]
        split
        · rw [List.length_cons]; omega
        · omega
      rw [List.length_append]
      unfold ptL
      split
      · omega
      · simp; omega
    · unfold placedT
      dsimp only
      split
      · simp only [List.length_take]
        split <;> simp [zeroS] <;> omega
      · simp only [List.length_append, List.length_cons, List.length_take, List.length_drop]
        split <;> simp [zeroS] <;> omega
  have hG : ∀ (c : UInt8) W, Calls Tryz.prog 67 #[.int .i64 size, .int .u64 (n : Int), .int .u8 (c.toNat : Int), .int .i64 (pr : Int)] W fun e w' => e = .returned (.string ⟨(gT c (trimS (expoS a b (limS pr - 1)).1) (expoS a b (limS pr - 1)).2 (limS pr : Nat)).toArray⟩) ∧ W.grownBy w' none := by
    intro c W
    have h := general_any size n c (pr : Int) (expoS a b (limS pr - 1)).1 (expoS a b (limS pr - 1)).2 W (by omega) (by omega) (by omega) (by omega) y2 y3 (by rw [(limG_nat pr).2]; exact hX _ (by omega))
    rw [(limG_nat pr).1] at h
    exact h
  unfold specT
  rcases hf with rfl | rfl | rfl | rfl | rfl
  · rw [if_pos rfl]
    exact formatE_any size n neg a b 101 101 (pr : Int) _ _ (Or.inl ⟨rfl, rfl⟩) (by omega) (by omega) x2 x3 w hI hK hV (hX pr (by omega))
  · rw [if_neg (by decide), if_pos rfl]
    exact formatE_any size n neg a b 69 69 (pr : Int) _ _ (Or.inr ⟨rfl, rfl⟩) (by omega) (by omega) x2 x3 w hI hK hV (hX pr (by omega))
  · rw [if_neg (by decide), if_neg (by decide), if_pos rfl]
    exact formatF_any size n neg a b 102 pr (pr : Int) rfl rfl hb hla hlb (by omega) w hI hK hV
  · rw [if_neg (by decide), if_neg (by decide), if_neg (by decide), if_pos rfl]
    exact formatG_any size n neg a b 103 101 (pr : Int) _ (Or.inl ⟨rfl, rfl⟩) (hgl _) w hI hK hV (hG 101)
  · rw [if_neg (by decide), if_neg (by decide), if_neg (by decide), if_neg (by decide)]
    exact formatG_any size n neg a b 71 69 (pr : Int) _ (Or.inr ⟨rfl, rfl⟩) (hgl _) w hI hK hV (hG 69)

theorem ftoa64_spec (n : Nat) (f : Int) (pr : Nat) (hn : n < 18446744073709551616) (hfin : n % 9223372036854775808 < 9218868437227405312) (hf : isEfg f) (hp : pr ≤ 100000) :
    ftoa64L n f pr = eSign (decide (9223372036854775808 ≤ n)) ++ specT (vN (m64 n) (e64 n)) (vD (e64 n)) f pr := by
  have hx := e64_bd n hfin
  have hm := m64_lt n
  have hE := fin64_E n hfin
  unfold ftoa64L ftoaL
  rw [if_neg hE, if_neg (by unfold isEfg at hf; omega), if_neg (by unfold isEfg at hf; omega), neg64_is n hn]
  have h := pick_text 11 (-1085) 52 (m64 n) (flExp 11 52 (-1023) n) f pr (decide (9223372036854775808 ≤ n)) (Or.inl ⟨rfl, rfl, rfl, by unfold e64 at hx; omega, by unfold e64 at hx; omega, hm⟩)
    (by
      unfold m64 flMant flExp
      by_cases h0 : flE 11 52 n = 0
      · right; rw [if_pos h0]; simp
      · left; rw [if_neg h0]; omega) hp hf
  exact h

theorem spec64_efg (n : Nat) (f : Int) (pr : Nat) (hn : n < 18446744073709551616) (hfin : n % 9223372036854775808 < 9218868437227405312) (hf : isEfg f) (hp : pr ≤ 5000) (w : World) :
    Calls Tryz.prog 32 #[.int .i64 64, .int .u64 (n : Int), .int .u8 f, .int .i64 (pr : Int)] w fun e w' => e = .returned (.string ⟨(ftoa64L n f pr).toArray⟩) ∧ w.grownBy w' none := by
  have hx := e64_bd n hfin
  have hm : m64 n < 2 ^ 53 := Nat.lt_of_lt_of_le (m64_lt n) (by decide)
  have hk : kindB 9218868437227405312 9223372036854775808 n = 0 := kindB_0 rfl hfin
  have hK := fun W => kind64_any n W hn
  rw [hk] at hK
  obtain ⟨v1, v2⟩ := v_len (m64 n) (e64 n) hm (by omega) (by omega)
  rw [ftoa64_spec n f pr hn hfin hf (by omega)]
  exact specEfg 64 n _ _ _ f pr hf (Nat.ne_of_gt (vD_pos _)) v1 v2 hp (fun W => isNeg64_any n W hn) hK (fun W => valueOf64_any n (m64 n) (e64 n) W hn hk (m64_is n) (e64_is n)) w

theorem ftoa32_spec (n : Nat) (f : Int) (pr : Nat) (hn : n < 4294967296) (hfin : n % 2147483648 < 2139095040) (hf : isEfg f) (hp : pr ≤ 100000) :
    ftoa32L n f pr = eSign (decide (2147483648 ≤ n)) ++ specT (vN (m32 n) (e32 n)) (vD (e32 n)) f pr := by
  have hx := e32_bd n hfin
  have hm := m32_lt n
  have hE := fin32_E n hfin
  unfold ftoa32L ftoaL
  rw [if_neg hE, if_neg (by unfold isEfg at hf; omega), if_neg (by unfold isEfg at hf; omega), neg32_is n hn]
  have h := pick_text 40 (-189) 23 (m32 n) (flExp 8 23 (-127) n) f pr (decide (2147483648 ≤ n)) (Or.inr ⟨rfl, rfl, rfl, by unfold e32 at hx; omega, by unfold e32 at hx; omega, hm⟩)
    (by
      unfold m32 flMant flExp
      by_cases h0 : flE 8 23 n = 0
      · right; rw [if_pos h0]; simp
      · left; rw [if_neg h0]; omega) hp hf
  exact h

theorem spec32_efg (n : Nat) (f : Int) (pr : Nat) (hn : n < 4294967296) (hfin : n % 2147483648 < 2139095040) (hf : isEfg f) (hp : pr ≤ 5000) (w : World) :
    Calls Tryz.prog 32 #[.int .i64 32, .int .u64 (n : Int), .int .u8 f, .int .i64 (pr : Int)] w fun e w' => e = .returned (.string ⟨(ftoa32L n f pr).toArray⟩) ∧ w.grownBy w' none := by
  have hx := e32_bd n hfin
  have hm : m32 n < 2 ^ 53 := Nat.lt_of_lt_of_le (m32_lt n) (by decide)
  have hk : kindB 2139095040 2147483648 n = 0 := kindB_0 rfl hfin
  have hK := fun W => kind32_any n W hn
  rw [hk] at hK
  obtain ⟨v1, v2⟩ := v_len (m32 n) (e32 n) hm (by omega) (by omega)
  rw [ftoa32_spec n f pr hn hfin hf (by omega)]
  exact specEfg 32 n _ _ _ f pr hf (Nat.ne_of_gt (vD_pos _)) v1 v2 hp (fun W => isNeg32_any n W hn) hK (fun W => valueOf32_any n (m32 n) (e32 n) W hn hk (m32_is n) (e32_is n)) w

end Go.Proofs.YticlnihjhcepkaaGreatDoor
