/-
  Walk of spec/value.go: overTwo.
-/
import Derived.Test.YticlnihjhcepkaaGreatDoorGq
namespace Go.Proofs.YticlnihjhcepkaaGreatDoor
open Go.RowKit
set_option linter.unusedSimpArgs false
set_option linter.unusedVariables false
attribute [local go_sem] undef

theorem shift_len (x K N : Nat) (h : (natL x).length ≤ K) : (natL (x * 2 ^ N)).length ≤ K + N := by
  refine natL_len_le ?_
  rw [Nat.pow_add]
  refine Nat.mul_lt_mul_of_lt_of_le (Nat.lt_of_lt_of_le (natL_lt x) (Nat.pow_le_pow_right (by decide) h)) ?_ (Nat.pow_pos (by decide))
  exact Nat.pow_le_pow_left (by decide) _

set_option maxRecDepth 100000 in
set_option maxHeartbeats 8000000 in
theorem overTwo_up (neg : Bool) (vn vd : Value) (a b N : Nat) (w : World) (hn : NatV w vn a) (hd : NatV w vd b) (hla : (natL a).length ≤ 100000) (hlb : (natL b).length ≤ 100000) (hN : N ≤ 30000) :
    Calls Tryz.prog 52 #[.agg #[.bool neg, vn, vd], .int .i64 (N : Int)] w fun e w' => ∃ vr, e = .returned vr ∧ RatV w' vr neg (a) (b * 2 ^ N) ∧ w.grownBy w' none := by
  have HM := Lib.hid (fun W (hg : w.grownBy W none) => shiftNat_any vd b N W (hd.grown hg) hlb (by omega))
  have HNA := Lib.hid hn
  have HNB := Lib.hid hd
  obtain ⟨an, cn, rfl⟩ := hn.len
  obtain ⟨ad, cd, rfl⟩ := hd.len
  generalize (natL a).length = LN at *
  generalize (natL b).length = LD at *
  obtain ⟨w1, hw1⟩ : ∃ w1, (w.alloc (.cells #[.bool neg, .slice an LN cn, .slice ad LD cd] 45)).alloc (.cells #[.bool false, .slice none 0 0, .slice none 0 0] 45) = w1 := ⟨_, rfl⟩
  obtain ⟨B, hB⟩ : ∃ B, w.heap.size = B := ⟨_, rfl⟩
  have hrT : Row w1 B [.bool neg, .slice an LN cn, .slice ad LD cd] := by rw [← hw1, ← hB]; exact (Row.new w _ _).alloc _
  have hrR : Row w1 (B + 1) ratZ := by
    rw [← hw1, ← hB]
    have := Row.new (w.alloc (.cells #[.bool neg, .slice an LN cn, .slice ad LD cd] 45)) ratZ 45
    have e : (w.alloc (.cells #[.bool neg, .slice an LN cn, .slice ad LD cd] 45)).heap.size = w.heap.size + 1 := by show (w.heap.push _).size = _; simp
    rw [e] at this
    exact this
  have hg1 : w.grownBy w1 none := by rw [← hw1]; exact grown_none_tr (World.grownBy_alloc w _ none) (World.grownBy_alloc _ _ none)
  have HRT := Lib.hid hrT
  have HRR := Lib.hid hrR
  have HG1 := Lib.hid hg1
  have HW1 := Lib.hid hw1
  have HB := Lib.hid hB
  clear hrT hrR hg1 hw1 hn hd hla hlb
  refine calls_F Tryz.func52 rfl (by rw [Tryz.ntmps52]; simp) ?_
  intro σ hσ
  rw [Tryz.ntmps52]
  have s0 : σ 0 = .agg #[.bool neg, .slice an LN cn, .slice ad LD cd] := hσ 0 (by simp)
  have s1 : σ 1 = .int .i64 (N : Int) := hσ 1 (by simp)
  clear hσ
  go_upto_region 1 with fail
  rw [HW1.out]
  clear HW1
  have hcell0 : ∀ W, w1.grownBy W (some (B + 1)) → W.cell? ⟨B, 0, none⟩ = some (.bool neg) := fun W h => (HRT.out.grown h (by simp)).cell 0
  have hcell1 : ∀ W, w1.grownBy W (some (B + 1)) → W.cell? ⟨B, 1, none⟩ = some (.slice an LN cn) := fun W h => (HRT.out.grown h (by simp)).cell 1
  have hcell2 : ∀ W, w1.grownBy W (some (B + 1)) → W.cell? ⟨B, 2, none⟩ = some (.slice ad LD cd) := fun W h => (HRT.out.grown h (by simp)).cell 2
  have HC0 := Lib.hid hcell0
  have HC1 := Lib.hid hcell1
  have HC2 := Lib.hid hcell2
  clear hcell0 hcell1 hcell2 hB
  ((repeat (go_wp2_with fail; first | (refine cdY ?_ ?_; focus (simp [ov, *]; done)) | (refine cdN ?_ ?_; focus (simp [ov, *]; done)))); go_wp2_with fail)
  refine wp_region_noPanic ?_
  refine wp_region_held_drew (S := fun W => w1.grownBy W (some (B + 1))) (by kernel_rfl) (grown_drewN w1 1 _) (fun hHeld => ?_)
  have hrD := HRR.out.drew
  have hG := grown_none_tr HG1.out (grown_drewN w1 1 none)
  replace hG : w.grownBy w1.drew none := hG
  (refine take_T 0 7 ?_)
  (refine take_F 1 8 (oi := ?_) (v := ?_) ?_ ?_ (by kernel_rfl) (by kernel_rfl) (by kernel_rfl) (fun _ _ _ _ _ h => h) ?_ (by assumption) ?_ ?_; rotate_left 2; (focus ((simp only [List.getElem?_toArray, List.getElem?_cons_succ, List.getElem?_cons_zero]); rfl)); (focus rfl); (focus (first | rfl | (simp only [Region.wanted, yielded, List.getElem?_toArray, List.getElem?_cons_succ, List.getElem?_cons_zero, Option.bind_some, Option.map_some, Fr_get?, over_cons, over_nil]; rfl) | go_simp)); (focus (intro W hS; have hc := HC0.out W hS; go_simp; try with_reducible rfl)))
  (refine take_T 2 9 ?_)
  (refine take_F 3 10 (oi := ?_) (v := ?_) ?_ ?_ (by kernel_rfl) (by kernel_rfl) (by kernel_rfl) (fun _ _ _ _ _ h => h) ?_ (by assumption) ?_ ?_; rotate_left 2; (focus ((simp only [List.getElem?_toArray, List.getElem?_cons_succ, List.getElem?_cons_zero]); rfl)); (focus rfl); (focus (first | rfl | (simp only [Region.wanted, yielded, List.getElem?_toArray, List.getElem?_cons_succ, List.getElem?_cons_zero, Option.bind_some, Option.map_some, Fr_get?, over_cons, over_nil]; rfl) | go_simp)); (focus (intro W hS; have hc := HC1.out W hS; go_simp; try with_reducible rfl)))
  (refine take_T 4 11 ?_)
  (refine take_F 5 12 (oi := ?_) (v := ?_) ?_ ?_ (by kernel_rfl) (by kernel_rfl) (by kernel_rfl) (fun _ _ _ _ _ h => h) ?_ (by assumption) ?_ ?_; rotate_left 2; (focus ((simp only [List.getElem?_toArray, List.getElem?_cons_succ, List.getElem?_cons_zero]); rfl)); (focus rfl); (focus (first | rfl | (simp only [Region.wanted, yielded, List.getElem?_toArray, List.getElem?_cons_succ, List.getElem?_cons_zero, Option.bind_some, Option.map_some, Fr_get?, over_cons, over_nil]; rfl) | go_simp)); (focus (intro W hS; have hc := HC2.out W hS; go_simp; try with_reducible rfl)))
  (refine take_T 6 13 ?_)
  (refine only_F 7 (oi := ?_) ?_ (by kernel_rfl) ?_ ?_; rotate_left 1; (focus ((simp only [List.getElem?_toArray, List.getElem?_cons_succ, List.getElem?_cons_zero]); rfl)); (focus (first | rfl | go_simp)); intro K hK; go_simp; (refine (HM.out _ hG).mono ?_; rintro e wA ⟨vA, rfl, hvd, hgA⟩); go_wp2_with fail; replace hHeld := grown_trans hHeld hgA (fun j e => by cases e); refine hK.out _ _ hHeld ?_; clear hK K)
  replace hrD := hrD.grown hgA (by simp)
  replace hG := grown_none_tr hG hgA
  clear hgA
  have hvn := HNA.out.grown hG
  obtain ⟨am, cm, rfl⟩ := hvd.len
  generalize (natL (b * 2 ^ N)).length = LM at *
  (refine take_T 8 15 ?_)
  have k0 := hrD.cell 0
  have k1 := hrD.cell 1
  have k2 := hrD.cell 2
  have t0 := hrD.frozen 0
  have t1 := hrD.frozen 1
  have t2 := hrD.frozen 2
  unfold ratZ at k0 k1 k2
  simp only [List.getElem?_cons_zero, List.getElem?_cons_succ] at k0 k1 k2
  have HG := Lib.hid (grown_set3 hG (B := B + 1) (by have := HB.out; omega) (.bool neg) (.slice an LN cn) (.slice am LM cm))
  have HVN := Lib.hid (set3_nat hrD hvn neg (.slice an LN cn) (.slice am LM cm))
  have HVD := Lib.hid (set3_nat hrD hvd neg (.slice an LN cn) (.slice am LM cm))
  have HROW := Lib.hid (set3_row hrD (.bool neg) (.slice an LN cn) (.slice am LM cm))
  (refine only_F 9 (oi := ?_) ?_ (by kernel_rfl) ?_ ?_; rotate_left 1; (focus ((simp only [List.getElem?_toArray, List.getElem?_cons_succ, List.getElem?_cons_zero]); rfl)); (focus (first | rfl | go_simp)); intro K hK; go_simp; (skip); go_wp2_with fail; replace hHeld := grown_trans hHeld (grown_set3s _ _ (.bool neg) (.slice an LN cn) (.slice am LM cm)) (fun j e _ => e ▸ rfl); refine hK.out _ _ hHeld ?_; clear hK K)
  refine wpAnyH_done (by kernel_rfl) ?_ _
  refine NoPanic.normal ?_
  ((repeat (go_wp2_with fail; first | (refine cdY ?_ ?_; focus (simp [ov, *]; done)) | (refine cdN ?_ ?_; focus (simp [ov, *]; done)))); go_wp2_with fail)
  obtain ⟨ty, hrow⟩ := HROW.out
  exact bodyPost_ret (v := .agg #[.bool neg, .slice an LN cn, .slice am LM cm]) (results_cell_row rfl _ _ (B + 1) ty _ (0, 0) _ (by rw [Fr_getD 26 _ σ 4 (by decide)]; simp [ov, *]) hrow Tryz.underlying45 rfl (by kernel_rfl)) (Fr_defers ..) ⟨_, rfl, ⟨_, _, rfl, HVN.out, HVD.out⟩, HG.out⟩

set_option maxRecDepth 100000 in
set_option maxHeartbeats 8000000 in
theorem overTwo_down (neg : Bool) (vn vd : Value) (a b N : Nat) (w : World) (hn : NatV w vn a) (hd : NatV w vd b) (hla : (natL a).length ≤ 100000) (hlb : (natL b).length ≤ 100000) (hN : N ≤ 30000) (hN1 : 1 ≤ N) :
    Calls Tryz.prog 52 #[.agg #[.bool neg, vn, vd], .int .i64 (-(N : Int))] w fun e w' => ∃ vr, e = .returned vr ∧ RatV w' vr neg (a * 2 ^ N) (b) ∧ w.grownBy w' none := by
  have HM := Lib.hid (fun W (hg : w.grownBy W none) => shiftNat_any vn a N W (hn.grown hg) hla (by omega))
  have HNA := Lib.hid hn
  have HNB := Lib.hid hd
  obtain ⟨an, cn, rfl⟩ := hn.len
  obtain ⟨ad, cd, rfl⟩ := hd.len
  generalize (natL a).length = LN at *
  generalize (natL b).length = LD at *
  obtain ⟨w1, hw1⟩ : ∃ w1, (w.alloc (.cells #[.bool neg, .slice an LN cn, .slice ad LD cd] 45)).alloc (.cells #[.bool false, .slice none 0 0, .slice none 0 0] 45) = w1 := ⟨_, rfl⟩
  obtain ⟨B, hB⟩ : ∃ B, w.heap.size = B := ⟨_, rfl⟩
  have hrT : Row w1 B [.bool neg, .slice an LN cn, .slice ad LD cd] := by rw [← hw1, ← hB]; exact (Row.new w _ _).alloc _
  have hrR : Row w1 (B + 1) ratZ := by
    rw [← hw1, ← hB]
    have := Row.new (w.alloc (.cells #[.bool neg, .slice an LN cn, .slice ad LD cd] 45)) ratZ 45
    have e : (w.alloc (.cells #[.bool neg, .slice an LN cn, .slice ad LD cd] 45)).heap.size = w.heap.size + 1 := by show (w.heap.push _).size = _; simp
    rw [e] at this
    exact this
  have hg1 : w.grownBy w1 none := by rw [← hw1]; exact grown_none_tr (World.grownBy_alloc w _ none) (World.grownBy_alloc _ _ none)
  have HRT := Lib.hid hrT
  have HRR := Lib.hid hrR
  have HG1 := Lib.hid hg1
  have HW1 := Lib.hid hw1
  have HB := Lib.hid hB
  clear hrT hrR hg1 hw1 hn hd hla hlb
  refine calls_F Tryz.func52 rfl (by rw [Tryz.ntmps52]; simp) ?_
  intro σ hσ
  rw [Tryz.ntmps52]
  have s0 : σ 0 = .agg #[.bool neg, .slice an LN cn, .slice ad LD cd] := hσ 0 (by simp)
  have s1 : σ 1 = .int .i64 (-(N : Int)) := hσ 1 (by simp)
  have f1 : decide ((0 : Int) ≤ -(N : Int)) = false := by simp; omega
  have f2 : decide (N = 0) = false := by simp; omega
  clear hσ
  go_upto_region 1 with fail
  rw [HW1.out]
  clear HW1
  have hcell0 : ∀ W, w1.grownBy W (some (B + 1)) → W.cell? ⟨B, 0, none⟩ = some (.bool neg) := fun W h => (HRT.out.grown h (by simp)).cell 0
  have hcell1 : ∀ W, w1.grownBy W (some (B + 1)) → W.cell? ⟨B, 1, none⟩ = some (.slice an LN cn) := fun W h => (HRT.out.grown h (by simp)).cell 1
  have hcell2 : ∀ W, w1.grownBy W (some (B + 1)) → W.cell? ⟨B, 2, none⟩ = some (.slice ad LD cd) := fun W h => (HRT.out.grown h (by simp)).cell 2
  have HC0 := Lib.hid hcell0
  have HC1 := Lib.hid hcell1
  have HC2 := Lib.hid hcell2
  clear hcell0 hcell1 hcell2 hB
  ((repeat (go_wp2_with fail; first | (refine cdY ?_ ?_; focus (simp [ov, *]; done)) | (refine cdN ?_ ?_; focus (simp [ov, *]; done)))); go_wp2_with fail)
  refine wp_region_noPanic ?_
  refine wp_region_held_drew (S := fun W => w1.grownBy W (some (B + 1))) (by kernel_rfl) (grown_drewN w1 1 _) (fun hHeld => ?_)
  have hrD := HRR.out.drew
  have hG := grown_none_tr HG1.out (grown_drewN w1 1 none)
  replace hG : w.grownBy w1.drew none := hG
  (refine take_T 0 16 ?_)
  (refine take_F 1 17 (oi := ?_) (v := ?_) ?_ ?_ (by kernel_rfl) (by kernel_rfl) (by kernel_rfl) (fun _ _ _ _ _ h => h) ?_ (by assumption) ?_ ?_; rotate_left 2; (focus ((simp only [List.getElem?_toArray, List.getElem?_cons_succ, List.getElem?_cons_zero]); rfl)); (focus rfl); (focus (first | rfl | (simp only [Region.wanted, yielded, List.getElem?_toArray, List.getElem?_cons_succ, List.getElem?_cons_zero, Option.bind_some, Option.map_some, Fr_get?, over_cons, over_nil]; rfl) | go_simp)); (focus (intro W hS; have hc := HC0.out W hS; go_simp; try with_reducible rfl)))
  (refine take_T 2 18 ?_)
  (refine take_F 3 19 (oi := ?_) (v := ?_) ?_ ?_ (by kernel_rfl) (by kernel_rfl) (by kernel_rfl) (fun _ _ _ _ _ h => h) ?_ (by assumption) ?_ ?_; rotate_left 2; (focus ((simp only [List.getElem?_toArray, List.getElem?_cons_succ, List.getElem?_cons_zero]); rfl)); (focus rfl); (focus (first | rfl | (simp only [Region.wanted, yielded, List.getElem?_toArray, List.getElem?_cons_succ, List.getElem?_cons_zero, Option.bind_some, Option.map_some, Fr_get?, over_cons, over_nil]; rfl) | go_simp)); (focus (intro W hS; have hc := HC1.out W hS; go_simp; try with_reducible rfl)))
  (refine take_T 4 20 ?_)
  (refine take_F 5 21 (oi := ?_) (v := ?_) ?_ ?_ (by kernel_rfl) (by kernel_rfl) (by kernel_rfl) (fun _ _ _ _ _ h => h) ?_ (by assumption) ?_ ?_; rotate_left 2; (focus ((simp only [List.getElem?_toArray, List.getElem?_cons_succ, List.getElem?_cons_zero]); rfl)); (focus rfl); (focus (first | rfl | (simp only [Region.wanted, yielded, List.getElem?_toArray, List.getElem?_cons_succ, List.getElem?_cons_zero, Option.bind_some, Option.map_some, Fr_get?, over_cons, over_nil]; rfl) | go_simp)); (focus (intro W hS; go_simp; rw [wrapIS N (by omega)])))
  (refine take_T 7 23 ?_)
  (refine take_F 8 24 (oi := ?_) (v := ?_) ?_ ?_ (by kernel_rfl) (by kernel_rfl) (by kernel_rfl) (fun _ _ _ _ _ h => h) ?_ (by assumption) ?_ ?_; rotate_left 2; (focus ((simp only [List.getElem?_toArray, List.getElem?_cons_succ, List.getElem?_cons_zero]); rfl)); (focus rfl); (focus (first | rfl | (simp only [Region.wanted, yielded, List.getElem?_toArray, List.getElem?_cons_succ, List.getElem?_cons_zero, Option.bind_some, Option.map_some, Fr_get?, over_cons, over_nil]; rfl) | go_simp)); (focus (intro W hS; have hc := HC2.out W hS; go_simp; try with_reducible rfl)))
  (refine only_F 6 (oi := ?_) ?_ (by kernel_rfl) ?_ ?_; rotate_left 1; (focus ((simp only [List.getElem?_toArray, List.getElem?_cons_succ, List.getElem?_cons_zero]); rfl)); (focus (first | rfl | go_simp)); intro K hK; go_simp; (refine (HM.out _ hG).mono ?_; rintro e wA ⟨vA, rfl, hvn, hgA⟩); go_wp2_with fail; replace hHeld := grown_trans hHeld hgA (fun j e => by cases e); refine hK.out _ _ hHeld ?_; clear hK K)
  replace hrD := hrD.grown hgA (by simp)
  replace hG := grown_none_tr hG hgA
  clear hgA
  have hvd := HNB.out.grown hG
  obtain ⟨am, cm, rfl⟩ := hvn.len
  generalize (natL (a * 2 ^ N)).length = LM at *
  (refine take_T 9 25 ?_)
  have k0 := hrD.cell 0
  have k1 := hrD.cell 1
  have k2 := hrD.cell 2
  have t0 := hrD.frozen 0
  have t1 := hrD.frozen 1
  have t2 := hrD.frozen 2
  unfold ratZ at k0 k1 k2
  simp only [List.getElem?_cons_zero, List.getElem?_cons_succ] at k0 k1 k2
  have HG := Lib.hid (grown_set3 hG (B := B + 1) (by have := HB.out; omega) (.bool neg) (.slice am LM cm) (.slice ad LD cd))
  have HVN := Lib.hid (set3_nat hrD hvn neg (.slice am LM cm) (.slice ad LD cd))
  have HVD := Lib.hid (set3_nat hrD hvd neg (.slice am LM cm) (.slice ad LD cd))
  have HROW := Lib.hid (set3_row hrD (.bool neg) (.slice am LM cm) (.slice ad LD cd))
  (refine only_F 10 (oi := ?_) ?_ (by kernel_rfl) ?_ ?_; rotate_left 1; (focus ((simp only [List.getElem?_toArray, List.getElem?_cons_succ, List.getElem?_cons_zero]); rfl)); (focus (first | rfl | go_simp)); intro K hK; go_simp; (skip); go_wp2_with fail; replace hHeld := grown_trans hHeld (grown_set3s _ _ (.bool neg) (.slice am LM cm) (.slice ad LD cd)) (fun j e _ => e ▸ rfl); refine hK.out _ _ hHeld ?_; clear hK K)
  refine wpAnyH_done (by kernel_rfl) ?_ _
  refine NoPanic.normal ?_
  ((repeat (go_wp2_with fail; first | (refine cdY ?_ ?_; focus (simp [ov, *]; done)) | (refine cdN ?_ ?_; focus (simp [ov, *]; done)))); go_wp2_with fail)
  obtain ⟨ty, hrow⟩ := HROW.out
  exact bodyPost_ret (v := .agg #[.bool neg, .slice am LM cm, .slice ad LD cd]) (results_cell_row rfl _ _ (B + 1) ty _ (0, 0) _ (by rw [Fr_getD 26 _ σ 4 (by decide)]; simp [ov, *]) hrow Tryz.underlying45 rfl (by kernel_rfl)) (Fr_defers ..) ⟨_, rfl, ⟨_, _, rfl, HVN.out, HVD.out⟩, HG.out⟩

theorem overTwo_any (neg : Bool) (vn vd : Value) (a b : Nat) (k : Int) (w : World) (hn : NatV w vn a) (hd : NatV w vd b) (hla : (natL a).length ≤ 100000) (hlb : (natL b).length ≤ 100000) (hk1 : -30000 ≤ k) (hk2 : k ≤ 30000) :
    Calls Tryz.prog 52 #[.agg #[.bool neg, vn, vd], .int .i64 k] w fun e w' => ∃ vr, e = .returned vr ∧ RatV w' vr neg (a * 2 ^ (-k).toNat) (b * 2 ^ k.toNat) ∧ w.grownBy w' none := by
  by_cases hk0 : 0 ≤ k
  · obtain ⟨N, rfl⟩ : ∃ N : Nat, k = (N : Int) := ⟨k.toNat, by omega⟩
    rw [Int.toNat_natCast, show (-(N : Int)).toNat = 0 by omega, Nat.pow_zero, Nat.mul_one]
    exact overTwo_up neg vn vd a b N w hn hd hla hlb (by omega)
  · obtain ⟨N, rfl⟩ : ∃ N : Nat, k = -(N : Int) := ⟨(-k).toNat, by omega⟩
    rw [Int.neg_neg, Int.toNat_natCast, show (-(N : Int)).toNat = 0 by omega, Nat.pow_zero, Nat.mul_one]
    exact overTwo_down neg vn vd a b N w hn hd hla hlb (by omega) (by omega)
end Go.Proofs.YticlnihjhcepkaaGreatDoor
