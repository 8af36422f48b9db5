/-
  Walk of spec/value.go: orderOfTwo.
-/
import Derived.Test.YticlnihjhcepkaaGreatDoorCQn1
import Derived.Test.YticlnihjhcepkaaGreatDoorCQn0
namespace Go.Proofs.YticlnihjhcepkaaGreatDoor
open Go.RowKit
set_option linter.unusedSimpArgs false
set_option linter.unusedVariables false
attribute [local go_sem] undef

theorem nbits_natL (a K : Nat) (h : (natL a).length ≤ K) : nbits a ≤ 30 * K := by
  by_cases h0 : a = 0
  · subst h0; unfold nbits; rw [if_pos rfl]; omega
  · have h1 := nbits_le h0
    have h2 := natL_lt a
    rw [pow_B] at h2
    have h3 := (Nat.pow_lt_pow_iff_right (by omega : 1 < 2)).1 (Nat.lt_of_le_of_lt h1 h2)
    have : 30 * (natL a).length ≤ 30 * K := Nat.mul_le_mul_left _ h
    omega

set_option maxRecDepth 100000 in
set_option maxHeartbeats 8000000 in
theorem orderOfTwo_any (neg : Bool) (vn vd : Value) (a b : Nat) (w : World) (hn : NatV w vn a) (hd : NatV w vd b) (hla : (natL a).length ≤ 600) (hlb : (natL b).length ≤ 600) :
    Calls Tryz.prog 50 #[.agg #[.bool neg, vn, vd]] w fun e w' => e = .returned (.int .i64 (ordB a b)) ∧ w.grownBy w' none := by
  have da := nbits_natL a 600 hla
  have db := nbits_natL b 600 hlb
  obtain ⟨j, hj⟩ : ∃ j : Int, (nbits a : Int) - nbits b = j := ⟨_, rfl⟩
  have HTA := Lib.hid (fun W h => natBits_any vn a W (hn.grown h) (by omega))
  have HTB := Lib.hid (fun W h => natBits_any vd b W (hd.grown h) (by omega))
  have HTT := Lib.hid (fun W h => overTwo_any neg vn vd a b j W (hn.grown h) (hd.grown h) (by omega) (by omega) (by omega) (by omega))
  obtain ⟨κ, hκ⟩ : ∃ κ, cmpN (a * 2 ^ (-j).toNat) (b * 2 ^ j.toNat) = κ := ⟨_, rfl⟩
  have hcm : ∀ V U W, NatV W V (a * 2 ^ (-j).toNat) → NatV W U (b * 2 ^ j.toNat) → Calls Tryz.prog 59 #[V, U] W fun e w' => e = .returned (.int .i64 κ) ∧ W.grownBy w' none := by
    intro V U W h1 h2
    rw [← hκ]
    exact cmpNat_any V U _ _ W h1 h2 (by have := shift_len a 600 (-j).toNat hla; omega) (by have := shift_len b 600 j.toNat hlb; omega)
  have hκ2 : le2 a b j ↔ ¬ κ < 0 := by
    rw [← hκ]
    unfold cmpN
    show b * 2 ^ j.toNat ≤ a * 2 ^ (-j).toNat ↔ _
    generalize b * 2 ^ j.toNat = y
    generalize a * 2 ^ (-j).toNat = x
    split
    · constructor <;> intro h <;> omega
    · split <;> (constructor <;> intro h <;> omega)
  have hj1 : -20000 ≤ j := by omega
  have hj2 : j ≤ 20000 := by omega
  have hord : ordB a b = if κ < 0 then j - 1 else j := by
    unfold ordB
    rw [hj]
    by_cases h : κ < 0
    · rw [if_pos h, if_neg (fun hh => hκ2.1 hh h)]
    · rw [if_neg h, if_pos (hκ2.2 h)]
  obtain ⟨res, hres⟩ : ∃ res, ordB a b = res := ⟨_, rfl⟩
  have HRES := Lib.hid (hres.symm.trans hord)
  rw [hres]
  clear hres
  have HCM := Lib.hid hcm
  generalize nbits a = NA at *
  generalize nbits b = NB at *
  clear hcm hord hκ hκ2 hla hlb
  obtain ⟨an, cn, rfl⟩ := hn.len
  obtain ⟨ad, cd, rfl⟩ := hd.len
  generalize (natL a).length = LN at *
  generalize (natL b).length = LD at *
  obtain ⟨w1, hw1⟩ : ∃ w1, w.alloc (.cells #[.bool neg, .slice an LN cn, .slice ad LD cd] 45) = w1 := ⟨_, rfl⟩
  obtain ⟨B, hB⟩ : ∃ B, w.heap.size = B := ⟨_, rfl⟩
  have hib := InBlk.new w neg (.slice an LN cn) (.slice ad LD cd) 45
  rw [hw1, hB] at hib
  have HIB := Lib.hid hib
  have HW1 := Lib.hid hw1
  clear hib hw1 hn hd
  refine calls_F Tryz.func50 rfl (by rw [Tryz.ntmps50]; simp) ?_
  intro σ hσ
  rw [Tryz.ntmps50]
  have s0 : σ 0 = .agg #[.bool neg, .slice an LN cn, .slice ad LD cd] := hσ 0 (by simp)
  clear hσ
  go_upto_region 1 with fail
  rw [HW1.out]
  clear HW1 hB
  have hcell0 : ∀ W, w1.grownBy W none → W.cell? ⟨B, 0, none⟩ = some (.bool neg) := fun W h => (HIB.out.row.grown h (by simp)).cell 0
  have hcell1 : ∀ W, w1.grownBy W none → W.cell? ⟨B, 1, none⟩ = some (.slice an LN cn) := fun W h => (HIB.out.row.grown h (by simp)).cell 1
  have hcell2 : ∀ W, w1.grownBy W none → W.cell? ⟨B, 2, none⟩ = some (.slice ad LD cd) := fun W h => (HIB.out.row.grown h (by simp)).cell 2
  have HC0 := Lib.hid hcell0
  have HC1 := Lib.hid hcell1
  have HC2 := Lib.hid hcell2
  clear hcell0 hcell1 hcell2
  have HJ := Lib.hid hj
  refine cut_F (fun s' w' => s' 1 = .pointer (some ⟨B, 0, none⟩) ∧ s' 3 = .int .i64 j ∧ w1.grownBy w' none) ?_ ?_
  · intro R' K' HR hK'
    refine wp_region_noPanic ?_
    refine wp_region_held_drew (S := fun W => w1.grownBy W none) (by kernel_rfl) (grown_drewN w1 1 none) (fun hHeld => ?_)
    (refine take_T 0 5 ?_)
    (refine take_F 1 6 (oi := ?_) (v := ?_) ?_ ?_ (by kernel_rfl) (by kernel_rfl) (by kernel_rfl) (fun _ _ _ _ _ h => h) ?_ (by assumption) ?_ ?_; rotate_left 2; (focus ((simp only [List.getElem?_toArray, List.getElem?_cons_succ, List.getElem?_cons_zero]); rfl)); (focus rfl); (focus (first | rfl | (simp only [Region.wanted, yielded, List.getElem?_toArray, List.getElem?_cons_succ, List.getElem?_cons_zero, Option.bind_some, Option.map_some, Fr_get?, over_cons, over_nil]; rfl) | go_simp)); (focus (intro W hS; have hc := HC1.out W hS; go_simp; try with_reducible rfl)))
    (refine take_T 3 8 ?_)
    (refine take_F 4 9 (oi := ?_) (v := ?_) ?_ ?_ (by kernel_rfl) (by kernel_rfl) (by kernel_rfl) (fun _ _ _ _ _ h => h) ?_ (by assumption) ?_ ?_; rotate_left 2; (focus ((simp only [List.getElem?_toArray, List.getElem?_cons_succ, List.getElem?_cons_zero]); rfl)); (focus rfl); (focus (first | rfl | (simp only [Region.wanted, yielded, List.getElem?_toArray, List.getElem?_cons_succ, List.getElem?_cons_zero, Option.bind_some, Option.map_some, Fr_get?, over_cons, over_nil]; rfl) | go_simp)); (focus (intro W hS; have hc := HC2.out W hS; go_simp; try with_reducible rfl)))
    (refine only_F 2 (oi := ?_) ?_ (by kernel_rfl) ?_ ?_; rotate_left 1; (focus ((simp only [List.getElem?_toArray, List.getElem?_cons_succ, List.getElem?_cons_zero]); rfl)); (focus (first | rfl | go_simp)); intro K hK; go_simp; (refine (HTA.out _ (grown_none_tr HIB.out.grown hHeld)).mono ?_; rintro e w9 ⟨rfl, rfl⟩); go_wp2_with fail; replace hHeld := hHeld; refine hK.out _ _ hHeld ?_; clear hK K)
    (refine only_F 5 (oi := ?_) ?_ (by kernel_rfl) ?_ ?_; rotate_left 1; (focus ((simp only [List.getElem?_toArray, List.getElem?_cons_succ, List.getElem?_cons_zero]); rfl)); (focus (first | rfl | go_simp)); intro K hK; go_simp; (refine (HTB.out _ (grown_none_tr HIB.out.grown hHeld)).mono ?_; rintro e w10 ⟨rfl, rfl⟩); go_wp2_with fail; replace hHeld := hHeld; refine hK.out _ _ hHeld ?_; clear hK K)
    (refine take_F 6 11 (oi := ?_) (v := ?_) ?_ ?_ (by kernel_rfl) (by kernel_rfl) (by kernel_rfl) (fun _ _ _ _ _ h => h) ?_ (by assumption) ?_ ?_; rotate_left 2; (focus ((simp only [List.getElem?_toArray, List.getElem?_cons_succ, List.getElem?_cons_zero]); rfl)); (focus rfl); (focus (first | rfl | (simp only [Region.wanted, yielded, List.getElem?_toArray, List.getElem?_cons_succ, List.getElem?_cons_zero, Option.bind_some, Option.map_some, Fr_get?, over_cons, over_nil]; rfl) | go_simp)); (focus (intro W hS; go_simp; rw [wrapIn _ (by omega) (by omega)])))
    (refine take_T 7 3 ?_)
    refine wpAnyH_done (by kernel_rfl) ?_ _
    refine NoPanic.normal ?_
    exact hK' _ _ _ (got HR ⟨by simp [ov, *], by simp [ov, *], hHeld⟩)
  clear s0 σ HTA HTB
  rintro σ w2 ⟨s1, s3, hg2⟩
  have HG2 := Lib.hid (grown_none_tr HIB.out.grown hg2)
  have c0 := HC0.out w2 hg2
  have c1 := HC1.out w2 hg2
  have c2 := HC2.out w2 hg2
  clear hg2 hj HC0 HC1 HC2
  ((repeat (go_wp2_with fail; first | (refine cdY ?_ ?_; focus (simp [ov, *]; done)) | (refine cdN ?_ ?_; focus (simp [ov, *]; done)))); go_wp2_with fail)
  refine (HTT.out _ HG2.out).mono ?_
  rintro e w3 ⟨v3, rfl, hv3, hg3⟩
  obtain ⟨n3, d3, rfl, hn3, hd3⟩ := hv3
  obtain ⟨a3, k3, rfl⟩ := hn3.len
  obtain ⟨b3, l3, rfl⟩ := hd3.len
  generalize (natL (a * 2 ^ (-j).toNat)).length = LN3 at *
  generalize (natL (b * 2 ^ j.toNat)).length = LD3 at *
  have HN3 := Lib.hid hn3
  have HD3 := Lib.hid hd3
  have HG3 := Lib.hid (grown_none_tr HG2.out hg3)
  clear hn3 hd3 hg3 c0 c1 c2
  go_upto_region 3 with fail
  obtain ⟨w4, hw4⟩ : ∃ w', World.alloc w3 (.cells #[.bool neg, .slice a3 LN3 k3, .slice b3 LD3 l3] 45) = w' := ⟨_, rfl⟩
  obtain ⟨D, hD⟩ : ∃ A, (World.heap w3).size = A := ⟨_, rfl⟩
  have hib := InBlk.new w3 neg (.slice a3 LN3 k3) (.slice b3 LD3 l3) 45
  rw [hw4, hD] at hib
  rw [hw4, hD]
  have c0 := hib.row.cell 0
  have c1 := hib.row.cell 1
  have c2 := hib.row.cell 2
  simp only [List.getElem?_cons_zero, List.getElem?_cons_succ] at c0 c1 c2
  have HN4 := Lib.hid (HN3.out.grown hib.grown)
  have HD4 := Lib.hid (HD3.out.grown hib.grown)
  have HG4 := Lib.hid (grown_none_tr HG3.out hib.grown)
  clear hib hw4 hD
  ((repeat (go_wp2_with fail; first | (refine cdY ?_ ?_; focus (simp [ov, *]; done)) | (refine cdN ?_ ?_; focus (simp [ov, *]; done)))); go_wp2_with fail)
  refine (HCM.out _ _ _ HN4.out HD4.out).mono ?_
  rintro e w5 ⟨rfl, hg5⟩
  have HG5 := Lib.hid (grown_none_tr HG4.out hg5)
  clear hg5 c0 c1 c2
  by_cases h : κ < 0
  · have HH := Lib.hid h
    ((repeat (go_wp2_with fail; first | (refine cdY ?_ ?_; focus (simp [ov, *]; done)) | (refine cdN ?_ ?_; focus (simp [ov, *]; done)))); go_wp2_with fail)
    exact ret_F (.int .i64 (j - 1)) rfl (by decide) (by simp [ov, *]) ⟨by rw [HRES.out, if_pos HH.out], HG5.out⟩
  · have f1 : decide (κ < 0) = false := by simp; omega
    have HH := Lib.hid h
    clear h
    ((repeat (go_wp2_with fail; first | (refine cdY ?_ ?_; focus (simp [ov, *]; done)) | (refine cdN ?_ ?_; focus (simp [ov, *]; done)))); go_wp2_with fail)
    exact ret_F (.int .i64 j) rfl (by decide) (by simp [ov, *]) ⟨by rw [HRES.out, if_neg (by have := HH.out; omega)], HG5.out⟩
end Go.Proofs.YticlnihjhcepkaaGreatDoor
