/-
  Walk of spec/value.go: Nearest.
-/
import Derived.Test.YticlnihjhcepkaaGreatDoorCQn2
import Derived.Test.YticlnihjhcepkaaGreatDoorGc
namespace Go.Proofs.YticlnihjhcepkaaGreatDoor
open Go.RowKit
set_option linter.unusedSimpArgs false
set_option linter.unusedVariables false
attribute [local go_sem] undef

theorem nearE_bd (f bias : Int) (a b : Nat) (ha : (natL a).length ≤ 600) (hb : (natL b).length ≤ 600) (hf1 : 0 ≤ f) (hf2 : f ≤ 52) (hb1 : 0 ≤ bias) (hb2 : bias ≤ 1023) : 1 - bias - f ≤ nearE f bias a b ∧ nearE f bias a b ≤ 18001 ∧ -18001 ≤ ordB a b ∧ ordB a b ≤ 18001 := by
  have da := nbits_natL a 600 ha
  have db := nbits_natL b 600 hb
  have ho : -18001 ≤ ordB a b ∧ ordB a b ≤ 18001 := by unfold ordB; split <;> omega
  unfold nearE
  split <;> omega

def near64 (a b : Nat) : Nat := nearB 52 1023 9218868437227405312 a b
set_option maxRecDepth 100000 in
set_option maxHeartbeats 8000000 in
theorem nearest64_any (neg : Bool) (vn vd : Value) (a b : Nat) (w : World) (hn : NatV w vn a) (hd : NatV w vd b) (hb : b ≠ 0) (hla : (natL a).length ≤ 600) (hlb : (natL b).length ≤ 600) :
    Calls Tryz.prog 25 #[.agg #[.bool neg, vn, vd], .int .i64 64] w fun e w' => e = .returned (.tuple #[.int .u64 ((near64 a b + if neg then 9223372036854775808 else 0 : Nat) : Int), .bool (near64 a b == 9218868437227405312)]) ∧ w.grownBy w' none := by
  obtain ⟨e1, e2, o1, o2⟩ := nearE_bd 52 1023 a b hla hlb (by omega) (by omega) (by omega) (by omega)
  have hs := rB_le a b 52 1023 hb (by omega)
  obtain ⟨N, hN⟩ : ∃ N, near64 a b = N := ⟨_, rfl⟩
  have hnr : N = if nearE 52 1023 a b ≤ 1023 - 52 then (nearE 52 1023 a b - (1 - 1023 - 52)).toNat * 2 ^ (52 : Int).toNat + rB a b (nearE 52 1023 a b) else 9218868437227405312 := by rw [← hN]; rfl
  have hen : nearE 52 1023 a b = if a = 0 then 1 - 1023 - 52 else max (1 - 1023 - 52) (ordB a b - 52) := rfl
  rw [hN]
  obtain ⟨M, hM⟩ : ∃ M, N + (if neg then 9223372036854775808 else 0) = M := ⟨_, rfl⟩
  rw [hM]
  have HM := Lib.hid hM
  clear hN hM
  have HOT := Lib.hid (fun vn vd W (h1 : NatV W vn a) (h2 : NatV W vd b) => orderOfTwo_any false vn vd a b W h1 h2 hla hlb)
  have HTT := Lib.hid (fun vn vd W (h1 : NatV W vn a) (h2 : NatV W vd b) => overTwo_any false vn vd a b (nearE 52 1023 a b) W h1 h2 (by omega) (by omega) (by omega) (by omega))
  have HRD := Lib.hid (fun V U W (h1 : NatV W V (a * 2 ^ (-nearE 52 1023 a b).toNat)) (h2 : NatV W U (b * 2 ^ (nearE 52 1023 a b).toNat)) => rounded_any false V U _ _ W h1 h2 (Nat.mul_pos (by omega) (p2 _)) (by have := shift_len a 600 (-nearE 52 1023 a b).toNat hla; omega) (by have := shift_len b 600 (nearE 52 1023 a b).toNat hlb; omega))
  obtain ⟨S, hS1, hS2⟩ : ∃ S, rndE (a * 2 ^ (-nearE 52 1023 a b).toNat) (b * 2 ^ (nearE 52 1023 a b).toNat) = S ∧ rB a b (nearE 52 1023 a b) = S := ⟨_, rfl, rfl⟩
  simp only [hS1] at HRD
  rw [hS2] at hs hnr
  have hs2 : S ≤ 9007199254740992 := hs
  generalize nearE 52 1023 a b = E at *
  generalize ordB a b = O at *
  have hSl : (natL S).length ≤ 3 := natL_len_le (by omega)
  have g0 : (natL S).getD 0 0 = S % 1073741824 := by rw [natL_getD, Nat.pow_zero, Nat.div_one]
  have g1 : (natL S).getD 1 0 = S / 1073741824 := by rw [natL_getD, Nat.pow_one, Nat.mod_eq_of_lt (by omega)]
  have ha0 := fun V W (h : NatV W V S) => at_any V (natL S) 0 W h (by omega) (by omega)
  have ha1 := fun V W (h : NatV W V S) => at_any V (natL S) 1 W h (by omega) (by omega)
  obtain ⟨x0, hx0⟩ : ∃ x0, S % 1073741824 = x0 := ⟨_, rfl⟩
  obtain ⟨x1, hx1⟩ : ∃ x1, S / 1073741824 = x1 := ⟨_, rfl⟩
  have hx0l : x0 < 1073741824 := by omega
  have hx1l : x1 < 16777216 := by omega
  have HXS := Lib.hid (show S = x0 + x1 * 1073741824 by omega)
  rw [g0, hx0] at ha0
  rw [g1, hx1] at ha1
  have HA0 := Lib.hid (show ∀ V W, NatV W V S → Calls Tryz.prog 53 #[V, .int .i64 0] W fun e w' => e = .returned (.int .i64 (x0 : Int)) ∧ W = w' from ha0)
  have HA1 := Lib.hid (show ∀ V W, NatV W V S → Calls Tryz.prog 53 #[V, .int .i64 1] W fun e w' => e = .returned (.int .i64 (x1 : Int)) ∧ W = w' from ha1)
  have HNR := Lib.hid hnr
  have HEN := Lib.hid hen
  have HFR := Lib.hid frac64_any
  have HBI := Lib.hid bias64_any
  have HIN := Lib.hid inf64_any
  have HSB := Lib.hid sign64_any
  have HNL := Lib.hid (show (natL a).length = 0 ↔ a = 0 from ⟨fun h => by by_cases h0 : a = 0; exact h0; exact absurd (List.length_eq_zero_iff.1 h) (natL_ne h0), fun h => by rw [h, natL_zero]; rfl⟩)
  clear hnr hen hS1 hS2 hs ha0 ha1 g0 g1 hSl hx0 hx1
  obtain ⟨an, cn, rfl⟩ := hn.len
  obtain ⟨ad, cd, rfl⟩ := hd.len
  obtain ⟨LN, hLN⟩ : ∃ LN, (natL a).length = LN := ⟨_, rfl⟩
  rw [hLN] at hn HNL hla
  simp only [hLN]
  generalize (natL b).length = LD at *
  clear hLN
  obtain ⟨w1, hw1⟩ : ∃ w1, w.alloc (.cells #[.bool neg, .slice an LN cn, .slice ad LD cd] 45) = w1 := ⟨_, rfl⟩
  obtain ⟨B, hB⟩ : ∃ B, w.heap.size = B := ⟨_, rfl⟩
  have hib := InBlk.new w neg (.slice an LN cn) (.slice ad LD cd) 45
  rw [hw1, hB] at hib
  obtain ⟨w2, hw2⟩ : ∃ w', w1.alloc (.cells #[.bool false, .slice an LN cn, .slice ad LD cd] 45) = w' := ⟨_, rfl⟩
  obtain ⟨D, hD⟩ : ∃ A, (World.heap w1).size = A := ⟨_, rfl⟩
  have hid := InBlk.new w1 false (.slice an LN cn) (.slice ad LD cd) 45
  rw [hw2, hD] at hid
  have HG2 := Lib.hid (grown_none_tr hib.grown hid.grown)
  have HRB := Lib.hid (hib.row.grown hid.grown (by simp))
  have HRD2 := Lib.hid hid.row
  have HN2 := Lib.hid (hn.grown HG2.out)
  have HD2 := Lib.hid (hd.grown HG2.out)
  have k0 := hib.row.cell 0
  have k1 := hib.row.cell 1
  have k2 := hib.row.cell 2
  simp only [List.getElem?_cons_zero, List.getElem?_cons_succ] at k0 k1 k2
  have HW1 := Lib.hid hw1
  have HW2 := Lib.hid hw2
  have HBB := Lib.hid hB
  have HDD := Lib.hid hD
  clear hib hid hw1 hw2 hn hd hB hD
  refine calls_F Tryz.func25 rfl (by rw [Tryz.ntmps25]; simp) ?_
  intro σ hσ
  rw [Tryz.ntmps25]
  have s0 : σ 0 = .agg #[.bool neg, .slice an LN cn, .slice ad LD cd] := hσ 0 (by simp)
  have s1 : σ 1 = .int .i64 64 := hσ 1 (by simp)
  clear hσ
  go_upto_region 1 with fail
  rw [HW1.out, HBB.out]
  go_upto_region 2 with fail
  rw [HW2.out, HDD.out]
  clear HW1 HW2 k0 k1 k2
  have k0 := HRD2.out.cell 0
  have k1 := HRD2.out.cell 1
  have k2 := HRD2.out.cell 2
  have b0 := HRB.out.cell 0
  simp only [List.getElem?_cons_zero, List.getElem?_cons_succ] at k0 k1 k2 b0
  ((repeat (go_wp2_with fail; first | (refine cdY ?_ ?_; focus (simp [ov, *]; done)) | (refine cdN ?_ ?_; focus (simp [ov, *]; done)))); go_wp2_with fail)
  refine (HFR.out _).mono ?_
  rintro e w7 ⟨rfl, rfl⟩
  ((repeat (go_wp2_with fail; first | (refine cdY ?_ ?_; focus (simp [ov, *]; done)) | (refine cdN ?_ ?_; focus (simp [ov, *]; done)))); go_wp2_with fail)
  refine (HBI.out _).mono ?_
  rintro e w7 ⟨rfl, rfl⟩
  ((repeat (go_wp2_with fail; first | (refine cdY ?_ ?_; focus (simp [ov, *]; done)) | (refine cdN ?_ ?_; focus (simp [ov, *]; done)))); go_wp2_with fail)
  refine cut_F (fun s' w' => s' 1 = .int .i64 64 ∧ s' 2 = .pointer (some ⟨B, 0, none⟩) ∧ s' 6 = .pointer (some ⟨D, 0, none⟩) ∧ s' 7 = .int .i64 52 ∧ s' 8 = .int .i64 (-1074) ∧ s' 9 = .int .i64 E ∧ w2.grownBy w' none) ?_ ?_
  · intro R' K' HR hK'
    by_cases h0 : LN = 0
    · have hE : E = -1074 := by have := HEN.out; rw [if_pos (HNL.out.1 h0)] at this; omega
      subst hE
      subst h0
      ((repeat (go_wp2_with fail; first | (refine cdY ?_ ?_; focus (simp [ov, *]; done)) | (refine cdN ?_ ?_; focus (simp [ov, *]; done)))); go_wp2_with fail)
      exact got HR ⟨by simp [ov, *], by simp [ov, *], by simp [ov, *], by simp [ov, *], by simp [ov, *], by simp [ov, *], grown_refl w2 none⟩
    · have hE : E = max (-1074) (O - 52) := by have := HEN.out; rw [if_neg (fun h => h0 (HNL.out.2 h))] at this; omega
      have hLN : 0 < LN := by omega
      have HEE := Lib.hid hE
      clear hE
      ((repeat (go_wp2_with fail; first | (refine cdY ?_ ?_; focus (simp [ov, *]; done)) | (refine cdN ?_ ?_; focus (simp [ov, *]; done)))); go_wp2_with fail)
      refine (HOT.out _ _ _ HN2.out HD2.out).mono ?_
      rintro e w3 ⟨rfl, hg3⟩
      have HG3 := Lib.hid hg3
      clear hg3
      ((repeat (go_wp2_with fail; first | (refine cdY ?_ ?_; focus (simp [ov, *]; done)) | (refine cdN ?_ ?_; focus (simp [ov, *]; done)))); go_wp2_with fail)
      refine got HR ⟨by simp [ov, *], by simp [ov, *], by simp [ov, *], by simp [ov, *], by simp [ov, *], ?_, HG3.out⟩
      simp [ov, *]
      rw [HEE.out]
  clear s0 s1 σ k0 k1 k2 b0
  rintro σ w3 ⟨s1, s2, s6, s7, s8, s9, hg3⟩
  have HRD3 := Lib.hid (HRD2.out.grown hg3 (by simp))
  have HRB3 := Lib.hid (HRB.out.grown hg3 (by simp))
  have HN3 := Lib.hid (HN2.out.grown hg3)
  have HD3 := Lib.hid (HD2.out.grown hg3)
  have HG3 := Lib.hid (grown_none_tr HG2.out hg3)
  clear hg3 HOT
  have k0 := HRD3.out.cell 0
  have k1 := HRD3.out.cell 1
  have k2 := HRD3.out.cell 2
  simp only [List.getElem?_cons_zero, List.getElem?_cons_succ] at k0 k1 k2
  ((repeat (go_wp2_with fail; first | (refine cdY ?_ ?_; focus (simp [ov, *]; done)) | (refine cdN ?_ ?_; focus (simp [ov, *]; done)))); go_wp2_with fail)
  refine (HIN.out _).mono ?_
  rintro e w7 ⟨rfl, rfl⟩
  ((repeat (go_wp2_with fail; first | (refine cdY ?_ ?_; focus (simp [ov, *]; done)) | (refine cdN ?_ ?_; focus (simp [ov, *]; done)))); go_wp2_with fail)
  refine (HBI.out _).mono ?_
  rintro e w7 ⟨rfl, rfl⟩
  go_wp2_with fail
  refine cut_F (fun s' w' => s' 1 = .int .i64 64 ∧ s' 2 = .pointer (some ⟨B, 0, none⟩) ∧ s' 4 = .int .u64 (N : Int) ∧ w3.grownBy w' none) ?_ ?_
  · intro R' K' HR hK'
    by_cases hc : E ≤ 1023 - 52
    · have hc2 : E ≤ 971 := by omega
      obtain ⟨q, hq⟩ : ∃ q : Nat, E - (-1074) = (q : Int) := ⟨(E - (-1074)).toNat, by omega⟩
      have hNv : N = q * 4503599627370496 + S := by
        have := HNR.out
        rw [if_pos hc, show (E - (1 - 1023 - 52)).toNat = q by omega] at this
        exact this
      have HQE := Lib.hid hq
      have hq9 : q ≤ 2100 := by omega
      have HNV := Lib.hid hNv
      clear hc hNv hq
      ((repeat (go_wp2_with fail; first | (refine cdY ?_ ?_; focus (simp [ov, *]; done)) | (refine cdN ?_ ?_; focus (simp [ov, *]; done)))); go_wp2_with fail)
      refine (HTT.out _ _ _ HN3.out HD3.out).mono ?_
      rintro e w4 ⟨v4, rfl, hv4, hg4⟩
      obtain ⟨n4, d4, rfl, hn4, hd4⟩ := hv4
      have HN4 := Lib.hid hn4
      have HD4 := Lib.hid hd4
      have HG4 := Lib.hid hg4
      clear hn4 hd4 hg4 k0 k1 k2
      ((repeat (go_wp2_with fail; first | (refine cdY ?_ ?_; focus (simp [ov, *]; done)) | (refine cdN ?_ ?_; focus (simp [ov, *]; done)))); go_wp2_with fail)
      refine (HRD.out _ _ _ HN4.out HD4.out).mono ?_
      rintro e w5 ⟨v5, rfl, hn5, hg5⟩
      have HN5 := Lib.hid hn5
      have HG5 := Lib.hid (grown_none_tr HG4.out hg5)
      clear hn5 hg5
      ((repeat (go_wp2_with fail; first | (refine cdY ?_ ?_; focus (simp [ov, *]; done)) | (refine cdN ?_ ?_; focus (simp [ov, *]; done)))); go_wp2_with fail)
      refine wp_region_noPanic ?_
      refine wp_region_held_drew (S := fun W => w5.grownBy W none) (by kernel_rfl) (grown_drewN w5 1 none) (fun hHeld => ?_)
      (refine take_T 0 46 ?_; refine take_T 1 47 ?_)
      (refine take_F 2 48 (oi := ?_) (v := ?_) ?_ ?_ (by kernel_rfl) (by kernel_rfl) (by kernel_rfl) (fun _ _ _ _ _ h => h) ?_ (by assumption) ?_ ?_; rotate_left 2; (focus ((simp only [List.getElem?_toArray, List.getElem?_cons_succ, List.getElem?_cons_zero]); rfl)); (focus rfl); (focus (first | rfl | (simp only [Region.wanted, yielded, List.getElem?_toArray, List.getElem?_cons_succ, List.getElem?_cons_zero, Option.bind_some, Option.map_some, Fr_get?, over_cons, over_nil]; rfl) | go_simp)); (focus (intro W hS; go_simp; rw [wrapIn _ (by omega) (by omega), show E + 1074 = (q : Int) by have := HQE.out; omega])))
      (refine take_F 3 49 (oi := ?_) (v := ?_) ?_ ?_ (by kernel_rfl) (by kernel_rfl) (by kernel_rfl) (fun _ _ _ _ _ h => h) ?_ (by assumption) ?_ ?_; rotate_left 2; (focus ((simp only [List.getElem?_toArray, List.getElem?_cons_succ, List.getElem?_cons_zero]); rfl)); (focus rfl); (focus (first | rfl | (simp only [Region.wanted, yielded, List.getElem?_toArray, List.getElem?_cons_succ, List.getElem?_cons_zero, Option.bind_some, Option.map_some, Fr_get?, over_cons, over_nil]; rfl) | go_simp)); (focus (intro W hS; go_simp; rw [wrapU q (by omega)])))
      (refine take_T 4 50 ?_)
      (refine take_F 5 51 (oi := ?_) (v := ?_) ?_ ?_ (by kernel_rfl) (by kernel_rfl) (by kernel_rfl) (fun _ _ _ _ _ h => h) ?_ (by assumption) ?_ ?_; rotate_left 2; (focus ((simp only [List.getElem?_toArray, List.getElem?_cons_succ, List.getElem?_cons_zero]); rfl)); (focus rfl); (focus (first | rfl | (simp only [Region.wanted, yielded, List.getElem?_toArray, List.getElem?_cons_succ, List.getElem?_cons_zero, Option.bind_some, Option.map_some, Fr_get?, over_cons, over_nil]; rfl) | go_simp)); (focus (intro W hS; go_simp; rw [show IntKind.u64.wrap ((q : Int) * 4503599627370496) = ((q * 4503599627370496 : Nat) : Int) by rw [IntKind.wrap_u64]; omega])))
      (refine take_T 6 52 ?_; refine take_T 10 56 ?_)
      (refine only_F 7 (oi := ?_) ?_ (by kernel_rfl) ?_ ?_; rotate_left 1; (focus ((simp only [List.getElem?_toArray, List.getElem?_cons_succ, List.getElem?_cons_zero]); rfl)); (focus (first | rfl | go_simp)); intro K hK; go_simp; (refine (HA0.out _ _ (HN5.out.grown hHeld)).mono ?_; rintro e w6 ⟨rfl, rfl⟩); go_wp2_with fail; replace hHeld := hHeld; refine hK.out _ _ hHeld ?_; clear hK K)
      (refine take_F 8 54 (oi := ?_) (v := ?_) ?_ ?_ (by kernel_rfl) (by kernel_rfl) (by kernel_rfl) (fun _ _ _ _ _ h => h) ?_ (by assumption) ?_ ?_; rotate_left 2; (focus ((simp only [List.getElem?_toArray, List.getElem?_cons_succ, List.getElem?_cons_zero]); rfl)); (focus rfl); (focus (first | rfl | (simp only [Region.wanted, yielded, List.getElem?_toArray, List.getElem?_cons_succ, List.getElem?_cons_zero, Option.bind_some, Option.map_some, Fr_get?, over_cons, over_nil]; rfl) | go_simp)); (focus (intro W hS; go_simp; rw [wrapU x0 (by omega)])))
      (refine take_F 9 55 (oi := ?_) (v := ?_) ?_ ?_ (by kernel_rfl) (by kernel_rfl) (by kernel_rfl) (fun _ _ _ _ _ h => h) ?_ (by assumption) ?_ ?_; rotate_left 2; (focus ((simp only [List.getElem?_toArray, List.getElem?_cons_succ, List.getElem?_cons_zero]); rfl)); (focus rfl); (focus (first | rfl | (simp only [Region.wanted, yielded, List.getElem?_toArray, List.getElem?_cons_succ, List.getElem?_cons_zero, Option.bind_some, Option.map_some, Fr_get?, over_cons, over_nil]; rfl) | go_simp)); (focus (intro W hS; go_simp; rw [show IntKind.u64.wrap ((q : Int) * 4503599627370496 + (x0 : Int)) = ((q * 4503599627370496 + x0 : Nat) : Int) by rw [IntKind.wrap_u64]; omega])))
      (refine only_F 11 (oi := ?_) ?_ (by kernel_rfl) ?_ ?_; rotate_left 1; (focus ((simp only [List.getElem?_toArray, List.getElem?_cons_succ, List.getElem?_cons_zero]); rfl)); (focus (first | rfl | go_simp)); intro K hK; go_simp; (refine (HA1.out _ _ (HN5.out.grown hHeld)).mono ?_; rintro e w8 ⟨rfl, rfl⟩); go_wp2_with fail; replace hHeld := hHeld; refine hK.out _ _ hHeld ?_; clear hK K)
      (refine take_F 12 58 (oi := ?_) (v := ?_) ?_ ?_ (by kernel_rfl) (by kernel_rfl) (by kernel_rfl) (fun _ _ _ _ _ h => h) ?_ (by assumption) ?_ ?_; rotate_left 2; (focus ((simp only [List.getElem?_toArray, List.getElem?_cons_succ, List.getElem?_cons_zero]); rfl)); (focus rfl); (focus (first | rfl | (simp only [Region.wanted, yielded, List.getElem?_toArray, List.getElem?_cons_succ, List.getElem?_cons_zero, Option.bind_some, Option.map_some, Fr_get?, over_cons, over_nil]; rfl) | go_simp)); (focus (intro W hS; go_simp; rw [wrapU x1 (by omega)])))
      (refine take_F 13 59 (oi := ?_) (v := ?_) ?_ ?_ (by kernel_rfl) (by kernel_rfl) (by kernel_rfl) (fun _ _ _ _ _ h => h) ?_ (by assumption) ?_ ?_; rotate_left 2; (focus ((simp only [List.getElem?_toArray, List.getElem?_cons_succ, List.getElem?_cons_zero]); rfl)); (focus rfl); (focus (first | rfl | (simp only [Region.wanted, yielded, List.getElem?_toArray, List.getElem?_cons_succ, List.getElem?_cons_zero, Option.bind_some, Option.map_some, Fr_get?, over_cons, over_nil]; rfl) | go_simp)); (focus (intro W hS; go_simp; rw [show IntKind.u64.wrap ((x1 : Int) * 1073741824) = ((x1 * 1073741824 : Nat) : Int) by rw [IntKind.wrap_u64]; omega])))
      (refine take_F 14 60 (oi := ?_) (v := ?_) ?_ ?_ (by kernel_rfl) (by kernel_rfl) (by kernel_rfl) (fun _ _ _ _ _ h => h) ?_ (by assumption) ?_ ?_; rotate_left 2; (focus ((simp only [List.getElem?_toArray, List.getElem?_cons_succ, List.getElem?_cons_zero]); rfl)); (focus rfl); (focus (first | rfl | (simp only [Region.wanted, yielded, List.getElem?_toArray, List.getElem?_cons_succ, List.getElem?_cons_zero, Option.bind_some, Option.map_some, Fr_get?, over_cons, over_nil]; rfl) | go_simp)); (focus (intro W hS; go_simp; rw [show IntKind.u64.wrap ((q : Int) * 4503599627370496 + (x0 : Int) + (x1 : Int) * 1073741824) = (N : Int) by rw [IntKind.wrap_u64]; have h1 := HNV.out; have h2 := HXS.out; omega])))
      (refine take_T 15 4 ?_)
      refine wpAnyH_done (by kernel_rfl) ?_ _
      refine NoPanic.normal ?_
      exact hK' _ _ _ (got HR ⟨by simp [ov, *], by simp [ov, *], by simp [ov, *], grown_none_tr HG5.out hHeld⟩)
    · have hNv : N = 9218868437227405312 := by have := HNR.out; rw [if_neg hc] at this; exact this
      have f1 : decide (E ≤ 971) = false := by simp; omega
      subst hNv
      clear hc
      ((repeat (go_wp2_with fail; first | (refine cdY ?_ ?_; focus (simp [ov, *]; done)) | (refine cdN ?_ ?_; focus (simp [ov, *]; done)))); go_wp2_with fail)
      exact got HR ⟨by simp [ov, *], by simp [ov, *], by simp [ov, *], grown_refl w3 none⟩
  clear s1 s2 s6 s7 s8 s9 σ k0 k1 k2
  rintro σ w4 ⟨s1, s2, s4, hg4⟩
  have HG4 := Lib.hid (grown_none_tr HG3.out hg4)
  have hb4 := HRB3.out.grown hg4 (by simp)
  have b0 := hb4.cell 0
  simp only [List.getElem?_cons_zero] at b0
  have hNl : N ≤ 9218868437227405312 := by
    have := HNR.out
    split at this
    · next h =>
      rw [this]
      have hq : (E - (1 - 1023 - 52)).toNat ≤ 2045 := by omega
      have h2 : (E - (1 - 1023 - 52)).toNat * 2 ^ (52 : Int).toNat ≤ 2045 * 4503599627370496 := Nat.mul_le_mul_right _ hq
      omega
    · omega
  clear hg4 hb4
  ((repeat (go_wp2_with fail; first | (refine cdY ?_ ?_; focus (simp [ov, *]; done)) | (refine cdN ?_ ?_; focus (simp [ov, *]; done)))); go_wp2_with fail)
  refine (HIN.out _).mono ?_
  rintro e w7 ⟨rfl, rfl⟩
  go_wp2_with fail
  have hbe : ((N : Int) == 9218868437227405312) = (N == 9218868437227405312) := by
    rw [Bool.eq_iff_iff]; simp only [beq_iff_eq]; omega
  refine cut_F (fun s' w' => s' 4 = .int .u64 (M : Int) ∧ s' 5 = .bool (N == 9218868437227405312) ∧ w4 = w') ?_ ?_
  · intro R' K' HR hK'
    cases neg
    · ((repeat (go_wp2_with fail; first | (refine cdY ?_ ?_; focus (simp [ov, *]; done)) | (refine cdN ?_ ?_; focus (simp [ov, *]; done)))); go_wp2_with fail)
      exact got HR ⟨by have := HM.out; simp only [Bool.false_eq_true, if_false, Nat.add_zero] at this; rw [← this]; simp [ov, *], by simp [over_cons, over_nil, hbe], rfl⟩
    · ((repeat (go_wp2_with fail; first | (refine cdY ?_ ?_; focus (simp [ov, *]; done)) | (refine cdN ?_ ?_; focus (simp [ov, *]; done)))); go_wp2_with fail)
      refine (HSB.out _).mono ?_
      rintro e w8 ⟨rfl, rfl⟩
      ((repeat (go_wp2_with fail; first | (refine cdY ?_ ?_; focus (simp [ov, *]; done)) | (refine cdN ?_ ?_; focus (simp [ov, *]; done)))); go_wp2_with fail)
      exact got HR ⟨by have := HM.out; simp only [if_true] at this; rw [← this]; simp only [over_cons, over_nil, if_true]; congr 1, by simp [over_cons, over_nil, hbe], rfl⟩
  clear s1 s2 s4 b0 σ
  rintro σ w5 ⟨s4, s5, rfl⟩
  ((repeat (go_wp2_with fail; first | (refine cdY ?_ ?_; focus (simp [ov, *]; done)) | (refine cdN ?_ ?_; focus (simp [ov, *]; done)))); go_wp2_with fail)
  exact ret_F2 (.int .u64 (M : Int)) (.bool (N == 9218868437227405312)) rfl (by decide) (by decide) (by simp [ov, *]) (by simp [ov, *]) ⟨rfl, HG4.out⟩

def near32 (a b : Nat) : Nat := nearB 23 127 2139095040 a b
set_option maxRecDepth 100000 in
set_option maxHeartbeats 8000000 in
theorem nearest32_any (neg : Bool) (vn vd : Value) (a b : Nat) (w : World) (hn : NatV w vn a) (hd : NatV w vd b) (hb : b ≠ 0) (hla : (natL a).length ≤ 600) (hlb : (natL b).length ≤ 600) :
    Calls Tryz.prog 25 #[.agg #[.bool neg, vn, vd], .int .i64 32] w fun e w' => e = .returned (.tuple #[.int .u64 ((near32 a b + if neg then 2147483648 else 0 : Nat) : Int), .bool (near32 a b == 2139095040)]) ∧ w.grownBy w' none := by
  obtain ⟨e1, e2, o1, o2⟩ := nearE_bd 23 127 a b hla hlb (by omega) (by omega) (by omega) (by omega)
  have hs := rB_le a b 23 127 hb (by omega)
  obtain ⟨N, hN⟩ : ∃ N, near32 a b = N := ⟨_, rfl⟩
  have hnr : N = if nearE 23 127 a b ≤ 127 - 23 then (nearE 23 127 a b - (1 - 127 - 23)).toNat * 2 ^ (23 : Int).toNat + rB a b (nearE 23 127 a b) else 2139095040 := by rw [← hN]; rfl
  have hen : nearE 23 127 a b = if a = 0 then 1 - 127 - 23 else max (1 - 127 - 23) (ordB a b - 23) := rfl
  rw [hN]
  obtain ⟨M, hM⟩ : ∃ M, N + (if neg then 2147483648 else 0) = M := ⟨_, rfl⟩
  rw [hM]
  have HM := Lib.hid hM
  clear hN hM
  have HOT := Lib.hid (fun vn vd W (h1 : NatV W vn a) (h2 : NatV W vd b) => orderOfTwo_any false vn vd a b W h1 h2 hla hlb)
  have HTT := Lib.hid (fun vn vd W (h1 : NatV W vn a) (h2 : NatV W vd b) => overTwo_any false vn vd a b (nearE 23 127 a b) W h1 h2 (by omega) (by omega) (by omega) (by omega))
  have HRD := Lib.hid (fun V U W (h1 : NatV W V (a * 2 ^ (-nearE 23 127 a b).toNat)) (h2 : NatV W U (b * 2 ^ (nearE 23 127 a b).toNat)) => rounded_any false V U _ _ W h1 h2 (Nat.mul_pos (by omega) (p2 _)) (by have := shift_len a 600 (-nearE 23 127 a b).toNat hla; omega) (by have := shift_len b 600 (nearE 23 127 a b).toNat hlb; omega))
  obtain ⟨S, hS1, hS2⟩ : ∃ S, rndE (a * 2 ^ (-nearE 23 127 a b).toNat) (b * 2 ^ (nearE 23 127 a b).toNat) = S ∧ rB a b (nearE 23 127 a b) = S := ⟨_, rfl, rfl⟩
  simp only [hS1] at HRD
  rw [hS2] at hs hnr
  have hs2 : S ≤ 16777216 := hs
  generalize nearE 23 127 a b = E at *
  generalize ordB a b = O at *
  have hSl : (natL S).length ≤ 3 := natL_len_le (by omega)
  have g0 : (natL S).getD 0 0 = S % 1073741824 := by rw [natL_getD, Nat.pow_zero, Nat.div_one]
  have g1 : (natL S).getD 1 0 = S / 1073741824 := by rw [natL_getD, Nat.pow_one, Nat.mod_eq_of_lt (by omega)]
  have ha0 := fun V W (h : NatV W V S) => at_any V (natL S) 0 W h (by omega) (by omega)
  have ha1 := fun V W (h : NatV W V S) => at_any V (natL S) 1 W h (by omega) (by omega)
  obtain ⟨x0, hx0⟩ : ∃ x0, S % 1073741824 = x0 := ⟨_, rfl⟩
  obtain ⟨x1, hx1⟩ : ∃ x1, S / 1073741824 = x1 := ⟨_, rfl⟩
  have hx0l : x0 < 1073741824 := by omega
  have hx1l : x1 < 16777216 := by omega
  have HXS := Lib.hid (show S = x0 + x1 * 1073741824 by omega)
  rw [g0, hx0] at ha0
  rw [g1, hx1] at ha1
  have HA0 := Lib.hid (show ∀ V W, NatV W V S → Calls Tryz.prog 53 #[V, .int .i64 0] W fun e w' => e = .returned (.int .i64 (x0 : Int)) ∧ W = w' from ha0)
  have HA1 := Lib.hid (show ∀ V W, NatV W V S → Calls Tryz.prog 53 #[V, .int .i64 1] W fun e w' => e = .returned (.int .i64 (x1 : Int)) ∧ W = w' from ha1)
  have HNR := Lib.hid hnr
  have HEN := Lib.hid hen
  have HFR := Lib.hid frac32_any
  have HBI := Lib.hid bias32_any
  have HIN := Lib.hid inf32_any
  have HSB := Lib.hid sign32_any
  have HNL := Lib.hid (show (natL a).length = 0 ↔ a = 0 from ⟨fun h => by by_cases h0 : a = 0; exact h0; exact absurd (List.length_eq_zero_iff.1 h) (natL_ne h0), fun h => by rw [h, natL_zero]; rfl⟩)
  clear hnr hen hS1 hS2 hs ha0 ha1 g0 g1 hSl hx0 hx1
  obtain ⟨an, cn, rfl⟩ := hn.len
  obtain ⟨ad, cd, rfl⟩ := hd.len
  obtain ⟨LN, hLN⟩ : ∃ LN, (natL a).length = LN := ⟨_, rfl⟩
  rw [hLN] at hn HNL hla
  simp only [hLN]
  generalize (natL b).length = LD at *
  clear hLN
  obtain ⟨w1, hw1⟩ : ∃ w1, w.alloc (.cells #[.bool neg, .slice an LN cn, .slice ad LD cd] 45) = w1 := ⟨_, rfl⟩
  obtain ⟨B, hB⟩ : ∃ B, w.heap.size = B := ⟨_, rfl⟩
  have hib := InBlk.new w neg (.slice an LN cn) (.slice ad LD cd) 45
  rw [hw1, hB] at hib
  obtain ⟨w2, hw2⟩ : ∃ w', w1.alloc (.cells #[.bool false, .slice an LN cn, .slice ad LD cd] 45) = w' := ⟨_, rfl⟩
  obtain ⟨D, hD⟩ : ∃ A, (World.heap w1).size = A := ⟨_, rfl⟩
  have hid := InBlk.new w1 false (.slice an LN cn) (.slice ad LD cd) 45
  rw [hw2, hD] at hid
  have HG2 := Lib.hid (grown_none_tr hib.grown hid.grown)
  have HRB := Lib.hid (hib.row.grown hid.grown (by simp))
  have HRD2 := Lib.hid hid.row
  have HN2 := Lib.hid (hn.grown HG2.out)
  have HD2 := Lib.hid (hd.grown HG2.out)
  have k0 := hib.row.cell 0
  have k1 := hib.row.cell 1
  have k2 := hib.row.cell 2
  simp only [List.getElem?_cons_zero, List.getElem?_cons_succ] at k0 k1 k2
  have HW1 := Lib.hid hw1
  have HW2 := Lib.hid hw2
  have HBB := Lib.hid hB
  have HDD := Lib.hid hD
  clear hib hid hw1 hw2 hn hd hB hD
  refine calls_F Tryz.func25 rfl (by rw [Tryz.ntmps25]; simp) ?_
  intro σ hσ
  rw [Tryz.ntmps25]
  have s0 : σ 0 = .agg #[.bool neg, .slice an LN cn, .slice ad LD cd] := hσ 0 (by simp)
  have s1 : σ 1 = .int .i64 32 := hσ 1 (by simp)
  clear hσ
  go_upto_region 1 with fail
  rw [HW1.out, HBB.out]
  go_upto_region 2 with fail
  rw [HW2.out, HDD.out]
  clear HW1 HW2 k0 k1 k2
  have k0 := HRD2.out.cell 0
  have k1 := HRD2.out.cell 1
  have k2 := HRD2.out.cell 2
  have b0 := HRB.out.cell 0
  simp only [List.getElem?_cons_zero, List.getElem?_cons_succ] at k0 k1 k2 b0
  ((repeat (go_wp2_with fail; first | (refine cdY ?_ ?_; focus (simp [ov, *]; done)) | (refine cdN ?_ ?_; focus (simp [ov, *]; done)))); go_wp2_with fail)
  refine (HFR.out _).mono ?_
  rintro e w7 ⟨rfl, rfl⟩
  ((repeat (go_wp2_with fail; first | (refine cdY ?_ ?_; focus (simp [ov, *]; done)) | (refine cdN ?_ ?_; focus (simp [ov, *]; done)))); go_wp2_with fail)
  refine (HBI.out _).mono ?_
  rintro e w7 ⟨rfl, rfl⟩
  ((repeat (go_wp2_with fail; first | (refine cdY ?_ ?_; focus (simp [ov, *]; done)) | (refine cdN ?_ ?_; focus (simp [ov, *]; done)))); go_wp2_with fail)
  refine cut_F (fun s' w' => s' 1 = .int .i64 32 ∧ s' 2 = .pointer (some ⟨B, 0, none⟩) ∧ s' 6 = .pointer (some ⟨D, 0, none⟩) ∧ s' 7 = .int .i64 23 ∧ s' 8 = .int .i64 (-149) ∧ s' 9 = .int .i64 E ∧ w2.grownBy w' none) ?_ ?_
  · intro R' K' HR hK'
    by_cases h0 : LN = 0
    · have hE : E = -149 := by have := HEN.out; rw [if_pos (HNL.out.1 h0)] at this; omega
      subst hE
      subst h0
      ((repeat (go_wp2_with fail; first | (refine cdY ?_ ?_; focus (simp [ov, *]; done)) | (refine cdN ?_ ?_; focus (simp [ov, *]; done)))); go_wp2_with fail)
      exact got HR ⟨by simp [ov, *], by simp [ov, *], by simp [ov, *], by simp [ov, *], by simp [ov, *], by simp [ov, *], grown_refl w2 none⟩
    · have hE : E = max (-149) (O - 23) := by have := HEN.out; rw [if_neg (fun h => h0 (HNL.out.2 h))] at this; omega
      have hLN : 0 < LN := by omega
      have HEE := Lib.hid hE
      clear hE
      ((repeat (go_wp2_with fail; first | (refine cdY ?_ ?_; focus (simp [ov, *]; done)) | (refine cdN ?_ ?_; focus (simp [ov, *]; done)))); go_wp2_with fail)
      refine (HOT.out _ _ _ HN2.out HD2.out).mono ?_
      rintro e w3 ⟨rfl, hg3⟩
      have HG3 := Lib.hid hg3
      clear hg3
      ((repeat (go_wp2_with fail; first | (refine cdY ?_ ?_; focus (simp [ov, *]; done)) | (refine cdN ?_ ?_; focus (simp [ov, *]; done)))); go_wp2_with fail)
      refine got HR ⟨by simp [ov, *], by simp [ov, *], by simp [ov, *], by simp [ov, *], by simp [ov, *], ?_, HG3.out⟩
      simp [ov, *]
      rw [HEE.out]
  clear s0 s1 σ k0 k1 k2 b0
  rintro σ w3 ⟨s1, s2, s6, s7, s8, s9, hg3⟩
  have HRD3 := Lib.hid (HRD2.out.grown hg3 (by simp))
  have HRB3 := Lib.hid (HRB.out.grown hg3 (by simp))
  have HN3 := Lib.hid (HN2.out.grown hg3)
  have HD3 := Lib.hid (HD2.out.grown hg3)
  have HG3 := Lib.hid (grown_none_tr HG2.out hg3)
  clear hg3 HOT
  have k0 := HRD3.out.cell 0
  have k1 := HRD3.out.cell 1
  have k2 := HRD3.out.cell 2
  simp only [List.getElem?_cons_zero, List.getElem?_cons_succ] at k0 k1 k2
  ((repeat (go_wp2_with fail; first | (refine cdY ?_ ?_; focus (simp [ov, *]; done)) | (refine cdN ?_ ?_; focus (simp [ov, *]; done)))); go_wp2_with fail)
  refine (HIN.out _).mono ?_
  rintro e w7 ⟨rfl, rfl⟩
  ((repeat (go_wp2_with fail; first | (refine cdY ?_ ?_; focus (simp [ov, *]; done)) | (refine cdN ?_ ?_; focus (simp [ov, *]; done)))); go_wp2_with fail)
  refine (HBI.out _).mono ?_
  rintro e w7 ⟨rfl, rfl⟩
  go_wp2_with fail
  refine cut_F (fun s' w' => s' 1 = .int .i64 32 ∧ s' 2 = .pointer (some ⟨B, 0, none⟩) ∧ s' 4 = .int .u64 (N : Int) ∧ w3.grownBy w' none) ?_ ?_
  · intro R' K' HR hK'
    by_cases hc : E ≤ 127 - 23
    · have hc2 : E ≤ 104 := by omega
      obtain ⟨q, hq⟩ : ∃ q : Nat, E - (-149) = (q : Int) := ⟨(E - (-149)).toNat, by omega⟩
      have hNv : N = q * 8388608 + S := by
        have := HNR.out
        rw [if_pos hc, show (E - (1 - 127 - 23)).toNat = q by omega] at this
        exact this
      have HQE := Lib.hid hq
      have hq9 : q ≤ 2100 := by omega
      have HNV := Lib.hid hNv
      clear hc hNv hq
      ((repeat (go_wp2_with fail; first | (refine cdY ?_ ?_; focus (simp [ov, *]; done)) | (refine cdN ?_ ?_; focus (simp [ov, *]; done)))); go_wp2_with fail)
      refine (HTT.out _ _ _ HN3.out HD3.out).mono ?_
      rintro e w4 ⟨v4, rfl, hv4, hg4⟩
      obtain ⟨n4, d4, rfl, hn4, hd4⟩ := hv4
      have HN4 := Lib.hid hn4
      have HD4 := Lib.hid hd4
      have HG4 := Lib.hid hg4
      clear hn4 hd4 hg4 k0 k1 k2
      ((repeat (go_wp2_with fail; first | (refine cdY ?_ ?_; focus (simp [ov, *]; done)) | (refine cdN ?_ ?_; focus (simp [ov, *]; done)))); go_wp2_with fail)
      refine (HRD.out _ _ _ HN4.out HD4.out).mono ?_
      rintro e w5 ⟨v5, rfl, hn5, hg5⟩
      have HN5 := Lib.hid hn5
      have HG5 := Lib.hid (grown_none_tr HG4.out hg5)
      clear hn5 hg5
      ((repeat (go_wp2_with fail; first | (refine cdY ?_ ?_; focus (simp [ov, *]; done)) | (refine cdN ?_ ?_; focus (simp [ov, *]; done)))); go_wp2_with fail)
      refine wp_region_noPanic ?_
      refine wp_region_held_drew (S := fun W => w5.grownBy W none) (by kernel_rfl) (grown_drewN w5 1 none) (fun hHeld => ?_)
      (refine take_T 0 46 ?_; refine take_T 1 47 ?_)
      (refine take_F 2 48 (oi := ?_) (v := ?_) ?_ ?_ (by kernel_rfl) (by kernel_rfl) (by kernel_rfl) (fun _ _ _ _ _ h => h) ?_ (by assumption) ?_ ?_; rotate_left 2; (focus ((simp only [List.getElem?_toArray, List.getElem?_cons_succ, List.getElem?_cons_zero]); rfl)); (focus rfl); (focus (first | rfl | (simp only [Region.wanted, yielded, List.getElem?_toArray, List.getElem?_cons_succ, List.getElem?_cons_zero, Option.bind_some, Option.map_some, Fr_get?, over_cons, over_nil]; rfl) | go_simp)); (focus (intro W hS; go_simp; rw [wrapIn _ (by omega) (by omega), show E + 149 = (q : Int) by have := HQE.out; omega])))
      (refine take_F 3 49 (oi := ?_) (v := ?_) ?_ ?_ (by kernel_rfl) (by kernel_rfl) (by kernel_rfl) (fun _ _ _ _ _ h => h) ?_ (by assumption) ?_ ?_; rotate_left 2; (focus ((simp only [List.getElem?_toArray, List.getElem?_cons_succ, List.getElem?_cons_zero]); rfl)); (focus rfl); (focus (first | rfl | (simp only [Region.wanted, yielded, List.getElem?_toArray, List.getElem?_cons_succ, List.getElem?_cons_zero, Option.bind_some, Option.map_some, Fr_get?, over_cons, over_nil]; rfl) | go_simp)); (focus (intro W hS; go_simp; rw [wrapU q (by omega)])))
      (refine take_T 4 50 ?_)
      (refine take_F 5 51 (oi := ?_) (v := ?_) ?_ ?_ (by kernel_rfl) (by kernel_rfl) (by kernel_rfl) (fun _ _ _ _ _ h => h) ?_ (by assumption) ?_ ?_; rotate_left 2; (focus ((simp only [List.getElem?_toArray, List.getElem?_cons_succ, List.getElem?_cons_zero]); rfl)); (focus rfl); (focus (first | rfl | (simp only [Region.wanted, yielded, List.getElem?_toArray, List.getElem?_cons_succ, List.getElem?_cons_zero, Option.bind_some, Option.map_some, Fr_get?, over_cons, over_nil]; rfl) | go_simp)); (focus (intro W hS; go_simp; rw [show IntKind.u64.wrap ((q : Int) * 8388608) = ((q * 8388608 : Nat) : Int) by rw [IntKind.wrap_u64]; omega])))
      (refine take_T 6 52 ?_; refine take_T 10 56 ?_)
      (refine only_F 7 (oi := ?_) ?_ (by kernel_rfl) ?_ ?_; rotate_left 1; (focus ((simp only [List.getElem?_toArray, List.getElem?_cons_succ, List.getElem?_cons_zero]); rfl)); (focus (first | rfl | go_simp)); intro K hK; go_simp; (refine (HA0.out _ _ (HN5.out.grown hHeld)).mono ?_; rintro e w6 ⟨rfl, rfl⟩); go_wp2_with fail; replace hHeld := hHeld; refine hK.out _ _ hHeld ?_; clear hK K)
      (refine take_F 8 54 (oi := ?_) (v := ?_) ?_ ?_ (by kernel_rfl) (by kernel_rfl) (by kernel_rfl) (fun _ _ _ _ _ h => h) ?_ (by assumption) ?_ ?_; rotate_left 2; (focus ((simp only [List.getElem?_toArray, List.getElem?_cons_succ, List.getElem?_cons_zero]); rfl)); (focus rfl); (focus (first | rfl | (simp only [Region.wanted, yielded, List.getElem?_toArray, List.getElem?_cons_succ, List.getElem?_cons_zero, Option.bind_some, Option.map_some, Fr_get?, over_cons, over_nil]; rfl) | go_simp)); (focus (intro W hS; go_simp; rw [wrapU x0 (by omega)])))
      (refine take_F 9 55 (oi := ?_) (v := ?_) ?_ ?_ (by kernel_rfl) (by kernel_rfl) (by kernel_rfl) (fun _ _ _ _ _ h => h) ?_ (by assumption) ?_ ?_; rotate_left 2; (focus ((simp only [List.getElem?_toArray, List.getElem?_cons_succ, List.getElem?_cons_zero]); rfl)); (focus rfl); (focus (first | rfl | (simp only [Region.wanted, yielded, List.getElem?_toArray, List.getElem?_cons_succ, List.getElem?_cons_zero, Option.bind_some, Option.map_some, Fr_get?, over_cons, over_nil]; rfl) | go_simp)); (focus (intro W hS; go_simp; rw [show IntKind.u64.wrap ((q : Int) * 8388608 + (x0 : Int)) = ((q * 8388608 + x0 : Nat) : Int) by rw [IntKind.wrap_u64]; omega])))
      (refine only_F 11 (oi := ?_) ?_ (by kernel_rfl) ?_ ?_; rotate_left 1; (focus ((simp only [List.getElem?_toArray, List.getElem?_cons_succ, List.getElem?_cons_zero]); rfl)); (focus (first | rfl | go_simp)); intro K hK; go_simp; (refine (HA1.out _ _ (HN5.out.grown hHeld)).mono ?_; rintro e w8 ⟨rfl, rfl⟩); go_wp2_with fail; replace hHeld := hHeld; refine hK.out _ _ hHeld ?_; clear hK K)
      (refine take_F 12 58 (oi := ?_) (v := ?_) ?_ ?_ (by kernel_rfl) (by kernel_rfl) (by kernel_rfl) (fun _ _ _ _ _ h => h) ?_ (by assumption) ?_ ?_; rotate_left 2; (focus ((simp only [List.getElem?_toArray, List.getElem?_cons_succ, List.getElem?_cons_zero]); rfl)); (focus rfl); (focus (first | rfl | (simp only [Region.wanted, yielded, List.getElem?_toArray, List.getElem?_cons_succ, List.getElem?_cons_zero, Option.bind_some, Option.map_some, Fr_get?, over_cons, over_nil]; rfl) | go_simp)); (focus (intro W hS; go_simp; rw [wrapU x1 (by omega)])))
      (refine take_F 13 59 (oi := ?_) (v := ?_) ?_ ?_ (by kernel_rfl) (by kernel_rfl) (by kernel_rfl) (fun _ _ _ _ _ h => h) ?_ (by assumption) ?_ ?_; rotate_left 2; (focus ((simp only [List.getElem?_toArray, List.getElem?_cons_succ, List.getElem?_cons_zero]); rfl)); (focus rfl); (focus (first | rfl | (simp only [Region.wanted, yielded, List.getElem?_toArray, List.getElem?_cons_succ, List.getElem?_cons_zero, Option.bind_some, Option.map_some, Fr_get?, over_cons, over_nil]; rfl) | go_simp)); (focus (intro W hS; go_simp; rw [show IntKind.u64.wrap ((x1 : Int) * 1073741824) = ((x1 * 1073741824 : Nat) : Int) by rw [IntKind.wrap_u64]; omega])))
      (refine take_F 14 60 (oi := ?_) (v := ?_) ?_ ?_ (by kernel_rfl) (by kernel_rfl) (by kernel_rfl) (fun _ _ _ _ _ h => h) ?_ (by assumption) ?_ ?_; rotate_left 2; (focus ((simp only [List.getElem?_toArray, List.getElem?_cons_succ, List.getElem?_cons_zero]); rfl)); (focus rfl); (focus (first | rfl | (simp only [Region.wanted, yielded, List.getElem?_toArray, List.getElem?_cons_succ, List.getElem?_cons_zero, Option.bind_some, Option.map_some, Fr_get?, over_cons, over_nil]; rfl) | go_simp)); (focus (intro W hS; go_simp; rw [show IntKind.u64.wrap ((q : Int) * 8388608 + (x0 : Int) + (x1 : Int) * 1073741824) = (N : Int) by rw [IntKind.wrap_u64]; have h1 := HNV.out; have h2 := HXS.out; omega])))
      (refine take_T 15 4 ?_)
      refine wpAnyH_done (by kernel_rfl) ?_ _
      refine NoPanic.normal ?_
      exact hK' _ _ _ (got HR ⟨by simp [ov, *], by simp [ov, *], by simp [ov, *], grown_none_tr HG5.out hHeld⟩)
    · have hNv : N = 2139095040 := by have := HNR.out; rw [if_neg hc] at this; exact this
      have f1 : decide (E ≤ 104) = false := by simp; omega
      subst hNv
      clear hc
      ((repeat (go_wp2_with fail; first | (refine cdY ?_ ?_; focus (simp [ov, *]; done)) | (refine cdN ?_ ?_; focus (simp [ov, *]; done)))); go_wp2_with fail)
      exact got HR ⟨by simp [ov, *], by simp [ov, *], by simp [ov, *], grown_refl w3 none⟩
  clear s1 s2 s6 s7 s8 s9 σ k0 k1 k2
  rintro σ w4 ⟨s1, s2, s4, hg4⟩
  have HG4 := Lib.hid (grown_none_tr HG3.out hg4)
  have hb4 := HRB3.out.grown hg4 (by simp)
  have b0 := hb4.cell 0
  simp only [List.getElem?_cons_zero] at b0
  have hNl : N ≤ 2139095040 := by
    have := HNR.out
    split at this
    · next h =>
      rw [this]
      have hq : (E - (1 - 127 - 23)).toNat ≤ 253 := by omega
      have h2 : (E - (1 - 127 - 23)).toNat * 2 ^ (23 : Int).toNat ≤ 253 * 8388608 := Nat.mul_le_mul_right _ hq
      omega
    · omega
  clear hg4 hb4
  ((repeat (go_wp2_with fail; first | (refine cdY ?_ ?_; focus (simp [ov, *]; done)) | (refine cdN ?_ ?_; focus (simp [ov, *]; done)))); go_wp2_with fail)
  refine (HIN.out _).mono ?_
  rintro e w7 ⟨rfl, rfl⟩
  go_wp2_with fail
  have hbe : ((N : Int) == 2139095040) = (N == 2139095040) := by
    rw [Bool.eq_iff_iff]; simp only [beq_iff_eq]; omega
  refine cut_F (fun s' w' => s' 4 = .int .u64 (M : Int) ∧ s' 5 = .bool (N == 2139095040) ∧ w4 = w') ?_ ?_
  · intro R' K' HR hK'
    cases neg
    · ((repeat (go_wp2_with fail; first | (refine cdY ?_ ?_; focus (simp [ov, *]; done)) | (refine cdN ?_ ?_; focus (simp [ov, *]; done)))); go_wp2_with fail)
      exact got HR ⟨by have := HM.out; simp only [Bool.false_eq_true, if_false, Nat.add_zero] at this; rw [← this]; simp [ov, *], by simp [over_cons, over_nil, hbe], rfl⟩
    · ((repeat (go_wp2_with fail; first | (refine cdY ?_ ?_; focus (simp [ov, *]; done)) | (refine cdN ?_ ?_; focus (simp [ov, *]; done)))); go_wp2_with fail)
      refine (HSB.out _).mono ?_
      rintro e w8 ⟨rfl, rfl⟩
      ((repeat (go_wp2_with fail; first | (refine cdY ?_ ?_; focus (simp [ov, *]; done)) | (refine cdN ?_ ?_; focus (simp [ov, *]; done)))); go_wp2_with fail)
      exact got HR ⟨by have := HM.out; simp only [if_true] at this; rw [← this]; simp only [over_cons, over_nil, if_true]; congr 1, by simp [over_cons, over_nil, hbe], rfl⟩
  clear s1 s2 s4 b0 σ
  rintro σ w5 ⟨s4, s5, rfl⟩
  ((repeat (go_wp2_with fail; first | (refine cdY ?_ ?_; focus (simp [ov, *]; done)) | (refine cdN ?_ ?_; focus (simp [ov, *]; done)))); go_wp2_with fail)
  exact ret_F2 (.int .u64 (M : Int)) (.bool (N == 2139095040)) rfl (by decide) (by decide) (by simp [ov, *]) (by simp [ov, *]) ⟨rfl, HG4.out⟩

end Go.Proofs.YticlnihjhcepkaaGreatDoor
