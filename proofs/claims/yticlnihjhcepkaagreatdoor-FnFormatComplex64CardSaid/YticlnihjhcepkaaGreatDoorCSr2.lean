/-
  Walk of spec/digits.go: Shortest, ShortTie, at a finite number.
-/
import Derived.Test.YticlnihjhcepkaaGreatDoorCSr1
import Derived.Test.YticlnihjhcepkaaGreatDoorGq
import Derived.Test.YticlnihjhcepkaaGreatDoorCSh7
namespace Go.Proofs.YticlnihjhcepkaaGreatDoor
open Go.RowKit
set_option linter.unusedSimpArgs false
set_option linter.unusedVariables false
attribute [local go_sem] undef

set_option maxRecDepth 100000 in
set_option maxHeartbeats 8000000 in
theorem shortest_gen (size : Int) (n q sg near k : Nat) (tie : Bool) (a b : Nat) (w : World) (hk1 : 1 ≤ k) (hk2 : k ≤ 17) (hnl : (natL near).length ≤ 10) (hdl : (decT near).length ≤ 18) (hord : -1000 ≤ ordT a b ∧ ordT a b ≤ 1000)
    (hS : ∀ W, Calls Tryz.prog 28 #[.int .i64 size] W fun e w' => e = .returned (.int .u64 (sg : Int)) ∧ W = w')
    (hand : bits .andNot .u64 (n : Int) (sg : Int) = (q : Int))
    (hV : ∀ W, Calls Tryz.prog 24 #[.int .i64 size, .int .u64 (q : Int)] W fun x w' => ∃ vn vd, x = .returned (.tuple #[.agg #[.bool false, vn, vd], .bool true]) ∧ NatV w' vn a ∧ NatV w' vd b ∧ W.grownBy w' none)
    (hN : a ≠ 0 → ∀ vn vd W, NatV W vn a → NatV W vd b → Calls Tryz.prog 29 #[.int .i64 size, .int .u64 (q : Int), .agg #[.bool false, vn, vd]] W fun x w' => ∃ V, x = .returned (.tuple #[V, .int .i64 (k : Int), .int .i64 (ordT a b), .bool tie]) ∧ NatV w' V near ∧ W.grownBy w' none) :
    Calls Tryz.prog 91 #[.int .i64 size, .int .u64 (n : Int)] w fun e w' => e = .returned (.tuple #[.string ⟨(shoS a b near k).1.toArray⟩, .int .i64 (shoS a b near k).2]) ∧ w.grownBy w' none := by
  have HS := Lib.hid hS
  have HV := Lib.hid hV
  have HN := Lib.hid hN
  have HNT := Lib.hid (fun V W (h : NatV W V near) => natText_any V near W h (by omega))
  obtain ⟨res, hres⟩ : ∃ res, shoS a b near k = res := ⟨_, rfl⟩
  have HRES := Lib.hid (hres.symm.trans (show shoS a b near k = if a = 0 then ([48], 0) else if k < (decT near).length then ((decT near).take k, ordT a b + 1) else (decT near, ordT a b) from rfl))
  rw [hres]
  have HNL := Lib.hid (show (natL a).length = 0 ↔ a = 0 from len_zero a)
  obtain ⟨E, hE⟩ : ∃ E, ordT a b = E := ⟨_, rfl⟩
  rw [hE] at HN HRES hord
  obtain ⟨hE1, hE2⟩ := hord
  have hsl := slice_head (decT near) k
  have y1 : (⟨(decT near).toArray⟩ : ByteArray).size = (decT near).length := by simp [ByteArray.size]
  generalize decT near = tx at *
  obtain ⟨T, hT⟩ : ∃ T, tx.length = T := ⟨_, rfl⟩
  rw [hT] at y1 hdl HRES
  clear hres hV hS hN hE hT hnl
  refine calls_F Tryz.func91 rfl (by rw [Tryz.ntmps91]; simp) ?_
  intro σ hσ
  rw [Tryz.ntmps91]
  have s0 : σ 0 = .int .i64 size := hσ 0 (by simp)
  have s1 : σ 1 = .int .u64 (n : Int) := hσ 1 (by simp)
  clear hσ
  ((repeat (go_wp2_with fail; first | (refine cdY ?_ ?_; focus (simp [ov, *]; done)) | (refine cdN ?_ ?_; focus (simp [ov, *]; done)))); go_wp2_with fail)
  refine (HS.out _).mono ?_
  rintro e w1 ⟨rfl, rfl⟩
  ((repeat (go_wp2_with fail; first | (refine cdY ?_ ?_; focus (simp [ov, *]; done)) | (refine cdN ?_ ?_; focus (simp [ov, *]; done)))); go_wp2_with fail)
  refine (HV.out _).mono ?_
  rintro e w2 ⟨vn, vd, rfl, hvn, hvd, hg2⟩
  obtain ⟨an, cn, rfl⟩ := hvn.len
  obtain ⟨ad, cd, rfl⟩ := hvd.len
  obtain ⟨LN, hLN⟩ : ∃ LN, (natL a).length = LN := ⟨_, rfl⟩
  rw [hLN] at hvn HNL
  simp only [hLN]
  generalize (natL b).length = LD at *
  obtain ⟨w3, hw3⟩ : ∃ w', World.alloc w2 (.cells #[.bool false, .slice an LN cn, .slice ad LD cd] 45) = w' := ⟨_, rfl⟩
  obtain ⟨B, hB⟩ : ∃ A, (World.heap w2).size = A := ⟨_, rfl⟩
  have hib := InBlk.new w2 false (.slice an LN cn) (.slice ad LD cd) 45
  rw [hw3, hB] at hib
  have HIB := Lib.hid hib
  have HVN := Lib.hid (hvn.grown hib.grown)
  have HVD := Lib.hid (hvd.grown hib.grown)
  have HG3 := Lib.hid (grown_none_tr hg2 hib.grown)
  have HW3 := Lib.hid hw3
  have HB := Lib.hid hB
  clear hvn hvd hg2 hib hw3 hB hLN
  go_upto_region 3 with fail
  rw [HW3.out, HB.out]
  clear HW3
  have c0 := HIB.out.row.cell 0
  have c1 := HIB.out.row.cell 1
  have c2 := HIB.out.row.cell 2
  simp only [List.getElem?_cons_zero, List.getElem?_cons_succ] at c0 c1 c2
  by_cases h0 : LN = 0
  · have ha0 : a = 0 := HNL.out.1 h0
    subst h0
    have hr2 : res = ([48], 0) := by rw [HRES.out, if_pos ha0]
    have HR2 := Lib.hid hr2
    clear hr2
    ((repeat (go_wp2_with fail; first | (refine cdY ?_ ?_; focus (simp [ov, *]; done)) | (refine cdN ?_ ?_; focus (simp [ov, *]; done)))); go_wp2_with fail)
    exact ret_F2 (.string ⟨([48] : List UInt8).toArray⟩) (.int .i64 0) rfl (by decide) (by decide) (by simp [ov, *]) (by simp [ov, *]) ⟨by rw [HR2.out], HG3.out⟩
  · have ha0 : a ≠ 0 := fun h => h0 (HNL.out.2 h)
    have f1 : ((LN : Int) == 0) = false := by rw [beq_eq_false_iff_ne]; omega
    have f2 : (LN == 0) = false := by rw [beq_eq_false_iff_ne]; omega
    have hr2 : res = if k < T then (tx.take k, E + 1) else (tx, E) := by rw [HRES.out, if_neg ha0]
    have HR2 := Lib.hid hr2
    have HA0 := Lib.hid ha0
    clear hr2 ha0
    ((repeat (go_wp2_with fail; first | (refine cdY ?_ ?_; focus (simp [ov, *]; done)) | (refine cdN ?_ ?_; focus (simp [ov, *]; done)))); go_wp2_with fail)
    refine (HN.out HA0.out _ _ _ HVN.out HVD.out).mono ?_
    rintro e w4 ⟨V, rfl, hv4, hg4⟩
    have HV4 := Lib.hid hv4
    have HG4 := Lib.hid (grown_none_tr HG3.out hg4)
    clear hv4 hg4 c0 c1 c2
    ((repeat (go_wp2_with fail; first | (refine cdY ?_ ?_; focus (simp [ov, *]; done)) | (refine cdN ?_ ?_; focus (simp [ov, *]; done)))); go_wp2_with fail)
    refine (HNT.out _ _ HV4.out).mono ?_
    rintro e w5 ⟨rfl, hg5⟩
    have HG5 := Lib.hid (grown_none_tr HG4.out hg5)
    clear hg5
    by_cases hc : k < T
    · have g1 : (k : Int) < (T : Int) := by omega
      have hres2 : res = (tx.take k, E + 1) := by rw [HR2.out, if_pos hc]
      have HRS := Lib.hid hres2
      clear hres2 hc
      ((repeat (go_wp2_with fail; first | (refine cdY ?_ ?_; focus (simp [ov, *]; done)) | (refine cdN ?_ ?_; focus (simp [ov, *]; done)))); go_wp2_with fail)
      exact ret_F2 (.string ⟨(tx.take k).toArray⟩) (.int .i64 (E + 1)) rfl (by decide) (by decide) (by simp [ov, *]) (by simp [ov, *]) ⟨by rw [HRS.out], HG5.out⟩
    · have g1 : decide ((k : Int) < (T : Int)) = false := by simp; omega
      have g2 : decide (k < T) = false := by simp; omega
      have hres2 : res = (tx, E) := by rw [HR2.out, if_neg hc]
      have HRS := Lib.hid hres2
      clear hres2 hc
      ((repeat (go_wp2_with fail; first | (refine cdY ?_ ?_; focus (simp [ov, *]; done)) | (refine cdN ?_ ?_; focus (simp [ov, *]; done)))); go_wp2_with fail)
      exact ret_F2 (.string ⟨tx.toArray⟩) (.int .i64 E) rfl (by decide) (by decide) (by simp [ov, *]) (by simp [ov, *]) ⟨by rw [HRS.out], HG5.out⟩

set_option maxRecDepth 100000 in
set_option maxHeartbeats 8000000 in
theorem shortTie_gen (size : Int) (n q sg near k : Nat) (tie : Bool) (a b : Nat) (E : Int) (w : World)
    (hS : ∀ W, Calls Tryz.prog 28 #[.int .i64 size] W fun e w' => e = .returned (.int .u64 (sg : Int)) ∧ W = w')
    (hand : bits .andNot .u64 (n : Int) (sg : Int) = (q : Int))
    (hV : ∀ W, Calls Tryz.prog 24 #[.int .i64 size, .int .u64 (q : Int)] W fun x w' => ∃ vn vd, x = .returned (.tuple #[.agg #[.bool false, vn, vd], .bool true]) ∧ NatV w' vn a ∧ NatV w' vd b ∧ W.grownBy w' none)
    (hN : a ≠ 0 → ∀ vn vd W, NatV W vn a → NatV W vd b → Calls Tryz.prog 29 #[.int .i64 size, .int .u64 (q : Int), .agg #[.bool false, vn, vd]] W fun x w' => ∃ V, x = .returned (.tuple #[V, .int .i64 (k : Int), .int .i64 E, .bool tie]) ∧ NatV w' V near ∧ W.grownBy w' none) :
    Calls Tryz.prog 11 #[.int .i64 size, .int .u64 (n : Int)] w fun e w' => e = .returned (.bool (decide (a ≠ 0) && tie)) ∧ w.grownBy w' none := by
  have HS := Lib.hid hS
  have HV := Lib.hid hV
  have HN := Lib.hid hN
  obtain ⟨res, hres⟩ : ∃ res, (decide (a ≠ 0) && tie) = res := ⟨_, rfl⟩
  have HRES := Lib.hid hres
  rw [hres]
  have HNL := Lib.hid (show (natL a).length = 0 ↔ a = 0 from len_zero a)
  clear hres hV hS hN
  refine calls_F Tryz.func11 rfl (by rw [Tryz.ntmps11]; simp) ?_
  intro σ hσ
  rw [Tryz.ntmps11]
  have s0 : σ 0 = .int .i64 size := hσ 0 (by simp)
  have s1 : σ 1 = .int .u64 (n : Int) := hσ 1 (by simp)
  clear hσ
  ((repeat (go_wp2_with fail; first | (refine cdY ?_ ?_; focus (simp [ov, *]; done)) | (refine cdN ?_ ?_; focus (simp [ov, *]; done)))); go_wp2_with fail)
  refine (HS.out _).mono ?_
  rintro e w1 ⟨rfl, rfl⟩
  ((repeat (go_wp2_with fail; first | (refine cdY ?_ ?_; focus (simp [ov, *]; done)) | (refine cdN ?_ ?_; focus (simp [ov, *]; done)))); go_wp2_with fail)
  refine (HV.out _).mono ?_
  rintro e w2 ⟨vn, vd, rfl, hvn, hvd, hg2⟩
  obtain ⟨an, cn, rfl⟩ := hvn.len
  obtain ⟨ad, cd, rfl⟩ := hvd.len
  obtain ⟨LN, hLN⟩ : ∃ LN, (natL a).length = LN := ⟨_, rfl⟩
  rw [hLN] at hvn HNL
  simp only [hLN]
  generalize (natL b).length = LD at *
  obtain ⟨w3, hw3⟩ : ∃ w', World.alloc w2 (.cells #[.bool false, .slice an LN cn, .slice ad LD cd] 45) = w' := ⟨_, rfl⟩
  obtain ⟨B, hB⟩ : ∃ A, (World.heap w2).size = A := ⟨_, rfl⟩
  have hib := InBlk.new w2 false (.slice an LN cn) (.slice ad LD cd) 45
  rw [hw3, hB] at hib
  have HIB := Lib.hid hib
  have HVN := Lib.hid (hvn.grown hib.grown)
  have HVD := Lib.hid (hvd.grown hib.grown)
  have HG3 := Lib.hid (grown_none_tr hg2 hib.grown)
  have HW3 := Lib.hid hw3
  have HB := Lib.hid hB
  clear hvn hvd hg2 hib hw3 hB hLN
  go_upto_region 3 with fail
  rw [HW3.out, HB.out]
  clear HW3
  have c0 := HIB.out.row.cell 0
  have c1 := HIB.out.row.cell 1
  have c2 := HIB.out.row.cell 2
  simp only [List.getElem?_cons_zero, List.getElem?_cons_succ] at c0 c1 c2
  by_cases h0 : LN = 0
  · have ha0 : a = 0 := HNL.out.1 h0
    subst h0
    have hr2 : res = false := by rw [← HRES.out, decide_eq_false (by simpa using ha0)]; rfl
    subst hr2
    ((repeat (go_wp2_with fail; first | (refine cdY ?_ ?_; focus (simp [ov, *]; done)) | (refine cdN ?_ ?_; focus (simp [ov, *]; done)))); go_wp2_with fail)
    exact ret_F (.bool false) rfl (by decide) (by simp [ov, *]) ⟨rfl, HG3.out⟩
  · have ha0 : a ≠ 0 := fun h => h0 (HNL.out.2 h)
    have f1 : ((LN : Int) == 0) = false := by rw [beq_eq_false_iff_ne]; omega
    have f2 : (LN == 0) = false := by rw [beq_eq_false_iff_ne]; omega
    have hr2 : res = tie := by rw [← HRES.out, decide_eq_true ha0, Bool.true_and]
    subst hr2
    have HA0 := Lib.hid ha0
    clear ha0
    ((repeat (go_wp2_with fail; first | (refine cdY ?_ ?_; focus (simp [ov, *]; done)) | (refine cdN ?_ ?_; focus (simp [ov, *]; done)))); go_wp2_with fail)
    refine (HN.out HA0.out _ _ _ HVN.out HVD.out).mono ?_
    rintro e w4 ⟨V, rfl, hv4, hg4⟩
    have HV4 := Lib.hid hv4
    have HG4 := Lib.hid (grown_none_tr HG3.out hg4)
    clear hv4 hg4 c0 c1 c2
    ((repeat (go_wp2_with fail; first | (refine cdY ?_ ?_; focus (simp [ov, *]; done)) | (refine cdN ?_ ?_; focus (simp [ov, *]; done)))); go_wp2_with fail)
    exact ret_F (.bool res) rfl (by decide) (by simp [ov, *]) ⟨rfl, HG4.out⟩
end Go.Proofs.YticlnihjhcepkaaGreatDoor
