/-
  Walk of spec/value.go: Widen, at a finite number.
-/
import Derived.Test.YthkcfpmlgoomfaaDoorCQn3
import Derived.Test.YthkcfpmlgoomfaaDoorCWi0
namespace Go.Proofs.YthkcfpmlgoomfaaDoor
open Go.RowKit
set_option linter.unusedSimpArgs false
set_option linter.unusedVariables false
attribute [local go_sem] undef

set_option maxRecDepth 100000 in
set_option maxHeartbeats 8000000 in
theorem widen_any (n : Nat) (hn : n < 4294967296) (hfin : n % 2147483648 < 2139095040) :
    ∃ N, N < 18446744073709551616 ∧ N % 9223372036854775808 < 9218868437227405312 ∧ (∀ (f : Int) (pr : Nat), isEfg f → pr ≤ 100000 → ftoa64L N f pr = ftoa32L n f pr) ∧
    ∀ w, Calls Tryd.prog 26 #[.int .u32 (n : Int)] w fun e w' => e = .returned (.int .u64 (N : Int)) ∧ w.grownBy w' none := by
  have hx := e32_bd n hfin
  have hm := m32_lt n
  obtain ⟨g, hg, hgn⟩ : ∃ g : Nat, (g = 0 ∨ g = 9223372036854775808) ∧ g = if 2147483648 ≤ n then 9223372036854775808 else 0 := by
    by_cases h : 2147483648 ≤ n
    · exact ⟨_, Or.inr rfl, by rw [if_pos h]⟩
    · exact ⟨_, Or.inl rfl, by rw [if_neg h]⟩
  obtain ⟨N, hN, h1, h2, h3, h4⟩ := widen_val (m32 n) (e32 n) g hm (by omega) (by omega) hg
  refine ⟨N, h1, h2, ?_, ?_⟩
  · intro f pr hf hp
    rw [ftoa64_spec N f pr h1 h2 hf hp, ftoa32_spec n f pr hn hfin hf hp, specT_cross (Nat.ne_of_gt (vD_pos (e64 N))) (Nat.ne_of_gt (vD_pos (e32 n))) h4.symm f pr, h3]
    congr 2
    rw [decide_eq_decide, hgn]
    constructor
    · intro h
      split at h
      · assumption
      · omega
    · intro h; rw [if_pos h]
  · intro w
    have hk : kindB 2139095040 2147483648 n = 0 := kindB_0 rfl hfin
    have hK := fun W => kind32_any n W hn
    rw [hk] at hK
    have HK := Lib.hid hK
    have HI := Lib.hid (fun W => isNeg32_any n W hn)
    have HS := Lib.hid sign64_any
    have HV := Lib.hid (fun W => valueOf32_any n (m32 n) (e32 n) W hn hk (m32_is n) (e32_is n))
    obtain ⟨v1, v2⟩ := v_len (m32 n) (e32 n) (Nat.lt_of_lt_of_le hm (by decide)) (by omega) (by omega)
    have HNE := Lib.hid (fun vn vd W (h1 : NatV W vn (vN (m32 n) (e32 n))) (h2 : NatV W vd (vD (e32 n))) => nearest64_any false vn vd _ _ W h1 h2 (Nat.ne_of_gt (vD_pos _)) (by omega) (by omega))
    have HNN := Lib.hid (show near64 (vN (m32 n) (e32 n)) (vD (e32 n)) + g = N from hN)
    have HGN := Lib.hid hgn
    obtain ⟨M, hM⟩ : ∃ M, near64 (vN (m32 n) (e32 n)) (vD (e32 n)) = M := ⟨_, rfl⟩
    simp only [hM] at HNE HNN
    have hM2 : M < 18446744073709551616 := by have := HNN.out; omega
    have HV' := Lib.hid (show ∀ W, Calls Tryd.prog 21 #[.int .i64 32, .int .u64 (n : Int)] W fun x w' => ∃ vn vd, x = .returned (.tuple #[.agg #[.bool (decide (2147483648 ≤ n)), vn, vd], .bool true]) ∧ NatV w' vn (vN (m32 n) (e32 n)) ∧ NatV w' vd (vD (e32 n)) ∧ W.grownBy w' none from HV.out)
    generalize vN (m32 n) (e32 n) = a at *
    generalize vD (e32 n) = b at *
    have hN64 := h1
    clear HV hM hN hK hk h1 h2 h3 h4 hgn v1 v2
    refine calls_F Tryd.func26 rfl (by rw [Tryd.ntmps26]; simp) ?_
    intro σ hσ
    rw [Tryd.ntmps26]
    have s0 : σ 0 = .int .u32 (n : Int) := hσ 0 (by simp)
    clear hσ
    ((repeat (go_wp2_with fail; first | (refine cond_yes ?hc (by decide) ?_; (case hc => (simp [over_cons, over_nil, *]; done))) | (refine cond_no ?hc (by decide) ?_; (case hc => (simp [over_cons, over_nil, *]; done))))); go_wp2_with fail)
    refine (HI.out _).mono ?_
    rintro e w7 ⟨rfl, rfl⟩
    go_wp2_with fail
    refine cut_F (fun s' w' => s' 0 = .int .u32 (n : Int) ∧ s' 3 = .int .u64 (g : Int) ∧ w = w') ?_ ?_
    · intro R' K' HR hK'
      by_cases hs : 2147483648 ≤ n
      · have e : g = 9223372036854775808 := by rw [HGN.out, if_pos hs]
        subst e
        have f1 : decide (2147483648 ≤ n) = true := by simpa using hs
        clear hs
        ((repeat (go_wp2_with fail; first | (refine cond_yes ?hc (by decide) ?_; (case hc => (simp [over_cons, over_nil, *]; done))) | (refine cond_no ?hc (by decide) ?_; (case hc => (simp [over_cons, over_nil, *]; done))))); go_wp2_with fail)
        refine (HS.out _).mono ?_
        rintro e w7 ⟨rfl, rfl⟩
        ((repeat (go_wp2_with fail; first | (refine cond_yes ?hc (by decide) ?_; (case hc => (simp [over_cons, over_nil, *]; done))) | (refine cond_no ?hc (by decide) ?_; (case hc => (simp [over_cons, over_nil, *]; done))))); go_wp2_with fail)
        exact got HR ⟨by simp [over_cons, over_nil, *], by simp [over_cons, over_nil], rfl⟩
      · have e : g = 0 := by rw [HGN.out, if_neg hs]
        subst e
        have f1 : decide (2147483648 ≤ n) = false := by simpa using hs
        clear hs
        ((repeat (go_wp2_with fail; first | (refine cond_yes ?hc (by decide) ?_; (case hc => (simp [over_cons, over_nil, *]; done))) | (refine cond_no ?hc (by decide) ?_; (case hc => (simp [over_cons, over_nil, *]; done))))); go_wp2_with fail)
        exact got HR ⟨by simp [over_cons, over_nil, *], by simp [over_cons, over_nil], rfl⟩
    clear s0 σ HI HS
    rintro σ w' ⟨s0, s3, rfl⟩
    ((repeat (go_wp2_with fail; first | (refine cond_yes ?hc (by decide) ?_; (case hc => (simp [over_cons, over_nil, *]; done))) | (refine cond_no ?hc (by decide) ?_; (case hc => (simp [over_cons, over_nil, *]; done))))); go_wp2_with fail)
    refine (HK.out _).mono ?_
    rintro e w7 ⟨rfl, rfl⟩
    ((repeat (go_wp2_with fail; first | (refine cond_yes ?hc (by decide) ?_; (case hc => (simp [over_cons, over_nil, *]; done))) | (refine cond_no ?hc (by decide) ?_; (case hc => (simp [over_cons, over_nil, *]; done))))); go_wp2_with fail)
    refine (HV'.out _).mono ?_
    rintro e w2 ⟨vn, vd, rfl, hvn, hvd, hg2⟩
    generalize decide (2147483648 ≤ n) = neg at *
    obtain ⟨an, cn, rfl⟩ := hvn.len
    obtain ⟨ad, cd, rfl⟩ := hvd.len
    generalize (natL a).length = LN at *
    generalize (natL b).length = LD at *
    obtain ⟨w3, hw3⟩ : ∃ w', World.alloc w2 (.cells #[.bool neg, .slice an LN cn, .slice ad LD cd] 33) = w' := ⟨_, rfl⟩
    obtain ⟨B, hB⟩ : ∃ A, (World.heap w2).size = A := ⟨_, rfl⟩
    have hib := InBlk.new w2 neg (.slice an LN cn) (.slice ad LD cd) 33
    rw [hw3, hB] at hib
    have HIB := Lib.hid hib
    have HVN := Lib.hid (hvn.grown hib.grown)
    have HVD := Lib.hid (hvd.grown hib.grown)
    have HG3 := Lib.hid (grown_none_tr hg2 hib.grown)
    have HW3 := Lib.hid hw3
    have HB := Lib.hid hB
    have HSZ := Lib.hid hg2.size
    clear hvn hvd hg2 hib hw3 hB
    go_upto_region 10 with fail
    rw [HW3.out, HB.out]
    clear HW3
    have c0 := HIB.out.row.cell 0
    have c1 := HIB.out.row.cell 1
    have c2 := HIB.out.row.cell 2
    have t0 := HIB.out.row.frozen 0
    simp only [List.getElem?_cons_zero, List.getElem?_cons_succ] at c0 c1 c2
    go_upto_region 11 with fail
    obtain ⟨w4, hw4⟩ : ∃ w4, w3.setCell ⟨B, 0, none⟩ (.bool false) = w4 := ⟨_, rfl⟩
    have hr4 := HIB.out.row.setCell 0 (.bool false)
    simp only [List.set_cons_zero] at hr4
    have hn4 := NatV.setB (u := .bool false) (k := 0) HVN.out c0
    have hd4 := NatV.setB (u := .bool false) (k := 0) HVD.out c0
    have hg4 := grown_setN HG3.out (a := ⟨B, 0, none⟩) (.bool false) (by show w.heap.size ≤ B; have := HB.out; have := HSZ.out; omega)
    rw [hw4] at hr4 hn4 hd4 hg4
    rw [hw4]
    have HN4 := Lib.hid hn4
    have HD4 := Lib.hid hd4
    have HG4 := Lib.hid hg4
    clear c0 c1 c2 t0 hn4 hd4 hg4 hw4
    have c0 := hr4.cell 0
    have c1 := hr4.cell 1
    have c2 := hr4.cell 2
    simp only [List.getElem?_cons_zero, List.getElem?_cons_succ] at c0 c1 c2
    clear hr4
    ((repeat (go_wp2_with fail; first | (refine cond_yes ?hc (by decide) ?_; (case hc => (simp [over_cons, over_nil, *]; done))) | (refine cond_no ?hc (by decide) ?_; (case hc => (simp [over_cons, over_nil, *]; done))))); go_wp2_with fail)
    refine (HNE.out _ _ _ HN4.out HD4.out).mono ?_
    rintro e w5 ⟨rfl, hg5⟩
    have HG5 := Lib.hid (grown_none_tr HG4.out hg5)
    clear hg5 c0 c1 c2
    simp only [Bool.false_eq_true, if_false, Nat.add_zero]
    have hwr : IntKind.u64.wrap (N : Int) = (N : Int) := wrapU N hN64
    have hsum2 : (g : Int) + (M : Int) = (N : Int) := by have := HNN.out; omega
    ((repeat (go_wp2_with fail; first | (refine cond_yes ?hc (by decide) ?_; (case hc => (simp [over_cons, over_nil, *]; done))) | (refine cond_no ?hc (by decide) ?_; (case hc => (simp [over_cons, over_nil, *]; done))))); go_wp2_with fail)
    exact ret_F (.int .u64 (N : Int)) rfl (by decide) (by simp [over_cons, over_nil, *]) ⟨rfl, HG5.out⟩
end Go.Proofs.YthkcfpmlgoomfaaDoor
