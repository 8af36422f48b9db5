/-
  Walk: laws.sameBytes at two slices with the same bytes.
-/
import Derived.Test.YtffooimnioigdaaDoorAc
namespace Go.Proofs.YtffooimnioigdaaDoor
open Go.RowKit
set_option linter.unusedSimpArgs false
set_option linter.unusedVariables false

set_option maxHeartbeats 4000000 in
theorem sameBytes_any (T : Nat) (v1 v2 : Value) (xs : List UInt8) (w : World) (h1 : OwnB T w v1 xs) (h2 : OwnB T w v2 xs) :
    Calls Tryd.prog 17 #[v1, v2] w fun e w' => e = .returned (.bool true) ∧ w = w' := by
  obtain ⟨g1, c1, rfl, hg1, hl1, hc1, hm1⟩ := h1.block
  obtain ⟨g2, c2, rfl, hg2, hl2, hc2, hm2⟩ := h2.block
  have hml : xs.length ≤ 9223372036854775807 := by unfold maxLen at hm1; omega
  obtain ⟨N, hN⟩ : ∃ N, xs.length = N := ⟨_, rfl⟩
  rw [hN] at hc1 hc2 hml
  simp only [hN] at h1 h2 ⊢
  have H1 := Lib.hid h1
  have H2 := Lib.hid h2
  have HN := Lib.hid hN
  clear h1 h2 hN hm1 hm2
  refine calls_F Tryd.func17 rfl (by rw [Tryd.ntmps17]; simp) ?_
  intro σ hσ
  rw [Tryd.ntmps17]
  have s0 : σ 0 = .slice (some ⟨g1, 0, none⟩) N c1 := hσ 0 (by simp)
  have s1 : σ 1 = .slice (some ⟨g2, 0, none⟩) N c2 := hσ 1 (by simp)
  clear hσ
  ((repeat (go_wp2_with fail; first | (refine cond_yes ?hc (by decide) ?_; (case hc => (simp [over_cons, over_nil, *]; done))) | (refine cond_no ?hc (by decide) ?_; (case hc => (simp [over_cons, over_nil, *]; done))))); go_wp2_with fail)
  refine loop_F (fun kk s' w' => ∃ i : Nat, i ≤ N ∧ kk = N - i ∧ s' 0 = .slice (some ⟨g1, 0, none⟩) N c1 ∧ s' 1 = .slice (some ⟨g2, 0, none⟩) N c2 ∧ s' 7 = .slice (some ⟨g1, 0, none⟩) N c1 ∧ s' 8 = .int .i64 (N : Int) ∧ s' 9 = .int .i64 (i : Int) ∧ w = w') N
    ⟨0, by omega, rfl, by simp [over_cons, over_nil, *], by simp [over_cons, over_nil, *], by simp [over_cons, over_nil, *], by simp [over_cons, over_nil, *], by simp [over_cons, over_nil, *], rfl⟩ ?_
  clear s0 s1 σ
  rintro kk σ wk ⟨i, hi, hkk, s0, s1, s7, s8, s9, rfl⟩ RK KK HRK hKK
  have HKK := Lib.hid hkk
  clear hkk
  by_cases hiN : i < N
  · obtain ⟨u, hu⟩ : ∃ u, xs[i]? = some u := ⟨xs[i]'(by rw [HN.out]; exact hiN), List.getElem?_eq_getElem _⟩
    have hc1' := H1.out.cell i u hu
    have hc2' := H2.out.cell i u hu
    unfold encB at hc1' hc2'
    have hiN' : (i : Int) < (N : Int) := by omega
    have hge : decide ((N : Int) ≤ (i : Int)) = false := by simp; omega
    have hge' : decide (N ≤ i) = false := by simp; omega
    clear hu
    ((repeat (go_wp2_with fail; first | (refine cond_yes ?hc (by decide) ?_; (case hc => (simp [over_cons, over_nil, *]; done))) | (refine cond_no ?hc (by decide) ?_; (case hc => (simp [over_cons, over_nil, *]; done))))); go_wp2_with fail)
    exact gotk HRK (N - (i + 1)) (by have := HKK.out; omega) ⟨i + 1, by omega, rfl, by simp [over_cons, over_nil, *], by simp [over_cons, over_nil, *], by simp [over_cons, over_nil, *], by simp [over_cons, over_nil, *], by simp [over_cons, over_nil], rfl⟩
  · have hiN' : decide (i < N) = false := by simpa using hiN
    ((repeat (go_wp2_with fail; first | (refine cond_yes ?hc (by decide) ?_; (case hc => (simp [over_cons, over_nil, *]; done))) | (refine cond_no ?hc (by decide) ?_; (case hc => (simp [over_cons, over_nil, *]; done))))); go_wp2_with fail)
    exact ret_F (.bool true) rfl (by decide) (by simp [over_cons, over_nil, *]) ⟨rfl, rfl⟩
end Go.Proofs.YtffooimnioigdaaDoor
