/-
  Walk: upper.
-/
import Derived.Test.YtffooimnioigdaaDoorCap
import Derived.Test.YtffooimnioigdaaDoorFm1
namespace Go.Proofs.YtffooimnioigdaaDoor
open Go.RowKit
set_option linter.unusedSimpArgs false
set_option linter.unusedVariables false

set_option maxRecDepth 100000 in
set_option maxHeartbeats 1000000 in
theorem upper_any (s : List UInt8) (w : World) (hs : s.length ≤ 4000000) :
    Calls Tryd.prog 16 #[.string ⟨s.toArray⟩] w fun e w' => e = .returned (.string ⟨(upL s).toArray⟩) ∧ w.grownBy w' none := by
  refine calls_F Tryd.func16 rfl (by rw [Tryd.ntmps16]; simp) ?_
  intro σ hσ
  rw [Tryd.ntmps16]
  have s0 : σ 0 = .string ⟨s.toArray⟩ := hσ 0 (by simp)
  clear hσ
  have hsz : (⟨s.toArray⟩ : ByteArray).size = s.length := by simp [ByteArray.size]
  obtain ⟨N, hN⟩ : ∃ N, s.length = N := ⟨_, rfl⟩
  rw [hN] at hsz hs
  have HN := Lib.hid hN
  clear hN
  have hown0 : OwnB w.heap.size (w.alloc (Obj.cells #[] 5)) (.slice (some ⟨w.heap.size, 0, none⟩) 0 0) [] := by
    refine ⟨⟨w.heap.size, [], rfl, Row.new w [] _, by simp [maxLen]⟩, fun k hk => ?_⟩
    simp [Value.ownBlock] at hk
    omega
  have HOWN := Lib.hid hown0
  clear hown0
  ((repeat (go_wp2_with fail; first | (refine cond_yes ?hc (by decide) ?_; (case hc => (simp [over_cons, over_nil, *]; done))) | (refine cond_no ?hc (by decide) ?_; (case hc => (simp [over_cons, over_nil, *]; done))))); go_wp2_with fail)
  refine loop_F (fun kk s' w' => ∃ (i : Nat) (v : Value), i ≤ N ∧ kk = N - i ∧ s' 0 = .string ⟨s.toArray⟩ ∧ s' 4 = .int .i64 (i : Int) ∧ s' 3 = v ∧ OwnB w.heap.size w' v (upL (s.take i)) ∧ w.grownBy w' none) N
    ⟨0, _, Nat.zero_le _, rfl, by simp [over_cons, over_nil, *], by simp [over_cons, over_nil, *], by simp [over_cons, over_nil, *], HOWN.out, World.grownBy_alloc w _ none⟩ ?_
  clear s0 σ HOWN
  rintro kk σ wk ⟨i, v, hi, hkk, s0, s4, s3, hown, hg⟩ RK KK HRK hKK
  have HKK := Lib.hid hkk
  have HOWN := Lib.hid hown
  have HG := Lib.hid hg
  have hul : (upL (s.take i)).length ≤ 4000000 := by unfold upL; rw [List.length_map, List.length_take]; omega
  clear hkk hown hg
  by_cases hiN : i < N
  · have hidx : ∀ h : i < (⟨s.toArray⟩ : ByteArray).size, (⟨s.toArray⟩ : ByteArray)[i]'h = s.getD i 0 := by
      intro h
      rw [List.getD_eq_getElem?_getD, List.getElem?_eq_getElem (by rw [HN.out]; exact hiN)]
      rfl
    have hts : upL (s.take (i + 1)) = upL (s.take i) ++ [upB (s.getD i 0)] := by
      rw [take_succ_getD s i (by rw [HN.out]; exact hiN), upL_append]; rfl
    have HTS := Lib.hid hts
    clear hts
    have hiN' : (i : Int) < (N : Int) := by omega
    generalize s.getD i 0 = c at *
    by_cases h1 : 97 ≤ c.toNat ∧ c.toNat ≤ 122
    · obtain ⟨h1a, h1b⟩ := h1
      have hup : upB c = UInt8.ofNat ((c.toNat : Int) - 32).toNat := by unfold upB; rw [if_pos ⟨h1a, h1b⟩]; congr 1; omega
      have HUP := Lib.hid hup
      clear hup
      have h1a' : (97 : Int) ≤ (c.toNat : Int) := by omega
      have h1b' : (c.toNat : Int) ≤ 122 := by omega
      ((repeat (go_wp2_with (first | (at_builtin; refine wpList_appF rfl _ _ _ _ rfl (by decide) (by decide) byteTy (HOWN.out.alloc _) (by simp [over_cons, over_nil, *]) _ (by simp [over_cons, over_nil, *]) [UInt8.ofNat ((c.toNat : Int) - 32).toNat] (src_one_at Tryd.underlying33 ((c.toNat : Int) - 32) (by omega) (by omega) _) (by simp only [List.length_append, List.length_cons, List.length_nil, List.length_replicate] at *; omega) ?_; intro v2 w2 ho1 hs1)); first | (refine cond_yes ?hc (by decide) ?_; (case hc => (simp [over_cons, over_nil, *]; done))) | (refine cond_no ?hc (by decide) ?_; (case hc => (simp [over_cons, over_nil, *]; done))))); go_wp2_with (first | (at_builtin; refine wpList_appF rfl _ _ _ _ rfl (by decide) (by decide) byteTy (HOWN.out.alloc _) (by simp [over_cons, over_nil, *]) _ (by simp [over_cons, over_nil, *]) [UInt8.ofNat ((c.toNat : Int) - 32).toNat] (src_one_at Tryd.underlying33 ((c.toNat : Int) - 32) (by omega) (by omega) _) (by simp only [List.length_append, List.length_cons, List.length_nil, List.length_replicate] at *; omega) ?_; intro v2 w2 ho1 hs1)))
      refine gotk HRK (N - (i + 1)) (by have := HKK.out; omega) ⟨i + 1, v2, by omega, rfl, by simp [over_cons, over_nil, *], by simp [over_cons, over_nil], by simp [over_cons, over_nil, *], by rw [HTS.out, HUP.out]; exact ho1, ?_⟩
      refine grown_trans (grown_none_trans HG.out (World.grownBy_alloc wk _ none)) hs1.1 (fun j e hj => ?_)
      have := HOWN.out.2 j e
      omega
    · have hup : upB c = c := by unfold upB; rw [if_neg h1]
      have HUP := Lib.hid hup
      clear hup
      by_cases h2 : 97 ≤ c.toNat
      · have h2' : (97 : Int) ≤ (c.toNat : Int) := by omega
        have h3' : decide ((c.toNat : Int) ≤ 122) = false := by simp; omega
        have h3'' : decide (c.toNat ≤ 122) = false := by simp; omega
        clear h1
        ((repeat (go_wp2_with (first | (at_builtin; refine wpList_appF rfl _ _ _ _ rfl (by decide) (by decide) byteTy (HOWN.out.alloc _) (by simp [over_cons, over_nil, *]) _ (by simp [over_cons, over_nil, *]) [c] (src_new Tryd.underlying33 [c] _) (by simp only [List.length_append, List.length_cons, List.length_nil, List.length_replicate] at *; omega) ?_; intro v2 w2 ho1 hs1)); first | (refine cond_yes ?hc (by decide) ?_; (case hc => (simp [over_cons, over_nil, *]; done))) | (refine cond_no ?hc (by decide) ?_; (case hc => (simp [over_cons, over_nil, *]; done))))); go_wp2_with (first | (at_builtin; refine wpList_appF rfl _ _ _ _ rfl (by decide) (by decide) byteTy (HOWN.out.alloc _) (by simp [over_cons, over_nil, *]) _ (by simp [over_cons, over_nil, *]) [c] (src_new Tryd.underlying33 [c] _) (by simp only [List.length_append, List.length_cons, List.length_nil, List.length_replicate] at *; omega) ?_; intro v2 w2 ho1 hs1)))
        refine gotk HRK (N - (i + 1)) (by have := HKK.out; omega) ⟨i + 1, v2, by omega, rfl, by simp [over_cons, over_nil, *], by simp [over_cons, over_nil], by simp [over_cons, over_nil, *], by rw [HTS.out, HUP.out]; exact ho1, ?_⟩
        refine grown_trans (grown_none_trans HG.out (World.grownBy_alloc wk _ none)) hs1.1 (fun j e hj => ?_)
        have := HOWN.out.2 j e
        omega
      · have h2' : decide ((97 : Int) ≤ (c.toNat : Int)) = false := by simp; omega
        have h2'' : decide (97 ≤ c.toNat) = false := by simp; omega
        clear h1
        ((repeat (go_wp2_with (first | (at_builtin; refine wpList_appF rfl _ _ _ _ rfl (by decide) (by decide) byteTy (HOWN.out.alloc _) (by simp [over_cons, over_nil, *]) _ (by simp [over_cons, over_nil, *]) [c] (src_new Tryd.underlying33 [c] _) (by simp only [List.length_append, List.length_cons, List.length_nil, List.length_replicate] at *; omega) ?_; intro v2 w2 ho1 hs1)); first | (refine cond_yes ?hc (by decide) ?_; (case hc => (simp [over_cons, over_nil, *]; done))) | (refine cond_no ?hc (by decide) ?_; (case hc => (simp [over_cons, over_nil, *]; done))))); go_wp2_with (first | (at_builtin; refine wpList_appF rfl _ _ _ _ rfl (by decide) (by decide) byteTy (HOWN.out.alloc _) (by simp [over_cons, over_nil, *]) _ (by simp [over_cons, over_nil, *]) [c] (src_new Tryd.underlying33 [c] _) (by simp only [List.length_append, List.length_cons, List.length_nil, List.length_replicate] at *; omega) ?_; intro v2 w2 ho1 hs1)))
        refine gotk HRK (N - (i + 1)) (by have := HKK.out; omega) ⟨i + 1, v2, by omega, rfl, by simp [over_cons, over_nil, *], by simp [over_cons, over_nil], by simp [over_cons, over_nil, *], by rw [HTS.out, HUP.out]; exact ho1, ?_⟩
        refine grown_trans (grown_none_trans HG.out (World.grownBy_alloc wk _ none)) hs1.1 (fun j e hj => ?_)
        have := HOWN.out.2 j e
        omega
  · have hiN' : decide (i < N) = false := by simpa using hiN
    have hall : s.take i = s := List.take_of_length_le (by rw [HN.out]; omega)
    rw [hall] at HOWN
    have hcv := str_of_own HOWN.out
    clear hall
    ((repeat (go_wp2_with fail; first | (refine cond_yes ?hc (by decide) ?_; (case hc => (simp [over_cons, over_nil, *]; done))) | (refine cond_no ?hc (by decide) ?_; (case hc => (simp [over_cons, over_nil, *]; done))))); go_wp2_with fail)
    exact ret_F _ rfl (by decide) (by simp [over_cons, over_nil, *]) ⟨rfl, HG.out⟩
end Go.Proofs.YtffooimnioigdaaDoor
