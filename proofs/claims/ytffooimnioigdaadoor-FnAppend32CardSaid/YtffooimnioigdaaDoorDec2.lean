/-
  Walk: prefixIsLessThan.
-/
import Derived.Test.YtffooimnioigdaaDoorDec1
namespace Go.Proofs.YtffooimnioigdaaDoor
open Go.RowKit
set_option linter.unusedSimpArgs false
set_option linter.unusedVariables false

/-- Are the digits less than the string, read as fractions? -/
def pfxLt : List UInt8 → List UInt8 → Bool
  | _, [] => false
  | [], _ :: _ => true
  | b :: bs, s :: ss => if b = s then pfxLt bs ss else decide (b.toNat < s.toNat)

theorem pfxLt_step (bs ss : List UInt8) (i : Nat) (h1 : i < bs.length) (h2 : i < ss.length) :
    pfxLt (bs.drop i) (ss.drop i) = if bs.getD i 0 = ss.getD i 0 then pfxLt (bs.drop (i + 1)) (ss.drop (i + 1)) else decide ((bs.getD i 0).toNat < (ss.getD i 0).toNat) := by
  rw [List.drop_eq_getElem_cons h1, List.drop_eq_getElem_cons h2]
  rw [List.getD_eq_getElem?_getD, List.getD_eq_getElem?_getD, List.getElem?_eq_getElem h1, List.getElem?_eq_getElem h2]
  rfl

theorem pfxLt_short (bs ss : List UInt8) (i : Nat) (h1 : ¬ i < bs.length) (h2 : i < ss.length) : pfxLt (bs.drop i) (ss.drop i) = true := by
  rw [List.drop_eq_nil_of_le (by omega), List.drop_eq_getElem_cons h2]; rfl

theorem pfxLt_end (bs ss : List UInt8) (i : Nat) (h2 : ¬ i < ss.length) : pfxLt (bs.drop i) (ss.drop i) = false := by
  have e : ss.drop i = [] := List.drop_eq_nil_of_le (by omega)
  rw [e]
  cases bs.drop i <;> rfl

set_option maxRecDepth 100000 in
set_option maxHeartbeats 4000000 in
theorem prefix_any (g nd : Nat) (bs ss : List UInt8) (dp : Int) (ng tr : Bool) (x : Int) (w : World) (hd : Dec w g bs x dp ng tr) (hn : nd ≤ 800) (hs : ss.length ≤ 100) :
    Calls Tryd.prog 78 #[.slice (some ⟨g, 0, none⟩) nd 800, .string ⟨ss.toArray⟩] w fun r w' =>
      r = .returned (.bool (pfxLt (bs.take nd) ss)) ∧ ∃ q, w' = w.drewN q := by
  refine calls_F Tryd.func78 rfl (by rw [Tryd.ntmps78]; simp) ?_
  intro σ hσ
  rw [Tryd.ntmps78]
  have s0 : σ 0 = .slice (some ⟨g, 0, none⟩) nd 800 := hσ 0 (by simp)
  have s1 : σ 1 = .string ⟨ss.toArray⟩ := hσ 1 (by simp)
  clear hσ
  have htl : (bs.take nd).length = nd := by rw [List.length_take, hd.len]; omega
  have hsz : (⟨ss.toArray⟩ : ByteArray).size = ss.length := by simp [ByteArray.size]
  have HTL := Lib.hid htl
  have HD := Lib.hid hd
  clear htl hd
  obtain ⟨N, hN⟩ : ∃ N, ss.length = N := ⟨_, rfl⟩
  rw [hN] at hsz hs
  have HN := Lib.hid hN
  clear hN
  go_wp2_with fail
  refine loop_F (fun k s' w' => ∃ i : Nat, i ≤ N ∧ k = N - i ∧ pfxLt ((bs.take nd).drop i) (ss.drop i) = pfxLt (bs.take nd) ss ∧ s' 0 = .slice (some ⟨g, 0, none⟩) nd 800 ∧ s' 1 = .string ⟨ss.toArray⟩ ∧ s' 5 = .int .i64 (i : Int) ∧ ∃ q, w' = w.drewN q) N ⟨0, Nat.zero_le _, rfl, rfl, by simp [over_cons, over_nil, *], by simp [over_cons, over_nil, *], by simp [over_cons, over_nil, *], 0, rfl⟩ ?_
  clear s0 s1 σ
  rintro k σ wk ⟨i, hi, rfl, hp, s0, s1, s5, q, rfl⟩ RK KK HRK hKK
  have HP := Lib.hid hp
  clear hp
  by_cases hiN : i < N
  · have hiN' : (i : Int) < (N : Int) := by omega
    by_cases hin : i < nd
    · have hin' : decide (nd ≤ i) = false := by simp; omega
      have hstep := pfxLt_step (bs.take nd) ss i (by rw [HTL.out]; exact hin) (by rw [HN.out]; exact hiN)
      rw [HP.out] at hstep
      have HST := Lib.hid hstep
      have c1 := HD.out.digit i (by omega)
      have hgd : (bs.take nd).getD i 0 = bs.getD i 0 := by
        rw [List.getD_eq_getElem?_getD, List.getD_eq_getElem?_getD, List.getElem?_take, if_pos hin]
      rw [hgd] at HST
      have hidx : ∀ h : i < (⟨ss.toArray⟩ : ByteArray).size, (⟨ss.toArray⟩ : ByteArray)[i]'h = ss.getD i 0 := by
        intro h
        rw [List.getD_eq_getElem?_getD, List.getElem?_eq_getElem (by rw [HN.out]; exact hiN)]
        rfl
      clear hstep hgd
      have hci : (i : Int) < (nd : Int) := by omega
      by_cases heq : bs.getD i 0 = ss.getD i 0
      · have hst := HST.out
        rw [if_pos heq] at hst
        have HST2 := Lib.hid hst
        clear hst HST
        rw [heq] at c1
        clear heq
        generalize ss.getD i 0 = c at *
        ((repeat (go_wp2_with fail; first | (refine cond_yes ?hc (by decide) ?_; (case hc => (simp [over_cons, over_nil, *]; done))) | (refine cond_no ?hc (by decide) ?_; (case hc => (simp [over_cons, over_nil, *]; done))))); go_wp2_with fail)
        go_quiet (fail)
        ((repeat (go_wp2_with fail; first | (refine cond_yes ?hc (by decide) ?_; (case hc => (simp [over_cons, over_nil, *]; done))) | (refine cond_no ?hc (by decide) ?_; (case hc => (simp [over_cons, over_nil, *]; done))))); go_wp2_with fail)
        exact gotk HRK (N - (i + 1)) (by omega) ⟨i + 1, by omega, rfl, HST2.out.symm, by simp [over_cons, over_nil, *], by simp [over_cons, over_nil, *], by simp [over_cons, over_nil], _, rfl⟩
      · have hst := HST.out
        rw [if_neg heq] at hst
        have HST2 := Lib.hid hst
        clear hst HST
        have hne : (((bs.getD i 0).toNat : Int) != ((ss.getD i 0).toNat : Int)) = true := by
          rw [bne_iff_ne]
          intro e
          exact heq (UInt8.toNat_inj.1 (by omega))
        clear heq
        generalize ss.getD i 0 = c at *
        generalize bs.getD i 0 = d at *
        ((repeat (go_wp2_with fail; first | (refine cond_yes ?hc (by decide) ?_; (case hc => (simp [over_cons, over_nil, *]; done))) | (refine cond_no ?hc (by decide) ?_; (case hc => (simp [over_cons, over_nil, *]; done))))); go_wp2_with fail)
        go_quiet (fail)
        ((repeat (go_wp2_with fail; first | (refine cond_yes ?hc (by decide) ?_; (case hc => (simp [over_cons, over_nil, *]; done))) | (refine cond_no ?hc (by decide) ?_; (case hc => (simp [over_cons, over_nil, *]; done))))); go_wp2_with fail)
        go_quiet (fail)
        ((repeat (go_wp2_with fail; first | (refine cond_yes ?hc (by decide) ?_; (case hc => (simp [over_cons, over_nil, *]; done))) | (refine cond_no ?hc (by decide) ?_; (case hc => (simp [over_cons, over_nil, *]; done))))); go_wp2_with fail)
        refine ret_F (.bool (decide (d.toNat < c.toNat))) rfl (by decide) (by simp [over_cons, over_nil]) ⟨by rw [HST2.out], _, by rw [World.drewN_drewN, World.drewN_drewN]⟩
    · have hin' : nd ≤ i := by omega
      have hres := pfxLt_short (bs.take nd) ss i (by rw [HTL.out]; exact hin) (by rw [HN.out]; exact hiN)
      rw [HP.out] at hres
      have HRES := Lib.hid hres
      clear hres
      ((repeat (go_wp2_with fail; first | (refine cond_yes ?hc (by decide) ?_; (case hc => (simp [over_cons, over_nil, *]; done))) | (refine cond_no ?hc (by decide) ?_; (case hc => (simp [over_cons, over_nil, *]; done))))); go_wp2_with fail)
      refine ret_F (.bool true) rfl (by decide) (by simp [over_cons, over_nil, *]) ⟨by rw [HRES.out], q, rfl⟩
  · have hiN' : decide (i < N) = false := by simpa using hiN
    have hres := pfxLt_end (bs.take nd) ss i (by rw [HN.out]; exact hiN)
    rw [HP.out] at hres
    have HRES := Lib.hid hres
    clear hres
    ((repeat (go_wp2_with fail; first | (refine cond_yes ?hc (by decide) ?_; (case hc => (simp [over_cons, over_nil, *]; done))) | (refine cond_no ?hc (by decide) ?_; (case hc => (simp [over_cons, over_nil, *]; done))))); go_wp2_with fail)
    refine ret_F (.bool false) rfl (by decide) (by simp [over_cons, over_nil, *]) ⟨by rw [HRES.out], q, rfl⟩
end Go.Proofs.YtffooimnioigdaaDoor
