/-
  The decimal's memory, and the walks of trim and of prefixIsLessThan.
-/
import Derived.Test.YtffooimnioigdaaDoorFA
namespace Go.Proofs.YtffooimnioigdaaDoor
open Go.RowKit
set_option linter.unusedSimpArgs false
set_option linter.unusedVariables false

/-- A decimal lies in block g: 800 digits, then nd, dp, neg, trunc. -/
def Dec (w : World) (g : Nat) (bs : List UInt8) (nd dp : Int) (ng tr : Bool) : Prop :=
  bs.length = 800 ∧ Row w g (bs.map encB ++ [.int .i64 nd, .int .i64 dp, .bool ng, .bool tr])

section
variable {w : World} {g : Nat} {bs : List UInt8} {nd dp : Int} {ng tr : Bool}
theorem Dec.len (h : Dec w g bs nd dp ng tr) : bs.length = 800 := h.1
theorem Dec.lt (h : Dec w g bs nd dp ng tr) : g < w.heap.size := h.2.lt
theorem Dec.digit (h : Dec w g bs nd dp ng tr) (i : Nat) (hi : i < 800) : w.cell? ⟨g, i, none⟩ = some (.int .u8 ((bs.getD i 0).toNat : Int)) := by
  rw [h.2.cell, List.getElem?_append_left (by rw [List.length_map, h.1]; omega), List.getElem?_map, List.getD_eq_getElem?_getD, List.getElem?_eq_getElem (by rw [h.1]; omega)]
  rfl
theorem Dec.cnd (h : Dec w g bs nd dp ng tr) : w.cell? ⟨g, 800, none⟩ = some (.int .i64 nd) := by
  rw [h.2.cell, List.getElem?_append_right (by rw [List.length_map, h.1]; omega), List.length_map, h.1]; rfl
theorem Dec.cdp (h : Dec w g bs nd dp ng tr) : w.cell? ⟨g, 801, none⟩ = some (.int .i64 dp) := by
  rw [h.2.cell, List.getElem?_append_right (by rw [List.length_map, h.1]; omega), List.length_map, h.1]; rfl
theorem Dec.cng (h : Dec w g bs nd dp ng tr) : w.cell? ⟨g, 802, none⟩ = some (.bool ng) := by
  rw [h.2.cell, List.getElem?_append_right (by rw [List.length_map, h.1]; omega), List.length_map, h.1]; rfl
theorem Dec.ctr (h : Dec w g bs nd dp ng tr) : w.cell? ⟨g, 803, none⟩ = some (.bool tr) := by
  rw [h.2.cell, List.getElem?_append_right (by rw [List.length_map, h.1]; omega), List.length_map, h.1]; rfl
theorem Dec.frozen (h : Dec w g bs nd dp ng tr) (i : Nat) : w.frozen? ⟨g, i, none⟩ = false := h.2.frozen i
theorem Dec.grown {w' : World} {row : Option Nat} (h : Dec w g bs nd dp ng tr) (hg : w.grownBy w' row) (hne : some g ≠ row) : Dec w' g bs nd dp ng tr := ⟨h.1, h.2.grown hg hne⟩
theorem Dec.drewN (h : Dec w g bs nd dp ng tr) (n : Nat) : Dec (w.drewN n) g bs nd dp ng tr := ⟨h.1, h.2.drewN n⟩
theorem Dec.drew (h : Dec w g bs nd dp ng tr) : Dec w.drew g bs nd dp ng tr := ⟨h.1, h.2.drew⟩
theorem Dec.setDigit (h : Dec w g bs nd dp ng tr) (i : Nat) (hi : i < 800) (c : Int) (h1 : 0 ≤ c) (h2 : c < 256) : Dec (w.setCell ⟨g, i, none⟩ (.int .u8 c)) g (bs.set i (UInt8.ofNat c.toNat)) nd dp ng tr := by
  refine ⟨by rw [List.length_set, h.1], ?_⟩
  have := h.2.setCell i (.int .u8 c)
  rw [List.set_append_left _ _ (by rw [List.length_map, h.1]; omega), ← encB_of c h1 h2, ← List.map_set] at this
  rw [encB_of c h1 h2] at this
  exact this
theorem Dec.setNd (h : Dec w g bs nd dp ng tr) (x : Int) : Dec (w.setCell ⟨g, 800, none⟩ (.int .i64 x)) g bs x dp ng tr := by
  refine ⟨h.1, ?_⟩
  have := h.2.setCell 800 (.int .i64 x)
  rw [List.set_append_right _ _ (by rw [List.length_map, h.1]; omega), List.length_map, h.1] at this
  exact this
theorem Dec.setDp (h : Dec w g bs nd dp ng tr) (x : Int) : Dec (w.setCell ⟨g, 801, none⟩ (.int .i64 x)) g bs nd x ng tr := by
  refine ⟨h.1, ?_⟩
  have := h.2.setCell 801 (.int .i64 x)
  rw [List.set_append_right _ _ (by rw [List.length_map, h.1]; omega), List.length_map, h.1] at this
  exact this
theorem Dec.setTr (h : Dec w g bs nd dp ng tr) (x : Bool) : Dec (w.setCell ⟨g, 803, none⟩ (.bool x)) g bs nd dp ng x := by
  refine ⟨h.1, ?_⟩
  have := h.2.setCell 803 (.bool x)
  rw [List.set_append_right _ _ (by rw [List.length_map, h.1]; omega), List.length_map, h.1] at this
  exact this
end

def trimDp (t : Nat) (dp : Int) : Int := if t = 0 then 0 else dp

/-- A step of the world that turns at most block g. -/
def Gr (w w' : World) (g : Nat) : Prop := w.grownBy w' (some g)
theorem Gr.refl (w : World) (g : Nat) : Gr w w g := grown_refl w _
theorem Gr.trans {w w1 w2 : World} {g : Nat} (h : Gr w w1 g) (k : Gr w1 w2 g) : Gr w w2 g := grown_trans h k (fun _ e _ => e)
theorem Gr.drewN {w w1 : World} {g : Nat} (h : Gr w w1 g) (n : Nat) : Gr w (w1.drewN n) g := h.trans (grown_drewN _ _ _)
theorem Gr.drew {w w1 : World} {g : Nat} (h : Gr w w1 g) : Gr w w1.drew g := h.drewN 1
theorem Gr.set {w w1 : World} {g : Nat} (h : Gr w w1 g) (i : Nat) (u : Value) : Gr w (w1.setCell ⟨g, i, none⟩ u) g := h.trans (grown_setCell w1 ⟨g, i, none⟩ u)

set_option maxRecDepth 100000 in
set_option maxHeartbeats 4000000 in
theorem trim_any (g nd : Nat) (bs : List UInt8) (dp : Int) (ng tr : Bool) (w : World) (hd : Dec w g bs nd dp ng tr) (hn : nd ≤ 800) :
    Calls Tryd.prog 67 #[.pointer (some ⟨g, 0, none⟩)] w fun r w' =>
      r = .returned (.tuple #[]) ∧ Dec w' g bs (trimZ bs nd : Nat) (trimDp (trimZ bs nd) dp) ng tr ∧ Gr w w' g := by
  refine calls_F Tryd.func67 rfl (by rw [Tryd.ntmps67]; simp) ?_
  intro σ hσ
  rw [Tryd.ntmps67]
  have s0 : σ 0 = .pointer (some ⟨g, 0, none⟩) := hσ 0 (by simp)
  clear hσ
  go_wp2_with fail
  refine loop_F (fun k s' w' => ∃ n : Nat, n ≤ nd ∧ k = n ∧ trimZ bs n = trimZ bs nd ∧ s' 0 = .pointer (some ⟨g, 0, none⟩) ∧ Dec w' g bs n dp ng tr ∧ Gr w w' g) nd ⟨nd, Nat.le_refl _, rfl, rfl, by simp [over_cons, over_nil, *], hd, Gr.refl w g⟩ ?_
  clear s0 σ hd
  rintro n σ wk ⟨_, hnn, rfl, hz, s0, hd, hg⟩ RK KK HRK hKK
  have HZ := Lib.hid hz
  clear hz
  go_upto_region 0 with fail
  refine cut_F (fun s' w' => s' 19 = .bool (decide (trimZ bs n < n)) ∧ s' 0 = .pointer (some ⟨g, 0, none⟩) ∧ Dec w' g bs n dp ng tr ∧ Gr w w' g) ?_ ?_
  · intro R2 K2 HR hK2
    have hlt := hd.lt
    have c1 := hd.cnd
    have HDec := Lib.hid hd
    have HG := Lib.hid hg
    clear hd hg
    cases n with
    | zero =>
      go_quiet (fail)
      go_wp2_with fail
      exact got HR ⟨by simp [over_cons, over_nil, trimZ], by simp [over_cons, over_nil, *], HDec.out.drewN _, HG.out.drewN _⟩
    | succ j =>
      have hj8 : j < 800 := by omega
      have hji : (j : Int) < 800 := by omega
      have hwj : IntKind.i64.wrap (j : Int) = (j : Int) := by rw [IntKind.wrap_i64]; omega
      have c3 := HDec.out.digit j (by omega)
      rw [show ((j + 1 : Nat) : Int) = (j : Int) + 1 by omega] at c1
      by_cases h48 : bs.getD j 0 = 48
      · have hb1 : (((bs.getD j 0).toNat : Int) == 48) = true := by rw [h48]; decide
        have ht : decide (trimZ bs (j + 1) < j + 1) = true := by
          rw [trimZ, if_pos h48]; have := trimZ_le bs j; simp; omega
        clear h48
        generalize bs.getD j 0 = c at *
        go_quiet (fail)
        go_wp2_with fail
        exact got HR ⟨by rw [ht]; simp [over_cons, over_nil, *], by simp [over_cons, over_nil, *], HDec.out.drewN _, HG.out.drewN _⟩
      · have hb1 : (((bs.getD j 0).toNat : Int) == 48) = false := by
          rw [beq_eq_false_iff_ne]
          intro e
          apply h48
          apply UInt8.toNat_inj.1
          have : (48 : UInt8).toNat = 48 := by decide
          omega
        have ht : decide (trimZ bs (j + 1) < j + 1) = false := by
          rw [trimZ, if_neg h48]; simp
        clear h48
        generalize bs.getD j 0 = c at *
        go_quiet (fail)
        go_wp2_with fail
        exact got HR ⟨by rw [ht]; simp [over_cons, over_nil, *], by simp [over_cons, over_nil, *], HDec.out.drewN _, HG.out.drewN _⟩
  clear s0 σ hd hg
  rintro σ w1 ⟨s19, s0, hd, hg⟩
  go_wp2_with fail
  have hlt := hd.lt
  have c1 := hd.cnd
  have fz := hd.frozen
  have c2 := hd.cdp
  have HDec := Lib.hid hd
  have HG := Lib.hid hg
  clear hd hg
  refine cond_F _ (by rw [over_nil, s19]) (by decide) (fun h => ?_) (fun h => ?_)
  · have h' := of_decide_eq_true h
    clear h s19
    cases n with
    | zero => exact absurd h' (by omega)
    | succ j =>
      have hz : trimZ bs j = trimZ bs nd := by
        rw [← HZ.out, trimZ]
        split
        · rfl
        · rename_i h; rw [trimZ, if_neg h] at h'; omega
      clear h'
      rw [show ((j + 1 : Nat) : Int) = (j : Int) + 1 by omega] at c1
      go_wp2_with fail
      exact gotk HRK j (by omega) ⟨j, by omega, rfl, hz, by simp [over_cons, over_nil, *], by simpa using HDec.out.setNd _, HG.out.set _ _⟩
  · have h' := of_decide_eq_false h
    have hz : trimZ bs nd = n := by rw [← HZ.out]; have := trimZ_le bs n; omega
    have HZ2 := Lib.hid hz
    clear h s19 h' hz
    by_cases h0 : n = 0
    · subst h0
      ((repeat (go_wp2_with fail; first | (refine cond_yes ?hc (by decide) ?_; (case hc => (simp [over_cons, over_nil, *]; done))) | (refine cond_no ?hc (by decide) ?_; (case hc => (simp [over_cons, over_nil, *]; done))))); go_wp2_with fail)
      refine end_F rfl ⟨rfl, ?_, HG.out.set _ _⟩
      rw [HZ2.out, trimDp, if_pos rfl]
      exact HDec.out.setDp _
    · ((repeat (go_wp2_with fail; first | (refine cond_yes ?hc (by decide) ?_; (case hc => (simp [over_cons, over_nil, *]; done))) | (refine cond_no ?hc (by decide) ?_; (case hc => (simp [over_cons, over_nil, *]; done))))); go_wp2_with fail)
      refine end_F rfl ⟨rfl, ?_, HG.out⟩
      rw [HZ2.out, trimDp, if_neg h0]
      exact HDec.out
end Go.Proofs.YtffooimnioigdaaDoor
