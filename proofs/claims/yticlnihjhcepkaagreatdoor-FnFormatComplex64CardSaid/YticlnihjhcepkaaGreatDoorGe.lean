/-
  Lemmas and walks of functions, several texts in one.
-/
import Derived.Test.YticlnihjhcepkaaGreatDoorGd
import Derived.Deep.CutBlock
import Derived.StillTailTactics
/-
  The decimal's memory, and the walks of trim and of prefixIsLessThan.
-/
namespace Go.Proofs.YticlnihjhcepkaaGreatDoor
open Go.RowKit
set_option linter.unusedSimpArgs false
set_option linter.unusedVariables false

/-- A decimal lies in block g: 800 digits, then nd, dp, neg, trunc. -/
def Dec (w : World) (g : Nat) (bs : List UInt8) (nd dp : Int) (ng tr : Bool) : Prop :=
  bs.length = 800 ∧ Row w g (bs.map encB ++ [.int .i64 nd, .int .i64 dp, .bool ng, .bool tr])

section
variable {w : World} {g : Nat} {bs : List UInt8} {nd dp : Int} {ng tr : Bool}
theorem Dec.len (h : Dec w g bs nd dp ng tr) : bs.length = 800 := h.1
theorem Dec.lt (h : Dec w g bs nd dp ng tr) : g < w.heap.size := h.2.lt
theorem Dec.digit (h : Dec w g bs nd dp ng tr) (i : Nat) (hi : i < 800) : w.cell? ⟨g, i, none⟩ = some (.int .u8 ((bs.getD i 0).toNat : Int)) := by
  rw [h.2.cell, List.getElem?_append_left (by rw [List.length_map, h.1]; omega), List.getElem?_map, List.getD_eq_getElem?_getD, List.getElem?_eq_getElem (by rw [h.1]; omega)]
  rfl
theorem Dec.cnd (h : Dec w g bs nd dp ng tr) : w.cell? ⟨g, 800, none⟩ = some (.int .i64 nd) := by
  rw [h.2.cell, List.getElem?_append_right (by rw [List.length_map, h.1]; omega), List.length_map, h.1]; rfl
theorem Dec.cdp (h : Dec w g bs nd dp ng tr) : w.cell? ⟨g, 801, none⟩ = some (.int .i64 dp) := by
  rw [h.2.cell, List.getElem?_append_right (by rw [List.length_map, h.1]; omega), List.length_map, h.1]; rfl
theorem Dec.cng (h : Dec w g bs nd dp ng tr) : w.cell? ⟨g, 802, none⟩ = some (.bool ng) := by
  rw [h.2.cell, List.getElem?_append_right (by rw [List.length_map, h.1]; omega), List.length_map, h.1]; rfl
theorem Dec.ctr (h : Dec w g bs nd dp ng tr) : w.cell? ⟨g, 803, none⟩ = some (.bool tr) := by
  rw [h.2.cell, List.getElem?_append_right (by rw [List.length_map, h.1]; omega), List.length_map, h.1]; rfl
theorem Dec.frozen (h : Dec w g bs nd dp ng tr) (i : Nat) : w.frozen? ⟨g, i, none⟩ = false := h.2.frozen i
theorem Dec.grown {w' : World} {row : Option Nat} (h : Dec w g bs nd dp ng tr) (hg : w.grownBy w' row) (hne : some g ≠ row) : Dec w' g bs nd dp ng tr := ⟨h.1, h.2.grown hg hne⟩
theorem Dec.drewN (h : Dec w g bs nd dp ng tr) (n : Nat) : Dec (w.drewN n) g bs nd dp ng tr := ⟨h.1, h.2.drewN n⟩
theorem Dec.drew (h : Dec w g bs nd dp ng tr) : Dec w.drew g bs nd dp ng tr := ⟨h.1, h.2.drew⟩
theorem Dec.setDigit (h : Dec w g bs nd dp ng tr) (i : Nat) (hi : i < 800) (c : Int) (h1 : 0 ≤ c) (h2 : c < 256) : Dec (w.setCell ⟨g, i, none⟩ (.int .u8 c)) g (bs.set i (UInt8.ofNat c.toNat)) nd dp ng tr := by
  refine ⟨by rw [List.length_set, h.1], ?_⟩
  have := h.2.setCell i (.int .u8 c)
  rw [List.set_append_left _ _ (by rw [List.length_map, h.1]; omega), ← encB_of c h1 h2, ← List.map_set] at this
  rw [encB_of c h1 h2] at this
  exact this
theorem Dec.setNd (h : Dec w g bs nd dp ng tr) (x : Int) : Dec (w.setCell ⟨g, 800, none⟩ (.int .i64 x)) g bs x dp ng tr := by
  refine ⟨h.1, ?_⟩
  have := h.2.setCell 800 (.int .i64 x)
  rw [List.set_append_right _ _ (by rw [List.length_map, h.1]; omega), List.length_map, h.1] at this
  exact this
theorem Dec.setDp (h : Dec w g bs nd dp ng tr) (x : Int) : Dec (w.setCell ⟨g, 801, none⟩ (.int .i64 x)) g bs nd x ng tr := by
  refine ⟨h.1, ?_⟩
  have := h.2.setCell 801 (.int .i64 x)
  rw [List.set_append_right _ _ (by rw [List.length_map, h.1]; omega), List.length_map, h.1] at this
  exact this
theorem Dec.setTr (h : Dec w g bs nd dp ng tr) (x : Bool) : Dec (w.setCell ⟨g, 803, none⟩ (.bool x)) g bs nd dp ng x := by
  refine ⟨h.1, ?_⟩
  have := h.2.setCell 803 (.bool x)
  rw [List.set_append_right _ _ (by rw [List.length_map, h.1]; omega), List.length_map, h.1] at this
  exact this
end

def trimDp (t : Nat) (dp : Int) : Int := if t = 0 then 0 else dp

/-- A step of the world that turns at most block g. -/
def Gr (w w' : World) (g : Nat) : Prop := w.grownBy w' (some g)
theorem Gr.refl (w : World) (g : Nat) : Gr w w g := grown_refl w _
theorem Gr.trans {w w1 w2 : World} {g : Nat} (h : Gr w w1 g) (k : Gr w1 w2 g) : Gr w w2 g := grown_trans h k (fun _ e _ => e)
theorem Gr.drewN {w w1 : World} {g : Nat} (h : Gr w w1 g) (n : Nat) : Gr w (w1.drewN n) g := h.trans (grown_drewN _ _ _)
theorem Gr.drew {w w1 : World} {g : Nat} (h : Gr w w1 g) : Gr w w1.drew g := h.drewN 1
theorem Gr.set {w w1 : World} {g : Nat} (h : Gr w w1 g) (i : Nat) (u : Value) : Gr w (w1.setCell ⟨g, i, none⟩ u) g := h.trans (grown_setCell w1 ⟨g, i, none⟩ u)

set_option maxRecDepth 100000 in
set_option maxHeartbeats 4000000 in
theorem trim_any (g nd : Nat) (bs : List UInt8) (dp : Int) (ng tr : Bool) (w : World) (hd : Dec w g bs nd dp ng tr) (hn : nd ≤ 800) :
    Calls Tryz.prog 167 #[.pointer (some ⟨g, 0, none⟩)] w fun r w' =>
      r = .returned (.tuple #[]) ∧ Dec w' g bs (trimZ bs nd : Nat) (trimDp (trimZ bs nd) dp) ng tr ∧ Gr w w' g := by
  refine calls_F Tryz.func167 rfl (by rw [Tryz.ntmps167]; simp) ?_
  intro σ hσ
  rw [Tryz.ntmps167]
  have s0 : σ 0 = .pointer (some ⟨g, 0, none⟩) := hσ 0 (by simp)
  clear hσ
  go_wp2_with fail
  refine loop_F (fun k s' w' => ∃ n : Nat, n ≤ nd ∧ k = n ∧ trimZ bs n = trimZ bs nd ∧ s' 0 = .pointer (some ⟨g, 0, none⟩) ∧ Dec w' g bs n dp ng tr ∧ Gr w w' g) nd ⟨nd, Nat.le_refl _, rfl, rfl, by simp [ov, *], hd, Gr.refl w g⟩ ?_
  clear s0 σ hd
  rintro n σ wk ⟨_, hnn, rfl, hz, s0, hd, hg⟩ RK KK HRK hKK
  have HZ := Lib.hid hz
  clear hz
  go_upto_region 0 with fail
  refine cut_F (fun s' w' => s' 19 = .bool (decide (trimZ bs n < n)) ∧ s' 0 = .pointer (some ⟨g, 0, none⟩) ∧ Dec w' g bs n dp ng tr ∧ Gr w w' g) ?_ ?_
  · intro R2 K2 HR hK2
    have hlt := hd.lt
    have c1 := hd.cnd
    have HDec := Lib.hid hd
    have HG := Lib.hid hg
    clear hd hg
    cases n with
    | zero =>
      go_quiet (fail)
      go_wp2_with fail
      exact got HR ⟨by simp [over_cons, over_nil, trimZ], by simp [ov, *], HDec.out.drewN _, HG.out.drewN _⟩
    | succ j =>
      have hj8 : j < 800 := by omega
      have hji : (j : Int) < 800 := by omega
      have hwj : IntKind.i64.wrap (j : Int) = (j : Int) := by rw [IntKind.wrap_i64]; omega
      have c3 := HDec.out.digit j (by omega)
      rw [show ((j + 1 : Nat) : Int) = (j : Int) + 1 by omega] at c1
      by_cases h48 : bs.getD j 0 = 48
      · have hb1 : (((bs.getD j 0).toNat : Int) == 48) = true := by rw [h48]; decide
        have ht : decide (trimZ bs (j + 1) < j + 1) = true := by
          rw [trimZ, if_pos h48]; have := trimZ_le bs j; simp; omega
        clear h48
        generalize bs.getD j 0 = c at *
        go_quiet (fail)
        go_wp2_with fail
        exact got HR ⟨by rw [ht]; simp [ov, *], by simp [ov, *], HDec.out.drewN _, HG.out.drewN _⟩
      · have hb1 : (((bs.getD j 0).toNat : Int) == 48) = false := by
          rw [beq_eq_false_iff_ne]
          intro e
          apply h48
          apply UInt8.toNat_inj.1
          have : (48 : UInt8).toNat = 48 := by decide
          omega
        have ht : decide (trimZ bs (j + 1) < j + 1) = false := by
          rw [trimZ, if_neg h48]; simp
        clear h48
        generalize bs.getD j 0 = c at *
        go_quiet (fail)
        go_wp2_with fail
        exact got HR ⟨by rw [ht]; simp [ov, *], by simp [ov, *], HDec.out.drewN _, HG.out.drewN _⟩
  clear s0 σ hd hg
  rintro σ w1 ⟨s19, s0, hd, hg⟩
  go_wp2_with fail
  have hlt := hd.lt
  have c1 := hd.cnd
  have fz := hd.frozen
  have c2 := hd.cdp
  have HDec := Lib.hid hd
  have HG := Lib.hid hg
  clear hd hg
  refine cond_F _ (by rw [over_nil, s19]) (by decide) (fun h => ?_) (fun h => ?_)
  · have h' := of_decide_eq_true h
    clear h s19
    cases n with
    | zero => exact absurd h' (by omega)
    | succ j =>
      have hz : trimZ bs j = trimZ bs nd := by
        rw [← HZ.out, trimZ]
        split
        · rfl
        · rename_i h; rw [trimZ, if_neg h] at h'; omega
      clear h'
      rw [show ((j + 1 : Nat) : Int) = (j : Int) + 1 by omega] at c1
      go_wp2_with fail
      exact gotk HRK j (by omega) ⟨j, by omega, rfl, hz, by simp [ov, *], by simpa using HDec.out.setNd _, HG.out.set _ _⟩
  · have h' := of_decide_eq_false h
    have hz : trimZ bs nd = n := by rw [← HZ.out]; have := trimZ_le bs n; omega
    have HZ2 := Lib.hid hz
    clear h s19 h' hz
    by_cases h0 : n = 0
    · subst h0
      ((repeat (go_wp2_with fail; first | (refine cdY ?_ ?_; focus (simp [ov, *]; done)) | (refine cdN ?_ ?_; focus (simp [ov, *]; done)))); go_wp2_with fail)
      refine end_F rfl ⟨rfl, ?_, HG.out.set _ _⟩
      rw [HZ2.out, trimDp, if_pos rfl]
      exact HDec.out.setDp _
    · ((repeat (go_wp2_with fail; first | (refine cdY ?_ ?_; focus (simp [ov, *]; done)) | (refine cdN ?_ ?_; focus (simp [ov, *]; done)))); go_wp2_with fail)
      refine end_F rfl ⟨rfl, ?_, HG.out⟩
      rw [HZ2.out, trimDp, if_neg h0]
      exact HDec.out
end Go.Proofs.YticlnihjhcepkaaGreatDoor

/-
  Walk: prefixIsLessThan.
-/
namespace Go.Proofs.YticlnihjhcepkaaGreatDoor
open Go.RowKit
set_option linter.unusedSimpArgs false
set_option linter.unusedVariables false

/-- Are the digits less than the string, read as fractions? -/
def pfxLt : List UInt8 → List UInt8 → Bool
  | _, [] => false
  | [], _ :: _ => true
  | b :: bs, s :: ss => if b = s then pfxLt bs ss else decide (b.toNat < s.toNat)

theorem pfxLt_step (bs ss : List UInt8) (i : Nat) (h1 : i < bs.length) (h2 : i < ss.length) :
    pfxLt (bs.drop i) (ss.drop i) = if bs.getD i 0 = ss.getD i 0 then pfxLt (bs.drop (i + 1)) (ss.drop (i + 1)) else decide ((bs.getD i 0).toNat < (ss.getD i 0).toNat) := by
  rw [List.drop_eq_getElem_cons h1, List.drop_eq_getElem_cons h2]
  rw [List.getD_eq_getElem?_getD, List.getD_eq_getElem?_getD, List.getElem?_eq_getElem h1, List.getElem?_eq_getElem h2]
  rfl

theorem pfxLt_short (bs ss : List UInt8) (i : Nat) (h1 : ¬ i < bs.length) (h2 : i < ss.length) : pfxLt (bs.drop i) (ss.drop i) = true := by
  rw [List.drop_eq_nil_of_le (by omega), List.drop_eq_getElem_cons h2]; rfl

theorem pfxLt_end (bs ss : List UInt8) (i : Nat) (h2 : ¬ i < ss.length) : pfxLt (bs.drop i) (ss.drop i) = false := by
  have e : ss.drop i = [] := List.drop_eq_nil_of_le (by omega)
  rw [e]
  cases bs.drop i <;> rfl

set_option maxRecDepth 100000 in
set_option maxHeartbeats 4000000 in
theorem prefix_any (g nd : Nat) (bs ss : List UInt8) (dp : Int) (ng tr : Bool) (x : Int) (w : World) (hd : Dec w g bs x dp ng tr) (hn : nd ≤ 800) (hs : ss.length ≤ 100) :
    Calls Tryz.prog 177 #[.slice (some ⟨g, 0, none⟩) nd 800, .string ⟨ss.toArray⟩] w fun r w' =>
      r = .returned (.bool (pfxLt (bs.take nd) ss)) ∧ ∃ q, w' = w.drewN q := by
  refine calls_F Tryz.func177 rfl (by rw [Tryz.ntmps177]; simp) ?_
  intro σ hσ
  rw [Tryz.ntmps177]
  have s0 : σ 0 = .slice (some ⟨g, 0, none⟩) nd 800 := hσ 0 (by simp)
  have s1 : σ 1 = .string ⟨ss.toArray⟩ := hσ 1 (by simp)
  clear hσ
  have htl : (bs.take nd).length = nd := by rw [List.length_take, hd.len]; omega
  have hsz : (⟨ss.toArray⟩ : ByteArray).size = ss.length := by simp [ByteArray.size]
  have HTL := Lib.hid htl
  have HD := Lib.hid hd
  clear htl hd
  obtain ⟨N, hN⟩ : ∃ N, ss.length = N := ⟨_, rfl⟩
  rw [hN] at hsz hs
  have HN := Lib.hid hN
  clear hN
  go_wp2_with fail
  refine loop_F (fun k s' w' => ∃ i : Nat, i ≤ N ∧ k = N - i ∧ pfxLt ((bs.take nd).drop i) (ss.drop i) = pfxLt (bs.take nd) ss ∧ s' 0 = .slice (some ⟨g, 0, none⟩) nd 800 ∧ s' 1 = .string ⟨ss.toArray⟩ ∧ s' 5 = .int .i64 (i : Int) ∧ ∃ q, w' = w.drewN q) N ⟨0, Nat.zero_le _, rfl, rfl, by simp [ov, *], by simp [ov, *], by simp [ov, *], 0, rfl⟩ ?_
  clear s0 s1 σ
  rintro k σ wk ⟨i, hi, rfl, hp, s0, s1, s5, q, rfl⟩ RK KK HRK hKK
  have HP := Lib.hid hp
  clear hp
  by_cases hiN : i < N
  · have hiN' : (i : Int) < (N : Int) := by omega
    by_cases hin : i < nd
    · have hin' : decide (nd ≤ i) = false := by simp; omega
      have hstep := pfxLt_step (bs.take nd) ss i (by rw [HTL.out]; exact hin) (by rw [HN.out]; exact hiN)
      rw [HP.out] at hstep
      have HST := Lib.hid hstep
      have c1 := HD.out.digit i (by omega)
      have hgd : (bs.take nd).getD i 0 = bs.getD i 0 := by
        rw [List.getD_eq_getElem?_getD, List.getD_eq_getElem?_getD, List.getElem?_take, if_pos hin]
      rw [hgd] at HST
      have hidx : ∀ h : i < (⟨ss.toArray⟩ : ByteArray).size, (⟨ss.toArray⟩ : ByteArray)[i]'h = ss.getD i 0 := by
        intro h
        rw [List.getD_eq_getElem?_getD, List.getElem?_eq_getElem (by rw [HN.out]; exact hiN)]
        rfl
      clear hstep hgd
      have hci : (i : Int) < (nd : Int) := by omega
      by_cases heq : bs.getD i 0 = ss.getD i 0
      · have hst := HST.out
        rw [if_pos heq] at hst
        have HST2 := Lib.hid hst
        clear hst HST
        rw [heq] at c1
        clear heq
        generalize ss.getD i 0 = c at *
        ((repeat (go_wp2_with fail; first | (refine cdY ?_ ?_; focus (simp [ov, *]; done)) | (refine cdN ?_ ?_; focus (simp [ov, *]; done)))); go_wp2_with fail)
        go_quiet (fail)
        ((repeat (go_wp2_with fail; first | (refine cdY ?_ ?_; focus (simp [ov, *]; done)) | (refine cdN ?_ ?_; focus (simp [ov, *]; done)))); go_wp2_with fail)
        exact gotk HRK (N - (i + 1)) (by omega) ⟨i + 1, by omega, rfl, HST2.out.symm, by simp [ov, *], by simp [ov, *], by simp [over_cons, over_nil], _, rfl⟩
      · have hst := HST.out
        rw [if_neg heq] at hst
        have HST2 := Lib.hid hst
        clear hst HST
        have hne : (((bs.getD i 0).toNat : Int) != ((ss.getD i 0).toNat : Int)) = true := by
          rw [bne_iff_ne]
          intro e
          exact heq (UInt8.toNat_inj.1 (by omega))
        clear heq
        generalize ss.getD i 0 = c at *
        generalize bs.getD i 0 = d at *
        ((repeat (go_wp2_with fail; first | (refine cdY ?_ ?_; focus (simp [ov, *]; done)) | (refine cdN ?_ ?_; focus (simp [ov, *]; done)))); go_wp2_with fail)
        go_quiet (fail)
        ((repeat (go_wp2_with fail; first | (refine cdY ?_ ?_; focus (simp [ov, *]; done)) | (refine cdN ?_ ?_; focus (simp [ov, *]; done)))); go_wp2_with fail)
        go_quiet (fail)
        ((repeat (go_wp2_with fail; first | (refine cdY ?_ ?_; focus (simp [ov, *]; done)) | (refine cdN ?_ ?_; focus (simp [ov, *]; done)))); go_wp2_with fail)
        refine ret_F (.bool (decide (d.toNat < c.toNat))) rfl (by decide) (by simp [over_cons, over_nil]) ⟨by rw [HST2.out], _, by rw [World.drewN_drewN, World.drewN_drewN]⟩
    · have hin' : nd ≤ i := by omega
      have hres := pfxLt_short (bs.take nd) ss i (by rw [HTL.out]; exact hin) (by rw [HN.out]; exact hiN)
      rw [HP.out] at hres
      have HRES := Lib.hid hres
      clear hres
      ((repeat (go_wp2_with fail; first | (refine cdY ?_ ?_; focus (simp [ov, *]; done)) | (refine cdN ?_ ?_; focus (simp [ov, *]; done)))); go_wp2_with fail)
      refine ret_F (.bool true) rfl (by decide) (by simp [ov, *]) ⟨by rw [HRES.out], q, rfl⟩
  · have hiN' : decide (i < N) = false := by simpa using hiN
    have hres := pfxLt_end (bs.take nd) ss i (by rw [HN.out]; exact hiN)
    rw [HP.out] at hres
    have HRES := Lib.hid hres
    clear hres
    ((repeat (go_wp2_with fail; first | (refine cdY ?_ ?_; focus (simp [ov, *]; done)) | (refine cdN ?_ ?_; focus (simp [ov, *]; done)))); go_wp2_with fail)
    refine ret_F (.bool false) rfl (by decide) (by simp [ov, *]) ⟨by rw [HRES.out], q, rfl⟩
end Go.Proofs.YticlnihjhcepkaaGreatDoor

/-
  Plain: digits of numbers; the cheat sheet of the left shift.
-/
namespace Go.Proofs.YticlnihjhcepkaaGreatDoor
open Go.RowKit
set_option linter.unusedSimpArgs false
set_option linter.unusedVariables false

theorem nDig_zero : nDig 0 = 0 := rfl
theorem nDig_of {d : Nat} (h : d ≠ 0) : nDig d = Lib.nDigits d := by unfold nDig; rw [if_neg h]
theorem nDig_pos {d : Nat} (h : d ≠ 0) : 1 ≤ nDig d := by rw [nDig_of h]; exact Lib.nDigits_pos d
theorem nDig_unique (k d : Nat) (h1 : 10 ^ k ≤ d) (h2 : d < 10 ^ (k + 1)) : nDig d = k + 1 := by
  have : 0 < 10 ^ k := Nat.pow_pos (by omega)
  rw [nDig_of (by omega)]; exact Lib.nDigits_unique k d h1 h2
theorem nDigits_low (d : Nat) (h : d ≠ 0) : 10 ^ (Lib.nDigits d - 1) ≤ d := by
  induction d using Nat.strongRecOn with
  | _ d ih =>
    by_cases h10 : d < 10
    · rw [Lib.nDigits_small h10]; simp; omega
    · have h1 := ih (d / 10) (by omega) (by omega)
      have h2 := Lib.nDigits_pos (d / 10)
      rw [Lib.nDigits_big h10, Nat.add_sub_cancel, show Lib.nDigits (d / 10) = (Lib.nDigits (d / 10) - 1) + 1 by omega, Nat.pow_succ]
      omega
theorem nDig_low {d : Nat} (h : d ≠ 0) : 10 ^ (nDig d - 1) ≤ d := by
  rw [nDig_of h]; exact nDigits_low d h
theorem nDig_mul10 {d : Nat} (h : d ≠ 0) : nDig (d * 10) = nDig d + 1 := by
  rw [nDig_of h, nDig_of (by omega), Lib.nDigits_big (by omega), Nat.mul_div_cancel _ (by omega)]

theorem dg_mul10_zero (d : Nat) : Lib.dg (d * 10) 0 = 48 := by
  unfold Lib.dg; rw [Nat.pow_zero, Nat.div_one, Nat.mul_mod_left]; rfl
theorem dg_mul10_succ (d j : Nat) : Lib.dg (d * 10) (j + 1) = Lib.dg d j := by
  rw [Lib.dg_succ, Nat.mul_div_cancel _ (by omega)]

theorem digs_succ (d n : Nat) : digs d (n + 1) = digs (d / 10) n ++ [Lib.dg d 0] := by
  unfold digs
  rw [List.range_succ, List.map_append, List.map_cons, List.map_nil]
  congr 1
  · apply List.map_congr_left
    intro t ht
    rw [List.mem_range] at ht
    rw [show n + 1 - 1 - t = (n - 1 - t) + 1 by omega, Lib.dg_succ]
  · rw [show n + 1 - 1 - n = 0 by omega]

/-- The value of a list of digits. -/
def dval : List UInt8 → Nat
  | [] => 0
  | c :: l => (c.toNat - 48) * 10 ^ l.length + dval l

def isDig (c : UInt8) : Prop := 48 ≤ c.toNat ∧ c.toNat ≤ 57

theorem dval_append (l : List UInt8) (c : UInt8) : dval (l ++ [c]) = dval l * 10 + (c.toNat - 48) := by
  induction l with
  | nil => simp [dval]
  | cons a l ih =>
    rw [List.cons_append, dval, ih, dval, List.length_append, List.length_cons, List.length_nil, Nat.pow_succ]
    rw [Nat.add_mul]
    simp only [Nat.mul_assoc, Nat.add_assoc]

theorem dval_lt (l : List UInt8) (h : ∀ c ∈ l, isDig c) : dval l < 10 ^ l.length := by
  induction l with
  | nil => simp [dval]
  | cons a l ih =>
    have h1 := ih fun c hc => h c (List.mem_cons_of_mem _ hc)
    have h2 : a.toNat - 48 ≤ 9 := by have := (h a (List.mem_cons_self)).2; omega
    rw [dval, List.length_cons, Nat.pow_succ]
    have : (a.toNat - 48) * 10 ^ l.length ≤ 9 * 10 ^ l.length := Nat.mul_le_mul_right _ h2
    omega

theorem dg_toNat (d j : Nat) : (Lib.dg d j).toNat = 48 + d / 10 ^ j % 10 := by
  unfold Lib.dg
  have : d / 10 ^ j % 10 < 10 := Nat.mod_lt _ (by omega)
  rw [UInt8.toNat_ofNat']
  omega

theorem isDig_dg (d j : Nat) : isDig (Lib.dg d j) := by
  have : d / 10 ^ j % 10 < 10 := Nat.mod_lt _ (by omega)
  unfold isDig; rw [dg_toNat]; omega

theorem isDig_digs (d n : Nat) : ∀ c ∈ digs d n, isDig c := by
  intro c hc
  unfold digs at hc
  rw [List.mem_map] at hc
  obtain ⟨t, _, rfl⟩ := hc
  exact isDig_dg _ _

theorem dval_digs (n d : Nat) : dval (digs d n) = d % 10 ^ n := by
  induction n generalizing d with
  | zero => simp [digs, dval, Nat.mod_one]
  | succ n ih =>
    rw [digs_succ, dval_append, ih, dg_toNat, Nat.pow_zero, Nat.div_one]
    rw [Nat.pow_succ, Nat.mul_comm (10 ^ n) 10, Nat.mod_mul]
    omega

theorem dval_pos (s : List UInt8) (hs : ∀ c ∈ s, isDig c) (h0 : s ≠ []) (hl : s.getLast? ≠ some 48) : 0 < dval s := by
  induction s with
  | nil => exact absurd rfl h0
  | cons x ss ih =>
    by_cases hss : ss = []
    · subst hss
      have h1 := (hs x (List.mem_cons_self)).1
      have h2 : x.toNat ≠ 48 := by
        intro e
        apply hl
        rw [List.getLast?_singleton]
        congr 1
        exact UInt8.toNat_inj.1 e
      simp [dval]; omega
    · have h1 := ih (fun c hc => hs c (List.mem_cons_of_mem _ hc)) hss (by
        rw [List.getLast?_cons] at hl
        cases h : ss.getLast? with
        | none => simp
        | some c => rw [h] at hl; simpa using hl)
      rw [dval]; omega

theorem pfxLt_val (s b : List UInt8) (hs : ∀ c ∈ s, isDig c) (hb : ∀ c ∈ b, isDig c) (hl : s = [] ∨ s.getLast? ≠ some 48) :
    pfxLt b s = true ↔ dval b * 10 ^ s.length < dval s * 10 ^ b.length := by
  induction s generalizing b with
  | nil => cases b <;> simp [pfxLt, dval]
  | cons x ss ih =>
    have hl' : (x :: ss).getLast? ≠ some 48 := by
      rcases hl with h | h
      · cases h
      · exact h
    have hss : ∀ c ∈ ss, isDig c := fun c hc => hs c (List.mem_cons_of_mem _ hc)
    have hx := hs x (List.mem_cons_self)
    cases b with
    | nil =>
      have := dval_pos (x :: ss) hs (by simp) hl'
      simp [pfxLt, dval] at this ⊢
      exact this
    | cons d bs =>
      have hbs : ∀ c ∈ bs, isDig c := fun c hc => hb c (List.mem_cons_of_mem _ hc)
      have hd := hb d (List.mem_cons_self)
      have hlss : ss = [] ∨ ss.getLast? ≠ some 48 := by
        by_cases h : ss = []
        · exact Or.inl h
        · refine Or.inr ?_
          rw [List.getLast?_cons] at hl'
          cases h2 : ss.getLast? with
          | none => simp
          | some c => rw [h2] at hl'; simpa using hl'
      have v1 := dval_lt ss hss
      have v2 := dval_lt bs hbs
      have ih' := ih bs hss hbs hlss
      clear ih hs hb hl hl' hlss
      unfold isDig at hx hd
      rw [pfxLt]
      simp only [dval, List.length_cons]
      generalize dval ss = S at *
      generalize dval bs = B at *
      have p1 : 0 < 10 ^ ss.length := Nat.pow_pos (by omega)
      have p2 : 0 < 10 ^ bs.length := Nat.pow_pos (by omega)
      generalize ss.length = c at *
      generalize bs.length = n at *
      rw [Nat.pow_succ, Nat.pow_succ]
      obtain ⟨D, hD⟩ : ∃ D, d.toNat - 48 = D := ⟨_, rfl⟩
      obtain ⟨X, hX⟩ : ∃ X, x.toNat - 48 = X := ⟨_, rfl⟩
      rw [hD, hX]
      generalize 10 ^ c = C at *
      generalize 10 ^ n = N at *
      -- (D N + B) (C 10) < (X C + S) (N 10)
      have e1 : (D * N + B) * (C * 10) = 10 * (D * (N * C)) + 10 * (B * C) := by
        rw [Nat.add_mul, ← Nat.mul_assoc, ← Nat.mul_assoc, Nat.mul_assoc D N C]; omega
      have e2 : (X * C + S) * (N * 10) = 10 * (X * (N * C)) + 10 * (S * N) := by
        rw [Nat.add_mul, ← Nat.mul_assoc, ← Nat.mul_assoc, Nat.mul_assoc X C N, Nat.mul_comm C N]; omega
      rw [e1, e2]
      have b1 : B * C < N * C := Nat.mul_lt_mul_of_pos_right v2 p1
      have b2 : S * N < N * C := by rw [Nat.mul_comm N C]; exact Nat.mul_lt_mul_of_pos_right v1 p2
      split
      · rename_i h
        rw [ih']
        have : D = X := by rw [← hD, ← hX, h]
        subst this
        omega
      · rename_i h
        have hne : D ≠ X := by
          intro e
          apply h
          apply UInt8.toNat_inj.1
          omega
        rw [decide_eq_true_iff]
        have hq : d.toNat < x.toNat ↔ D < X := by omega
        rw [hq]
        constructor
        · intro hlt
          have : (D + 1) * (N * C) ≤ X * (N * C) := Nat.mul_le_mul_right _ hlt
          rw [Nat.add_mul, Nat.one_mul] at this
          omega
        · intro hlt
          by_cases h : D < X
          · exact h
          · have : (X + 1) * (N * C) ≤ D * (N * C) := Nat.mul_le_mul_right _ (by omega)
            rw [Nat.add_mul, Nat.one_mul] at this
            omega

/-- The rows of the cheat sheet, looked at one by one. -/
def cheatOk (k : Nat) : Bool :=
  chS k == digs (5 ^ k) (k + 1 - chN k) && decide (5 ^ k < 10 ^ (k + 1 - chN k)) && decide (10 ^ (k - chN k) ≤ 5 ^ k) && decide (1 ≤ chN k) && decide (chN k ≤ k) && decide (chN k ≤ 19) && decide (5 ^ k % 10 = 5)

theorem cheat_all : ∀ k, 1 ≤ k → k ≤ 60 → cheatOk k = true := by
  have h : (List.range 61).all (fun k => k == 0 || cheatOk k) = true := by decide +kernel
  intro k h1 h2
  rw [List.all_eq_true] at h
  have := h k (List.mem_range.2 (by omega))
  simp at this
  rcases this with h | h
  · omega
  · exact h
structure Cheat (k : Nat) : Prop where
  str : chS k = digs (5 ^ k) (k + 1 - chN k)
  lt : 5 ^ k < 10 ^ (k + 1 - chN k)
  le : 10 ^ (k - chN k) ≤ 5 ^ k
  pos : 1 ≤ chN k
  le_k : chN k ≤ k
  le19 : chN k ≤ 19
  last : 5 ^ k % 10 = 5

theorem cheat_row (k : Nat) (h1 : 1 ≤ k) (h2 : k ≤ 60) : Cheat k := by
  have h := cheat_all k h1 h2
  unfold cheatOk at h
  simp only [Bool.and_eq_true, decide_eq_true_eq, beq_iff_eq] at h
  obtain ⟨⟨⟨⟨⟨⟨a, b⟩, c⟩, d⟩, e⟩, f⟩, g⟩ := h
  exact ⟨a, b, c, d, e, f, g⟩

theorem cheat_digits (N k : Nat) (hN : N ≠ 0) (h1 : 1 ≤ k) (h2 : k ≤ 60) :
    nDig (N * 2 ^ k) + (if pfxLt (digs N (nDig N)) (chS k) = true then 1 else 0) = nDig N + chN k := by
  obtain ⟨hs, hlt, hle, hp, hk, h19, hlast⟩ := cheat_row k h1 h2
  obtain ⟨c, hc⟩ : ∃ c, k - chN k = c := ⟨_, rfl⟩
  have hc1 : k + 1 - chN k = c + 1 := by omega
  rw [hc1] at hs hlt
  rw [hc] at hle
  have hL := nDig_pos hN
  have hlow := nDig_low hN
  have hup := lt_pow_nDig N
  have key : pfxLt (digs N (nDig N)) (chS k) = true ↔ N * 10 ^ (c + 1) < 5 ^ k * 10 ^ nDig N := by
    rw [hs, pfxLt_val _ _ (isDig_digs _ _) (isDig_digs _ _) (Or.inr ?_), dval_digs, dval_digs, digs_length, digs_length, Nat.mod_eq_of_lt hup, Nat.mod_eq_of_lt hlt]
    rw [digs_succ, List.getLast?_concat]
    intro e
    have e2 : Lib.dg (5 ^ k) 0 = 48 := by simpa using e
    have := dg_toNat (5 ^ k) 0
    rw [e2, Nat.pow_zero, Nat.div_one, hlast] at this
    exact absurd this (by decide)
  generalize nDig N = L at *
  have h10 : 2 ^ k * 5 ^ k = 10 ^ k := by rw [← Nat.mul_pow]
  have p2 : 0 < 2 ^ k := Nat.pow_pos (by omega)
  have hk2 : k = c + chN k := by omega
  have pc : 0 < 10 ^ c := Nat.pow_pos (by omega)
  have pc1 : 0 < 10 ^ (c + 1) := Nat.pow_pos (by omega)
  -- 10^(delta-1) < 2^k, 2^k <= 10^delta
  have hA : 10 ^ (chN k - 1) < 2 ^ k := by
    refine Nat.lt_of_mul_lt_mul_right (a := 10 ^ (c + 1)) ?_
    rw [← Nat.pow_add, show chN k - 1 + (c + 1) = k by omega, ← h10]
    exact Nat.mul_lt_mul_of_pos_left hlt p2
  have hB : 2 ^ k ≤ 10 ^ chN k := by
    refine Nat.le_of_mul_le_mul_right ?_ pc
    rw [← Nat.pow_add, show chN k + c = k by omega, ← h10]
    exact Nat.mul_le_mul_left _ hle
  have hUp : N * 2 ^ k < 10 ^ (L + chN k) := by
    rw [Nat.pow_add]
    exact Nat.lt_of_lt_of_le (Nat.mul_lt_mul_of_pos_right hup p2) (Nat.mul_le_mul_left _ hB)
  have hLow : 10 ^ (L + chN k - 2) ≤ N * 2 ^ k := by
    rw [show L + chN k - 2 = (L - 1) + (chN k - 1) by omega, Nat.pow_add]
    exact Nat.mul_le_mul hlow (Nat.le_of_lt hA)
  have hmid : N * 10 ^ (c + 1) < 5 ^ k * 10 ^ L ↔ N * 2 ^ k < 10 ^ (L + chN k - 1) := by
    have e1 : N * 10 ^ (c + 1) * 2 ^ k = N * 2 ^ k * 10 ^ (c + 1) := Nat.mul_right_comm _ _ _
    have e2 : 5 ^ k * 10 ^ L * 2 ^ k = 10 ^ (L + chN k - 1) * 10 ^ (c + 1) := by
      rw [Nat.mul_right_comm, Nat.mul_comm (5 ^ k), h10, ← Nat.pow_add, ← Nat.pow_add]
      congr 1; omega
    rw [← Nat.mul_lt_mul_right p2, e1, e2, Nat.mul_lt_mul_right pc1]
  rw [hmid] at key
  by_cases h : pfxLt (digs N L) (chS k) = true
  · rw [if_pos h]
    have hm := key.1 h
    have hh := nDig_unique (L + chN k - 2) (N * 2 ^ k) hLow (by rw [show L + chN k - 2 + 1 = L + chN k - 1 by omega]; exact hm)
    omega
  · rw [if_neg h]
    have hm : 10 ^ (L + chN k - 1) ≤ N * 2 ^ k := by
      have := mt key.2 h
      omega
    have hh := nDig_unique (L + chN k - 1) (N * 2 ^ k) hm (by rw [show L + chN k - 1 + 1 = L + chN k by omega]; exact hUp)
    omega
end Go.Proofs.YticlnihjhcepkaaGreatDoor

/-
  Walk: leftShift.
-/
namespace Go.Proofs.YticlnihjhcepkaaGreatDoor
open Go.RowKit
set_option linter.unusedSimpArgs false
set_option linter.unusedVariables false

/-- The carry of the left shift behind q digits. -/
def lCar (N k q : Nat) : Nat := N % 10 ^ q * 2 ^ k / 10 ^ q

theorem lCar_zero (N k : Nat) : lCar N k 0 = 0 := by unfold lCar; simp [Nat.mod_one]
theorem lCar_lt (N k q : Nat) : lCar N k q < 2 ^ k := by
  unfold lCar
  have p : 0 < 10 ^ q := Nat.pow_pos (by omega)
  have p2 : 0 < 2 ^ k := Nat.pow_pos (by omega)
  rw [Nat.div_lt_iff_lt_mul p, Nat.mul_comm (2 ^ k)]
  exact Nat.mul_lt_mul_of_pos_right (Nat.mod_lt _ p) p2
theorem lCar_add (N k q : Nat) : lCar N k q + N / 10 ^ q % 10 * 2 ^ k = N % 10 ^ (q + 1) * 2 ^ k / 10 ^ q := by
  have p : 0 < 10 ^ q := Nat.pow_pos (by omega)
  unfold lCar
  rw [Nat.pow_succ, Nat.mod_mul, Nat.add_mul, Nat.mul_assoc, Nat.add_mul_div_left _ _ p]
theorem lCar_succ (N k q : Nat) : lCar N k (q + 1) = (lCar N k q + N / 10 ^ q % 10 * 2 ^ k) / 10 := by
  rw [lCar_add, Nat.div_div_eq_div_mul, ← Nat.pow_succ]; rfl
theorem lCar_digit (N k q : Nat) : N * 2 ^ k / 10 ^ q % 10 = (lCar N k q + N / 10 ^ q % 10 * 2 ^ k) % 10 := by
  have p : 0 < 10 ^ q := Nat.pow_pos (by omega)
  rw [lCar_add]
  have e : N * 2 ^ k = N % 10 ^ (q + 1) * 2 ^ k + 10 ^ q * (10 * (N / 10 ^ (q + 1) * 2 ^ k)) := by
    conv => lhs; rw [← Nat.mod_add_div N (10 ^ (q + 1)), Nat.add_mul]
    congr 1
    rw [Nat.pow_succ]
    simp only [Nat.mul_assoc]
  rw [e, Nat.add_mul_div_left _ _ p]
  omega
theorem lCar_full (N k L : Nat) (h : N < 10 ^ L) : lCar N k L = N * 2 ^ k / 10 ^ L := by
  unfold lCar; rw [Nat.mod_eq_of_lt h]

theorem dg_of (M j x : Nat) (h : M / 10 ^ j % 10 = x) : UInt8.ofNat (48 + x) = Lib.dg M j := by unfold Lib.dg; rw [h]

theorem getD_set (l : List UInt8) (i j : Nat) (c : UInt8) (hi : i < l.length) : (l.set i c).getD j 0 = if i = j then c else l.getD j 0 := by
  rw [List.getD_eq_getElem?_getD, List.getElem?_set, List.getD_eq_getElem?_getD]
  by_cases h : i = j
  · subst h; simp [hi]
  · simp [h]

theorem take_digs (l : List UInt8) (M n : Nat) (hn : n ≤ l.length) (h : ∀ j, j < n → l.getD (n - 1 - j) 0 = Lib.dg M j) : l.take n = digs M n := by
  apply List.ext_getElem
  · rw [List.length_take, digs_length]; omega
  · intro i h1 h2
    rw [digs_length] at h2
    have := h (n - 1 - i) (by omega)
    rw [show n - 1 - (n - 1 - i) = i by omega, List.getD_eq_getElem?_getD, List.getElem?_eq_getElem (by omega)] at this
    rw [List.getElem_take]
    simpa [digs] using this

theorem digs_get (l : List UInt8) (N n : Nat) (h : l.take n = digs N n) (i : Nat) (hi : i < n) : l.getD i 0 = Lib.dg N (n - 1 - i) := by
  have h1 : (l.take n).getD i 0 = (digs N n).getD i 0 := by rw [h]
  have h2 : (digs N n).getD i 0 = Lib.dg N (n - 1 - i) := by
    rw [List.getD_eq_getElem?_getD, List.getElem?_eq_getElem (by rw [digs_length]; exact hi)]
    simp [digs]
  rw [← h2, ← h1, List.getD_eq_getElem?_getD, List.getD_eq_getElem?_getD, List.getElem?_take, if_pos hi]

theorem arrLen800 : Tryz.prog.arrayLen 167 = 800 := by simp [Program.arrayLen, Program.elem, Tryz.underlying167]
theorem slice800 (g n : Nat) (W : World) (hn : n ≤ 800) : (Instr.sliceAt 167 (.pointer (some ⟨g, 0, none⟩)) (some (.int .i64 0)) (some (.int .i64 (n : Int))) none).run Tryz.prog W = .ok (.slice (some ⟨g, 0, none⟩) n 800) W := by
  rw [run_sliceAt_array_lh W 167 ⟨g, 0, none⟩ (by simp [Program.arrayLen, Program.elem, Tryz.underlying167]) .i64 .i64 0 (n : Int) (by omega) (by omega) (by rw [arrLen800]; omega)]
  go_simp

set_option maxRecDepth 100000 in
set_option maxHeartbeats 4000000 in
theorem leftShift_any (T g N k : Nat) (bs : List UInt8) (dp : Int) (ng tr : Bool) (w : World) (he : Env T w) (hgT : T ≤ g) (hd : Dec w g bs (nDig N : Nat) dp ng tr) (hbs : bs.take (nDig N) = digs N (nDig N))
    (hN : N ≠ 0) (hk1 : 1 ≤ k) (hk2 : k ≤ 60) (hM : nDig N + chN k ≤ 800) (hp1 : -2000 ≤ dp) (hp2 : dp ≤ 2000) :
    Calls Tryz.prog 168 #[.pointer (some ⟨g, 0, none⟩), .int .u64 (k : Int)] w fun r w' =>
      r = .returned (.tuple #[]) ∧ ∃ bs', bs'.take (nDig (N * 2 ^ k)) = digs (N * 2 ^ k) (nDig (N * 2 ^ k)) ∧
        Dec w' g bs' (trimZ bs' (nDig (N * 2 ^ k)) : Nat) (trimDp (trimZ bs' (nDig (N * 2 ^ k))) (dp + nDig (N * 2 ^ k) - nDig N)) ng tr ∧ Gr w w' g := by
  have hch := cheat_digits N k hN hk1 hk2
  have hrow := cheat_row k hk1 hk2
  have hpos := hrow.pos
  have h19 := hrow.le19
  obtain ⟨cb, co, cc, hcbT, hcc, c0, hcells⟩ := he.cheats
  have c1 := (hcells k (by omega)).1
  have c2 := (hcells k (by omega)).2
  have hsl : (chS k).length ≤ 100 := by rw [hrow.str, digs_length]; omega
  have hlt := hd.lt
  have d1 := hd.cnd
  have hTs := he.size
  have hg8 := he.glob
  have hpre := fun n : Nat => prefix_any g (nDig N) bs (chS k) dp ng tr (nDig N : Nat) (w.drewN n) (hd.drewN n) (by omega) hsl
  rw [hbs] at hpre
  have HPRE := Lib.hid hpre
  obtain ⟨L, hL⟩ : ∃ L, nDig N = L := ⟨_, rfl⟩
  obtain ⟨pb, hpb⟩ : ∃ pb, pfxLt (digs N L) (chS k) = pb := ⟨_, rfl⟩
  rw [hL] at hM d1 hd HPRE hch hbs
  rw [hpb] at hch
  have hLp : 1 ≤ L := by rw [← hL]; exact nDig_pos hN
  have HD := Lib.hid hd
  have HBS := Lib.hid hbs
  have HCH := Lib.hid hch
  have HPB := Lib.hid hpb
  have HL := Lib.hid hL
  have hci : (k : Int) < 61 := by omega
  clear hpre hcells hrow hd hbs hch hpb hL he
  refine calls_F Tryz.func168 rfl (by rw [Tryz.ntmps168]; simp) ?_
  intro σ hσ
  rw [Tryz.ntmps168]
  have s0 : σ 0 = .pointer (some ⟨g, 0, none⟩) := hσ 0 (by simp)
  have s1 : σ 1 = .int .u64 (k : Int) := hσ 1 (by simp)
  clear hσ
  have hslice := fun W => slice800 g L W (by omega)
  have hLi : (L : Int) ≤ 800 := by omega
  go_wp2_with fail
  go_quiet ((go_at_call 177; exact Calls.quiet_of (HPRE.out _)))
  go_wp2_with fail
  obtain ⟨D, hD⟩ : ∃ D : Nat, (if pb = true then chN k - 1 else chN k) = D := ⟨_, rfl⟩
  have hnM : nDig (N * 2 ^ k) = L + D := by have := HCH.out; rw [← hD]; split at this <;> simp_all <;> omega
  have hDb : D ≤ chN k := by rw [← hD]; split <;> omega
  have HNM := Lib.hid hnM
  have HDD := Lib.hid hD
  clear hnM hD
  refine cut_F (fun s' w' => s' 4 = .int .i64 (D : Int) ∧ s' 0 = .pointer (some ⟨g, 0, none⟩) ∧ s' 1 = .int .u64 (k : Int) ∧ Dec w' g bs L dp ng tr ∧ Gr w w' g) ?_ ?_
  · intro R2 K2 HR hK2
    refine cond_F pb (by simp [over_cons, over_nil, HPB.out]) (by decide) (fun h => ?_) (fun h => ?_)
    · have hDi : ((chN k : Nat) : Int) - 1 = (D : Int) := by have := HDD.out; rw [if_pos h] at this; omega
      go_wp2_with fail
      exact got HR ⟨by simp [ov, *], by simp [ov, *], by simp [ov, *], HD.out.drewN _, (Gr.refl w g).drewN _⟩
    · have hDi : (chN k : Int) = (D : Int) := by have := HDD.out; rw [h] at this; simp at this; omega
      go_wp2_with fail
      exact got HR ⟨by simp [ov, *], by simp [ov, *], by simp [ov, *], HD.out.drewN _, (Gr.refl w g).drewN _⟩
  clear s0 s1 σ HD hslice c0 c1 c2 d1 hlt hTs
  rintro σ w1 ⟨s4, s0, s1, hd, hg⟩
  have hlt := hd.lt
  have d1 := hd.cnd
  have HD := Lib.hid hd
  have HG := Lib.hid hg
  clear hd hg
  go_wp2_with fail
  refine loop_F (fun kk s' w' => ∃ (r c : Nat) (bs' : List UInt8), r ≤ L ∧ kk = r ∧ c = lCar N k (L - r) ∧ s' 5 = .int .i64 ((r : Int) - 1) ∧ s' 6 = .int .i64 ((r : Int) + D) ∧ s' 7 = .int .u64 (c : Int) ∧ s' 4 = .int .i64 (D : Int) ∧ s' 0 = .pointer (some ⟨g, 0, none⟩) ∧ s' 1 = .int .u64 (k : Int) ∧ Dec w' g bs' L dp ng tr ∧ Gr w w' g ∧ (∀ i, i < r → bs'.getD i 0 = Lib.dg N (L - 1 - i)) ∧ (∀ j, j < L - r → bs'.getD (L + D - 1 - j) 0 = Lib.dg (N * 2 ^ k) j)) L
    ⟨L, 0, bs, Nat.le_refl _, rfl, by rw [Nat.sub_self, lCar_zero], by simp [ov, *], by simp [ov, *], by simp [ov, *], by simp [ov, *], by simp [ov, *], by simp [ov, *], HD.out, HG.out, fun i hi => digs_get bs N L HBS.out i hi, fun j hj => absurd hj (by omega)⟩ ?_
  clear s0 s1 s4 σ HD HG hlt d1
  rintro r σ wk ⟨_, c, bs', hr, rfl, hc, s5, s6, s7, s4, s0, s1, hd, hg, hun, hwr⟩ RK KK HRK hKK
  have HC := Lib.hid hc
  have HUN := Lib.hid hun
  have HWR := Lib.hid hwr
  have HD := Lib.hid hd
  have HG := Lib.hid hg
  have hlt := hd.lt
  have fz := hd.frozen
  have hcb : c < 2 ^ k := by rw [hc]; exact lCar_lt _ _ _
  have hk60 : 2 ^ k ≤ 2 ^ 60 := Nat.pow_le_pow_right (by omega) hk2
  clear hc hun hwr hd hg
  cases r with
  | zero =>
    rw [show ((0 : Nat) : Int) - 1 = -1 by omega] at s5
    rw [show ((0 : Nat) : Int) + (D : Int) = (D : Int) by omega] at s6
    have hfull := lCar_full N k L (by have := lt_pow_nDig N; rw [HL.out] at this; exact this)
    have hc0 : c = N * 2 ^ k / 10 ^ L := by rw [← hfull]; exact HC.out
    obtain ⟨M, hMd⟩ : ∃ M, N * 2 ^ k = M := ⟨_, rfl⟩
    have hMlt : M < 10 ^ (L + D) := by have := lt_pow_nDig (N * 2 ^ k); rw [HNM.out, hMd] at this; exact this
    rw [hMd] at hc0
    have HMD := Lib.hid hMd
    have HC0 := Lib.hid hc0
    have HML := Lib.hid hMlt
    have hwr : ∀ j, j < L → bs'.getD (L + D - 1 - j) 0 = Lib.dg M j := by rw [← hMd]; exact HWR.out
    have HWR2 := Lib.hid hwr
    clear hfull hc0 hMd hMlt hwr HC HWR HUN
    ((repeat (go_wp2_with fail; first | (refine cdY ?_ ?_; focus (simp [ov, *]; done)) | (refine cdN ?_ ?_; focus (simp [ov, *]; done)))); go_wp2_with fail)
    refine loop_F (fun kk s' w' => ∃ (t c : Nat) (bs' : List UInt8), t ≤ D ∧ kk = c ∧ c = M / 10 ^ (L + t) ∧ c < 2 ^ 60 ∧ s' 6 = .int .i64 ((D : Int) - t) ∧ s' 7 = .int .u64 (c : Int) ∧ s' 4 = .int .i64 (D : Int) ∧ s' 0 = .pointer (some ⟨g, 0, none⟩) ∧ Dec w' g bs' L dp ng tr ∧ Gr w w' g ∧ (∀ j, j < L + t → bs'.getD (L + D - 1 - j) 0 = Lib.dg M j)) c
      ⟨0, c, bs', Nat.zero_le _, rfl, HC0.out, by omega, by simp [ov, *], by simp [ov, *], by simp [ov, *], by simp [ov, *], HD.out, HG.out, HWR2.out⟩ ?_
    clear s0 s1 s4 s5 s6 s7 σ HD HG HWR2 HC0 hlt fz hcb
    rintro c' σ wl ⟨t, _, bs2, ht, rfl, hc, hcb, s6, s7, s4, s0, hd, hg, hwr⟩ RL KL HRL hKL
    have HC := Lib.hid hc
    have HWR := Lib.hid hwr
    have HD := Lib.hid hd
    have HG := Lib.hid hg
    have hlt := hd.lt
    have fz := hd.frozen
    clear hc hwr hd hg
    by_cases hz : c' = 0
    · have htD : t = D := by
        have h1 : M < 10 ^ (L + t) := by
          have := HC.out
          rw [hz] at this
          have p : 0 < 10 ^ (L + t) := Nat.pow_pos (by omega)
          rcases Nat.lt_or_ge M (10 ^ (L + t)) with h | h
          · exact h
          · have := Nat.div_pos h p; omega
        have hM0 : M ≠ 0 := by
          rw [← HMD.out]
          exact Nat.mul_ne_zero hN (Nat.ne_of_gt (Nat.pow_pos (by omega)))
        have h2 := nDig_low hM0
        rw [← HMD.out, HNM.out, HMD.out] at h2
        have h3 : 10 ^ (L + D - 1) < 10 ^ (L + t) := Nat.lt_of_le_of_lt h2 h1
        have h4 := (Nat.pow_lt_pow_iff_right (by omega : 1 < 10)).1 h3
        omega
      subst hz
      have htk : bs2.take (L + D) = digs M (L + D) := take_digs bs2 M (L + D) (by rw [HD.out.len]; omega) (fun j hj => HWR.out j (by omega))
      have HTK := Lib.hid htk
      have d1 := HD.out.cnd
      have d2 := HD.out.cdp
      have htrim := fun (n : Nat) (W : World) (dp' : Int) (hdd : Dec W g bs2 n dp' ng tr) (hn : n ≤ 800) => trim_any g n bs2 dp' ng tr W hdd hn
      have HTR := Lib.hid htrim
      clear htk htrim HC
      go_wp2_with fail
      refine cond_no (by simp [ov, *]) (by decide) ?_
      go_wp2_with fail
      have hd2 : Dec (wl.setCell ⟨g, 800, none⟩ (.int .i64 ((L : Int) + D))) g bs2 ((L + D : Nat) : Int) dp ng tr := by
        have := HD.out.setNd ((L : Int) + D)
        rw [show ((L + D : Nat) : Int) = (L : Int) + D by omega]
        exact this
      have hg2 := HG.out.set 800 (.int .i64 ((L : Int) + D))
      have HD2 := Lib.hid hd2
      have HG2 := Lib.hid hg2
      generalize wl.setCell ⟨g, 800, none⟩ (.int .i64 ((L : Int) + D)) = w5 at *
      have hlt5 := hd2.lt
      have fz5 := hd2.frozen
      have e1 := hd2.cnd
      clear hd2 hg2 HD HG hlt fz d1 d2
      refine cut_F (fun s' w' => s' 0 = .pointer (some ⟨g, 0, none⟩) ∧ s' 4 = .int .i64 (D : Int) ∧ Dec w' g bs2 ((L + D : Nat) : Int) dp ng tr ∧ Gr w w' g) ?_ ?_
      · intro R2 K2 HR hK2
        by_cases h8 : L + D = 800
        · have h8i : (800 : Int) ≤ (L : Int) + D := by omega
          refine cond_yes (by simp [ov, *]) (by decide) ?_
          go_wp2_with fail
          refine got HR ⟨by simp [ov, *], by simp [ov, *], ?_, HG2.out.set _ _⟩
          have := HD2.out.setNd 800
          rw [show ((L + D : Nat) : Int) = 800 by omega]
          exact this
        · have h8i : decide ((800 : Int) ≤ (L : Int) + D) = false := by simp; omega
          refine cond_no (by simp [ov, *]) (by decide) ?_
          go_wp2_with fail
          exact got HR ⟨by simp [ov, *], by simp [ov, *], HD2.out, HG2.out⟩
      clear s0 s4 s6 s7 σ HD2 HG2 hlt5 fz5 e1
      rintro σ w6 ⟨s0, s4, hd, hg⟩
      have hlt := hd.lt
      have fz := hd.frozen
      have d2 := hd.cdp
      have hd3 := fun x => hd.setDp x
      have HD3 := Lib.hid hd3
      have HG3 := Lib.hid hg
      clear hd hg hd3
      go_wp2_with fail
      refine (HTR.out (L + D) _ _ (HD3.out _) (by omega)).mono ?_
      rintro e w7 ⟨rfl, hd7, hg7⟩
      go_wp2_with fail
      refine end_F rfl ⟨rfl, bs2, ?_, ?_, ?_⟩
      · rw [HMD.out, ← HMD.out, HNM.out, HMD.out]; exact HTK.out
      · rw [HNM.out, HL.out]
        rw [show dp + ((L + D : Nat) : Int) - (L : Int) = dp + (D : Int) by omega]
        exact hd7
      · exact (HG3.out.set _ _).trans hg7
    · have htD : t < D := by
        have hc := HC.out
        have h1 : 10 ^ (L + t) ≤ M := by
          rcases Nat.lt_or_ge M (10 ^ (L + t)) with h | h
          · rw [Nat.div_eq_of_lt h] at hc; omega
          · exact h
        have h3 : 10 ^ (L + t) < 10 ^ (L + D) := Nat.lt_of_le_of_lt h1 HML.out
        have h4 := (Nat.pow_lt_pow_iff_right (by omega : 1 < 10)).1 h3
        omega
      obtain ⟨W, hW⟩ : ∃ W, D - t - 1 = W := ⟨_, rfl⟩
      have hWb : W < 800 := by omega
      have hWi : (W : Int) < 800 := by omega
      rw [show (D : Int) - (t : Int) = (W : Int) + 1 by omega] at s6
      have hdW : ∃ v, wl.cell? ⟨g, W, none⟩ = some v := ⟨_, HD.out.digit W hWb⟩
      obtain ⟨vW, hvW⟩ := hdW
      have hzi : 0 < c' := by omega
      have hnn : IntKind.u64.wrap (c' : Int) = (c' : Int) := by rw [IntKind.wrap_u64]; omega
      have HW := Lib.hid hW
      clear hW
      ((repeat (go_wp2_with fail; first | (refine cdY ?_ ?_; focus (simp [ov, *]; done)) | (refine cdN ?_ ?_; focus (simp [ov, *]; done)))); go_wp2_with fail)
      have hlen : bs2.length = 800 := HD.out.len
      have hc := HC.out
      refine gotk HRL (c' / 10) (by omega) ⟨t + 1, c' / 10, bs2.set W (UInt8.ofNat ((c' : Int) - 10 * ((c' : Int) / 10) + 48).toNat), by omega, rfl, ?_, by omega, ?_, by simp [over_cons, over_nil], by simp [ov, *], by simp [ov, *], HD.out.setDigit W hWb _ (by omega) (by omega), HG.out.set _ _, ?_⟩
      · rw [hc, Nat.div_div_eq_div_mul, ← Nat.pow_succ]; rfl
      · have : (D : Int) - ((t + 1 : Nat) : Int) = (W : Int) := by have := HW.out; omega
        rw [this]; simp [over_cons, over_nil]
      · intro j hj
        rw [getD_set _ _ _ _ (by omega)]
        by_cases hjq : j = L + t
        · rw [hjq, if_pos (by have := HW.out; omega), show ((c' : Int) - 10 * ((c' : Int) / 10) + 48).toNat = 48 + c' % 10 by omega]
          exact dg_of _ _ _ (by rw [← hc])
        · rw [if_neg (by have := HW.out; omega)]
          exact HWR.out j (by omega)
  | succ r =>
    obtain ⟨q, hq⟩ : ∃ q, L - (r + 1) = q := ⟨_, rfl⟩
    obtain ⟨x, hx⟩ : ∃ x, N / 10 ^ q % 10 = x := ⟨_, rfl⟩
    have hx9 : x ≤ 9 := by rw [← hx]; have : N / 10 ^ q % 10 < 10 := Nat.mod_lt _ (by omega); omega
    have d1 := HD.out.digit r (by omega)
    rw [HUN.out r (by omega), show L - 1 - r = q by omega, dg_toNat, hx, show ((48 + x : Nat) : Int) = 48 + (x : Int) by omega] at d1
    obtain ⟨y, hy⟩ : ∃ y, x * 2 ^ k = y := ⟨_, rfl⟩
    have hyb : y ≤ 9 * 2 ^ 60 := by rw [← hy]; exact Nat.mul_le_mul hx9 hk60
    have hyi : IntKind.u64.wrap ((x : Int) * 2 ^ k) = (y : Int) := by
      have : (x : Int) * 2 ^ k = (y : Int) := by rw [← hy]; simp
      rw [this, IntKind.wrap_u64]; omega
    obtain ⟨n, hn⟩ : ∃ n, c + y = n := ⟨_, rfl⟩
    have hnb : n < 18446744073709551616 := by omega
    have hni : (c : Int) + (y : Int) = (n : Int) := by omega
    obtain ⟨W, hW⟩ : ∃ W, r + D = W := ⟨_, rfl⟩
    have hWb : W < 800 := by omega
    have hWi : (W : Int) < 800 := by omega
    rw [show ((r + 1 : Nat) : Int) - 1 = (r : Int) by omega] at s5
    rw [show ((r + 1 : Nat) : Int) + (D : Int) = (W : Int) + 1 by omega] at s6
    have hri : (r : Int) < 800 := by omega
    have HX := Lib.hid hx
    have HY := Lib.hid hy
    have HQ := Lib.hid hq
    have HN := Lib.hid hn
    have HW := Lib.hid hW
    clear hx hy hq hn hW
    have hdW : ∃ v, wk.cell? ⟨g, W, none⟩ = some v := ⟨_, HD.out.digit W hWb⟩
    obtain ⟨vW, hvW⟩ := hdW
    have h48 : (48 : Int) + (x : Int) - 48 = (x : Int) := by omega
    have hnn : IntKind.u64.wrap (n : Int) = (n : Int) := by rw [IntKind.wrap_u64]; omega
    ((repeat (go_wp2_with fail; first | (refine cdY ?_ ?_; focus (simp [ov, *]; done)) | (refine cdN ?_ ?_; focus (simp [ov, *]; done)))); go_wp2_with fail)
    have hcq : c = lCar N k q := by have := HC.out; rw [HQ.out] at this; exact this
    have hnq : lCar N k q + N / 10 ^ q % 10 * 2 ^ k = n := by rw [HX.out, HY.out, ← hcq, HN.out]
    have hLr : L - r = q + 1 := by have := HQ.out; omega
    have hWq : L + D - 1 - q = W := by have := HQ.out; have := HW.out; omega
    have hlen : bs'.length = 800 := HD.out.len
    refine gotk HRK r (by omega) ⟨r, n / 10, bs'.set W (UInt8.ofNat ((n : Int) - 10 * ((n : Int) / 10) + 48).toNat), by omega, rfl, ?_, by simp [ov, *], ?_, by simp [over_cons, over_nil], by simp [ov, *], by simp [ov, *], by simp [ov, *], HD.out.setDigit W hWb _ (by omega) (by omega), HG.out.set _ _, ?_, ?_⟩
    · rw [hLr, lCar_succ, hnq]
    · have : (r : Int) + (D : Int) = (W : Int) := by have := HW.out; omega
      rw [this]; simp [over_cons, over_nil]
    · intro i hi
      rw [getD_set _ _ _ _ (by omega), if_neg (by have := HW.out; omega)]
      exact HUN.out i (by omega)
    · intro j hj
      rw [hLr] at hj
      rw [getD_set _ _ _ _ (by omega)]
      by_cases hjq : j = q
      · rw [hjq, if_pos hWq.symm, show ((n : Int) - 10 * ((n : Int) / 10) + 48).toNat = 48 + n % 10 by omega]
        exact dg_of _ _ _ (by rw [lCar_digit, hnq])
      · rw [if_neg (by have := HQ.out; have := HW.out; omega)]
        exact HWR.out j (by rw [HQ.out]; omega)
end Go.Proofs.YticlnihjhcepkaaGreatDoor

/-
  Plain: a number without the zeros at its end; what trim leaves of digits.
-/
namespace Go.Proofs.YticlnihjhcepkaaGreatDoor
open Go.RowKit
set_option linter.unusedSimpArgs false
set_option linter.unusedVariables false

/-- The number of zeros at the end. -/
def tz (M : Nat) : Nat := if M % 10 = 0 ∧ M ≠ 0 then tz (M / 10) + 1 else 0
termination_by M
decreasing_by omega

/-- The number without the zeros at its end. -/
def core (M : Nat) : Nat := M / 10 ^ tz M

theorem tz_yes {M : Nat} (h : M % 10 = 0) (h0 : M ≠ 0) : tz M = tz (M / 10) + 1 := by rw [tz, if_pos ⟨h, h0⟩]
theorem tz_no {M : Nat} (h : M % 10 ≠ 0) : tz M = 0 := by rw [tz, if_neg (fun e => h e.1)]
theorem core_yes {M : Nat} (h : M % 10 = 0) (h0 : M ≠ 0) : core M = core (M / 10) := by
  unfold core; rw [tz_yes h h0, Nat.pow_succ, Nat.mul_comm, Nat.div_div_eq_div_mul]
theorem core_no {M : Nat} (h : M % 10 ≠ 0) : core M = M := by unfold core; rw [tz_no h]; simp

theorem core_spec (M : Nat) (h0 : M ≠ 0) : core M * 10 ^ tz M = M ∧ core M % 10 ≠ 0 := by
  induction M using Nat.strongRecOn with
  | _ M ih =>
    by_cases h : M % 10 = 0
    · have h1 := ih (M / 10) (by omega) (by omega)
      rw [core_yes h h0, tz_yes h h0, Nat.pow_succ, ← Nat.mul_assoc, h1.1]
      exact ⟨by omega, h1.2⟩
    · rw [core_no h, tz_no h]; simp; omega

theorem core_ne (M : Nat) (h0 : M ≠ 0) : core M ≠ 0 := by
  have := (core_spec M h0).2; intro e; rw [e] at this; simp at this

theorem core_unique {A B a b : Nat} (h : A * 10 ^ a = B * 10 ^ b) (hA : A % 10 ≠ 0) (hB : B % 10 ≠ 0) : A = B ∧ a = b := by
  induction a generalizing b with
  | zero =>
    cases b with
    | zero => simp at h; exact ⟨h, rfl⟩
    | succ b => rw [Nat.pow_zero, Nat.mul_one, Nat.pow_succ, ← Nat.mul_assoc] at h; omega
  | succ a ih =>
    cases b with
    | zero => rw [Nat.pow_zero, Nat.mul_one, Nat.pow_succ, ← Nat.mul_assoc] at h; omega
    | succ b =>
      rw [Nat.pow_succ, Nat.pow_succ, ← Nat.mul_assoc, ← Nat.mul_assoc] at h
      have := ih (Nat.eq_of_mul_eq_mul_right (by omega) h)
      exact ⟨this.1, by rw [this.2]⟩

theorem core_of {A a M : Nat} (h : A * 10 ^ a = M) (hA : A % 10 ≠ 0) : core M = A ∧ tz M = a := by
  have h0 : M ≠ 0 := by
    rw [← h]
    exact Nat.mul_ne_zero (by intro e; rw [e] at hA; simp at hA) (Nat.ne_of_gt (Nat.pow_pos (by omega)))
  have := core_spec M h0
  exact core_unique (this.1.trans h.symm) this.2 hA

theorem nDig_core (M : Nat) (h0 : M ≠ 0) : nDig (core M) + tz M = nDig M := by
  induction M using Nat.strongRecOn with
  | _ M ih =>
    by_cases h : M % 10 = 0
    · have h1 := ih (M / 10) (by omega) (by omega)
      have h2 := nDig_mul10 (d := M / 10) (by omega)
      rw [show M / 10 * 10 = M by omega] at h2
      rw [core_yes h h0, tz_yes h h0]; omega
    · rw [core_no h, tz_no h, Nat.add_zero]

theorem dg_zero_iff (M : Nat) : Lib.dg M 0 = 48 ↔ M % 10 = 0 := by
  have := dg_toNat M 0
  rw [Nat.pow_zero, Nat.div_one] at this
  constructor
  · intro e; rw [e] at this; have h : (48 : UInt8).toNat = 48 := by decide
    omega
  · intro e; apply UInt8.toNat_inj.1; rw [this, e]; rfl

theorem take_of_succ (l : List UInt8) (M n : Nat) (h : l.take (n + 1) = digs M (n + 1)) : l.take n = digs (M / 10) n ∧ l.getD n 0 = Lib.dg M 0 := by
  constructor
  · have h1 : (l.take (n + 1)).take n = (digs M (n + 1)).take n := by rw [h]
    rw [List.take_take, Nat.min_eq_left (by omega), digs_succ, List.take_append_of_le_length (by rw [digs_length]; omega), List.take_of_length_le (l := digs (M / 10) n) (by rw [digs_length]; omega)] at h1
    exact h1
  · have := digs_get l M (n + 1) h n (by omega)
    rw [this]; congr 1; omega

/-- What trim leaves. -/
theorem trimZ_core (bs : List UInt8) (M : Nat) (h0 : M ≠ 0) (h : bs.take (nDig M) = digs M (nDig M)) :
    trimZ bs (nDig M) = nDig (core M) ∧ bs.take (nDig (core M)) = digs (core M) (nDig (core M)) := by
  induction M using Nat.strongRecOn with
  | _ M ih =>
    obtain ⟨n, hn⟩ : ∃ n, nDig M = n + 1 := ⟨nDig M - 1, by have := nDig_pos h0; omega⟩
    by_cases hz : M % 10 = 0
    · have h2 := nDig_mul10 (d := M / 10) (by omega)
      rw [show M / 10 * 10 = M by omega, hn] at h2
      have h3 : nDig (M / 10) = n := by omega
      rw [hn] at h
      have h4 := take_of_succ bs M n h
      have h1 := ih (M / 10) (by omega) (by omega) (by rw [h3]; exact h4.1)
      rw [core_yes hz h0, hn, trimZ, if_pos (by rw [h4.2, dg_zero_iff]; exact hz), ← h3]
      exact h1
    · rw [core_no hz]
      refine ⟨?_, h⟩
      rw [hn] at h ⊢
      have h4 := take_of_succ bs M n h
      rw [trimZ, if_neg (by rw [h4.2, dg_zero_iff]; exact hz)]

theorem nDig_mono (a b : Nat) (h : a ≤ b) : nDig a ≤ nDig b := by
  by_cases h0 : a = 0
  · subst h0; rw [nDig_zero]; exact Nat.zero_le _
  · have h1 := nDig_low h0
    have h2 := lt_pow_nDig b
    have h3 := (Nat.pow_lt_pow_iff_right (by omega : 1 < 10)).1 (Nat.lt_of_le_of_lt h1 (Nat.lt_of_le_of_lt h h2))
    have := nDig_pos h0
    omega

/-- A decimal that holds N * 10^p, N without zeros at the end. -/
structure DecN (w : World) (g N : Nat) (p : Int) (ng : Bool) : Prop where
  ne : N % 10 ≠ 0
  dec : ∃ bs, bs.take (nDig N) = digs N (nDig N) ∧ Dec w g bs (nDig N : Nat) (p + nDig N) ng false

theorem DecN.grown {w w' : World} {row : Option Nat} {g N : Nat} {p : Int} {ng : Bool} (h : DecN w g N p ng) (hg : w.grownBy w' row) (hne : some g ≠ row) : DecN w' g N p ng := by
  obtain ⟨h1, bs, h2, h3⟩ := h
  exact ⟨h1, bs, h2, h3.grown hg hne⟩

/-- What trim leaves of a decimal. -/
theorem DecN.of_trim {w : World} {g M : Nat} {p : Int} {ng : Bool} {bs : List UInt8} {dp : Int} (h0 : M ≠ 0) (h : bs.take (nDig M) = digs M (nDig M))
    (hd : Dec w g bs (trimZ bs (nDig M) : Nat) (trimDp (trimZ bs (nDig M)) dp) ng false) (hp : dp = p + nDig M) : DecN w g (core M) (p + tz M) ng := by
  obtain ⟨h1, h2⟩ := trimZ_core bs M h0 h
  have h3 := nDig_core M h0
  refine ⟨(core_spec M h0).2, bs, h2, ?_⟩
  rw [h1] at hd
  have h4 : trimDp (nDig (core M)) dp = p + tz M + nDig (core M) := by
    have := nDig_pos (core_ne M h0)
    unfold trimDp; rw [if_neg (by omega), hp]; omega
  rw [h4] at hd
  exact hd
end Go.Proofs.YticlnihjhcepkaaGreatDoor

/-
  Walk: rightShift.
-/
namespace Go.Proofs.YticlnihjhcepkaaGreatDoor
open Go.RowKit
set_option linter.unusedSimpArgs false
set_option linter.unusedVariables false

/-- The number that r digits make, zeros behind the last one. -/
def xR (N L r : Nat) : Nat := N * 10 ^ r / 10 ^ L

theorem xR_zero (N L : Nat) (h : N < 10 ^ L) : xR N L 0 = 0 := by unfold xR; rw [Nat.pow_zero, Nat.mul_one, Nat.div_eq_of_lt h]
theorem xR_le (N L r : Nat) (h : r ≤ L) : xR N L r = N / 10 ^ (L - r) := by
  unfold xR
  have e : 10 ^ L = 10 ^ (L - r) * 10 ^ r := by rw [← Nat.pow_add]; congr 1; omega
  rw [e, Nat.mul_div_mul_right _ _ (Nat.pow_pos (by omega))]
theorem xR_ge (N L r : Nat) (h : L ≤ r) : xR N L r = N * 10 ^ (r - L) := by
  unfold xR
  have e : 10 ^ r = 10 ^ (r - L) * 10 ^ L := by rw [← Nat.pow_add]; congr 1; omega
  rw [e, ← Nat.mul_assoc, Nat.mul_div_cancel _ (Nat.pow_pos (by omega))]
theorem xR_succ_lt (N L r : Nat) (h : r < L) : xR N L (r + 1) = xR N L r * 10 + N / 10 ^ (L - 1 - r) % 10 := by
  rw [xR_le _ _ _ (by omega), xR_le _ _ _ (by omega), show L - r = (L - 1 - r) + 1 by omega, Nat.pow_succ, ← Nat.div_div_eq_div_mul, show L - (r + 1) = L - 1 - r by omega]
  omega
theorem xR_succ_ge (N L r : Nat) (h : L ≤ r) : xR N L (r + 1) = xR N L r * 10 := by
  rw [xR_ge _ _ _ (by omega), xR_ge _ _ _ h, show r + 1 - L = (r - L) + 1 by omega, Nat.pow_succ, Nat.mul_assoc]
theorem xR_back (N L r t : Nat) : xR N L r = xR N L (r + t) / 10 ^ t := by
  unfold xR
  rw [Nat.div_div_eq_div_mul, Nat.pow_add, ← Nat.mul_assoc, Nat.mul_div_mul_right _ _ (Nat.pow_pos (by omega))]

theorem mod_step (X B c : Nat) (hB : 0 < B) (hc : c ≤ 9) : X % (10 * B) % B * 10 + c = (X * 10 + c) % (10 * B) := by
  rw [Nat.mod_mod_of_dvd _ (Nat.dvd_mul_left B 10)]
  have h1 := Nat.mod_add_div X B
  have h2 := Nat.mod_lt X hB
  have e : X * 10 + c = X % B * 10 + c + 10 * B * (X / B) := by
    conv => lhs; rw [← h1]
    rw [Nat.add_mul, Nat.mul_assoc 10 B, Nat.mul_comm (B * (X / B)) 10]; omega
  rw [e, Nat.add_mul_mod_self_left, Nat.mod_eq_of_lt (a := X % B * 10 + c) (by omega)]
theorem dig_step (X B : Nat) : X % (10 * B) / B = X / B % 10 := by
  rw [Nat.mul_comm 10 B, Nat.mod_mul_right_div_self]

/-- The quotient's size behind w digits. -/
theorem xR_size (N L B r0 w : Nat) (hB : 0 < B) (h1 : B ≤ xR N L r0) (h2 : xR N L r0 < 10 * B) : 10 ^ w ≤ xR N L (r0 + w) / B ∧ xR N L (r0 + w) / B < 10 ^ (w + 1) := by
  have hb := xR_back N L r0 w
  have p : 0 < 10 ^ w := Nat.pow_pos (by omega)
  generalize xR N L (r0 + w) = X at *
  rw [hb] at h1 h2
  constructor
  · rw [Nat.le_div_iff_mul_le hB, Nat.mul_comm]
    exact (Nat.le_div_iff_mul_le p).1 h1
  · rw [Nat.div_lt_iff_lt_mul hB]
    have := (Nat.div_lt_iff_lt_mul p).1 h2
    rw [Nat.pow_succ, Nat.mul_assoc, Nat.mul_comm (10 ^ w)]
    exact this

theorem xR_mono (N L r t : Nat) : xR N L r ≤ xR N L (r + t) := by
  rw [xR_back N L r t]; exact Nat.div_le_self _ _

/-- While something is left, the digits are no more than those of N * 5^k. -/
theorem xR_w (N L k r0 w : Nat) (h1 : 2 ^ k ≤ xR N L r0) (h2 : xR N L r0 < 10 * 2 ^ k) (hr : r0 + w ≤ L + k) : w < nDig (N * 5 ^ k) := by
  have hB : 0 < 2 ^ k := Nat.pow_pos (by omega)
  have h3 := (xR_size N L (2 ^ k) r0 w hB h1 h2).1
  have h4 := xR_mono N L (r0 + w) (L + k - (r0 + w))
  rw [show r0 + w + (L + k - (r0 + w)) = L + k by omega, xR_ge _ _ _ (Nat.le_add_right L k), Nat.add_sub_cancel_left] at h4
  have h5 : N * 10 ^ k / 2 ^ k = N * 5 ^ k := by
    rw [show (10 : Nat) = 5 * 2 by rfl, Nat.mul_pow, ← Nat.mul_assoc, Nat.mul_div_cancel _ hB]
  have h6 := Nat.div_le_div_right (c := 2 ^ k) h4
  rw [h5] at h6
  have h7 := lt_pow_nDig (N * 5 ^ k)
  exact (Nat.pow_lt_pow_iff_right (by omega : 1 < 10)).1 (Nat.lt_of_le_of_lt (Nat.le_trans h3 h6) h7)

theorem xR_done (N L k r : Nat) (h : L + k + 1 ≤ r) : xR N L r % (10 * 2 ^ k) = 0 := by
  rw [xR_ge _ _ _ (by omega)]
  obtain ⟨t, ht⟩ : ∃ t, r - L = (k + 1) + t := ⟨r - L - (k + 1), by omega⟩
  have e : N * 10 ^ (r - L) = 10 * 2 ^ k * (N * (5 ^ k * 10 ^ t)) := by
    rw [ht, Nat.pow_add, Nat.pow_succ, show (10 : Nat) ^ k = 2 ^ k * 5 ^ k by rw [← Nat.mul_pow]]
    simp only [Nat.mul_assoc, Nat.mul_comm, Nat.mul_left_comm]
  rw [e, Nat.mul_mod_right]

/-- The end of the long division. -/
theorem xR_end (N L k r0 w : Nat) (h0 : xR N L (r0 + w) % (10 * 2 ^ k) = 0) (hr : L + 1 ≤ r0 + w) (hk : r0 + w ≤ L + k + 1) :
    xR N L (r0 + w - 1) / 2 ^ k * 10 ^ (L + k + 1 - (r0 + w)) = N * 5 ^ k := by
  obtain ⟨s, hs⟩ : ∃ s, r0 + w = s + 1 := ⟨r0 + w - 1, by omega⟩
  rw [hs] at h0 hr hk ⊢
  rw [Nat.add_sub_cancel]
  rw [xR_succ_ge _ _ _ (by omega), Nat.mul_comm _ 10, Nat.mul_mod_mul_left] at h0
  have h1 : xR N L s % 2 ^ k = 0 := by omega
  have h2 : xR N L s / 2 ^ k * 2 ^ k = xR N L s := Nat.div_mul_cancel (Nat.dvd_of_mod_eq_zero h1)
  have p : 0 < 2 ^ k := Nat.pow_pos (by omega)
  refine Nat.eq_of_mul_eq_mul_right p ?_
  rw [Nat.mul_right_comm, h2, xR_ge _ _ _ (by omega), Nat.mul_assoc, ← Nat.pow_add, Nat.mul_assoc, show s - L + (L + k + 1 - (s + 1)) = k by omega, show (10 : Nat) = 5 * 2 by rfl, Nat.mul_pow]

theorem xR_digs (N L B r0 w : Nat) (bs : List UInt8) (hl : w ≤ bs.length) (hw : 1 ≤ w) (h : ∀ i, i < w → bs.getD i 0 = UInt8.ofNat (48 + xR N L (r0 + i) / B % 10)) : bs.take w = digs (xR N L (r0 + w - 1) / B) w := by
  refine take_digs bs _ w hl fun j hj => ?_
  rw [h _ (by omega)]
  refine dg_of _ _ _ ?_
  have := xR_back N L (r0 + (w - 1 - j)) j
  rw [show r0 + (w - 1 - j) + j = r0 + w - 1 by omega] at this
  rw [this, Nat.div_div_eq_div_mul, Nat.div_div_eq_div_mul, Nat.mul_comm]

theorem u64_and_mask (n k : Nat) (hk : k ≤ 60) (hn : n < 18446744073709551616) : bits .and .u64 (n : Int) ((2 ^ k : Nat) - 1 : Int) = ((n % 2 ^ k : Nat) : Int) := by
  have p : 0 < 2 ^ k := Nat.pow_pos (by omega)
  have hk60 : 2 ^ k ≤ 2 ^ 60 := Nat.pow_le_pow_right (by omega) hk
  have h := u64_and_nat n (2 ^ k - 1) hn (by omega)
  rw [Nat.and_two_pow_sub_one_eq_mod] at h
  rw [← h]
  congr 1
  omega
end Go.Proofs.YticlnihjhcepkaaGreatDoor

/-
  Walk: rightShift.
-/
namespace Go.Proofs.YticlnihjhcepkaaGreatDoor
open Go.RowKit
set_option linter.unusedSimpArgs false
set_option linter.unusedVariables false

set_option maxRecDepth 100000 in
set_option maxHeartbeats 4000000 in
theorem rightShift_any (T g N k : Nat) (bs : List UInt8) (dp : Int) (ng tr : Bool) (w : World) (he : Env T w) (hgT : T ≤ g) (hd : Dec w g bs (nDig N : Nat) dp ng tr) (hbs : bs.take (nDig N) = digs N (nDig N))
    (hN : N % 10 ≠ 0) (hk1 : 1 ≤ k) (hk2 : k ≤ 60) (hM : nDig (N * 5 ^ k) ≤ 800) (hM2 : nDig N ≤ 800) (hp1 : -2000 ≤ dp) (hp2 : dp ≤ 2000) :
    Calls Tryz.prog 169 #[.pointer (some ⟨g, 0, none⟩), .int .u64 (k : Int)] w fun r w' =>
      r = .returned (.tuple #[]) ∧ ∃ (Q z : Nat) (bs' : List UInt8), Q * 10 ^ z = N * 5 ^ k ∧ bs'.take (nDig Q) = digs Q (nDig Q) ∧
        Dec w' g bs' (trimZ bs' (nDig Q) : Nat) (trimDp (trimZ bs' (nDig Q)) (dp + nDig Q - nDig N - k + z)) ng tr ∧ Gr w w' g := by
  have hlt := hd.lt
  have d1 := hd.cnd
  have d2 := hd.cdp
  have fz := hd.frozen
  obtain ⟨L, hL⟩ : ∃ L, nDig N = L := ⟨_, rfl⟩
  rw [hL] at hd hbs d1 hM2
  have hN0 : N ≠ 0 := by intro e; rw [e] at hN; simp at hN
  have hLp : 1 ≤ L := by rw [← hL]; exact nDig_pos hN0
  have hNL : N < 10 ^ L := by rw [← hL]; exact lt_pow_nDig N
  obtain ⟨B, hB⟩ : ∃ B, 2 ^ k = B := ⟨_, rfl⟩
  have hB1 : 2 ≤ B := by rw [← hB]; exact Nat.le_trans (by omega : 2 ≤ 2 ^ 1) (Nat.pow_le_pow_right (by omega) hk1)
  have hB2 : B ≤ 2 ^ 60 := by rw [← hB]; exact Nat.pow_le_pow_right (by omega) hk2
  have hBi : (2 : Int) ^ k = (B : Int) := by rw [← hB]; simp
  have hx0 := xR_zero N L hNL
  have HX0 := Lib.hid hx0
  have HD := Lib.hid hd
  have HBS := Lib.hid hbs
  have HL := Lib.hid hL
  have HNL := Lib.hid hNL
  have HB := Lib.hid hB
  have HN := Lib.hid hN
  have HM := Lib.hid hM
  clear hx0 hd hbs hL hNL hB he hN hM hN0
  refine calls_F Tryz.func169 rfl (by rw [Tryz.ntmps169]; simp) ?_
  intro σ hσ
  rw [Tryz.ntmps169]
  have s0 : σ 0 = .pointer (some ⟨g, 0, none⟩) := hσ 0 (by simp)
  have s1 : σ 1 = .int .u64 (k : Int) := hσ 1 (by simp)
  clear hσ
  go_upto_block 0 with fail
  refine cut_F (fun s' w' => ∃ r0 n : Nat, 1 ≤ r0 ∧ n = xR N L r0 ∧ B ≤ n ∧ n < 10 * B ∧ (L < r0 → xR N L (r0 - 1) < B) ∧ r0 ≤ L + 2 ^ 60 ∧ s' 4 = .int .i64 (r0 : Int) ∧ s' 5 = .int .i64 0 ∧ s' 6 = .int .u64 (n : Int) ∧ s' 0 = .pointer (some ⟨g, 0, none⟩) ∧ s' 1 = .int .u64 (k : Int) ∧ w = w') ?_ ?_
  · intro R2 K2 HR hK2
    go_wp2_with fail
    refine loop_F (fun kk s' w' => ∃ (r n : Nat), r ≤ L ∧ kk = L - r ∧ n = xR N L r ∧ n < 10 * B ∧ (r = 0 → n = 0) ∧ s' 4 = .int .i64 (r : Int) ∧ s' 5 = .int .i64 0 ∧ s' 6 = .int .u64 (n : Int) ∧ s' 0 = .pointer (some ⟨g, 0, none⟩) ∧ s' 1 = .int .u64 (k : Int) ∧ w = w') L
      ⟨0, 0, Nat.zero_le _, rfl, HX0.out.symm, by omega, fun _ => rfl, by simp [ov, *], by simp [ov, *], by simp [ov, *], by simp [ov, *], by simp [ov, *], rfl⟩ ?_
    clear s0 s1 σ
    rintro kk σ wk ⟨r, n, hr, hkk, hn, hnb, hz, s4, s5, s6, s0, s1, rfl⟩ RK KK HRK hKK
    have HX := Lib.hid hn
    have HKK := Lib.hid hkk
    clear hn hkk
    by_cases hnB : n < B
    · have hq : (n : Int) / (B : Int) = 0 := by rw [← Int.natCast_ediv, Nat.div_eq_of_lt hnB]; rfl
      by_cases hrL : r < L
      · have c1 := HD.out.digit r (by omega)
        have hdg := digs_get bs N L HBS.out r hrL
        obtain ⟨x, hx⟩ : ∃ x, N / 10 ^ (L - 1 - r) % 10 = x := ⟨_, rfl⟩
        have hx9 : x ≤ 9 := by rw [← hx]; have : N / 10 ^ (L - 1 - r) % 10 < 10 := Nat.mod_lt _ (by omega); omega
        rw [hdg, dg_toNat, hx, show ((48 + x : Nat) : Int) = 48 + (x : Int) by omega] at c1
        have hsucc := xR_succ_lt N L r hrL
        rw [← HX.out, hx] at hsucc
        have HSU := Lib.hid hsucc
        have hri : (r : Int) < 800 := by omega
        clear hdg hx hsucc
        ((repeat (go_wp2_with fail; first | (refine cdY ?_ ?_; focus (simp [ov, *]; done)) | (refine cdN ?_ ?_; focus (simp [ov, *]; done)))); go_wp2_with fail)
        refine gotk HRK (L - (r + 1)) (by have := HKK.out; omega) ⟨r + 1, n * 10 + x, by omega, rfl, HSU.out.symm, by omega, fun h => absurd h (by omega), by simp [ov, *], by simp [ov, *], by simp [over_cons, over_nil]; omega, by simp [ov, *], by simp [ov, *], rfl⟩
      · have hrL' : r = L := by omega
        subst hrL'
        have hNn : n = N := by rw [HX.out, xR_ge _ _ _ (Nat.le_refl _), Nat.sub_self, Nat.pow_zero, Nat.mul_one]
        have hnz : ((n : Int) == 0) = false := by
          rw [beq_eq_false_iff_ne]
          have := HN.out
          intro e
          have : n = 0 := by omega
          rw [← hNn, this] at HN
          exact HN.out (by simp)
        have hn1 : 1 ≤ n := by rw [beq_eq_false_iff_ne] at hnz; omega
        have HNN := Lib.hid hNn
        clear hNn hrL
        ((repeat (go_wp2_with fail; first | (refine cdY ?_ ?_; focus (simp [ov, *]; done)) | (refine cdN ?_ ?_; focus (simp [ov, *]; done)))); go_wp2_with fail)
        refine loop_F (fun kk s' w' => ∃ (r' n' : Nat), r ≤ r' ∧ kk = 10 * B - n' ∧ n' = xR N r r' ∧ n' < 10 * B ∧ r' + 1 ≤ r + n' ∧ r' ≤ r + 2 ^ 60 ∧ (r < r' → xR N r (r' - 1) < B) ∧ s' 4 = .int .i64 (r' : Int) ∧ s' 5 = .int .i64 0 ∧ s' 6 = .int .u64 (n' : Int) ∧ s' 0 = .pointer (some ⟨g, 0, none⟩) ∧ s' 1 = .int .u64 (k : Int) ∧ w = w') (10 * B - n)
          ⟨r, n, Nat.le_refl _, rfl, HX.out, hnb, by omega, by omega, fun h => absurd h (by omega), by simp [ov, *], by simp [ov, *], by simp [ov, *], by simp [ov, *], by simp [ov, *], rfl⟩ ?_
        clear s0 s1 s4 s5 s6 σ HX HKK HNN hnz hn1 hz hnb hq hnB n HRK hKK
        rintro k2 σ wk ⟨r', n, hrr, hkk, hn, hnb, hrn, hr60, hpr, s4, s5, s6, s0, s1, rfl⟩ RL KL HRL hKL
        have HX := Lib.hid hn
        have HKK := Lib.hid hkk
        have HPR := Lib.hid hpr
        clear hn hkk hpr
        have hr0 : (r' : Int) ≤ 1152921504606847776 := by omega
        by_cases hnB : n < B
        · have hq : (n : Int) / (B : Int) = 0 := by rw [← Int.natCast_ediv, Nat.div_eq_of_lt hnB]; rfl
          have hsucc := xR_succ_ge N r r' hrr
          rw [← HX.out] at hsucc
          have HSU := Lib.hid hsucc
          clear hsucc
          ((repeat (go_wp2_with fail; first | (refine cdY ?_ ?_; focus (simp [ov, *]; done)) | (refine cdN ?_ ?_; focus (simp [ov, *]; done)))); go_wp2_with fail)
          exact gotk HRL (10 * B - n * 10) (by have := HKK.out; omega) ⟨r' + 1, n * 10, by omega, rfl, HSU.out.symm, by omega, by omega, by omega, fun _ => by rw [Nat.add_sub_cancel, ← HX.out]; exact hnB, by simp [ov, *], by simp [ov, *], by simp [over_cons, over_nil], by simp [ov, *], by simp [ov, *], rfl⟩
        · have hq : 0 < (n : Int) / (B : Int) := by rw [← Int.natCast_ediv]; have := Nat.div_pos (Nat.le_of_not_lt hnB) (by omega); omega
          have hq2 : ((n : Int) / (B : Int) == 0) = false := by rw [beq_eq_false_iff_ne]; omega
          ((repeat (go_wp2_with fail; first | (refine cdY ?_ ?_; focus (simp [ov, *]; done)) | (refine cdN ?_ ?_; focus (simp [ov, *]; done)))); go_wp2_with fail)
          exact got HR ⟨r', n, by omega, HX.out, by omega, hnb, HPR.out, hr60, by simp [ov, *], by simp [ov, *], by simp [ov, *], by simp [ov, *], by simp [ov, *], rfl⟩
    · have hq : 0 < (n : Int) / (B : Int) := by rw [← Int.natCast_ediv]; have := Nat.div_pos (Nat.le_of_not_lt hnB) (by omega); omega
      have hq2 : ((n : Int) / (B : Int) == 0) = false := by rw [beq_eq_false_iff_ne]; omega
      ((repeat (go_wp2_with fail; first | (refine cdY ?_ ?_; focus (simp [ov, *]; done)) | (refine cdN ?_ ?_; focus (simp [ov, *]; done)))); go_wp2_with fail)
      exact got HR ⟨r, n, by omega, HX.out, by omega, hnb, fun h => absurd h (by omega), by omega, by simp [ov, *], by simp [ov, *], by simp [ov, *], by simp [ov, *], by simp [ov, *], rfl⟩
  clear s0 s1 σ HX0
  rintro σ w' ⟨r0, n, hr1, hn, hnb1, hnb2, hpr, hr60, s4, s5, s6, s0, s1, rfl⟩
  have hNX := hn
  have HX := Lib.hid hNX
  have HPR := Lib.hid hpr
  clear hn hpr hNX
  have hr0 : (r0 : Int) ≤ 1152921504606847776 := by omega
  have hwB : IntKind.u64.wrap (B : Int) = (B : Int) := by rw [IntKind.wrap_u64]; omega
  go_wp2_with fail
  have hdd := HD.out.setDp (dp - ((r0 : Int) - 1))
  have hgg := (Gr.refl w g).set 801 (.int .i64 (dp - ((r0 : Int) - 1)))
  have HDD := Lib.hid hdd
  have HGG := Lib.hid hgg
  clear hdd hgg
  refine loop_F (fun kk s' w' => ∃ (wd n' : Nat) (bs' : List UInt8), (wd = 0 ∨ r0 + wd ≤ L) ∧ kk = L - (r0 + wd) ∧ n' = xR N L (r0 + wd) % (10 * B) ∧ s' 4 = .int .i64 ((r0 : Int) + wd) ∧ s' 5 = .int .i64 (wd : Int) ∧ s' 6 = .int .u64 (n' : Int) ∧ s' 8 = .int .u64 ((B : Int) - 1) ∧ s' 0 = .pointer (some ⟨g, 0, none⟩) ∧ s' 1 = .int .u64 (k : Int) ∧ Dec w' g bs' L (dp - ((r0 : Int) - 1)) ng tr ∧ Gr w w' g ∧ (∀ i, r0 + wd ≤ i → i < L → bs'.getD i 0 = Lib.dg N (L - 1 - i)) ∧ (∀ i, i < wd → bs'.getD i 0 = UInt8.ofNat (48 + xR N L (r0 + i) / B % 10))) (L - r0)
    ⟨0, n, bs, Or.inl rfl, rfl, by rw [Nat.add_zero, ← HX.out, Nat.mod_eq_of_lt hnb2], by simp [ov, *], by simp [ov, *], by simp [ov, *], by simp [ov, *], by simp [ov, *], by simp [ov, *], HDD.out, HGG.out, fun i _ hi => digs_get bs N L HBS.out i hi, fun i hi => absurd hi (by omega)⟩ ?_
  clear s0 s1 s4 s5 s6 σ HDD HGG hlt d1 d2 fz
  rintro kk σ wk ⟨wd, n', bs', hwd, hkk, hn, s4, s5, s6, s8, s0, s1, hd, hg, hun, hwr⟩ RK KK HRK hKK
  have HXW := Lib.hid hn
  have HKK := Lib.hid hkk
  have HUN := Lib.hid hun
  have HWR := Lib.hid hwr
  have HD := Lib.hid hd
  have HG := Lib.hid hg
  have hlt := hd.lt
  have fz := hd.frozen
  have d1 := hd.cnd
  have hn10 : n' < 10 * B := by rw [hn]; exact Nat.mod_lt _ (by omega)
  clear hn hkk hun hwr hd hg
  by_cases hrL : r0 + wd < L
  · have hrLi : (r0 : Int) + (wd : Int) < (L : Int) := by omega
    obtain ⟨x, hx⟩ : ∃ x, N / 10 ^ (L - 1 - (r0 + wd)) % 10 = x := ⟨_, rfl⟩
    have hx9 : x ≤ 9 := by rw [← hx]; have : N / 10 ^ (L - 1 - (r0 + wd)) % 10 < 10 := Nat.mod_lt _ (by omega); omega
    have c1 := HD.out.digit (r0 + wd) (by omega)
    rw [HUN.out _ (Nat.le_refl _) hrL, dg_toNat, hx, show ((48 + x : Nat) : Int) = 48 + (x : Int) by omega] at c1
    have hdW : ∃ v, wk.cell? ⟨g, wd, none⟩ = some v := ⟨_, HD.out.digit wd (by omega)⟩
    obtain ⟨vW, hvW⟩ := hdW
    have hand := u64_and_mask n' k hk2 (by omega)
    rw [HB.out] at hand
    have hdig : (n' : Int) / (B : Int) = ((n' / B : Nat) : Int) := by rw [Int.natCast_ediv]
    have hdb : n' / B ≤ 9 := by have := Nat.div_lt_of_lt_mul (m := n') (n := B) (k := 10) (by rw [Nat.mul_comm]; exact hn10); omega
    have hmb : n' % B < B := Nat.mod_lt _ (by omega)
    have hstep := mod_step (xR N L (r0 + wd)) B x (by omega) hx9
    have hsu := xR_succ_lt N L (r0 + wd) hrL
    rw [hx] at hsu
    rw [← hsu, ← HXW.out] at hstep
    have hdst := dig_step (xR N L (r0 + wd)) B
    rw [← HXW.out] at hdst
    have HST := Lib.hid hstep
    have HDS := Lib.hid hdst
    clear hstep hdst hsu hx
    obtain ⟨q, hq⟩ : ∃ q, n' / B = q := ⟨_, rfl⟩
    obtain ⟨m, hm⟩ : ∃ m, n' % B = m := ⟨_, rfl⟩
    rw [hq] at hdig hdb HDS
    rw [hm] at hand hmb HST
    have hwi : (wd : Int) < 800 := by omega
    have hri : (r0 : Int) + (wd : Int) < 800 := by omega
    have hrn : ((r0 : Int) + (wd : Int)).toNat = r0 + wd := by omega
    clear hq hm
    ((repeat (go_wp2_with fail; first | (refine cdY ?_ ?_; focus (simp [ov, *]; done)) | (refine cdN ?_ ?_; focus (simp [ov, *]; done)))); go_wp2_with fail)
    have hlen : bs'.length = 800 := HD.out.len
    have hq48 : ((q : Int) + 48).toNat = 48 + q := by omega
    refine gotk HRK (L - (r0 + (wd + 1))) (by have := HKK.out; omega) ⟨wd + 1, m * 10 + x, bs'.set wd (UInt8.ofNat ((q : Int) + 48).toNat), Or.inr (by omega), rfl, HST.out, ?_, by simp [ov, *], ?_, by simp [ov, *], by simp [ov, *], by simp [ov, *], HD.out.setDigit wd (by omega) _ (by omega) (by omega), HG.out.set _ _, ?_, ?_⟩
    · simp [over_cons, over_nil]; omega
    · simp [over_cons, over_nil]; omega
    · intro i h1 h2
      rw [getD_set _ _ _ _ (by omega), if_neg (by omega)]
      exact HUN.out i (by omega) h2
    · intro i hi
      rw [getD_set _ _ _ _ (by omega)]
      by_cases hiw : wd = i
      · subst hiw
        rw [if_pos rfl, hq48, HDS.out]
      · rw [if_neg hiw]
        exact HWR.out i (by omega)
  · have hrLi : decide ((r0 : Int) + (wd : Int) < (L : Int)) = false := by simp; omega
    ((repeat (go_wp2_with fail; first | (refine cdY ?_ ?_; focus (simp [ov, *]; done)) | (refine cdN ?_ ?_; focus (simp [ov, *]; done)))); go_wp2_with fail)
    have hw8 : wd ≤ 800 := by omega
    have hnn : n' = 0 → L + 1 ≤ r0 + wd ∧ 1 ≤ wd := by
      intro h0
      exfalso
      have e := HXW.out
      by_cases hz : wd = 0
      · rw [hz, Nat.add_zero, ← HX.out, Nat.mod_eq_of_lt hnb2] at e
        omega
      · have hrl : r0 + wd = L := by omega
        rw [hrl, xR_ge _ _ _ (Nat.le_refl _), Nat.sub_self, Nat.pow_zero, Nat.mul_one, h0] at e
        have h1 : N % (10 * B) % 10 = N % 10 := Nat.mod_mod_of_dvd _ (Nat.dvd_mul_right 10 B)
        rw [← e] at h1
        exact HN.out h1.symm
    have hk0 : r0 + wd ≤ L + k + 1 := by
      by_cases hz : L < r0
      · have h1 := HPR.out hz
        rw [xR_ge _ _ _ (by omega), ← HB.out] at h1
        have hN1 : 1 ≤ N := by have := HN.out; rcases Nat.eq_zero_or_pos N with h | h; (rw [h] at this; simp at this); exact h
        have h2 : 10 ^ (r0 - 1 - L) < 10 ^ k := Nat.lt_of_le_of_lt (Nat.le_mul_of_pos_left _ hN1) (Nat.lt_of_lt_of_le h1 (Nat.pow_le_pow_left (by omega) k))
        have h3 := (Nat.pow_lt_pow_iff_right (by omega : 1 < 10)).1 h2
        omega
      · omega
    refine loop_F (fun kk s' w' => ∃ (wd n' : Nat) (bs' : List UInt8), L ≤ r0 + wd ∧ r0 + wd ≤ L + k + 1 ∧ wd ≤ 800 ∧ kk = L + k + 2 - (r0 + wd) ∧ n' = xR N L (r0 + wd) % (10 * B) ∧ (n' = 0 → L + 1 ≤ r0 + wd ∧ 1 ≤ wd) ∧ s' 5 = .int .i64 (wd : Int) ∧ s' 6 = .int .u64 (n' : Int) ∧ s' 8 = .int .u64 ((B : Int) - 1) ∧ s' 0 = .pointer (some ⟨g, 0, none⟩) ∧ s' 1 = .int .u64 (k : Int) ∧ Dec w' g bs' L (dp - ((r0 : Int) - 1)) ng tr ∧ Gr w w' g ∧ (∀ i, i < wd → bs'.getD i 0 = UInt8.ofNat (48 + xR N L (r0 + i) / B % 10))) (L + k + 2 - (r0 + wd))
      ⟨wd, n', bs', by omega, hk0, hw8, rfl, HXW.out, hnn, by simp [ov, *], by simp [ov, *], by simp [ov, *], by simp [ov, *], by simp [ov, *], HD.out, HG.out, HWR.out⟩ ?_
    clear s0 s1 s4 s5 s6 s8 σ HD HG hlt d1 fz HXW HWR HUN HKK hn10 hrL hrLi hw8 hnn hk0 hwd wd n' bs' HRK hKK
    rintro k4 σ wl ⟨wd, n', bs', hge, hke, hw8, hkk, hn, hnn, s5, s6, s8, s0, s1, hd, hg, hwr⟩ RL KL HRL hKL
    have HXW := Lib.hid hn
    have HKK := Lib.hid hkk
    have HNN := Lib.hid hnn
    have HWR := Lib.hid hwr
    have HD := Lib.hid hd
    have HG := Lib.hid hg
    have hlt := hd.lt
    have fz := hd.frozen
    have hn10 : n' < 10 * B := by rw [hn]; exact Nat.mod_lt _ (by omega)
    clear hn hkk hnn hwr hd hg
    by_cases hz : n' = 0
    · obtain ⟨hL1, hw1⟩ := HNN.out hz
      subst hz
      have hend := xR_end N L k r0 wd (by rw [HB.out]; exact HXW.out.symm) hL1 hke
      rw [HB.out] at hend
      have hdg := xR_digs N L B r0 wd bs' (by rw [HD.out.len]; exact hw8) hw1 HWR.out
      have hsz := xR_size N L B r0 (wd - 1) (by omega) (by rw [← HX.out]; exact hnb1) (by rw [← HX.out]; exact hnb2)
      rw [show r0 + (wd - 1) = r0 + wd - 1 by omega] at hsz
      have hnd := nDig_unique (wd - 1) _ hsz.1 hsz.2
      rw [show wd - 1 + 1 = wd by omega] at hnd
      obtain ⟨Q, hQ⟩ : ∃ Q, xR N L (r0 + wd - 1) / B = Q := ⟨_, rfl⟩
      rw [hQ] at hend hdg hnd
      have htrim := fun (n : Nat) (W : World) (dp' : Int) (hdd : Dec W g bs' n dp' ng tr) (hn : n ≤ 800) => trim_any g n bs' dp' ng tr W hdd hn
      have HTR := Lib.hid htrim
      have HEN := Lib.hid hend
      have HDG := Lib.hid hdg
      have HND := Lib.hid hnd
      have d1 := HD.out.cnd
      clear htrim hend hdg hnd hsz hQ
      ((repeat (go_wp2_with fail; first | (refine cdY ?_ ?_; focus (simp [ov, *]; done)) | (refine cdN ?_ ?_; focus (simp [ov, *]; done)))); go_wp2_with fail)
      refine (HTR.out wd _ _ (HD.out.setNd _) hw8).mono ?_
      rintro e w7 ⟨rfl, hd7, hg7⟩
      go_wp2_with fail
      refine end_F rfl ⟨rfl, Q, L + k + 1 - (r0 + wd), bs', HEN.out, ?_, ?_, ?_⟩
      · rw [HND.out]; exact HDG.out
      · rw [HND.out, HL.out]
        rw [show dp + (wd : Int) - (L : Int) - (k : Int) + ((L + k + 1 - (r0 + wd) : Nat) : Int) = dp - ((r0 : Int) - 1) by omega]
        exact hd7
      · exact (HG.out.set _ _).trans hg7
    · have hrk : r0 + wd ≤ L + k := by
        rcases Nat.lt_or_ge (L + k) (r0 + wd) with h | h
        · have := xR_done N L k (r0 + wd) (by omega)
          rw [HB.out] at this
          exact absurd (HXW.out.trans this) hz
        · exact h
      have hw : wd < 800 := by
        have h := xR_w N L k r0 wd (by rw [HB.out, ← HX.out]; exact hnb1) (by rw [HB.out, ← HX.out]; exact hnb2) hrk
        have := HM.out
        omega
      have hdW : ∃ v, wl.cell? ⟨g, wd, none⟩ = some v := ⟨_, HD.out.digit wd (by omega)⟩
      obtain ⟨vW, hvW⟩ := hdW
      have hand := u64_and_mask n' k hk2 (by omega)
      rw [HB.out] at hand
      have hdig : (n' : Int) / (B : Int) = ((n' / B : Nat) : Int) := by rw [Int.natCast_ediv]
      have hdb : n' / B ≤ 9 := by have := Nat.div_lt_of_lt_mul (m := n') (n := B) (k := 10) (by rw [Nat.mul_comm]; exact hn10); omega
      have hmb : n' % B < B := Nat.mod_lt _ (by omega)
      have hstep := mod_step (xR N L (r0 + wd)) B 0 (by omega) (by omega)
      have hsu := xR_succ_ge N L (r0 + wd) hge
      rw [Nat.add_zero, ← hsu, ← HXW.out] at hstep
      have hdst := dig_step (xR N L (r0 + wd)) B
      rw [← HXW.out] at hdst
      have HST := Lib.hid hstep
      have HDS := Lib.hid hdst
      clear hstep hdst hsu
      obtain ⟨q, hq⟩ : ∃ q, n' / B = q := ⟨_, rfl⟩
      obtain ⟨m, hm⟩ : ∃ m, n' % B = m := ⟨_, rfl⟩
      rw [hq] at hdig hdb HDS
      rw [hm] at hand hmb HST
      have hwi : (wd : Int) < 800 := by omega
      have hzi : 0 < n' := by omega
      clear hq hm hz
      ((repeat (go_wp2_with fail; first | (refine cdY ?_ ?_; focus (simp [ov, *]; done)) | (refine cdN ?_ ?_; focus (simp [ov, *]; done)))); go_wp2_with fail)
      have hlen : bs'.length = 800 := HD.out.len
      have hq48 : ((q : Int) + 48).toNat = 48 + q := by omega
      refine gotk HRL (L + k + 2 - (r0 + (wd + 1))) (by have := HKK.out; omega) ⟨wd + 1, m * 10, bs'.set wd (UInt8.ofNat ((q : Int) + 48).toNat), by omega, by omega, by omega, rfl, HST.out, fun _ => by omega, by simp [ov, *], ?_, by simp [ov, *], by simp [ov, *], by simp [ov, *], HD.out.setDigit wd (by omega) _ (by omega) (by omega), HG.out.set _ _, ?_⟩
      · simp [over_cons, over_nil]
      · intro i hi
        rw [getD_set _ _ _ _ (by omega)]
        by_cases hiw : wd = i
        · subst hiw
          rw [if_pos rfl, hq48, HDS.out]
        · rw [if_neg hiw]
          exact HWR.out i (by omega)

/-- rightShift on a decimal that holds N * 10^p. -/
theorem rightShift_N (T g N k : Nat) (p : Int) (ng : Bool) (w : World) (he : Env T w) (hgT : T ≤ g) (hd : DecN w g N p ng)
    (hk1 : 1 ≤ k) (hk2 : k ≤ 60) (hM : nDig (N * 5 ^ k) ≤ 800) (hp1 : -1200 ≤ p) (hp2 : p ≤ 1200) :
    Calls Tryz.prog 169 #[.pointer (some ⟨g, 0, none⟩), .int .u64 (k : Int)] w fun r w' =>
      r = .returned (.tuple #[]) ∧ DecN w' g (core (N * 5 ^ k)) (p - k + tz (N * 5 ^ k)) ng ∧ Gr w w' g := by
  obtain ⟨hne, bs, hbs, hdec⟩ := hd
  have hN0 : N ≠ 0 := by intro e; rw [e] at hne; simp at hne
  have hle : nDig N ≤ nDig (N * 5 ^ k) := nDig_mono _ _ (Nat.le_mul_of_pos_right _ (Nat.pow_pos (by omega)))
  refine (rightShift_any T g N k bs _ ng false w he hgT hdec hbs hne hk1 hk2 hM (by omega) (by omega) (by omega)).mono ?_
  rintro r w' ⟨rfl, Q, z, bs', hQ, hb, hd', hg⟩
  refine ⟨rfl, ?_, hg⟩
  have hM0 : N * 5 ^ k ≠ 0 := Nat.mul_ne_zero hN0 (Nat.ne_of_gt (Nat.pow_pos (by omega)))
  have hQ0 : Q ≠ 0 := by intro e; rw [e, Nat.zero_mul] at hQ; exact hM0 hQ.symm
  have hc := core_spec Q hQ0
  have hcc := core_of (A := core Q) (a := tz Q + z) (M := N * 5 ^ k) (by rw [Nat.pow_add, ← Nat.mul_assoc, hc.1, hQ]) hc.2
  have := DecN.of_trim (p := p - k + z) hQ0 hb hd' (by omega)
  rw [hcc.1, hcc.2]
  rw [show p - (k : Int) + ((tz Q + z : Nat) : Int) = p - k + z + tz Q by omega]
  exact this

/-- leftShift on a decimal that holds N * 10^p. -/
theorem leftShift_N (T g N k : Nat) (p : Int) (ng : Bool) (w : World) (he : Env T w) (hgT : T ≤ g) (hd : DecN w g N p ng)
    (hk1 : 1 ≤ k) (hk2 : k ≤ 60) (hM : nDig N + chN k ≤ 800) (hp1 : -1200 ≤ p) (hp2 : p ≤ 1200) :
    Calls Tryz.prog 168 #[.pointer (some ⟨g, 0, none⟩), .int .u64 (k : Int)] w fun r w' =>
      r = .returned (.tuple #[]) ∧ DecN w' g (core (N * 2 ^ k)) (p + tz (N * 2 ^ k)) ng ∧ Gr w w' g := by
  obtain ⟨hne, bs, hbs, hdec⟩ := hd
  have hN0 : N ≠ 0 := by intro e; rw [e] at hne; simp at hne
  refine (leftShift_any T g N k bs _ ng false w he hgT hdec hbs hN0 hk1 hk2 hM (by omega) (by omega)).mono ?_
  rintro r w' ⟨rfl, bs', hb, hd', hg⟩
  have hM0 : N * 2 ^ k ≠ 0 := Nat.mul_ne_zero hN0 (Nat.ne_of_gt (Nat.pow_pos (by omega)))
  exact ⟨rfl, DecN.of_trim (p := p) hM0 hb hd' (by omega), hg⟩
end Go.Proofs.YticlnihjhcepkaaGreatDoor

/-
  Walks: shouldRoundUp, RoundUp, RoundDown, Round.
-/
namespace Go.Proofs.YticlnihjhcepkaaGreatDoor
open Go.RowKit
set_option linter.unusedSimpArgs false
set_option linter.unusedVariables false

/-- Is the number, without its last t digits, to be rounded up? -/
def rndUp (N t : Nat) : Bool := decide (10 ^ t < 2 * (N % 10 ^ t)) || (decide (10 ^ t = 2 * (N % 10 ^ t)) && decide (N / 10 ^ t % 2 = 1))
/-- The number without its last t digits, rounded. -/
def rndQ (N t : Nat) : Nat := N / 10 ^ t + if rndUp N t then 1 else 0

/-- A decimal that holds M * 10^p. -/
structure DecV (w : World) (g M : Nat) (p : Int) (ng : Bool) : Prop where
  pos : M ≠ 0 → DecN w g (core M) (p + tz M) ng
  zero : M = 0 → ∃ bs, Dec w g bs 0 0 ng false

theorem mod_pow_succ (N s : Nat) : N % 10 ^ (s + 1) = N / 10 ^ s % 10 * 10 ^ s + N % 10 ^ s := by
  rw [Nat.pow_succ, Nat.mod_mul, Nat.mul_comm (10 ^ s), Nat.add_comm]

theorem rndUp_half (N : Nat) (h : N % 10 = 5) : rndUp N 1 = decide (N / 10 % 10 % 2 = 1) := by
  unfold rndUp
  rw [Nat.pow_one, h]
  simp

theorem rndUp_else (N s : Nat) (hN : N % 10 ≠ 0) (h : ¬ (N / 10 ^ s % 10 = 5 ∧ s = 0)) : rndUp N (s + 1) = decide (5 ≤ N / 10 ^ s % 10) := by
  unfold rndUp
  have e := mod_pow_succ N s
  have p : 0 < 10 ^ s := Nat.pow_pos (by omega)
  have hl := Nat.mod_lt N p
  obtain ⟨d, hd⟩ : ∃ d, N / 10 ^ s % 10 = d := ⟨_, rfl⟩
  have hnz : d = 5 → N % 10 ^ s ≠ 0 := by
    intro h5 e0
    cases s with
    | zero => exact h ⟨by rw [hd]; exact h5, rfl⟩
    | succ s =>
      have : N % 10 ^ (s + 1) % 10 = N % 10 := Nat.mod_mod_of_dvd _ ⟨10 ^ s, by rw [Nat.pow_succ, Nat.mul_comm]⟩
      rw [e0] at this
      exact hN this.symm
  rw [hd] at e ⊢
  rw [e, Nat.pow_succ]
  generalize N % 10 ^ s = x at *
  generalize 10 ^ s = P at *
  rcases Nat.lt_or_ge d 5 with h5 | h5
  · have : d * P ≤ 4 * P := Nat.mul_le_mul_right _ (by omega)
    have h1 : ¬ P * 10 < 2 * (d * P + x) := by omega
    have h2 : ¬ P * 10 = 2 * (d * P + x) := by omega
    simp [h1, h2, h5]
  · have h1 : P * 10 < 2 * (d * P + x) := by
      rcases Nat.lt_or_ge 5 d with h6 | h6
      · have : 6 * P ≤ d * P := Nat.mul_le_mul_right _ h6
        omega
      · have h5' : d = 5 := by omega
        have hx := hnz h5'
        rw [h5']
        omega
    simp [h1, h5]

set_option maxRecDepth 100000 in
set_option maxHeartbeats 1000000 in
theorem should_any (g N n : Nat) (p : Int) (ng : Bool) (w : World) (hd : DecN w g N p ng) (hn : n < nDig N) (hL8 : nDig N ≤ 800) :
    Calls Tryz.prog 170 #[.pointer (some ⟨g, 0, none⟩), .int .i64 (n : Int)] w fun r w' =>
      r = .returned (.bool (rndUp N (nDig N - n))) ∧ w = w' := by
  obtain ⟨hN, bs, hbs, hd⟩ := hd
  have hlt := hd.lt
  have d1 := hd.cnd
  have d3 := hd.ctr
  obtain ⟨L, hL⟩ : ∃ L, nDig N = L := ⟨_, rfl⟩
  rw [hL] at d1 hbs hn hL8
  rw [hL]
  have c1 := hd.digit n (by omega)
  rw [digs_get bs N L hbs n hn, dg_toNat] at c1
  obtain ⟨s, hs⟩ : ∃ s, L - 1 - n = s := ⟨_, rfl⟩
  rw [hs] at c1
  rw [show L - n = s + 1 by omega]
  have hni : (n : Int) < (L : Int) := by omega
  have hni2 : decide (L ≤ n) = false := by simp; omega
  have hn0 : decide ((n : Int) < 0) = false := by simp
  have hn8 : (n : Int) < 800 := by omega
  have hd9 : N / 10 ^ s % 10 < 10 := Nat.mod_lt _ (by omega)
  obtain ⟨res, hres⟩ : ∃ res, rndUp N (s + 1) = res := ⟨_, rfl⟩
  have hE := rndUp_else N s hN
  have HE := Lib.hid hE
  have HRES := Lib.hid hres
  have HD := Lib.hid hd
  have HBS := Lib.hid hbs
  rw [hres]
  obtain ⟨d, hdd⟩ : ∃ d, N / 10 ^ s % 10 = d := ⟨_, rfl⟩
  rw [hdd] at c1 hd9
  rw [show ((48 + d : Nat) : Int) = 48 + (d : Int) by omega] at c1
  have HDD := Lib.hid hdd
  have HN := Lib.hid hN
  have HL := Lib.hid hL
  clear hE hres hd hbs hdd hL hN
  refine calls_F Tryz.func170 rfl (by rw [Tryz.ntmps170]; simp) ?_
  intro σ hσ
  rw [Tryz.ntmps170]
  have s0 : σ 0 = .pointer (some ⟨g, 0, none⟩) := hσ 0 (by simp)
  have s1 : σ 1 = .int .i64 (n : Int) := hσ 1 (by simp)
  clear hσ
  by_cases h5 : d = 5
  · subst h5
    by_cases hs0 : s = 0
    · have hnL : ((n : Int) + 1 == (L : Int)) = true := by simp; omega
      have hhalf := rndUp_half N (by have := HDD.out; rw [hs0, Nat.pow_zero, Nat.div_one] at this; exact this)
      rw [hs0] at HRES
      rw [Nat.zero_add] at HRES
      rw [HRES.out] at hhalf
      by_cases hn1 : 1 ≤ n
      · have c2 := HD.out.digit (n - 1) (by omega)
        rw [digs_get bs N L HBS.out (n - 1) (by omega), dg_toNat, show L - 1 - (n - 1) = 1 by omega, Nat.pow_one] at c2
        obtain ⟨y, hy⟩ : ∃ y, N / 10 % 10 = y := ⟨_, rfl⟩
        have hy9 : y < 10 := by omega
        rw [hy] at c2 hhalf
        rw [show ((48 + y : Nat) : Int) = 48 + (y : Int) by omega] at c2
        have hn1' : decide (0 < n) = true := by simp; omega
        have hHALF := Lib.hid hhalf
        obtain ⟨j, hj⟩ : ∃ j, n - 1 = j := ⟨_, rfl⟩
        rw [hj] at c2
        have hnj : (n : Int) - 1 = (j : Int) := by omega
        have hj8 : (j : Int) < 800 := by omega
        clear hhalf hy
        ((repeat (go_wp2_with fail; first | (refine cdY ?_ ?_; focus (simp [ov, *]; done)) | (refine cdN ?_ ?_; focus (simp [ov, *]; done)))); go_wp2_with fail)
        refine ret_F (.bool ((48 + (y : Int) - 48) % 2 != 0)) rfl (by decide) (by simp [ov, *]) ⟨?_, rfl⟩
        rw [hHALF.out]
        congr 2
        rw [Bool.eq_iff_iff]; simp only [bne_iff_ne, decide_eq_true_eq]; omega
      · have hn0' : decide (0 < n) = false := by simp; omega
        have hnz : n = 0 := by omega
        have hL1 : L = 1 := by omega
        have hq : N / 10 = 0 := by
          have := lt_pow_nDig N
          rw [HL.out, hL1] at this
          omega
        rw [hq] at hhalf
        have hHALF := Lib.hid hhalf
        clear hhalf hq hnz hL1
        ((repeat (go_wp2_with fail; first | (refine cdY ?_ ?_; focus (simp [ov, *]; done)) | (refine cdN ?_ ?_; focus (simp [ov, *]; done)))); go_wp2_with fail)
        refine ret_F (.bool false) rfl (by decide) (by simp [ov, *]) ⟨?_, rfl⟩
        rw [hHALF.out]; rfl
    · have hnL : ((n : Int) + 1 == (L : Int)) = false := by rw [beq_eq_false_iff_ne]; omega
      have hr := HE.out (fun h => hs0 h.2)
      rw [HRES.out, HDD.out] at hr
      have HR := Lib.hid hr
      clear hr
      ((repeat (go_wp2_with fail; first | (refine cdY ?_ ?_; focus (simp [ov, *]; done)) | (refine cdN ?_ ?_; focus (simp [ov, *]; done)))); go_wp2_with fail)
      refine ret_F (.bool (decide (5 ≤ 5))) rfl (by decide) (by simp [ov, *]) ⟨?_, rfl⟩
      rw [HR.out]
  · have hr := HE.out (fun h => h5 (HDD.out.symm.trans h.1))
    rw [HRES.out, HDD.out] at hr
    have HR := Lib.hid hr
    have h53 : ((48 : Int) + (d : Int) == 53) = false := by rw [beq_eq_false_iff_ne]; omega
    clear hr
    ((repeat (go_wp2_with fail; first | (refine cdY ?_ ?_; focus (simp [ov, *]; done)) | (refine cdN ?_ ?_; focus (simp [ov, *]; done)))); go_wp2_with fail)
    refine ret_F (.bool (decide (53 ≤ 48 + (d : Int)))) rfl (by decide) (by simp [ov, *]) ⟨?_, rfl⟩
    rw [HR.out]
    congr 2
    rw [Bool.eq_iff_iff]; simp only [decide_eq_true_eq]; omega

set_option maxRecDepth 100000 in
set_option maxHeartbeats 1000000 in
theorem RoundDown_any (g N n : Nat) (p : Int) (ng : Bool) (w : World) (hd : DecN w g N p ng) (hn : n < nDig N) (hL8 : nDig N ≤ 800) :
    Calls Tryz.prog 172 #[.pointer (some ⟨g, 0, none⟩), .int .i64 (n : Int)] w fun r w' =>
      r = .returned (.tuple #[]) ∧ DecV w' g (N / 10 ^ (nDig N - n)) (p + (nDig N - n : Nat)) ng ∧ Gr w w' g := by
  obtain ⟨hN, bs, hbs, hd⟩ := hd
  have hlt := hd.lt
  have d1 := hd.cnd
  have fz := hd.frozen
  have hN0 : N ≠ 0 := by intro e; rw [e] at hN; simp at hN
  obtain ⟨L, hL⟩ : ∃ L, nDig N = L := ⟨_, rfl⟩
  rw [hL] at d1 hbs hn hL8 hd
  rw [hL]
  have hpost : ∀ w', Dec w' g bs (trimZ bs n : Nat) (trimDp (trimZ bs n) (p + L)) ng false → DecV w' g (N / 10 ^ (L - n)) (p + (L - n : Nat)) ng := by
    intro w' hd'
    have htk : bs.take n = digs (N / 10 ^ (L - n)) n := by
      refine take_digs bs _ n (by rw [hd.len]; omega) fun j hj => ?_
      rw [digs_get bs N L hbs _ (by omega)]
      unfold Lib.dg
      rw [Nat.div_div_eq_div_mul, ← Nat.pow_add]
      congr 5; omega
    refine ⟨fun h0 => ?_, fun h0 => ?_⟩
    · have hn1 : 1 ≤ n := by
        rcases Nat.eq_zero_or_pos n with h | h
        · exfalso; apply h0; rw [h, Nat.sub_zero, ← hL]; exact Nat.div_eq_of_lt (lt_pow_nDig N)
        · exact h
      have hq : nDig (N / 10 ^ (L - n)) = n := by
        have h1 := nDig_low hN0
        have h2 := lt_pow_nDig N
        rw [hL] at h1 h2
        have pp : 0 < 10 ^ (L - n) := Nat.pow_pos (by omega)
        have := nDig_unique (n - 1) (N / 10 ^ (L - n)) ((Nat.le_div_iff_mul_le pp).2 (by rw [← Nat.pow_add, show n - 1 + (L - n) = L - 1 by omega]; exact h1))
          ((Nat.div_lt_iff_lt_mul pp).2 (by rw [← Nat.pow_add, show n - 1 + 1 + (L - n) = L by omega]; exact h2))
        omega
      have h3 := DecN.of_trim (w := w') (g := g) (M := N / 10 ^ (L - n)) (p := p + (L - n : Nat)) (ng := ng) (bs := bs) (dp := p + L) h0 (by rw [hq]; exact htk) (by rw [hq]; exact hd') (by rw [hq]; omega)
      exact h3
    · have hn0 : n = 0 := by
        rcases Nat.eq_zero_or_pos n with h | h
        · exact h
        · exfalso
          have h1 := nDig_low hN0
          rw [hL] at h1
          have pp : 0 < 10 ^ (L - n) := Nat.pow_pos (by omega)
          have h2 : 10 ^ (n - 1) ≤ N / 10 ^ (L - n) := (Nat.le_div_iff_mul_le pp).2 (by rw [← Nat.pow_add, show n - 1 + (L - n) = L - 1 by omega]; exact h1)
          have : 0 < 10 ^ (n - 1) := Nat.pow_pos (by omega)
          omega
      subst hn0
      exact ⟨bs, hd'⟩
  have HP := Lib.hid hpost
  have HD := Lib.hid hd
  have hni : (n : Int) < (L : Int) := by omega
  have hni2 : decide (L ≤ n) = false := by simp; omega
  have hn0 : decide ((n : Int) < 0) = false := by simp
  clear hpost hd hbs hL hN hN0
  refine calls_F Tryz.func172 rfl (by rw [Tryz.ntmps172]; simp) ?_
  intro σ hσ
  rw [Tryz.ntmps172]
  have s0 : σ 0 = .pointer (some ⟨g, 0, none⟩) := hσ 0 (by simp)
  have s1 : σ 1 = .int .i64 (n : Int) := hσ 1 (by simp)
  clear hσ
  ((repeat (go_wp2_with fail; first | (refine cdY ?_ ?_; focus (simp [ov, *]; done)) | (refine cdN ?_ ?_; focus (simp [ov, *]; done)))); go_wp2_with fail)
  refine (trim_any g n bs _ ng false _ (HD.out.setNd _) (by omega)).mono ?_
  rintro e w7 ⟨rfl, hd7, hg7⟩
  go_wp2_with fail
  exact end_F rfl ⟨rfl, HP.out _ hd7, ((Gr.refl w g).set _ _).trans hg7⟩

theorem nines_step (q j : Nat) (h : q + 1 = (q / 10 ^ j + 1) * 10 ^ j) (h9 : q / 10 ^ j % 10 = 9) : q + 1 = (q / 10 ^ (j + 1) + 1) * 10 ^ (j + 1) := by
  have e : q / 10 ^ (j + 1) = q / 10 ^ j / 10 := by rw [Nat.pow_succ, Nat.div_div_eq_div_mul]
  rw [h, e, Nat.pow_succ, Nat.mul_comm (10 ^ j) 10, ← Nat.mul_assoc]
  congr 1
  omega

set_option maxRecDepth 100000 in
set_option maxHeartbeats 1000000 in
theorem RoundUp_any (g N n : Nat) (p : Int) (ng : Bool) (w : World) (hd : DecN w g N p ng) (hn : n < nDig N) (hL8 : nDig N ≤ 800) (hp1 : -2000 ≤ p) (hp2 : p ≤ 2000) :
    Calls Tryz.prog 171 #[.pointer (some ⟨g, 0, none⟩), .int .i64 (n : Int)] w fun r w' =>
      r = .returned (.tuple #[]) ∧ DecV w' g (N / 10 ^ (nDig N - n) + 1) (p + (nDig N - n : Nat)) ng ∧ Gr w w' g := by
  obtain ⟨hN, bs, hbs, hd⟩ := hd
  have hlt := hd.lt
  have d1 := hd.cnd
  have d2 := hd.cdp
  have fz := hd.frozen
  have hN0 : N ≠ 0 := by intro e; rw [e] at hN; simp at hN
  obtain ⟨L, hL⟩ : ∃ L, nDig N = L := ⟨_, rfl⟩
  rw [hL] at d1 d2 hbs hn hL8 hd
  rw [hL]
  obtain ⟨q, hq⟩ : ∃ q, N / 10 ^ (L - n) = q := ⟨_, rfl⟩
  have pp : 0 < 10 ^ (L - n) := Nat.pow_pos (by omega)
  have hqlt : q < 10 ^ n := by
    have h2 := lt_pow_nDig N
    rw [hL] at h2
    rw [← hq, Nat.div_lt_iff_lt_mul pp, ← Nat.pow_add, show n + (L - n) = L by omega]
    exact h2
  have hqlow : 1 ≤ n → 10 ^ (n - 1) ≤ q := by
    intro hn1
    have h1 := nDig_low hN0
    rw [hL] at h1
    rw [← hq, Nat.le_div_iff_mul_le pp, ← Nat.pow_add, show n - 1 + (L - n) = L - 1 by omega]
    exact h1
  have htk : bs.take n = digs q n := by
    rw [← hq]
    refine take_digs bs _ n (by rw [hd.len]; omega) fun j hj => ?_
    rw [digs_get bs N L hbs _ (by omega)]
    unfold Lib.dg
    rw [Nat.div_div_eq_div_mul, ← Nat.pow_add]
    congr 5; omega
  rw [hq]
  have HD := Lib.hid hd
  have HTK := Lib.hid htk
  have HQL := Lib.hid hqlow
  have HQT := Lib.hid hqlt
  have hni : (n : Int) < (L : Int) := by omega
  have hni2 : decide (L ≤ n) = false := by simp; omega
  have hn0 : decide ((n : Int) < 0) = false := by simp
  clear hd hbs hL hN hN0 hq pp hqlt hqlow htk
  refine calls_F Tryz.func171 rfl (by rw [Tryz.ntmps171]; simp) ?_
  intro σ hσ
  rw [Tryz.ntmps171]
  have s0 : σ 0 = .pointer (some ⟨g, 0, none⟩) := hσ 0 (by simp)
  have s1 : σ 1 = .int .i64 (n : Int) := hσ 1 (by simp)
  clear hσ
  ((repeat (go_wp2_with fail; first | (refine cdY ?_ ?_; focus (simp [ov, *]; done)) | (refine cdN ?_ ?_; focus (simp [ov, *]; done)))); go_wp2_with fail)
  refine loop_F (fun kk s' w' => ∃ i : Nat, i ≤ n ∧ kk = i ∧ q + 1 = (q / 10 ^ (n - i) + 1) * 10 ^ (n - i) ∧ s' 4 = .int .i64 ((i : Int) - 1) ∧ s' 0 = .pointer (some ⟨g, 0, none⟩) ∧ w = w') n
    ⟨n, Nat.le_refl _, rfl, by simp, by simp [ov, *], by simp [ov, *], rfl⟩ ?_
  clear s0 s1 σ
  rintro i σ wk ⟨_, hi, rfl, hnine, s4, s0, rfl⟩ RK KK HRK hKK
  have HNI := Lib.hid hnine
  clear hnine
  cases i with
  | zero =>
    rw [show ((0 : Nat) : Int) - 1 = -1 by omega] at s4
    have c0 := HD.out.digit 0 (by omega)
    ((repeat (go_wp2_with fail; first | (refine cdY ?_ ?_; focus (simp [ov, *]; done)) | (refine cdN ?_ ?_; focus (simp [ov, *]; done)))); go_wp2_with fail)
    refine end_F rfl ⟨rfl, ⟨fun _ => ?_, fun h => absurd h (by omega)⟩, (((Gr.refl w g).set _ _).set _ _).set _ _⟩
    have hq1 : q + 1 = 1 * 10 ^ n := by
      have h1 := HNI.out
      rw [Nat.sub_zero, Nat.div_eq_of_lt HQT.out, Nat.zero_add] at h1
      exact h1
    have hc := core_of hq1.symm (by decide)
    rw [hc.1, hc.2]
    have hd1 : nDig 1 = 1 := nDig_unique 0 1 (by decide) (by decide)
    refine ⟨by decide, bs.set 0 49, ?_, ?_⟩
    · rw [hd1]
      have hlen : bs.length = 800 := HD.out.len
      cases bs with
      | nil => simp at hlen
      | cons b l => rfl
    · rw [hd1]
      have h3 := ((HD.out.setDigit 0 (by omega) 49 (by omega) (by omega)).setNd 1).setDp (p + (L : Int) + 1)
      rw [show p + ((L - n : Nat) : Int) + (n : Int) + ((1 : Nat) : Int) = p + (L : Int) + 1 by omega]
      exact h3
  | succ i =>
    rw [show ((i + 1 : Nat) : Int) - 1 = (i : Int) by omega] at s4
    have c1 := HD.out.digit i (by omega)
    rw [digs_get bs q n HTK.out i (by omega), dg_toNat] at c1
    obtain ⟨j, hj⟩ : ∃ j, n - 1 - i = j := ⟨_, rfl⟩
    rw [hj] at c1
    have hj2 : n - (i + 1) = j := by omega
    rw [hj2] at HNI
    obtain ⟨x, hx⟩ : ∃ x, q / 10 ^ j % 10 = x := ⟨_, rfl⟩
    have hx9 : x ≤ 9 := by rw [← hx]; have : q / 10 ^ j % 10 < 10 := Nat.mod_lt _ (by omega); omega
    rw [hx, show ((48 + x : Nat) : Int) = 48 + (x : Int) by omega] at c1
    have HXX := Lib.hid hx
    have hi8 : (i : Int) < 800 := by omega
    clear hx
    by_cases h9 : x = 9
    · subst h9
      have hst := nines_step q j HNI.out HXX.out
      have HST := Lib.hid hst
      clear hst
      ((repeat (go_wp2_with fail; first | (refine cdY ?_ ?_; focus (simp [ov, *]; done)) | (refine cdN ?_ ?_; focus (simp [ov, *]; done)))); go_wp2_with fail)
      exact gotk HRK i (by omega) ⟨i, by omega, rfl, by rw [show n - i = j + 1 by omega]; exact HST.out, by simp [ov, *], by simp [ov, *], rfl⟩
    · have hx57 : (48 : Int) + (x : Int) < 57 := by omega
      ((repeat (go_wp2_with fail; first | (refine cdY ?_ ?_; focus (simp [ov, *]; done)) | (refine cdN ?_ ?_; focus (simp [ov, *]; done)))); go_wp2_with fail)
      go_still_tail 10, (by kernel_rfl)
      ((repeat (go_wp2_with fail; first | (refine cdY ?_ ?_; focus (simp [ov, *]; done)) | (refine cdN ?_ ?_; focus (simp [ov, *]; done)))); go_wp2_with fail)
      refine end_F_ret rfl ⟨rfl, ⟨fun _ => ?_, fun h => absurd h (by omega)⟩, ?_⟩
      · have hmod : (q / 10 ^ j + 1) % 10 ≠ 0 := by have := HXX.out; omega
        have hc := core_of HNI.out.symm hmod
        have hup : q / 10 ^ j + 1 < 10 ^ (i + 1) := by
          have h1 : q / 10 ^ j < 10 ^ (i + 1) := by
            rw [Nat.div_lt_iff_lt_mul (Nat.pow_pos (by omega)), ← Nat.pow_add, show i + 1 + j = n by omega]
            exact HQT.out
          rw [Nat.pow_succ] at h1 ⊢
          omega
        have hlow : 10 ^ i ≤ q / 10 ^ j + 1 := by
          have h1 := HQL.out (by omega)
          have h2 : 10 ^ i ≤ q / 10 ^ j := by
            rw [Nat.le_div_iff_mul_le (Nat.pow_pos (by omega)), ← Nat.pow_add, show i + j = n - 1 by omega]
            exact h1
          omega
        have hnd := nDig_unique i _ hlow hup
        have hlen : bs.length = 800 := HD.out.len
        rw [hc.1, hc.2]
        refine ⟨hmod, bs.set i (UInt8.ofNat (48 + (x : Int) + 1).toNat), ?_, ?_⟩
        · rw [hnd]
          refine take_digs _ _ _ (by rw [List.length_set]; omega) fun t ht => ?_
          rw [getD_set _ _ _ _ (by omega)]
          by_cases ht0 : t = 0
          · subst ht0
            rw [if_pos (by omega), show (48 + (x : Int) + 1).toNat = 48 + (x + 1) by omega]
            refine dg_of _ _ _ ?_
            rw [Nat.pow_zero, Nat.div_one]
            have := HXX.out
            omega
          · rw [if_neg (by omega), digs_get bs q n HTK.out _ (by omega)]
            obtain ⟨u, rfl⟩ : ∃ u, t = u + 1 := ⟨t - 1, by omega⟩
            unfold Lib.dg
            have e1 : (q / 10 ^ j + 1) / 10 ^ (u + 1) = q / 10 ^ j / 10 ^ (u + 1) := by
              rw [Nat.pow_succ, Nat.mul_comm, ← Nat.div_div_eq_div_mul, ← Nat.div_div_eq_div_mul]
              congr 1
              have := HXX.out
              omega
            rw [e1, Nat.div_div_eq_div_mul, ← Nat.pow_add]
            congr 5; omega
        · rw [hnd]
          have h3 := ((HD.out.setDigit i (by omega) (48 + (x : Int) + 1) (by omega) (by omega)).setNd ((i : Int) + 1)).drew
          rw [show p + ((L - n : Nat) : Int) + (j : Int) + ((i + 1 : Nat) : Int) = p + (L : Int) by omega]
          rw [show ((i + 1 : Nat) : Int) = (i : Int) + 1 by omega]
          exact h3
      · exact (((Gr.refl w g).set _ _).set _ _).drew

theorem DecV.grown {w w' : World} {row : Option Nat} {g M : Nat} {p : Int} {ng : Bool} (h : DecV w g M p ng) (hg : w.grownBy w' row) (hne : some g ≠ row) : DecV w' g M p ng :=
  ⟨fun h0 => (h.pos h0).grown hg hne, fun h0 => by obtain ⟨bs, hb⟩ := h.zero h0; exact ⟨bs, hb.grown hg hne⟩⟩

/-- What Round makes of N * 10^p: the number and its exponent. -/
def rndD (N : Nat) (p n : Int) : Nat × Int := if 0 ≤ n ∧ n < nDig N then (rndQ N (nDig N - n.toNat), p + (nDig N - n.toNat : Nat)) else (N, p)

theorem DecN.toV {w : World} {g N : Nat} {p : Int} {ng : Bool} (h : DecN w g N p ng) : DecV w g N p ng := by
  have h0 : N ≠ 0 := by intro e; have := h.ne; rw [e] at this; simp at this
  refine ⟨fun _ => ?_, fun e => absurd e h0⟩
  rw [core_no h.ne, tz_no h.ne]
  simpa using h

set_option maxRecDepth 100000 in
set_option maxHeartbeats 1000000 in
theorem Round_any (g N : Nat) (n p : Int) (ng : Bool) (w : World) (hd : DecN w g N p ng) (hL8 : nDig N ≤ 800) (hp1 : -2000 ≤ p) (hp2 : p ≤ 2000) :
    Calls Tryz.prog 142 #[.pointer (some ⟨g, 0, none⟩), .int .i64 n] w fun r w' =>
      r = .returned (.tuple #[]) ∧ DecV w' g (rndD N p n).1 (rndD N p n).2 ng ∧ Gr w w' g := by
  have hlt : g < w.heap.size := by obtain ⟨_, bs, _, hd⟩ := hd; exact hd.lt
  have d1 : w.cell? ⟨g, 800, none⟩ = some (.int .i64 (nDig N : Nat)) := by obtain ⟨_, bs, _, hd⟩ := hd; exact hd.cnd
  obtain ⟨L, hL⟩ : ∃ L, nDig N = L := ⟨_, rfl⟩
  have HD := Lib.hid hd
  have hL8' := hL8
  rw [hL] at d1 hL8
  have HL := Lib.hid hL
  have HL8 := Lib.hid hL8'
  clear hd hL hL8'
  refine calls_F Tryz.func142 rfl (by rw [Tryz.ntmps142]; simp) ?_
  intro σ hσ
  rw [Tryz.ntmps142]
  have s0 : σ 0 = .pointer (some ⟨g, 0, none⟩) := hσ 0 (by simp)
  have s1 : σ 1 = .int .i64 n := hσ 1 (by simp)
  clear hσ
  by_cases hin : 0 ≤ n ∧ n < (L : Int)
  · obtain ⟨h0, h1⟩ := hin
    obtain ⟨k, rfl⟩ : ∃ k : Nat, n = (k : Int) := ⟨n.toNat, by omega⟩
    have hkL : k < L := by omega
    have hni2 : decide (L ≤ k) = false := by simp; omega
    have hn0 : decide ((k : Int) < 0) = false := by simp
    have hres : rndD N p (k : Int) = (N / 10 ^ (nDig N - k) + (if rndUp N (nDig N - k) then 1 else 0), p + (nDig N - k : Nat)) := by
      unfold rndD rndQ
      rw [if_pos (by have := HL.out; omega), Int.toNat_natCast]
    have HRES := Lib.hid hres
    clear hres
    ((repeat (go_wp2_with fail; first | (refine cdY ?_ ?_; focus (simp [ov, *]; done)) | (refine cdN ?_ ?_; focus (simp [ov, *]; done)))); go_wp2_with fail)
    refine (should_any g N k p ng _ HD.out (by rw [HL.out]; exact hkL) HL8.out).mono ?_
    rintro e w7 ⟨rfl, rfl⟩
    go_wp2_with fail
    refine cond_F (rndUp N (nDig N - k)) (by simp [ov, *]) (by decide) (fun h => ?_) (fun h => ?_)
    · rw [h] at HRES
      have HUP := Lib.hid h
      clear h
      go_wp2_with fail
      refine (RoundUp_any g N k p ng _ HD.out (by rw [HL.out]; exact hkL) HL8.out hp1 hp2).mono ?_
      rintro e w8 ⟨rfl, hd8, hg8⟩
      go_wp2_with fail
      exact end_F rfl ⟨rfl, by rw [HRES.out]; exact hd8, hg8⟩
    · rw [h] at HRES
      have HUP := Lib.hid h
      clear h
      go_wp2_with fail
      refine (RoundDown_any g N k p ng _ HD.out (by rw [HL.out]; exact hkL) HL8.out).mono ?_
      rintro e w8 ⟨rfl, hd8, hg8⟩
      go_wp2_with fail
      exact end_F rfl ⟨rfl, by rw [HRES.out]; exact hd8, hg8⟩
  · have hres : rndD N p n = (N, p) := by
      unfold rndD
      rw [if_neg (by rw [HL.out]; exact hin)]
    have HRES := Lib.hid hres
    clear hres
    by_cases hneg : n < 0
    · clear hin
      ((repeat (go_wp2_with fail; first | (refine cdY ?_ ?_; focus (simp [ov, *]; done)) | (refine cdN ?_ ?_; focus (simp [ov, *]; done)))); go_wp2_with fail)
      exact end_F_ret rfl ⟨rfl, by rw [HRES.out]; exact HD.out.toV, Gr.refl w g⟩
    · have hge : (L : Int) ≤ n := by omega
      have hneg' : decide (n < 0) = false := by simpa using hneg
      clear hin
      ((repeat (go_wp2_with fail; first | (refine cdY ?_ ?_; focus (simp [ov, *]; done)) | (refine cdN ?_ ?_; focus (simp [ov, *]; done)))); go_wp2_with fail)
      exact end_F_ret rfl ⟨rfl, by rw [HRES.out]; exact HD.out.toV, Gr.refl w g⟩
end Go.Proofs.YticlnihjhcepkaaGreatDoor

/-
  Walks: Assign, Shift.
-/
namespace Go.Proofs.YticlnihjhcepkaaGreatDoor
open Go.RowKit
set_option linter.unusedSimpArgs false
set_option linter.unusedVariables false

theorem Gr.setNew {w w1 : World} {g b : Nat} (h : Gr w w1 g) (hb : w.heap.size ≤ b) (i : Nat) (u : Value) : Gr w (w1.setCell ⟨b, i, none⟩ u) g :=
  grown_trans h (grown_setCell w1 ⟨b, i, none⟩ u) (fun j e hj => by cases e; dsimp only at hj; omega)
theorem Gr.alloc {w w1 : World} {g : Nat} (h : Gr w w1 g) (o : Obj) : Gr w (w1.alloc o) g := h.trans (World.grownBy_alloc w1 o _)
theorem Dec.setOther {w : World} {g b : Nat} {bs : List UInt8} {nd dp : Int} {ng tr : Bool} (h : Dec w g bs nd dp ng tr) (hb : g ≠ b) (i : Nat) (u : Value) : Dec (w.setCell ⟨b, i, none⟩ u) g bs nd dp ng tr :=
  ⟨h.1, h.2.setCell_other hb u⟩
theorem BRow.setOther {w : World} {g b : Nat} {bs : List UInt8} (h : BRow w g bs) (hb : g ≠ b) (i : Nat) (u : Value) : BRow (w.setCell ⟨b, i, none⟩ u) g bs := Row.setCell_other h hb u
theorem BRow.cellD {w : World} {g : Nat} {bs : List UInt8} (h : BRow w g bs) (i : Nat) (hi : i < bs.length) : w.cell? ⟨g, i, none⟩ = some (.int .u8 ((bs.getD i 0).toNat : Int)) := by
  rw [h.row.cell, List.getElem?_map, List.getD_eq_getElem?_getD, List.getElem?_eq_getElem hi]
  rfl
theorem BRow.setD {w : World} {g : Nat} {bs : List UInt8} (h : BRow w g bs) (i : Nat) (c : Int) (h1 : 0 ≤ c) (h2 : c < 256) : BRow (w.setCell ⟨g, i, none⟩ (.int .u8 c)) g (bs.set i (UInt8.ofNat c.toNat)) := by
  have := Row.setCell h i (.int .u8 c)
  rw [← encB_of c h1 h2, ← List.map_set] at this
  rw [encB_of c h1 h2] at this
  exact this

set_option maxRecDepth 100000 in
set_option maxHeartbeats 1000000 in
theorem Assign_any (g v : Nat) (bs : List UInt8) (nd dp : Int) (ng : Bool) (w : World) (hd : Dec w g bs nd dp ng false) (hv : v < 18446744073709551616) :
    Calls Tryz.prog 140 #[.pointer (some ⟨g, 0, none⟩), .int .u64 (v : Int)] w fun r w' =>
      r = .returned (.tuple #[]) ∧ DecV w' g v 0 ng ∧ Gr w w' g := by
  have hlt := hd.lt
  have HD := Lib.hid hd
  have hn20 := nDig_le v hv
  obtain ⟨L, hL⟩ : ∃ L, nDig v = L := ⟨_, rfl⟩
  rw [hL] at hn20
  have hvL : v < 10 ^ L := by rw [← hL]; exact lt_pow_nDig v
  have HL := Lib.hid hL
  have HVL := Lib.hid hvL
  clear hd hL hvL
  refine calls_F Tryz.func140 rfl (by rw [Tryz.ntmps140]; simp) ?_
  intro σ hσ
  rw [Tryz.ntmps140]
  have s0 : σ 0 = .pointer (some ⟨g, 0, none⟩) := hσ 0 (by simp)
  have s1 : σ 1 = .int .u64 (v : Int) := hσ 1 (by simp)
  clear hσ
  go_wp2_with fail
  have hrow : BRow (w.alloc (Obj.cells ((List.replicate 24 (0 : UInt8)).map encB).toArray 188)) w.heap.size (List.replicate 24 0) := Row.new w _ _
  have hdec : Dec (w.alloc (Obj.cells ((List.replicate 24 (0 : UInt8)).map encB).toArray 188)) g bs nd dp ng false := HD.out.grown (World.grownBy_alloc w _ none) (by simp)
  have hgr := (Gr.refl w g).alloc (Obj.cells ((List.replicate 24 (0 : UInt8)).map encB).toArray 188)
  obtain ⟨b, hb⟩ : ∃ b, w.heap.size = b := ⟨_, rfl⟩
  rw [hb] at hrow
  have hgb : g ≠ b := by omega
  have HB := Lib.hid hb
  refine loop_F (fun kk s' w' => ∃ (n u : Nat) (ds : List UInt8), n ≤ L ∧ kk = u ∧ u = v / 10 ^ n ∧ (n = L ∨ 0 < u) ∧ ds.length = 24 ∧ (∀ j, j < n → ds.getD j 0 = Lib.dg v j) ∧ s' 0 = .pointer (some ⟨g, 0, none⟩) ∧ s' 1 = .int .u64 (u : Int) ∧ s' 4 = .pointer (some ⟨b, 0, none⟩) ∧ s' 5 = .int .i64 (n : Int) ∧ BRow w' b ds ∧ Dec w' g bs nd dp ng false ∧ Gr w w' g) v
    ⟨0, v, List.replicate 24 0, Nat.zero_le _, rfl, by simp, ?_, by simp, fun j hj => absurd hj (by omega), by simp [ov, *], by simp [ov, *], by simp [ov, *], by simp [ov, *], hrow, hdec, hgr⟩ ?_
  · by_cases h0 : v = 0
    · left; rw [← HL.out, h0, nDig_zero]
    · right; omega
  clear s0 s1 σ hrow hdec hgr HD hb
  rintro u σ wk ⟨n, _, ds, hn, rfl, hu, hnu, hdl, hds, s0, s1, s4, s5, hrow, hdec, hgr⟩ RK KK HRK hKK
  have hb1 := hrow.row.lt
  have hg1 := hdec.lt
  have fzb := hrow.row.frozen
  have HU := Lib.hid hu
  have HDL := Lib.hid hdl
  have HDS := Lib.hid hds
  have HROW := Lib.hid hrow
  have HDEC := Lib.hid hdec
  have HGR := Lib.hid hgr
  have hu64 : u < 18446744073709551616 := by rw [hu]; exact Nat.lt_of_le_of_lt (Nat.div_le_self _ _) hv
  clear hu hdl hds hrow hdec hgr
  by_cases hz : u = 0
  · subst hz
    have hnL : n = L := by omega
    subst hnL
    have d1 := HDEC.out.cnd
    have fz := HDEC.out.frozen
    ((repeat (go_wp2_with fail; first | (refine cdY ?_ ?_; focus (simp [ov, *]; done)) | (refine cdN ?_ ?_; focus (simp [ov, *]; done)))); go_wp2_with fail)
    have hdec2 := HDEC.out.setNd 0
    have hrow2 := HROW.out.setOther (Ne.symm hgb) 800 (.int .i64 0)
    have hgr2 := HGR.out.set 800 (.int .i64 0)
    refine loop_F (fun kk s' w' => ∃ (i : Nat) (bs' : List UInt8), i ≤ n ∧ kk = i ∧ (∀ t, t < n - i → bs'.getD t 0 = Lib.dg v (n - 1 - t)) ∧ s' 0 = .pointer (some ⟨g, 0, none⟩) ∧ s' 4 = .pointer (some ⟨b, 0, none⟩) ∧ s' 5 = .int .i64 ((i : Int) - 1) ∧ BRow w' b ds ∧ Dec w' g bs' ((n : Int) - i) dp ng false ∧ Gr w w' g) n
      ⟨n, bs, Nat.le_refl _, rfl, fun t ht => absurd ht (by omega), by simp [ov, *], by simp [ov, *], by simp [ov, *], hrow2, by rw [Int.sub_self]; exact hdec2, hgr2⟩ ?_
    clear s0 s1 s4 s5 σ hrow2 hdec2 hgr2 HROW HDEC HGR hb1 hg1 fzb d1 fz HRK hKK
    rintro i σ wl ⟨_, bs2, hi, rfl, hbs, s0, s4, s5, hrow, hdec, hgr⟩ RL KL HRL hKL
    have hb1 := hrow.row.lt
    have hg1 := hdec.lt
    have fz := hdec.frozen
    have d1 := hdec.cnd
    have HBS := Lib.hid hbs
    have HROW := Lib.hid hrow
    have HDEC := Lib.hid hdec
    have HGR := Lib.hid hgr
    clear hbs hrow hdec hgr
    cases i with
    | zero =>
      rw [show ((0 : Nat) : Int) - 1 = -1 by omega] at s5
      rw [show (n : Int) - ((0 : Nat) : Int) = (n : Int) by omega] at d1 HDEC
      have d2 := HDEC.out.cdp
      ((repeat (go_wp2_with fail; first | (refine cdY ?_ ?_; focus (simp [ov, *]; done)) | (refine cdN ?_ ?_; focus (simp [ov, *]; done)))); go_wp2_with fail)
      refine (trim_any g n bs2 _ ng false _ (HDEC.out.setDp _) (by omega)).mono ?_
      rintro e w7 ⟨rfl, hd7, hg7⟩
      go_wp2_with fail
      have htk : bs2.take n = digs v n := take_digs bs2 v n (by rw [HDEC.out.len]; omega) (fun j hj => by
        rw [HBS.out _ (by omega)]; congr 1; omega)
      refine end_F rfl ⟨rfl, ⟨fun h0 => ?_, fun h0 => ?_⟩, (HGR.out.set _ _).trans hg7⟩
      · refine DecN.of_trim (p := 0) h0 (by rw [HL.out]; exact htk) (by rw [HL.out]; exact hd7) (by rw [HL.out]; omega)
      · have : n = 0 := by rw [← HL.out, h0, nDig_zero]
        subst this
        exact ⟨bs2, hd7⟩
    | succ i =>
      rw [show ((i + 1 : Nat) : Int) - 1 = (i : Int) by omega] at s5
      obtain ⟨m, hm⟩ : ∃ m, n - (i + 1) = m := ⟨_, rfl⟩
      rw [show (n : Int) - ((i + 1 : Nat) : Int) = (m : Int) by omega] at d1 HDEC
      have hdl := HDL.out
      have c1 := HROW.out.cellD i (by omega)
      rw [HDS.out i (by omega)] at c1
      have hc57 := isDig_dg v i
      obtain ⟨c, hc⟩ : ∃ c, Lib.dg v i = c := ⟨_, rfl⟩
      rw [hc] at c1 hc57
      unfold isDig at hc57
      have HC := Lib.hid hc
      obtain ⟨vm, hvm⟩ : ∃ x, wl.cell? ⟨g, m, none⟩ = some x := ⟨_, HDEC.out.digit m (by omega)⟩
      have hm8 : (m : Int) < 800 := by omega
      have hi8 : (i : Int) < 24 := by omega
      clear hc hdl
      ((repeat (go_wp2_with fail; first | (refine cdY ?_ ?_; focus (simp [ov, *]; done)) | (refine cdN ?_ ?_; focus (simp [ov, *]; done)))); go_wp2_with fail)
      go_still_tail 11, (by kernel_rfl)
      ((repeat (go_wp2_with fail; first | (refine cdY ?_ ?_; focus (simp [ov, *]; done)) | (refine cdN ?_ ?_; focus (simp [ov, *]; done)))); go_wp2_with fail)
      have hlen : bs2.length = 800 := HDEC.out.len
      refine gotk HRL i (by omega) ⟨i, bs2.set m (UInt8.ofNat ((c.toNat : Nat) : Int).toNat), by omega, rfl, ?_, by simp [ov, *], by simp [ov, *], by simp [ov, *], ?_, ?_, ?_⟩
      · intro t ht
        rw [getD_set _ _ _ _ (by omega)]
        by_cases htm : m = t
        · subst htm
          rw [if_pos rfl, Int.toNat_natCast, ← HC.out]
          have h1 : n - 1 - m = i := by omega
          rw [h1]
          apply UInt8.toNat_inj.1
          rw [UInt8.toNat_ofNat']
          have := dg_toNat v i
          have h2 : v / 10 ^ i % 10 < 10 := Nat.mod_lt _ (by omega)
          omega
        · rw [if_neg htm]
          exact HBS.out t (by omega)
      · exact ((HROW.out.setOther (Ne.symm hgb) _ _).setOther (Ne.symm hgb) _ _)
      · have h3 := ((HDEC.out.setDigit m (by omega) (c.toNat : Int) (by omega) (by omega)).setNd ((m : Int) + 1)).drew
        rw [show (n : Int) - (i : Int) = (m : Int) + 1 by omega]
        exact h3
      · exact ((HGR.out.set _ _).set _ _).drew
  · have hnL : n < L := by
      rcases Nat.lt_or_ge n L with h | h
      · exact h
      · exfalso
        have h1 := HU.out
        rw [show n = L by omega, Nat.div_eq_of_lt HVL.out] at h1
        exact hz h1
    obtain ⟨vm, hvm⟩ : ∃ x, wk.cell? ⟨b, n, none⟩ = some x := ⟨_, HROW.out.cellD n (by rw [HDL.out]; omega)⟩
    have hn24 : (n : Int) < 24 := by omega
    have hu0 : 0 < u := by omega
    clear hz
    ((repeat (go_wp2_with fail; first | (refine cdY ?_ ?_; focus (simp [ov, *]; done)) | (refine cdN ?_ ?_; focus (simp [ov, *]; done)))); go_wp2_with fail)
    have hdl := HDL.out
    refine gotk HRK (u / 10) (by omega) ⟨n + 1, u / 10, ds.set n (UInt8.ofNat ((u : Int) - 10 * ((u : Int) / 10) + 48).toNat), by omega, rfl, ?_, ?_, by rw [List.length_set]; exact hdl, ?_, by simp [ov, *], by simp [over_cons, over_nil], by simp [ov, *], by simp [over_cons, over_nil], HROW.out.setD n _ (by omega) (by omega), HDEC.out.setOther hgb _ _, HGR.out.setNew (by rw [HB.out]; exact Nat.le_refl _) _ _⟩
    · rw [HU.out, Nat.div_div_eq_div_mul, ← Nat.pow_succ]
    · by_cases h : n + 1 = L
      · exact Or.inl h
      · right
        have hv0 : v ≠ 0 := by intro e; have := HU.out; rw [e, Nat.zero_div] at this; omega
        have h1 := nDig_low hv0
        rw [HL.out] at h1
        rw [HU.out, Nat.div_div_eq_div_mul, ← Nat.pow_succ]
        refine Nat.div_pos (Nat.le_trans (Nat.pow_le_pow_right (by omega) (by omega)) h1) (Nat.pow_pos (by omega))
    · intro j hj
      rw [getD_set _ _ _ _ (by omega)]
      by_cases hjn : n = j
      · subst hjn
        rw [if_pos rfl, show ((u : Int) - 10 * ((u : Int) / 10) + 48).toNat = 48 + u % 10 by omega]
        exact dg_of _ _ _ (by rw [← HU.out])
      · rw [if_neg hjn]
        exact HDS.out j (by omega)

/-- What Shift makes of N * 10^p. -/
def shD (N : Nat) (p k : Int) : Nat × Int := if 0 ≤ k then (core (N * 2 ^ k.toNat), p + tz (N * 2 ^ k.toNat)) else (core (N * 5 ^ (-k).toNat), p + k + tz (N * 5 ^ (-k).toNat))

theorem core_mul (M c : Nat) (h0 : M ≠ 0) (hc : c ≠ 0) : core (core M * c) = core (M * c) ∧ tz M + tz (core M * c) = tz (M * c) := by
  have h1 := core_spec M h0
  have hx : core M * c ≠ 0 := Nat.mul_ne_zero (core_ne M h0) hc
  have h2 := core_spec (core M * c) hx
  have h3 := core_of (A := core (core M * c)) (a := tz M + tz (core M * c)) (M := M * c) (by
    rw [Nat.add_comm, Nat.pow_add, ← Nat.mul_assoc, h2.1, Nat.mul_right_comm, h1.1]) h2.2
  exact ⟨h3.1.symm, h3.2.symm⟩

theorem nDig_core_le (M : Nat) (h0 : M ≠ 0) : nDig (core M) ≤ nDig M := by have := nDig_core M h0; omega

set_option maxRecDepth 100000 in
set_option maxHeartbeats 1000000 in
theorem Shift_any (T g N : Nat) (p k : Int) (ng : Bool) (w : World) (he : Env T w) (hgT : T ≤ g) (hd : DecN w g N p ng)
    (hk1 : -1100 ≤ k) (hk2 : k ≤ 1000) (hp1 : 0 ≤ p) (hp2 : p ≤ 20) (hM1 : 0 ≤ k → nDig (N * 2 ^ k.toNat) ≤ 781) (hM2 : k < 0 → nDig (N * 5 ^ (-k).toNat) ≤ 800) :
    Calls Tryz.prog 141 #[.pointer (some ⟨g, 0, none⟩), .int .i64 k] w fun r w' =>
      r = .returned (.tuple #[]) ∧ DecN w' g (shD N p k).1 (shD N p k).2 ng ∧ Gr w w' g := by
  have hne := hd.ne
  have hN0 : N ≠ 0 := by intro e; rw [e] at hne; simp at hne
  have hL1 := nDig_pos hN0
  have hlt : g < w.heap.size := by obtain ⟨_, bs, _, hd⟩ := hd; exact hd.lt
  have d1 : w.cell? ⟨g, 800, none⟩ = some (.int .i64 (nDig N : Nat)) := by obtain ⟨_, bs, _, hd⟩ := hd; exact hd.cnd
  obtain ⟨L, hL⟩ : ∃ L, nDig N = L := ⟨_, rfl⟩
  rw [hL] at d1 hL1
  have hLz : ((L : Int) == 0) = false := by rw [beq_eq_false_iff_ne]; omega
  have HD := Lib.hid hd
  have HE := Lib.hid he
  have HNE := Lib.hid hne
  have HN0 := Lib.hid hN0
  clear hd he hne hN0 hL
  refine calls_F Tryz.func141 rfl (by rw [Tryz.ntmps141]; simp) ?_
  intro σ hσ
  rw [Tryz.ntmps141]
  have s0 : σ 0 = .pointer (some ⟨g, 0, none⟩) := hσ 0 (by simp)
  have s1 : σ 1 = .int .i64 k := hσ 1 (by simp)
  clear hσ
  rcases Int.lt_trichotomy k 0 with hk | hk | hk
  · obtain ⟨n, rfl⟩ : ∃ n : Nat, k = -(n : Int) := ⟨(-k).toNat, by omega⟩
    have hM := hM2 hk
    rw [Int.neg_neg, Int.toNat_natCast] at hM
    have hres : shD N p (-(n : Int)) = (core (N * 5 ^ n), p - n + tz (N * 5 ^ n)) := by
      unfold shD; rw [if_neg (by omega), Int.neg_neg, Int.toNat_natCast]; rfl
    have HRES := Lib.hid hres
    have HM := Lib.hid hM
    have hk' : decide (0 < -(n : Int)) = false := by simp
    have hn0 : 1 ≤ n := by omega
    have hn00 : 0 < n := by omega
    clear hM1 hM2 hres hM
    ((repeat (go_wp2_with fail; first | (refine cdY ?_ ?_; focus (simp [ov, *]; done)) | (refine cdN ?_ ?_; focus (simp [ov, *]; done)))); go_wp2_with fail)
    refine loop_F (fun kk s' w' => ∃ j : Nat, j < n ∧ kk = n - j ∧ s' 0 = .pointer (some ⟨g, 0, none⟩) ∧ s' 1 = .int .i64 (-((n : Int) - j)) ∧ DecN w' g (core (N * 5 ^ j)) (p - j + tz (N * 5 ^ j)) ng ∧ Gr w w' g) n
      ⟨0, by omega, rfl, by simp [ov, *], by simp [ov, *], by rw [Nat.pow_zero, Nat.mul_one, core_no HNE.out, tz_no HNE.out]; simpa using HD.out, Gr.refl w g⟩ ?_
    clear s0 s1 σ
    rintro kk σ wk ⟨j, hj, hkk, s0, s1, hdec, hgr⟩ RK KK HRK hKK
    have HKK := Lib.hid hkk
    have HDEC := Lib.hid hdec
    have HGR := Lib.hid hgr
    have hj0 : N * 5 ^ j ≠ 0 := Nat.mul_ne_zero HN0.out (Nat.ne_of_gt (Nat.pow_pos (by omega)))
    have HJ0 := Lib.hid hj0
    have htz : (tz (N * 5 ^ j) : Int) ≤ 800 := by
      have h1 := nDig_core (N * 5 ^ j) hj0
      have h2 := nDig_mono (N * 5 ^ j) (N * 5 ^ n) (Nat.mul_le_mul_left _ (Nat.pow_le_pow_right (by omega) (by omega)))
      have := HM.out
      omega
    have hnd : ∀ c, j + c ≤ n → nDig (core (N * 5 ^ j) * 5 ^ c) ≤ 800 := by
      intro c hc
      have h1 := core_spec (N * 5 ^ j) hj0
      have h2 : core (N * 5 ^ j) * 5 ^ c ≤ N * 5 ^ n := by
        have h3 : core (N * 5 ^ j) ≤ N * 5 ^ j := by
          have := Nat.le_mul_of_pos_right (core (N * 5 ^ j)) (Nat.pow_pos (n := tz (N * 5 ^ j)) (by omega : 0 < 10))
          omega
        refine Nat.le_trans (Nat.mul_le_mul_right _ h3) ?_
        rw [Nat.mul_assoc, ← Nat.pow_add]
        exact Nat.mul_le_mul_left _ (Nat.pow_le_pow_right (by omega) hc)
      exact Nat.le_trans (nDig_mono _ _ h2) HM.out
    have HND := Lib.hid hnd
    have hcm : ∀ c, core (core (N * 5 ^ j) * 5 ^ c) = core (N * 5 ^ (j + c)) ∧ tz (N * 5 ^ j) + tz (core (N * 5 ^ j) * 5 ^ c) = tz (N * 5 ^ (j + c)) := by
      intro c
      have := core_mul (N * 5 ^ j) (5 ^ c) hj0 (Nat.ne_of_gt (Nat.pow_pos (by omega)))
      rw [Nat.mul_assoc, ← Nat.pow_add] at this
      exact this
    have HCM := Lib.hid hcm
    obtain ⟨q, hq⟩ : ∃ q : Int, p - j + tz (N * 5 ^ j) = q := ⟨_, rfl⟩
    have hq1 : -1200 ≤ q := by omega
    have hq2 : q ≤ 1200 := by omega
    have HQ := Lib.hid hq
    rw [hq] at HDEC
    clear hkk hdec hgr hj0 htz hnd hcm hq
    by_cases hn60 : 60 < n - j
    · have ht : -((n : Int) - (j : Int)) < -60 := by omega
      ((repeat (go_wp2_with fail; first | (refine cdY ?_ ?_; focus (simp [ov, *]; done)) | (refine cdN ?_ ?_; focus (simp [ov, *]; done)))); go_wp2_with fail)
      refine (rightShift_N T g _ 60 q ng _ (HE.out.grown HGR.out (fun k e => by cases e; exact hgT)) hgT HDEC.out (by omega) (by omega) (HND.out 60 (by omega)) hq1 hq2).mono ?_
      rintro e w7 ⟨rfl, hd7, hg7⟩
      ((repeat (go_wp2_with fail; first | (refine cdY ?_ ?_; focus (simp [ov, *]; done)) | (refine cdN ?_ ?_; focus (simp [ov, *]; done)))); go_wp2_with fail)
      refine gotk HRK (n - (j + 60)) (by have := HKK.out; omega) ⟨j + 60, by omega, rfl, by simp [ov, *], ?_, ?_, HGR.out.trans hg7⟩
      · have : -((n : Int) - ((j + 60 : Nat) : Int)) = -((n : Int) - (j : Int)) + 60 := by omega
        rw [this]; simp [over_cons, over_nil]
      · have h1 := HCM.out 60
        rw [h1.1] at hd7
        rw [show p - ((j + 60 : Nat) : Int) + (tz (N * 5 ^ (j + 60)) : Int) = q - ((60 : Nat) : Int) + (tz (core (N * 5 ^ j) * 5 ^ 60) : Int) by rw [← h1.2, ← HQ.out]; omega]
        exact hd7
    · obtain ⟨c, hc⟩ : ∃ c, n - j = c := ⟨_, rfl⟩
      have ht : decide (-((n : Int) - (j : Int)) < -60) = false := by simp; omega
      have hci : -(-((n : Int) - (j : Int))) = (c : Int) := by omega
      rw [show -((n : Int) - (j : Int)) = -(c : Int) by omega] at s1 ht
      have hc64 : IntKind.u64.wrap (c : Int) = (c : Int) := by rw [IntKind.wrap_u64]; omega
      have hc0 : (c : Int) ≤ 60 := by omega
      clear hci
      ((repeat (go_wp2_with fail; first | (refine cdY ?_ ?_; focus (simp [ov, *]; done)) | (refine cdN ?_ ?_; focus (simp [ov, *]; done)))); go_wp2_with fail)
      refine (rightShift_N T g _ c q ng _ (HE.out.grown HGR.out (fun k e => by cases e; exact hgT)) hgT HDEC.out (by omega) (by omega) (HND.out c (by omega)) hq1 hq2).mono ?_
      rintro e w7 ⟨rfl, hd7, hg7⟩
      ((repeat (go_wp2_with fail; first | (refine cdY ?_ ?_; focus (simp [ov, *]; done)) | (refine cdN ?_ ?_; focus (simp [ov, *]; done)))); go_wp2_with fail)
      refine end_F rfl ⟨rfl, ?_, HGR.out.trans hg7⟩
      have h1 := HCM.out c
      rw [show j + c = n by omega] at h1
      rw [HRES.out]
      rw [h1.1] at hd7
      dsimp only
      rw [show p - (n : Int) + (tz (N * 5 ^ n) : Int) = q - (c : Int) + (tz (core (N * 5 ^ j) * 5 ^ c) : Int) by rw [← h1.2, ← HQ.out]; omega]
      exact hd7
  · subst hk
    have hres : shD N p 0 = (N, p) := by
      unfold shD
      rw [if_pos (by omega)]
      have h1 := HNE.out
      rw [show ((0 : Int).toNat) = 0 by rfl, Nat.pow_zero, Nat.mul_one, core_no h1, tz_no h1]
      simp
    have HRES := Lib.hid hres
    clear hres hM1 hM2
    ((repeat (go_wp2_with fail; first | (refine cdY ?_ ?_; focus (simp [ov, *]; done)) | (refine cdN ?_ ?_; focus (simp [ov, *]; done)))); go_wp2_with fail)
    refine end_F rfl ⟨rfl, by rw [HRES.out]; exact HD.out, Gr.refl w g⟩
  · obtain ⟨n, rfl⟩ : ∃ n : Nat, k = (n : Int) := ⟨k.toNat, by omega⟩
    have hM := hM1 (by omega)
    rw [Int.toNat_natCast] at hM
    have hres : shD N p (n : Int) = (core (N * 2 ^ n), p + tz (N * 2 ^ n)) := by
      unfold shD; rw [if_pos (by omega), Int.toNat_natCast]
    have HRES := Lib.hid hres
    have HM := Lib.hid hM
    have hn0 : 1 ≤ n := by omega
    have hn00 : 0 < n := by omega
    clear hM1 hM2 hres hM
    ((repeat (go_wp2_with fail; first | (refine cdY ?_ ?_; focus (simp [ov, *]; done)) | (refine cdN ?_ ?_; focus (simp [ov, *]; done)))); go_wp2_with fail)
    refine loop_F (fun kk s' w' => ∃ j : Nat, j < n ∧ kk = n - j ∧ s' 0 = .pointer (some ⟨g, 0, none⟩) ∧ s' 1 = .int .i64 ((n : Int) - j) ∧ DecN w' g (core (N * 2 ^ j)) (p + tz (N * 2 ^ j)) ng ∧ Gr w w' g) n
      ⟨0, by omega, rfl, by simp [ov, *], by simp [ov, *], by rw [Nat.pow_zero, Nat.mul_one, core_no HNE.out, tz_no HNE.out]; simpa using HD.out, Gr.refl w g⟩ ?_
    clear s0 s1 σ
    rintro kk σ wk ⟨j, hj, hkk, s0, s1, hdec, hgr⟩ RK KK HRK hKK
    have HKK := Lib.hid hkk
    have HDEC := Lib.hid hdec
    have HGR := Lib.hid hgr
    have hj0 : N * 2 ^ j ≠ 0 := Nat.mul_ne_zero HN0.out (Nat.ne_of_gt (Nat.pow_pos (by omega)))
    have HJ0 := Lib.hid hj0
    have htz : (tz (N * 2 ^ j) : Int) ≤ 781 := by
      have h1 := nDig_core (N * 2 ^ j) hj0
      have h2 := nDig_mono (N * 2 ^ j) (N * 2 ^ n) (Nat.mul_le_mul_left _ (Nat.pow_le_pow_right (by omega) (by omega)))
      have := HM.out
      omega
    have hnd : ∀ c, j + c ≤ n → nDig (core (N * 2 ^ j) * 2 ^ c) ≤ 781 := by
      intro c hc
      have h1 := core_spec (N * 2 ^ j) hj0
      have h2 : core (N * 2 ^ j) * 2 ^ c ≤ N * 2 ^ n := by
        have h3 : core (N * 2 ^ j) ≤ N * 2 ^ j := by
          have := Nat.le_mul_of_pos_right (core (N * 2 ^ j)) (Nat.pow_pos (n := tz (N * 2 ^ j)) (by omega : 0 < 10))
          omega
        refine Nat.le_trans (Nat.mul_le_mul_right _ h3) ?_
        rw [Nat.mul_assoc, ← Nat.pow_add]
        exact Nat.mul_le_mul_left _ (Nat.pow_le_pow_right (by omega) hc)
      exact Nat.le_trans (nDig_mono _ _ h2) HM.out
    have HND := Lib.hid hnd
    have hcm : ∀ c, core (core (N * 2 ^ j) * 2 ^ c) = core (N * 2 ^ (j + c)) ∧ tz (N * 2 ^ j) + tz (core (N * 2 ^ j) * 2 ^ c) = tz (N * 2 ^ (j + c)) := by
      intro c
      have := core_mul (N * 2 ^ j) (2 ^ c) hj0 (Nat.ne_of_gt (Nat.pow_pos (by omega)))
      rw [Nat.mul_assoc, ← Nat.pow_add] at this
      exact this
    have HCM := Lib.hid hcm
    obtain ⟨q, hq⟩ : ∃ q : Int, p + tz (N * 2 ^ j) = q := ⟨_, rfl⟩
    have hq1 : -1200 ≤ q := by omega
    have hq2 : q ≤ 1200 := by omega
    have HQ := Lib.hid hq
    rw [hq] at HDEC
    clear hkk hdec hgr hj0 htz hnd hcm hq
    by_cases hn60 : 60 < n - j
    · have ht : 60 < (n : Int) - (j : Int) := by omega
      ((repeat (go_wp2_with fail; first | (refine cdY ?_ ?_; focus (simp [ov, *]; done)) | (refine cdN ?_ ?_; focus (simp [ov, *]; done)))); go_wp2_with fail)
      have hc60 : chN 60 ≤ 19 := (cheat_row 60 (by omega) (by omega)).le19
      have hn0c := HND.out 0 (by omega)
      rw [Nat.pow_zero, Nat.mul_one] at hn0c
      refine (leftShift_N T g _ 60 q ng _ (HE.out.grown HGR.out (fun k e => by cases e; exact hgT)) hgT HDEC.out (by omega) (by omega) (by omega) hq1 hq2).mono ?_
      rintro e w7 ⟨rfl, hd7, hg7⟩
      ((repeat (go_wp2_with fail; first | (refine cdY ?_ ?_; focus (simp [ov, *]; done)) | (refine cdN ?_ ?_; focus (simp [ov, *]; done)))); go_wp2_with fail)
      refine gotk HRK (n - (j + 60)) (by have := HKK.out; omega) ⟨j + 60, by omega, rfl, by simp [ov, *], ?_, ?_, HGR.out.trans hg7⟩
      · have : (n : Int) - ((j + 60 : Nat) : Int) = (n : Int) - (j : Int) - 60 := by omega
        rw [this]; simp [over_cons, over_nil]
      · have h1 := HCM.out 60
        rw [h1.1] at hd7
        rw [show p + (tz (N * 2 ^ (j + 60)) : Int) = q + (tz (core (N * 2 ^ j) * 2 ^ 60) : Int) by rw [← h1.2, ← HQ.out]; omega]
        exact hd7
    · obtain ⟨c, hc⟩ : ∃ c, n - j = c := ⟨_, rfl⟩
      have ht : decide (60 < c) = false := by simp; omega
      have ht2 : decide ((60 : Int) < (c : Int)) = false := by simp; omega
      rw [show (n : Int) - (j : Int) = (c : Int) by omega] at s1
      have hc64 : IntKind.u64.wrap (c : Int) = (c : Int) := by rw [IntKind.wrap_u64]; omega
      have hc0 : (c : Int) ≤ 60 := by omega
      ((repeat (go_wp2_with fail; first | (refine cdY ?_ ?_; focus (simp [ov, *]; done)) | (refine cdN ?_ ?_; focus (simp [ov, *]; done)))); go_wp2_with fail)
      have hcc : chN c ≤ 19 := (cheat_row c (by omega) (by omega)).le19
      have hn0c := HND.out 0 (by omega)
      rw [Nat.pow_zero, Nat.mul_one] at hn0c
      refine (leftShift_N T g _ c q ng _ (HE.out.grown HGR.out (fun k e => by cases e; exact hgT)) hgT HDEC.out (by omega) (by omega) (by omega) hq1 hq2).mono ?_
      rintro e w7 ⟨rfl, hd7, hg7⟩
      ((repeat (go_wp2_with fail; first | (refine cdY ?_ ?_; focus (simp [ov, *]; done)) | (refine cdN ?_ ?_; focus (simp [ov, *]; done)))); go_wp2_with fail)
      refine end_F rfl ⟨rfl, ?_, HGR.out.trans hg7⟩
      have h1 := HCM.out c
      rw [show j + c = n by omega] at h1
      rw [HRES.out]
      rw [h1.1] at hd7
      dsimp only
      rw [show p + (tz (N * 2 ^ n) : Int) = q + (tz (core (N * 2 ^ j) * 2 ^ c) : Int) by rw [← h1.2, ← HQ.out]; omega]
      exact hd7
end Go.Proofs.YticlnihjhcepkaaGreatDoor
