/-
  Lemmas and walks of functions, several texts in one.
-/
import Derived.Test.YthkcfpmlgoomfaaDoorGt
/-
  Walk of spec/text.go: ReadText.
-/
namespace Go.Proofs.YthkcfpmlgoomfaaDoor
open Go.RowKit
set_option linter.unusedSimpArgs false
set_option linter.unusedVariables false
attribute [local go_sem] undef

/-- A text that is well-formed. -/
structure Txt where
  kind : Int
  neg : Bool
  base : Nat
  digits : List Nat
  exp : Int

/-- Does a text begin with a sign? -/
def sgB : List UInt8 → Bool
  | [] => false
  | c :: _ => c == 43 || c == 45
def readU (neg : Bool) (u : List UInt8) : Option Txt :=
  if u = [105, 110, 102] ∨ u = [105, 110, 102, 105, 110, 105, 116, 121] then some ⟨1, neg, 0, [], 0⟩
  else (numE u).map (fun x => ⟨0, neg, nBase u, nDigits u, x⟩)
/-- How the reference reads a text. -/
def readL (s : List UInt8) : Option Txt :=
  if lowL s = [110, 97, 110] then some ⟨2, false, 0, [], 0⟩ else readU (sgL (lowL s)).1 (sgL (lowL s)).2

/-- v reads as these numbers, and lies in no block below T. -/
def RdN (T : Nat) (w : World) (v : Value) (xs : List Nat) : Prop := RdI w v xs ∧ ∀ k, v.ownBlock = some k → T ≤ k
theorem RdI.setc {w : World} {v : Value} {xs : List Nat} (h : RdI w v xs) (a : Addr) (u : Value) (hne : ∀ k, v.ownBlock = some k → k ≠ a.block) : RdI (w.setCell a u) v xs := by
  rcases h with h | ⟨g, c, rfl, h2, h3, h4⟩
  · exact Or.inl h
  · refine Or.inr ⟨g, c, rfl, h2, h3, fun j u' hu => ?_⟩
    rw [World.cell?_of_block (Below.heap_setCell w a u g (hne g rfl))]
    exact h4 j u' hu
theorem RdN.setc {T : Nat} {w : World} {v : Value} {xs : List Nat} (h : RdN T w v xs) (a : Addr) (u : Value) (hT : a.block < T) : RdN T (w.setCell a u) v xs :=
  ⟨h.1.setc a u (fun k hk => by have := h.2 k hk; omega), h.2⟩
theorem RdN.grown {T : Nat} {w w' : World} {v : Value} {xs : List Nat} (h : RdN T w v xs) (hg : w.grownBy w' none) : RdN T w' v xs := ⟨h.1.grown hg, h.2⟩
theorem RdN.le {T T' : Nat} {w : World} {v : Value} {xs : List Nat} (h : RdN T w v xs) (hT : T' ≤ T) : RdN T' w v xs := ⟨h.1, fun k hk => Nat.le_trans hT (h.2 k hk)⟩
theorem RdN.nil (T : Nat) (w : World) : RdN T w (.slice none 0 0) [] := ⟨Or.inl ⟨rfl, rfl⟩, fun k hk => by cases hk⟩
theorem RdN.of_own {T : Nat} {w : World} {v : Value} {xs : List Nat} (h : OwnI T w v xs) : RdN T w v xs := ⟨RdI.of_own h, h.2⟩

def ReadPost (s : List UInt8) (w : World) (e : Ending) (w' : World) : Prop := w.grownBy w' none ∧
  match readL s with
  | none => e = .returned (.tuple #[.agg textZ.toArray, .bool false])
  | some r => ∃ v, e = .returned (.tuple #[.agg #[.int .i64 r.kind, .bool r.neg, .int .i64 (r.base : Int), v, .int .i64 r.exp], .bool true]) ∧ RdN w.heap.size w' v r.digits
theorem readPost_none {s : List UInt8} {w w' : World} (h : readL s = none) (hg : w.grownBy w' none) : ReadPost s w (.returned (.tuple #[.agg textZ.toArray, .bool false])) w' := by
  unfold ReadPost; rw [h]; exact ⟨hg, rfl⟩
theorem readPost_some {s : List UInt8} {w w' : World} {r : Txt} {v : Value} (h : readL s = some r) (hg : w.grownBy w' none) (hr : RdN w.heap.size w' v r.digits) : ReadPost s w (.returned (.tuple #[.agg #[.int .i64 r.kind, .bool r.neg, .int .i64 (r.base : Int), v, .int .i64 r.exp], .bool true])) w' := by
  unfold ReadPost; rw [h]; exact ⟨hg, v, rfl, hr⟩

/-- Five cells are laid in a block of the call's own. -/
theorem grown_set5 {w w1 : World} (h : w.grownBy w1 none) {B : Nat} (hB : w.heap.size ≤ B) (u0 u1 u2 u3 u4 : Value) :
    w.grownBy (((((w1.setCell ⟨B, 0, none⟩ u0).setCell ⟨B, 1, none⟩ u1).setCell ⟨B, 2, none⟩ u2).setCell ⟨B, 3, none⟩ u3).setCell ⟨B, 4, none⟩ u4) none :=
  grown_setN (grown_setN (grown_setN (grown_setN (grown_setN h _ hB) _ hB) _ hB) _ hB) _ hB

set_option maxRecDepth 100000 in
set_option maxHeartbeats 8000000 in
theorem readText_any (s : List UInt8) (w : World) (hs : s.length ≤ 2000000) :
    Calls Tryd.prog 41 #[.string ⟨s.toArray⟩] w (ReadPost s w) := by
  have HLO := Lib.hid (fun W => lowered_any s W (by omega))
  have HNU := Lib.hid (fun (u : List UInt8) (hu : u.length ≤ 2000000) W => number_any u W hu)
  have hTl : (lowL s).length ≤ 2000000 := by unfold lowL; rw [List.length_map]; exact hs
  have hrd : readL s = if lowL s = [110, 97, 110] then some ⟨2, false, 0, [], 0⟩ else readU (sgL (lowL s)).1 (sgL (lowL s)).2 := rfl
  obtain ⟨T, hT⟩ : ∃ T, lowL s = T := ⟨_, rfl⟩
  rw [hT] at HLO hTl hrd
  have HRDL := Lib.hid hrd
  clear hT hrd hs
  refine calls_F Tryd.func41 rfl (by rw [Tryd.ntmps41]; simp) ?_
  intro σ hσ
  rw [Tryd.ntmps41]
  have s0 : σ 0 = .string ⟨s.toArray⟩ := hσ 0 (by simp)
  clear hσ
  obtain ⟨w1, hw1⟩ : ∃ w1, w.alloc (.cells textZ.toArray 60) = w1 := ⟨_, rfl⟩
  have hrB := Row.new w textZ 60
  have hgB := World.grownBy_alloc w (.cells textZ.toArray 60) none
  rw [hw1] at hrB hgB
  unfold textZ at hw1
  have HRB := Lib.hid hrB
  have HGB := Lib.hid hgB
  clear hrB hgB
  obtain ⟨B, hB⟩ : ∃ B, w.heap.size = B := ⟨_, rfl⟩
  go_wp2_with fail
  clear hw1
  rw [hB] at HRB
  have HB := Lib.hid hB
  clear hB
  refine (HLO.out _).mono ?_
  rintro e w2 ⟨rfl, hg2⟩
  have HRB2 := Lib.hid (HRB.out.grown hg2 (by simp))
  have HG2 := Lib.hid (grown_none_tr HGB.out hg2)
  have hBlt : B < w2.heap.size := HRB2.out.lt
  clear hg2 HRB HGB HLO
  have hBw : w.heap.size ≤ B := by have := HB.out; omega
  by_cases hnan : T = [110, 97, 110]
  · subst hnan
    have hr := HRDL.out
    rw [if_pos rfl] at hr
    have HR := Lib.hid hr
    have k0 := HRB2.out.cell 0
    have k1 := HRB2.out.cell 1
    have k2 := HRB2.out.cell 2
    have k3 := HRB2.out.cell 3
    have k4 := HRB2.out.cell 4
    have t0 := HRB2.out.frozen 0
    have t1 := HRB2.out.frozen 1
    have t2 := HRB2.out.frozen 2
    have t3 := HRB2.out.frozen 3
    have t4 := HRB2.out.frozen 4
    unfold textZ at k0 k1 k2 k3 k4
    simp only [List.getElem?_cons_zero, List.getElem?_cons_succ] at k0 k1 k2 k3 k4
    clear hr
    ((repeat (go_wp2_with fail; first | (refine cond_yes ?hc (by decide) ?_; (case hc => (simp [over_cons, over_nil, *]; done))) | (refine cond_no ?hc (by decide) ?_; (case hc => (simp [over_cons, over_nil, *]; done))))); go_wp2_with fail)
    obtain ⟨ty, hrow⟩ := ((((HRB2.out.setCell 0 (.int .i64 2)).setCell 1 (.bool false)).setCell 2 (.int .i64 0)).setCell 3 (.slice none 0 0)).setCell 4 (.int .i64 0)
    refine ret_cell_F (B := B) (.agg #[.int .i64 2, .bool false, .int .i64 0, .slice none 0 0, .int .i64 0]) (.bool true) rfl (by decide) (by decide) (by simp [over_cons, over_nil, *]) (by simp [over_cons, over_nil, *]) ?_ (readPost_some HR.out (grown_set5 HG2.out hBw _ _ _ _ _) (RdN.nil _ _))
    exact run_loadVar_row (P := Tryd.prog) _ B ty 60 _ (0, 0) _ hrow Tryd.underlying60 rfl (by kernel_rfl)
  have hr := HRDL.out
  rw [if_neg hnan] at hr
  have hnan' : (T == [110, 97, 110]) = false := by rw [beq_eq_false_iff_ne]; exact hnan
  obtain ⟨neg, u, hsg⟩ : ∃ neg u, sgL T = (neg, u) := ⟨_, _, rfl⟩
  rw [hsg] at hr
  have hul : u.length ≤ 2000000 := by
    cases T with
    | nil => simp only [sgL] at hsg; cases hsg; simp
    | cons c r =>
      simp only [sgL] at hsg
      rw [List.length_cons] at hTl
      split at hsg
      · cases hsg; omega
      · split at hsg
        · cases hsg; omega
        · cases hsg; rw [List.length_cons]; omega
  have HR := Lib.hid hr
  have HSG := Lib.hid hsg
  clear hr hsg HRDL hnan
  go_wp2_with fail
  refine cond_no (by simp [over_cons, over_nil, *]) (by decide) ?_
  go_upto_region 5 with fail
  refine cut_F (fun s' w' => s' 24 = .bool (sgB T) ∧ s' 2 = .pointer (some ⟨B, 0, none⟩) ∧ s' 4 = .string ⟨T.toArray⟩ ∧ s' 5 = .bool false ∧ w2 = w') ?_ ?_
  · intro R' K' HR hK'
    cases T with
    | nil =>
      have hb : sgB [] = false := rfl
      rw [hb] at HR
      clear hb hnan'
      ((repeat (go_wp2_with fail; first | (refine cond_yes ?hc (by decide) ?_; (case hc => (simp [over_cons, over_nil, *]; done))) | (refine cond_no ?hc (by decide) ?_; (case hc => (simp [over_cons, over_nil, *]; done))))); go_wp2_with fail)
      exact got HR ⟨by simp [over_cons, over_nil, *], by simp [over_cons, over_nil, *], by simp [over_cons, over_nil, *], by simp [over_cons, over_nil, *], rfl⟩
    | cons c r =>
      have hidx0 := str_idx (c :: r) 0 (by simp)
      have hg0 : (c :: r).getD 0 0 = c := rfl
      rw [hg0] at hidx0
      have hsz : (⟨(c :: r).toArray⟩ : ByteArray).size = r.length + 1 := by simp [ByteArray.size]
      clear hg0 hnan'
      by_cases h1 : c = 43
      · subst h1
        have hb : sgB (43 :: r) = true := rfl
        rw [hb] at HR
        clear hb
        ((repeat (go_wp2_with fail; first | (refine cond_yes ?hc (by decide) ?_; (case hc => (simp [over_cons, over_nil, *]; done))) | (refine cond_no ?hc (by decide) ?_; (case hc => (simp [over_cons, over_nil, *]; done))))); go_wp2_with fail)
        exact got HR ⟨by simp [over_cons, over_nil, *], by simp [over_cons, over_nil, *], by simp [over_cons, over_nil, *], by simp [over_cons, over_nil, *], rfl⟩
      · by_cases h2 : c = 45
        · subst h2
          have hb : sgB (45 :: r) = true := rfl
          rw [hb] at HR
          clear hb h1
          ((repeat (go_wp2_with fail; first | (refine cond_yes ?hc (by decide) ?_; (case hc => (simp [over_cons, over_nil, *]; done))) | (refine cond_no ?hc (by decide) ?_; (case hc => (simp [over_cons, over_nil, *]; done))))); go_wp2_with fail)
          exact got HR ⟨by simp [over_cons, over_nil, *], by simp [over_cons, over_nil, *], by simp [over_cons, over_nil, *], by simp [over_cons, over_nil, *], rfl⟩
        · have hb : sgB (c :: r) = false := by simp [sgB, h1, h2]
          rw [hb] at HR
          have p2 : ((c.toNat : Int) == 43) = false := by rw [beq_eq_false_iff_ne]; intro e; exact h1 (UInt8.toNat_inj.1 (show c.toNat = 43 by omega))
          have p3 : (c.toNat == 43) = false := by rw [beq_eq_false_iff_ne]; intro e; exact h1 (UInt8.toNat_inj.1 e)
          have q2 : ((c.toNat : Int) == 45) = false := by rw [beq_eq_false_iff_ne]; intro e; exact h2 (UInt8.toNat_inj.1 (show c.toNat = 45 by omega))
          have q3 : (c.toNat == 45) = false := by rw [beq_eq_false_iff_ne]; intro e; exact h2 (UInt8.toNat_inj.1 e)
          clear hb h1 h2
          ((repeat (go_wp2_with fail; first | (refine cond_yes ?hc (by decide) ?_; (case hc => (simp [over_cons, over_nil, *]; done))) | (refine cond_no ?hc (by decide) ?_; (case hc => (simp [over_cons, over_nil, *]; done))))); go_wp2_with fail)
          exact got HR ⟨by simp [over_cons, over_nil, *], by simp [over_cons, over_nil, *], by simp [over_cons, over_nil, *], by simp [over_cons, over_nil, *], rfl⟩
  clear s0 σ hnan'
  rintro σ w' ⟨s24, s2, s4, s5, rfl⟩
  go_wp2_with fail
  refine cut_F (fun s' w' => s' 2 = .pointer (some ⟨B, 0, none⟩) ∧ s' 4 = .string ⟨u.toArray⟩ ∧ s' 5 = .bool neg ∧ w2 = w') ?_ ?_
  · intro R' K' HR hK'
    refine cond_F _ (by rw [over_nil, s24]) (by decide) (fun h => ?_) (fun h => ?_)
    case refine_2 =>
      have hu : neg = false ∧ u = T := by
        have := HSG.out
        cases T with
        | nil => simp only [sgL] at this; cases this; exact ⟨rfl, rfl⟩
        | cons c r =>
          simp only [sgB, Bool.or_eq_false_iff, beq_eq_false_iff_ne] at h
          simp only [sgL, if_neg h.1, if_neg h.2] at this
          cases this; exact ⟨rfl, rfl⟩
      obtain ⟨rfl, rfl⟩ := hu
      clear s24 h
      ((repeat (go_wp2_with fail; first | (refine cond_yes ?hc (by decide) ?_; (case hc => (simp [over_cons, over_nil, *]; done))) | (refine cond_no ?hc (by decide) ?_; (case hc => (simp [over_cons, over_nil, *]; done))))); go_wp2_with fail)
      exact got HR ⟨by simp [over_cons, over_nil, *], by simp [over_cons, over_nil, *], by simp [over_cons, over_nil, *], rfl⟩
    cases T with
    | nil => simp [sgB] at h
    | cons c r =>
      have hsg := HSG.out
      have hidx0 := str_idx (c :: r) 0 (by simp)
      have hg0 : (c :: r).getD 0 0 = c := rfl
      rw [hg0] at hidx0
      have hsz : (⟨(c :: r).toArray⟩ : ByteArray).size = r.length + 1 := by simp [ByteArray.size]
      have hcut : (⟨(c :: r).toArray⟩ : ByteArray).extract 1 (r.length + 1) = ⟨r.toArray⟩ := by
        have := str_cut (c :: r) 1 r.length (by simp; omega)
        rw [Nat.add_comm 1] at this
        rw [this]
        simp
      have hrl : r.length + 1 ≤ 2000000 := by simpa using hTl
      simp only [sgB, Bool.or_eq_true, beq_iff_eq] at h
      generalize r.length = rl at *
      rcases h with rfl | rfl
      · have h9 : sgL (43 :: r) = (false, r) := by simp [sgL]
        rw [h9] at hsg
        cases hsg
        clear h9
        clear s24 hg0
        ((repeat (go_wp2_with fail; first | (refine cond_yes ?hc (by decide) ?_; (case hc => (simp [over_cons, over_nil, *]; done))) | (refine cond_no ?hc (by decide) ?_; (case hc => (simp [over_cons, over_nil, *]; done))))); go_wp2_with fail)
        exact got HR ⟨by simp [over_cons, over_nil, *], by simp [over_cons, over_nil, *], by simp [over_cons, over_nil], rfl⟩
      · have h9 : sgL (45 :: r) = (true, r) := by simp [sgL]
        rw [h9] at hsg
        cases hsg
        clear h9
        clear s24 hg0
        ((repeat (go_wp2_with fail; first | (refine cond_yes ?hc (by decide) ?_; (case hc => (simp [over_cons, over_nil, *]; done))) | (refine cond_no ?hc (by decide) ?_; (case hc => (simp [over_cons, over_nil, *]; done))))); go_wp2_with fail)
        exact got HR ⟨by simp [over_cons, over_nil, *], by simp [over_cons, over_nil, *], by simp [over_cons, over_nil], rfl⟩
  clear s24 s2 s4 s5 σ HSG hTl T
  rintro σ w' ⟨s2, s4, s5, rfl⟩
  have hrU : readU neg u = if u = [105, 110, 102] ∨ u = [105, 110, 102, 105, 110, 105, 116, 121] then some ⟨1, neg, 0, [], 0⟩ else (numE u).map (fun x => ⟨0, neg, nBase u, nDigits u, x⟩) := rfl
  have k0 := HRB2.out.cell 0
  have k1 := HRB2.out.cell 1
  have k2 := HRB2.out.cell 2
  have k3 := HRB2.out.cell 3
  have k4 := HRB2.out.cell 4
  have t0 := HRB2.out.frozen 0
  have t1 := HRB2.out.frozen 1
  have t2 := HRB2.out.frozen 2
  have t3 := HRB2.out.frozen 3
  have t4 := HRB2.out.frozen 4
  unfold textZ at k0 k1 k2 k3 k4
  simp only [List.getElem?_cons_zero, List.getElem?_cons_succ] at k0 k1 k2 k3 k4
  by_cases hinf : u = [105, 110, 102] ∨ u = [105, 110, 102, 105, 110, 105, 116, 121]
  · rw [if_pos hinf] at hrU
    have HRR := Lib.hid (HR.out.trans hrU)
    clear hrU
    rcases hinf with rfl | rfl
    all_goals
      ((repeat (go_wp2_with fail; first | (refine cond_yes ?hc (by decide) ?_; (case hc => (simp [over_cons, over_nil, *]; done))) | (refine cond_no ?hc (by decide) ?_; (case hc => (simp [over_cons, over_nil, *]; done))))); go_wp2_with fail)
      obtain ⟨ty, hrow⟩ := ((((HRB2.out.setCell 0 (.int .i64 1)).setCell 1 (.bool neg)).setCell 2 (.int .i64 0)).setCell 3 (.slice none 0 0)).setCell 4 (.int .i64 0)
      refine ret_cell_F (B := B) (.agg #[.int .i64 1, .bool neg, .int .i64 0, .slice none 0 0, .int .i64 0]) (.bool true) rfl (by decide) (by decide) (by simp [over_cons, over_nil, *]) (by simp [over_cons, over_nil, *]) ?_ (readPost_some HRR.out (grown_set5 HG2.out hBw _ _ _ _ _) (RdN.nil _ _))
      exact run_loadVar_row (P := Tryd.prog) _ B ty 60 _ (0, 0) _ hrow Tryd.underlying60 rfl (by kernel_rfl)
  rw [if_neg hinf] at hrU
  have HRR := Lib.hid (HR.out.trans hrU)
  have hi1 : (u == [105, 110, 102]) = false := by rw [beq_eq_false_iff_ne]; exact fun h => hinf (Or.inl h)
  have hi2 : (u == [105, 110, 102, 105, 110, 105, 116, 121]) = false := by rw [beq_eq_false_iff_ne]; exact fun h => hinf (Or.inr h)
  have HNB := Lib.hid (HNU.out u hul)
  clear hrU hinf HNU k0 k1 k2 k3 k4 t0 t1 t2 t3 t4
  ((repeat (go_wp2_with fail; first | (refine cond_yes ?hc (by decide) ?_; (case hc => (simp [over_cons, over_nil, *]; done))) | (refine cond_no ?hc (by decide) ?_; (case hc => (simp [over_cons, over_nil, *]; done))))); go_wp2_with fail)
  refine (HNB.out _).mono ?_
  rintro e w3 ⟨hg3, hnp⟩
  have HRB3 := Lib.hid (HRB2.out.grown hg3 (by simp))
  have HG3 := Lib.hid (grown_none_tr HG2.out hg3)
  have hBlt3 : B < w3.heap.size := HRB3.out.lt
  obtain ⟨D, hD⟩ : ∃ D, w3.heap.size = D := ⟨_, rfl⟩
  have hDw : w.heap.size ≤ D := by omega
  cases hnE : numE u with
  | none =>
    rw [hnE] at hnp
    dsimp only at hnp
    have hno : readL s = none := by rw [HRR.out, hnE]; rfl
    have HNO := Lib.hid hno
    subst hnp
    obtain ⟨w4, hw4⟩ : ∃ w4, w3.alloc (.cells #[.int .i64 0, .bool false, .int .i64 0, .slice none 0 0, .int .i64 0] 60) = w4 := ⟨_, rfl⟩
    have hgD := World.grownBy_alloc w3 (.cells #[.int .i64 0, .bool false, .int .i64 0, .slice none 0 0, .int .i64 0] 60) none
    have hrB4 := HRB3.out.grown hgD (by simp)
    have hrD : Row (w3.alloc (.cells #[.int .i64 0, .bool false, .int .i64 0, .slice none 0 0, .int .i64 0] 60)) D textZ := by rw [← hD]; exact Row.new w3 textZ _
    rw [hw4] at hgD hrB4 hrD
    have HW4 := Lib.hid hw4
    have HRB4 := Lib.hid hrB4
    have HG4 := Lib.hid (grown_none_tr HG3.out hgD)
    have HRD := Lib.hid hrD
    have HDD := Lib.hid hD
    have hBD : ¬ (B = D) := by omega
    clear hno hnE hw4 hgD hrB4 hrD hD
    unfold textZ
    go_upto_region 11 with fail
    rw [HW4.out, HDD.out]
    have m1 := HRD.out.cell 1
    have f1 := HRD.out.frozen 1
    unfold textZ at m1
    simp only [List.getElem?_cons_zero, List.getElem?_cons_succ] at m1
    have HRB5 := Lib.hid (HRB4.out.setCell_other (a := ⟨D, 1, none⟩) hBD (.bool neg))
    have k0 := HRB5.out.cell 0
    have k1 := HRB5.out.cell 1
    have k2 := HRB5.out.cell 2
    have k3 := HRB5.out.cell 3
    have k4 := HRB5.out.cell 4
    have t0 := HRB5.out.frozen 0
    have t1 := HRB5.out.frozen 1
    have t2 := HRB5.out.frozen 2
    have t3 := HRB5.out.frozen 3
    have t4 := HRB5.out.frozen 4
    unfold textZ at k0 k1 k2 k3 k4
    simp only [List.getElem?_cons_zero, List.getElem?_cons_succ] at k0 k1 k2 k3 k4
    obtain ⟨w5, hw5⟩ : ∃ w5, w4.setCell ⟨D, 1, none⟩ (.bool neg) = w5 := ⟨_, rfl⟩
    go_upto_region 12 with fail
    rw [hw5] at HRB5 k0 k1 k2 k3 k4 t0 t1 t2 t3 t4
    have HG5 := Lib.hid (grown_setN HG4.out (a := ⟨D, 1, none⟩) (.bool neg) (by show w.heap.size ≤ D; omega))
    rw [hw5] at HG5
    clear hw5 m1 f1
    ((repeat (go_wp2_with fail; first | (refine cond_yes ?hc (by decide) ?_; (case hc => (simp [over_cons, over_nil, *]; done))) | (refine cond_no ?hc (by decide) ?_; (case hc => (simp [over_cons, over_nil, *]; done))))); go_wp2_with fail)
    obtain ⟨ty, hrow⟩ := ((((HRB5.out.setCell 0 (.int .i64 0)).setCell 1 (.bool false)).setCell 2 (.int .i64 0)).setCell 3 (.slice none 0 0)).setCell 4 (.int .i64 0)
    refine ret_cell_F (B := B) (.agg textZ.toArray) (.bool false) rfl (by decide) (by decide) (by simp [over_cons, over_nil, *]) (by simp [over_cons, over_nil, *]) ?_ (readPost_none HNO.out (grown_set5 HG5.out hBw _ _ _ _ _))
    exact run_loadVar_row (P := Tryd.prog) _ B ty 60 _ (0, 0) _ hrow Tryd.underlying60 rfl (by kernel_rfl)
  | some x =>
    rw [hnE] at hnp
    dsimp only at hnp
    obtain ⟨v, rfl, hov⟩ := hnp
    obtain ⟨g, c, hv, hg4, hg5, hg6, hg7⟩ := hov.block
    have hyes : readL s = some ⟨0, neg, nBase u, nDigits u, x⟩ := by rw [HRR.out, hnE]; rfl
    have HYES := Lib.hid hyes
    obtain ⟨L, hL⟩ : ∃ L, (nDigits u).length = L := ⟨_, rfl⟩
    rw [hL] at hv
    subst hv
    have hrdn : RdN w2.heap.size w3 (.slice (some ⟨g, 0, none⟩) L c) (nDigits u) := RdN.of_own hov
    obtain ⟨b, hb⟩ : ∃ b, nBase u = b := ⟨_, rfl⟩
    simp only [hb]
    obtain ⟨w4, hw4⟩ : ∃ w4, w3.alloc (.cells #[.int .i64 0, .bool false, .int .i64 (b : Int), .slice (some ⟨g, 0, none⟩) L c, .int .i64 x] 60) = w4 := ⟨_, rfl⟩
    have hgD := World.grownBy_alloc w3 (.cells #[.int .i64 0, .bool false, .int .i64 (b : Int), .slice (some ⟨g, 0, none⟩) L c, .int .i64 x] 60) none
    have hrB4 := HRB3.out.grown hgD (by simp)
    have hrD : Row (w3.alloc (.cells #[.int .i64 0, .bool false, .int .i64 (b : Int), .slice (some ⟨g, 0, none⟩) L c, .int .i64 x] 60)) D [.int .i64 0, .bool false, .int .i64 (b : Int), .slice (some ⟨g, 0, none⟩) L c, .int .i64 x] := by rw [← hD]; exact Row.new w3 _ _
    rw [hw4] at hgD hrB4 hrD
    have HW4 := Lib.hid hw4
    have HRB4 := Lib.hid hrB4
    have HG4 := Lib.hid (grown_none_tr HG3.out hgD)
    have HRD := Lib.hid hrD
    have HDD := Lib.hid hD
    have HRN := Lib.hid (hrdn.grown hgD)
    have HBB := Lib.hid hb
    have hBD : ¬ (B = D) := by omega
    have hgD2 : g ≠ D := by omega
    have hgB2 : g ≠ B := by omega
    clear hyes hnE hw4 hgD hrB4 hrD hD hrdn hov hL hb
    go_upto_region 11 with fail
    rw [HW4.out, HDD.out]
    have m1 := HRD.out.cell 1
    have f1 := HRD.out.frozen 1
    simp only [List.getElem?_cons_zero, List.getElem?_cons_succ] at m1
    obtain ⟨w5, hw5⟩ : ∃ w5, w4.setCell ⟨D, 1, none⟩ (.bool neg) = w5 := ⟨_, rfl⟩
    have HRB5 := Lib.hid (HRB4.out.setCell_other (a := ⟨D, 1, none⟩) hBD (.bool neg))
    have HRD5 := Lib.hid (HRD.out.setCell 1 (.bool neg))
    have HG5 := Lib.hid (grown_setN HG4.out (a := ⟨D, 1, none⟩) (.bool neg) (by show w.heap.size ≤ D; omega))
    have HRN5 : Hid (RdI (w4.setCell ⟨D, 1, none⟩ (.bool neg)) (.slice (some ⟨g, 0, none⟩) L c) (nDigits u)) := Lib.hid (HRN.out.1.setc _ _ (fun k hk => by simp [Value.ownBlock] at hk; show k ≠ D; omega))
    rw [hw5] at HRB5 HRD5 HG5 HRN5
    go_upto_region 12 with fail
    clear hw5 m1 f1
    have k0 := HRB5.out.cell 0
    have k1 := HRB5.out.cell 1
    have k2 := HRB5.out.cell 2
    have k3 := HRB5.out.cell 3
    have k4 := HRB5.out.cell 4
    have t0 := HRB5.out.frozen 0
    have t1 := HRB5.out.frozen 1
    have t2 := HRB5.out.frozen 2
    have t3 := HRB5.out.frozen 3
    have t4 := HRB5.out.frozen 4
    have m0 := HRD5.out.cell 0
    have m1 := HRD5.out.cell 1
    have m2 := HRD5.out.cell 2
    have m3 := HRD5.out.cell 3
    have m4 := HRD5.out.cell 4
    unfold textZ at k0 k1 k2 k3 k4
    simp only [List.getElem?_cons_zero, List.getElem?_cons_succ, List.set_cons_zero, List.set_cons_succ] at k0 k1 k2 k3 k4 m0 m1 m2 m3 m4
    ((repeat (go_wp2_with fail; first | (refine cond_yes ?hc (by decide) ?_; (case hc => (simp [over_cons, over_nil, *]; done))) | (refine cond_no ?hc (by decide) ?_; (case hc => (simp [over_cons, over_nil, *]; done))))); go_wp2_with fail)
    obtain ⟨ty, hrow⟩ := ((((HRB5.out.setCell 0 (.int .i64 0)).setCell 1 (.bool neg)).setCell 2 (.int .i64 (b : Int))).setCell 3 (.slice (some ⟨g, 0, none⟩) L c)).setCell 4 (.int .i64 x)
    have hne : ∀ (k : Nat), ∀ j, (Value.slice (some ⟨g, 0, none⟩) L c).ownBlock = some j → j ≠ (⟨B, k, none⟩ : Addr).block := fun k j hj => by simp [Value.ownBlock] at hj; show j ≠ B; omega
    refine ret_cell_F (B := B) (.agg #[.int .i64 0, .bool neg, .int .i64 (b : Int), .slice (some ⟨g, 0, none⟩) L c, .int .i64 x]) (.bool true) rfl (by decide) (by decide) (by simp [over_cons, over_nil, *]) (by simp [over_cons, over_nil, *]) ?_ ?_
    · exact run_loadVar_row (P := Tryd.prog) _ B ty 60 _ (0, 0) _ hrow Tryd.underlying60 rfl (by kernel_rfl)
    · have hps := readPost_some HYES.out (grown_set5 HG5.out hBw (.int .i64 0) (.bool neg) (.int .i64 (b : Int)) (.slice (some ⟨g, 0, none⟩) L c) (.int .i64 x)) (v := .slice (some ⟨g, 0, none⟩) L c)
        ⟨((((HRN5.out.setc _ _ (hne 0)).setc _ _ (hne 1)).setc _ _ (hne 2)).setc _ _ (hne 3)).setc _ _ (hne 4), fun k hk => by have := HRN.out.2 k hk; omega⟩
      simp only [HBB.out] at hps
      exact hps
end Go.Proofs.YthkcfpmlgoomfaaDoor

/-
  Walks of spec/text.go: digitsNat, order.
-/
namespace Go.Proofs.YthkcfpmlgoomfaaDoor
open Go.RowKit
set_option linter.unusedSimpArgs false
set_option linter.unusedVariables false
attribute [local go_sem] undef

/-- The natural number of some digits. -/
def tval (b : Nat) (l : List Nat) : Nat := l.foldl (fun n d => n * b + d) 0
theorem tval_snoc (b : Nat) (l : List Nat) (i : Nat) (h : i < l.length) : tval b (l.take (i + 1)) = tval b (l.take i) * b + l.getD i 0 := by
  unfold tval
  rw [take_getD l i h, List.foldl_append]
  rfl
theorem tval_lt (b : Nat) (hb : 0 < b) (l : List Nat) (h : ∀ d ∈ l, d < b) : tval b l < b ^ l.length := by
  have key : ∀ (l : List Nat) (n k : Nat), (∀ d ∈ l, d < b) → n < b ^ k → l.foldl (fun n d => n * b + d) n < b ^ (k + l.length) := by
    intro l
    induction l with
    | nil => intro n k _ h; exact h
    | cons d r ih =>
      intro n k hd hn
      rw [List.foldl_cons, List.length_cons, show k + (r.length + 1) = (k + 1) + r.length by omega]
      refine ih _ _ (fun x hx => hd x (by simp [hx])) ?_
      rw [Nat.pow_succ]
      have h1 := hd d (by simp)
      have h2 : (n + 1) * b ≤ b ^ k * b := Nat.mul_le_mul_right _ hn
      rw [Nat.add_mul] at h2
      omega
  have := key l 0 0 h (by simp)
  simpa [tval] using this
theorem tval_len (b : Nat) (hb : b ≤ 16) (hb0 : 0 < b) (l : List Nat) (h : ∀ d ∈ l, d < b) (k : Nat) (hk : l.length ≤ 7 * k) : (natL (tval b l)).length ≤ k := by
  refine natL_len_le ?_
  refine Nat.lt_of_lt_of_le (tval_lt b hb0 l h) ?_
  have h1 : b ^ l.length ≤ 16 ^ l.length := Nat.pow_le_pow_left hb _
  have h2 : 16 ^ l.length ≤ 16 ^ (7 * k) := Nat.pow_le_pow_right (by omega) hk
  refine Nat.le_trans h1 (Nat.le_trans h2 ?_)
  rw [Nat.pow_mul]
  exact Nat.pow_le_pow_left (by decide) _

set_option maxRecDepth 100000 in
set_option maxHeartbeats 4000000 in
theorem digitsNat_any (b : Nat) (hb : b = 10 ∨ b = 16) (v : Value) (l : List Nat) (w : World) (hr : RdI w v l) (hd : ∀ d ∈ l, d < b) (hl : l.length ≤ 400000) :
    Calls Tryd.prog 67 #[v, .int .i64 (b : Int)] w fun e w' => ∃ v', e = .returned v' ∧ NatV w' v' (tval b l) ∧ w.grownBy w' none := by
  have hlen : ∀ i, (natL (tval b (l.take i))).length ≤ 60000 := fun i => tval_len b (by omega) (by omega) _ (fun d hd' => hd d (List.mem_of_mem_take hd')) _ (by rw [List.length_take]; omega)
  have HLN := Lib.hid hlen
  have HB := Lib.hid (fun W => natOf_any b W (by omega))
  have hnb : (natL b).length ≤ 100000 := Nat.le_trans (natL_len_le (k := 1) (by omega)) (by omega)
  have HMU := Lib.hid (fun i v1 v2 W h1 h2 => mulNat_any v1 v2 (tval b (l.take i)) b W h1 h2 (by have := hlen i; omega) hnb)
  have hml : ∀ i, (natL (tval b (l.take i) * b)).length ≤ 100000 := fun i => by
    have h1 := hlen i
    have h2 : tval b (l.take i) * b < 1073741824 ^ ((natL (tval b (l.take i))).length + 1) := by
      rw [Nat.pow_succ]
      exact Nat.mul_lt_mul_of_lt_of_le (natL_lt _) (by omega) (by omega)
    have := natL_len_le h2
    omega
  have HAD := Lib.hid (fun i x (hx : x < 16) v1 v2 W h1 h2 => addNat_any v1 v2 (tval b (l.take i) * b) x W h1 h2 (hml i) (Nat.le_trans (natL_len_le (k := 1) (by omega)) (by omega)))
  obtain ⟨a, c, rfl⟩ := hr.len
  obtain ⟨N, hN⟩ : ∃ N, l.length = N := ⟨_, rfl⟩
  simp only [hN] at hr ⊢
  rw [hN] at hl
  have HN := Lib.hid hN
  have HR := Lib.hid hr
  have HD := Lib.hid hd
  clear hr hN hnb hml hd hlen
  refine calls_F Tryd.func67 rfl (by rw [Tryd.ntmps67]; simp) ?_
  intro σ hσ
  rw [Tryd.ntmps67]
  have s0 : σ 0 = .slice a N c := hσ 0 (by simp)
  have s1 : σ 1 = .int .i64 (b : Int) := hσ 1 (by simp)
  clear hσ
  have HO0 : Hid (NatV (w.alloc (.cells #[] 3)) (.slice (some ⟨w.heap.size, 0, none⟩) 0 0) 0) := Lib.hid (by
    have := RdI.of_own (OwnI.fresh0 (T := w.heap.size) (w := w) (Nat.le_refl _) 3)
    unfold NatV; rw [natL_zero]; exact this)
  have HG0 := Lib.hid (World.grownBy_alloc w (.cells #[] 3) none)
  ((repeat (go_wp2_with fail; first | (refine cond_yes ?hc (by decide) ?_; (case hc => (simp [over_cons, over_nil, *]; done))) | (refine cond_no ?hc (by decide) ?_; (case hc => (simp [over_cons, over_nil, *]; done))))); go_wp2_with fail)
  refine loop_F (fun kk s' w' => ∃ (i : Nat) (vo : Value), i ≤ N ∧ kk = N - i ∧ s' 1 = .int .i64 (b : Int) ∧ s' 5 = vo ∧ s' 9 = .slice a N c ∧ s' 10 = .int .i64 (N : Int) ∧ s' 11 = .int .i64 (i : Int) ∧ NatV w' vo (tval b (l.take i)) ∧ w.grownBy w' none) N
    ⟨0, .slice (some ⟨w.heap.size, 0, none⟩) 0 0, Nat.zero_le _, rfl, by simp [over_cons, over_nil, *], by simp [over_cons, over_nil, *], by simp [over_cons, over_nil, *], by simp [over_cons, over_nil, *], by simp [over_cons, over_nil, *], HO0.out, HG0.out⟩ ?_
  clear s0 s1 σ HO0 HG0
  rintro kk σ wk ⟨i, vo, hi, hkk, s1, s5, s9, s10, s11, hv, hg⟩ RK KK HRK hKK
  have HKK := Lib.hid hkk
  have HV := Lib.hid hv
  have HG := Lib.hid hg
  clear hkk hv hg
  by_cases hiN : i = N
  · subst hiN
    have hall : l.take i = l := List.take_of_length_le (by rw [HN.out]; exact Nat.le_refl _)
    rw [hall] at HV
    clear hall
    ((repeat (go_wp2_with fail; first | (refine cond_yes ?hc (by decide) ?_; (case hc => (simp [over_cons, over_nil, *]; done))) | (refine cond_no ?hc (by decide) ?_; (case hc => (simp [over_cons, over_nil, *]; done))))); go_wp2_with fail)
    exact ret_F vo rfl (by decide) (by simp [over_cons, over_nil, *]) ⟨vo, rfl, HV.out, HG.out⟩
  · have hlt : i < N := by omega
    have hlt' : (i : Int) < (N : Int) := by omega
    have hil : i < l.length := by rw [HN.out]; exact hlt
    obtain ⟨x, hx⟩ : ∃ x, l.getD i 0 = x := ⟨_, rfl⟩
    have hx? : l[i]? = some x := by rw [← hx, List.getD_eq_getElem?_getD, List.getElem?_eq_getElem hil]; rfl
    have hx16 : x < 16 := by have := HD.out x (List.mem_of_getElem? hx?); omega
    obtain ⟨g, rfl, hz1, hz2, hz3, hcells⟩ := (HR.out.grown HG.out).at (by intro h; rw [h] at hil; simp at hil)
    have hc := hcells i x hx?
    unfold encI at hc
    have hsn := tval_snoc b l i hil
    rw [hx] at hsn
    have HSN := Lib.hid hsn
    have HX := Lib.hid (fun W => natOf_any x W (by omega))
    clear hz1 hz2 hz3 hcells hx? hx hil hsn
    ((repeat (go_wp2_with fail; first | (refine cond_yes ?hc (by decide) ?_; (case hc => (simp [over_cons, over_nil, *]; done))) | (refine cond_no ?hc (by decide) ?_; (case hc => (simp [over_cons, over_nil, *]; done))))); go_wp2_with fail)
    refine (HB.out _).mono ?_
    rintro e w2 ⟨v2, rfl, hv2, hg2⟩
    have HV2 := Lib.hid hv2
    have HVo := Lib.hid (HV.out.grown hg2)
    have HG2 := Lib.hid (grown_none_tr HG.out hg2)
    clear hv2 hg2
    go_wp2_with fail
    refine (HMU.out i _ _ _ HVo.out HV2.out).mono ?_
    rintro e w3 ⟨v3, rfl, hv3, hg3⟩
    have HV3 := Lib.hid hv3
    have HG3 := Lib.hid (grown_none_tr HG2.out hg3)
    clear hv3 hg3
    go_wp2_with fail
    refine (HX.out _).mono ?_
    rintro e w4 ⟨v4, rfl, hv4, hg4⟩
    have HV4 := Lib.hid hv4
    have HV34 := Lib.hid (HV3.out.grown hg4)
    have HG4 := Lib.hid (grown_none_tr HG3.out hg4)
    clear hv4 hg4
    go_wp2_with fail
    refine (HAD.out i x hx16 _ _ _ HV34.out HV4.out).mono ?_
    rintro e w5 ⟨v5, rfl, hv5, hg5⟩
    have HV5 := Lib.hid hv5
    have HG5 := Lib.hid (grown_none_tr HG4.out hg5)
    clear hv5 hg5
    ((repeat (go_wp2_with fail; first | (refine cond_yes ?hc (by decide) ?_; (case hc => (simp [over_cons, over_nil, *]; done))) | (refine cond_no ?hc (by decide) ?_; (case hc => (simp [over_cons, over_nil, *]; done))))); go_wp2_with fail)
    exact gotk HRK (N - (i + 1)) (by have := HKK.out; omega) ⟨i + 1, v5, by omega, rfl, by simp [over_cons, over_nil, *], by simp [over_cons, over_nil, *], by simp [over_cons, over_nil, *], by simp [over_cons, over_nil, *], by simp [over_cons, over_nil], by rw [HSN.out]; exact HV5.out, HG5.out⟩

/-- The order of a text's value. -/
def ordI (b : Nat) (l : List Nat) (x : Int) : Int :=
  if l = [] then -1
  else if b = 16 then (if 1600 < 4 * ((l.length : Int) - 1) + x then 1 else if 4 * ((l.length : Int) - 1) + x < -1600 then -1 else 0)
  else (if 400 < (l.length : Int) - 1 + x then 1 else if (l.length : Int) - 1 + x < -400 then -1 else 0)

def txtV (r : Txt) (v : Value) : Value := .agg #[.int .i64 r.kind, .bool r.neg, .int .i64 (r.base : Int), v, .int .i64 r.exp]

set_option maxRecDepth 100000 in
set_option maxHeartbeats 4000000 in
theorem order_any (r : Txt) (v : Value) (w : World) (hb : r.base = 10 ∨ r.base = 16) (hr : RdI w v r.digits) (hl : r.digits.length ≤ 4000000) (hx1 : -2000000000000000 ≤ r.exp) (hx2 : r.exp ≤ 2000000000000000) :
    Calls Tryd.prog 43 #[txtV r v] w fun e w' => e = .returned (.int .i64 (ordI r.base r.digits r.exp)) ∧ w.grownBy w' none := by
  obtain ⟨kind, neg, b, l, x⟩ := r
  dsimp only at hb hr hl hx1 hx2 ⊢
  unfold txtV
  dsimp only
  obtain ⟨a, c, rfl⟩ := hr.len
  obtain ⟨N, hN⟩ : ∃ N, l.length = N := ⟨_, rfl⟩
  have hord : ordI b l x = if N = 0 then -1
      else if b = 16 then (if 1600 < 4 * ((N : Int) - 1) + x then 1 else if 4 * ((N : Int) - 1) + x < -1600 then -1 else 0)
      else (if 400 < (N : Int) - 1 + x then 1 else if (N : Int) - 1 + x < -400 then -1 else 0) := by
    unfold ordI
    rw [hN]
    by_cases h : l = []
    · rw [if_pos h, if_pos (show N = 0 from by rw [← hN, h]; rfl)]
    · rw [if_neg h, if_neg (show ¬ N = 0 from by rw [← hN]; exact fun e => h (List.length_eq_zero_iff.1 e))]
  rw [hord]
  clear hord
  simp only [hN]
  rw [hN] at hl
  have HG := Lib.hid (fun o => World.grownBy_alloc w o none)
  clear hr hN
  refine calls_F Tryd.func43 rfl (by rw [Tryd.ntmps43]; simp) ?_
  intro σ hσ
  rw [Tryd.ntmps43]
  have s0 : σ 0 = .agg #[.int .i64 kind, .bool neg, .int .i64 (b : Int), .slice a N c, .int .i64 x] := hσ 0 (by simp)
  clear hσ
  by_cases h0 : N = 0
  · subst h0
    rw [if_pos rfl]
    ((repeat (go_wp2_with fail; first | (refine cond_yes ?hc (by decide) ?_; (case hc => (simp [over_cons, over_nil, *]; done))) | (refine cond_no ?hc (by decide) ?_; (case hc => (simp [over_cons, over_nil, *]; done))))); go_wp2_with fail)
    exact ret_F (.int .i64 (-1)) rfl (by decide) (by simp [over_cons, over_nil, *]) ⟨rfl, HG.out _⟩
  rw [if_neg h0]
  have e1 : ((N : Int) == 0) = false := by rw [beq_eq_false_iff_ne]; omega
  have e2 : (N == 0) = false := by rw [beq_eq_false_iff_ne]; omega
  rcases hb with rfl | rfl
  · rw [if_neg (by decide)]
    by_cases h1 : 400 < (N : Int) - 1 + x
    · rw [if_pos h1]
      ((repeat (go_wp2_with fail; first | (refine cond_yes ?hc (by decide) ?_; (case hc => (simp [over_cons, over_nil, *]; done))) | (refine cond_no ?hc (by decide) ?_; (case hc => (simp [over_cons, over_nil, *]; done))))); go_wp2_with fail)
      exact ret_F (.int .i64 1) rfl (by decide) (by simp [over_cons, over_nil, *]) ⟨rfl, HG.out _⟩
    · rw [if_neg h1]
      have d1 : decide (400 < (N : Int) - 1 + x) = false := by simp; omega
      by_cases h2 : (N : Int) - 1 + x < -400
      · rw [if_pos h2]
        ((repeat (go_wp2_with fail; first | (refine cond_yes ?hc (by decide) ?_; (case hc => (simp [over_cons, over_nil, *]; done))) | (refine cond_no ?hc (by decide) ?_; (case hc => (simp [over_cons, over_nil, *]; done))))); go_wp2_with fail)
        exact ret_F (.int .i64 (-1)) rfl (by decide) (by simp [over_cons, over_nil, *]) ⟨rfl, HG.out _⟩
      · rw [if_neg h2]
        have d2 : decide ((N : Int) - 1 + x < -400) = false := by simp; omega
        ((repeat (go_wp2_with fail; first | (refine cond_yes ?hc (by decide) ?_; (case hc => (simp [over_cons, over_nil, *]; done))) | (refine cond_no ?hc (by decide) ?_; (case hc => (simp [over_cons, over_nil, *]; done))))); go_wp2_with fail)
        exact ret_F (.int .i64 0) rfl (by decide) (by simp [over_cons, over_nil, *]) ⟨rfl, HG.out _⟩
  · rw [if_pos rfl]
    by_cases h1 : 1600 < 4 * ((N : Int) - 1) + x
    · rw [if_pos h1]
      ((repeat (go_wp2_with fail; first | (refine cond_yes ?hc (by decide) ?_; (case hc => (simp [over_cons, over_nil, *]; done))) | (refine cond_no ?hc (by decide) ?_; (case hc => (simp [over_cons, over_nil, *]; done))))); go_wp2_with fail)
      exact ret_F (.int .i64 1) rfl (by decide) (by simp [over_cons, over_nil, *]) ⟨rfl, HG.out _⟩
    · rw [if_neg h1]
      have d1 : decide (1600 < 4 * ((N : Int) - 1) + x) = false := by simp; omega
      by_cases h2 : 4 * ((N : Int) - 1) + x < -1600
      · rw [if_pos h2]
        ((repeat (go_wp2_with fail; first | (refine cond_yes ?hc (by decide) ?_; (case hc => (simp [over_cons, over_nil, *]; done))) | (refine cond_no ?hc (by decide) ?_; (case hc => (simp [over_cons, over_nil, *]; done))))); go_wp2_with fail)
        exact ret_F (.int .i64 (-1)) rfl (by decide) (by simp [over_cons, over_nil, *]) ⟨rfl, HG.out _⟩
      · rw [if_neg h2]
        have d2 : decide (4 * ((N : Int) - 1) + x < -1600) = false := by simp; omega
        ((repeat (go_wp2_with fail; first | (refine cond_yes ?hc (by decide) ?_; (case hc => (simp [over_cons, over_nil, *]; done))) | (refine cond_no ?hc (by decide) ?_; (case hc => (simp [over_cons, over_nil, *]; done))))); go_wp2_with fail)
        exact ret_F (.int .i64 0) rfl (by decide) (by simp [over_cons, over_nil, *]) ⟨rfl, HG.out _⟩
end Go.Proofs.YthkcfpmlgoomfaaDoor

/-
  Walk of spec/text.go: rational.
-/
namespace Go.Proofs.YthkcfpmlgoomfaaDoor
open Go.RowKit
set_option linter.unusedSimpArgs false
set_option linter.unusedVariables false
attribute [local go_sem] undef

def ratZ : List Value := [.bool false, .slice none 0 0, .slice none 0 0]
/-- A rational number in memory. -/
def RatV (w : World) (v : Value) (neg : Bool) (n d : Nat) : Prop := ∃ vn vd, v = .agg #[.bool neg, vn, vd] ∧ NatV w vn n ∧ NatV w vd d
/-- The same in a block. -/
def RatR (w : World) (D : Nat) (neg : Bool) (n d : Nat) : Prop := ∃ vn vd, Row w D [.bool neg, vn, vd] ∧ NatV w vn n ∧ NatV w vd d

theorem set3_nat {w : World} {D : Nat} {v : Value} {n : Nat} {f : Bool} {x y : Value} (hr : Row w D [.bool f, x, y]) (h : NatV w v n) (u0 : Bool) (u1 u2 : Value) :
    NatV (((w.setCell ⟨D, 0, none⟩ (.bool u0)).setCell ⟨D, 1, none⟩ u1).setCell ⟨D, 2, none⟩ u2) v n := by
  refine NatV.setB (f := u0) (NatV.setB (f := u0) (NatV.setB (f := f) h ?_) ?_) ?_
  · exact hr.cell 0
  · exact (hr.setCell 0 (.bool u0)).cell 0
  · exact ((hr.setCell 0 (.bool u0)).setCell 1 u1).cell 0
theorem set3_row {w : World} {D : Nat} {x y z : Value} (hr : Row w D [x, y, z]) (u0 u1 u2 : Value) :
    Row (((w.setCell ⟨D, 0, none⟩ u0).setCell ⟨D, 1, none⟩ u1).setCell ⟨D, 2, none⟩ u2) D [u0, u1, u2] := ((hr.setCell 0 u0).setCell 1 u1).setCell 2 u2
theorem set3_other {w : World} {D B : Nat} {xs : List Value} (hr : Row w B xs) (hne : B ≠ D) (u0 u1 u2 : Value) :
    Row (((w.setCell ⟨D, 0, none⟩ u0).setCell ⟨D, 1, none⟩ u1).setCell ⟨D, 2, none⟩ u2) B xs := ((hr.setCell_other (a := ⟨D, 0, none⟩) hne u0).setCell_other (a := ⟨D, 1, none⟩) hne u1).setCell_other (a := ⟨D, 2, none⟩) hne u2
theorem grown_set3 {w w1 : World} (h : w.grownBy w1 none) {B : Nat} (hB : w.heap.size ≤ B) (u0 u1 u2 : Value) :
    w.grownBy (((w1.setCell ⟨B, 0, none⟩ u0).setCell ⟨B, 1, none⟩ u1).setCell ⟨B, 2, none⟩ u2) none := grown_setN (grown_setN (grown_setN h _ hB) _ hB) _ hB

def tenOf (b : Nat) : Nat := if b = 16 then 2 else 10

set_option maxRecDepth 100000 in
set_option maxHeartbeats 8000000 in
theorem rational_any (r : Txt) (v : Value) (w : World) (hb : r.base = 10 ∨ r.base = 16) (hr : RdI w v r.digits) (hd : ∀ d ∈ r.digits, d < r.base) (hl : r.digits.length ≤ 100000) (hx1 : -30000 ≤ r.exp) (hx2 : r.exp ≤ 30000) :
    Calls Tryd.prog 44 #[txtV r v] w fun e w' => ∃ vr, e = .returned vr ∧ RatV w' vr r.neg (tval r.base r.digits * tenOf r.base ^ r.exp.toNat) (tenOf r.base ^ (-r.exp).toNat) ∧ w.grownBy w' none := by
  obtain ⟨kind, neg, b, l, x⟩ := r
  dsimp only at hb hr hd hl hx1 hx2 ⊢
  unfold txtV
  dsimp only
  obtain ⟨t, ht⟩ : ∃ t, tenOf b = t := ⟨_, rfl⟩
  have ht' : t = if b = 16 then 2 else 10 := ht.symm
  have ht1 : 1 ≤ t ∧ t ≤ 10 := by rw [ht']; split <;> omega
  rw [ht]
  clear ht
  have hnl : (natL (tval b l)).length ≤ 20000 := tval_len b (by omega) (by omega) l hd 20000 (by omega)
  have HDN := Lib.hid (fun W (h : w.grownBy W none) => digitsNat_any b hb v l W (hr.grown h) hd (by omega))
  have HSC := Lib.hid (fun V W h => scaled_any V (tval b l) t x W h hnl ht1.1 (by omega) hx1 hx2)
  obtain ⟨a, c, rfl⟩ := hr.len
  obtain ⟨N, hN⟩ : ∃ N, l.length = N := ⟨_, rfl⟩
  simp only [hN] at HDN ⊢
  have HG0 := Lib.hid (fun o => World.grownBy_alloc w o none)
  obtain ⟨w1, hw1⟩ : ∃ w1, (w.alloc (.cells #[.int .i64 kind, .bool neg, .int .i64 (b : Int), .slice a N c, .int .i64 x] 60)).alloc (.cells ratZ.toArray 33) = w1 := ⟨_, rfl⟩
  obtain ⟨B, hB⟩ : ∃ B, w.heap.size = B := ⟨_, rfl⟩
  have hrT : Row w1 B [.int .i64 kind, .bool neg, .int .i64 (b : Int), .slice a N c, .int .i64 x] := by rw [← hw1, ← hB]; exact (Row.new w _ _).alloc _
  have hrR : Row w1 (B + 1) ratZ := by
    rw [← hw1, ← hB]
    have := Row.new (w.alloc (.cells #[.int .i64 kind, .bool neg, .int .i64 (b : Int), .slice a N c, .int .i64 x] 60)) ratZ 33
    have e : (w.alloc (.cells #[.int .i64 kind, .bool neg, .int .i64 (b : Int), .slice a N c, .int .i64 x] 60)).heap.size = w.heap.size + 1 := by show (w.heap.push _).size = _; simp
    rw [e] at this
    exact this
  have hg1 : w.grownBy w1 none := by rw [← hw1]; exact grown_none_tr (World.grownBy_alloc w _ none) (World.grownBy_alloc _ _ none)
  have hsz1 : w1.heap.size = B + 2 := by rw [← hw1, ← hB]; show ((w.heap.push _).push _).size = _; simp
  unfold ratZ at hw1
  have HRT := Lib.hid hrT
  have HRR := Lib.hid hrR
  have HG1 := Lib.hid hg1
  have HW1 := Lib.hid hw1
  have HB := Lib.hid hB
  clear hr hN hrT hrR hg1 hw1 hd hnl
  refine calls_F Tryd.func44 rfl (by rw [Tryd.ntmps44]; simp) ?_
  intro σ hσ
  rw [Tryd.ntmps44]
  have s0 : σ 0 = .agg #[.int .i64 kind, .bool neg, .int .i64 (b : Int), .slice a N c, .int .i64 x] := hσ 0 (by simp)
  clear hσ
  go_upto_region 2 with fail
  rw [HW1.out]
  have m2 := HRT.out.cell 2
  simp only [List.getElem?_cons_zero, List.getElem?_cons_succ] at m2
  go_wp2_with fail
  refine cut_F (fun s' w' => s' 1 = .pointer (some ⟨B, 0, none⟩) ∧ s' 2 = .pointer (some ⟨B + 1, 0, none⟩) ∧ s' 3 = .int .u64 (t : Int) ∧ w1 = w') ?_ ?_
  · intro R' K' HR hK'
    rcases hb with rfl | rfl
    · rw [if_neg (by decide)] at ht'
      subst ht'
      ((repeat (go_wp2_with fail; first | (refine cond_yes ?hc (by decide) ?_; (case hc => (simp [over_cons, over_nil, *]; done))) | (refine cond_no ?hc (by decide) ?_; (case hc => (simp [over_cons, over_nil, *]; done))))); go_wp2_with fail)
      exact got HR ⟨by simp [over_cons, over_nil, *], by simp [over_cons, over_nil, *], by simp [over_cons, over_nil, *], rfl⟩
    · rw [if_pos rfl] at ht'
      subst ht'
      ((repeat (go_wp2_with fail; first | (refine cond_yes ?hc (by decide) ?_; (case hc => (simp [over_cons, over_nil, *]; done))) | (refine cond_no ?hc (by decide) ?_; (case hc => (simp [over_cons, over_nil, *]; done))))); go_wp2_with fail)
      exact got HR ⟨by simp [over_cons, over_nil, *], by simp [over_cons, over_nil, *], by simp [over_cons, over_nil], rfl⟩
  clear s0 σ m2 ht'
  rintro σ w' ⟨s1, s2, s3, rfl⟩
  have hcell3 : ∀ W, w1.grownBy W none → W.cell? ⟨B, 3, none⟩ = some (.slice a N c) := fun W h => (HRT.out.grown h (by simp)).cell 3
  have hcell2 : ∀ W, w1.grownBy W none → W.cell? ⟨B, 2, none⟩ = some (.int .i64 (b : Int)) := fun W h => (HRT.out.grown h (by simp)).cell 2
  have hcell4 : ∀ W, w1.grownBy W none → W.cell? ⟨B, 4, none⟩ = some (.int .i64 x) := fun W h => (HRT.out.grown h (by simp)).cell 4
  have HC2 := Lib.hid hcell2
  have HC3 := Lib.hid hcell3
  have HC4 := Lib.hid hcell4
  clear hcell2 hcell3 hcell4
  go_upto_region 4 with fail
  refine cut_F (fun s' w' => s' 1 = .pointer (some ⟨B, 0, none⟩) ∧ s' 2 = .pointer (some ⟨B + 1, 0, none⟩) ∧ ∃ D, s' 4 = .pointer (some ⟨D, 0, none⟩) ∧ B + 2 ≤ D ∧ RatR w' D false (tval b l * t ^ x.toNat) (t ^ (-x).toNat) ∧ w1.grownBy w' none) ?_ ?_
  · intro R' K' HR hK'
    refine wp_region_noPanic ?_
    refine wp_region_held_drew (S := fun W => w1.grownBy W none) (by kernel_rfl) (grown_drewN w1 1 none) (fun hHeld => ?_)
    ((refine take_F 0 8 (oi := ?_) (v := ?_) ?_ ?_ (by kernel_rfl) (by kernel_rfl) (by kernel_rfl) (fun _ _ _ _ _ h => h) ?_ (by assumption) ?_ ?_; rotate_left 2; (focus ((simp only [List.getElem?_toArray, List.getElem?_cons_succ, List.getElem?_cons_zero]); rfl)); (focus rfl); (focus (first | rfl | (simp only [Region.wanted, yielded, List.getElem?_toArray, List.getElem?_cons_succ, List.getElem?_cons_zero, Option.bind_some, Option.map_some, Fr_get?, over_cons, over_nil]; rfl) | go_simp)); (focus ((intro w hSw; go_simp; try with_reducible rfl)))))
    (refine take_F 1 9 (oi := ?_) (v := ?_) ?_ ?_ (by kernel_rfl) (by kernel_rfl) (by kernel_rfl) (fun _ _ _ _ _ h => h) ?_ (by assumption) ?_ ?_; rotate_left 2; (focus ((simp only [List.getElem?_toArray, List.getElem?_cons_succ, List.getElem?_cons_zero]); rfl)); (focus rfl); (focus (first | rfl | (simp only [Region.wanted, yielded, List.getElem?_toArray, List.getElem?_cons_succ, List.getElem?_cons_zero, Option.bind_some, Option.map_some, Fr_get?, over_cons, over_nil]; rfl) | go_simp)); (focus (intro W hS; have hc := HC3.out W hS; go_simp; try with_reducible rfl)))
    ((refine take_F 2 10 (oi := ?_) (v := ?_) ?_ ?_ (by kernel_rfl) (by kernel_rfl) (by kernel_rfl) (fun _ _ _ _ _ h => h) ?_ (by assumption) ?_ ?_; rotate_left 2; (focus ((simp only [List.getElem?_toArray, List.getElem?_cons_succ, List.getElem?_cons_zero]); rfl)); (focus rfl); (focus (first | rfl | (simp only [Region.wanted, yielded, List.getElem?_toArray, List.getElem?_cons_succ, List.getElem?_cons_zero, Option.bind_some, Option.map_some, Fr_get?, over_cons, over_nil]; rfl) | go_simp)); (focus ((intro w hSw; go_simp; try with_reducible rfl)))))
    (refine take_F 3 11 (oi := ?_) (v := ?_) ?_ ?_ (by kernel_rfl) (by kernel_rfl) (by kernel_rfl) (fun _ _ _ _ _ h => h) ?_ (by assumption) ?_ ?_; rotate_left 2; (focus ((simp only [List.getElem?_toArray, List.getElem?_cons_succ, List.getElem?_cons_zero]); rfl)); (focus rfl); (focus (first | rfl | (simp only [Region.wanted, yielded, List.getElem?_toArray, List.getElem?_cons_succ, List.getElem?_cons_zero, Option.bind_some, Option.map_some, Fr_get?, over_cons, over_nil]; rfl) | go_simp)); (focus (intro W hS; have hc := HC2.out W hS; go_simp; try with_reducible rfl)))
    ((refine take_F 5 13 (oi := ?_) (v := ?_) ?_ ?_ (by kernel_rfl) (by kernel_rfl) (by kernel_rfl) (fun _ _ _ _ _ h => h) ?_ (by assumption) ?_ ?_; rotate_left 2; (focus ((simp only [List.getElem?_toArray, List.getElem?_cons_succ, List.getElem?_cons_zero]); rfl)); (focus rfl); (focus (first | rfl | (simp only [Region.wanted, yielded, List.getElem?_toArray, List.getElem?_cons_succ, List.getElem?_cons_zero, Option.bind_some, Option.map_some, Fr_get?, over_cons, over_nil]; rfl) | go_simp)); (focus ((intro w hSw; go_simp; try with_reducible rfl)))); (refine take_F 6 14 (oi := ?_) (v := ?_) ?_ ?_ (by kernel_rfl) (by kernel_rfl) (by kernel_rfl) (fun _ _ _ _ _ h => h) ?_ (by assumption) ?_ ?_; rotate_left 2; (focus ((simp only [List.getElem?_toArray, List.getElem?_cons_succ, List.getElem?_cons_zero]); rfl)); (focus rfl); (focus (first | rfl | (simp only [Region.wanted, yielded, List.getElem?_toArray, List.getElem?_cons_succ, List.getElem?_cons_zero, Option.bind_some, Option.map_some, Fr_get?, over_cons, over_nil]; rfl) | go_simp)); (focus ((intro w hSw; go_simp; try with_reducible rfl)))))
    (refine take_F 7 15 (oi := ?_) (v := ?_) ?_ ?_ (by kernel_rfl) (by kernel_rfl) (by kernel_rfl) (fun _ _ _ _ _ h => h) ?_ (by assumption) ?_ ?_; rotate_left 2; (focus ((simp only [List.getElem?_toArray, List.getElem?_cons_succ, List.getElem?_cons_zero]); rfl)); (focus rfl); (focus (first | rfl | (simp only [Region.wanted, yielded, List.getElem?_toArray, List.getElem?_cons_succ, List.getElem?_cons_zero, Option.bind_some, Option.map_some, Fr_get?, over_cons, over_nil]; rfl) | go_simp)); (focus (intro W hS; have hc := HC4.out W hS; go_simp; try with_reducible rfl)))
    (refine two_F 4 9 (oi := ?_) (oj := ?_) ?_ ?_ (by kernel_rfl) ?_ ?_ ?_ ?_; rotate_left 2; (focus ((simp only [List.getElem?_toArray, List.getElem?_cons_succ, List.getElem?_cons_zero]); rfl)); (focus ((simp only [List.getElem?_toArray, List.getElem?_cons_succ, List.getElem?_cons_zero]); rfl)); (focus (first | rfl | go_simp)); (focus (first | rfl | go_simp)))
    · (intro K hK; go_simp; (refine (HDN.out _ (grown_none_tr HG1.out hHeld)).mono ?_; rintro e w9 ⟨v9, rfl, hn9, hg9⟩); go_wp2_with fail; replace hHeld := grown_none_tr hHeld hg9; refine hK.out _ _ hHeld ?_; clear hK K)
      clear hg9
      (refine two_F 8 9 (oi := ?_) (oj := ?_) ?_ ?_ (by kernel_rfl) ?_ ?_ ?_ ?_; rotate_left 2; (focus ((simp only [List.getElem?_toArray, List.getElem?_cons_succ, List.getElem?_cons_zero]); rfl)); (focus ((simp only [List.getElem?_toArray, List.getElem?_cons_succ, List.getElem?_cons_zero]); rfl)); (focus (first | rfl | go_simp)); (focus (first | rfl | go_simp)))
      · (intro K hK; go_simp; (refine (HSC.out _ _ hn9).mono ?_; rintro e wA ⟨vn, vd, rfl, hvn, hvd, hgA⟩); go_wp2_with fail; replace hHeld := grown_none_tr hHeld hgA; refine hK.out _ _ hHeld ?_; clear hK K)
        have hOld := hHeld
        (refine only_F 9 (oi := ?_) ?_ (by kernel_rfl) ?_ ?_; rotate_left 1; (focus ((simp only [List.getElem?_toArray, List.getElem?_cons_succ, List.getElem?_cons_zero]); rfl)); (focus (first | rfl | go_simp)); intro K hK; go_simp; (skip); go_wp2_with fail; replace hHeld := grown_none_tr hHeld (World.grownBy_alloc wA (.cells #[.bool false, .slice none 0 0, .slice none 0 0] 33) none); refine hK.out _ _ hHeld ?_; clear hK K)
        have hrD : Row (World.alloc wA (.cells #[.bool false, .slice none 0 0, .slice none 0 0] 33)) (World.heap wA).size ratZ := Row.new wA ratZ _
        obtain ⟨wD, hwD⟩ : ∃ wD, World.alloc wA (.cells #[.bool false, .slice none 0 0, .slice none 0 0] 33) = wD := ⟨_, rfl⟩
        obtain ⟨D, hD⟩ : ∃ D, (World.heap wA).size = D := ⟨_, rfl⟩
        have hDge : B + 2 ≤ D := by rw [← hD, ← hsz1]; exact hOld.size
        replace hvn := hvn.grown (World.grownBy_alloc wA (.cells #[.bool false, .slice none 0 0, .slice none 0 0] 33) none)
        replace hvd := hvd.grown (World.grownBy_alloc wA (.cells #[.bool false, .slice none 0 0, .slice none 0 0] 33) none)
        rw [hwD] at hrD hHeld hvn hvd
        rw [hD] at hrD
        simp only [hwD, hD]
        clear hwD hD hOld
        have k0 := hrD.cell 0
        have k1 := hrD.cell 1
        have k2 := hrD.cell 2
        have t0 := hrD.frozen 0
        have t1 := hrD.frozen 1
        have t2 := hrD.frozen 2
        unfold ratZ at k0 k1 k2
        simp only [List.getElem?_cons_zero, List.getElem?_cons_succ] at k0 k1 k2
        obtain ⟨an, cn, rfl⟩ := hvn.len
        obtain ⟨ad, cd, rfl⟩ := hvd.len
        generalize (natL (tval b l * t ^ x.toNat)).length = Ln at *
        generalize (natL (t ^ (-x).toNat)).length = Ld at *
        (refine only_F 10 (oi := ?_) ?_ (by kernel_rfl) ?_ ?_; rotate_left 1; (focus ((simp only [List.getElem?_toArray, List.getElem?_cons_succ, List.getElem?_cons_zero]); rfl)); (focus (first | rfl | go_simp)); intro K hK; go_simp; (skip); go_wp2_with fail; replace hHeld := grown_set3 hHeld (by rw [hsz1]; exact hDge) (.bool false) (.slice an Ln cn) (.slice ad Ld cd); refine hK.out _ _ hHeld ?_; clear hK K)
        refine wpAnyH_done (by kernel_rfl) ?_ _
        refine NoPanic.normal ?_
        exact hK' _ _ _ (got HR ⟨by simp [over_cons, over_nil, *], by simp [over_cons, over_nil, *], D, by simp [over_cons, over_nil, *], hDge, ⟨_, _, set3_row hrD _ _ _, set3_nat hrD hvn _ _ _, set3_nat hrD hvd _ _ _⟩, hHeld⟩)
      · have hOld := hHeld
        (intro K hK; go_simp; (skip); go_wp2_with fail; replace hHeld := grown_none_tr hHeld (World.grownBy_alloc w9 (.cells #[.bool false, .slice none 0 0, .slice none 0 0] 33) none); refine hK.out _ _ hHeld ?_; clear hK K)
        have hrD : Row (World.alloc w9 (.cells #[.bool false, .slice none 0 0, .slice none 0 0] 33)) (World.heap w9).size ratZ := Row.new w9 ratZ _
        obtain ⟨wD, hwD⟩ : ∃ wD, World.alloc w9 (.cells #[.bool false, .slice none 0 0, .slice none 0 0] 33) = wD := ⟨_, rfl⟩
        obtain ⟨D, hD⟩ : ∃ D, (World.heap w9).size = D := ⟨_, rfl⟩
        have hDge : B + 2 ≤ D := by rw [← hD, ← hsz1]; exact hOld.size
        replace hn9 := hn9.grown (World.grownBy_alloc w9 (.cells #[.bool false, .slice none 0 0, .slice none 0 0] 33) none)
        rw [hwD] at hrD hHeld hn9
        rw [hD] at hrD
        simp only [hwD, hD]
        clear hwD hD hOld
        (refine only_F 8 (oi := ?_) ?_ (by kernel_rfl) ?_ ?_; rotate_left 1; (focus ((simp only [List.getElem?_toArray, List.getElem?_cons_succ, List.getElem?_cons_zero]); rfl)); (focus (first | rfl | go_simp)); intro K hK; go_simp; (refine (HSC.out _ _ hn9).mono ?_; rintro e wA ⟨vn, vd, rfl, hvn, hvd, hgA⟩); go_wp2_with fail; replace hHeld := grown_none_tr hHeld hgA; refine hK.out _ _ hHeld ?_; clear hK K)
        replace hrD := hrD.grown hgA (by simp)
        clear hgA hn9
        have k0 := hrD.cell 0
        have k1 := hrD.cell 1
        have k2 := hrD.cell 2
        have t0 := hrD.frozen 0
        have t1 := hrD.frozen 1
        have t2 := hrD.frozen 2
        unfold ratZ at k0 k1 k2
        simp only [List.getElem?_cons_zero, List.getElem?_cons_succ] at k0 k1 k2
        obtain ⟨an, cn, rfl⟩ := hvn.len
        obtain ⟨ad, cd, rfl⟩ := hvd.len
        generalize (natL (tval b l * t ^ x.toNat)).length = Ln at *
        generalize (natL (t ^ (-x).toNat)).length = Ld at *
        (refine only_F 10 (oi := ?_) ?_ (by kernel_rfl) ?_ ?_; rotate_left 1; (focus ((simp only [List.getElem?_toArray, List.getElem?_cons_succ, List.getElem?_cons_zero]); rfl)); (focus (first | rfl | go_simp)); intro K hK; go_simp; (skip); go_wp2_with fail; replace hHeld := grown_set3 hHeld (by rw [hsz1]; exact hDge) (.bool false) (.slice an Ln cn) (.slice ad Ld cd); refine hK.out _ _ hHeld ?_; clear hK K)
        refine wpAnyH_done (by kernel_rfl) ?_ _
        refine NoPanic.normal ?_
        exact hK' _ _ _ (got HR ⟨by simp [over_cons, over_nil, *], by simp [over_cons, over_nil, *], D, by simp [over_cons, over_nil, *], hDge, ⟨_, _, set3_row hrD _ _ _, set3_nat hrD hvn _ _ _, set3_nat hrD hvd _ _ _⟩, hHeld⟩)
    · have hOld := hHeld
      (intro K hK; go_simp; (skip); go_wp2_with fail; replace hHeld := grown_none_tr (World.grownBy_alloc w1 (.cells #[.bool false, .slice none 0 0, .slice none 0 0] 33) none) (grown_drewN (World.alloc w1 (.cells #[.bool false, .slice none 0 0, .slice none 0 0] 33)) 1 none); refine hK.out _ _ hHeld ?_; clear hK K)
      have hrD : Row (World.alloc w1 (.cells #[.bool false, .slice none 0 0, .slice none 0 0] 33)).drew (World.heap w1).size ratZ := (Row.new w1 ratZ _).drew
      obtain ⟨wD, hwD⟩ : ∃ wD, (World.alloc w1 (.cells #[.bool false, .slice none 0 0, .slice none 0 0] 33)).drew = wD := ⟨_, rfl⟩
      obtain ⟨D, hD⟩ : ∃ D, B + 2 = D := ⟨_, rfl⟩
      have hDge : B + 2 ≤ D := by omega
      replace hHeld : w1.grownBy (World.alloc w1 (.cells #[.bool false, .slice none 0 0, .slice none 0 0] 33)).drew none := hHeld
      rw [hwD] at hrD hHeld
      rw [hsz1, hD] at hrD
      simp only [hwD, hD]
      clear hwD hD hOld
      (refine only_F 4 (oi := ?_) ?_ (by kernel_rfl) ?_ ?_; rotate_left 1; (focus ((simp only [List.getElem?_toArray, List.getElem?_cons_succ, List.getElem?_cons_zero]); rfl)); (focus (first | rfl | go_simp)); intro K hK; go_simp; (refine (HDN.out _ (grown_none_tr HG1.out hHeld)).mono ?_; rintro e w9 ⟨v9, rfl, hn9, hg9⟩); go_wp2_with fail; replace hHeld := grown_none_tr hHeld hg9; refine hK.out _ _ hHeld ?_; clear hK K)
      replace hrD := hrD.grown hg9 (by simp)
      clear hg9
      (refine only_F 8 (oi := ?_) ?_ (by kernel_rfl) ?_ ?_; rotate_left 1; (focus ((simp only [List.getElem?_toArray, List.getElem?_cons_succ, List.getElem?_cons_zero]); rfl)); (focus (first | rfl | go_simp)); intro K hK; go_simp; (refine (HSC.out _ _ hn9).mono ?_; rintro e wA ⟨vn, vd, rfl, hvn, hvd, hgA⟩); go_wp2_with fail; replace hHeld := grown_none_tr hHeld hgA; refine hK.out _ _ hHeld ?_; clear hK K)
      replace hrD := hrD.grown hgA (by simp)
      clear hgA hn9
      have k0 := hrD.cell 0
      have k1 := hrD.cell 1
      have k2 := hrD.cell 2
      have t0 := hrD.frozen 0
      have t1 := hrD.frozen 1
      have t2 := hrD.frozen 2
      unfold ratZ at k0 k1 k2
      simp only [List.getElem?_cons_zero, List.getElem?_cons_succ] at k0 k1 k2
      obtain ⟨an, cn, rfl⟩ := hvn.len
      obtain ⟨ad, cd, rfl⟩ := hvd.len
      generalize (natL (tval b l * t ^ x.toNat)).length = Ln at *
      generalize (natL (t ^ (-x).toNat)).length = Ld at *
      (refine only_F 10 (oi := ?_) ?_ (by kernel_rfl) ?_ ?_; rotate_left 1; (focus ((simp only [List.getElem?_toArray, List.getElem?_cons_succ, List.getElem?_cons_zero]); rfl)); (focus (first | rfl | go_simp)); intro K hK; go_simp; (skip); go_wp2_with fail; replace hHeld := grown_set3 hHeld (by rw [hsz1]; exact hDge) (.bool false) (.slice an Ln cn) (.slice ad Ld cd); refine hK.out _ _ hHeld ?_; clear hK K)
      refine wpAnyH_done (by kernel_rfl) ?_ _
      refine NoPanic.normal ?_
      exact hK' _ _ _ (got HR ⟨by simp [over_cons, over_nil, *], by simp [over_cons, over_nil, *], D, by simp [over_cons, over_nil, *], hDge, ⟨_, _, set3_row hrD _ _ _, set3_nat hrD hvn _ _ _, set3_nat hrD hvd _ _ _⟩, hHeld⟩)
  clear s1 s2 s3 σ HDN HSC HC2 HC3 HC4
  rintro σ w2 ⟨s1, s2, D, s4, hDge, ⟨vn, vd, hrD, hvn, hvd⟩, hg2⟩
  have hrT2 := HRT.out.grown hg2 (by simp)
  have hrR2 := HRR.out.grown hg2 (by simp)
  have n1 := hrT2.cell 1
  have m0 := hrD.cell 0
  have f0 := hrD.frozen 0
  obtain ⟨an, cn, rfl⟩ := hvn.len
  obtain ⟨ad, cd, rfl⟩ := hvd.len
  generalize (natL (tval b l * t ^ x.toNat)).length = Ln at *
  generalize (natL (t ^ (-x).toNat)).length = Ld at *
  simp only [List.getElem?_cons_zero, List.getElem?_cons_succ] at n1 m0
  have hBD : ¬ (B + 1 = D) := by omega
  have hBD2 : B + 1 ≠ D := hBD
  obtain ⟨w3, hw3⟩ : ∃ w3, w2.setCell ⟨D, 0, none⟩ (.bool neg) = w3 := ⟨_, rfl⟩
  have hrD3 := hrD.setCell 0 (.bool neg)
  have hrR3 := hrR2.setCell_other (a := ⟨D, 0, none⟩) hBD2 (.bool neg)
  have hvn3 := NatV.setB (u := .bool neg) (k := 0) hvn m0
  have hvd3 := NatV.setB (u := .bool neg) (k := 0) hvd m0
  have hg3 := grown_setN (grown_none_tr HG1.out hg2) (a := ⟨D, 0, none⟩) (.bool neg) (by show w.heap.size ≤ D; have := HB.out; omega)
  rw [hw3] at hrD3 hrR3 hvn3 hvd3 hg3
  simp only [List.set_cons_zero] at hrD3
  have HRD3 := Lib.hid hrD3
  have HRR3 := Lib.hid hrR3
  have HVN3 := Lib.hid hvn3
  have HVD3 := Lib.hid hvd3
  have HG3 := Lib.hid hg3
  clear hrT2 hrR2 hrD hvn hvd hrD3 hrR3 hvn3 hvd3 hg3 hg2
  go_upto_region 6 with fail
  clear hw3 n1 m0 f0
  have m0 := HRD3.out.cell 0
  have m1 := HRD3.out.cell 1
  have m2 := HRD3.out.cell 2
  have k0 := HRR3.out.cell 0
  have k1 := HRR3.out.cell 1
  have k2 := HRR3.out.cell 2
  have t0 := HRR3.out.frozen 0
  have t1 := HRR3.out.frozen 1
  have t2 := HRR3.out.frozen 2
  unfold ratZ at k0 k1 k2
  simp only [List.getElem?_cons_zero, List.getElem?_cons_succ] at m0 m1 m2 k0 k1 k2
  ((repeat (go_wp2_with fail; first | (refine cond_yes ?hc (by decide) ?_; (case hc => (simp [over_cons, over_nil, *]; done))) | (refine cond_no ?hc (by decide) ?_; (case hc => (simp [over_cons, over_nil, *]; done))))); go_wp2_with fail)
  obtain ⟨ty, hrow⟩ := set3_row HRR3.out (.bool neg) (.slice an Ln cn) (.slice ad Ld cd)
  refine bodyPost_ret (v := .agg #[.bool neg, .slice an Ln cn, .slice ad Ld cd]) (results_cell_row rfl _ _ (B + 1) ty _ (0, 0) _ (by rw [Fr_getD 21 _ σ 2 (by decide)]; simp [over_cons, over_nil, *]) hrow Tryd.underlying33 rfl (by kernel_rfl)) (Fr_defers ..) ⟨_, rfl, ⟨_, _, rfl, set3_nat HRR3.out HVN3.out _ _ _, set3_nat HRR3.out HVD3.out _ _ _⟩, grown_set3 HG3.out (by have := HB.out; omega) _ _ _⟩
end Go.Proofs.YthkcfpmlgoomfaaDoor

/-
  Walk of spec/text.go: RationalOf.
-/
namespace Go.Proofs.YthkcfpmlgoomfaaDoor
open Go.RowKit
set_option linter.unusedSimpArgs false
set_option linter.unusedVariables false
attribute [local go_sem] undef

/-- The value of a well-formed number: sign, numerator, denominator. -/
def ratL (s : List UInt8) : Option (Bool × Nat × Nat) := match readL s with
  | none => none
  | some r => if r.kind ≠ 0 then none else if r.digits = [] then some (r.neg, 0, 1) else if ordI r.base r.digits r.exp ≠ 0 then none
    else some (r.neg, tval r.base r.digits * tenOf r.base ^ r.exp.toNat, tenOf r.base ^ (-r.exp).toNat)

theorem dig_base {b : Nat} (hb : b = 10 ∨ b = 16) {c : UInt8} {d : Nat} (h : dig b c = some d) : d < b := by
  unfold dig at h
  split at h
  · cases h; omega
  · split at h
    · rename_i h2; cases h; omega
    · cases h
theorem dgL_base (b : Nat) (hb : b = 10 ∨ b = 16) (s : List UInt8) : ∀ d ∈ dgL b s, d < b := by
  have key : ∀ (l : List UInt8) (o : List Nat), (∀ d ∈ o, d < b) → ∀ d ∈ l.foldl (dgStep b) o, d < b := by
    intro l
    induction l with
    | nil => intro o h; exact h
    | cons c r ih =>
      intro o h
      rw [List.foldl_cons]
      refine ih _ ?_
      unfold dgStep
      split
      · rename_i d hd
        split
        · intro x hx
          rcases List.mem_append.1 hx with hx | hx
          · exact h x hx
          · rw [List.mem_singleton.1 hx]; exact dig_base hb hd
        · exact h
      · exact h
  exact key s [] (by intro d hd; cases hd)

/-- What a text that is read looks like. -/
theorem readL_ok {s : List UInt8} {r : Txt} (h : readL s = some r) : (r.kind ≠ 0 → r.digits = []) ∧ (r.kind = 0 → (r.base = 10 ∨ r.base = 16) ∧ (∀ d ∈ r.digits, d < r.base) ∧ r.digits.length ≤ 2 * s.length ∧ -1000000000000000 - 4 * (s.length : Int) ≤ r.exp ∧ r.exp ≤ 1000000000000000) := by
  unfold readL at h
  split at h
  · cases h; exact ⟨fun _ => rfl, fun h => by cases h⟩
  · unfold readU at h
    split at h
    · cases h; exact ⟨fun _ => rfl, fun h => by cases h⟩
    · obtain ⟨x, hx, rfl⟩ := Option.map_eq_some_iff.1 h
      refine ⟨fun h => absurd rfl h, fun _ => ?_⟩
      dsimp only
      generalize hu : (sgL (lowL s)).2 = u at *
      have hul : u.length ≤ s.length := by
        rw [← hu]
        have e : (lowL s).length = s.length := by unfold lowL; rw [List.length_map]
        rw [← e]
        cases lowL s with
        | nil => simp [sgL]
        | cons c r =>
          simp only [sgL]
          split
          · simp
          · split <;> simp
      have h1 : (nFirst u).length ≤ u.length := by unfold nFirst; rw [List.length_take, List.length_drop]; omega
      have h2 : (nSecond u).length ≤ u.length := by unfold nSecond; split; rw [List.length_take, List.length_drop]; omega; simp
      refine ⟨nBase_or u, dgL_base _ (nBase_or u) _, ?_, ?_⟩
      · have := dgL_len (nBase u) (nFirst u ++ nSecond u)
        unfold nDigits
        rw [List.length_append] at this
        omega
      · unfold numE at hx
        split at hx
        · cases hx
        · obtain ⟨y, hy, rfl⟩ := Option.map_eq_some_iff.1 hx
          have hyb : -1000000000000000 ≤ y ∧ y ≤ 1000000000000000 := by
            unfold nExp at hy
            split at hy
            · exact expoL_bd _ _ _ hy
            · have := Option.some.inj hy; omega
          have h3 := cntL_le (nBase u) (nSecond u)
          have h4 : nPer u ≤ 4 := by unfold nPer; split <;> omega
          have h5 : nPer u * cntL (nBase u) (nSecond u) ≤ 4 * s.length := Nat.mul_le_mul h4 (by omega)
          generalize nPer u * cntL (nBase u) (nSecond u) = q at h5 ⊢
          omega

theorem ordI_zero {b : Nat} {l : List Nat} {x : Int} (h : ordI b l x = 0) (hl : l.length ≤ 5000) : -30000 ≤ x ∧ x ≤ 30000 := by
  unfold ordI at h
  split at h
  · cases h
  · split at h
    · split at h
      · cases h
      · split at h
        · cases h
        · omega
    · split at h
      · cases h
      · split at h
        · cases h
        · omega

theorem set3_cell {w : World} {B D i : Nat} {v : Value} (hne : D ≠ B) (h : w.cell? ⟨D, i, none⟩ = some v) (u0 u1 u2 : Value) :
    (((w.setCell ⟨B, 0, none⟩ u0).setCell ⟨B, 1, none⟩ u1).setCell ⟨B, 2, none⟩ u2).cell? ⟨D, i, none⟩ = some v := by
  have h1 : (w.setCell ⟨B, 0, none⟩ u0).cell? ⟨D, i, none⟩ = some v := by rw [World.cell?_of_block (Below.heap_setCell w ⟨B, 0, none⟩ u0 D hne)]; exact h
  have h2 : ((w.setCell ⟨B, 0, none⟩ u0).setCell ⟨B, 1, none⟩ u1).cell? ⟨D, i, none⟩ = some v := by rw [World.cell?_of_block (Below.heap_setCell _ ⟨B, 1, none⟩ u1 D hne)]; exact h1
  rw [World.cell?_of_block (Below.heap_setCell _ ⟨B, 2, none⟩ u2 D hne)]; exact h2

def RatPost (s : List UInt8) (w : World) (e : Ending) (w' : World) : Prop := w.grownBy w' none ∧
  match ratL s with
  | none => e = .returned (.tuple #[.agg ratZ.toArray, .bool false])
  | some (ng, n, d) => ∃ vr, e = .returned (.tuple #[vr, .bool true]) ∧ RatV w' vr ng n d
theorem ratPost_none {s : List UInt8} {w w' : World} (h : ratL s = none) (hg : w.grownBy w' none) : RatPost s w (.returned (.tuple #[.agg ratZ.toArray, .bool false])) w' := by
  unfold RatPost; rw [h]; exact ⟨hg, rfl⟩
theorem ratPost_some {s : List UInt8} {w w' : World} {ng : Bool} {n d : Nat} {vr : Value} (h : ratL s = some (ng, n, d)) (hg : w.grownBy w' none) (hr : RatV w' vr ng n d) : RatPost s w (.returned (.tuple #[vr, .bool true])) w' := by
  unfold RatPost; rw [h]; exact ⟨hg, vr, rfl, hr⟩

set_option maxRecDepth 100000 in
set_option maxHeartbeats 8000000 in
theorem rationalOf_any (s : List UInt8) (w : World) (hs : s.length ≤ 2500) :
    Calls Tryd.prog 20 #[.string ⟨s.toArray⟩] w (RatPost s w) := by
  have HRT := Lib.hid (fun W => readText_any s W (by omega))
  refine calls_F Tryd.func20 rfl (by rw [Tryd.ntmps20]; simp) ?_
  intro σ hσ
  rw [Tryd.ntmps20]
  have s0 : σ 0 = .string ⟨s.toArray⟩ := hσ 0 (by simp)
  clear hσ
  obtain ⟨w1, hw1⟩ : ∃ w1, w.alloc (.cells ratZ.toArray 33) = w1 := ⟨_, rfl⟩
  have hrB := Row.new w ratZ 33
  have hgB := World.grownBy_alloc w (.cells ratZ.toArray 33) none
  rw [hw1] at hrB hgB
  unfold ratZ at hw1
  have HRB := Lib.hid hrB
  have HGB := Lib.hid hgB
  clear hrB hgB
  obtain ⟨B, hB⟩ : ∃ B, w.heap.size = B := ⟨_, rfl⟩
  go_wp2_with fail
  clear hw1
  rw [hB] at HRB
  have hBw : w.heap.size ≤ B := by omega
  clear hB
  refine (HRT.out _).mono ?_
  rintro e w2 ⟨hg2, hp⟩
  have HRB2 := Lib.hid (HRB.out.grown hg2 (by simp))
  have HG2 := Lib.hid (grown_none_tr HGB.out hg2)
  have hBlt : B < w1.heap.size := HRB.out.lt
  have hBlt2 : B < w2.heap.size := HRB2.out.lt
  obtain ⟨D, hD⟩ : ∃ D, w2.heap.size = D := ⟨_, rfl⟩
  have hDw : w.heap.size ≤ D := by omega
  have hBD : B ≠ D := by omega
  clear hg2 HRB HGB HRT
  -- what comes of a text that is none, or none of a number
  have none_end : ∀ (env : List (Nat × Value)) (w' : World), ratL s = none → Row w' B ratZ → w.grownBy w' none → True := fun _ _ _ _ _ => trivial
  clear none_end
  cases hrd : readL s with
  | none =>
    rw [hrd] at hp
    dsimp only at hp
    have hno : ratL s = none := by unfold ratL; rw [hrd]
    have HNO := Lib.hid hno
    subst hp
    have hgD := World.grownBy_alloc w2 (.cells textZ.toArray 60) none
    have HRB3 := Lib.hid (HRB2.out.grown hgD (by simp))
    have HG3 := Lib.hid (grown_none_tr HG2.out hgD)
    obtain ⟨w3, hw3⟩ : ∃ w3, w2.alloc (.cells textZ.toArray 60) = w3 := ⟨_, rfl⟩
    rw [hw3] at HRB3 HG3
    have HW3 := Lib.hid hw3
    unfold textZ at HW3 ⊢
    clear hno hrd hw3 hgD
    go_upto_region 2 with fail
    rw [HW3.out]
    have k0 := HRB3.out.cell 0
    have k1 := HRB3.out.cell 1
    have k2 := HRB3.out.cell 2
    have t0 := HRB3.out.frozen 0
    have t1 := HRB3.out.frozen 1
    have t2 := HRB3.out.frozen 2
    unfold ratZ at k0 k1 k2
    simp only [List.getElem?_cons_zero, List.getElem?_cons_succ] at k0 k1 k2
    ((repeat (go_wp2_with fail; first | (refine cond_yes ?hc (by decide) ?_; (case hc => (simp [over_cons, over_nil, *]; done))) | (refine cond_no ?hc (by decide) ?_; (case hc => (simp [over_cons, over_nil, *]; done))))); go_wp2_with fail)
    obtain ⟨ty, hrow⟩ := set3_row HRB3.out (.bool false) (.slice none 0 0) (.slice none 0 0)
    refine ret_cell_F (B := B) (.agg ratZ.toArray) (.bool false) rfl (by decide) (by decide) (by simp [over_cons, over_nil, *]) (by simp [over_cons, over_nil, *]) ?_ (ratPost_none HNO.out (grown_set3 HG3.out hBw _ _ _))
    exact run_loadVar_row (P := Tryd.prog) _ B ty 33 _ (0, 0) _ hrow Tryd.underlying33 rfl (by kernel_rfl)
  | some r =>
    rw [hrd] at hp
    dsimp only at hp
    obtain ⟨v, rfl, hv⟩ := hp
    have hok := readL_ok hrd
    have hrat : ratL s = if r.kind ≠ 0 then none else if r.digits = [] then some (r.neg, 0, 1) else if ordI r.base r.digits r.exp ≠ 0 then none
      else some (r.neg, tval r.base r.digits * tenOf r.base ^ r.exp.toNat, tenOf r.base ^ (-r.exp).toNat) := by unfold ratL; rw [hrd]
    clear hrd
    obtain ⟨kind, neg, b, l, x⟩ := r
    dsimp only at hv hok hrat ⊢
    have hOR := fun (hb : b = 10 ∨ b = 16) (hx1 : -2000000000000000 ≤ x) (hx2 : x ≤ 2000000000000000) (hl : l.length ≤ 4000000) W (h : RdI W v l) => order_any ⟨kind, neg, b, l, x⟩ v W hb h hl hx1 hx2
    have hRA := fun (hb : b = 10 ∨ b = 16) (hd : ∀ d ∈ l, d < b) (hl : l.length ≤ 100000) (hx1 : -30000 ≤ x) (hx2 : x ≤ 30000) W (h : RdI W v l) => rational_any ⟨kind, neg, b, l, x⟩ v W hb h hd hl hx1 hx2
    unfold txtV at hOR hRA
    dsimp only at hOR hRA
    obtain ⟨a, c, rfl⟩ := hv.1.len
    obtain ⟨N, hN⟩ : ∃ N, l.length = N := ⟨_, rfl⟩
    rw [hN] at hv hOR hRA hok
    simp only [hN]
    have hgD := World.grownBy_alloc w2 (.cells #[.int .i64 kind, .bool neg, .int .i64 (b : Int), .slice a N c, .int .i64 x] 60) none
    have HRB3 := Lib.hid (HRB2.out.grown hgD (by simp))
    have HG3 := Lib.hid (grown_none_tr HG2.out hgD)
    have HV3 := Lib.hid (hv.1.grown hgD)
    have hrD : Row (w2.alloc (.cells #[.int .i64 kind, .bool neg, .int .i64 (b : Int), .slice a N c, .int .i64 x] 60)) D [.int .i64 kind, .bool neg, .int .i64 (b : Int), .slice a N c, .int .i64 x] := by rw [← hD]; exact Row.new w2 _ _
    obtain ⟨w3, hw3⟩ : ∃ w3, w2.alloc (.cells #[.int .i64 kind, .bool neg, .int .i64 (b : Int), .slice a N c, .int .i64 x] 60) = w3 := ⟨_, rfl⟩
    rw [hw3] at HRB3 HG3 HV3 hrD
    have HRD := Lib.hid hrD
    have HW3 := Lib.hid hw3
    have HDD := Lib.hid hD
    have HRAT := Lib.hid hrat
    have HOK := Lib.hid hok
    have HN := Lib.hid hN
    have HOR := Lib.hid hOR
    have HRA := Lib.hid hRA
    clear hv hok hrat hN hOR hRA hw3 hgD hrD hD
    go_upto_region 2 with fail
    rw [HW3.out, HDD.out]
    have k0 := HRB3.out.cell 0
    have k1 := HRB3.out.cell 1
    have k2 := HRB3.out.cell 2
    have t0 := HRB3.out.frozen 0
    have t1 := HRB3.out.frozen 1
    have t2 := HRB3.out.frozen 2
    have m0 := HRD.out.cell 0
    have m1 := HRD.out.cell 1
    have m2 := HRD.out.cell 2
    have m3 := HRD.out.cell 3
    have m4 := HRD.out.cell 4
    unfold ratZ at k0 k1 k2
    simp only [List.getElem?_cons_zero, List.getElem?_cons_succ] at k0 k1 k2 m0 m1 m2 m3 m4
    by_cases hk : kind = 0
    case neg =>
      have hk' : (kind != 0) = true := by rw [bne_iff_ne]; exact hk
      have hno := HRAT.out
      rw [if_pos hk] at hno
      have HNO := Lib.hid hno
      clear hno
      ((repeat (go_wp2_with fail; first | (refine cond_yes ?hc (by decide) ?_; (case hc => (simp [over_cons, over_nil, *]; done))) | (refine cond_no ?hc (by decide) ?_; (case hc => (simp [over_cons, over_nil, *]; done))))); go_wp2_with fail)
      obtain ⟨ty, hrow⟩ := set3_row HRB3.out (.bool false) (.slice none 0 0) (.slice none 0 0)
      refine ret_cell_F (B := B) (.agg ratZ.toArray) (.bool false) rfl (by decide) (by decide) (by simp [over_cons, over_nil, *]) (by simp [over_cons, over_nil, *]) ?_ (ratPost_none HNO.out (grown_set3 HG3.out hBw _ _ _))
      exact run_loadVar_row (P := Tryd.prog) _ B ty 33 _ (0, 0) _ hrow Tryd.underlying33 rfl (by kernel_rfl)
    subst hk
    have hrat := HRAT.out
    rw [if_neg (by simp)] at hrat
    obtain ⟨hb, hdb, hlb, hx1, hx2⟩ := HOK.out.2 rfl
    have hN5 : N ≤ 5000 := by omega
    by_cases hl0 : l = []
    · rw [if_pos hl0] at hrat
      have hN0 : N = 0 := by rw [← HN.out, hl0]; rfl
      subst hN0
      have HRAT2 := Lib.hid hrat
      have HNO := Lib.hid (fun W => natOf_any 1 W (by omega))
      clear hrat hl0 hb hdb hlb
      ((repeat (go_wp2_with fail; first | (refine cond_yes ?hc (by decide) ?_; (case hc => (simp [over_cons, over_nil, *]; done))) | (refine cond_no ?hc (by decide) ?_; (case hc => (simp [over_cons, over_nil, *]; done))))); go_wp2_with fail)
      refine wp_region_noPanic ?_
      refine wp_region_held_drew (S := fun W => w.grownBy W none ∧ W.cell? ⟨D, 1, none⟩ = some (.bool neg)) (by kernel_rfl) ⟨grown_none_tr HG3.out (grown_drewN w3 1 none), m1⟩ (fun hHeld => ?_)
      ((refine take_F 0 23 (oi := ?_) (v := ?_) ?_ ?_ (by kernel_rfl) (by kernel_rfl) (by kernel_rfl) (fun _ _ _ _ _ h => h) ?_ (by assumption) ?_ ?_; rotate_left 2; (focus ((simp only [List.getElem?_toArray, List.getElem?_cons_succ, List.getElem?_cons_zero]); rfl)); (focus rfl); (focus (first | rfl | (simp only [Region.wanted, yielded, List.getElem?_toArray, List.getElem?_cons_succ, List.getElem?_cons_zero, Option.bind_some, Option.map_some, Fr_get?, over_cons, over_nil]; rfl) | go_simp)); (focus ((intro w hSw; go_simp; try with_reducible rfl)))))
      (refine take_F 1 24 (oi := ?_) (v := ?_) ?_ ?_ (by kernel_rfl) (by kernel_rfl) (by kernel_rfl) (fun _ _ _ _ _ h => h) ?_ (by assumption) ?_ ?_; rotate_left 2; (focus ((simp only [List.getElem?_toArray, List.getElem?_cons_succ, List.getElem?_cons_zero]); rfl)); (focus rfl); (focus (first | rfl | (simp only [Region.wanted, yielded, List.getElem?_toArray, List.getElem?_cons_succ, List.getElem?_cons_zero, Option.bind_some, Option.map_some, Fr_get?, over_cons, over_nil]; rfl) | go_simp)); (focus (intro W hS; have hc := hS.2; go_simp; try with_reducible rfl)))
      (refine only_F 2 (oi := ?_) ?_ (by kernel_rfl) ?_ ?_; rotate_left 1; (focus ((simp only [List.getElem?_toArray, List.getElem?_cons_succ, List.getElem?_cons_zero]); rfl)); (focus (first | rfl | go_simp)); intro K hK; go_simp; (refine (HNO.out _).mono ?_; rintro e w9 ⟨v9, rfl, hn9, hg9⟩); go_wp2_with fail; replace hHeld := And.intro (grown_none_tr hHeld.1 hg9) (cellI_grown hg9 hHeld.2); refine hK.out _ _ hHeld ?_; clear hK K)
      have hrB9 := (HRB3.out.drew).grown hg9 (by simp)
      obtain ⟨a9, c9, rfl⟩ := hn9.len
      generalize (natL 1).length = L9 at *
      clear k0 k1 k2 t0 t1 t2 hg9
      ((refine take_F 3 26 (oi := ?_) (v := ?_) ?_ ?_ (by kernel_rfl) (by kernel_rfl) (by kernel_rfl) (fun _ _ _ _ _ h => h) ?_ (by assumption) ?_ ?_; rotate_left 2; (focus ((simp only [List.getElem?_toArray, List.getElem?_cons_succ, List.getElem?_cons_zero]); rfl)); (focus rfl); (focus (first | rfl | (simp only [Region.wanted, yielded, List.getElem?_toArray, List.getElem?_cons_succ, List.getElem?_cons_zero, Option.bind_some, Option.map_some, Fr_get?, over_cons, over_nil]; rfl) | go_simp)); (focus ((intro w hSw; go_simp; try with_reducible rfl)))))
      have k0 := hrB9.cell 0
      have k1 := hrB9.cell 1
      have k2 := hrB9.cell 2
      have t0 := hrB9.frozen 0
      have t1 := hrB9.frozen 1
      have t2 := hrB9.frozen 2
      unfold ratZ at k0 k1 k2
      simp only [List.getElem?_cons_zero, List.getElem?_cons_succ] at k0 k1 k2
      have hDB : D ≠ B := fun e => hBD e.symm
      (refine only_F 4 (oi := ?_) ?_ (by kernel_rfl) ?_ ?_; rotate_left 1; (focus ((simp only [List.getElem?_toArray, List.getElem?_cons_succ, List.getElem?_cons_zero]); rfl)); (focus (first | rfl | go_simp)); intro K hK; go_simp; (skip); go_wp2_with fail; replace hHeld := And.intro (grown_set3 hHeld.1 hBw (.bool neg) (.slice none 0 0) (.slice a9 L9 c9)) (set3_cell hDB hHeld.2 (.bool neg) (.slice none 0 0) (.slice a9 L9 c9)); refine hK.out _ _ hHeld ?_; clear hK K)
      ((refine take_F 5 3 (oi := ?_) (v := ?_) ?_ ?_ (by kernel_rfl) (by kernel_rfl) (by kernel_rfl) (fun _ _ _ _ _ h => h) ?_ (by assumption) ?_ ?_; rotate_left 2; (focus ((simp only [List.getElem?_toArray, List.getElem?_cons_succ, List.getElem?_cons_zero]); rfl)); (focus rfl); (focus (first | rfl | (simp only [Region.wanted, yielded, List.getElem?_toArray, List.getElem?_cons_succ, List.getElem?_cons_zero, Option.bind_some, Option.map_some, Fr_get?, over_cons, over_nil]; rfl) | go_simp)); (focus ((intro w hSw; go_simp; try with_reducible rfl)))))
      refine wpAnyH_done (by kernel_rfl) ?_ _
      refine NoPanic.normal ?_
      have hn9' : NatV w9 (.slice a9 L9 c9) 1 := hn9
      have hz : NatV w9 (.slice none 0 0) 0 := by unfold NatV; rw [natL_zero]; exact Or.inl ⟨rfl, rfl⟩
      have HR9 := Lib.hid hrB9
      have HN9 := Lib.hid (set3_nat hrB9 hn9' neg (.slice none 0 0) (.slice a9 L9 c9))
      have HZ9 := Lib.hid (set3_nat hrB9 hz neg (.slice none 0 0) (.slice a9 L9 c9))
      have HH := Lib.hid hHeld.1
      clear hrB9 hn9 hn9' hz hHeld k0 k1 k2 t0 t1 t2
      ((repeat (go_wp2_with fail; first | (refine cond_yes ?hc (by decide) ?_; (case hc => (simp [over_cons, over_nil, *]; done))) | (refine cond_no ?hc (by decide) ?_; (case hc => (simp [over_cons, over_nil, *]; done))))); go_wp2_with fail)
      obtain ⟨ty, hrow⟩ := set3_row HR9.out (.bool neg) (.slice none 0 0) (.slice a9 L9 c9)
      refine ret_cell_F (B := B) (.agg #[.bool neg, .slice none 0 0, .slice a9 L9 c9]) (.bool true) rfl (by decide) (by decide) (by simp [over_cons, over_nil, *]) (by simp [over_cons, over_nil, *]) ?_ (ratPost_some HRAT2.out HH.out ⟨_, _, rfl, HZ9.out, HN9.out⟩)
      exact run_loadVar_row (P := Tryd.prog) _ B ty 33 _ (0, 0) _ hrow Tryd.underlying33 rfl (by kernel_rfl)
    rw [if_neg hl0] at hrat
    have hN0 : N ≠ 0 := by rw [← HN.out]; exact fun e => hl0 (List.length_eq_zero_iff.1 e)
    have e1 : ((N : Int) == 0) = false := by rw [beq_eq_false_iff_ne]; omega
    have e2 : (N == 0) = false := by rw [beq_eq_false_iff_ne]; omega
    have HO := Lib.hid (HOR.out hb (by omega) (by omega) (by omega))
    have hRA2 : ordI b l x = 0 → _ := fun h => HRA.out hb hdb (by omega) (ordI_zero h (by rw [HN.out]; exact hN5)).1 (ordI_zero h (by rw [HN.out]; exact hN5)).2
    have HRA2 := Lib.hid hRA2
    have HRAT2 := Lib.hid hrat
    clear hRA2 hrat hl0 hb hdb HOR HRA HOK
    ((repeat (go_wp2_with fail; first | (refine cond_yes ?hc (by decide) ?_; (case hc => (simp [over_cons, over_nil, *]; done))) | (refine cond_no ?hc (by decide) ?_; (case hc => (simp [over_cons, over_nil, *]; done))))); go_wp2_with fail)
    refine (HO.out _ HV3.out).mono ?_
    rintro e w5 ⟨rfl, hg5⟩
    have HRB5 := Lib.hid (HRB3.out.grown hg5 (by simp))
    have HRD5 := Lib.hid (HRD.out.grown hg5 (by simp))
    have HG5 := Lib.hid (grown_none_tr HG3.out hg5)
    have HV5 := Lib.hid (HV3.out.grown hg5)
    clear hg5 k0 k1 k2 t0 t1 t2 m0 m1 m2 m3 m4
    have m0 := HRD5.out.cell 0
    have m1 := HRD5.out.cell 1
    have m2 := HRD5.out.cell 2
    have m3 := HRD5.out.cell 3
    have m4 := HRD5.out.cell 4
    simp only [List.getElem?_cons_zero, List.getElem?_cons_succ] at m0 m1 m2 m3 m4
    by_cases ho : ordI b l x = 0
    case neg =>
      have hno := HRAT2.out
      rw [if_pos ho] at hno
      have HNO := Lib.hid hno
      have ho' : (ordI b l x != 0) = true := by rw [bne_iff_ne]; exact ho
      have k0 := HRB5.out.cell 0
      have k1 := HRB5.out.cell 1
      have k2 := HRB5.out.cell 2
      have t0 := HRB5.out.frozen 0
      have t1 := HRB5.out.frozen 1
      have t2 := HRB5.out.frozen 2
      unfold ratZ at k0 k1 k2
      simp only [List.getElem?_cons_zero, List.getElem?_cons_succ] at k0 k1 k2
      clear hno ho
      generalize ordI b l x = o at *
      ((repeat (go_wp2_with fail; first | (refine cond_yes ?hc (by decide) ?_; (case hc => (simp [over_cons, over_nil, *]; done))) | (refine cond_no ?hc (by decide) ?_; (case hc => (simp [over_cons, over_nil, *]; done))))); go_wp2_with fail)
      obtain ⟨ty, hrow⟩ := set3_row HRB5.out (.bool false) (.slice none 0 0) (.slice none 0 0)
      refine ret_cell_F (B := B) (.agg ratZ.toArray) (.bool false) rfl (by decide) (by decide) (by simp [over_cons, over_nil, *]) (by simp [over_cons, over_nil, *]) ?_ (ratPost_none HNO.out (grown_set3 HG5.out hBw _ _ _))
      exact run_loadVar_row (P := Tryd.prog) _ B ty 33 _ (0, 0) _ hrow Tryd.underlying33 rfl (by kernel_rfl)
    have hyes := HRAT2.out
    rw [if_neg (fun h => h ho)] at hyes
    have HYES := Lib.hid hyes
    have HRL := Lib.hid (HRA2.out ho w5 HV5.out)
    rw [ho]
    clear hyes ho HRA2 HRAT2
    ((repeat (go_wp2_with fail; first | (refine cond_yes ?hc (by decide) ?_; (case hc => (simp [over_cons, over_nil, *]; done))) | (refine cond_no ?hc (by decide) ?_; (case hc => (simp [over_cons, over_nil, *]; done))))); go_wp2_with fail)
    refine HRL.out.mono ?_
    rintro e w6 ⟨vr, rfl, ⟨vn, vd, rfl, hvn, hvd⟩, hg6⟩
    have HRB6 := Lib.hid (HRB5.out.grown hg6 (by simp))
    have HG6 := Lib.hid (grown_none_tr HG5.out hg6)
    have HVN := Lib.hid hvn
    have HVD := Lib.hid hvd
    obtain ⟨an, cn, rfl⟩ := hvn.len
    obtain ⟨ad, cd, rfl⟩ := hvd.len
    generalize (natL (tval b l * tenOf b ^ x.toNat)).length = Ln at *
    generalize (natL (tenOf b ^ (-x).toNat)).length = Ld at *
    have k0 := HRB6.out.cell 0
    have k1 := HRB6.out.cell 1
    have k2 := HRB6.out.cell 2
    have t0 := HRB6.out.frozen 0
    have t1 := HRB6.out.frozen 1
    have t2 := HRB6.out.frozen 2
    unfold ratZ at k0 k1 k2
    simp only [List.getElem?_cons_zero, List.getElem?_cons_succ] at k0 k1 k2
    clear hvn hvd hg6
    ((repeat (go_wp2_with fail; first | (refine cond_yes ?hc (by decide) ?_; (case hc => (simp [over_cons, over_nil, *]; done))) | (refine cond_no ?hc (by decide) ?_; (case hc => (simp [over_cons, over_nil, *]; done))))); go_wp2_with fail)
    obtain ⟨ty, hrow⟩ := set3_row HRB6.out (.bool neg) (.slice an Ln cn) (.slice ad Ld cd)
    refine ret_cell_F (B := B) (.agg #[.bool neg, .slice an Ln cn, .slice ad Ld cd]) (.bool true) rfl (by decide) (by decide) (by simp [over_cons, over_nil, *]) (by simp [over_cons, over_nil, *]) ?_ (ratPost_some HYES.out (grown_set3 HG6.out hBw _ _ _) ⟨_, _, rfl, set3_nat HRB6.out HVN.out _ _ _, set3_nat HRB6.out HVD.out _ _ _⟩)
    exact run_loadVar_row (P := Tryd.prog) _ B ty 33 _ (0, 0) _ hrow Tryd.underlying33 rfl (by kernel_rfl)
end Go.Proofs.YthkcfpmlgoomfaaDoor
