/-
  Lemmas and walks of functions, several texts in one.
-/
import Derived.Test.YticlnihjhcepkaaGreatDoorRows
import Derived.Test.YticlnihjhcepkaaGreatDoorGa
import Derived.Lib.Hide
import Derived.WalkLawsBesides
import Derived.BigQuiet
import Derived.StillTailTactics
import Derived.IntWalk
import Derived.Laws.MakeOwn
import Derived.Laws.OwnMore
/-
  Walks of spec/nat.go: at, trim, NatOf, CompareNat.
-/
namespace Go.Proofs.YticlnihjhcepkaaGreatDoor
open Go.RowKit
set_option linter.unusedSimpArgs false
set_option linter.unusedVariables false

theorem intInfo : (Tryz.prog.info? 3).map (fun i => (i.zero, i.size, i.bytes)) = some (some (.int .i64 0), 1, 8) := by kernel_rfl
theorem intTy : IntTy Tryz.prog 43 := by
  obtain ⟨i0, hi, hz0, hz1, hz2⟩ := info_parts intInfo
  exact ⟨3, i0, _, Tryz.underlying43, hi, hz0, hz1, rfl, hz2⟩

theorem grown_none_tr {w w1 w2 : World} (h : w.grownBy w1 none) (k : w1.grownBy w2 none) : w.grownBy w2 none := grown_trans h k (fun j e => by cases e)

set_option maxHeartbeats 2000000 in
theorem trimS_any (v : Value) (xs : List Nat) (w : World) (hr : RdI w v xs) (hx : xs.length ≤ 1000000) :
    Calls Tryz.prog 88 #[v] w fun e w' => ∃ v', e = .returned v' ∧ OwnI w.heap.size w' v' (xs.take (trimK xs xs.length)) ∧ w.grownBy w' none := by
  have HO0 := Lib.hid (OwnI.fresh0 (T := w.heap.size) (w := w) (Nat.le_refl _) 3)
  have HG0 := Lib.hid (World.grownBy_alloc w (.cells #[] 3) none)
  rcases hr with ⟨rfl, rfl⟩ | ⟨g, c, rfl, hc, hm, hcell⟩
  · have HS := Lib.hid (Src.ofNil (P := Tryz.prog) (size := 1) (w.alloc (.cells #[] 3)) Tryz.underlying43 0)
    refine calls_F Tryz.func88 rfl (by rw [Tryz.ntmps88]; simp) ?_
    intro σ hσ
    rw [Tryz.ntmps88]
    have s0 : σ 0 = .slice none 0 0 := hσ 0 (by simp)
    clear hσ
    ((repeat (go_wp2_with fail; first | (refine cdY ?_ ?_; focus (simp [ov, *]; done)) | (refine cdN ?_ ?_; focus (simp [ov, *]; done)))); go_wp2_with fail)
    refine loop_F (fun kk s' w' => s' 0 = .slice none 0 0 ∧ s' 3 = .int .i64 0 ∧ w = w') 0 ⟨by simp [ov, *], by simp [ov, *], rfl⟩ ?_
    clear s0 σ
    rintro kk σ wk ⟨s0, s3, rfl⟩ RK KK HRK hKK
    ((repeat (go_wp2_with (first | (at_builtin; refine wpList_appI rfl _ _ _ _ rfl (by decide) (by decide) intTy HO0.out (by simp [ov, *]) _ (by simp [ov, *]) [] HS.out (by simp) ?_; intro v1 w1 ho1 hs1)); first | (refine cdY ?_ ?_; focus (simp [ov, *]; done)) | (refine cdN ?_ ?_; focus (simp [ov, *]; done)))); go_wp2_with (first | (at_builtin; refine wpList_appI rfl _ _ _ _ rfl (by decide) (by decide) intTy HO0.out (by simp [ov, *]) _ (by simp [ov, *]) [] HS.out (by simp) ?_; intro v1 w1 ho1 hs1)))
    refine ret_F v1 rfl (by decide) (by simp [ov, *]) ⟨v1, rfl, ?_, grown_ownI (Nat.le_refl _) HG0.out HO0.out hs1⟩
    exact ho1
  · obtain ⟨N, hN⟩ : ∃ N, xs.length = N := ⟨_, rfl⟩
    rw [hN] at hx hc
    simp only [hN]
    have HC := Lib.hid hcell
    have HN := Lib.hid hN
    clear hcell hN
    refine calls_F Tryz.func88 rfl (by rw [Tryz.ntmps88]; simp) ?_
    intro σ hσ
    rw [Tryz.ntmps88]
    have s0 : σ 0 = .slice (some ⟨g, 0, none⟩) N c := hσ 0 (by simp)
    clear hσ
    ((repeat (go_wp2_with fail; first | (refine cdY ?_ ?_; focus (simp [ov, *]; done)) | (refine cdN ?_ ?_; focus (simp [ov, *]; done)))); go_wp2_with fail)
    refine loop_F (fun kk s' w' => ∃ i : Nat, i ≤ N ∧ kk = i ∧ s' 0 = .slice (some ⟨g, 0, none⟩) N c ∧ s' 3 = .int .i64 (i : Int) ∧ w = w' ∧ trimK xs i = trimK xs N) N
      ⟨N, Nat.le_refl _, rfl, by simp [ov, *], by simp [ov, *], rfl, rfl⟩ ?_
    clear s0 σ
    rintro kk σ wk ⟨i, hi, hkk, s0, s3, rfl, htr⟩ RK KK HRK hKK
    have HKK := Lib.hid hkk
    clear hkk
    have fin : ∀ (htk : trimK xs N = i) (v1 : Value) (w1 : World) (ho1 : OwnI w.heap.size w1 v1 ([] ++ xs.take i)), OwnI w.heap.size w1 v1 (xs.take (trimK xs N)) := by
      intro htk v1 w1 ho1
      rw [htk]
      exact ho1
    have FIN := Lib.hid fin
    clear fin
    have HSRC := Lib.hid (RdI.head (P := Tryz.prog) (w := w.alloc (.cells #[] 3)) Tryz.underlying43 (fun j u hu => cellI_grown HG0.out (HC.out j u hu)) i c (by rw [HN.out]; exact hi))
    have hlt : (xs.take i).length ≤ 1000000 := by rw [List.length_take]; omega
    have hiN : (i : Int) ≤ (N : Int) := by omega
    have hic : (i : Int) ≤ (c : Int) := by omega
    have hge : (0 : Int) ≤ (i : Int) := by omega
    by_cases h0 : i = 0
    · subst h0
      ((repeat (go_wp2_with (first | (at_builtin; refine wpList_appI rfl _ _ _ _ rfl (by decide) (by decide) intTy HO0.out (by simp [ov, *]) _ (by simp [ov, *]) (xs.take 0) HSRC.out (by simp) ?_; intro v1 w1 ho1 hs1)); first | (refine cdY ?_ ?_; focus (simp [ov, *]; done)) | (refine cdN ?_ ?_; focus (simp [ov, *]; done)))); go_wp2_with (first | (at_builtin; refine wpList_appI rfl _ _ _ _ rfl (by decide) (by decide) intTy HO0.out (by simp [ov, *]) _ (by simp [ov, *]) (xs.take 0) HSRC.out (by simp) ?_; intro v1 w1 ho1 hs1)))
      exact ret_F v1 rfl (by decide) (by simp [ov, *]) ⟨v1, rfl, FIN.out (by rw [← htr]; rfl) v1 w1 ho1, grown_ownI (Nat.le_refl _) HG0.out HO0.out hs1⟩
    · obtain ⟨j, rfl⟩ : ∃ j, i = j + 1 := ⟨i - 1, by omega⟩
      obtain ⟨u, hu⟩ : ∃ u, xs[j]? = some u := ⟨xs[j]'(by rw [HN.out]; omega), List.getElem?_eq_getElem _⟩
      have hcj := HC.out j u hu
      have hgd : xs.getD j 0 = u := by rw [List.getD_eq_getElem?_getD, hu]; rfl
      unfold encI at hcj
      have e1 : ((j + 1 : Nat) : Int) - 1 = (j : Int) := by omega
      have h1 : (0 : Int) < ((j + 1 : Nat) : Int) := by omega
      have h2 : (j : Int) < (N : Int) := by omega
      have HGD := Lib.hid hgd
      have HTR := Lib.hid htr
      clear hu hgd htr h0
      by_cases hu0 : u = 0
      · subst hu0
        ((repeat (go_wp2_with fail; first | (refine cdY ?_ ?_; focus (simp [ov, *]; done)) | (refine cdN ?_ ?_; focus (simp [ov, *]; done)))); go_wp2_with fail)
        exact gotk HRK j (by have := HKK.out; omega) ⟨j, by omega, rfl, by simp [ov, *], by simp [over_cons, over_nil], rfl, by rw [← HTR.out, trimK, if_pos HGD.out]⟩
      · have hu1 : ((u : Int) == 0) = false := by rw [beq_eq_false_iff_ne]; omega
        ((repeat (go_wp2_with (first | (at_builtin; refine wpList_appI rfl _ _ _ _ rfl (by decide) (by decide) intTy HO0.out (by simp [ov, *]) _ (by simp [ov, *]) (xs.take (j + 1)) HSRC.out (by simp; omega) ?_; intro v1 w1 ho1 hs1)); first | (refine cdY ?_ ?_; focus (simp [ov, *]; done)) | (refine cdN ?_ ?_; focus (simp [ov, *]; done)))); go_wp2_with (first | (at_builtin; refine wpList_appI rfl _ _ _ _ rfl (by decide) (by decide) intTy HO0.out (by simp [ov, *]) _ (by simp [ov, *]) (xs.take (j + 1)) HSRC.out (by simp; omega) ?_; intro v1 w1 ho1 hs1)))
        exact ret_F v1 rfl (by decide) (by simp [ov, *]) ⟨v1, rfl, FIN.out (by rw [← HTR.out, trimK, if_neg (by rw [HGD.out]; exact hu0)]) v1 w1 ho1, grown_ownI (Nat.le_refl _) HG0.out HO0.out hs1⟩
end Go.Proofs.YticlnihjhcepkaaGreatDoor

/-
  Walks of spec/nat.go: at, NatOf, CompareNat.
-/
namespace Go.Proofs.YticlnihjhcepkaaGreatDoor
open Go.RowKit
set_option linter.unusedSimpArgs false
set_option linter.unusedVariables false

/-- The slice v is the number n. -/
def NatV (w : World) (v : Value) (n : Nat) : Prop := RdI w v (natL n)
theorem NatV.grown {w w' : World} {v : Value} {n : Nat} (h : NatV w v n) (hg : w.grownBy w' none) : NatV w' v n := RdI.grown h hg

theorem trimN_any (v : Value) (xs : List Nat) (w : World) (hr : RdI w v xs) (hx : xs.length ≤ 1000000) (hl : Limbs xs) :
    Calls Tryz.prog 88 #[v] w fun e w' => ∃ v', e = .returned v' ∧ NatV w' v' (lval xs) ∧ w.grownBy w' none := by
  refine (trimS_any v xs w hr hx).mono ?_
  rintro e w' ⟨v', rfl, ho, hg⟩
  refine ⟨v', rfl, ?_, hg⟩
  have := trim_natL xs hl xs.length (Nat.le_refl _)
  rw [List.take_length] at this
  rw [this] at ho
  exact RdI.of_own ho

/-- As trimN_any; the result lies in a new block. -/
theorem trimF_any (v : Value) (xs : List Nat) (w : World) (hr : RdI w v xs) (hx : xs.length ≤ 1000000) (hl : Limbs xs) :
    Calls Tryz.prog 88 #[v] w fun e w' => ∃ v', e = .returned v' ∧ NatV w' v' (lval xs) ∧ w.grownBy w' none ∧ ∀ k, v'.ownBlock = some k → w.heap.size ≤ k := by
  refine (trimS_any v xs w hr hx).mono ?_
  rintro e w' ⟨v', rfl, ho, hg⟩
  refine ⟨v', rfl, ?_, hg, ho.2⟩
  have := trim_natL xs hl xs.length (Nat.le_refl _)
  rw [List.take_length] at this
  rw [this] at ho
  exact RdI.of_own ho
theorem NatV.set {w : World} {v : Value} {n : Nat} (h : NatV w v n) (a : Addr) (u : Value) (hne : ∀ k, v.ownBlock = some k → k ≠ a.block) : NatV (w.setCell a u) v n := by
  rcases h with h | ⟨g, c, h1, h2, h3, h4⟩
  · exact Or.inl h
  · refine Or.inr ⟨g, c, h1, h2, h3, fun j x hx => ?_⟩
    have hne' : g ≠ a.block := hne g (by rw [h1]; rfl)
    have hb : (w.setCell a u).heap[(⟨g, j, none⟩ : Addr).block]? = w.heap[(⟨g, j, none⟩ : Addr).block]? := Below.heap_setCell w a u g hne'
    rw [World.cell?_of_block hb]
    exact h4 j x hx

set_option maxHeartbeats 1000000 in
theorem at_any (v : Value) (xs : List Nat) (i : Nat) (w : World) (hr : RdI w v xs) (hi : i ≤ 10000000) (hx : xs.length ≤ 10000000) :
    Calls Tryz.prog 53 #[v, .int .i64 (i : Int)] w fun e w' => e = .returned (.int .i64 ((xs.getD i 0 : Nat) : Int)) ∧ w = w' := by
  obtain ⟨a, c, rfl⟩ := hr.len
  obtain ⟨N, hN⟩ : ∃ N, xs.length = N := ⟨_, rfl⟩
  simp only [hN] at hr ⊢
  rw [hN] at hx
  by_cases hlt : i < N
  · obtain ⟨u, hu⟩ : ∃ u, xs[i]? = some u := ⟨xs[i]'(by rw [hN]; exact hlt), List.getElem?_eq_getElem _⟩
    obtain ⟨g, rfl, _, hc, hm, hcell⟩ := hr.at (by intro h; rw [h] at hN; simp at hN; omega)
    have hcj := hcell i u hu
    unfold encI at hcj
    have hgd : xs.getD i 0 = u := by rw [List.getD_eq_getElem?_getD, hu]; rfl
    rw [hgd]
    have h1 : (i : Int) < (N : Int) := by omega
    clear hu hgd hcell hr hN
    go_enter Tryz.func53, Tryz.ntmps53
    go_wp2
    go_ret
    exact ⟨rfl, rfl⟩
  · have hgd : xs.getD i 0 = 0 := by rw [List.getD_eq_getElem?_getD, List.getElem?_eq_none (by omega)]; rfl
    rw [hgd]
    have h1 : decide ((i : Int) < (N : Int)) = false := by simp; omega
    have h2 : decide (i < N) = false := by simp; omega
    clear hgd hr hN
    go_enter Tryz.func53, Tryz.ntmps53
    go_wp2
    go_ret
    exact ⟨rfl, rfl⟩

theorem src_intZ {P : Program} {w : World} {tx e' : TypeId} (hk : P.underlying tx = some (.slice e')) (z : Int) (x : Nat) (E : TypeId) (h : z = (x : Int)) :
    Src P 1 tx (.slice (some ⟨w.heap.size, 0, none⟩) 1 1) [x].length ([x].map encI) (w.alloc (.cells #[.int .i64 z] E)) := by
  subst h
  exact src_int hk x E

set_option maxHeartbeats 2000000 in
theorem natOf_any (n : Nat) (w : World) (hn : n < 18446744073709551616) :
    Calls Tryz.prog 46 #[.int .u64 (n : Int)] w fun e w' => ∃ v', e = .returned v' ∧ NatV w' v' n ∧ w.grownBy w' none := by
  have HO0 := Lib.hid (OwnI.fresh0 (T := w.heap.size) (w := w) (Nat.le_refl _) 3)
  have HG0 := Lib.hid (World.grownBy_alloc w (.cells #[] 3) none)
  refine calls_F Tryz.func46 rfl (by rw [Tryz.ntmps46]; simp) ?_
  intro σ hσ
  rw [Tryz.ntmps46]
  have s0 : σ 0 = .int .u64 (n : Int) := hσ 0 (by simp)
  clear hσ
  ((repeat (go_wp2_with fail; first | (refine cdY ?_ ?_; focus (simp [ov, *]; done)) | (refine cdN ?_ ?_; focus (simp [ov, *]; done)))); go_wp2_with fail)
  refine loop_F (fun kk s' w' => ∃ (m : Nat) (l : List Nat) (v : Value), m < 18446744073709551616 ∧ kk = m ∧ l ++ natL m = natL n ∧ s' 0 = .int .u64 (m : Int) ∧ s' 3 = v ∧ OwnI w.heap.size w' v l ∧ w.grownBy w' none) n
    ⟨n, [], _, hn, rfl, by simp, by simp [ov, *], by simp [ov, *], HO0.out, HG0.out⟩ ?_
  clear s0 σ HO0 HG0
  rintro kk σ wk ⟨m, l, v, hm, hkk, hl, s0, s3, hown, hg⟩ RK KK HRK hKK
  have HKK := Lib.hid hkk
  have HL := Lib.hid hl
  have HO := Lib.hid hown
  have HG := Lib.hid hg
  have hl1 : l.length ≤ 3 := by
    have h1 := congrArg List.length hl
    have h2 := natL_len_le (n := n) (k := 3) (by omega)
    rw [List.length_append] at h1
    omega
  clear hkk hl hown hg
  by_cases h0 : m = 0
  · subst h0
    ((repeat (go_wp2_with fail; first | (refine cdY ?_ ?_; focus (simp [ov, *]; done)) | (refine cdN ?_ ?_; focus (simp [ov, *]; done)))); go_wp2_with fail)
    refine ret_F v rfl (by decide) (by simp [ov, *]) ⟨v, rfl, ?_, HG.out⟩
    have e := HL.out
    rw [natL_zero, List.append_nil] at e
    unfold NatV
    rw [← e]
    exact RdI.of_own HO.out
  · have h1 : (0 : Int) < (m : Int) := by omega
    have h2 : 0 < m := by omega
    ((repeat (go_wp2_with (first | (at_builtin; refine wpList_appI rfl _ _ _ _ rfl (by decide) (by decide) intTy (HO.out.alloc _) (by simp [ov, *]) _ (by simp [ov, *]) [m % 1073741824] (src_intZ Tryz.underlying43 _ (m % 1073741824) _ (by omega)) (by simp; omega) ?_; intro v1 w1 ho1 hs1)); first | (refine cdY ?_ ?_; focus (simp [ov, *]; done)) | (refine cdN ?_ ?_; focus (simp [ov, *]; done)))); go_wp2_with (first | (at_builtin; refine wpList_appI rfl _ _ _ _ rfl (by decide) (by decide) intTy (HO.out.alloc _) (by simp [ov, *]) _ (by simp [ov, *]) [m % 1073741824] (src_intZ Tryz.underlying43 _ (m % 1073741824) _ (by omega)) (by simp; omega) ?_; intro v1 w1 ho1 hs1)))
    refine gotk HRK (m / 1073741824) (by have := HKK.out; omega) ⟨m / 1073741824, l ++ [m % 1073741824], v1, by omega, rfl, ?_, by simp [ov, *], by simp [ov, *], ho1, grown_ownI (Nat.le_refl _) (grown_none_tr HG.out (World.grownBy_alloc wk _ none)) (HO.out.alloc _) hs1⟩
    rw [List.append_assoc, ← HL.out, natL_pos h0]; rfl

set_option maxHeartbeats 2000000 in
theorem cmpNat_any (v1 v2 : Value) (a b : Nat) (w : World) (hr1 : NatV w v1 a) (hr2 : NatV w v2 b) (hx1 : (natL a).length ≤ 1000000) (hx2 : (natL b).length ≤ 1000000) :
    Calls Tryz.prog 59 #[v1, v2] w fun e w' => e = .returned (.int .i64 (cmpN a b)) ∧ w.grownBy w' none := by
  obtain ⟨a1, c1, rfl⟩ := hr1.len
  obtain ⟨a2, c2, rfl⟩ := hr2.len
  obtain ⟨N1, hN1⟩ : ∃ N, (natL a).length = N := ⟨_, rfl⟩
  obtain ⟨N2, hN2⟩ : ∃ N, (natL b).length = N := ⟨_, rfl⟩
  unfold NatV at hr1 hr2
  simp only [hN1, hN2] at hr1 hr2 ⊢
  rw [hN1] at hx1
  rw [hN2] at hx2
  have HN1 := Lib.hid hN1
  have HN2 := Lib.hid hN2
  have HR1 := Lib.hid hr1
  have HR2 := Lib.hid hr2
  clear hr1 hr2 hN1 hN2
  refine calls_F Tryz.func59 rfl (by rw [Tryz.ntmps59]; simp) ?_
  intro σ hσ
  rw [Tryz.ntmps59]
  have s0 : σ 0 = .slice a1 N1 c1 := hσ 0 (by simp)
  have s1 : σ 1 = .slice a2 N2 c2 := hσ 1 (by simp)
  clear hσ
  by_cases hne : N1 = N2
  case neg =>
    have hne1 : ((N1 : Int) != (N2 : Int)) = true := by rw [bne_iff_ne]; omega
    have hne2 : (N1 != N2) = true := by rw [bne_iff_ne]; omega
    by_cases hlt : N1 < N2
    · have hlt1 : (N1 : Int) < (N2 : Int) := by omega
      ((repeat (go_wp2_with fail; first | (refine cdY ?_ ?_; focus (simp [ov, *]; done)) | (refine cdN ?_ ?_; focus (simp [ov, *]; done)))); go_wp2_with fail)
      exact ret_F (.int .i64 (-1)) rfl (by decide) (by simp [ov, *]) ⟨by rw [cmpN_lt (lt_of_len (by rw [HN1.out, HN2.out]; exact hlt))], grown_refl w none⟩
    · have hlt1 : decide ((N1 : Int) < (N2 : Int)) = false := by simp; omega
      have hlt2 : decide (N1 < N2) = false := by simp; omega
      ((repeat (go_wp2_with fail; first | (refine cdY ?_ ?_; focus (simp [ov, *]; done)) | (refine cdN ?_ ?_; focus (simp [ov, *]; done)))); go_wp2_with fail)
      exact ret_F (.int .i64 1) rfl (by decide) (by simp [ov, *]) ⟨by rw [cmpN_gt (lt_of_len (by rw [HN1.out, HN2.out]; omega))], grown_refl w none⟩
  subst hne
  ((repeat (go_wp2_with fail; first | (refine cdY ?_ ?_; focus (simp [ov, *]; done)) | (refine cdN ?_ ?_; focus (simp [ov, *]; done)))); go_wp2_with fail)
  refine loop_F (fun kk s' w' => ∃ i : Nat, i ≤ N1 ∧ kk = i ∧ s' 0 = .slice a1 N1 c1 ∧ s' 1 = .slice a2 N1 c2 ∧ s' 5 = .int .i64 ((i : Int) - 1) ∧ w.grownBy w' none ∧ a / 1073741824 ^ i = b / 1073741824 ^ i) N1
    ⟨N1, Nat.le_refl _, rfl, by simp [ov, *], by simp [ov, *], by simp [ov, *], grown_refl w none, by have := cmp_start (a := a) (b := b) (by rw [HN1.out, HN2.out]); rwa [HN1.out] at this⟩ ?_
  clear s0 s1 σ
  rintro kk σ wk ⟨i, hi, hkk, s0, s1, s5, hg, hdv⟩ RK KK HRK hKK
  have HKK := Lib.hid hkk
  have HG := Lib.hid hg
  have HDV := Lib.hid hdv
  clear hkk hg hdv
  by_cases h0 : i = 0
  · subst h0
    ((repeat (go_wp2_with fail; first | (refine cdY ?_ ?_; focus (simp [ov, *]; done)) | (refine cdN ?_ ?_; focus (simp [ov, *]; done)))); go_wp2_with fail)
    exact ret_F (.int .i64 0) rfl (by decide) (by simp [ov, *]) ⟨by rw [cmpN_eq]; have := HDV.out; simpa using this, HG.out⟩
  · obtain ⟨j, rfl⟩ : ∃ j, i = j + 1 := ⟨i - 1, by omega⟩
    have e1 : ((j + 1 : Nat) : Int) - 1 = (j : Int) := by omega
    rw [e1] at s5
    have hne : natL a ≠ [] := by intro h; have := HN1.out; rw [h] at this; simp at this; omega
    have hne2 : natL b ≠ [] := by intro h; have := HN2.out; rw [h] at this; simp at this; omega
    obtain ⟨g1, rfl, hLL1, hcc1, hm1, hcell1⟩ := (HR1.out.grown HG.out).at hne
    obtain ⟨g2, rfl, hLL2, hcc2, hm2, hcell2⟩ := (HR2.out.grown HG.out).at hne2
    obtain ⟨x, hx⟩ : ∃ u, (natL a)[j]? = some u := ⟨(natL a)[j]'(by rw [HN1.out]; omega), List.getElem?_eq_getElem _⟩
    obtain ⟨y, hy⟩ : ∃ u, (natL b)[j]? = some u := ⟨(natL b)[j]'(by rw [HN2.out]; omega), List.getElem?_eq_getElem _⟩
    have hc1 := hcell1 j x hx
    have hc2 := hcell2 j y hy
    unfold encI at hc1 hc2
    have hgx : (natL a).getD j 0 = x := by rw [List.getD_eq_getElem?_getD, hx]; rfl
    have hgy : (natL b).getD j 0 = y := by rw [List.getD_eq_getElem?_getD, hy]; rfl
    have HGX := Lib.hid hgx
    have HGY := Lib.hid hgy
    have hjN : (j : Int) < (N1 : Int) := by omega
    have hjN2 : j < N1 := by omega
    have hjN3 : (0 : Int) ≤ (j : Int) := by omega
    clear hx hy hgx hgy hcell1 hcell2 hne hne2 e1 h0 hLL1 hLL2
    by_cases hlt : x < y
    · have hlt1 : (x : Int) < (y : Int) := by omega
      ((repeat (go_wp2_with fail; first | (refine cdY ?_ ?_; focus (simp [ov, *]; done)) | (refine cdN ?_ ?_; focus (simp [ov, *]; done)))); go_wp2_with fail)
      go_quiet (fail)
      ((repeat (go_wp2_with fail; first | (refine cdY ?_ ?_; focus (simp [ov, *]; done)) | (refine cdN ?_ ?_; focus (simp [ov, *]; done)))); go_wp2_with fail)
      exact ret_F (.int .i64 (-1)) rfl (by decide) (by simp [ov, *]) ⟨by rw [cmpN_lt (cmp_lt HDV.out (by rw [HGX.out, HGY.out]; exact hlt))], grown_none_tr HG.out (grown_drewN wk _ none)⟩
    · have hlt1 : decide ((x : Int) < (y : Int)) = false := by simp; omega
      have hlt2 : decide (x < y) = false := by simp; omega
      by_cases hgt : y < x
      · have hgt1 : (y : Int) < (x : Int) := by omega
        ((repeat (go_wp2_with fail; first | (refine cdY ?_ ?_; focus (simp [ov, *]; done)) | (refine cdN ?_ ?_; focus (simp [ov, *]; done)))); go_wp2_with fail)
        go_quiet (fail)
        ((repeat (go_wp2_with fail; first | (refine cdY ?_ ?_; focus (simp [ov, *]; done)) | (refine cdN ?_ ?_; focus (simp [ov, *]; done)))); go_wp2_with fail)
        go_quiet (fail)
        ((repeat (go_wp2_with fail; first | (refine cdY ?_ ?_; focus (simp [ov, *]; done)) | (refine cdN ?_ ?_; focus (simp [ov, *]; done)))); go_wp2_with fail)
        exact ret_F (.int .i64 1) rfl (by decide) (by simp [ov, *]) ⟨by rw [cmpN_gt (cmp_lt HDV.out.symm (by rw [HGX.out, HGY.out]; exact hgt))], grown_none_tr HG.out (grown_drewN wk _ none)⟩
      · have hgt1 : decide ((y : Int) < (x : Int)) = false := by simp; omega
        have hgt2 : decide (y < x) = false := by simp; omega
        have hxy : x = y := by omega
        ((repeat (go_wp2_with fail; first | (refine cdY ?_ ?_; focus (simp [ov, *]; done)) | (refine cdN ?_ ?_; focus (simp [ov, *]; done)))); go_wp2_with fail)
        go_quiet (fail)
        ((repeat (go_wp2_with fail; first | (refine cdY ?_ ?_; focus (simp [ov, *]; done)) | (refine cdN ?_ ?_; focus (simp [ov, *]; done)))); go_wp2_with fail)
        go_quiet (fail)
        ((repeat (go_wp2_with fail; first | (refine cdY ?_ ?_; focus (simp [ov, *]; done)) | (refine cdN ?_ ?_; focus (simp [ov, *]; done)))); go_wp2_with fail)
        exact gotk HRK j (by have := HKK.out; omega) ⟨j, by omega, rfl, by simp [ov, *], by simp [ov, *], by simp [over_cons, over_nil], grown_none_tr HG.out (grown_drewN wk _ none), cmp_eq HDV.out (by rw [HGX.out, HGY.out, hxy])⟩
end Go.Proofs.YticlnihjhcepkaaGreatDoor

/-
  Walks of spec/nat.go: NatBits, bit, AddNat.
-/
namespace Go.Proofs.YticlnihjhcepkaaGreatDoor
open Go.RowKit
set_option linter.unusedSimpArgs false
set_option linter.unusedVariables false

set_option maxHeartbeats 1000000 in
theorem natBits_any (v : Value) (a : Nat) (w : World) (hr : NatV w v a) (hx : (natL a).length ≤ 1000000) :
    Calls Tryz.prog 83 #[v] w fun e w' => e = .returned (.int .i64 (nbits a : Nat)) ∧ w = w' := by
  unfold NatV at hr
  obtain ⟨ad, c, rfl⟩ := hr.len
  obtain ⟨N, hN⟩ : ∃ N, (natL a).length = N := ⟨_, rfl⟩
  simp only [hN] at hr ⊢
  rw [hN] at hx
  have HR := Lib.hid hr
  have HN := Lib.hid hN
  clear hr hN
  refine calls_F Tryz.func83 rfl (by rw [Tryz.ntmps83]; simp) ?_
  intro σ hσ
  rw [Tryz.ntmps83]
  have s0 : σ 0 = .slice ad N c := hσ 0 (by simp)
  clear hσ
  by_cases h0 : a = 0
  · have hN0 : N = 0 := by have := HN.out; rw [h0, natL_zero] at this; simpa using this.symm
    subst hN0
    ((repeat (go_wp2_with fail; first | (refine cdY ?_ ?_; focus (simp [ov, *]; done)) | (refine cdN ?_ ?_; focus (simp [ov, *]; done)))); go_wp2_with fail)
    exact ret_F (.int .i64 0) rfl (by decide) (by simp [ov, *]) ⟨by rw [h0]; rfl, rfl⟩
  · obtain ⟨M, rfl⟩ : ∃ M, N = M + 1 := by
      have h1 := natL_ne h0
      have := HN.out
      cases hr : natL a with
      | nil => exact absurd hr h1
      | cons y s => rw [hr] at this; exact ⟨s.length, by simpa using this.symm⟩
    have hne : natL a ≠ [] := natL_ne h0
    obtain ⟨g, rfl, hLL, hcc, hm, hcell⟩ := HR.out.at hne
    obtain ⟨t, ht⟩ : ∃ u, (natL a)[M]? = some u := ⟨(natL a)[M]'(by rw [HN.out]; omega), List.getElem?_eq_getElem _⟩
    have hcj := hcell M t ht
    unfold encI at hcj
    have hgt : (natL a).getD M 0 = t := by rw [List.getD_eq_getElem?_getD, ht]; rfl
    have hb := nbits_limbs h0
    rw [HN.out, Nat.add_sub_cancel, hgt] at hb
    have htl : t < 1073741824 := by rw [← hgt]; exact (natL_limbs a).getD M
    have HB := Lib.hid hb
    have e3 : ((M : Int) + 1 == 0) = false := by rw [beq_eq_false_iff_ne]; omega
    clear hcell hLL ht hgt hb hne h0
    ((repeat (go_wp2_with fail; first | (refine cdY ?_ ?_; focus (simp [ov, *]; done)) | (refine cdN ?_ ?_; focus (simp [ov, *]; done)))); go_wp2_with fail)
    refine loop_F (fun kk s' w' => ∃ x k : Nat, x < 1073741824 ∧ kk = x ∧ nbits t = k + nbits x ∧ k ≤ 100 ∧ s' 4 = .int .i64 (x : Int) ∧ s' 3 = .int .i64 ((M * 30 + k : Nat) : Int) ∧ w = w') t
      ⟨t, 0, htl, rfl, by omega, by omega, by simp [ov, *], by simp [ov, *], rfl⟩ ?_
    clear s0 σ hcj
    rintro kk σ wk ⟨x, k, hxl, hkk, hnb, hk, s4, s3, rfl⟩ RK KK HRK hKK
    have HKK := Lib.hid hkk
    have HNB := Lib.hid hnb
    clear hkk hnb
    by_cases hx0 : x = 0
    · subst hx0
      ((repeat (go_wp2_with fail; first | (refine cdY ?_ ?_; focus (simp [ov, *]; done)) | (refine cdN ?_ ?_; focus (simp [ov, *]; done)))); go_wp2_with fail)
      refine ret_F (.int .i64 ((M * 30 + k : Nat) : Int)) rfl (by decide) (by simp [ov, *]) ⟨?_, rfl⟩
      rw [HB.out, HNB.out]
      rfl
    · have hx1 : 0 < x := by omega
      have hx2 : (0 : Int) < (x : Int) := by omega
      have hk30 : nbits t ≤ 30 := by
        by_cases ht : t = 0
        · rw [ht]; simp [nbits]
        · have h1 := nbits_le ht
          have h2 : 2 ^ (nbits t - 1) < 2 ^ 30 := Nat.lt_of_le_of_lt h1 htl
          have h3 := (Nat.pow_lt_pow_iff_right (a := 2) (by decide)).1 h2
          omega
      ((repeat (go_wp2_with fail; first | (refine cdY ?_ ?_; focus (simp [ov, *]; done)) | (refine cdN ?_ ?_; focus (simp [ov, *]; done)))); go_wp2_with fail)
      exact gotk HRK (x / 2) (by have := HKK.out; omega) ⟨x / 2, k + 1, by omega, rfl, by rw [HNB.out, nbits_half hx0]; omega, by have := HNB.out; have := nbits_pos hx0; omega, by simp [over_cons, over_nil], by simp [over_cons, over_nil]; omega, rfl⟩

theorem i64_and1S (n : Nat) (hn : n < 9223372036854775808) : bits .and .i64 (n : Int) 1 = ((n % 2 : Nat) : Int) := by
  have h0 : (BitVec.ofInt 64 (n : Int)).toNat = n := by rw [BitVec.toNat_ofInt]; omega
  have h1 : (BitVec.ofInt 64 (1 : Int)).toNat = 2 ^ 1 - 1 := by decide
  have key : (BitVec.ofInt 64 (n : Int) &&& BitVec.ofInt 64 1).toNat = n % 2 ^ 1 := by
    rw [BitVec.toNat_and, h0, h1, Nat.and_two_pow_sub_one_eq_mod]
  show IntKind.i64.wrap ((BitVec.ofInt 64 (n : Int) &&& BitVec.ofInt 64 1).toNat : Nat) = _
  rw [key, IntKind.wrap_i64]
  omega

set_option maxHeartbeats 1000000 in
theorem bit_any (v : Value) (a n : Nat) (w : World) (hr : NatV w v a) (hx : (natL a).length ≤ 1000000) (hn : n ≤ 100000000) :
    Calls Tryz.prog 86 #[v, .int .i64 (n : Int)] w fun e w' => e = .returned (.int .i64 (a / 2 ^ n % 2 : Nat)) ∧ w = w' := by
  have H := at_any v (natL a) (n / 30) w hr (by omega) (by omega)
  have hl : (natL a).getD (n / 30) 0 < 1073741824 := (natL_limbs a).getD _
  have hb := bit_of a n
  generalize (natL a).getD (n / 30) 0 = x at H hl hb
  have HH := Lib.hid H
  have HB := Lib.hid hb
  clear H hb hr
  refine calls_F Tryz.func86 rfl (by rw [Tryz.ntmps86]; simp) ?_
  intro σ hσ
  rw [Tryz.ntmps86]
  have s0 : σ 0 = v := hσ 0 (by simp)
  have s1 : σ 1 = .int .i64 (n : Int) := hσ 1 (by simp)
  clear hσ
  ((repeat (go_wp2_with fail; first | (refine cdY ?_ ?_; focus (simp [ov, *]; done)) | (refine cdN ?_ ?_; focus (simp [ov, *]; done)))); go_wp2_with fail)
  refine HH.out.mono ?_
  rintro e w1 ⟨rfl, rfl⟩
  ((repeat (go_wp2_with fail; first | (refine cdY ?_ ?_; focus (simp [ov, *]; done)) | (refine cdN ?_ ?_; focus (simp [ov, *]; done)))); go_wp2_with fail)
  refine ret_F (.int .i64 (a / 2 ^ n % 2 : Nat)) rfl (by decide) ?_ ⟨rfl, rfl⟩
  simp only [over_cons, if_true]
  have e : ((x : Int) / 2 ^ (n % 30)) = ((x / 2 ^ (n % 30) : Nat) : Int) := by push_cast; rfl
  have hle : x / 2 ^ (n % 30) ≤ x := Nat.div_le_self _ _
  rw [e, i64_and1S _ (by omega), HB.out]

set_option maxHeartbeats 2000000 in
theorem addNat_any (v1 v2 : Value) (a b : Nat) (w : World) (hr1 : NatV w v1 a) (hr2 : NatV w v2 b) (hx1 : (natL a).length ≤ 100000) (hx2 : (natL b).length ≤ 100000) :
    Calls Tryz.prog 57 #[v1, v2] w fun e w' => ∃ v', e = .returned v' ∧ NatV w' v' (a + b) ∧ w.grownBy w' none := by
  obtain ⟨a1, c1, rfl⟩ := hr1.len
  obtain ⟨a2, c2, rfl⟩ := hr2.len
  obtain ⟨N1, hN1⟩ : ∃ N, (natL a).length = N := ⟨_, rfl⟩
  obtain ⟨N2, hN2⟩ : ∃ N, (natL b).length = N := ⟨_, rfl⟩
  unfold NatV at hr1 hr2
  simp only [hN1, hN2] at hr1 hr2 ⊢
  rw [hN1] at hx1
  rw [hN2] at hx2
  have HN1 := Lib.hid hN1
  have HN2 := Lib.hid hN2
  have HR1 := Lib.hid hr1
  have HR2 := Lib.hid hr2
  have HO0 := Lib.hid (OwnI.fresh0 (T := w.heap.size) (w := w) (Nat.le_refl _) 3)
  have HG0 := Lib.hid (World.grownBy_alloc w (.cells #[] 3) none)
  clear hr1 hr2 hN1 hN2
  refine calls_F Tryz.func57 rfl (by rw [Tryz.ntmps57]; simp) ?_
  intro σ hσ
  rw [Tryz.ntmps57]
  have s0 : σ 0 = .slice a1 N1 c1 := hσ 0 (by simp)
  have s1 : σ 1 = .slice a2 N2 c2 := hσ 1 (by simp)
  clear hσ
  ((repeat (go_wp2_with fail; first | (refine cdY ?_ ?_; focus (simp [ov, *]; done)) | (refine cdN ?_ ?_; focus (simp [ov, *]; done)))); go_wp2_with fail)
  refine loop_F (fun kk s' w' => ∃ (i c : Nat) (l : List Nat) (v : Value), i ≤ 100001 ∧ kk = 200000 - i ∧ c ≤ 1 ∧ l.length = i ∧ Limbs l ∧ (i ≤ N1 ∨ i ≤ N2 ∨ c = 0) ∧ lval l + 1073741824 ^ i * c = lval ((natL a).take i) + lval ((natL b).take i) ∧ s' 0 = .slice a1 N1 c1 ∧ s' 1 = .slice a2 N2 c2 ∧ s' 5 = v ∧ s' 6 = .int .i64 (c : Int) ∧ s' 7 = .int .i64 (i : Int) ∧ OwnI w.heap.size w' v l ∧ w.grownBy w' none) 200000
    ⟨0, 0, [], _, by omega, rfl, by omega, rfl, Limbs.nil, by omega, by simp [lval], by simp [ov, *], by simp [ov, *], by simp [ov, *], by simp [ov, *], by simp [ov, *], HO0.out, HG0.out⟩ ?_
  clear s0 s1 σ HO0 HG0
  rintro kk σ wk ⟨i, c, l, v, hi, hkk, hc, hll, hlm, hor, hval, s0, s1, s5, s6, s7, hown, hg⟩ RK KK HRK hKK
  have HKK := Lib.hid hkk
  have HLM := Lib.hid hlm
  have HV := Lib.hid hval
  have HO := Lib.hid hown
  have HG := Lib.hid hg
  have HOR := Lib.hid hor
  clear hkk hlm hval hown hg hor
  have hA1 := at_any (.slice a1 N1 c1) (natL a) i wk (HR1.out.grown HG.out) (by omega) (by rw [HN1.out]; omega)
  have hA2 := at_any (.slice a2 N2 c2) (natL b) i wk (HR2.out.grown HG.out) (by omega) (by rw [HN2.out]; omega)
  have hl1 := (natL_limbs a).getD i
  have hl2 := (natL_limbs b).getD i
  obtain ⟨x, hx⟩ : ∃ x, (natL a).getD i 0 = x := ⟨_, rfl⟩
  obtain ⟨y, hy⟩ : ∃ x, (natL b).getD i 0 = x := ⟨_, rfl⟩
  rw [hx] at hA1 hl1
  rw [hy] at hA2 hl2
  have HX := Lib.hid hx
  have HY := Lib.hid hy
  have HA1 := Lib.hid hA1
  have HA2 := Lib.hid hA2
  clear hx hy hA1 hA2
  by_cases hend : N1 ≤ i ∧ N2 ≤ i ∧ c = 0
  · obtain ⟨he1, he2, rfl⟩ := hend
    have f1 : decide ((i : Int) < (N1 : Int)) = false := by simp; omega
    have f2 : decide ((i : Int) < (N2 : Int)) = false := by simp; omega
    have f3 : decide (i < N1) = false := by simp; omega
    have f4 : decide (i < N2) = false := by simp; omega
    have hT := trimN_any v l wk (RdI.of_own HO.out) (by omega) HLM.out
    have hlv : lval l = a + b := by
      have h1 := HV.out
      rw [lval_take_ge _ _ (by rw [HN1.out]; exact he1), lval_take_ge _ _ (by rw [HN2.out]; exact he2), lval_natL, lval_natL] at h1
      omega
    rw [hlv] at hT
    have HT := Lib.hid hT
    clear hT hlv
    ((repeat (go_wp2_with fail; first | (refine cdY ?_ ?_; focus (simp [ov, *]; done)) | (refine cdN ?_ ?_; focus (simp [ov, *]; done)))); go_wp2_with fail)
    refine HT.out.mono ?_
    rintro e w5 ⟨v5, rfl, hn5, hg5⟩
    have HN5 := Lib.hid hn5
    have HG5 := Lib.hid (grown_none_tr HG.out hg5)
    clear hn5 hg5
    ((repeat (go_wp2_with fail; first | (refine cdY ?_ ?_; focus (simp [ov, *]; done)) | (refine cdN ?_ ?_; focus (simp [ov, *]; done)))); go_wp2_with fail)
    exact ret_F v5 rfl (by decide) (by simp [ov, *]) ⟨v5, rfl, HN5.out, HG5.out⟩
  · have hi2 : i ≤ 100000 := by
      have := HOR.out
      omega
    have hE : i + 1 ≤ N1 ∨ i + 1 ≤ N2 ∨ (x + y + c) / 1073741824 = 0 := by
      by_cases h1 : i < N1
      · omega
      by_cases h2 : i < N2
      · omega
      have hx0 : x = 0 := by rw [← HX.out, List.getD_eq_getElem?_getD, List.getElem?_eq_none (by rw [HN1.out]; omega)]; rfl
      have hy0 : y = 0 := by rw [← HY.out, List.getD_eq_getElem?_getD, List.getElem?_eq_none (by rw [HN2.out]; omega)]; rfl
      omega
    have HE := Lib.hid hE
    clear hE
    by_cases h1 : i < N1
    · have f1 : (i : Int) < (N1 : Int) := by omega
      ((repeat (go_wp2_with fail; first | (refine cdY ?_ ?_; focus (simp [ov, *]; done)) | (refine cdN ?_ ?_; focus (simp [ov, *]; done)))); go_wp2_with fail)
      refine HA1.out.mono ?_
      rintro e w5 ⟨rfl, rfl⟩
      ((repeat (go_wp2_with fail; first | (refine cdY ?_ ?_; focus (simp [ov, *]; done)) | (refine cdN ?_ ?_; focus (simp [ov, *]; done)))); go_wp2_with fail)
      refine HA2.out.mono ?_
      rintro e w5 ⟨rfl, rfl⟩
      ((repeat (go_wp2_with (first | (at_builtin; refine wpList_appI rfl _ _ _ _ rfl (by decide) (by decide) intTy (HO.out.alloc _) (by simp [ov, *]) _ (by simp [ov, *]) [(x + y + c) % 1073741824] (src_intZ Tryz.underlying43 _ ((x + y + c) % 1073741824) _ (by omega)) (by simp; omega) ?_; intro v1 w1 ho1 hs1)); first | (refine cdY ?_ ?_; focus (simp [ov, *]; done)) | (refine cdN ?_ ?_; focus (simp [ov, *]; done)))); go_wp2_with (first | (at_builtin; refine wpList_appI rfl _ _ _ _ rfl (by decide) (by decide) intTy (HO.out.alloc _) (by simp [ov, *]) _ (by simp [ov, *]) [(x + y + c) % 1073741824] (src_intZ Tryz.underlying43 _ ((x + y + c) % 1073741824) _ (by omega)) (by simp; omega) ?_; intro v1 w1 ho1 hs1)))
      exact gotk HRK (200000 - (i + 1)) (by have := HKK.out; omega) ⟨i + 1, (x + y + c) / 1073741824, l ++ [(x + y + c) % 1073741824], v1, by omega, rfl, by omega, by simp [hll], HLM.out.append (Limbs.one (Nat.mod_lt _ (by decide))), HE.out, add_step hll HV.out (by rw [HX.out, HY.out]), by simp [ov, *], by simp [ov, *], by simp [ov, *], by simp [over_cons, over_nil], by simp [over_cons, over_nil], ho1, grown_ownI (Nat.le_refl _) (grown_none_tr HG.out (World.grownBy_alloc wk _ none)) (HO.out.alloc _) hs1⟩
    have f1 : decide ((i : Int) < (N1 : Int)) = false := by simp; omega
    have f1' : decide (i < N1) = false := by simp; omega
    by_cases h2 : i < N2
    · have f2 : (i : Int) < (N2 : Int) := by omega
      ((repeat (go_wp2_with fail; first | (refine cdY ?_ ?_; focus (simp [ov, *]; done)) | (refine cdN ?_ ?_; focus (simp [ov, *]; done)))); go_wp2_with fail)
      refine HA1.out.mono ?_
      rintro e w5 ⟨rfl, rfl⟩
      ((repeat (go_wp2_with fail; first | (refine cdY ?_ ?_; focus (simp [ov, *]; done)) | (refine cdN ?_ ?_; focus (simp [ov, *]; done)))); go_wp2_with fail)
      refine HA2.out.mono ?_
      rintro e w5 ⟨rfl, rfl⟩
      ((repeat (go_wp2_with (first | (at_builtin; refine wpList_appI rfl _ _ _ _ rfl (by decide) (by decide) intTy (HO.out.alloc _) (by simp [ov, *]) _ (by simp [ov, *]) [(x + y + c) % 1073741824] (src_intZ Tryz.underlying43 _ ((x + y + c) % 1073741824) _ (by omega)) (by simp; omega) ?_; intro v1 w1 ho1 hs1)); first | (refine cdY ?_ ?_; focus (simp [ov, *]; done)) | (refine cdN ?_ ?_; focus (simp [ov, *]; done)))); go_wp2_with (first | (at_builtin; refine wpList_appI rfl _ _ _ _ rfl (by decide) (by decide) intTy (HO.out.alloc _) (by simp [ov, *]) _ (by simp [ov, *]) [(x + y + c) % 1073741824] (src_intZ Tryz.underlying43 _ ((x + y + c) % 1073741824) _ (by omega)) (by simp; omega) ?_; intro v1 w1 ho1 hs1)))
      exact gotk HRK (200000 - (i + 1)) (by have := HKK.out; omega) ⟨i + 1, (x + y + c) / 1073741824, l ++ [(x + y + c) % 1073741824], v1, by omega, rfl, by omega, by simp [hll], HLM.out.append (Limbs.one (Nat.mod_lt _ (by decide))), HE.out, add_step hll HV.out (by rw [HX.out, HY.out]), by simp [ov, *], by simp [ov, *], by simp [ov, *], by simp [over_cons, over_nil], by simp [over_cons, over_nil], ho1, grown_ownI (Nat.le_refl _) (grown_none_tr HG.out (World.grownBy_alloc wk _ none)) (HO.out.alloc _) hs1⟩
    have f2 : decide ((i : Int) < (N2 : Int)) = false := by simp; omega
    have f2' : decide (i < N2) = false := by simp; omega
    have f3 : 0 < c := by omega
    have f4 : (0 : Int) < (c : Int) := by omega
    ·
      ((repeat (go_wp2_with fail; first | (refine cdY ?_ ?_; focus (simp [ov, *]; done)) | (refine cdN ?_ ?_; focus (simp [ov, *]; done)))); go_wp2_with fail)
      refine HA1.out.mono ?_
      rintro e w5 ⟨rfl, rfl⟩
      ((repeat (go_wp2_with fail; first | (refine cdY ?_ ?_; focus (simp [ov, *]; done)) | (refine cdN ?_ ?_; focus (simp [ov, *]; done)))); go_wp2_with fail)
      refine HA2.out.mono ?_
      rintro e w5 ⟨rfl, rfl⟩
      ((repeat (go_wp2_with (first | (at_builtin; refine wpList_appI rfl _ _ _ _ rfl (by decide) (by decide) intTy (HO.out.alloc _) (by simp [ov, *]) _ (by simp [ov, *]) [(x + y + c) % 1073741824] (src_intZ Tryz.underlying43 _ ((x + y + c) % 1073741824) _ (by omega)) (by simp; omega) ?_; intro v1 w1 ho1 hs1)); first | (refine cdY ?_ ?_; focus (simp [ov, *]; done)) | (refine cdN ?_ ?_; focus (simp [ov, *]; done)))); go_wp2_with (first | (at_builtin; refine wpList_appI rfl _ _ _ _ rfl (by decide) (by decide) intTy (HO.out.alloc _) (by simp [ov, *]) _ (by simp [ov, *]) [(x + y + c) % 1073741824] (src_intZ Tryz.underlying43 _ ((x + y + c) % 1073741824) _ (by omega)) (by simp; omega) ?_; intro v1 w1 ho1 hs1)))
      exact gotk HRK (200000 - (i + 1)) (by have := HKK.out; omega) ⟨i + 1, (x + y + c) / 1073741824, l ++ [(x + y + c) % 1073741824], v1, by omega, rfl, by omega, by simp [hll], HLM.out.append (Limbs.one (Nat.mod_lt _ (by decide))), HE.out, add_step hll HV.out (by rw [HX.out, HY.out]), by simp [ov, *], by simp [ov, *], by simp [ov, *], by simp [over_cons, over_nil], by simp [over_cons, over_nil], ho1, grown_ownI (Nat.le_refl _) (grown_none_tr HG.out (World.grownBy_alloc wk _ none)) (HO.out.alloc _) hs1⟩
end Go.Proofs.YticlnihjhcepkaaGreatDoor

/-
  Walks of spec/nat.go: MulNat, PowNat.
-/
namespace Go.Proofs.YticlnihjhcepkaaGreatDoor
open Go.RowKit
set_option linter.unusedSimpArgs false
set_option linter.unusedVariables false

theorem mkInts (c : Nat) (hc : c ≤ 1000000) (w : World) : (Instr.makeSlice 43 (.int .i64 (c : Int)) (.int .i64 (c : Int))).run Tryz.prog w = .ok (.slice (some ⟨w.heap.size, 0, none⟩) c c) (w.alloc (.cells (madeCells #[.int .i64 0] c) 3)) := by
  obtain ⟨i, hi, hz0, hz1, hz2⟩ := info_parts intInfo
  have h := run_make (P := Tryz.prog) w 43 3 i _ Tryz.underlying43 hi hz0 .i64 .i64 (c : Int) (c : Int) (by omega) (by omega) (by rw [hz2]; omega) (by omega)
  rw [hz1, Int.toNat_natCast, Nat.mul_one] at h
  exact h
theorem OwnI.made {T : Nat} {w : World} (hT : T ≤ w.heap.size) (c : Nat) (hc : c ≤ 1000000) : OwnI T (w.alloc (.cells (madeCells #[.int .i64 0] c) 3)) (.slice (some ⟨w.heap.size, 0, none⟩) c c) (List.replicate c 0) := by
  refine ⟨⟨w.heap.size, [], ?_, ?_, ?_⟩, fun k hk => ?_⟩
  · simp
  · have := Row.new w (madeCells #[Value.int .i64 0] c).toList 3
    rw [Array.toArray_toList, toList_madeCells_one] at this
    rw [List.append_nil, List.map_replicate]
    exact this
  · simp [maxLen]; omega
  · simp [Value.ownBlock] at hk; omega

theorem wrapIS (x : Nat) (h : x < 9223372036854775808) : IntKind.i64.wrap (x : Int) = (x : Int) := by rw [IntKind.wrap_i64]; omega

theorem grown_setN {w w1 : World} (h : w.grownBy w1 none) {a : Addr} (u : Value) (ha : w.heap.size ≤ a.block) : w.grownBy (w1.setCell a u) none :=
  grown_trans h (⟨rfl, rfl, rfl, by simp [World.setCell], fun k hk hne => Below.heap_setCell w1 a u k (fun e => hne (by rw [e]))⟩ : w1.grownBy (w1.setCell a u) (some a.block)) (fun j e hj => by
    have : a.block = j := by simpa using e
    omega)
theorem rep_getD (n k : Nat) : (List.replicate n 0).getD k 0 = 0 := by
  rw [List.getD_eq_getElem?_getD, List.getElem?_replicate]
  split <;> rfl
theorem setN_getD (l : List Nat) (k x m : Nat) (h : k ≠ m) : (l.set k x).getD m 0 = l.getD m 0 := by
  rw [List.getD_eq_getElem?_getD, List.getElem?_set_ne h, List.getD_eq_getElem?_getD]

set_option maxHeartbeats 4000000 in
theorem mulNat_any (v1 v2 : Value) (a b : Nat) (w : World) (hr1 : NatV w v1 a) (hr2 : NatV w v2 b) (hx1 : (natL a).length ≤ 100000) (hx2 : (natL b).length ≤ 100000) :
    Calls Tryz.prog 81 #[v1, v2] w fun e w' => ∃ v', e = .returned v' ∧ NatV w' v' (a * b) ∧ w.grownBy w' none := by
  obtain ⟨a1, c1, rfl⟩ := hr1.len
  obtain ⟨a2, c2, rfl⟩ := hr2.len
  obtain ⟨N1, hN1⟩ : ∃ N, (natL a).length = N := ⟨_, rfl⟩
  obtain ⟨N2, hN2⟩ : ∃ N, (natL b).length = N := ⟨_, rfl⟩
  unfold NatV at hr1 hr2
  simp only [hN1, hN2] at hr1 hr2 ⊢
  rw [hN1] at hx1
  rw [hN2] at hx2
  have HN1 := Lib.hid hN1
  have HN2 := Lib.hid hN2
  have HR1 := Lib.hid hr1
  have HR2 := Lib.hid hr2
  have hmk := mkInts (N1 + N2) (by omega)
  have hmk2 : ∀ w : World, (Instr.makeSlice 43 (.int .i64 ((N1 : Int) + (N2 : Int))) (.int .i64 ((N1 : Int) + (N2 : Int)))).run Tryz.prog w = _ := fun w => hmk w
  have HO0 := Lib.hid (OwnI.made (T := w.heap.size) (w := w) (Nat.le_refl _) (N1 + N2) (by omega))
  have HG0 := Lib.hid (World.grownBy_alloc w (.cells (madeCells #[.int .i64 0] (N1 + N2)) 3) none)
  clear hr1 hr2 hN1 hN2 hmk
  refine calls_F Tryz.func81 rfl (by rw [Tryz.ntmps81]; simp) ?_
  intro σ hσ
  rw [Tryz.ntmps81]
  have s0 : σ 0 = .slice a1 N1 c1 := hσ 0 (by simp)
  have s1 : σ 1 = .slice a2 N2 c2 := hσ 1 (by simp)
  clear hσ
  ((repeat (go_wp2_with fail; first | (refine cdY ?_ ?_; focus (simp [ov, *]; done)) | (refine cdN ?_ ?_; focus (simp [ov, *]; done)))); go_wp2_with fail)
  obtain ⟨L, hL⟩ : ∃ L, N1 + N2 = L := ⟨_, rfl⟩
  simp only [hL] at HO0 HG0 ⊢
  have HL := Lib.hid hL
  have hL2 : L ≤ 200000 := by omega
  clear hL
  generalize hB0 : w.heap.size = B0 at *
  have hB0' := Lib.hid hB0
  clear hmk2 hB0
  refine loop_F (fun kk s' w' => ∃ (i : Nat) (l : List Nat), i ≤ N1 ∧ kk = N1 - i ∧ l.length = L ∧ Limbs l ∧ (∀ k, i + N2 ≤ k → l.getD k 0 = 0) ∧ lval l = lval ((natL a).take i) * b ∧ s' 0 = .slice a1 N1 c1 ∧ s' 1 = .slice a2 N2 c2 ∧ s' 5 = .slice (some ⟨B0, 0, none⟩) L L ∧ s' 18 = .slice a1 N1 c1 ∧ s' 19 = .int .i64 (N1 : Int) ∧ s' 20 = .int .i64 (i : Int) ∧ OwnI B0 w' (.slice (some ⟨B0, 0, none⟩) L L) l ∧ w.grownBy w' none) N1
    ⟨0, List.replicate L 0, by omega, rfl, by simp, Limbs.rep _, fun k _ => rep_getD L k, by rw [lval_rep]; simp [lval], by simp [ov, *], by simp [ov, *], by simp [ov, *], by simp [ov, *], by simp [ov, *], by simp [ov, *], HO0.out, HG0.out⟩ ?_
  clear s0 s1 σ HO0 HG0
  rintro kk σ wk ⟨i, l, hi, hkk, hll, hlm, hzr, hval, s0, s1, s5, s18, s19, s20, hown, hg⟩ RK KK HRK hKK
  have HKK := Lib.hid hkk
  have HLM := Lib.hid hlm
  have HV := Lib.hid hval
  have HO := Lib.hid hown
  have HG := Lib.hid hg
  have HLL := Lib.hid hll
  have HZR := Lib.hid hzr
  clear hkk hlm hval hown hg hll hzr
  by_cases hend : i = N1
  · subst hend
    have hT := trimN_any _ l wk (RdI.of_own HO.out) (by rw [HLL.out]; omega) HLM.out
    have hlv : lval l = a * b := by
      rw [HV.out, lval_take_ge _ _ (by rw [HN1.out]; exact Nat.le_refl _), lval_natL]
    rw [hlv] at hT
    have HT := Lib.hid hT
    clear hT hlv
    ((repeat (go_wp2_with fail; first | (refine cdY ?_ ?_; focus (simp [ov, *]; done)) | (refine cdN ?_ ?_; focus (simp [ov, *]; done)))); go_wp2_with fail)
    refine HT.out.mono ?_
    rintro e w5 ⟨v5, rfl, hn5, hg5⟩
    have HN5 := Lib.hid hn5
    have HG5 := Lib.hid (grown_none_tr HG.out hg5)
    clear hn5 hg5
    ((repeat (go_wp2_with fail; first | (refine cdY ?_ ?_; focus (simp [ov, *]; done)) | (refine cdN ?_ ?_; focus (simp [ov, *]; done)))); go_wp2_with fail)
    exact ret_F v5 rfl (by decide) (by simp [ov, *]) ⟨v5, rfl, HN5.out, HG5.out⟩
  · have hlt : i < N1 := by omega
    have hne : natL a ≠ [] := by intro h; have := HN1.out; rw [h] at this; simp at this; omega
    obtain ⟨g1, rfl, hLL1, hcc1, hm1, hcell1⟩ := (HR1.out.grown HG.out).at hne
    obtain ⟨x, hx⟩ : ∃ u, (natL a)[i]? = some u := ⟨(natL a)[i]'(by rw [HN1.out]; omega), List.getElem?_eq_getElem _⟩
    have hc1 := hcell1 i x hx
    unfold encI at hc1
    have hgx : (natL a).getD i 0 = x := by rw [List.getD_eq_getElem?_getD, hx]; rfl
    have hxl : x < 1073741824 := by rw [← hgx]; exact (natL_limbs a).getD i
    have HGX := Lib.hid hgx
    have hlt1 : (i : Int) < (N1 : Int) := by omega
    clear hx hgx hcell1 hne hLL1
    have hjL : ∀ j, j ≤ N2 → i + j < L := fun j hj => by have := HL.out; omega
    have HJL := Lib.hid hjL
    clear hjL
    ((repeat (go_wp2_with fail; first | (refine cdY ?_ ?_; focus (simp [ov, *]; done)) | (refine cdN ?_ ?_; focus (simp [ov, *]; done)))); go_wp2_with fail)
    refine loop_F (fun k2 s' w' => ∃ (j c : Nat) (l2 : List Nat), j ≤ N2 ∧ k2 = N2 - j ∧ c < 1073741824 ∧ l2.length = L ∧ Limbs l2 ∧ (∀ k, i + N2 ≤ k → l2.getD k 0 = 0) ∧ lval l2 + 1073741824 ^ (i + j) * c = lval l + 1073741824 ^ i * (x * lval ((natL b).take j)) ∧ s' 0 = .slice (some ⟨g1, 0, none⟩) N1 c1 ∧ s' 1 = .slice a2 N2 c2 ∧ s' 5 = .slice (some ⟨B0, 0, none⟩) L L ∧ s' 6 = .int .i64 (i : Int) ∧ s' 7 = .int .i64 (x : Int) ∧ s' 8 = .int .i64 (c : Int) ∧ s' 18 = .slice (some ⟨g1, 0, none⟩) N1 c1 ∧ s' 19 = .int .i64 (N1 : Int) ∧ s' 20 = .int .i64 (i : Int) ∧ s' 25 = .slice a2 N2 c2 ∧ s' 26 = .int .i64 (N2 : Int) ∧ s' 27 = .int .i64 (j : Int) ∧ OwnI B0 w' (.slice (some ⟨B0, 0, none⟩) L L) l2 ∧ w.grownBy w' none) N2
      ⟨0, 0, l, by omega, rfl, by omega, HLL.out, HLM.out, HZR.out, by simp [lval], by simp [ov, *], by simp [ov, *], by simp [ov, *], by simp [ov, *], by simp [ov, *], by simp [ov, *], by simp [ov, *], by simp [ov, *], by simp [ov, *], by simp [ov, *], by simp [ov, *], by simp [ov, *], HO.out, HG.out⟩ ?_
    clear s0 s1 s5 s18 s19 s20 σ hc1
    rintro k2 σ wj ⟨j, c, l2, hj, hk2, hcl, hll2, hlm2, hzr2, hval2, s0, s1, s5, s6, s7, s8, s18, s19, s20, s25, s26, s27, hown2, hg2⟩ RJ KJ HRJ hKJ
    have HK2 := Lib.hid hk2
    have HLM2 := Lib.hid hlm2
    have HV2 := Lib.hid hval2
    have HO2 := Lib.hid hown2
    have HG2 := Lib.hid hg2
    have HLL2 := Lib.hid hll2
    have HZR2 := Lib.hid hzr2
    clear hk2 hlm2 hval2 hown2 hg2 hll2 hzr2
    by_cases hje : j = N2
    · subst hje
      have hij : (i : Int) + (j : Int) < (L : Int) := by have := HJL.out j (Nat.le_refl _); omega
      obtain ⟨o, ho⟩ : ∃ u, l2[i + j]? = some u := ⟨l2[i + j]'(by rw [HLL2.out]; exact HJL.out j (Nat.le_refl _)), List.getElem?_eq_getElem _⟩
      have hco := HO2.out.cell (i + j) o ho
      unfold encI at hco
      have hfo := HO2.out.frozen (i + j)
      clear ho
      ((repeat (go_wp2_with fail; first | (refine cdY ?_ ?_; focus (simp [ov, *]; done)) | (refine cdN ?_ ?_; focus (simp [ov, *]; done)))); go_wp2_with fail)
      have hlv : lval (l2.set (i + j) c) = lval ((natL a).take (i + 1)) * b := by
        have h1 := lval_set l2 (i + j) c (by rw [HLL2.out]; exact HJL.out j (Nat.le_refl _))
        have h2 := HV2.out
        rw [HZR2.out (i + j) (Nat.le_refl _), Nat.mul_zero, Nat.add_zero, h2, lval_take_ge _ _ (by rw [HN2.out]; exact Nat.le_refl _), lval_natL] at h1
        rw [h1, lval_step, HGX.out, HV.out, Nat.add_mul, Nat.mul_assoc]
      exact gotk HRK (N1 - (i + 1)) (by have := HKK.out; omega) ⟨i + 1, l2.set (i + j) c, by omega, rfl, by rw [List.length_set]; exact HLL2.out, HLM2.out.set _ _ hcl, fun k hk => by rw [setN_getD _ _ _ _ (by omega)]; exact HZR2.out k (by omega), hlv, by simp [ov, *], by simp [ov, *], by simp [ov, *], by simp [ov, *], by simp [ov, *], by simp [over_cons, over_nil], HO2.out.laid (i + j) c (by rw [HLL2.out]; exact HJL.out j (Nat.le_refl _)), grown_setN HG2.out _ (by have := hB0'.out; show w.heap.size ≤ B0; omega)⟩
    · have hjl : j < N2 := by omega
      have hjl1 : (j : Int) < (N2 : Int) := by omega
      have hij : (i : Int) + (j : Int) < (L : Int) := by have := HJL.out j (by omega); omega
      have hne : natL b ≠ [] := by intro h; have := HN2.out; rw [h] at this; simp at this; omega
      obtain ⟨g2, rfl, hLL2, hcc2, hm2, hcell2⟩ := (HR2.out.grown HG2.out).at hne
      obtain ⟨y, hy⟩ : ∃ u, (natL b)[j]? = some u := ⟨(natL b)[j]'(by rw [HN2.out]; omega), List.getElem?_eq_getElem _⟩
      have hc2 := hcell2 j y hy
      obtain ⟨o, ho⟩ : ∃ u, l2[i + j]? = some u := ⟨l2[i + j]'(by rw [HLL2.out]; exact HJL.out j (by omega)), List.getElem?_eq_getElem _⟩
      have hco := HO2.out.cell (i + j) o ho
      have hfo := HO2.out.frozen (i + j)
      unfold encI at hc2 hco
      have hgy : (natL b).getD j 0 = y := by rw [List.getD_eq_getElem?_getD, hy]; rfl
      have hgo : l2.getD (i + j) 0 = o := by rw [List.getD_eq_getElem?_getD, ho]; rfl
      have hyl : y < 1073741824 := by rw [← hgy]; exact (natL_limbs b).getD j
      have hol : o < 1073741824 := by rw [← hgo]; exact HLM2.out.getD _
      have HGY := Lib.hid hgy
      have HGO := Lib.hid hgo
      obtain ⟨p, hp⟩ : ∃ p, x * y = p := ⟨_, rfl⟩
      have hpl : p ≤ 1152921502459363329 := by
        rw [← hp]
        have := Nat.mul_le_mul (show x ≤ 1073741823 by omega) (show y ≤ 1073741823 by omega)
        omega
      have hw : IntKind.i64.wrap ((x : Int) * (y : Int)) = (p : Int) := by
        rw [← Int.natCast_mul, hp]
        exact wrapIS p (by omega)
      have HP := Lib.hid hp
      clear hy ho hgy hgo hcell2 hne hLL2 hp
      ((repeat (go_wp2_with fail; first | (refine cdY ?_ ?_; focus (simp [ov, *]; done)) | (refine cdN ?_ ?_; focus (simp [ov, *]; done)))); go_wp2_with fail)
      have e : ((o : Int) + (p : Int) + (c : Int)) % 1073741824 = (((o + p + c) % 1073741824 : Nat) : Int) := by omega
      have e2 : wj.setCell ⟨B0, i + j, none⟩ (.int .i64 (((o : Int) + (p : Int) + (c : Int)) % 1073741824)) = wj.setCell ⟨B0, i + j, none⟩ (encI ((o + p + c) % 1073741824)) := by unfold encI; rw [e]
      rw [e2]
      clear e e2 hw
      exact gotk HRJ (N2 - (j + 1)) (by have := HK2.out; omega) ⟨j + 1, (o + p + c) / 1073741824, l2.set (i + j) ((o + p + c) % 1073741824), by omega, rfl, by omega, by rw [List.length_set]; exact HLL2.out, HLM2.out.set _ _ (Nat.mod_lt _ (by decide)), fun k hk => by rw [setN_getD _ _ _ _ (by omega)]; exact HZR2.out k (by omega), mul_step (by rw [HLL2.out]; exact HJL.out j (by omega)) HV2.out (by rw [HGO.out, HGY.out, HP.out]), by simp [ov, *], by simp [ov, *], by simp [ov, *], by simp [ov, *], by simp [ov, *], by simp [over_cons, over_nil], by simp [ov, *], by simp [ov, *], by simp [ov, *], by simp [ov, *], by simp [ov, *], by simp [over_cons, over_nil], HO2.out.laid (i + j) _ (by rw [HLL2.out]; exact HJL.out j (by omega)), grown_setN HG2.out _ (by have := hB0'.out; show w.heap.size ≤ B0; omega)⟩
end Go.Proofs.YticlnihjhcepkaaGreatDoor

/-
  Walks of spec/nat.go: PowNat, SubNat.
-/
namespace Go.Proofs.YticlnihjhcepkaaGreatDoor
open Go.RowKit
set_option linter.unusedSimpArgs false
set_option linter.unusedVariables false

theorem pow_len0 (base N y K : Nat) (hb : base < 18446744073709551616) (hN : 64 * N < 30 * K) (hy : y ≤ base ^ N) : (natL y).length ≤ K := by
  refine natL_len_le ?_
  have h1 : base ^ N ≤ (2 ^ 64) ^ N := Nat.pow_le_pow_left (by omega) N
  have h2 : (2 ^ 64) ^ N = 2 ^ (64 * N) := (Nat.pow_mul ..).symm
  have h3 : 2 ^ (64 * N) < 2 ^ (30 * K) := Nat.pow_lt_pow_right (by decide) hN
  rw [pow_B]
  exact Nat.lt_of_le_of_lt (Nat.le_trans hy (h2 ▸ h1)) h3
theorem pow_len (base N y : Nat) (hb : base < 18446744073709551616) (hN : N ≤ 30000) (hy : y ≤ base ^ N) : (natL y).length ≤ 70000 := pow_len0 base N y 70000 hb (by omega) hy

theorem pow_odd (o x m : Nat) : o * x * (x * x) ^ (m / 2) = o * x ^ (2 * (m / 2) + 1) := by
  rw [Nat.mul_assoc, Nat.pow_succ, Nat.pow_mul, Nat.pow_two, Nat.mul_comm x]
theorem pow_even (o x m : Nat) : o * (x * x) ^ (m / 2) = o * x ^ (2 * (m / 2)) := by
  rw [Nat.pow_mul, Nat.pow_two]

set_option maxHeartbeats 4000000 in
theorem powNat_any (base N : Nat) (w : World) (hb0 : 1 ≤ base) (hb : base < 18446744073709551616) (hN : N ≤ 30000) :
    Calls Tryz.prog 82 #[.int .u64 (base : Int), .int .i64 (N : Int)] w fun e w' => ∃ v', e = .returned v' ∧ NatV w' v' (base ^ N) ∧ w.grownBy w' none := by
  have HO1 := Lib.hid (fun W => natOf_any 1 W (by decide))
  have HO2 := Lib.hid (fun W => natOf_any base W hb)
  refine calls_F Tryz.func82 rfl (by rw [Tryz.ntmps82]; simp) ?_
  intro σ hσ
  rw [Tryz.ntmps82]
  have s0 : σ 0 = .int .u64 (base : Int) := hσ 0 (by simp)
  have s1 : σ 1 = .int .i64 (N : Int) := hσ 1 (by simp)
  clear hσ
  ((repeat (go_wp2_with fail; first | (refine cdY ?_ ?_; focus (simp [ov, *]; done)) | (refine cdN ?_ ?_; focus (simp [ov, *]; done)))); go_wp2_with fail)
  refine (HO1.out _).mono ?_
  rintro e w1 ⟨v1, rfl, hn1, hg1⟩
  have HN1 := Lib.hid hn1
  have HG1 := Lib.hid hg1
  clear hn1 hg1
  ((repeat (go_wp2_with fail; first | (refine cdY ?_ ?_; focus (simp [ov, *]; done)) | (refine cdN ?_ ?_; focus (simp [ov, *]; done)))); go_wp2_with fail)
  refine (HO2.out _).mono ?_
  rintro e w2 ⟨v2, rfl, hn2, hg2⟩
  have HN1' := Lib.hid (HN1.out.grown hg2)
  have HN2 := Lib.hid hn2
  have HG2 := Lib.hid (grown_none_tr HG1.out hg2)
  clear hn2 hg2 HN1 HG1
  ((repeat (go_wp2_with fail; first | (refine cdY ?_ ?_; focus (simp [ov, *]; done)) | (refine cdN ?_ ?_; focus (simp [ov, *]; done)))); go_wp2_with fail)
  refine loop_F (fun kk s' w' => ∃ (m o x : Nat) (vo vx : Value), m ≤ N ∧ kk = m ∧ 1 ≤ o ∧ 1 ≤ x ∧ o * x ^ m = base ^ N ∧ s' 1 = .int .i64 (m : Int) ∧ s' 5 = vo ∧ s' 6 = vx ∧ NatV w' vo o ∧ NatV w' vx x ∧ w.grownBy w' none) N
    ⟨N, 1, base, _, _, Nat.le_refl _, rfl, Nat.le_refl _, hb0, by simp, by simp [ov, *], by simp [ov, *], by simp [ov, *], HN1'.out, HN2.out, HG2.out⟩ ?_
  clear s0 s1 σ HN1' HN2 HG2
  rintro kk σ wk ⟨m, o, x, vo, vx, hm, hkk, ho1, hx1, hval, s1, s5, s6, hno, hnx, hg⟩ RK KK HRK hKK
  have HKK := Lib.hid hkk
  have HV := Lib.hid hval
  have HNO := Lib.hid hno
  have HNX := Lib.hid hnx
  have HG := Lib.hid hg
  clear hkk hval hno hnx hg
  by_cases hm0 : m = 0
  · subst hm0
    ((repeat (go_wp2_with fail; first | (refine cdY ?_ ?_; focus (simp [ov, *]; done)) | (refine cdN ?_ ?_; focus (simp [ov, *]; done)))); go_wp2_with fail)
    refine ret_F vo rfl (by decide) (by simp [ov, *]) ⟨vo, rfl, ?_, HG.out⟩
    have h1 := HV.out
    rw [Nat.pow_zero, Nat.mul_one] at h1
    rw [← h1]
    exact HNO.out
  · have hm1 : 0 < m := by omega
    have hm1' : (0 : Int) < (m : Int) := by omega
    have hxp : x ≤ x ^ m := by
      have := Nat.pow_le_pow_right hx1 (show 1 ≤ m by omega)
      rwa [Nat.pow_one] at this
    have hp1 : 1 ≤ x ^ m := Nat.le_trans hx1 hxp
    have hox : o * x ≤ base ^ N := by rw [← HV.out]; exact Nat.mul_le_mul_left o hxp
    have hol : o ≤ base ^ N := by have := Nat.mul_le_mul_left o hx1; omega
    have hxl : x ≤ base ^ N := by have := Nat.mul_le_mul_right x ho1; omega
    have hlo := pow_len base N o hb hN hol
    have hlx := pow_len base N x hb hN hxl
    have HM1 := Lib.hid (fun (W : World) (h1 : NatV W vo o) (h2 : NatV W vx x) => mulNat_any vo vx o x W h1 h2 (by omega) (by omega))
    have HM2 := Lib.hid (fun (W : World) (h2 : NatV W vx x) => mulNat_any vx vx x x W h2 h2 (by omega) (by omega))
    clear hxp hp1 hox hol hxl hlo hlx
    by_cases hodd : m % 2 = 1
    · have ho : ((m : Int) % 2 == 1) = true := by rw [beq_iff_eq]; omega
      by_cases hm2 : 1 < m
      · have hm2' : (1 : Int) < (m : Int) := by omega
        ((repeat (go_wp2_with fail; first | (refine cdY ?_ ?_; focus (simp [ov, *]; done)) | (refine cdN ?_ ?_; focus (simp [ov, *]; done)))); go_wp2_with fail)
        refine (HM1.out _ HNO.out HNX.out).mono ?_
        rintro e w3 ⟨v3, rfl, hn3, hg3⟩
        have HN3 := Lib.hid hn3
        have HG3 := Lib.hid hg3
        clear hn3 hg3
        ((repeat (go_wp2_with fail; first | (refine cdY ?_ ?_; focus (simp [ov, *]; done)) | (refine cdN ?_ ?_; focus (simp [ov, *]; done)))); go_wp2_with fail)
        refine (HM2.out _ (HNX.out.grown HG3.out)).mono ?_
        rintro e w4 ⟨v4, rfl, hn4, hg4⟩
        have HN4 := Lib.hid hn4
        have HG4 := Lib.hid hg4
        clear hn4 hg4
        ((repeat (go_wp2_with fail; first | (refine cdY ?_ ?_; focus (simp [ov, *]; done)) | (refine cdN ?_ ?_; focus (simp [ov, *]; done)))); go_wp2_with fail)
        exact gotk HRK (m / 2) (by have := HKK.out; omega) ⟨m / 2, o * x, x * x, v3, v4, by omega, rfl, Nat.mul_pos ho1 hx1, Nat.mul_pos hx1 hx1, by rw [pow_odd, show 2 * (m / 2) + 1 = m by omega]; exact HV.out, by simp [over_cons, over_nil], by simp [ov, *], by simp [ov, *], HN3.out.grown HG4.out, HN4.out, grown_none_tr HG.out (grown_none_tr HG3.out HG4.out)⟩
      · have hm3 : m = 1 := by omega
        subst hm3
        ((repeat (go_wp2_with fail; first | (refine cdY ?_ ?_; focus (simp [ov, *]; done)) | (refine cdN ?_ ?_; focus (simp [ov, *]; done)))); go_wp2_with fail)
        refine (HM1.out _ HNO.out HNX.out).mono ?_
        rintro e w3 ⟨v3, rfl, hn3, hg3⟩
        have HN3 := Lib.hid hn3
        have HG3 := Lib.hid hg3
        clear hn3 hg3
        ((repeat (go_wp2_with fail; first | (refine cdY ?_ ?_; focus (simp [ov, *]; done)) | (refine cdN ?_ ?_; focus (simp [ov, *]; done)))); go_wp2_with fail)
        exact gotk HRK 0 (by have := HKK.out; omega) ⟨0, o * x, x, v3, vx, by omega, rfl, Nat.mul_pos ho1 hx1, hx1, by rw [Nat.pow_zero, Nat.mul_one]; have := HV.out; rwa [Nat.pow_one] at this, by simp [over_cons, over_nil], by simp [ov, *], by simp [ov, *], HN3.out, HNX.out.grown HG3.out, grown_none_tr HG.out HG3.out⟩
    · have ho : ((m : Int) % 2 == 1) = false := by rw [beq_eq_false_iff_ne]; omega
      have hm2 : 1 < m := by omega
      have hm2' : (1 : Int) < (m : Int) := by omega
      ((repeat (go_wp2_with fail; first | (refine cdY ?_ ?_; focus (simp [ov, *]; done)) | (refine cdN ?_ ?_; focus (simp [ov, *]; done)))); go_wp2_with fail)
      refine (HM2.out _ HNX.out).mono ?_
      rintro e w4 ⟨v4, rfl, hn4, hg4⟩
      have HN4 := Lib.hid hn4
      have HG4 := Lib.hid hg4
      clear hn4 hg4
      ((repeat (go_wp2_with fail; first | (refine cdY ?_ ?_; focus (simp [ov, *]; done)) | (refine cdN ?_ ?_; focus (simp [ov, *]; done)))); go_wp2_with fail)
      exact gotk HRK (m / 2) (by have := HKK.out; omega) ⟨m / 2, o, x * x, vo, v4, by omega, rfl, ho1, Nat.mul_pos hx1 hx1, by rw [pow_even, show 2 * (m / 2) = m by omega]; exact HV.out, by simp [over_cons, over_nil], by simp [ov, *], by simp [ov, *], HNO.out.grown HG4.out, HN4.out, grown_none_tr HG.out HG4.out⟩
end Go.Proofs.YticlnihjhcepkaaGreatDoor
