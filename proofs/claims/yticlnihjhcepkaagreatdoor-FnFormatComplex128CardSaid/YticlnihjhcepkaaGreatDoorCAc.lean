/-
  Walk: AppendComplex of internal/strconv.
-/
import Derived.Test.YticlnihjhcepkaaGreatDoorGg
import Derived.StillTailTactics
import Derived.Laws.IdiomCopy
import Derived.IntWalk
namespace Go.Proofs.YticlnihjhcepkaaGreatDoor
open Go.RowKit
set_option linter.unusedSimpArgs false
set_option linter.unusedVariables false

/-- A text with a sign ahead. -/
def sgnL (I : List UInt8) : List UInt8 := if I.headD 0 = 43 ∨ I.headD 0 = 45 then I else 43 :: I
def cplxL (R I : List UInt8) : List UInt8 := [40] ++ R ++ sgnL I ++ [105, 41]

theorem OwnB.cell {T : Nat} {w : World} {g c L : Nat} {xs : List UInt8} (h : OwnB T w (.slice (some ⟨g, 0, none⟩) L c) xs) (i : Nat) (u : UInt8) (hi : xs[i]? = some u) : w.cell? ⟨g, i, none⟩ = some (encB u) := by
  obtain ⟨⟨g', rest, hv, hr, hm⟩, _⟩ := h
  simp only [Value.slice.injEq, Option.some.injEq, Addr.mk.injEq] at hv
  obtain ⟨⟨rfl, _⟩, _⟩ := hv
  have hl : i < xs.length := by
    rcases Nat.lt_or_ge i xs.length with h | h
    · exact h
    · rw [List.getElem?_eq_none h] at hi; cases hi
  rw [hr.cell, List.getElem?_append_left (by rw [List.length_map]; exact hl), List.getElem?_map, hi]
  rfl

theorem OwnB.frozen {T : Nat} {w : World} {g c L : Nat} {xs : List UInt8} (h : OwnB T w (.slice (some ⟨g, 0, none⟩) L c) xs) (i : Nat) : w.frozen? ⟨g, i, none⟩ = false := by
  obtain ⟨⟨g', rest, hv, hr, hm⟩, _⟩ := h
  simp only [Value.slice.injEq, Option.some.injEq, Addr.mk.injEq] at hv
  obtain ⟨⟨rfl, _⟩, _⟩ := hv
  exact hr.frozen i

/-- The last bytes are moved on by one. -/
theorem OwnB.moved {T : Nat} {w : World} {g c L : Nat} {A I : List UInt8} {z : UInt8} (h : OwnB T w (.slice (some ⟨g, 0, none⟩) L c) (A ++ I ++ [z])) :
    OwnB T (w.setCells g (A.length + 1) (I.map encB)) (.slice (some ⟨g, 0, none⟩) L c) (A ++ ((A ++ I ++ [z]).getD A.length 0 :: I)) ∧ Stp w (.slice (some ⟨g, 0, none⟩) L c) (w.setCells g (A.length + 1) (I.map encB)) (.slice (some ⟨g, 0, none⟩) L c) := by
  obtain ⟨⟨g', rest, hv, hr, hm⟩, hT⟩ := h
  simp only [Value.slice.injEq, Option.some.injEq, Addr.mk.injEq] at hv
  obtain ⟨⟨rfl, _⟩, hL, hc⟩ := hv
  constructor
  · refine ⟨⟨g, rest, ?_, ?_, ?_⟩, hT⟩
    · rw [hL, hc]; simp
    · obtain ⟨u, us, hu⟩ : ∃ u us, I ++ [z] = u :: us := by
        cases I with
        | nil => exact ⟨z, [], rfl⟩
        | cons u us => exact ⟨u, us ++ [z], rfl⟩
      have hul : us.length = I.length := by
        have := congrArg List.length hu
        simp at this; omega
      have e1 : (A ++ I ++ [z]).getD A.length 0 = u := by
        rw [List.append_assoc, hu]
        simp [List.getD]
      rw [e1]
      have e2 : (A ++ I ++ [z]).map encB ++ rest = ((A ++ [u]).map encB) ++ (us.map encB ++ rest) := by
        rw [List.append_assoc, hu]; simp
      rw [e2] at hr
      have h3 := hr.setCells (I.map encB) (by simp [hul])
      have e3 : ((A ++ [u]).map encB).length = A.length + 1 := by simp
      rw [e3] at h3
      have e4 : (A ++ u :: I).map encB ++ rest = (A ++ [u]).map encB ++ (I.map encB ++ rest) := by simp
      rw [e4]
      exact h3
    · simp at hm ⊢; omega
  · refine ⟨⟨World.os_setCells .., tape_setCells g _ _ w, World.output_setCells .., by rw [size_setCells g]; exact Nat.le_refl _, fun k hk hne => World.heap_setCells_other w g _ _ hk (fun e => hne (by simp [Value.ownBlock, e]))⟩, fun k hk _ => hk⟩

/-- One byte is laid. -/
theorem OwnB.laid {T : Nat} {w : World} {g c L : Nat} {A B : List UInt8} {u : UInt8} (v : UInt8) (h : OwnB T w (.slice (some ⟨g, 0, none⟩) L c) (A ++ (u :: B))) :
    OwnB T (w.setCell ⟨g, A.length, none⟩ (encB v)) (.slice (some ⟨g, 0, none⟩) L c) (A ++ (v :: B)) ∧ Stp w (.slice (some ⟨g, 0, none⟩) L c) (w.setCell ⟨g, A.length, none⟩ (encB v)) (.slice (some ⟨g, 0, none⟩) L c) := by
  obtain ⟨⟨g', rest, hv, hr, hm⟩, hT⟩ := h
  simp only [Value.slice.injEq, Option.some.injEq, Addr.mk.injEq] at hv
  obtain ⟨⟨rfl, _⟩, hL, hc⟩ := hv
  constructor
  · refine ⟨⟨g, rest, ?_, ?_, ?_⟩, hT⟩
    · rw [hL, hc]; simp
    · have e2 : (A ++ u :: B).map encB ++ rest = (A.map encB) ++ ([encB u] ++ (B.map encB ++ rest)) := by simp
      rw [e2] at hr
      have h3 := hr.setCells [encB v] (by simp)
      have e3 : (A.map encB).length = A.length := by simp
      rw [e3] at h3
      have e4 : (A ++ v :: B).map encB ++ rest = A.map encB ++ ([encB v] ++ (B.map encB ++ rest)) := by simp
      rw [e4]
      exact h3
    · simp at hm ⊢; omega
  · have hst : Stp w (.slice (some ⟨g, 0, none⟩) L c) (w.setCells g A.length [encB v]) (.slice (some ⟨g, 0, none⟩) L c) :=
      ⟨⟨World.os_setCells .., tape_setCells g _ _ w, World.output_setCells .., by rw [size_setCells g]; exact Nat.le_refl _, fun k hk hne => World.heap_setCells_other w g _ _ hk (fun e => hne (by simp [Value.ownBlock, e]))⟩, fun k hk _ => hk⟩
    exact hst

set_option maxRecDepth 100000 in
theorem copy_moved {T : Nat} {w : World} {g c L : Nat} {A I : List UInt8} {z : UInt8} (h : OwnB T w (.slice (some ⟨g, 0, none⟩) L c) (A ++ I ++ [z])) (ty : TypeId) (c1 c2 n1 n2 : Nat) (hn1 : n1 = I.length) (hn2 : n2 = I.length + 1) :
    (Builtin.copy_ #[51, 51] ty #[.slice (some ⟨g, A.length + 1, none⟩) n1 c1, .slice (some ⟨g, A.length, none⟩) n2 c2]).run Tryz.prog w = .ok (goInt I.length) (w.setCells g (A.length + 1) (I.map encB)) := by
  obtain ⟨⟨g', rest, hv, hr, hm⟩, hT⟩ := h
  simp only [Value.slice.injEq, Option.some.injEq, Addr.mk.injEq] at hv
  obtain ⟨⟨rfl, _⟩, hL, hc⟩ := hv
  obtain ⟨i, hi, hz0, hz1, hz2⟩ := info_parts byteInfo
  have hh := run_copy_cells (P := Tryz.prog) w 51 51 ty 5 g (A.length + 1) n1 c1 ⟨g, A.length, none⟩ n2 c2 (I.map encB) Tryz.underlying51 (by rw [hi]; simp [hz1]) (by rw [List.length_map, hn1, hn2]; simp) ?_ ?_ ?_ ?_
  · rw [List.length_map] at hh
    exact hh
  · intro j v hj
    have e : ((⟨g, A.length, none⟩ : Addr).add j) = ⟨g, A.length + j, none⟩ := by
      unfold Addr.add; split
      · subst_vars; rfl
      · rfl
    have hjl : j < I.length := by
      rcases Nat.lt_or_ge j (I.map encB).length with h | h
      · rwa [List.length_map] at h
      · rw [List.getElem?_eq_none h] at hj; cases hj
    rw [e, hr.cell, List.getElem?_append_left (by simp; omega), List.append_assoc, List.map_append, List.getElem?_append_right (by simp), List.map_append, List.getElem?_append_left (by simp; omega), List.length_map, Nat.add_sub_cancel_left, hj]
  · intro j hj
    rw [List.length_map] at hj
    rw [hr.cell, List.getElem?_eq_getElem (by simp; omega)]
    rfl
  · intro j hj
    exact hr.frozen _
  · intro v hv
    obtain ⟨b, _, rfl⟩ := List.mem_map.1 hv
    rfl

set_option maxRecDepth 100000 in
set_option maxHeartbeats 4000000 in
theorem appendComplex128_any (T re im : Nat) (dst : Value) (prec f : Int) (xs R I : List UInt8) (w : World) (he : Env T w) (hown : OwnB T w dst xs) (hx : xs.length ≤ 1000)
    (hR : ∀ (d : Value) (ys : List UInt8) (W : World), Env T W → OwnB T W d ys → ys.length ≤ 140737488900000 → Calls Tryz.prog 107 #[d, .float .f64 re, .int .u8 f, .int .i64 prec, .int .i64 64] W fun r w' => ∃ v', r = .returned v' ∧ OwnB T w' v' (ys ++ R) ∧ Stp W d w' v')
    (hI : ∀ (d : Value) (ys : List UInt8) (W : World), Env T W → OwnB T W d ys → ys.length ≤ 140737488900000 → Calls Tryz.prog 107 #[d, .float .f64 im, .int .u8 f, .int .i64 prec, .int .i64 64] W fun r w' => ∃ v', r = .returned v' ∧ OwnB T w' v' (ys ++ I) ∧ Stp W d w' v')
    (hRl : R.length ≤ 4000000) (hIl : I.length ≤ 4000000) (hIn : I ≠ []) :
    Calls Tryz.prog 89 #[dst, .complex .f64 re im, .int .u8 f, .int .i64 prec, .int .i64 128] w fun r w' =>
      ∃ v', r = .returned v' ∧ OwnB T w' v' (xs ++ cplxL R I) ∧ Stp w dst w' v' := by
  have hap := Ap.start hown he (Or.inl rfl : Dig w dst dst [])
  have HR := Lib.hid hR
  have HI := Lib.hid hI
  clear hR hI he hown
  refine calls_F Tryz.func89 rfl (by rw [Tryz.ntmps89]; simp) ?_
  intro σ hσ
  rw [Tryz.ntmps89]
  have s0 : σ 0 = dst := hσ 0 (by simp)
  have s1 : σ 1 = .complex .f64 re im := hσ 1 (by simp)
  have s2 : σ 2 = .int .u8 f := hσ 2 (by simp)
  have s3 : σ 3 = .int .i64 prec := hσ 3 (by simp)
  have s4 : σ 4 = .int .i64 128 := hσ 4 (by simp)
  clear hσ
  ((repeat (go_wp2_with (first | (at_builtin; refine wpList_appF rfl _ _ _ _ rfl (by decide) (by decide) byteTy (hap.own.alloc _) (by simp [ov, *]) _ (by simp [ov, *]) [40] (src_new Tryz.underlying51 [40] _) (by simp only [List.length_append, List.length_cons, List.length_nil, List.length_replicate] at *; omega) ?_; intro v w' ho1 hs1; replace hap := hap.step ho1 hs1; clear ho1 hs1)); first | (refine cdY ?_ ?_; focus (simp [ov, *]; done)) | (refine cdN ?_ ?_; focus (simp [ov, *]; done)))); go_wp2_with (first | (at_builtin; refine wpList_appF rfl _ _ _ _ rfl (by decide) (by decide) byteTy (hap.own.alloc _) (by simp [ov, *]) _ (by simp [ov, *]) [40] (src_new Tryz.underlying51 [40] _) (by simp only [List.length_append, List.length_cons, List.length_nil, List.length_replicate] at *; omega) ?_; intro v w' ho1 hs1; replace hap := hap.step ho1 hs1; clear ho1 hs1)))
  refine (HR.out _ _ _ hap.env hap.own (by simp; omega)).mono ?_
  rintro e w2 ⟨v2, rfl, ho2, hs2⟩
  replace hap := hap.step0 ho2 hs2
  clear ho2 hs2
  obtain ⟨A, hA⟩ : ∃ A, xs ++ [40] ++ R = A := ⟨_, rfl⟩
  rw [hA] at hap
  have hAl : A.length ≤ 5000000 := by rw [← hA]; simp; omega
  obtain ⟨g2, c2, rfl, hg2, _, hc2, hc2'⟩ := hap.own.block
  have HA := Lib.hid hA
  clear hA
  ((repeat (go_wp2_with fail; first | (refine cdY ?_ ?_; focus (simp [ov, *]; done)) | (refine cdN ?_ ?_; focus (simp [ov, *]; done)))); go_wp2_with fail)
  refine (HI.out _ _ _ hap.env hap.own (by omega)).mono ?_
  rintro e w3 ⟨v3, rfl, ho3, hs3⟩
  replace hap := hap.step0 ho3 hs3
  clear ho3 hs3
  obtain ⟨i0, It, rfl⟩ : ∃ u us, I = u :: us := by
    cases I with
    | nil => exact absurd rfl hIn
    | cons u us => exact ⟨u, us, rfl⟩
  obtain ⟨g3, c3, rfl, hg3, _, hc3, hc3'⟩ := hap.own.block
  obtain ⟨N, hN⟩ : ∃ N, A.length = N := ⟨_, rfl⟩
  obtain ⟨L, hL⟩ : ∃ L, (A ++ i0 :: It).length = L := ⟨_, rfl⟩
  have hNL : N + (It.length + 1) = L := by rw [← hN, ← hL]; simp
  have hcell := hap.own.cell A.length i0 (by simp)
  have hAl2 := hAl
  rw [hN] at hcell hAl
  rw [hL] at hap hc3
  simp only [hN, hL]
  have hi0 : (N : Int) < (L : Int) := by omega
  have hi0' : N < L := by omega
  have hge : (0 : Int) ≤ (N : Int) := by omega
  unfold encB at hcell
  have HNL := Lib.hid hNL
  have HN := Lib.hid hN
  have HL := Lib.hid hL
  clear hNL hN hL hIn
  by_cases h43 : i0 = 43
  · subst h43
    ((repeat (go_wp2_with (first | (at_builtin; refine wpList_appB rfl (.tmp 66) (.const (.string ⟨#[105, 41]⟩)) _ _ rfl byteTy hap.own ((Fr_eval _ _ _ 66 (by decide)).trans (by simp [ov, *])) _ rfl [105, 41] (src_str Tryz.underlying9 _ [105, 41] rfl) (by simp only [List.length_append, List.length_cons, List.length_nil, List.length_replicate] at *; omega) ?_; intro v5 w5 ho5 hs5; replace hap := hap.step0 ho5 hs5; clear ho5 hs5)); first | (refine cdY ?_ ?_; focus (simp [ov, *]; done)) | (refine cdN ?_ ?_; focus (simp [ov, *]; done)))); go_wp2_with (first | (at_builtin; refine wpList_appB rfl (.tmp 66) (.const (.string ⟨#[105, 41]⟩)) _ _ rfl byteTy hap.own ((Fr_eval _ _ _ 66 (by decide)).trans (by simp [ov, *])) _ rfl [105, 41] (src_str Tryz.underlying9 _ [105, 41] rfl) (by simp only [List.length_append, List.length_cons, List.length_nil, List.length_replicate] at *; omega) ?_; intro v5 w5 ho5 hs5; replace hap := hap.step0 ho5 hs5; clear ho5 hs5)))
    refine ret_F v5 rfl (by decide) (by simp [ov, *]) ⟨v5, rfl, ?_, hap.stp⟩
    have e : xs ++ cplxL R (43 :: It) = A ++ 43 :: It ++ [105, 41] := by rw [← HA.out]; simp [cplxL, sgnL]
    rw [e]
    exact hap.own
  by_cases h45 : i0 = 45
  · subst h45
    ((repeat (go_wp2_with (first | (at_builtin; refine wpList_appB rfl (.tmp 66) (.const (.string ⟨#[105, 41]⟩)) _ _ rfl byteTy hap.own ((Fr_eval _ _ _ 66 (by decide)).trans (by simp [ov, *])) _ rfl [105, 41] (src_str Tryz.underlying9 _ [105, 41] rfl) (by simp only [List.length_append, List.length_cons, List.length_nil, List.length_replicate] at *; omega) ?_; intro v5 w5 ho5 hs5; replace hap := hap.step0 ho5 hs5; clear ho5 hs5)); first | (refine cdY ?_ ?_; focus (simp [ov, *]; done)) | (refine cdN ?_ ?_; focus (simp [ov, *]; done)))); go_wp2_with (first | (at_builtin; refine wpList_appB rfl (.tmp 66) (.const (.string ⟨#[105, 41]⟩)) _ _ rfl byteTy hap.own ((Fr_eval _ _ _ 66 (by decide)).trans (by simp [ov, *])) _ rfl [105, 41] (src_str Tryz.underlying9 _ [105, 41] rfl) (by simp only [List.length_append, List.length_cons, List.length_nil, List.length_replicate] at *; omega) ?_; intro v5 w5 ho5 hs5; replace hap := hap.step0 ho5 hs5; clear ho5 hs5)))
    refine ret_F v5 rfl (by decide) (by simp [ov, *]) ⟨v5, rfl, ?_, hap.stp⟩
    have e : xs ++ cplxL R (45 :: It) = A ++ 45 :: It ++ [105, 41] := by rw [← HA.out]; simp [cplxL, sgnL]
    rw [e]
    exact hap.own
  have h43' : ((i0.toNat : Int) != 43) = true := by
    rw [bne_iff_ne]
    intro h
    apply h43
    apply UInt8.toNat_inj.1
    exact Int.ofNat_inj.1 h
  have h45' : ((i0.toNat : Int) != 45) = true := by
    rw [bne_iff_ne]
    intro h
    apply h45
    apply UInt8.toNat_inj.1
    exact Int.ofNat_inj.1 h
  ((repeat (go_wp2_with (first | (at_builtin; refine wpList_appF rfl _ _ _ _ rfl (by decide) (by decide) byteTy (hap.own.alloc _) (by simp [ov, *]) _ (by simp [ov, *]) [0] (src_new Tryz.underlying51 [0] _) (by simp only [List.length_append, List.length_cons, List.length_nil, List.length_replicate] at *; omega) ?_; intro v w' ho1 hs1; replace hap := hap.step ho1 hs1; clear ho1 hs1)); first | (refine cdY ?_ ?_; focus (simp [ov, *]; done)) | (refine cdN ?_ ?_; focus (simp [ov, *]; done)))); go_wp2_with (first | (at_builtin; refine wpList_appF rfl _ _ _ _ rfl (by decide) (by decide) byteTy (hap.own.alloc _) (by simp [ov, *]) _ (by simp [ov, *]) [0] (src_new Tryz.underlying51 [0] _) (by simp only [List.length_append, List.length_cons, List.length_nil, List.length_replicate] at *; omega) ?_; intro v w' ho1 hs1; replace hap := hap.step ho1 hs1; clear ho1 hs1)))
  obtain ⟨g4, c4, rfl, hg4, _, hc4, hc4'⟩ := hap.own.block
  obtain ⟨M, hM⟩ : ∃ M, (A ++ i0 :: It ++ [0]).length = M := ⟨_, rfl⟩
  have hML : M = N + (It.length + 2) := by
    have h1 := HNL.out
    have h2 := HL.out
    rw [← hM, List.length_append, h2]
    simp
    omega
  simp only [hM]
  rw [hM] at hc4 hap
  have hm1 : (N : Int) + 1 ≤ (M : Int) := by omega
  have hm2 : (N : Int) ≤ (M : Int) := by omega
  have hm3 : (M : Int) ≤ (c4 : Int) := by omega
  have hm4 : (0 : Int) ≤ (N : Int) + 1 := by omega
  have HML := Lib.hid hML
  have HM := Lib.hid hM
  have hw1 : IntKind.i64.wrap ((N : Int) + 1) = (N : Int) + 1 := IntWalk.i64_in _ (by omega)
  have hw2 : ((N : Int) + 1).toNat = N + 1 := by omega
  have hq1 : ¬ (c4 = N + 1) := by omega
  have hq2 : ¬ (N + 1 = c4) := by omega
  have hq3 : ¬ (c4 = N) := by omega
  have hq4 : ¬ (N = c4) := by omega
  have hq5 : N + 1 < c4 := by omega
  have hq6 : N < c4 := by omega
  have hown4 : OwnB T w'.drew (.slice (some ⟨g4, 0, none⟩) M c4) (A ++ i0 :: It ++ [0]) := hap.own.drewN 1
  have hcp := copy_moved hown4 3 (c4 - (N + 1)) (c4 - N) (M - (N + 1)) (M - N) (by simp; omega) (by simp; omega)
  have hmv := OwnB.moved hown4
  rw [HN.out] at hcp hmv
  obtain ⟨W5, hW5⟩ : ∃ W, w'.drew.setCells g4 (N + 1) ((i0 :: It).map encB) = W := ⟨_, rfl⟩
  rw [hW5] at hcp hmv
  have hgd : (A ++ i0 :: It ++ [0]).getD N 0 = i0 := by
    rw [← HN.out, List.append_assoc]
    simp [List.getD]
  rw [hgd] at hmv
  have hc5 := OwnB.cell hmv.1 A.length i0 (by simp)
  have hf5 := OwnB.frozen hmv.1 A.length
  have hld := OwnB.laid 43 hmv.1
  rw [HN.out] at hc5 hf5 hld
  have e43 : encB 43 = .int .u8 43 := rfl
  rw [e43] at hld
  have hap5 : Ap T w dst dst [] (W5.setCell ⟨g4, N, none⟩ (.int .u8 43)) (.slice (some ⟨g4, 0, none⟩) M c4) (A ++ 43 :: i0 :: It) :=
    ⟨hld.1, (hap.stp.drewN 1).trans (hmv.2.trans hld.2), OwnB.env hmv.1 hld.2 (OwnB.env hown4 hmv.2 (hap.env.drewN 1)), Or.inl rfl⟩
  have HAP := Lib.hid hap5
  clear hML hM hcell hap hown4 hmv hld hap5 hgd hW5
  go_still_tail 7, (by kernel_rfl)
  ((repeat (go_wp2_with (first | (at_builtin; refine wpList_appB rfl (.tmp 66) (.const (.string ⟨#[105, 41]⟩)) _ _ rfl byteTy HAP.out.own ((Fr_eval _ _ _ 66 (by decide)).trans (by simp [ov, *])) _ rfl [105, 41] (src_str Tryz.underlying9 _ [105, 41] rfl) (by simp only [List.length_append, List.length_cons, List.length_nil, List.length_replicate] at *; omega) ?_; intro v5 w5 ho5 hs5; have hap := HAP.out.step0 ho5 hs5; clear ho5 hs5)); first | (refine cdY ?_ ?_; focus (simp [ov, *]; done)) | (refine cdN ?_ ?_; focus (simp [ov, *]; done)))); go_wp2_with (first | (at_builtin; refine wpList_appB rfl (.tmp 66) (.const (.string ⟨#[105, 41]⟩)) _ _ rfl byteTy HAP.out.own ((Fr_eval _ _ _ 66 (by decide)).trans (by simp [ov, *])) _ rfl [105, 41] (src_str Tryz.underlying9 _ [105, 41] rfl) (by simp only [List.length_append, List.length_cons, List.length_nil, List.length_replicate] at *; omega) ?_; intro v5 w5 ho5 hs5; have hap := HAP.out.step0 ho5 hs5; clear ho5 hs5)))
  refine ret_F v5 rfl (by decide) (by simp [ov, *]) ⟨v5, rfl, ?_, hap.stp⟩
  have e : xs ++ cplxL R (i0 :: It) = A ++ 43 :: i0 :: It ++ [105, 41] := by rw [← HA.out]; simp [cplxL, sgnL, h43, h45]
  rw [e]
  exact hap.own

set_option maxRecDepth 100000 in
set_option maxHeartbeats 4000000 in
theorem appendComplex64_any (T re im : Nat) (dst : Value) (prec f : Int) (xs R I : List UInt8) (w : World) (he : Env T w) (hown : OwnB T w dst xs) (hx : xs.length ≤ 1000)
    (hR : ∀ (d : Value) (ys : List UInt8) (W : World), Env T W → OwnB T W d ys → ys.length ≤ 140737488900000 → Calls Tryz.prog 107 #[d, .float .f64 re, .int .u8 f, .int .i64 prec, .int .i64 32] W fun r w' => ∃ v', r = .returned v' ∧ OwnB T w' v' (ys ++ R) ∧ Stp W d w' v')
    (hI : ∀ (d : Value) (ys : List UInt8) (W : World), Env T W → OwnB T W d ys → ys.length ≤ 140737488900000 → Calls Tryz.prog 107 #[d, .float .f64 im, .int .u8 f, .int .i64 prec, .int .i64 32] W fun r w' => ∃ v', r = .returned v' ∧ OwnB T w' v' (ys ++ I) ∧ Stp W d w' v')
    (hRl : R.length ≤ 4000000) (hIl : I.length ≤ 4000000) (hIn : I ≠ []) :
    Calls Tryz.prog 89 #[dst, .complex .f64 re im, .int .u8 f, .int .i64 prec, .int .i64 64] w fun r w' =>
      ∃ v', r = .returned v' ∧ OwnB T w' v' (xs ++ cplxL R I) ∧ Stp w dst w' v' := by
  have hap := Ap.start hown he (Or.inl rfl : Dig w dst dst [])
  have HR := Lib.hid hR
  have HI := Lib.hid hI
  clear hR hI he hown
  refine calls_F Tryz.func89 rfl (by rw [Tryz.ntmps89]; simp) ?_
  intro σ hσ
  rw [Tryz.ntmps89]
  have s0 : σ 0 = dst := hσ 0 (by simp)
  have s1 : σ 1 = .complex .f64 re im := hσ 1 (by simp)
  have s2 : σ 2 = .int .u8 f := hσ 2 (by simp)
  have s3 : σ 3 = .int .i64 prec := hσ 3 (by simp)
  have s4 : σ 4 = .int .i64 64 := hσ 4 (by simp)
  clear hσ
  ((repeat (go_wp2_with (first | (at_builtin; refine wpList_appF rfl _ _ _ _ rfl (by decide) (by decide) byteTy (hap.own.alloc _) (by simp [ov, *]) _ (by simp [ov, *]) [40] (src_new Tryz.underlying51 [40] _) (by simp only [List.length_append, List.length_cons, List.length_nil, List.length_replicate] at *; omega) ?_; intro v w' ho1 hs1; replace hap := hap.step ho1 hs1; clear ho1 hs1)); first | (refine cdY ?_ ?_; focus (simp [ov, *]; done)) | (refine cdN ?_ ?_; focus (simp [ov, *]; done)))); go_wp2_with (first | (at_builtin; refine wpList_appF rfl _ _ _ _ rfl (by decide) (by decide) byteTy (hap.own.alloc _) (by simp [ov, *]) _ (by simp [ov, *]) [40] (src_new Tryz.underlying51 [40] _) (by simp only [List.length_append, List.length_cons, List.length_nil, List.length_replicate] at *; omega) ?_; intro v w' ho1 hs1; replace hap := hap.step ho1 hs1; clear ho1 hs1)))
  refine (HR.out _ _ _ hap.env hap.own (by simp; omega)).mono ?_
  rintro e w2 ⟨v2, rfl, ho2, hs2⟩
  replace hap := hap.step0 ho2 hs2
  clear ho2 hs2
  obtain ⟨A, hA⟩ : ∃ A, xs ++ [40] ++ R = A := ⟨_, rfl⟩
  rw [hA] at hap
  have hAl : A.length ≤ 5000000 := by rw [← hA]; simp; omega
  obtain ⟨g2, c2, rfl, hg2, _, hc2, hc2'⟩ := hap.own.block
  have HA := Lib.hid hA
  clear hA
  ((repeat (go_wp2_with fail; first | (refine cdY ?_ ?_; focus (simp [ov, *]; done)) | (refine cdN ?_ ?_; focus (simp [ov, *]; done)))); go_wp2_with fail)
  refine (HI.out _ _ _ hap.env hap.own (by omega)).mono ?_
  rintro e w3 ⟨v3, rfl, ho3, hs3⟩
  replace hap := hap.step0 ho3 hs3
  clear ho3 hs3
  obtain ⟨i0, It, rfl⟩ : ∃ u us, I = u :: us := by
    cases I with
    | nil => exact absurd rfl hIn
    | cons u us => exact ⟨u, us, rfl⟩
  obtain ⟨g3, c3, rfl, hg3, _, hc3, hc3'⟩ := hap.own.block
  obtain ⟨N, hN⟩ : ∃ N, A.length = N := ⟨_, rfl⟩
  obtain ⟨L, hL⟩ : ∃ L, (A ++ i0 :: It).length = L := ⟨_, rfl⟩
  have hNL : N + (It.length + 1) = L := by rw [← hN, ← hL]; simp
  have hcell := hap.own.cell A.length i0 (by simp)
  have hAl2 := hAl
  rw [hN] at hcell hAl
  rw [hL] at hap hc3
  simp only [hN, hL]
  have hi0 : (N : Int) < (L : Int) := by omega
  have hi0' : N < L := by omega
  have hge : (0 : Int) ≤ (N : Int) := by omega
  unfold encB at hcell
  have HNL := Lib.hid hNL
  have HN := Lib.hid hN
  have HL := Lib.hid hL
  clear hNL hN hL hIn
  by_cases h43 : i0 = 43
  · subst h43
    ((repeat (go_wp2_with (first | (at_builtin; refine wpList_appB rfl (.tmp 66) (.const (.string ⟨#[105, 41]⟩)) _ _ rfl byteTy hap.own ((Fr_eval _ _ _ 66 (by decide)).trans (by simp [ov, *])) _ rfl [105, 41] (src_str Tryz.underlying9 _ [105, 41] rfl) (by simp only [List.length_append, List.length_cons, List.length_nil, List.length_replicate] at *; omega) ?_; intro v5 w5 ho5 hs5; replace hap := hap.step0 ho5 hs5; clear ho5 hs5)); first | (refine cdY ?_ ?_; focus (simp [ov, *]; done)) | (refine cdN ?_ ?_; focus (simp [ov, *]; done)))); go_wp2_with (first | (at_builtin; refine wpList_appB rfl (.tmp 66) (.const (.string ⟨#[105, 41]⟩)) _ _ rfl byteTy hap.own ((Fr_eval _ _ _ 66 (by decide)).trans (by simp [ov, *])) _ rfl [105, 41] (src_str Tryz.underlying9 _ [105, 41] rfl) (by simp only [List.length_append, List.length_cons, List.length_nil, List.length_replicate] at *; omega) ?_; intro v5 w5 ho5 hs5; replace hap := hap.step0 ho5 hs5; clear ho5 hs5)))
    refine ret_F v5 rfl (by decide) (by simp [ov, *]) ⟨v5, rfl, ?_, hap.stp⟩
    have e : xs ++ cplxL R (43 :: It) = A ++ 43 :: It ++ [105, 41] := by rw [← HA.out]; simp [cplxL, sgnL]
    rw [e]
    exact hap.own
  by_cases h45 : i0 = 45
  · subst h45
    ((repeat (go_wp2_with (first | (at_builtin; refine wpList_appB rfl (.tmp 66) (.const (.string ⟨#[105, 41]⟩)) _ _ rfl byteTy hap.own ((Fr_eval _ _ _ 66 (by decide)).trans (by simp [ov, *])) _ rfl [105, 41] (src_str Tryz.underlying9 _ [105, 41] rfl) (by simp only [List.length_append, List.length_cons, List.length_nil, List.length_replicate] at *; omega) ?_; intro v5 w5 ho5 hs5; replace hap := hap.step0 ho5 hs5; clear ho5 hs5)); first | (refine cdY ?_ ?_; focus (simp [ov, *]; done)) | (refine cdN ?_ ?_; focus (simp [ov, *]; done)))); go_wp2_with (first | (at_builtin; refine wpList_appB rfl (.tmp 66) (.const (.string ⟨#[105, 41]⟩)) _ _ rfl byteTy hap.own ((Fr_eval _ _ _ 66 (by decide)).trans (by simp [ov, *])) _ rfl [105, 41] (src_str Tryz.underlying9 _ [105, 41] rfl) (by simp only [List.length_append, List.length_cons, List.length_nil, List.length_replicate] at *; omega) ?_; intro v5 w5 ho5 hs5; replace hap := hap.step0 ho5 hs5; clear ho5 hs5)))
    refine ret_F v5 rfl (by decide) (by simp [ov, *]) ⟨v5, rfl, ?_, hap.stp⟩
    have e : xs ++ cplxL R (45 :: It) = A ++ 45 :: It ++ [105, 41] := by rw [← HA.out]; simp [cplxL, sgnL]
    rw [e]
    exact hap.own
  have h43' : ((i0.toNat : Int) != 43) = true := by
    rw [bne_iff_ne]
    intro h
    apply h43
    apply UInt8.toNat_inj.1
    exact Int.ofNat_inj.1 h
  have h45' : ((i0.toNat : Int) != 45) = true := by
    rw [bne_iff_ne]
    intro h
    apply h45
    apply UInt8.toNat_inj.1
    exact Int.ofNat_inj.1 h
  ((repeat (go_wp2_with (first | (at_builtin; refine wpList_appF rfl _ _ _ _ rfl (by decide) (by decide) byteTy (hap.own.alloc _) (by simp [ov, *]) _ (by simp [ov, *]) [0] (src_new Tryz.underlying51 [0] _) (by simp only [List.length_append, List.length_cons, List.length_nil, List.length_replicate] at *; omega) ?_; intro v w' ho1 hs1; replace hap := hap.step ho1 hs1; clear ho1 hs1)); first | (refine cdY ?_ ?_; focus (simp [ov, *]; done)) | (refine cdN ?_ ?_; focus (simp [ov, *]; done)))); go_wp2_with (first | (at_builtin; refine wpList_appF rfl _ _ _ _ rfl (by decide) (by decide) byteTy (hap.own.alloc _) (by simp [ov, *]) _ (by simp [ov, *]) [0] (src_new Tryz.underlying51 [0] _) (by simp only [List.length_append, List.length_cons, List.length_nil, List.length_replicate] at *; omega) ?_; intro v w' ho1 hs1; replace hap := hap.step ho1 hs1; clear ho1 hs1)))
  obtain ⟨g4, c4, rfl, hg4, _, hc4, hc4'⟩ := hap.own.block
  obtain ⟨M, hM⟩ : ∃ M, (A ++ i0 :: It ++ [0]).length = M := ⟨_, rfl⟩
  have hML : M = N + (It.length + 2) := by
    have h1 := HNL.out
    have h2 := HL.out
    rw [← hM, List.length_append, h2]
    simp
    omega
  simp only [hM]
  rw [hM] at hc4 hap
  have hm1 : (N : Int) + 1 ≤ (M : Int) := by omega
  have hm2 : (N : Int) ≤ (M : Int) := by omega
  have hm3 : (M : Int) ≤ (c4 : Int) := by omega
  have hm4 : (0 : Int) ≤ (N : Int) + 1 := by omega
  have HML := Lib.hid hML
  have HM := Lib.hid hM
  have hw1 : IntKind.i64.wrap ((N : Int) + 1) = (N : Int) + 1 := IntWalk.i64_in _ (by omega)
  have hw2 : ((N : Int) + 1).toNat = N + 1 := by omega
  have hq1 : ¬ (c4 = N + 1) := by omega
  have hq2 : ¬ (N + 1 = c4) := by omega
  have hq3 : ¬ (c4 = N) := by omega
  have hq4 : ¬ (N = c4) := by omega
  have hq5 : N + 1 < c4 := by omega
  have hq6 : N < c4 := by omega
  have hown4 : OwnB T w'.drew (.slice (some ⟨g4, 0, none⟩) M c4) (A ++ i0 :: It ++ [0]) := hap.own.drewN 1
  have hcp := copy_moved hown4 3 (c4 - (N + 1)) (c4 - N) (M - (N + 1)) (M - N) (by simp; omega) (by simp; omega)
  have hmv := OwnB.moved hown4
  rw [HN.out] at hcp hmv
  obtain ⟨W5, hW5⟩ : ∃ W, w'.drew.setCells g4 (N + 1) ((i0 :: It).map encB) = W := ⟨_, rfl⟩
  rw [hW5] at hcp hmv
  have hgd : (A ++ i0 :: It ++ [0]).getD N 0 = i0 := by
    rw [← HN.out, List.append_assoc]
    simp [List.getD]
  rw [hgd] at hmv
  have hc5 := OwnB.cell hmv.1 A.length i0 (by simp)
  have hf5 := OwnB.frozen hmv.1 A.length
  have hld := OwnB.laid 43 hmv.1
  rw [HN.out] at hc5 hf5 hld
  have e43 : encB 43 = .int .u8 43 := rfl
  rw [e43] at hld
  have hap5 : Ap T w dst dst [] (W5.setCell ⟨g4, N, none⟩ (.int .u8 43)) (.slice (some ⟨g4, 0, none⟩) M c4) (A ++ 43 :: i0 :: It) :=
    ⟨hld.1, (hap.stp.drewN 1).trans (hmv.2.trans hld.2), OwnB.env hmv.1 hld.2 (OwnB.env hown4 hmv.2 (hap.env.drewN 1)), Or.inl rfl⟩
  have HAP := Lib.hid hap5
  clear hML hM hcell hap hown4 hmv hld hap5 hgd hW5
  go_still_tail 7, (by kernel_rfl)
  ((repeat (go_wp2_with (first | (at_builtin; refine wpList_appB rfl (.tmp 66) (.const (.string ⟨#[105, 41]⟩)) _ _ rfl byteTy HAP.out.own ((Fr_eval _ _ _ 66 (by decide)).trans (by simp [ov, *])) _ rfl [105, 41] (src_str Tryz.underlying9 _ [105, 41] rfl) (by simp only [List.length_append, List.length_cons, List.length_nil, List.length_replicate] at *; omega) ?_; intro v5 w5 ho5 hs5; have hap := HAP.out.step0 ho5 hs5; clear ho5 hs5)); first | (refine cdY ?_ ?_; focus (simp [ov, *]; done)) | (refine cdN ?_ ?_; focus (simp [ov, *]; done)))); go_wp2_with (first | (at_builtin; refine wpList_appB rfl (.tmp 66) (.const (.string ⟨#[105, 41]⟩)) _ _ rfl byteTy HAP.out.own ((Fr_eval _ _ _ 66 (by decide)).trans (by simp [ov, *])) _ rfl [105, 41] (src_str Tryz.underlying9 _ [105, 41] rfl) (by simp only [List.length_append, List.length_cons, List.length_nil, List.length_replicate] at *; omega) ?_; intro v5 w5 ho5 hs5; have hap := HAP.out.step0 ho5 hs5; clear ho5 hs5)))
  refine ret_F v5 rfl (by decide) (by simp [ov, *]) ⟨v5, rfl, ?_, hap.stp⟩
  have e : xs ++ cplxL R (i0 :: It) = A ++ 43 :: i0 :: It ++ [105, 41] := by rw [← HA.out]; simp [cplxL, sgnL, h43, h45]
  rw [e]
  exact hap.own
end Go.Proofs.YticlnihjhcepkaaGreatDoor
