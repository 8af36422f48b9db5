/-
  Walks: AppendUint and AppendInt at base 10, fmtB.
-/
import Derived.Test.YtffooimnioigdaaDoorApp
namespace Go.Proofs.YtffooimnioigdaaDoor
open Go.RowKit
set_option linter.unusedSimpArgs false
set_option linter.unusedVariables false

set_option maxRecDepth 100000 in
set_option maxHeartbeats 400000 in
theorem AppendUint_any (T u : Nat) (dst : Value) (xs : List UInt8) (w : World) (he : Env T w) (hown : OwnB T w dst xs) (hu : u < 18446744073709551616) (hx : xs.length ≤ 140737489300000) :
    Calls Tryd.prog 52 #[dst, .int .u64 u, .int .i64 10] w fun e w' => ∃ v', e = .returned v' ∧ OwnB T w' v' (xs ++ Lib.decDigits u) ∧ Stp w dst w' v' := by
  by_cases h100 : u < 100
  · have hS := Tryd.internal_strconv_small u h100
    have HS := Lib.hid hS
    have hl := decDigits_le u hu
    clear hS
    generalize Lib.decDigits u = ds at *
    go_enter Tryd.func52, Tryd.ntmps52
    go_wp2_with fail
    refine (HS.out _).mono ?_
    rintro e w1 ⟨rfl, rfl⟩
    go_wp2_with (at_builtin; refine wpList_appB rfl _ _ _ _ rfl byteTy hown rfl _ rfl ds (src_str Tryd.underlying9 _ _ rfl) (by omega) ?_; intro v1 w2 hown1 hstp1)
    go_ret
    exact ⟨v1, rfl, hown1, hstp1⟩
  · have hl := decDigits_le u hu
    have hn : nDig u = Lib.nDigits u := by unfold nDig; rw [if_neg (by omega)]
    have hN := numDigits_any T u
    have hlt := lt_pow_nDig u
    have hnl := nDig_le u hu
    have hdd : digs u (nDig u) = Lib.decDigits u := by rw [hn, digs_decDigits]
    have hdl := digs_length u (nDig u)
    generalize nDig u = n at *
    have HN := Lib.hid hN
    have Hdd := Lib.hid hdd
    have Hdl := Lib.hid hdl
    clear hN hdd hn hdl
    have hsl := fun W => slice24 w.heap.size n W (by omega)
    go_enter Tryd.func52, Tryd.ntmps52
    go_wp2_with fail
    refine (HN.out _ (he.alloc _) hu).mono ?_
    rintro e w1 ⟨rfl, hw1⟩
    subst hw1
    go_wp2_with fail
    refine (formatBase10_row w.heap.size n 24 u (List.replicate 24 0) _ (BRow.new w (List.replicate 24 0) _) (by simp; omega) hlt hu (by simp)).mono ?_
    rintro e w1 ⟨rfl, hr1, hg1⟩
    have hst := Stp.other hown (World.grownBy_alloc w _ none) (Nat.le_refl _) hg1
    have hown2 : OwnB T w1 dst xs := (hown.alloc _).grown hg1 hown.ne_new
    have hsrc := src_row (P := Tryd.prog) Tryd.underlying33 w.heap.size 0 n 24 _ hr1 (by simp [Hdl.out])
    rw [List.drop_zero, List.take_left' Hdl.out, Hdd.out] at hsrc
    clear hr1 hg1
    go_wp2_with (at_builtin; refine wpList_appB rfl _ _ _ _ rfl byteTy hown2 rfl _ rfl (Lib.decDigits u) hsrc (by omega) ?_; intro v1 w2 hown1 hstp1)
    go_ret
    exact ⟨v1, rfl, hown1, hst.trans hstp1⟩

set_option maxRecDepth 100000 in
set_option maxHeartbeats 400000 in
theorem AppendInt_any (T : Nat) (i : Int) (dst : Value) (xs : List UInt8) (w : World) (he : Env T w) (hown : OwnB T w dst xs) (h1 : -100000 ≤ i) (h2 : i ≤ 100000) (hx : xs.length ≤ 140737489200000) :
    Calls Tryd.prog 53 #[dst, .int .i64 i, .int .i64 10] w fun e w' => ∃ v', e = .returned v' ∧ OwnB T w' v' (xs ++ Lib.itoa i) ∧ Stp w dst w' v' := by
  by_cases hi : i < 0
  · obtain ⟨n, hn⟩ : ∃ n : Nat, i = -(n : Int) := ⟨i.natAbs, by omega⟩
    subst hn
    have hit : Lib.itoa (-(n : Int)) = [45] ++ Lib.decDigits n := by
      unfold Lib.itoa; rw [if_pos hi]; simp
    have hw1 : IntKind.u64.wrap (-(n : Int)) = 18446744073709551616 - n := by rw [IntKind.wrap_u64]; omega
    have hw2 : IntKind.u64.wrap (-(18446744073709551616 - (n : Int))) = n := by rw [IntKind.wrap_u64]; omega
    have Hit := Lib.hid hit
    clear hit
    go_enter Tryd.func53, Tryd.ntmps53
    go_wp2_with (at_builtin; refine wpList_appB rfl _ _ _ _ rfl byteTy (hown.alloc _) rfl _ rfl [45] (src_new Tryd.underlying33 [45] _) (by simp; omega) ?_; intro v1 w2 hown1 hstp1)
    refine (AppendUint_any T n v1 _ _ (OwnB.env (hown.alloc _) hstp1 (he.alloc _)) hown1 (by omega) (by simp; omega)).mono ?_
    rintro e w3 ⟨v2, rfl, hown2, hstp2⟩
    go_wp2_with fail
    go_ret
    refine ⟨v2, rfl, ?_, hstp1.alloc1.trans hstp2⟩
    rw [Hit.out, ← List.append_assoc]
    exact hown2
  · obtain ⟨n, hn⟩ : ∃ n : Nat, i = (n : Int) := ⟨i.toNat, by omega⟩
    subst hn
    have hit : Lib.itoa (n : Int) = Lib.decDigits n := by
      unfold Lib.itoa; rw [if_neg hi]; simp
    have hw1 : IntKind.u64.wrap (n : Int) = n := by rw [IntKind.wrap_u64]; omega
    have Hit := Lib.hid hit
    clear hit
    go_enter Tryd.func53, Tryd.ntmps53
    go_wp2_with fail
    refine (AppendUint_any T n dst _ _ he hown (by omega) (by omega)).mono ?_
    rintro e w3 ⟨v2, rfl, hown2, hstp2⟩
    go_wp2_with fail
    go_ret
    refine ⟨v2, rfl, ?_, hstp2⟩
    rw [Hit.out]
    exact hown2

/-- The format b. -/
def fmtBL (neg : Bool) (mant : Nat) (exp : Int) : List UInt8 :=
  (if neg then [45] else []) ++ (Lib.decDigits mant ++ ([112] ++ ((if 0 ≤ exp then [43] else []) ++ Lib.itoa exp)))

theorem itoa_le (i : Int) (h1 : -100000 ≤ i) (h2 : i ≤ 100000) : (Lib.itoa i).length ≤ 21 := by
  unfold Lib.itoa
  split
  · have := decDigits_le i.natAbs (by omega)
    simp; omega
  · have := decDigits_le i.toNat (by omega)
    omega

set_option maxRecDepth 100000 in
set_option maxHeartbeats 1000000 in
theorem fmtB_any (T mant : Nat) (neg : Bool) (exp : Int) (dst : Value) (xs : List UInt8) (w : World) (he : Env T w) (hown : OwnB T w dst xs) (hm : mant < 18446744073709551616) (h1 : -100000 ≤ exp) (h2 : exp ≤ 100000) (hx : xs.length ≤ 140737489100000) :
    Calls Tryd.prog 39 #[dst, .bool neg, .int .u64 mant, .int .i64 exp] w fun e w' => ∃ v', e = .returned v' ∧ OwnB T w' v' (xs ++ fmtBL neg mant exp) ∧ Stp w dst w' v' := by
  have hdl := decDigits_le mant hm
  have hT := hown.lt
  cases neg
  case' true =>
    go_enter Tryd.func39, Tryd.ntmps39
    go_wp2_with (at_builtin; refine wpList_appB rfl _ _ _ _ rfl byteTy (hown.alloc _) rfl _ rfl [45] (src_new Tryd.underlying33 [45] _) (by simp; omega) ?_; intro v1 w1 ho hs)
    have he1 := OwnB.env (hown.alloc _) hs (he.alloc _)
    replace hs := hs.alloc1
    have hl : (xs ++ [45]).length ≤ 140737489100001 := by simp; omega
  case' false =>
    go_enter Tryd.func39, Tryd.ntmps39
    go_wp2_with fail
    obtain ⟨v1, w1, h⟩ : ∃ v1 w1, v1 = dst ∧ w1 = w := ⟨_, _, rfl, rfl⟩
    obtain ⟨rfl, rfl⟩ := h
    have ho : OwnB T w1 v1 (xs ++ []) := by rw [List.append_nil]; exact hown
    have hs := Stp.refl w1 v1
    have he1 := he
    have hl : (xs ++ []).length ≤ 140737489100001 := by simp; omega
  all_goals
    clear hown he
    refine (AppendUint_any T mant v1 _ _ he1 ho hm (by omega)).mono ?_
    rintro e w2 ⟨v2, rfl, ho2, hs2⟩
    have he2 := OwnB.env ho hs2 he1
    have hs := hs.trans hs2
    have hT2 := ho2.lt
    clear hs2 ho he1
    have he := he2
    have ho := ho2
    clear he2 ho2
    by_cases he0 : 0 ≤ exp
    case' pos =>
      go_wp2_with (first | (at_builtin; refine wpList_appB rfl _ _ _ _ rfl byteTy (ho.alloc _) rfl _ rfl [112] (src_new Tryd.underlying33 [112] _) (by simp only [List.length_append, List.length_cons, List.length_nil] at *; omega) ?_; intro v w ho1 hs1; replace he := OwnB.env (ho.alloc _) hs1 (he.alloc _); replace hs := Stp.trans hs (Stp.alloc1 hs1); replace ho := ho1; clear ho1 hs1) | (at_builtin; refine wpList_appB rfl _ _ _ _ rfl byteTy (ho.alloc _) rfl _ rfl [43] (src_new Tryd.underlying33 [43] _) (by simp only [List.length_append, List.length_cons, List.length_nil] at *; omega) ?_; intro v w ho1 hs1; replace he := OwnB.env (ho.alloc _) hs1 (he.alloc _); replace hs := Stp.trans hs (Stp.alloc1 hs1); replace ho := ho1; clear ho1 hs1))
    case' neg =>
      go_wp2_with (first | (at_builtin; refine wpList_appB rfl _ _ _ _ rfl byteTy (ho.alloc _) rfl _ rfl [112] (src_new Tryd.underlying33 [112] _) (by simp only [List.length_append, List.length_cons, List.length_nil] at *; omega) ?_; intro v w ho1 hs1; replace he := OwnB.env (ho.alloc _) hs1 (he.alloc _); replace hs := Stp.trans hs (Stp.alloc1 hs1); replace ho := ho1; clear ho1 hs1))
    all_goals
      refine (AppendInt_any T exp _ _ _ he ho h1 h2 (by simp only [List.length_append, List.length_cons, List.length_nil] at *; omega)).mono ?_
      rintro e w5 ⟨v5, rfl, ho5, hs5⟩
      replace hs := Stp.trans hs hs5
      go_wp2_with fail
      go_ret
      refine ⟨v5, rfl, ?_, hs⟩
      exact cast (congrArg (OwnB T w5 v5) (by simp [fmtBL, he0])) ho5
end Go.Proofs.YtffooimnioigdaaDoor
