/-
  Walk of laws.FnHexExact.
-/
import Derived.Test.YthkcfpmlgoomfaaDoorCFv
import Derived.Test.YthkcfpmlgoomfaaDoorCX32
import Derived.Test.YthkcfpmlgoomfaaDoorCVh0
namespace Go.Proofs.YthkcfpmlgoomfaaDoor
open Go.ChangeShapes Go.WideShapes Go.ChangeAt Go.RowKit
set_option linter.unusedSimpArgs false
set_option linter.unusedVariables false
attribute [local go_sem] undef

/-- A rational number in a block. -/
def RatS (w : World) (A : Nat) (g : Bool) (an : Option Addr) (Ln cn : Nat) (ad : Option Addr) (Ld cd : Nat) (n d : Nat) : Prop :=
  Row w A [.bool g, .slice an Ln cn, .slice ad Ld cd] ∧ NatV w (.slice an Ln cn) n ∧ NatV w (.slice ad Ld cd) d
theorem RatS.grown {w w' : World} {A : Nat} {g : Bool} {an : Option Addr} {Ln cn : Nat} {ad : Option Addr} {Ld cd : Nat} {n d : Nat} (h : RatS w A g an Ln cn ad Ld cd n d) (hg : w.grownBy w' none) : RatS w' A g an Ln cn ad Ld cd n d :=
  ⟨h.1.grown hg (by simp), h.2.1.grown hg, h.2.2.grown hg⟩
theorem RatS.new {w : World} {g : Bool} {an : Option Addr} {Ln cn : Nat} {ad : Option Addr} {Ld cd : Nat} {n d : Nat} (h1 : NatV w (.slice an Ln cn) n) (h2 : NatV w (.slice ad Ld cd) d) (ty : TypeId) :
    RatS (w.alloc (.cells #[.bool g, .slice an Ln cn, .slice ad Ld cd] ty)) w.heap.size g an Ln cn ad Ld cd n d :=
  ⟨Row.new w [.bool g, .slice an Ln cn, .slice ad Ld cd] ty, h1.grown (World.grownBy_alloc w _ none), h2.grown (World.grownBy_alloc w _ none)⟩
theorem RatS.cells {w : World} {A : Nat} {g : Bool} {an : Option Addr} {Ln cn : Nat} {ad : Option Addr} {Ld cd : Nat} {n d : Nat} (h : RatS w A g an Ln cn ad Ld cd n d) :
    w.cell? ⟨A, 0, none⟩ = some (.bool g) ∧ w.cell? ⟨A, 1, none⟩ = some (.slice an Ln cn) ∧ w.cell? ⟨A, 2, none⟩ = some (.slice ad Ld cd) := ⟨h.1.cell 0, h.1.cell 1, h.1.cell 2⟩

theorem x_exact64 (n : Nat) (hn : n < 18446744073709551616) (hfin : n % 9223372036854775808 < 9218868437227405312) : ∃ a d, ratL (ftoa64L n 120 (-1)) = some (decide (9223372036854775808 ≤ n), a, d) ∧ a * 2 ^ (-e64 n).toNat = m64 n * 2 ^ (e64 n).toNat * d ∧ (a = 0 ↔ m64 n = 0) ∧ (natL a).length ≤ 40000 ∧ (natL d).length ≤ 40000 := by
  rw [ftoa64L_x n 120 (-1) hn hfin (Or.inl rfl) (by omega)]
  exact ratL_x _ (m64 n) (e64 n) (m64_lt n) (e64_bd n hfin).1 (e64_bd n hfin).2
theorem x_exact32 (n : Nat) (hn : n < 4294967296) (hfin : n % 2147483648 < 2139095040) : ∃ a d, ratL (ftoa32L n 120 (-1)) = some (decide (2147483648 ≤ n), a, d) ∧ a * 2 ^ (-e32 n).toNat = m32 n * 2 ^ (e32 n).toNat * d ∧ (a = 0 ↔ m32 n = 0) ∧ (natL a).length ≤ 40000 ∧ (natL d).length ≤ 40000 := by
  rw [ftoa32L_x n 120 (-1) hn hfin (Or.inl rfl) (by omega)]
  have h1 := m32_lt n
  have h2 := e32_bd n hfin
  exact ratL_x _ (m32 n) (e32 n) (Nat.lt_of_lt_of_le h1 (by decide)) (by omega) (by omega)
theorem val_len (m : Nat) (e : Int) (hm : m < 2 ^ 53) (h1 : -1074 ≤ e) (h2 : e ≤ 971) : (natL (m * 2 ^ e.toNat)).length ≤ 40000 ∧ (natL (2 ^ (-e).toNat)).length ≤ 40000 := by
  constructor
  · have h : m * 2 ^ e.toNat < 1073741824 ^ (53 + e.toNat) := by
      refine Nat.lt_of_lt_of_le (Nat.mul_lt_mul_of_pos_right hm (Nat.two_pow_pos _)) ?_
      rw [← Nat.pow_add]
      exact Nat.pow_le_pow_left (by decide) _
    exact Nat.le_trans (natL_len_le h) (by omega)
  · have h : 2 ^ (-e).toNat < 1073741824 ^ ((-e).toNat + 1) := Nat.lt_of_lt_of_le (Nat.pow_lt_pow_right (by decide) (Nat.lt_succ_self _)) (Nat.pow_le_pow_left (by decide) _)
    exact Nat.le_trans (natL_len_le h) (by omega)
theorem hexS_len (m : Nat) (e : Int) (hm : m < 2 ^ 53) (he1 : -2000 ≤ e) (he2 : e ≤ 2000) : (hexadL false m e (-1)).length ≤ 200 := by
  have hpt : ∀ l : List UInt8, (ptL l).length ≤ l.length + 1 := fun l => by unfold ptL; split <;> simp; omega
  have hex : ∀ (lt : UInt8) (x : Int), -9999 ≤ x → x ≤ 9999 → (expT lt x false).length ≤ 100 := fun lt x h1 h2 => by
    rw [expT_xExp lt x h1 h2, List.length_cons]
    unfold xExp
    rw [List.length_cons]
    split
    · simp
    · split <;> simp
  unfold hexadL
  rw [List.length_append]
  by_cases h0 : m = 0
  · rw [if_pos h0, List.length_append]
    have h1 := hpt (48 :: List.replicate (-1 : Int).toNat 48)
    have h2 := hex (if false then 80 else 112) 0 (by omega) (by omega)
    have h3 : (48 :: List.replicate (-1 : Int).toNat (48 : UInt8)).length = 1 := rfl
    rw [h3] at h1
    simp only [List.length_cons, List.length_nil] at *
    omega
  · rw [if_neg h0, List.length_append]
    have hl : m.log2 < 53 := (Nat.log2_lt h0).2 hm
    have hc : hxCnt m (-1) ≤ 14 := by unfold hxCnt; rw [if_pos (by omega)]; omega
    have h1 := hpt (hxT false (hxF m (hxCnt m (-1))) (hxCnt m (-1) + 1))
    rw [hxT_len] at h1
    have h3 : hxE m (hxCnt m (-1)) ≤ 1 := by unfold hxE; split <;> omega
    have h2 := hex (if false then 80 else 112) (e + m.log2 + hxE m (hxCnt m (-1))) (by omega) (by omega)
    simp only [List.length_cons, List.length_nil] at *
    omega
theorem x_len64 (n : Nat) (hn : n < 18446744073709551616) (hfin : n % 9223372036854775808 < 9218868437227405312) : (ftoa64L n 120 (-1)).length ≤ 2500 := by
  rw [ftoa64L_x n 120 (-1) hn hfin (Or.inl rfl) (by omega), List.length_append]
  have h1 := eSign_len (decide (9223372036854775808 ≤ n))
  have h2 := hexS_len (m64 n) (e64 n) (m64_lt n) (by have := e64_bd n hfin; omega) (by have := e64_bd n hfin; omega)
  show _ + (hexadL false _ _ _).length ≤ _
  omega
theorem x_len32 (n : Nat) (hn : n < 4294967296) (hfin : n % 2147483648 < 2139095040) : (ftoa32L n 120 (-1)).length ≤ 2500 := by
  rw [ftoa32L_x n 120 (-1) hn hfin (Or.inl rfl) (by omega), List.length_append]
  have h1 := eSign_len (decide (2147483648 ≤ n))
  have h2 := hexS_len (m32 n) (e32 n) (Nat.lt_of_lt_of_le (m32_lt n) (by decide)) (by have := e32_bd n hfin; omega) (by have := e32_bd n hfin; omega)
  show _ + (hexadL false _ _ _).length ≤ _
  omega

set_option maxRecDepth 100000 in
set_option maxHeartbeats 8000000 in
theorem hexExact_any (T n m : Nat) (w : World) (he : Env T w) (hn : n < 18446744073709551616) (hm : m < 4294967296) :
    Calls Tryd.prog 6 #[.int .u64 (n : Int), .int .u32 (m : Int)] w fun e w' => e = .returned (.bool true) ∧ w.grownBy w' none := by
  have HK1 := Lib.hid (fun W => kind64_any n W hn)
  have HK2 := Lib.hid (fun W => kind32_any m W hm)
  have HE := Lib.hid he
  clear he
  refine calls_F Tryd.func6 rfl (by rw [Tryd.ntmps6]; simp) ?_
  intro σ hσ
  rw [Tryd.ntmps6]
  have s0 : σ 0 = .int .u64 (n : Int) := hσ 0 (by simp)
  have s1 : σ 1 = .int .u32 (m : Int) := hσ 1 (by simp)
  clear hσ
  by_cases hf1 : n % 9223372036854775808 < 9218868437227405312
  case neg =>
    have hk := kindB_ne hf1
    generalize kindB 9218868437227405312 9223372036854775808 n = k1 at *
    ((repeat (go_wp2_with fail; first | (refine cond_yes ?hc (by decide) ?_; (case hc => (simp [over_cons, over_nil, *]; done))) | (refine cond_no ?hc (by decide) ?_; (case hc => (simp [over_cons, over_nil, *]; done))))); go_wp2_with fail)
    refine (HK1.out _).mono ?_
    rintro e w7 ⟨rfl, rfl⟩
    ((repeat (go_wp2_with fail; first | (refine cond_yes ?hc (by decide) ?_; (case hc => (simp [over_cons, over_nil, *]; done))) | (refine cond_no ?hc (by decide) ?_; (case hc => (simp [over_cons, over_nil, *]; done))))); go_wp2_with fail)
    all_goals (try ((repeat (go_wp2_with fail; first | (refine cond_yes ?hc (by decide) ?_; (case hc => (simp [over_cons, over_nil, *]; done))) | (refine cond_no ?hc (by decide) ?_; (case hc => (simp [over_cons, over_nil, *]; done))))); go_wp2_with fail))
    all_goals exact ret_F (.bool true) rfl (by decide) (by simp [over_cons, over_nil, *]) ⟨rfl, grown_refl w none⟩
  have hk1 : kindB 9218868437227405312 9223372036854775808 n = 0 := kindB_0 rfl hf1
  rw [hk1] at HK1
  by_cases hf2 : m % 2147483648 < 2139095040
  case neg =>
    have hk := kindB_ne hf2
    generalize kindB 2139095040 2147483648 m = k2 at *
    ((repeat (go_wp2_with fail; first | (refine cond_yes ?hc (by decide) ?_; (case hc => (simp [over_cons, over_nil, *]; done))) | (refine cond_no ?hc (by decide) ?_; (case hc => (simp [over_cons, over_nil, *]; done))))); go_wp2_with fail)
    refine (HK1.out _).mono ?_
    rintro e w7 ⟨rfl, rfl⟩
    ((repeat (go_wp2_with fail; first | (refine cond_yes ?hc (by decide) ?_; (case hc => (simp [over_cons, over_nil, *]; done))) | (refine cond_no ?hc (by decide) ?_; (case hc => (simp [over_cons, over_nil, *]; done))))); go_wp2_with fail)
    refine (HK2.out _).mono ?_
    rintro e w7 ⟨rfl, rfl⟩
    ((repeat (go_wp2_with fail; first | (refine cond_yes ?hc (by decide) ?_; (case hc => (simp [over_cons, over_nil, *]; done))) | (refine cond_no ?hc (by decide) ?_; (case hc => (simp [over_cons, over_nil, *]; done))))); go_wp2_with fail)
    all_goals (try ((repeat (go_wp2_with fail; first | (refine cond_yes ?hc (by decide) ?_; (case hc => (simp [over_cons, over_nil, *]; done))) | (refine cond_no ?hc (by decide) ?_; (case hc => (simp [over_cons, over_nil, *]; done))))); go_wp2_with fail))
    all_goals exact ret_F (.bool true) rfl (by decide) (by simp [over_cons, over_nil, *]) ⟨rfl, grown_refl w none⟩
  have hk2 : kindB 2139095040 2147483648 m = 0 := kindB_0 rfl hf2
  rw [hk2] at HK2
  obtain ⟨a1, d1, r1, q1, z1, l1, l2⟩ := x_exact64 n hn hf1
  obtain ⟨a3, d3, r3, q3, z3, l3, l4⟩ := x_exact32 m hm hf2
  have v1 := val_len (m64 n) (e64 n) (m64_lt n) (e64_bd n hf1).1 (e64_bd n hf1).2
  have v3 := val_len (m32 m) (e32 m) (Nat.lt_of_lt_of_le (m32_lt m) (by decide)) (by have := e32_bd m hf2; omega) (by have := e32_bd m hf2; omega)
  have pw : ∀ k : Nat, (2 : Nat) ^ k ≠ 0 := fun k => Nat.ne_of_gt (Nat.two_pow_pos k)
  have HC1 := Lib.hid (fun u1 u2 u3 u4 W k1 k2 k3 k4 => cmpRat_eq (decide (9223372036854775808 ≤ n)) (decide (9223372036854775808 ≤ n)) u1 u2 u3 u4 a1 d1 (m64 n * 2 ^ (e64 n).toNat) (2 ^ (-e64 n).toNat) W k1 k2 k3 k4 l1 l2 v1.1 v1.2 (by rw [z1]; constructor; (intro h; rw [h, Nat.zero_mul]); (intro h; rcases Nat.mul_eq_zero.1 h with h | h; exact h; exact absurd h (pw _))) (fun _ => rfl) q1)
  have HC3 := Lib.hid (fun u1 u2 u3 u4 W k1 k2 k3 k4 => cmpRat_eq (decide (2147483648 ≤ m)) (decide (2147483648 ≤ m)) u1 u2 u3 u4 a3 d3 (m32 m * 2 ^ (e32 m).toNat) (2 ^ (-e32 m).toNat) W k1 k2 k3 k4 l3 l4 v3.1 v3.2 (by rw [z3]; constructor; (intro h; rw [h, Nat.zero_mul]); (intro h; rcases Nat.mul_eq_zero.1 h with h | h; exact h; exact absurd h (pw _))) (fun _ => rfl) q3)
  have hR1 := fun W => rationalOf_any (ftoa64L n 120 (-1)) W (x_len64 n hn hf1)
  have hR3 := fun W => rationalOf_any (ftoa32L m 120 (-1)) W (x_len32 m hm hf2)
  unfold RatPost at hR1 hR3
  rw [r1] at hR1
  rw [r3] at hR3
  dsimp only at hR1 hR3
  have HR1 := Lib.hid hR1
  have HR3 := Lib.hid hR3
  have HV2 := Lib.hid (fun W => valueOf64_any n (m64 n) (e64 n) W hn hk1 (m64_is n) (e64_is n))
  have HV4 := Lib.hid (fun W => valueOf32_any m (m32 m) (e32 m) W hm hk2 (m32_is m) (e32_is m))
  obtain ⟨r, hr1, hr2, hr3⟩ := Wd.widen_back m hm hf2
  have HF1 := Lib.hid (fun T W he => Format64_any T n (-1) 120 W he hn (by omega) (by omega) (by omega) (by omega))
  have HF3 := Lib.hid (fun T W he => Format32_any T m r (-1) 120 W he hm hr2 hr3 (by omega) (by omega) (by omega) (by omega))
  generalize ftoa64L n 120 (-1) = t1 at *
  generalize ftoa32L m 120 (-1) = t3 at *
  generalize decide (9223372036854775808 ≤ n) = g1 at *
  generalize decide (2147483648 ≤ m) = g3 at *
  generalize m64 n * 2 ^ (e64 n).toNat = a2 at *
  generalize 2 ^ (-e64 n).toNat = d2 at *
  generalize m32 m * 2 ^ (e32 m).toNat = a4 at *
  generalize 2 ^ (-e32 m).toNat = d4 at *
  clear hr1 hr2 hr3 hR1 hR3 r1 q1 z1 l1 l2 r3 q3 z3 l3 l4 v1 v3 pw hk1 hk2
  ((repeat (go_wp2_with fail; first | (refine cond_yes ?hc (by decide) ?_; (case hc => (simp [over_cons, over_nil, *]; done))) | (refine cond_no ?hc (by decide) ?_; (case hc => (simp [over_cons, over_nil, *]; done))))); go_wp2_with fail)
  refine (HK1.out _).mono ?_
  rintro e w7 ⟨rfl, rfl⟩
  ((repeat (go_wp2_with fail; first | (refine cond_yes ?hc (by decide) ?_; (case hc => (simp [over_cons, over_nil, *]; done))) | (refine cond_no ?hc (by decide) ?_; (case hc => (simp [over_cons, over_nil, *]; done))))); go_wp2_with fail)
  refine (HK2.out _).mono ?_
  rintro e w7 ⟨rfl, rfl⟩
  ((repeat (go_wp2_with fail; first | (refine cond_yes ?hc (by decide) ?_; (case hc => (simp [over_cons, over_nil, *]; done))) | (refine cond_no ?hc (by decide) ?_; (case hc => (simp [over_cons, over_nil, *]; done))))); go_wp2_with fail)
  refine (HF1.out T _ HE.out).mono ?_
  rintro e w1 ⟨rfl, hg1⟩
  have HW1 := Lib.hid hg1
  clear hg1 HF1
  go_wp2_with fail
  refine (HR1.out _).mono ?_
  rintro e w2 ⟨hg2, vr, rfl, vn, vd, rfl, hvn, hvd⟩
  obtain ⟨an1, cn1, rfl⟩ := hvn.len
  obtain ⟨ad1, cd1, rfl⟩ := hvd.len
  generalize (natL a1).length = Ln1 at *
  generalize (natL d1).length = Ld1 at *
  obtain ⟨w3, hw3⟩ : ∃ w', World.alloc w2 (.cells #[.bool g1, .slice an1 Ln1 cn1, .slice ad1 Ld1 cd1] 33) = w' := ⟨_, rfl⟩
  obtain ⟨A1, hA1⟩ : ∃ A, (World.heap w2).size = A := ⟨_, rfl⟩
  have hS := RatS.new (w := w2) (g := g1) hvn hvd 33
  have hal := World.grownBy_alloc w2 (.cells #[.bool g1, .slice an1 Ln1 cn1, .slice ad1 Ld1 cd1] 33) none
  rw [hw3] at hS hal
  rw [hA1] at hS
  have hstep := grown_none_tr hg2 hal
  have Hw3 := Lib.hid hw3
  have HA1 := Lib.hid hA1
  have HW3 := Lib.hid (grown_none_tr HW1.out hstep)
  have HS1 := Lib.hid hS
  clear hS hal hstep hg2 hw3 hA1 hvn hvd
  go_upto_region 4 with fail
  rw [Hw3.out, HA1.out]
  clear Hw3 HA1
  go_wp2_with fail
  refine (HV2.out _).mono ?_
  rintro e w4 ⟨vn, vd, rfl, hvn, hvd, hg4⟩
  obtain ⟨an2, cn2, rfl⟩ := hvn.len
  obtain ⟨ad2, cd2, rfl⟩ := hvd.len
  generalize (natL a2).length = Ln2 at *
  generalize (natL d2).length = Ld2 at *
  obtain ⟨w5, hw5⟩ : ∃ w', World.alloc w4 (.cells #[.bool g1, .slice an2 Ln2 cn2, .slice ad2 Ld2 cd2] 33) = w' := ⟨_, rfl⟩
  obtain ⟨A2, hA2⟩ : ∃ A, (World.heap w4).size = A := ⟨_, rfl⟩
  have hS := RatS.new (w := w4) (g := g1) hvn hvd 33
  have hal := World.grownBy_alloc w4 (.cells #[.bool g1, .slice an2 Ln2 cn2, .slice ad2 Ld2 cd2] 33) none
  rw [hw5] at hS hal
  rw [hA2] at hS
  have hstep := grown_none_tr hg4 hal
  have Hw5 := Lib.hid hw5
  have HA2 := Lib.hid hA2
  have HW5 := Lib.hid (grown_none_tr HW3.out hstep)
  replace HS1 := Lib.hid (HS1.out.grown hstep)
  have HS2 := Lib.hid hS
  clear hS hal hstep hg4 hw5 hA2 hvn hvd
  go_upto_region 5 with fail
  rw [Hw5.out, HA2.out]
  clear Hw5 HA2
  go_wp2_with fail
  refine (HF3.out T _ (HE.out.grown HW5.out (by simp))).mono ?_
  rintro e w6 ⟨rfl, hg6⟩
  have HW6 := Lib.hid (grown_none_tr HW5.out hg6)
  replace HS1 := Lib.hid (HS1.out.grown hg6)
  replace HS2 := Lib.hid (HS2.out.grown hg6)
  clear hg6 HF3
  go_wp2_with fail
  refine (HR3.out _).mono ?_
  rintro e w7 ⟨hg7, vr, rfl, vn, vd, rfl, hvn, hvd⟩
  obtain ⟨an3, cn3, rfl⟩ := hvn.len
  obtain ⟨ad3, cd3, rfl⟩ := hvd.len
  generalize (natL a3).length = Ln3 at *
  generalize (natL d3).length = Ld3 at *
  obtain ⟨w8, hw8⟩ : ∃ w', World.alloc w7 (.cells #[.bool g3, .slice an3 Ln3 cn3, .slice ad3 Ld3 cd3] 33) = w' := ⟨_, rfl⟩
  obtain ⟨A3, hA3⟩ : ∃ A, (World.heap w7).size = A := ⟨_, rfl⟩
  have hS := RatS.new (w := w7) (g := g3) hvn hvd 33
  have hal := World.grownBy_alloc w7 (.cells #[.bool g3, .slice an3 Ln3 cn3, .slice ad3 Ld3 cd3] 33) none
  rw [hw8] at hS hal
  rw [hA3] at hS
  have hstep := grown_none_tr hg7 hal
  have Hw8 := Lib.hid hw8
  have HA3 := Lib.hid hA3
  have HW8 := Lib.hid (grown_none_tr HW6.out hstep)
  replace HS1 := Lib.hid (HS1.out.grown hstep)
  replace HS2 := Lib.hid (HS2.out.grown hstep)
  have HS3 := Lib.hid hS
  clear hS hal hstep hg7 hw8 hA3 hvn hvd
  go_upto_region 6 with fail
  rw [Hw8.out, HA3.out]
  clear Hw8 HA3
  go_wp2_with fail
  refine (HV4.out _).mono ?_
  rintro e w9 ⟨vn, vd, rfl, hvn, hvd, hg9⟩
  obtain ⟨an4, cn4, rfl⟩ := hvn.len
  obtain ⟨ad4, cd4, rfl⟩ := hvd.len
  generalize (natL a4).length = Ln4 at *
  generalize (natL d4).length = Ld4 at *
  obtain ⟨w10, hw10⟩ : ∃ w', World.alloc w9 (.cells #[.bool g3, .slice an4 Ln4 cn4, .slice ad4 Ld4 cd4] 33) = w' := ⟨_, rfl⟩
  obtain ⟨A4, hA4⟩ : ∃ A, (World.heap w9).size = A := ⟨_, rfl⟩
  have hS := RatS.new (w := w9) (g := g3) hvn hvd 33
  have hal := World.grownBy_alloc w9 (.cells #[.bool g3, .slice an4 Ln4 cn4, .slice ad4 Ld4 cd4] 33) none
  rw [hw10] at hS hal
  rw [hA4] at hS
  have hstep := grown_none_tr hg9 hal
  have Hw10 := Lib.hid hw10
  have HA4 := Lib.hid hA4
  have HW10 := Lib.hid (grown_none_tr HW8.out hstep)
  replace HS1 := Lib.hid (HS1.out.grown hstep)
  replace HS2 := Lib.hid (HS2.out.grown hstep)
  replace HS3 := Lib.hid (HS3.out.grown hstep)
  have HS4 := Lib.hid hS
  clear hS hal hstep hg9 hw10 hA4 hvn hvd
  go_upto_region 7 with fail
  rw [Hw10.out, HA4.out]
  clear Hw10 HA4
  obtain ⟨k10, k11, k12⟩ := HS1.out.cells
  obtain ⟨k20, k21, k22⟩ := HS2.out.cells
  clear HR1 HR3 HV2 HV4 HK1 HK2 HE
  ((repeat (go_wp2_with fail; first | (refine cond_yes ?hc (by decide) ?_; (case hc => (simp [over_cons, over_nil, *]; done))) | (refine cond_no ?hc (by decide) ?_; (case hc => (simp [over_cons, over_nil, *]; done))))); go_wp2_with fail)
  refine (HC1.out _ _ _ _ _ HS1.out.2.1 HS1.out.2.2 HS2.out.2.1 HS2.out.2.2).mono ?_
  rintro e w11 ⟨rfl, hg11⟩
  replace HS3 := Lib.hid (HS3.out.grown hg11)
  replace HS4 := Lib.hid (HS4.out.grown hg11)
  have HW11 := Lib.hid (grown_none_tr HW10.out hg11)
  clear hg11 k10 k11 k12 k20 k21 k22
  obtain ⟨k30, k31, k32⟩ := HS3.out.cells
  obtain ⟨k40, k41, k42⟩ := HS4.out.cells
  ((repeat (go_wp2_with fail; first | (refine cond_yes ?hc (by decide) ?_; (case hc => (simp [over_cons, over_nil, *]; done))) | (refine cond_no ?hc (by decide) ?_; (case hc => (simp [over_cons, over_nil, *]; done))))); go_wp2_with fail)
  refine (HC3.out _ _ _ _ _ HS3.out.2.1 HS3.out.2.2 HS4.out.2.1 HS4.out.2.2).mono ?_
  rintro e w12 ⟨rfl, hg12⟩
  have HW12 := Lib.hid (grown_none_tr HW11.out hg12)
  clear hg12 k30 k31 k32 k40 k41 k42
  ((repeat (go_wp2_with fail; first | (refine cond_yes ?hc (by decide) ?_; (case hc => (simp [over_cons, over_nil, *]; done))) | (refine cond_no ?hc (by decide) ?_; (case hc => (simp [over_cons, over_nil, *]; done))))); go_wp2_with fail)
  exact ret_F (.bool true) rfl (by decide) (by simp [over_cons, over_nil, *]) ⟨rfl, HW12.out⟩
end Go.Proofs.YthkcfpmlgoomfaaDoor
