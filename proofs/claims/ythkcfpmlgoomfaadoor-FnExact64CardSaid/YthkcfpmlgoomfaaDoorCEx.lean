/-
  Walk of laws.FnExact64.
-/
import Derived.Test.YthkcfpmlgoomfaaDoorCHe
import Derived.Test.YthkcfpmlgoomfaaDoorCVx0
import Derived.Test.YthkcfpmlgoomfaaDoorGg
namespace Go.Proofs.YthkcfpmlgoomfaaDoor
open Go.ChangeShapes Go.WideShapes Go.ChangeAt Go.RowKit
set_option linter.unusedSimpArgs false
set_option linter.unusedVariables false
attribute [local go_sem] undef

set_option maxRecDepth 100000 in
set_option maxHeartbeats 8000000 in
theorem exact64_any (T n : Nat) (more : Int) (w : World) (he : Env T w) (hn : n < 18446744073709551616) (hp1 : -9223372036854775808 ≤ more) (hp2 : more ≤ 9223372036854775807) :
    Calls Tryd.prog 5 #[.int .u64 (n : Int), .int .i64 more] w fun e w' => e = .returned (.bool true) ∧ w.grownBy w' none := by
  have HK1 := Lib.hid (fun W => kind64_any n W hn)
  have HE := Lib.hid he
  clear he
  refine calls_F Tryd.func5 rfl (by rw [Tryd.ntmps5]; simp) ?_
  intro σ hσ
  rw [Tryd.ntmps5]
  have s0 : σ 0 = .int .u64 (n : Int) := hσ 0 (by simp)
  have s1 : σ 1 = .int .i64 more := hσ 1 (by simp)
  clear hσ
  by_cases hf1 : n % 9223372036854775808 < 9218868437227405312
  case neg =>
    have hk := kindB_ne hf1
    generalize kindB 9218868437227405312 9223372036854775808 n = k1 at *
    ((repeat (go_wp2_with fail; first | (refine cond_yes ?hc (by decide) ?_; (case hc => (simp [over_cons, over_nil, *]; done))) | (refine cond_no ?hc (by decide) ?_; (case hc => (simp [over_cons, over_nil, *]; done))))); go_wp2_with fail)
    refine (HK1.out _).mono ?_
    rintro e w7 ⟨rfl, rfl⟩
    ((repeat (go_wp2_with fail; first | (refine cond_yes ?hc (by decide) ?_; (case hc => (simp [over_cons, over_nil, *]; done))) | (refine cond_no ?hc (by decide) ?_; (case hc => (simp [over_cons, over_nil, *]; done))))); go_wp2_with fail)
    all_goals (try ((repeat (go_wp2_with fail; first | (refine cond_yes ?hc (by decide) ?_; (case hc => (simp [over_cons, over_nil, *]; done))) | (refine cond_no ?hc (by decide) ?_; (case hc => (simp [over_cons, over_nil, *]; done))))); go_wp2_with fail))
    all_goals exact ret_F (.bool true) rfl (by decide) (by simp [over_cons, over_nil, *]) ⟨rfl, grown_refl w none⟩
  have hk1 : kindB 9218868437227405312 9223372036854775808 n = 0 := kindB_0 rfl hf1
  rw [hk1] at HK1
  by_cases hmo : 0 ≤ more ∧ more ≤ 1000
  case neg =>
    by_cases hml : more < 0
    · ((repeat (go_wp2_with fail; first | (refine cond_yes ?hc (by decide) ?_; (case hc => (simp [over_cons, over_nil, *]; done))) | (refine cond_no ?hc (by decide) ?_; (case hc => (simp [over_cons, over_nil, *]; done))))); go_wp2_with fail)
      refine (HK1.out _).mono ?_
      rintro e w7 ⟨rfl, rfl⟩
      ((repeat (go_wp2_with fail; first | (refine cond_yes ?hc (by decide) ?_; (case hc => (simp [over_cons, over_nil, *]; done))) | (refine cond_no ?hc (by decide) ?_; (case hc => (simp [over_cons, over_nil, *]; done))))); go_wp2_with fail)
      all_goals (try ((repeat (go_wp2_with fail; first | (refine cond_yes ?hc (by decide) ?_; (case hc => (simp [over_cons, over_nil, *]; done))) | (refine cond_no ?hc (by decide) ?_; (case hc => (simp [over_cons, over_nil, *]; done))))); go_wp2_with fail))
      all_goals exact ret_F (.bool true) rfl (by decide) (by simp [over_cons, over_nil, *]) ⟨rfl, grown_refl w none⟩
    · have hml' : decide (more < 0) = false := by simpa using hml
      have hmu : 1000 < more := by omega
      ((repeat (go_wp2_with fail; first | (refine cond_yes ?hc (by decide) ?_; (case hc => (simp [over_cons, over_nil, *]; done))) | (refine cond_no ?hc (by decide) ?_; (case hc => (simp [over_cons, over_nil, *]; done))))); go_wp2_with fail)
      refine (HK1.out _).mono ?_
      rintro e w7 ⟨rfl, rfl⟩
      ((repeat (go_wp2_with fail; first | (refine cond_yes ?hc (by decide) ?_; (case hc => (simp [over_cons, over_nil, *]; done))) | (refine cond_no ?hc (by decide) ?_; (case hc => (simp [over_cons, over_nil, *]; done))))); go_wp2_with fail)
      all_goals (try ((repeat (go_wp2_with fail; first | (refine cond_yes ?hc (by decide) ?_; (case hc => (simp [over_cons, over_nil, *]; done))) | (refine cond_no ?hc (by decide) ?_; (case hc => (simp [over_cons, over_nil, *]; done))))); go_wp2_with fail))
      all_goals exact ret_F (.bool true) rfl (by decide) (by simp [over_cons, over_nil, *]) ⟨rfl, grown_refl w none⟩
  obtain ⟨k, rfl⟩ : ∃ k : Nat, more = (k : Int) := ⟨more.toNat, by omega⟩
  have hk1000 : k ≤ 1000 := by omega
  have hml' : decide ((k : Int) < 0) = false := by simp
  have hmu' : decide (1000 < (k : Int)) = false := by simp; omega
  have hmu'' : decide (1000 < k) = false := by simp; omega
  have hx := e64_bd n hf1
  have hm := m64_lt n
  obtain ⟨a1, d1, r1, q1, z1, l1, l2, hl, hmore⟩ := exact_text n (fin64_E n hf1) hm (by unfold e64 at hx; omega) (by unfold e64 at hx; omega)
  have hq : flMant 11 52 n = m64 n := rfl
  have hq2 : flExp 11 52 (-1023) n - 52 = e64 n := rfl
  rw [hq, hq2] at q1
  rw [hq] at z1
  rw [neg64_is n hn] at r1
  have v1 := val_len (m64 n) (e64 n) hm hx.1 hx.2
  have pw : ∀ k : Nat, (2 : Nat) ^ k ≠ 0 := fun k => Nat.ne_of_gt (Nat.two_pow_pos k)
  have HC1 := Lib.hid (fun u1 u2 u3 u4 W k1 k2 k3 k4 => cmpRat_eq (decide (9223372036854775808 ≤ n)) (decide (9223372036854775808 ≤ n)) u1 u2 u3 u4 a1 d1 (m64 n * 2 ^ (e64 n).toNat) (2 ^ (-e64 n).toNat) W k1 k2 k3 k4 l1 l2 v1.1 v1.2 (by rw [z1]; constructor; (intro h; rw [h, Nat.zero_mul]); (intro h; rcases Nat.mul_eq_zero.1 h with h | h; exact h; exact absurd h (pw _))) (fun _ => rfl) q1)
  have hR1 := fun W => rationalOf_any (ftoa64L n 102 1074) W hl
  unfold RatPost at hR1
  rw [r1] at hR1
  dsimp only at hR1
  have HR1 := Lib.hid hR1
  have HV2 := Lib.hid (fun W => valueOf64_any n (m64 n) (e64 n) W hn hk1 (m64_is n) (e64_is n))
  have HF1 := Lib.hid (fun T W he => Format64_any T n 1074 102 W he hn (by omega) (by omega) (by omega) (by omega))
  have hF2 := fun T W he => Format64_any T n (1074 + (k : Int)) 102 W he hn (by omega) (by omega) (by omega) (by omega)
  rw [hmore k] at hF2
  have HF2 := Lib.hid hF2
  have HZ := Lib.hid (fun W => lawszeros_any k W (by omega))
  have hzl : (List.replicate k (48 : UInt8)).length ≤ 1000 := by simp; omega
  generalize ftoa64L n 102 1074 = t1 at *
  generalize List.replicate k (48 : UInt8) = zs at *
  generalize decide (9223372036854775808 ≤ n) = g1 at *
  generalize m64 n * 2 ^ (e64 n).toNat = a2 at *
  generalize 2 ^ (-e64 n).toNat = d2 at *
  have c1 := cat_mk t1 zs
  have y1 : (⟨t1.toArray⟩ : ByteArray).size = t1.length := by simp [ByteArray.size]
  have y2 : (⟨zs.toArray⟩ : ByteArray).size = zs.length := by simp [ByteArray.size]
  generalize t1.length = j1 at *
  generalize zs.length = j2 at *
  clear hR1 hF2 r1 q1 z1 l1 l2 v1 pw hk1 hmore hq hq2 hx hm hmo
  ((repeat (go_wp2_with fail; first | (refine cond_yes ?hc (by decide) ?_; (case hc => (simp [over_cons, over_nil, *]; done))) | (refine cond_no ?hc (by decide) ?_; (case hc => (simp [over_cons, over_nil, *]; done))))); go_wp2_with fail)
  refine (HK1.out _).mono ?_
  rintro e w7 ⟨rfl, rfl⟩
  ((repeat (go_wp2_with fail; first | (refine cond_yes ?hc (by decide) ?_; (case hc => (simp [over_cons, over_nil, *]; done))) | (refine cond_no ?hc (by decide) ?_; (case hc => (simp [over_cons, over_nil, *]; done))))); go_wp2_with fail)
  refine (HF1.out T _ HE.out).mono ?_
  rintro e w1 ⟨rfl, hg1⟩
  have HW1 := Lib.hid hg1
  clear hg1 HF1
  go_wp2_with fail
  refine (HR1.out _).mono ?_
  rintro e w2 ⟨hg2, vr, rfl, vn, vd, rfl, hvn, hvd⟩
  obtain ⟨an1, cn1, rfl⟩ := hvn.len
  obtain ⟨ad1, cd1, rfl⟩ := hvd.len
  generalize (natL a1).length = Ln1 at *
  generalize (natL d1).length = Ld1 at *
  obtain ⟨w3, hw3⟩ : ∃ w', World.alloc w2 (.cells #[.bool g1, .slice an1 Ln1 cn1, .slice ad1 Ld1 cd1] 33) = w' := ⟨_, rfl⟩
  obtain ⟨A1, hA1⟩ : ∃ A, (World.heap w2).size = A := ⟨_, rfl⟩
  have hS := RatS.new (w := w2) (g := g1) hvn hvd 33
  have hal := World.grownBy_alloc w2 (.cells #[.bool g1, .slice an1 Ln1 cn1, .slice ad1 Ld1 cd1] 33) none
  rw [hw3] at hS hal
  rw [hA1] at hS
  have hstep := grown_none_tr hg2 hal
  have Hw3 := Lib.hid hw3
  have HA1 := Lib.hid hA1
  have HW3 := Lib.hid (grown_none_tr HW1.out hstep)
  have HS1 := Lib.hid hS
  clear hS hal hstep hg2 hw3 hA1 hvn hvd
  go_upto_region 5 with fail
  rw [Hw3.out, HA1.out]
  clear Hw3 HA1
  go_wp2_with fail
  refine (HV2.out _).mono ?_
  rintro e w4 ⟨vn, vd, rfl, hvn, hvd, hg4⟩
  obtain ⟨an2, cn2, rfl⟩ := hvn.len
  obtain ⟨ad2, cd2, rfl⟩ := hvd.len
  generalize (natL a2).length = Ln2 at *
  generalize (natL d2).length = Ld2 at *
  obtain ⟨w5, hw5⟩ : ∃ w', World.alloc w4 (.cells #[.bool g1, .slice an2 Ln2 cn2, .slice ad2 Ld2 cd2] 33) = w' := ⟨_, rfl⟩
  obtain ⟨A2, hA2⟩ : ∃ A, (World.heap w4).size = A := ⟨_, rfl⟩
  have hS := RatS.new (w := w4) (g := g1) hvn hvd 33
  have hal := World.grownBy_alloc w4 (.cells #[.bool g1, .slice an2 Ln2 cn2, .slice ad2 Ld2 cd2] 33) none
  rw [hw5] at hS hal
  rw [hA2] at hS
  have hstep := grown_none_tr hg4 hal
  have Hw5 := Lib.hid hw5
  have HA2 := Lib.hid hA2
  have HW5 := Lib.hid (grown_none_tr HW3.out hstep)
  replace HS1 := Lib.hid (HS1.out.grown hstep)
  have HS2 := Lib.hid hS
  clear hS hal hstep hg4 hw5 hA2 hvn hvd
  go_upto_region 6 with fail
  rw [Hw5.out, HA2.out]
  clear Hw5 HA2
  obtain ⟨k10, k11, k12⟩ := HS1.out.cells
  obtain ⟨k20, k21, k22⟩ := HS2.out.cells
  clear HR1 HV2 HK1
  ((repeat (go_wp2_with fail; first | (refine cond_yes ?hc (by decide) ?_; (case hc => (simp [over_cons, over_nil, *]; done))) | (refine cond_no ?hc (by decide) ?_; (case hc => (simp [over_cons, over_nil, *]; done))))); go_wp2_with fail)
  refine (HC1.out _ _ _ _ _ HS1.out.2.1 HS1.out.2.2 HS2.out.2.1 HS2.out.2.2).mono ?_
  rintro e w11 ⟨rfl, hg11⟩
  have HW11 := Lib.hid (grown_none_tr HW5.out hg11)
  clear hg11 k10 k11 k12 k20 k21 k22
  ((repeat (go_wp2_with fail; first | (refine cond_yes ?hc (by decide) ?_; (case hc => (simp [over_cons, over_nil, *]; done))) | (refine cond_no ?hc (by decide) ?_; (case hc => (simp [over_cons, over_nil, *]; done))))); go_wp2_with fail)
  refine (HF2.out T _ (HE.out.grown HW11.out (by simp))).mono ?_
  rintro e w12 ⟨rfl, hg12⟩
  have HW12 := Lib.hid (grown_none_tr HW11.out hg12)
  clear hg12
  ((repeat (go_wp2_with fail; first | (refine cond_yes ?hc (by decide) ?_; (case hc => (simp [over_cons, over_nil, *]; done))) | (refine cond_no ?hc (by decide) ?_; (case hc => (simp [over_cons, over_nil, *]; done))))); go_wp2_with fail)
  refine (HZ.out _).mono ?_
  rintro e w13 ⟨rfl, hg13⟩
  have HW13 := Lib.hid (grown_none_tr HW12.out hg13)
  clear hg13
  ((repeat (go_wp2_with fail; first | (refine cond_yes ?hc (by decide) ?_; (case hc => (simp [over_cons, over_nil, *]; done))) | (refine cond_no ?hc (by decide) ?_; (case hc => (simp [over_cons, over_nil, *]; done))))); go_wp2_with fail)
  exact ret_F (.bool true) rfl (by decide) (by simp [over_cons, over_nil, *]) ⟨rfl, HW13.out⟩
end Go.Proofs.YthkcfpmlgoomfaaDoor
