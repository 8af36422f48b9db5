/-
  Plain: the texts in the formats g and e have one value.
-/
import Derived.Test.YthkcfpmlgoomfaaDoorGp
import Derived.Test.YthkcfpmlgoomfaaDoorCFv
namespace Go.Proofs.YthkcfpmlgoomfaaDoor
open Go.RowKit
set_option linter.unusedSimpArgs false
set_option linter.unusedVariables false

theorem g_pair (neg sh : Bool) (ds : List UInt8) (dp prg pre : Int) (hok : DsOk ds) (hl : ds.length ≤ 1000) (hdp1 : -390 ≤ dp) (hdp2 : dp ≤ 390) (he1 : (ds.length : Int) - 1 ≤ pre) (he2 : pre ≤ 1000)
    (hg : (sh = false ∧ (ds.length : Int) ≤ prg ∧ prg ≤ 1000 ∧ (ds = [] → dp = 0)) ∨ (sh = true ∧ (prg = ds.length ∨ (ds = [] ∧ dp = 0 ∧ prg ≤ 1000)))) (w : World) :
    Calls Tryd.prog 24 #[.string ⟨(efgP neg 103 ⟨ds, dp, prg, sh⟩).toArray⟩, .string ⟨(efgE neg ds dp pre 101).toArray⟩] w fun e w' => e = .returned (.bool true) ∧ w.grownBy w' none := by
  obtain ⟨k2, hk2, r2⟩ := ratL_e neg ds dp pre hok.dig he1 hdp1 hdp2 hok.lead (by omega) (by omega)
  have l2 := efgE_len neg ds dp pre 101
  have hb : (∃ pr : Int, efgP neg 103 ⟨ds, dp, prg, sh⟩ = efgE neg ds dp pr 101 ∧ (ds.length : Int) - 1 ≤ pr ∧ pr ≤ 1000) ∨ (∃ pr : Int, efgP neg 103 ⟨ds, dp, prg, sh⟩ = efgF neg ds dp pr ∧ (ds.length : Int) - dp ≤ max pr 0 ∧ pr ≤ 1400) := by
    have hn0 : ds = [] → ds.length = 0 := fun h => by rw [h]; rfl
    unfold efgP gAdj
    dsimp only
    rw [if_pos (Or.inl rfl)]
    by_cases hc : dp - 1 < -4 ∨ gEp dp ds.length prg sh ≤ dp - 1
    · rw [if_pos hc]
      dsimp only
      left
      unfold efgL
      refine ⟨_, by rw [if_pos (by omega)]; rfl, ?_, ?_⟩
      · unfold gEp at hc
        rcases hg with ⟨rfl, h1, h2, h3⟩ | ⟨rfl, h | ⟨h, h1, h2⟩⟩
        · split <;> omega
        · split <;> omega
        · rw [if_pos rfl] at hc; omega
      · rcases hg with ⟨rfl, h1, h2, h3⟩ | ⟨rfl, h | ⟨h, h1, h2⟩⟩ <;> split <;> omega
    · rw [if_neg hc]
      dsimp only
      right
      unfold efgL
      refine ⟨_, by rw [if_neg (by omega), if_pos rfl], ?_, ?_⟩
      · rcases hg with ⟨rfl, h1, h2, h3⟩ | ⟨rfl, h | ⟨h, h1, h2⟩⟩
        · split <;> omega
        · split <;> omega
        · have := hn0 h; split <;> omega
      · rcases hg with ⟨rfl, h1, h2, h3⟩ | ⟨rfl, h | ⟨h, h1, h2⟩⟩ <;> split <;> omega
  rcases hb with ⟨pr, ht, h1, h2⟩ | ⟨pr, ht, h1, h2⟩
  · rw [ht]
    obtain ⟨k1, hk1, r1⟩ := ratL_e neg ds dp pr hok.dig h1 hdp1 hdp2 hok.lead (by omega) (by omega)
    have l1 := efgE_len neg ds dp pr 101
    exact eqText _ _ _ (dval ds) (dxv ds dp) k1 k2 ds.length hok.lt (by omega) (by omega) (by omega) (by unfold dxv; omega) (by unfold dxv; omega) (by omega) (by omega) r1 r2 w
  · rw [ht]
    obtain ⟨k1, hk1, r1⟩ := ratL_f neg ds dp pr hok.dig h1 hdp1 hdp2 hok.lead
    have l1 := efgF_len neg ds dp pr (allD_of_dig hok.dig) h1
    exact eqText _ _ _ (dval ds) (dxv ds dp) k1 k2 ds.length hok.lt (by omega) (by omega) (by omega) (by unfold dxv; omega) (by unfold dxv; omega) (by omega) (by omega) r1 r2 w

/-- The shortest texts g and e. -/
theorem general_eq_s (eb mb : Nat) (bias : Int) (Z : Nat) (ME : Int) (b : Nat) (hE : flE eb mb b ≠ 2 ^ eb - 1) (hz : Kd Z ME mb (flMant eb mb b) (flExp eb mb bias b)) (w : World) :
    Calls Tryd.prog 24 #[.string ⟨(ftoaL eb mb bias Z ME b 103 (-1)).toArray⟩, .string ⟨(ftoaL eb mb bias Z ME b 101 (-1)).toArray⟩] w fun e w' => e = .returned (.bool true) ∧ w.grownBy w' none := by
  obtain ⟨ds, dp, hok, hl, hdp1, hdp2, hp⟩ := pick_short Z ME mb (flMant eb mb b) (flExp eb mb bias b) hz
  obtain ⟨pg, hpg, _, _, hg⟩ := hp 103 (by omega)
  obtain ⟨pe, hpe, he2, _, _⟩ := hp 101 (by omega)
  have he := he2 rfl
  have hg2 := hg rfl
  have t1 : ftoaL eb mb bias Z ME b 103 (-1) = efgP (flNeg eb mb b) 103 ⟨ds, dp, pg, true⟩ := by
    unfold ftoaL
    rw [if_neg hE, if_neg (by omega), if_neg (by omega), hpg]
  have t2 : ftoaL eb mb bias Z ME b 101 (-1) = efgE (flNeg eb mb b) ds dp pe 101 := by
    unfold ftoaL
    rw [if_neg hE, if_neg (by omega), if_neg (by omega), hpe]
    rfl
  rw [t1, t2]
  by_cases h0 : flMant eb mb b = 0
  · have hq : pick Z ME mb (flMant eb mb b) (flExp eb mb bias b) (-1) 103 = ⟨[], 0, -1, true⟩ := by unfold pick; rw [if_pos h0]; rfl
    rw [hpg] at hq
    injection hq with q1 q2 q3 q4
    subst q1 q2 q3
    exact g_pair _ _ _ _ _ _ hok (by omega) hdp1 hdp2 he.1 (by omega) (Or.inr ⟨rfl, Or.inr ⟨rfl, rfl, by omega⟩⟩) w
  · have hq : pg = ds.length := by
      rcases hg2 with h | ⟨h1, h2⟩
      · exact h
      · have hq : pick Z ME mb (flMant eb mb b) (flExp eb mb bias b) (-1) 103 = pkShort Z ME (flMant eb mb b) (flExp eb mb bias b - mb) (-1) 103 := by unfold pick; rw [if_neg h0, if_pos (by omega)]
        rw [hpg] at hq
        unfold pkShort at hq
        dsimp only at hq
        injection hq with q1 q2 q3 q4
        rw [q3, q1]
        unfold shPrec
        rw [if_neg (by omega), if_neg (by omega), if_pos (Or.inl rfl)]
    exact g_pair _ _ _ _ _ _ hok (by omega) hdp1 hdp2 he.1 (by omega) (Or.inr ⟨rfl, Or.inl hq⟩) w

theorem dsC_ok (D : Nat) (h : D ≠ 0) : DsOk (dsC D) := DsOk.digs _ (core_ne D h)

/-- The texts g and e with p digits. -/
theorem general_eq (eb mb : Nat) (bias : Int) (Z : Nat) (ME : Int) (b p : Nat) (hE : flE eb mb b ≠ 2 ^ eb - 1) (hz : Kd Z ME mb (flMant eb mb b) (flExp eb mb bias b)) (hp1 : 1 ≤ p) (hp2 : p ≤ 1000) (w : World) :
    Calls Tryd.prog 24 #[.string ⟨(ftoaL eb mb bias Z ME b 103 p).toArray⟩, .string ⟨(ftoaL eb mb bias Z ME b 101 ((p : Int) - 1)).toArray⟩] w fun e w' => e = .returned (.bool true) ∧ w.grownBy w' none := by
  have t1 : ftoaL eb mb bias Z ME b 103 p = efgP (flNeg eb mb b) 103 (pick Z ME mb (flMant eb mb b) (flExp eb mb bias b) p 103) := by
    unfold ftoaL
    rw [if_neg hE, if_neg (by omega), if_neg (by omega)]
  have t2 : ftoaL eb mb bias Z ME b 101 ((p : Int) - 1) = efgP (flNeg eb mb b) 101 (pick Z ME mb (flMant eb mb b) (flExp eb mb bias b) ((p : Int) - 1) 101) := by
    unfold ftoaL
    rw [if_neg hE, if_neg (by omega), if_neg (by omega)]
  rw [t1, t2]
  have hef : ∀ ds dp pr, efgP (flNeg eb mb b) 101 ⟨ds, dp, pr, false⟩ = efgE (flNeg eb mb b) ds dp pr 101 := fun ds dp pr => rfl
  by_cases h0 : flMant eb mb b = 0
  · have q1 : pick Z ME mb (flMant eb mb b) (flExp eb mb bias b) p 103 = ⟨[], 0, p, false⟩ := by
      unfold pick; rw [if_pos h0]
      congr 1
    have q2 : pick Z ME mb (flMant eb mb b) (flExp eb mb bias b) ((p : Int) - 1) 101 = ⟨[], 0, (p : Int) - 1, false⟩ := by
      unfold pick; rw [if_pos h0]
      congr 1
      simp; omega
    rw [q1, q2, hef]
    exact g_pair _ _ _ _ _ _ DsOk.nil (by simp) (by omega) (by omega) (by simp; omega) (by omega) (Or.inl ⟨rfl, by simp, by omega, fun _ => rfl⟩) w
  · have s1 := pick_sig Z ME mb (flMant eb mb b) (flExp eb mb bias b) p 103 hz h0 (by omega) (by omega)
    have s2 := pick_sig Z ME mb (flMant eb mb b) (flExp eb mb bias b) ((p : Int) - 1) 101 hz h0 (by omega) (by omega)
    have d1 : sigD (p : Int) 103 = p := by unfold sigD fixPrec; rw [if_neg (by omega), if_neg (by omega)]
    have d2 : sigD ((p : Int) - 1) 101 = p := by unfold sigD; rw [if_pos (Or.inl rfl)]; omega
    have d3 : fixPrec (p : Int) 103 = p := by unfold fixPrec; rw [if_neg (by omega)]
    have d4 : fixPrec ((p : Int) - 1) 101 = (p : Int) - 1 := by unfold fixPrec; rw [if_neg (by omega)]
    rw [s1, s2, d1, d2, d3, d4, hef, Int.toNat_natCast]
    have hA := vN_ne (flExp eb mb bias b - (mb : Nat)) h0
    have hB := vD_pos (flExp eb mb bias b - (mb : Nat))
    have ht := top_of hz h0
    have hdp := slowN_dp (flMant eb mb b) (flExp eb mb bias b - (mb : Nat)) h0 ht.m53 (by unfold Kd at hz; omega) (by unfold Kd at hz; omega)
    obtain ⟨b1, b2⟩ := sigN_bounds (vN (flMant eb mb b) (flExp eb mb bias b - (mb : Nat))) (vD (flExp eb mb bias b - (mb : Nat))) p hA (by omega) hp1
    have hexp : -390 ≤ (sigN (vN (flMant eb mb b) (flExp eb mb bias b - (mb : Nat))) (vD (flExp eb mb bias b - (mb : Nat))) p).2 + 1 ∧ (sigN (vN (flMant eb mb b) (flExp eb mb bias b - (mb : Nat))) (vD (flExp eb mb bias b - (mb : Nat))) p).2 + 1 ≤ 390 := by
      obtain ⟨s1, s2, s3, s4, s5, s6⟩ := slowN_bd (flMant eb mb b) (flExp eb mb bias b - (mb : Nat)) h0 ht.m53 (by unfold Kd at hz; omega) (by unfold Kd at hz; omega)
      have hN0 : (slowN (flMant eb mb b) (flExp eb mb bias b - (mb : Nat))).1 ≠ 0 := by intro h; rw [h] at s1; simp at s1
      rw [sigN_cross hA (Nat.ne_of_gt hB) (Nat.mul_ne_zero hN0 (Nat.ne_of_gt (p10 (slowN (flMant eb mb b) (flExp eb mb bias b - (mb : Nat))).2.toNat))) (Nat.ne_of_gt (p10 (-(slowN (flMant eb mb b) (flExp eb mb bias b - (mb : Nat))).2).toNat)) (slow_cross (flMant eb mb b) (flExp eb mb bias b - (mb : Nat)) h0) p]
      unfold sigN
      rw [ordT_dec _ _ hN0]
      split <;> dsimp only <;> omega
    generalize (sigN (vN (flMant eb mb b) (flExp eb mb bias b - (mb : Nat))) (vD (flExp eb mb bias b - (mb : Nat))) p).1 = D at *
    generalize (sigN (vN (flMant eb mb b) (flExp eb mb bias b - (mb : Nat))) (vD (flExp eb mb bias b - (mb : Nat))) p).2 = E at *
    have hp := p10 (p - 1)
    have hD : D ≠ 0 := by omega
    obtain ⟨c1, c2, c3⟩ := digs_dsC D p hD (nDig_of_range hp1 b1 b2)
    exact g_pair _ _ _ _ _ _ (dsC_ok D hD) (by omega) hexp.1 hexp.2 (by omega) (by omega) (Or.inl ⟨rfl, by omega, by omega, fun h => absurd h c3⟩) w
end Go.Proofs.YthkcfpmlgoomfaaDoor
