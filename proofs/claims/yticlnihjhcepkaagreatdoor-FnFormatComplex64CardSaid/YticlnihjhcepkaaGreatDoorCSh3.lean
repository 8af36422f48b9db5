/-
  Plain: what shortFloat answers.
-/
import Derived.Test.YticlnihjhcepkaaGreatDoorCSh2
namespace Go.Proofs.YticlnihjhcepkaaGreatDoor
open Go.RowKit
set_option linter.unusedSimpArgs false
set_option linter.unusedVariables false

theorem shS_norm {Z : Nat} {ME : Int} {mb m : Nat} {x : Int} (hz : Kd Z ME mb m x) (hm0 : m ≠ 0) : (2 ^ mb ≤ m → shS m = Z) ∧ (m < 2 ^ mb → Z < shS m) ∧ shS m ≤ 63 := by
  have hm53 : m < 2 ^ 53 := by unfold Kd at hz; omega
  obtain ⟨hb1, hb2, hb3, hb4⟩ := bitLen_bd m (by omega) hm0
  have hmb : m < 2 ^ (mb + 1) := by
    rcases hz with ⟨_, _, rfl, _, _, h⟩ | ⟨_, _, rfl, _, _, h⟩ <;> exact h
  have hbm := Lib.bitLen_le m (mb + 1) (by unfold Kd at hz; omega) hmb
  have hS : shS m = 64 - Lib.bitLen m := rfl
  refine ⟨fun h => ?_, fun h => ?_, by omega⟩
  · have h2 : mb < Lib.bitLen m := (Nat.pow_lt_pow_iff_right (by omega : 1 < 2)).1 (Nat.lt_of_le_of_lt h hb3)
    unfold Kd at hz; omega
  · have h2 := Lib.bitLen_le m mb (by unfold Kd at hz; omega) h
    unfold Kd at hz; omega

theorem top_pow {m : Nat} (hm : m < 2 ^ 53) (hm0 : m ≠ 0) (S : Nat) (hS : S ≤ 63) (h : m * 2 ^ S = 9223372036854775808) : m = 2 ^ (63 - S) := by
  have e : (9223372036854775808 : Nat) = 2 ^ (63 - S) * 2 ^ S := by rw [← Nat.pow_add, show 63 - S + S = 63 by omega]
  rw [e] at h
  exact Nat.eq_of_mul_eq_mul_right (p2 S) h

/-- The answer in terms of the interval's integers. -/
def shAns (G H s dmin dmax : Nat) (p : Int) : Nat × Int :=
  if dmin ≤ dmax / 10 * 10 then (dmax / 10, -(p - 1)) else if dmin < dmax then (rndE (s * G) H, -p) else (dmin, -p)

theorem short_is (Z : Nat) (ME : Int) (mb m : Nat) (x : Int) (hz : Kd Z ME mb m x) (hnorm : 2 ^ mb ≤ m ∨ x - (mb : Nat) = ME + Z) (hm0 : m ≠ 0) :
    ∃ (c dmin dmax : Nat) (p : Int), (c = 1 ↔ (m = 2 ^ mb ∧ ME + Z < x - (mb : Nat))) ∧ Iv (gG (x - (mb : Nat)) p) (gH (x - (mb : Nat)) p) m c dmin dmax ∧ -348 ≤ p ∧ p ≤ 347 ∧ (c = 2 → p = -((x - (mb : Nat)) * 78913 / 262144)) ∧
      shortF Z ME (m * 2 ^ shS m) (x - (mb : Nat) - (shS m : Nat)) = shAns (gG (x - (mb : Nat)) p) (gH (x - (mb : Nat)) p) m dmin dmax p := by
  have ht := top_of hz hm0
  obtain ⟨n1, n2, n3⟩ := shS_norm hz hm0
  have hge := ht.ge
  have hlt := ht.lt
  have hmod := ht.mod
  have hlo := ht.lo
  have hhi := ht.hi
  have hs11 := ht.s11
  have hm53 := ht.m53
  have htp := top_pow hm53 hm0 (shS m) n3
  have hE2 : -1074 ≤ x - (mb : Nat) ∧ x - (mb : Nat) ≤ 971 := by unfold Kd at hz; omega
  have hleast : ME + Z ≤ x - (mb : Nat) := by unfold Kd at hz; omega
  have hZ2 : 2 ≤ Z := by unfold Kd at hz; omega
  have hlo2 : -1200 ≤ x - (mb : Nat) - (shS m : Nat) := by omega
  generalize shS m = S at *
  generalize x - (mb : Nat) = E at *
  -- numbers at the top
  have hq : m * 2 ^ S = 4 * m * 2 ^ (S - 2) := by
    have : 2 ^ S = 2 ^ (S - 2) * 4 := by rw [show (4 : Nat) = 2 ^ 2 from rfl, ← Nat.pow_add]; congr 1; omega
    rw [this]
    ac_rfl
  have hp1 : 2 * 2 ^ (S - 2) = 2 ^ (S - 1) := by rw [Nat.mul_comm, ← Nat.pow_succ]; congr 1; omega
  have hpw : 2 ^ (S - 1) * 2 ≤ m * 2 ^ S := by
    rw [← Nat.pow_succ, show (S - 1).succ = S by omega]
    exact Nat.le_mul_of_pos_left _ (by omega)
  have h512 : 2 ^ (S - 2) % 512 = 0 := by
    rw [show S - 2 = (S - 11) + 9 by omega, Nat.pow_add]
    exact Nat.mul_mod_left _ _
  have hmx : m * 2 ^ S + 2 ^ (S - 1) < 18446744073709551616 := by
    have h64 : (18446744073709551616 : Nat) = 2 ^ (64 - S) * 2 ^ S := by rw [← Nat.pow_add, show 64 - S + S = 64 by omega]
    have h1 : m < 2 ^ (64 - S) := by
      rw [h64] at hlt
      exact Nat.lt_of_mul_lt_mul_right hlt
    have h2 : (m + 1) * 2 ^ S ≤ 2 ^ (64 - S) * 2 ^ S := Nat.mul_le_mul_right _ h1
    have h3 : 2 ^ (S - 1) < 2 ^ S := Nat.pow_lt_pow_right (by omega) (by omega)
    rw [h64]
    rw [Nat.add_mul, Nat.one_mul] at h2
    omega
  obtain ⟨iv1, iv2⟩ := iv_ok E (by omega) (by omega)
  -- whichever case, the answer
  have main : ∀ (c : Nat) (p : Int) (mn mx : Nat), -348 ≤ p → p ≤ 347 → (c = 1 ∧ m % 2 = 0 ∧ 4 * gH E p ≤ 3 * gG E p ∧ 3 * gG E p < 40 * gH E p ∨ c = 2 ∧ gH E p ≤ gG E p ∧ gG E p < 10 * gH E p) →
      3 ≤ -(E - S + p * 108853 / 32768 + 3) → mn = (4 * m - c) * 2 ^ (S - 2) → mx = (4 * m + 2) * 2 ^ (S - 2) → shC Z ME (m * 2 ^ S) (E - S) = (p, mn, mx, m % 2) →
      ∃ dmin dmax, Iv (gG E p) (gH E p) m c dmin dmax ∧ shortF Z ME (m * 2 ^ S) (E - S) = shAns (gG E p) (gH E p) m dmin dmax p := by
    intro c p mn mx p1 p2' hc hsh hmn hmx2 hC
    have hc2 : c ≤ 2 := by omega
    have hmnv : mn + c * 2 ^ (S - 2) = m * 2 ^ S := by
      rw [hmn, hq, ← Nat.add_mul, Nat.sub_add_cancel (by omega)]
    have hcb : c * 2 ^ (S - 2) ≤ 2 ^ (S - 1) := by rw [← hp1]; exact Nat.mul_le_mul_right _ hc2
    have hmxv : mx = m * 2 ^ S + 2 ^ (S - 1) := by rw [hmx2, hq, Nat.add_mul, hp1]
    have u1 : usE mn (E - S) p = unrE mn (E - S) p := by
      refine usE_B mn (E - S) p p1 p2' (by omega) (by omega) ?_ hsh
      rw [hmn, Nat.mul_mod, h512, Nat.mul_zero, Nat.zero_mod]
    have u2 : usE mx (E - S) p = unrE mx (E - S) p := by
      refine usE_B mx (E - S) p p1 p2' (by omega) (by omega) ?_ hsh
      rw [hmx2, Nat.mul_mod, h512, Nat.mul_zero, Nat.zero_mod]
    have u3 : usE (m * 2 ^ S) (E - S) p = unrE (m * 2 ^ S) (E - S) p := usE_A _ _ _ p1 p2' hlt hge hmod (by omega)
    refine ⟨_, _, iv_of m S c E p mn mx (by omega) (by omega) (by omega) hc hmn hmx2 u1 u2, ?_⟩
    have hg := gG_pos E p
    have hrn : uRound (usE (m * 2 ^ S) (E - S) p) = rndE (m * gG E p) (gH E p) := by
      rw [u3, unrE_whole]
      refine uRound_unrD _ _ (gH_pos E p) ?_
      have h1 : m * gG E p ≤ 9007199254740992 * gG E p := Nat.mul_le_mul_right _ (by omega)
      have := gH_pos E p
      omega
    unfold shortF shAns
    rw [hC]
    dsimp only
    rw [hrn]
  by_cases hA : m * 2 ^ S = 9223372036854775808 ∧ ME < E - S
  · have hpm := htp hA.1
    have hn : 2 ^ mb ≤ m := by
      rcases Nat.lt_or_ge m (2 ^ mb) with h | h
      · exfalso
        have := n2 h
        rcases hnorm with h1 | h1 <;> omega
      · exact h
    have hSZ := n1 hn
    have hmmb : m = 2 ^ mb := by rw [hpm]; congr 1; unfold Kd at hz; omega
    have hC : shC Z ME (m * 2 ^ S) (E - S) = (-((E * 631305 - 261663) / 2097152), m * 2 ^ S - 2 ^ (S - 2), m * 2 ^ S + 2 ^ (S - 1), m % 2) := by
      unfold shC
      rw [if_pos hA, ← hSZ, show E - (S : Int) + S = E by omega, Nat.mul_div_cancel _ (p2 S)]
      congr 2
      · omega
      · congr 1
        omega
    have hev : m % 2 = 0 := by
      rw [hmmb, show mb = mb - 1 + 1 by unfold Kd at hz; omega, Nat.pow_succ]; omega
    obtain ⟨dmin, dmax, h1, h2⟩ := main 1 _ _ _ (by omega) (by omega) (Or.inl ⟨rfl, hev, iv2⟩) (by omega) (by rw [Nat.sub_mul, Nat.one_mul, ← hq]) (by rw [Nat.add_mul, hp1, ← hq]) hC
    exact ⟨1, dmin, dmax, _, ⟨fun _ => ⟨hmmb, by omega⟩, fun _ => rfl⟩, h1, by omega, by omega, fun h => absurd h (by omega), h2⟩
  · have hnot : ¬ (m = 2 ^ mb ∧ ME + Z < E) := by
      rintro ⟨h1, h2⟩
      have hSZ := n1 (by omega)
      apply hA
      refine ⟨?_, by omega⟩
      rw [h1, hSZ, ← Nat.pow_add]
      rcases hz with ⟨rfl, -, rfl, -⟩ | ⟨rfl, -, rfl, -⟩ <;> rfl
    have hC : shC Z ME (m * 2 ^ S) (E - S) = (-(E * 78913 / 262144), m * 2 ^ S - 2 ^ (S - 1), m * 2 ^ S + 2 ^ (S - 1), m % 2) := by
      unfold shC
      rw [if_neg hA]
      by_cases hB : ME ≤ E - S
      · have hn : 2 ^ mb ≤ m := by
          rcases Nat.lt_or_ge m (2 ^ mb) with h | h
          · exfalso
            have := n2 h
            rcases hnorm with h1 | h1 <;> omega
          · exact h
        have hSZ := n1 hn
        rw [if_pos hB, ← hSZ, show E - (S : Int) + S = E by omega, Nat.mul_div_cancel _ (p2 S)]
        congr 2
        · omega
        · congr 1
          omega
      · have hEl : E = ME + Z := by
          rcases hnorm with h1 | h1
          · have := n1 h1; omega
          · exact h1
        have hzS : Z + (ME - (E - S)).toNat = S := by omega
        rw [if_neg hB, hzS, ← hEl, Nat.mul_div_cancel _ (p2 S)]
        congr 2
        · omega
        · congr 1
          omega
    obtain ⟨dmin, dmax, h1, h2⟩ := main 2 _ _ _ (by omega) (by omega) (Or.inr ⟨rfl, iv1⟩) (by omega) (by rw [Nat.sub_mul, hp1, ← hq]) (by rw [Nat.add_mul, hp1, ← hq]) hC
    exact ⟨2, dmin, dmax, _, ⟨fun h => by omega, fun h => absurd h hnot⟩, h1, by omega, by omega, fun _ => rfl, h2⟩
end Go.Proofs.YticlnihjhcepkaaGreatDoor
