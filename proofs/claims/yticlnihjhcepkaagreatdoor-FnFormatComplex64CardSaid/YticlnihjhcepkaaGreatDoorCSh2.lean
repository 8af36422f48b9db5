/-
  Plain: what shortFloat finds, as the integers of an interval.
-/
import Derived.Test.YticlnihjhcepkaaGreatDoorCSh1
import Derived.Test.YticlnihjhcepkaaGreatDoorGp
namespace Go.Proofs.YticlnihjhcepkaaGreatDoor
open Go.RowKit
set_option linter.unusedSimpArgs false
set_option linter.unusedVariables false

def gG (E p : Int) : Nat := 2 ^ E.toNat * 10 ^ p.toNat
def gH (E p : Int) : Nat := 2 ^ (-E).toNat * 10 ^ (-p).toNat
def ivOk (E : Int) : Bool :=
  decide (gH E (-(E * 78913 / 262144)) ≤ gG E (-(E * 78913 / 262144))) && decide (gG E (-(E * 78913 / 262144)) < 10 * gH E (-(E * 78913 / 262144))) &&
  decide (4 * gH E (-((E * 631305 - 261663) / 2097152)) ≤ 3 * gG E (-((E * 631305 - 261663) / 2097152))) && decide (3 * gG E (-((E * 631305 - 261663) / 2097152)) < 40 * gH E (-((E * 631305 - 261663) / 2097152)))
set_option maxRecDepth 100000 in
theorem iv_all : (List.range 2201).all (fun i => ivOk ((i : Int) - 1100)) = true := by decide +kernel
theorem iv_ok (E : Int) (h1 : -1100 ≤ E) (h2 : E ≤ 1100) : (gH E (-(E * 78913 / 262144)) ≤ gG E (-(E * 78913 / 262144)) ∧ gG E (-(E * 78913 / 262144)) < 10 * gH E (-(E * 78913 / 262144))) ∧
    4 * gH E (-((E * 631305 - 261663) / 2097152)) ≤ 3 * gG E (-((E * 631305 - 261663) / 2097152)) ∧ 3 * gG E (-((E * 631305 - 261663) / 2097152)) < 40 * gH E (-((E * 631305 - 261663) / 2097152)) := by
  have h := iv_all
  rw [List.all_eq_true] at h
  have := h (E + 1100).toNat (List.mem_range.2 (by omega))
  rw [show (((E + 1100).toNat : Nat) : Int) - 1100 = E by omega] at this
  unfold ivOk at this
  simp only [Bool.and_eq_true, decide_eq_true_eq] at this
  exact ⟨⟨this.1.1.1, this.1.1.2⟩, this.1.2, this.2⟩

theorem gG_pos (E p : Int) : 0 < gG E p := Nat.mul_pos (p2 _) (p10 _)
theorem gH_pos (E p : Int) : 0 < gH E p := Nat.mul_pos (p2 _) (p10 _)

/-- k quarters of a unit. -/
theorem unrE_quarter (k z : Nat) (E p : Int) (hz : 2 ≤ z) : unrE (k * 2 ^ (z - 2)) (E - z) p = unrD (4 * (k * gG E p)) (4 * gH E p) := by
  rw [unrE_eq]
  refine unrD_cross (Nat.mul_pos (vD_pos _) (p10 _)) (Nat.mul_pos (by omega) (gH_pos E p)) ?_
  have e : 2 ^ (z - 2) * 2 ^ (E - z).toNat * 4 * 2 ^ (-E).toNat = 2 ^ E.toNat * 2 ^ (-(E - z)).toNat := by
    rw [show (4 : Nat) = 2 ^ 2 from rfl, ← Nat.pow_add, ← Nat.pow_add, ← Nat.pow_add, ← Nat.pow_add]; congr 1; omega
  unfold vN vD gG gH
  calc 4 * (k * 2 ^ (z - 2) * 2 ^ (E - z).toNat * 10 ^ p.toNat) * (4 * (2 ^ (-E).toNat * 10 ^ (-p).toNat)) = 4 * k * 10 ^ p.toNat * 10 ^ (-p).toNat * (2 ^ (z - 2) * 2 ^ (E - z).toNat * 4 * 2 ^ (-E).toNat) := by ac_rfl
    _ = 4 * k * 10 ^ p.toNat * 10 ^ (-p).toNat * (2 ^ E.toNat * 2 ^ (-(E - z)).toNat) := by rw [e]
    _ = 4 * (k * (2 ^ E.toNat * 10 ^ p.toNat)) * (2 ^ (-(E - z)).toNat * 10 ^ (-p).toNat) := by ac_rfl

theorem unrE_whole (s z : Nat) (E p : Int) : unrE (s * 2 ^ z) (E - z) p = unrD (4 * (s * gG E p)) (gH E p) := by
  rw [unrE_eq]
  refine unrD_cross (Nat.mul_pos (vD_pos _) (p10 _)) (gH_pos E p) ?_
  have e : 2 ^ z * 2 ^ (E - z).toNat * 2 ^ (-E).toNat = 2 ^ E.toNat * 2 ^ (-(E - z)).toNat := by
    rw [← Nat.pow_add, ← Nat.pow_add, ← Nat.pow_add]; congr 1; omega
  unfold vN vD gG gH
  calc 4 * (s * 2 ^ z * 2 ^ (E - z).toNat * 10 ^ p.toNat) * (2 ^ (-E).toNat * 10 ^ (-p).toNat) = 4 * s * 10 ^ p.toNat * 10 ^ (-p).toNat * (2 ^ z * 2 ^ (E - z).toNat * 2 ^ (-E).toNat) := by ac_rfl
    _ = 4 * s * 10 ^ p.toNat * 10 ^ (-p).toNat * (2 ^ E.toNat * 2 ^ (-(E - z)).toNat) := by rw [e]
    _ = 4 * (s * (2 ^ E.toNat * 10 ^ p.toNat)) * (2 ^ (-(E - z)).toNat * 10 ^ (-p).toNat) := by ac_rfl

/-- The ends that the quick way computes are those of the interval. -/
theorem iv_of (s z c : Nat) (E p : Int) (mn mx : Nat) (hz : 2 ≤ z) (hs0 : 0 < s) (hs : s < 9007199254740992) (hc : c = 1 ∧ s % 2 = 0 ∧ 4 * gH E p ≤ 3 * gG E p ∧ 3 * gG E p < 40 * gH E p ∨ c = 2 ∧ gH E p ≤ gG E p ∧ gG E p < 10 * gH E p)
    (hmn : mn = (4 * s - c) * 2 ^ (z - 2)) (hmx : mx = (4 * s + 2) * 2 ^ (z - 2)) (u1 : usE mn (E - z) p = unrE mn (E - z) p) (u2 : usE mx (E - z) p = unrE mx (E - z) p) :
    Iv (gG E p) (gH E p) s c (uCeil (uNudge (usE mn (E - z) p) ((s % 2 : Nat) : Int))) (uFloor (uNudge (usE mx (E - z) p) (-((s % 2 : Nat) : Int)))) := by
  have hg := gG_pos E p
  have hh := gH_pos E p
  rw [u1, u2, hmn, hmx, unrE_quarter _ _ _ _ hz, unrE_quarter _ _ _ _ hz]
  clear u1 u2 hmn hmx
  generalize gG E p = G at *
  generalize gH E p = H at *
  have hB : 0 < 4 * H := by omega
  have hcs : c ≤ 2 := by omega
  have e1 : (4 * s - c) * G + c * G = 4 * (s * G) := by rw [← Nat.add_mul, Nat.sub_add_cancel (by omega), Nat.mul_assoc]
  have e2 : (4 * s + 2) * G = 4 * (s * G) + 2 * G := by rw [Nat.add_mul, Nat.mul_assoc]
  have e3 : ∀ d, d * (4 * H) = 4 * (d * H) := fun d => by rw [Nat.mul_left_comm]
  have hsG : s * G ≤ 9007199254740992 * G := Nat.mul_le_mul_right _ (by omega)
  have hG14 : 3 * G < 40 * H := by omega
  have b1 : unrD (4 * ((4 * s - c) * G)) (4 * H) < 18446744073709551600 := by
    have := (unrD_lt ((4 * s - c) * G) (4 * H) 1000000000000000000 hB).2 (by omega)
    omega
  have b2 : unrD (4 * ((4 * s + 2) * G)) (4 * H) < 18446744073709551600 := by
    have := (unrD_lt ((4 * s + 2) * G) (4 * H) 1000000000000000000 hB).2 (by omega)
    omega
  have b3 : 0 < unrD (4 * ((4 * s + 2) * G)) (4 * H) := by
    rcases Nat.eq_zero_or_pos (unrD (4 * ((4 * s + 2) * G)) (4 * H)) with h | h
    · exfalso
      have := (unrD_le ((4 * s + 2) * G) (4 * H) 0 hB).1 (by omega)
      rw [Nat.zero_mul] at this
      omega
    · exact h
  have l1 := fun d => unrD_le ((4 * s - c) * G) (4 * H) d hB
  have l2 := fun d => unrD_lt ((4 * s - c) * G) (4 * H) d hB
  have l3 := fun d => unrD_le ((4 * s + 2) * G) (4 * H) d hB
  have l4 := fun d => unrD_lt ((4 * s + 2) * G) (4 * H) d hB
  generalize unrD (4 * ((4 * s - c) * G)) (4 * H) = v1 at *
  generalize unrD (4 * ((4 * s + 2) * G)) (4 * H) = v2 at *
  refine ⟨hg, hh, hs0, hc, fun d => ?_, fun d => ?_⟩
  · have h1 := l1 d
    have h2 := l2 d
    rw [e3] at h1 h2
    by_cases ho : s % 2 = 1
    · rw [if_pos ho, ho, show (((1 : Nat) : Int)) = 1 from rfl, ceil_odd v1 d b1, h2]
      constructor <;> intro h <;> omega
    · rw [if_neg ho, show s % 2 = 0 by omega, show (((0 : Nat) : Int)) = 0 from rfl, nudge_zero v1 b1, ceil_even v1 d b1, h1]
      constructor <;> intro h <;> omega
  · have h3 := l3 d
    have h4 := l4 d
    rw [e3] at h3 h4
    by_cases ho : s % 2 = 1
    · rw [if_pos ho, ho, show (-((1 : Nat) : Int)) = -1 from rfl, floor_odd v2 d b3 b2]
      constructor
      · intro h; have : ¬ v2 ≤ 4 * d := by omega
        rw [h3] at this; omega
      · intro h; have : ¬ v2 ≤ 4 * d := by rw [h3]; omega
        omega
    · rw [if_neg ho, show s % 2 = 0 by omega, show (-((0 : Nat) : Int)) = 0 from rfl, nudge_zero v2 b2, floor_even]
      constructor
      · intro h; have : ¬ v2 < 4 * d := by omega
        rw [h4] at this; omega
      · intro h; have : ¬ v2 < 4 * d := by rw [h4]; omega
        omega
end Go.Proofs.YticlnihjhcepkaaGreatDoor
