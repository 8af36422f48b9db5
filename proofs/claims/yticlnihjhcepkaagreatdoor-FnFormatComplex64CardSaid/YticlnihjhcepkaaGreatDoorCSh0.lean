/-
  Plain: which values are nearest to a number.
-/
import Derived.Test.YticlnihjhcepkaaGreatDoorCQn0
import Derived.Test.YticlnihjhcepkaaGreatDoorGp
namespace Go.Proofs.YticlnihjhcepkaaGreatDoor
open Go.RowKit
set_option linter.unusedSimpArgs false
set_option linter.unusedVariables false

theorem rndE_is (A B : Nat) (hB : 0 < B) : 2 * (rndE A B * B) ≤ 2 * A + B ∧ 2 * A ≤ 2 * (rndE A B * B) + B ∧ (rndE A B % 2 = 1 → 2 * (rndE A B * B) < 2 * A + B ∧ 2 * A < 2 * (rndE A B * B) + B) := by
  have h0 := Nat.div_add_mod A B
  have hr : A % B < B := Nat.mod_lt _ hB
  unfold rndE
  rw [Nat.mul_comm B] at h0
  generalize A / B = q at *
  generalize A % B = r at *
  have e : (q + 1) * B = q * B + B := by rw [Nat.add_mul, Nat.one_mul]
  split
  · rw [e]
    generalize q * B = x at *
    omega
  · generalize q * B = x at *
    omega

theorem rndE_iff (A B s : Nat) (hB : 0 < B) : rndE A B = s ↔ 2 * (s * B) ≤ 2 * A + B ∧ 2 * A ≤ 2 * (s * B) + B ∧ (s % 2 = 1 → 2 * (s * B) < 2 * A + B ∧ 2 * A < 2 * (s * B) + B) := by
  constructor
  · rintro rfl; exact rndE_is A B hB
  · intro ⟨h1, h2, h3⟩
    obtain ⟨k1, k2, k3⟩ := rndE_is A B hB
    generalize rndE A B = t at *
    rcases Nat.lt_trichotomy t s with h | h | h
    · exfalso
      rcases Nat.lt_or_ge (t + 1) s with h4 | h4
      · have := Nat.mul_le_mul_right B (show t + 2 ≤ s by omega)
        rw [Nat.add_mul] at this
        omega
      · have h5 : s = t + 1 := by omega
        subst h5
        rw [Nat.add_mul, Nat.one_mul] at h1 h2 h3
        generalize t * B = x at *
        omega
    · exact h
    · exfalso
      rcases Nat.lt_or_ge (s + 1) t with h4 | h4
      · have := Nat.mul_le_mul_right B (show s + 2 ≤ t by omega)
        rw [Nat.add_mul] at this
        omega
      · have h5 : t = s + 1 := by omega
        subst h5
        rw [Nat.add_mul, Nat.one_mul] at k1 k2 k3
        generalize s * B = x at *
        omega

/-- The values that are rounded to s * 2^E: X by Y is the value by 2^E; low: the number below is nearer (a power of two). -/
def inI (X Y s : Nat) (low : Bool) : Prop :=
  (if low then 4 * (s * Y) ≤ 4 * X + Y else 2 * (s * Y) ≤ 2 * X + Y) ∧ 2 * X ≤ 2 * (s * Y) + Y ∧ (s % 2 = 1 → 2 * (s * Y) < 2 * X + Y ∧ 2 * X < 2 * (s * Y) + Y)

theorem two_sub (E : Int) (X b : Nat) : X * 2 ^ (-(E - 1)).toNat * 2 ^ E.toNat = 2 * (X * 2 ^ (-E).toNat) * 2 ^ (E - 1).toNat := by
  have : 2 ^ (-(E - 1)).toNat * 2 ^ E.toNat = 2 * 2 ^ (-E).toNat * 2 ^ (E - 1).toNat := by
    rw [Nat.mul_comm 2, ← Nat.pow_succ, ← Nat.pow_add, ← Nat.pow_add]; congr 1; omega
  calc X * 2 ^ (-(E - 1)).toNat * 2 ^ E.toNat = X * (2 ^ (-(E - 1)).toNat * 2 ^ E.toNat) := by ac_rfl
    _ = X * (2 * 2 ^ (-E).toNat * 2 ^ (E - 1).toNat) := by rw [this]
    _ = 2 * (X * 2 ^ (-E).toNat) * 2 ^ (E - 1).toNat := by ac_rfl

/-- Rounding one binary place lower. -/
theorem rB_pred (a b : Nat) (hb : b ≠ 0) (E : Int) : rB a b (E - 1) = rndE (2 * (a * 2 ^ (-E).toNat)) (b * 2 ^ E.toNat) := by
  unfold rB
  refine rndE_cross (Nat.mul_pos (by omega) (p2 _)) (Nat.mul_pos (by omega) (p2 _)) ?_
  have := two_sub E a b
  calc a * 2 ^ (-(E - 1)).toNat * (b * 2 ^ E.toNat) = a * 2 ^ (-(E - 1)).toNat * 2 ^ E.toNat * b := by ac_rfl
    _ = 2 * (a * 2 ^ (-E).toNat) * 2 ^ (E - 1).toNat * b := by rw [this]
    _ = 2 * (a * 2 ^ (-E).toNat) * (b * 2 ^ (E - 1).toNat) := by ac_rfl

theorem le2_at (a b : Nat) (E : Int) (n : Nat) : le2 a b (E + n) ↔ 2 ^ n * (b * 2 ^ E.toNat) ≤ a * 2 ^ (-E).toNat := by
  rw [le2_scale (j := -E) (n := n) (by omega), Int.neg_neg]

/-- The nearest number of a value is n = (E - least) * 2^f + s if and only if the value lies in its interval. -/
theorem near_iff (f : Nat) (F bias : Int) (inf a b s : Nat) (E : Int) (hF : F = f) (hb : b ≠ 0) (ha : a ≠ 0) (hE : 1 - bias - F ≤ E) (hEb : E ≤ bias - F) (hs : s < 2 ^ (f + 1)) (hn : E = 1 - bias - F ∨ 2 ^ f ≤ s) (hinf : inf = (2 * bias + 1).toNat * 2 ^ f) (hbias : 1 ≤ bias) (hf : 1 ≤ f) :
    (nearB F bias inf a b = (E - (1 - bias - F)).toNat * 2 ^ f + s) ↔ inI (a * 2 ^ (-E).toNat) (b * 2 ^ E.toNat) s (decide (s = 2 ^ f ∧ 1 - bias - F < E)) := by
  have hY : 0 < b * 2 ^ E.toNat := Nat.mul_pos (by omega) (p2 _)
  have hf0 : 0 < 2 ^ f := p2 f
  have hf1 : 2 ^ (f + 1) = 2 * 2 ^ f := by rw [Nat.pow_succ, Nat.mul_comm]
  obtain ⟨o1, o2⟩ := ordB_spec a b ha hb
  have hFn : F.toNat = f := by omega
  have hnE : nearE F bias a b = max (1 - bias - F) (ordB a b - F) := by unfold nearE; rw [if_neg ha]
  obtain ⟨L, hL⟩ : ∃ L, 1 - bias - F = L := ⟨_, rfl⟩
  rw [hL] at hE hn hnE ⊢
  have hlow0 : ∀ X Y : Nat, inI X Y s false ↔ 2 * (s * Y) ≤ 2 * X + Y ∧ 2 * X ≤ 2 * (s * Y) + Y ∧ (s % 2 = 1 → 2 * (s * Y) < 2 * X + Y ∧ 2 * X < 2 * (s * Y) + Y) := by
    intro X Y; unfold inI; simp
  -- where the first digit of a value in the interval lies
  constructor
  · intro h
    obtain ⟨e, he⟩ : ∃ e, nearE F bias a b = e := ⟨_, rfl⟩
    have hsl : rB a b e ≤ 2 ^ (f + 1) := by
      have := rB_le a b F bias hb (by omega)
      rw [he, hFn] at this
      exact this
    unfold nearB at h
    rw [he, hL, hFn] at h
    rw [he] at hnE
    by_cases hc : e ≤ bias - F
    · rw [if_pos hc] at h
      have heL : L ≤ e := by omega
      -- the rounded digits have f + 1 places unless e is the least
      have hge : e = L ∨ 2 ^ f ≤ rB a b e := by
        rcases Int.lt_or_le L e with h1 | h1
        · right
          have : le2 a b (e + f) := le2_mono (by omega) o1
          rw [le2_at] at this
          exact rndE_ge (Nat.mul_pos (by omega) (p2 _)) this
        · left; omega
      obtain ⟨i, hi⟩ : ∃ i : Nat, e = L + i := ⟨(e - L).toNat, by omega⟩
      obtain ⟨j, hj⟩ : ∃ j : Nat, E = L + j := ⟨(E - L).toNat, by omega⟩
      rw [show (e - L).toNat = i by omega, show (E - L).toNat = j by omega] at h
      -- i = j, or i + 1 = j with a carry
      have hij : (i = j ∧ rB a b e = s) ∨ (i + 1 = j ∧ rB a b e = 2 ^ (f + 1) ∧ s = 2 ^ f) := by
        rcases Nat.lt_trichotomy i j with h1 | h1 | h1
        · right
          have h2 : 2 ^ f ≤ s := by rcases hn with h2 | h2; omega; exact h2
          rcases Nat.lt_or_ge (i + 1) j with h3 | h3
          · exfalso
            have := Nat.mul_le_mul_right (2 ^ f) (show i + 2 ≤ j by omega)
            rw [Nat.add_mul] at this
            omega
          · have h4 : j = i + 1 := by omega
            subst h4
            rw [Nat.add_mul, Nat.one_mul] at h
            exact ⟨rfl, by omega, by omega⟩
        · subst h1; left; exact ⟨rfl, by omega⟩
        · exfalso
          have h2 : 2 ^ f ≤ rB a b e := by rcases hge with h2 | h2; omega; exact h2
          have := Nat.mul_le_mul_right (2 ^ f) h1
          rw [Nat.succ_eq_add_one, Nat.add_mul, Nat.one_mul] at this
          omega
      rcases hij with ⟨h1, h2⟩ | ⟨h1, h2, h3⟩
      · have hEe : E = e := by omega
        rw [hEe]
        have hk := (rndE_iff _ _ s (by rw [← hEe]; exact hY)).1 h2
        by_cases hlow : s = 2 ^ f ∧ L < e
        · rw [decide_eq_true hlow]
          have h5 : le2 a b (e + f) := le2_mono (by omega) o1
          rw [le2_at] at h5
          unfold inI
          rw [if_pos rfl]
          obtain ⟨hs2, -⟩ := hlow
          rw [← hs2] at h5
          exact ⟨by omega, hk.2.1, hk.2.2⟩
        · rw [decide_eq_false hlow, hlow0]
          exact hk
      · have hEe : e = E - 1 := by omega
        rw [decide_eq_true ⟨h3, by omega⟩]
        rw [hEe, rB_pred a b hb] at h2
        have hk := (rndE_iff _ _ _ hY).1 h2
        have hlt : ¬ le2 a b (E + f) := by
          intro hh
          apply o2
          refine le2_mono ?_ hh
          omega
        rw [le2_at, Nat.not_le] at hlt
        unfold inI
        rw [if_pos rfl]
        rw [hf1, ← h3] at hk
        rw [← h3] at hlt
        rw [Nat.mul_assoc 2 s] at hk
        refine ⟨by omega, by omega, fun ho => ?_⟩
        exfalso
        rw [h3] at ho
        obtain ⟨g, rfl⟩ : ∃ g, f = g + 1 := ⟨f - 1, by omega⟩
        rw [Nat.pow_succ] at ho
        omega
    · exfalso
      rw [if_neg hc, hinf] at h
      obtain ⟨j, hj⟩ : ∃ j : Nat, E = L + j := ⟨(E - L).toNat, by omega⟩
      have h1 : (E - L).toNat + 2 ≤ (2 * bias + 1).toNat := by omega
      have := Nat.mul_le_mul_right (2 ^ f) h1
      rw [Nat.add_mul] at this
      omega
  · intro h
    obtain ⟨X, hX⟩ : ∃ X, a * 2 ^ (-E).toNat = X := ⟨_, rfl⟩
    obtain ⟨Y, hY2⟩ : ∃ Y, b * 2 ^ E.toNat = Y := ⟨_, rfl⟩
    rw [hX, hY2] at h
    rw [hY2] at hY
    have hev : 2 ^ f % 2 = 0 := by
      obtain ⟨g, rfl⟩ : ∃ g, f = g + 1 := ⟨f - 1, by omega⟩
      rw [Nat.pow_succ]; omega
    have hsY : ∀ k, k ≤ s → k * Y ≤ s * Y := fun k hk => Nat.mul_le_mul_right _ hk
    have hup : ¬ le2 a b (E + ((f + 1 : Nat) : Int)) := by
      rw [le2_at, hX, hY2, Nat.not_le]
      have := Nat.mul_le_mul_right Y hs
      rw [Nat.succ_eq_add_one, Nat.add_mul, Nat.one_mul] at this
      have := h.2.1
      omega
    have hle : ordB a b ≤ E + f := by
      rcases Int.lt_or_le (E + f) (ordB a b) with h1 | h1
      · exact absurd (le2_mono (by omega) o1) hup
      · exact h1
    by_cases hlow : (s = 2 ^ f ∧ L < E) ∧ X < s * Y
    · obtain ⟨⟨h1, h2⟩, h3⟩ := hlow
      have hl := h.1
      rw [decide_eq_true ⟨h1, h2⟩, if_pos rfl] at hl
      have h4 : le2 a b (E + ((f - 1 : Nat) : Int)) := by
        rw [le2_at, hX, hY2]
        have h5 : 2 * (2 ^ (f - 1) * Y) = s * Y := by
          rw [h1, ← Nat.mul_assoc, Nat.mul_comm 2, ← Nat.pow_succ]
          congr 2; omega
        have h6 : 1 * Y ≤ 2 ^ (f - 1) * Y := Nat.mul_le_mul_right _ (p2 _)
        omega
      have h5 : ¬ le2 a b (E + (f : Int)) := by
        rw [le2_at, hX, hY2, Nat.not_le, ← h1]; exact h3
      have ho : ordB a b = E + f - 1 := by
        refine ordB_is ha hb ?_ ?_
        · rw [show E + (f : Int) - 1 = E + ((f - 1 : Nat) : Int) by omega]; exact h4
        · rw [show E + (f : Int) - 1 + 1 = E + (f : Int) by omega]; exact h5
      have he : nearE F bias a b = E - 1 := by rw [hnE, ho]; omega
      have hr : rB a b (E - 1) = 2 * s := by
        rw [rB_pred a b hb, hX, hY2, rndE_iff _ _ _ hY, Nat.mul_assoc]
        exact ⟨by omega, by omega, fun h => by omega⟩
      unfold nearB
      rw [he, if_pos (by omega), hr, hL, hFn, h1]
      obtain ⟨j, hj⟩ : ∃ j : Nat, E = L + j + 1 := ⟨(E - L - 1).toNat, by omega⟩
      rw [show (E - 1 - L).toNat = j by omega, show (E - L).toNat = j + 1 by omega, Nat.add_mul, Nat.one_mul]
      omega
    · have hr2 : 2 * (s * Y) ≤ 2 * X + Y := by
        have hl := h.1
        by_cases h1 : s = 2 ^ f ∧ L < E
        · have : ¬ X < s * Y := fun h3 => hlow ⟨h1, h3⟩
          omega
        · rw [decide_eq_false h1, if_neg (by simp)] at hl
          exact hl
      have hr : rB a b E = s := by
        unfold rB
        rw [hX, hY2, rndE_iff _ _ _ hY]
        exact ⟨hr2, h.2.1, h.2.2⟩
      have he : nearE F bias a b = E := by
        rw [hnE]
        rcases Int.lt_or_le L E with h1 | h1
        · have h2 : 2 ^ f ≤ s := by rcases hn with h2 | h2; omega; exact h2
          have h3 : le2 a b (E + (f : Int)) := by
            rw [le2_at, hX, hY2]
            by_cases h4 : s = 2 ^ f
            · have : ¬ X < s * Y := fun h3 => hlow ⟨⟨h4, h1⟩, h3⟩
              rw [← h4]; omega
            · have h5 := hsY (2 ^ f + 1) (by omega)
              rw [Nat.add_mul, Nat.one_mul] at h5
              omega
          have h4 : E + f ≤ ordB a b := by
            rcases Int.lt_or_le (ordB a b) (E + f) with h5 | h5
            · exact absurd (le2_mono (by omega) h3) o2
            · exact h5
          omega
        · omega
      unfold nearB
      rw [he, if_pos (by omega), hr, hL, hFn]
end Go.Proofs.YticlnihjhcepkaaGreatDoor
