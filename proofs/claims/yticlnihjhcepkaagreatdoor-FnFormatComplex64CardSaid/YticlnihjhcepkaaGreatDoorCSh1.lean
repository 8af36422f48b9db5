/-
  Plain: the ends of the interval of a number, among the integers of a scale.
-/
import Derived.Test.YticlnihjhcepkaaGreatDoorCSh0
namespace Go.Proofs.YticlnihjhcepkaaGreatDoor
open Go.RowKit
set_option linter.unusedSimpArgs false
set_option linter.unusedVariables false

theorem unrD_le (A B d : Nat) (hB : 0 < B) : unrD (4 * A) B ≤ 4 * d ↔ A ≤ d * B := by
  have h0 := Nat.div_add_mod (4 * A) B
  have hr : 4 * A % B < B := Nat.mod_lt _ hB
  rw [unrD_eq]
  generalize 4 * A / B = k at *
  generalize 4 * A % B = r at *
  rw [Nat.mul_comm] at h0
  have hm : ∀ x y : Nat, x ≤ y → x * B ≤ y * B := fun x y h => Nat.mul_le_mul_right B h
  have e4 : 4 * d * B = 4 * (d * B) := by rw [Nat.mul_assoc]
  by_cases hr0 : r = 0
  · rw [if_pos hr0]
    constructor
    · intro h; have := hm k (4 * d) h; omega
    · intro h
      rcases Nat.lt_or_ge (4 * d) k with h1 | h1
      · have := hm (4 * d + 1) k h1
        rw [Nat.add_mul] at this
        omega
      · exact h1
  · rw [if_neg hr0]
    constructor
    · intro h
      have := hm (k + 1) (4 * d) (by omega)
      rw [Nat.add_mul] at this
      omega
    · intro h
      rcases Nat.lt_or_ge k (4 * d) with h1 | h1
      · omega
      · have := hm (4 * d) k h1; omega

theorem unrD_lt (A B d : Nat) (hB : 0 < B) : unrD (4 * A) B < 4 * d ↔ A < d * B := by
  have h0 := Nat.div_add_mod (4 * A) B
  have hr : 4 * A % B < B := Nat.mod_lt _ hB
  rw [unrD_eq]
  generalize 4 * A / B = k at *
  generalize 4 * A % B = r at *
  rw [Nat.mul_comm] at h0
  have hm : ∀ x y : Nat, x ≤ y → x * B ≤ y * B := fun x y h => Nat.mul_le_mul_right B h
  have e4 : 4 * d * B = 4 * (d * B) := by rw [Nat.mul_assoc]
  by_cases hr0 : r = 0
  · rw [if_pos hr0]
    constructor
    · intro h; have := hm (k + 1) (4 * d) h; rw [Nat.add_mul] at this; omega
    · intro h
      rcases Nat.lt_or_ge k (4 * d) with h1 | h1
      · exact h1
      · have := hm (4 * d) k h1; omega
  · rw [if_neg hr0]
    constructor
    · intro h
      have := hm (k + 1) (4 * d) (by omega)
      rw [Nat.add_mul] at this
      omega
    · intro h
      rcases Nat.lt_or_ge k (4 * d) with h1 | h1
      · omega
      · have := hm (4 * d) k h1; omega

theorem ceil_even (u d : Nat) (hu : u < 18446744073709551600) : uCeil u ≤ d ↔ u ≤ 4 * d := by
  unfold uCeil
  rw [Nat.mod_eq_of_lt (by omega)]
  omega
theorem ceil_odd (u d : Nat) (hu : u < 18446744073709551600) : uCeil (uNudge u 1) ≤ d ↔ u < 4 * d := by
  have : uNudge u 1 = u + 1 := by unfold uNudge; omega
  have h2 : u + 1 < 18446744073709551600 ∨ u + 1 = 18446744073709551600 := by omega
  rw [this]
  unfold uCeil
  rw [Nat.mod_eq_of_lt (by omega)]
  omega
theorem nudge_zero (u : Nat) (hu : u < 18446744073709551600) : uNudge u 0 = u := by unfold uNudge; omega
theorem floor_even (u d : Nat) : d ≤ uFloor u ↔ 4 * d ≤ u := by unfold uFloor; omega
theorem floor_odd (u d : Nat) (h0 : 0 < u) (hu : u < 18446744073709551600) : d ≤ uFloor (uNudge u (-1)) ↔ 4 * d < u := by
  have : uNudge u (-1) = u - 1 := by unfold uNudge; omega
  rw [this, floor_even]
  omega

/-- The interval [(4s - c) G, (4s + 2) G] in units of 4H, its integers from dmin to dmax; the value itself is s G / H. -/
structure Iv (G H s c dmin dmax : Nat) : Prop where
  g0 : 0 < G
  h0 : 0 < H
  s0 : 0 < s
  cc : c = 1 ∧ s % 2 = 0 ∧ 4 * H ≤ 3 * G ∧ 3 * G < 40 * H ∨ c = 2 ∧ H ≤ G ∧ G < 10 * H
  lo : ∀ d, dmin ≤ d ↔ if s % 2 = 1 then 4 * (s * G) < 4 * (d * H) + c * G else 4 * (s * G) ≤ 4 * (d * H) + c * G
  up : ∀ d, d ≤ dmax ↔ if s % 2 = 1 then 4 * (d * H) < 4 * (s * G) + 2 * G else 4 * (d * H) ≤ 4 * (s * G) + 2 * G

theorem Iv.mem {G H s c dmin dmax : Nat} (h : Iv G H s c dmin dmax) (d : Nat) : (dmin ≤ d ∧ d ≤ dmax) ↔ inI (d * H) G s (decide (c = 1)) := by
  rw [h.lo, h.up]
  unfold inI
  rcases h.cc with ⟨rfl, h1, -⟩ | ⟨rfl, -⟩
  · have h9 : ¬ s % 2 = 1 := by omega
    simp only [decide_true, if_true, if_neg h9]
    constructor
    · intro hh; exact ⟨by omega, by omega, fun ho => absurd ho h9⟩
    · intro hh; have := hh.1; have := hh.2.1; omega
  · simp only [show decide ((2 : Nat) = 1) = false from rfl, Bool.false_eq_true, if_false]
    by_cases ho : s % 2 = 1
    · rw [if_pos ho, if_pos ho]
      constructor
      · intro hh; exact ⟨by omega, by omega, fun _ => by omega⟩
      · intro hh; have := hh.2.2 ho; omega
    · rw [if_neg ho, if_neg ho]
      constructor
      · intro hh; exact ⟨by omega, by omega, fun h => absurd h ho⟩
      · intro hh; have := hh.1; have := hh.2.1; omega

section
variable {G H s c dmin dmax : Nat}

theorem Iv.le (h : Iv G H s c dmin dmax) (d : Nat) (hd : dmin ≤ d) : 4 * (s * G) ≤ 4 * (d * H) + c * G := by
  have := (h.lo d).1 hd
  split at this <;> omega
theorem Iv.ge (h : Iv G H s c dmin dmax) (d : Nat) (hd : d ≤ dmax) : 4 * (d * H) ≤ 4 * (s * G) + 2 * G := by
  have := (h.up d).1 hd
  split at this <;> omega
theorem Iv.nle (h : Iv G H s c dmin dmax) (d : Nat) (hd : ¬ dmin ≤ d) : 4 * (d * H) + c * G ≤ 4 * (s * G) := by
  have : ¬ _ := fun hh => hd ((h.lo d).2 hh)
  split at this <;> omega
theorem Iv.nge (h : Iv G H s c dmin dmax) (d : Nat) (hd : ¬ d ≤ dmax) : 4 * (s * G) + 2 * G ≤ 4 * (d * H) := by
  have : ¬ _ := fun hh => hd ((h.up d).2 hh)
  split at this <;> omega
theorem Iv.cG (h : Iv G H s c dmin dmax) : G ≤ c * G ∧ c * G ≤ 2 * G := by
  rcases h.cc with ⟨rfl, -⟩ | ⟨rfl, -⟩ <;> omega
theorem Iv.pos (h : Iv G H s c dmin dmax) : 1 ≤ dmin := by
  rcases Nat.eq_zero_or_pos dmin with h0 | h0
  · exfalso
    have h1 := (h.lo 0).1 (by omega)
    have h2 : 1 * G ≤ s * G := Nat.mul_le_mul_right _ h.s0
    have h3 := h.cG
    have h4 := h.g0
    rw [Nat.zero_mul] at h1
    split at h1 <;> omega
  · exact h0

/-- An integer at or below the value lies below the upper end; one above the value lies above the lower end. -/
theorem Iv.below (h : Iv G H s c dmin dmax) (d : Nat) (hd : d * H ≤ s * G) : d ≤ dmax := by
  rw [h.up]
  have := h.g0
  split <;> omega
theorem Iv.above (h : Iv G H s c dmin dmax) (d : Nat) (hd : s * G ≤ d * H) : dmin ≤ d := by
  rw [h.lo]
  have := h.g0
  have := h.cG
  split <;> omega

theorem Iv.ten (h : Iv G H s c dmin dmax) : dmax < dmin + 10 := by
  rcases Nat.lt_or_ge dmax (dmin + 10) with h1 | h1
  · exact h1
  · exfalso
    have h2 := h.le dmin (Nat.le_refl _)
    have h3 := h.ge (dmin + 10) h1
    rw [Nat.add_mul] at h3
    rcases h.cc with ⟨rfl, h4⟩ | ⟨rfl, h4⟩ <;> omega

/-- The integer part of the value, or the next one. -/
theorem Iv.some (h : Iv G H s c dmin dmax) : (dmin ≤ s * G / H ∧ s * G / H ≤ dmax) ∨ (dmin = s * G / H + 1 ∧ s * G / H + 1 ≤ dmax ∧ s * G % H ≠ 0) := by
  have e := Nat.div_add_mod (s * G) H
  have hr : s * G % H < H := Nat.mod_lt _ h.h0
  rw [Nat.mul_comm] at e
  obtain ⟨q, hq⟩ : ∃ q, s * G / H = q := ⟨_, rfl⟩
  obtain ⟨r, hr'⟩ : ∃ r, s * G % H = r := ⟨_, rfl⟩
  rw [hq, hr'] at e
  rw [hr'] at hr
  rw [hq, hr']
  have h1 := h.below q (by omega)
  by_cases h2 : dmin ≤ q
  · exact Or.inl ⟨h2, h1⟩
  · right
    have h3 : dmin ≤ q + 1 := h.above (q + 1) (by rw [Nat.add_mul]; omega)
    have h4 := h.nle q h2
    have hg := h.g0
    refine ⟨by omega, ?_, fun hr0 => ?_⟩
    · rw [h.up, Nat.add_mul, Nat.one_mul]
      have hcG := h.cG
      rcases h.cc with ⟨rfl, h5, h6, h7⟩ | ⟨rfl, h6, h7⟩
      · rw [if_neg (by omega)]; omega
      · rcases Nat.lt_or_ge H G with h8 | h8
        · split <;> omega
        · exfalso
          have h9 : G = H := by omega
          rw [h9, Nat.mul_div_cancel _ h.h0] at hq
          rw [← hq, h9] at h4
          have := h.h0
          omega
    · rw [hr0] at e
      have := h.cG
      omega

/-- The nearest integer lies in the interval if it has two integers or more. -/
theorem Iv.near (h : Iv G H s c dmin dmax) (h2 : dmin < dmax) : dmin ≤ rndE (s * G) H ∧ rndE (s * G) H ≤ dmax := by
  obtain ⟨k1, k2, -⟩ := rndE_is (s * G) H h.h0
  have hrr := Nat.le_refl (rndE (s * G) H)
  have hGH : G = H → rndE (s * G) H = s := fun e => by rw [e]; exact rndE_mul s H h.h0
  generalize rndE (s * G) H = r at *
  have hg := h.g0
  have hh := h.h0
  constructor
  · rcases Nat.lt_or_ge r dmin with h3 | h3
    · exfalso
      have h4 := h.nle r (by omega)
      have h5 := h.ge (r + 2) (by omega)
      rw [Nat.add_mul] at h5
      rcases h.cc with ⟨rfl, -⟩ | ⟨rfl, -⟩ <;> omega
    · exact h3
  · rcases Nat.lt_or_ge dmax r with h3 | h3
    · exfalso
      have h4 := h.nge r (by omega)
      have h5 : G ≤ H := by omega
      rcases h.cc with ⟨rfl, h6, h7, h8⟩ | ⟨rfl, h6, h7⟩
      · omega
      · have h9 : G = H := by omega
        have := hGH h9
        subst this
        rw [h9] at h4
        omega
    · exact h3
end
end Go.Proofs.YticlnihjhcepkaaGreatDoor
