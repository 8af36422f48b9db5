/-
  Plain: the reference's search for the shortest digits, and that it finds what shortFloat finds.
-/
import Derived.Test.YticlnihjhcepkaaGreatDoorCSh3
import Derived.Test.YticlnihjhcepkaaGreatDoorGp
namespace Go.Proofs.YticlnihjhcepkaaGreatDoor
open Go.RowKit
set_option linter.unusedSimpArgs false
set_option linter.unusedVariables false

def denS (b : Nat) (k : Int) : Nat := b * 10 ^ (-k).toNat
def lowS (a b : Nat) (k : Int) : Nat := a * 10 ^ k.toNat / denS b k
def rstS (a b : Nat) (k : Int) : Nat := a * 10 ^ k.toNat % denS b k
def belS (rd : Nat → Int → Bool) (a b : Nat) (e : Int) (n : Nat) : Bool := decide (0 < lowS a b ((n : Int) - 1 - e)) && rd (lowS a b ((n : Int) - 1 - e)) (e - n + 1)
def aboS (rd : Nat → Int → Bool) (a b : Nat) (e : Int) (n : Nat) : Bool := decide (0 < rstS a b ((n : Int) - 1 - e)) && rd (lowS a b ((n : Int) - 1 - e) + 1) (e - n + 1)
def pickS (rd : Nat → Int → Bool) (a b : Nat) (e : Int) (n : Nat) : Nat :=
  if aboS rd a b e n && (!belS rd a b e n || decide (denS b ((n : Int) - 1 - e) < 2 * rstS a b ((n : Int) - 1 - e))) then lowS a b ((n : Int) - 1 - e) + 1 else lowS a b ((n : Int) - 1 - e)
def tieS (rd : Nat → Int → Bool) (a b : Nat) (e : Int) (n : Nat) : Bool := belS rd a b e n && aboS rd a b e n && decide (2 * rstS a b ((n : Int) - 1 - e) = denS b ((n : Int) - 1 - e))
/-- From n digits on; at most as many steps more as the first number says. -/
def nearS (rd : Nat → Int → Bool) (a b : Nat) (e : Int) : Nat → Nat → Nat × Nat × Bool
  | 0, n => (pickS rd a b e n, n, tieS rd a b e n)
  | k + 1, n => if belS rd a b e n || aboS rd a b e n then (pickS rd a b e n, n, tieS rd a b e n) else nearS rd a b e k (n + 1)

theorem nearS_found (rd : Nat → Int → Bool) (a b : Nat) (e : Int) (m : Nat) (hm : (belS rd a b e m || aboS rd a b e m) = true) :
    ∀ (k n : Nat), n ≤ m → m ≤ n + k → (∀ j, n ≤ j → j < m → (belS rd a b e j || aboS rd a b e j) = false) → nearS rd a b e k n = (pickS rd a b e m, m, tieS rd a b e m) := by
  intro k
  induction k with
  | zero => intro n h1 h2 _; have : n = m := by omega
            subst this; rfl
  | succ k ih =>
    intro n h1 h2 h3
    rw [nearS]
    by_cases h : n = m
    · subst h; rw [if_pos hm]
    · rw [if_neg (by rw [h3 n (Nat.le_refl _) (by omega)]; simp)]
      exact ih (n + 1) (by omega) (by omega) (fun j h4 h5 => h3 j (by omega) h5)

theorem divmod_cross {a b c d : Nat} (hb : 0 < b) (hd : 0 < d) (h : a * d = c * b) : a / b = c / d ∧ a % b * d = c % d * b := by
  constructor
  · rw [← Nat.mul_div_mul_right a b hd, h, Nat.mul_comm b d, Nat.mul_div_mul_right _ _ hb]
  · rw [← Nat.mul_mod_mul_right, h, Nat.mul_comm b d, Nat.mul_mod_mul_right]

/-- The digits of the reference. -/
def digS (e : Int) (near n : Nat) : List UInt8 × Int := if n < (decT near).length then ((decT near).take n, e + 1) else (decT near, e)

theorem digS_one (e : Int) : digS e 10 1 = ([49], e + 1) := by
  have : decT 10 = [49, 48] := by
    unfold decT
    rw [if_neg (by omega), decS_pos (by omega), show 10 / 10 = 1 by omega, decS_pos (by omega), show 1 / 10 = 0 by omega, decS_zero]
    rfl
  unfold digS
  rw [this]
  rfl
theorem digS_n (e : Int) (t n : Nat) (hn : 1 ≤ n) (h1 : 10 ^ (n - 1) ≤ t) (h2 : t < 10 ^ n) (h3 : t % 10 ≠ 0) : digS e t n = (dsC t, e) := by
  have hp := p10 (n - 1)
  have hd := nDig_of_range hn h1 h2
  unfold digS
  rw [decT_digs t (by omega), digs_length, hd, if_neg (by omega)]
  unfold dsC
  rw [core_no h3, hd]

theorem dsC_one : dsC 1 = [49] := by
  have h : nDig 1 = 1 := nDig_unique 0 1 (by omega) (by omega)
  unfold dsC
  rw [core_no (by omega), h]
  rfl

section
variable {G H s c dmin dmax : Nat} {p e : Int} {a b N : Nat} {rd : Nat → Int → Bool}

/-- One step of the search, in the integers of the scale. -/
structure Stp1 (G H s dmin dmax N : Nat) (a b : Nat) (e : Int) (rd : Nat → Int → Bool) (n i : Nat) : Prop where
  low : lowS a b ((n : Int) - 1 - e) = s * G / H / 10 ^ i
  rst0 : 0 < rstS a b ((n : Int) - 1 - e) ↔ s * G % (H * 10 ^ i) ≠ 0
  rst2 : denS b ((n : Int) - 1 - e) < 2 * rstS a b ((n : Int) - 1 - e) ↔ H * 10 ^ i < 2 * (s * G % (H * 10 ^ i))
  rst3 : 2 * rstS a b ((n : Int) - 1 - e) = denS b ((n : Int) - 1 - e) ↔ 2 * (s * G % (H * 10 ^ i)) = H * 10 ^ i
  rd : ∀ d, 0 < d → (rd d (e - n + 1) = true ↔ dmin ≤ d * 10 ^ i ∧ d * 10 ^ i ≤ dmax)

theorem stp1 (hb : 0 < b) (hH : 0 < H) (hV : ∀ i : Nat, a * 10 ^ (p - i).toNat * (H * 10 ^ i) = s * G * (b * 10 ^ (-(p - i)).toNat)) (hN : p + 1 + e = N)
    (hrd : ∀ (d i : Nat), 0 < d → (rd d ((i : Int) - p) = true ↔ dmin ≤ d * 10 ^ i ∧ d * 10 ^ i ≤ dmax)) (n i : Nat) (hi : n + i = N) : Stp1 G H s dmin dmax N a b e rd n i := by
  have hk : (n : Int) - 1 - e = p - i := by omega
  have hD : 0 < b * 10 ^ (-(p - (i : Int))).toNat := Nat.mul_pos hb (p10 _)
  have hD2 : 0 < H * 10 ^ i := Nat.mul_pos hH (p10 _)
  obtain ⟨h1, h2⟩ := divmod_cross hD hD2 (hV i)
  have e1 : rstS a b ((n : Int) - 1 - e) * (H * 10 ^ i) = s * G % (H * 10 ^ i) * denS b ((n : Int) - 1 - e) := by unfold rstS denS; rw [hk]; exact h2
  have hden : 0 < denS b ((n : Int) - 1 - e) := by unfold denS; rw [hk]; exact hD
  refine ⟨by unfold lowS denS; rw [hk, h1, Nat.div_div_eq_div_mul], ?_, ?_, ?_, fun d hd => ?_⟩
  · generalize rstS a b ((n : Int) - 1 - e) = x at *
    generalize denS b ((n : Int) - 1 - e) = y at *
    generalize s * G % (H * 10 ^ i) = z at *
    generalize H * 10 ^ i = t at *
    constructor
    · intro h hz; rw [hz, Nat.zero_mul] at e1
      rcases Nat.mul_eq_zero.1 e1 with h3 | h3 <;> omega
    · intro h
      rcases Nat.eq_zero_or_pos x with h3 | h3
      · rw [h3, Nat.zero_mul] at e1
        rcases Nat.mul_eq_zero.1 e1.symm with h4 | h4 <;> omega
      · exact h3
  · generalize rstS a b ((n : Int) - 1 - e) = x at *
    generalize denS b ((n : Int) - 1 - e) = y at *
    generalize s * G % (H * 10 ^ i) = z at *
    generalize H * 10 ^ i = t at *
    have h5 : y < 2 * x ↔ y * t < 2 * x * t := (Nat.mul_lt_mul_right hD2).symm
    have h6 : t < 2 * z ↔ t * y < 2 * z * y := (Nat.mul_lt_mul_right hden).symm
    rw [h5, h6, Nat.mul_assoc, e1, ← Nat.mul_assoc, Nat.mul_comm y t]
  · generalize rstS a b ((n : Int) - 1 - e) = x at *
    generalize denS b ((n : Int) - 1 - e) = y at *
    generalize s * G % (H * 10 ^ i) = z at *
    generalize H * 10 ^ i = t at *
    constructor
    · intro h
      refine Nat.eq_of_mul_eq_mul_right hden ?_
      rw [Nat.mul_assoc, ← e1, ← Nat.mul_assoc, h, Nat.mul_comm]
    · intro h
      refine Nat.eq_of_mul_eq_mul_right hD2 ?_
      rw [Nat.mul_assoc, e1, ← Nat.mul_assoc, h, Nat.mul_comm]
  · rw [show e - n + 1 = (i : Int) - p by omega]
    exact hrd d i hd
end
end Go.Proofs.YticlnihjhcepkaaGreatDoor
