/-
  Plain: with which byte the text of a finite number begins; a complex number's text out of those of its parts.
-/
import Derived.Test.YtffooimnioigdaaDoorNg32
import Derived.Test.YtffooimnioigdaaDoorFc
namespace Go.Proofs.YtffooimnioigdaaDoor
open Go.RowKit
set_option linter.unusedSimpArgs false
set_option linter.unusedVariables false

/-- The first byte is a digit. -/
def DigHead (l : List UInt8) : Prop := 48 ≤ (l.headD 48).toNat
theorem DigHead.of_all {l : List UInt8} (h : ∀ c ∈ l, isDig c) : DigHead l := by
  cases l with
  | nil => show 48 ≤ (48 : UInt8).toNat; decide
  | cons c r => exact (h c (by simp)).1
theorem DigHead.append {a b : List UInt8} (ha : a ≠ []) (h : DigHead a) : DigHead (a ++ b) := by
  cases a with
  | nil => exact absurd rfl ha
  | cons c r => exact h

def AllDig (l : List UInt8) : Prop := ∀ c ∈ l, isDig c
theorem AllDig.take {l : List UInt8} (h : AllDig l) (n : Nat) : AllDig (l.take n) := fun c hc => h c (List.mem_of_mem_take hc)
theorem AllDig.nil : AllDig [] := fun c hc => by cases hc
theorem pick_dig (Z : Nat) (ME : Int) (mb m : Nat) (x prec f : Int) : AllDig (pick Z ME mb m x prec f).ds := by
  have hd : ∀ d, AllDig (dsOf d) := fun d => AllDig.take (isDig_digs d _) _
  unfold pick
  split
  · exact AllDig.nil
  · split
    · exact hd _
    · split
      · unfold pkFix
        split
        · dsimp only
          split
          · exact hd _
          · exact AllDig.nil
        · exact AllDig.nil
      · unfold pkDec
        split
        · exact AllDig.nil
        · exact isDig_digs _ _

theorem efgP_head (f : Int) (P : Pick) (hd : AllDig P.ds) (h : f = 101 ∨ f = 69 ∨ f = 102 ∨ f = 103 ∨ f = 71) : DigHead (efgP false f P) := by
  unfold efgP
  have h1 := gAdj_fmt P.dp P.ds.length P.prec f P.sh h
  generalize (gAdj P.dp (↑P.ds.length) P.prec f P.sh) = g at h1 ⊢
  unfold efgL
  by_cases h2 : g.2 = 101 ∨ g.2 = 69
  · rw [if_pos h2]
    unfold efgE
    show DigHead ([] ++ ([P.ds.headD 48] ++ _))
    rw [List.nil_append]
    refine DigHead.append (by simp) ?_
    exact (DigHead.of_all hd : 48 ≤ (P.ds.headD 48).toNat)
  · rw [if_neg h2, if_pos (by omega)]
    unfold efgF
    show DigHead ([] ++ (fInt P.ds P.dp ++ _))
    rw [List.nil_append]
    refine DigHead.append (fInt_ne' _ _) ?_
    apply DigHead.of_all
    unfold fInt
    split
    · intro c hc
      rcases List.mem_append.1 hc with h | h
      · exact AllDig.take hd _ c h
      · rw [(List.mem_replicate.1 h).2]; exact ⟨by decide, by decide⟩
    · intro c hc
      simp only [List.mem_singleton] at hc
      rw [hc]; exact ⟨by decide, by decide⟩

theorem ftoaL_head (eb mb : Nat) (bias : Int) (Z : Nat) (ME : Int) (b : Nat) (f prec : Int) (hb : b < 2 ^ (eb + mb)) (hk : flE eb mb b ≠ 2 ^ eb - 1) (hf : isFmt f = true) : DigHead (ftoaL eb mb bias Z ME b f prec) := by
  unfold isFmt at hf
  simp only [Bool.or_eq_true, beq_iff_eq] at hf
  unfold ftoaL
  rw [flNeg_low eb mb b hb, if_neg hk, if_neg (by omega)]
  by_cases hx : f = 120 ∨ f = 88
  · rw [if_pos hx]
    unfold xL
    exact DigHead.append (a := [48, UInt8.ofNat f.toNat, _]) (by simp) (by show 48 ≤ (48 : UInt8).toNat; decide)
  · rw [if_neg hx]
    exact efgP_head f _ (pick_dig _ _ _ _ _ _ _) (by omega)

theorem sgnL_dig {l : List UInt8} (hne : l ≠ []) (h : DigHead l) : sgnL l = 43 :: l := by
  cases l with
  | nil => exact absurd rfl hne
  | cons c r =>
    have h1 : 48 ≤ c.toNat := h
    unfold sgnL
    rw [if_neg]
    rintro (h | h)
    · have h : c = 43 := h
      rw [h] at h1; exact absurd h1 (by decide)
    · have h : c = 45 := h
      rw [h] at h1; exact absurd h1 (by decide)
theorem sgnL_neg (l : List UInt8) : sgnL (45 :: l) = 45 :: l := by unfold sgnL; rw [if_pos]; exact Or.inr rfl

/-- The sign that is always written. -/
theorem sgn64 (b : Nat) (f prec : Int) (hb : b < 18446744073709551616) (hk : b % 9223372036854775808 < 9218868437227405312) (hf : isFmt f = true) :
    sgnL (ftoa64L b f prec) = if b < 9223372036854775808 then 43 :: ftoa64L b f prec else ftoa64L b f prec := by
  split
  · next h =>
    rw [Nat.mod_eq_of_lt h] at hk
    exact sgnL_dig (ftoa64L_ne' b f prec) (ftoaL_head 11 52 _ _ _ b f prec h (fin_E 11 52 b hk) hf)
  · next h =>
    have e : b = b % 9223372036854775808 + 2 ^ (11 + 52) := by
      have : (2 : Nat) ^ (11 + 52) = 9223372036854775808 := by decide
      omega
    have h2 := ftoaL_neg 11 52 (-1023) 11 (-1085) (b % 9223372036854775808) f prec (Nat.mod_lt _ (by omega)) (fin_E 11 52 _ hk) (Or.inr hf)
    rw [← e] at h2
    unfold ftoa64L
    rw [h2, sgnL_neg]
theorem sgn32 (b : Nat) (f prec : Int) (hb : b < 4294967296) (hk : b % 2147483648 < 2139095040) (hf : isFmt f = true) :
    sgnL (ftoa32L b f prec) = if b < 2147483648 then 43 :: ftoa32L b f prec else ftoa32L b f prec := by
  split
  · next h =>
    rw [Nat.mod_eq_of_lt h] at hk
    exact sgnL_dig (ftoa32L_ne b f prec) (ftoaL_head 8 23 _ _ _ b f prec h (fin_E 8 23 b hk) hf)
  · next h =>
    have e : b = b % 2147483648 + 2 ^ (8 + 23) := by
      have : (2 : Nat) ^ (8 + 23) = 2147483648 := by decide
      omega
    have h2 := ftoaL_neg 8 23 (-127) 40 (-189) (b % 2147483648) f prec (Nat.mod_lt _ (by omega)) (fin_E 8 23 _ hk) (Or.inr hf)
    rw [← e] at h2
    unfold ftoa32L
    rw [h2, sgnL_neg]
end Go.Proofs.YtffooimnioigdaaDoor
