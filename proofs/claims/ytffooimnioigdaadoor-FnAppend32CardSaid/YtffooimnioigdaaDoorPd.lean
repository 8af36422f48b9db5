/-
  Plain: digits of numbers; the cheat sheet of the left shift.
-/
import Derived.Test.YtffooimnioigdaaDoorDec2
namespace Go.Proofs.YtffooimnioigdaaDoor
open Go.RowKit
set_option linter.unusedSimpArgs false
set_option linter.unusedVariables false

theorem nDig_zero : nDig 0 = 0 := rfl
theorem nDig_of {d : Nat} (h : d ≠ 0) : nDig d = Lib.nDigits d := by unfold nDig; rw [if_neg h]
theorem nDig_pos {d : Nat} (h : d ≠ 0) : 1 ≤ nDig d := by rw [nDig_of h]; exact Lib.nDigits_pos d
theorem nDig_unique (k d : Nat) (h1 : 10 ^ k ≤ d) (h2 : d < 10 ^ (k + 1)) : nDig d = k + 1 := by
  have : 0 < 10 ^ k := Nat.pow_pos (by omega)
  rw [nDig_of (by omega)]; exact Lib.nDigits_unique k d h1 h2
theorem nDigits_low (d : Nat) (h : d ≠ 0) : 10 ^ (Lib.nDigits d - 1) ≤ d := by
  induction d using Nat.strongRecOn with
  | _ d ih =>
    by_cases h10 : d < 10
    · rw [Lib.nDigits_small h10]; simp; omega
    · have h1 := ih (d / 10) (by omega) (by omega)
      have h2 := Lib.nDigits_pos (d / 10)
      rw [Lib.nDigits_big h10, Nat.add_sub_cancel, show Lib.nDigits (d / 10) = (Lib.nDigits (d / 10) - 1) + 1 by omega, Nat.pow_succ]
      omega
theorem nDig_low {d : Nat} (h : d ≠ 0) : 10 ^ (nDig d - 1) ≤ d := by
  rw [nDig_of h]; exact nDigits_low d h
theorem nDig_mul10 {d : Nat} (h : d ≠ 0) : nDig (d * 10) = nDig d + 1 := by
  rw [nDig_of h, nDig_of (by omega), Lib.nDigits_big (by omega), Nat.mul_div_cancel _ (by omega)]

theorem dg_mul10_zero (d : Nat) : Lib.dg (d * 10) 0 = 48 := by
  unfold Lib.dg; rw [Nat.pow_zero, Nat.div_one, Nat.mul_mod_left]; rfl
theorem dg_mul10_succ (d j : Nat) : Lib.dg (d * 10) (j + 1) = Lib.dg d j := by
  rw [Lib.dg_succ, Nat.mul_div_cancel _ (by omega)]

theorem digs_succ (d n : Nat) : digs d (n + 1) = digs (d / 10) n ++ [Lib.dg d 0] := by
  unfold digs
  rw [List.range_succ, List.map_append, List.map_cons, List.map_nil]
  congr 1
  · apply List.map_congr_left
    intro t ht
    rw [List.mem_range] at ht
    rw [show n + 1 - 1 - t = (n - 1 - t) + 1 by omega, Lib.dg_succ]
  · rw [show n + 1 - 1 - n = 0 by omega]

/-- The value of a list of digits. -/
def dval : List UInt8 → Nat
  | [] => 0
  | c :: l => (c.toNat - 48) * 10 ^ l.length + dval l

def isDig (c : UInt8) : Prop := 48 ≤ c.toNat ∧ c.toNat ≤ 57

theorem dval_append (l : List UInt8) (c : UInt8) : dval (l ++ [c]) = dval l * 10 + (c.toNat - 48) := by
  induction l with
  | nil => simp [dval]
  | cons a l ih =>
    rw [List.cons_append, dval, ih, dval, List.length_append, List.length_cons, List.length_nil, Nat.pow_succ]
    rw [Nat.add_mul]
    simp only [Nat.mul_assoc, Nat.add_assoc]

theorem dval_lt (l : List UInt8) (h : ∀ c ∈ l, isDig c) : dval l < 10 ^ l.length := by
  induction l with
  | nil => simp [dval]
  | cons a l ih =>
    have h1 := ih fun c hc => h c (List.mem_cons_of_mem _ hc)
    have h2 : a.toNat - 48 ≤ 9 := by have := (h a (List.mem_cons_self)).2; omega
    rw [dval, List.length_cons, Nat.pow_succ]
    have : (a.toNat - 48) * 10 ^ l.length ≤ 9 * 10 ^ l.length := Nat.mul_le_mul_right _ h2
    omega

theorem dg_toNat (d j : Nat) : (Lib.dg d j).toNat = 48 + d / 10 ^ j % 10 := by
  unfold Lib.dg
  have : d / 10 ^ j % 10 < 10 := Nat.mod_lt _ (by omega)
  rw [UInt8.toNat_ofNat']
  omega

theorem isDig_dg (d j : Nat) : isDig (Lib.dg d j) := by
  have : d / 10 ^ j % 10 < 10 := Nat.mod_lt _ (by omega)
  unfold isDig; rw [dg_toNat]; omega

theorem isDig_digs (d n : Nat) : ∀ c ∈ digs d n, isDig c := by
  intro c hc
  unfold digs at hc
  rw [List.mem_map] at hc
  obtain ⟨t, _, rfl⟩ := hc
  exact isDig_dg _ _

theorem dval_digs (n d : Nat) : dval (digs d n) = d % 10 ^ n := by
  induction n generalizing d with
  | zero => simp [digs, dval, Nat.mod_one]
  | succ n ih =>
    rw [digs_succ, dval_append, ih, dg_toNat, Nat.pow_zero, Nat.div_one]
    rw [Nat.pow_succ, Nat.mul_comm (10 ^ n) 10, Nat.mod_mul]
    omega

theorem dval_pos (s : List UInt8) (hs : ∀ c ∈ s, isDig c) (h0 : s ≠ []) (hl : s.getLast? ≠ some 48) : 0 < dval s := by
  induction s with
  | nil => exact absurd rfl h0
  | cons x ss ih =>
    by_cases hss : ss = []
    · subst hss
      have h1 := (hs x (List.mem_cons_self)).1
      have h2 : x.toNat ≠ 48 := by
        intro e
        apply hl
        rw [List.getLast?_singleton]
        congr 1
        exact UInt8.toNat_inj.1 e
      simp [dval]; omega
    · have h1 := ih (fun c hc => hs c (List.mem_cons_of_mem _ hc)) hss (by
        rw [List.getLast?_cons] at hl
        cases h : ss.getLast? with
        | none => simp
        | some c => rw [h] at hl; simpa using hl)
      rw [dval]; omega

theorem pfxLt_val (s b : List UInt8) (hs : ∀ c ∈ s, isDig c) (hb : ∀ c ∈ b, isDig c) (hl : s = [] ∨ s.getLast? ≠ some 48) :
    pfxLt b s = true ↔ dval b * 10 ^ s.length < dval s * 10 ^ b.length := by
  induction s generalizing b with
  | nil => cases b <;> simp [pfxLt, dval]
  | cons x ss ih =>
    have hl' : (x :: ss).getLast? ≠ some 48 := by
      rcases hl with h | h
      · cases h
      · exact h
    have hss : ∀ c ∈ ss, isDig c := fun c hc => hs c (List.mem_cons_of_mem _ hc)
    have hx := hs x (List.mem_cons_self)
    cases b with
    | nil =>
      have := dval_pos (x :: ss) hs (by simp) hl'
      simp [pfxLt, dval] at this ⊢
      exact this
    | cons d bs =>
      have hbs : ∀ c ∈ bs, isDig c := fun c hc => hb c (List.mem_cons_of_mem _ hc)
      have hd := hb d (List.mem_cons_self)
      have hlss : ss = [] ∨ ss.getLast? ≠ some 48 := by
        by_cases h : ss = []
        · exact Or.inl h
        · refine Or.inr ?_
          rw [List.getLast?_cons] at hl'
          cases h2 : ss.getLast? with
          | none => simp
          | some c => rw [h2] at hl'; simpa using hl'
      have v1 := dval_lt ss hss
      have v2 := dval_lt bs hbs
      have ih' := ih bs hss hbs hlss
      clear ih hs hb hl hl' hlss
      unfold isDig at hx hd
      rw [pfxLt]
      simp only [dval, List.length_cons]
      generalize dval ss = S at *
      generalize dval bs = B at *
      have p1 : 0 < 10 ^ ss.length := Nat.pow_pos (by omega)
      have p2 : 0 < 10 ^ bs.length := Nat.pow_pos (by omega)
      generalize ss.length = c at *
      generalize bs.length = n at *
      rw [Nat.pow_succ, Nat.pow_succ]
      obtain ⟨D, hD⟩ : ∃ D, d.toNat - 48 = D := ⟨_, rfl⟩
      obtain ⟨X, hX⟩ : ∃ X, x.toNat - 48 = X := ⟨_, rfl⟩
      rw [hD, hX]
      generalize 10 ^ c = C at *
      generalize 10 ^ n = N at *
      -- (D N + B) (C 10) < (X C + S) (N 10)
      have e1 : (D * N + B) * (C * 10) = 10 * (D * (N * C)) + 10 * (B * C) := by
        rw [Nat.add_mul, ← Nat.mul_assoc, ← Nat.mul_assoc, Nat.mul_assoc D N C]; omega
      have e2 : (X * C + S) * (N * 10) = 10 * (X * (N * C)) + 10 * (S * N) := by
        rw [Nat.add_mul, ← Nat.mul_assoc, ← Nat.mul_assoc, Nat.mul_assoc X C N, Nat.mul_comm C N]; omega
      rw [e1, e2]
      have b1 : B * C < N * C := Nat.mul_lt_mul_of_pos_right v2 p1
      have b2 : S * N < N * C := by rw [Nat.mul_comm N C]; exact Nat.mul_lt_mul_of_pos_right v1 p2
      split
      · rename_i h
        rw [ih']
        have : D = X := by rw [← hD, ← hX, h]
        subst this
        omega
      · rename_i h
        have hne : D ≠ X := by
          intro e
          apply h
          apply UInt8.toNat_inj.1
          omega
        rw [decide_eq_true_iff]
        have hq : d.toNat < x.toNat ↔ D < X := by omega
        rw [hq]
        constructor
        · intro hlt
          have : (D + 1) * (N * C) ≤ X * (N * C) := Nat.mul_le_mul_right _ hlt
          rw [Nat.add_mul, Nat.one_mul] at this
          omega
        · intro hlt
          by_cases h : D < X
          · exact h
          · have : (X + 1) * (N * C) ≤ D * (N * C) := Nat.mul_le_mul_right _ (by omega)
            rw [Nat.add_mul, Nat.one_mul] at this
            omega

/-- The rows of the cheat sheet, looked at one by one. -/
def cheatOk (k : Nat) : Bool :=
  chS k == digs (5 ^ k) (k + 1 - chN k) && decide (5 ^ k < 10 ^ (k + 1 - chN k)) && decide (10 ^ (k - chN k) ≤ 5 ^ k) && decide (1 ≤ chN k) && decide (chN k ≤ k) && decide (chN k ≤ 19) && decide (5 ^ k % 10 = 5)

theorem cheat_all : ∀ k, 1 ≤ k → k ≤ 60 → cheatOk k = true := by
  have h : (List.range 61).all (fun k => k == 0 || cheatOk k) = true := by decide +kernel
  intro k h1 h2
  rw [List.all_eq_true] at h
  have := h k (List.mem_range.2 (by omega))
  simp at this
  rcases this with h | h
  · omega
  · exact h
structure Cheat (k : Nat) : Prop where
  str : chS k = digs (5 ^ k) (k + 1 - chN k)
  lt : 5 ^ k < 10 ^ (k + 1 - chN k)
  le : 10 ^ (k - chN k) ≤ 5 ^ k
  pos : 1 ≤ chN k
  le_k : chN k ≤ k
  le19 : chN k ≤ 19
  last : 5 ^ k % 10 = 5

theorem cheat_row (k : Nat) (h1 : 1 ≤ k) (h2 : k ≤ 60) : Cheat k := by
  have h := cheat_all k h1 h2
  unfold cheatOk at h
  simp only [Bool.and_eq_true, decide_eq_true_eq, beq_iff_eq] at h
  obtain ⟨⟨⟨⟨⟨⟨a, b⟩, c⟩, d⟩, e⟩, f⟩, g⟩ := h
  exact ⟨a, b, c, d, e, f, g⟩

theorem cheat_digits (N k : Nat) (hN : N ≠ 0) (h1 : 1 ≤ k) (h2 : k ≤ 60) :
    nDig (N * 2 ^ k) + (if pfxLt (digs N (nDig N)) (chS k) = true then 1 else 0) = nDig N + chN k := by
  obtain ⟨hs, hlt, hle, hp, hk, h19, hlast⟩ := cheat_row k h1 h2
  obtain ⟨c, hc⟩ : ∃ c, k - chN k = c := ⟨_, rfl⟩
  have hc1 : k + 1 - chN k = c + 1 := by omega
  rw [hc1] at hs hlt
  rw [hc] at hle
  have hL := nDig_pos hN
  have hlow := nDig_low hN
  have hup := lt_pow_nDig N
  have key : pfxLt (digs N (nDig N)) (chS k) = true ↔ N * 10 ^ (c + 1) < 5 ^ k * 10 ^ nDig N := by
    rw [hs, pfxLt_val _ _ (isDig_digs _ _) (isDig_digs _ _) (Or.inr ?_), dval_digs, dval_digs, digs_length, digs_length, Nat.mod_eq_of_lt hup, Nat.mod_eq_of_lt hlt]
    rw [digs_succ, List.getLast?_concat]
    intro e
    have e2 : Lib.dg (5 ^ k) 0 = 48 := by simpa using e
    have := dg_toNat (5 ^ k) 0
    rw [e2, Nat.pow_zero, Nat.div_one, hlast] at this
    exact absurd this (by decide)
  generalize nDig N = L at *
  have h10 : 2 ^ k * 5 ^ k = 10 ^ k := by rw [← Nat.mul_pow]
  have p2 : 0 < 2 ^ k := Nat.pow_pos (by omega)
  have hk2 : k = c + chN k := by omega
  have pc : 0 < 10 ^ c := Nat.pow_pos (by omega)
  have pc1 : 0 < 10 ^ (c + 1) := Nat.pow_pos (by omega)
  -- 10^(delta-1) < 2^k, 2^k <= 10^delta
  have hA : 10 ^ (chN k - 1) < 2 ^ k := by
    refine Nat.lt_of_mul_lt_mul_right (a := 10 ^ (c + 1)) ?_
    rw [← Nat.pow_add, show chN k - 1 + (c + 1) = k by omega, ← h10]
    exact Nat.mul_lt_mul_of_pos_left hlt p2
  have hB : 2 ^ k ≤ 10 ^ chN k := by
    refine Nat.le_of_mul_le_mul_right ?_ pc
    rw [← Nat.pow_add, show chN k + c = k by omega, ← h10]
    exact Nat.mul_le_mul_left _ hle
  have hUp : N * 2 ^ k < 10 ^ (L + chN k) := by
    rw [Nat.pow_add]
    exact Nat.lt_of_lt_of_le (Nat.mul_lt_mul_of_pos_right hup p2) (Nat.mul_le_mul_left _ hB)
  have hLow : 10 ^ (L + chN k - 2) ≤ N * 2 ^ k := by
    rw [show L + chN k - 2 = (L - 1) + (chN k - 1) by omega, Nat.pow_add]
    exact Nat.mul_le_mul hlow (Nat.le_of_lt hA)
  have hmid : N * 10 ^ (c + 1) < 5 ^ k * 10 ^ L ↔ N * 2 ^ k < 10 ^ (L + chN k - 1) := by
    have e1 : N * 10 ^ (c + 1) * 2 ^ k = N * 2 ^ k * 10 ^ (c + 1) := Nat.mul_right_comm _ _ _
    have e2 : 5 ^ k * 10 ^ L * 2 ^ k = 10 ^ (L + chN k - 1) * 10 ^ (c + 1) := by
      rw [Nat.mul_right_comm, Nat.mul_comm (5 ^ k), h10, ← Nat.pow_add, ← Nat.pow_add]
      congr 1; omega
    rw [← Nat.mul_lt_mul_right p2, e1, e2, Nat.mul_lt_mul_right pc1]
  rw [hmid] at key
  by_cases h : pfxLt (digs N L) (chS k) = true
  · rw [if_pos h]
    have hm := key.1 h
    have hh := nDig_unique (L + chN k - 2) (N * 2 ^ k) hLow (by rw [show L + chN k - 2 + 1 = L + chN k - 1 by omega]; exact hm)
    omega
  · rw [if_neg h]
    have hm : 10 ^ (L + chN k - 1) ≤ N * 2 ^ k := by
      have := mt key.2 h
      omega
    have hh := nDig_unique (L + chN k - 1) (N * 2 ^ k) hm (by rw [show L + chN k - 1 + 1 = L + chN k by omega]; exact hUp)
    omega
end Go.Proofs.YtffooimnioigdaaDoor
