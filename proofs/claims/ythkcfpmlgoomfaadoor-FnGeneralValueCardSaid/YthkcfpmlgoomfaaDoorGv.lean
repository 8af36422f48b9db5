/-
  Lemmas and walks of functions, several texts in one.
-/
import Derived.Test.YthkcfpmlgoomfaaDoorGu
import Derived.Test.YthkcfpmlgoomfaaDoorGf
import Derived.Test.YthkcfpmlgoomfaaDoorGc
import Derived.Test.YthkcfpmlgoomfaaDoorGg
/-
  Plain: how the reference reads the decimal texts that the library writes.
-/
namespace Go.Proofs.YthkcfpmlgoomfaaDoor
open Go.RowKit
set_option linter.unusedSimpArgs false
set_option linter.unusedVariables false

def allD (b : Nat) (l : List UInt8) : Prop := ∀ c ∈ l, isD b c = true
theorem allD.cons {b : Nat} {c : UInt8} {l : List UInt8} (h : allD b (c :: l)) : isD b c = true ∧ allD b l := ⟨h c (by simp), fun x hx => h x (by simp [hx])⟩
theorem allD.append {b : Nat} {l m : List UInt8} (h : allD b l) (k : allD b m) : allD b (l ++ m) := fun c hc => (List.mem_append.1 hc).elim (h c) (k c)
theorem allD.take {b : Nat} {l : List UInt8} (h : allD b l) (n : Nat) : allD b (l.take n) := fun c hc => h c (List.mem_of_mem_take hc)
theorem allD.drop {b : Nat} {l : List UInt8} (h : allD b l) (n : Nat) : allD b (l.drop n) := fun c hc => h c (List.mem_of_mem_drop hc)
theorem allD.zeros (n : Nat) : allD 10 (List.replicate n 48) := fun c hc => by rw [(List.mem_replicate.1 hc).2]; decide
theorem allD_of_dig {l : List UInt8} (h : ∀ c ∈ l, isDig c) : allD 10 l := fun c hc => by
  unfold isD dig
  rw [if_pos (show 48 ≤ c.toNat ∧ c.toNat ≤ 57 from h c hc)]; rfl
theorem isD10 {c : UInt8} (h : isD 10 c = true) : 48 ≤ c.toNat ∧ c.toNat ≤ 57 := by
  unfold isD dig at h
  split at h
  · assumption
  · split at h
    · rename_i h2; exact absurd h2.2 (by decide)
    · cases h
theorem dig10 {c : UInt8} (h : isD 10 c = true) : dig 10 c = some (c.toNat - 48) := by unfold dig; rw [if_pos (isD10 h)]

/-- What follows the digits is none. -/
def stopD (b : Nat) (R : List UInt8) : Prop := R = [] ∨ ∃ c r, R = c :: r ∧ isD b c = false ∧ c ≠ 95
theorem runT_stop {b : Nat} {R : List UInt8} (h : stopD b R) : runT b R = 0 := by
  rcases h with rfl | ⟨c, r, rfl, h1, h2⟩
  · rfl
  · exact runT_no b c r h1 (fun d r' _ hh => h2 hh.1)
theorem runN_stop {b : Nat} {R : List UInt8} (h : stopD b R) : runN b R = 0 := by
  rcases h with rfl | ⟨c, r, rfl, h1, h2⟩
  · rfl
  · rw [runN, if_neg (by rw [h1]; simp)]
theorem runT_app {b : Nat} {A R : List UInt8} (hA : allD b A) (hR : stopD b R) : runT b (A ++ R) = A.length := by
  induction A with
  | nil => exact runT_stop hR
  | cons c r ih => rw [List.cons_append, runT_yes b c _ hA.cons.1, ih hA.cons.2, List.length_cons]; omega
theorem runN_app {b : Nat} {A R : List UInt8} (hA : allD b A) (hR : stopD b R) : runN b (A ++ R) = A.length := by
  cases A with
  | nil => exact runN_stop hR
  | cons c r => rw [List.cons_append, runN, if_pos hA.cons.1, runT_app hA.cons.2 hR, List.length_cons]; omega

def pT : Option (List UInt8) → List UInt8
  | none => []
  | some F => 46 :: F
def pF : Option (List UInt8) → List UInt8
  | none => []
  | some F => F
def xT (lt : UInt8) : Option (UInt8 × List UInt8) → List UInt8
  | none => []
  | some (sg, E) => lt :: sg :: E
def xV : Option (UInt8 × List UInt8) → Int
  | none => 0
  | some (sg, E) => if sg = 45 then -(expoN (dgL 10 E) : Int) else (expoN (dgL 10 E) : Int)
def okX : Option (UInt8 × List UInt8) → Prop
  | none => True
  | some (sg, E) => (sg = 43 ∨ sg = 45) ∧ allD 10 E ∧ E ≠ []

theorem stop_x (b : Nat) (lt : UInt8) (h1 : isD b lt = false) (h2 : lt ≠ 95) (X : Option (UInt8 × List UInt8)) : stopD b (xT lt X) := by
  cases X with
  | none => exact Or.inl rfl
  | some p => exact Or.inr ⟨lt, _, rfl, h1, h2⟩
theorem stop_px (b : Nat) (lt : UInt8) (h1 : isD b lt = false) (h2 : lt ≠ 95) (h3 : isD b 46 = false) (P : Option (List UInt8)) (X : Option (UInt8 × List UInt8)) : stopD b (pT P ++ xT lt X) := by
  cases P with
  | none => exact stop_x b lt h1 h2 X
  | some F => exact Or.inr ⟨46, _, rfl, h3, by decide⟩

theorem expoL_x (lt : UInt8) (sg : UInt8) (E : List UInt8) (h : okX (some (sg, E))) : expoL lt (lt :: sg :: E) = some (xV (some (sg, E))) := by
  obtain ⟨h1, h2, h3⟩ := h
  have hrun : runN 10 E = E.length := by have := runN_app (R := []) h2 (Or.inl rfl); rwa [List.append_nil] at this
  simp only [expoL]
  rw [if_neg (by simp)]
  rcases h1 with rfl | rfl
  · have e : sgL (43 :: E) = (false, E) := by simp [sgL]
    rw [e]
    unfold expoT
    rw [if_neg (by rw [hrun]; simp [h3])]
    rfl
  · have e : sgL (45 :: E) = (true, E) := by simp [sgL]
    rw [e]
    unfold expoT
    rw [if_neg (by rw [hrun]; simp [h3])]
    rfl

theorem cntL_all {b : Nat} {l : List UInt8} (h : allD b l) : cntL b l = l.length := by
  unfold cntL
  rw [List.countP_eq_length]
  exact h

/-- The parts of a number's text behind its head. -/
theorem num_parts (u A : List UInt8) (P : Option (List UInt8)) (X : Option (UInt8 × List UInt8)) (lt : UInt8) (hu : u.drop (nFrom u) = A ++ (pT P ++ xT lt X)) (hlt : nLetter u = lt) (hA0 : A ≠ []) (hA : allD (nBase u) A) (hF : allD (nBase u) (pF P)) (hX : okX X)
    (h1 : isD (nBase u) lt = false) (h2 : lt ≠ 95) (h2' : lt ≠ 46) (h3 : isD (nBase u) 46 = false) (hx16 : nBase u = 16 → X ≠ none) :
    numE u = some (xV X - ((nPer u * (pF P).length : Nat) : Int)) ∧ nDigits u = dgL (nBase u) (A ++ pF P) := by
  have hdl : u.length = nFrom u + (A ++ (pT P ++ xT lt X)).length := by
    have := congrArg List.length hu
    rw [List.length_drop] at this
    have h := nFrom_le u
    omega
  have hdrop : ∀ k, u.drop (nFrom u + k) = (A ++ (pT P ++ xT lt X)).drop k := fun k => by rw [← hu, List.drop_drop]
  have hget : ∀ k, u.getD (nFrom u + k) 0 = (A ++ (pT P ++ xT lt X)).getD k 0 := fun k => by
    rw [List.getD_eq_getElem?_getD, List.getD_eq_getElem?_getD, ← hu, List.getElem?_drop]
  have hr1 : runN (nBase u) (u.drop (nFrom u)) = A.length := by rw [hu]; exact runN_app hA (stop_px _ lt h1 h2 h3 P X)
  have hI1 : nI1 u = nFrom u + A.length := by unfold nI1; rw [hr1]
  have hfst : nFirst u = A := by unfold nFirst; rw [hr1, hu, List.take_left']; rfl
  have hat : u.getD (nI1 u) 0 = (pT P ++ xT lt X).getD 0 0 := by
    rw [hI1, hget, List.getD_eq_getElem?_getD, List.getD_eq_getElem?_getD, List.getElem?_append_right (Nat.le_refl _), Nat.sub_self]
  have hpt : nPt u ↔ P ≠ none := by
    unfold nPt
    rw [hat, hI1, hdl, List.length_append, List.length_append]
    cases P with
    | none =>
      simp only [pT, List.nil_append, ne_eq, not_true_eq_false, iff_false, not_and]
      intro _
      cases X with
      | none => simp [xT]
      | some p => simp only [xT, List.getD_cons_zero]; exact h2'
    | some F => simp [pT]; omega
  have hsnd : nSecond u = pF P ∧ nI2 u = nFrom u + (A ++ pT P).length := by
    unfold nSecond nI2
    cases P with
    | none => rw [if_neg (by rw [hpt]; simp), if_neg (by rw [hpt]; simp), hI1]; simp [pF, pT]
    | some F =>
      have hd2 : u.drop (nI1 u + 1) = F ++ xT lt X := by
        rw [hI1, Nat.add_assoc, hdrop, List.drop_append, List.drop_of_length_le (by omega), Nat.add_sub_cancel_left]; rfl
      have hr2 : runN (nBase u) (u.drop (nI1 u + 1)) = F.length := by rw [hd2]; exact runN_app hF (stop_x _ lt h1 h2 X)
      rw [if_pos (hpt.2 (by simp)), if_pos (hpt.2 (by simp)), hr2, hd2, List.take_left' rfl]
      refine ⟨rfl, ?_⟩
      rw [hI1]
      simp only [pT, List.length_append, List.length_cons]
      omega
  have hdX : u.drop (nI2 u) = xT lt X := by
    rw [hsnd.2, hdrop, ← List.append_assoc, List.drop_left' rfl]
  have hexp : nExp u = some (xV X) := by
    unfold nExp
    rw [hlt, hdX]
    have hlen : nI2 u < u.length ↔ X ≠ none := by
      rw [hsnd.2, hdl]
      simp only [List.length_append]
      cases X with
      | none => simp [xT]
      | some p => simp [xT]
    cases X with
    | none =>
      rw [if_neg]
      · rfl
      · rintro (h | h)
        · exact absurd rfl (hlen.1 h)
        · exact absurd rfl (hx16 h)
    | some p => rw [if_pos (Or.inl (hlen.2 (by simp)))]; exact expoL_x lt p.1 p.2 hX
  refine ⟨?_, by unfold nDigits; rw [hfst, hsnd.1]⟩
  unfold numE
  rw [hfst, hsnd.1, if_neg (fun h => hA0 h.1), hexp, cntL_all hF]
  rfl

theorem lowL_id (s : List UInt8) (h : ∀ c ∈ s, ¬ (65 ≤ c.toNat ∧ c.toNat ≤ 90)) : lowL s = s := by
  unfold lowL
  induction s with
  | nil => rfl
  | cons c r ih =>
    rw [List.map_cons, ih (fun x hx => h x (by simp [hx]))]
    unfold lowB
    rw [if_neg (h c (by simp))]

theorem readL_of (neg : Bool) (u : List UInt8) (c : UInt8) (r : List UInt8) (hu : u = c :: r) (hc : isD 10 c = true) (hl : lowL u = u) (x : Int) (hx : numE u = some x) : readL (eSign neg ++ u) = some ⟨0, neg, nBase u, nDigits u, x⟩ := by
  have hcc := isD10 hc
  have ne : ∀ k : UInt8, ¬ (48 ≤ k.toNat ∧ k.toNat ≤ 57) → c ≠ k := fun k hk e => hk (e ▸ hcc)
  have hlow : lowL (eSign neg ++ u) = eSign neg ++ u := by
    have : lowL (eSign neg ++ u) = lowL (eSign neg) ++ lowL u := by unfold lowL; rw [List.map_append]
    rw [this, hl]
    cases neg <;> rfl
  have hsg : sgL (eSign neg ++ u) = (neg, u) := by
    rw [hu]
    cases neg
    · simp only [eSign, Bool.false_eq_true, if_false, List.nil_append, sgL]
      rw [if_neg (ne 43 (by decide)), if_neg (ne 45 (by decide))]
    · simp [eSign, sgL]
  unfold readL
  rw [hlow, hsg, if_neg]
  · unfold readU
    rw [if_neg, hx]
    · rfl
    · rw [hu]
      rintro (h | h)
      · exact ne 105 (by decide) (List.cons.inj h).1
      · exact ne 105 (by decide) (List.cons.inj h).1
  · rw [hu]
    intro h
    cases neg
    · exact ne 110 (by decide) (List.cons.inj h).1
    · have := (List.cons.inj h).1
      revert this; decide

/-- A decimal text. -/
theorem readL_dec (neg : Bool) (A : List UInt8) (P : Option (List UInt8)) (X : Option (UInt8 × List UInt8)) (hA0 : A ≠ []) (hA : allD 10 A) (hF : allD 10 (pF P)) (hX : okX X) :
    readL (eSign neg ++ (A ++ (pT P ++ xT 101 X))) = some ⟨0, neg, 10, dgL 10 (A ++ pF P), xV X - (((pF P).length : Nat) : Int)⟩ := by
  obtain ⟨u, hu⟩ : ∃ u, A ++ (pT P ++ xT 101 X) = u := ⟨_, rfl⟩
  rw [hu]
  have hmem : ∀ c ∈ u, (48 ≤ c.toNat ∧ c.toNat ≤ 57) ∨ c = 46 ∨ c = 101 ∨ c = 43 ∨ c = 45 := by
    intro c hc
    rw [← hu, List.mem_append, List.mem_append] at hc
    rcases hc with hc | hc | hc
    · exact Or.inl (isD10 (hA c hc))
    · cases P with
      | none => cases hc
      | some F =>
        rcases List.mem_cons.1 hc with h | h
        · exact Or.inr (Or.inl h)
        · exact Or.inl (isD10 (hF c h))
    · cases X with
      | none => cases hc
      | some p =>
        obtain ⟨sg, E⟩ := p
        obtain ⟨h1, h2, h3⟩ := hX
        simp only [xT, List.mem_cons] at hc
        rcases hc with h | h | h
        · exact Or.inr (Or.inr (Or.inl h))
        · rcases h1 with rfl | rfl
          · exact Or.inr (Or.inr (Or.inr (Or.inl h)))
          · exact Or.inr (Or.inr (Or.inr (Or.inr h)))
        · exact Or.inl (isD10 (h2 c h))
  have hnx : ¬ hexH u := by
    rintro ⟨h1, _, h3⟩
    have hm : u.getD 1 0 ∈ u := by rw [List.getD_eq_getElem?_getD, List.getElem?_eq_getElem h1]; exact List.getElem_mem _
    rw [h3] at hm
    rcases hmem 120 hm with h | h | h | h | h <;> revert h <;> decide
  have hb : nBase u = 10 := by unfold nBase; rw [if_neg hnx]
  have hf0 : nFrom u = 0 := by unfold nFrom; rw [if_neg hnx]
  have hp : nPer u = 1 := by unfold nPer; rw [hb]; rfl
  have hl : nLetter u = 101 := by unfold nLetter; rw [hb]; rfl
  obtain ⟨h1, h2⟩ := num_parts u A P X 101 (by rw [hf0, List.drop_zero, hu]) hl hA0 (by rw [hb]; exact hA) (by rw [hb]; exact hF) hX (by rw [hb]; decide) (by decide) (by decide) (by rw [hb]; decide) (by rw [hb]; intro h; cases h)
  rw [hp, Nat.one_mul] at h1
  rw [hb] at h2
  obtain ⟨c, r, hcr⟩ : ∃ c r, u = c :: r := by
    cases A with
    | nil => exact absurd rfl hA0
    | cons c r => exact ⟨c, _, hu.symm⟩
  have hcd : isD 10 c = true := by
    cases A with
    | nil => exact absurd rfl hA0
    | cons c' r' =>
      have := hu.trans hcr
      rw [List.cons_append] at this
      rw [← (List.cons.inj this).1]
      exact hA.cons.1
  have := readL_of neg u c r hcr hcd (lowL_id u (fun c hc => by rcases hmem c hc with h | rfl | rfl | rfl | rfl <;> first | omega | decide)) _ h1
  rw [this, hb, h2]
end Go.Proofs.YthkcfpmlgoomfaaDoor

/-
  Plain: the value of a decimal text; the values of the texts in the formats e and f.
-/
namespace Go.Proofs.YthkcfpmlgoomfaaDoor
open Go.RowKit
set_option linter.unusedSimpArgs false
set_option linter.unusedVariables false

theorem tval_append (b : Nat) (l : List Nat) (d : Nat) : tval b (l ++ [d]) = tval b l * b + d := by unfold tval; rw [List.foldl_append]; rfl
theorem nDig_step (v d : Nat) (hv : v ≠ 0) (hd : d ≤ 9) : nDig (v * 10 + d) = nDig v + 1 := by
  have h1 := nDig_low hv
  have h2 := lt_pow_nDig v
  have h3 := nDig_pos hv
  obtain ⟨k, hk⟩ : ∃ k, nDig v = k + 1 := ⟨nDig v - 1, by omega⟩
  rw [hk] at h1 h2 ⊢
  rw [Nat.add_sub_cancel] at h1
  refine nDig_unique (k + 1) _ ?_ ?_
  · rw [Nat.pow_succ]; omega
  · rw [Nat.pow_succ]; omega
theorem dgL_app (b : Nat) (l : List UInt8) (c : UInt8) : dgL b (l ++ [c]) = dgStep b (dgL b l) c := by unfold dgL; rw [List.foldl_append]; rfl

theorem dgL_dec (n : Nat) : ∀ (l : List UInt8), l.length = n → allD 10 l → tval 10 (dgL 10 l) = dval l ∧ (dgL 10 l).length = nDig (dval l) := by
  induction n with
  | zero =>
    intro l hl _
    have : l = [] := List.length_eq_zero_iff.1 hl
    subst this
    exact ⟨rfl, rfl⟩
  | succ n ih =>
    intro l hl hA
    have hne : l ≠ [] := by intro h; rw [h] at hl; cases hl
    obtain ⟨m, c, rfl⟩ : ∃ m c, l = m ++ [c] := ⟨l.dropLast, l.getLast hne, (List.dropLast_concat_getLast hne).symm⟩
    have hm : m.length = n := by rw [List.length_append] at hl; simpa using hl
    obtain ⟨h1, h2⟩ := ih m hm (fun x hx => hA x (by simp [hx]))
    have hc := hA c (by simp)
    have hcc := isD10 hc
    rw [dgL_app, dval_append]
    unfold dgStep
    rw [dig10 hc]
    dsimp only
    by_cases h : 0 < c.toNat - 48 ∨ dgL 10 m ≠ []
    · rw [if_pos h, tval_append, h1, List.length_append, h2]
      refine ⟨rfl, ?_⟩
      by_cases h0 : dval m = 0
      · rw [h0, nDig_zero]
        have h3 : dgL 10 m = [] := by rw [h0, nDig_zero] at h2; exact List.length_eq_zero_iff.1 h2
        have h4 : 0 < c.toNat - 48 := h.resolve_right (fun hh => hh h3)
        rw [Nat.zero_mul, Nat.zero_add]
        exact (nDig_unique 0 _ (by omega) (by omega)).symm
      · exact (nDig_step _ _ h0 (by omega)).symm
    · rw [if_neg h]
      have h3 : dgL 10 m = [] := Classical.byContradiction (fun hh => h (Or.inr hh))
      have h4 : c.toNat - 48 = 0 := by have := fun hh => h (Or.inl hh); omega
      have h5 : dval m = 0 := by rw [← h1, h3]; rfl
      rw [h3, h4, h5]
      exact ⟨rfl, rfl⟩

/-- The value of digits v with an exponent of ten. -/
def rdV (neg : Bool) (v : Nat) (x : Int) : Bool × Nat × Nat := if v = 0 then (neg, 0, 1) else (neg, v * 10 ^ x.toNat, 10 ^ (-x).toNat)

theorem ratL_dec (neg : Bool) (A : List UInt8) (P : Option (List UInt8)) (X : Option (UInt8 × List UInt8)) (hA0 : A ≠ []) (hA : allD 10 A) (hF : allD 10 (pF P)) (hX : okX X)
    (h1 : dval (A ++ pF P) ≠ 0 → (nDig (dval (A ++ pF P)) : Int) - 1 + (xV X - (((pF P).length : Nat) : Int)) ≤ 400) (h2 : dval (A ++ pF P) ≠ 0 → -400 ≤ (nDig (dval (A ++ pF P)) : Int) - 1 + (xV X - (((pF P).length : Nat) : Int))) :
    ratL (eSign neg ++ (A ++ (pT P ++ xT 101 X))) = some (rdV neg (dval (A ++ pF P)) (xV X - (((pF P).length : Nat) : Int))) := by
  unfold ratL
  rw [readL_dec neg A P X hA0 hA hF hX]
  dsimp only
  obtain ⟨h3, h4⟩ := dgL_dec _ (A ++ pF P) rfl (hA.append hF)
  rw [if_neg (by simp)]
  unfold rdV
  by_cases h0 : dval (A ++ pF P) = 0
  · have h5 : dgL 10 (A ++ pF P) = [] := by rw [h0, nDig_zero] at h4; exact List.length_eq_zero_iff.1 h4
    rw [if_pos h5, if_pos h0]
  · have h5 : dgL 10 (A ++ pF P) ≠ [] := by intro h; apply h0; rw [← h3, h]; rfl
    have hord : ordI 10 (dgL 10 (A ++ pF P)) (xV X - (((pF P).length : Nat) : Int)) = 0 := by
      unfold ordI
      rw [if_neg h5, if_neg (by decide), h4]
      have := h1 h0
      have := h2 h0
      rw [if_neg (by omega), if_neg (by omega)]
    rw [if_neg h5, if_neg (fun h => h hord), if_neg h0, h3]
    rfl

/-- Two ways to write one value. -/
theorem rat_same (V : Nat) (E : Int) (k1 k2 : Nat) : (V * 10 ^ k1 * 10 ^ (E - (k1 : Int)).toNat) * 10 ^ (-(E - (k2 : Int))).toNat = (V * 10 ^ k2 * 10 ^ (E - (k2 : Int)).toNat) * 10 ^ (-(E - (k1 : Int))).toNat := by
  simp only [Nat.mul_assoc, ← Nat.pow_add]
  congr 2
  omega

theorem dval_zeros (l : List UInt8) (k : Nat) : dval (l ++ List.replicate k 48) = dval l * 10 ^ k := by
  induction k with
  | zero => simp
  | succ k ih =>
    rw [List.replicate_succ', ← List.append_assoc, dval_append, ih, Nat.pow_succ]
    show dval l * 10 ^ k * 10 + 0 = _
    rw [Nat.add_zero, Nat.mul_assoc]
theorem dval_lead (k : Nat) (l : List UInt8) : dval (List.replicate k 48 ++ l) = dval l := by
  induction k with
  | zero => simp
  | succ k ih =>
    rw [List.replicate_succ, List.cons_append, dval, ih]
    show 0 * _ + _ = _
    omega

theorem expoN_min (n : Nat) : ∀ l : List Nat, l.length = n → expoN l = min (tval 10 l) 1000000000000000 := by
  induction n with
  | zero => intro l hl; rw [List.length_eq_zero_iff.1 hl]; rfl
  | succ n ih =>
    intro l hl
    have hne : l ≠ [] := by intro h; rw [h] at hl; cases hl
    obtain ⟨m, c, rfl⟩ : ∃ m c, l = m ++ [c] := ⟨l.dropLast, l.getLast hne, (List.dropLast_concat_getLast hne).symm⟩
    have hm := ih m (by rw [List.length_append] at hl; simpa using hl)
    have e : expoN (m ++ [c]) = min (expoN m * 10 + c) 1000000000000000 := by unfold expoN; rw [List.foldl_append]; rfl
    rw [e, hm, tval_append]
    omega
theorem expoN_dec (E : List UInt8) (h : allD 10 E) (hl : dval E < 1000000000000000) : expoN (dgL 10 E) = dval E := by
  rw [expoN_min _ _ rfl, (dgL_dec _ E rfl h).1]
  omega

theorem isDig_of (n : Nat) (h : n ≤ 9) : isD 10 (UInt8.ofNat (48 + n)) = true ∧ (UInt8.ofNat (48 + n)).toNat = 48 + n := by
  have e : (UInt8.ofNat (48 + n)).toNat = 48 + n := by rw [UInt8.toNat_ofNat']; omega
  refine ⟨?_, e⟩
  unfold isD dig
  rw [e, if_pos (by omega)]; rfl

/-- The exponent that the library writes. -/
theorem expL_x (e : Int) (h1 : -999 ≤ e) (h2 : e ≤ 999) : ∃ sg E, expL e = sg :: E ∧ okX (some (sg, E)) ∧ xV (some (sg, E)) = e := by
  have key : ∀ E : List UInt8, allD 10 E → E ≠ [] → dval E = e.natAbs → okX (some ((if e < 0 then 45 else 43), E)) ∧ xV (some ((if e < 0 then 45 else 43), E)) = e := by
    intro E hE h0 hv
    refine ⟨⟨by split <;> simp, hE, h0⟩, ?_⟩
    dsimp only [xV]
    rw [expoN_dec E hE (by omega), hv]
    by_cases hn : e < 0
    · rw [if_pos hn, if_pos rfl]; omega
    · rw [if_neg hn, if_neg (by decide)]; omega
  unfold expL
  by_cases h10 : e.natAbs < 10
  · rw [if_pos h10]
    obtain ⟨i1, i2⟩ := isDig_of e.natAbs (by omega)
    refine ⟨_, _, rfl, key _ ?_ (by simp) ?_⟩
    · intro c hc
      simp only [List.mem_cons, List.not_mem_nil, or_false] at hc
      rcases hc with rfl | rfl
      · decide
      · exact i1
    · simp only [dval, i2, List.length_cons, List.length_nil]
      show 0 * _ + _ = _
      omega
  · by_cases h100 : e.natAbs < 100
    · rw [if_neg h10, if_pos h100]
      obtain ⟨i1, i2⟩ := isDig_of (e.natAbs / 10) (by omega)
      obtain ⟨j1, j2⟩ := isDig_of (e.natAbs % 10) (by omega)
      refine ⟨_, _, rfl, key _ ?_ (by simp) ?_⟩
      · intro c hc
        simp only [List.mem_cons, List.not_mem_nil, or_false] at hc
        rcases hc with rfl | rfl
        · exact i1
        · exact j1
      · simp only [dval, i2, j2, List.length_cons, List.length_nil]
        omega
    · rw [if_neg h10, if_neg h100]
      obtain ⟨i1, i2⟩ := isDig_of (e.natAbs / 100) (by omega)
      obtain ⟨j1, j2⟩ := isDig_of (e.natAbs / 10 % 10) (by omega)
      obtain ⟨k1, k2⟩ := isDig_of (e.natAbs % 10) (by omega)
      refine ⟨_, _, rfl, key _ ?_ (by simp) ?_⟩
      · intro c hc
        simp only [List.mem_cons, List.not_mem_nil, or_false] at hc
        rcases hc with rfl | rfl | rfl
        · exact i1
        · exact j1
        · exact k1
      · simp only [dval, i2, j2, k2, List.length_cons, List.length_nil]
        omega

/-- The exponent of ten of digits ds with the point at dp: their value is dval ds * 10 ^ dx. -/
def dxv (ds : List UInt8) (dp : Int) : Int := dp - (ds.length : Int)

/-- The value of a text in the format e that shows all digits. -/
theorem ratL_e (neg : Bool) (ds : List UInt8) (dp pr : Int) (hd : ∀ c ∈ ds, isDig c) (hpr : (ds.length : Int) - 1 ≤ pr) (hdp1 : -390 ≤ dp) (hdp2 : dp ≤ 390) (hlead : ds ≠ [] → nDig (dval ds) = ds.length) (hpr2 : pr ≤ 100000) (hl : ds.length ≤ 1000) :
    ∃ k : Nat, (k : Int) ≤ 400 + max pr 0 ∧ ratL (efgE neg ds dp pr 101) = some (rdV neg (dval ds * 10 ^ k) (dxv ds dp - (k : Int))) := by
  have hA := allD_of_dig hd
  have hee : -999 ≤ eExp ds dp ∧ eExp ds dp ≤ 999 := by unfold eExp; split <;> omega
  obtain ⟨sg, E, hE, hok, hxv⟩ := expL_x (eExp ds dp) hee.1 hee.2
  unfold efgE
  rw [hE]
  -- head and fraction
  have hfr : ∃ P : Option (List UInt8), eFrac ds pr = pT P ∧ allD 10 (pF P) ∧ [ds.headD 48] ++ pF P = (if ds = [] then [48] else ds) ++ List.replicate ((if ds = [] then pr else pr - ((ds.length : Int) - 1))).toNat 48 ∧ ((pF P).length : Int) = max pr 0 := by
    unfold eFrac
    by_cases h0 : 0 < pr
    · rw [if_pos h0]
      refine ⟨some _, rfl, ?_, ?_, ?_⟩
      · exact ((hA.drop 1).take _).append (allD.zeros _)
      · cases ds with
        | nil => simp [pF]
        | cons c r =>
          have hr : (r.length : Int) ≤ pr := by simp only [List.length_cons] at hpr; omega
          simp only [pF, List.headD_cons, List.drop_succ_cons, List.drop_zero, reduceCtorEq, if_false, List.length_cons]
          rw [List.take_of_length_le (by omega)]
          rw [← List.append_assoc]
          congr 2
          omega
      · simp only [pF, List.length_append, List.length_replicate, List.length_take, List.length_drop]
        omega
    · rw [if_neg h0]
      refine ⟨none, rfl, ?_, ?_, ?_⟩
      · intro c hc; cases hc
      · cases ds with
        | nil => simp [pF]; omega
        | cons c r =>
          simp only [List.length_cons] at hpr
          have hr : r = [] := List.length_eq_zero_iff.1 (by omega)
          subst hr
          simp [pF]
          omega
      · simp [pF]; omega
  obtain ⟨P, hP, hF, hAF, hFl⟩ := hfr
  rw [hP]
  have hsh : eSign neg ++ ([ds.headD 48] ++ (pT P ++ ([UInt8.ofNat (101 : Int).toNat] ++ sg :: E))) = eSign neg ++ ([ds.headD 48] ++ (pT P ++ xT 101 (some (sg, E)))) := rfl
  rw [hsh]
  have hhd : allD 10 [ds.headD 48] := by
    intro c hc
    rw [List.mem_singleton.1 hc]
    cases ds with
    | nil => decide
    | cons c r => exact hA c (by simp)
  by_cases h0 : ds = []
  · subst h0
    have hv : dval ([([] : List UInt8).headD 48] ++ pF P) = 0 := by
      rw [hAF, if_pos rfl, dval_zeros]
      have : dval [48] = 0 := rfl
      rw [this, Nat.zero_mul]
    refine ⟨0, by omega, ?_⟩
    rw [ratL_dec neg _ P (some (sg, E)) (by simp) hhd hF hok (fun h => absurd hv h) (fun h => absurd hv h), hv]
    simp [rdV, dval]
  · have hv : dval ([ds.headD 48] ++ pF P) = dval ds * 10 ^ (pr - ((ds.length : Int) - 1)).toNat := by
      rw [hAF, if_neg h0, if_neg h0, dval_zeros]
    have hln := hlead h0
    have hlpos : 1 ≤ ds.length := by cases ds with
      | nil => exact absurd rfl h0
      | cons c r => simp
    have hds0 : dval ds ≠ 0 := by intro h; rw [h, nDig_zero] at hln; omega
    have hnd : nDig (dval ds * 10 ^ (pr - ((ds.length : Int) - 1)).toNat) = ds.length + (pr - ((ds.length : Int) - 1)).toNat := by
      generalize (pr - ((ds.length : Int) - 1)).toNat = k
      induction k with
      | zero => simpa using hln
      | succ k ih =>
        rw [Nat.pow_succ, ← Nat.mul_assoc, nDig_mul10 (Nat.mul_ne_zero hds0 (Nat.ne_of_gt (Nat.pow_pos (by omega)))), ih]
        omega
    have hx : eExp ds dp = dp - 1 := by unfold eExp; rw [if_neg h0]
    refine ⟨(pr - ((ds.length : Int) - 1)).toNat, by omega, ?_⟩
    rw [ratL_dec neg _ P (some (sg, E)) (by simp) hhd hF hok (fun _ => by rw [hv, hnd, hxv, hx]; omega) (fun _ => by rw [hv, hnd, hxv, hx]; omega), hv, hxv, hx]
    congr 2
    unfold dxv
    omega
end Go.Proofs.YthkcfpmlgoomfaaDoor

/-
  Plain: the values of the texts in the format f.
-/
namespace Go.Proofs.YthkcfpmlgoomfaaDoor
open Go.RowKit
set_option linter.unusedSimpArgs false
set_option linter.unusedVariables false

/-- The digits of a text in the format f that shows them all. -/
theorem f_parts (ds : List UInt8) (dp pr : Int) (hA : allD 10 ds) (hpr : (ds.length : Int) - dp ≤ max pr 0) :
    ∃ (P : Option (List UInt8)) (j : Nat), fFrac ds dp pr = pT P ∧ allD 10 (pF P) ∧ allD 10 (fInt ds dp) ∧ fInt ds dp ≠ [] ∧ fInt ds dp ++ pF P = List.replicate j 48 ++ (ds ++ List.replicate (dp - (ds.length : Int) + max pr 0).toNat 48) ∧ ((pF P).length : Int) = max pr 0 := by
  have hI : allD 10 (fInt ds dp) := by
    unfold fInt
    split
    · exact (hA.take _).append (allD.zeros _)
    · intro c hc; rw [List.mem_singleton.1 hc]; decide
  have hI0 : fInt ds dp ≠ [] := by
    unfold fInt
    split
    · rename_i h
      intro h2
      have := congrArg List.length h2
      simp only [List.length_append, List.length_take, List.length_replicate, List.length_nil] at this
      omega
    · simp
  unfold fFrac
  by_cases h0 : 0 < pr
  · rw [if_pos h0]
    by_cases hdp : 0 < dp
    · have hlz : fLz dp pr = 0 := by unfold fLz; omega
      have hM : fM ds.length dp pr = max 0 ((ds.length : Int) - dp) := by unfold fM; rw [hlz]; omega
      rw [hlz, hM, Int.add_zero]
      refine ⟨some _, 0, rfl, ?_, hI, hI0, ?_, ?_⟩
      · exact (allD.zeros _).append (((hA.drop _).take _).append (allD.zeros _))
      · unfold fInt
        rw [if_pos hdp]
        simp only [pF, List.replicate_zero, List.nil_append, Int.toNat_zero]
        by_cases h1 : (ds.length : Int) ≤ dp
        · rw [List.take_of_length_le (by omega), List.drop_of_length_le (by omega)]
          simp only [List.take_nil, List.nil_append, List.append_assoc]
          rw [List.append_cancel_left_eq, List.replicate_append_replicate]
          congr 1
          omega
        · rw [show dp.toNat - ds.length = 0 by omega, List.replicate_zero, List.append_nil, List.take_of_length_le (l := ds.drop dp.toNat) (by rw [List.length_drop]; omega), ← List.append_assoc, List.take_append_drop]
          congr 2
          omega
      · simp only [pF, List.length_append, List.length_replicate, List.length_take, List.length_drop]
        omega
    · have hlz : fLz dp pr = -dp := by unfold fLz; omega
      have hM : fM ds.length dp pr = ds.length := by unfold fM; rw [hlz]; omega
      rw [hlz, hM, show dp + -dp = 0 by omega]
      refine ⟨some _, (1 - dp).toNat, rfl, ?_, hI, hI0, ?_, ?_⟩
      · exact (allD.zeros _).append (((hA.drop _).take _).append (allD.zeros _))
      · unfold fInt
        rw [if_neg hdp]
        simp only [pF, Int.toNat_zero, List.drop_zero]
        rw [List.take_of_length_le (by omega), show (1 - dp).toNat = (-dp).toNat + 1 by omega, List.replicate_succ, List.cons_append, List.cons_append, List.nil_append]
        congr 3
        congr 1
        omega
      · simp only [pF, List.length_append, List.length_replicate, List.length_take, List.length_drop]
        omega
  · rw [if_neg h0]
    have hmx : max pr 0 = 0 := by omega
    rw [hmx]
    by_cases hdp : 0 < dp
    · refine ⟨none, 0, rfl, (by intro c hc; cases hc), hI, hI0, ?_, rfl⟩
      unfold fInt
      rw [if_pos hdp, List.take_of_length_le (by omega)]
      simp only [pF, List.append_nil, List.replicate_zero, List.nil_append]
      congr 2
      omega
    · have hn : ds = [] := List.length_eq_zero_iff.1 (by omega)
      subst hn
      refine ⟨none, 1, rfl, (by intro c hc; cases hc), hI, hI0, ?_, rfl⟩
      unfold fInt
      rw [if_neg hdp]
      simp only [pF, List.length_nil, List.append_nil, List.nil_append] at *
      have : (dp - ((0 : Nat) : Int) + 0).toNat = 0 := by omega
      rw [this]
      rfl

theorem nDig_pow (v k n : Nat) (h0 : v ≠ 0) (hv : nDig v = n) : nDig (v * 10 ^ k) = n + k := by
  induction k with
  | zero => simpa using hv
  | succ k ih =>
    rw [Nat.pow_succ, ← Nat.mul_assoc, nDig_mul10 (Nat.mul_ne_zero h0 (Nat.ne_of_gt (Nat.pow_pos (by omega)))), ih]
    omega

/-- The value of a text in the format f that shows all digits. -/
theorem ratL_f (neg : Bool) (ds : List UInt8) (dp pr : Int) (hd : ∀ c ∈ ds, isDig c) (hpr : (ds.length : Int) - dp ≤ max pr 0) (hdp1 : -390 ≤ dp) (hdp2 : dp ≤ 390) (hlead : ds ≠ [] → nDig (dval ds) = ds.length) :
    ∃ k : Nat, (k : Int) ≤ 400 + max pr 0 ∧ ratL (efgF neg ds dp pr) = some (rdV neg (dval ds * 10 ^ k) (dxv ds dp - (k : Int))) := by
  obtain ⟨P, j, h1, h2, h3, h4, h5, h6⟩ := f_parts ds dp pr (allD_of_dig hd) hpr
  have hv : dval (fInt ds dp ++ pF P) = dval ds * 10 ^ (dp - (ds.length : Int) + max pr 0).toNat := by rw [h5, dval_lead, dval_zeros]
  unfold efgF
  rw [h1, show pT P = pT P ++ xT 101 none by simp [xT]]
  by_cases h0 : dval ds = 0
  · have hz : dval (fInt ds dp ++ pF P) = 0 := by rw [hv, h0, Nat.zero_mul]
    refine ⟨0, by omega, ?_⟩
    rw [ratL_dec neg _ P none h4 h3 h2 trivial (fun h => absurd hz h) (fun h => absurd hz h), hz, h0]
    simp [rdV]
  · have hne : ds ≠ [] := by intro h; rw [h] at h0; exact h0 rfl
    have hnd := nDig_pow (dval ds) (dp - (ds.length : Int) + max pr 0).toNat _ h0 (hlead hne)
    have hx : xV none - (((pF P).length : Nat) : Int) = -max pr 0 := by show (0 : Int) - _ = _; omega
    refine ⟨(dp - (ds.length : Int) + max pr 0).toNat, by omega, ?_⟩
    rw [ratL_dec neg _ P none h4 h3 h2 trivial (fun _ => by rw [hv, hnd, hx]; omega) (fun _ => by rw [hv, hnd, hx]; omega), hv, hx]
    congr 2
    unfold dxv
    omega
end Go.Proofs.YthkcfpmlgoomfaaDoor

/-
  Walk of laws.equalText.
-/
namespace Go.Proofs.YthkcfpmlgoomfaaDoor
open Go.RowKit
set_option linter.unusedSimpArgs false
set_option linter.unusedVariables false
attribute [local go_sem] undef

set_option maxRecDepth 100000 in
set_option maxHeartbeats 4000000 in
theorem equalText_any (a b : List UInt8) (w : World) (ha : a.length ≤ 2500) (hb : b.length ≤ 2500) (g1 g2 : Bool) (n1 d1 n2 d2 : Nat) (h1 : ratL a = some (g1, n1, d1)) (h2 : ratL b = some (g2, n2, d2))
    (x1 : (natL n1).length ≤ 40000) (x2 : (natL d1).length ≤ 40000) (x3 : (natL n2).length ≤ 40000) (x4 : (natL d2).length ≤ 40000) (hz : n1 = 0 ↔ n2 = 0) (hs : n1 ≠ 0 → g1 = g2) (heq : n1 * d2 = n2 * d1) :
    Calls Tryd.prog 24 #[.string ⟨a.toArray⟩, .string ⟨b.toArray⟩] w fun e w' => e = .returned (.bool true) ∧ w.grownBy w' none := by
  have hA := fun W => rationalOf_any a W ha
  have hB := fun W => rationalOf_any b W hb
  unfold RatPost at hA hB
  rw [h1] at hA
  rw [h2] at hB
  dsimp only at hA hB
  have HA := Lib.hid hA
  have HB := Lib.hid hB
  have HC := Lib.hid (fun u1 u2 u3 u4 W k1 k2 k3 k4 => cmpRat_eq g1 g2 u1 u2 u3 u4 n1 d1 n2 d2 W k1 k2 k3 k4 x1 x2 x3 x4 hz hs heq)
  clear hA hB h1 h2 ha hb x1 x2 x3 x4 hz hs heq
  refine calls_F Tryd.func24 rfl (by rw [Tryd.ntmps24]; simp) ?_
  intro σ hσ
  rw [Tryd.ntmps24]
  have s0 : σ 0 = .string ⟨a.toArray⟩ := hσ 0 (by simp)
  have s1 : σ 1 = .string ⟨b.toArray⟩ := hσ 1 (by simp)
  clear hσ
  go_wp2_with fail
  refine (HA.out _).mono ?_
  rintro e w1 ⟨hg1, vr, rfl, vn, vd, rfl, hvn, hvd⟩
  obtain ⟨an, cn, rfl⟩ := hvn.len
  obtain ⟨ad, cd, rfl⟩ := hvd.len
  generalize (natL n1).length = Ln at *
  generalize (natL d1).length = Ld at *
  have hrA := Row.new w1 [.bool g1, .slice an Ln cn, .slice ad Ld cd] 33
  have hgA := World.grownBy_alloc w1 (.cells #[.bool g1, .slice an Ln cn, .slice ad Ld cd] 33) none
  obtain ⟨w2, hw2⟩ : ∃ w2, w1.alloc (.cells #[.bool g1, .slice an Ln cn, .slice ad Ld cd] 33) = w2 := ⟨_, rfl⟩
  have hrA' : Row w2 w1.heap.size [.bool g1, .slice an Ln cn, .slice ad Ld cd] := by rw [← hw2]; exact hrA
  obtain ⟨A, hAd⟩ : ∃ A, w1.heap.size = A := ⟨_, rfl⟩
  rw [hw2] at hgA
  rw [hAd] at hrA'
  have HW2 := Lib.hid hw2
  have HAD := Lib.hid hAd
  have HRA := Lib.hid hrA'
  have HVN := Lib.hid (hvn.grown hgA)
  have HVD := Lib.hid (hvd.grown hgA)
  have HG2 := Lib.hid (grown_none_tr hg1 hgA)
  clear hrA hrA' hw2 hAd hvn hvd hgA hg1
  go_upto_region 2 with fail
  rw [HW2.out, HAD.out]
  go_wp2_with fail
  refine (HB.out _).mono ?_
  rintro e w3 ⟨hg3, vr, rfl, vn, vd, rfl, hvn, hvd⟩
  obtain ⟨bn, en, rfl⟩ := hvn.len
  obtain ⟨bd, ed, rfl⟩ := hvd.len
  generalize (natL n2).length = Mn at *
  generalize (natL d2).length = Md at *
  have hrB := Row.new w3 [.bool g2, .slice bn Mn en, .slice bd Md ed] 33
  have hgB := World.grownBy_alloc w3 (.cells #[.bool g2, .slice bn Mn en, .slice bd Md ed] 33) none
  obtain ⟨w4, hw4⟩ : ∃ w4, w3.alloc (.cells #[.bool g2, .slice bn Mn en, .slice bd Md ed] 33) = w4 := ⟨_, rfl⟩
  have hrB' : Row w4 w3.heap.size [.bool g2, .slice bn Mn en, .slice bd Md ed] := by rw [← hw4]; exact hrB
  obtain ⟨B, hBd⟩ : ∃ B, w3.heap.size = B := ⟨_, rfl⟩
  rw [hw4] at hgB
  rw [hBd] at hrB'
  have HW4 := Lib.hid hw4
  have HBD := Lib.hid hBd
  have HRB := Lib.hid hrB'
  have HUN := Lib.hid (hvn.grown hgB)
  have HUD := Lib.hid (hvd.grown hgB)
  have hg34 := grown_none_tr hg3 hgB
  have HRA4 := Lib.hid (HRA.out.grown hg34 (by simp))
  have HVN4 := Lib.hid (HVN.out.grown hg34)
  have HVD4 := Lib.hid (HVD.out.grown hg34)
  have HG4 := Lib.hid (grown_none_tr HG2.out hg34)
  clear hrB hrB' hw4 hBd hvn hvd hgB hg3 hg34 HRA HVN HVD HG2 HA HB
  go_upto_region 3 with fail
  rw [HW4.out, HBD.out]
  have k0 := HRA4.out.cell 0
  have k1 := HRA4.out.cell 1
  have k2 := HRA4.out.cell 2
  have m0 := HRB.out.cell 0
  have m1 := HRB.out.cell 1
  have m2 := HRB.out.cell 2
  simp only [List.getElem?_cons_zero, List.getElem?_cons_succ] at k0 k1 k2 m0 m1 m2
  ((repeat (go_wp2_with fail; first | (refine cond_yes ?hc (by decide) ?_; (case hc => (simp [over_cons, over_nil, *]; done))) | (refine cond_no ?hc (by decide) ?_; (case hc => (simp [over_cons, over_nil, *]; done))))); go_wp2_with fail)
  refine (HC.out _ _ _ _ _ HVN4.out HVD4.out HUN.out HUD.out).mono ?_
  rintro e w5 ⟨rfl, hg5⟩
  have HG5 := Lib.hid (grown_none_tr HG4.out hg5)
  clear hg5 k0 k1 k2 m0 m1 m2
  ((repeat (go_wp2_with fail; first | (refine cond_yes ?hc (by decide) ?_; (case hc => (simp [over_cons, over_nil, *]; done))) | (refine cond_no ?hc (by decide) ?_; (case hc => (simp [over_cons, over_nil, *]; done))))); go_wp2_with fail)
  exact ret_F (.bool true) rfl (by decide) (by simp [over_cons, over_nil, *]) ⟨rfl, HG5.out⟩
end Go.Proofs.YthkcfpmlgoomfaaDoor

/-
  Plain: digits as the library picks them; two texts with one value.
-/
namespace Go.Proofs.YthkcfpmlgoomfaaDoor
open Go.RowKit
set_option linter.unusedSimpArgs false
set_option linter.unusedVariables false

theorem natL_ten {n j : Nat} (h : n < 10 ^ j) : (natL n).length ≤ j := natL_len_le (Nat.lt_of_lt_of_le h (Nat.pow_le_pow_left (by decide) _))

/-- Two texts with one value are equal texts. -/
theorem eqText (neg : Bool) (a b : List UInt8) (V : Nat) (E : Int) (k1 k2 L : Nat) (hV : V < 10 ^ L) (hL : L ≤ 2000) (hk1 : k1 ≤ 6000) (hk2 : k2 ≤ 6000) (hE1 : -3000 ≤ E) (hE2 : E ≤ 3000) (ha : a.length ≤ 2500) (hb : b.length ≤ 2500)
    (h1 : ratL a = some (rdV neg (V * 10 ^ k1) (E - (k1 : Int)))) (h2 : ratL b = some (rdV neg (V * 10 ^ k2) (E - (k2 : Int)))) (w : World) :
    Calls Tryd.prog 24 #[.string ⟨a.toArray⟩, .string ⟨b.toArray⟩] w fun e w' => e = .returned (.bool true) ∧ w.grownBy w' none := by
  unfold rdV at h1 h2
  by_cases h0 : V = 0
  · subst h0
    rw [Nat.zero_mul, if_pos rfl] at h1 h2
    have e0 : (natL 0).length ≤ 40000 := by rw [natL_zero]; simp
    have e1 : (natL 1).length ≤ 40000 := Nat.le_trans (natL_len_le (k := 1) (by decide)) (by omega)
    exact equalText_any a b w ha hb neg neg 0 1 0 1 h1 h2 e0 e1 e0 e1 (by simp) (fun h => rfl) rfl
  · have p1 : V * 10 ^ k1 ≠ 0 := Nat.mul_ne_zero h0 (Nat.ne_of_gt (Nat.pow_pos (by omega)))
    have p2 : V * 10 ^ k2 ≠ 0 := Nat.mul_ne_zero h0 (Nat.ne_of_gt (Nat.pow_pos (by omega)))
    rw [if_neg p1] at h1
    rw [if_neg p2] at h2
    have hn : ∀ k x : Nat, k ≤ 6000 → x ≤ 3000 → (natL (V * 10 ^ k * 10 ^ x)).length ≤ 40000 := fun k x hk hx => by
      have : V * 10 ^ k * 10 ^ x < 10 ^ (L + k + x) := by
        rw [Nat.pow_add, Nat.pow_add]
        exact Nat.mul_lt_mul_of_pos_right (Nat.mul_lt_mul_of_pos_right hV (Nat.pow_pos (by omega))) (Nat.pow_pos (by omega))
      have := natL_ten this
      omega
    have hd : ∀ x : Nat, x ≤ 9000 → (natL (10 ^ x)).length ≤ 40000 := fun x hx => by
      have : 10 ^ x < 10 ^ (x + 1) := Nat.pow_lt_pow_right (by omega) (by omega)
      have := natL_ten this
      omega
    refine equalText_any a b w ha hb neg neg _ _ _ _ h1 h2 (hn _ _ hk1 (by omega)) (hd _ (by omega)) (hn _ _ hk2 (by omega)) (hd _ (by omega)) ?_ (fun h => rfl) (rat_same V E k1 k2)
    have q1 : V * 10 ^ k1 * 10 ^ (E - (k1 : Int)).toNat ≠ 0 := Nat.mul_ne_zero p1 (Nat.ne_of_gt (Nat.pow_pos (by omega)))
    have q2 : V * 10 ^ k2 * 10 ^ (E - (k2 : Int)).toNat ≠ 0 := Nat.mul_ne_zero p2 (Nat.ne_of_gt (Nat.pow_pos (by omega)))
    exact ⟨fun h => absurd h q1, fun h => absurd h q2⟩

/-- Digits, the first of them not 0. -/
structure DsOk (ds : List UInt8) : Prop where
  dig : ∀ c ∈ ds, isDig c
  lead : ds ≠ [] → nDig (dval ds) = ds.length
theorem DsOk.nil : DsOk [] := ⟨(fun c hc => by cases hc), fun h => absurd rfl h⟩
theorem DsOk.digs (M : Nat) (h : M ≠ 0) : DsOk (digs M (nDig M)) := by
  refine ⟨isDig_digs _ _, fun _ => ?_⟩
  rw [dval_digs, Nat.mod_eq_of_lt (lt_pow_nDig M), digs_length]
theorem DsOk.of (d : Nat) : DsOk (dsOf d) := by
  by_cases h0 : d = 0
  · subst h0
    have : dsOf 0 = [] := by unfold dsOf; rw [nDig_zero]; rfl
    rw [this]; exact DsOk.nil
  · have h1 := trimZ_core (Go.Proofs.YthkcfpmlgoomfaaDoor.digs d (nDig d)) d h0 (by rw [List.take_of_length_le (by rw [digs_length]; exact Nat.le_refl _)])
    have : dsOf d = Go.Proofs.YthkcfpmlgoomfaaDoor.digs (core d) (nDig (core d)) := by unfold dsOf; rw [h1.1]; exact h1.2
    rw [this]
    exact DsOk.digs _ (core_ne d h0)
theorem DsOk.lt {ds : List UInt8} (h : DsOk ds) : dval ds < 10 ^ ds.length := dval_lt ds h.dig

theorem efgE_len (neg : Bool) (ds : List UInt8) (dp pr f : Int) : ((efgE neg ds dp pr f).length : Int) ≤ max pr 0 + 10 := by
  unfold efgE
  have h1 := expL_len (eExp ds dp)
  have h2 := eSign_len neg
  have h3 : ((eFrac ds pr).length : Int) ≤ max pr 0 + 1 := by
    unfold eFrac
    split
    · simp only [List.length_cons, List.length_append, List.length_replicate, List.length_take, List.length_drop]
      omega
    · simp; omega
  simp only [List.length_append, List.length_cons, List.length_nil]
  omega
theorem efgF_len (neg : Bool) (ds : List UInt8) (dp pr : Int) (hA : allD 10 ds) (hpr : (ds.length : Int) - dp ≤ max pr 0) : ((efgF neg ds dp pr).length : Int) ≤ max dp 1 + max pr 0 + 10 := by
  unfold efgF
  obtain ⟨P, j, h1, h2, h3, h4, h5, h6⟩ := f_parts ds dp pr hA hpr
  have h7 := eSign_len neg
  have h8 : ((fInt ds dp).length : Int) = max dp 1 := by
    unfold fInt
    split
    · simp only [List.length_append, List.length_replicate, List.length_take]
      omega
    · simp; omega
  have h9 : (pT P).length ≤ (pF P).length + 1 := by cases P <;> simp [pT, pF]
  rw [h1]
  simp only [List.length_append]
  omega

/-- The shortest digits. -/
theorem shortF_bd2 (Z : Nat) (ME : Int) (m : Nat) (e : Int) (hZ : Z = 11 ∧ ME = -1085 ∧ -1137 ≤ e ∧ e ≤ 960 ∨ Z = 40 ∧ ME = -189 ∧ -212 ≤ e ∧ e ≤ 64) : -330 ≤ (shortF Z ME m e).2 ∧ (shortF Z ME m e).2 ≤ 330 := by
  have hc1 : -300 ≤ (shC Z ME m e).1 ∧ (shC Z ME m e).1 ≤ 326 := by
    unfold shC
    rcases hZ with ⟨rfl, rfl, h1, h2⟩ | ⟨rfl, rfl, h1, h2⟩ <;> (repeat' split) <;> dsimp only <;> omega
  unfold shortF
  dsimp only
  split
  · dsimp only; omega
  · split
    · dsimp only; omega
    · dsimp only; omega

/-- The digits and the point of the shortest text do not depend on the format. -/
theorem pick_short (Z : Nat) (ME : Int) (mb m : Nat) (x : Int) (hz : Z = 11 ∧ ME = -1085 ∧ mb = 52 ∧ -1022 ≤ x ∧ x ≤ 1023 ∧ m < 2 ^ 53 ∨ Z = 40 ∧ ME = -189 ∧ mb = 23 ∧ -126 ≤ x ∧ x ≤ 127 ∧ m < 2 ^ 24) :
    ∃ ds dp, DsOk ds ∧ ds.length ≤ 20 ∧ -390 ≤ dp ∧ dp ≤ 390 ∧ ∀ f : Int, (f = 101 ∨ f = 102 ∨ f = 103) → ∃ pr : Int, pick Z ME mb m x (-1) f = ⟨ds, dp, pr, true⟩ ∧ (f = 101 → (ds.length : Int) - 1 ≤ pr ∧ pr ≤ 20) ∧ (f = 102 → (ds.length : Int) - dp ≤ max pr 0 ∧ pr ≤ 500) ∧ (f = 103 → pr = ds.length ∨ (ds = [] ∧ dp = 0)) := by
  have hm53 : m < 2 ^ 53 := by omega
  by_cases hm0 : m = 0
  · refine ⟨[], 0, DsOk.nil, by simp, by omega, by omega, fun f hf => ⟨-1, ?_, fun _ => by simp, fun h => ?_, fun _ => Or.inr ⟨rfl, rfl⟩⟩⟩
    · unfold pick; rw [if_pos hm0]; rfl
    · simp; omega
  · obtain ⟨hb1, hb2, hb3, hb4⟩ := bitLen_bd m (by omega) hm0
    have hS : 11 ≤ shS m ∧ shS m ≤ 63 ∧ (Z = 40 → 40 ≤ shS m) := by
      have := Lib.bitLen_le m 53 (by omega) hm53
      refine ⟨by unfold shS; omega, by unfold shS; omega, fun h => ?_⟩
      have h2 := Lib.bitLen_le m 24 (by omega) (by omega)
      unfold shS; omega
    have hmm : m * 2 ^ shS m < 18446744073709551616 := by
      rw [show (18446744073709551616 : Nat) = 2 ^ Lib.bitLen m * 2 ^ shS m by rw [← Nat.pow_add, show Lib.bitLen m + shS m = 64 by unfold shS; omega]]
      exact Nat.mul_lt_mul_of_pos_right hb3 (Nat.pow_pos (by omega))
    have hz2 : Z = 11 ∧ ME = -1085 ∧ -1137 ≤ x - mb - shS m ∧ x - mb - shS m ≤ 960 ∨ Z = 40 ∧ ME = -189 ∧ -212 ≤ x - mb - shS m ∧ x - mb - shS m ≤ 64 := by
      rcases hz with ⟨a, b, c, d, e, _⟩ | ⟨a, b, c, d, e, _⟩
      · exact Or.inl ⟨a, b, by omega, by omega⟩
      · exact Or.inr ⟨a, b, by have := hS.2.2 a; omega, by have := hS.2.2 a; omega⟩
    have h1 := shortF_bd Z ME (m * 2 ^ shS m) (x - mb - shS m) hz2 hmm
    have h2 := shortF_bd2 Z ME (m * 2 ^ shS m) (x - mb - shS m) hz2
    obtain ⟨r, hr⟩ : ∃ r, shortF Z ME (m * 2 ^ shS m) (x - mb - shS m) = r := ⟨_, rfl⟩
    rw [hr] at h1 h2
    have h3 := dsOf_length r.1
    have h4 := trimZ_le (digs r.1 (nDig r.1)) (nDig r.1)
    have h5 := nDig_le r.1 h1.1
    refine ⟨dsOf r.1, nDig r.1 + r.2, DsOk.of _, by omega, by omega, by omega, fun f hf => ⟨shPrec (dsOf r.1).length (nDig r.1 + r.2) (-1) f, ?_, ?_, ?_, ?_⟩⟩
    · unfold pick
      rw [if_neg hm0, if_pos (by omega)]
      unfold pkShort
      rw [hr]
    · rintro rfl
      unfold shPrec
      rw [if_pos (Or.inl rfl)]
      omega
    · rintro rfl
      unfold shPrec
      rw [if_neg (by omega), if_pos rfl]
      omega
    · rintro rfl
      unfold shPrec
      rw [if_neg (by omega), if_neg (by omega), if_pos (Or.inl rfl)]
      exact Or.inl rfl

/-- The texts f and e with the precision -1. -/
theorem fixed_eq (eb mb : Nat) (bias : Int) (Z : Nat) (ME : Int) (b : Nat) (hE : flE eb mb b ≠ 2 ^ eb - 1)
    (hz : Z = 11 ∧ ME = -1085 ∧ mb = 52 ∧ -1022 ≤ flExp eb mb bias b ∧ flExp eb mb bias b ≤ 1023 ∧ flMant eb mb b < 2 ^ 53 ∨ Z = 40 ∧ ME = -189 ∧ mb = 23 ∧ -126 ≤ flExp eb mb bias b ∧ flExp eb mb bias b ≤ 127 ∧ flMant eb mb b < 2 ^ 24) (w : World) :
    Calls Tryd.prog 24 #[.string ⟨(ftoaL eb mb bias Z ME b 102 (-1)).toArray⟩, .string ⟨(ftoaL eb mb bias Z ME b 101 (-1)).toArray⟩] w fun e w' => e = .returned (.bool true) ∧ w.grownBy w' none := by
  obtain ⟨ds, dp, hok, hl, hdp1, hdp2, hp⟩ := pick_short Z ME mb (flMant eb mb b) (flExp eb mb bias b) hz
  obtain ⟨pf, hpf, _, hf2, _⟩ := hp 102 (by omega)
  obtain ⟨pe, hpe, he2, _, _⟩ := hp 101 (by omega)
  have hf := hf2 rfl
  have he := he2 rfl
  have t1 : ftoaL eb mb bias Z ME b 102 (-1) = efgF (flNeg eb mb b) ds dp pf := by
    unfold ftoaL
    rw [if_neg hE, if_neg (by omega), if_neg (by omega), hpf]
    rfl
  have t2 : ftoaL eb mb bias Z ME b 101 (-1) = efgE (flNeg eb mb b) ds dp pe 101 := by
    unfold ftoaL
    rw [if_neg hE, if_neg (by omega), if_neg (by omega), hpe]
    rfl
  rw [t1, t2]
  obtain ⟨k1, hk1, r1⟩ := ratL_f (flNeg eb mb b) ds dp pf hok.dig hf.1 hdp1 hdp2 hok.lead
  obtain ⟨k2, hk2, r2⟩ := ratL_e (flNeg eb mb b) ds dp pe hok.dig he.1 hdp1 hdp2 hok.lead (by omega) (by omega)
  have l1 := efgF_len (flNeg eb mb b) ds dp pf (allD_of_dig hok.dig) hf.1
  have l2 := efgE_len (flNeg eb mb b) ds dp pe 101
  exact eqText _ _ _ (dval ds) (dxv ds dp) k1 k2 ds.length hok.lt (by omega) (by omega) (by omega) (by unfold dxv; omega) (by unfold dxv; omega) (by omega) (by omega) r1 r2 w
end Go.Proofs.YthkcfpmlgoomfaaDoor
