/-
  Plain: the value of a hexadecimal text.
-/
import Derived.Test.YthkcfpmlgoomfaaDoorGv
import Derived.Test.YthkcfpmlgoomfaaDoorGg
namespace Go.Proofs.YthkcfpmlgoomfaaDoor
open Go.RowKit
set_option linter.unusedSimpArgs false
set_option linter.unusedVariables false

theorem hexD_dig (d : Nat) (h : d < 16) : dig 16 (hexD false d) = some d ∧ isD 16 (hexD false d) = true ∧ ¬ (65 ≤ (hexD false d).toNat ∧ (hexD false d).toNat ≤ 90) := by
  have : ∀ d : Fin 16, dig 16 (hexD false d.val) = some d.val ∧ isD 16 (hexD false d.val) = true ∧ ¬ (65 ≤ (hexD false d.val).toNat ∧ (hexD false d.val).toNat ≤ 90) := by decide
  exact this ⟨d, h⟩
theorem hxT_all (A c : Nat) : allD 16 (hxT false A c) := by
  induction c with
  | zero => intro x hx; cases hx
  | succ c ih =>
    intro x hx
    rw [hxT] at hx
    rcases List.mem_cons.1 hx with h | h
    · rw [h]; exact (hexD_dig _ (Nat.mod_lt _ (by omega))).2.1
    · exact ih x h
theorem hxT_low (A c : Nat) : ∀ x ∈ hxT false A c, ¬ (65 ≤ x.toNat ∧ x.toNat ≤ 90) := by
  induction c with
  | zero => intro x hx; cases hx
  | succ c ih =>
    intro x hx
    rw [hxT] at hx
    rcases List.mem_cons.1 hx with h | h
    · rw [h]; exact (hexD_dig _ (Nat.mod_lt _ (by omega))).2.2
    · exact ih x h

/-- Once a digit is there, all further ones are kept. -/
theorem dgL_keep (A : Nat) : ∀ (c : Nat) (o : List Nat), o ≠ [] → tval 16 ((hxT false A c).foldl (dgStep 16) o) = tval 16 o * 16 ^ c + A % 16 ^ c ∧ ((hxT false A c).foldl (dgStep 16) o).length = o.length + c := by
  intro c
  induction c with
  | zero => intro o _; simp [hxT, Nat.mod_one]
  | succ c ih =>
    intro o ho
    have hd := (hexD_dig (A / 16 ^ c % 16) (Nat.mod_lt _ (by omega))).1
    have hs : dgStep 16 o (hexD false (A / 16 ^ c % 16)) = o ++ [A / 16 ^ c % 16] := by unfold dgStep; rw [hd]; dsimp only; rw [if_pos (Or.inr ho)]
    rw [hxT, List.foldl_cons, hs]
    obtain ⟨h1, h2⟩ := ih (o ++ [A / 16 ^ c % 16]) (by simp)
    rw [h1, h2, tval_append, List.length_append, List.length_singleton]
    refine ⟨?_, by omega⟩
    have h3 : A % 16 ^ (c + 1) = 16 ^ c * (A / 16 ^ c % 16) + A % 16 ^ c := by rw [Nat.pow_succ, Nat.mod_mul]; omega
    rw [h3, Nat.pow_succ, Nat.add_mul, Nat.mul_assoc, Nat.mul_comm 16, Nat.mul_comm (16 ^ c) (A / 16 ^ c % 16)]
    omega

theorem xExp_x (e : Int) (h1 : -9999 ≤ e) (h2 : e ≤ 9999) : ∃ sg E, xExp e = sg :: E ∧ okX (some (sg, E)) ∧ xV (some (sg, E)) = e := by
  have key : ∀ E : List UInt8, allD 10 E → E ≠ [] → dval E = e.natAbs → okX (some ((if e < 0 then 45 else 43), E)) ∧ xV (some ((if e < 0 then 45 else 43), E)) = e := by
    intro E hE h0 hv
    refine ⟨⟨by split <;> simp, hE, h0⟩, ?_⟩
    dsimp only [xV]
    rw [expoN_dec E hE (by omega), hv]
    by_cases hn : e < 0
    · rw [if_pos hn, if_pos rfl]; omega
    · rw [if_neg hn, if_neg (by decide)]; omega
  have al : ∀ ns : List Nat, (∀ n ∈ ns, n ≤ 9) → allD 10 (ns.map fun n => UInt8.ofNat (48 + n)) := by
    intro ns h c hc
    obtain ⟨n, hn, rfl⟩ := List.mem_map.1 hc
    exact (isDig_of n (h n hn)).1
  have vl : ∀ n r, n ≤ 9 → dval (UInt8.ofNat (48 + n) :: r) = n * 10 ^ r.length + dval r := by
    intro n r h
    rw [dval, (isDig_of n h).2, Nat.add_sub_cancel_left]
  unfold xExp
  by_cases h100 : e.natAbs < 100
  · rw [if_pos h100]
    refine ⟨_, _, rfl, key _ (al [e.natAbs / 10, e.natAbs % 10] (by simp; omega)) (by simp) ?_⟩
    rw [vl _ _ (by omega), vl _ _ (by omega)]
    simp only [List.length_cons, List.length_nil, dval]
    omega
  · by_cases h1000 : e.natAbs < 1000
    · rw [if_neg h100, if_pos h1000]
      refine ⟨_, _, rfl, key _ (al [e.natAbs / 100, e.natAbs / 10 % 10, e.natAbs % 10] (by simp; omega)) (by simp) ?_⟩
      rw [vl _ _ (by omega), vl _ _ (by omega), vl _ _ (by omega)]
      simp only [List.length_cons, List.length_nil, dval]
      omega
    · rw [if_neg h100, if_neg h1000]
      refine ⟨_, _, rfl, key _ (al [e.natAbs / 1000, e.natAbs / 100 % 10, e.natAbs / 10 % 10, e.natAbs % 10] (by simp; omega)) (by simp) ?_⟩
      rw [vl _ _ (by omega), vl _ _ (by omega), vl _ _ (by omega), vl _ _ (by omega)]
      simp only [List.length_cons, List.length_nil, dval]
      omega

/-- A hexadecimal text. -/
theorem readL_hex (neg : Bool) (a : UInt8) (P : Option (List UInt8)) (sg : UInt8) (E : List UInt8) (ha : isD 16 a = true) (hal : ¬ (65 ≤ a.toNat ∧ a.toNat ≤ 90)) (hF : allD 16 (pF P)) (hFl : ∀ c ∈ pF P, ¬ (65 ≤ c.toNat ∧ c.toNat ≤ 90)) (hX : okX (some (sg, E))) :
    readL (eSign neg ++ (48 :: 120 :: (a :: (pT P ++ xT 112 (some (sg, E)))))) = some ⟨0, neg, 16, dgL 16 (a :: pF P), xV (some (sg, E)) - ((4 * (pF P).length : Nat) : Int)⟩ := by
  obtain ⟨u, hu⟩ : ∃ u, 48 :: 120 :: (a :: (pT P ++ xT 112 (some (sg, E)))) = u := ⟨_, rfl⟩
  rw [hu]
  have hlow : lowL u = u := by
    refine lowL_id u (fun c hc => ?_)
    rw [← hu] at hc
    obtain ⟨h1, h2, h3⟩ := hX
    rcases List.mem_cons.1 hc with h | hc
    · rw [h]; decide
    rcases List.mem_cons.1 hc with h | hc
    · rw [h]; decide
    rcases List.mem_cons.1 hc with h | hc
    · rw [h]; exact hal
    rcases List.mem_append.1 hc with h | hc
    · cases P with
      | none => cases h
      | some F =>
        rcases List.mem_cons.1 h with h | h
        · rw [h]; decide
        · exact hFl c h
    · simp only [xT, List.mem_cons] at hc
      rcases hc with h | h | h
      · rw [h]; decide
      · rcases h1 with rfl | rfl <;> (rw [h]; decide)
      · have := isD10 (h2 c h); omega
  have hne95 : a ≠ 95 := by
    intro e
    rw [e] at ha
    revert ha; decide
  have hh : hexH u := by rw [← hu]; exact ⟨by simp, rfl, rfl⟩
  have hun : ¬ undH u := by rw [← hu]; rintro ⟨_, h, _⟩; exact hne95 h
  have hb : nBase u = 16 := by unfold nBase; rw [if_pos hh]
  have hf2 : nFrom u = 2 := by unfold nFrom; rw [if_pos hh, if_neg hun]
  have hp : nPer u = 4 := by unfold nPer; rw [hb]; rfl
  have hl : nLetter u = 112 := by unfold nLetter; rw [hb]; rfl
  obtain ⟨h1, h2⟩ := num_parts u [a] P (some (sg, E)) 112 (by rw [hf2, ← hu]; rfl) hl (by simp) (by rw [hb]; intro c hc; rw [List.mem_singleton.1 hc]; exact ha) (by rw [hb]; exact hF) hX (by rw [hb]; decide) (by decide) (by decide) (by rw [hb]; decide) (by simp)
  rw [hp] at h1
  rw [hb] at h2
  have := readL_of neg u 48 _ hu.symm (by decide) hlow _ h1
  rw [this, hb, h2]
  rfl

/-- As few digits as are exact. -/
theorem hx_exact (m : Nat) (hm0 : m ≠ 0) : hxF m (hxCnt m (-1)) * 2 ^ m.log2 = m * 2 ^ (4 * hxCnt m (-1)) ∧ hxE m (hxCnt m (-1)) = 0 ∧ 2 ^ (4 * hxCnt m (-1)) ≤ hxF m (hxCnt m (-1)) ∧ hxF m (hxCnt m (-1)) < 2 ^ (4 * hxCnt m (-1) + 1) := by
  have hlo := Nat.log2_self_le hm0
  have hhi := @Nat.lt_log2_self m
  have htz := tz2_le m hm0
  obtain ⟨a, ha, ho⟩ := tz2_spec m hm0
  have hc : hxCnt m (-1) = (m.log2 - tz2 m + 3) / 4 := by unfold hxCnt; rw [if_pos (by omega)]
  obtain ⟨c, hc'⟩ : ∃ c, hxCnt m (-1) = c := ⟨_, rfl⟩
  rw [hc'] at hc ⊢
  obtain ⟨k, hk⟩ : ∃ k, m.log2 = k := ⟨_, rfl⟩
  have hM : hxM m c * 2 ^ k = m * 2 ^ (4 * c) := by
    unfold hxM
    rw [hk]
    by_cases h : k ≤ 4 * c
    · rw [if_pos h]
      unfold rndE
      rw [if_neg (by omega), Nat.div_one, Nat.mul_assoc, ← Nat.pow_add, show 4 * c - k + k = 4 * c by omega]
    · rw [if_neg h]
      have hdv : 2 ^ (k - 4 * c) ∣ m := by rw [ha]; exact Nat.dvd_trans (Nat.pow_dvd_pow 2 (by omega)) (Nat.dvd_mul_right _ _)
      unfold rndE
      rw [Nat.mod_eq_zero_of_dvd hdv, if_neg (by have := Nat.two_pow_pos (k - 4 * c); omega)]
      have : (2 : Nat) ^ k = 2 ^ (k - 4 * c) * 2 ^ (4 * c) := by rw [← Nat.pow_add]; congr 1; omega
      rw [this, ← Nat.mul_assoc, Nat.div_mul_cancel hdv]
  rw [hk] at hlo hhi ⊢
  have h1 : 2 ^ (4 * c) ≤ hxM m c := by
    refine Nat.le_of_mul_le_mul_right ?_ (Nat.two_pow_pos k)
    rw [hM, Nat.mul_comm]
    exact Nat.mul_le_mul_right _ hlo
  have h2 : hxM m c < 2 ^ (4 * c + 1) := by
    refine Nat.lt_of_mul_lt_mul_right (a := 2 ^ k) ?_
    rw [hM, Nat.pow_succ, Nat.mul_assoc, Nat.mul_comm]
    refine Nat.mul_lt_mul_of_pos_left ?_ (Nat.two_pow_pos _)
    rw [Nat.pow_succ] at hhi
    omega
  have hb : nbits (hxM m c) = 4 * c + 1 := nbits_of h1 h2
  have hF : hxF m c = hxM m c := by unfold hxF; rw [if_neg (by omega)]
  have hE : hxE m c = 0 := by unfold hxE; rw [if_neg (by omega)]
  rw [hF, hE]
  exact ⟨hM, rfl, h1, h2⟩

/-- The shortest hexadecimal text is the exact value. -/
theorem ratL_x (neg : Bool) (m : Nat) (e : Int) (hm : m < 2 ^ 53) (he1 : -1074 ≤ e) (he2 : e ≤ 971) :
    ∃ n d, ratL (eSign neg ++ hexadL false m e (-1)) = some (neg, n, d) ∧ n * 2 ^ (-e).toNat = m * 2 ^ e.toNat * d ∧ (n = 0 ↔ m = 0) ∧ (natL n).length ≤ 40000 ∧ (natL d).length ≤ 40000 := by
  have hlen2 : ∀ (x j : Nat), x < 2 ^ j → j ≤ 40000 → (natL x).length ≤ 40000 := fun x j h hj => Nat.le_trans (natL_len_le (Nat.lt_of_lt_of_le h (Nat.pow_le_pow_left (by decide) _))) hj
  unfold hexadL
  by_cases hm0 : m = 0
  · subst hm0
    rw [if_pos rfl]
    obtain ⟨sg, E, hE, hok, hxv⟩ := xExp_x 0 (by omega) (by omega)
    rw [expT_xExp _ _ (by omega) (by omega), hE]
    refine ⟨0, 1, ?_, by simp, by simp, hlen2 0 1 (by decide) (by omega), hlen2 1 1 (by decide) (by omega)⟩
    have hr := readL_hex neg 48 none sg E (by decide) (by decide) (by intro c hc; cases hc) (by intro c hc; cases hc) hok
    unfold ratL
    have ht : eSign neg ++ ([48, if false = true then 88 else 120] ++ (ptL (48 :: List.replicate (-1 : Int).toNat 48) ++ (if false = true then 80 else 112) :: sg :: E)) = eSign neg ++ (48 :: 120 :: (48 :: (pT none ++ xT 112 (some (sg, E))))) := rfl
    rw [ht, hr]
    dsimp only
    rw [if_neg (by simp), if_pos (by rfl)]
  · rw [if_neg hm0]
    obtain ⟨h1, h2, h3, h4⟩ := hx_exact m hm0
    have hk52 : m.log2 ≤ 52 := by have := (Nat.log2_lt hm0).2 hm; omega
    have hc13 : hxCnt m (-1) ≤ 13 := by
      unfold hxCnt
      rw [if_pos (by omega)]
      have := tz2_le m hm0
      omega
    generalize hcc : hxCnt m (-1) = c at *
    generalize hFF : hxF m c = F at *
    generalize hkk : m.log2 = k at *
    rw [h2]
    obtain ⟨sg, E, hE, hok, hxv⟩ := xExp_x (e + (k : Int) + ((0 : Nat) : Int)) (by omega) (by omega)
    rw [expT_xExp _ _ (by omega) (by omega), hE, hxT, ptL_cons]
    have d1 : F / 16 ^ c = 1 := by
      rw [show (16 : Nat) = 2 ^ 4 by decide, ← Nat.pow_mul]
      refine Nat.div_eq_of_lt_le (by omega) (by rw [Nat.pow_succ] at h4; omega)
    rw [d1]
    obtain ⟨P, hP, hPF⟩ : ∃ P, (if hxT false F c = [] then [] else 46 :: hxT false F c) = pT P ∧ pF P = hxT false F c := by
      by_cases h : hxT false F c = []
      · exact ⟨none, by rw [if_pos h]; rfl, h.symm⟩
      · exact ⟨some _, by rw [if_neg h]; rfl, rfl⟩
    rw [hP]
    have hr := readL_hex neg 49 P sg E (by decide) (by decide) (by rw [hPF]; exact hxT_all F c) (by rw [hPF]; exact hxT_low F c) hok
    have ht : eSign neg ++ ([48, if false = true then 88 else 120] ++ (hexD false (1 % 16) :: pT P ++ (if false = true then 80 else 112) :: sg :: E)) = eSign neg ++ (48 :: 120 :: (49 :: (pT P ++ xT 112 (some (sg, E))))) := rfl
    rw [ht]
    -- the digits
    have hdg : dgL 16 (49 :: pF P) = (hxT false F c).foldl (dgStep 16) [1] := by
      rw [hPF]
      unfold dgL
      rw [List.foldl_cons]
      rfl
    obtain ⟨v1, v2⟩ := dgL_keep F c [1] (by simp)
    have hv : tval 16 (dgL 16 (49 :: pF P)) = F := by
      rw [hdg, v1]
      show 1 * 16 ^ c + F % 16 ^ c = F
      have := Nat.div_add_mod F (16 ^ c)
      rw [d1] at this
      omega
    have hlen : (dgL 16 (49 :: pF P)).length = c + 1 := by rw [hdg, v2]; simp; omega
    have hpl : (pF P).length = c := by rw [hPF, hxT_len]
    have hne : dgL 16 (49 :: pF P) ≠ [] := by intro h; rw [h] at hlen; simp at hlen
    have hx : xV (some (sg, E)) - ((4 * (pF P).length : Nat) : Int) = e + k - 4 * c := by rw [hxv, hpl]; omega
    have hord : ordI 16 (dgL 16 (49 :: pF P)) (e + k - 4 * c) = 0 := by
      unfold ordI
      rw [if_neg hne, if_pos rfl, hlen, if_neg (by omega), if_neg (by omega)]
    refine ⟨F * 2 ^ (e + k - 4 * c).toNat, 2 ^ (-(e + k - 4 * c)).toNat, ?_, ?_, ?_, ?_, ?_⟩
    · unfold ratL
      rw [hr]
      dsimp only
      rw [hx, if_neg (by simp), if_neg hne, if_neg (fun h => h hord), hv]
      rfl
    · refine Nat.eq_of_mul_eq_mul_right (Nat.two_pow_pos k) ?_
      have e1 : F * 2 ^ (e + k - 4 * c).toNat * 2 ^ (-e).toNat * 2 ^ k = (F * 2 ^ k) * (2 ^ (e + k - 4 * c).toNat * 2 ^ (-e).toNat) := by simp [Nat.mul_assoc, Nat.mul_comm, Nat.mul_left_comm]
      rw [e1, h1]
      simp only [Nat.mul_assoc, ← Nat.pow_add]
      congr 2
      omega
    · have : F ≠ 0 := by have := Nat.two_pow_pos (4 * c); omega
      constructor
      · intro h
        rcases Nat.mul_eq_zero.1 h with h | h
        · exact absurd h this
        · exact absurd h (Nat.ne_of_gt (Nat.two_pow_pos _))
      · intro h; exact absurd h hm0
    · have h9 : F * 2 ^ (e + k - 4 * c).toNat < 2 ^ (4 * c + 1) * 2 ^ (e + k - 4 * c).toNat := Nat.mul_lt_mul_of_pos_right h4 (Nat.two_pow_pos _)
      rw [← Nat.pow_add] at h9
      exact hlen2 _ _ h9 (by omega)
    · exact hlen2 _ ((-(e + k - 4 * c)).toNat + 1) (Nat.pow_lt_pow_right (by omega) (by omega)) (by omega)
end Go.Proofs.YthkcfpmlgoomfaaDoor
