/-
  Plain: the texts of the shortest digits.
-/
import Derived.Test.YticlnihjhcepkaaGreatDoorCSh6
import Derived.Test.YticlnihjhcepkaaGreatDoorGp
import Derived.Test.YticlnihjhcepkaaGreatDoorGq
namespace Go.Proofs.YticlnihjhcepkaaGreatDoor
open Go.RowKit
set_option linter.unusedSimpArgs false
set_option linter.unusedVariables false

/-- The texts with the shortest digits. -/
def shortT (S : List UInt8) (E : Int) (f : Int) : List UInt8 :=
  if f = 101 then eT 101 S E else if f = 69 then eT 69 S E else if f = 102 then placedT S E (max 0 ((S.length : Int) - 1 - E)) else if f = 103 then gT 101 (trimS S) E 6 else gT 69 (trimS S) E 6

theorem gS_text (neg : Bool) (f : Int) (c : UInt8) (ds : List UInt8) (E : Int) (hf : f = 103 ∧ c = 101 ∨ f = 71 ∧ c = 69) (h0 : ds ≠ []) (hE1 : -900 ≤ E) (hE2 : E ≤ 900) :
    efgP neg f ⟨ds, E + 1, (ds.length : Nat), true⟩ = eSign neg ++ gT c ds E 6 := by
  have hk0 : 1 ≤ ds.length := by
    rcases Nat.eq_zero_or_pos ds.length with h | h
    · exact absurd (List.length_eq_zero_iff.1 h) h0
    · exact h
  have hge : gEp (E + 1) ds.length ds.length true = 6 := rfl
  have hcd : (E + 1 - 1 < -4 ∨ gEp (E + 1) ds.length ds.length true ≤ E + 1 - 1) ↔ (E < -4 ∨ 6 ≤ E) := by rw [hge]; omega
  unfold efgP gAdj gT
  dsimp only
  rw [if_pos (by omega)]
  by_cases hc : E < -4 ∨ 6 ≤ E
  · rw [if_pos hc, if_pos (hcd.2 hc)]
    dsimp only
    have e1 : (if (ds.length : Int) < (ds.length : Nat) then (ds.length : Int) else (ds.length : Nat)) - 1 = ((ds.length : Nat) : Int) - 1 := by split <;> omega
    rw [e1]
    unfold efgL
    rw [if_pos (by omega), e_text neg (f - 2) c ds (E + 1) E ds.length (by rcases hf with ⟨rfl, rfl⟩ | ⟨rfl, rfl⟩; exact Or.inl ⟨rfl, rfl⟩; exact Or.inr ⟨rfl, rfl⟩) hk0 (Nat.le_refl _) (by rw [if_neg h0]; omega) (by omega) (by omega)]
    unfold eT
    rw [Nat.sub_self, show zeroS 0 = [] from rfl, List.append_nil]
  · rw [if_neg hc, if_neg (fun hh => hc (hcd.1 hh))]
    dsimp only
    have e1 : max ((if E + 1 < (ds.length : Nat) then (ds.length : Int) else (ds.length : Nat)) - (E + 1)) 0 = max ((ds.length : Int) - (E + 1)) 0 := by split <;> omega
    rw [e1]
    unfold efgL
    rw [if_neg (by omega), if_pos rfl, placed_text neg ds E h0 (by omega) (by omega)]

theorem short_text (neg : Bool) (f : Int) (ds : List UInt8) (E : Int) (hf : f = 101 ∨ f = 69 ∨ f = 102 ∨ f = 103 ∨ f = 71) (h0 : ds ≠ []) (hlast : ds.getLast? ≠ some 48) (hE1 : -900 ≤ E) (hE2 : E ≤ 900) :
    efgP neg f ⟨ds, E + 1, shPrec (ds.length : Nat) (E + 1) (-1) f, true⟩ = eSign neg ++ shortT ds E f := by
  have hk0 : 1 ≤ ds.length := by
    rcases Nat.eq_zero_or_pos ds.length with h | h
    · exact absurd (List.length_eq_zero_iff.1 h) h0
    · exact h
  have htr : trimS ds = ds := by
    have := trimS_zeros ds 0 h0 hlast
    rwa [show zeroS 0 = [] from rfl, List.append_nil] at this
  have he : ∀ c : UInt8, (f = 101 ∧ c = 101 ∨ f = 69 ∧ c = 69) → efgP neg f ⟨ds, E + 1, shPrec (ds.length : Nat) (E + 1) (-1) f, true⟩ = eSign neg ++ eT c ds E := by
    intro c hfc
    have h1 : f = 101 ∨ f = 69 := by rcases hfc with ⟨h, -⟩ | ⟨h, -⟩ <;> simp [h]
    have hs : shPrec (ds.length : Nat) (E + 1) (-1) f = ((ds.length : Nat) : Int) - 1 := by unfold shPrec; rw [if_pos h1]; omega
    rw [hs]
    unfold efgP gAdj
    dsimp only
    rw [if_neg (by omega)]
    unfold efgL
    rw [if_pos h1]
    have := e_text neg f c ds (E + 1) E ds.length hfc hk0 (Nat.le_refl _) (by rw [if_neg h0]; omega) (by omega) (by omega)
    rw [Nat.sub_self, show zeroS 0 = [] from rfl, List.append_nil] at this
    exact this
  have hg : ∀ c : UInt8, (f = 103 ∧ c = 101 ∨ f = 71 ∧ c = 69) → efgP neg f ⟨ds, E + 1, shPrec (ds.length : Nat) (E + 1) (-1) f, true⟩ = eSign neg ++ gT c (trimS ds) E 6 := by
    intro c hfc
    have hs : shPrec (ds.length : Nat) (E + 1) (-1) f = ((ds.length : Nat) : Int) := by unfold shPrec; rw [if_neg (by omega), if_neg (by omega), if_pos (by omega)]
    rw [hs, htr]
    exact gS_text neg f c ds E hfc h0 hE1 hE2
  unfold shortT
  rcases hf with rfl | rfl | rfl | rfl | rfl
  · rw [if_pos rfl]; exact he _ (Or.inl ⟨rfl, rfl⟩)
  · rw [if_neg (by decide), if_pos rfl]; exact he _ (Or.inr ⟨rfl, rfl⟩)
  · rw [if_neg (by decide), if_neg (by decide), if_pos rfl]
    have hs : shPrec (ds.length : Nat) (E + 1) (-1) 102 = max ((ds.length : Int) - (E + 1)) 0 := by unfold shPrec; rw [if_neg (by decide), if_pos rfl]
    rw [hs]
    unfold efgP gAdj
    dsimp only
    rw [if_neg (by decide)]
    unfold efgL
    dsimp only
    rw [if_neg (by decide), if_pos rfl]
    exact placed_text neg ds E h0 (by omega) (by omega)
  · rw [if_neg (by decide), if_neg (by decide), if_neg (by decide), if_pos rfl]; exact hg _ (Or.inl ⟨rfl, rfl⟩)
  · rw [if_neg (by decide), if_neg (by decide), if_neg (by decide), if_neg (by decide)]; exact hg _ (Or.inr ⟨rfl, rfl⟩)

theorem short_zero (neg : Bool) (f : Int) (hf : f = 101 ∨ f = 69 ∨ f = 102 ∨ f = 103 ∨ f = 71) : efgP neg f ⟨[], 0, -1, true⟩ = eSign neg ++ shortT [48] 0 f := by
  have htr : trimS [48] = [48] := trimS_zero 0
  have he : ∀ (f : Int) (c : UInt8), (f = 101 ∧ c = 101 ∨ f = 69 ∧ c = 69) → efgP neg f ⟨[], 0, -1, true⟩ = eSign neg ++ eT c [48] 0 := by
    intro f c hfc
    have ha : gAdj 0 (([] : List UInt8).length : Nat) (-1) f true = (-1, f) := by
      unfold gAdj
      rw [if_neg (by rcases hfc with ⟨rfl, -⟩ | ⟨rfl, -⟩ <;> decide)]
    unfold efgP
    dsimp only
    rw [ha]
    unfold efgL
    rw [if_pos (by rcases hfc with ⟨rfl, -⟩ | ⟨rfl, -⟩ <;> simp)]
    have := e_text neg f c [] 0 0 1 hfc (by omega) (by simp) (by simp) (by omega) (by omega)
    rw [← show [] ++ zeroS (1 - ([] : List UInt8).length) = [48] from rfl, ← this]
    rfl
  unfold shortT
  rw [htr]
  rcases hf with rfl | rfl | rfl | rfl | rfl
  · rw [if_pos rfl]; exact he _ _ (Or.inl ⟨rfl, rfl⟩)
  · rw [if_neg (by decide), if_pos rfl]; exact he _ _ (Or.inr ⟨rfl, rfl⟩)
  · rw [if_neg (by decide), if_neg (by decide), if_pos rfl]
    cases neg <;> rfl
  · rw [if_neg (by decide), if_neg (by decide), if_neg (by decide), if_pos rfl]
    cases neg <;> rfl
  · rw [if_neg (by decide), if_neg (by decide), if_neg (by decide), if_neg (by decide)]
    cases neg <;> rfl

/-- The digits and the exponent of the first one: of a/b, out of what the search finds. -/
def shoS (a b near k : Nat) : List UInt8 × Int := if a = 0 then ([48], 0) else digS (ordT a b) near k

theorem lowS_lt (a b n : Nat) (ha : a ≠ 0) (hb : b ≠ 0) (hn : 1 ≤ n) : lowS a b ((n : Int) - 1 - ordT a b) < 10 ^ n := by
  have h := (ordT_spec a b ha hb).2
  rw [leT_scale (k := ordT a b + 1) (j := (n : Int) - 1 - ordT a b) (n := n) (by omega)] at h
  exact (Nat.div_lt_iff_lt_mul (Nat.mul_pos (by omega) (p10 _))).2 (by omega)

theorem nearS_le (rd : Nat → Int → Bool) (a b : Nat) (ha : a ≠ 0) (hb : b ≠ 0) : ∀ (k n near m : Nat) (t : Bool), 1 ≤ n → nearS rd a b (ordT a b) k n = (near, m, t) → n ≤ m ∧ m ≤ n + k ∧ near ≤ 10 ^ m := by
  have hp : ∀ n : Nat, 1 ≤ n → pickS rd a b (ordT a b) n ≤ 10 ^ n := by
    intro n hn
    have := lowS_lt a b n ha hb hn
    unfold pickS
    split <;> omega
  intro k
  induction k with
  | zero => intro n near m t hn h; rw [nearS] at h; cases h; exact ⟨by omega, by omega, hp n hn⟩
  | succ k ih =>
    intro n near m t hn h
    rw [nearS] at h
    split at h
    · cases h; exact ⟨by omega, by omega, hp n hn⟩
    · obtain ⟨h1, h2, h3⟩ := ih (n + 1) near m t (by omega) h
      exact ⟨by omega, by omega, h3⟩

theorem near_len {near m : Nat} (hm : m ≤ 17) (h : near ≤ 10 ^ m) : (natL near).length ≤ 10 ∧ (decT near).length ≤ 18 ∧ 1 ≤ (decT near).length := by
  have h1 : 10 ^ m ≤ 10 ^ 17 := Nat.pow_le_pow_right (by omega) hm
  refine ⟨natL_len_le (by omega), ?_, ?_⟩
  · by_cases h0 : near = 0
    · subst h0; show [48].length ≤ _; simp
    · rw [decT_len1 near h0]; exact nDig_lt (by omega)
  · by_cases h0 : near = 0
    · subst h0; show _ ≤ [48].length; simp
    · rw [decT_len1 near h0]; exact nDig_pos h0

/-- What is written with the precision -1 is what the reference writes. -/
theorem pick_short (Z : Nat) (ME : Int) (mb m : Nat) (x bias f : Int) (inf : Nat) (neg : Bool) (hz : Kd Z ME mb m x) (hnorm : 2 ^ mb ≤ m ∨ x - (mb : Nat) = ME + Z) (hb : bias = 1 - (ME + Z) - mb) (hinf : inf = (2 * bias + 1).toNat * 2 ^ mb) (hf : f = 101 ∨ f = 69 ∨ f = 102 ∨ f = 103 ∨ f = 71)
    (near n : Nat) (hs : m ≠ 0 → nearS (fun d k => decide (nearB (mb : Nat) bias inf (d * 10 ^ k.toNat) (10 ^ (-k).toNat) = (x - (mb : Nat) - (ME + Z)).toNat * 2 ^ mb + m)) (vN m (x - (mb : Nat))) (vD (x - (mb : Nat))) (ordT (vN m (x - (mb : Nat))) (vD (x - (mb : Nat)))) 16 1 = (near, n, false)) :
    efgP neg f (pick Z ME mb m x (-1) f) = eSign neg ++ shortT (shoS (vN m (x - (mb : Nat))) (vD (x - (mb : Nat))) near n).1 (shoS (vN m (x - (mb : Nat))) (vD (x - (mb : Nat))) near n).2 f := by
  by_cases hm0 : m = 0
  · subst hm0
    have hV : vN 0 (x - (mb : Nat)) = 0 := by unfold vN; rw [Nat.zero_mul]
    have hpk : pick Z ME mb 0 x (-1) f = ⟨[], 0, -1, true⟩ := by
      unfold pick
      rw [if_pos rfl]
      congr 1
    rw [hV, hpk]
    unfold shoS
    rw [if_pos rfl]
    exact short_zero neg f hf
  · have hA := vN_ne (x - (mb : Nat)) hm0
    obtain ⟨near', n', tie, h1, h2⟩ := short_ref Z ME mb m x bias inf hz hnorm hm0 hb hinf
    rw [hs hm0] at h1
    cases h1
    obtain ⟨h3, h4, h5⟩ := h2 rfl
    unfold shoS
    rw [if_neg hA, h3]
    have hpk : pick Z ME mb m x (-1) f = pkShort Z ME m (x - (mb : Nat)) (-1) f := by
      unfold pick
      rw [if_neg hm0, if_pos (by omega)]
    have hbd := shortF_bd Z ME (m * 2 ^ shS m) (x - (mb : Nat) - (shS m : Nat)) (by
      have ht := top_of hz hm0
      have := ht.s11
      have := ht.lo
      obtain ⟨n1, n2, n3⟩ := shS_norm hz hm0
      unfold Kd at hz; omega) (top_of hz hm0).lt
    rw [hpk]
    unfold pkShort
    dsimp only
    generalize shortF Z ME (m * 2 ^ shS m) (x - (mb : Nat) - (shS m : Nat)) = r at *
    generalize (digS (ordT (vN m (x - (mb : Nat))) (vD (x - (mb : Nat)))) near n).2 = E at *
    rw [dsOf_dsC r.1 h5, ← h4]
    have hnd : nDig r.1 ≤ 20 := nDig_lt (by omega)
    have hnp := nDig_pos h5
    exact short_text neg f (dsC r.1) E hf (digs_dsC r.1 _ h5 rfl).2.2 (dsC_last r.1 h5) (by omega) (by omega)
end Go.Proofs.YticlnihjhcepkaaGreatDoor
