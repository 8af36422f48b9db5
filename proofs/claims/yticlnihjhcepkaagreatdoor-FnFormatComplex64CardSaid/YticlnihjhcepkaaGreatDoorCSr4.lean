/-
  The reference's shortest digits of numbers of 64 and of 32 bits, and that ftoa writes them.
-/
import Derived.Test.YticlnihjhcepkaaGreatDoorCSr3
import Derived.Test.YticlnihjhcepkaaGreatDoorGq
namespace Go.Proofs.YticlnihjhcepkaaGreatDoor
open Go.RowKit
set_option linter.unusedSimpArgs false
set_option linter.unusedVariables false

theorem ten_le16 (i : Nat) : 10 ^ i ≤ 2 ^ (4 * i) := by
  rw [Nat.pow_mul]
  exact Nat.pow_le_pow_left (by omega) i

theorem lenG (a d i j K I : Nat) (h1 : a < 2 ^ K) (hi : i ≤ I) (hj : j ≤ I) (hd : d ≤ a * 10 ^ i + 1) : d * 10 ^ j ≤ 2 ^ (K + 4 * I + 4 * I) := by
  have h2 : 10 ^ i ≤ 2 ^ (4 * I) := Nat.le_trans (ten_le16 i) (Nat.pow_le_pow_right (by decide) (by omega))
  have h3 : 10 ^ j ≤ 2 ^ (4 * I) := Nat.le_trans (ten_le16 j) (Nat.pow_le_pow_right (by decide) (by omega))
  have h4 : a * 10 ^ i < 2 ^ (K + 4 * I) := by
    rw [Nat.pow_add]
    exact Nat.lt_of_lt_of_le (Nat.mul_lt_mul_of_pos_right h1 (p10 i)) (Nat.mul_le_mul_left _ h2)
  rw [Nat.pow_add 2 (K + 4 * I)]
  refine Nat.mul_le_mul ?_ h3
  generalize 2 ^ (K + 4 * I) = X at *
  omega

theorem len600 (a d i j : Nat) (ha : (natL a).length ≤ 100) (hi : i ≤ 1000) (hj : j ≤ 1000) (hd : d ≤ a * 10 ^ i + 1) : (natL (d * 10 ^ j)).length ≤ 600 := by
  obtain ⟨M, hM⟩ : ∃ M, M = 600 := ⟨_, rfl⟩
  obtain ⟨I, hI⟩ : ∃ I, I = 1000 := ⟨_, rfl⟩
  obtain ⟨K, hK⟩ : ∃ K, K = 3000 := ⟨_, rfl⟩
  rw [← hM]
  have h1 : a < 2 ^ K := by
    refine Nat.lt_of_lt_of_le (natL_lt a) ?_
    rw [pow_B]
    exact Nat.pow_le_pow_right (by decide) (by omega)
  refine natL_len_le (Nat.lt_of_le_of_lt (lenG a d i j K I h1 (by omega) (by omega) hd) ?_)
  rw [pow_B]
  exact Nat.pow_lt_pow_right (by decide) (by omega)

theorem ordT_bd (a b : Nat) (hla : (natL a).length ≤ 100) (hlb : (natL b).length ≤ 100) : -905 ≤ ordT a b ∧ ordT a b ≤ 905 := by
  have da := nDig_natL a hla
  have db := nDig_natL b hlb
  unfold ordT; split <;> omega

theorem digS_bd (E : Int) (near k : Nat) (h1 : 1 ≤ k) (h2 : 1 ≤ (decT near).length) (h3 : (decT near).length ≤ 18) : 1 ≤ (digS E near k).1.length ∧ (digS E near k).1.length ≤ 18 ∧ E ≤ (digS E near k).2 ∧ (digS E near k).2 ≤ E + 1 := by
  unfold digS
  split
  · refine ⟨?_, ?_, by dsimp only; omega, by dsimp only; omega⟩ <;> (dsimp only; rw [List.length_take]; omega)
  · exact ⟨h2, h3, by dsimp only; omega, by dsimp only; omega⟩

theorem shoS_bd (a b near k : Nat) (hla : (natL a).length ≤ 100) (hlb : (natL b).length ≤ 100) (h1 : 1 ≤ k) (h2 : 1 ≤ (decT near).length) (h3 : (decT near).length ≤ 18) : 1 ≤ (shoS a b near k).1.length ∧ (shoS a b near k).1.length ≤ 18 ∧ -906 ≤ (shoS a b near k).2 ∧ (shoS a b near k).2 ≤ 906 := by
  have := ordT_bd a b hla hlb
  have := digS_bd (ordT a b) near k h1 h2 h3
  unfold shoS
  split
  · refine ⟨by simp, by simp, by dsimp only; omega, by dsimp only; omega⟩
  · omega

theorem gT_len (c : UInt8) (t : List UInt8) (E lim : Int) (h2 : t.length ≤ 7000) (hE1 : -1000 ≤ E) (hE2 : E ≤ 1000) : (gT c t E lim).length ≤ 1000000 := by
  unfold gT
  split
  · have hxl : (expT c E false).length ≤ 100 := by
      unfold expT
      have := decT_len E.natAbs (by omega)
      rw [List.length_cons, List.length_cons]
      split
      · rw [List.length_cons]; omega
      · omega
    rw [List.length_append]
    unfold ptL
    split
    · omega
    · simp; omega
  · unfold placedT
    dsimp only
    split
    · simp only [List.length_take]
      split <;> simp [zeroS] <;> omega
    · simp only [List.length_append, List.length_cons, List.length_take, List.length_drop]
      split <;> simp [zeroS] <;> omega

/-- Format with the precision -1. -/
theorem specShort (size : Int) (n : Nat) (neg : Bool) (a b : Nat) (f : Int) (S : List UInt8 × Int) (hf : isEfg f) (hS0 : a = 0 → S = ([48], 0)) (hx1 : 1 ≤ S.1.length) (hx2 : S.1.length ≤ 7000) (he1 : -1000 ≤ S.2) (he2 : S.2 ≤ 1000)
    (hI : ∀ W, Calls Tryz.prog 47 #[.int .i64 size, .int .u64 (n : Int)] W fun e w' => e = .returned (.bool neg) ∧ W = w')
    (hK : ∀ W, Calls Tryz.prog 23 #[.int .i64 size, .int .u64 (n : Int)] W fun e w' => e = .returned (.int .i64 0) ∧ W = w')
    (hV : ∀ W, Calls Tryz.prog 24 #[.int .i64 size, .int .u64 (n : Int)] W fun x w' => ∃ vn vd, x = .returned (.tuple #[.agg #[.bool neg, vn, vd], .bool true]) ∧ NatV w' vn a ∧ NatV w' vd b ∧ W.grownBy w' none)
    (hSH : ∀ W, Calls Tryz.prog 91 #[.int .i64 size, .int .u64 (n : Int)] W fun e w' => e = .returned (.tuple #[.string ⟨S.1.toArray⟩, .int .i64 S.2]) ∧ W.grownBy w' none) (w : World) :
    Calls Tryz.prog 32 #[.int .i64 size, .int .u64 (n : Int), .int .u8 f, .int .i64 (-1)] w fun e w' => e = .returned (.string ⟨(eSign neg ++ shortT S.1 S.2 f).toArray⟩) ∧ w.grownBy w' none := by
  have hX : ∀ W, Calls Tryz.prog 62 #[.int .i64 size, .int .u64 (n : Int), .int .i64 (-1)] W fun e w' => e = .returned (.tuple #[.string ⟨S.1.toArray⟩, .int .i64 S.2]) ∧ W.grownBy w' none :=
    fun W => exponentialS_any size n neg a b S W hS0 hV hSH
  have hG : ∀ (c : UInt8) W, Calls Tryz.prog 67 #[.int .i64 size, .int .u64 (n : Int), .int .u8 (c.toNat : Int), .int .i64 (-1)] W fun e w' => e = .returned (.string ⟨(gT c (trimS S.1) S.2 6).toArray⟩) ∧ W.grownBy w' none :=
    fun c W => general_any size n c (-1) S.1 S.2 W (by omega) (by omega) hx1 hx2 he1 he2 hX
  have hgl : ∀ c, (gT c (trimS S.1) S.2 6).length ≤ 1000000 := fun c => gT_len c _ _ _ (Nat.le_trans (trimS_len S.1).1 hx2) he1 he2
  unfold shortT
  rcases hf with rfl | rfl | rfl | rfl | rfl
  · rw [if_pos rfl]
    exact formatE_any size n neg a b 101 101 (-1) S.1 S.2 (Or.inl ⟨rfl, rfl⟩) hx1 hx2 he1 he2 w hI hK hV hX
  · rw [if_neg (by decide), if_pos rfl]
    exact formatE_any size n neg a b 69 69 (-1) S.1 S.2 (Or.inr ⟨rfl, rfl⟩) hx1 hx2 he1 he2 w hI hK hV hX
  · rw [if_neg (by decide), if_neg (by decide), if_pos rfl]
    exact formatFS_any size n neg a b 102 S.1 S.2 rfl hx1 hx2 he1 he2 w hI hK hV hX
  · rw [if_neg (by decide), if_neg (by decide), if_neg (by decide), if_pos rfl]
    exact formatG_any size n neg a b 103 101 (-1) _ (Or.inl ⟨rfl, rfl⟩) (hgl _) w hI hK hV (hG 101)
  · rw [if_neg (by decide), if_neg (by decide), if_neg (by decide), if_neg (by decide)]
    exact formatG_any size n neg a b 71 69 (-1) _ (Or.inr ⟨rfl, rfl⟩) (hgl _) w hI hK hV (hG 69)


/-- How the reference decides whether digits are read back. -/
def rd64 (q : Nat) : Nat → Int → Bool := fun d k => decide (nearB (52 : Nat) 1023 9218868437227405312 (d * 10 ^ k.toNat) (10 ^ (-k).toNat) = q)

theorem readsBack64_any (q a b : Nat) (v : Value) (d n : Nat) (w : World) (hla : (natL a).length ≤ 100) (hlb : (natL b).length ≤ 100) (hq : q < 9218868437227405312) (hr : NatV w v d) (hd : d ≤ a * 10 ^ ((n : Int) - 1 - ordT a b).toNat + 1) (hn1 : 1 ≤ n) (hn2 : n ≤ 17) :
    Calls Tryz.prog 58 #[.int .i64 64, .int .u64 (q : Int), v, .int .i64 (ordT a b), .int .i64 (n : Int)] w fun x w' => x = .returned (.bool (rd64 q d (ordT a b - n + 1))) ∧ w.grownBy w' none := by
  obtain ⟨o1, o2⟩ := ordT_bd a b hla hlb
  have h1 := fun j (hj : j ≤ 1000) => len600 a d ((n : Int) - 1 - ordT a b).toNat j hla (by omega) hj hd
  have h0 := h1 0 (by omega)
  rw [Nat.pow_zero, Nat.mul_one] at h0
  have h2 : (natL (10 ^ (-(ordT a b - n + 1)).toNat)).length ≤ 600 := by
    have := len600 0 1 0 (-(ordT a b - n + 1)).toNat (by rw [natL_zero]; simp) (by omega) (by omega) (by omega)
    rwa [Nat.one_mul] at this
  exact readsBack_gen 64 9218868437227405312 (near64 (d * 10 ^ (ordT a b - n + 1).toNat) (10 ^ (-(ordT a b - n + 1)).toNat)) v d q (ordT a b) n w hr (by omega) (by omega) (by omega) (by omega) (by omega) hq
    (fun vn vd W r1 r2 => nearest64_any false vn vd _ _ W r1 r2 (Nat.ne_of_gt (p10 _)) (h1 _ (by omega)) h2)

/-- The shortest digits of a finite number: whether two are equally near, what Format writes of them, and that ftoa writes the same. -/
theorem short64_data (n : Nat) (hn : n < 18446744073709551616) (hfin : n % 9223372036854775808 < 9218868437227405312) : ∃ (near k : Nat) (tie : Bool), 1 ≤ k ∧ k ≤ 17 ∧ 1 ≤ (decT near).length ∧ (decT near).length ≤ 18 ∧ (natL near).length ≤ 10 ∧
    (m64 n ≠ 0 → nearS (rd64 (n % 9223372036854775808)) (vN (m64 n) (e64 n)) (vD (e64 n)) (ordT (vN (m64 n) (e64 n)) (vD (e64 n))) 16 1 = (near, k, tie)) ∧
    (vN (m64 n) (e64 n) ≠ 0 → ∀ vn vd W, NatV W vn (vN (m64 n) (e64 n)) → NatV W vd (vD (e64 n)) → Calls Tryz.prog 29 #[.int .i64 64, .int .u64 ((n % 9223372036854775808 : Nat) : Int), .agg #[.bool false, vn, vd]] W fun x w' => ∃ V, x = .returned (.tuple #[V, .int .i64 (k : Int), .int .i64 (ordT (vN (m64 n) (e64 n)) (vD (e64 n))), .bool tie]) ∧ NatV w' V near ∧ W.grownBy w' none) ∧
    ((m64 n ≠ 0 → tie = false) → ∀ f, isEfg f → ftoa64L n f (-1) = eSign (decide (9223372036854775808 ≤ n)) ++ shortT (shoS (vN (m64 n) (e64 n)) (vD (e64 n)) near k).1 (shoS (vN (m64 n) (e64 n)) (vD (e64 n)) near k).2 f) := by
  have hx := e64_bd n hfin
  have hm : m64 n < 2 ^ 53 := Nat.lt_of_lt_of_le (m64_lt n) (by decide)
  obtain ⟨v1, v2⟩ := v_len (m64 n) (e64 n) hm (by omega) (by omega)
  have hB := Nat.ne_of_gt (vD_pos (e64 n))
  have hE := fin64_E n hfin
  have hbits : (e64 n - (-1085 + ((11 : Nat) : Int))).toNat * 2 ^ 52 + m64 n = n % 9223372036854775808 := by
    rw [← m64_is n, ← e64_is n]
    split <;> omega
  have hex : ∃ (near k : Nat) (tie : Bool), (m64 n ≠ 0 → nearS (rd64 (n % 9223372036854775808)) (vN (m64 n) (e64 n)) (vD (e64 n)) (ordT (vN (m64 n) (e64 n)) (vD (e64 n))) 16 1 = (near, k, tie)) ∧ (m64 n = 0 → near = 0 ∧ k = 1 ∧ tie = false) := by
    by_cases h0 : m64 n = 0
    · exact ⟨0, 1, false, fun h => absurd h0 h, fun _ => ⟨rfl, rfl, rfl⟩⟩
    · exact ⟨_, _, _, fun _ => rfl, fun h => absurd h h0⟩
  obtain ⟨near, k, tie, hs, hz⟩ := hex
  have hnk : 1 ≤ k ∧ k ≤ 17 ∧ near ≤ 10 ^ k := by
    by_cases h0 : m64 n = 0
    · obtain ⟨rfl, rfl, rfl⟩ := hz h0; omega
    · have := nearS_le _ _ _ (vN_ne _ h0) hB 16 1 near k tie (by omega) (hs h0)
      omega
  obtain ⟨l1, l2, l3⟩ := near_len hnk.2.1 hnk.2.2
  refine ⟨near, k, tie, hnk.1, hnk.2.1, l3, l2, l1, hs, ?_, ?_⟩
  · intro hA vn vd W r1 r2
    have hm0 : m64 n ≠ 0 := fun h => hA (by rw [h]; unfold vN; rw [Nat.zero_mul])
    obtain ⟨o1, o2⟩ := ordT_bd _ _ v1 v2
    refine (nearest_gen 64 ((n % 9223372036854775808 : Nat) : Int) vn vd _ _ (rd64 (n % 9223372036854775808)) W r1 r2 hA hB v1 v2 (by omega) (fun V d j W' r hd h1 h2 => readsBack64_any (n % 9223372036854775808) _ _ V d j W' v1 v2 hfin r hd h1 h2)).mono ?_
    rintro x w' ⟨V, near', k', tie', rfl, hV, hN, hg⟩
    rw [hs hm0] at hN
    cases hN
    exact ⟨V, rfl, hV, hg⟩
  · intro ht f hf
    unfold ftoa64L ftoaL
    rw [if_neg hE, if_neg (by unfold isEfg at hf; omega), if_neg (by unfold isEfg at hf; omega), neg64_is n hn]
    refine pick_short 11 (-1085) 52 (m64 n) (flExp 11 52 (-1023) n) 1023 f 9218868437227405312 (decide (9223372036854775808 ≤ n)) (Or.inl ⟨rfl, rfl, rfl, by unfold e64 at hx; omega, by unfold e64 at hx; omega, m64_lt n⟩) ?_ (by decide) (by decide) hf near k ?_
    · unfold m64 flMant flExp
      by_cases h0 : flE 11 52 n = 0
      · right; rw [if_pos h0]; rfl
      · left; rw [if_neg h0]; omega
    · intro hm0
      have h1 := hs hm0
      rw [ht hm0] at h1
      rw [show (flExp 11 52 (-1023) n - ((52 : Nat) : Int)) = e64 n from rfl, hbits]
      exact h1

theorem short64_any (n : Nat) (hn : n < 18446744073709551616) (hfin : n % 9223372036854775808 < 9218868437227405312) : ∃ (t : Bool) (tx : Int → List UInt8),
    (∀ W, Calls Tryz.prog 11 #[.int .i64 64, .int .u64 (n : Int)] W fun e w' => e = .returned (.bool t) ∧ W.grownBy w' none) ∧
    (∀ f, isEfg f → ∀ W, Calls Tryz.prog 32 #[.int .i64 64, .int .u64 (n : Int), .int .u8 f, .int .i64 (-1)] W fun e w' => e = .returned (.string ⟨(tx f).toArray⟩) ∧ W.grownBy w' none) ∧
    (t = false → ∀ f, isEfg f → ftoa64L n f (-1) = tx f) := by
  obtain ⟨near, k, tie, k1, k2, d1, d2, l1, -, hN, hT⟩ := short64_data n hn hfin
  have hx := e64_bd n hfin
  have hm : m64 n < 2 ^ 53 := Nat.lt_of_lt_of_le (m64_lt n) (by decide)
  obtain ⟨v1, v2⟩ := v_len (m64 n) (e64 n) hm (by omega) (by omega)
  have hq : n % 9223372036854775808 < 18446744073709551616 := by omega
  have hqs : n % 9223372036854775808 % 9223372036854775808 = n % 9223372036854775808 := Nat.mod_mod _ _
  have hkq : kindB 9218868437227405312 9223372036854775808 (n % 9223372036854775808) = 0 := kindB_0 rfl (by rw [hqs]; exact hfin)
  have hk : kindB 9218868437227405312 9223372036854775808 n = 0 := kindB_0 rfl hfin
  have hK := fun W => kind64_any n W hn
  rw [hk] at hK
  have hVq := fun W => valueOf64_any (n % 9223372036854775808) (m64 n) (e64 n) W hq hkq (by rw [hqs]; exact m64_is n) (by rw [hqs]; exact e64_is n)
  have hneg : decide (9223372036854775808 ≤ n % 9223372036854775808) = false := by
    have := Nat.mod_lt n (show 0 < 9223372036854775808 by decide)
    simp; omega
  rw [hneg] at hVq
  have hand : bits .andNot .u64 (n : Int) ((9223372036854775808 : Nat) : Int) = ((n % 9223372036854775808 : Nat) : Int) := u64_andNot_top n 63 (by omega) (by omega)
  obtain ⟨o1, o2⟩ := ordT_bd _ _ v1 v2
  obtain ⟨b1, b2, b3, b4⟩ := shoS_bd _ _ near k v1 v2 k1 d1 d2
  have hS := fun W => shortest_gen 64 n (n % 9223372036854775808) 9223372036854775808 near k tie (vN (m64 n) (e64 n)) (vD (e64 n)) W k1 k2 l1 d2 (by omega) (fun W => sign64_any W) hand hVq hN
  refine ⟨_, fun f => eSign (decide (9223372036854775808 ≤ n)) ++ shortT (shoS (vN (m64 n) (e64 n)) (vD (e64 n)) near k).1 (shoS (vN (m64 n) (e64 n)) (vD (e64 n)) near k).2 f, fun W => shortTie_gen 64 n (n % 9223372036854775808) 9223372036854775808 near k tie (vN (m64 n) (e64 n)) (vD (e64 n)) _ W (fun W => sign64_any W) hand hVq hN, ?_, ?_⟩
  · intro f hf W
    exact specShort 64 n _ (vN (m64 n) (e64 n)) (vD (e64 n)) f _ hf (fun h => by unfold shoS; rw [if_pos h]) b1 (by omega) (by omega) (by omega) (fun W => isNeg64_any n W hn) hK (fun W => valueOf64_any n (m64 n) (e64 n) W hn hk (m64_is n) (e64_is n)) hS W
  · intro ht f hf
    refine hT (fun hm0 => ?_) f hf
    have := vN_ne (e64 n) hm0
    rw [decide_eq_true this, Bool.true_and] at ht
    exact ht

/-- How the reference decides whether digits are read back. -/
def rd32 (q : Nat) : Nat → Int → Bool := fun d k => decide (nearB (23 : Nat) 127 2139095040 (d * 10 ^ k.toNat) (10 ^ (-k).toNat) = q)

theorem readsBack32_any (q a b : Nat) (v : Value) (d n : Nat) (w : World) (hla : (natL a).length ≤ 100) (hlb : (natL b).length ≤ 100) (hq : q < 2139095040) (hr : NatV w v d) (hd : d ≤ a * 10 ^ ((n : Int) - 1 - ordT a b).toNat + 1) (hn1 : 1 ≤ n) (hn2 : n ≤ 17) :
    Calls Tryz.prog 58 #[.int .i64 32, .int .u64 (q : Int), v, .int .i64 (ordT a b), .int .i64 (n : Int)] w fun x w' => x = .returned (.bool (rd32 q d (ordT a b - n + 1))) ∧ w.grownBy w' none := by
  obtain ⟨o1, o2⟩ := ordT_bd a b hla hlb
  have h1 := fun j (hj : j ≤ 1000) => len600 a d ((n : Int) - 1 - ordT a b).toNat j hla (by omega) hj hd
  have h0 := h1 0 (by omega)
  rw [Nat.pow_zero, Nat.mul_one] at h0
  have h2 : (natL (10 ^ (-(ordT a b - n + 1)).toNat)).length ≤ 600 := by
    have := len600 0 1 0 (-(ordT a b - n + 1)).toNat (by rw [natL_zero]; simp) (by omega) (by omega) (by omega)
    rwa [Nat.one_mul] at this
  exact readsBack_gen 32 2139095040 (near32 (d * 10 ^ (ordT a b - n + 1).toNat) (10 ^ (-(ordT a b - n + 1)).toNat)) v d q (ordT a b) n w hr (by omega) (by omega) (by omega) (by omega) (by omega) hq
    (fun vn vd W r1 r2 => nearest32_any false vn vd _ _ W r1 r2 (Nat.ne_of_gt (p10 _)) (h1 _ (by omega)) h2)

/-- The shortest digits of a finite number: whether two are equally near, what Format writes of them, and that ftoa writes the same. -/
theorem short32_data (n : Nat) (hn : n < 4294967296) (hfin : n % 2147483648 < 2139095040) : ∃ (near k : Nat) (tie : Bool), 1 ≤ k ∧ k ≤ 17 ∧ 1 ≤ (decT near).length ∧ (decT near).length ≤ 18 ∧ (natL near).length ≤ 10 ∧
    (m32 n ≠ 0 → nearS (rd32 (n % 2147483648)) (vN (m32 n) (e32 n)) (vD (e32 n)) (ordT (vN (m32 n) (e32 n)) (vD (e32 n))) 16 1 = (near, k, tie)) ∧
    (vN (m32 n) (e32 n) ≠ 0 → ∀ vn vd W, NatV W vn (vN (m32 n) (e32 n)) → NatV W vd (vD (e32 n)) → Calls Tryz.prog 29 #[.int .i64 32, .int .u64 ((n % 2147483648 : Nat) : Int), .agg #[.bool false, vn, vd]] W fun x w' => ∃ V, x = .returned (.tuple #[V, .int .i64 (k : Int), .int .i64 (ordT (vN (m32 n) (e32 n)) (vD (e32 n))), .bool tie]) ∧ NatV w' V near ∧ W.grownBy w' none) ∧
    ((m32 n ≠ 0 → tie = false) → ∀ f, isEfg f → ftoa32L n f (-1) = eSign (decide (2147483648 ≤ n)) ++ shortT (shoS (vN (m32 n) (e32 n)) (vD (e32 n)) near k).1 (shoS (vN (m32 n) (e32 n)) (vD (e32 n)) near k).2 f) := by
  have hx := e32_bd n hfin
  have hm : m32 n < 2 ^ 53 := Nat.lt_of_lt_of_le (m32_lt n) (by decide)
  obtain ⟨v1, v2⟩ := v_len (m32 n) (e32 n) hm (by omega) (by omega)
  have hB := Nat.ne_of_gt (vD_pos (e32 n))
  have hE := fin32_E n hfin
  have hbits : (e32 n - (-189 + ((40 : Nat) : Int))).toNat * 2 ^ 23 + m32 n = n % 2147483648 := by
    rw [← m32_is n, ← e32_is n]
    split <;> omega
  have hex : ∃ (near k : Nat) (tie : Bool), (m32 n ≠ 0 → nearS (rd32 (n % 2147483648)) (vN (m32 n) (e32 n)) (vD (e32 n)) (ordT (vN (m32 n) (e32 n)) (vD (e32 n))) 16 1 = (near, k, tie)) ∧ (m32 n = 0 → near = 0 ∧ k = 1 ∧ tie = false) := by
    by_cases h0 : m32 n = 0
    · exact ⟨0, 1, false, fun h => absurd h0 h, fun _ => ⟨rfl, rfl, rfl⟩⟩
    · exact ⟨_, _, _, fun _ => rfl, fun h => absurd h h0⟩
  obtain ⟨near, k, tie, hs, hz⟩ := hex
  have hnk : 1 ≤ k ∧ k ≤ 17 ∧ near ≤ 10 ^ k := by
    by_cases h0 : m32 n = 0
    · obtain ⟨rfl, rfl, rfl⟩ := hz h0; omega
    · have := nearS_le _ _ _ (vN_ne _ h0) hB 16 1 near k tie (by omega) (hs h0)
      omega
  obtain ⟨l1, l2, l3⟩ := near_len hnk.2.1 hnk.2.2
  refine ⟨near, k, tie, hnk.1, hnk.2.1, l3, l2, l1, hs, ?_, ?_⟩
  · intro hA vn vd W r1 r2
    have hm0 : m32 n ≠ 0 := fun h => hA (by rw [h]; unfold vN; rw [Nat.zero_mul])
    obtain ⟨o1, o2⟩ := ordT_bd _ _ v1 v2
    refine (nearest_gen 32 ((n % 2147483648 : Nat) : Int) vn vd _ _ (rd32 (n % 2147483648)) W r1 r2 hA hB v1 v2 (by omega) (fun V d j W' r hd h1 h2 => readsBack32_any (n % 2147483648) _ _ V d j W' v1 v2 hfin r hd h1 h2)).mono ?_
    rintro x w' ⟨V, near', k', tie', rfl, hV, hN, hg⟩
    rw [hs hm0] at hN
    cases hN
    exact ⟨V, rfl, hV, hg⟩
  · intro ht f hf
    unfold ftoa32L ftoaL
    rw [if_neg hE, if_neg (by unfold isEfg at hf; omega), if_neg (by unfold isEfg at hf; omega), neg32_is n hn]
    refine pick_short 40 (-189) 23 (m32 n) (flExp 8 23 (-127) n) 127 f 2139095040 (decide (2147483648 ≤ n)) (Or.inr ⟨rfl, rfl, rfl, by unfold e32 at hx; omega, by unfold e32 at hx; omega, m32_lt n⟩) ?_ (by decide) (by decide) hf near k ?_
    · unfold m32 flMant flExp
      by_cases h0 : flE 8 23 n = 0
      · right; rw [if_pos h0]; rfl
      · left; rw [if_neg h0]; omega
    · intro hm0
      have h1 := hs hm0
      rw [ht hm0] at h1
      rw [show (flExp 8 23 (-127) n - ((23 : Nat) : Int)) = e32 n from rfl, hbits]
      exact h1

theorem short32_any (n : Nat) (hn : n < 4294967296) (hfin : n % 2147483648 < 2139095040) : ∃ (t : Bool) (tx : Int → List UInt8),
    (∀ W, Calls Tryz.prog 11 #[.int .i64 32, .int .u64 (n : Int)] W fun e w' => e = .returned (.bool t) ∧ W.grownBy w' none) ∧
    (∀ f, isEfg f → ∀ W, Calls Tryz.prog 32 #[.int .i64 32, .int .u64 (n : Int), .int .u8 f, .int .i64 (-1)] W fun e w' => e = .returned (.string ⟨(tx f).toArray⟩) ∧ W.grownBy w' none) ∧
    (t = false → ∀ f, isEfg f → ftoa32L n f (-1) = tx f) := by
  obtain ⟨near, k, tie, k1, k2, d1, d2, l1, -, hN, hT⟩ := short32_data n hn hfin
  have hx := e32_bd n hfin
  have hm : m32 n < 2 ^ 53 := Nat.lt_of_lt_of_le (m32_lt n) (by decide)
  obtain ⟨v1, v2⟩ := v_len (m32 n) (e32 n) hm (by omega) (by omega)
  have hq : n % 2147483648 < 4294967296 := by omega
  have hqs : n % 2147483648 % 2147483648 = n % 2147483648 := Nat.mod_mod _ _
  have hkq : kindB 2139095040 2147483648 (n % 2147483648) = 0 := kindB_0 rfl (by rw [hqs]; exact hfin)
  have hk : kindB 2139095040 2147483648 n = 0 := kindB_0 rfl hfin
  have hK := fun W => kind32_any n W hn
  rw [hk] at hK
  have hVq := fun W => valueOf32_any (n % 2147483648) (m32 n) (e32 n) W hq hkq (by rw [hqs]; exact m32_is n) (by rw [hqs]; exact e32_is n)
  have hneg : decide (2147483648 ≤ n % 2147483648) = false := by
    have := Nat.mod_lt n (show 0 < 2147483648 by decide)
    simp; omega
  rw [hneg] at hVq
  have hand : bits .andNot .u64 (n : Int) ((2147483648 : Nat) : Int) = ((n % 2147483648 : Nat) : Int) := u64_andNot_top n 31 (by omega) (by omega)
  obtain ⟨o1, o2⟩ := ordT_bd _ _ v1 v2
  obtain ⟨b1, b2, b3, b4⟩ := shoS_bd _ _ near k v1 v2 k1 d1 d2
  have hS := fun W => shortest_gen 32 n (n % 2147483648) 2147483648 near k tie (vN (m32 n) (e32 n)) (vD (e32 n)) W k1 k2 l1 d2 (by omega) (fun W => sign32_any W) hand hVq hN
  refine ⟨_, fun f => eSign (decide (2147483648 ≤ n)) ++ shortT (shoS (vN (m32 n) (e32 n)) (vD (e32 n)) near k).1 (shoS (vN (m32 n) (e32 n)) (vD (e32 n)) near k).2 f, fun W => shortTie_gen 32 n (n % 2147483648) 2147483648 near k tie (vN (m32 n) (e32 n)) (vD (e32 n)) _ W (fun W => sign32_any W) hand hVq hN, ?_, ?_⟩
  · intro f hf W
    exact specShort 32 n _ (vN (m32 n) (e32 n)) (vD (e32 n)) f _ hf (fun h => by unfold shoS; rw [if_pos h]) b1 (by omega) (by omega) (by omega) (fun W => isNeg32_any n W hn) hK (fun W => valueOf32_any n (m32 n) (e32 n) W hn hk (m32_is n) (e32_is n)) hS W
  · intro ht f hf
    refine hT (fun hm0 => ?_) f hf
    have := vN_ne (e32 n) hm0
    rw [decide_eq_true this, Bool.true_and] at ht
    exact ht
end Go.Proofs.YticlnihjhcepkaaGreatDoor
