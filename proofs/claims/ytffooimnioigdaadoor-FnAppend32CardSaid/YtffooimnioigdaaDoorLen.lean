/-
  Plain: how long the texts are.
-/
import Derived.Test.YtffooimnioigdaaDoorFt1
namespace Go.Proofs.YtffooimnioigdaaDoor
open Go.RowKit
set_option linter.unusedSimpArgs false
set_option linter.unusedVariables false

theorem expL_len (e : Int) : (expL e).length ≤ 4 := by
  unfold expL; rw [List.length_cons]; (repeat' split) <;> simp
theorem eSign_len (neg : Bool) : (eSign neg).length ≤ 1 := by cases neg <;> simp [eSign]
theorem efgL_len (neg : Bool) (ds : List UInt8) (dp pr f : Int) (hp : pr ≤ 200000) (hd : dp ≤ 900) : (efgL neg ds dp pr f).length ≤ 2000000 + ds.length := by
  have h1 := eSign_len neg
  unfold efgL
  split
  · unfold efgE
    have h2 := expL_len (eExp ds dp)
    have h3 : (eFrac ds pr).length ≤ 500001 := by
      unfold eFrac
      split
      · simp only [List.length_cons, List.length_append, List.length_take, List.length_drop, List.length_replicate]; omega
      · simp
    simp only [List.length_append, List.length_cons, List.length_nil]
    omega
  · split
    · unfold efgF
      have h2 : (fInt ds dp).length ≤ 1000 + ds.length := by
        unfold fInt
        split
        · simp only [List.length_append, List.length_take, List.length_replicate]; omega
        · simp; omega
      have h3 : (fFrac ds dp pr).length ≤ 1000000 := by
        unfold fFrac
        split
        · simp only [List.length_cons, List.length_append, List.length_take, List.length_drop, List.length_replicate]
          unfold fM fLz
          omega
        · simp
      simp only [List.length_append]
      omega
    · simp; omega


theorem gAdj_le (dp nd prec f : Int) (sh : Bool) (h1 : -900 ≤ dp) (h2 : nd ≤ 800) (h3 : prec ≤ 100000) : (gAdj dp nd prec f sh).1 ≤ 200000 := by
  unfold gAdj
  (repeat' split) <;> dsimp only <;> omega

theorem efgP_len (neg : Bool) (f : Int) (P : Pick) (h1 : -900 ≤ P.dp) (h2 : P.dp ≤ 900) (h3 : P.ds.length ≤ 800) (h4 : P.prec ≤ 100000) : (efgP neg f P).length ≤ 3000000 := by
  unfold efgP
  have := efgL_len neg P.ds P.dp _ (gAdj P.dp P.ds.length P.prec f P.sh).2 (gAdj_le P.dp P.ds.length P.prec f P.sh h1 (by omega) h4) h2
  omega

theorem pick_bd (Z : Nat) (ME : Int) (mb m : Nat) (x prec f : Int) (hz : Z = 11 ∧ ME = -1085 ∧ mb = 52 ∧ -1022 ≤ x ∧ x ≤ 1023 ∧ m < 2 ^ 53 ∨ Z = 40 ∧ ME = -189 ∧ mb = 23 ∧ -126 ≤ x ∧ x ≤ 127 ∧ m < 2 ^ 24) (hp : prec ≤ 50000) :
    -900 ≤ (pick Z ME mb m x prec f).dp ∧ (pick Z ME mb m x prec f).dp ≤ 900 ∧ (pick Z ME mb m x prec f).ds.length ≤ 800 ∧ (pick Z ME mb m x prec f).prec ≤ 100000 := by
  have hm53 : m < 2 ^ 53 := by omega
  unfold pick
  by_cases hm0 : m = 0
  · rw [if_pos hm0]; simp; omega
  rw [if_neg hm0]
  obtain ⟨hb1, hb2, hb3, hb4⟩ := bitLen_bd m (by omega) hm0
  have hS : 11 ≤ shS m ∧ shS m ≤ 63 ∧ (Z = 40 → 40 ≤ shS m) := by
    have := Lib.bitLen_le m 53 (by omega) hm53
    refine ⟨by unfold shS; omega, by unfold shS; omega, fun h => ?_⟩
    have h2 := Lib.bitLen_le m 24 (by omega) (by omega)
    unfold shS; omega
  have hmm : m * 2 ^ shS m < 18446744073709551616 := by
    rw [show (18446744073709551616 : Nat) = 2 ^ Lib.bitLen m * 2 ^ shS m by rw [← Nat.pow_add, show Lib.bitLen m + shS m = 64 by unfold shS; omega]]
    exact Nat.mul_lt_mul_of_pos_right hb3 (Nat.pow_pos (by omega))
  have hds : ∀ d, d < 18446744073709551616 → (dsOf d).length ≤ 20 ∧ nDig d ≤ 20 := by
    intro d hd
    have h1 := dsOf_length d
    have h2 := trimZ_le (digs d (nDig d)) (nDig d)
    have h3 := nDig_le d hd
    omega
  by_cases hpn : prec < 0
  · rw [if_pos hpn]
    unfold pkShort
    dsimp only
    have h1 := shortF_bd Z ME (m * 2 ^ shS m) (x - mb - shS m) (by
      rcases hz with ⟨a, b, c, d, e, _⟩ | ⟨a, b, c, d, e, _⟩
      · exact Or.inl ⟨a, b, by omega, by omega⟩
      · exact Or.inr ⟨a, b, by have := hS.2.2 a; omega, by have := hS.2.2 a; omega⟩) hmm
    have h2 := hds _ h1.1
    refine ⟨by omega, by omega, by omega, ?_⟩
    unfold shPrec
    (repeat' split) <;> omega
  · rw [if_neg hpn]
    have hpf : fixPrec prec f ≤ 50000 ∧ 0 ≤ fixPrec prec f := by unfold fixPrec; split <;> omega
    by_cases hd : fixDig x prec f ≤ 18
    · rw [if_pos hd]
      unfold pkFix
      by_cases h0 : 0 < fixDig x prec f
      · rw [if_pos h0]
        dsimp only
        have h1 := fwf_bd (m * 2 ^ shS m) (x - mb - shS m) (fixDig x prec f) (fixPrec prec f) (f == 102) (by omega) (by omega) (by omega) hd hpf.2 (by omega)
        have h2 := hds _ h1.1
        split <;> dsimp only <;> (try simp only [List.length_nil]) <;> omega
      · rw [if_neg h0]; simp; omega
    · rw [if_neg hd]
      obtain ⟨ds, dp, h1, h2, h3, h4, _⟩ := pkDec_is m (x - mb) (fixPrec prec f) f hm0 hm53 (by omega) (by omega)
      rw [h1]
      exact ⟨h3, h4, h2, by dsimp only; omega⟩

theorem hexN_le (up : Bool) (p : Int) (m : Nat) (hp : p ≤ 50000) : (xFrac up p m).length ≤ 50001 := by
  unfold xFrac
  split
  · have := hexZ_len up 16 m
    rw [List.length_cons]; omega
  · split
    · rw [List.length_cons, hexN_len]; omega
    · simp
theorem xL_len (neg : Bool) (prec f : Int) (m mb : Nat) (e : Int) (hp : prec ≤ 50000) : (xL neg prec f m mb e).length ≤ 60000 := by
  unfold xL
  have h1 := eSign_len neg
  have h2 := hexN_le (f == 88) prec ((xFin prec m mb e).1 * 16 % 2 ^ 64) hp
  have h3 : (xExp (xFin prec m mb e).2).length ≤ 5 := by
    unfold xExp; rw [List.length_cons]; (repeat' split) <;> simp
  simp only [List.length_append, List.length_cons, List.length_nil]
  omega
theorem fmtBL_len (neg : Bool) (m : Nat) (e : Int) (hm : m < 18446744073709551616) (h1 : -100000 ≤ e) (h2 : e ≤ 100000) : (fmtBL neg m e).length ≤ 100 := by
  unfold fmtBL
  have h3 := decDigits_le m hm
  have h4 := itoa_le e h1 h2
  simp only [List.length_append, List.length_cons, List.length_nil]
  (repeat' split) <;> simp <;> omega

theorem ftoa64L_len (b : Nat) (f prec : Int) (hb : b < 18446744073709551616) (hp : prec ≤ 50000) : (ftoa64L b f prec).length ≤ 4000000 := by
  have hE : flE 11 52 b < 2048 := Nat.mod_lt _ (by decide)
  have hF : flF 52 b < 4503599627370496 := Nat.mod_lt _ (by decide)
  have hM : flMant 11 52 b < 9007199254740992 := by unfold flMant; split <;> omega
  unfold ftoa64L ftoaL
  by_cases h7 : flE 11 52 b = 2 ^ 11 - 1
  · rw [if_pos h7]; (repeat' split) <;> simp
  rw [if_neg h7]
  have hX : -1022 ≤ flExp 11 52 (-1023) b ∧ flExp 11 52 (-1023) b ≤ 1023 := by unfold flExp; split <;> omega
  by_cases h98 : f = 98
  · rw [if_pos h98]
    have := fmtBL_len (flNeg 11 52 b) (flMant 11 52 b) (flExp 11 52 (-1023) b - (52 : Nat)) (by omega) (by omega) (by omega)
    omega
  rw [if_neg h98]
  by_cases hx : f = 120 ∨ f = 88
  · rw [if_pos hx]
    have := xL_len (flNeg 11 52 b) prec f (flMant 11 52 b) 52 (flExp 11 52 (-1023) b) hp
    omega
  rw [if_neg hx]
  obtain ⟨p1, p2, p3, p4⟩ := pick_bd 11 (-1085) 52 (flMant 11 52 b) (flExp 11 52 (-1023) b) prec f (Or.inl ⟨rfl, rfl, rfl, by omega, by omega, hM⟩) hp
  have := efgP_len (flNeg 11 52 b) f _ p1 p2 p3 p4
  omega
theorem ftoa32L_len (b : Nat) (f prec : Int) (hb : b < 4294967296) (hp : prec ≤ 50000) : (ftoa32L b f prec).length ≤ 4000000 := by
  have hE : flE 8 23 b < 256 := Nat.mod_lt _ (by decide)
  have hF : flF 23 b < 8388608 := Nat.mod_lt _ (by decide)
  have hM : flMant 8 23 b < 16777216 := by unfold flMant; split <;> omega
  unfold ftoa32L ftoaL
  by_cases h7 : flE 8 23 b = 2 ^ 8 - 1
  · rw [if_pos h7]; (repeat' split) <;> simp
  rw [if_neg h7]
  have hX : -126 ≤ flExp 8 23 (-127) b ∧ flExp 8 23 (-127) b ≤ 127 := by unfold flExp; split <;> omega
  by_cases h98 : f = 98
  · rw [if_pos h98]
    have := fmtBL_len (flNeg 8 23 b) (flMant 8 23 b) (flExp 8 23 (-127) b - (23 : Nat)) (by omega) (by omega) (by omega)
    omega
  rw [if_neg h98]
  by_cases hx : f = 120 ∨ f = 88
  · rw [if_pos hx]
    have := xL_len (flNeg 8 23 b) prec f (flMant 8 23 b) 23 (flExp 8 23 (-127) b) hp
    omega
  rw [if_neg hx]
  obtain ⟨p1, p2, p3, p4⟩ := pick_bd 40 (-189) 23 (flMant 8 23 b) (flExp 8 23 (-127) b) prec f (Or.inr ⟨rfl, rfl, rfl, by omega, by omega, hM⟩) hp
  have := efgP_len (flNeg 8 23 b) f _ p1 p2 p3 p4
  omega

theorem cat_mk (l1 l2 : List UInt8) : ((⟨l1.toArray⟩ : ByteArray) ++ (⟨l2.toArray⟩ : ByteArray)) = ⟨(l1 ++ l2).toArray⟩ := by
  apply ByteArray.ext
  simp [ByteArray.data_append]
theorem toList_mk (l : List UInt8) : (⟨l.toArray⟩ : ByteArray).toList = l := by simp
end Go.Proofs.YtffooimnioigdaaDoor
