/-
  Plain: the formats E, G and X write what e, g and x write, with capitals.
-/
import Derived.Test.YtffooimnioigdaaDoorLen
namespace Go.Proofs.YtffooimnioigdaaDoor
open Go.RowKit
set_option linter.unusedSimpArgs false
set_option linter.unusedVariables false

def upB (c : UInt8) : UInt8 := if 97 ≤ c.toNat ∧ c.toNat ≤ 122 then UInt8.ofNat (c.toNat - 32) else c
def upL (l : List UInt8) : List UInt8 := l.map upB
theorem upB_low (c : UInt8) (h : c.toNat < 97) : upB c = c := by unfold upB; rw [if_neg (by omega)]
def Low (l : List UInt8) : Prop := ∀ c ∈ l, c.toNat < 97
theorem upL_low (l : List UInt8) (h : Low l) : upL l = l := by
  unfold upL
  rw [List.map_congr_left (fun c hc => upB_low c (h c hc)), List.map_id']
theorem upL_append (a b : List UInt8) : upL (a ++ b) = upL a ++ upL b := by unfold upL; rw [List.map_append]
theorem upL_cons (c : UInt8) (l : List UInt8) : upL (c :: l) = upB c :: upL l := rfl
theorem Low.append {a b : List UInt8} (h1 : Low a) (h2 : Low b) : Low (a ++ b) := fun c hc => by
  rw [List.mem_append] at hc
  rcases hc with h | h
  · exact h1 c h
  · exact h2 c h
theorem Low.cons {c : UInt8} {l : List UInt8} (h1 : c.toNat < 97) (h2 : Low l) : Low (c :: l) := fun d hd => by
  rw [List.mem_cons] at hd
  rcases hd with rfl | h
  · exact h1
  · exact h2 d h
theorem Low.nil : Low [] := fun c hc => by cases hc
theorem Low.take {l : List UInt8} (h : Low l) (n : Nat) : Low (l.take n) := fun c hc => h c (List.mem_of_mem_take hc)
theorem Low.drop {l : List UInt8} (h : Low l) (n : Nat) : Low (l.drop n) := fun c hc => h c (List.mem_of_mem_drop hc)
theorem Low.rep (n : Nat) : Low (List.replicate n 48) := fun c hc => by rw [(List.mem_replicate.1 hc).2]; decide
theorem Low.digs (d n : Nat) : Low (digs d n) := fun c hc => by
  have := (isDig_digs d n c hc).2
  omega
theorem ofNat_low (k : Nat) (h : k ≤ 9) : (UInt8.ofNat (48 + k)).toNat < 97 := by
  rw [UInt8.toNat_ofNat']; omega
theorem Low.eSign (neg : Bool) : Low (eSign neg) := by
  cases neg
  · exact Low.nil
  · exact Low.cons (by decide) Low.nil
theorem Low.expL (e : Int) (h1 : -950 ≤ e) (h2 : e ≤ 950) : Low (expL e) := by
  unfold Go.Proofs.YtffooimnioigdaaDoor.expL
  have hn : e.natAbs ≤ 950 := by omega
  generalize e.natAbs = k at *
  refine Low.cons (by split <;> decide) ?_
  split
  · exact Low.cons (by decide) (Low.cons (ofNat_low _ (by omega)) Low.nil)
  · split
    · exact Low.cons (ofNat_low _ (by omega)) (Low.cons (ofNat_low _ (by omega)) Low.nil)
    · exact Low.cons (ofNat_low _ (by omega)) (Low.cons (ofNat_low _ (by omega)) (Low.cons (ofNat_low _ (by omega)) Low.nil))

/-- The digits of a pick are digits. -/
theorem pick_low (Z : Nat) (ME : Int) (mb m : Nat) (x prec f : Int) : Low (pick Z ME mb m x prec f).ds := by
  have hd : ∀ d, Low (dsOf d) := fun d => (Low.digs d _).take _
  unfold pick
  split
  · exact Low.nil
  · split
    · exact hd _
    · split
      · unfold pkFix
        split
        · dsimp only
          split
          · exact hd _
          · exact Low.nil
        · exact Low.nil
      · unfold pkDec
        split
        · exact Low.nil
        · exact Low.digs _ _

theorem pick_e (Z : Nat) (ME : Int) (mb m : Nat) (x prec : Int) : pick Z ME mb m x prec 69 = pick Z ME mb m x prec 101 := by
  unfold pick pkShort pkFix slowR fixDig fixPrec shPrec; simp
theorem pick_g (Z : Nat) (ME : Int) (mb m : Nat) (x prec : Int) : pick Z ME mb m x prec 71 = pick Z ME mb m x prec 103 := by
  unfold pick pkShort pkFix slowR fixDig fixPrec shPrec; simp

theorem efgE_up (neg : Bool) (ds : List UInt8) (dp pr : Int) (hl : Low ds) (h1 : -900 ≤ dp) (h2 : dp ≤ 900) : efgE neg ds dp pr 69 = upL (efgE neg ds dp pr 101) := by
  have hh : Low [ds.headD 48] := by
    cases ds with
    | nil => exact Low.cons (by decide) Low.nil
    | cons c l => exact Low.cons (hl c (by simp)) Low.nil
  have hf : Low (eFrac ds pr) := by
    unfold eFrac
    split
    · exact Low.cons (by decide) (((hl.drop 1).take _).append (Low.rep _))
    · exact Low.nil
  have he : Low (expL (eExp ds dp)) := Low.expL _ (by unfold eExp; split <;> omega) (by unfold eExp; split <;> omega)
  unfold efgE
  rw [upL_append, upL_append, upL_append, upL_append, upL_low _ (Low.eSign neg), upL_low _ hh, upL_low _ hf, upL_low _ he]
  rfl
theorem efgF_up (neg : Bool) (ds : List UInt8) (dp pr : Int) (hl : Low ds) : efgF neg ds dp pr = upL (efgF neg ds dp pr) := by
  rw [upL_low]
  unfold efgF
  refine (Low.eSign neg).append (Low.append ?_ ?_)
  · unfold fInt
    split
    · exact (hl.take _).append (Low.rep _)
    · exact Low.cons (by decide) Low.nil
  · unfold fFrac
    split
    · exact Low.cons (by decide) ((Low.rep _).append (((hl.drop _).take _).append (Low.rep _)))
    · exact Low.nil

theorem efgP_up_e (neg : Bool) (P : Pick) (hl : Low P.ds) (h1 : -900 ≤ P.dp) (h2 : P.dp ≤ 900) : efgP neg 69 P = upL (efgP neg 101 P) := by
  have e1 : gAdj P.dp P.ds.length P.prec 69 P.sh = (P.prec, 69) := by unfold gAdj; simp
  have e2 : gAdj P.dp P.ds.length P.prec 101 P.sh = (P.prec, 101) := by unfold gAdj; simp
  unfold efgP
  rw [e1, e2]
  unfold efgL
  rw [if_pos (Or.inr rfl), if_pos (Or.inl rfl)]
  exact efgE_up neg P.ds P.dp _ hl h1 h2
theorem efgP_up_g (neg : Bool) (P : Pick) (hl : Low P.ds) (h1 : -900 ≤ P.dp) (h2 : P.dp ≤ 900) : efgP neg 71 P = upL (efgP neg 103 P) := by
  unfold efgP gAdj
  rw [if_pos (Or.inr rfl), if_pos (Or.inl rfl)]
  by_cases hc : P.dp - 1 < -4 ∨ gEp P.dp P.ds.length P.prec P.sh ≤ P.dp - 1
  · rw [if_pos hc, if_pos hc]
    dsimp only
    unfold efgL
    rw [if_pos (show (71 - 2 : Int) = 101 ∨ (71 - 2 : Int) = 69 by decide), if_pos (show (103 - 2 : Int) = 101 ∨ (103 - 2 : Int) = 69 by decide)]
    exact efgE_up neg P.ds P.dp _ hl h1 h2
  · rw [if_neg hc, if_neg hc]
    dsimp only
    unfold efgL
    rw [if_neg (by decide), if_pos rfl]
    exact efgF_up neg P.ds P.dp _ hl

theorem hexD_up (d : Nat) (h : d < 16) : hexD true d = upB (hexD false d) := by
  have : ∀ k : Fin 16, hexD true k.val = upB (hexD false k.val) := by decide
  exact this ⟨d, h⟩
theorem hexZ_up (k m : Nat) : hexZ true k m = upL (hexZ false k m) := by
  induction k generalizing m with
  | zero => rfl
  | succ k ih =>
    unfold hexZ
    split
    · rfl
    · rw [upL_cons, ← ih, hexD_up _ (Nat.mod_lt _ (by omega))]
theorem hexN_up (k m : Nat) : hexN true k m = upL (hexN false k m) := by
  induction k generalizing m with
  | zero => rfl
  | succ k ih => unfold hexN; rw [upL_cons, ← ih, hexD_up _ (Nat.mod_lt _ (by omega))]
theorem Low.xExp (e : Int) (h1 : -9999 ≤ e) (h2 : e ≤ 9999) : Low (xExp e) := by
  unfold Go.Proofs.YtffooimnioigdaaDoor.xExp
  have hn : e.natAbs ≤ 9999 := by omega
  generalize e.natAbs = k at *
  refine Low.cons (by split <;> decide) ?_
  split
  · exact Low.cons (ofNat_low _ (by omega)) (Low.cons (ofNat_low _ (by omega)) Low.nil)
  · split
    · exact Low.cons (ofNat_low _ (by omega)) (Low.cons (ofNat_low _ (by omega)) (Low.cons (ofNat_low _ (by omega)) Low.nil))
    · exact Low.cons (ofNat_low _ (by omega)) (Low.cons (ofNat_low _ (by omega)) (Low.cons (ofNat_low _ (by omega)) (Low.cons (ofNat_low _ (by omega)) Low.nil)))
theorem xL_up (neg : Bool) (prec : Int) (m mb : Nat) (e : Int) (h1 : -9999 ≤ (xFin prec m mb e).2) (h2 : (xFin prec m mb e).2 ≤ 9999) : xL neg prec 88 m mb e = upL (xL neg prec 120 m mb e) := by
  have hf : xFrac true prec ((xFin prec m mb e).1 * 16 % 2 ^ 64) = upL (xFrac false prec ((xFin prec m mb e).1 * 16 % 2 ^ 64)) := by
    unfold xFrac
    split
    · rw [upL_cons, hexZ_up]; rfl
    · split
      · rw [upL_cons, hexN_up]; rfl
      · rfl
  have hd : upB (UInt8.ofNat (48 + (xFin prec m mb e).1 / 2 ^ 60 % 2)) = UInt8.ofNat (48 + (xFin prec m mb e).1 / 2 ^ 60 % 2) := upB_low _ (ofNat_low _ (by omega))
  unfold xL
  rw [upL_append, upL_append, upL_append, upL_append, upL_low _ (Low.eSign neg), upL_low _ (Low.xExp _ h1 h2)]
  rw [show ((88 : Int) == 88) = true by rfl, show ((120 : Int) == 88) = false by rfl, hf]
  congr 1
  congr 1
  rw [upL_cons, upL_cons, upL_cons, hd]
  rfl

theorem xFin_bd (prec : Int) (m mb : Nat) (e : Int) (h1 : -2000 ≤ e) (h2 : e ≤ 2000) (hm : m * 2 ^ (60 - mb) < 2 ^ 61) : -9999 ≤ (xFin prec m mb e).2 ∧ (xFin prec m mb e).2 ≤ 9999 := by
  unfold xFin
  have hn : (xNorm (m * 2 ^ (60 - mb)) (if m = 0 then 0 else e)).1 < 2305843009213693952 ∧ -2100 ≤ (xNorm (m * 2 ^ (60 - mb)) (if m = 0 then 0 else e)).2 ∧ (xNorm (m * 2 ^ (60 - mb)) (if m = 0 then 0 else e)).2 ≤ 2000 := by
    unfold xNorm
    split
    · dsimp only; refine ⟨by omega, ?_, ?_⟩ <;> split <;> omega
    · rename_i h0
      dsimp only
      generalize m * 2 ^ (60 - mb) = M at *
      have hl : M.log2 ≤ 60 := by
        have := (Nat.log2_lt h0 (k := 61)).2 hm
        omega
      refine ⟨?_, ?_, ?_⟩
      · have h3 : M < 2 ^ (M.log2 + 1) := Nat.lt_log2_self
        have h4 := Nat.mul_lt_mul_of_pos_right h3 (Nat.pow_pos (n := 60 - M.log2) (by omega : 0 < 2))
        rw [← Nat.pow_add, show M.log2 + 1 + (60 - M.log2) = 61 by omega] at h4
        exact h4
      · split <;> omega
      · split <;> omega
  have h3 := xRnd_bd prec (xNorm (m * 2 ^ (60 - mb)) (if m = 0 then 0 else e)).1 (xNorm (m * 2 ^ (60 - mb)) (if m = 0 then 0 else e)).2 hn.1
  omega

/-- The three pairs of formats. -/
theorem ftoa64L_up (b : Nat) (f F prec : Int) (hb : b < 18446744073709551616) (hk : flE 11 52 b ≠ 2 ^ 11 - 1) (hp : prec ≤ 50000) (h : f = 101 ∧ F = 69 ∨ f = 103 ∧ F = 71 ∨ f = 120 ∧ F = 88) : ftoa64L b F prec = upL (ftoa64L b f prec) := by
  have hE : flE 11 52 b < 2048 := Nat.mod_lt _ (by decide)
  have hF : flF 52 b < 4503599627370496 := Nat.mod_lt _ (by decide)
  have hM : flMant 11 52 b < 9007199254740992 := by unfold flMant; split <;> omega
  have hX : -1022 ≤ flExp 11 52 (-1023) b ∧ flExp 11 52 (-1023) b ≤ 1023 := by unfold flExp; split <;> omega
  unfold ftoa64L ftoaL
  rw [if_neg hk, if_neg hk]
  rcases h with ⟨rfl, rfl⟩ | ⟨rfl, rfl⟩ | ⟨rfl, rfl⟩
  · rw [if_neg (by decide), if_neg (by decide), if_neg (by decide), if_neg (by decide), pick_e]
    obtain ⟨p1, p2, p3, p4⟩ := pick_bd 11 (-1085) 52 (flMant 11 52 b) (flExp 11 52 (-1023) b) prec 101 (Or.inl ⟨rfl, rfl, rfl, hX.1, hX.2, hM⟩) hp
    exact efgP_up_e _ _ (pick_low _ _ _ _ _ _ _) p1 p2
  · rw [if_neg (by decide), if_neg (by decide), if_neg (by decide), if_neg (by decide), pick_g]
    obtain ⟨p1, p2, p3, p4⟩ := pick_bd 11 (-1085) 52 (flMant 11 52 b) (flExp 11 52 (-1023) b) prec 103 (Or.inl ⟨rfl, rfl, rfl, hX.1, hX.2, hM⟩) hp
    exact efgP_up_g _ _ (pick_low _ _ _ _ _ _ _) p1 p2
  · rw [if_neg (by decide), if_pos (by decide), if_neg (by decide), if_pos (by decide)]
    have hx := xFin_bd prec (flMant 11 52 b) 52 (flExp 11 52 (-1023) b) (by omega) (by omega) (by omega)
    exact xL_up _ prec _ 52 _ hx.1 hx.2
theorem ftoa32L_up (b : Nat) (f F prec : Int) (hb : b < 4294967296) (hk : flE 8 23 b ≠ 2 ^ 8 - 1) (hp : prec ≤ 50000) (h : f = 101 ∧ F = 69 ∨ f = 103 ∧ F = 71 ∨ f = 120 ∧ F = 88) : ftoa32L b F prec = upL (ftoa32L b f prec) := by
  have hE : flE 8 23 b < 256 := Nat.mod_lt _ (by decide)
  have hF : flF 23 b < 8388608 := Nat.mod_lt _ (by decide)
  have hM : flMant 8 23 b < 16777216 := by unfold flMant; split <;> omega
  have hX : -126 ≤ flExp 8 23 (-127) b ∧ flExp 8 23 (-127) b ≤ 127 := by unfold flExp; split <;> omega
  unfold ftoa32L ftoaL
  rw [if_neg hk, if_neg hk]
  rcases h with ⟨rfl, rfl⟩ | ⟨rfl, rfl⟩ | ⟨rfl, rfl⟩
  · rw [if_neg (by decide), if_neg (by decide), if_neg (by decide), if_neg (by decide), pick_e]
    obtain ⟨p1, p2, p3, p4⟩ := pick_bd 40 (-189) 23 (flMant 8 23 b) (flExp 8 23 (-127) b) prec 101 (Or.inr ⟨rfl, rfl, rfl, hX.1, hX.2, hM⟩) hp
    exact efgP_up_e _ _ (pick_low _ _ _ _ _ _ _) p1 p2
  · rw [if_neg (by decide), if_neg (by decide), if_neg (by decide), if_neg (by decide), pick_g]
    obtain ⟨p1, p2, p3, p4⟩ := pick_bd 40 (-189) 23 (flMant 8 23 b) (flExp 8 23 (-127) b) prec 103 (Or.inr ⟨rfl, rfl, rfl, hX.1, hX.2, hM⟩) hp
    exact efgP_up_g _ _ (pick_low _ _ _ _ _ _ _) p1 p2
  · rw [if_neg (by decide), if_pos (by decide), if_neg (by decide), if_pos (by decide)]
    have hx := xFin_bd prec (flMant 8 23 b) 23 (flExp 8 23 (-127) b) (by omega) (by omega) (by omega)
    exact xL_up _ prec _ 23 _ hx.1 hx.2
end Go.Proofs.YtffooimnioigdaaDoor
