/-
  Lemmas and walks of functions, several texts in one.
-/
import Derived.Test.YticlnihjhcepkaaGreatDoorGf
import Derived.Laws.MakeOwn
import Derived.Laws.IdiomStrings
import Derived.Laws.FloatArith
import Derived.Test.YticlnihjhcepkaaGreatDoorGa
import Derived.Test.YticlnihjhcepkaaGreatDoorGc
/-
  Buffers that are made, and the strings out of them.
-/
namespace Go.Proofs.YticlnihjhcepkaaGreatDoor
open Go.RowKit
set_option linter.unusedSimpArgs false
set_option linter.unusedVariables false

theorem mkBytes (c : Nat) (hc : c ≤ 1000000) (w : World) : (Instr.makeSlice 51 (.int .i64 0) (.int .i64 (c : Int))).run Tryz.prog w = .ok (.slice (some ⟨w.heap.size, 0, none⟩) 0 c) (w.alloc (.cells (madeCells #[.int .u8 0] c) 5)) := by
  obtain ⟨i, hi, hz0, hz1, hz2⟩ := info_parts byteInfo
  have h := run_make (P := Tryz.prog) w 51 5 i _ Tryz.underlying51 hi hz0 .i64 .i64 0 (c : Int) (by omega) (by omega) (by rw [hz2]; omega) (by omega)
  rw [hz1, Int.toNat_natCast, Nat.mul_one] at h
  exact h

theorem OwnB.made {T : Nat} {w : World} (hT : T ≤ w.heap.size) (c : Nat) (hc : c ≤ 1000000) : OwnB T (w.alloc (.cells (madeCells #[.int .u8 0] c) 5)) (.slice (some ⟨w.heap.size, 0, none⟩) 0 c) [] := by
  have hs : (madeCells #[Value.int .u8 0] c).toList.length = c := by rw [Array.length_toList, size_madeCells]
  refine ⟨⟨w.heap.size, (madeCells #[Value.int .u8 0] c).toList, ?_, ?_, ?_⟩, fun k hk => ?_⟩
  · simp [hs]
  · have := Row.new w (madeCells #[Value.int .u8 0] c).toList 5
    rw [Array.toArray_toList] at this
    exact this
  · rw [hs]; simp [maxLen]; omega
  · simp [Value.ownBlock] at hk; omega

theorem str_of_own {T : Nat} {w : World} {v : Value} {xs : List UInt8} (h : OwnB T w v xs) : (convert 51 9 v).run Tryz.prog w = .ok (.string ⟨xs.toArray⟩) w := by
  obtain ⟨⟨g, rest, rfl, hr, hm⟩, _⟩ := h
  rw [List.length_map]
  refine run_convert_bytes_back w 51 9 5 ⟨g, 0, none⟩ _ xs Tryz.underlying51 Tryz.underlying5 Tryz.underlying9 (fun j hj => ?_)
  have e : ((⟨g, 0, none⟩ : Addr).add j) = ⟨g, j, none⟩ := by
    unfold Addr.add; split
    · subst_vars; rfl
    · simp
  rw [e, hr.cell, List.getElem?_append_left (by rw [List.length_map]; exact hj), List.getElem?_map, List.getElem?_eq_getElem hj]
  rfl

theorem ext_f64from (b : Nat) (w : World) : (callFunc 31 #[.int .u64 (b : Int)]).run Tryz.prog w = .ok (.value (.float .f64 b)) w := by kernel_rfl
theorem ext_f32from (b : Nat) (w : World) : (callFunc 33 #[.int .u32 (b : Int)]).run Tryz.prog w = .ok (.value (.float .f32 b)) w := by kernel_rfl

end Go.Proofs.YticlnihjhcepkaaGreatDoor

/-
  Plain: how long the texts are.
-/
namespace Go.Proofs.YticlnihjhcepkaaGreatDoor
open Go.RowKit
set_option linter.unusedSimpArgs false
set_option linter.unusedVariables false

theorem expL_len (e : Int) : (expL e).length ≤ 4 := by
  unfold expL; rw [List.length_cons]; (repeat' split) <;> simp
theorem eSign_len (neg : Bool) : (eSign neg).length ≤ 1 := by cases neg <;> simp [eSign]
theorem efgL_len (neg : Bool) (ds : List UInt8) (dp pr f : Int) (hp : pr ≤ 200000) (hd : dp ≤ 900) : (efgL neg ds dp pr f).length ≤ 2000000 + ds.length := by
  have h1 := eSign_len neg
  unfold efgL
  split
  · unfold efgE
    have h2 := expL_len (eExp ds dp)
    have h3 : (eFrac ds pr).length ≤ 500001 := by
      unfold eFrac
      split
      · simp only [List.length_cons, List.length_append, List.length_take, List.length_drop, List.length_replicate]; omega
      · simp
    simp only [List.length_append, List.length_cons, List.length_nil]
    omega
  · split
    · unfold efgF
      have h2 : (fInt ds dp).length ≤ 1000 + ds.length := by
        unfold fInt
        split
        · simp only [List.length_append, List.length_take, List.length_replicate]; omega
        · simp; omega
      have h3 : (fFrac ds dp pr).length ≤ 1000000 := by
        unfold fFrac
        split
        · simp only [List.length_cons, List.length_append, List.length_take, List.length_drop, List.length_replicate]
          unfold fM fLz
          omega
        · simp
      simp only [List.length_append]
      omega
    · simp; omega


theorem gAdj_le (dp nd prec f : Int) (sh : Bool) (h1 : -900 ≤ dp) (h2 : nd ≤ 800) (h3 : prec ≤ 100000) : (gAdj dp nd prec f sh).1 ≤ 200000 := by
  unfold gAdj
  (repeat' split) <;> dsimp only <;> omega

theorem efgP_len (neg : Bool) (f : Int) (P : Pick) (h1 : -900 ≤ P.dp) (h2 : P.dp ≤ 900) (h3 : P.ds.length ≤ 800) (h4 : P.prec ≤ 100000) : (efgP neg f P).length ≤ 3000000 := by
  unfold efgP
  have := efgL_len neg P.ds P.dp _ (gAdj P.dp P.ds.length P.prec f P.sh).2 (gAdj_le P.dp P.ds.length P.prec f P.sh h1 (by omega) h4) h2
  omega

theorem pick_bd (Z : Nat) (ME : Int) (mb m : Nat) (x prec f : Int) (hz : Z = 11 ∧ ME = -1085 ∧ mb = 52 ∧ -1022 ≤ x ∧ x ≤ 1023 ∧ m < 2 ^ 53 ∨ Z = 40 ∧ ME = -189 ∧ mb = 23 ∧ -126 ≤ x ∧ x ≤ 127 ∧ m < 2 ^ 24) (hp : prec ≤ 50000) :
    -900 ≤ (pick Z ME mb m x prec f).dp ∧ (pick Z ME mb m x prec f).dp ≤ 900 ∧ (pick Z ME mb m x prec f).ds.length ≤ 800 ∧ (pick Z ME mb m x prec f).prec ≤ 100000 := by
  have hm53 : m < 2 ^ 53 := by omega
  unfold pick
  by_cases hm0 : m = 0
  · rw [if_pos hm0]; simp; omega
  rw [if_neg hm0]
  obtain ⟨hb1, hb2, hb3, hb4⟩ := bitLen_bd m (by omega) hm0
  have hS : 11 ≤ shS m ∧ shS m ≤ 63 ∧ (Z = 40 → 40 ≤ shS m) := by
    have := Lib.bitLen_le m 53 (by omega) hm53
    refine ⟨by unfold shS; omega, by unfold shS; omega, fun h => ?_⟩
    have h2 := Lib.bitLen_le m 24 (by omega) (by omega)
    unfold shS; omega
  have hmm : m * 2 ^ shS m < 18446744073709551616 := by
    rw [show (18446744073709551616 : Nat) = 2 ^ Lib.bitLen m * 2 ^ shS m by rw [← Nat.pow_add, show Lib.bitLen m + shS m = 64 by unfold shS; omega]]
    exact Nat.mul_lt_mul_of_pos_right hb3 (Nat.pow_pos (by omega))
  have hds : ∀ d, d < 18446744073709551616 → (dsOf d).length ≤ 20 ∧ nDig d ≤ 20 := by
    intro d hd
    have h1 := dsOf_length d
    have h2 := trimZ_le (digs d (nDig d)) (nDig d)
    have h3 := nDig_le d hd
    omega
  by_cases hpn : prec < 0
  · rw [if_pos hpn]
    unfold pkShort
    dsimp only
    have h1 := shortF_bd Z ME (m * 2 ^ shS m) (x - mb - shS m) (by
      rcases hz with ⟨a, b, c, d, e, _⟩ | ⟨a, b, c, d, e, _⟩
      · exact Or.inl ⟨a, b, by omega, by omega⟩
      · exact Or.inr ⟨a, b, by have := hS.2.2 a; omega, by have := hS.2.2 a; omega⟩) hmm
    have h2 := hds _ h1.1
    refine ⟨by omega, by omega, by omega, ?_⟩
    unfold shPrec
    (repeat' split) <;> omega
  · rw [if_neg hpn]
    have hpf : fixPrec prec f ≤ 50000 ∧ 0 ≤ fixPrec prec f := by unfold fixPrec; split <;> omega
    by_cases hd : fixDig x prec f ≤ 18
    · rw [if_pos hd]
      unfold pkFix
      by_cases h0 : 0 < fixDig x prec f
      · rw [if_pos h0]
        dsimp only
        have h1 := fwf_bd (m * 2 ^ shS m) (x - mb - shS m) (fixDig x prec f) (fixPrec prec f) (f == 102) (by omega) (by omega) (by omega) hd hpf.2 (by omega)
        have h2 := hds _ h1.1
        split <;> dsimp only <;> (try simp only [List.length_nil]) <;> omega
      · rw [if_neg h0]; simp; omega
    · rw [if_neg hd]
      obtain ⟨ds, dp, h1, h2, h3, h4, _⟩ := pkDec_is m (x - mb) (fixPrec prec f) f hm0 hm53 (by omega) (by omega)
      rw [h1]
      exact ⟨h3, h4, h2, by dsimp only; omega⟩

theorem hexN_le (up : Bool) (p : Int) (m : Nat) (hp : p ≤ 50000) : (xFrac up p m).length ≤ 50001 := by
  unfold xFrac
  split
  · have := hexZ_len up 16 m
    rw [List.length_cons]; omega
  · split
    · rw [List.length_cons, hexN_len]; omega
    · simp
theorem xL_len (neg : Bool) (prec f : Int) (m mb : Nat) (e : Int) (hp : prec ≤ 50000) : (xL neg prec f m mb e).length ≤ 60000 := by
  unfold xL
  have h1 := eSign_len neg
  have h2 := hexN_le (f == 88) prec ((xFin prec m mb e).1 * 16 % 2 ^ 64) hp
  have h3 : (xExp (xFin prec m mb e).2).length ≤ 5 := by
    unfold xExp; rw [List.length_cons]; (repeat' split) <;> simp
  simp only [List.length_append, List.length_cons, List.length_nil]
  omega
theorem fmtBL_len (neg : Bool) (m : Nat) (e : Int) (hm : m < 18446744073709551616) (h1 : -100000 ≤ e) (h2 : e ≤ 100000) : (fmtBL neg m e).length ≤ 100 := by
  unfold fmtBL
  have h3 := decDigits_le m hm
  have h4 := itoa_le e h1 h2
  simp only [List.length_append, List.length_cons, List.length_nil]
  (repeat' split) <;> simp <;> omega

theorem ftoa64L_len (b : Nat) (f prec : Int) (hb : b < 18446744073709551616) (hp : prec ≤ 50000) : (ftoa64L b f prec).length ≤ 4000000 := by
  have hE : flE 11 52 b < 2048 := Nat.mod_lt _ (by decide)
  have hF : flF 52 b < 4503599627370496 := Nat.mod_lt _ (by decide)
  have hM : flMant 11 52 b < 9007199254740992 := by unfold flMant; split <;> omega
  unfold ftoa64L ftoaL
  by_cases h7 : flE 11 52 b = 2 ^ 11 - 1
  · rw [if_pos h7]; (repeat' split) <;> simp
  rw [if_neg h7]
  have hX : -1022 ≤ flExp 11 52 (-1023) b ∧ flExp 11 52 (-1023) b ≤ 1023 := by unfold flExp; split <;> omega
  by_cases h98 : f = 98
  · rw [if_pos h98]
    have := fmtBL_len (flNeg 11 52 b) (flMant 11 52 b) (flExp 11 52 (-1023) b - (52 : Nat)) (by omega) (by omega) (by omega)
    omega
  rw [if_neg h98]
  by_cases hx : f = 120 ∨ f = 88
  · rw [if_pos hx]
    have := xL_len (flNeg 11 52 b) prec f (flMant 11 52 b) 52 (flExp 11 52 (-1023) b) hp
    omega
  rw [if_neg hx]
  obtain ⟨p1, p2, p3, p4⟩ := pick_bd 11 (-1085) 52 (flMant 11 52 b) (flExp 11 52 (-1023) b) prec f (Or.inl ⟨rfl, rfl, rfl, by omega, by omega, hM⟩) hp
  have := efgP_len (flNeg 11 52 b) f _ p1 p2 p3 p4
  omega
theorem ftoa32L_len (b : Nat) (f prec : Int) (hb : b < 4294967296) (hp : prec ≤ 50000) : (ftoa32L b f prec).length ≤ 4000000 := by
  have hE : flE 8 23 b < 256 := Nat.mod_lt _ (by decide)
  have hF : flF 23 b < 8388608 := Nat.mod_lt _ (by decide)
  have hM : flMant 8 23 b < 16777216 := by unfold flMant; split <;> omega
  unfold ftoa32L ftoaL
  by_cases h7 : flE 8 23 b = 2 ^ 8 - 1
  · rw [if_pos h7]; (repeat' split) <;> simp
  rw [if_neg h7]
  have hX : -126 ≤ flExp 8 23 (-127) b ∧ flExp 8 23 (-127) b ≤ 127 := by unfold flExp; split <;> omega
  by_cases h98 : f = 98
  · rw [if_pos h98]
    have := fmtBL_len (flNeg 8 23 b) (flMant 8 23 b) (flExp 8 23 (-127) b - (23 : Nat)) (by omega) (by omega) (by omega)
    omega
  rw [if_neg h98]
  by_cases hx : f = 120 ∨ f = 88
  · rw [if_pos hx]
    have := xL_len (flNeg 8 23 b) prec f (flMant 8 23 b) 23 (flExp 8 23 (-127) b) hp
    omega
  rw [if_neg hx]
  obtain ⟨p1, p2, p3, p4⟩ := pick_bd 40 (-189) 23 (flMant 8 23 b) (flExp 8 23 (-127) b) prec f (Or.inr ⟨rfl, rfl, rfl, by omega, by omega, hM⟩) hp
  have := efgP_len (flNeg 8 23 b) f _ p1 p2 p3 p4
  omega

theorem cat_mk (l1 l2 : List UInt8) : ((⟨l1.toArray⟩ : ByteArray) ++ (⟨l2.toArray⟩ : ByteArray)) = ⟨(l1 ++ l2).toArray⟩ := by
  apply ByteArray.ext
  simp [ByteArray.data_append]
theorem toList_mk (l : List UInt8) : (⟨l.toArray⟩ : ByteArray).toList = l := by simp
end Go.Proofs.YticlnihjhcepkaaGreatDoor

/-
  Walk: zeros of the reference.
-/
namespace Go.Proofs.YticlnihjhcepkaaGreatDoor
open Go.RowKit
set_option linter.unusedSimpArgs false
set_option linter.unusedVariables false

set_option maxHeartbeats 2000000 in
theorem speczeros_any (n : Nat) (w : World) (hn : n ≤ 100000) :
    Calls Tryz.prog 90 #[.int .i64 (n : Int)] w fun e w' => e = .returned (.string ⟨(List.replicate n (48 : UInt8)).toArray⟩) ∧ w.grownBy w' none := by
  refine calls_F Tryz.func90 rfl (by rw [Tryz.ntmps90]; simp) ?_
  intro σ hσ
  rw [Tryz.ntmps90]
  have s0 : σ 0 = .int .i64 (n : Int) := hσ 0 (by simp)
  clear hσ
  have hown0 : OwnB w.heap.size (w.alloc (Obj.cells #[] 5)) (.slice (some ⟨w.heap.size, 0, none⟩) 0 0) [] := by
    refine ⟨⟨w.heap.size, [], rfl, Row.new w [] _, by simp [maxLen]⟩, fun k hk => ?_⟩
    simp [Value.ownBlock] at hk
    omega
  have HOWN := Lib.hid hown0
  clear hown0
  ((repeat (go_wp2_with fail; first | (refine cdY ?_ ?_; focus (simp [ov, *]; done)) | (refine cdN ?_ ?_; focus (simp [ov, *]; done)))); go_wp2_with fail)
  refine loop_F (fun kk s' w' => ∃ (m i : Nat) (v : Value), kk = m ∧ m + i = n ∧ s' 0 = .int .i64 (m : Int) ∧ s' 3 = v ∧ OwnB w.heap.size w' v (List.replicate i 48) ∧ w.grownBy w' none) n
    ⟨n, 0, _, rfl, by omega, by simp [ov, *], by simp [ov, *], HOWN.out, World.grownBy_alloc w _ none⟩ ?_
  clear s0 σ HOWN
  rintro kk σ wk ⟨m, i, v, hkk, hmi, s0, s3, hown, hg⟩ RK KK HRK hKK
  have HKK := Lib.hid hkk
  have HOWN := Lib.hid hown
  have HG := Lib.hid hg
  have HMI := Lib.hid hmi
  have hi : i ≤ 100000 := by omega
  clear hkk hown hg hmi
  by_cases hm0 : m = 0
  · subst hm0
    have hin : i = n := by have := HMI.out; omega
    subst hin
    have hcv := str_of_own HOWN.out
    ((repeat (go_wp2_with fail; first | (refine cdY ?_ ?_; focus (simp [ov, *]; done)) | (refine cdN ?_ ?_; focus (simp [ov, *]; done)))); go_wp2_with fail)
    exact ret_F _ rfl (by decide) (by simp [ov, *]) ⟨rfl, HG.out⟩
  · obtain ⟨j, rfl⟩ : ∃ j, m = j + 1 := ⟨m - 1, by omega⟩
    have hj : j ≤ 100000 := by have := HMI.out; omega
    have h1 : (0 : Int) < (j : Int) + 1 := by omega
    have h2 : 0 < j + 1 := by omega
    ((repeat (go_wp2_with (first | (at_builtin; refine wpList_appF rfl _ _ _ _ rfl (by decide) (by decide) byteTy (HOWN.out.alloc _) (by simp [ov, *]) _ (by simp [ov, *]) [48] (src_new Tryz.underlying51 [48] _) (by simp; omega) ?_; intro v2 w2 ho1 hs1)); first | (refine cdY ?_ ?_; focus (simp [ov, *]; done)) | (refine cdN ?_ ?_; focus (simp [ov, *]; done)))); go_wp2_with (first | (at_builtin; refine wpList_appF rfl _ _ _ _ rfl (by decide) (by decide) byteTy (HOWN.out.alloc _) (by simp [ov, *]) _ (by simp [ov, *]) [48] (src_new Tryz.underlying51 [48] _) (by simp; omega) ?_; intro v2 w2 ho1 hs1)))
    refine gotk HRK j (by have := HKK.out; omega) ⟨j, i + 1, v2, rfl, by have := HMI.out; omega, by simp [over_cons, over_nil], by simp [ov, *], by rw [List.replicate_succ']; exact ho1, ?_⟩
    refine grown_trans (grown_none_trans HG.out (World.grownBy_alloc wk _ none)) hs1.1 (fun j e hj => ?_)
    have := HOWN.out.2 j e
    omega
end Go.Proofs.YticlnihjhcepkaaGreatDoor

/-
  Walk: pointed of the reference.
-/
namespace Go.Proofs.YticlnihjhcepkaaGreatDoor
open Go.RowKit
set_option linter.unusedSimpArgs false
set_option linter.unusedVariables false

/-- A point behind the first byte, if there are more. -/
def ptL (s : List UInt8) : List UInt8 := if s.length = 1 then s else s.take 1 ++ 46 :: s.drop 1

set_option maxRecDepth 10000 in
set_option maxHeartbeats 2000000 in
theorem pointed_any (s : List UInt8) (w : World) (h0 : 1 ≤ s.length) (hs : s.length ≤ 1000000) :
    Calls Tryz.prog 63 #[.string ⟨s.toArray⟩] w fun e w' => e = .returned (.string ⟨(ptL s).toArray⟩) ∧ w.grownBy w' none := by
  have hsz : (⟨s.toArray⟩ : ByteArray).size = s.length := by simp [ByteArray.size]
  obtain ⟨N, hN⟩ : ∃ N, s.length = N := ⟨_, rfl⟩
  rw [hN] at hsz hs h0
  have HN := Lib.hid hN
  clear hN
  refine calls_F Tryz.func63 rfl (by rw [Tryz.ntmps63]; simp) ?_
  intro σ hσ
  rw [Tryz.ntmps63]
  have s0 : σ 0 = .string ⟨s.toArray⟩ := hσ 0 (by simp)
  clear hσ
  by_cases h1 : N = 1
  · subst h1
    ((repeat (go_wp2_with fail; first | (refine cdY ?_ ?_; focus (simp [ov, *]; done)) | (refine cdN ?_ ?_; focus (simp [ov, *]; done)))); go_wp2_with fail)
    exact ret_F (.string ⟨s.toArray⟩) rfl (by decide) (by simp [ov, *]) ⟨by unfold ptL; rw [if_pos HN.out], grown_refl w none⟩
  · have f1 : ((N : Int) == 1) = false := by rw [beq_eq_false_iff_ne]; omega
    have f2 : (N == 1) = false := by rw [beq_eq_false_iff_ne]; omega
    have f3 : (1 : Int) ≤ (N : Int) := by omega
    ((repeat (go_wp2_with fail; first | (refine cdY ?_ ?_; focus (simp [ov, *]; done)) | (refine cdN ?_ ?_; focus (simp [ov, *]; done)))); go_wp2_with fail)
    refine wp_region_noPanic ?_
    refine wp_region_held_drew (S := fun w' => w.grownBy w' none) (by kernel_rfl) (grown_drewN w 1 none) (fun hHeld => ?_)
    (refine take_T 0 7 ?_; refine take_T 1 8 ?_; refine take_T 2 9 ?_; refine take_T 3 10 ?_; refine take_T 4 11 ?_)
    (refine take_F 5 12 (oi := ?_) (v := ?_) ?_ ?_ (by kernel_rfl) (by kernel_rfl) (by kernel_rfl) (fun _ _ _ _ _ h => h) ?_ (by assumption) ?_ ?_; rotate_left 2; (focus ((simp only [List.getElem?_toArray, List.getElem?_cons_succ, List.getElem?_cons_zero]); rfl)); (focus rfl); (focus (first | rfl | (simp only [Region.wanted, yielded, List.getElem?_toArray, List.getElem?_cons_succ, List.getElem?_cons_zero, Option.bind_some, Option.map_some, Fr_get?, over_cons, over_nil]; rfl) | go_simp)); (focus (intro W hS; go_simp; rw [if_neg (by omega)])))
    (refine take_T 6 2 ?_)
    refine wpAnyH_done (by kernel_rfl) ?_ _
    refine NoPanic.normal ?_
    ((repeat (go_wp2_with fail; first | (refine cdY ?_ ?_; focus (simp [ov, *]; done)) | (refine cdN ?_ ?_; focus (simp [ov, *]; done)))); go_wp2_with fail)
    have e : ((⟨s.toArray⟩ : ByteArray).extract 0 1 ++ (⟨#[46]⟩ : ByteArray) ++ (⟨s.toArray⟩ : ByteArray).extract 1 N) = ⟨(ptL s).toArray⟩ := by
      unfold ptL
      rw [if_neg (by rw [HN.out]; exact h1)]
      apply ByteArray.ext
      simp [ByteArray.data_append, ByteArray.data_extract, ← HN.out]
      exact List.take_of_length_le (by simp)
    refine ret_F (.string ⟨(ptL s).toArray⟩) rfl (by decide) ?_ ⟨rfl, hHeld⟩
    simp only [over_cons, if_true]
    rw [e]
end Go.Proofs.YticlnihjhcepkaaGreatDoor

/-
  Plain: the format x of the reference, and that the library's text is the same.
-/
namespace Go.Proofs.YticlnihjhcepkaaGreatDoor
open Go.RowKit
set_option linter.unusedSimpArgs false
set_option linter.unusedVariables false

/-- An exponent: the letter, a sign, at least two digits (or one). -/
def expT (letter : UInt8) (e : Int) (short : Bool) : List UInt8 :=
  letter :: (if e < 0 then 45 else 43) :: (if (decT e.natAbs).length < 2 ∧ short = false then 48 :: decT e.natAbs else decT e.natAbs)

def tz2 (m : Nat) : Nat := if h : m = 0 then 0 else if m % 2 = 1 then 0 else 1 + tz2 (m / 2)
termination_by m
decreasing_by omega

def hxCnt (m : Nat) (prec : Int) : Nat := if prec < 0 then (m.log2 - tz2 m + 3) / 4 else prec.toNat
def hxM (m c : Nat) : Nat := if m.log2 ≤ 4 * c then rndE (m * 2 ^ (4 * c - m.log2)) 1 else rndE m (2 ^ (m.log2 - 4 * c))
def hxF (m c : Nat) : Nat := if 4 * c + 1 < nbits (hxM m c) then hxM m c / 2 else hxM m c
def hxE (m c : Nat) : Nat := if 4 * c + 1 < nbits (hxM m c) then 1 else 0
/-- The c last hexadecimal digits. -/
def hxT (up : Bool) (A : Nat) : Nat → List UInt8
  | 0 => []
  | c + 1 => hexD up (A / 16 ^ c % 16) :: hxT up A c
/-- The format x without the sign. -/
def hexadL (up : Bool) (m : Nat) (e prec : Int) : List UInt8 :=
  [48, if up then 88 else 120] ++ (if m = 0 then ptL (48 :: List.replicate prec.toNat 48) ++ expT (if up then 80 else 112) 0 false
    else ptL (hxT up (hxF m (hxCnt m prec)) (hxCnt m prec + 1)) ++ expT (if up then 80 else 112) (e + m.log2 + hxE m (hxCnt m prec)) false)

theorem hxT_len (up : Bool) (A c : Nat) : (hxT up A c).length = c := by
  induction c with
  | zero => rfl
  | succ c ih => rw [hxT, List.length_cons, ih]

theorem expT_xExp (letter : UInt8) (e : Int) (h1 : -9999 ≤ e) (h2 : e ≤ 9999) : expT letter e false = letter :: xExp e := by
  unfold expT xExp
  obtain ⟨n, hn⟩ : ∃ n, e.natAbs = n := ⟨_, rfl⟩
  have hn2 : n ≤ 9999 := by omega
  rw [hn]
  congr 2
  have s1 : ∀ v c, c ≤ 9 → v ≠ 0 → decS (10 * v + c) = decS v ++ [UInt8.ofNat (48 + c)] := fun v c hc hv => by rw [decS_step v c hc, if_neg (by omega)]
  have s0 : ∀ c, c ≤ 9 → c ≠ 0 → decS c = [UInt8.ofNat (48 + c)] := fun c hc h0 => by
    have := decS_step 0 c hc
    rw [if_neg (by omega), decS_zero] at this
    simpa using this
  by_cases h10 : n < 10
  · rw [if_pos (by omega : n < 100)]
    rw [show n / 10 = 0 by omega, show n % 10 = n by omega]
    by_cases h0 : n = 0
    · subst h0; rfl
    · have : decT n = [UInt8.ofNat (48 + n)] := by unfold decT; rw [if_neg h0, s0 n (by omega) h0]
      rw [this, if_pos (by simp)]
      rfl
  have hT : decT n = decS n := by unfold decT; rw [if_neg (by omega)]
  rw [hT]
  have e1 : n = 10 * (n / 10) + n % 10 := by omega
  by_cases h100 : n < 100
  · rw [if_pos h100]
    have : decS n = [UInt8.ofNat (48 + n / 10), UInt8.ofNat (48 + n % 10)] := by
      rw [e1, s1 _ _ (by omega) (by omega), s0 (n / 10) (by omega) (by omega), ← e1]; rfl
    rw [this, if_neg (by simp)]
  have e2 : n / 10 = 10 * (n / 100) + n / 10 % 10 := by omega
  by_cases h1000 : n < 1000
  · rw [if_neg h100, if_pos h1000]
    have : decS n = [UInt8.ofNat (48 + n / 100), UInt8.ofNat (48 + n / 10 % 10), UInt8.ofNat (48 + n % 10)] := by
      rw [e1, s1 _ _ (by omega) (by omega), e2, s1 _ _ (by omega) (by omega), s0 (n / 100) (by omega) (by omega), ← e2, ← e1]; rfl
    rw [this, if_neg (by simp)]
  have e3 : n / 100 = 10 * (n / 1000) + n / 100 % 10 := by omega
  rw [if_neg h100, if_neg h1000]
  have : decS n = [UInt8.ofNat (48 + n / 1000), UInt8.ofNat (48 + n / 100 % 10), UInt8.ofNat (48 + n / 10 % 10), UInt8.ofNat (48 + n % 10)] := by
    rw [e1, s1 _ _ (by omega) (by omega), e2, s1 _ _ (by omega) (by omega), e3, s1 _ _ (by omega) (by omega), s0 (n / 1000) (by omega) (by omega), ← e3, ← e2, ← e1]; rfl
  rw [this, if_neg (by simp)]

theorem hx_abs (B Y P E F : Nat) (hF : 0 < F) (hP : 0 < P) (hE : E = 16 * F) (h : B * E = Y * (P * 16)) :
    Y / F = B / P ∧ B % P * E = Y * 16 % E * P := by
  have h1 : B * F = Y * P := by
    have : (B * F) * 16 = (Y * P) * 16 := by rw [Nat.mul_assoc, Nat.mul_comm F, ← hE, h, Nat.mul_assoc]
    exact Nat.eq_of_mul_eq_mul_right (by omega) this
  refine ⟨?_, ?_⟩
  · rw [← Nat.mul_div_mul_right Y F hP, ← h1, Nat.mul_comm B, Nat.mul_div_mul_left _ _ hF]
  · have h2 : B % P * F = Y % F * P := by
      rw [← Nat.mul_mod_mul_right, h1, Nat.mul_comm P F, Nat.mul_mod_mul_right]
    rw [hE, Nat.mul_comm Y 16, Nat.mul_mod_mul_left]
    rw [Nat.mul_left_comm, h2, Nat.mul_assoc]
/-- One digit of the two ways. -/
theorem hx_step (A Y c E F : Nat) (hF : 0 < F) (hE : E = 16 * F) (hY : Y < E) (h : A % 16 ^ (c + 1) * E = Y * 16 ^ (c + 1)) :
    Y / F % 16 = A / 16 ^ c % 16 ∧ A % 16 ^ c * E = Y * 16 % E * 16 ^ c := by
  have hp : 0 < 16 ^ c := Nat.pow_pos (by omega)
  have hd : A % 16 ^ (c + 1) / 16 ^ c = A / 16 ^ c % 16 := by rw [Nat.pow_succ, Nat.mod_mul_right_div_self]
  have hm : A % 16 ^ (c + 1) % 16 ^ c = A % 16 ^ c := by rw [Nat.pow_succ, Nat.mod_mul_right_mod]
  obtain ⟨h1, h2⟩ := hx_abs (A % 16 ^ (c + 1)) Y (16 ^ c) E F hF hp hE (by rw [← Nat.pow_succ]; exact h)
  rw [hd] at h1
  rw [hm] at h2
  refine ⟨?_, h2⟩
  rw [h1, Nat.mod_mod]

theorem hexN_hxT (up : Bool) (A c : Nat) : ∀ Y : Nat, Y < 2 ^ 64 → A % 16 ^ c * 2 ^ 64 = Y * 16 ^ c → hexN up c Y = hxT up A c := by
  induction c with
  | zero => intro Y _ _; rfl
  | succ c ih =>
    intro Y hY h
    obtain ⟨h1, h2⟩ := hx_step A Y c (2 ^ 64) (2 ^ 60) (Nat.two_pow_pos 60) rfl hY h
    rw [hexN, hxT, h1, ih _ (Nat.mod_lt _ (Nat.two_pow_pos 64)) h2]

theorem hexZ_hxT (up : Bool) (A c : Nat) : ∀ n Y : Nat, Y < 2 ^ 64 → A % 16 ^ c * 2 ^ 64 = Y * 16 ^ c → c ≤ n → (c ≠ 0 → A % 16 ≠ 0) → hexZ up n Y = hxT up A c := by
  induction c with
  | zero =>
    intro n Y _ h _ _
    have hy : Y = 0 := by rw [Nat.pow_zero, Nat.mod_one, Nat.zero_mul, Nat.mul_one] at h; exact h.symm
    subst hy
    cases n with
    | zero => rfl
    | succ n => rw [hexZ, if_pos rfl]; rfl
  | succ c ih =>
    intro n Y hY h hn hA
    cases n with
    | zero => omega
    | succ n =>
      obtain ⟨h1, h2⟩ := hx_step A Y c (2 ^ 64) (2 ^ 60) (Nat.two_pow_pos 60) rfl hY h
      have h0 : Y ≠ 0 := by
        intro e
        subst e
        have h5 : A % 16 ^ (c + 1) = 0 := by
          rw [Nat.zero_mul] at h
          rcases Nat.mul_eq_zero.1 h with h | h
          · exact h
          · exact absurd h (Nat.ne_of_gt (Nat.two_pow_pos 64))
        apply hA (by omega)
        have h3 : A % 16 ^ (c + 1) % 16 = A % 16 := Nat.mod_mod_of_dvd _ (by rw [Nat.pow_succ]; exact Nat.dvd_mul_left _ _)
        omega
      rw [hexZ, hxT, if_neg h0, h1, ih n _ (Nat.mod_lt _ (Nat.two_pow_pos 64)) h2 (by omega) (fun hc => hA (by omega))]

theorem or_even (x b : Nat) (hx : x % 2 = 0) (hb : b < 2) : x ||| b = x + b := by
  have h := Nat.two_pow_add_eq_or_of_lt (i := 1) (b := b) (by simpa using hb) (x / 2)
  rw [show 2 ^ 1 * (x / 2) = x by omega] at h
  exact h.symm

/-- What the rounding of the library has: with X = m * 2^(60 - k), k the place of m's first bit. -/
theorem xRnd_hx (m c : Nat) (E : Int) (hm0 : m ≠ 0) (hk : m.log2 ≤ 52) (hc : c < 15) :
    xRnd (c : Int) (m * 2 ^ (60 - m.log2)) E = (hxF m c * 2 ^ (60 - 4 * c), E + hxE m c) ∧ 2 ^ (4 * c) ≤ hxF m c ∧ hxF m c < 2 ^ (4 * c + 1) := by
  obtain ⟨k, hk'⟩ : ∃ k, m.log2 = k := ⟨_, rfl⟩
  have hlo : 2 ^ k ≤ m := by rw [← hk']; exact Nat.log2_self_le hm0
  have hhi : m < 2 ^ (k + 1) := by rw [← hk']; exact Nat.lt_log2_self
  rw [hk'] at hk ⊢
  -- the quotient and what is left
  have hM : hxM m c = (if 576460752303423488 < (m * 2 ^ (60 - k) * 2 ^ (c * 4) % 2 ^ 60 ||| m * 2 ^ (60 - k) / 2 ^ (60 - c * 4) % 2) then m * 2 ^ (60 - k) / 2 ^ (60 - c * 4) + 1 else m * 2 ^ (60 - k) / 2 ^ (60 - c * 4)) ∧ m * 2 ^ (60 - k) / 2 ^ (60 - c * 4) < 2 ^ (4 * c + 1) ∧ 2 ^ (4 * c) ≤ m * 2 ^ (60 - k) / 2 ^ (60 - c * 4) := by
    have hqlt : m * 2 ^ (60 - k) / 2 ^ (60 - c * 4) < 2 ^ (4 * c + 1) := by
      rw [Nat.div_lt_iff_lt_mul (Nat.two_pow_pos _), ← Nat.pow_add, show 4 * c + 1 + (60 - c * 4) = (k + 1) + (60 - k) by omega, Nat.pow_add]
      exact Nat.mul_lt_mul_of_pos_right hhi (Nat.two_pow_pos _)
    have hqge : 2 ^ (4 * c) ≤ m * 2 ^ (60 - k) / 2 ^ (60 - c * 4) := by
      rw [Nat.le_div_iff_mul_le (Nat.two_pow_pos _), ← Nat.pow_add, show 4 * c + (60 - c * 4) = k + (60 - k) by omega, Nat.pow_add]
      exact Nat.mul_le_mul_right _ hlo
    refine ⟨?_, hqlt, hqge⟩
    unfold hxM
    rw [hk']
    have hev : m * 2 ^ (60 - k) * 2 ^ (c * 4) % 2 ^ 60 % 2 = 0 := by
      rw [Nat.mod_mod_of_dvd _ (by decide : (2 : Nat) ∣ 2 ^ 60), show 60 - k = (59 - k) + 1 by omega, Nat.pow_succ]
      rw [show m * (2 ^ (59 - k) * 2) * 2 ^ (c * 4) = 2 * (m * 2 ^ (59 - k) * 2 ^ (c * 4)) by simp [Nat.mul_assoc, Nat.mul_left_comm]]
      exact Nat.mul_mod_right _ _
    rw [or_even _ _ hev (Nat.mod_lt _ (by omega))]
    by_cases h : k ≤ 4 * c
    · rw [if_pos h]
      have e1 : m * 2 ^ (60 - k) = m * 2 ^ (4 * c - k) * 2 ^ (60 - c * 4) := by rw [Nat.mul_assoc, ← Nat.pow_add]; congr 2; omega
      have e2 : m * 2 ^ (60 - k) / 2 ^ (60 - c * 4) = m * 2 ^ (4 * c - k) := by rw [e1, Nat.mul_div_cancel _ (Nat.two_pow_pos _)]
      have e3 : m * 2 ^ (60 - k) * 2 ^ (c * 4) % 2 ^ 60 = 0 := by
        rw [e1, Nat.mul_assoc, ← Nat.pow_add, show 60 - c * 4 + c * 4 = 60 by omega]
        exact Nat.mul_mod_left _ _
      rw [e2, e3, if_neg (by omega)]
      unfold rndE
      rw [if_neg (by omega)]
      simp
    · rw [if_neg h]
      have e1 : m * 2 ^ (60 - k) / 2 ^ (60 - c * 4) = m / 2 ^ (k - 4 * c) := by
        rw [show 60 - c * 4 = (k - 4 * c) + (60 - k) by omega, Nat.pow_add, Nat.mul_div_mul_right _ _ (Nat.two_pow_pos _)]
      have e2 : m * 2 ^ (60 - k) * 2 ^ (c * 4) % 2 ^ 60 = m % 2 ^ (k - 4 * c) * 2 ^ (60 - (k - 4 * c)) := by
        rw [Nat.mul_assoc, ← Nat.pow_add, show 60 - k + c * 4 = 60 - (k - 4 * c) by omega]
        have : (2 : Nat) ^ 60 = 2 ^ (k - 4 * c) * 2 ^ (60 - (k - 4 * c)) := by rw [← Nat.pow_add]; congr 1; omega
        rw [this, Nat.mul_mod_mul_right]
      have e3 : (2 : Nat) ^ (60 - (k - 4 * c)) = 2 * 2 ^ (59 - (k - 4 * c)) := by rw [show 60 - (k - 4 * c) = (59 - (k - 4 * c)) + 1 by omega, Nat.pow_succ, Nat.mul_comm]
      have e4 : 576460752303423488 = 2 ^ (k - 4 * c) * 2 ^ (59 - (k - 4 * c)) := by rw [← Nat.pow_add, show k - 4 * c + (59 - (k - 4 * c)) = 59 by omega]
      rw [e1, e2, e3, e4]
      obtain ⟨b, hb⟩ : ∃ b, 2 ^ (k - 4 * c) = b := ⟨_, rfl⟩
      obtain ⟨z, hz⟩ : ∃ z, 2 ^ (59 - (k - 4 * c)) = z := ⟨_, rfl⟩
      have hz0 : 2 ≤ z := by rw [← hz]; exact Nat.le_trans (by decide : 2 ≤ 2 ^ 1) (Nat.pow_le_pow_right (by omega) (by omega))
      have hb0 : 0 < b := by rw [← hb]; exact Nat.two_pow_pos _
      rw [hb, hz]
      unfold rndE
      obtain ⟨r, hr⟩ : ∃ r, m % b = r := ⟨_, rfl⟩
      obtain ⟨q, hq⟩ : ∃ q, m / b = q := ⟨_, rfl⟩
      rw [hr, hq]
      have hq2 : q % 2 < 2 := Nat.mod_lt _ (by omega)
      have e5 : r * (2 * z) = 2 * r * z := by rw [← Nat.mul_assoc, Nat.mul_comm r 2]
      rw [e5]
      rcases Nat.lt_trichotomy b (2 * r) with h1 | h1 | h1
      · have : (b + 1) * z ≤ 2 * r * z := Nat.mul_le_mul_right _ h1
        rw [Nat.add_mul] at this
        rw [if_pos (Or.inl h1), if_pos (by omega)]
      · rw [← h1]
        by_cases h2 : q % 2 = 1
        · rw [if_pos (Or.inr ⟨rfl, h2⟩), if_pos (by omega)]
        · rw [if_neg (by omega), if_neg (by omega)]
      · have : (2 * r + 1) * z ≤ b * z := Nat.mul_le_mul_right _ h1
        rw [Nat.add_mul] at this
        rw [if_neg (by omega), if_neg (by omega)]
  obtain ⟨hM, hq1, hq2⟩ := hM
  unfold xRnd
  rw [if_pos (by omega)]
  dsimp only
  rw [Int.toNat_natCast, ← hM]
  have hMlt : hxM m c ≤ 2 ^ (4 * c + 1) := by rw [hM]; split <;> omega
  have hMge : 2 ^ (4 * c) ≤ hxM m c := by rw [hM]; split <;> omega
  clear hM hq1 hq2
  rw [show c * 4 = 4 * c by omega]
  have hp1 : 0 < 2 ^ (60 - 4 * c) := Nat.two_pow_pos _
  have h61 : 2 ^ 61 = 2 ^ (4 * c + 1) * 2 ^ (60 - 4 * c) := by rw [← Nat.pow_add]; congr 1; omega
  by_cases h : hxM m c = 2 ^ (4 * c + 1)
  · have hb : nbits (hxM m c) = 4 * c + 2 := by rw [h]; exact nbits_of (Nat.le_refl _) (Nat.pow_lt_pow_right (by omega) (by omega))
    have hF : hxF m c = hxM m c / 2 := by unfold hxF; rw [if_pos (by omega)]
    have hE : hxE m c = 1 := by unfold hxE; rw [if_pos (by omega)]
    have h2 : 2 ^ (4 * c + 1) / 2 = 2 ^ (4 * c) := by rw [Nat.pow_succ]; omega
    have h3 : 2 ^ (4 * c) * 2 ^ (60 - 4 * c) = 2 ^ 60 := by rw [← Nat.pow_add]; congr 1; omega
    rw [hF, hE, h, ← h61, h2, h3]
    refine ⟨?_, Nat.le_refl _, Nat.pow_lt_pow_right (by omega) (by omega)⟩
    rw [if_neg (by decide)]
    rfl
  · have hlt : hxM m c < 2 ^ (4 * c + 1) := by omega
    have hb : nbits (hxM m c) = 4 * c + 1 := nbits_of hMge hlt
    have hF : hxF m c = hxM m c := by unfold hxF; rw [if_neg (by omega)]
    have hE : hxE m c = 0 := by unfold hxE; rw [if_neg (by omega)]
    have h2 : hxM m c * 2 ^ (60 - 4 * c) < 2 ^ 61 := by rw [h61]; exact Nat.mul_lt_mul_of_pos_right hlt hp1
    have h3 : hxM m c * 2 ^ (60 - 4 * c) / 2 ^ 61 % 2 = 0 := by rw [Nat.div_eq_of_lt h2]
    rw [hF, hE, if_pos h3]
    exact ⟨by simp, hMge, hlt⟩

theorem tz2_spec (m : Nat) (h : m ≠ 0) : ∃ a, m = 2 ^ tz2 m * a ∧ a % 2 = 1 := by
  induction m using Nat.strongRecOn with
  | _ m ih =>
    rw [tz2, dif_neg h]
    by_cases h1 : m % 2 = 1
    · rw [if_pos h1]; exact ⟨m, by simp, h1⟩
    · rw [if_neg h1]
      obtain ⟨a, ha, ho⟩ := ih (m / 2) (by omega) (by omega)
      refine ⟨a, ?_, ho⟩
      rw [Nat.add_comm 1, Nat.pow_succ, Nat.mul_comm _ 2, Nat.mul_assoc, ← ha]
      omega

theorem tz2_le (m : Nat) (h : m ≠ 0) : tz2 m ≤ m.log2 := by
  obtain ⟨a, ha, ho⟩ := tz2_spec m h
  rw [Nat.le_log2 h]
  have : 2 ^ tz2 m * 1 ≤ 2 ^ tz2 m * a := Nat.mul_le_mul_left _ (by omega)
  omega

theorem ptL_cons (a : UInt8) (l : List UInt8) : ptL (a :: l) = a :: (if l = [] then [] else 46 :: l) := by
  unfold ptL
  cases l with
  | nil => simp
  | cons b r => rw [if_neg (by simp), if_neg (by simp)]; rfl

theorem hexD_one (up : Bool) : hexD up 1 = 49 := by cases up <;> rfl
theorem hexD_zero (up : Bool) : hexD up 0 = 48 := by cases up <;> rfl
theorem hexN_zero (up : Bool) : ∀ c, hexN up c 0 = List.replicate c 48
  | 0 => rfl
  | c + 1 => by rw [hexN, List.replicate_succ]; simp only [Nat.zero_div, Nat.zero_mod, Nat.zero_mul]; rw [hexD_zero, hexN_zero up c]

/-- The library's x is the reference's. -/
theorem xL_hexad (neg : Bool) (prec f : Int) (m mb : Nat) (e : Int) (hf : f = 120 ∨ f = 88) (hp : -1 ≤ prec) (hmb : mb ≤ 52) (hm : m < 2 ^ (mb + 1)) (he1 : -2000 ≤ e) (he2 : e ≤ 2000) :
    xL neg prec f m mb e = eSign neg ++ hexadL (f == 88) m (e - mb) prec := by
  have hup : UInt8.ofNat f.toNat = (if (f == 88) = true then 88 else 120) := by rcases hf with rfl | rfl <;> rfl
  have hlt : (if f = 88 then (80 : UInt8) else 112) = (if (f == 88) = true then 80 else 112) := by rcases hf with rfl | rfl <;> rfl
  unfold xL hexadL
  rw [hup, hlt]
  generalize (f == 88) = up
  generalize (if up = true then (80 : UInt8) else 112) = lt
  congr 1
  rw [List.cons_append, List.cons_append, List.cons_append, List.cons_append, List.nil_append, List.nil_append]
  congr 2
  by_cases hm0 : m = 0
  · subst hm0
    rw [if_pos rfl]
    have hfin : xFin prec 0 mb e = (0, 0) := by
      unfold xFin xNorm
      rw [if_pos (by simp), if_pos rfl]
      unfold xRnd
      split
      · dsimp only
        simp
      · rfl
    rw [hfin]
    dsimp only
    rw [expT_xExp _ _ (by omega) (by omega), ptL_cons]
    simp only [Nat.zero_div, Nat.zero_mod, Nat.zero_mul, List.cons_append]
    congr 1
    unfold xFrac
    rw [if_neg (by simp)]
    by_cases h0 : 0 < prec
    · rw [if_pos h0, hexN_zero, if_neg (by rw [List.replicate_eq_nil_iff]; omega)]
    · rw [if_neg h0, if_pos (by rw [List.replicate_eq_nil_iff]; omega)]
  rw [if_neg hm0]
  have hk : m.log2 ≤ mb := by
    have := (Nat.log2_lt hm0).2 hm
    omega
  have hlo := Nat.log2_self_le hm0
  have hhi := @Nat.lt_log2_self m
  obtain ⟨k, hk'⟩ : ∃ k, m.log2 = k := ⟨_, rfl⟩
  rw [hk'] at hk hlo hhi
  -- the normal form
  have hnorm : xNorm (m * 2 ^ (60 - mb)) (if m = 0 then 0 else e) = (m * 2 ^ (60 - k), e - mb + k) := by
    rw [if_neg hm0]
    have h := xNorm_is (m := m * 2 ^ (60 - mb)) (j := mb - k) (mj := m * 2 ^ (60 - k)) (e := e) (by rw [Nat.mul_assoc, ← Nat.pow_add]; congr 2; omega) (by omega)
      (by
        have : 2 ^ 61 = 2 ^ (k + 1) * 2 ^ (60 - k) := by rw [← Nat.pow_add]; congr 1; omega
        rw [this]; exact Nat.mul_lt_mul_of_pos_right hhi (Nat.two_pow_pos _))
      (Or.inr (by
        have : 1152921504606846976 = 2 ^ k * 2 ^ (60 - k) := by rw [← Nat.pow_add, show k + (60 - k) = 60 by omega]
        rw [this]; exact Nat.mul_le_mul_right _ hlo))
      (fun h => absurd (Nat.mul_eq_zero.1 h) (by have := Nat.two_pow_pos (60 - mb); omega))
    rw [h]
    congr 1
    omega
  -- all three ways: the number of digits, the number, its exponent
  obtain ⟨c, hc⟩ : ∃ c, hxCnt m prec = c := ⟨_, rfl⟩
  have key : ∃ X : Nat, xFin prec m mb e = (X, e - mb + k + hxE m c) ∧ hxF m c < 2 ^ (4 * c + 1) ∧ 2 ^ (4 * c) ≤ hxF m c ∧ hxF m c * 2 ^ 60 = X * 2 ^ (4 * c) ∧ X < 2 ^ 61 ∧ (prec < 0 → c ≤ 14 ∧ (c ≠ 0 → hxF m c % 16 ≠ 0)) := by
    unfold xFin
    rw [hnorm]
    dsimp only
    -- without rounding
    have exact1 : k ≤ 4 * c → hxF m c = m * 2 ^ (4 * c - k) ∧ hxE m c = 0 := by
      intro h
      have hM : hxM m c = m * 2 ^ (4 * c - k) := by
        unfold hxM
        rw [hk', if_pos h]
        unfold rndE
        rw [if_neg (by omega)]
        simp
      have hb : nbits (hxM m c) = 4 * c + 1 := by
        refine nbits_of ?_ ?_
        · rw [hM]
          have : 2 ^ (4 * c) = 2 ^ k * 2 ^ (4 * c - k) := by rw [← Nat.pow_add]; congr 1; omega
          rw [this]; exact Nat.mul_le_mul_right _ hlo
        · rw [hM]
          have : 2 ^ (4 * c + 1) = 2 ^ (k + 1) * 2 ^ (4 * c - k) := by rw [← Nat.pow_add]; congr 1; omega
          rw [this]; exact Nat.mul_lt_mul_of_pos_right hhi (Nat.two_pow_pos _)
      unfold hxF hxE
      rw [if_neg (by omega), if_neg (by omega)]
      exact ⟨hM, rfl⟩
    have bd : k ≤ 4 * c → hxF m c < 2 ^ (4 * c + 1) ∧ 2 ^ (4 * c) ≤ hxF m c ∧ hxF m c * 2 ^ 60 = m * 2 ^ (60 - k) * 2 ^ (4 * c) := by
      intro h
      rw [(exact1 h).1]
      refine ⟨?_, ?_, ?_⟩
      · have : 2 ^ (4 * c + 1) = 2 ^ (k + 1) * 2 ^ (4 * c - k) := by rw [← Nat.pow_add]; congr 1; omega
        rw [this]; exact Nat.mul_lt_mul_of_pos_right hhi (Nat.two_pow_pos _)
      · have : 2 ^ (4 * c) = 2 ^ k * 2 ^ (4 * c - k) := by rw [← Nat.pow_add]; congr 1; omega
        rw [this]; exact Nat.mul_le_mul_right _ hlo
      · rw [Nat.mul_assoc, ← Nat.pow_add, Nat.mul_assoc, ← Nat.pow_add]; congr 2; omega
    have hX : m * 2 ^ (60 - k) < 2 ^ 61 := by
      have : 2 ^ 61 = 2 ^ (k + 1) * 2 ^ (60 - k) := by rw [← Nat.pow_add]; congr 1; omega
      rw [this]; exact Nat.mul_lt_mul_of_pos_right hhi (Nat.two_pow_pos _)
    by_cases hp0 : prec < 0
    · -- as few as are exact
      have hcc : c = (k - tz2 m + 3) / 4 := by rw [← hc]; unfold hxCnt; rw [if_pos hp0, hk']
      obtain ⟨a, ha, ho⟩ := tz2_spec m hm0
      have htz := tz2_le m hm0
      rw [hk'] at htz
      obtain ⟨t, ht⟩ : ∃ t, tz2 m = t := ⟨_, rfl⟩
      rw [ht] at ha htz hcc
      have hnr : xRnd prec (m * 2 ^ (60 - k)) (e - mb + k) = (m * 2 ^ (60 - k), e - mb + k) := by unfold xRnd; rw [if_neg (by omega)]
      rw [hnr]
      by_cases h : k ≤ 4 * c
      · obtain ⟨b1, b2, b3⟩ := bd h
        refine ⟨_, by rw [(exact1 h).2]; simp, b1, b2, b3, hX, fun _ => ⟨by omega, fun hc0 => ?_⟩⟩
        rw [(exact1 h).1, ha, Nat.mul_comm (2 ^ t) a, Nat.mul_assoc, ← Nat.pow_add]
        have h3 : t + (4 * c - k) ≤ 3 := by omega
        have h4 : a * 2 ^ (t + (4 * c - k)) % 16 ≠ 0 := by
          generalize t + (4 * c - k) = j at h3
          have : j = 0 ∨ j = 1 ∨ j = 2 ∨ j = 3 := by omega
          rcases this with rfl | rfl | rfl | rfl <;> omega
        exact h4
      · have hd : t ≤ k ∧ k - 4 * c ≤ t := by omega
        have hF : hxM m c = m / 2 ^ (k - 4 * c) ∧ m = 2 ^ (k - 4 * c) * (m / 2 ^ (k - 4 * c)) := by
          have hdv : 2 ^ (k - 4 * c) ∣ m := by rw [ha]; exact Nat.dvd_trans (Nat.pow_dvd_pow 2 hd.2) (Nat.dvd_mul_right _ _)
          refine ⟨?_, (Nat.mul_div_cancel' hdv).symm⟩
          unfold hxM
          rw [hk', if_neg h]
          unfold rndE
          rw [Nat.mod_eq_zero_of_dvd hdv, if_neg (by have := Nat.two_pow_pos (k - 4 * c); omega)]
        obtain ⟨q, hq⟩ : ∃ q, m / 2 ^ (k - 4 * c) = q := ⟨_, rfl⟩
        rw [hq] at hF
        have hq1 : q < 2 ^ (4 * c + 1) := by
          rw [← hq, Nat.div_lt_iff_lt_mul (Nat.two_pow_pos _), ← Nat.pow_add, show 4 * c + 1 + (k - 4 * c) = k + 1 by omega]; exact hhi
        have hq2 : 2 ^ (4 * c) ≤ q := by
          rw [← hq, Nat.le_div_iff_mul_le (Nat.two_pow_pos _), ← Nat.pow_add, show 4 * c + (k - 4 * c) = k by omega]; exact hlo
        have hb : nbits (hxM m c) = 4 * c + 1 := by rw [hF.1]; exact nbits_of hq2 hq1
        have hFF : hxF m c = q ∧ hxE m c = 0 := by
          unfold hxF hxE
          rw [if_neg (by omega), if_neg (by omega)]
          exact ⟨hF.1, rfl⟩
        rw [hFF.1, hFF.2]
        refine ⟨_, by simp, hq1, hq2, ?_, hX, fun _ => ⟨by omega, fun hc0 => ?_⟩⟩
        · have e0 : m * 2 ^ (60 - k) * 2 ^ (4 * c) = (2 ^ (k - 4 * c) * q) * 2 ^ (60 - k) * 2 ^ (4 * c) := by rw [← hF.2]
          rw [e0, Nat.mul_comm (2 ^ (k - 4 * c)) q, Nat.mul_assoc, Nat.mul_assoc, ← Nat.pow_add, ← Nat.pow_add]; congr 2; omega
        · -- the last digit
          have e0 : q = 2 ^ (t - (k - 4 * c)) * a := by
            have h5 : 2 ^ (k - 4 * c) * q = 2 ^ (k - 4 * c) * (2 ^ (t - (k - 4 * c)) * a) := by
              rw [← hF.2, ← Nat.mul_assoc, ← Nat.pow_add, show k - 4 * c + (t - (k - 4 * c)) = t by omega]; exact ha
            exact Nat.eq_of_mul_eq_mul_left (Nat.two_pow_pos _) h5
          rw [e0]
          have h3 : t - (k - 4 * c) ≤ 3 := by omega
          generalize t - (k - 4 * c) = j at h3
          have : j = 0 ∨ j = 1 ∨ j = 2 ∨ j = 3 := by omega
          rcases this with rfl | rfl | rfl | rfl <;> omega
    · have hcc : c = prec.toNat := by rw [← hc]; unfold hxCnt; rw [if_neg hp0]
      have hpc : prec = (c : Int) := by omega
      rw [hpc]
      by_cases h15 : c < 15
      · obtain ⟨h1, h2, h3⟩ := xRnd_hx m c (e - mb + k) hm0 (by omega) h15
        rw [hk'] at h1
        rw [h1]
        refine ⟨_, rfl, h3, h2, ?_, ?_, fun h => by omega⟩
        · rw [Nat.mul_assoc, ← Nat.pow_add]; congr 2; omega
        · have : 2 ^ 61 = 2 ^ (4 * c + 1) * 2 ^ (60 - 4 * c) := by rw [← Nat.pow_add]; congr 1; omega
          rw [this]; exact Nat.mul_lt_mul_of_pos_right h3 (Nat.two_pow_pos _)
      · have hnr : xRnd (c : Int) (m * 2 ^ (60 - k)) (e - mb + k) = (m * 2 ^ (60 - k), e - mb + k) := by unfold xRnd; rw [if_neg (by omega)]
        rw [hnr]
        obtain ⟨b1, b2, b3⟩ := bd (by omega)
        exact ⟨_, by rw [(exact1 (by omega)).2]; simp, b1, b2, b3, hX, fun h => by omega⟩
  obtain ⟨X, hfin, f1, f2, f3, f4, f5⟩ := key
  rw [hfin, hc, hk']
  dsimp only
  have hE1 : hxE m c ≤ 1 := by unfold hxE; split <;> omega
  rw [expT_xExp _ _ (by omega) (by omega), hxT, ptL_cons, List.cons_append]
  -- the first digit
  have d1 : hxF m c / 16 ^ c = 1 := by
    rw [show (16 : Nat) = 2 ^ 4 by decide, ← Nat.pow_mul]
    refine Nat.div_eq_of_lt_le (by omega) (by rw [Nat.pow_succ] at f1; omega)
  have d2 : X / 2 ^ 60 = 1 := by
    rw [show (16 : Nat) = 2 ^ 4 by decide, ← Nat.pow_mul] at d1
    rw [← Nat.mul_div_mul_right X (2 ^ 60) (Nat.two_pow_pos (4 * c)), ← f3, Nat.mul_comm (2 ^ 60), Nat.mul_div_mul_right _ _ (by decide)]
    exact d1
  rw [d1, d2, show 1 % 16 = 1 by decide, show 48 + 1 % 2 = 49 by decide, hexD_one]
  congr 1
  -- the others
  have hY : hxF m c % 16 ^ c * 2 ^ 64 = X * 16 % 2 ^ 64 * 16 ^ c := by
    have h4 : (16 : Nat) ^ c = 2 ^ (4 * c) := by rw [show (16 : Nat) = 2 ^ 4 by decide, ← Nat.pow_mul]
    refine (hx_abs (hxF m c) X (16 ^ c) (2 ^ 64) (2 ^ 60) (Nat.two_pow_pos 60) (Nat.pow_pos (by omega)) rfl ?_).2
    rw [h4, ← Nat.mul_assoc, ← f3, Nat.mul_assoc]
  unfold xFrac
  by_cases hp0 : prec < 0
  · obtain ⟨g1, g2⟩ := f5 hp0
    have hz := hexZ_hxT up (hxF m c) c 16 (X * 16 % 2 ^ 64) (Nat.mod_lt _ (by decide)) hY (by omega) g2
    by_cases h0 : X * 16 % 2 ^ 64 = 0
    · rw [if_neg (by omega), if_neg (by omega)]
      rw [h0, hexZ, if_pos rfl] at hz
      rw [← hz]; rfl
    · rw [if_pos ⟨hp0, h0⟩, hz]
      rw [if_neg (by
        intro hn
        rw [hn, hexZ, if_neg h0] at hz
        cases hz)]
  · rw [if_neg (by omega)]
    have hcc : c = prec.toNat := by rw [← hc]; unfold hxCnt; rw [if_neg hp0]
    by_cases h0 : 0 < prec
    · rw [if_pos h0, ← hcc, hexN_hxT up (hxF m c) c _ (Nat.mod_lt _ (by decide)) hY]
      rw [if_neg (by
        intro hn
        have := congrArg List.length hn
        rw [hxT_len] at this
        simp at this
        omega)]
    · rw [if_neg h0]
      have : c = 0 := by omega
      subst this
      rw [hxT, if_pos rfl]
end Go.Proofs.YticlnihjhcepkaaGreatDoor

/-
  Walk of spec/nat.go: NatText.
-/
namespace Go.Proofs.YticlnihjhcepkaaGreatDoor
open Go.RowKit
set_option linter.unusedSimpArgs false
set_option linter.unusedVariables false

/-- Groups of nine digits, the least first. -/
def gval : List Nat → Nat
  | [] => 0
  | x :: r => x + 1000000000 * gval r
theorem gval_append (a : List Nat) (x : Nat) : gval (a ++ [x]) = gval a + 1000000000 ^ a.length * x := by
  induction a with
  | nil => simp [gval]
  | cons y r ih =>
    rw [List.cons_append, gval, ih, gval, List.length_cons, Nat.pow_succ, Nat.mul_add]
    have : 1000000000 * (1000000000 ^ r.length * x) = 1000000000 ^ r.length * 1000000000 * x := by rw [← Nat.mul_assoc, Nat.mul_comm 1000000000]
    omega
theorem gval_drop (l : List Nat) (i : Nat) (h : i < l.length) : gval (l.drop i) = l.getD i 0 + 1000000000 * gval (l.drop (i + 1)) := by
  rw [List.drop_eq_getElem_cons h, gval, List.getD_eq_getElem?_getD, List.getElem?_eq_getElem h]; rfl
theorem OwnI.otherc {T : Nat} {w : World} {v : Value} {xs : List Nat} (h : OwnI T w v xs) {a : Addr} (hne : v.ownBlock ≠ Option.some a.block) (u : Value) : OwnI T (w.setCell a u) v xs := ⟨h.1.setCell_other hne u, h.2⟩

/-- Dividing by a thousand million: the high limbs are divided, rest is left over. -/
theorem div9_go (l q : List Nat) (k rest : Nat) (hk : k < l.length) (h : lval q * 1000000000 + rest = lval (l.drop (k + 1))) :
    lval ((rest * 1073741824 + l.getD k 0) / 1000000000 :: q) * 1000000000 + (rest * 1073741824 + l.getD k 0) % 1000000000 = lval (l.drop k) := by
  have h1 := div9_step (q := q) (x := l.getD k 0) (rest := rest) (D := lval (l.drop (k + 1))) h
  rw [List.drop_eq_getElem_cons hk, lval]
  have e : l.getD k 0 = l[k] := by rw [List.getD_eq_getElem?_getD, List.getElem?_eq_getElem hk]; rfl
  rw [e] at h1 ⊢
  exact h1
theorem set_mid (l q : List Nat) (k y : Nat) (hk : k < l.length) : (l.take (k + 1) ++ q).set k y = l.take k ++ (y :: q) := by
  rw [take_getD l k hk, List.append_assoc, List.set_append_right _ _ (by rw [List.length_take]; omega)]
  rw [List.length_take, show k - min k l.length = 0 by omega]
  rfl

theorem decS_len_mono (y : Nat) : ∀ x, x ≤ y → (decS x).length ≤ (decS y).length := by
  induction y using Nat.strongRecOn with
  | _ y ih =>
    intro x hx
    by_cases h0 : x = 0
    · subst h0; rw [decS_zero]; simp
    · rw [decS_pos h0, decS_pos (show y ≠ 0 by omega), List.length_append, List.length_append]
      have := ih (y / 10) (by omega) (x / 10) (by omega)
      simp; omega
theorem decS_mono {x y : Nat} (h : x ≤ y) : (decS x).length ≤ (decS y).length := decS_len_mono y x h

set_option maxRecDepth 100000 in
set_option maxHeartbeats 4000000 in
theorem natText_any (v : Value) (a : Nat) (w : World) (hr : NatV w v a) (hx : (natL a).length ≤ 90000) :
    Calls Tryz.prog 84 #[v] w fun e w' => e = .returned (.string ⟨(decT a).toArray⟩) ∧ w.grownBy w' none := by
  have hglen : ∀ (gs : List Nat) (X : Nat), gval gs + 1000000000 ^ gs.length * X = a → X ≠ 0 → gs.length ≤ 200000 := by
    intro gs X h hX
    have h1 : 1000000000 ^ gs.length ≤ a := Nat.le_trans (Nat.le_mul_of_pos_right _ (Nat.pos_of_ne_zero hX)) (by omega)
    have h2 := natL_lt a
    have h3 : (536870912 : Nat) ^ gs.length ≤ 1000000000 ^ gs.length := Nat.pow_le_pow_left (by omega) _
    have h4 : 2 ^ (29 * gs.length) < 2 ^ (30 * (natL a).length) := by
      rw [Nat.pow_mul, Nat.pow_mul]
      exact Nat.lt_of_le_of_lt (Nat.le_trans h3 h1) h2
    have h5 := (Nat.pow_lt_pow_iff_right (a := 2) (by decide)).1 h4
    omega
  have HGL := Lib.hid hglen
  have HT0 := Lib.hid (fun W (h : w.grownBy W none) => trimS_any v (natL a) W (RdI.grown hr h) (by omega))
  have htr : (natL a).take (trimK (natL a) (natL a).length) = natL a := by
    rw [trim_natL _ (natL_limbs a) _ (Nat.le_refl _), List.take_length, lval_natL]
  rw [htr] at HT0
  have hXlen : ∀ X, X ≤ a → (natL X).length ≤ 90000 := fun X h => Nat.le_trans (natL_mono h) hx
  have HXL := Lib.hid hXlen
  clear hglen htr hr hx hXlen
  refine calls_F Tryz.func84 rfl (by rw [Tryz.ntmps84]; simp) ?_
  intro σ hσ
  rw [Tryz.ntmps84]
  have s0 : σ 0 = v := hσ 0 (by simp)
  clear hσ
  have HOG := Lib.hid (OwnI.fresh0 (T := w.heap.size) (w := w) (Nat.le_refl _) 3)
  have HG0 := Lib.hid (World.grownBy_alloc w (.cells #[] 3) none)
  generalize hB0 : w.heap.size = B0 at *
  have HB0 := Lib.hid hB0
  clear hB0
  ((repeat (go_wp2_with fail; first | (refine cdY ?_ ?_; focus (simp [ov, *]; done)) | (refine cdN ?_ ?_; focus (simp [ov, *]; done)))); go_wp2_with fail)
  refine (HT0.out _ HG0.out).mono ?_
  rintro e w1 ⟨vx, rfl, hox, hgx⟩
  have HOG1 := Lib.hid (HOG.out.grown0 hgx)
  have hsz : B0 + 1 ≤ (w.alloc (.cells #[] 3)).heap.size := by have := HB0.out; show B0 + 1 ≤ (w.heap.push _).size; simp; omega
  have hne0 : vx.ownBlock ≠ some B0 := by
    intro e
    have := hox.2 B0 e
    omega
  have hox1 : OwnI B0 w1 vx (natL a) := ⟨hox.1, fun k hk => by have := hox.2 k hk; omega⟩
  have HOX := Lib.hid hox1
  have HGX := Lib.hid (grown_none_tr HG0.out hgx)
  have HNE := Lib.hid hne0
  clear hox hgx hsz hne0 hox1 HT0
  ((repeat (go_wp2_with fail; first | (refine cdY ?_ ?_; focus (simp [ov, *]; done)) | (refine cdN ?_ ?_; focus (simp [ov, *]; done)))); go_wp2_with fail)
  refine loop_F (fun kk s' w' => ∃ (X : Nat) (gs : List Nat) (vg vx : Value), kk = X ∧ X ≤ a ∧ gval gs + 1000000000 ^ gs.length * X = a ∧ (∀ x ∈ gs, x < 1000000000) ∧ gs.length ≤ 200001 ∧ s' 3 = vg ∧ s' 4 = vx ∧ OwnI B0 w' vg gs ∧ OwnI B0 w' vx (natL X) ∧ vx.ownBlock ≠ vg.ownBlock ∧ w.grownBy w' none) a
    ⟨a, [], .slice (some ⟨B0, 0, none⟩) 0 0, vx, rfl, Nat.le_refl _, by simp [gval], by simp, by simp, by simp [over_cons, over_nil, HB0.out], by simp [ov, *], HOG1.out, HOX.out, HNE.out, HGX.out⟩ ?_
  clear s0 σ HOG1 HOX HNE HGX HOG HG0 vx w1
  rintro kk σ wk ⟨X, gs, vg, vx, hkk, hXa, hval, hgl, hgn, s3, s4, hog, hox, hne, hg⟩ RK KK HRK hKK
  have HKK := Lib.hid hkk
  have HV := Lib.hid hval
  have HGS := Lib.hid hgl
  have HOG := Lib.hid hog
  have HG := Lib.hid hg
  obtain ⟨gx, cx, rfl, hgB, hgs, hcx, hcm⟩ := hox.block
  have HNE := Lib.hid hne
  have hXl := HXL.out X hXa
  obtain ⟨N, hN⟩ : ∃ N, (natL X).length = N := ⟨_, rfl⟩
  simp only [hN] at s4 hox hcx
  rw [hN] at hXl
  have HOX := Lib.hid hox
  have HN := Lib.hid hN
  have HNE2 : Hid ((Value.slice (some ⟨gx, 0, none⟩) N cx).ownBlock ≠ vg.ownBlock) := by rw [← hN]; exact HNE.out
  clear hkk hval hgl hog hg hne hox hN HNE
  by_cases h0 : X = 0
  · subst h0
    have hN0 : N = 0 := by have := HN.out; rw [natL_zero] at this; simpa using this.symm
    subst hN0
    have hgv : gval gs = a := by have := HV.out; simpa using this
    have HGV := Lib.hid hgv
    obtain ⟨gg, cg, rfl, hggB, hggs, hcg, hcgm⟩ := HOG.out.block
    obtain ⟨M, hM⟩ : ∃ M, gs.length = M := ⟨_, rfl⟩
    simp only [hM] at s3 HOG hcg
    rw [hM] at hgn
    have HM := Lib.hid hM
    have hown0 : OwnB wk.heap.size (wk.alloc (Obj.cells #[] 5)) (.slice (some ⟨wk.heap.size, 0, none⟩) 0 0) [] := by
      refine ⟨⟨wk.heap.size, [], rfl, Row.new wk [] _, by simp [maxLen]⟩, fun k hk => ?_⟩
      simp [Value.ownBlock] at hk
      omega
    have HOB0 := Lib.hid hown0
    have HRG := Lib.hid (RdI.of_own HOG.out)
    have HGA := Lib.hid (grown_none_tr HG.out (World.grownBy_alloc wk (Obj.cells #[] 5) none))
    have HGB := Lib.hid (World.grownBy_alloc wk (Obj.cells #[] 5) none)
    have HGW := Lib.hid HG.out
    generalize hBk : wk.heap.size = Bk at *
    clear hgv hM hown0 HOG HV HKK HG HOX HNE2 HN HXL HGL
    ((repeat (go_wp2_with fail; first | (refine cdY ?_ ?_; focus (simp [ov, *]; done)) | (refine cdN ?_ ?_; focus (simp [ov, *]; done)))); go_wp2_with fail)
    refine loop_F (fun kk s' w' => ∃ (i : Nat) (vo : Value), kk = i ∧ i ≤ M ∧ s' 3 = .slice (some ⟨gg, 0, none⟩) M cg ∧ s' 9 = .int .i64 ((i : Int) - 1) ∧ s' 8 = vo ∧ OwnB Bk w' vo (decS (gval (gs.drop i))) ∧ wk.grownBy w' none) M
      ⟨M, .slice (some ⟨Bk, 0, none⟩) 0 0, rfl, Nat.le_refl _, by simp [ov, *], by simp [ov, *], by simp [ov, *], by rw [List.drop_of_length_le (by rw [HM.out]; exact Nat.le_refl _)]; simp only [gval]; rw [decS_zero]; exact HOB0.out, HGB.out⟩ ?_
    clear s3 s4 σ HOB0
    rintro kk σ wi ⟨i, vo, hkk, hiM, s3, s9, s8, hob, hg⟩ RI KI HRI hKI
    have HKI := Lib.hid hkk
    have HOB := Lib.hid hob
    have HG := Lib.hid hg
    have hVi : ∀ j, j ≤ M → (decS (gval (gs.drop j))).length ≤ 2000000 := by
      intro j hj
      have : ∀ (l : List Nat), (∀ x ∈ l, x < 1000000000) → gval l < 10 ^ (9 * l.length) := by
        intro l
        induction l with
        | nil => intro _; simp [gval]
        | cons x r ih =>
          intro h
          have h1 := ih (fun y hy => h y (by simp [hy]))
          have h2 := h x (by simp)
          rw [gval, List.length_cons, Nat.mul_add, Nat.pow_add]
          omega
      have h1 := this (gs.drop j) (fun x hx => HGS.out x (List.mem_of_mem_drop hx))
      have h2 := decS_len _ _ h1
      rw [List.length_drop, HM.out] at h2
      omega
    have HVI := Lib.hid hVi
    clear hkk hob hg hVi
    by_cases hi0 : i = 0
    · subst hi0
      have hfin : gval (gs.drop 0) = a := by rw [List.drop_zero]; exact HGV.out
      rw [hfin] at HOB
      have hlen := (HOB.out.block)
      by_cases ha0 : a = 0
      · subst ha0
        rw [decS_zero] at HOB hlen
        obtain ⟨go, co, rfl, _⟩ := hlen
        ((repeat (go_wp2_with fail; first | (refine cdY ?_ ?_; focus (simp [ov, *]; done)) | (refine cdN ?_ ?_; focus (simp [ov, *]; done)))); go_wp2_with fail)
        exact ret_F (.string ⟨#[48]⟩) rfl (by decide) (by simp [ov, *]) ⟨rfl, grown_none_tr HGW.out HG.out⟩
      · obtain ⟨go, co, rfl, _⟩ := hlen
        have hcv := str_of_own HOB.out
        have hdT : decT a = decS a := by unfold decT; rw [if_neg ha0]
        have hl0 : (decS a).length ≠ 0 := fun h => decS_ne ha0 (List.length_eq_zero_iff.1 h)
        have HDT := Lib.hid hdT
        clear hdT
        obtain ⟨D, hD⟩ : ∃ D, (decS a).length = D := ⟨_, rfl⟩
        rw [hD] at hl0
        simp only [hD] at s8 hcv
        have q1 : ((D : Int) == 0) = false := by rw [beq_eq_false_iff_ne]; omega
        have q2 : (D == 0) = false := by rw [beq_eq_false_iff_ne]; omega
        clear hD hfin
        ((repeat (go_wp2_with fail; first | (refine cdY ?_ ?_; focus (simp [ov, *]; done)) | (refine cdN ?_ ?_; focus (simp [ov, *]; done)))); go_wp2_with fail)
        exact ret_F (.string ⟨(decS a).toArray⟩) rfl (by decide) (by simp [ov, *]) ⟨by rw [HDT.out], grown_none_tr HGW.out HG.out⟩
    · obtain ⟨i', rfl⟩ : ∃ j, i = j + 1 := ⟨i - 1, by omega⟩
      have e1 : ((i' + 1 : Nat) : Int) - 1 = (i' : Int) := by omega
      rw [e1] at s9
      have hiN : (i' : Int) < (M : Int) := by omega
      have hiN2 : i' < M := by omega
      have hi00 : (0 : Int) ≤ (i' : Int) := by omega
      have hiL : i' < gs.length := by rw [HM.out]; exact hiN2
      obtain ⟨g, hgd⟩ : ∃ g, gs.getD i' 0 = g := ⟨_, rfl⟩
      have hgd2 : gs[i']? = some g := by rw [← hgd, List.getD_eq_getElem?_getD, List.getElem?_eq_getElem hiL]; rfl
      have hg9 : g < 1000000000 := HGS.out g (List.mem_of_getElem? hgd2)
      obtain ⟨V, hV⟩ : ∃ V, gval (gs.drop (i' + 1)) = V := ⟨_, rfl⟩
      have hVn : gval (gs.drop i') = V * 1000000000 + g := by rw [gval_drop gs i' hiL, hgd, hV]; omega
      have hlim := HVI.out i' (by omega)
      rw [hVn] at hlim
      rw [hV] at HOB
      have hmono : ∀ x, x ≤ V * 1000000000 + g → (decS x).length ≤ 2000000 := fun x hx => Nat.le_trans (decS_mono hx) hlim
      have HMO := Lib.hid hmono
      have HVN := Lib.hid hVn
      clear hgd hiL hV hVn hlim hmono e1 hi0
      ((repeat (go_wp2_with fail; first | (refine cdY ?_ ?_; focus (simp [ov, *]; done)) | (refine cdN ?_ ?_; focus (simp [ov, *]; done)))); go_wp2_with fail)
      refine loop_F (fun k2 s' w' => ∃ (j d : Nat) (vo : Value), j ≤ 9 ∧ k2 = 9 - j ∧ (j = 9 → d = 0) ∧ (j < 9 → d = 10 ^ (8 - j)) ∧ s' 3 = .slice (some ⟨gg, 0, none⟩) M cg ∧ s' 9 = .int .i64 (i' : Int) ∧ s' 10 = .int .i64 (d : Int) ∧ s' 8 = vo ∧ OwnB Bk w' vo (decS (V * 10 ^ j + g / 10 ^ (9 - j))) ∧ wk.grownBy w' none) 9
        ⟨0, 100000000, vo, by omega, rfl, by omega, fun _ => rfl, by simp [ov, *], by simp [ov, *], by simp [ov, *], by simp [ov, *], by rw [Nat.div_eq_of_lt (by simpa using hg9)]; simpa using HOB.out, HG.out⟩ ?_
      clear s3 s9 s8 σ HOB HG
      rintro k2 σ wj ⟨j, d, vo, hj9, hk2, hd9, hd, s3, s9, s10, s8, hob, hg⟩ RJ KJ HRJ hKJ
      have HK2 := Lib.hid hk2
      have HOB := Lib.hid hob
      have HG := Lib.hid hg
      clear hk2 hob hg
      by_cases hje : j = 9
      · subst hje
        have := hd9 rfl
        subst this
        clear hd9 hd
        ((repeat (go_wp2_with fail; first | (refine cdY ?_ ?_; focus (simp [ov, *]; done)) | (refine cdN ?_ ?_; focus (simp [ov, *]; done)))); go_wp2_with fail)
        refine gotk HRI i' (by have := HKI.out; omega) ⟨i', vo, rfl, by omega, by simp [ov, *], by simp [over_cons, over_nil], by simp [ov, *], ?_, HG.out⟩
        rw [HVN.out]
        have := HOB.out
        simpa using this
      · have hj8 : j < 9 := by omega
        have hdd := hd hj8
        have hdpos : 0 < d := by rw [hdd]; exact Nat.pow_pos (by omega)
        have hdle : d ≤ 100000000 := by rw [hdd]; exact Nat.pow_le_pow_right (by omega) (by omega : 8 - j ≤ 8)
        have hstep : V * 10 ^ (j + 1) + g / 10 ^ (9 - (j + 1)) = 10 * (V * 10 ^ j + g / 10 ^ (9 - j)) + g / d % 10 := by
          have h1 : g / 10 ^ (9 - j) = g / d / 10 := by rw [hdd, Nat.div_div_eq_div_mul, ← Nat.pow_succ]; congr 2; omega
          rw [h1, show 9 - (j + 1) = 8 - j by omega, ← hdd, Nat.pow_succ, Nat.mul_add]
          have h2 : V * (10 ^ j * 10) = 10 * (V * 10 ^ j) := by rw [← Nat.mul_assoc, Nat.mul_comm _ 10]
          omega
        have hnext : (j + 1 = 9 → d / 10 = 0) ∧ (j + 1 < 9 → d / 10 = 10 ^ (8 - (j + 1))) := by
          refine ⟨fun h => ?_, fun h => ?_⟩
          · have : j = 8 := by omega
            subst this
            rw [hdd]
          · rw [hdd, show 8 - j = (8 - (j + 1)) + 1 by omega, Nat.pow_succ, Nat.mul_div_cancel _ (by omega)]
        have hle : V * 10 ^ (j + 1) + g / 10 ^ (9 - (j + 1)) ≤ V * 1000000000 + g := by
          have h1 : V * 10 ^ (j + 1) ≤ V * 10 ^ 9 := Nat.mul_le_mul_left _ (Nat.pow_le_pow_right (by omega) (by omega))
          have h2 := Nat.div_le_self g (10 ^ (9 - (j + 1)))
          have : (10 : Nat) ^ 9 = 1000000000 := by decide
          omega
        have HNX := Lib.hid hnext
        have hds := decS_step (V * 10 ^ j + g / 10 ^ (9 - j)) (g / d % 10) (by omega)
        rw [← hstep] at hds
        have hl1 := HMO.out _ hle
        have hl2 := HMO.out (V * 10 ^ j + g / 10 ^ (9 - j)) (by omega)
        obtain ⟨U, hU⟩ : ∃ U, V * 10 ^ j + g / 10 ^ (9 - j) = U := ⟨_, rfl⟩
        rw [hU] at HOB hds hl2
        rw [hds] at hl1
        have HDS := Lib.hid hds
        have hgdl : g / d < 1000000000 := Nat.lt_of_le_of_lt (Nat.div_le_self _ _) hg9
        have hq : ∀ [Inhabited Nat], wrap64 ((g : Int) / (d : Int)) = ((g / d : Nat) : Int) := by intro _; rw [← Int.natCast_ediv]; exact wrap64I _ (by omega)
        have hqr : ∀ [Inhabited Nat], ((g / d : Nat) : Int).tmod 10 = ((g / d % 10 : Nat) : Int) := by intro _; rfl
        have hdne : ((d : Int) == 0) = false := by rw [beq_eq_false_iff_ne]; omega
        have hd0' : (0 : Int) < (d : Int) := by omega
        have hcell := ((HRG.out.grown HG.out).at (by intro h; rw [h] at hgd2; simp at hgd2))
        obtain ⟨g', hg', hz1, hz2, hz3, hcells⟩ := hcell
        clear hz1 hz2 hz3
        cases hg'
        have hc := hcells i' g hgd2
        unfold encI at hc
        clear hcells hd9 hd hdd hstep hnext hle hds hU
        obtain ⟨qq, hqq⟩ : ∃ q, g / d = q := ⟨_, rfl⟩
        rw [hqq] at HDS hl1 hqr hq hgdl
        obtain ⟨c, hcd⟩ : ∃ c, qq % 10 = c := ⟨_, rfl⟩
        clear hqq
        have hc9 : c ≤ 9 := by omega
        rw [hcd] at HDS hl1 hqr
        have hw : ∀ [Inhabited Nat], wrap64 (48 + (c : Int)) % 256 = 48 + (c : Int) := by intro _; rw [show (48 : Int) + (c : Int) = ((48 + c : Nat) : Int) by omega, wrap64I _ (by omega)]; omega
        obtain ⟨go, co, rfl, hgo1, hgo2, hco1, hco2⟩ := HOB.out.block
        obtain ⟨D, hD⟩ : ∃ D, (decS U).length = D := ⟨_, rfl⟩
        simp only [hD] at s8 HOB hco1
        rw [hD] at hl2
        clear hcd
        by_cases hz : U = 0 ∧ c = 0
        · obtain ⟨rfl, rfl⟩ := hz
          rw [decS_zero] at hD
          have hD0 : D = 0 := by simpa using hD.symm
          subst hD0
          clear hD
          ((repeat (go_wp2_with fail; first | (refine cdY ?_ ?_; focus (simp [ov, *]; done)) | (refine cdN ?_ ?_; focus (simp [ov, *]; done)))); go_wp2_with fail)
          refine gotk HRJ (9 - (j + 1)) (by have := HK2.out; omega) ⟨j + 1, d / 10, .slice (some ⟨go, 0, none⟩) 0 co, by omega, rfl, HNX.out.1, HNX.out.2, by simp [ov, *], by simp [ov, *], by simp [over_cons, over_nil], by simp [ov, *], ?_, HG.out⟩
          rw [HDS.out, if_pos (by simp)]
          have := HOB.out
          rwa [decS_zero] at this
        · rw [if_neg hz] at HDS hl1
          rw [List.length_append] at hl1
          have hpick : (decide ((0 : Int) < (D : Int)) = true) ∨ (D = 0 ∧ c ≠ 0) := by
            by_cases hU0 : U = 0
            · right
              subst hU0
              rw [decS_zero] at hD
              exact ⟨by simpa using hD.symm, fun h => hz ⟨rfl, h⟩⟩
            · left
              have : D ≠ 0 := by rw [← hD]; exact fun h => decS_ne hU0 (List.length_eq_zero_iff.1 h)
              simp; omega
          have hD' := hD
          clear hD hz
          have HC8 := Lib.hid (show UInt8.ofNat ((48 : Int) + (c : Int)).toNat = UInt8.ofNat (48 + c) from by congr 1)
          have hl3 : D ≤ 2000000 := hl2
          have huc : UInt8.ofNat (48 + c) = UInt8.ofNat (48 + c) := rfl
          have hlc : c < 10 := by omega
          have hfin : ∀ (vo2 : Value) (w2 : World), OwnB Bk w2 vo2 (decS U ++ [UInt8.ofNat (48 + c)]) → OwnB Bk w2 vo2 (decS (V * 10 ^ (j + 1) + g / 10 ^ (9 - (j + 1)))) := fun vo2 w2 h => by rw [HDS.out]; exact h
          have HFIN := Lib.hid hfin
          clear hfin huc hl1
          rcases hpick with hp | ⟨rfl, hp⟩
          · have hp1 : (0 : Int) < (D : Int) := of_decide_eq_true hp
            have hp2 : 0 < D := by omega
            clear hp
            ((repeat (go_wp2_with (first | (at_builtin; refine wpList_appF rfl _ _ _ _ rfl (by decide) (by decide) byteTy (HOB.out.alloc _) (by simp [ov, *]) _ (by simp [ov, *]) [UInt8.ofNat ((48 : Int) + (c : Int)).toNat] (src_one_at Tryz.underlying51 ((48 : Int) + (c : Int)) (by omega) (by omega) _) (by rw [hD']; simp; omega) ?_; intro v2 w2 ho1 hs1)); first | (refine cdY ?_ ?_; focus (simp [ov, *]; done)) | (refine cdN ?_ ?_; focus (simp [ov, *]; done)))); go_wp2_with (first | (at_builtin; refine wpList_appF rfl _ _ _ _ rfl (by decide) (by decide) byteTy (HOB.out.alloc _) (by simp [ov, *]) _ (by simp [ov, *]) [UInt8.ofNat ((48 : Int) + (c : Int)).toNat] (src_one_at Tryz.underlying51 ((48 : Int) + (c : Int)) (by omega) (by omega) _) (by rw [hD']; simp; omega) ?_; intro v2 w2 ho1 hs1)))
            refine gotk HRJ (9 - (j + 1)) (by have := HK2.out; omega) ⟨j + 1, d / 10, v2, by omega, rfl, HNX.out.1, HNX.out.2, by simp [ov, *], by simp [ov, *], by simp [over_cons, over_nil], by simp [ov, *], HFIN.out _ _ (by rw [← HC8.out]; exact ho1), ?_⟩
            refine grown_trans (grown_none_trans HG.out (World.grownBy_alloc wj _ none)) hs1.1 (fun j e hj => ?_)
            have := HOB.out.2 j e
            omega
          · have hp' : (((48 : Int) + (c : Int)) != 48) = true := by rw [bne_iff_ne]; omega
            ((repeat (go_wp2_with (first | (at_builtin; refine wpList_appF rfl _ _ _ _ rfl (by decide) (by decide) byteTy (HOB.out.alloc _) (by simp [ov, *]) _ (by simp [ov, *]) [UInt8.ofNat ((48 : Int) + (c : Int)).toNat] (src_one_at Tryz.underlying51 ((48 : Int) + (c : Int)) (by omega) (by omega) _) (by rw [hD']; simp) ?_; intro v2 w2 ho1 hs1)); first | (refine cdY ?_ ?_; focus (simp [ov, *]; done)) | (refine cdN ?_ ?_; focus (simp [ov, *]; done)))); go_wp2_with (first | (at_builtin; refine wpList_appF rfl _ _ _ _ rfl (by decide) (by decide) byteTy (HOB.out.alloc _) (by simp [ov, *]) _ (by simp [ov, *]) [UInt8.ofNat ((48 : Int) + (c : Int)).toNat] (src_one_at Tryz.underlying51 ((48 : Int) + (c : Int)) (by omega) (by omega) _) (by rw [hD']; simp) ?_; intro v2 w2 ho1 hs1)))
            refine gotk HRJ (9 - (j + 1)) (by have := HK2.out; omega) ⟨j + 1, d / 10, v2, by omega, rfl, HNX.out.1, HNX.out.2, by simp [ov, *], by simp [ov, *], by simp [over_cons, over_nil], by simp [ov, *], HFIN.out _ _ (by rw [← HC8.out]; exact ho1), ?_⟩
            refine grown_trans (grown_none_trans HG.out (World.grownBy_alloc wj _ none)) hs1.1 (fun j e hj => ?_)
            have := HOB.out.2 j e
            omega
  · have hN0 : N ≠ 0 := by
      intro h
      have h1 := HN.out
      rw [h] at h1
      exact natL_ne h0 (List.length_eq_zero_iff.1 h1)
    have hN1 : 0 < N := by omega
    have hN2 : (0 : Int) < (N : Int) := by omega
    have hgn2 := HGL.out gs X HV.out h0
    ((repeat (go_wp2_with fail; first | (refine cdY ?_ ?_; focus (simp [ov, *]; done)) | (refine cdN ?_ ?_; focus (simp [ov, *]; done)))); go_wp2_with fail)
    refine loop_F (fun k2 s' w' => ∃ (k : Nat) (q : List Nat) (rest : Nat), k2 = k ∧ k ≤ N ∧ q.length + k = N ∧ Limbs q ∧ rest < 1000000000 ∧ lval q * 1000000000 + rest = lval ((natL X).drop k) ∧ s' 3 = vg ∧ s' 4 = .slice (some ⟨gx, 0, none⟩) N cx ∧ s' 5 = .int .i64 (rest : Int) ∧ s' 6 = .int .i64 ((k : Int) - 1) ∧ OwnI B0 w' vg gs ∧ OwnI B0 w' (.slice (some ⟨gx, 0, none⟩) N cx) ((natL X).take k ++ q) ∧ w.grownBy w' none) N
      ⟨N, [], 0, rfl, Nat.le_refl _, by simp, Limbs.nil, by omega, by rw [List.drop_of_length_le (by rw [HN.out]; exact Nat.le_refl _)]; rfl, by simp [ov, *], by simp [ov, *], by simp [ov, *], by simp [ov, *], HOG.out, by rw [List.append_nil, List.take_of_length_le (by rw [HN.out]; exact Nat.le_refl _)]; exact HOX.out, HG.out⟩ ?_
    clear s3 s4 σ
    rintro k2 σ wj ⟨k, q, rest, hk2, hkN, hql, hqL, hrl, hqv, s3, s4, s5, s6, hog2, hox2, hg2⟩ RJ KJ HRJ hKJ
    have HK2 := Lib.hid hk2
    have HQL := Lib.hid hqL
    have HQN := Lib.hid hql
    have HQV := Lib.hid hqv
    have HOG2 := Lib.hid hog2
    have HOX2 := Lib.hid hox2
    have HG2 := Lib.hid hg2
    clear hk2 hqL hqv hog2 hox2 hg2 hql
    by_cases hk0 : k = 0
    · subst hk0
      have hqX : lval q * 1000000000 + rest = X := by have := HQV.out; rwa [List.drop_zero, lval_natL] at this
      have hoq : OwnI B0 wj (.slice (some ⟨gx, 0, none⟩) N cx) q := by have := HOX2.out; rwa [List.take_zero, List.nil_append] at this
      have htr : q.take (trimK q q.length) = natL (lval q) := by rw [trim_natL _ HQL.out _ (Nat.le_refl _), List.take_length]
      have HTR := Lib.hid (trimS_any _ q wj (RdI.of_own hoq) (by have := HQN.out; omega))
      rw [htr] at HTR
      have HQX := Lib.hid hqX
      clear hqX hoq htr
      ((repeat (go_wp2_with fail; first | (refine cdY ?_ ?_; focus (simp [ov, *]; done)) | (refine cdN ?_ ?_; focus (simp [ov, *]; done)))); go_wp2_with fail)
      refine HTR.out.mono ?_
      rintro e w5 ⟨v5, rfl, ho5, hg5⟩
      have HOG5 := Lib.hid (HOG2.out.grown0 hg5)
      have hne5 : v5.ownBlock ≠ vg.ownBlock := by
        intro e
        obtain ⟨g5, c5, rfl, h1, h2, _⟩ := ho5.block
        obtain ⟨g6, c6, rfl, h3, h4, _⟩ := HOG2.out.block
        simp [Value.ownBlock] at e
        omega
      have ho5' : OwnI B0 w5 v5 (natL (lval q)) := ⟨ho5.1, fun k hk => by have h1 := ho5.2 k hk; have h2 := HOG2.out.lt; omega⟩
      have HO5 := Lib.hid ho5'
      have HNE5 := Lib.hid hne5
      have HG5 := Lib.hid (grown_none_tr HG2.out hg5)
      clear ho5 ho5' hne5 hg5
      ((repeat (go_wp2_with (first | (at_builtin; refine wpList_appI rfl _ _ _ _ rfl (by decide) (by decide) intTy (HOG5.out.alloc _) (by simp [ov, *]) _ (by simp [ov, *]) [rest] (src_int Tryz.underlying43 rest _) (by simp; omega) ?_; intro v6 w6 ho6 hs6)); first | (refine cond_yes ?hc (by decide) ?_; (case hc => (simp [ov, *]; done))) | (refine cond_no ?hc (by decide) ?_; (case hc => (simp [ov, *]; done))))); go_wp2_with (first | (at_builtin; refine wpList_appI rfl _ _ _ _ rfl (by decide) (by decide) intTy (HOG5.out.alloc _) (by simp [ov, *]) _ (by simp [ov, *]) [rest] (src_int Tryz.underlying43 rest _) (by simp; omega) ?_; intro v6 w6 ho6 hs6)))
      have hXq : lval q < X := by have := HQX.out; omega
      refine gotk HRK (lval q) (by have := HKK.out; omega) ⟨lval q, gs ++ [rest], v6, v5, rfl, by omega, ?_, ?_, by rw [List.length_append]; simp; omega, by simp [ov, *], by simp [ov, *], ho6, ?_, ?_, ?_⟩
      · rw [gval_append, List.length_append, List.length_singleton, Nat.pow_succ]
        have h1 := HV.out
        have h2 := HQX.out
        rw [← h2, Nat.mul_add] at h1
        have h3 : 1000000000 ^ gs.length * 1000000000 * lval q = 1000000000 ^ gs.length * (lval q * 1000000000) := by rw [Nat.mul_assoc, Nat.mul_comm 1000000000]
        omega
      · intro x hx
        rcases List.mem_append.1 hx with h | h
        · exact HGS.out x h
        · rw [List.mem_singleton.1 h]; exact hrl
      · exact (HO5.out.alloc _).grown hs6.1 HNE5.out
      · intro e
        obtain ⟨g5, c5, hv5, h1, h2, _⟩ := HO5.out.block
        rw [hv5] at e
        have h3 := hs6.2 g5 e.symm (by show g5 < (w5.heap.push _).size; simp; omega)
        apply HNE5.out
        rw [hv5, h3]
        rfl
      · refine grown_ownI (T := B0) (by have := HB0.out; omega) (grown_none_tr HG5.out (World.grownBy_alloc w5 _ none)) (HOG5.out.alloc _) hs6
    · obtain ⟨j, rfl⟩ : ∃ j, k = j + 1 := ⟨k - 1, by omega⟩
      have e1 : ((j + 1 : Nat) : Int) - 1 = (j : Int) := by omega
      rw [e1] at s6
      have hjN : (j : Int) < (N : Int) := by omega
      have hjN2 : j < N := by omega
      have hj0 : (0 : Int) ≤ (j : Int) := by omega
      have hjl : j < (natL X).length := by rw [HN.out]; exact hjN2
      obtain ⟨x, hx⟩ : ∃ x, (natL X).getD j 0 = x := ⟨_, rfl⟩
      have hxl : x < 1073741824 := by rw [← hx]; exact (natL_limbs X).getD j
      have hc := HOX2.out.cell j x (by
        rw [List.getElem?_append_left (by rw [List.length_take]; omega), List.getElem?_take_of_lt (by omega), ← hx, List.getD_eq_getElem?_getD, List.getElem?_eq_getElem hjl]
        rfl)
      unfold encI at hc
      have hfz := HOX2.out.frozen j
      have HQ2 := Lib.hid (div9_go (natL X) q j rest hjl HQV.out)
      have HSM := Lib.hid (set_mid (natL X) q j ((rest * 1073741824 + x) / 1000000000) hjl)
      rw [hx] at HQ2
      have hyl := div9_limb hxl hrl
      have HLY := Lib.hid hyl
      have HLAY := Lib.hid (HOX2.out.laid j ((rest * 1073741824 + x) / 1000000000) (by rw [List.length_append, List.length_take]; omega))
      have HOTH := Lib.hid (HOG2.out.otherc (a := ⟨gx, j, none⟩) (by intro e; exact HNE2.out e.symm) (encI ((rest * 1073741824 + x) / 1000000000)))
      unfold encI at HLAY HOTH
      clear hx hjl hyl e1 hk0
      ((repeat (go_wp2_with fail; first | (refine cdY ?_ ?_; focus (simp [ov, *]; done)) | (refine cdN ?_ ?_; focus (simp [ov, *]; done)))); go_wp2_with fail)
      refine gotk HRJ j (by have := HK2.out; omega) ⟨j, (rest * 1073741824 + x) / 1000000000 :: q, (rest * 1073741824 + x) % 1000000000, rfl, by omega, by have := HQN.out; rw [List.length_cons]; omega, ?_, Nat.mod_lt _ (by omega), HQ2.out, by simp [ov, *], by simp [ov, *], by simp [over_cons, over_nil], by simp [over_cons, over_nil], ?_, ?_, ?_⟩
      · intro z hz
        rcases List.mem_cons.1 hz with h | h
        · rw [h]; exact HLY.out
        · exact HQL.out z h
      · exact HOTH.out
      · have := HLAY.out
        rw [HSM.out] at this
        exact this
      · exact grown_setN HG2.out _ (by have := HB0.out; show w.heap.size ≤ gx; omega)
end Go.Proofs.YticlnihjhcepkaaGreatDoor

/-
  Walk of spec/format.go: exponentText.
-/
namespace Go.Proofs.YticlnihjhcepkaaGreatDoor
open Go.RowKit
set_option linter.unusedSimpArgs false
set_option linter.unusedVariables false

theorem own_one (w : World) (c : UInt8) : OwnB w.heap.size (w.alloc (Obj.cells #[.int .u8 (c.toNat : Int)] 5)) (.slice (some ⟨w.heap.size, 0, none⟩) 1 1) [c] := by
  refine ⟨⟨w.heap.size, [], rfl, Row.new w [encB c] _, by simp [maxLen]⟩, fun k hk => ?_⟩
  simp [Value.ownBlock] at hk
  omega
theorem decT_len (n : Nat) (h : n ≤ 100000) : 1 ≤ (decT n).length ∧ (decT n).length ≤ 6 := by
  unfold decT
  split
  · simp
  · rename_i h0
    have h1 := decS_len n 6 (by omega)
    have h2 : (decS n).length ≠ 0 := fun h => decS_ne h0 (List.length_eq_zero_iff.1 h)
    omega

set_option maxRecDepth 10000 in
set_option maxHeartbeats 4000000 in
theorem exponentText_any (letter : UInt8) (e : Int) (short : Bool) (w : World) (h1 : -100000 ≤ e) (h2 : e ≤ 100000) :
    Calls Tryz.prog 64 #[.int .u8 (letter.toNat : Int), .int .i64 e, .bool short] w fun r w' => r = .returned (.string ⟨(expT letter e short).toArray⟩) ∧ w.grownBy w' none := by
  obtain ⟨sg, hsg⟩ : ∃ sg : UInt8, (if e < 0 then (45 : UInt8) else 43) = sg := ⟨_, rfl⟩
  obtain ⟨n, hn⟩ : ∃ n, e.natAbs = n := ⟨_, rfl⟩
  have hres : expT letter e short = letter :: sg :: (if (decT n).length < 2 ∧ short = false then 48 :: decT n else decT n) := by unfold expT; rw [hsg, hn]
  have hn1 : n ≤ 100000 := by omega
  have HRES := Lib.hid hres
  have HSG := Lib.hid hsg
  have HO := Lib.hid (fun W => natOf_any n W (by omega))
  have hnl : (natL n).length ≤ 90000 := Nat.le_trans (natL_len_le (k := 1) (by omega)) (by omega)
  have HT := Lib.hid (fun v W h => natText_any v n W h hnl)
  have HCV := Lib.hid (fun W => str_of_own (own_one W letter))
  have HLN := Lib.hid (decT_len n hn1)
  clear hres hsg hnl
  refine calls_F Tryz.func64 rfl (by rw [Tryz.ntmps64]; simp) ?_
  intro σ hσ
  rw [Tryz.ntmps64]
  have s0 : σ 0 = .int .u8 (letter.toNat : Int) := hσ 0 (by simp)
  have s1 : σ 1 = .int .i64 e := hσ 1 (by simp)
  have s2 : σ 2 = .bool short := hσ 2 (by simp)
  clear hσ
  go_wp2_with fail
  refine cut_F (fun s' w' => s' 0 = .int .u8 (letter.toNat : Int) ∧ s' 1 = .int .i64 (n : Int) ∧ s' 2 = .bool short ∧ s' 7 = .string ⟨#[sg]⟩ ∧ w = w') ?_ ?_
  · intro R' K' HR hK'
    by_cases hneg : e < 0
    · have hs : sg = 45 := by have := HSG.out; rw [if_pos hneg] at this; exact this.symm
      subst hs
      have he : e = -(n : Int) := by omega
      subst he
      clear HSG h1 h2 hn
      have hd : decide (-(n : Int) < 0) = true := by simp; omega
      have hd2 : 0 < n := by omega
      clear hneg
      ((repeat (go_wp2_with fail; first | (refine cdY ?_ ?_; focus (simp [ov, *]; done)) | (refine cdN ?_ ?_; focus (simp [ov, *]; done)))); go_wp2_with fail)
      exact got HR (by simp [ov, *])
    · have hs : sg = 43 := by have := HSG.out; rw [if_neg hneg] at this; exact this.symm
      subst hs
      have he : e = (n : Int) := by omega
      subst he
      clear HSG h1 h2 hn hneg
      ((repeat (go_wp2_with fail; first | (refine cdY ?_ ?_; focus (simp [ov, *]; done)) | (refine cdN ?_ ?_; focus (simp [ov, *]; done)))); go_wp2_with fail)
      exact got HR (by simp [ov, *])
  clear s0 s1 s2 σ HSG h1 h2 hn
  rintro σ w' ⟨s0, s1, s2, s7, rfl⟩
  go_wp2_with fail
  refine (HO.out _).mono ?_
  rintro r w1 ⟨v1, rfl, hv1, hg1⟩
  have HV1 := Lib.hid hv1
  have HG1 := Lib.hid hg1
  clear hv1 hg1
  go_wp2_with fail
  refine (HT.out _ _ HV1.out).mono ?_
  rintro r w2 ⟨rfl, hg2⟩
  have HG2 := Lib.hid (grown_none_tr HG1.out hg2)
  clear hg2
  generalize hD : decT n = ds at *
  have hsz : (⟨ds.toArray⟩ : ByteArray).size = ds.length := by simp [ByteArray.size]
  obtain ⟨D, hDl⟩ : ∃ D, ds.length = D := ⟨_, rfl⟩
  rw [hDl] at hsz HLN HRES
  have hl1 := HLN.out.1
  have hl2 := HLN.out.2
  have hcv := HCV.out w2
  have c1 : (⟨#[48]⟩ : ByteArray) ++ ⟨ds.toArray⟩ = ⟨(48 :: ds).toArray⟩ := cat_mk [48] ds
  have c2 : (⟨#[letter]⟩ : ByteArray) ++ ⟨#[sg]⟩ = ⟨#[letter, sg]⟩ := cat_mk [letter] [sg]
  have c3 : (⟨#[letter, sg]⟩ : ByteArray) ++ ⟨ds.toArray⟩ = ⟨(letter :: sg :: ds).toArray⟩ := cat_mk [letter, sg] ds
  have c4 : (⟨#[letter, sg]⟩ : ByteArray) ++ ⟨(48 :: ds).toArray⟩ = ⟨(letter :: sg :: 48 :: ds).toArray⟩ := cat_mk [letter, sg] (48 :: ds)
  have hsz2 : (⟨(48 :: ds).toArray⟩ : ByteArray).size = D + 1 := by rw [← hDl]; simp [ByteArray.size]
  clear hDl hD HT HO
  by_cases hD2 : D < 2
  · have q1 : (D : Int) < 2 := by omega
    cases short
    · rw [if_pos ⟨hD2, rfl⟩] at HRES
      clear c3
      ((repeat (go_wp2_with fail; first | (refine cdY ?_ ?_; focus (simp [ov, *]; done)) | (refine cdN ?_ ?_; focus (simp [ov, *]; done)))); go_wp2_with fail)
      exact ret_F (.string ⟨(letter :: sg :: 48 :: ds).toArray⟩) rfl (by decide) (by simp [ov, *]) ⟨by rw [HRES.out], grown_none_tr HG2.out (World.grownBy_alloc w2 _ none)⟩
    · rw [if_neg (by simp)] at HRES
      clear c1 c4
      ((repeat (go_wp2_with fail; first | (refine cdY ?_ ?_; focus (simp [ov, *]; done)) | (refine cdN ?_ ?_; focus (simp [ov, *]; done)))); go_wp2_with fail)
      exact ret_F (.string ⟨(letter :: sg :: ds).toArray⟩) rfl (by decide) (by simp [ov, *]) ⟨by rw [HRES.out], grown_none_tr HG2.out (World.grownBy_alloc w2 _ none)⟩
  · have q1 : decide ((D : Int) < 2) = false := by simp; omega
    have q2 : decide (D < 2) = false := by simp; omega
    rw [if_neg (by omega)] at HRES
    clear c1 c4
    ((repeat (go_wp2_with fail; first | (refine cdY ?_ ?_; focus (simp [ov, *]; done)) | (refine cdN ?_ ?_; focus (simp [ov, *]; done)))); go_wp2_with fail)
    exact ret_F (.string ⟨(letter :: sg :: ds).toArray⟩) rfl (by decide) (by simp [ov, *]) ⟨by rw [HRES.out], grown_none_tr HG2.out (World.grownBy_alloc w2 _ none)⟩
end Go.Proofs.YticlnihjhcepkaaGreatDoor
