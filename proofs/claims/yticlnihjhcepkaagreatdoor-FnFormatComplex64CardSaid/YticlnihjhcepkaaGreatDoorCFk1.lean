/-
  Format of the reference at every format, precision and number is what ftoa writes, but for ties of the shortest digits.
-/
import Derived.Test.YticlnihjhcepkaaGreatDoorCFk0
import Derived.Test.YticlnihjhcepkaaGreatDoorCSr4
namespace Go.Proofs.YticlnihjhcepkaaGreatDoor
open Go.RowKit
set_option linter.unusedSimpArgs false
set_option linter.unusedVariables false
attribute [local go_sem] undef

def isKnown (f : Int) : Prop := f = 98 ∨ f = 101 ∨ f = 69 ∨ f = 102 ∨ f = 103 ∨ f = 71 ∨ f = 120 ∨ f = 88

set_option maxRecDepth 100000 in
set_option maxHeartbeats 8000000 in
/-- ShortTie at what is not finite. -/
theorem shortTieK_gen (size : Int) (n q sg : Nat) (kd : Int) (w : World) (hkd : kd = 1 ∨ kd = 2)
    (hS : ∀ W, Calls Tryz.prog 28 #[.int .i64 size] W fun e w' => e = .returned (.int .u64 (sg : Int)) ∧ W = w')
    (hand : bits .andNot .u64 (n : Int) (sg : Int) = (q : Int))
    (hV : ∀ W, Calls Tryz.prog 24 #[.int .i64 size, .int .u64 (q : Int)] W fun x w' => x = .returned (.tuple #[.agg #[.bool false, .slice none 0 0, .slice none 0 0], .bool false]) ∧ W.grownBy w' none) :
    Calls Tryz.prog 11 #[.int .i64 size, .int .u64 (n : Int)] w fun e w' => e = .returned (.bool false) ∧ w.grownBy w' none := by
  have HS := Lib.hid hS
  have HV := Lib.hid hV
  clear hV hS
  refine calls_F Tryz.func11 rfl (by rw [Tryz.ntmps11]; simp) ?_
  intro σ hσ
  rw [Tryz.ntmps11]
  have s0 : σ 0 = .int .i64 size := hσ 0 (by simp)
  have s1 : σ 1 = .int .u64 (n : Int) := hσ 1 (by simp)
  clear hσ
  ((repeat (go_wp2_with fail; first | (refine cdY ?_ ?_; focus (simp [ov, *]; done)) | (refine cdN ?_ ?_; focus (simp [ov, *]; done)))); go_wp2_with fail)
  refine (HS.out _).mono ?_
  rintro e w1 ⟨rfl, rfl⟩
  ((repeat (go_wp2_with fail; first | (refine cdY ?_ ?_; focus (simp [ov, *]; done)) | (refine cdN ?_ ?_; focus (simp [ov, *]; done)))); go_wp2_with fail)
  refine (HV.out _).mono ?_
  rintro e w2 ⟨rfl, hg2⟩
  have HG2 := Lib.hid (fun o => grown_none_tr hg2 (World.grownBy_alloc w2 o none))
  clear hg2
  ((repeat (go_wp2_with fail; first | (refine cdY ?_ ?_; focus (simp [ov, *]; done)) | (refine cdN ?_ ?_; focus (simp [ov, *]; done)))); go_wp2_with fail)
  exact ret_F (.bool false) rfl (by decide) (by simp [ov, *]) ⟨rfl, HG2.out _⟩

set_option maxRecDepth 100000 in
set_option maxHeartbeats 8000000 in
theorem valueOfK_any (size : Int) (q : Nat) (kd : Int) (w : World) (hkd : kd = 1 ∨ kd = 2)
    (hK : ∀ W, Calls Tryz.prog 23 #[.int .i64 size, .int .u64 (q : Int)] W fun e w' => e = .returned (.int .i64 kd) ∧ W = w') :
    Calls Tryz.prog 24 #[.int .i64 size, .int .u64 (q : Int)] w fun x w' => x = .returned (.tuple #[.agg #[.bool false, .slice none 0 0, .slice none 0 0], .bool false]) ∧ w.grownBy w' none := by
  have HK := Lib.hid hK
  clear hK
  have hr0 := Row.new w [Value.bool false, .slice none 0 0, .slice none 0 0] 45
  have hg0 := World.grownBy_alloc w (.cells #[Value.bool false, .slice none 0 0, .slice none 0 0] 45) none
  obtain ⟨B, hB⟩ : ∃ B, w.heap.size = B := ⟨_, rfl⟩
  have hr1 : Row (w.alloc (.cells #[Value.bool false, .slice none 0 0, .slice none 0 0] 45)) B [Value.bool false, .slice none 0 0, .slice none 0 0] := by rw [← hB]; exact hr0
  obtain ⟨w1, hw1⟩ : ∃ w1, w.alloc (.cells #[Value.bool false, .slice none 0 0, .slice none 0 0] 45) = w1 := ⟨_, rfl⟩
  rw [hw1] at hr1 hg0
  have HR := Lib.hid hr1
  have HG := Lib.hid hg0
  have k0 := hr1.cell 0
  have k1 := hr1.cell 1
  have k2 := hr1.cell 2
  have f0 := hr1.frozen 0
  have f1 := hr1.frozen 1
  have f2 := hr1.frozen 2
  simp only [List.getElem?_cons_zero, List.getElem?_cons_succ] at k0 k1 k2
  have HB := Lib.hid hB
  clear hr0 hr1 hg0
  go_enter Tryz.func24, Tryz.ntmps24
  go_wp2_with fail
  refine (HK.out _).mono ?_
  rintro r w2 ⟨rfl, rfl⟩
  clear hw1 hB
  rcases hkd with rfl | rfl
  all_goals
    go_wp2_with fail
    have hrow3 := ((HR.out.setCell 0 (.bool false)).setCell 1 (.slice none 0 0)).setCell 2 (.slice none 0 0)
    obtain ⟨ty, hrow⟩ := hrow3
    refine bodyPost_ret (v := .tuple #[.agg #[.bool false, .slice none 0 0, .slice none 0 0], .bool false]) ?_ rfl ⟨rfl, ?_⟩
    · rw [results_cell_tmp (p := 4) (u := 5) (ty := 45) rfl]
      have hl := run_loadVar_row (P := Tryz.prog) _ B ty 45 _ (0, 0) _ hrow Tryz.underlying45 rfl (by kernel_rfl)
      simp [asAddr, hl]
    · have hBw := HB.out
      exact grown_setN (grown_setN (grown_setN HG.out _ (by show w.heap.size ≤ B; omega)) _ (by show w.heap.size ≤ B; omega)) _ (by show w.heap.size ≤ B; omega)


theorem ftoa64L_b (b : Nat) (prec : Int) (hb : b < 18446744073709551616) (hfin : b % 9223372036854775808 < 9218868437227405312) : ftoa64L b 98 prec = eSign (decide (9223372036854775808 ≤ b)) ++ (decT (m64 b) ++ expT 112 (e64 b) true) := by
  unfold ftoa64L ftoaL
  rw [if_neg (fin64_E b hfin), if_pos rfl, neg64_is b hb, fmtB_text]
  rfl

theorem formatAll64 (n : Nat) (hn : n < 18446744073709551616) (f prec : Int) (hf : isKnown f) (hp1 : -1 ≤ prec) (hp2 : prec ≤ 5000) : ∃ t : Bool,
    (∀ W, Calls Tryz.prog 11 #[.int .i64 64, .int .u64 (n : Int)] W fun e w' => e = .returned (.bool t) ∧ W.grownBy w' none) ∧
    (prec = -1 → t = false → ∀ W, Calls Tryz.prog 32 #[.int .i64 64, .int .u64 (n : Int), .int .u8 f, .int .i64 prec] W fun e w' => e = .returned (.string ⟨(ftoa64L n f prec).toArray⟩) ∧ W.grownBy w' none) ∧
    (prec ≠ -1 → ∀ W, Calls Tryz.prog 32 #[.int .i64 64, .int .u64 (n : Int), .int .u8 f, .int .i64 prec] W fun e w' => e = .returned (.string ⟨(ftoa64L n f prec).toArray⟩) ∧ W.grownBy w' none) := by
  have hI := fun W => isNeg64_any n W hn
  have hK := fun W => kind64_any n W hn
  by_cases hfin : n % 9223372036854775808 < 9218868437227405312
  · obtain ⟨t, tx, hST, hFM, hEQ⟩ := short64_any n hn hfin
    have hm := m64_lt n
    have hee := e64_bd n hfin
    have hm53 : m64 n < 2 ^ 53 := Nat.lt_of_lt_of_le hm (by decide)
    have hk : kindB 9218868437227405312 9223372036854775808 n = 0 := kindB_0 rfl hfin
    rw [hk] at hK
    have hV := fun W => valueOf64_any n (m64 n) (e64 n) W hn hk (m64_is n) (e64_is n)
    have hP := fun W => parts64_any n W hn
    simp only [m64_is, e64_is] at hP
    have hbx : f = 98 ∨ f = 120 ∨ f = 88 → ∀ W, Calls Tryz.prog 32 #[.int .i64 64, .int .u64 (n : Int), .int .u8 f, .int .i64 prec] W fun e w' => e = .returned (.string ⟨(ftoa64L n f prec).toArray⟩) ∧ W.grownBy w' none := by
      intro hf W
      rcases hf with rfl | hf
      · rw [ftoa64L_b n prec hn hfin]
        refine formatB_any 64 n (decide (9223372036854775808 ≤ n)) _ _ 98 prec (decT (m64 n) ++ expT 112 (e64 n) true) W rfl ?_ hI hK hV (fun W => binary_any 64 n (m64 n) (e64 n) W (by omega) (by omega) (by omega) hP)
        have h1 : (decT (m64 n)).length ≤ 20 := by rw [← decT_dec]; exact decDigits_le _ (by omega)
        have h2 := decT_len (e64 n).natAbs (by omega)
        rw [List.length_append]
        unfold expT
        rw [List.length_cons, List.length_cons]
        split
        · rw [List.length_cons]; omega
        · omega
      · rw [ftoa64L_x n f prec hn hfin hf hp1]
        exact formatX_any 64 n (decide (9223372036854775808 ≤ n)) _ _ f prec (hexadL (f == 88) (m64 n) (e64 n) prec) W hf (Nat.le_trans (hexadL_len _ _ _ _ (by omega) hm53 (by omega) (by omega)) (by omega)) hI hK hV
          (fun W => hexadecimal_any 64 n (m64 n) (e64 n) (f == 88) prec W hm53 (by omega) (by omega) hp1 (by omega) hP)
    refine ⟨t, hST, ?_, ?_⟩
    · intro hp ht W
      by_cases hb : f = 98 ∨ f = 120 ∨ f = 88
      · exact hbx hb W
      · have hfe : isEfg f := by unfold isKnown at hf; unfold isEfg; omega
        subst hp
        rw [hEQ ht f hfe]
        exact hFM f hfe W
    · intro hp W
      by_cases hb : f = 98 ∨ f = 120 ∨ f = 88
      · exact hbx hb W
      · have hfe : isEfg f := by unfold isKnown at hf; unfold isEfg; omega
        obtain ⟨p, rfl⟩ : ∃ p : Nat, prec = (p : Int) := ⟨prec.toNat, by omega⟩
        exact spec64_efg n f p hn hfin hfe (by omega) W
  · have hkd : kindB 9218868437227405312 9223372036854775808 n = 1 ∨ kindB 9218868437227405312 9223372036854775808 n = 2 := by unfold kindB; rw [if_neg hfin]; split <;> omega
    have hq : n % 9223372036854775808 < 18446744073709551616 := by omega
    have hqs : n % 9223372036854775808 % 9223372036854775808 = n % 9223372036854775808 := Nat.mod_mod _ _
    have hkq : kindB 9218868437227405312 9223372036854775808 (n % 9223372036854775808) = kindB 9218868437227405312 9223372036854775808 n := by unfold kindB; rw [hqs]
    have hKq := fun W => kind64_any (n % 9223372036854775808) W hq
    rw [hkq] at hKq
    have hT : ftoa64L n f prec = kindT (kindB 9218868437227405312 9223372036854775808 n) (decide (9223372036854775808 ≤ n)) := by
      have hE : flE 11 52 n = 2 ^ 11 - 1 := by unfold flE; omega
      unfold ftoa64L ftoaL kindT
      rw [if_pos hE, neg64_is n hn]
      by_cases h : n % 9223372036854775808 = 9218868437227405312
      · have h2 : flF 52 n = 0 := by unfold flF; omega
        rw [if_neg (show ¬ (flF 52 n ≠ 0) by rw [h2]; simp), show kindB 9218868437227405312 9223372036854775808 n = 1 by unfold kindB; rw [if_neg hfin, if_pos h], if_neg (show ¬ ((1 : Int) = 2) by decide)]
      · have h2 : flF 52 n ≠ 0 := by unfold flF; omega
        rw [if_pos h2, show kindB 9218868437227405312 9223372036854775808 n = 2 by unfold kindB; rw [if_neg hfin, if_neg h], if_pos rfl]
    have hF : ∀ W, Calls Tryz.prog 32 #[.int .i64 64, .int .u64 (n : Int), .int .u8 f, .int .i64 prec] W fun e w' => e = .returned (.string ⟨(ftoa64L n f prec).toArray⟩) ∧ W.grownBy w' none := by
      intro W
      rw [hT]
      exact formatK_any 64 n _ _ f prec W hkd hI hK
    have hand : bits .andNot .u64 (n : Int) ((9223372036854775808 : Nat) : Int) = ((n % 9223372036854775808 : Nat) : Int) := u64_andNot_top n 63 (by omega) (by omega)
    exact ⟨false, fun W => shortTieK_gen 64 n (n % 9223372036854775808) 9223372036854775808 _ W hkd (fun W => sign64_any W) hand (fun W => valueOfK_any 64 (n % 9223372036854775808) _ W hkd hKq), fun _ _ => hF, fun _ => hF⟩

theorem ftoa32L_b (b : Nat) (prec : Int) (hb : b < 4294967296) (hfin : b % 2147483648 < 2139095040) : ftoa32L b 98 prec = eSign (decide (2147483648 ≤ b)) ++ (decT (m32 b) ++ expT 112 (e32 b) true) := by
  unfold ftoa32L ftoaL
  rw [if_neg (fin32_E b hfin), if_pos rfl, neg32_is b hb, fmtB_text]
  rfl

theorem formatAll32 (n : Nat) (hn : n < 4294967296) (f prec : Int) (hf : isKnown f) (hp1 : -1 ≤ prec) (hp2 : prec ≤ 5000) : ∃ t : Bool,
    (∀ W, Calls Tryz.prog 11 #[.int .i64 32, .int .u64 (n : Int)] W fun e w' => e = .returned (.bool t) ∧ W.grownBy w' none) ∧
    (prec = -1 → t = false → ∀ W, Calls Tryz.prog 32 #[.int .i64 32, .int .u64 (n : Int), .int .u8 f, .int .i64 prec] W fun e w' => e = .returned (.string ⟨(ftoa32L n f prec).toArray⟩) ∧ W.grownBy w' none) ∧
    (prec ≠ -1 → ∀ W, Calls Tryz.prog 32 #[.int .i64 32, .int .u64 (n : Int), .int .u8 f, .int .i64 prec] W fun e w' => e = .returned (.string ⟨(ftoa32L n f prec).toArray⟩) ∧ W.grownBy w' none) := by
  have hI := fun W => isNeg32_any n W hn
  have hK := fun W => kind32_any n W hn
  by_cases hfin : n % 2147483648 < 2139095040
  · obtain ⟨t, tx, hST, hFM, hEQ⟩ := short32_any n hn hfin
    have hm := m32_lt n
    have hee := e32_bd n hfin
    have hm53 : m32 n < 2 ^ 53 := Nat.lt_of_lt_of_le hm (by decide)
    have hk : kindB 2139095040 2147483648 n = 0 := kindB_0 rfl hfin
    rw [hk] at hK
    have hV := fun W => valueOf32_any n (m32 n) (e32 n) W hn hk (m32_is n) (e32_is n)
    have hP := fun W => parts32_any n W hn
    simp only [m32_is, e32_is] at hP
    have hbx : f = 98 ∨ f = 120 ∨ f = 88 → ∀ W, Calls Tryz.prog 32 #[.int .i64 32, .int .u64 (n : Int), .int .u8 f, .int .i64 prec] W fun e w' => e = .returned (.string ⟨(ftoa32L n f prec).toArray⟩) ∧ W.grownBy w' none := by
      intro hf W
      rcases hf with rfl | hf
      · rw [ftoa32L_b n prec hn hfin]
        refine formatB_any 32 n (decide (2147483648 ≤ n)) _ _ 98 prec (decT (m32 n) ++ expT 112 (e32 n) true) W rfl ?_ hI hK hV (fun W => binary_any 32 n (m32 n) (e32 n) W (by omega) (by omega) (by omega) hP)
        have h1 : (decT (m32 n)).length ≤ 20 := by rw [← decT_dec]; exact decDigits_le _ (by omega)
        have h2 := decT_len (e32 n).natAbs (by omega)
        rw [List.length_append]
        unfold expT
        rw [List.length_cons, List.length_cons]
        split
        · rw [List.length_cons]; omega
        · omega
      · rw [ftoa32L_x n f prec hn hfin hf hp1]
        exact formatX_any 32 n (decide (2147483648 ≤ n)) _ _ f prec (hexadL (f == 88) (m32 n) (e32 n) prec) W hf (Nat.le_trans (hexadL_len _ _ _ _ (by omega) hm53 (by omega) (by omega)) (by omega)) hI hK hV
          (fun W => hexadecimal_any 32 n (m32 n) (e32 n) (f == 88) prec W hm53 (by omega) (by omega) hp1 (by omega) hP)
    refine ⟨t, hST, ?_, ?_⟩
    · intro hp ht W
      by_cases hb : f = 98 ∨ f = 120 ∨ f = 88
      · exact hbx hb W
      · have hfe : isEfg f := by unfold isKnown at hf; unfold isEfg; omega
        subst hp
        rw [hEQ ht f hfe]
        exact hFM f hfe W
    · intro hp W
      by_cases hb : f = 98 ∨ f = 120 ∨ f = 88
      · exact hbx hb W
      · have hfe : isEfg f := by unfold isKnown at hf; unfold isEfg; omega
        obtain ⟨p, rfl⟩ : ∃ p : Nat, prec = (p : Int) := ⟨prec.toNat, by omega⟩
        exact spec32_efg n f p hn hfin hfe (by omega) W
  · have hkd : kindB 2139095040 2147483648 n = 1 ∨ kindB 2139095040 2147483648 n = 2 := by unfold kindB; rw [if_neg hfin]; split <;> omega
    have hq : n % 2147483648 < 4294967296 := by omega
    have hqs : n % 2147483648 % 2147483648 = n % 2147483648 := Nat.mod_mod _ _
    have hkq : kindB 2139095040 2147483648 (n % 2147483648) = kindB 2139095040 2147483648 n := by unfold kindB; rw [hqs]
    have hKq := fun W => kind32_any (n % 2147483648) W hq
    rw [hkq] at hKq
    have hT : ftoa32L n f prec = kindT (kindB 2139095040 2147483648 n) (decide (2147483648 ≤ n)) := by
      have hE : flE 8 23 n = 2 ^ 8 - 1 := by unfold flE; omega
      unfold ftoa32L ftoaL kindT
      rw [if_pos hE, neg32_is n hn]
      by_cases h : n % 2147483648 = 2139095040
      · have h2 : flF 23 n = 0 := by unfold flF; omega
        rw [if_neg (show ¬ (flF 23 n ≠ 0) by rw [h2]; simp), show kindB 2139095040 2147483648 n = 1 by unfold kindB; rw [if_neg hfin, if_pos h], if_neg (show ¬ ((1 : Int) = 2) by decide)]
      · have h2 : flF 23 n ≠ 0 := by unfold flF; omega
        rw [if_pos h2, show kindB 2139095040 2147483648 n = 2 by unfold kindB; rw [if_neg hfin, if_neg h], if_pos rfl]
    have hF : ∀ W, Calls Tryz.prog 32 #[.int .i64 32, .int .u64 (n : Int), .int .u8 f, .int .i64 prec] W fun e w' => e = .returned (.string ⟨(ftoa32L n f prec).toArray⟩) ∧ W.grownBy w' none := by
      intro W
      rw [hT]
      exact formatK_any 32 n _ _ f prec W hkd hI hK
    have hand : bits .andNot .u64 (n : Int) ((2147483648 : Nat) : Int) = ((n % 2147483648 : Nat) : Int) := u64_andNot_top n 31 (by omega) (by omega)
    exact ⟨false, fun W => shortTieK_gen 32 n (n % 2147483648) 2147483648 _ W hkd (fun W => sign32_any W) hand (fun W => valueOfK_any 32 (n % 2147483648) _ W hkd hKq), fun _ _ => hF, fun _ => hF⟩

end Go.Proofs.YticlnihjhcepkaaGreatDoor
