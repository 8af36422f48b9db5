/-
  Walks: known of the laws, FormatComplexBits of the reference.
-/
import Derived.Test.YticlnihjhcepkaaGreatDoorCFk1
import Derived.Test.YticlnihjhcepkaaGreatDoorCFc
import Derived.Test.YticlnihjhcepkaaGreatDoorCTr0
namespace Go.Proofs.YticlnihjhcepkaaGreatDoor
open Go.RowKit
set_option linter.unusedSimpArgs false
set_option linter.unusedVariables false
attribute [local go_sem] undef

theorem eight_fmt (i : Nat) (h : i < 8) : ∃ f : Int, ([.int .u8 98, .int .u8 101, .int .u8 69, .int .u8 102, .int .u8 103, .int .u8 71, .int .u8 120, .int .u8 88] : List Value)[i]? = some (.int .u8 f) ∧ isKnown f := by
  match i, h with
  | 0, _ => exact ⟨98, rfl, by unfold isKnown; omega⟩
  | 1, _ => exact ⟨101, rfl, by unfold isKnown; omega⟩
  | 2, _ => exact ⟨69, rfl, by unfold isKnown; omega⟩
  | 3, _ => exact ⟨102, rfl, by unfold isKnown; omega⟩
  | 4, _ => exact ⟨103, rfl, by unfold isKnown; omega⟩
  | 5, _ => exact ⟨71, rfl, by unfold isKnown; omega⟩
  | 6, _ => exact ⟨120, rfl, by unfold isKnown; omega⟩
  | 7, _ => exact ⟨88, rfl, by unfold isKnown; omega⟩

set_option maxRecDepth 100000 in
set_option maxHeartbeats 8000000 in
theorem known_any (f : Int) (w : World) :
    Calls Tryz.prog 10 #[.int .u8 f] w fun e w' => ∃ b, e = .returned (.bool b) ∧ (b = true → isKnown f) ∧ w.grownBy w' none := by
  refine calls_F Tryz.func10 rfl (by rw [Tryz.ntmps10]; simp) ?_
  intro σ hσ
  rw [Tryz.ntmps10]
  have s0 : σ 0 = .int .u8 f := hσ 0 (by simp)
  clear hσ
  have HROW := Lib.hid (fun W (h : (w.alloc (.cells #[.int .u8 98, .int .u8 101, .int .u8 69, .int .u8 102, .int .u8 103, .int .u8 71, .int .u8 120, .int .u8 88] 5)).grownBy W none) => (Row.new w [.int .u8 98, .int .u8 101, .int .u8 69, .int .u8 102, .int .u8 103, .int .u8 71, .int .u8 120, .int .u8 88] 5).grown h (by simp))
  have HGA := Lib.hid (World.grownBy_alloc w (.cells #[.int .u8 98, .int .u8 101, .int .u8 69, .int .u8 102, .int .u8 103, .int .u8 71, .int .u8 120, .int .u8 88] 5) none)
  ((repeat (go_wp2_with fail; first | (refine cdY ?_ ?_; focus (simp [ov, *]; done)) | (refine cdN ?_ ?_; focus (simp [ov, *]; done)))); go_wp2_with fail)
  refine loop_F (fun kk s' w' => ∃ i : Nat, kk = 8 - i ∧ i ≤ 8 ∧ s' 0 = .int .u8 f ∧ s' 5 = .slice (some ⟨w.heap.size, 0, none⟩) 8 8 ∧ s' 6 = .int .i64 8 ∧ s' 7 = .int .i64 (i : Int) ∧ (w.alloc (.cells #[.int .u8 98, .int .u8 101, .int .u8 69, .int .u8 102, .int .u8 103, .int .u8 71, .int .u8 120, .int .u8 88] 5)).grownBy w' none) 8
    ⟨0, rfl, by omega, by simp [ov, *], by simp [ov, *], by simp [ov, *], by simp [ov, *], grown_refl _ none⟩ ?_
  clear s0 σ
  rintro kk σ wk ⟨i, hkk, hi, s0, s5, s6, s7, hg⟩ RK KK HRK hKK
  have HKK := Lib.hid hkk
  have HG := Lib.hid hg
  have HGW := Lib.hid (grown_none_tr HGA.out hg)
  have hcell := HROW.out wk hg
  generalize w.heap.size = B at *
  clear hkk hg
  by_cases h8 : i < 8
  · obtain ⟨g, hg1, hg2⟩ := eight_fmt i h8
    have c0 := hcell.cell i
    rw [hg1] at c0
    have HK2 := Lib.hid hg2
    have f1 : (i : Int) < 8 := by omega
    have hw : IntKind.i64.wrap ((i : Int) + 1) = (i : Int) + 1 := wrapIn _ (by omega) (by omega)
    clear hcell hg1 hg2
    by_cases he : g = f
    · have e1 : (g == f) = true := by simp [he]
      have HK3 := Lib.hid (show isKnown f from he ▸ HK2.out)
      clear he
      ((repeat (go_wp2_with fail; first | (refine cdY ?_ ?_; focus (simp [ov, *]; done)) | (refine cdN ?_ ?_; focus (simp [ov, *]; done)))); go_wp2_with fail)
      exact ret_F (.bool true) rfl (by decide) (by simp [ov, *]) ⟨true, rfl, fun _ => HK3.out, HGW.out⟩
    · have e1 : (g == f) = false := by simpa using he
      clear he
      ((repeat (go_wp2_with fail; first | (refine cdY ?_ ?_; focus (simp [ov, *]; done)) | (refine cdN ?_ ?_; focus (simp [ov, *]; done)))); go_wp2_with fail)
      exact gotk HRK (8 - (i + 1)) (by have := HKK.out; omega) ⟨i + 1, rfl, by omega, by simp [ov, *], by simp [ov, *], by simp [ov, *], by simp [ov, *], HG.out⟩
  · have e8 : i = 8 := by omega
    subst e8
    clear hcell
    ((repeat (go_wp2_with fail; first | (refine cdY ?_ ?_; focus (simp [ov, *]; done)) | (refine cdN ?_ ?_; focus (simp [ov, *]; done)))); go_wp2_with fail)
    exact ret_F (.bool false) rfl (by decide) (by simp [ov, *]) ⟨false, rfl, fun h => (by cases h), HGW.out⟩

set_option maxRecDepth 100000 in
set_option maxHeartbeats 8000000 in
theorem formatComplexBits_any (size f prec : Int) (re im : Nat) (R I : List UInt8) (w : World) (hIn : I ≠ []) (hRl : R.length ≤ 4000000) (hIl : I.length ≤ 4000000)
    (hR : ∀ W, Calls Tryz.prog 32 #[.int .i64 size, .int .u64 (re : Int), .int .u8 f, .int .i64 prec] W fun e w' => e = .returned (.string ⟨R.toArray⟩) ∧ W.grownBy w' none)
    (hI : ∀ W, Calls Tryz.prog 32 #[.int .i64 size, .int .u64 (im : Int), .int .u8 f, .int .i64 prec] W fun e w' => e = .returned (.string ⟨I.toArray⟩) ∧ W.grownBy w' none) :
    Calls Tryz.prog 13 #[.int .i64 size, .int .u64 (re : Int), .int .u64 (im : Int), .int .u8 f, .int .i64 prec] w fun e w' => e = .returned (.string ⟨(cplxL R I).toArray⟩) ∧ w.grownBy w' none := by
  have HR := Lib.hid hR
  have HI := Lib.hid hI
  clear hR hI
  obtain ⟨c, r, rfl⟩ : ∃ c r, I = c :: r := by cases I with
    | nil => exact absurd rfl hIn
    | cons c r => exact ⟨c, r, rfl⟩
  have hidx := str_idx (c :: r) 0 (by simp)
  have hidx' : (c :: r).getD 0 0 = c := rfl
  rw [hidx'] at hidx
  have hsg : sgnL (c :: r) = if c = 43 ∨ c = 45 then c :: r else 43 :: c :: r := rfl
  have hcp : cplxL R (c :: r) = [40] ++ R ++ sgnL (c :: r) ++ [105, 41] := rfl
  obtain ⟨Y, hY⟩ : ∃ Y, sgnL (c :: r) = Y := ⟨_, rfl⟩
  rw [hY] at hcp hsg
  rw [hcp]
  have hemp : (c :: r).isEmpty = false := rfl
  have ct := cat_mk [43] (c :: r)
  have hcl : (c :: r).length ≤ 4000000 := hIl
  have hsz : (⟨(c :: r).toArray⟩ : ByteArray).size = (c :: r).length := by simp [ByteArray.size]
  have HSG := Lib.hid hsg
  generalize hJ : c :: r = J at *
  have hJl : 0 < J.length := by rw [← hJ]; simp
  obtain ⟨N, hN⟩ : ∃ N, J.length = N := ⟨_, rfl⟩
  rw [hN] at hsz hJl hcl hIl
  have HN := Lib.hid hN
  have hN1 : (0 : Int) < (N : Int) := by omega
  clear hY hJ hIn hidx' hcp hsg hN
  refine calls_F Tryz.func13 rfl (by rw [Tryz.ntmps13]; simp) ?_
  intro σ hσ
  rw [Tryz.ntmps13]
  have s0 : σ 0 = .int .i64 size := hσ 0 (by simp)
  have s1 : σ 1 = .int .u64 (re : Int) := hσ 1 (by simp)
  have s2 : σ 2 = .int .u64 (im : Int) := hσ 2 (by simp)
  have s3 : σ 3 = .int .u8 f := hσ 3 (by simp)
  have s4 : σ 4 = .int .i64 prec := hσ 4 (by simp)
  clear hσ
  ((repeat (go_wp2_with fail; first | (refine cdY ?_ ?_; focus (simp [ov, *]; done)) | (refine cdN ?_ ?_; focus (simp [ov, *]; done)))); go_wp2_with fail)
  refine (HI.out _).mono ?_
  rintro e w1 ⟨rfl, hg1⟩
  have HG1 := Lib.hid hg1
  clear hg1
  obtain ⟨bb, hbb⟩ : ∃ bb, decide (¬ (c = 43 ∨ c = 45)) = bb := ⟨_, rfl⟩
  have HBB := Lib.hid hbb
  clear hbb
  go_upto_region 2 with fail
  refine cut_F (fun s' w' => s' 0 = .int .i64 size ∧ s' 1 = .int .u64 (re : Int) ∧ s' 3 = .int .u8 f ∧ s' 4 = .int .i64 prec ∧ s' 11 = .string ⟨J.toArray⟩ ∧ s' 28 = .bool bb ∧ w1 = w') ?_ ?_
  · intro R' K' HRR hK'
    by_cases h43 : c = 43
    · have e : bb = false := by rw [← HBB.out]; simp [h43]
      have q1 : ((c.toNat : Int) == 43) = true := by rw [h43]; rfl
      have q2 : (c.toNat == 43) = true := by rw [h43]; rfl
      have q3 : ((c.toNat : Int) != 43) = false := by rw [bne, q1]; rfl
      have q4 : (c.toNat != 43) = false := by rw [bne, q2]; rfl
      subst e
      clear h43
      ((repeat (go_wp2_with fail; first | (refine cdY ?_ ?_; focus (simp [ov, *]; done)) | (refine cdN ?_ ?_; focus (simp [ov, *]; done)))); go_wp2_with fail)
      exact got HRR ⟨by simp [ov, *], by simp [ov, *], by simp [ov, *], by simp [ov, *], by simp [ov, *], by simp [ov, *], rfl⟩
    · have n43 : c.toNat ≠ 43 := fun e => h43 (UInt8.toNat_inj.1 e)
      have p1 : ((c.toNat : Int) == 43) = false := by rw [beq_eq_false_iff_ne]; omega
      have p2 : (c.toNat == 43) = false := by rw [beq_eq_false_iff_ne]; exact n43
      have p3 : ((c.toNat : Int) != 43) = true := by rw [bne, p1]; rfl
      have p4 : (c.toNat != 43) = true := by rw [bne, p2]; rfl
      by_cases h45 : c = 45
      · have e : bb = false := by rw [← HBB.out]; simp [h45]
        have q1 : ((c.toNat : Int) == 45) = true := by rw [h45]; rfl
        have q2 : (c.toNat == 45) = true := by rw [h45]; rfl
        have q3 : ((c.toNat : Int) != 45) = false := by rw [bne, q1]; rfl
        have q4 : (c.toNat != 45) = false := by rw [bne, q2]; rfl
        subst e
        clear h45 h43
        ((repeat (go_wp2_with fail; first | (refine cdY ?_ ?_; focus (simp [ov, *]; done)) | (refine cdN ?_ ?_; focus (simp [ov, *]; done)))); go_wp2_with fail)
        exact got HRR ⟨by simp [ov, *], by simp [ov, *], by simp [ov, *], by simp [ov, *], by simp [ov, *], by simp [ov, *], rfl⟩
      · have e : bb = true := by rw [← HBB.out]; simp [h43, h45]
        have n45 : c.toNat ≠ 45 := fun e => h45 (UInt8.toNat_inj.1 e)
        have q1 : ((c.toNat : Int) == 45) = false := by rw [beq_eq_false_iff_ne]; omega
        have q2 : (c.toNat == 45) = false := by rw [beq_eq_false_iff_ne]; exact n45
        have q3 : ((c.toNat : Int) != 45) = true := by rw [bne, q1]; rfl
        have q4 : (c.toNat != 45) = true := by rw [bne, q2]; rfl
        subst e
        clear h45 h43
        ((repeat (go_wp2_with fail; first | (refine cdY ?_ ?_; focus (simp [ov, *]; done)) | (refine cdN ?_ ?_; focus (simp [ov, *]; done)))); go_wp2_with fail)
        exact got HRR ⟨by simp [ov, *], by simp [ov, *], by simp [ov, *], by simp [ov, *], by simp [ov, *], by simp [ov, *], rfl⟩
  clear s0 s1 s2 s3 s4 σ
  rintro σ w2 ⟨s0, s1, s3, s4, s11, s28, rfl⟩
  go_wp2_with fail
  refine cut_F (fun s' w' => s' 0 = .int .i64 size ∧ s' 1 = .int .u64 (re : Int) ∧ s' 3 = .int .u8 f ∧ s' 4 = .int .i64 prec ∧ s' 11 = .string ⟨Y.toArray⟩ ∧ Y.length ≤ 4000001 ∧ w1 = w') ?_ ?_
  · intro R' K' HRR hK'
    cases bb
    · have hy : Y = J := by
        have h := HBB.out
        rw [decide_eq_false_iff_not, Decidable.not_not] at h
        rw [HSG.out, if_pos h]
      subst hy
      ((repeat (go_wp2_with fail; first | (refine cdY ?_ ?_; focus (simp [ov, *]; done)) | (refine cdN ?_ ?_; focus (simp [ov, *]; done)))); go_wp2_with fail)
      exact got HRR ⟨by simp [ov, *], by simp [ov, *], by simp [ov, *], by simp [ov, *], by simp [ov, *], by have := HN.out; omega, rfl⟩
    · have hy : Y = 43 :: J := by
        have h := HBB.out
        rw [decide_eq_true_iff] at h
        rw [HSG.out, if_neg h]
      subst hy
      ((repeat (go_wp2_with fail; first | (refine cdY ?_ ?_; focus (simp [ov, *]; done)) | (refine cdN ?_ ?_; focus (simp [ov, *]; done)))); go_wp2_with fail)
      exact got HRR ⟨by simp [ov, *], by simp [ov, *], by simp [ov, *], by simp [ov, *], by simp only [over_cons, over_nil]; exact congrArg Value.string ct, by have := HN.out; simp; omega, rfl⟩
  clear s0 s1 s3 s4 s11 s28 σ hidx ct hemp hcl hsz hJl HI hIl hN1
  rintro σ w2 ⟨s0, s1, s3, s4, s11, hYl, rfl⟩
  ((repeat (go_wp2_with fail; first | (refine cdY ?_ ?_; focus (simp [ov, *]; done)) | (refine cdN ?_ ?_; focus (simp [ov, *]; done)))); go_wp2_with fail)
  refine (HR.out _).mono ?_
  rintro e w3 ⟨rfl, hg3⟩
  have HG3 := Lib.hid (grown_none_tr HG1.out hg3)
  clear hg3
  have c1 := cat_mk [40] R
  have c2 := cat_mk ([40] ++ R) Y
  have c3 := cat_mk ([40] ++ R ++ Y) [105, 41]
  have z1 : (⟨R.toArray⟩ : ByteArray).size = R.length := by simp [ByteArray.size]
  have z2 : (⟨Y.toArray⟩ : ByteArray).size = Y.length := by simp [ByteArray.size]
  have z3 : (⟨([40] ++ R).toArray⟩ : ByteArray).size = R.length + 1 := by simp [ByteArray.size]
  have z4 : (⟨([40] ++ R ++ Y).toArray⟩ : ByteArray).size = R.length + Y.length + 1 := by simp [ByteArray.size]
  obtain ⟨G3, hG3⟩ : ∃ G3, [40] ++ R ++ Y ++ [105, 41] = G3 := ⟨_, rfl⟩
  rw [hG3] at c3
  have HG3E := Lib.hid hG3
  clear hG3
  generalize [40] ++ R ++ Y = G2 at c2 c3 z4
  generalize [40] ++ R = G1 at c1 c2 z3
  ((repeat (go_wp2_with fail; first | (refine cdY ?_ ?_; focus (simp [ov, *]; done)) | (refine cdN ?_ ?_; focus (simp [ov, *]; done)))); go_wp2_with fail)
  exact ret_F (.string ⟨G3.toArray⟩) rfl (by decide) (by simp [ov, *]) ⟨by rw [HG3E.out], HG3.out⟩
end Go.Proofs.YticlnihjhcepkaaGreatDoor
