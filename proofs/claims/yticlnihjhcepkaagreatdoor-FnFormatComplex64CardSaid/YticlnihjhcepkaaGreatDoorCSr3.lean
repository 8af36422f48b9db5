/-
  Walk of spec/format.go: exponential and Format at f, with the shortest digits (precision -1).
-/
import Derived.Test.YticlnihjhcepkaaGreatDoorCSr2
import Derived.Test.YticlnihjhcepkaaGreatDoorGq
import Derived.Test.YticlnihjhcepkaaGreatDoorCNc4
namespace Go.Proofs.YticlnihjhcepkaaGreatDoor
open Go.RowKit
set_option linter.unusedSimpArgs false
set_option linter.unusedVariables false
attribute [local go_sem] undef

set_option maxRecDepth 100000 in
set_option maxHeartbeats 8000000 in
theorem exponentialS_any (size : Int) (n : Nat) (neg : Bool) (a b : Nat) (S : List UInt8 × Int) (w : World) (hS0 : a = 0 → S = ([48], 0))
    (hV : ∀ W, Calls Tryz.prog 24 #[.int .i64 size, .int .u64 (n : Int)] W fun x w' => ∃ vn vd, x = .returned (.tuple #[.agg #[.bool neg, vn, vd], .bool true]) ∧ NatV w' vn a ∧ NatV w' vd b ∧ W.grownBy w' none)
    (hSH : ∀ W, Calls Tryz.prog 91 #[.int .i64 size, .int .u64 (n : Int)] W fun e w' => e = .returned (.tuple #[.string ⟨S.1.toArray⟩, .int .i64 S.2]) ∧ W.grownBy w' none) :
    Calls Tryz.prog 62 #[.int .i64 size, .int .u64 (n : Int), .int .i64 (-1)] w fun e w' => e = .returned (.tuple #[.string ⟨S.1.toArray⟩, .int .i64 S.2]) ∧ w.grownBy w' none := by
  have HV := Lib.hid hV
  have HZ := Lib.hid (fun W => speczerosI_any (-1) W (by omega) (by omega))
  have HSH := Lib.hid hSH
  have HS0 := Lib.hid hS0
  obtain ⟨sx, se⟩ := S
  have HNL := Lib.hid (show (natL a).length = 0 ↔ a = 0 from ⟨fun h => by by_cases h0 : a = 0; exact h0; exact absurd (List.length_eq_zero_iff.1 h) (natL_ne h0), fun h => by rw [h, natL_zero]; rfl⟩)
  have ct := cat_mk [48] (List.replicate (-1 : Int).toNat 48)
  have ct2 := ct
  simp only [List.toArray_replicate] at ct2
  clear hV hSH hS0
  refine calls_F Tryz.func62 rfl (by rw [Tryz.ntmps62]; simp) ?_
  intro σ hσ
  rw [Tryz.ntmps62]
  have s0 : σ 0 = .int .i64 size := hσ 0 (by simp)
  have s1 : σ 1 = .int .u64 (n : Int) := hσ 1 (by simp)
  have s2 : σ 2 = .int .i64 (-1) := hσ 2 (by simp)
  clear hσ
  go_wp2_with fail
  refine (HV.out _).mono ?_
  rintro e w2 ⟨vn, vd, rfl, hvn, hvd, hg2⟩
  obtain ⟨an, cn, rfl⟩ := hvn.len
  obtain ⟨ad, cd, rfl⟩ := hvd.len
  obtain ⟨LN, hLN⟩ : ∃ LN, (natL a).length = LN := ⟨_, rfl⟩
  rw [hLN] at hvn HNL
  simp only [hLN]
  generalize (natL b).length = LD at *
  obtain ⟨w3, hw3⟩ : ∃ w', World.alloc w2 (.cells #[.bool neg, .slice an LN cn, .slice ad LD cd] 45) = w' := ⟨_, rfl⟩
  obtain ⟨B, hB⟩ : ∃ A, (World.heap w2).size = A := ⟨_, rfl⟩
  have hib := InBlk.new w2 neg (.slice an LN cn) (.slice ad LD cd) 45
  rw [hw3, hB] at hib
  have HIB := Lib.hid hib
  have HVN := Lib.hid (hvn.grown hib.grown)
  have HVD := Lib.hid (hvd.grown hib.grown)
  have HG3 := Lib.hid (grown_none_tr hg2 hib.grown)
  have HW3 := Lib.hid hw3
  have HB := Lib.hid hB
  have HSZ := Lib.hid hg2.size
  clear hvn hvd hg2 hib hw3 hB hLN
  go_upto_region 2 with fail
  rw [HW3.out, HB.out]
  clear HW3
  have c0 := HIB.out.row.cell 0
  have c1 := HIB.out.row.cell 1
  have c2 := HIB.out.row.cell 2
  have t0 := HIB.out.row.frozen 0
  simp only [List.getElem?_cons_zero, List.getElem?_cons_succ] at c0 c1 c2
  by_cases h0 : LN = 0
  · have ha0 : a = 0 := HNL.out.1 h0
    subst h0
    have HR2 := Lib.hid (HS0.out ha0)
    ((repeat (go_wp2_with fail; first | (refine cdY ?_ ?_; focus (simp [ov, *]; done)) | (refine cdN ?_ ?_; focus (simp [ov, *]; done)))); go_wp2_with fail)
    refine (HZ.out _).mono ?_
    rintro e w4 ⟨rfl, hg4⟩
    have HG4 := Lib.hid (grown_none_tr HG3.out hg4)
    clear hg4
    ((repeat (go_wp2_with fail; first | (refine cdY ?_ ?_; focus (simp [ov, *]; done)) | (refine cdN ?_ ?_; focus (simp [ov, *]; done)))); go_wp2_with fail)
    exact ret_F2 (.string ⟨([48] : List UInt8).toArray⟩) (.int .i64 0) rfl (by decide) (by decide) (by simp only [over_cons, over_nil]; exact congrArg Value.string ct) (by simp [ov, *]) ⟨by rw [show sx = [48] from congrArg Prod.fst HR2.out, show se = 0 from congrArg Prod.snd HR2.out], HG4.out⟩
  · have ha0 : a ≠ 0 := fun h => h0 (HNL.out.2 h)
    have f1 : ((LN : Int) == 0) = false := by rw [beq_eq_false_iff_ne]; omega
    have f2 : (LN == 0) = false := by rw [beq_eq_false_iff_ne]; omega
    ((repeat (go_wp2_with fail; first | (refine cdY ?_ ?_; focus (simp [ov, *]; done)) | (refine cdN ?_ ?_; focus (simp [ov, *]; done)))); go_wp2_with fail)
    refine (HSH.out _).mono ?_
    rintro e w4 ⟨rfl, hg4⟩
    have HG4 := Lib.hid (grown_none_tr HG3.out hg4)
    clear hg4 c0 c1 c2
    ((repeat (go_wp2_with fail; first | (refine cdY ?_ ?_; focus (simp [ov, *]; done)) | (refine cdN ?_ ?_; focus (simp [ov, *]; done)))); go_wp2_with fail)
    exact ret_F2 (.string ⟨sx.toArray⟩) (.int .i64 se) rfl (by decide) (by decide) (by simp [ov, *]) (by simp [ov, *]) ⟨rfl, HG4.out⟩

set_option maxRecDepth 100000 in
set_option maxHeartbeats 8000000 in
theorem formatFS_any (size : Int) (b : Nat) (neg : Bool) (N D : Nat) (f : Int) (sx : List UInt8) (se : Int) (hf : f = 102) (hx1 : 1 ≤ sx.length) (hx2 : sx.length ≤ 7000) (he1 : -1000 ≤ se) (he2 : se ≤ 1000) (w : World)
    (hI : ∀ W, Calls Tryz.prog 47 #[.int .i64 size, .int .u64 (b : Int)] W fun e w' => e = .returned (.bool neg) ∧ W = w')
    (hK : ∀ W, Calls Tryz.prog 23 #[.int .i64 size, .int .u64 (b : Int)] W fun e w' => e = .returned (.int .i64 0) ∧ W = w')
    (hV : ∀ W, Calls Tryz.prog 24 #[.int .i64 size, .int .u64 (b : Int)] W fun x w' => ∃ vn vd, x = .returned (.tuple #[.agg #[.bool neg, vn, vd], .bool true]) ∧ NatV w' vn N ∧ NatV w' vd D ∧ W.grownBy w' none)
    (hE : ∀ W, Calls Tryz.prog 62 #[.int .i64 size, .int .u64 (b : Int), .int .i64 (-1)] W fun e w' => e = .returned (.tuple #[.string ⟨sx.toArray⟩, .int .i64 se]) ∧ W.grownBy w' none) :
    Calls Tryz.prog 32 #[.int .i64 size, .int .u64 (b : Int), .int .u8 f, .int .i64 (-1)] w fun e w' => e = .returned (.string ⟨(eSign neg ++ placedT sx se (max 0 ((sx.length : Int) - 1 - se))).toArray⟩) ∧ w.grownBy w' none := by
  have HI := Lib.hid hI
  have HK := Lib.hid hK
  have HV := Lib.hid hV
  clear hI hK hV
  have HE := Lib.hid hE
  have HPL := Lib.hid (fun W => placed_any sx se W hx1 hx2 he1 he2)
  have y1 : (⟨sx.toArray⟩ : ByteArray).size = sx.length := by simp [ByteArray.size]
  have hql : (placedT sx se (max 0 ((sx.length : Int) - 1 - se))).length ≤ 1000000 := by
    unfold placedT
    dsimp only
    split
    · simp only [List.length_take]
      split <;> simp [zeroS] <;> omega
    · simp only [List.length_append, List.length_cons, List.length_take, List.length_drop]
      split <;> simp [zeroS] <;> omega
  subst hf
  clear hE
  generalize placedT sx se (max 0 ((sx.length : Int) - 1 - se)) = q at *
  refine calls_F Tryz.func32 rfl (by rw [Tryz.ntmps32]; simp) ?_
  intro σ hσ
  rw [Tryz.ntmps32]
  have s0 : σ 0 = .int .i64 size := hσ 0 (by simp)
  have s1 : σ 1 = .int .u64 (b : Int) := hσ 1 (by simp)
  have s2 : σ 2 = .int .u8 102 := hσ 2 (by simp)
  have s3 : σ 3 = .int .i64 (-1) := hσ 3 (by simp)
  clear hσ
  go_wp2_with fail
  refine (HI.out _).mono ?_
  rintro r w1 ⟨rfl, rfl⟩
  go_wp2_with fail
  refine cut_F (fun s' w' => s' 0 = .int .i64 size ∧ s' 1 = .int .u64 (b : Int) ∧ s' 2 = .int .u8 102 ∧ s' 3 = .int .i64 (-1) ∧ s' 9 = .string ⟨(eSign neg).toArray⟩ ∧ w = w') ?_ ?_
  · intro R' K' HR hK'
    cases neg
    · ((repeat (go_wp2_with fail; first | (refine cdY ?_ ?_; focus (simp [ov, *]; done)) | (refine cdN ?_ ?_; focus (simp [ov, *]; done)))); go_wp2_with fail)
      exact got HR (by simp [over_cons, over_nil, eSign, *])
    · ((repeat (go_wp2_with fail; first | (refine cdY ?_ ?_; focus (simp [ov, *]; done)) | (refine cdN ?_ ?_; focus (simp [ov, *]; done)))); go_wp2_with fail)
      exact got HR (by simp [over_cons, over_nil, eSign, *])
  clear s0 s1 s2 s3 σ HI
  rintro σ w' ⟨s0, s1, s2, s3, s9, rfl⟩
  go_wp2_with fail
  refine (HK.out _).mono ?_
  rintro r w1 ⟨rfl, rfl⟩
  ((repeat (go_wp2_with fail; first | (refine cdY ?_ ?_; focus (simp [ov, *]; done)) | (refine cdN ?_ ?_; focus (simp [ov, *]; done)))); go_wp2_with fail)
  refine (HV.out _).mono ?_
  rintro r w2 ⟨vn, vd, rfl, hvn, hvd, hg2⟩
  have HG2 := Lib.hid hg2
  obtain ⟨an, cn, rfl⟩ := hvn.len
  obtain ⟨ad, cd, rfl⟩ := hvd.len
  have HVN := Lib.hid hvn
  have HVD := Lib.hid hvd
  clear hvn hvd hg2
  generalize (natL N).length = LN at *
  generalize (natL D).length = LD at *
  have HGA := Lib.hid (fun o => grown_none_tr HG2.out (World.grownBy_alloc w2 o none))
  have hsl : (eSign neg).length ≤ 1 := eSign_len neg
  obtain ⟨sg, hsg⟩ : ∃ sg, eSign neg = sg := ⟨_, rfl⟩
  rw [hsg] at s9 hsl
  have HSG := Lib.hid hsg
  clear hsg
  have z1 : (⟨sg.toArray⟩ : ByteArray).size = sg.length := by simp [ByteArray.size]
  have c1 := cat_mk sg q
  have z2 : (⟨q.toArray⟩ : ByteArray).size = q.length := by simp [ByteArray.size]
  ((repeat (go_wp2_with fail; first | (refine cdY ?_ ?_; focus (simp [ov, *]; done)) | (refine cdN ?_ ?_; focus (simp [ov, *]; done)))); go_wp2_with fail)
  refine (HE.out _).mono ?_
  rintro r w3 ⟨rfl, hg3⟩
  have HG3 := Lib.hid (grown_none_tr (HGA.out _) hg3)
  clear hg3
  ((repeat (go_wp2_with fail; first | (refine cdY ?_ ?_; focus (simp [ov, *]; done)) | (refine cdN ?_ ?_; focus (simp [ov, *]; done)))); go_wp2_with fail)
  refine (HPL.out _).mono ?_
  rintro r w4 ⟨rfl, hg4⟩
  have HG4 := Lib.hid (grown_none_tr HG3.out hg4)
  clear hg4
  ((repeat (go_wp2_with fail; first | (refine cdY ?_ ?_; focus (simp [ov, *]; done)) | (refine cdN ?_ ?_; focus (simp [ov, *]; done)))); go_wp2_with fail)
  exact ret_F (.string ⟨(sg ++ q).toArray⟩) rfl (by decide) (by simp [ov, *]) ⟨by rw [HSG.out], HG4.out⟩
end Go.Proofs.YticlnihjhcepkaaGreatDoor
