/-
  Walk: the law FnComplexJoined32.
-/
import Derived.Test.YtffooimnioigdaaDoorCj0
namespace Go.Proofs.YtffooimnioigdaaDoor
open Go.ChangeShapes Go.WideShapes Go.ChangeAt Go.RowKit
set_option linter.unusedSimpArgs false
set_option linter.unusedVariables false

set_option maxRecDepth 100000 in
set_option maxHeartbeats 8000000 in
theorem joined32_any (T p q : Nat) (f prec : Int) (w : World) (he : Env T w) (hp : p < 4294967296) (hq : q < 4294967296) (hf1 : 0 ≤ f) (hf2 : f ≤ 255) (hp1 : -9223372036854775808 ≤ prec) (hp2 : prec ≤ 9223372036854775807) :
    Calls Tryd.prog 10 #[.int .u32 (p : Int), .int .u32 (q : Int), .int .u8 f, .int .i64 prec] w fun e w' => e = .returned (.bool true) ∧ w.grownBy w' none := by
  have hK1 := fun W => kind32_any p W hp
  have hK2 := fun W => kind32_any q W hq
  have hI := fun W => isFormat_any f W
  obtain ⟨k1, hk1⟩ : ∃ k, kindB 2139095040 2147483648 p = k := ⟨_, rfl⟩
  obtain ⟨k2, hk2⟩ : ∃ k, kindB 2139095040 2147483648 q = k := ⟨_, rfl⟩
  obtain ⟨i, hi⟩ : ∃ i, isFmt f = i := ⟨_, rfl⟩
  rw [hk1] at hK1
  rw [hk2] at hK2
  rw [hi] at hI
  have HK1 := Lib.hid hK1
  have HK2 := Lib.hid hK2
  have HI := Lib.hid hI
  have Hk1 := Lib.hid hk1
  have Hk2 := Lib.hid hk2
  have Hi := Lib.hid hi
  have HE := Lib.hid he
  clear hK1 hK2 hI hk1 hk2 hi he
  refine calls_F Tryd.func10 rfl (by rw [Tryd.ntmps10]; simp) ?_
  intro σ hσ
  rw [Tryd.ntmps10]
  have s0 : σ 0 = .int .u32 (p : Int) := hσ 0 (by simp)
  have s1 : σ 1 = .int .u32 (q : Int) := hσ 1 (by simp)
  have s2 : σ 2 = .int .u8 f := hσ 2 (by simp)
  have s3 : σ 3 = .int .i64 prec := hσ 3 (by simp)
  clear hσ
  by_cases hz1 : k1 = 0
  case neg =>
    have hz1' : (k1 != 0) = true := by rw [bne_iff_ne]; exact hz1
    ((repeat (go_wp2_with fail; first | (refine cond_yes ?hc (by decide) ?_; (case hc => (simp [over_cons, over_nil, *]; done))) | (refine cond_no ?hc (by decide) ?_; (case hc => (simp [over_cons, over_nil, *]; done))))); go_wp2_with fail)
    refine (HK1.out _).mono ?_
    rintro e w7 ⟨rfl, rfl⟩
    ((repeat (go_wp2_with fail; first | (refine cond_yes ?hc (by decide) ?_; (case hc => (simp [over_cons, over_nil, *]; done))) | (refine cond_no ?hc (by decide) ?_; (case hc => (simp [over_cons, over_nil, *]; done))))); go_wp2_with fail)
    all_goals (try ((repeat (go_wp2_with fail; first | (refine cond_yes ?hc (by decide) ?_; (case hc => (simp [over_cons, over_nil, *]; done))) | (refine cond_no ?hc (by decide) ?_; (case hc => (simp [over_cons, over_nil, *]; done))))); go_wp2_with fail))
    all_goals exact ret_F (.bool true) rfl (by decide) (by simp [over_cons, over_nil, *]) ⟨rfl, grown_refl w none⟩
  have hz1' : (k1 != 0) = false := by rw [hz1]; rfl
  by_cases hz2 : k2 = 0
  case neg =>
    have hz2' : (k2 != 0) = true := by rw [bne_iff_ne]; exact hz2
    ((repeat (go_wp2_with fail; first | (refine cond_yes ?hc (by decide) ?_; (case hc => (simp [over_cons, over_nil, *]; done))) | (refine cond_no ?hc (by decide) ?_; (case hc => (simp [over_cons, over_nil, *]; done))))); go_wp2_with fail)
    refine (HK1.out _).mono ?_
    rintro e w7 ⟨rfl, rfl⟩
    ((repeat (go_wp2_with fail; first | (refine cond_yes ?hc (by decide) ?_; (case hc => (simp [over_cons, over_nil, *]; done))) | (refine cond_no ?hc (by decide) ?_; (case hc => (simp [over_cons, over_nil, *]; done))))); go_wp2_with fail)
    refine (HK2.out _).mono ?_
    rintro e w7 ⟨rfl, rfl⟩
    ((repeat (go_wp2_with fail; first | (refine cond_yes ?hc (by decide) ?_; (case hc => (simp [over_cons, over_nil, *]; done))) | (refine cond_no ?hc (by decide) ?_; (case hc => (simp [over_cons, over_nil, *]; done))))); go_wp2_with fail)
    all_goals (try ((repeat (go_wp2_with fail; first | (refine cond_yes ?hc (by decide) ?_; (case hc => (simp [over_cons, over_nil, *]; done))) | (refine cond_no ?hc (by decide) ?_; (case hc => (simp [over_cons, over_nil, *]; done))))); go_wp2_with fail))
    all_goals exact ret_F (.bool true) rfl (by decide) (by simp [over_cons, over_nil, *]) ⟨rfl, grown_refl w none⟩
  have hz2' : (k2 != 0) = false := by rw [hz2]; rfl
  cases i
  case false =>
    ((repeat (go_wp2_with fail; first | (refine cond_yes ?hc (by decide) ?_; (case hc => (simp [over_cons, over_nil, *]; done))) | (refine cond_no ?hc (by decide) ?_; (case hc => (simp [over_cons, over_nil, *]; done))))); go_wp2_with fail)
    refine (HK1.out _).mono ?_
    rintro e w7 ⟨rfl, rfl⟩
    ((repeat (go_wp2_with fail; first | (refine cond_yes ?hc (by decide) ?_; (case hc => (simp [over_cons, over_nil, *]; done))) | (refine cond_no ?hc (by decide) ?_; (case hc => (simp [over_cons, over_nil, *]; done))))); go_wp2_with fail)
    refine (HK2.out _).mono ?_
    rintro e w7 ⟨rfl, rfl⟩
    ((repeat (go_wp2_with fail; first | (refine cond_yes ?hc (by decide) ?_; (case hc => (simp [over_cons, over_nil, *]; done))) | (refine cond_no ?hc (by decide) ?_; (case hc => (simp [over_cons, over_nil, *]; done))))); go_wp2_with fail)
    refine (HI.out _).mono ?_
    rintro e w7 ⟨rfl, rfl⟩
    ((repeat (go_wp2_with fail; first | (refine cond_yes ?hc (by decide) ?_; (case hc => (simp [over_cons, over_nil, *]; done))) | (refine cond_no ?hc (by decide) ?_; (case hc => (simp [over_cons, over_nil, *]; done))))); go_wp2_with fail)
    all_goals (try ((repeat (go_wp2_with fail; first | (refine cond_yes ?hc (by decide) ?_; (case hc => (simp [over_cons, over_nil, *]; done))) | (refine cond_no ?hc (by decide) ?_; (case hc => (simp [over_cons, over_nil, *]; done))))); go_wp2_with fail))
    all_goals exact ret_F (.bool true) rfl (by decide) (by simp [over_cons, over_nil, *]) ⟨rfl, grown_refl w none⟩
  by_cases hpl : prec < -1
  case pos =>
    ((repeat (go_wp2_with fail; first | (refine cond_yes ?hc (by decide) ?_; (case hc => (simp [over_cons, over_nil, *]; done))) | (refine cond_no ?hc (by decide) ?_; (case hc => (simp [over_cons, over_nil, *]; done))))); go_wp2_with fail)
    refine (HK1.out _).mono ?_
    rintro e w7 ⟨rfl, rfl⟩
    ((repeat (go_wp2_with fail; first | (refine cond_yes ?hc (by decide) ?_; (case hc => (simp [over_cons, over_nil, *]; done))) | (refine cond_no ?hc (by decide) ?_; (case hc => (simp [over_cons, over_nil, *]; done))))); go_wp2_with fail)
    refine (HK2.out _).mono ?_
    rintro e w7 ⟨rfl, rfl⟩
    ((repeat (go_wp2_with fail; first | (refine cond_yes ?hc (by decide) ?_; (case hc => (simp [over_cons, over_nil, *]; done))) | (refine cond_no ?hc (by decide) ?_; (case hc => (simp [over_cons, over_nil, *]; done))))); go_wp2_with fail)
    refine (HI.out _).mono ?_
    rintro e w7 ⟨rfl, rfl⟩
    ((repeat (go_wp2_with fail; first | (refine cond_yes ?hc (by decide) ?_; (case hc => (simp [over_cons, over_nil, *]; done))) | (refine cond_no ?hc (by decide) ?_; (case hc => (simp [over_cons, over_nil, *]; done))))); go_wp2_with fail)
    all_goals (try ((repeat (go_wp2_with fail; first | (refine cond_yes ?hc (by decide) ?_; (case hc => (simp [over_cons, over_nil, *]; done))) | (refine cond_no ?hc (by decide) ?_; (case hc => (simp [over_cons, over_nil, *]; done))))); go_wp2_with fail))
    all_goals exact ret_F (.bool true) rfl (by decide) (by simp [over_cons, over_nil, *]) ⟨rfl, grown_refl w none⟩
  have hpl' : decide (prec < -1) = false := by simpa using hpl
  by_cases hpu : 1100 < prec
  case pos =>
    ((repeat (go_wp2_with fail; first | (refine cond_yes ?hc (by decide) ?_; (case hc => (simp [over_cons, over_nil, *]; done))) | (refine cond_no ?hc (by decide) ?_; (case hc => (simp [over_cons, over_nil, *]; done))))); go_wp2_with fail)
    refine (HK1.out _).mono ?_
    rintro e w7 ⟨rfl, rfl⟩
    ((repeat (go_wp2_with fail; first | (refine cond_yes ?hc (by decide) ?_; (case hc => (simp [over_cons, over_nil, *]; done))) | (refine cond_no ?hc (by decide) ?_; (case hc => (simp [over_cons, over_nil, *]; done))))); go_wp2_with fail)
    refine (HK2.out _).mono ?_
    rintro e w7 ⟨rfl, rfl⟩
    ((repeat (go_wp2_with fail; first | (refine cond_yes ?hc (by decide) ?_; (case hc => (simp [over_cons, over_nil, *]; done))) | (refine cond_no ?hc (by decide) ?_; (case hc => (simp [over_cons, over_nil, *]; done))))); go_wp2_with fail)
    refine (HI.out _).mono ?_
    rintro e w7 ⟨rfl, rfl⟩
    ((repeat (go_wp2_with fail; first | (refine cond_yes ?hc (by decide) ?_; (case hc => (simp [over_cons, over_nil, *]; done))) | (refine cond_no ?hc (by decide) ?_; (case hc => (simp [over_cons, over_nil, *]; done))))); go_wp2_with fail)
    all_goals (try ((repeat (go_wp2_with fail; first | (refine cond_yes ?hc (by decide) ?_; (case hc => (simp [over_cons, over_nil, *]; done))) | (refine cond_no ?hc (by decide) ?_; (case hc => (simp [over_cons, over_nil, *]; done))))); go_wp2_with fail))
    all_goals exact ret_F (.bool true) rfl (by decide) (by simp [over_cons, over_nil, *]) ⟨rfl, grown_refl w none⟩
  have hpu' : decide (1100 < prec) = false := by simpa using hpu
  have hfin1 := kindB_fin (Hk1.out.trans hz1)
  have hfin2 := kindB_fin (Hk2.out.trans hz2)
  obtain ⟨r1, _, hw1, hr1⟩ := Wd.widen_back p hp hfin1
  obtain ⟨r2, _, hw2, hr2⟩ := Wd.widen_back q hq hfin2
  have hF1 := fun (W : World) (hW : Env T W) => Format32_any T p r1 prec f W hW hp hw1 hr1 hf1 hf2 hp1 (by omega)
  have hF2 := fun (W : World) (hW : Env T W) => Format32_any T q r2 prec f W hW hq hw2 hr2 hf1 hf2 hp1 (by omega)
  have hC := fun (W : World) (hW : Env T W) => FormatC64_any T p q r1 r2 prec f W hW hp hq hw1 hr1 hw2 hr2 hf1 hf2 hp1 (by omega)
  clear hw1 hr1 hw2 hr2
  have hsg := sgn32 q f prec hq hfin2 Hi.out
  obtain ⟨R, hR⟩ : ∃ l, ftoa32L p f prec = l := ⟨_, rfl⟩
  obtain ⟨I, hI⟩ : ∃ l, ftoa32L q f prec = l := ⟨_, rfl⟩
  have hRl : R.length ≤ 4000000 := by rw [← hR]; exact ftoa32L_len p f prec hp (by omega)
  have hIl : I.length ≤ 4000000 := by rw [← hI]; exact ftoa32L_len q f prec hq (by omega)
  rw [hR] at hF1 hC
  rw [hI] at hF2 hC hsg
  have HF1 := Lib.hid hF1
  have HF2 := Lib.hid hF2
  have HC := Lib.hid hC
  have HSG := Lib.hid hsg
  clear hF1 hF2 hC hsg hfin1 hfin2 hR hI Hk1 Hk2 Hi
  by_cases hlt : q < 2147483648
  · have hsh : (q : Int) / 2147483648 = 0 := Int.ediv_eq_zero_of_lt (by omega) (by omega)
    ((repeat (go_wp2_with fail; first | (refine cond_yes ?hc (by decide) ?_; (case hc => (simp [over_cons, over_nil, *]; done))) | (refine cond_no ?hc (by decide) ?_; (case hc => (simp [over_cons, over_nil, *]; done))))); go_wp2_with fail)
    refine (HK1.out _).mono ?_
    rintro e w7 ⟨rfl, rfl⟩
    ((repeat (go_wp2_with fail; first | (refine cond_yes ?hc (by decide) ?_; (case hc => (simp [over_cons, over_nil, *]; done))) | (refine cond_no ?hc (by decide) ?_; (case hc => (simp [over_cons, over_nil, *]; done))))); go_wp2_with fail)
    refine (HK2.out _).mono ?_
    rintro e w7 ⟨rfl, rfl⟩
    ((repeat (go_wp2_with fail; first | (refine cond_yes ?hc (by decide) ?_; (case hc => (simp [over_cons, over_nil, *]; done))) | (refine cond_no ?hc (by decide) ?_; (case hc => (simp [over_cons, over_nil, *]; done))))); go_wp2_with fail)
    refine (HI.out _).mono ?_
    rintro e w7 ⟨rfl, rfl⟩
    ((repeat (go_wp2_with fail; first | (refine cond_yes ?hc (by decide) ?_; (case hc => (simp [over_cons, over_nil, *]; done))) | (refine cond_no ?hc (by decide) ?_; (case hc => (simp [over_cons, over_nil, *]; done))))); go_wp2_with fail)
    refine (HF2.out _ HE.out).mono ?_
    rintro e w8 ⟨rfl, hg8⟩
    have HG8 := Lib.hid hg8
    have HE8 := Lib.hid (HE.out.grown hg8 (by simp))
    clear hg8
    ((repeat (go_wp2_with fail; first | (refine cond_yes ?hc (by decide) ?_; (case hc => (simp [over_cons, over_nil, *]; done))) | (refine cond_no ?hc (by decide) ?_; (case hc => (simp [over_cons, over_nil, *]; done))))); go_wp2_with fail)
    refine (HC.out _ HE8.out).mono ?_
    rintro e w9 ⟨rfl, hg9⟩
    have HG9 := Lib.hid hg9
    have HE9 := Lib.hid (HE8.out.grown hg9 (by simp))
    clear hg9
    ((repeat (go_wp2_with fail; first | (refine cond_yes ?hc (by decide) ?_; (case hc => (simp [over_cons, over_nil, *]; done))) | (refine cond_no ?hc (by decide) ?_; (case hc => (simp [over_cons, over_nil, *]; done))))); go_wp2_with fail)
    refine (HF1.out _ HE9.out).mono ?_
    rintro e w10 ⟨rfl, hg10⟩
    have HG10 := Lib.hid hg10
    clear hg10
    ((repeat (go_wp2_with fail; first | (refine cond_yes ?hc (by decide) ?_; (case hc => (simp [over_cons, over_nil, *]; done))) | (refine cond_no ?hc (by decide) ?_; (case hc => (simp [over_cons, over_nil, *]; done))))); go_wp2_with fail)
    refine ret_F (.bool true) rfl (by decide) ?_ ⟨rfl, grown_none_trans HG8.out (grown_none_trans HG9.out HG10.out)⟩
    simp only [over_cons, if_true]
    show Value.bool (cplxL R I == ((⟨[40].toArray⟩ : ByteArray) ++ ⟨R.toArray⟩ ++ ((⟨[43].toArray⟩ : ByteArray) ++ ⟨I.toArray⟩) ++ (⟨[105, 41].toArray⟩ : ByteArray)).toList) = _
    rw [cat_mk, cat_mk, cat_mk, cat_mk, toList_mk]
    unfold cplxL
    rw [HSG.out, if_pos hlt]
    simp
  · have hsh : (q : Int) / 2147483648 = 1 := by omega
    ((repeat (go_wp2_with fail; first | (refine cond_yes ?hc (by decide) ?_; (case hc => (simp [over_cons, over_nil, *]; done))) | (refine cond_no ?hc (by decide) ?_; (case hc => (simp [over_cons, over_nil, *]; done))))); go_wp2_with fail)
    refine (HK1.out _).mono ?_
    rintro e w7 ⟨rfl, rfl⟩
    ((repeat (go_wp2_with fail; first | (refine cond_yes ?hc (by decide) ?_; (case hc => (simp [over_cons, over_nil, *]; done))) | (refine cond_no ?hc (by decide) ?_; (case hc => (simp [over_cons, over_nil, *]; done))))); go_wp2_with fail)
    refine (HK2.out _).mono ?_
    rintro e w7 ⟨rfl, rfl⟩
    ((repeat (go_wp2_with fail; first | (refine cond_yes ?hc (by decide) ?_; (case hc => (simp [over_cons, over_nil, *]; done))) | (refine cond_no ?hc (by decide) ?_; (case hc => (simp [over_cons, over_nil, *]; done))))); go_wp2_with fail)
    refine (HI.out _).mono ?_
    rintro e w7 ⟨rfl, rfl⟩
    ((repeat (go_wp2_with fail; first | (refine cond_yes ?hc (by decide) ?_; (case hc => (simp [over_cons, over_nil, *]; done))) | (refine cond_no ?hc (by decide) ?_; (case hc => (simp [over_cons, over_nil, *]; done))))); go_wp2_with fail)
    refine (HF2.out _ HE.out).mono ?_
    rintro e w8 ⟨rfl, hg8⟩
    have HG8 := Lib.hid hg8
    have HE8 := Lib.hid (HE.out.grown hg8 (by simp))
    clear hg8
    ((repeat (go_wp2_with fail; first | (refine cond_yes ?hc (by decide) ?_; (case hc => (simp [over_cons, over_nil, *]; done))) | (refine cond_no ?hc (by decide) ?_; (case hc => (simp [over_cons, over_nil, *]; done))))); go_wp2_with fail)
    refine (HC.out _ HE8.out).mono ?_
    rintro e w9 ⟨rfl, hg9⟩
    have HG9 := Lib.hid hg9
    have HE9 := Lib.hid (HE8.out.grown hg9 (by simp))
    clear hg9
    ((repeat (go_wp2_with fail; first | (refine cond_yes ?hc (by decide) ?_; (case hc => (simp [over_cons, over_nil, *]; done))) | (refine cond_no ?hc (by decide) ?_; (case hc => (simp [over_cons, over_nil, *]; done))))); go_wp2_with fail)
    refine (HF1.out _ HE9.out).mono ?_
    rintro e w10 ⟨rfl, hg10⟩
    have HG10 := Lib.hid hg10
    clear hg10
    ((repeat (go_wp2_with fail; first | (refine cond_yes ?hc (by decide) ?_; (case hc => (simp [over_cons, over_nil, *]; done))) | (refine cond_no ?hc (by decide) ?_; (case hc => (simp [over_cons, over_nil, *]; done))))); go_wp2_with fail)
    refine ret_F (.bool true) rfl (by decide) ?_ ⟨rfl, grown_none_trans HG8.out (grown_none_trans HG9.out HG10.out)⟩
    simp only [over_cons, if_true]
    show Value.bool (cplxL R I == ((⟨[40].toArray⟩ : ByteArray) ++ ⟨R.toArray⟩ ++ (⟨I.toArray⟩ : ByteArray) ++ (⟨[105, 41].toArray⟩ : ByteArray)).toList) = _
    rw [cat_mk, cat_mk, cat_mk, toList_mk]
    unfold cplxL
    rw [HSG.out, if_neg hlt]
    simp
end Go.Proofs.YtffooimnioigdaaDoor
