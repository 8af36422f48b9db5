/-
  Walk of spec/digits.go: readsBack.
-/
import Derived.Test.YticlnihjhcepkaaGreatDoorCQn3
import Derived.Test.YticlnihjhcepkaaGreatDoorGc
namespace Go.Proofs.YticlnihjhcepkaaGreatDoor
open Go.RowKit
set_option linter.unusedSimpArgs false
set_option linter.unusedVariables false
attribute [local go_sem] undef

set_option maxRecDepth 100000 in
set_option maxHeartbeats 8000000 in
theorem readsBack_gen (sz : Int) (inf X : Nat) (v : Value) (d bits : Nat) (e n : Int) (w : World) (hr : NatV w v d) (hd : (natL d).length ≤ 20000) (he1 : -1000 ≤ e) (he2 : e ≤ 1000) (hn1 : 1 ≤ n) (hn2 : n ≤ 17) (hb : bits < inf)
    (hne : ∀ vn vd W, NatV W vn (d * 10 ^ (e - n + 1).toNat) → NatV W vd (10 ^ (-(e - n + 1)).toNat) → Calls Tryz.prog 25 #[.agg #[.bool false, vn, vd], .int .i64 sz] W fun x w' => x = .returned (.tuple #[.int .u64 (X : Int), .bool (X == inf)]) ∧ W.grownBy w' none) :
    Calls Tryz.prog 58 #[.int .i64 sz, .int .u64 (bits : Int), v, .int .i64 e, .int .i64 n] w fun x w' => x = .returned (.bool (decide (X = bits))) ∧ w.grownBy w' none := by
  have HSC := Lib.hid (fun W (hW : w.grownBy W none) => scaled_any v d 10 (e - n + 1) W (hr.grown hW) hd (by omega) (by omega) (by omega) (by omega))
  have HNE := Lib.hid hne
  have HRB := Lib.hid hb
  clear hne hr
  generalize d * 10 ^ (e - n + 1).toNat = A at *
  generalize 10 ^ (-(e - n + 1)).toNat = B at *
  obtain ⟨o, ho⟩ : ∃ o, (X == inf) = o := ⟨_, rfl⟩
  simp only [ho] at HNE
  have HO := Lib.hid ho
  clear ho hb
  obtain ⟨res, hres⟩ : ∃ r, decide (X = bits) = r := ⟨_, rfl⟩
  rw [hres]
  have HRS := Lib.hid hres
  clear hres
  refine calls_F Tryz.func58 rfl (by rw [Tryz.ntmps58]; simp) ?_
  intro σ hσ
  rw [Tryz.ntmps58]
  have s0 : σ 0 = .int .i64 sz := hσ 0 (by simp)
  have s1 : σ 1 = .int .u64 (bits : Int) := hσ 1 (by simp)
  have s2 : σ 2 = v := hσ 2 (by simp)
  have s3 : σ 3 = .int .i64 e := hσ 3 (by simp)
  have s4 : σ 4 = .int .i64 n := hσ 4 (by simp)
  clear hσ
  have hw1 : IntKind.i64.wrap (e - n) = e - n := wrapIn _ (by omega) (by omega)
  have hw2 : IntKind.i64.wrap (e - n + 1) = e - n + 1 := wrapIn _ (by omega) (by omega)
  ((repeat (go_wp2_with fail; first | (refine cdY ?_ ?_; focus (simp [ov, *]; done)) | (refine cdN ?_ ?_; focus (simp [ov, *]; done)))); go_wp2_with fail)
  refine (HSC.out _ (grown_refl w none)).mono ?_
  rintro x9 w9 ⟨vn, vd, rfl, hvn, hvd, hg9⟩
  ((repeat (go_wp2_with fail; first | (refine cdY ?_ ?_; focus (simp [ov, *]; done)) | (refine cdN ?_ ?_; focus (simp [ov, *]; done)))); go_wp2_with fail)
  refine (HNE.out _ _ _ hvn hvd).mono ?_
  rintro x10 w10 ⟨rfl, hg10⟩
  have HG2 := Lib.hid (grown_none_tr hg9 hg10)
  clear HSC HNE hvn hvd hg9 hg10
  cases o
  · by_cases hx : X = bits
    · have e : res = true := by rw [← HRS.out, hx]; simp
      subst e hx
      clear HO HRS
      ((repeat (go_wp2_with fail; first | (refine cdY ?_ ?_; focus (simp [ov, *]; done)) | (refine cdN ?_ ?_; focus (simp [ov, *]; done)))); go_wp2_with fail)
      exact ret_F (.bool true) rfl (by decide) (by simp [ov, *]) ⟨rfl, HG2.out⟩
    · have e : res = false := by rw [← HRS.out]; simpa using hx
      subst e
      have f4 : ((X : Int) == (bits : Int)) = false := by rw [beq_eq_false_iff_ne]; omega
      clear hx HO HRS
      ((repeat (go_wp2_with fail; first | (refine cdY ?_ ?_; focus (simp [ov, *]; done)) | (refine cdN ?_ ?_; focus (simp [ov, *]; done)))); go_wp2_with fail)
      exact ret_F (.bool false) rfl (by decide) (by simp [ov, *]) ⟨rfl, HG2.out⟩
  · have hx : X ≠ bits := by
      have h1 := HO.out
      have h2 := HRB.out
      simp at h1
      omega
    have e : res = false := by rw [← HRS.out]; simpa using hx
    subst e
    clear hx HO HRS
    ((repeat (go_wp2_with fail; first | (refine cdY ?_ ?_; focus (simp [ov, *]; done)) | (refine cdN ?_ ?_; focus (simp [ov, *]; done)))); go_wp2_with fail)
    exact ret_F (.bool false) rfl (by decide) (by simp [ov, *]) ⟨rfl, HG2.out⟩
end Go.Proofs.YticlnihjhcepkaaGreatDoor
