/-
  A slice of bytes that came in and is only read ('Rd'); walks of impl.AppendFloat64 and impl.AppendFloat32.
-/
import Derived.Test.YtffooimnioigdaaDoorSbt
import Derived.Test.YtffooimnioigdaaDoorLen
namespace Go.Proofs.YtffooimnioigdaaDoor
open Go.RowKit
set_option linter.unusedSimpArgs false
set_option linter.unusedVariables false

/-- v reads as these bytes. -/
def Rd (w : World) (v : Value) (xs : List UInt8) : Prop :=
  (v = .slice none 0 0 ∧ xs = []) ∨ ∃ (a : Addr) (c : Nat), v = .slice (some a) xs.length c ∧ ∀ (j : Nat) (u : UInt8), xs[j]? = some u → w.cell? (a.add j) = some (encB u)

theorem cell_grown {w w' : World} (hg : w.grownBy w' none) {a : Addr} {v : Value} (h : w.cell? a = some v) : w'.cell? a = some v := by
  rw [World.cell?_of_block (hg.block a.block ?_ (by simp)), h]
  rcases Nat.lt_or_ge a.block w.heap.size with h1 | h1
  · exact h1
  · rw [World.cell?, Array.getElem?_eq_none h1] at h
    simp at h

theorem Rd.grown {w w' : World} {v : Value} {xs : List UInt8} (h : Rd w v xs) (hg : w.grownBy w' none) : Rd w' v xs := by
  rcases h with h | ⟨a, c, h1, h2⟩
  · exact Or.inl h
  · exact Or.inr ⟨a, c, h1, fun j u hu => cell_grown hg (h2 j u hu)⟩

theorem Rd.src {w : World} {v : Value} {xs : List UInt8} (h : Rd w v xs) : Src Tryd.prog 1 33 v xs.length (xs.map encB) w := by
  rcases h with ⟨rfl, rfl⟩ | ⟨a, c, rfl, h2⟩
  · exact Src.ofNil _ Tryd.underlying33 0
  · refine Src.ofSlice _ Tryd.underlying33 a xs.length c _ (by rw [List.length_map, Nat.mul_one]) (fun j u hj => ?_) (fun u hu => ?_)
    · rw [List.getElem?_map] at hj
      cases hx : xs[j]? with
      | none => rw [hx] at hj; cases hj
      | some x =>
        rw [hx] at hj
        cases hj
        exact h2 j x hx
    · obtain ⟨b, _, rfl⟩ := List.mem_map.1 hu
      rfl

theorem OwnB.none {T : Nat} {w : World} (hT : T ≤ w.heap.size) (e : TypeId) : OwnB T (w.alloc (.cells #[] e)) (.slice (some ⟨w.heap.size, 0, none⟩) 0 0) [] := by
  refine ⟨⟨w.heap.size, [], rfl, Row.new w [] e, by simp [maxLen]⟩, fun k hk => ?_⟩
  simp [Value.ownBlock] at hk
  omega

/-- A slice of the call's own that began as a new block. -/
theorem grown_own {T : Nat} {w w1 w2 : World} {v v2 : Value} {xs : List UInt8} (hT : w.heap.size ≤ T) (h1 : w.grownBy w1 none) (ho : OwnB T w1 v xs) (hs : Stp w1 v w2 v2) : w.grownBy w2 none :=
  grown_trans h1 hs.1 (fun j e hj => by have := ho.2 j e; omega)

theorem Env.up {T T' : Nat} {w : World} (h : Env T w) (h1 : T ≤ T') (h2 : T' ≤ w.heap.size) : Env T' w := by
  obtain ⟨b, o, c, hb, hr⟩ := h.cheats
  have := h.glob
  exact ⟨h2, by omega, h.p10, h.tab, h.opt, b, o, c, by omega, hr⟩
theorem OwnB.down {T T' : Nat} {w : World} {v : Value} {xs : List UInt8} (h : OwnB T' w v xs) (h1 : T ≤ T') : OwnB T w v xs := ⟨h.1, fun k hk => Nat.le_trans h1 (h.2 k hk)⟩

set_option maxHeartbeats 1000000 in
theorem Append64_any (T b : Nat) (dst : Value) (prec f : Int) (xs : List UInt8) (w : World) (he : Env T w) (hrd : Rd w dst xs) (hx : xs.length ≤ 140737488400000) (hb : b < 18446744073709551616) (hf1 : 0 ≤ f) (hf2 : f ≤ 255) (hp1 : -9223372036854775808 ≤ prec) (hp2 : prec ≤ 50000) :
    Calls Tryd.prog 19 #[dst, .int .u64 (b : Int), .int .u8 f, .int .i64 prec] w fun r w' =>
      ∃ v', r = .returned v' ∧ OwnB T w' v' (xs ++ ftoa64L b f prec) ∧ w.grownBy w' none := by
  have hT := he.size
  have HE := Lib.hid (he.up hT (Nat.le_refl _))
  have HRD := Lib.hid hrd
  have H := Lib.hid (fun (d : Value) (W : World) (hE : Env w.heap.size W) (hO : OwnB w.heap.size W d xs) => sAppend64_any w.heap.size b d prec f xs W hE hO (by omega) hb hf1 hf2 hp1 hp2)
  have hext := fun W => ext_f64from b W
  clear he hrd
  refine calls_F Tryd.func19 rfl (by rw [Tryd.ntmps19]; simp) ?_
  intro σ hσ
  rw [Tryd.ntmps19]
  have s0 : σ 0 = dst := hσ 0 (by simp)
  have s1 : σ 1 = .int .u64 (b : Int) := hσ 1 (by simp)
  have s2 : σ 2 = .int .u8 f := hσ 2 (by simp)
  have s3 : σ 3 = .int .i64 prec := hσ 3 (by simp)
  clear hσ
  have HO0 := Lib.hid (OwnB.none (T := w.heap.size) (w := w) (Nat.le_refl _) 5)
  have HRD1 := Lib.hid (HRD.out.grown (World.grownBy_alloc w (.cells #[] 5) none))
  ((repeat (go_wp2_with (first | (at_builtin; refine wpList_appF rfl _ _ _ _ rfl (by decide) (by decide) byteTy HO0.out (by simp [over_cons, over_nil, *]) _ (by simp [over_cons, over_nil, *]) xs HRD1.out.src (by simp; omega) ?_; intro v1 w1 ho1 hs1)); first | (refine cond_yes ?hc (by decide) ?_; (case hc => (simp [over_cons, over_nil, *]; done))) | (refine cond_no ?hc (by decide) ?_; (case hc => (simp [over_cons, over_nil, *]; done))))); go_wp2_with (first | (at_builtin; refine wpList_appF rfl _ _ _ _ rfl (by decide) (by decide) byteTy HO0.out (by simp [over_cons, over_nil, *]) _ (by simp [over_cons, over_nil, *]) xs HRD1.out.src (by simp; omega) ?_; intro v1 w1 ho1 hs1)))
  have hg1 := grown_own (Nat.le_refl _) (World.grownBy_alloc w _ none) HO0.out hs1
  rw [List.nil_append] at ho1
  refine (H.out _ _ (HE.out.grown hg1 (by simp)) ho1).mono ?_
  rintro e w2 ⟨v2, rfl, ho2, hs2⟩
  have hg2 := grown_own (Nat.le_refl _) hg1 ho1 hs2
  have HO2 := Lib.hid ho2
  have HG2 := Lib.hid hg2
  clear ho1 hs1 ho2 hs2 hg1 hg2
  ((repeat (go_wp2_with fail; first | (refine cond_yes ?hc (by decide) ?_; (case hc => (simp [over_cons, over_nil, *]; done))) | (refine cond_no ?hc (by decide) ?_; (case hc => (simp [over_cons, over_nil, *]; done))))); go_wp2_with fail)
  exact ret_F _ rfl (by decide) (by simp [over_cons, over_nil, *]) ⟨_, rfl, HO2.out.down hT, HG2.out⟩

set_option maxHeartbeats 1000000 in
theorem Append32_any (T b r : Nat) (dst : Value) (prec f : Int) (xs : List UInt8) (w : World) (he : Env T w) (hrd : Rd w dst xs) (hx : xs.length ≤ 140737488400000) (hb : b < 4294967296) (hw : floatToFloatBits .f32 b .f64 = some r) (hr : floatToFloatBits .f64 r .f32 = some b) (hf1 : 0 ≤ f) (hf2 : f ≤ 255) (hp1 : -9223372036854775808 ≤ prec) (hp2 : prec ≤ 50000) :
    Calls Tryd.prog 18 #[dst, .int .u32 (b : Int), .int .u8 f, .int .i64 prec] w fun r w' =>
      ∃ v', r = .returned v' ∧ OwnB T w' v' (xs ++ ftoa32L b f prec) ∧ w.grownBy w' none := by
  have hT := he.size
  have HE := Lib.hid (he.up hT (Nat.le_refl _))
  have HRD := Lib.hid hrd
  have H := Lib.hid (fun (d : Value) (W : World) (hE : Env w.heap.size W) (hO : OwnB w.heap.size W d xs) => sAppend32_any w.heap.size b r d prec f xs W hE hO (by omega) hb hr hf1 hf2 hp1 hp2)
  have hext := fun W => ext_f32from b W
  have hcv1 := fun W => run_convert_float_float (P := Tryd.prog) W 48 47 .f32 .f64 b r (by rw [Tryd.underlying48]; rfl) Tryd.underlying47 hw
  clear he hrd hw hr
  refine calls_F Tryd.func18 rfl (by rw [Tryd.ntmps18]; simp) ?_
  intro σ hσ
  rw [Tryd.ntmps18]
  have s0 : σ 0 = dst := hσ 0 (by simp)
  have s1 : σ 1 = .int .u32 (b : Int) := hσ 1 (by simp)
  have s2 : σ 2 = .int .u8 f := hσ 2 (by simp)
  have s3 : σ 3 = .int .i64 prec := hσ 3 (by simp)
  clear hσ
  have HO0 := Lib.hid (OwnB.none (T := w.heap.size) (w := w) (Nat.le_refl _) 5)
  have HRD1 := Lib.hid (HRD.out.grown (World.grownBy_alloc w (.cells #[] 5) none))
  ((repeat (go_wp2_with (first | (at_builtin; refine wpList_appF rfl _ _ _ _ rfl (by decide) (by decide) byteTy HO0.out (by simp [over_cons, over_nil, *]) _ (by simp [over_cons, over_nil, *]) xs HRD1.out.src (by simp; omega) ?_; intro v1 w1 ho1 hs1)); first | (refine cond_yes ?hc (by decide) ?_; (case hc => (simp [over_cons, over_nil, *]; done))) | (refine cond_no ?hc (by decide) ?_; (case hc => (simp [over_cons, over_nil, *]; done))))); go_wp2_with (first | (at_builtin; refine wpList_appF rfl _ _ _ _ rfl (by decide) (by decide) byteTy HO0.out (by simp [over_cons, over_nil, *]) _ (by simp [over_cons, over_nil, *]) xs HRD1.out.src (by simp; omega) ?_; intro v1 w1 ho1 hs1)))
  have hg1 := grown_own (Nat.le_refl _) (World.grownBy_alloc w _ none) HO0.out hs1
  rw [List.nil_append] at ho1
  refine (H.out _ _ (HE.out.grown hg1 (by simp)) ho1).mono ?_
  rintro e w2 ⟨v2, rfl, ho2, hs2⟩
  have hg2 := grown_own (Nat.le_refl _) hg1 ho1 hs2
  have HO2 := Lib.hid ho2
  have HG2 := Lib.hid hg2
  clear ho1 hs1 ho2 hs2 hg1 hg2
  ((repeat (go_wp2_with fail; first | (refine cond_yes ?hc (by decide) ?_; (case hc => (simp [over_cons, over_nil, *]; done))) | (refine cond_no ?hc (by decide) ?_; (case hc => (simp [over_cons, over_nil, *]; done))))); go_wp2_with fail)
  exact ret_F _ rfl (by decide) (by simp [over_cons, over_nil, *]) ⟨_, rfl, HO2.out.down hT, HG2.out⟩
end Go.Proofs.YtffooimnioigdaaDoor
