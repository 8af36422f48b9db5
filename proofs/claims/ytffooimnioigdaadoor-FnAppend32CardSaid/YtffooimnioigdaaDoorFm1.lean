/-
  Walks: FormatFloat of internal/strconv and of strconv, impl.FormatFloat64.
-/
import Derived.Test.YtffooimnioigdaaDoorFt2
import Derived.Laws.MakeOwn
import Derived.Laws.IdiomStrings
import Derived.Laws.FloatArith
namespace Go.Proofs.YtffooimnioigdaaDoor
open Go.RowKit
set_option linter.unusedSimpArgs false
set_option linter.unusedVariables false

theorem mkBytes (c : Nat) (hc : c ≤ 1000000) (w : World) : (Instr.makeSlice 33 (.int .i64 0) (.int .i64 (c : Int))).run Tryd.prog w = .ok (.slice (some ⟨w.heap.size, 0, none⟩) 0 c) (w.alloc (.cells (madeCells #[.int .u8 0] c) 5)) := by
  obtain ⟨i, hi, hz0, hz1, hz2⟩ := info_parts byteInfo
  have h := run_make (P := Tryd.prog) w 33 5 i _ Tryd.underlying33 hi hz0 .i64 .i64 0 (c : Int) (by omega) (by omega) (by rw [hz2]; omega) (by omega)
  rw [hz1, Int.toNat_natCast, Nat.mul_one] at h
  exact h

theorem OwnB.made {T : Nat} {w : World} (hT : T ≤ w.heap.size) (c : Nat) (hc : c ≤ 1000000) : OwnB T (w.alloc (.cells (madeCells #[.int .u8 0] c) 5)) (.slice (some ⟨w.heap.size, 0, none⟩) 0 c) [] := by
  have hs : (madeCells #[Value.int .u8 0] c).toList.length = c := by rw [Array.length_toList, size_madeCells]
  refine ⟨⟨w.heap.size, (madeCells #[Value.int .u8 0] c).toList, ?_, ?_, ?_⟩, fun k hk => ?_⟩
  · simp [hs]
  · have := Row.new w (madeCells #[Value.int .u8 0] c).toList 5
    rw [Array.toArray_toList] at this
    exact this
  · rw [hs]; simp [maxLen]; omega
  · simp [Value.ownBlock] at hk; omega

theorem str_of_own {T : Nat} {w : World} {v : Value} {xs : List UInt8} (h : OwnB T w v xs) : (convert 33 9 v).run Tryd.prog w = .ok (.string ⟨xs.toArray⟩) w := by
  obtain ⟨⟨g, rest, rfl, hr, hm⟩, _⟩ := h
  rw [List.length_map]
  refine run_convert_bytes_back w 33 9 5 ⟨g, 0, none⟩ _ xs Tryd.underlying33 Tryd.underlying5 Tryd.underlying9 (fun j hj => ?_)
  have e : ((⟨g, 0, none⟩ : Addr).add j) = ⟨g, j, none⟩ := by
    unfold Addr.add; split
    · subst_vars; rfl
    · simp
  rw [e, hr.cell, List.getElem?_append_left (by rw [List.length_map]; exact hj), List.getElem?_map, List.getElem?_eq_getElem hj]
  rfl

theorem ext_f64from (b : Nat) (w : World) : (callFunc 26 #[.int .u64 (b : Int)]).run Tryd.prog w = .ok (.value (.float .f64 b)) w := by kernel_rfl
theorem ext_f32from (b : Nat) (w : World) : (callFunc 25 #[.int .u32 (b : Int)]).run Tryd.prog w = .ok (.value (.float .f32 b)) w := by kernel_rfl

set_option maxHeartbeats 1000000 in
theorem iFormat64_any (T b : Nat) (prec f : Int) (w : World) (he : Env T w) (hb : b < 18446744073709551616) (hf1 : 0 ≤ f) (hf2 : f ≤ 255) (hp1 : -9223372036854775808 ≤ prec) (hp2 : prec ≤ 50000) :
    Calls Tryd.prog 31 #[.float .f64 b, .int .u8 f, .int .i64 prec, .int .i64 64] w fun e w' =>
      e = .returned (.string ⟨(ftoa64L b f prec).toArray⟩) ∧ w.grownBy w' none := by
  obtain ⟨c, hc⟩ : ∃ c : Nat, max (prec + 4) 24 = (c : Int) := ⟨(max (prec + 4) 24).toNat, by omega⟩
  have hc1 : c ≤ 1000000 := by omega
  have hmk := mkBytes c hc1
  have HE := Lib.hid he
  clear he
  refine calls_F Tryd.func31 rfl (by rw [Tryd.ntmps31]; simp) ?_
  intro σ hσ
  rw [Tryd.ntmps31]
  have s0 : σ 0 = .float .f64 b := hσ 0 (by simp)
  have s1 : σ 1 = .int .u8 f := hσ 1 (by simp)
  have s2 : σ 2 = .int .i64 prec := hσ 2 (by simp)
  have s3 : σ 3 = .int .i64 64 := hσ 3 (by simp)
  clear hσ
  ((repeat (go_wp2_with fail; first | (refine cond_yes ?hc (by decide) ?_; (case hc => (simp [over_cons, over_nil, *]; done))) | (refine cond_no ?hc (by decide) ?_; (case hc => (simp [over_cons, over_nil, *]; done))))); go_wp2_with fail)
  refine (ftoa64_any T b _ prec f [] _ (HE.out.alloc _) (OwnB.made HE.out.size c hc1) (by simp) hb hf1 hf2 hp1 hp2).mono ?_
  rintro e w7 ⟨v, rfl, ho, hs⟩
  rw [List.nil_append] at ho
  have hcv := str_of_own ho
  have hg : w.grownBy w7 none := by
    have h1 := hs.1
    refine grown_trans (World.grownBy_alloc w _ none) h1 (fun j e hj => ?_)
    simp [Value.ownBlock] at e
    omega
  have HG := Lib.hid hg
  clear ho hs hg hmk
  ((repeat (go_wp2_with fail; first | (refine cond_yes ?hc (by decide) ?_; (case hc => (simp [over_cons, over_nil, *]; done))) | (refine cond_no ?hc (by decide) ?_; (case hc => (simp [over_cons, over_nil, *]; done))))); go_wp2_with fail)
  exact ret_F _ rfl (by decide) (by simp [over_cons, over_nil, *]) ⟨rfl, HG.out⟩

theorem sFormat64_any (T b : Nat) (prec f : Int) (w : World) (he : Env T w) (hb : b < 18446744073709551616) (hf1 : 0 ≤ f) (hf2 : f ≤ 255) (hp1 : -9223372036854775808 ≤ prec) (hp2 : prec ≤ 50000) :
    Calls Tryd.prog 24 #[.float .f64 b, .int .u8 f, .int .i64 prec, .int .i64 64] w fun e w' =>
      e = .returned (.string ⟨(ftoa64L b f prec).toArray⟩) ∧ w.grownBy w' none := by
  have H := Lib.hid (iFormat64_any T b prec f w he hb hf1 hf2 hp1 hp2)
  clear he
  go_enter Tryd.func24, Tryd.ntmps24
  go_wp2_with (go_at_call 31; refine H.out.mono ?_; rintro e w7 ⟨rfl, hg⟩)
  go_ret
  exact ⟨rfl, hg⟩

theorem Format64_any (T b : Nat) (prec f : Int) (w : World) (he : Env T w) (hb : b < 18446744073709551616) (hf1 : 0 ≤ f) (hf2 : f ≤ 255) (hp1 : -9223372036854775808 ≤ prec) (hp2 : prec ≤ 50000) :
    Calls Tryd.prog 15 #[.int .u64 (b : Int), .int .u8 f, .int .i64 prec] w fun e w' =>
      e = .returned (.string ⟨(ftoa64L b f prec).toArray⟩) ∧ w.grownBy w' none := by
  have H := Lib.hid (sFormat64_any T b prec f w he hb hf1 hf2 hp1 hp2)
  have hext := fun W => ext_f64from b W
  clear he
  go_enter Tryd.func15, Tryd.ntmps15
  go_wp2_with (go_at_call 24; refine H.out.mono ?_; rintro e w7 ⟨rfl, hg⟩)
  go_ret
  exact ⟨rfl, hg⟩

set_option maxHeartbeats 1000000 in
theorem iFormat32_any (T b r : Nat) (prec f : Int) (w : World) (he : Env T w) (hb : b < 4294967296) (hr : floatToFloatBits .f64 r .f32 = some b) (hf1 : 0 ≤ f) (hf2 : f ≤ 255) (hp1 : -9223372036854775808 ≤ prec) (hp2 : prec ≤ 50000) :
    Calls Tryd.prog 31 #[.float .f64 r, .int .u8 f, .int .i64 prec, .int .i64 32] w fun e w' =>
      e = .returned (.string ⟨(ftoa32L b f prec).toArray⟩) ∧ w.grownBy w' none := by
  obtain ⟨c, hc⟩ : ∃ c : Nat, max (prec + 4) 24 = (c : Int) := ⟨(max (prec + 4) 24).toNat, by omega⟩
  have hc1 : c ≤ 1000000 := by omega
  have hmk := mkBytes c hc1
  have hcv0 := fun W => run_convert_float_float (P := Tryd.prog) W 47 48 .f64 .f32 r b (by rw [Tryd.underlying47]; rfl) Tryd.underlying48 hr
  have HE := Lib.hid he
  clear he hr
  refine calls_F Tryd.func31 rfl (by rw [Tryd.ntmps31]; simp) ?_
  intro σ hσ
  rw [Tryd.ntmps31]
  have s0 : σ 0 = .float .f64 r := hσ 0 (by simp)
  have s1 : σ 1 = .int .u8 f := hσ 1 (by simp)
  have s2 : σ 2 = .int .i64 prec := hσ 2 (by simp)
  have s3 : σ 3 = .int .i64 32 := hσ 3 (by simp)
  clear hσ
  ((repeat (go_wp2_with fail; first | (refine cond_yes ?hc (by decide) ?_; (case hc => (simp [over_cons, over_nil, *]; done))) | (refine cond_no ?hc (by decide) ?_; (case hc => (simp [over_cons, over_nil, *]; done))))); go_wp2_with fail)
  refine (ftoa32_any T b _ prec f [] _ (HE.out.alloc _) (OwnB.made HE.out.size c hc1) (by simp) hb hf1 hf2 hp1 hp2).mono ?_
  rintro e w7 ⟨v, rfl, ho, hs⟩
  rw [List.nil_append] at ho
  have hcv := str_of_own ho
  have hg : w.grownBy w7 none := by
    have h1 := hs.1
    refine grown_trans (World.grownBy_alloc w _ none) h1 (fun j e hj => ?_)
    simp [Value.ownBlock] at e
    omega
  have HG := Lib.hid hg
  clear ho hs hg hmk hcv0
  ((repeat (go_wp2_with fail; first | (refine cond_yes ?hc (by decide) ?_; (case hc => (simp [over_cons, over_nil, *]; done))) | (refine cond_no ?hc (by decide) ?_; (case hc => (simp [over_cons, over_nil, *]; done))))); go_wp2_with fail)
  exact ret_F _ rfl (by decide) (by simp [over_cons, over_nil, *]) ⟨rfl, HG.out⟩

theorem sFormat32_any (T b r : Nat) (prec f : Int) (w : World) (he : Env T w) (hb : b < 4294967296) (hr : floatToFloatBits .f64 r .f32 = some b) (hf1 : 0 ≤ f) (hf2 : f ≤ 255) (hp1 : -9223372036854775808 ≤ prec) (hp2 : prec ≤ 50000) :
    Calls Tryd.prog 24 #[.float .f64 r, .int .u8 f, .int .i64 prec, .int .i64 32] w fun e w' =>
      e = .returned (.string ⟨(ftoa32L b f prec).toArray⟩) ∧ w.grownBy w' none := by
  have H := Lib.hid (iFormat32_any T b r prec f w he hb hr hf1 hf2 hp1 hp2)
  clear he hr
  go_enter Tryd.func24, Tryd.ntmps24
  go_wp2_with (go_at_call 31; refine H.out.mono ?_; rintro e w7 ⟨rfl, hg⟩)
  go_ret
  exact ⟨rfl, hg⟩

theorem Format32_any (T b r : Nat) (prec f : Int) (w : World) (he : Env T w) (hb : b < 4294967296) (hw : floatToFloatBits .f32 b .f64 = some r) (hr : floatToFloatBits .f64 r .f32 = some b) (hf1 : 0 ≤ f) (hf2 : f ≤ 255) (hp1 : -9223372036854775808 ≤ prec) (hp2 : prec ≤ 50000) :
    Calls Tryd.prog 13 #[.int .u32 (b : Int), .int .u8 f, .int .i64 prec] w fun e w' =>
      e = .returned (.string ⟨(ftoa32L b f prec).toArray⟩) ∧ w.grownBy w' none := by
  have H := Lib.hid (sFormat32_any T b r prec f w he hb hr hf1 hf2 hp1 hp2)
  have hext := fun W => ext_f32from b W
  have hcv0 := fun W => run_convert_float_float (P := Tryd.prog) W 48 47 .f32 .f64 b r (by rw [Tryd.underlying48]; rfl) Tryd.underlying47 hw
  clear he hw hr
  go_enter Tryd.func13, Tryd.ntmps13
  go_wp2_with (first | (simp only [hcv0]) | (go_at_call 24; refine H.out.mono ?_; rintro e w7 ⟨rfl, hg⟩))
  go_ret
  exact ⟨rfl, hg⟩
end Go.Proofs.YtffooimnioigdaaDoor
