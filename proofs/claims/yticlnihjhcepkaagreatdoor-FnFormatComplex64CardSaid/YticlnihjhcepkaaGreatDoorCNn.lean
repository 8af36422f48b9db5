/-
  Numbers of 32 bits that are not a number: the conversions choose bits that are not a number either; the text is NaN.
-/
import Derived.Test.YticlnihjhcepkaaGreatDoorGf
import Derived.Test.YticlnihjhcepkaaGreatDoorGg
import Derived.Test.YticlnihjhcepkaaGreatDoorGh
namespace Go.Proofs.YticlnihjhcepkaaGreatDoor
open Go.RowKit
set_option linter.unusedSimpArgs false
set_option linter.unusedVariables false

def Nan32 (n : Nat) : Prop := n < 4294967296 ∧ 2139095040 < n % 2147483648
def Nan64 (n : Nat) : Prop := n < 18446744073709551616 ∧ 9218868437227405312 < n % 9223372036854775808

theorem read_nan32 (n : Nat) (h : Nan32 n) : ∃ s p, FloatKind.decode .f32 n = .nan s p := by
  have h2 := h.2
  refine ⟨n / 2147483648 % 2 == 1, n % 2147483648 - 2139095040, ?_⟩
  show Ieee.single.read n = _
  unfold Ieee.Format.read
  have sw : Ieee.single.signWeight = 2147483648 := rfl
  have bn : Ieee.single.binade = 8388608 := rfl
  have inf : Ieee.single.infRung = 2139095040 := rfl
  simp only [sw, bn, inf]
  rw [if_neg (by omega), if_neg (by omega), if_neg (by omega)]
theorem read_nan64 (n : Nat) (h : Nan64 n) : ∃ s p, FloatKind.decode .f64 n = .nan s p := by
  have h2 := h.2
  refine ⟨n / 9223372036854775808 % 2 == 1, n % 9223372036854775808 - 9218868437227405312, ?_⟩
  show Ieee.double.read n = _
  unfold Ieee.Format.read
  have sw : Ieee.double.signWeight = 9223372036854775808 := rfl
  have bn : Ieee.double.binade = 4503599627370496 := rfl
  have inf : Ieee.double.infRung = 9218868437227405312 := rfl
  simp only [sw, bn, inf]
  rw [if_neg (by omega), if_neg (by omega), if_neg (by omega)]

theorem nan_cut32 (b t : Nat) : Nan32 (Question.cut (.nanConv .f32 b) t) := by
  have e : Question.cut (.nanConv .f32 b) t = (t % 2) * 2147483648 + 2139095040 + 1 + (t / 2) % 8388607 := rfl
  rw [e]
  have h1 : (t / 2) % 8388607 < 8388607 := Nat.mod_lt _ (by decide)
  generalize (t / 2) % 8388607 = x at h1
  rcases (show t % 2 = 0 ∨ t % 2 = 1 by omega) with h | h
  · rw [h]; exact ⟨show 0 * 2147483648 + 2139095040 + 1 + x < 4294967296 by omega, show 2139095040 < (0 * 2147483648 + 2139095040 + 1 + x) % 2147483648 by rw [Nat.mod_eq_of_lt (by omega)]; omega⟩
  · rw [h]
    have e2 : 1 * 2147483648 + 2139095040 + 1 + x = (2139095040 + 1 + x) + 2147483648 := by omega
    exact ⟨show 1 * 2147483648 + 2139095040 + 1 + x < 4294967296 by omega, show 2139095040 < (1 * 2147483648 + 2139095040 + 1 + x) % 2147483648 by rw [e2, Nat.add_mod_right, Nat.mod_eq_of_lt (by omega)]; omega⟩
theorem nan_cut64 (b t : Nat) : Nan64 (Question.cut (.nanConv .f64 b) t) := by
  have e : Question.cut (.nanConv .f64 b) t = (t % 2) * 9223372036854775808 + 9218868437227405312 + 1 + (t / 2) % 4503599627370495 := rfl
  rw [e]
  have h1 : (t / 2) % 4503599627370495 < 4503599627370495 := Nat.mod_lt _ (by decide)
  generalize (t / 2) % 4503599627370495 = x at h1
  rcases (show t % 2 = 0 ∨ t % 2 = 1 by omega) with h | h
  · rw [h]; exact ⟨show 0 * 9223372036854775808 + 9218868437227405312 + 1 + x < 18446744073709551616 by omega, show 9218868437227405312 < (0 * 9223372036854775808 + 9218868437227405312 + 1 + x) % 9223372036854775808 by rw [Nat.mod_eq_of_lt (by omega)]; omega⟩
  · rw [h]
    have e2 : 1 * 9223372036854775808 + 9218868437227405312 + 1 + x = (9218868437227405312 + 1 + x) + 9223372036854775808 := by omega
    exact ⟨show 1 * 9223372036854775808 + 9218868437227405312 + 1 + x < 18446744073709551616 by omega, show 9218868437227405312 < (1 * 9223372036854775808 + 9218868437227405312 + 1 + x) % 9223372036854775808 by rw [e2, Nat.add_mod_right, Nat.mod_eq_of_lt (by omega)]; omega⟩

set_option maxRecDepth 100000 in
theorem conv_nan_down (r : Nat) (hr : Nan64 r) (W : World) : ∃ n, Nan32 n ∧ (convert 57 60 (.float .f64 r)).run Tryz.prog W = .ok (.float .f32 n) W.drew := by
  obtain ⟨s, p, hd⟩ := read_nan64 r hr
  refine ⟨_, nan_cut32 r (W.tape W.drawn (.nanConv .f32 r)), ?_⟩
  have hne : ¬ (FloatKind.f64 = FloatKind.f32) := by decide
  have hq : Question.forced (.nanConv .f32 r) = false := rfl
  have h1 : (Conv.floatToFloat .f64 r .f32).run Tryz.prog W = .ok (.float .f32 (Question.cut (.nanConv .f32 r) (W.tape W.drawn (.nanConv .f32 r)))) W.drew := by
    unfold Conv.floatToFloat
    rw [if_neg hne, hd]
    simp only [Sem.run_bind, run_choose_drew, hq, Bool.false_eq_true, if_false, Result.andThen_ok, Sem.run_pure]
  simp only [convert, Sem.run_bind, run_underlying Tryz.underlying57, run_underlying Tryz.underlying60, Result.andThen_ok]
  exact h1
set_option maxRecDepth 100000 in
theorem conv_nan_up (b : Nat) (hb : Nan32 b) (W : World) : ∃ n, Nan64 n ∧ (convert 60 57 (.float .f32 b)).run Tryz.prog W = .ok (.float .f64 n) W.drew := by
  obtain ⟨s, p, hd⟩ := read_nan32 b hb
  refine ⟨_, nan_cut64 b (W.tape W.drawn (.nanConv .f64 b)), ?_⟩
  have hne : ¬ (FloatKind.f32 = FloatKind.f64) := by decide
  have hq : Question.forced (.nanConv .f64 b) = false := rfl
  have h1 : (Conv.floatToFloat .f32 b .f64).run Tryz.prog W = .ok (.float .f64 (Question.cut (.nanConv .f64 b) (W.tape W.drawn (.nanConv .f64 b)))) W.drew := by
    unfold Conv.floatToFloat
    rw [if_neg hne, hd]
    simp only [Sem.run_bind, run_choose_drew, hq, Bool.false_eq_true, if_false, Result.andThen_ok, Sem.run_pure]
  simp only [convert, Sem.run_bind, run_underlying Tryz.underlying57, run_underlying Tryz.underlying60, Result.andThen_ok]
  exact h1

theorem ftoa32L_nan (n : Nat) (f prec : Int) (h : Nan32 n) : ftoa32L n f prec = [78, 97, 78] := by
  have h1 := h.1
  have h2 := h.2
  unfold ftoa32L ftoaL
  have e1 : flE 8 23 n = 2 ^ 8 - 1 := by
    unfold flE
    omega
  have e2 : flF 23 n ≠ 0 := by
    unfold flF
    omega
  rw [if_pos e1, if_pos e2]

/-- Infinities go to 64 bits and back. -/
theorem widen_inf (b : Nat) (hb : b < 4294967296) (h : b % 2147483648 = 2139095040) : ∃ r, r < 18446744073709551616 ∧ floatToFloatBits .f32 b .f64 = some r ∧ floatToFloatBits .f64 r .f32 = some b := by
  have : b = 2139095040 ∨ b = 4286578688 := by omega
  rcases this with rfl | rfl
  · exact ⟨9218868437227405312, by decide, by decide +kernel, by decide +kernel⟩
  · exact ⟨18442240474082181120, by decide, by decide +kernel, by decide +kernel⟩

/-- Every number of 32 bits that is a number goes to 64 bits and back. -/
theorem widen_all (b : Nat) (hb : b < 4294967296) (h : ¬ Nan32 b) : ∃ r, r < 18446744073709551616 ∧ floatToFloatBits .f32 b .f64 = some r ∧ floatToFloatBits .f64 r .f32 = some b := by
  by_cases h1 : b % 2147483648 < 2139095040
  · exact Wd.widen_back b hb h1
  · refine widen_inf b hb ?_
    have : ¬ 2139095040 < b % 2147483648 := fun h2 => h ⟨hb, h2⟩
    omega
end Go.Proofs.YticlnihjhcepkaaGreatDoor
