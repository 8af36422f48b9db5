/-
  Walks of uscale.go's small functions: what each computes, in natural numbers and integers.
-/
import Derived.Test.YtffooimnioigdaaDoorEnv
import Derived.Test.YtffooimnioigdaaDoorShelf
import Derived.WalkLawsBesides
import Derived.BigQuiet
namespace Go.Proofs.YtffooimnioigdaaDoor
open Go.RowKit
set_option linter.unusedSimpArgs false
set_option linter.unusedVariables false

theorem log10Pow2_any (x : Int) (w : World) (h1 : -10000 ≤ x) (h2 : x ≤ 10000) :
    Calls Tryd.prog 46 #[.int .i64 x] w fun e w' => e = .returned (.int .i64 (x * 78913 / 262144)) ∧ w' = w := by
  go_enter Tryd.func46, Tryd.ntmps46
  go_wp2
  go_ret
  exact ⟨rfl, rfl⟩

theorem log2Pow10_any (x : Int) (w : World) (h1 : -10000 ≤ x) (h2 : x ≤ 10000) :
    Calls Tryd.prog 57 #[.int .i64 x] w fun e w' => e = .returned (.int .i64 (x * 108853 / 32768)) ∧ w' = w := by
  go_enter Tryd.func57, Tryd.ntmps57
  go_wp2
  go_ret
  exact ⟨rfl, rfl⟩

theorem skewed_any (x : Int) (w : World) (h1 : -10000 ≤ x) (h2 : x ≤ 10000) :
    Calls Tryd.prog 55 #[.int .i64 x] w fun e w' => e = .returned (.int .i64 ((x * 631305 - 261663) / 2097152)) ∧ w' = w := by
  go_enter Tryd.func55, Tryd.ntmps55
  go_wp2
  go_ret
  exact ⟨rfl, rfl⟩

theorem log10Pow2_is (x r : Int) (w : World) (h1 : -10000 ≤ x) (h2 : x ≤ 10000) (hr : r = x * 78913 / 262144) :
    Calls Tryd.prog 46 #[.int .i64 x] w fun e w' => e = .returned (.int .i64 r) ∧ w = w' := by
  subst hr
  exact (log10Pow2_any x w h1 h2).mono fun _ _ ⟨h, k⟩ => ⟨h, k.symm⟩

theorem log2Pow10_is (x r : Int) (w : World) (h1 : -10000 ≤ x) (h2 : x ≤ 10000) (hr : r = x * 108853 / 32768) :
    Calls Tryd.prog 57 #[.int .i64 x] w fun e w' => e = .returned (.int .i64 r) ∧ w = w' := by
  subst hr
  exact (log2Pow10_any x w h1 h2).mono fun _ _ ⟨h, k⟩ => ⟨h, k.symm⟩

theorem skewed_is (x r : Int) (w : World) (h1 : -10000 ≤ x) (h2 : x ≤ 10000) (hr : r = (x * 631305 - 261663) / 2097152) :
    Calls Tryd.prog 55 #[.int .i64 x] w fun e w' => e = .returned (.int .i64 r) ∧ w = w' := by
  subst hr
  exact (skewed_any x w h1 h2).mono fun _ _ ⟨h, k⟩ => ⟨h, k.symm⟩

def uFloor (u : Nat) : Nat := u / 4
def uCeil (u : Nat) : Nat := (u + 3) % 18446744073709551616 / 4
def uRound (u : Nat) : Nat := (u + 1 + u / 4 % 2) % 18446744073709551616 / 4
def uNudge (u : Nat) (d : Int) : Nat := (((u : Int) + d) % 18446744073709551616).toNat
def uDiv (u d : Nat) : Nat := (u / d ||| u % 2) ||| b2n (decide (u % d ≠ 0))

theorem floor_any (u : Nat) (w : World) (h : u < 18446744073709551616) :
    Calls Tryd.prog 61 #[.int .u64 u] w fun e w' => e = .returned (.int .u64 (uFloor u : Nat)) ∧ w' = w := by
  go_enter Tryd.func61, Tryd.ntmps61
  go_wp2
  go_ret
  exact ⟨rfl, rfl⟩

theorem ceil_any (u : Nat) (w : World) (h : u < 18446744073709551616) :
    Calls Tryd.prog 60 #[.int .u64 u] w fun e w' => e = .returned (.int .u64 (uCeil u : Nat)) ∧ w' = w := by
  have e1 : IntKind.u64.wrap ((u : Int) + 3) = (((u + 3) % 18446744073709551616 : Nat) : Int) := by rw [IntKind.wrap_u64]; omega
  unfold uCeil
  generalize (u + 3) % 18446744073709551616 = k at *
  go_enter Tryd.func60, Tryd.ntmps60
  go_wp2
  go_ret
  exact ⟨rfl, rfl⟩

theorem round_any (u : Nat) (w : World) (h : u < 18446744073709551616) :
    Calls Tryd.prog 62 #[.int .u64 u] w fun e w' => e = .returned (.int .u64 (uRound u : Nat)) ∧ w' = w := by
  have e1 : IntKind.u64.wrap ((u : Int) + 1) = (((u + 1) % 18446744073709551616 : Nat) : Int) := by rw [IntKind.wrap_u64]; omega
  have e2 : bits .and .u64 ((u : Int) / 4) 1 = ((u / 4 % 2 : Nat) : Int) := by
    have := u64_and1 (u / 4) (by omega)
    rw [← this]; rfl
  have e3 : IntKind.u64.wrap ((((u + 1) % 18446744073709551616 : Nat) : Int) + ((u / 4 % 2 : Nat) : Int)) = (((u + 1 + u / 4 % 2) % 18446744073709551616 : Nat) : Int) := by rw [IntKind.wrap_u64]; omega
  unfold uRound
  generalize (u + 1) % 18446744073709551616 = k at *
  generalize (u + 1 + u / 4 % 2) % 18446744073709551616 = k2 at *
  generalize u / 4 % 2 = k3 at *
  go_enter Tryd.func62, Tryd.ntmps62
  go_wp2
  go_ret
  exact ⟨rfl, rfl⟩

theorem nudge_any (u : Nat) (d : Int) (w : World) (h : u < 18446744073709551616) (h1 : -9223372036854775808 ≤ d) (h2 : d ≤ 9223372036854775807) :
    Calls Tryd.prog 59 #[.int .u64 u, .int .i64 d] w fun e w' => e = .returned (.int .u64 (uNudge u d : Nat)) ∧ w' = w := by
  have e1 : IntKind.u64.wrap ((u : Int) + IntKind.u64.wrap d) = (uNudge u d : Nat) := by
    unfold uNudge; rw [IntKind.wrap_u64, IntKind.wrap_u64]; omega
  generalize uNudge u d = k at *
  go_enter Tryd.func59, Tryd.ntmps59
  go_wp2
  go_ret
  exact ⟨rfl, rfl⟩

theorem unmin_any (u : Nat) (w : World) (h : 1 ≤ u) (h1 : u < 4611686018427387904) :
    Calls Tryd.prog 65 #[.int .u64 u] w fun e w' => e = .returned (.int .u64 ((u * 4 - 2 : Nat) : Int)) ∧ w' = w := by
  have e1 : ((u : Int) * 4 - 2) = ((u * 4 - 2 : Nat) : Int) := by omega
  go_enter Tryd.func65, Tryd.ntmps65
  go_wp2
  go_ret
  exact ⟨rfl, rfl⟩

theorem bool2i_any (b : Bool) (w : World) :
    Calls Tryd.prog 64 #[.bool b] w fun e w' => e = .returned (.int .i64 (b2n b : Nat)) ∧ w' = w := by
  cases b <;> (
    go_enter Tryd.func64, Tryd.ntmps64
    go_wp2
    go_ret
    exact ⟨rfl, rfl⟩)

theorem bool2u_any (b : Bool) (w : World) :
    Calls Tryd.prog 76 #[.bool b] w fun e w' => e = .returned (.int .u64 (b2n b : Nat)) ∧ w' = w := by
  cases b <;> (
    go_enter Tryd.func76, Tryd.ntmps76
    go_wp2
    go_ret
    exact ⟨rfl, rfl⟩)

theorem bool2r_any (b : Bool) (w : World) :
    Calls Tryd.prog 77 #[.bool b] w fun e w' => e = .returned (.int .u64 (b2n b : Nat)) ∧ w' = w := by
  cases b <;> (
    go_enter Tryd.func77, Tryd.ntmps77
    go_wp2
    go_ret
    exact ⟨rfl, rfl⟩)

theorem div_any (u : Nat) (w : World) (h : u < 18446744073709551616) :
    Calls Tryd.prog 66 #[.int .u64 u, .int .u64 10] w fun e w' => e = .returned (.int .u64 (uDiv u 10 : Nat)) ∧ ∃ n, w' = w.drewN n := by
  have e1 : bits .and .u64 (u : Int) 1 = ((u % 2 : Nat) : Int) := u64_and1 u h
  have e2 : bits .or .u64 ((u : Int) / 10) ((u % 2 : Nat) : Int) = ((u / 10 ||| u % 2 : Nat) : Int) := u64_or_nat (u / 10) (u % 2) (by omega) (by omega)
  have B := bool2r_any (decide (u % 10 ≠ 0))
  have hb := b2n_le (decide (u % 10 ≠ 0))
  have hd : (((u : Int) % 10) != 0) = decide (u % 10 ≠ 0) := by
    rw [Bool.eq_iff_iff]; simp only [bne_iff_ne, decide_eq_true_eq]; omega
  have e3 : bits .or .u64 ((u / 10 ||| u % 2 : Nat) : Int) ((b2n (decide (u % 10 ≠ 0)) : Nat) : Int) = ((uDiv u 10 : Nat) : Int) :=
    u64_or_nat _ _ (by
      have : u / 10 ||| u % 2 < 2 ^ 64 := Nat.or_lt_two_pow (by omega) (by omega)
      omega) (by omega)
  generalize uDiv u 10 = k3 at *
  generalize b2n (decide (u % 10 ≠ 0)) = c at *
  generalize decide (u % 10 ≠ 0) = q at *
  generalize u / 10 ||| u % 2 = k at *
  generalize u % 2 = k2 at *
  have HB := Lib.hid B
  clear B
  go_enter Tryd.func66, Tryd.ntmps66
  go_wp2_with fail
  go_quiet ((go_at_call 77; exact Calls.quiet_of_same (HB.out _)))
  go_wp2_with fail
  go_ret
  exact ⟨rfl, _, rfl⟩
end Go.Proofs.YtffooimnioigdaaDoor
