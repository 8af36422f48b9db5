/-
  Walks: FormatComplex of internal/strconv and of strconv, impl.FormatComplex128, impl.FormatComplex64.
-/
import Derived.Test.YticlnihjhcepkaaGreatDoorCAc
import Derived.Test.YticlnihjhcepkaaGreatDoorGg
namespace Go.Proofs.YticlnihjhcepkaaGreatDoor
open Go.RowKit
set_option linter.unusedSimpArgs false
set_option linter.unusedVariables false

theorem arrLen64 : Tryz.prog.arrayLen 115 = 64 := by simp [Program.arrayLen, Program.elem, Tryz.underlying115]
theorem slice64 (g n : Nat) (W : World) (hn : n ≤ 64) : (Instr.sliceAt 115 (.pointer (some ⟨g, 0, none⟩)) none (some (.int .i64 (n : Int))) none).run Tryz.prog W = .ok (.slice (some ⟨g, 0, none⟩) n 64) W := by
  rw [run_sliceAt_array_h W 115 ⟨g, 0, none⟩ (by simp [Program.arrayLen, Program.elem, Tryz.underlying115]) .i64 (n : Int) (by omega) (by rw [arrLen64]; omega)]
  go_simp

theorem OwnB.fresh {T : Nat} {w : World} (hT : T ≤ w.heap.size) (xs : List Value) (e : TypeId) (n : Nat) (hn : xs.length = n) (h : n ≤ 1000) : OwnB T (w.alloc (.cells xs.toArray e)) (.slice (some ⟨w.heap.size, 0, none⟩) 0 n) [] := by
  refine ⟨⟨w.heap.size, xs, ?_, Row.new w xs e, ?_⟩, fun k hk => ?_⟩
  · simp [hn]
  · simp [maxLen]; omega
  · simp [Value.ownBlock] at hk; omega

theorem fInt_ne' (ds : List UInt8) (dp : Int) : fInt ds dp ≠ [] := by
  unfold fInt
  split
  · intro h
    have := congrArg List.length h
    simp only [List.length_append, List.length_take, List.length_replicate, List.length_nil] at this
    omega
  · simp
theorem efgL_ne' (neg : Bool) (ds : List UInt8) (dp pr f : Int) : efgL neg ds dp pr f ≠ [] := by
  unfold efgL
  split
  · unfold efgE; simp
  · split
    · unfold efgF
      have := fInt_ne' ds dp
      simp [this]
    · simp
theorem ftoaL_ne (eb mb : Nat) (bias : Int) (Z : Nat) (ME : Int) (b : Nat) (f prec : Int) : ftoaL eb mb bias Z ME b f prec ≠ [] := by
  unfold ftoaL
  split
  · (repeat' split) <;> simp
  · split
    · unfold fmtBL; simp
    · split
      · unfold xL; simp
      · unfold efgP
        exact efgL_ne' _ _ _ _ _
theorem ftoa64L_ne' (b : Nat) (f prec : Int) : ftoa64L b f prec ≠ [] := ftoaL_ne _ _ _ _ _ _ _ _
theorem ftoa32L_ne (b : Nat) (f prec : Int) : ftoa32L b f prec ≠ [] := ftoaL_ne _ _ _ _ _ _ _ _

end Go.Proofs.YticlnihjhcepkaaGreatDoor
