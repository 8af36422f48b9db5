/-
  Walks: finite of the laws.
-/
import Derived.Test.YticlnihjhcepkaaDoorCLf0
namespace Go.Proofs.YticlnihjhcepkaaDoor
open Go.RowKit
set_option linter.unusedSimpArgs false
set_option linter.unusedVariables false

set_option maxHeartbeats 1000000 in
theorem finite64_any (b : Nat) (w : World) (hb : b < 18446744073709551616) :
    Calls Tryd.prog 8 #[.int .i64 64, .int .u64 (b : Int)] w fun e w' => e = .returned (.bool (decide (b % 9223372036854775808 < 9218868437227405312))) ∧ w = w' := by
  have HK := Lib.hid (fun W => kind64_any b W hb)
  obtain ⟨k, hk⟩ : ∃ k, kindB 9218868437227405312 9223372036854775808 b = k := ⟨_, rfl⟩
  have hr : (k == 0) = decide (b % 9223372036854775808 < 9218868437227405312) := by
    rw [← hk]
    unfold kindB
    split
    · rename_i h; simp [h]
    · rename_i h
      rw [decide_eq_false h]
      split <;> rfl
  rw [hk] at HK
  rw [← hr]
  clear hk hr
  go_enter Tryd.func8, Tryd.ntmps8
  go_wp2_with fail
  refine (HK.out _).mono ?_
  rintro x w1 ⟨rfl, rfl⟩
  go_wp2_with fail
  go_ret
  exact ⟨rfl, rfl⟩
set_option maxHeartbeats 1000000 in
theorem finite32_any (b : Nat) (w : World) (hb : b < 4294967296) :
    Calls Tryd.prog 8 #[.int .i64 32, .int .u64 (b : Int)] w fun e w' => e = .returned (.bool (decide (b % 2147483648 < 2139095040))) ∧ w = w' := by
  have HK := Lib.hid (fun W => kind32_any b W hb)
  obtain ⟨k, hk⟩ : ∃ k, kindB 2139095040 2147483648 b = k := ⟨_, rfl⟩
  have hr : (k == 0) = decide (b % 2147483648 < 2139095040) := by
    rw [← hk]
    unfold kindB
    split
    · rename_i h; simp [h]
    · rename_i h
      rw [decide_eq_false h]
      split <;> rfl
  rw [hk] at HK
  rw [← hr]
  clear hk hr
  go_enter Tryd.func8, Tryd.ntmps8
  go_wp2_with fail
  refine (HK.out _).mono ?_
  rintro x w1 ⟨rfl, rfl⟩
  go_wp2_with fail
  go_ret
  exact ⟨rfl, rfl⟩

end Go.Proofs.YticlnihjhcepkaaDoor
