/-
  The witness world: its variables are well formed.
-/
import Derived.Test.YtffooimnioigdaaDoorRw1
import Derived.Deep.DeepWitnessRowRef
namespace Go.Proofs.YtffooimnioigdaaDoor
open Go.ChangeShapes Go.WideShapes Go.ChangeAt Go.RowKit
set_option linter.unusedSimpArgs false
set_option linter.unusedVariables false

theorem types_tab : Tryd.prog.cellTypes Tryd.prog.depth 101 = some (List.replicate 1392 24) := by kernel_rfl
theorem pow10_cell (v : Value) (h : v ∈ pow10Cells.toList) : ∃ n : Int, v = .int .u64 n ∧ (Lit.int .u64 n).wf = true := by
  unfold pow10Cells at h
  rw [List.toList_toArray, List.mem_flatMap] at h
  obtain ⟨x, hx, hv⟩ := h
  have hwf := List.all_eq_true.1 pow10_wf _ hx
  rw [Bool.and_eq_true] at hwf
  simp only [List.mem_cons, List.not_mem_nil, or_false] at hv
  rcases hv with rfl | rfl
  · exact ⟨_, rfl, hwf.1⟩
  · exact ⟨_, rfl, hwf.2⟩
theorem okRef_tab (W : World) : Row.okRefB Tryd.prog W 101 pow10Cells = true := by
  unfold Row.okRefB
  rw [types_tab]
  dsimp only
  rw [pow10_size, List.length_replicate, Bool.and_eq_true]
  refine ⟨by decide, ?_⟩
  rw [List.all_eq_true]
  intro i hi
  have hi' := List.mem_range.1 hi
  have hlt : i < pow10Cells.size := by rw [pow10_size]; exact hi'
  rw [Nat.mod_eq_of_lt hi', List.getElem?_replicate, if_pos hi', Array.getElem?_eq_getElem hlt]
  obtain ⟨n, hn, hw⟩ := pow10_cell pow10Cells[i] (by rw [Array.mem_toList_iff]; exact Array.getElem_mem hlt)
  rw [hn]
  dsimp only
  simp only [Lit.wf, Bool.and_eq_true, decide_eq_true_eq] at hw
  simp [Cell.okRefB, Cell.okB, Tryd.underlying24, hw]

theorem zero_tab : ((begin Tryd.prog (fun _ _ => 0) default).world.heap[3]?.bind Obj.row?).map (fun x => (x.1.size, x.2)) = some (1392, 101) := by kernel_rfl

theorem heap_tab (os : Os) (args : Array Value) : ((laidWorld os).forCall (fun _ _ => 0) ⟨#[], args, []⟩).heap[3]? = some (.cells pow10Cells 101 (0, 0)) := by kernel_rfl

theorem vars_ok (os : Os) (args : Array Value) : ((laidWorld os).forCall (fun _ _ => 0) ⟨#[], args, []⟩).variablesRefB Tryd.prog = true := by
  unfold World.variablesRefB
  rw [show Tryd.prog.globals.size = 7 by kernel_rfl, show List.range 7 = [0, 1, 2, 3, 4, 5, 6] by rfl]
  simp only [List.all_cons, List.all_nil, Bool.and_true, Bool.and_eq_true]
  refine ⟨by kernel_rfl, by kernel_rfl, by kernel_rfl, ?_, by kernel_rfl, by kernel_rfl, by kernel_rfl⟩
  have hz := zero_tab
  rw [heap_tab os args]
  cases h : ((begin Tryd.prog (fun _ _ => 0) default).world.heap[3]?).bind Obj.row? with
  | none => rfl
  | some x =>
    rw [h] at hz
    obtain ⟨z, t⟩ := x
    simp only [Option.map_some, Option.some.injEq, Prod.mk.injEq] at hz
    obtain ⟨hz1, rfl⟩ := hz
    dsimp only
    rw [okRef_tab, hz1, pow10_size]
    simp
end Go.Proofs.YtffooimnioigdaaDoor
