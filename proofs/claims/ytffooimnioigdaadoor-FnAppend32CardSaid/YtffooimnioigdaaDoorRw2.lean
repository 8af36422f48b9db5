/-
  From the walk of a law to its row.
-/
import Derived.Test.YtffooimnioigdaaDoorRw3
import Derived.Test.YtffooimnioigdaaDoorTie
import Derived.Test.YtffooimnioigdaaDoorLw1
import Derived.Test.YtffooimnioigdaaDoorLen
namespace Go.Proofs.YtffooimnioigdaaDoor
open Go.ChangeShapes Go.WideShapes Go.ChangeAt Go.RowKit
set_option linter.unusedSimpArgs false
set_option linter.unusedVariables false

theorem ownK : ownKnob Tryd.prog.godebug = none := by kernel_rfl

theorem env_of_laidH {W : World} (h : laidMetH Tryd.prog laidAll W) : Env W.heap.size W := by
  rw [MakeChecks.laidMetH_plain _ _ _ (by kernel_rfl)] at h
  exact env_of_laid h
theorem laid_metH (os : Os) (args : Array Value) : laidMetH Tryd.prog laidAll ((laidWorld os).forCall (fun _ _ => 0) ⟨#[], args, []⟩).memory := by
  rw [MakeChecks.laidMetH_plain _ _ _ (by kernel_rfl)]
  exact laid_met os args

theorem kept_of_grown {w w' : World} (h : w.grownBy w' none) (may : MemPlace → Prop) : w.keptBut w' may := by
  refine ⟨h.os, h.output, fun i hi => ?_⟩
  rw [h.block i hi (by simp)]
  cases w.heap[i]? with
  | none => rfl
  | some o =>
    cases o with
    | cells c t fr => exact ⟨rfl, rfl, rfl, fun _ _ => rfl⟩
    | map es clock => exact Or.inr ⟨rfl, rfl⟩
    | _ => rfl

/-- A law whose arguments read behind the call as they did. -/
theorem post_true {H : Type} {enc : TypeId × Value → H} {f : Func} {s : ChangeSpec} {W W' : World} {args : Array Value} {ds : List (DataW H)} {p : List MemPlace}
    (hv : s.vars = []) (hr : f.resultTypes = #[4]) (hfn : s.fn H ds = { results := [.lit (.bool true)], args := ds })
    (hW : DataW.Whole enc Tryd.prog f.params.toList s.vars false W args.toList ds [] p)
    (hargs : ∀ sp : Nat → Bool, DataW.TrodAll enc Tryd.prog W' 0 sp true f.params.toList args.toList ds p) (hg : W.grownBy W' none) :
    s.post enc Tryd.prog f false true false false W args (.bool true) W' := by
  refine ⟨ds, [], p, [], p, [], hW, ?_, ?_, ?_, kept_of_grown hg _, fun h => by cases h⟩
  · rw [List.append_nil, hfn, hr]
    exact trodAll_cons_mk (shut_bool Tryd.underlying4 _) trodAll_mk0
  · rw [List.append_nil, hfn]
    exact hargs _
  · rw [List.append_nil, hfn, hv]
    rfl
end Go.Proofs.YtffooimnioigdaaDoor
