/-
  Regions that draw their order, over frames as functions: one operation after the other, each by its number.
-/
import Derived.Test.YtffooimnioigdaaDoorFr
import Derived.Deep.RegionHeld3
namespace Go.Proofs.YtffooimnioigdaaDoor
open Go.RowKit
set_option linter.unusedSimpArgs false
set_option linter.unusedVariables false

section
variable {P : Program} {ops : Array Oper} {Q : Exit → Act → World → Prop} {md : Region.Mode} {S : World → Prop} {n : Nat} {env : List (Nat × Value)} {s : Nat → Value} {w : World} {fuel : Nat} {listed : Array Bool}

/-- An operation that yields v in every world that meets S is taken first. -/
theorem take_F (i d : Nat) {oi : Oper} {v : Value} (hi : ops[i]? = some oi) (hd : oi.dst = some d) (hs : Region.noSelect ops = true) (hf : Region.free md ops listed i = true) (hr : (Region.ready md ops listed).contains i = true)
    (hQ : ∀ c a d v w, Q (.panic c) (a.put d v) w → Q (.panic c) a w) (hw : Region.wanted oi (yielded ops (Fr n env s).tmps) = true) (hS : S w) (hy : ∀ w, S w → (execOp (Fr n env s).eval oi).run P w = .ok (.value v) w)
    (h : wpAnyH P md ops Q S fuel (listed.setIfInBounds i true) (Fr n ((d, v) :: env) s) w) : wpAnyH P md ops Q S (fuel + 1) listed (Fr n env s) w := by
  refine wpAnyH_take hi hs hf hr (fun c a w h => hQ c a _ _ w h) (Or.inl ⟨hw, hy⟩) hS ?_
  rw [hd, Fr_put]
  exact h

/-- An operation that is not wanted. -/
theorem skip_F (i d : Nat) {oi : Oper} (hi : ops[i]? = some oi) (hd : oi.dst = some d) (hs : Region.noSelect ops = true) (hf : Region.free md ops listed i = true) (hr : (Region.ready md ops listed).contains i = true)
    (hQ : ∀ c a d v w, Q (.panic c) (a.put d v) w → Q (.panic c) a w) (hw : Region.wanted oi (yielded ops (Fr n env s).tmps) = false) (hS : S w)
    (h : wpAnyH P md ops Q S fuel (listed.setIfInBounds i true) (Fr n ((d, undef) :: env) s) w) : wpAnyH P md ops Q S (fuel + 1) listed (Fr n env s) w := by
  refine wpAnyH_take hi hs hf hr (fun c a w h => hQ c a _ _ w h) (Or.inr ⟨hw, rfl⟩) hS ?_
  rw [hd, Fr_put]
  exact h

/-- The one operation that may come up. -/
theorem only_F (i : Nat) {oi : Oper} (hi : ops[i]? = some oi) (hr : Region.ready md ops listed = [i]) (hw : Region.wanted oi (yielded ops (Fr n env s).tmps) = true)
    (h : ∀ K : Act → World → Prop, Hid (∀ env w', S w' → wpAnyH P md ops Q S fuel (listed.setIfInBounds i true) (Fr n env s) w' → K (Fr n env s) w') → Oper.wp P oi (Fr n env s) w K Q) : wpAnyH P md ops Q S (fuel + 1) listed (Fr n env s) w := by
  refine wpAnyH_ready hr (by simp) ?_
  refine AllReadyH.cons hi (fun K hK => ?_) AllReadyH.nil
  rw [if_pos hw]
  exact h K (fun env w' hS hW => hK.out _ _ hS (fun _ => hW))
end
end Go.Proofs.YtffooimnioigdaaDoor
