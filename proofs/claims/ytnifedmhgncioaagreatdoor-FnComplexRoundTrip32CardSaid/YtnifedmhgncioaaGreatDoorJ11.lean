/- Lemmas that the claim's top text leans on. No condition of their own. -/
import Derived.Test.YtnifedmhgncioaaGreatDoorJ06
import Derived.Deep.RegionHeld3
namespace Go.Proofs.YtnifedmhgncioaaGreatDoor
open Go.RowKit
set_option linter.unusedSimpArgs false
set_option linter.unusedVariables false
set_option maxHeartbeats 16000000
section
section
variable {P : Program} {ops : Array Oper} {Q : Exit → Act → World → Prop} {md : Region.Mode} {S : World → Prop} {n : Nat} {env : List (Nat × Value)} {s : Nat → Value} {w : World} {fuel : Nat} {listed : Array Bool}
theorem xg (i d:Nat) {oi:Oper} {v:Value} (hi:ops[i]?=some oi) (hd:oi.dst=some d) (hs:Region.noSelect ops=true) (hf:Region.free md ops listed i=true) (hr:(Region.ready md ops listed).contains i=true)
  (hQ:∀ c a d v w,Q (.panic c) (a.put d v) w->Q (.panic c) a w) (hw:Region.wanted oi (yielded ops (Fr n env s).tmps)=true) (hS:S w) (hy:∀ w,S w->(execOp (Fr n env s).eval oi).run P w=.ok (.value v) w)
  (h:wpAnyH P md ops Q S fuel (listed.setIfInBounds i true) (Fr n ((d,v)::env) s) w):wpAnyH P md ops Q S (fuel+1) listed (Fr n env s) w:=by
 refine wpAnyH_take hi hs hf hr (fun c a w h=>hQ c a _ _ w h) (Or.inl ⟨hw,hy⟩) hS ?_;rw[hd,zkt];exact h
theorem yg (i d:Nat) {oi:Oper} {v:Value} (h:wpAnyH P md ops Q S fuel (listed.setIfInBounds i true) (Fr n ((d,v)::env) s) w) (hi:ops[i]?=some oi:=by ((simp only[List.getElem?_toArray,List.getElem?_cons_succ,List.getElem?_cons_zero]);rfl)) (hd:oi.dst=some d:=by rfl) (hs:Region.noSelect ops=true:=by kernel_rfl) (hf:Region.free md ops listed i=true:=by kernel_rfl) (hr:(Region.ready md ops listed).contains i=true:=by kernel_rfl)
  (hQ:∀ c a d v w,Q (.panic c) (a.put d v) w->Q (.panic c) a w:=by intro _ _ _ _ _ h;exact h) (hw:Region.wanted oi (yielded ops (Fr n env s).tmps)=true:=by (first | rfl | (simp only[Region.wanted,yielded,List.getElem?_toArray,List.getElem?_cons_succ,List.getElem?_cons_zero,Option.bind_some,Option.map_some,Fr_get?,yc,yd];rfl) | go_simp)) (hS:S w:=by assumption) (hy:∀ w,S w->(execOp (Fr n env s).eval oi).run P w=.ok (.value v) w:=by (intro w hSw;go_simp;try with_reducible rfl)):
  wpAnyH P md ops Q S (fuel+1) listed (Fr n env s) w:=xg i d hi hd hs hf hr hQ hw hS hy h
theorem znk (i:Nat) {oi:Oper} (hi:ops[i]?=some oi) (hr:Region.ready md ops listed=[i]) (hw:Region.wanted oi (yielded ops (Fr n env s).tmps)=true)
  (h:∀ K:Act->World->Prop,Hid (∀ env w',S w'->wpAnyH P md ops Q S fuel (listed.setIfInBounds i true) (Fr n env s) w'->K (Fr n env s) w')->Oper.wp P oi (Fr n env s) w K Q):wpAnyH P md ops Q S (fuel+1) listed (Fr n env s) w:=by
 refine wpAnyH_ready hr zi ?_;refine AllReadyH.cons hi (fun K hK=>?_) AllReadyH.nil;rw[if_pos hw];exact h K (fun env w' hS hW=>hK.out _ _ hS (fun _=>hW))
theorem zO (i:Nat) {oi:Oper} (h:∀ K:Act->World->Prop,Hid (∀ env w',S w'->wpAnyH P md ops Q S fuel (listed.setIfInBounds i true) (Fr n env s) w'->K (Fr n env s) w')->Oper.wp P oi (Fr n env s) w K Q) (hi:ops[i]?=some oi:=by (simp only[List.getElem?_toArray,List.getElem?_cons_succ,List.getElem?_cons_zero]);rfl) (hr:Region.ready md ops listed=[i]:=by kernel_rfl) (hw:Region.wanted oi (yielded ops (Fr n env s).tmps)=true:=by first | rfl | go_simp):wpAnyH P md ops Q S (fuel+1) listed (Fr n env s) w:=znk i hi hr hw h
end
end
end Go.Proofs.YtnifedmhgncioaaGreatDoor
