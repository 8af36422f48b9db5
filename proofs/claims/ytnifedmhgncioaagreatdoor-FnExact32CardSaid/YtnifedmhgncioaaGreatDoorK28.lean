/- Lemmas that the claim's top text leans on. No condition of their own. -/
import Derived.Test.YtnifedmhgncioaaGreatDoorK27
import Derived.Test.YtnifedmhgncioaaGreatDoorTie
import Derived.Test.YtnifedmhgncioaaGreatDoorK12
import Derived.Test.YtnifedmhgncioaaGreatDoorK15
namespace Go.Proofs.YtnifedmhgncioaaGreatDoor
open Go.RowKit
set_option linter.unusedSimpArgs false
set_option linter.unusedVariables false
set_option maxHeartbeats 16000000
section
open Go.ChangeShapes Go.WideShapes Go.ChangeAt Go.RowKit
theorem ya0:ownKnob Tryz.prog.godebug=none:=by kernel_rfl
theorem zfm {w w':World} (h:w.grownBy w' none) (may:MemPlace->Prop):w.keptBut w' may:=by
 refine⟨h.os,h.output,fun i hi=>?_⟩;rw[h.block i hi zi];cases w.heap[i]? with
 | none=>rfl
 | some o=>
  cases o with
  | cells c t fr=>exact⟨rfl,rfl,rfl,fun _ _=>rfl⟩
  | map es clock=>exact Or.inr ⟨rfl,rfl⟩
  | _=>rfl
theorem znd {H:Type} {enc:TypeId×Value->H} {f:Func} {s:ChangeSpec} {W W':World} {args:Array Value} {ds:List (DataW H)} {p:List MemPlace}
  (hv:s.vars=[]) (hr:f.resultTypes=#[4]) (hfn:s.fn H ds={ results:=[.lit (.bool true)],args:=ds })
  (hW:DataW.Whole enc Tryz.prog f.params.toList s.vars false W args.toList ds [] p)
  (hargs:∀ sp:Nat->Bool,DataW.TrodAll enc Tryz.prog W' 0 sp true f.params.toList args.toList ds p) (hg:W.grownBy W' none):
  s.post enc Tryz.prog f false true false false W args (.bool true) W':=by
 refine⟨ds,[],p,[],p,[],hW,?_,?_,?_,zfm hg _,fun h=>zF⟩
 ·rw[List.append_nil,hfn,hr];exact trodAll_cons_mk (shut_bool Tryz.underlying4 _) trodAll_mk0
 ·rw[List.append_nil,hfn];exact hargs _
 ·rw[List.append_nil,hfn,hv];rfl
end
end Go.Proofs.YtnifedmhgncioaaGreatDoor
