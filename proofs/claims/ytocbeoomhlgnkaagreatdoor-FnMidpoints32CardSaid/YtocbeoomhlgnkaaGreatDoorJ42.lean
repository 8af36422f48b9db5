/- Lemmas that the claim's top text leans on. No condition of their own. -/
import Derived.Test.YtocbeoomhlgnkaaGreatDoorJ41
import Derived.Test.YtocbeoomhlgnkaaGreatDoorTie
import Derived.Test.YtocbeoomhlgnkaaGreatDoorJ11
import Derived.Test.YtocbeoomhlgnkaaGreatDoorJ14
namespace Go.Proofs.YtocbeoomhlgnkaaGreatDoor
open Go.RowKit
set_option linter.unusedSimpArgs false
set_option linter.unusedVariables false
set_option maxHeartbeats 16000000
section
open Go.ChangeShapes Go.WideShapes Go.ChangeAt Go.RowKit
theorem ya0:ownKnob Tryz.prog.godebug=none:=by kernel_rfl
theorem zfm {w w':World} (h:w.grownBy w' none) (may:MemPlace->Prop):w.keptBut w' may:=by
 refine⟨h.os,h.output,fun i hi=>?_⟩;rw[h.block i hi zi];cases w.heap[i]? with
 | none=>rfl
 | some o=>
  cases o with
  | cells c t fr=>exact⟨rfl,rfl,rfl,fun _ _=>rfl⟩
  | map es clock=>exact Or.inr ⟨rfl,rfl⟩
  | _=>rfl
theorem znd {H:Type} {enc:TypeId×Value->H} {f:Func} {s:ChangeSpec} {W W':World} {args:Array Value} {ds:List (DataW H)} {p:List MemPlace}
  (hv:s.vars=[]) (hr:f.resultTypes=#[4]) (hfn:s.fn H ds={ results:=[.lit (.bool true)],args:=ds })
  (hW:DataW.Whole enc Tryz.prog f.params.toList s.vars false W args.toList ds [] p)
  (hargs:∀ sp:Nat->Bool,DataW.TrodAll enc Tryz.prog W' 0 sp true f.params.toList args.toList ds p) (hg:W.grownBy W' none):
  s.post enc Tryz.prog f false true false false W args (.bool true) W':=by
 refine⟨ds,[],p,[],p,[],hW,?_,?_,?_,zfm hg _,fun h=>zF⟩
 ·rw[List.append_nil,hfn,hr];exact trodAll_cons_mk (shut_bool Tryz.underlying4 _) trodAll_mk0
 ·rw[List.append_nil,hfn];exact hargs _
 ·rw[List.append_nil,hfn,hv];rfl
end
section
open Go.ChangeShapes Go.WideShapes Go.ChangeAt Go.RowKit
theorem yd0 (n:Nat) (hn:n<4294967296):bits .and .u32 (n:Int) 2147483647=((n%2147483648:Nat):Int):=by
 have h0:(BitVec.ofInt 32 (n:Int)).toNat=n:=zU;have h1:(BitVec.ofInt 32 (2147483647:Int)).toNat=2^31-1:=ze;have key:(BitVec.ofInt 32 (n:Int)&&&BitVec.ofInt 32 2147483647).toNat=n%2^31:=by
  rw[BitVec.toNat_and,h0,h1,Nat.and_two_pow_sub_one_eq_mod]
 show IntKind.u32.wrap ((BitVec.ofInt 32 (n:Int)&&&BitVec.ofInt 32 2147483647).toNat:Nat)=_;rw[key,IntKind.wrap_u32];omega
end
end Go.Proofs.YtocbeoomhlgnkaaGreatDoor
