/- Lemmas that the claim's top text leans on. No condition of their own. -/
import Derived.Test.YtnifedmhgncioaaGreatDoorJ39
import Derived.Test.YtnifedmhgncioaaGreatDoorTie
import Derived.Test.YtnifedmhgncioaaGreatDoorJ36
namespace Go.Proofs.YtnifedmhgncioaaGreatDoor
open Go.RowKit
set_option linter.unusedSimpArgs false
set_option linter.unusedVariables false
set_option maxHeartbeats 16000000
section
open Go.ChangeShapes Go.WideShapes Go.ChangeAt Go.RowKit
theorem ya0:ownKnob Tryz.prog.godebug=none:=by kernel_rfl
theorem zfm {w w':World} (h:w.grownBy w' none) (may:MemPlace->Prop):w.keptBut w' may:=by
 refine⟨h.os,h.output,fun i hi=>?_⟩;rw[h.block i hi zi];cases w.heap[i]? with
 | none=>rfl
 | some o=>
  cases o with
  | cells c t fr=>exact⟨rfl,rfl,rfl,fun _ _=>rfl⟩
  | map es clock=>exact Or.inr ⟨rfl,rfl⟩
  | _=>rfl
theorem znd {H:Type} {enc:TypeId×Value->H} {f:Func} {s:ChangeSpec} {W W':World} {args:Array Value} {ds:List (DataW H)} {p:List MemPlace}
  (hv:s.vars=[]) (hr:f.resultTypes=#[4]) (hfn:s.fn H ds={ results:=[.lit (.bool true)],args:=ds })
  (hW:DataW.Whole enc Tryz.prog f.params.toList s.vars false W args.toList ds [] p)
  (hargs:∀ sp:Nat->Bool,DataW.TrodAll enc Tryz.prog W' 0 sp true f.params.toList args.toList ds p) (hg:W.grownBy W' none):
  s.post enc Tryz.prog f false true false false W args (.bool true) W':=by
 refine⟨ds,[],p,[],p,[],hW,?_,?_,?_,zfm hg _,fun h=>zF⟩
 ·rw[List.append_nil,hfn,hr];exact trodAll_cons_mk (shut_bool Tryz.underlying4 _) trodAll_mk0
 ·rw[List.append_nil,hfn];exact hargs _
 ·rw[List.append_nil,hfn,hv];rfl
end
section
open Go.ChangeShapes Go.WideShapes Go.ChangeAt Go.RowKit
theorem ysk (eb mb b:Nat) (hb:b<2^(eb+mb)):flE eb mb (b+2^(eb+mb))=flE eb mb b:=by
 unfold flE;rw[show 2^(eb+mb)=2^mb*2^eb by rw[Nat.pow_add,Nat.mul_comm],Nat.add_mul_div_left _ _ (Nat.pow_pos zd),Nat.add_mod_right]
theorem ysj (eb mb b:Nat):flF mb (b+2^(eb+mb))=flF mb b:=by
 unfold flF;rw[show 2^(eb+mb)=2^mb*2^eb by rw[Nat.pow_add,Nat.mul_comm],Nat.add_mul_mod_self_left]
theorem yny (eb mb b:Nat) (hb:b<2^(eb+mb)):yta eb mb b=false:=by unfold yta;rw[Nat.div_eq_of_lt hb];rfl
theorem yp4 (eb mb b:Nat) (hb:b<2^(eb+mb)):yta eb mb (b+2^(eb+mb))=true:=by
 unfold yta;rw[Nat.add_div_right _ (Nat.pow_pos zd),Nat.div_eq_of_lt hb];rfl
theorem yos (dp nd prec f:Int) (sh:Bool) (h:f=101\/f=69\/f=102\/f=103\/f=71):(ykz dp nd prec f sh).2=101\/(ykz dp nd prec f sh).2=69\/(ykz dp nd prec f sh).2=102:=by
 unfold ykz;(repeat' split) <;> dsimp only <;> omega
theorem yq6 (f:Int) (P:Pick) (h:f=101\/f=69\/f=102\/f=103\/f=71):ylb true f P=45::ylb false f P:=by
 unfold ylb;have h1:=yos P.dp P.ds.length P.prec f P.sh h;generalize (ykz P.dp (↑P.ds.length) P.prec f P.sh)=g at h1 ⊢;unfold ymh;by_cases h2:g.2=101\/g.2=69
 ·rw[if_pos h2,if_pos h2];rfl
 ·rw[if_neg h2,if_neg h2,if_pos zd,if_pos zd];rfl
theorem yq5 (eb mb b:Nat) (h:b<(2^eb-1)*2^mb):flE eb mb b≠2^eb-1:=by
 unfold flE;have h1:b / 2^mb<2^eb-1:=(Nat.div_lt_iff_lt_mul (Nat.pow_pos zd)).2 h;have h2:=Nat.mod_le (b / 2^mb) (2^eb);omega
theorem ynx (eb mb:Nat) (bias:Int) (Z:Nat) (ME:Int) (b:Nat) (f prec:Int) (hb:b<2^(eb+mb)) (hk:flE eb mb b≠2^eb-1) (hf:f=98\/ylg f=true):
  yj5 eb mb bias Z ME (b+2^(eb+mb)) f prec=45::yj5 eb mb bias Z ME b f prec:=by
 have e1:=ysk eb mb b hb;have e2:=ysj eb mb b;have e3:zen eb mb (b+2^(eb+mb))=zen eb mb b:=by unfold zen;rw[e1,e2]
 have e4:zor eb mb bias (b+2^(eb+mb))=zor eb mb bias b:=by unfold zor;rw[e1]
 unfold yj5;rw[e1,e2,e3,e4,yny eb mb b hb,yp4 eb mb b hb,if_neg hk,if_neg hk];by_cases h98:f=98
 ·rw[if_pos h98,if_pos h98];rfl
 rw[if_neg h98,if_neg h98];by_cases hx:f=120\/f=88
 ·rw[if_pos hx,if_pos hx];rfl
 rw[if_neg hx,if_neg hx];refine yq6 f _ ?_;rcases hf with h | h
 ·exact absurd h h98
 ·unfold ylg at h;simp only[Bool.or_eq_true,beq_iff_eq]at h;omega
end
end Go.Proofs.YtnifedmhgncioaaGreatDoor
