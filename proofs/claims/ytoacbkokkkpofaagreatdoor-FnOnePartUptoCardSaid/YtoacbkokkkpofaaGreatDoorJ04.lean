/- Lemmas that the claim's top text leans on. No condition of their own. -/
import Derived.Test.YtoacbkokkkpofaaGreatDoorJ03
import Derived.Lib.ItoaNum
namespace Go.Proofs.YtoacbkokkkpofaaGreatDoor
open Go.RowKit
set_option linter.unusedSimpArgs false
set_option linter.unusedVariables false
set_option maxHeartbeats 16000000
section
open Go.RowKit Go.Sort
def zkm (b:UInt8):Value:=Value.int .u8 (b.toNat:Int)
def yi (d:Nat):Nat:=if d=0 then 0 else Lib.nDigits d
def qw (d n:Nat):List UInt8:=(List.range n).map fun t=>Lib.dg d (n-1-t)
theorem va (d n:Nat):(qw d n).length=n:=by simp[qw]
def uc (l:List UInt8):Nat->Nat
 | 0=>0
 | n+1=>if l.getD n 0=48 then uc l n else n+1
theorem zjj (l:List UInt8) (n:Nat):uc l n<=n:=by
 induction n with
 | zero=>exact Nat.le_refl _
 | succ n ih=>unfold uc;split <;> omega
theorem xi (d:Nat):d<10^yi d:=by
 unfold yi;split
 ·subst_vars;decide
 ·exact Lib.lt_pow_nDigits d
end
def OwnB (T:Nat) (w:World) (v:Value) (xs:List UInt8):Prop:=Own w v (xs.map zkm)/\∀ k,v.ownBlock=some k->T<=k
theorem OwnB.alloc {T:Nat} {w:World} {v:Value} {xs:List UInt8} (h:OwnB T w v xs) (o:Obj):OwnB T (w.alloc o) v xs:=⟨h.1.alloc o,h.2⟩
theorem OwnB.block {T:Nat} {w:World} {v:Value} {xs:List UInt8} (h:OwnB T w v xs):∃ g c,v=.slice (some ⟨g,0,none⟩) xs.length c/\T<=g/\g<w.heap.size/\xs.length<=c/\c<=maxLen:=by
 obtain⟨⟨g,rest,rfl,hr,hm⟩,hT⟩:=h;refine⟨g,_,zi,hT g rfl,hr.lt,zi,hm⟩
theorem OwnB.lt {T:Nat} {w:World} {v:Value} {xs:List UInt8} (h:OwnB T w v xs):T<w.heap.size:=by
 obtain⟨g,c,rfl,h1,h2,_⟩:=h.block;omega
def zpw (P:Program) (t:TypeId):Prop:=∃ e i z,P.underlying t=some (.slice e)/\P.info? e=some i/\i.zero=some z/\i.size=1/\z.cells.size=1/\i.bytes=1
theorem zhu {P:Program} {ops:Array Oper} {rest:List Oper} {o:Oper} {a:Act} {Q:Exit->Act->World->Prop} {w:World} (hgd:o.guard=none) (s x:Operand) (t tx:TypeId)
  (ho:o.op=.call { callee:=.builtin .append,args:=#[s,x],argTypes:=#[t,tx] }) (hty:zpw P t) {T:Nat} {v:Value} {xs:List UInt8} (hown:OwnB T w v xs) (hs:a.eval s=v)
  (xv:Value) (hx:a.eval x=xv) (ys:List UInt8) (hsrc:Src P 1 tx xv ys.length (ys.map zkm) w) (hb:xs.length+ys.length<=140737489400000)
  (h:∀ v' w',OwnB T w' v' (xs++ys)->Stp w v w' v'->wpList P ops Q rest (a.put o.dst v') w'):wpList P ops Q (o::rest) a w:=by
 obtain⟨e,i,z,h1,h2,h3,h4,h5,h6⟩:=hty;have hlt:=hown.lt;obtain⟨v',w',hrun,hown',hstp⟩:=ql (P:=P) w t tx o.type e i z h1 h2 h3 h4 h5 v (xs.map zkm) hown.1 xv ys.length (ys.map zkm) hsrc zαi zd;refine wpList_plain hgd fun K hK=>?_
 unfold Oper.wp execOp;simp only[ho,resolve,invoke,builtin,Sem.run_bind,Sem.run_pure,Result.andThen_ok,List.map_toArray,List.map_cons,List.map_nil,hs,hx,hrun];refine hK _ _ (h v' w' ⟨by rw[List.map_append];exact hown',fun k hk=>?_⟩ hstp);by_cases hkl:k<w.heap.size
 ·exact hown.2 k (hstp.2 k hk hkl)
 ·omega
theorem zmx {P:Program} {w:World} {tx e':TypeId} (hk:P.underlying tx=some (.slice e')) (us:List UInt8) (E:TypeId):Src P 1 tx (.slice (some ⟨w.heap.size,0,none⟩) us.length us.length) us.length (us.map zkm) (w.alloc (.cells (us.map zkm).toArray E)):=by
 have hr:=Row.new w (us.map zkm) E;refine Src.ofSlice _ hk ⟨w.heap.size,0,none⟩ us.length us.length (us.map zkm) zi (fun j v hj=>?_) (fun v hv=>?_)
 ·have e:((⟨w.heap.size,0,none⟩:Addr).add j)=⟨w.heap.size,j,none⟩:=by
   unfold Addr.add;split
   ·subst_vars;rfl
   ·simp
  rw[e,hr.cell];exact hj
 ·obtain⟨b,_,rfl⟩:=List.mem_map.1 hv;rfl
theorem zr3:(Tryz.prog.info? 5).map (fun i=>(i.zero,i.size,i.bytes))=some (some (.int .u8 0),1,1):=by kernel_rfl
theorem zsw:zpw Tryz.prog 67:=by
 obtain⟨i0,hi,hz0,hz1,hz2⟩:=info_parts zr3;exact⟨5,i0,_,Tryz.underlying67,hi,hz0,hz1,rfl,hz2⟩
end Go.Proofs.YtoacbkokkkpofaaGreatDoor
