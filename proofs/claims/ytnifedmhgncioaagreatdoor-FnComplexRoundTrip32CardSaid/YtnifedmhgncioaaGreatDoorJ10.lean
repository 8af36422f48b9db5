/- Lemmas that the claim's top text leans on. No condition of their own. -/
import Derived.Test.YtnifedmhgncioaaGreatDoorJ01
import Derived.Test.YtnifedmhgncioaaGreatDoorJ06
namespace Go.Proofs.YtnifedmhgncioaaGreatDoor
open Go.RowKit
set_option linter.unusedSimpArgs false
set_option linter.unusedVariables false
set_option maxHeartbeats 16000000
def qd (x:Nat):Value:=.int .i64 (x:Int)
def OwnI (T:Nat) (w:World) (v:Value) (xs:List Nat):Prop:=Own w v (xs.map qd)/\∀ k,v.ownBlock=some k->T<=k
theorem OwnI.alloc {T:Nat} {w:World} {v:Value} {xs:List Nat} (h:OwnI T w v xs) (o:Obj):OwnI T (w.alloc o) v xs:=⟨h.1.alloc o,h.2⟩
theorem OwnI.drewN {T:Nat} {w:World} {v:Value} {xs:List Nat} (h:OwnI T w v xs) (n:Nat):OwnI T (w.drewN n) v xs:=⟨h.1.drewN n,h.2⟩
theorem OwnI.drew {T:Nat} {w:World} {v:Value} {xs:List Nat} (h:OwnI T w v xs):OwnI T w.drew v xs:=h.drewN 1
theorem OwnI.grown {T:Nat} {w w':World} {row:Option Nat} {v:Value} {xs:List Nat} (h:OwnI T w v xs) (hg:w.grownBy w' row) (hne:v.ownBlock≠row):OwnI T w' v xs:=⟨h.1.grown hg hne,h.2⟩
theorem OwnI.block {T:Nat} {w:World} {v:Value} {xs:List Nat} (h:OwnI T w v xs):∃ g c,v=.slice (some ⟨g,0,none⟩) xs.length c/\T<=g/\g<w.heap.size/\xs.length<=c/\c<=maxLen:=by
 obtain⟨⟨g,rest,rfl,hr,hm⟩,hT⟩:=h;rw[List.length_map]at *
 exact⟨g,_,rfl,hT g rfl,hr.lt,Nat.le_add_right _ _,hm⟩
theorem OwnI.grown0 {T:Nat} {w w':World} {v:Value} {xs:List Nat} (h:OwnI T w v xs) (hg:w.grownBy w' none):OwnI T w' v xs:=by
 obtain⟨g,c,rfl,_⟩:=h.block;exact h.grown hg (by simp[Value.ownBlock])
theorem OwnI.lt {T:Nat} {w:World} {v:Value} {xs:List Nat} (h:OwnI T w v xs):T<w.heap.size:=by
 obtain⟨g,c,rfl,h1,h2,_⟩:=h.block;omega
theorem OwnI.cell {T:Nat} {w:World} {g c L:Nat} {xs:List Nat} (h:OwnI T w (.slice (some ⟨g,0,none⟩) L c) xs) (i u:Nat) (hi:xs[i]?=some u):w.cell? ⟨g,i,none⟩=some (qd u):=by
 obtain⟨⟨g',rest,hv,hr,hm⟩,_⟩:=h;simp only[Value.slice.injEq,Option.some.injEq,Addr.mk.injEq]at hv;obtain⟨⟨rfl,_⟩,_⟩:=hv;have hl:i<xs.length:=by
  rcases Nat.lt_or_ge i xs.length with h | h
  ·exact h
  ·rw[List.getElem?_eq_none h]at hi;cases hi
 rw[hr.cell,List.getElem?_append_left (by rw[List.length_map];exact hl),List.getElem?_map,hi];rfl
theorem OwnI.frozen {T:Nat} {w:World} {g c L:Nat} {xs:List Nat} (h:OwnI T w (.slice (some ⟨g,0,none⟩) L c) xs) (i:Nat):w.frozen? ⟨g,i,none⟩=false:=by
 obtain⟨⟨g',rest,hv,hr,hm⟩,_⟩:=h;simp only[Value.slice.injEq,Option.some.injEq,Addr.mk.injEq]at hv;obtain⟨⟨rfl,_⟩,_⟩:=hv;exact hr.frozen i
theorem OwnI.laid {T:Nat} {w:World} {g c L:Nat} {xs:List Nat} (k x:Nat) (hk:k<xs.length) (h:OwnI T w (.slice (some ⟨g,0,none⟩) L c) xs):
  OwnI T (w.setCell ⟨g,k,none⟩ (qd x)) (.slice (some ⟨g,0,none⟩) L c) (xs.set k x):=by
 obtain⟨⟨g',rest,hv,hr,hm⟩,hT⟩:=h;simp only[Value.slice.injEq,Option.some.injEq,Addr.mk.injEq]at hv;obtain⟨⟨rfl,_⟩,hL,hc⟩:=hv;refine⟨⟨g,rest,?_,?_,?_⟩,hT⟩
 ·rw[hL,hc];simp
 ·have h1:=hr.setCell k (qd x);rw[List.set_append_left _ _ (by rw[List.length_map];exact hk),<-List.map_set]at h1;exact h1
 ·simpa using hm
def zu5 (P:Program) (t:TypeId):Prop:=∃ e i z,P.underlying t=some (.slice e)/\P.info? e=some i/\i.zero=some z/\i.size=1/\z.cells.size=1/\i.bytes=8
theorem yk {P:Program} {ops:Array Oper} {rest:List Oper} {o:Oper} {Q:Exit->Act->World->Prop} {w:World} {n:Nat} {env:List (Nat×Value)} {σ:Nat->Value} (hgd:o.guard=none) (ks kx:Nat) (t tx:TypeId)
  (ho:o.op=.call { callee:=.builtin .append,args:=#[.tmp ks,.tmp kx],argTypes:=#[t,tx] }) (hks:ks<n) (hkx:kx<n) (hty:zu5 P t) {T:Nat} {v:Value} {xs:List Nat} (hown:OwnI T w v xs) (hs:over env σ ks=v)
  (xv:Value) (hx:over env σ kx=xv) (ys:List Nat) (hsrc:Src P 1 tx xv ys.length (ys.map qd) w) (hb:xs.length+ys.length<=10000000)
  (h:∀ v' w',OwnI T w' v' (xs++ys)->Stp w v w' v'->wpList P ops Q rest ((Fr n env σ).put o.dst v') w'):wpList P ops Q (o::rest) (Fr n env σ) w:=by
 obtain⟨e,i,z,h1,h2,h3,h4,h5,h6⟩:=hty;have hlt:=hown.lt;obtain⟨v',w',hrun,hown',hstp⟩:=ql (P:=P) w t tx o.type e i z h1 h2 h3 h4 h5 v (xs.map qd) hown.1 xv ys.length (ys.map qd) hsrc zαi zd;have es:=(jd n env σ ks hks).trans hs;have ex:=(jd n env σ kx hkx).trans hx;refine wpList_plain hgd fun K hK=>?_
 unfold Oper.wp execOp;simp only[ho,resolve,invoke,builtin,Sem.run_bind,Sem.run_pure,Result.andThen_ok,List.map_toArray,List.map_cons,List.map_nil,es,ex,hrun];refine hK _ _ (h v' w' ⟨by rw[List.map_append];exact hown',fun k hk=>?_⟩ hstp);by_cases hkl:k<w.heap.size
 ·exact hown.2 k (hstp.2 k hk hkl)
 ·omega
theorem ztn {P:Program} {w:World} {tx e':TypeId} (hk:P.underlying tx=some (.slice e')) (x:Nat) (E:TypeId):
  Src P 1 tx (.slice (some ⟨w.heap.size,0,none⟩) 1 1) [x].length ([x].map qd) (w.alloc (.cells #[.int .i64 (x:Int)] E)):=by
 refine Src.ofSlice _ hk ⟨w.heap.size,0,none⟩ 1 1 _ zi (fun j u hj=>?_) (fun u hu=>?_)
 ·cases j with
  | zero=>
   have hr:=Row.new w [qd x] E;have:=hr.cell 0;simp only[List.map_cons,List.map_nil,List.getElem?_cons_zero]at this hj;rw[<-hj];exact this
  | succ j=>simp at hj
 ·simp only[List.map_cons,List.map_nil,List.mem_singleton]at hu;rw[hu];rfl
def RdI (w:World) (v:Value) (xs:List Nat):Prop:=
 (v=.slice none 0 0/\xs=[])\/∃ (g c:Nat),v=.slice (some ⟨g,0,none⟩) xs.length c/\xs.length<=c/\c<=maxLen/\∀ (j u:Nat),xs[j]?=some u->w.cell? ⟨g,j,none⟩=some (qd u)
theorem ytb {w w':World} (hg:w.grownBy w' none) {a:Addr} {v:Value} (h:w.cell? a=some v):w'.cell? a=some v:=by
 rw[World.cell?_of_block (hg.block a.block ?_ zi),h];rcases Nat.lt_or_ge a.block w.heap.size with h1 | h1
 ·exact h1
 ·rw[World.cell?,Array.getElem?_eq_none h1]at h;simp at h
theorem RdI.grown {w w':World} {v:Value} {xs:List Nat} (h:RdI w v xs) (hg:w.grownBy w' none):RdI w' v xs:=by
 rcases h with h | ⟨g,c,h1,h2,h3,h4⟩
 ·exact Or.inl h
 ·exact Or.inr ⟨g,c,h1,h2,h3,fun j u hu=>ytb hg (h4 j u hu)⟩
theorem RdI.of_own {T:Nat} {w:World} {v:Value} {xs:List Nat} (h:OwnI T w v xs):RdI w v xs:=by
 obtain⟨g,c,rfl,_,_,h1,h2⟩:=h.block;exact Or.inr ⟨g,c,rfl,h1,h2,fun j u hu=>h.cell j u hu⟩
theorem RdI.len {w:World} {v:Value} {xs:List Nat} (h:RdI w v xs):∃ a c,v=.slice a xs.length c:=by
 rcases h with⟨rfl,rfl⟩ | ⟨g,c,rfl,_⟩
 ·exact⟨_,_,rfl⟩
 ·exact⟨_,_,rfl⟩
theorem RdI.at {w:World} {a:Option Addr} {L c:Nat} {xs:List Nat} (h:RdI w (.slice a L c) xs) (hne:xs≠[]):∃ g,a=some ⟨g,0,none⟩/\L=xs.length/\L<=c/\c<=maxLen/\∀ (j u:Nat),xs[j]?=some u->w.cell? ⟨g,j,none⟩=some (qd u):=by
 rcases h with⟨_,h⟩ | ⟨g,c',h1,h2,h3,h4⟩
 ·exact absurd h hne
 ·simp only[Value.slice.injEq]at h1;obtain⟨rfl,rfl,rfl⟩:=h1;exact⟨g,rfl,rfl,h2,h3,h4⟩
theorem RdI.head {P:Program} {w:World} {tx e':TypeId} (hk:P.underlying tx=some (.slice e')) {g:Nat} {xs:List Nat} (h:∀ (j u:Nat),xs[j]?=some u->w.cell? ⟨g,j,none⟩=some (qd u)) (n c:Nat) (hn:n<=xs.length):
  Src P 1 tx (.slice (some ⟨g,0,none⟩) n c) (xs.take n).length ((xs.take n).map qd) w:=by
 have hl:(xs.take n).length=n:=zN;rw[hl];refine Src.ofSlice _ hk ⟨g,0,none⟩ n c _ (by rw[List.length_map,hl,Nat.mul_one]) (fun j u hj=>?_) (fun u hu=>?_)
 ·have e:((⟨g,0,none⟩:Addr).add j)=⟨g,j,none⟩:=by
   unfold Addr.add;split
   ·subst_vars;rfl
   ·simp
  rw[e];rw[List.getElem?_map]at hj;cases hx:(xs.take n)[j]? with
  | none=>rw[hx]at hj;cases hj
  | some x=>
   rw[hx]at hj;cases hj;have hjn:j<n:=by
    rcases Nat.lt_or_ge j n with h | h
    ·exact h
    ·rw[List.getElem?_eq_none zd]at hx;cases hx
   rw[List.getElem?_take_of_lt hjn]at hx;exact h j x hx
 ·obtain⟨b,_,rfl⟩:=List.mem_map.1 hu;rfl
theorem OwnI.fresh0 {T:Nat} {w:World} (hT:T<=w.heap.size) (e:TypeId):OwnI T (w.alloc (.cells #[] e)) (.slice (some ⟨w.heap.size,0,none⟩) 0 0) []:=by
 refine⟨⟨w.heap.size,[],rfl,Row.new w [] e,by simp[maxLen]⟩,fun k hk=>?_⟩;simp[Value.ownBlock]at hk;omega
theorem yxj {T:Nat} {w w1 w2:World} {v v2:Value} {xs:List Nat} (hT:w.heap.size<=T) (h1:w.grownBy w1 none) (ho:OwnI T w1 v xs) (hs:Stp w1 v w2 v2):w.grownBy w2 none:=
 yx h1 hs.1 (fun j e hj=>by have:=ho.2 j e;omega)
end Go.Proofs.YtnifedmhgncioaaGreatDoor
