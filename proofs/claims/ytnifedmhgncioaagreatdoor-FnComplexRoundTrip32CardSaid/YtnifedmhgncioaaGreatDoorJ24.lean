/- Lemmas that the claim's top text leans on. No condition of their own. -/
import Derived.Test.YtnifedmhgncioaaGreatDoorJ23
namespace Go.Proofs.YtnifedmhgncioaaGreatDoor
open Go.RowKit
set_option linter.unusedSimpArgs false
set_option linter.unusedVariables false
set_option maxHeartbeats 16000000
def StpQ (c:UInt8) (r:List UInt8):Prop:=c=43\/c=45\/(c=105/\r=[])
theorem StpQ.s3 {c:UInt8} {r:List UInt8} (h:StpQ c r):yig c:=by
 rcases h with h | h | ⟨h,-⟩
 ·exact Or.inl h
 ·exact Or.inr (Or.inl h)
 ·exact Or.inr (Or.inr h)
theorem yib {c:UInt8} {r:List UInt8} (h:vb c≠105):cpL (c::r) infinityL=0:=by
 show (if vb c=105 then _ else 0)=0;rw[if_neg h]
theorem yg4 (ng:Bool) (k:Nat) {c:UInt8} {r:List UInt8} (h:vb c≠105):zd3 ng k (c::r)=none:=by
 unfold zd3;rw[yib h,if_neg ze,if_neg ze]
theorem ygn {s:List UInt8} {d:UInt8} {r:List UInt8} (h:(sgn s).2=d::r) (h1:vb d≠105) (h2:vb d≠110):qp s=none:=by
 cases s with
 | nil=>rfl
 | cons c q=>
  have hdef:qp (c::q)=if c=43 then zd3 false 1 q else if c=45 then zd3 true 1 q else if c=105\/c=73 then zd3 false 0 (c::q) else if c=110\/c=78 then (if cpL (c::q) [110,97,110]=3 then some (zmd,3) else none) else none:=rfl
  rw[hdef];rw[xq]at h;by_cases c1:c=43
  ·rw[if_pos c1]at h ⊢;have h:q=d::r:=h;rw[h];exact yg4 _ _ h1
  rw[if_neg c1]at h ⊢;by_cases c2:c=45
  ·rw[if_pos c2]at h ⊢;have h:q=d::r:=h;rw[h];exact yg4 _ _ h1
  rw[if_neg c2]at h ⊢;have h:c::q=d::r:=h;obtain⟨rfl,rfl⟩:=List.cons.inj h;have n1:¬(c=105\/c=73):=fun hh=>h1 ((ut c 105 (Or.inl rfl)).2 hh)
  have n2:¬(c=110\/c=78):=fun hh=>h2 ((ut c 110 (Or.inr rfl)).2 hh)
  rw[if_neg n1,if_neg n2]
theorem ygr {s:List UInt8} {L:Lit} (h:zau s=some L):∃ d r,(sgn s).2=d::r/\vb d≠105/\vb d≠110:=by
 cases hq:(sgn s).2 with
 | nil=>
  exfalso;unfold zau at h;rw[hq]at h;revert h;show ¬(Option.map _ (yil false [])=some L);unfold yil;simp
 | cons d r=>
  refine⟨d,r,rfl,fun e=>?_,fun e=>?_⟩
  ·rw[yiq hq (Or.inl e)]at h;cases h
  ·rw[yiq hq (Or.inr e)]at h;cases h
theorem yid {s:List UInt8} {L:Lit} (h:zau s=some L):s≠[]:=by
 rintro rfl;obtain⟨d,r,h1,-⟩:=ygr h;cases h1
theorem yhs {s:List UInt8} {L:Lit} (h:zau s=some L):qp s=none/\ul s=some (spT L):=by
 obtain⟨d,r,h1,h2,h3⟩:=ygr h;have hs:=ygn h1 h2 h3;refine⟨hs,?_⟩;refine zco s _ (fun h1 _=>?_) (fun ng h1 _=>?_) (fun _ hr=>?_)
 ·rw[hs]at h1;cases h1
 ·rw[hs]at h1;cases h1
 ·rw[hr,h];rfl
theorem yf3:∀ (p t y:List UInt8),xf t=p->cpL (t++y) p=p.length
 | [],t,y,h=>by cases t with
  | nil=>cases y <;> rfl
  | cons c r=>cases h
 | q::p,t,y,h=>by
  cases t with
  | nil=>cases h
  | cons c r=>
   obtain⟨h1,h2⟩:=List.cons.inj (show vb c::xf r=q::p from h)
   show (if vb c=q then 1+cpL (r++y) p else 0)=_
   rw[if_pos h1,yf3 p r y h2,List.length_cons,Nat.add_comm]
theorem ygz:∀ (p t:List UInt8) (a:UInt8) (p2 y:List UInt8),xf t=p->cpL (t++y) (p++a::p2)=p.length+cpL y (a::p2)
 | [],t,a,p2,y,h=>by
  cases t with
  | nil=>simp
  | cons c r=>cases h
 | q::p,t,a,p2,y,h=>by
  cases t with
  | nil=>cases h
  | cons c r=>
   obtain⟨h1,h2⟩:=List.cons.inj (show vb c::xf r=q::p from h)
   show (if vb c=q then 1+cpL (r++y) (p++a::p2) else 0)=_
   rw[if_pos h1,ygz p r a p2 y h2,List.length_cons]
   omega
theorem ygb (ng:Bool) (k:Nat) {t:List UInt8} {c:UInt8} {r:List UInt8} (hs:StpQ c r) (h:xf t=[105,110,102]\/xf t=[105,110,102,105,110,105,116,121]):zd3 ng k (t++c::r)=some (kp ng,k+t.length):=by
 have hl:t.length=(xf t).length:=(zj8 t).symm;unfold zd3;rcases h with h | h
 ·have e:=ygz [105,110,102] t 105 [110,105,116,121] (c::r) h;have e2:cpL (c::r) [105,110,105,116,121]<=1:=by
   show (if vb c=105 then 1+cpL r [110,105,116,121] else 0)<=1;rcases hs with rfl | rfl | ⟨rfl,rfl⟩
   ·rw[if_neg ze];omega
   ·rw[if_neg ze];omega
   ·rw[if_pos ze];exact Nat.le_refl _
  have e3:cpL (t++c::r) infinityL=3+cpL (c::r) [105,110,105,116,121]:=e;rw[if_neg zd,if_pos zd,hl,h];rfl
 ·have e:=yf3 [105,110,102,105,110,105,116,121] t (c::r) h;have e3:cpL (t++c::r) infinityL=8:=e;rw[if_pos e3,hl,h];rfl
theorem ygl {t:List UInt8} {c:UInt8} {r:List UInt8} {x:Txt} (hs:StpQ c r) (h:ul t=some x):
  (∃ y,qp (t++c::r)=some (y,t.length)/\qp t=some (y,t.length)) \/
  (qp (t++c::r)=none/\qp t=none/\∃ R L,rfP (t++c::r)=some R/\rfP t=some R/\R.n=t.length/\zau t=some L):=by
 obtain⟨a1,a2,-⟩:=zvo t;obtain⟨-,-,b3⟩:=zib t;by_cases hn:xf t=[110,97,110]
 ·refine Or.inl ⟨zmd,?_,a1 hn⟩;have e:=yf3 [110,97,110] t (c::r) hn;have hl:t.length=3:=by rw[<-zj8 t,hn];rfl
  cases t with
  | nil=>cases hn
  | cons d q=>
   have hd:vb d=110:=(List.cons.inj (show vb d::xf q=[110,97,110] from hn)).1;have hd2:d=110\/d=78:=(ut d 110 (Or.inr rfl)).1 hd;have n1:d≠43:=by rintro rfl;revert hd;decide
   have n2:d≠45:=by rintro rfl;revert hd;decide
   have n3:¬(d=105\/d=73):=fun hh=>by have:=(ut d 105 (Or.inl rfl)).2 hh;rw[hd]at this;revert this;decide
   show (if d=43 then zd3 false 1 (q++c::r) else if d=45 then zd3 true 1 (q++c::r) else if d=105\/d=73 then zd3 false 0 (d::(q++c::r)) else if d=110\/d=78 then (if cpL (d::(q++c::r)) [110,97,110]=3 then some (zmd,3) else none) else none)=_;have e3:cpL (d::(q++c::r)) [110,97,110]=3:=e;rw[if_neg n1,if_neg n2,if_neg n3,if_pos hd2,if_pos e3,hl]
 by_cases hi:(sgn (xf t)).2=[105,110,102]\/(sgn (xf t)).2=[105,110,102,105,110,105,116,121]
 ·refine Or.inl ⟨kp (sgn (xf t)).1,?_,a2 hn hi⟩;have hsl:=zct t;rw[hsl]at hi ⊢;dsimp only at hi ⊢;cases t with
  | nil=>rcases hi with hi | hi <;> cases hi
  | cons d q=>
   have hdef:qp ((d::q)++c::r)=if d=43 then zd3 false 1 (q++c::r) else if d=45 then zd3 true 1 (q++c::r) else if d=105\/d=73 then zd3 false 0 (d::q++c::r) else if d=110\/d=78 then (if cpL (d::q++c::r) [110,97,110]=3 then some (zmd,3) else none) else none:=rfl
   rw[hdef];rw[xq]at hi ⊢;by_cases c1:d=43
   ·rw[if_pos c1]at hi ⊢;rw[if_pos c1,ygb false 1 hs hi,List.length_cons,Nat.add_comm]
   rw[if_neg c1]at hi ⊢;rw[if_neg c1];by_cases c2:d=45
   ·rw[if_pos c2]at hi ⊢;rw[if_pos c2,ygb true 1 hs hi,List.length_cons,Nat.add_comm]
   rw[if_neg c2]at hi ⊢;rw[if_neg c2];dsimp only at hi ⊢;have hd:vb d=105:=by
    rcases hi with hi | hi
    ·exact (List.cons.inj (show vb d::xf q=_ from hi)).1
    ·exact (List.cons.inj (show vb d::xf q=_ from hi)).1
   have hd2:d=105\/d=73:=(ut d 105 (Or.inl rfl)).1 hd;rw[if_pos hd2,ygb false 0 hs hi,Nat.zero_add]
 ·rw[b3 hn hi]at h;obtain⟨L,hL,-⟩:=Option.map_eq_some_iff.1 h;obtain⟨d,q,h1,h2,h3⟩:=ygr hL;have h4:(sgn (t++c::r)).2=d::(q++c::r):=by rw[yg7 _ _ (yid hL),h1];rfl
  have h5:=zm9 hL;exact Or.inr ⟨ygn h4 h2 h3,ygn h1 h2 h3,_,L,yii r hs.s3 h5 rfl,h5,rfl,hL⟩
theorem yhc:∀ (s p:List UInt8),cpL s p<=s.length
 | [],p=>Nat.zero_le _
 | c::s,[]=>Nat.zero_le _
 | c::s,q::p=>by
  show (if vb c=q then 1+cpL s p else 0)<=s.length+1
  have:=yhc s p
  split <;> omega
theorem yf6:∀ (s p:List UInt8) (k:Nat),k<=cpL s p->xf (s.take k)=p.take k
 | s,p,0,_=>by rw[List.take_zero,List.take_zero];rfl
 | [],p,k+1,h=>by exact absurd h (by show ¬k+1<=0;omega)
 | c::s,[],k+1,h=>by exact absurd h (by show ¬k+1<=0;omega)
 | c::s,q::p,k+1,h=>by
  have h:k+1<=(if vb c=q then 1+cpL s p else 0):=h
  by_cases hc:vb c=q
  ·rw[if_pos hc]at h
   rw[List.take_succ_cons,List.take_succ_cons,<-hc,<-yf6 s p k zd]
   rfl
  ·rw[if_neg hc]at h;omega
theorem ygu (ng:Bool) (k:Nat) {t:List UInt8} {x:Nat×Nat} (h:zd3 ng k t=some x):
  x.1=kp ng/\∃ m,x.2=k+m/\m<=t.length/\(xf (t.take m)=[105,110,102]\/xf (t.take m)=[105,110,102,105,110,105,116,121]):=by
 unfold zd3 at h;have hl:=yhc t infinityL;by_cases h8:cpL t infinityL=8
 ·rw[if_pos h8]at h;cases h;refine⟨rfl,8,rfl,zd,Or.inr ?_⟩;rw[yf6 t infinityL 8 zd];rfl
 ·rw[if_neg h8]at h;by_cases h3:3<=cpL t infinityL
  ·rw[if_pos h3]at h;cases h;refine⟨rfl,3,rfl,zd,Or.inl ?_⟩;rw[yf6 t infinityL 3 zd];rfl
  ·rw[if_neg h3]at h;cases h
theorem ygt (ng:Bool) (k:Nat) {t:List UInt8} (h:xf t=[105,110,102]\/xf t=[105,110,102,105,110,105,116,121]):zd3 ng k t=some (kp ng,k+t.length):=by
 have hl:t.length=(xf t).length:=(zj8 t).symm;have e0:=fun p h=>yf3 p t [] h
 rw[List.append_nil]at e0;unfold zd3;rcases h with h | h
 ·have e:=ygz [105,110,102] t 105 [110,105,116,121] [] h;rw[List.append_nil]at e;have e3:cpL t infinityL=3:=e;rw[if_neg zd,if_pos zd,hl,h];rfl
 ·have e3:cpL t infinityL=8:=e0 _ h;rw[if_pos e3,hl,h];rfl
theorem yhf {s:List UInt8} {x:Nat×Nat} (h:qp s=some x):x.2<=s.length/\0<x.2/\qp (s.take x.2)=some x/\∃ t,ul (s.take x.2)=some t:=by
 cases s with
 | nil=>cases h
 | cons c r=>
  have hdef:qp (c::r)=if c=43 then zd3 false 1 r else if c=45 then zd3 true 1 r else if c=105\/c=73 then zd3 false 0 (c::r) else if c=110\/c=78 then (if cpL (c::r) [110,97,110]=3 then some (zmd,3) else none) else none:=rfl
  have fin:x.2<=(c::r).length->0<x.2->qp ((c::r).take x.2)=some x->x.2<=(c::r).length/\0<x.2/\qp ((c::r).take x.2)=some x/\∃ t,ul ((c::r).take x.2)=some t:=by
   intro h1 h0 h2;refine⟨h1,h0,h2,?_⟩;have hl:((c::r).take x.2).length=x.2:=zN;refine zco ((c::r).take x.2) _ (fun _ h=>⟨_,h⟩) (fun _ _ h=>⟨_,h⟩) (fun h3 _=>?_);rcases h3 with h3 | ⟨v,n,h3,h4,-⟩
   ·rw[h2]at h3;cases h3
   ·rw[h2]at h3;cases h3;exact absurd hl.symm h4
  rw[hdef]at h;by_cases c1:c=43
  ·rw[if_pos c1]at h;obtain⟨e1,m,e2,e3,e4⟩:=ygu false 1 h;refine fin (by rw[e2,List.length_cons];omega) zd ?_;rw[e2,Nat.add_comm,List.take_succ_cons];show (if c=43 then zd3 false 1 (r.take m) else _)=_;rw[if_pos c1,ygt false 1 e4,List.length_take,Nat.min_eq_left e3,<-e2,<-e1]
  rw[if_neg c1]at h;by_cases c2:c=45
  ·rw[if_pos c2]at h;obtain⟨e1,m,e2,e3,e4⟩:=ygu true 1 h;refine fin (by rw[e2,List.length_cons];omega) zd ?_;rw[e2,Nat.add_comm,List.take_succ_cons];show (if c=43 then zd3 false 1 (r.take m) else if c=45 then zd3 true 1 (r.take m) else _)=_;rw[if_neg c1,if_pos c2,ygt true 1 e4,List.length_take,Nat.min_eq_left e3,<-e2,<-e1]
  rw[if_neg c2]at h;by_cases c3:c=105\/c=73
  ·rw[if_pos c3]at h;obtain⟨e1,m,e2,e3,e4⟩:=ygu false 0 h;have e5:x.2=m:=zd;have hm0:m≠0:=by
    rintro rfl;rw[List.take_zero]at e4;rcases e4 with e4 | e4 <;> cases e4
   obtain⟨j,rfl⟩:∃ j,m=j+1:=⟨m-1,zd⟩;refine fin zd zd ?_;rw[e5];have hself:zd3 false 0 ((c::r).take (j+1))=some x:=by
    rw[ygt false 0 e4,List.length_take,Nat.min_eq_left e3,Nat.zero_add,<-e1,<-e5]
   rw[List.take_succ_cons]at hself ⊢;show (if c=43 then zd3 false 1 (r.take j) else if c=45 then zd3 true 1 (r.take j) else if c=105\/c=73 then zd3 false 0 (c::r.take j) else _)=_;rw[if_neg c1,if_neg c2,if_pos c3];exact hself
  rw[if_neg c3]at h;by_cases c4:c=110\/c=78
  ·rw[if_pos c4]at h;by_cases c5:cpL (c::r) [110,97,110]=3
   ·rw[if_pos c5]at h;cases h;have hl:=yhc (c::r) [110,97,110];have ht:=yf6 (c::r) [110,97,110] 3 zd;refine fin zd ze ?_;have e:=yf3 [110,97,110] ((c::r).take 3) [] ht;rw[List.append_nil]at e;rw[List.take_succ_cons]at e ⊢;show (if c=43 then zd3 false 1 (r.take 2) else if c=45 then zd3 true 1 (r.take 2) else if c=105\/c=73 then zd3 false 0 (c::r.take 2) else if c=110\/c=78 then (if cpL (c::r.take 2) [110,97,110]=3 then some (zmd,3) else none) else none)=_;have e3:cpL (c::r.take 2) [110,97,110]=3:=e;rw[if_neg c1,if_neg c2,if_neg c3,if_pos c4,if_pos e3]
   ·rw[if_neg c5]at h;cases h
  ·rw[if_neg c4]at h;cases h
theorem yhp {s:List UInt8} {R:RR} (h:rfP s=some R):R.n<=s.length/\0<R.n/\rfP (s.take R.n)=some R/\∃ L,zau (s.take R.n)=some L:=by
 obtain⟨P,T,h1,h2,h3⟩:=zvv h;obtain⟨h4,L,hL,-⟩:=zsf h;have e:s.take R.n=P:=by rw[h2,h1,List.take_left]
 have hne:=yid hL;rw[e]at hne;have hp:0<P.length:=List.length_pos_iff.2 hne;exact⟨h4,zd,by rw[e];exact h3,L,hL⟩
def yfz (s:List UInt8):List UInt8:=if 1<s.length/\s.getD 0 0=40/\s.getD (s.length-1) 0=41 then (s.drop 1).take (s.length-2) else s
theorem ygm {k:Nat} (h:k=0\/k=2):erK k≠erK 1:=by
 rcases h with rfl | rfl
 ·intro h;cases h
 ·unfold erK;rw[if_neg ze,if_neg ze,if_neg ze,if_pos rfl];intro h;injection h with _ h;injection h with _ h;revert h;decide
theorem ygw {k j:Nat} (h:k=0\/k=2) (h2:j=0\/j=2) (e:erK k=erK j):k=j:=by
 have key:erK 2≠erK 0:=by
  unfold erK;rw[if_neg ze,if_neg ze,if_pos rfl];intro h;cases h
 rcases h with rfl | rfl <;> rcases h2 with rfl | rfl
 ·rfl
 ·exact absurd e.symm key
 ·exact absurd e key
 ·rfl
structure FrOK (A:List UInt8->Nat->Nat->Value->Prop) (Pa:List UInt8->Nat->Nat->Prop):Prop where
 front:∀ {t:List UInt8} {c:UInt8} {r:List UInt8} {x:Txt} {v n:Nat} {ev:Value},StpQ c r->ul t=some x->t.length<=800->A (t++c::r) v n ev->n=t.length/\∃ k,ev=erK k/\Pa t v k
 back:∀ {s:List UInt8} {v n:Nat} {ev:Value},A s v n ev->s.length<=800->(v=0/\ev=erK 1)\/(n<=s.length/\0<n/\(∃ x,ul (s.take n)=some x)/\∃ k,(k=0\/k=2)/\ev=erK k/\Pa (s.take n) v k)
 whole:∀ {t:List UInt8} {x:Txt} {v n:Nat} {ev:Value},ul t=some x->t.length<=800->A t v n ev->n=t.length/\∃ k,ev=erK k/\Pa t v k
 kind:∀ {t:List UInt8} {x:Txt} {v k:Nat},ul t=some x->Pa t v k->k=0\/k=2
 ext:∀ {s t:List UInt8} {v k:Nat},ul s=ul t->Pa s v k->Pa t v k
 zero:Pa [48] 0 0
def yg6 (c:UInt8) (r:List UInt8):List UInt8:=if c=43/\r≠[]/\r.getD 0 0≠43 then r else c::r
def yim (A:List UInt8->Nat->Nat->Value->Prop) (u:List UInt8) (x y k:Nat):Prop:=
  ∃ v n ev,A u v n ev/\
    ((ev=erK 1/\x=0/\y=0/\k=1) \/
     ∃ k1,(k1=0\/k1=2)/\ev=erK k1/\n<=u.length/\
      ((u.drop n=[]/\x=v/\y=0/\k=k1) \/
       (u.drop n=[105]/\x=0/\y=v/\k=k1) \/
       (∃ c r,u.drop n=c::r/\c≠43/\c≠45/\(c=105->r≠[])/\x=0/\y=0/\k=1) \/
       (∃ c r,u.drop n=c::r/\(c=43\/c=45)/\∃ v2 n2 ev2,A (yg6 c r) v2 n2 ev2/\
         ((ev2=erK 1/\x=0/\y=0/\k=1) \/
          ∃ k2,(k2=0\/k2=2)/\ev2=erK k2/\n2<=(yg6 c r).length/\
           (((yg6 c r).drop n2≠[105]/\x=0/\y=0/\k=1)\/((yg6 c r).drop n2=[105]/\x=v/\y=v2/\k=if k2=2 then 2 else k1))))))
def yhe (A:List UInt8->Nat->Nat->Value->Prop) (s:List UInt8) (x y k:Nat):Prop:=yim A (yfz s) x y k
theorem yi0 (t:List UInt8):yfz (40::(t++[41]))=t:=by
 unfold yfz;have hl:(40::(t++[41])).length=t.length+2:=zi;rw[hl,if_pos]
 ·show (t++[41]).take (t.length+2-2)=t;rw[Nat.add_sub_cancel,List.take_left'];rfl
 ·refine⟨zd,rfl,?_⟩;show (40::(t++[41])).getD (t.length+1) 0=41;rw[List.getD_eq_getElem?_getD,List.getElem?_cons_succ,List.getElem?_append_right (Nat.le_refl _),Nat.sub_self];rfl
theorem yjc {A:List UInt8->Nat->Nat->Value->Prop} {Pa:List UInt8->Nat->Nat->Prop} (H:FrOK A Pa) {a b tb:List UInt8} {c:UInt8} {xa xb:Txt} {x y k:Nat} (ha:ul a=some xa) (hb:ul tb=some xb) (hla:a.length<=800) (hlb:tb.length<=800)
  (hc:(c=43/\tb=b/\b.getD 0 0≠43)\/(c=45/\tb=45::b)) (hr:yim A (a++c::(b++[105])) x y k):
  ∃ k1 k2,(k1=0\/k1=2)/\(k2=0\/k2=2)/\Pa a x k1/\Pa tb y k2/\k=if k2=2 then 2 else k1:=by
 obtain⟨v,n,ev,hA,hr⟩:=hr;have hcs:c=43\/c=45:=hc.elim (fun h=>Or.inl h.1) (fun h=>Or.inr h.1);obtain⟨rfl,k0,e0,hp⟩:=H.front (hcs.elim Or.inl (fun h=>Or.inr (Or.inl h))) ha hla hA;have hk:=H.kind ha hp;have hd:(a++c::(b++[105])).drop a.length=c::(b++[105]):=List.drop_left' rfl;rcases hr with⟨e,-⟩ | ⟨k1,hk1,e,-,hr⟩
 ·exact absurd (e0.symm.trans e) (ygm hk)
 ·obtain rfl:=ygw hk1 hk (e.symm.trans e0);rw[hd]at hr;rcases hr with⟨h,-⟩ | ⟨h,-⟩ | ⟨c',r,h,h43,h45,-⟩ | ⟨c',r,h,-,v2,n2,ev2,hA2,hr⟩
  ·cases h
  ·obtain⟨h,-⟩:=List.cons.inj h;rw[h]at hcs;rcases hcs with hc | hc <;> exact absurd hc ze
  ·obtain⟨h,-⟩:=List.cons.inj h;rw[h]at hcs;exact hcs.elim (fun h=>absurd h h43) (fun h=>absurd h h45)
  ·obtain⟨rfl,rfl⟩:=List.cons.inj h;have hsec:yg6 c (b++[105])=tb++[105]:=by
    unfold yg6;rcases hc with⟨rfl,rfl,hh⟩ | ⟨rfl,rfl⟩
    ·rw[if_pos];refine⟨rfl,zi,?_⟩;cases tb with
     | nil=>decide
     | cons d q=>exact hh
    ·rw[if_neg (fun h=>absurd h.1 ze)];rfl
   rw[hsec]at hA2 hr;obtain⟨rfl,j0,j1,hp2⟩:=H.front (Or.inr (Or.inr ⟨rfl,rfl⟩)) hb hlb hA2;have hj:=H.kind hb hp2;have hd2:(tb++[105]).drop tb.length=[105]:=List.drop_left' rfl;rcases hr with⟨e2,-⟩ | ⟨k2,hk2,e2,-,⟨h5,-⟩ | ⟨-,rfl,rfl,h3⟩⟩
   ·exact absurd (j1.symm.trans e2) (ygm hj)
   ·exact absurd hd2 h5
   ·obtain rfl:=ygw hk2 hj (e2.symm.trans j1);exact⟨k1,k2,hk1,hk2,hp,hp2,h3⟩
end Go.Proofs.YtnifedmhgncioaaGreatDoor
