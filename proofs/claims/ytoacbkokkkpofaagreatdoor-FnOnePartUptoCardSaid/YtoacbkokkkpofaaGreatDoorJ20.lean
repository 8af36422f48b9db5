/- Lemmas that the claim's top text leans on. No condition of their own. -/
import Derived.Test.YtoacbkokkkpofaaGreatDoorJ15
import Derived.Test.YtoacbkokkkpofaaGreatDoorJ19
namespace Go.Proofs.YtoacbkokkkpofaaGreatDoor
open Go.RowKit
set_option linter.unusedSimpArgs false
set_option linter.unusedVariables false
set_option maxHeartbeats 16000000
theorem zhk:∀ (k:Nat) (s p:List UInt8),k<=p.length->(k<=cpL s p↔k<=s.length/\xf (s.take k)=p.take k)
 | 0,s,p,_=>by simp[xf]
 | k+1,[],p,_=>by
  have:cpL [] p=0:=by cases p <;> rfl
  simp[this]
 | k+1,c::s,[],h=>by simp at h
 | k+1,c::s,q::p,h=>by
  have ih:=zhk k s p zI
  show k+1<=(if vb c=q then 1+cpL s p else 0)↔_
  by_cases hc:vb c=q
  ·rw[if_pos hc]
   have e:xf ((c::s).take (k+1))=vb c::xf (s.take k):=rfl
   rw[e,List.take_succ_cons,hc,List.length_cons]
   constructor
   ·intro h1
    obtain⟨h2,h3⟩:=ih.1 zd
    exact⟨zd,by rw[h3]⟩
   ·rintro⟨h1,h2⟩
    have:=ih.2 ⟨zd,(List.cons.inj h2).2⟩
    omega
  ·rw[if_neg hc]
   have e:xf ((c::s).take (k+1))=vb c::xf (s.take k):=rfl
   rw[e,List.take_succ_cons]
   constructor
   ·intro h1;omega
   ·rintro⟨h1,h2⟩
    exact absurd (List.cons.inj h2).1 hc
theorem ut (c:UInt8):∀ x:UInt8,(x=105\/x=110)->(vb c=x↔c=x\/c=x-32):=by
 intro x hx;rcases hx with rfl | rfl <;> revert c <;> refine vu _ ?_ <;> decide +kernel
theorem yiq {s:List UInt8} {c:UInt8} {r:List UInt8} (h:(sgn s).2=c::r) (hc:vb c=105\/vb c=110):zau s=none:=by
 have h4:c=105\/c=73\/c=110\/c=78:=by
  rcases hc with hc | hc
  ·rcases (ut c 105 (Or.inl rfl)).1 hc with h | h
   ·exact Or.inl h
   ·exact Or.inr (Or.inl h)
  ·rcases (ut c 110 (Or.inr rfl)).1 hc with h | h
   ·exact Or.inr (Or.inr (Or.inl h))
   ·exact Or.inr (Or.inr (Or.inr h))
 have hx:yo (sgn s).2=false:=by
  rw[h];match r with
  | []=>rfl
  | [_]=>rfl
  | x::y::r=>
   show decide (c=48/\wc x=120)=false;apply decide_eq_false;rintro⟨rfl,-⟩;revert h4;decide
 have hb:yj s=c::r:=by unfold yj;rw[hx,h];rfl
 have hd:xe false c=false:=by rcases h4 with rfl | rfl | rfl | rfl <;> decide
 have h46:c≠46:=by rintro rfl;revert h4;decide
 rw[jv,if_pos];rw[hx,hb];have e1:ve false (c::r)=[]:=by unfold ve;rw[List.takeWhile_cons_of_neg (by rw[hd];decide)]
 have e2:qi false (c::r)=c::r:=by unfold qi;rw[List.dropWhile_cons_of_neg (by rw[hd];decide)]
 have e3:yw false (c::r)=[]:=by
  unfold yw;rw[e2,if_neg];intro h;exact h46 zI
 rw[e1,e3];exact⟨rfl,rfl⟩
theorem zj8 (s:List UInt8):(xf s).length=s.length:=by unfold xf;simp
theorem ziv (neg:Bool) (k:Nat) (t:List UInt8):
  (xf t=[105,110,102]\/xf t=[105,110,102,105,110,105,116,121]->zd3 neg k t=some (kp neg,k+t.length))/\
  (¬(xf t=[105,110,102]\/xf t=[105,110,102,105,110,105,116,121])->zd3 neg k t=none\/∃ n,zd3 neg k t=some (kp neg,n)/\n≠k+t.length/\∃ c r,t=c::r/\vb c=105):=by
 have h8:=zhk 8 t infinityL ze;have h3:=zhk 3 t infinityL ze;have h4:=zhk 4 t infinityL ze;have hle:=zer t infinityL;change cpL t infinityL<=8 at hle;have hd8:xf (t.take 8)=(xf t).take 8:=zαk;have hd3:xf (t.take 3)=(xf t).take 3:=zαk;have hd4:xf (t.take 4)=(xf t).take 4:=zαk;rw[hd8]at h8;rw[hd3]at h3;rw[hd4]at h4;have hlen:=zj8 t;unfold zd3;constructor
 ·rintro (h | h)
  ·rw[h]at h8 h3 h4 hlen;have hl:t.length=3:=hlen.symm;have a3:3<=cpL t infinityL:=h3.2 ⟨zd,rfl⟩;have a8:¬8<=cpL t infinityL:=fun h=>by have:=(h8.1 h).1;omega
   rw[if_neg zd,if_pos a3,hl]
  ·rw[h]at h8 h3 h4 hlen;have hl:t.length=8:=hlen.symm;have a8:8<=cpL t infinityL:=h8.2 ⟨zd,rfl⟩;rw[if_pos zd,hl]
 ·intro hno;have hhead:3<=cpL t infinityL->∃ c r,t=c::r/\vb c=105:=by
   intro h;obtain⟨h1,h2⟩:=h3.1 h;cases t with
   | nil=>simp at h1
   | cons c r=>
    refine⟨c,r,rfl,?_⟩;have:=congrArg List.head? h2;simpa[xf,infinityL]using this
  by_cases a8:cpL t infinityL=8
  ·rw[if_pos a8];refine Or.inr ⟨_,rfl,?_,hhead zd⟩;intro hl;obtain⟨h1,h2⟩:=h8.1 zd;refine hno (Or.inr ?_);rw[List.take_of_length_le zd]at h2;exact h2
  ·rw[if_neg a8];by_cases a3:3<=cpL t infinityL
   ·rw[if_pos a3];refine Or.inr ⟨_,rfl,?_,hhead a3⟩;intro hl;obtain⟨h1,h2⟩:=h3.1 a3;refine hno (Or.inl ?_);rw[List.take_of_length_le zd]at h2;exact h2
   ·rw[if_neg a3];exact Or.inl rfl
theorem zvo (s:List UInt8):
  (xf s=[110,97,110]->qp s=some (zmd,s.length))/\
  (xf s≠[110,97,110]->((sgn (xf s)).2=[105,110,102]\/(sgn (xf s)).2=[105,110,102,105,110,105,116,121])->qp s=some (kp (sgn (xf s)).1,s.length))/\
  (xf s≠[110,97,110]->¬((sgn (xf s)).2=[105,110,102]\/(sgn (xf s)).2=[105,110,102,105,110,105,116,121])->qp s=none\/∃ v n,qp s=some (v,n)/\n≠s.length/\zau s=none):=by
 have hsl:=zct s;rw[hsl];simp only;have hlen:=zj8 s;cases s with
 | nil=>
  refine⟨fun h=>by simp[xf]at h,fun _ h=>by simp[xf,sgn]at h,fun _ _=>Or.inl rfl⟩
 | cons c r=>
  have hdef:qp (c::r)=if c=43 then zd3 false 1 r else if c=45 then zd3 true 1 r else if c=105\/c=73 then zd3 false 0 (c::r) else if c=110\/c=78 then (if cpL (c::r) [110,97,110]=3 then some (zmd,3) else none) else none:=rfl
  by_cases c1:c=43
  ·have hs:sgn (c::r)=(false,r):=by rw[xq,if_pos c1]
   have hn:xf (c::r)≠[110,97,110]:=by
    rw[c1];intro h;have:=congrArg List.head? h;revert this;simp[xf];decide
   rw[hdef,if_pos c1,hs];obtain⟨i1,i2⟩:=ziv false 1 r;refine⟨fun h=>absurd h hn,fun _ h=>by rw[i1 h,List.length_cons,Nat.add_comm],fun _ h=>?_⟩;rcases i2 h with h2 | ⟨n,h2,h3,x,y,h4,h5⟩
   ·exact Or.inl h2
   ·exact Or.inr ⟨_,n,h2,zβA,yiq (by rw[hs];exact h4) (Or.inl h5)⟩
  by_cases c2:c=45
  ·have hs:sgn (c::r)=(true,r):=by rw[xq,if_neg c1,if_pos c2]
   have hn:xf (c::r)≠[110,97,110]:=by
    rw[c2];intro h;have:=congrArg List.head? h;revert this;simp[xf];decide
   rw[hdef,if_neg c1,if_pos c2,hs];obtain⟨i1,i2⟩:=ziv true 1 r;refine⟨fun h=>absurd h hn,fun _ h=>by rw[i1 h,List.length_cons,Nat.add_comm],fun _ h=>?_⟩;rcases i2 h with h2 | ⟨n,h2,h3,x,y,h4,h5⟩
   ·exact Or.inl h2
   ·exact Or.inr ⟨_,n,h2,zβA,yiq (by rw[hs];exact h4) (Or.inl h5)⟩
  have hs:sgn (c::r)=(false,c::r):=by rw[xq,if_neg c1,if_neg c2]
  rw[hdef,if_neg c1,if_neg c2,hs];simp only;by_cases c3:c=105\/c=73
  ·have hl:vb c=105:=(ut c 105 (Or.inl rfl)).2 c3;have hn:xf (c::r)≠[110,97,110]:=by
    intro h;have:=congrArg List.head? h;simp[xf,hl]at this
   rw[if_pos c3];obtain⟨i1,i2⟩:=ziv false 0 (c::r);refine⟨fun h=>absurd h hn,fun _ h=>by rw[i1 h,Nat.zero_add],fun _ h=>?_⟩;rcases i2 h with h2 | ⟨n,h2,h3,x,y,h4,h5⟩
   ·exact Or.inl h2
   ·exact Or.inr ⟨_,n,h2,zd,yiq (by rw[hs]) (Or.inl hl)⟩
  ·have hl:vb c≠105:=fun h=>c3 ((ut c 105 (Or.inl rfl)).1 h)
   have hi:¬(xf (c::r)=[105,110,102]\/xf (c::r)=[105,110,102,105,110,105,116,121]):=by
    rintro (h | h) <;> · have:=congrArg List.head? h;simp[xf]at this;exact hl this
   rw[if_neg c3];have h3:=zhk 3 (c::r) [110,97,110] ze;have hd3:xf ((c::r).take 3)=(xf (c::r)).take 3:=zαk;rw[hd3]at h3;have hle:=zer (c::r) [110,97,110];change cpL (c::r) [110,97,110]<=3 at hle;by_cases c4:c=110\/c=78
   ·have hl4:vb c=110:=(ut c 110 (Or.inr rfl)).2 c4;rw[if_pos c4];refine⟨fun h=>?_,fun _ h=>absurd h hi,fun h _=>?_⟩
    ·rw[h]at h3 hlen;have a3:=h3.2 ⟨by rw[<-hlen];decide,rfl⟩;rw[if_pos zd,<-hlen];rfl
    ·by_cases a3:cpL (c::r) [110,97,110]=3
     ·rw[if_pos a3];refine Or.inr ⟨_,_,rfl,?_,yiq (by rw[hs]) (Or.inr hl4)⟩;intro hl3;obtain⟨-,h2⟩:=h3.1 zd;rw[List.take_of_length_le zd]at h2;exact h h2
     ·rw[if_neg a3];exact Or.inl rfl
   ·rw[if_neg c4];refine⟨fun h=>?_,fun _ h=>absurd h hi,fun _ _=>Or.inl rfl⟩;exfalso;have:=congrArg List.head? h;simp[xf]at this;exact c4 ((ut c 110 (Or.inr rfl)).1 this)
def erK (k:Nat):Value:=if k=0 then .nilIface else if k=1 then .iface 95 (.int .i64 2) else .iface 95 (.int .i64 1)
theorem zus (b:Bool):erV b=erK (if b=true then 2 else 0):=by cases b <;> rfl
def spB (F:Nat) (bias:Int) (inf:Nat) (t:Txt):Nat:=spN F bias inf t.base t.digits t.exp
def PaQ64 (s:List UInt8) (v k:Nat):Prop:=match ul s with
 | none=>v=0/\k=1
 | some t=>(t.kind=2->(9218868437227405312<v%9223372036854775808/\v<18446744073709551616)/\k=0)/\(t.kind=1->v=kp t.neg/\k=0)/\
  (t.kind=0->v=sgB t.neg+spB 52 1023 9218868437227405312 t/\k=if spB 52 1023 9218868437227405312 t=9218868437227405312 then 2 else 0)
theorem zib (s:List UInt8):
  (xf s=[110,97,110]->ul s=some ⟨2,false,0,[],0⟩)/\
  (xf s≠[110,97,110]->((sgn (xf s)).2=[105,110,102]\/(sgn (xf s)).2=[105,110,102,105,110,105,116,121])->ul s=some ⟨1,(sgn (xf s)).1,0,[],0⟩)/\
  (xf s≠[110,97,110]->¬((sgn (xf s)).2=[105,110,102]\/(sgn (xf s)).2=[105,110,102,105,110,105,116,121])->ul s=(zau s).map spT):=by
 rw[zqo];refine⟨fun h=>by rw[if_pos h],fun h h2=>by rw[if_neg h,if_pos h2],fun h h2=>by rw[if_neg h,if_neg h2]⟩
theorem zco (s:List UInt8) (P:Prop)
  (h1:qp s=some (zmd,s.length)->ul s=some ⟨2,false,0,[],0⟩->P)
  (h2:∀ ng,qp s=some (kp ng,s.length)->ul s=some ⟨1,ng,0,[],0⟩->P)
  (h3:(qp s=none\/∃ v n,qp s=some (v,n)/\n≠s.length/\zau s=none)->ul s=(zau s).map spT->P):P:=by
 obtain⟨a1,a2,a3⟩:=zvo s;obtain⟨b1,b2,b3⟩:=zib s;by_cases hn:xf s=[110,97,110]
 ·exact h1 (a1 hn) (b1 hn)
 ·by_cases hi:(sgn (xf s)).2=[105,110,102]\/(sgn (xf s)).2=[105,110,102,105,110,105,116,121]
  ·exact h2 _ (a2 hn hi) (b2 hn hi)
  ·exact h3 (a3 hn hi) (b3 hn hi)
theorem zto (F:Nat) (bias:Int) (inf:Nat) {s:List UInt8} {L:Lit} (h:zau s=some L) (hs:s.length<=1000) (hb1:1<=bias) (hb2:bias<=1023) (hF1:1<=F) (hF2:bias+F<=1075):spB F bias inf (spT L)=nvL F bias inf L:=by
 obtain⟨h1,h2,h3,-⟩:=zfk h;exact sp_eq F bias inf L h1 h3 zd hb1 hb2 hF1 hF2
theorem zql {s:List UInt8} {R:RR} (h:rfP s=some R):(R.n=s.length->∃ L,zau s=some L/\zau (s.take R.n)=some L)/\(R.n≠s.length->zau s=none):=by
 obtain⟨h1,L,hL,hR⟩:=zsf h;constructor
 ·intro e;have:s.take R.n=s:=by rw[e,List.take_length]
  exact⟨L,by rw[<-this];exact hL,hL⟩
 ·intro hne;cases hl:zau s with
  | none=>rfl
  | some L'=>
   have:=zm9 hl;rw[h]at this;cases this;exact absurd rfl hne
theorem zq7 {s:List UInt8} (h:rfP s=none):zau s=none:=by
 cases hl:zau s with
 | none=>rfl
 | some L=>rw[zm9 hl]at h;cases h
theorem PaQ64.bad {s:List UInt8} (h:ul s=none):PaQ64 s 0 1:=by unfold PaQ64;rw[h];exact⟨rfl,rfl⟩
def yig (c:UInt8):Prop:=c=43\/c=45\/c=105
theorem yh9 (hex:Bool) {c:UInt8} (h:yig c):dgV hex c=none:=by
 rcases h with rfl | rfl | rfl <;> cases hex <;> decide
theorem yf7 {c:UInt8} (h:yig c):c≠95/\c≠46/\c≠48/\wc c≠101/\wc c≠112/\wc c≠120/\¬(48<=c.toNat/\c.toNat<=57):=by
 rcases h with rfl | rfl | rfl <;> decide
theorem ygo (hex:Bool) {c:UInt8} (r:List UInt8) (h:yig c):∀ (l:List UInt8) (st:RF),scF hex (l++c::r) st=((scF hex l st).1,(scF hex l st).2++c::r)
 | [],st=>by
  obtain⟨h1,h2,-⟩:=yf7 h
  show scF hex (c::r) st=(st,[]++c::r)
  rw[scF,if_neg h1,if_neg h2,yh9 hex h]
  rfl
 | x::l,st=>by
  rw[List.cons_append,scF,scF]
  by_cases h1:x=95
  ·rw[if_pos h1,if_pos h1];exact ygo hex r h l _
  ·rw[if_neg h1,if_neg h1]
   by_cases h2:x=46
   ·rw[if_pos h2,if_pos h2]
    by_cases h3:st.dot=true
    ·rw[if_pos h3,if_pos h3];rfl
    ·rw[if_neg h3,if_neg h3];exact ygo hex r h l _
   ·rw[if_neg h2,if_neg h2]
    cases dgV hex x with
    | none=>rfl
    | some d=>exact ygo hex r h l _
theorem yg8 {c:UInt8} (r:List UInt8) (h:yig c):∀ (l:List UInt8) (us:Bool) (e:Nat),scE (l++c::r) us e=((scE l us e).1,(scE l us e).2.1,(scE l us e).2.2++c::r)
 | [],us,e=>by
  obtain⟨h1,-,-,-,-,-,h2⟩:=yf7 h
  show scE (c::r) us e=(us,e,[]++c::r)
  rw[scE,if_neg h2,if_neg h1]
  rfl
 | x::l,us,e=>by
  rw[List.cons_append,scE,scE]
  by_cases h1:48<=x.toNat/\x.toNat<=57
  ·rw[if_pos h1,if_pos h1];exact yg8 r h l _ _
  ·rw[if_neg h1,if_neg h1]
   by_cases h2:x=95
   ·rw[if_pos h2,if_pos h2];exact yg8 r h l _ _
   ·rw[if_neg h2,if_neg h2];rfl
theorem yh7 {c:UInt8} (r:List UInt8) (h:yig c):∀ (u:List UInt8),(∀ x,u=[48,x]->wc x≠120)->yo (u++c::r)=yo u
 | [],_=>by
  obtain⟨-,-,h1,-⟩:=yf7 h
  cases r with
  | nil=>rfl
  | cons x r=>
   cases r with
   | nil=>rfl
   | cons y r=>exact decide_eq_false (fun e=>h1 e.1)
 | [a],_=>by
  obtain⟨-,-,-,-,-,h1,-⟩:=yf7 h
  cases r with
  | nil=>rfl
  | cons y r=>exact decide_eq_false (fun e=>h1 e.2)
 | [a,x],hx=>by
  show decide (a=48/\wc x=120)=false
  refine decide_eq_false ?_
  rintro⟨rfl,e⟩
  exact hx x rfl e
 | a::x::y::u,_=>rfl
theorem yhg (t y:List UInt8) (neg hex:Bool) (st:RF) (dp:Int) (nm:Nat) (us:Bool):zdv (t++y) neg hex st dp nm us y=zdv t neg hex st dp nm us []:=by
 unfold zdv;rw[List.length_append,Nat.add_sub_cancel,List.take_left',List.length_nil,Nat.sub_zero,List.take_length];rfl
theorem yha:∀ (l:List UInt8) (us:Bool) (e:Nat),(scE l us e).2.2.length<=l.length
 | [],us,e=>Nat.le_refl _
 | x::l,us,e=>by
  rw[scE]
  split
  ·exact Nat.le_succ_of_le (yha l _ _)
  ·split
   ·exact Nat.le_succ_of_le (yha l _ _)
   ·exact Nat.le_refl _
theorem ygs (hex:Bool):∀ (l:List UInt8) (st:RF),(scF hex l st).2.length<=l.length
 | [],st=>Nat.le_refl _
 | x::l,st=>by
  rw[scF]
  split
  ·exact Nat.le_succ_of_le (ygs hex l _)
  ·split
   ·split
    ·exact Nat.le_refl _
    ·exact Nat.le_succ_of_le (ygs hex l _)
   ·split
    ·exact Nat.le_succ_of_le (ygs hex l _)
    ·exact Nat.le_refl _
theorem yh8 {t:List UInt8} {c:UInt8} (r:List UInt8) (h:yig c) {neg hex:Bool} {st:RF} {dp:Int} {nm:Nat} {rest:List UInt8} {R:RR} (hr:rest.length<=t.length) (ht:t≠[]) (hR:zf9 t neg hex st dp nm rest=some R) (hn:R.n=t.length):
  zf9 (t++c::r) neg hex st dp nm (rest++c::r)=some R:=by
 obtain⟨-,-,-,n1,n2,-,-⟩:=yf7 h;cases rest with
 | nil=>
  unfold zf9 at hR ⊢;dsimp only[List.nil_append]at hR ⊢;cases hex
  case true=>rw[if_pos rfl]at hR;cases hR
  rw[if_neg ze]at hR;rw[if_neg (by rw[if_neg ze];exact n1),if_neg ze,yhg];exact hR
 | cons d r1=>
  rw[List.cons_append];unfold zf9 at hR ⊢;dsimp only at hR ⊢;by_cases hd:wc d=(if hex=true then 112 else 101)
  ·rw[if_pos hd]at hR ⊢;have h1:r1≠[]:=by
    intro e;subst e;cases hR
   rw[yg7 _ _ h1];dsimp only;have hlr:(sgn r1).2.length<=r1.length:=zfl r1;generalize (sgn r1).1=sg at *
   generalize (sgn r1).2=q at *
   cases q with
   | nil=>cases hR
   | cons e r2=>
    rw[List.cons_append];dsimp only at hR ⊢;by_cases he:48<=e.toNat/\e.toNat<=57
    ·rw[if_pos he]at hR ⊢;rw[<-List.cons_append,yg8 r h];dsimp only;have hl:=yha (e::r2) st.us 0;rw[List.length_cons]at hr;have h0:=zeo t _ _ _ _ _ _ _ R zd ht hR hn;rw[h0]at hR;rw[h0,List.nil_append,yhg];exact hR
    ·rw[if_neg he]at hR;cases hR
  ·rw[if_neg hd]at hR;cases hex
   case true=>rw[if_pos rfl]at hR;cases hR
   rw[if_neg ze]at hR;have h0:=zeo t _ _ _ _ _ _ _ R hr ht hR hn;cases h0
theorem yii {t:List UInt8} {c:UInt8} (r:List UInt8) (h:yig c) {R:RR} (hR:rfP t=some R) (hn:R.n=t.length):rfP (t++c::r)=some R:=by
 have ht:t≠[]:=by
  intro e;subst e;cases hR
 unfold rfP at hR ⊢;rw[if_neg ht]at hR;rw[if_neg zi,yg7 _ _ ht];dsimp only at hR ⊢;have hu:(sgn t).2.length<=t.length:=zfl t;have hx:∀ x,(sgn t).2=[48,x]->wc x≠120:=by
  intro x hx hc;rw[hx]at hR;rw[show yo [48,x]=false from rfl]at hR;simp only[Bool.false_eq_true,if_false]at hR;have hd:dgV false x=none:=by
   unfold dgV;rw[if_neg ?_,if_neg (by rintro⟨e,-⟩;cases e)];intro hh;have:∀ n:Fin 256,48<=n.val/\n.val<=57->n.val|||32≠120:=zp
   exact this ⟨x.toNat,x.toNat_lt⟩ hh hc
  have hx1:x≠95:=by rintro rfl;revert hc;decide
  have hx2:x≠46:=by rintro rfl;revert hc;decide
  have hs:scF false [48,x] RF.init=(dgS false RF.init 0,[x]):=by
   rw[scF,if_neg ze,if_neg ze,show dgV false 48=some 0 by decide];dsimp only;rw[scF,if_neg hx1,if_neg hx2,hd]
  rw[hs]at hR;dsimp only at hR;split at hR
  ·cases hR
  ·unfold zf9 at hR;dsimp only at hR;rw[if_neg (by rw[hc];decide),if_neg ze]at hR;have:=zeo t _ _ _ _ _ _ _ R (by rw[hx]at hu;simp at hu ⊢;omega) ht hR hn;cases this
 rw[yh7 r h _ hx];have hb:(if yo (sgn t).2=true then ((sgn t).2++c::r).drop 2 else (sgn t).2++c::r)=(if yo (sgn t).2=true then (sgn t).2.drop 2 else (sgn t).2)++c::r:=by
  cases hh:yo (sgn t).2
  ·rw[if_neg ze,if_neg ze]
  ·rw[if_pos rfl,if_pos rfl];cases hq:(sgn t).2 with
   | nil=>rw[hq]at hh;cases hh
   | cons a q=>
    cases q with
    | nil=>rw[hq]at hh;cases hh
    | cons b q=>rfl
 rw[hb,ygo _ r h];have hl:(if yo (sgn t).2=true then (sgn t).2.drop 2 else (sgn t).2).length<=t.length:=by
  split
  ·rw[List.length_drop];omega
  ·exact hu
 generalize (if yo (sgn t).2=true then (sgn t).2.drop 2 else (sgn t).2)=l at *
 dsimp only;have hsl:=ygs (yo (sgn t).2) l RF.init;by_cases hdg:(scF (yo (sgn t).2) l RF.init).1.dig=false
 ·rw[if_pos hdg]at hR;cases hR
 ·rw[if_neg hdg]at hR ⊢;exact yh8 r h zd ht hR hn
def StpQ (c:UInt8) (r:List UInt8):Prop:=c=43\/c=45\/(c=105/\r=[])
theorem StpQ.s3 {c:UInt8} {r:List UInt8} (h:StpQ c r):yig c:=by
 rcases h with h | h | ⟨h,-⟩
 ·exact Or.inl h
 ·exact Or.inr (Or.inl h)
 ·exact Or.inr (Or.inr h)
theorem yib {c:UInt8} {r:List UInt8} (h:vb c≠105):cpL (c::r) infinityL=0:=by
 show (if vb c=105 then _ else 0)=0;rw[if_neg h]
theorem yg4 (ng:Bool) (k:Nat) {c:UInt8} {r:List UInt8} (h:vb c≠105):zd3 ng k (c::r)=none:=by
 unfold zd3;rw[yib h,if_neg ze,if_neg ze]
theorem ygn {s:List UInt8} {d:UInt8} {r:List UInt8} (h:(sgn s).2=d::r) (h1:vb d≠105) (h2:vb d≠110):qp s=none:=by
 cases s with
 | nil=>rfl
 | cons c q=>
  have hdef:qp (c::q)=if c=43 then zd3 false 1 q else if c=45 then zd3 true 1 q else if c=105\/c=73 then zd3 false 0 (c::q) else if c=110\/c=78 then (if cpL (c::q) [110,97,110]=3 then some (zmd,3) else none) else none:=rfl
  rw[hdef];rw[xq]at h;by_cases c1:c=43
  ·rw[if_pos c1]at h ⊢;have h:q=d::r:=h;rw[h];exact yg4 _ _ h1
  rw[if_neg c1]at h ⊢;by_cases c2:c=45
  ·rw[if_pos c2]at h ⊢;have h:q=d::r:=h;rw[h];exact yg4 _ _ h1
  rw[if_neg c2]at h ⊢;have h:c::q=d::r:=h;obtain⟨rfl,rfl⟩:=List.cons.inj h;have n1:¬(c=105\/c=73):=fun hh=>h1 ((ut c 105 (Or.inl rfl)).2 hh)
  have n2:¬(c=110\/c=78):=fun hh=>h2 ((ut c 110 (Or.inr rfl)).2 hh)
  rw[if_neg n1,if_neg n2]
theorem ygr {s:List UInt8} {L:Lit} (h:zau s=some L):∃ d r,(sgn s).2=d::r/\vb d≠105/\vb d≠110:=by
 cases hq:(sgn s).2 with
 | nil=>
  exfalso;unfold zau at h;rw[hq]at h;revert h;show ¬(Option.map _ (yil false [])=some L);unfold yil;simp
 | cons d r=>
  refine⟨d,r,rfl,fun e=>?_,fun e=>?_⟩
  ·rw[yiq hq (Or.inl e)]at h;cases h
  ·rw[yiq hq (Or.inr e)]at h;cases h
theorem yid {s:List UInt8} {L:Lit} (h:zau s=some L):s≠[]:=by
 rintro rfl;obtain⟨d,r,h1,-⟩:=ygr h;cases h1
theorem yhs {s:List UInt8} {L:Lit} (h:zau s=some L):qp s=none/\ul s=some (spT L):=by
 obtain⟨d,r,h1,h2,h3⟩:=ygr h;have hs:=ygn h1 h2 h3;refine⟨hs,?_⟩;refine zco s _ (fun h1 _=>?_) (fun ng h1 _=>?_) (fun _ hr=>?_)
 ·rw[hs]at h1;cases h1
 ·rw[hs]at h1;cases h1
 ·rw[hr,h];rfl
theorem yf3:∀ (p t y:List UInt8),xf t=p->cpL (t++y) p=p.length
 | [],t,y,h=>by cases t with
  | nil=>cases y <;> rfl
  | cons c r=>cases h
 | q::p,t,y,h=>by
  cases t with
  | nil=>cases h
  | cons c r=>
   obtain⟨h1,h2⟩:=List.cons.inj (show vb c::xf r=q::p from h)
   show (if vb c=q then 1+cpL (r++y) p else 0)=_
   rw[if_pos h1,yf3 p r y h2,List.length_cons,Nat.add_comm]
theorem ygz:∀ (p t:List UInt8) (a:UInt8) (p2 y:List UInt8),xf t=p->cpL (t++y) (p++a::p2)=p.length+cpL y (a::p2)
 | [],t,a,p2,y,h=>by
  cases t with
  | nil=>simp
  | cons c r=>cases h
 | q::p,t,a,p2,y,h=>by
  cases t with
  | nil=>cases h
  | cons c r=>
   obtain⟨h1,h2⟩:=List.cons.inj (show vb c::xf r=q::p from h)
   show (if vb c=q then 1+cpL (r++y) (p++a::p2) else 0)=_
   rw[if_pos h1,ygz p r a p2 y h2,List.length_cons]
   omega
theorem ygb (ng:Bool) (k:Nat) {t:List UInt8} {c:UInt8} {r:List UInt8} (hs:StpQ c r) (h:xf t=[105,110,102]\/xf t=[105,110,102,105,110,105,116,121]):zd3 ng k (t++c::r)=some (kp ng,k+t.length):=by
 have hl:t.length=(xf t).length:=(zj8 t).symm;unfold zd3;rcases h with h | h
 ·have e:=ygz [105,110,102] t 105 [110,105,116,121] (c::r) h;have e2:cpL (c::r) [105,110,105,116,121]<=1:=by
   show (if vb c=105 then 1+cpL r [110,105,116,121] else 0)<=1;rcases hs with rfl | rfl | ⟨rfl,rfl⟩
   ·rw[if_neg ze];omega
   ·rw[if_neg ze];omega
   ·rw[if_pos ze];exact Nat.le_refl _
  have e3:cpL (t++c::r) infinityL=3+cpL (c::r) [105,110,105,116,121]:=e;rw[if_neg zd,if_pos zd,hl,h];rfl
 ·have e:=yf3 [105,110,102,105,110,105,116,121] t (c::r) h;have e3:cpL (t++c::r) infinityL=8:=e;rw[if_pos e3,hl,h];rfl
theorem ygl {t:List UInt8} {c:UInt8} {r:List UInt8} {x:Txt} (hs:StpQ c r) (h:ul t=some x):
  (∃ y,qp (t++c::r)=some (y,t.length)/\qp t=some (y,t.length)) \/
  (qp (t++c::r)=none/\qp t=none/\∃ R L,rfP (t++c::r)=some R/\rfP t=some R/\R.n=t.length/\zau t=some L):=by
 obtain⟨a1,a2,-⟩:=zvo t;obtain⟨-,-,b3⟩:=zib t;by_cases hn:xf t=[110,97,110]
 ·refine Or.inl ⟨zmd,?_,a1 hn⟩;have e:=yf3 [110,97,110] t (c::r) hn;have hl:t.length=3:=by rw[<-zj8 t,hn];rfl
  cases t with
  | nil=>cases hn
  | cons d q=>
   have hd:vb d=110:=(List.cons.inj (show vb d::xf q=[110,97,110] from hn)).1;have hd2:d=110\/d=78:=(ut d 110 (Or.inr rfl)).1 hd;have n1:d≠43:=by rintro rfl;revert hd;decide
   have n2:d≠45:=by rintro rfl;revert hd;decide
   have n3:¬(d=105\/d=73):=fun hh=>by have:=(ut d 105 (Or.inl rfl)).2 hh;rw[hd]at this;revert this;decide
   show (if d=43 then zd3 false 1 (q++c::r) else if d=45 then zd3 true 1 (q++c::r) else if d=105\/d=73 then zd3 false 0 (d::(q++c::r)) else if d=110\/d=78 then (if cpL (d::(q++c::r)) [110,97,110]=3 then some (zmd,3) else none) else none)=_;have e3:cpL (d::(q++c::r)) [110,97,110]=3:=e;rw[if_neg n1,if_neg n2,if_neg n3,if_pos hd2,if_pos e3,hl]
 by_cases hi:(sgn (xf t)).2=[105,110,102]\/(sgn (xf t)).2=[105,110,102,105,110,105,116,121]
 ·refine Or.inl ⟨kp (sgn (xf t)).1,?_,a2 hn hi⟩;have hsl:=zct t;rw[hsl]at hi ⊢;dsimp only at hi ⊢;cases t with
  | nil=>rcases hi with hi | hi <;> cases hi
  | cons d q=>
   have hdef:qp ((d::q)++c::r)=if d=43 then zd3 false 1 (q++c::r) else if d=45 then zd3 true 1 (q++c::r) else if d=105\/d=73 then zd3 false 0 (d::q++c::r) else if d=110\/d=78 then (if cpL (d::q++c::r) [110,97,110]=3 then some (zmd,3) else none) else none:=rfl
   rw[hdef];rw[xq]at hi ⊢;by_cases c1:d=43
   ·rw[if_pos c1]at hi ⊢;rw[if_pos c1,ygb false 1 hs hi,List.length_cons,Nat.add_comm]
   rw[if_neg c1]at hi ⊢;rw[if_neg c1];by_cases c2:d=45
   ·rw[if_pos c2]at hi ⊢;rw[if_pos c2,ygb true 1 hs hi,List.length_cons,Nat.add_comm]
   rw[if_neg c2]at hi ⊢;rw[if_neg c2];dsimp only at hi ⊢;have hd:vb d=105:=by
    rcases hi with hi | hi
    ·exact (List.cons.inj (show vb d::xf q=_ from hi)).1
    ·exact (List.cons.inj (show vb d::xf q=_ from hi)).1
   have hd2:d=105\/d=73:=(ut d 105 (Or.inl rfl)).1 hd;rw[if_pos hd2,ygb false 0 hs hi,Nat.zero_add]
 ·rw[b3 hn hi]at h;obtain⟨L,hL,-⟩:=Option.map_eq_some_iff.1 h;obtain⟨d,q,h1,h2,h3⟩:=ygr hL;have h4:(sgn (t++c::r)).2=d::(q++c::r):=by rw[yg7 _ _ (yid hL),h1];rfl
  have h5:=zm9 hL;exact Or.inr ⟨ygn h4 h2 h3,ygn h1 h2 h3,_,L,yii r hs.s3 h5 rfl,h5,rfl,hL⟩
theorem yhc:∀ (s p:List UInt8),cpL s p<=s.length
 | [],p=>Nat.zero_le _
 | c::s,[]=>Nat.zero_le _
 | c::s,q::p=>by
  show (if vb c=q then 1+cpL s p else 0)<=s.length+1
  have:=yhc s p
  split <;> omega
theorem yf6:∀ (s p:List UInt8) (k:Nat),k<=cpL s p->xf (s.take k)=p.take k
 | s,p,0,_=>by rw[List.take_zero,List.take_zero];rfl
 | [],p,k+1,h=>by exact absurd h (by show ¬k+1<=0;omega)
 | c::s,[],k+1,h=>by exact absurd h (by show ¬k+1<=0;omega)
 | c::s,q::p,k+1,h=>by
  have h:k+1<=(if vb c=q then 1+cpL s p else 0):=h
  by_cases hc:vb c=q
  ·rw[if_pos hc]at h
   rw[List.take_succ_cons,List.take_succ_cons,<-hc,<-yf6 s p k zd]
   rfl
  ·rw[if_neg hc]at h;omega
theorem ygu (ng:Bool) (k:Nat) {t:List UInt8} {x:Nat×Nat} (h:zd3 ng k t=some x):
  x.1=kp ng/\∃ m,x.2=k+m/\m<=t.length/\(xf (t.take m)=[105,110,102]\/xf (t.take m)=[105,110,102,105,110,105,116,121]):=by
 unfold zd3 at h;have hl:=yhc t infinityL;by_cases h8:cpL t infinityL=8
 ·rw[if_pos h8]at h;cases h;refine⟨rfl,8,rfl,zd,Or.inr ?_⟩;rw[yf6 t infinityL 8 zd];rfl
 ·rw[if_neg h8]at h;by_cases h3:3<=cpL t infinityL
  ·rw[if_pos h3]at h;cases h;refine⟨rfl,3,rfl,zd,Or.inl ?_⟩;rw[yf6 t infinityL 3 zd];rfl
  ·rw[if_neg h3]at h;cases h
theorem ygt (ng:Bool) (k:Nat) {t:List UInt8} (h:xf t=[105,110,102]\/xf t=[105,110,102,105,110,105,116,121]):zd3 ng k t=some (kp ng,k+t.length):=by
 have hl:t.length=(xf t).length:=(zj8 t).symm;have e0:=fun p h=>yf3 p t [] h
 rw[List.append_nil]at e0;unfold zd3;rcases h with h | h
 ·have e:=ygz [105,110,102] t 105 [110,105,116,121] [] h;rw[List.append_nil]at e;have e3:cpL t infinityL=3:=e;rw[if_neg zd,if_pos zd,hl,h];rfl
 ·have e3:cpL t infinityL=8:=e0 _ h;rw[if_pos e3,hl,h];rfl
theorem yhf {s:List UInt8} {x:Nat×Nat} (h:qp s=some x):x.2<=s.length/\0<x.2/\qp (s.take x.2)=some x/\∃ t,ul (s.take x.2)=some t:=by
 cases s with
 | nil=>cases h
 | cons c r=>
  have hdef:qp (c::r)=if c=43 then zd3 false 1 r else if c=45 then zd3 true 1 r else if c=105\/c=73 then zd3 false 0 (c::r) else if c=110\/c=78 then (if cpL (c::r) [110,97,110]=3 then some (zmd,3) else none) else none:=rfl
  have fin:x.2<=(c::r).length->0<x.2->qp ((c::r).take x.2)=some x->x.2<=(c::r).length/\0<x.2/\qp ((c::r).take x.2)=some x/\∃ t,ul ((c::r).take x.2)=some t:=by
   intro h1 h0 h2;refine⟨h1,h0,h2,?_⟩;have hl:((c::r).take x.2).length=x.2:=zN;refine zco ((c::r).take x.2) _ (fun _ h=>⟨_,h⟩) (fun _ _ h=>⟨_,h⟩) (fun h3 _=>?_);rcases h3 with h3 | ⟨v,n,h3,h4,-⟩
   ·rw[h2]at h3;cases h3
   ·rw[h2]at h3;cases h3;exact absurd hl.symm h4
  rw[hdef]at h;by_cases c1:c=43
  ·rw[if_pos c1]at h;obtain⟨e1,m,e2,e3,e4⟩:=ygu false 1 h;refine fin (by rw[e2,List.length_cons];omega) zd ?_;rw[e2,Nat.add_comm,List.take_succ_cons];show (if c=43 then zd3 false 1 (r.take m) else _)=_;rw[if_pos c1,ygt false 1 e4,List.length_take,Nat.min_eq_left e3,<-e2,<-e1]
  rw[if_neg c1]at h;by_cases c2:c=45
  ·rw[if_pos c2]at h;obtain⟨e1,m,e2,e3,e4⟩:=ygu true 1 h;refine fin (by rw[e2,List.length_cons];omega) zd ?_;rw[e2,Nat.add_comm,List.take_succ_cons];show (if c=43 then zd3 false 1 (r.take m) else if c=45 then zd3 true 1 (r.take m) else _)=_;rw[if_neg c1,if_pos c2,ygt true 1 e4,List.length_take,Nat.min_eq_left e3,<-e2,<-e1]
  rw[if_neg c2]at h;by_cases c3:c=105\/c=73
  ·rw[if_pos c3]at h;obtain⟨e1,m,e2,e3,e4⟩:=ygu false 0 h;have e5:x.2=m:=zd;have hm0:m≠0:=by
    rintro rfl;rw[List.take_zero]at e4;rcases e4 with e4 | e4 <;> cases e4
   obtain⟨j,rfl⟩:∃ j,m=j+1:=⟨m-1,zd⟩;refine fin zd zd ?_;rw[e5];have hself:zd3 false 0 ((c::r).take (j+1))=some x:=by
    rw[ygt false 0 e4,List.length_take,Nat.min_eq_left e3,Nat.zero_add,<-e1,<-e5]
   rw[List.take_succ_cons]at hself ⊢;show (if c=43 then zd3 false 1 (r.take j) else if c=45 then zd3 true 1 (r.take j) else if c=105\/c=73 then zd3 false 0 (c::r.take j) else _)=_;rw[if_neg c1,if_neg c2,if_pos c3];exact hself
  rw[if_neg c3]at h;by_cases c4:c=110\/c=78
  ·rw[if_pos c4]at h;by_cases c5:cpL (c::r) [110,97,110]=3
   ·rw[if_pos c5]at h;cases h;have hl:=yhc (c::r) [110,97,110];have ht:=yf6 (c::r) [110,97,110] 3 zd;refine fin zd ze ?_;have e:=yf3 [110,97,110] ((c::r).take 3) [] ht;rw[List.append_nil]at e;rw[List.take_succ_cons]at e ⊢;show (if c=43 then zd3 false 1 (r.take 2) else if c=45 then zd3 true 1 (r.take 2) else if c=105\/c=73 then zd3 false 0 (c::r.take 2) else if c=110\/c=78 then (if cpL (c::r.take 2) [110,97,110]=3 then some (zmd,3) else none) else none)=_;have e3:cpL (c::r.take 2) [110,97,110]=3:=e;rw[if_neg c1,if_neg c2,if_neg c3,if_pos c4,if_pos e3]
   ·rw[if_neg c5]at h;cases h
  ·rw[if_neg c4]at h;cases h
theorem yhp {s:List UInt8} {R:RR} (h:rfP s=some R):R.n<=s.length/\0<R.n/\rfP (s.take R.n)=some R/\∃ L,zau (s.take R.n)=some L:=by
 obtain⟨P,T,h1,h2,h3⟩:=zvv h;obtain⟨h4,L,hL,-⟩:=zsf h;have e:s.take R.n=P:=by rw[h2,h1,List.take_left]
 have hne:=yid hL;rw[e]at hne;have hp:0<P.length:=List.length_pos_iff.2 hne;exact⟨h4,zd,by rw[e];exact h3,L,hL⟩
def yfz (s:List UInt8):List UInt8:=if 1<s.length/\s.getD 0 0=40/\s.getD (s.length-1) 0=41 then (s.drop 1).take (s.length-2) else s
theorem ygm {k:Nat} (h:k=0\/k=2):erK k≠erK 1:=by
 rcases h with rfl | rfl
 ·intro h;cases h
 ·unfold erK;rw[if_neg ze,if_neg ze,if_neg ze,if_pos rfl];intro h;injection h with _ h;injection h with _ h;revert h;decide
theorem ygw {k j:Nat} (h:k=0\/k=2) (h2:j=0\/j=2) (e:erK k=erK j):k=j:=by
 have key:erK 2≠erK 0:=by
  unfold erK;rw[if_neg ze,if_neg ze,if_pos rfl];intro h;cases h
 rcases h with rfl | rfl <;> rcases h2 with rfl | rfl
 ·rfl
 ·exact absurd e.symm key
 ·exact absurd e key
 ·rfl
structure FrOK (A:List UInt8->Nat->Nat->Value->Prop) (Pa:List UInt8->Nat->Nat->Prop):Prop where
 front:∀ {t:List UInt8} {c:UInt8} {r:List UInt8} {x:Txt} {v n:Nat} {ev:Value},StpQ c r->ul t=some x->t.length<=800->A (t++c::r) v n ev->n=t.length/\∃ k,ev=erK k/\Pa t v k
 back:∀ {s:List UInt8} {v n:Nat} {ev:Value},A s v n ev->s.length<=800->(v=0/\ev=erK 1)\/(n<=s.length/\0<n/\(∃ x,ul (s.take n)=some x)/\∃ k,(k=0\/k=2)/\ev=erK k/\Pa (s.take n) v k)
 whole:∀ {t:List UInt8} {x:Txt} {v n:Nat} {ev:Value},ul t=some x->t.length<=800->A t v n ev->n=t.length/\∃ k,ev=erK k/\Pa t v k
 kind:∀ {t:List UInt8} {x:Txt} {v k:Nat},ul t=some x->Pa t v k->k=0\/k=2
 ext:∀ {s t:List UInt8} {v k:Nat},ul s=ul t->Pa s v k->Pa t v k
 zero:Pa [48] 0 0
def yg6 (c:UInt8) (r:List UInt8):List UInt8:=if c=43/\r≠[]/\r.getD 0 0≠43 then r else c::r
def yim (A:List UInt8->Nat->Nat->Value->Prop) (u:List UInt8) (x y k:Nat):Prop:=
  ∃ v n ev,A u v n ev/\
    ((ev=erK 1/\x=0/\y=0/\k=1) \/
     ∃ k1,(k1=0\/k1=2)/\ev=erK k1/\n<=u.length/\
      ((u.drop n=[]/\x=v/\y=0/\k=k1) \/
       (u.drop n=[105]/\x=0/\y=v/\k=k1) \/
       (∃ c r,u.drop n=c::r/\c≠43/\c≠45/\(c=105->r≠[])/\x=0/\y=0/\k=1) \/
       (∃ c r,u.drop n=c::r/\(c=43\/c=45)/\∃ v2 n2 ev2,A (yg6 c r) v2 n2 ev2/\
         ((ev2=erK 1/\x=0/\y=0/\k=1) \/
          ∃ k2,(k2=0\/k2=2)/\ev2=erK k2/\n2<=(yg6 c r).length/\
           (((yg6 c r).drop n2≠[105]/\x=0/\y=0/\k=1)\/((yg6 c r).drop n2=[105]/\x=v/\y=v2/\k=if k2=2 then 2 else k1))))))
def yhe (A:List UInt8->Nat->Nat->Value->Prop) (s:List UInt8) (x y k:Nat):Prop:=yim A (yfz s) x y k
def yjz (c:UInt8):Prop:=c=32\/c=40\/c=41
theorem yis {c:UInt8} (h:yjz c):(∀ hex,xe hex c=false)/\wc c≠101/\wc c≠112/\wc c≠120/\c≠46/\c≠43/\c≠45/\c≠48:=by
 rcases h with rfl | rfl | rfl
 ·exact⟨fun hex=>zβF,ze⟩
 ·exact⟨fun hex=>zβF,ze⟩
 ·exact⟨fun hex=>zβF,ze⟩
theorem yi6 {c:UInt8} {l:List UInt8} (h:c ∈ l) (h1:c≠43) (h2:c≠45):c ∈ (sgn l).2:=by
 cases l with
 | nil=>cases h
 | cons d r=>
  rw[xq];by_cases e1:d=43
  ·rw[if_pos e1];rcases List.mem_cons.1 h with h | h
   ·exact absurd (h.trans e1) h1
   ·exact h
  ·rw[if_neg e1];by_cases e2:d=45
   ·rw[if_pos e2];rcases List.mem_cons.1 h with h | h
    ·exact absurd (h.trans e2) h2
    ·exact h
   ·rw[if_neg e2];exact h
theorem yjy {p:UInt8->Bool} {l:List UInt8} {c:UInt8} (h:l.all p=true) (hc:p c=false):c ∉ l:=fun hm=>by
 have:=List.all_eq_true.1 h c hm
 rw[hc]at this;cases this
theorem yi9 {p:UInt8->Bool} {l:List UInt8} {c:UInt8} (hc:p c=false):c ∉ l.takeWhile p:=fun hm=>by
 have h:∀ l:List UInt8,c ∈ l.takeWhile p->p c=true:=by
  intro l;induction l with
  | nil=>intro h;cases h
  | cons d r ih=>
   intro h;rw[List.takeWhile_cons]at h;by_cases hd:p d=true
   ·rw[if_pos hd]at h;rcases List.mem_cons.1 h with e | h
    ·rw[e];exact hd
    ·exact ih h
   ·rw[if_neg hd]at h;cases h
 have:=h l hm;rw[hc]at this;cases this
theorem yjm {hex:Bool} {l:List UInt8} {x:Bool×List Nat} (h:zhr hex l=some x) {c:UInt8} (hc:yjz c):c ∉ l:=by
 obtain⟨f1,f2,f3,f4,f5,f6,f7,f8⟩:=yis hc;cases l with
 | nil=>intro h;cases h
 | cons d r=>
  unfold zhr at h;obtain⟨⟨h1,h2,h3,h4⟩,-⟩:=zfn h;intro hm;rcases List.mem_cons.1 hm with e | hm
  ·rw[<-e]at h1;revert h1;cases hex
   ·exact f2
   ·exact f3
  ·exact yjy h3 (f1 false) (yi6 hm f6 f7)
theorem yjn {hex:Bool} {l:List UInt8} {x:List Nat×List Nat×Bool×List Nat} (h:yil hex l=some x) {c:UInt8} (hc:yjz c):c ∉ l:=by
 obtain⟨f1,f2,f3,f4,f5,f6,f7,f8⟩:=yis hc;unfold yil at h;dsimp only at h;obtain⟨-,h⟩:=zob h;obtain⟨-,h⟩:=zfn h;obtain⟨y,hy,-⟩:=Option.map_eq_some_iff.1 h;have h2:=yjm hy hc;intro hm;rw[<-List.takeWhile_append_dropWhile (p:=xe hex) (l:=l)]at hm;rcases List.mem_append.1 hm with hm | hm
 ·exact yi9 (f1 hex) hm
 ·generalize l.dropWhile (xe hex)=r at *
  by_cases e:r.head?=some 46
  ·rw[if_pos e]at h2;cases r with
   | nil=>cases e
   | cons d q=>
    rcases List.mem_cons.1 hm with g | hm
    ·have:d=46:=Option.some.inj e;exact f5 (g.trans this)
    ·rw[List.tail_cons]at h2;rw[<-List.takeWhile_append_dropWhile (p:=xe hex) (l:=q)]at hm;rcases List.mem_append.1 hm with hm | hm
     ·exact yi9 (f1 hex) hm
     ·exact h2 hm
  ·rw[if_neg e]at h2;exact h2 hm
theorem yjx {s:List UInt8} {L:Lit} (h:zau s=some L) {c:UInt8} (hc:yjz c):c ∉ s:=by
 obtain⟨f1,f2,f3,f4,f5,f6,f7,f8⟩:=yis hc;unfold zau at h;dsimp only at h;obtain⟨y,hy,-⟩:=Option.map_eq_some_iff.1 h;have h2:=yjn hy hc;intro hm;have hm:=yi6 hm f6 f7;generalize (sgn s).2=u at *
 cases hh:yo u
 ·rw[hh]at h2;simp only[Bool.false_eq_true,if_false]at h2;exact h2 hm
 ·rw[hh]at h2;simp only[if_true]at h2;cases u with
  | nil=>cases hm
  | cons a u=>
   cases u with
   | nil=>cases hh
   | cons b u=>
    cases u with
    | nil=>cases hh
    | cons d u=>
     have:a=48/\wc b=120:=of_decide_eq_true hh;rcases List.mem_cons.1 hm with e | hm
     ·exact f8 (e.trans this.1)
     rcases List.mem_cons.1 hm with e | hm
     ·rw[<-e]at this;exact f4 this.2
     ·exact h2 hm
theorem yiy {s:List UInt8} {t:Txt} (h:ul s=some t) {c:UInt8} (hc:yjz c):c ∉ s:=by
 intro hm;have hlow:vb c=c:=by rcases hc with rfl | rfl | rfl <;> decide
 have hlm:c ∈ xf s:=by
  have:=List.mem_map_of_mem (f:=vb) hm;rw[hlow]at this;exact this
 obtain⟨-,-,b3⟩:=zib s;by_cases hn:xf s=[110,97,110]
 ·rw[hn]at hlm;rcases hc with rfl | rfl | rfl <;> revert hlm <;> decide
 by_cases hi:(sgn (xf s)).2=[105,110,102]\/(sgn (xf s)).2=[105,110,102,105,110,105,116,121]
 ·have h2:=yi6 hlm (yis hc).2.2.2.2.2.1 (yis hc).2.2.2.2.2.2.1;rcases hi with hi | hi <;> rw[hi]at h2 <;> rcases hc with rfl | rfl | rfl <;> revert h2 <;> decide
 ·rw[b3 hn hi]at h;obtain⟨L,hL,-⟩:=Option.map_eq_some_iff.1 h;exact yjx hL hc hm
theorem yi0 (t:List UInt8):yfz (40::(t++[41]))=t:=by
 unfold yfz;have hl:(40::(t++[41])).length=t.length+2:=zi;rw[hl,if_pos]
 ·show (t++[41]).take (t.length+2-2)=t;rw[Nat.add_sub_cancel,List.take_left'];rfl
 ·refine⟨zd,rfl,?_⟩;show (40::(t++[41])).getD (t.length+1) 0=41;rw[List.getD_eq_getElem?_getD,List.getElem?_cons_succ,List.getElem?_append_right (Nat.le_refl _),Nat.sub_self];rfl
theorem yix {s:List UInt8} (h:40 ∉ s):yfz s=s:=by
 unfold yfz;rw[if_neg];rintro⟨h1,h2,-⟩;cases s with
 | nil=>simp at h1
 | cons c r=>
  have:c=40:=h2;exact h (by simp[this])
theorem yje {A:List UInt8->Nat->Nat->Value->Prop} {Pa:List UInt8->Nat->Nat->Prop} (H:FrOK A Pa) {s:List UInt8} {xt:Txt} {x y k:Nat} (hs:ul s=some xt) (hl:s.length<=800) (hr:yim A s x y k):Pa s x k/\y=0/\(k=0\/k=2):=by
 obtain⟨v,n,ev,hA,hr⟩:=hr;obtain⟨rfl,k0,e0,hp⟩:=H.whole hs hl hA;have hk:=H.kind hs hp;have hd:s.drop s.length=[]:=List.drop_length;rcases hr with⟨e,-⟩ | ⟨k1,hk1,e,-,hr⟩
 ·exact absurd (e0.symm.trans e) (ygm hk)
 ·obtain rfl:=ygw hk1 hk (e.symm.trans e0);rcases hr with⟨-,rfl,rfl,rfl⟩ | ⟨h,-⟩ | ⟨c,r,h,-⟩ | ⟨c,r,h,-⟩
  ·exact⟨hp,rfl,hk⟩
  ·rw[hd]at h;cases h
  ·rw[hd]at h;cases h
  ·rw[hd]at h;cases h
theorem yja {A:List UInt8->Nat->Nat->Value->Prop} {Pa:List UInt8->Nat->Nat->Prop} (H:FrOK A Pa) {s:List UInt8} {xt:Txt} {x y k:Nat} (hs:ul s=some xt) (hl:s.length<=800) (hr:yim A (s++[105]) x y k):Pa s y k/\x=0/\(k=0\/k=2):=by
 obtain⟨v,n,ev,hA,hr⟩:=hr;obtain⟨rfl,k0,e0,hp⟩:=H.front (Or.inr (Or.inr ⟨rfl,rfl⟩)) hs hl hA;have hk:=H.kind hs hp;have hd:(s++[105]).drop s.length=[105]:=List.drop_left' rfl;rcases hr with⟨e,-⟩ | ⟨k1,hk1,e,-,hr⟩
 ·exact absurd (e0.symm.trans e) (ygm hk)
 ·obtain rfl:=ygw hk1 hk (e.symm.trans e0);rw[hd]at hr;rcases hr with⟨h,-⟩ | ⟨-,rfl,rfl,rfl⟩ | ⟨c,r,h,-,-,h105,-⟩ | ⟨c,r,h,hc,-⟩
  ·cases h
  ·exact⟨hp,rfl,hk⟩
  ·obtain⟨rfl,rfl⟩:=List.cons.inj h;exact absurd rfl (h105 rfl)
  ·obtain⟨rfl,rfl⟩:=List.cons.inj h;rcases hc with hc | hc <;> exact absurd hc ze 
theorem yjc {A:List UInt8->Nat->Nat->Value->Prop} {Pa:List UInt8->Nat->Nat->Prop} (H:FrOK A Pa) {a b tb:List UInt8} {c:UInt8} {xa xb:Txt} {x y k:Nat} (ha:ul a=some xa) (hb:ul tb=some xb) (hla:a.length<=800) (hlb:tb.length<=800)
  (hc:(c=43/\tb=b/\b.getD 0 0≠43)\/(c=45/\tb=45::b)) (hr:yim A (a++c::(b++[105])) x y k):
  ∃ k1 k2,(k1=0\/k1=2)/\(k2=0\/k2=2)/\Pa a x k1/\Pa tb y k2/\k=if k2=2 then 2 else k1:=by
 obtain⟨v,n,ev,hA,hr⟩:=hr;have hcs:c=43\/c=45:=hc.elim (fun h=>Or.inl h.1) (fun h=>Or.inr h.1);obtain⟨rfl,k0,e0,hp⟩:=H.front (hcs.elim Or.inl (fun h=>Or.inr (Or.inl h))) ha hla hA;have hk:=H.kind ha hp;have hd:(a++c::(b++[105])).drop a.length=c::(b++[105]):=List.drop_left' rfl;rcases hr with⟨e,-⟩ | ⟨k1,hk1,e,-,hr⟩
 ·exact absurd (e0.symm.trans e) (ygm hk)
 ·obtain rfl:=ygw hk1 hk (e.symm.trans e0);rw[hd]at hr;rcases hr with⟨h,-⟩ | ⟨h,-⟩ | ⟨c',r,h,h43,h45,-⟩ | ⟨c',r,h,-,v2,n2,ev2,hA2,hr⟩
  ·cases h
  ·obtain⟨h,-⟩:=List.cons.inj h;rw[h]at hcs;rcases hcs with hc | hc <;> exact absurd hc ze
  ·obtain⟨h,-⟩:=List.cons.inj h;rw[h]at hcs;exact hcs.elim (fun h=>absurd h h43) (fun h=>absurd h h45)
  ·obtain⟨rfl,rfl⟩:=List.cons.inj h;have hsec:yg6 c (b++[105])=tb++[105]:=by
    unfold yg6;rcases hc with⟨rfl,rfl,hh⟩ | ⟨rfl,rfl⟩
    ·rw[if_pos];refine⟨rfl,zi,?_⟩;cases tb with
     | nil=>decide
     | cons d q=>exact hh
    ·rw[if_neg (fun h=>absurd h.1 ze)];rfl
   rw[hsec]at hA2 hr;obtain⟨rfl,j0,j1,hp2⟩:=H.front (Or.inr (Or.inr ⟨rfl,rfl⟩)) hb hlb hA2;have hj:=H.kind hb hp2;have hd2:(tb++[105]).drop tb.length=[105]:=List.drop_left' rfl;rcases hr with⟨e2,-⟩ | ⟨k2,hk2,e2,-,⟨h5,-⟩ | ⟨-,rfl,rfl,h3⟩⟩
   ·exact absurd (j1.symm.trans e2) (ygm hj)
   ·exact absurd hd2 h5
   ·obtain rfl:=ygw hk2 hj (e2.symm.trans j1);exact⟨k1,k2,hk1,hk2,hp,hp2,h3⟩
theorem yjd {A:List UInt8->Nat->Nat->Value->Prop} {Pa:List UInt8->Nat->Nat->Prop} (H:FrOK A Pa) {u:List UInt8} {x y k:Nat} (hm:32 ∈ u) (hl:u.length<=800) (hr:yim A u x y k):k=1:=by
 obtain⟨v,n,ev,hA,hr⟩:=hr;rcases hr with⟨-,-,-,h⟩ | ⟨k1,hk1,e,hn,hr⟩
 ·exact h
 ·have hb:∃ x,ul (u.take n)=some x:=by
   rcases H.back hA hl with⟨-,e2⟩ | ⟨-,-,h,-⟩
   ·exact absurd (e.symm.trans e2) (ygm hk1)
   ·exact h
  obtain⟨xt,hb⟩:=hb;have h1:=yiy hb (Or.inl rfl:yjz 32);rw[<-List.take_append_drop n u]at hm;have hm:=(List.mem_append.1 hm).resolve_left h1;rcases hr with⟨h,-⟩ | ⟨h,-⟩ | ⟨c,r,-,-,-,-,-,-,h⟩ | ⟨c,r,h,hc,v2,n2,ev2,hA2,hr⟩
  ·rw[h]at hm;cases hm
  ·rw[h]at hm;exact absurd hm ze
  ·exact h
  ·rcases hr with⟨-,-,-,h⟩ | ⟨k2,hk2,e2,hn2,⟨-,-,-,h⟩ | ⟨h5,-⟩⟩
   ·exact h
   ·exact h
   ·exfalso;have hsl:(yg6 c r).length<=800:=by
     have h8:(c::r).length<=u.length:=by rw[<-h,List.length_drop];omega
     unfold yg6;split
     ·rw[List.length_cons]at h8;omega
     ·omega
    have h2:∃ x,ul ((yg6 c r).take n2)=some x:=by
     rcases H.back hA2 hsl with⟨-,e3⟩ | ⟨-,-,h,-⟩
     ·exact absurd (e2.symm.trans e3) (ygm hk2)
     ·exact h
    obtain⟨xt2,h2⟩:=h2;have h3:=yiy h2 (Or.inl rfl:yjz 32);rw[h]at hm;have hm2:32 ∈ yg6 c r:=by
     unfold yg6;split
     ·rcases List.mem_cons.1 hm with g | g
      ·rw[<-g]at hc;rcases hc with hc | hc <;> exact absurd hc ze
      ·exact g
     ·exact hm
    rw[<-List.take_append_drop n2 (yg6 c r),h5]at hm2;rcases List.mem_append.1 hm2 with g | g
    ·exact h3 g
    ·revert g;decide
theorem yjb {s:List UInt8} (h:32 ∈ s):32 ∈ yfz s/\(yfz s).length<=s.length:=by
 unfold yfz;split
 ·rename_i hc;obtain⟨h1,h2,h3⟩:=hc;refine⟨?_,by rw[List.length_take,List.length_drop];omega⟩;cases s with
  | nil=>cases h
  | cons c r=>
   have hc:c=40:=h2;rcases List.mem_cons.1 h with g | g
   ·rw[hc]at g;exact absurd g ze
   ·show 32 ∈ r.take (r.length+1-2);have hr:r≠[]:=by rintro rfl;simp at h1
    have h4:=(List.dropLast_concat_getLast hr).symm;rw[show r.length+1-2=r.length-1 by omega,<-List.dropLast_eq_take];rw[h4]at g;rcases List.mem_append.1 g with g | g
    ·exact g
    ·exfalso;have h5:r.getLast hr=41:=by
      rw[List.getLast_eq_getElem];have h6:(c::r).getD (r.length) 0=41:=h3;have hlr:r.length-1<r.length:=by have:=List.length_pos_iff.2 hr;omega
      rw[show r.length=(r.length-1)+1 by omega,List.getD_eq_getElem?_getD,List.getElem?_cons_succ,List.getElem?_eq_getElem hlr]at h6;exact h6
     rw[h5]at g;revert g;decide
 ·exact⟨h,Nat.le_refl _⟩
section
attribute [local go_sem] undef
theorem zdh (w:World) (B:Nat) (u0 u1 u2:Value):w.grownBy (((w.setCell ⟨B,0,none⟩ u0).setCell ⟨B,1,none⟩ u1).setCell ⟨B,2,none⟩ u2) (some B):=
 yx (yx (wq w ⟨B,0,none⟩ _) (wq _ ⟨B,1,none⟩ _) (fun _ h _=>h)) (wq _ ⟨B,2,none⟩ _) (fun _ h _=>h)
end
section
attribute [local go_sem] undef
theorem zr6 (j:Int) (h1:-9223372036854775808<=j) (h2:j<=9223372036854775807):IntKind.i64.wrap j=j:=by rw[IntKind.wrap_i64];omega
structure InBlk (w w1:World) (B:Nat) (neg:Bool) (vn vd:Value):Prop where
 row:Row w1 B [.bool neg,vn,vd]
 grown:w.grownBy w1 none
 size:w.heap.size=B
theorem InBlk.new (w:World) (neg:Bool) (vn vd:Value) (t:TypeId):InBlk w (w.alloc (.cells #[.bool neg,vn,vd] t)) w.heap.size neg vn vd:=⟨Row.new w _ _,World.grownBy_alloc w _ none,rfl⟩
end
section
attribute [local go_sem] undef
theorem zab (x K N:Nat) (h:(yf x).length<=K):(yf (x*2^N)).length<=K+N:=by
 refine yv ?_;rw[Nat.pow_add];refine Nat.mul_lt_mul_of_lt_of_le (Nat.lt_of_lt_of_le (wu x) (Nat.pow_le_pow_right ze h)) ?_ (Nat.pow_pos ze);exact Nat.pow_le_pow_left ze _
set_option maxRecDepth 100000 in
theorem zli (neg:Bool) (vn vd:Value) (a b N:Nat) (w:World) (hn:NatV w vn a) (hd:NatV w vd b) (hla:(yf a).length<=1000000) (hlb:(yf b).length<=1000000) (hN:N<=5000000):
  Calls Tryz.prog 82 #[.agg #[.bool neg,vn,vd],.int .i64 (N:Int)] w fun e w'=>∃ vr,e=.returned vr/\zpu w' vr neg (a) (b*2^N)/\w.grownBy w' none:=by
 have HM:=zH (fun W (hg:w.grownBy W none)=>qe vd b N W (hd.grown hg) hlb zd);have HNA:=zH hn;have HNB:=zH hd;obtain⟨an,cn,rfl⟩:=hn.len;obtain⟨ad,cd,rfl⟩:=hd.len;generalize (yf a).length=LN at *
 generalize (yf b).length=LD at *
 obtain⟨w1,hw1⟩:=zX ((w.alloc (.cells #[.bool neg,.slice an LN cn,.slice ad LD cd] 37)).alloc (.cells #[.bool false,.slice none 0 0,.slice none 0 0] 37));obtain⟨B,hB⟩:=zX w.heap.size;have hrT:Row w1 B [.bool neg,.slice an LN cn,.slice ad LD cd]:=zV;have hrR:Row w1 (B+1) ratZ:=by
  rw[<-hw1,<-hB];have:=Row.new (w.alloc (.cells #[.bool neg,.slice an LN cn,.slice ad LD cd] 37)) ratZ 37;have e:(w.alloc (.cells #[.bool neg,.slice an LN cn,.slice ad LD cd] 37)).heap.size=w.heap.size+1:=by show (w.heap.push _).size=_;simp
  rw[e]at this;exact this
 have hg1:w.grownBy w1 none:=zy;have HRT:=zH hrT;have HRR:=zH hrR;have HG1:=zH hg1;have HW1:=zH hw1;have HB:=zH hB;clear hrT hrR hg1 hw1 hn hd hla hlb;refine ye Tryz.func82 rfl (by rw[Tryz.ntmps82];simp) ?_;intro σ hσ;rw[Tryz.ntmps82];have s0:σ 0=.agg #[.bool neg,.slice an LN cn,.slice ad LD cd]:=hσ 0 zi;have s1:σ 1=.int .i64 (N:Int):=hσ 1 zi;clear hσ;go_upto_region 1 with fail;rw[HW1.out];clear HW1;have hcell0:∀ W,w1.grownBy W (some (B+1))->W.cell? ⟨B,0,none⟩=some (.bool neg):=fun W h=>(HRT.out.grown h zi).cell 0
 have hcell1:∀ W,w1.grownBy W (some (B+1))->W.cell? ⟨B,1,none⟩=some (.slice an LN cn):=fun W h=>(HRT.out.grown h zi).cell 1
 have hcell2:∀ W,w1.grownBy W (some (B+1))->W.cell? ⟨B,2,none⟩=some (.slice ad LD cd):=fun W h=>(HRT.out.grown h zi).cell 2
 have HC0:=zH hcell0;have HC1:=zH hcell1;have HC2:=zH hcell2;clear hcell0 hcell1 hcell2 hB;(go_wp2_with fail;repeat ((first|refine cZ ?_|refine cW ?_);go_wp2_with fail));refine wp_region_noPanic ?_;refine wp_region_held_drew (S:=fun W=>w1.grownBy W (some (B+1))) zg (yh w1 1 _) (fun hHeld=>?_);have hrD:=HRR.out.drew;have hG:=ya HG1.out (yh w1 1 none);replace hG:w.grownBy w1.drew none:=hG;(refine yg 0 7 ?_);(refine xg 1 8 (oi:=?_) (v:=?_) ?_ ?_ zg zg zg (fun _ _ _ _ _ h=>h) ?_ zq ?_ ?_;rotate_left 2;(focus ((simp only[List.getElem?_toArray,List.getElem?_cons_succ,List.getElem?_cons_zero]);rfl));(focus rfl);(focus (first | rfl | (simp only[Region.wanted,yielded,List.getElem?_toArray,List.getElem?_cons_succ,List.getElem?_cons_zero,Option.bind_some,Option.map_some,Fr_get?,yc,yd];rfl) | go_simp));(focus (intro W hS;have hc:=HC0.out W hS;go_simp;try with_reducible rfl)));(refine yg 2 9 ?_);(refine xg 3 10 (oi:=?_) (v:=?_) ?_ ?_ zg zg zg (fun _ _ _ _ _ h=>h) ?_ zq ?_ ?_;rotate_left 2;(focus ((simp only[List.getElem?_toArray,List.getElem?_cons_succ,List.getElem?_cons_zero]);rfl));(focus rfl);(focus (first | rfl | (simp only[Region.wanted,yielded,List.getElem?_toArray,List.getElem?_cons_succ,List.getElem?_cons_zero,Option.bind_some,Option.map_some,Fr_get?,yc,yd];rfl) | go_simp));(focus (intro W hS;have hc:=HC1.out W hS;go_simp;try with_reducible rfl)));(refine yg 4 11 ?_);(refine xg 5 12 (oi:=?_) (v:=?_) ?_ ?_ zg zg zg (fun _ _ _ _ _ h=>h) ?_ zq ?_ ?_;rotate_left 2;(focus ((simp only[List.getElem?_toArray,List.getElem?_cons_succ,List.getElem?_cons_zero]);rfl));(focus rfl);(focus (first | rfl | (simp only[Region.wanted,yielded,List.getElem?_toArray,List.getElem?_cons_succ,List.getElem?_cons_zero,Option.bind_some,Option.map_some,Fr_get?,yc,yd];rfl) | go_simp));(focus (intro W hS;have hc:=HC2.out W hS;go_simp;try with_reducible rfl)));(refine yg 6 13 ?_);(refine zO 7 ?_;intro K hK;go_simp;(refine (HM.out _ hG).mono ?_;rintro e wA ⟨vA,rfl,hvd,hgA⟩);go_wp2_with fail;replace hHeld:=yx hHeld hgA (fun j e=>zL);refine hK.out _ _ hHeld ?_;clear hK K);replace hrD:=hrD.grown hgA zi;replace hG:=ya hG hgA;clear hgA;have hvn:=HNA.out.grown hG;obtain⟨am,cm,rfl⟩:=hvd.len;generalize (yf (b*2^N)).length=LM at *
 (refine yg 8 15 ?_);have k0:=hrD.cell 0;have k1:=hrD.cell 1;have k2:=hrD.cell 2;have t0:=hrD.frozen 0;have t1:=hrD.frozen 1;have t2:=hrD.frozen 2;unfold ratZ at k0 k1 k2;simp only[List.getElem?_cons_zero,List.getElem?_cons_succ]at k0 k1 k2;have HG:=zH (xk hG (B:=B+1) (by have:=HB.out;omega) (.bool neg) (.slice an LN cn) (.slice am LM cm));have HVN:=zH (yz hrD hvn neg (.slice an LN cn) (.slice am LM cm));have HVD:=zH (yz hrD hvd neg (.slice an LN cn) (.slice am LM cm));have HROW:=zH (wp hrD (.bool neg) (.slice an LN cn) (.slice am LM cm));(refine zO 9 ?_;intro K hK;go_simp;(skip);go_wp2_with fail;replace hHeld:=yx hHeld (zdh _ _ (.bool neg) (.slice an LN cn) (.slice am LM cm)) (fun j e _=>e ▸ rfl);refine hK.out _ _ hHeld ?_;clear hK K);refine wpAnyH_done zg ?_ _;refine NoPanic.normal ?_;(go_wp2_with fail;repeat ((first|refine cZ ?_|refine cW ?_);go_wp2_with fail));obtain⟨ty,hrow⟩:=HROW.out;exact bodyPost_ret (v:=.agg #[.bool neg,.slice an LN cn,.slice am LM cm]) (results_cell_row rfl _ _ (B+1) ty _ (0,0) _ (by rw[wa 26 _ σ 4 ze];simp[ov, *]) hrow Tryz.underlying37 rfl zg) (vz ..) ⟨_,rfl,⟨_,_,rfl,HVN.out,HVD.out⟩,HG.out⟩
set_option maxRecDepth 100000 in
theorem zgz (neg:Bool) (vn vd:Value) (a b N:Nat) (w:World) (hn:NatV w vn a) (hd:NatV w vd b) (hla:(yf a).length<=1000000) (hlb:(yf b).length<=1000000) (hN:N<=5000000) (hN1:1<=N):
  Calls Tryz.prog 82 #[.agg #[.bool neg,vn,vd],.int .i64 (-(N:Int))] w fun e w'=>∃ vr,e=.returned vr/\zpu w' vr neg (a*2^N) (b)/\w.grownBy w' none:=by
 have HM:=zH (fun W (hg:w.grownBy W none)=>qe vn a N W (hn.grown hg) hla zd);have HNA:=zH hn;have HNB:=zH hd;obtain⟨an,cn,rfl⟩:=hn.len;obtain⟨ad,cd,rfl⟩:=hd.len;generalize (yf a).length=LN at *
 generalize (yf b).length=LD at *
 obtain⟨w1,hw1⟩:=zX ((w.alloc (.cells #[.bool neg,.slice an LN cn,.slice ad LD cd] 37)).alloc (.cells #[.bool false,.slice none 0 0,.slice none 0 0] 37));obtain⟨B,hB⟩:=zX w.heap.size;have hrT:Row w1 B [.bool neg,.slice an LN cn,.slice ad LD cd]:=zV;have hrR:Row w1 (B+1) ratZ:=by
  rw[<-hw1,<-hB];have:=Row.new (w.alloc (.cells #[.bool neg,.slice an LN cn,.slice ad LD cd] 37)) ratZ 37;have e:(w.alloc (.cells #[.bool neg,.slice an LN cn,.slice ad LD cd] 37)).heap.size=w.heap.size+1:=by show (w.heap.push _).size=_;simp
  rw[e]at this;exact this
 have hg1:w.grownBy w1 none:=zy;have HRT:=zH hrT;have HRR:=zH hrR;have HG1:=zH hg1;have HW1:=zH hw1;have HB:=zH hB;clear hrT hrR hg1 hw1 hn hd hla hlb;refine ye Tryz.func82 rfl (by rw[Tryz.ntmps82];simp) ?_;intro σ hσ;rw[Tryz.ntmps82];have s0:σ 0=.agg #[.bool neg,.slice an LN cn,.slice ad LD cd]:=hσ 0 zi;have s1:σ 1=.int .i64 (-(N:Int)):=hσ 1 zi;have f1:decide ((0:Int)<=-(N:Int))=false:=zh;have f2:decide (N=0)=false:=zh;clear hσ;go_upto_region 1 with fail;rw[HW1.out];clear HW1;have hcell0:∀ W,w1.grownBy W (some (B+1))->W.cell? ⟨B,0,none⟩=some (.bool neg):=fun W h=>(HRT.out.grown h zi).cell 0
 have hcell1:∀ W,w1.grownBy W (some (B+1))->W.cell? ⟨B,1,none⟩=some (.slice an LN cn):=fun W h=>(HRT.out.grown h zi).cell 1
 have hcell2:∀ W,w1.grownBy W (some (B+1))->W.cell? ⟨B,2,none⟩=some (.slice ad LD cd):=fun W h=>(HRT.out.grown h zi).cell 2
 have HC0:=zH hcell0;have HC1:=zH hcell1;have HC2:=zH hcell2;clear hcell0 hcell1 hcell2 hB;(go_wp2_with fail;repeat ((first|refine cZ ?_|refine cW ?_);go_wp2_with fail));refine wp_region_noPanic ?_;refine wp_region_held_drew (S:=fun W=>w1.grownBy W (some (B+1))) zg (yh w1 1 _) (fun hHeld=>?_);have hrD:=HRR.out.drew;have hG:=ya HG1.out (yh w1 1 none);replace hG:w.grownBy w1.drew none:=hG;(refine yg 0 16 ?_);(refine xg 1 17 (oi:=?_) (v:=?_) ?_ ?_ zg zg zg (fun _ _ _ _ _ h=>h) ?_ zq ?_ ?_;rotate_left 2;(focus ((simp only[List.getElem?_toArray,List.getElem?_cons_succ,List.getElem?_cons_zero]);rfl));(focus rfl);(focus (first | rfl | (simp only[Region.wanted,yielded,List.getElem?_toArray,List.getElem?_cons_succ,List.getElem?_cons_zero,Option.bind_some,Option.map_some,Fr_get?,yc,yd];rfl) | go_simp));(focus (intro W hS;have hc:=HC0.out W hS;go_simp;try with_reducible rfl)));(refine yg 2 18 ?_);(refine xg 3 19 (oi:=?_) (v:=?_) ?_ ?_ zg zg zg (fun _ _ _ _ _ h=>h) ?_ zq ?_ ?_;rotate_left 2;(focus ((simp only[List.getElem?_toArray,List.getElem?_cons_succ,List.getElem?_cons_zero]);rfl));(focus rfl);(focus (first | rfl | (simp only[Region.wanted,yielded,List.getElem?_toArray,List.getElem?_cons_succ,List.getElem?_cons_zero,Option.bind_some,Option.map_some,Fr_get?,yc,yd];rfl) | go_simp));(focus (intro W hS;have hc:=HC1.out W hS;go_simp;try with_reducible rfl)));(refine yg 4 20 ?_);(refine xg 5 21 (oi:=?_) (v:=?_) ?_ ?_ zg zg zg (fun _ _ _ _ _ h=>h) ?_ zq ?_ ?_;rotate_left 2;(focus ((simp only[List.getElem?_toArray,List.getElem?_cons_succ,List.getElem?_cons_zero]);rfl));(focus rfl);(focus (first | rfl | (simp only[Region.wanted,yielded,List.getElem?_toArray,List.getElem?_cons_succ,List.getElem?_cons_zero,Option.bind_some,Option.map_some,Fr_get?,yc,yd];rfl) | go_simp));(focus (intro W hS;go_simp;rw[vt N zd])));(refine yg 7 23 ?_);(refine xg 8 24 (oi:=?_) (v:=?_) ?_ ?_ zg zg zg (fun _ _ _ _ _ h=>h) ?_ zq ?_ ?_;rotate_left 2;(focus ((simp only[List.getElem?_toArray,List.getElem?_cons_succ,List.getElem?_cons_zero]);rfl));(focus rfl);(focus (first | rfl | (simp only[Region.wanted,yielded,List.getElem?_toArray,List.getElem?_cons_succ,List.getElem?_cons_zero,Option.bind_some,Option.map_some,Fr_get?,yc,yd];rfl) | go_simp));(focus (intro W hS;have hc:=HC2.out W hS;go_simp;try with_reducible rfl)));(refine zO 6 ?_;intro K hK;go_simp;(refine (HM.out _ hG).mono ?_;rintro e wA ⟨vA,rfl,hvn,hgA⟩);go_wp2_with fail;replace hHeld:=yx hHeld hgA (fun j e=>zL);refine hK.out _ _ hHeld ?_;clear hK K);replace hrD:=hrD.grown hgA zi;replace hG:=ya hG hgA;clear hgA;have hvd:=HNB.out.grown hG;obtain⟨am,cm,rfl⟩:=hvn.len;generalize (yf (a*2^N)).length=LM at *
 (refine yg 9 25 ?_);have k0:=hrD.cell 0;have k1:=hrD.cell 1;have k2:=hrD.cell 2;have t0:=hrD.frozen 0;have t1:=hrD.frozen 1;have t2:=hrD.frozen 2;unfold ratZ at k0 k1 k2;simp only[List.getElem?_cons_zero,List.getElem?_cons_succ]at k0 k1 k2;have HG:=zH (xk hG (B:=B+1) (by have:=HB.out;omega) (.bool neg) (.slice am LM cm) (.slice ad LD cd));have HVN:=zH (yz hrD hvn neg (.slice am LM cm) (.slice ad LD cd));have HVD:=zH (yz hrD hvd neg (.slice am LM cm) (.slice ad LD cd));have HROW:=zH (wp hrD (.bool neg) (.slice am LM cm) (.slice ad LD cd));(refine zO 10 ?_;intro K hK;go_simp;(skip);go_wp2_with fail;replace hHeld:=yx hHeld (zdh _ _ (.bool neg) (.slice am LM cm) (.slice ad LD cd)) (fun j e _=>e ▸ rfl);refine hK.out _ _ hHeld ?_;clear hK K);refine wpAnyH_done zg ?_ _;refine NoPanic.normal ?_;(go_wp2_with fail;repeat ((first|refine cZ ?_|refine cW ?_);go_wp2_with fail));obtain⟨ty,hrow⟩:=HROW.out;exact bodyPost_ret (v:=.agg #[.bool neg,.slice am LM cm,.slice ad LD cd]) (results_cell_row rfl _ _ (B+1) ty _ (0,0) _ (by rw[wa 26 _ σ 4 ze];simp[ov, *]) hrow Tryz.underlying37 rfl zg) (vz ..) ⟨_,rfl,⟨_,_,rfl,HVN.out,HVD.out⟩,HG.out⟩
theorem zc1 (neg:Bool) (vn vd:Value) (a b:Nat) (k:Int) (w:World) (hn:NatV w vn a) (hd:NatV w vd b) (hla:(yf a).length<=1000000) (hlb:(yf b).length<=1000000) (hk1:-5000000<=k) (hk2:k<=5000000):
  Calls Tryz.prog 82 #[.agg #[.bool neg,vn,vd],.int .i64 k] w fun e w'=>∃ vr,e=.returned vr/\zpu w' vr neg (a*2^(-k).toNat) (b*2^k.toNat)/\w.grownBy w' none:=by
 by_cases hk0:0<=k
 ·obtain⟨N,rfl⟩:∃ N:Nat,k=(N:Int):=⟨k.toNat,zd⟩;rw[Int.toNat_natCast,show (-(N:Int)).toNat=0 by omega,Nat.pow_zero,Nat.mul_one];exact zli neg vn vd a b N w hn hd hla hlb zd
 ·obtain⟨N,rfl⟩:∃ N:Nat,k=-(N:Int):=⟨(-k).toNat,zd⟩;rw[Int.neg_neg,Int.toNat_natCast,show (-(N:Int)).toNat=0 by omega,Nat.pow_zero,Nat.mul_one];exact zgz neg vn vd a b N w hn hd hla hlb zd zd 
end
section
attribute [local go_sem] undef
theorem jk (a K:Nat) (h:(yf a).length<=K):yu a<=30*K:=by
 by_cases h0:a=0
 ·subst h0;unfold yu;rw[if_pos rfl];omega
 ·have h1:=vw h0;have h2:=wu a;rw[js]at h2;have h3:=(Nat.pow_lt_pow_iff_right (by omega:1<2)).1 (Nat.lt_of_le_of_lt h1 h2);have:30*(yf a).length<=30*K:=Nat.mul_le_mul_left _ h;omega
set_option maxRecDepth 100000 in
theorem zdz (neg:Bool) (vn vd:Value) (a b:Nat) (w:World) (hn:NatV w vn a) (hd:NatV w vd b) (hla:(yf a).length<=150000) (hlb:(yf b).length<=150000):
  Calls Tryz.prog 80 #[.agg #[.bool neg,vn,vd]] w fun e w'=>e=.returned (.int .i64 (uo a b))/\w.grownBy w' none:=by
 have da:=jk a 150000 hla;have db:=jk b 150000 hlb;obtain⟨j,hj⟩:=zX ((yu a:Int)-yu b);have HTA:=zH (fun W h=>yir vn a W (hn.grown h) zd);have HTB:=zH (fun W h=>yir vd b W (hd.grown h) zd);have HTT:=zH (fun W h=>zc1 neg vn vd a b j W (hn.grown h) (hd.grown h) zd zd zd zd);obtain⟨κ,hκ⟩:=zX (ko (a*2^(-j).toNat) (b*2^j.toNat));have hcm:∀ V U W,NatV W V (a*2^(-j).toNat)->NatV W U (b*2^j.toNat)->Calls Tryz.prog 57 #[V,U] W fun e w'=>e=.returned (.int .i64 κ)/\W.grownBy w' none:=by
  intro V U W h1 h2;rw[<-hκ];exact qy V U _ _ W h1 h2 (by have:=zab a 150000 (-j).toNat hla;omega) (by have:=zab b 150000 j.toNat hlb;omega)
 have hκ2:le2 a b j↔¬κ<0:=by
  rw[<-hκ];unfold ko;show b*2^j.toNat<=a*2^(-j).toNat↔_;generalize b*2^j.toNat=y;generalize a*2^(-j).toNat=x;split
  ·constructor <;> intro h <;> omega
  ·split <;> (constructor <;> intro h <;> omega)
 have hj1:-4600000<=j:=zd;have hj2:j<=4600000:=zd;have hord:uo a b=if κ<0 then j-1 else j:=by
  unfold uo;rw[hj];by_cases h:κ<0
  ·rw[if_pos h,if_neg (fun hh=>hκ2.1 hh h)]
  ·rw[if_neg h,if_pos (hκ2.2 h)]
 obtain⟨res,hres⟩:=zX (uo a b);have HRES:=zH (hres.symm.trans hord);rw[hres];clear hres;have HCM:=zH hcm;generalize yu a=NA at *
 generalize yu b=NB at *
 clear hcm hord hκ hκ2 hla hlb;obtain⟨an,cn,rfl⟩:=hn.len;obtain⟨ad,cd,rfl⟩:=hd.len;generalize (yf a).length=LN at *
 generalize (yf b).length=LD at *
 obtain⟨w1,hw1⟩:=zX (w.alloc (.cells #[.bool neg,.slice an LN cn,.slice ad LD cd] 37));obtain⟨B,hB⟩:=zX w.heap.size;have hib:=InBlk.new w neg (.slice an LN cn) (.slice ad LD cd) 37;rw[hw1,hB]at hib;have HIB:=zH hib;have HW1:=zH hw1;clear hib hw1 hn hd;refine ye Tryz.func80 rfl (by rw[Tryz.ntmps80];simp) ?_;intro σ hσ;rw[Tryz.ntmps80];have s0:σ 0=.agg #[.bool neg,.slice an LN cn,.slice ad LD cd]:=hσ 0 zi;clear hσ;go_upto_region 1 with fail;rw[HW1.out];clear HW1 hB;have hcell0:∀ W,w1.grownBy W none->W.cell? ⟨B,0,none⟩=some (.bool neg):=fun W h=>(HIB.out.row.grown h zi).cell 0
 have hcell1:∀ W,w1.grownBy W none->W.cell? ⟨B,1,none⟩=some (.slice an LN cn):=fun W h=>(HIB.out.row.grown h zi).cell 1
 have hcell2:∀ W,w1.grownBy W none->W.cell? ⟨B,2,none⟩=some (.slice ad LD cd):=fun W h=>(HIB.out.row.grown h zi).cell 2
 have HC0:=zH hcell0;have HC1:=zH hcell1;have HC2:=zH hcell2;clear hcell0 hcell1 hcell2;have HJ:=zH hj;refine yr (fun s' w'=>s' 1=.pointer (some ⟨B,0,none⟩)/\s' 3=.int .i64 j/\w1.grownBy w' none) ?_ ?_
 ·intro R' K' HR hK';refine wp_region_noPanic ?_;refine wp_region_held_drew (S:=fun W=>w1.grownBy W none) zg (yh w1 1 none) (fun hHeld=>?_);(refine yg 0 5 ?_);(refine xg 1 6 (oi:=?_) (v:=?_) ?_ ?_ zg zg zg (fun _ _ _ _ _ h=>h) ?_ zq ?_ ?_;rotate_left 2;(focus ((simp only[List.getElem?_toArray,List.getElem?_cons_succ,List.getElem?_cons_zero]);rfl));(focus rfl);(focus (first | rfl | (simp only[Region.wanted,yielded,List.getElem?_toArray,List.getElem?_cons_succ,List.getElem?_cons_zero,Option.bind_some,Option.map_some,Fr_get?,yc,yd];rfl) | go_simp));(focus (intro W hS;have hc:=HC1.out W hS;go_simp;try with_reducible rfl)));(refine yg 3 8 ?_);(refine xg 4 9 (oi:=?_) (v:=?_) ?_ ?_ zg zg zg (fun _ _ _ _ _ h=>h) ?_ zq ?_ ?_;rotate_left 2;(focus ((simp only[List.getElem?_toArray,List.getElem?_cons_succ,List.getElem?_cons_zero]);rfl));(focus rfl);(focus (first | rfl | (simp only[Region.wanted,yielded,List.getElem?_toArray,List.getElem?_cons_succ,List.getElem?_cons_zero,Option.bind_some,Option.map_some,Fr_get?,yc,yd];rfl) | go_simp));(focus (intro W hS;have hc:=HC2.out W hS;go_simp;try with_reducible rfl)));(refine zO 2 ?_;intro K hK;go_simp;(refine (HTA.out _ (ya HIB.out.grown hHeld)).mono ?_;rintro e w9 ⟨rfl,rfl⟩);go_wp2_with fail;replace hHeld:=hHeld;refine hK.out _ _ hHeld ?_;clear hK K);(refine zO 5 ?_;intro K hK;go_simp;(refine (HTB.out _ (ya HIB.out.grown hHeld)).mono ?_;rintro e w10 ⟨rfl,rfl⟩);go_wp2_with fail;replace hHeld:=hHeld;refine hK.out _ _ hHeld ?_;clear hK K);(refine xg 6 11 (oi:=?_) (v:=?_) ?_ ?_ zg zg zg (fun _ _ _ _ _ h=>h) ?_ zq ?_ ?_;rotate_left 2;(focus ((simp only[List.getElem?_toArray,List.getElem?_cons_succ,List.getElem?_cons_zero]);rfl));(focus rfl);(focus (first | rfl | (simp only[Region.wanted,yielded,List.getElem?_toArray,List.getElem?_cons_succ,List.getElem?_cons_zero,Option.bind_some,Option.map_some,Fr_get?,yc,yd];rfl) | go_simp));(focus (intro W hS;go_simp;rw[zr6 _ zd zd])));(refine yg 7 3 ?_);refine wpAnyH_done zg ?_ _;refine NoPanic.normal ?_;exact hK' _ _ _ (got HR ⟨zb,zb,hHeld⟩)
 clear s0 σ HTA HTB;rintro σ w2 ⟨s1,s3,hg2⟩;have HG2:=zH (ya HIB.out.grown hg2);have c0:=HC0.out w2 hg2;have c1:=HC1.out w2 hg2;have c2:=HC2.out w2 hg2;clear hg2 hj HC0 HC1 HC2;(go_wp2_with fail;repeat ((first|refine cZ ?_|refine cW ?_);go_wp2_with fail));refine (HTT.out _ HG2.out).mono ?_;rintro e w3 ⟨v3,rfl,hv3,hg3⟩;obtain⟨n3,d3,rfl,hn3,hd3⟩:=hv3;obtain⟨a3,k3,rfl⟩:=hn3.len;obtain⟨b3,l3,rfl⟩:=hd3.len;generalize (yf (a*2^(-j).toNat)).length=LN3 at *
 generalize (yf (b*2^j.toNat)).length=LD3 at *
 have HN3:=zH hn3;have HD3:=zH hd3;have HG3:=zH (ya HG2.out hg3);clear hn3 hd3 hg3 c0 c1 c2;go_upto_region 3 with fail;obtain⟨w4,hw4⟩:∃ w',World.alloc w3 (.cells #[.bool neg,.slice a3 LN3 k3,.slice b3 LD3 l3] 37)=w':=⟨_,rfl⟩;obtain⟨D,hD⟩:=zX ((World.heap w3).size);have hib:=InBlk.new w3 neg (.slice a3 LN3 k3) (.slice b3 LD3 l3) 37;rw[hw4,hD]at hib;rw[hw4,hD];have c0:=hib.row.cell 0;have c1:=hib.row.cell 1;have c2:=hib.row.cell 2;simp only[List.getElem?_cons_zero,List.getElem?_cons_succ]at c0 c1 c2;have HN4:=zH (HN3.out.grown hib.grown);have HD4:=zH (HD3.out.grown hib.grown);have HG4:=zH (ya HG3.out hib.grown);clear hib hw4 hD;(go_wp2_with fail;repeat ((first|refine cZ ?_|refine cW ?_);go_wp2_with fail));refine (HCM.out _ _ _ HN4.out HD4.out).mono ?_;rintro e w5 ⟨rfl,hg5⟩;have HG5:=zH (ya HG4.out hg5);clear hg5 c0 c1 c2;by_cases h:κ<0
 ·have HH:=zH h;(go_wp2_with fail;repeat ((first|refine cZ ?_|refine cW ?_);go_wp2_with fail));exact yl (.int .i64 (j-1)) rfl ze zb ⟨by rw[HRES.out,if_pos HH.out],HG5.out⟩
 ·have f1:decide (κ<0)=false:=zh;have HH:=zH h;clear h;(go_wp2_with fail;repeat ((first|refine cZ ?_|refine cW ?_);go_wp2_with fail));exact yl (.int .i64 j) rfl ze zb ⟨by rw[HRES.out,if_neg (by have:=HH.out;omega)],HG5.out⟩
end
end Go.Proofs.YtoacbkokkkpofaaGreatDoor
