/- Lemmas that the claim's top text leans on. No condition of their own. -/
import Derived.Test.YtnifedmhgncioaaGreatDoorG16
import Derived.Test.YtnifedmhgncioaaGreatDoorG26
namespace Go.Proofs.YtnifedmhgncioaaGreatDoor
open Go.RowKit
set_option linter.unusedSimpArgs false
set_option linter.unusedVariables false
set_option maxHeartbeats 16000000
theorem zhk:∀ (k:Nat) (s p:List UInt8),k<=p.length->(k<=cpL s p↔k<=s.length/\xf (s.take k)=p.take k)
 | 0,s,p,_=>by simp[xf]
 | k+1,[],p,_=>by
  have:cpL [] p=0:=by cases p <;> rfl
  simp[this]
 | k+1,c::s,[],h=>by simp at h
 | k+1,c::s,q::p,h=>by
  have ih:=zhk k s p zI
  show k+1<=(if vb c=q then 1+cpL s p else 0)↔_
  by_cases hc:vb c=q
  ·rw[if_pos hc]
   have e:xf ((c::s).take (k+1))=vb c::xf (s.take k):=rfl
   rw[e,List.take_succ_cons,hc,List.length_cons]
   constructor
   ·intro h1
    obtain⟨h2,h3⟩:=ih.1 zd
    exact⟨zd,by rw[h3]⟩
   ·rintro⟨h1,h2⟩
    have:=ih.2 ⟨zd,(List.cons.inj h2).2⟩
    omega
  ·rw[if_neg hc]
   have e:xf ((c::s).take (k+1))=vb c::xf (s.take k):=rfl
   rw[e,List.take_succ_cons]
   constructor
   ·intro h1;omega
   ·rintro⟨h1,h2⟩
    exact absurd (List.cons.inj h2).1 hc
theorem ut (c:UInt8):∀ x:UInt8,(x=105\/x=110)->(vb c=x↔c=x\/c=x-32):=by
 intro x hx;rcases hx with rfl | rfl <;> revert c <;> refine vu _ ?_ <;> decide +kernel
theorem yiq {s:List UInt8} {c:UInt8} {r:List UInt8} (h:(sgn s).2=c::r) (hc:vb c=105\/vb c=110):zau s=none:=by
 have h4:c=105\/c=73\/c=110\/c=78:=by
  rcases hc with hc | hc
  ·rcases (ut c 105 (Or.inl rfl)).1 hc with h | h
   ·exact Or.inl h
   ·exact Or.inr (Or.inl h)
  ·rcases (ut c 110 (Or.inr rfl)).1 hc with h | h
   ·exact Or.inr (Or.inr (Or.inl h))
   ·exact Or.inr (Or.inr (Or.inr h))
 have hx:yo (sgn s).2=false:=by
  rw[h];match r with
  | []=>rfl
  | [_]=>rfl
  | x::y::r=>
   show decide (c=48/\wc x=120)=false;apply decide_eq_false;rintro⟨rfl,-⟩;revert h4;decide
 have hb:yj s=c::r:=by unfold yj;rw[hx,h];rfl
 have hd:xe false c=false:=by rcases h4 with rfl | rfl | rfl | rfl <;> decide
 have h46:c≠46:=by rintro rfl;revert h4;decide
 rw[jv,if_pos];rw[hx,hb];have e1:ve false (c::r)=[]:=by unfold ve;rw[List.takeWhile_cons_of_neg (by rw[hd];decide)]
 have e2:qi false (c::r)=c::r:=by unfold qi;rw[List.dropWhile_cons_of_neg (by rw[hd];decide)]
 have e3:yw false (c::r)=[]:=by
  unfold yw;rw[e2,if_neg];intro h;exact h46 zI
 rw[e1,e3];exact⟨rfl,rfl⟩
theorem zj8 (s:List UInt8):(xf s).length=s.length:=by unfold xf;simp
theorem ziv (neg:Bool) (k:Nat) (t:List UInt8):
  (xf t=[105,110,102]\/xf t=[105,110,102,105,110,105,116,121]->zd3 neg k t=some (kp neg,k+t.length))/\
  (¬(xf t=[105,110,102]\/xf t=[105,110,102,105,110,105,116,121])->zd3 neg k t=none\/∃ n,zd3 neg k t=some (kp neg,n)/\n≠k+t.length/\∃ c r,t=c::r/\vb c=105):=by
 have h8:=zhk 8 t infinityL ze;have h3:=zhk 3 t infinityL ze;have h4:=zhk 4 t infinityL ze;have hle:=zer t infinityL;change cpL t infinityL<=8 at hle;have hd8:xf (t.take 8)=(xf t).take 8:=zαk;have hd3:xf (t.take 3)=(xf t).take 3:=zαk;have hd4:xf (t.take 4)=(xf t).take 4:=zαk;rw[hd8]at h8;rw[hd3]at h3;rw[hd4]at h4;have hlen:=zj8 t;unfold zd3;constructor
 ·rintro (h | h)
  ·rw[h]at h8 h3 h4 hlen;have hl:t.length=3:=hlen.symm;have a3:3<=cpL t infinityL:=h3.2 ⟨zd,rfl⟩;have a8:¬8<=cpL t infinityL:=fun h=>by have:=(h8.1 h).1;omega
   rw[if_neg zd,if_pos a3,hl]
  ·rw[h]at h8 h3 h4 hlen;have hl:t.length=8:=hlen.symm;have a8:8<=cpL t infinityL:=h8.2 ⟨zd,rfl⟩;rw[if_pos zd,hl]
 ·intro hno;have hhead:3<=cpL t infinityL->∃ c r,t=c::r/\vb c=105:=by
   intro h;obtain⟨h1,h2⟩:=h3.1 h;cases t with
   | nil=>simp at h1
   | cons c r=>
    refine⟨c,r,rfl,?_⟩;have:=congrArg List.head? h2;simpa[xf,infinityL]using this
  by_cases a8:cpL t infinityL=8
  ·rw[if_pos a8];refine Or.inr ⟨_,rfl,?_,hhead zd⟩;intro hl;obtain⟨h1,h2⟩:=h8.1 zd;refine hno (Or.inr ?_);rw[List.take_of_length_le zd]at h2;exact h2
  ·rw[if_neg a8];by_cases a3:3<=cpL t infinityL
   ·rw[if_pos a3];refine Or.inr ⟨_,rfl,?_,hhead a3⟩;intro hl;obtain⟨h1,h2⟩:=h3.1 a3;refine hno (Or.inl ?_);rw[List.take_of_length_le zd]at h2;exact h2
   ·rw[if_neg a3];exact Or.inl rfl
theorem zvo (s:List UInt8):
  (xf s=[110,97,110]->qp s=some (zmd,s.length))/\
  (xf s≠[110,97,110]->((sgn (xf s)).2=[105,110,102]\/(sgn (xf s)).2=[105,110,102,105,110,105,116,121])->qp s=some (kp (sgn (xf s)).1,s.length))/\
  (xf s≠[110,97,110]->¬((sgn (xf s)).2=[105,110,102]\/(sgn (xf s)).2=[105,110,102,105,110,105,116,121])->qp s=none\/∃ v n,qp s=some (v,n)/\n≠s.length/\zau s=none):=by
 have hsl:=zct s;rw[hsl];simp only;have hlen:=zj8 s;cases s with
 | nil=>
  refine⟨fun h=>by simp[xf]at h,fun _ h=>by simp[xf,sgn]at h,fun _ _=>Or.inl rfl⟩
 | cons c r=>
  have hdef:qp (c::r)=if c=43 then zd3 false 1 r else if c=45 then zd3 true 1 r else if c=105\/c=73 then zd3 false 0 (c::r) else if c=110\/c=78 then (if cpL (c::r) [110,97,110]=3 then some (zmd,3) else none) else none:=rfl
  by_cases c1:c=43
  ·have hs:sgn (c::r)=(false,r):=by rw[xq,if_pos c1]
   have hn:xf (c::r)≠[110,97,110]:=by
    rw[c1];intro h;have:=congrArg List.head? h;revert this;simp[xf];decide
   rw[hdef,if_pos c1,hs];obtain⟨i1,i2⟩:=ziv false 1 r;refine⟨fun h=>absurd h hn,fun _ h=>by rw[i1 h,List.length_cons,Nat.add_comm],fun _ h=>?_⟩;rcases i2 h with h2 | ⟨n,h2,h3,x,y,h4,h5⟩
   ·exact Or.inl h2
   ·exact Or.inr ⟨_,n,h2,by rw[List.length_cons];omega,yiq (by rw[hs];exact h4) (Or.inl h5)⟩
  by_cases c2:c=45
  ·have hs:sgn (c::r)=(true,r):=by rw[xq,if_neg c1,if_pos c2]
   have hn:xf (c::r)≠[110,97,110]:=by
    rw[c2];intro h;have:=congrArg List.head? h;revert this;simp[xf];decide
   rw[hdef,if_neg c1,if_pos c2,hs];obtain⟨i1,i2⟩:=ziv true 1 r;refine⟨fun h=>absurd h hn,fun _ h=>by rw[i1 h,List.length_cons,Nat.add_comm],fun _ h=>?_⟩;rcases i2 h with h2 | ⟨n,h2,h3,x,y,h4,h5⟩
   ·exact Or.inl h2
   ·exact Or.inr ⟨_,n,h2,by rw[List.length_cons];omega,yiq (by rw[hs];exact h4) (Or.inl h5)⟩
  have hs:sgn (c::r)=(false,c::r):=by rw[xq,if_neg c1,if_neg c2]
  rw[hdef,if_neg c1,if_neg c2,hs];simp only;by_cases c3:c=105\/c=73
  ·have hl:vb c=105:=(ut c 105 (Or.inl rfl)).2 c3;have hn:xf (c::r)≠[110,97,110]:=by
    intro h;have:=congrArg List.head? h;simp[xf,hl]at this
   rw[if_pos c3];obtain⟨i1,i2⟩:=ziv false 0 (c::r);refine⟨fun h=>absurd h hn,fun _ h=>by rw[i1 h,Nat.zero_add],fun _ h=>?_⟩;rcases i2 h with h2 | ⟨n,h2,h3,x,y,h4,h5⟩
   ·exact Or.inl h2
   ·exact Or.inr ⟨_,n,h2,zd,yiq (by rw[hs]) (Or.inl hl)⟩
  ·have hl:vb c≠105:=fun h=>c3 ((ut c 105 (Or.inl rfl)).1 h)
   have hi:¬(xf (c::r)=[105,110,102]\/xf (c::r)=[105,110,102,105,110,105,116,121]):=by
    rintro (h | h) <;> · have:=congrArg List.head? h;simp[xf]at this;exact hl this
   rw[if_neg c3];have h3:=zhk 3 (c::r) [110,97,110] ze;have hd3:xf ((c::r).take 3)=(xf (c::r)).take 3:=zαk;rw[hd3]at h3;have hle:=zer (c::r) [110,97,110];change cpL (c::r) [110,97,110]<=3 at hle;by_cases c4:c=110\/c=78
   ·have hl4:vb c=110:=(ut c 110 (Or.inr rfl)).2 c4;rw[if_pos c4];refine⟨fun h=>?_,fun _ h=>absurd h hi,fun h _=>?_⟩
    ·rw[h]at h3 hlen;have a3:=h3.2 ⟨by rw[<-hlen];decide,rfl⟩;rw[if_pos zd,<-hlen];rfl
    ·by_cases a3:cpL (c::r) [110,97,110]=3
     ·rw[if_pos a3];refine Or.inr ⟨_,_,rfl,?_,yiq (by rw[hs]) (Or.inr hl4)⟩;intro hl3;obtain⟨-,h2⟩:=h3.1 zd;rw[List.take_of_length_le zd]at h2;exact h h2
     ·rw[if_neg a3];exact Or.inl rfl
   ·rw[if_neg c4];refine⟨fun h=>?_,fun _ h=>absurd h hi,fun _ _=>Or.inl rfl⟩;exfalso;have:=congrArg List.head? h;simp[xf]at this;exact c4 ((ut c 110 (Or.inr rfl)).1 this)
def erK (k:Nat):Value:=if k=0 then .nilIface else if k=1 then .iface 101 (.int .i64 2) else .iface 101 (.int .i64 1)
theorem zus (b:Bool):erV b=erK (if b=true then 2 else 0):=by cases b <;> rfl
def spB (F:Nat) (bias:Int) (inf:Nat) (t:Txt):Nat:=spN F bias inf t.base t.digits t.exp
def PaQ64 (s:List UInt8) (v k:Nat):Prop:=match ul s with
 | none=>v=0/\k=1
 | some t=>(t.kind=2->(9218868437227405312<v%9223372036854775808/\v<18446744073709551616)/\k=0)/\(t.kind=1->v=kp t.neg/\k=0)/\
  (t.kind=0->v=sgB t.neg+spB 52 1023 9218868437227405312 t/\k=if spB 52 1023 9218868437227405312 t=9218868437227405312 then 2 else 0)
theorem zib (s:List UInt8):
  (xf s=[110,97,110]->ul s=some ⟨2,false,0,[],0⟩)/\
  (xf s≠[110,97,110]->((sgn (xf s)).2=[105,110,102]\/(sgn (xf s)).2=[105,110,102,105,110,105,116,121])->ul s=some ⟨1,(sgn (xf s)).1,0,[],0⟩)/\
  (xf s≠[110,97,110]->¬((sgn (xf s)).2=[105,110,102]\/(sgn (xf s)).2=[105,110,102,105,110,105,116,121])->ul s=(zau s).map spT):=by
 rw[zqo];refine⟨fun h=>by rw[if_pos h],fun h h2=>by rw[if_neg h,if_pos h2],fun h h2=>by rw[if_neg h,if_neg h2]⟩
theorem zco (s:List UInt8) (P:Prop)
  (h1:qp s=some (zmd,s.length)->ul s=some ⟨2,false,0,[],0⟩->P)
  (h2:∀ ng,qp s=some (kp ng,s.length)->ul s=some ⟨1,ng,0,[],0⟩->P)
  (h3:(qp s=none\/∃ v n,qp s=some (v,n)/\n≠s.length/\zau s=none)->ul s=(zau s).map spT->P):P:=by
 obtain⟨a1,a2,a3⟩:=zvo s;obtain⟨b1,b2,b3⟩:=zib s;by_cases hn:xf s=[110,97,110]
 ·exact h1 (a1 hn) (b1 hn)
 ·by_cases hi:(sgn (xf s)).2=[105,110,102]\/(sgn (xf s)).2=[105,110,102,105,110,105,116,121]
  ·exact h2 _ (a2 hn hi) (b2 hn hi)
  ·exact h3 (a3 hn hi) (b3 hn hi)
theorem zto (F:Nat) (bias:Int) (inf:Nat) {s:List UInt8} {L:Lit} (h:zau s=some L) (hs:s.length<=1000) (hb1:1<=bias) (hb2:bias<=1023) (hF1:1<=F) (hF2:bias+F<=1075):spB F bias inf (spT L)=nvL F bias inf L:=by
 obtain⟨h1,h2,h3,-⟩:=zfk h;exact sp_eq F bias inf L h1 h3 zd hb1 hb2 hF1 hF2
theorem zql {s:List UInt8} {R:RR} (h:rfP s=some R):(R.n=s.length->∃ L,zau s=some L/\zau (s.take R.n)=some L)/\(R.n≠s.length->zau s=none):=by
 obtain⟨h1,L,hL,hR⟩:=zsf h;constructor
 ·intro e;have:s.take R.n=s:=by rw[e,List.take_length]
  exact⟨L,by rw[<-this];exact hL,hL⟩
 ·intro hne;cases hl:zau s with
  | none=>rfl
  | some L'=>
   have:=zm9 hl;rw[h]at this;cases this;exact absurd rfl hne
theorem zq7 {s:List UInt8} (h:rfP s=none):zau s=none:=by
 cases hl:zau s with
 | none=>rfl
 | some L=>rw[zm9 hl]at h;cases h
theorem PaQ64.bad {s:List UInt8} (h:ul s=none):PaQ64 s 0 1:=by unfold PaQ64;rw[h];exact⟨rfl,rfl⟩
section
attribute [local go_sem] undef
def xd (a b:Nat):Nat:=xh 52 1023 9218868437227405312 a b
def zxq (a b:Nat):Nat:=xh 23 127 2139095040 a b
end
section
theorem zxm (k:FloatKind) (b:Nat):Op.unary .neg (.float k b)=pure (.float k (Op.negFloat k b)):=rfl
def zkr (fmt:Ieee.Format) (x v:Nat):Bool:=match fmt.read x with | .number false n j=>decide (n≠0/\n*2^j.toNat=v*2^(-j).toNat) | _=>false
theorem zpm {fmt:Ieee.Format} {x v:Nat} (h:zkr fmt x v=true):RdV fmt x false v:=by
 unfold zkr at h;split at h
 ·rename_i n j e;have:=of_decide_eq_true h;exact⟨n,j,e,this.1,this.2⟩
 ·cases h
theorem zpl:∀ i,i<23->zkr Ieee.double (zso i) (10^i)=true:=by
 have h:(List.range 23).all (fun i=>zkr Ieee.double (zso i) (10^i))=true:=zp;intro i hi;exact (List.all_eq_true.1 h) i (List.mem_range.2 hi)
theorem zzu:∀ i,i<11->zkr Ieee.single (yad i) (10^i)=true:=by
 have h:(List.range 11).all (fun i=>zkr Ieee.single (yad i) (10^i))=true:=zp;intro i hi;exact (List.all_eq_true.1 h) i (List.mem_range.2 hi)
theorem wv (neg:Bool) (r:Nat):Ieee.double.word neg r=sgB neg+r:=by
 cases neg
 ·show r=0+r;omega
 ·rfl
theorem zxr (neg:Bool) (r:Nat):Ieee.single.word neg r=sgC neg+r:=by
 cases neg
 ·show r=0+r;omega
 ·rfl
theorem zs0 (k r:Nat) (h:r<2^k):r ^^^ 2^k=2^k+r:=by
 apply Nat.eq_of_testBit_eq;intro i;rw[Nat.testBit_xor,Nat.testBit_two_pow];by_cases hi:k=i
 ·subst hi;rw[Nat.testBit_two_pow_add_eq,Nat.testBit_lt_two_pow h];simp
 ·rcases Nat.lt_or_gt_of_ne hi with h1 | h1
  ·have e:2^k+r<2^i:=by
    have:2^(k+1)<=2^i:=Nat.pow_le_pow_right zd h1;rw[Nat.pow_succ]at this;omega
   rw[Nat.testBit_lt_two_pow e,Nat.testBit_lt_two_pow (Nat.lt_of_lt_of_le h (Nat.pow_le_pow_right zd zd))];simp[hi]
  ·rw[Nat.testBit_two_pow_add_gt h1];simp[hi]
theorem neg64 (r:Nat) (h:r<9223372036854775808):Op.negFloat .f64 r=sgB true+r:=by
 show r ^^^ 2^63=_;rw[zs0 63 r h];rfl
theorem neg32 (r:Nat) (h:r<2147483648):Op.negFloat .f32 r=sgC true+r:=by
 show r ^^^ 2^31=_;rw[zs0 31 r h];rfl
def RdO (fmt:Ieee.Format) (y:Nat) (t:Bool) (u:Nat):Prop:=∃ n j,fmt.read y=.number t n j/\j<=0/\n*2^j.toNat=u*2^(-j).toNat
theorem c15p:RdO Ieee.double 4831355200913801216 false (10^15):=⟨8000000000000000,-3,zp,ze,zp⟩
theorem c15n:RdO Ieee.double 14054727237768577024 true (10^15):=⟨8000000000000000,-3,zp,ze,zp⟩
theorem c7p:RdO Ieee.single 1259902592 false (10^7):=⟨10000000,0,zp,ze,zp⟩
theorem c7n:RdO Ieee.single 3407386240 true (10^7):=⟨10000000,0,zp,ze,zp⟩
theorem zv4 {fmt:Ieee.Format} {x y v u:Nat} {s:Bool} (hx:RdV fmt x s v) (hy:RdO fmt y false u) (hu:u≠0):(fmt.order x y==some Ordering.gt)=(!s&&decide (u<v)):=by
 rw[RdV.order hx hy];cases s
 ·simp only[Bool.false_eq_true,if_false,Bool.not_false,Bool.true_and];by_cases h:u<v
  ·rw[decide_eq_true h,Int.compare_eq_gt.2 zd];rfl
  ·rw[decide_eq_false h];rcases Nat.lt_or_ge v u with h1 | h1
   ·rw[Int.compare_eq_lt.2 zd];rfl
   ·rw[Int.compare_eq_eq.2 zd];rfl
 ·simp only[if_true,Bool.not_true,Bool.false_and,Bool.false_eq_true,if_false];rw[Int.compare_eq_lt.2 zd];rfl
theorem zv3 {fmt:Ieee.Format} {x y v u:Nat} {s:Bool} (hx:RdV fmt x s v) (hy:RdO fmt y true u) (hu:u≠0):(fmt.order x y==some Ordering.lt)=(s&&decide (u<v)):=by
 rw[RdV.order hx hy];cases s
 ·simp only[Bool.false_eq_true,if_false,Bool.false_and,if_true];rw[Int.compare_eq_gt.2 zd];rfl
 ·simp only[if_true,Bool.true_and];by_cases h:u<v
  ·rw[decide_eq_true h,Int.compare_eq_lt.2 zd];rfl
  ·rw[decide_eq_false h];rcases Nat.lt_or_ge v u with h1 | h1
   ·rw[Int.compare_eq_gt.2 zd];rfl
   ·rw[Int.compare_eq_eq.2 zd];rfl
section
variable {fmt : Ieee.Format} {f : Nat} {bias : Int} {inf : Nat}
theorem zt0 (h:FmtOK fmt f bias inf) (neg:Bool) (d u yp yn:Nat) (h0:d≠0) (hd:d<2^bias.toNat) (hu:u≠0) (hul:u<2^(f+1)) (hp:RdO fmt yp false u) (hn:RdO fmt yn true u):
  ((fmt.order (fmt.word neg (xh f bias inf d 1)) yp==some Ordering.gt) || (fmt.order (fmt.word neg (xh f bias inf d 1)) yn==some Ordering.lt))=decide (u<d):=by
 have key:∃ v,RdV fmt (fmt.word neg (xh f bias inf d 1)) neg v/\(u<v↔u<d):=by
  rcases Nat.lt_or_ge d (2^(f+1)) with h1 | h1
  ·exact⟨d,RdV.small h neg d h0 h1,Iff.rfl⟩
  ·obtain⟨v,hv,hv2⟩:=RdV.large h neg d h1 hd;exact⟨v,hv,⟨fun _=>zd,fun _=>zd⟩⟩
 obtain⟨v,hv,hiff⟩:=key;rw[zv4 hv hp hu,zv3 hv hn hu];cases neg <;> simp[hiff]
end
end
section
attribute [local go_sem] zxm
theorem zw0 (d:Nat):floatOfInt .f64 (d:Int)=sgB false+xd d 1:=by
 show Ieee.double.nearest (decide ((d:Int)<0)) (d:Int).natAbs 0=_;rw[decide_eq_false zd,Int.natAbs_natCast,zij,wv];show sgB false+xd (d*1) 1=_;rw[Nat.mul_one]
theorem zm7 (op:BinOp) {x y r:Nat} (h:floatBits op .f64 x y=some r) (t:TypeId) (w:World):(binOp op t (.float .f64 x) (.float .f64 y)).run Tryz.prog w=.ok (.float .f64 r) w:=run_float_arith w op t .f64 x y r h
theorem zoz {neg:Bool} {N d:Nat} (i:Nat) (hi:i<23) (h:RdV Ieee.double N neg d):Ieee.double.mul N (zso i)=some (sgB neg+xd (d*10^i) 1):=by
 rw[RdV.mul FmtOK.double h (zpm (zpl i hi)),wv,Bool.xor_false];rfl
theorem zur {neg:Bool} {N d:Nat} (i:Nat) (hi:i<23) (h:RdV Ieee.double N neg d):Ieee.double.div N (zso i)=some (sgB neg+xd d (10^i)):=by
 rw[RdV.div FmtOK.double h (zpm (zpl i hi)) (by have:=p10 i;omega),wv,Bool.xor_false];rfl
theorem zo0 (neg:Bool) (d:Nat) (h0:d≠0) (hd:d<2^(1023:Int).toNat):
  ((Ieee.double.order (sgB neg+xd d 1) 4831355200913801216==some Ordering.gt) || (Ieee.double.order (sgB neg+xd d 1) 14054727237768577024==some Ordering.lt))=decide (10^15<d):=by
 have h:=zt0 FmtOK.double neg d (10^15) 4831355200913801216 14054727237768577024 h0 hd ze ze c15p c15n;rw[wv]at h;exact h
theorem zoy {d i:Nat} (hd:d<4503599627370496) (hi:i<=15):d*10^i<2^(1023:Int).toNat:=by
 have h1:d*10^i<4503599627370496*10^i:=Nat.mul_lt_mul_of_pos_right hd (p10 i);have h2:4503599627370496*10^i<=4503599627370496*10^15:=Nat.mul_le_mul_left _ (Nat.pow_le_pow_right zd hi);exact Nat.lt_of_lt_of_le h1 (Nat.le_trans h2 zp)
set_option maxRecDepth 100000 in
theorem zdr (T d:Nat) (p:Int) (neg:Bool) (w:World) (he:EnvP T w) (h0:d≠0) (hd:d<18446744073709551616) (hp1:-1000000<=p) (hp2:p<=1000000):
  Calls Tryz.prog 118 #[.int .u64 (d:Int),.int .i64 p,.bool neg] w fun e w'=>
   ∃ (v:Nat) (ok:Bool),e=.returned (.tuple #[.float .f64 v,.bool ok])/\(ok=true->v=sgB neg+xd (d*10^p.toNat) (10^(-p).toNat)/\d<4503599627370496/\p<=37)/\w=w':=by
 refine ye Tryz.func118 rfl (by rw[Tryz.ntmps118];simp) ?_;intro σ hσ;rw[Tryz.ntmps118];have s0:σ 0=.int .u64 (d:Int):=hσ 0 zi;have s1:σ 1=.int .i64 p:=hσ 1 zi;have s2:σ 2=.bool neg:=hσ 2 zi;clear hσ;have f1:=he.i64.1;obtain⟨tb,tof,tc,htT,htc,ht0,ht⟩:=he.t64;have HT:=zH ht;clear ht he;by_cases hb:d<4503599627370496
 ·have g1:((d:Int) / 4503599627370496 != 0)=false:=by
   rw[bne_eq_false_iff_eq];omega
  have hnl:xd d 1<9223372036854775808:=Nat.lt_of_le_of_lt (ud 52 1023 9218868437227405312 d 1 ze ze rfl) ze;obtain⟨n0,hn0⟩:=zX (floatOfInt .f64 (d:Int));obtain⟨n1,hn1⟩:=zX (Op.negFloat .f64 n0);obtain⟨N,hN⟩:=zX (sgB neg+xd d 1);have HN0:=zH (hn0.symm.trans (zw0 d));have HN1:=zH (show n1=sgB true+xd d 1 by rw[<-hn1,HN0.out];show Op.negFloat .f64 (0+xd d 1)=_;rw[Nat.zero_add];exact neg64 _ hnl);have HN:=zH hN;have HRD:=zH (show RdV Ieee.double N neg d by rw[<-hN,<-wv];exact RdV.small FmtOK.double neg d h0 zd);have HB:=zH hb;clear hnl hN hb;(go_upto_block 0 with fail;repeat ((first|refine cZ ?_|refine cW ?_);go_upto_block 0 with fail));refine yr (fun s' w'=>s' 1=.int .i64 p/\s' 6=.float .f64 N/\s' 7=.bool false/\w=w') ?_ ?_
  ·intro R' K' HR hK';cases neg with
   | false=>
    have e:n0=N:=by rw[HN0.out,<-HN.out]
    subst e;(go_wp2_with fail;repeat ((first|refine cZ ?_|refine cW ?_);go_wp2_with fail));exact got HR ⟨zb,zb,zb,rfl⟩
   | true=>
    have e:n1=N:=by rw[HN1.out,<-HN.out]
    subst e;(go_wp2_with fail;repeat ((first|refine cZ ?_|refine cW ?_);go_wp2_with fail));exact got HR ⟨zb,zb,zb,rfl⟩
  clear s0 s1 s2 σ g1 hn0 hn1 HN0 HN1 n0 n1 f1 hd;rintro σ w1 ⟨s1,s6,s7,rfl⟩;by_cases z0:p=0
  ·subst z0;(go_wp2_with fail;repeat ((first|refine cZ ?_|refine cW ?_);go_wp2_with fail));exact xc (.float .f64 N) (.bool true) rfl ze ze zb zb ⟨N,true,rfl,(fun _=>⟨by rw[<-HN.out];show _=sgB neg+xd (d*1) 1;rw[Nat.mul_one],HB.out,zd⟩),rfl⟩
  have z1:(p==0)=false:=by rw[beq_eq_false_iff_ne];exact z0
  (go_upto_region 7 with fail;repeat ((first|refine cZ ?_|refine cW ?_);go_upto_region 7 with fail));refine yr (fun s' w'=>s' 1=.int .i64 p/\s' 6=.float .f64 N/\s' 7=.bool false/\s' 22=.bool (decide (0<p/\p<=37))/\w=w') ?_ ?_
  ·intro R' K' HR hK';by_cases z2:0<p
   ·by_cases z3:p<=37
    ·have e:decide (0<p/\p<=37)=true:=decide_eq_true ⟨z2,z3⟩;go_wp2_with fail;all_goals exact got HR ⟨zb,zb,zb,zαj,rfl⟩
    ·have e:decide (0<p/\p<=37)=false:=decide_eq_false (fun h=>z3 h.2);have z3':decide (p<=37)=false:=decide_eq_false z3;go_wp2_with fail;all_goals exact got HR ⟨zb,zb,zb,zαj,rfl⟩
   ·have e:decide (0<p/\p<=37)=false:=decide_eq_false (fun h=>z2 h.1);have z2':decide (0<p)=false:=decide_eq_false z2;go_wp2_with fail;all_goals exact got HR ⟨zb,zb,zb,zαj,rfl⟩
  clear s1 s6 s7 σ;rintro σ w1 ⟨s1,s6,s7,s22,rfl⟩;by_cases z23:0<p/\p<=37
  ·rw[decide_eq_true z23]at s22;obtain⟨z2,z3⟩:=z23;(go_upto_region 11 with fail;repeat ((first|refine cZ ?_|refine cW ?_);go_upto_region 11 with fail));refine yr (fun s' w'=>∃ (d2 i N2:Nat),s' 1=.int .i64 (i:Int)/\i<=22/\s' 6=.float .f64 N2/\s' 7=.bool false/\d2≠0/\d2*10^i=d*10^p.toNat/\(d2<=10^15->RdV Ieee.double N2 neg d2)/\((Ieee.double.order N2 4831355200913801216==some Ordering.gt) || (Ieee.double.order N2 14054727237768577024==some Ordering.lt))=decide (10^15<d2)/\w=w') ?_ ?_
   ·intro R' K' HR hK';by_cases z4:22<p
    ·obtain⟨i,hi⟩:∃ i:Nat,p-22=i:=⟨(p-22).toNat,zd⟩;have hiK:i<=15:=zd;have c1:=HT.out i zd;have hm:=zoz i zd HRD.out;obtain⟨x,hx⟩:=zX (zso i);obtain⟨N2,hN2⟩:=zX (sgB neg+xd (d*10^i) 1);rw[hx,hN2]at hm;rw[hx]at c1;have hm:=zm7 .mul hm;have hprod0:d*10^i≠0:=by have:=Nat.mul_pos (Nat.pos_of_ne_zero h0) (p10 i);omega
     have hprodL:d*10^i<2^(1023:Int).toNat:=zoy HB.out hiK;have hcmp:=zo0 neg (d*10^i) hprod0 hprodL;rw[hN2]at hcmp;have hRD2:d*10^i<=10^15->RdV Ieee.double N2 neg (d*10^i):=fun hle=>by rw[<-hN2,<-wv];exact RdV.small FmtOK.double neg _ hprod0 (Nat.lt_of_le_of_lt hle ze)
     have heq:d*10^i*10^22=d*10^p.toNat:=by rw[show p.toNat=i+22 by omega,Nat.pow_add,Nat.mul_assoc]
     have H1:=zH hcmp;have H2:=zH hRD2;have H3:=zH heq;have H4:=zH hprod0;have hicnt:i<23:=zd;clear hx hN2 hprod0 hprodL hcmp hRD2 heq;(go_upto_region 11 with fail;repeat ((first|refine cZ ?_|refine cW ?_);go_upto_region 11 with fail));exact got HR ⟨d*10^i,22,N2,zb,zd,zb,zb,H4.out,H3.out,H2.out,H1.out,rfl⟩
    ·obtain⟨i,hi⟩:∃ i:Nat,p=i:=⟨p.toNat,zd⟩;subst hi;have z4':decide (22<(i:Int))=false:=decide_eq_false z4;have hcmp:=zo0 neg d h0 (Nat.lt_of_lt_of_le HB.out zp);rw[HN.out]at hcmp;have H1:=zH hcmp;clear hcmp;(go_upto_region 11 with fail;repeat ((first|refine cZ ?_|refine cW ?_);go_upto_region 11 with fail));exact got HR ⟨d,i,N,zb,zd,zb,zb,h0,by rw[Int.toNat_natCast],fun _=>HRD.out,H1.out,rfl⟩
   clear s1 s6 s7 s22 σ;rintro σ w1 ⟨d2,i,N2,s1,hiK,s6,s7,hd0,heq,hrd,hcmp,rfl⟩;have H1:=zH hcmp;have H2:=zH hrd;have H3:=zH heq;obtain⟨b1,hb1⟩:=zX ((Ieee.double.order N2 4831355200913801216==some Ordering.gt));obtain⟨b2,hb2⟩:=zX ((Ieee.double.order N2 14054727237768577024==some Ordering.lt));obtain⟨b3,hb3⟩:=zX (decide (10^15<d2));rw[hb1,hb2,hb3]at hcmp;have HC:=zH hcmp;have HB3:=zH hb3;replace hb1:(FloatKind.f64.format.order N2 4831355200913801216==some Ordering.gt)=b1:=hb1;replace hb2:(FloatKind.f64.format.order N2 14054727237768577024==some Ordering.lt)=b2:=hb2;clear hcmp hrd heq hb3;(go_upto_region 11 with fail;repeat ((first|refine cZ ?_|refine cW ?_);go_upto_region 11 with fail));refine yr (fun s' w'=>s' 1=.int .i64 (i:Int)/\s' 6=.float .f64 N2/\s' 7=.bool false/\s' 43=.bool b3/\w=w') ?_ ?_
   ·intro R' K' HR hK';have hC:=HC.out.symm;subst hC;clear HC HB3;cases b1
    ·cases b2
     ·go_wp2_with fail;all_goals exact got HR ⟨zb,zb,zb,zb,rfl⟩
     ·go_wp2_with fail;all_goals exact got HR ⟨zb,zb,zb,zb,rfl⟩
    ·go_wp2_with fail;all_goals exact got HR ⟨zb,zb,zb,zb,rfl⟩
   clear s1 s6 s7 σ HC hb1 hb2;rintro σ w1 ⟨s1,s6,s7,s43,rfl⟩;by_cases hle:d2<=10^15
   ·have e3:b3=false:=by rw[<-HB3.out];exact decide_eq_false zd
    subst e3;have c2:=HT.out i zd;have hm2:=zoz i zd (H2.out hle);obtain⟨x,hx⟩:=zX (zso i);obtain⟨N3,hN3⟩:=zX (sgB neg+xd (d2*10^i) 1);rw[hx,hN3]at hm2;rw[hx]at c2;have hm2:=zm7 .mul hm2;have HN3:=zH hN3;have hicnt:i<23:=zd;clear hle hN3 hx;(go_wp2_with fail;repeat ((first|refine cZ ?_|refine cW ?_);go_wp2_with fail));refine xc (.float .f64 N3) (.bool true) rfl ze ze zb zb ⟨N3,true,rfl,(fun _=>⟨?_,HB.out,z3⟩),rfl⟩;rw[<-HN3.out,H3.out,show (-p).toNat=0 by omega,Nat.pow_zero]
   ·have e3:b3=true:=by rw[<-HB3.out];exact decide_eq_true zd
    subst e3;clear hle;(go_wp2_with fail;repeat ((first|refine cZ ?_|refine cW ?_);go_wp2_with fail));exact xc (.float .f64 N2) (.bool false) rfl ze ze zb zb ⟨_,false,rfl,(fun h=>zF),rfl⟩
  ·rw[decide_eq_false z23]at s22;(go_upto_region 13 with fail;repeat ((first|refine cZ ?_|refine cW ?_);go_upto_region 13 with fail));refine yr (fun s' w'=>s' 1=.int .i64 p/\s' 6=.float .f64 N/\s' 7=.bool false/\s' 50=.bool (decide (p<0/\-22<=p))/\w=w') ?_ ?_
   ·intro R' K' HR hK';by_cases z2:p<0
    ·by_cases z3:-22<=p
     ·have e:decide (p<0/\-22<=p)=true:=decide_eq_true ⟨z2,z3⟩;go_wp2_with fail;all_goals exact got HR ⟨zb,zb,zb,zαj,rfl⟩
     ·have e:decide (p<0/\-22<=p)=false:=decide_eq_false (fun h=>z3 h.2);have z3':decide (-22<=p)=false:=decide_eq_false z3;go_wp2_with fail;all_goals exact got HR ⟨zb,zb,zb,zαj,rfl⟩
    ·have e:decide (p<0/\-22<=p)=false:=decide_eq_false (fun h=>z2 h.1);have z2':decide (p<0)=false:=decide_eq_false z2;go_wp2_with fail;all_goals exact got HR ⟨zb,zb,zb,zαj,rfl⟩
   clear s1 s6 s7 s22 σ;rintro σ w1 ⟨s1,s6,s7,s50,rfl⟩;by_cases z56:p<0/\-22<=p
   ·rw[decide_eq_true z56]at s50;obtain⟨i,hi⟩:∃ i:Nat,p=-(i:Int):=⟨(-p).toNat,zd⟩;subst hi;have c1:=HT.out i zd;have hm:=zur i zd HRD.out;obtain⟨x,hx⟩:=zX (zso i);obtain⟨N2,hN2⟩:=zX (sgB neg+xd d (10^i));rw[hx,hN2]at hm;rw[hx]at c1;have hm:=zm7 .quo hm;have HN2:=zH hN2;have hicnt:i<23:=zd;have hwn:IntKind.i64.wrap (i:Int)=(i:Int):=zk;clear hN2 hx z56 z23;(go_wp2_with fail;repeat ((first|refine cZ ?_|refine cW ?_);go_wp2_with fail));refine xc (.float .f64 N2) (.bool true) rfl ze ze zb zb ⟨N2,true,rfl,(fun _=>⟨?_,HB.out,zd⟩),rfl⟩;rw[<-HN2.out,show (-(i:Int)).toNat=0 by omega,Int.neg_neg,Int.toNat_natCast,Nat.pow_zero,Nat.mul_one]
   ·rw[decide_eq_false z56]at s50;(go_wp2_with fail;repeat ((first|refine cZ ?_|refine cW ?_);go_wp2_with fail));exact xc (.float .f64 N) (.bool false) rfl ze ze zb zb ⟨_,false,rfl,(fun h=>zF),rfl⟩
 ·have g1:((d:Int) / 4503599627370496 != 0)=true:=by
   rw[bne_iff_ne];omega
  (go_wp2_with fail;repeat ((first|refine cZ ?_|refine cW ?_);go_wp2_with fail));exact xc (.float .f64 0) (.bool false) rfl ze ze zb zb ⟨_,false,rfl,(fun h=>zF),rfl⟩
end
theorem zqy (F:Nat) (bias:Int) (d:Nat) (p e:Int) (hF1:23<=F) (hF2:F<=52) (hd0:d≠0) (hd:d<18446744073709551616) (hp1:-348<=p) (hp2:p<=347)
  (he:e=min (bias+F-1) (F+1-((Lib.bitLen d:Int)+lpT p))):
  (if 2^(F+1)*4-2<=usE (d*2^shS d) (e-(64-(Lib.bitLen d:Int))) p
   then (yj4 (usE (d*2^shS d) (e-(64-(Lib.bitLen d:Int))) p / 2|||usE (d*2^shS d) (e-(64-(Lib.bitLen d:Int))) p%2),e-1)
   else (yj4 (usE (d*2^shS d) (e-(64-(Lib.bitLen d:Int))) p|||usE (d*2^shS d) (e-(64-(Lib.bitLen d:Int))) p%2),e))=prG F (d*10^p.toNat) (10^(-p).toNat) e:=by
 obtain⟨hb1,hb2,hb3,hb4⟩:=zdq d hd hd0;obtain⟨t1,t2,t3⟩:=zcq d (Lib.bitLen d) p hp1 hp2 hb1 hb2 hb3;have hS:shS d=64-Lib.bitLen d:=rfl;rw[hS];generalize Lib.bitLen d=L at *
 have hx:d*2^(64-L)<18446744073709551616:=by
  rw[show (18446744073709551616:Nat)=2^L*2^(64-L) by rw[<-Nat.pow_add,show L+(64-L)=64 by omega]];exact Nat.mul_lt_mul_of_pos_right hb3 (p2 _)
 have hx0:9223372036854775808<=d*2^(64-L):=by
  rw[show (9223372036854775808:Nat)=2^(L-1)*2^(64-L) by rw[<-Nat.pow_add,show L-1+(64-L)=63 by omega]];exact Nat.mul_le_mul_right _ hb2
 have hlp:p*108853 / 32768=lpT p:=rfl;rw[usE_C _ _ p hp1 hp2 hx hx0 (by rw[hlp];omega)];have hT:0<10^(-p).toNat:=p10 _;have hB:0<10^(-p).toNat*2^(-e).toNat:=Nat.mul_pos hT (p2 _);have hu:zvm (d*2^(64-L)) (e-(64-(L:Int))) p=zcj (4*(d*10^p.toNat*2^e.toNat)) (10^(-p).toNat*2^(-e).toNat):=by
  unfold zvm;refine zd7 (Nat.mul_pos (p2 _) hT) hB ?_;have e1:2^(64-L)*2^(e-(64-(L:Int))).toNat*2^(-e).toNat=2^e.toNat*2^(-(e-(64-(L:Int)))).toNat:=by
   rw[<-Nat.pow_add,<-Nat.pow_add,<-Nat.pow_add];congr 1;omega
  calc 4*(d*2^(64-L))*2^(e-(64-(L:Int))).toNat*10^p.toNat*(10^(-p).toNat*2^(-e).toNat)=4*d*10^p.toNat*10^(-p).toNat*(2^(64-L)*2^(e-(64-(L:Int))).toNat*2^(-e).toNat):=by ac_rfl
   _=4*d*10^p.toNat*10^(-p).toNat*(2^e.toNat*2^(-(e-(64-(L:Int)))).toNat):=by rw[e1]
   _=_:=by ac_rfl
 rw[hu];clear hu hx hx0;generalize d*10^p.toNat=a at *
 generalize 10^(-p).toNat=b at *
 have hA:a*2^e.toNat<b*2^(-e).toNat*4000000000000000000:=by
  have h1:¬le2 a b (-e+((F+2:Nat):Int)):=fun h=>t2 (wh zd h)
  rw[zke,Nat.not_le,Int.neg_neg]at h1;have h2:2^(F+2)<=2^54:=Nat.pow_le_pow_right zd zd;have h3:=Nat.mul_le_mul_right (b*2^(-e).toNat) h2;generalize b*2^(-e).toNat=B at *
  generalize 2^(F+2)*B=z at *
  omega
 have r1:yj4 (zcj (4*(a*2^e.toNat)) (b*2^(-e).toNat))=rB a b (-e):=by
  rw[zck _ _ hB hA];unfold rB;rw[Int.neg_neg]
 have hB2:0<b*2^(-e).toNat*2:=Nat.mul_pos hB zd;have hA2:a*2^e.toNat<b*2^(-e).toNat*2*4000000000000000000:=by
  exact Nat.lt_of_lt_of_le hA (Nat.mul_le_mul_right _ (Nat.le_mul_of_pos_right _ zd))
 have r2:yj4 (zcj (4*(a*2^e.toNat)) (b*2^(-e).toNat*2))=rB a b (1-e):=by
  rw[zck _ _ hB2 hA2];unfold rB;refine yj7 zd (Nat.mul_pos zd (p2 _)) ?_;have e1:2^e.toNat*2^(1-e).toNat=2^(-(1-e)).toNat*2^(-e).toNat*2:=by
   rw[<-Nat.pow_add,<-Nat.pow_add,<-Nat.pow_succ];congr 1;omega
  calc a*2^e.toNat*(b*2^(1-e).toNat)=a*b*(2^e.toNat*2^(1-e).toNat):=by ac_rfl
   _=a*b*(2^(-(1-e)).toNat*2^(-e).toNat*2):=by rw[e1]
   _=_:=by ac_rfl
 have hlt:zcj (4*(a*2^e.toNat)) (b*2^(-e).toNat)<16000000000000000000:=by
  have:=(zta (a*2^e.toNat) (b*2^(-e).toNat) 4000000000000000000 hB).2 (by rw[Nat.mul_comm 4000000000000000000];exact hA);omega
 have hm:=zmg _ (2^(F+1)) (by rw[Nat.pow_succ];omega) (p2 _) hlt;rw[zmf _ _ hB,zt5,r1,r2];rw[r1]at hm;unfold prG;by_cases c:2^(F+1)<=rB a b (-e)
 ·rw[if_pos c,if_pos (hm.2 c)]
 ·rw[if_neg c,if_neg (fun h=>c (hm.1 h))]
theorem zng (d:Nat) (p:Int) (hd0:d≠0) (hd:d<18446744073709551616) (hp1:-348<=p) (hp2:p<=347):
  (pfS d p<64->(pfR d p).1<9007199254740992)/\zpx d p=(xd (d*10^p.toNat) (10^(-p).toNat),decide (xd (d*10^p.toNat) (10^(-p).toNat)=9218868437227405312)):=by
 obtain⟨hb1,hb2,hb3,hb4⟩:=zdq d hd hd0;obtain⟨t1,t2,t3⟩:=zcq d (Lib.bitLen d) p hp1 hp2 hb1 hb2 hb3;have hT:0<10^(-p).toNat:=p10 _;have ha:d*10^p.toNat≠0:=Nat.mul_ne_zero hd0 (by have:=p10 p.toNat;omega);have he:pfE d p=min ((1023:Int)+(52:Nat)-1) ((52:Nat)+1-((Lib.bitLen d:Int)+lpT p)):=by unfold pfE lpT;omega
 have hpr:=zqy 52 1023 d p (pfE d p) zd zd hd0 hd hp1 hp2 he;have hU:pfU d p=usE (d*2^shS d) (pfE d p-(64-(Lib.bitLen d:Int))) p:=rfl;have hR:pfR d p=prG 52 (d*10^p.toNat) (10^(-p).toNat) (pfE d p):=by
  rw[<-hpr];unfold pfR;rw[hU]
 have hn:=zq2 52 1023 9218868437227405312 (d*10^p.toNat) (10^(-p).toNat) ((Lib.bitLen d:Int)+lpT p) (pfE d p) ha zd zd zd rfl t1 t2 (t3 52 zd) he;have hr:(pfR d p).1<9007199254740992:=by rw[hR];exact hn.2
 refine⟨fun _=>hr,?_⟩;have hnear:xd (d*10^p.toNat) (10^(-p).toNat)=xh 52 1023 9218868437227405312 (d*10^p.toNat) (10^(-p).toNat):=rfl;have hle:xd (d*10^p.toNat) (10^(-p).toNat)=xh (52:Nat) 1023 9218868437227405312 (d*10^p.toNat) (10^(-p).toNat):=rfl;unfold zpx;by_cases h64:64<=pfS d p
 ·rw[if_pos h64];have hz:xd (d*10^p.toNat) (10^(-p).toNat)=0:=by
   refine kv 52 1023 _ _ _ zd zd zd (fun _ h=>t2 (wh ?_ h));unfold pfS pfE at h64;unfold lpT;omega
  rw[hz];rfl
 ·rw[if_neg h64];have h1:=hn.1;rw[<-hR,<-hle]at h1;rw[<-h1];unfold pkG pkB;generalize pfR d p=x at *
  obtain⟨m,e⟩:=x;have hm:m<9007199254740992:=hr;have e52:(2:Nat)^52=4503599627370496:=rfl;rw[e52];dsimp only;by_cases c1:m<4503599627370496
  ·rw[if_pos c1,if_pos c1];congr 1;exact (decide_eq_false zd).symm
  ·rw[if_neg c1,if_neg c1];have c2:(972<=-e)↔((1023:Int)+1-(52:Nat)<=-e):=zd;by_cases c3:972<=-e
   ·rw[if_pos c3,if_pos (c2.1 c3)];rfl
   ·rw[if_neg c3,if_neg (fun h=>c3 (c2.2 h)),show (1075+-e).toNat=((1023:Int)+(52:Nat)-e).toNat by omega];congr 1;refine (decide_eq_false ?_).symm;have:((1023:Int)+(52:Nat)-e).toNat<=2046:=zd;generalize ((1023:Int)+(52:Nat)-e).toNat=t at *
    omega
theorem zzi (d:Nat) (p:Int) (hd0:d≠0) (hd:d<18446744073709551616) (hp1:-348<=p) (hp2:p<=347):
  (yac d p<64->(zy3 d p).1<16777216)/\zzy d p=(zxq (d*10^p.toNat) (10^(-p).toNat),decide (zxq (d*10^p.toNat) (10^(-p).toNat)=2139095040)):=by
 obtain⟨hb1,hb2,hb3,hb4⟩:=zdq d hd hd0;obtain⟨t1,t2,t3⟩:=zcq d (Lib.bitLen d) p hp1 hp2 hb1 hb2 hb3;have hT:0<10^(-p).toNat:=p10 _;have ha:d*10^p.toNat≠0:=Nat.mul_ne_zero hd0 (by have:=p10 p.toNat;omega);have he:zzb d p=min ((127:Int)+(23:Nat)-1) ((23:Nat)+1-((Lib.bitLen d:Int)+lpT p)):=by unfold zzb lpT;omega
 have hpr:=zqy 23 127 d p (zzb d p) zd zd hd0 hd hp1 hp2 he;have hU:yab d p=usE (d*2^shS d) (zzb d p-(64-(Lib.bitLen d:Int))) p:=rfl;have hR:zy3 d p=prG 23 (d*10^p.toNat) (10^(-p).toNat) (zzb d p):=by
  rw[<-hpr];unfold zy3;rw[hU]
 have hn:=zq2 23 127 2139095040 (d*10^p.toNat) (10^(-p).toNat) ((Lib.bitLen d:Int)+lpT p) (zzb d p) ha zd zd zd rfl t1 t2 (t3 23 zd) he;have hr:(zy3 d p).1<16777216:=by rw[hR];exact hn.2
 refine⟨fun _=>hr,?_⟩;have hle:zxq (d*10^p.toNat) (10^(-p).toNat)=xh (23:Nat) 127 2139095040 (d*10^p.toNat) (10^(-p).toNat):=rfl;unfold zzy;by_cases h64:64<=yac d p
 ·rw[if_pos h64];have hz:zxq (d*10^p.toNat) (10^(-p).toNat)=0:=by
   refine kv 23 127 _ _ _ zd zd zd (fun _ h=>t2 (wh ?_ h));unfold yac zzb at h64;unfold lpT;omega
  rw[hz];rfl
 ·rw[if_neg h64];have h1:=hn.1;rw[<-hR,<-hle]at h1;rw[<-h1];unfold pkG pkC;generalize zy3 d p=x at *
  obtain⟨m,e⟩:=x;have hm:m<16777216:=hr;have e52:(2:Nat)^23=8388608:=rfl;rw[e52];dsimp only;by_cases c1:m<8388608
  ·rw[if_pos c1,if_pos c1];congr 1;exact (decide_eq_false zd).symm
  ·rw[if_neg c1,if_neg c1];have c2:(105<=-e)↔((127:Int)+1-(23:Nat)<=-e):=zd;by_cases c3:105<=-e
   ·rw[if_pos c3,if_pos (c2.1 c3)];rfl
   ·rw[if_neg c3,if_neg (fun h=>c3 (c2.2 h)),show (150+-e).toNat=((127:Int)+(23:Nat)-e).toNat by omega];congr 1;refine (decide_eq_false ?_).symm;have:((127:Int)+(23:Nat)-e).toNat<=254:=zd;generalize ((127:Int)+(23:Nat)-e).toNat=t at *
    omega
section
attribute [local go_sem] zxm
theorem yaz (d:Nat):floatOfInt .f32 (d:Int)=sgC false+zxq d 1:=by
 show Ieee.single.nearest (decide ((d:Int)<0)) (d:Int).natAbs 0=_;rw[decide_eq_false zd,Int.natAbs_natCast,zyw,zxr];show sgC false+zxq (d*1) 1=_;rw[Nat.mul_one]
theorem zzh (op:BinOp) {x y r:Nat} (h:floatBits op .f32 x y=some r) (t:TypeId) (w:World):(binOp op t (.float .f32 x) (.float .f32 y)).run Tryz.prog w=.ok (.float .f32 r) w:=run_float_arith w op t .f32 x y r h
theorem zzr {neg:Bool} {N d:Nat} (i:Nat) (hi:i<11) (h:RdV Ieee.single N neg d):Ieee.single.mul N (yad i)=some (sgC neg+zxq (d*10^i) 1):=by
 rw[RdV.mul FmtOK.single h (zpm (zzu i hi)),zxr,Bool.xor_false];rfl
theorem yaj {neg:Bool} {N d:Nat} (i:Nat) (hi:i<11) (h:RdV Ieee.single N neg d):Ieee.single.div N (yad i)=some (sgC neg+zxq d (10^i)):=by
 rw[RdV.div FmtOK.single h (zpm (zzu i hi)) (by have:=p10 i;omega),zxr,Bool.xor_false];rfl
theorem zzs (neg:Bool) (d:Nat) (h0:d≠0) (hd:d<2^(127:Int).toNat):
  ((Ieee.single.order (sgC neg+zxq d 1) 1259902592==some Ordering.gt) || (Ieee.single.order (sgC neg+zxq d 1) 3407386240==some Ordering.lt))=decide (10^7<d):=by
 have h:=zt0 FmtOK.single neg d (10^7) 1259902592 3407386240 h0 hd ze ze c7p c7n;rw[zxr]at h;exact h
theorem zzq {d i:Nat} (hd:d<8388608) (hi:i<=7):d*10^i<2^(127:Int).toNat:=by
 have h1:d*10^i<8388608*10^i:=Nat.mul_lt_mul_of_pos_right hd (p10 i);have h2:8388608*10^i<=8388608*10^7:=Nat.mul_le_mul_left _ (Nat.pow_le_pow_right zd hi);exact Nat.lt_of_lt_of_le h1 (Nat.le_trans h2 zp)
set_option maxRecDepth 100000 in
theorem zx8 (T d:Nat) (p:Int) (neg:Bool) (w:World) (he:EnvP T w) (h0:d≠0) (hd:d<18446744073709551616) (hp1:-1000000<=p) (hp2:p<=1000000):
  Calls Tryz.prog 112 #[.int .u64 (d:Int),.int .i64 p,.bool neg] w fun e w'=>
   ∃ (v:Nat) (ok:Bool),e=.returned (.tuple #[.float .f32 v,.bool ok])/\(ok=true->v=sgC neg+zxq (d*10^p.toNat) (10^(-p).toNat)/\d<8388608/\p<=17)/\w=w':=by
 refine ye Tryz.func112 rfl (by rw[Tryz.ntmps112];simp) ?_;intro σ hσ;rw[Tryz.ntmps112];have s0:σ 0=.int .u64 (d:Int):=hσ 0 zi;have s1:σ 1=.int .i64 p:=hσ 1 zi;have s2:σ 2=.bool neg:=hσ 2 zi;clear hσ;have f1:=he.i64.1;obtain⟨tb,tof,tc,htT,htc,ht0,ht⟩:=he.t32;have HT:=zH ht;clear ht he;by_cases hb:d<8388608
 ·have g1:((d:Int) / 8388608 != 0)=false:=by
   rw[bne_eq_false_iff_eq];omega
  have hnl:zxq d 1<2147483648:=Nat.lt_of_le_of_lt (ud 23 127 2139095040 d 1 ze ze rfl) ze;obtain⟨n0,hn0⟩:=zX (floatOfInt .f32 (d:Int));obtain⟨n1,hn1⟩:=zX (Op.negFloat .f32 n0);obtain⟨N,hN⟩:=zX (sgC neg+zxq d 1);have HN0:=zH (hn0.symm.trans (yaz d));have HN1:=zH (show n1=sgC true+zxq d 1 by rw[<-hn1,HN0.out];show Op.negFloat .f32 (0+zxq d 1)=_;rw[Nat.zero_add];exact neg32 _ hnl);have HN:=zH hN;have HRD:=zH (show RdV Ieee.single N neg d by rw[<-hN,<-zxr];exact RdV.small FmtOK.single neg d h0 zd);have HB:=zH hb;clear hnl hN hb;(go_upto_block 0 with fail;repeat ((first|refine cZ ?_|refine cW ?_);go_upto_block 0 with fail));refine yr (fun s' w'=>s' 1=.int .i64 p/\s' 6=.float .f32 N/\s' 7=.bool false/\w=w') ?_ ?_
  ·intro R' K' HR hK';cases neg with
   | false=>
    have e:n0=N:=by rw[HN0.out,<-HN.out]
    subst e;(go_wp2_with fail;repeat ((first|refine cZ ?_|refine cW ?_);go_wp2_with fail));exact got HR ⟨zb,zb,zb,rfl⟩
   | true=>
    have e:n1=N:=by rw[HN1.out,<-HN.out]
    subst e;(go_wp2_with fail;repeat ((first|refine cZ ?_|refine cW ?_);go_wp2_with fail));exact got HR ⟨zb,zb,zb,rfl⟩
  clear s0 s1 s2 σ g1 hn0 hn1 HN0 HN1 n0 n1 f1 hd;rintro σ w1 ⟨s1,s6,s7,rfl⟩;by_cases z0:p=0
  ·subst z0;(go_wp2_with fail;repeat ((first|refine cZ ?_|refine cW ?_);go_wp2_with fail));exact xc (.float .f32 N) (.bool true) rfl ze ze zb zb ⟨N,true,rfl,(fun _=>⟨by rw[<-HN.out];show _=sgC neg+zxq (d*1) 1;rw[Nat.mul_one],HB.out,zd⟩),rfl⟩
  have z1:(p==0)=false:=by rw[beq_eq_false_iff_ne];exact z0
  (go_upto_region 7 with fail;repeat ((first|refine cZ ?_|refine cW ?_);go_upto_region 7 with fail));refine yr (fun s' w'=>s' 1=.int .i64 p/\s' 6=.float .f32 N/\s' 7=.bool false/\s' 20=.bool (decide (0<p/\p<=17))/\w=w') ?_ ?_
  ·intro R' K' HR hK';by_cases z2:0<p
   ·by_cases z3:p<=17
    ·have e:decide (0<p/\p<=17)=true:=decide_eq_true ⟨z2,z3⟩;go_wp2_with fail;all_goals exact got HR ⟨zb,zb,zb,zαj,rfl⟩
    ·have e:decide (0<p/\p<=17)=false:=decide_eq_false (fun h=>z3 h.2);have z3':decide (p<=17)=false:=decide_eq_false z3;go_wp2_with fail;all_goals exact got HR ⟨zb,zb,zb,zαj,rfl⟩
   ·have e:decide (0<p/\p<=17)=false:=decide_eq_false (fun h=>z2 h.1);have z2':decide (0<p)=false:=decide_eq_false z2;go_wp2_with fail;all_goals exact got HR ⟨zb,zb,zb,zαj,rfl⟩
  clear s1 s6 s7 σ;rintro σ w1 ⟨s1,s6,s7,s22,rfl⟩;by_cases z23:0<p/\p<=17
  ·rw[decide_eq_true z23]at s22;obtain⟨z2,z3⟩:=z23;(go_upto_region 11 with fail;repeat ((first|refine cZ ?_|refine cW ?_);go_upto_region 11 with fail));refine yr (fun s' w'=>∃ (d2 i N2:Nat),s' 1=.int .i64 (i:Int)/\i<=10/\s' 6=.float .f32 N2/\s' 7=.bool false/\d2≠0/\d2*10^i=d*10^p.toNat/\(d2<=10^7->RdV Ieee.single N2 neg d2)/\((Ieee.single.order N2 1259902592==some Ordering.gt) || (Ieee.single.order N2 3407386240==some Ordering.lt))=decide (10^7<d2)/\w=w') ?_ ?_
   ·intro R' K' HR hK';by_cases z4:10<p
    ·obtain⟨i,hi⟩:∃ i:Nat,p-10=i:=⟨(p-10).toNat,zd⟩;have hiK:i<=7:=zd;have c1:=HT.out i zd;have hm:=zzr i zd HRD.out;obtain⟨x,hx⟩:=zX (yad i);obtain⟨N2,hN2⟩:=zX (sgC neg+zxq (d*10^i) 1);rw[hx,hN2]at hm;rw[hx]at c1;have hm:=zzh .mul hm;have hprod0:d*10^i≠0:=by have:=Nat.mul_pos (Nat.pos_of_ne_zero h0) (p10 i);omega
     have hprodL:d*10^i<2^(127:Int).toNat:=zzq HB.out hiK;have hcmp:=zzs neg (d*10^i) hprod0 hprodL;rw[hN2]at hcmp;have hRD2:d*10^i<=10^7->RdV Ieee.single N2 neg (d*10^i):=fun hle=>by rw[<-hN2,<-zxr];exact RdV.small FmtOK.single neg _ hprod0 (Nat.lt_of_le_of_lt hle ze)
     have heq:d*10^i*10^10=d*10^p.toNat:=by rw[show p.toNat=i+10 by omega,Nat.pow_add,Nat.mul_assoc]
     have H1:=zH hcmp;have H2:=zH hRD2;have H3:=zH heq;have H4:=zH hprod0;have hicnt:i<11:=zd;clear hx hN2 hprod0 hprodL hcmp hRD2 heq;(go_upto_region 11 with fail;repeat ((first|refine cZ ?_|refine cW ?_);go_upto_region 11 with fail));exact got HR ⟨d*10^i,10,N2,zb,zd,zb,zb,H4.out,H3.out,H2.out,H1.out,rfl⟩
    ·obtain⟨i,hi⟩:∃ i:Nat,p=i:=⟨p.toNat,zd⟩;subst hi;have z4':decide (10<(i:Int))=false:=decide_eq_false z4;have hcmp:=zzs neg d h0 (Nat.lt_of_lt_of_le HB.out zp);rw[HN.out]at hcmp;have H1:=zH hcmp;clear hcmp;(go_upto_region 11 with fail;repeat ((first|refine cZ ?_|refine cW ?_);go_upto_region 11 with fail));exact got HR ⟨d,i,N,zb,zd,zb,zb,h0,by rw[Int.toNat_natCast],fun _=>HRD.out,H1.out,rfl⟩
   clear s1 s6 s7 s22 σ;rintro σ w1 ⟨d2,i,N2,s1,hiK,s6,s7,hd0,heq,hrd,hcmp,rfl⟩;have H1:=zH hcmp;have H2:=zH hrd;have H3:=zH heq;obtain⟨b1,hb1⟩:=zX ((Ieee.single.order N2 1259902592==some Ordering.gt));obtain⟨b2,hb2⟩:=zX ((Ieee.single.order N2 3407386240==some Ordering.lt));obtain⟨b3,hb3⟩:=zX (decide (10^7<d2));rw[hb1,hb2,hb3]at hcmp;have HC:=zH hcmp;have HB3:=zH hb3;replace hb1:(FloatKind.f32.format.order N2 1259902592==some Ordering.gt)=b1:=hb1;replace hb2:(FloatKind.f32.format.order N2 3407386240==some Ordering.lt)=b2:=hb2;clear hcmp hrd heq hb3;(go_upto_region 11 with fail;repeat ((first|refine cZ ?_|refine cW ?_);go_upto_region 11 with fail));refine yr (fun s' w'=>s' 1=.int .i64 (i:Int)/\s' 6=.float .f32 N2/\s' 7=.bool false/\s' 41=.bool b3/\w=w') ?_ ?_
   ·intro R' K' HR hK';have hC:=HC.out.symm;subst hC;clear HC HB3;cases b1
    ·cases b2
     ·go_wp2_with fail;all_goals exact got HR ⟨zb,zb,zb,zb,rfl⟩
     ·go_wp2_with fail;all_goals exact got HR ⟨zb,zb,zb,zb,rfl⟩
    ·go_wp2_with fail;all_goals exact got HR ⟨zb,zb,zb,zb,rfl⟩
   clear s1 s6 s7 σ HC hb1 hb2;rintro σ w1 ⟨s1,s6,s7,s43,rfl⟩;by_cases hle:d2<=10^7
   ·have e3:b3=false:=by rw[<-HB3.out];exact decide_eq_false zd
    subst e3;have c2:=HT.out i zd;have hm2:=zzr i zd (H2.out hle);obtain⟨x,hx⟩:=zX (yad i);obtain⟨N3,hN3⟩:=zX (sgC neg+zxq (d2*10^i) 1);rw[hx,hN3]at hm2;rw[hx]at c2;have hm2:=zzh .mul hm2;have HN3:=zH hN3;have hicnt:i<11:=zd;clear hle hN3 hx;(go_wp2_with fail;repeat ((first|refine cZ ?_|refine cW ?_);go_wp2_with fail));refine xc (.float .f32 N3) (.bool true) rfl ze ze zb zb ⟨N3,true,rfl,(fun _=>⟨?_,HB.out,z3⟩),rfl⟩;rw[<-HN3.out,H3.out,show (-p).toNat=0 by omega,Nat.pow_zero]
   ·have e3:b3=true:=by rw[<-HB3.out];exact decide_eq_true zd
    subst e3;clear hle;(go_wp2_with fail;repeat ((first|refine cZ ?_|refine cW ?_);go_wp2_with fail));exact xc (.float .f32 N2) (.bool false) rfl ze ze zb zb ⟨_,false,rfl,(fun h=>zF),rfl⟩
  ·rw[decide_eq_false z23]at s22;(go_upto_region 13 with fail;repeat ((first|refine cZ ?_|refine cW ?_);go_upto_region 13 with fail));refine yr (fun s' w'=>s' 1=.int .i64 p/\s' 6=.float .f32 N/\s' 7=.bool false/\s' 48=.bool (decide (p<0/\-10<=p))/\w=w') ?_ ?_
   ·intro R' K' HR hK';by_cases z2:p<0
    ·by_cases z3:-10<=p
     ·have e:decide (p<0/\-10<=p)=true:=decide_eq_true ⟨z2,z3⟩;go_wp2_with fail;all_goals exact got HR ⟨zb,zb,zb,zαj,rfl⟩
     ·have e:decide (p<0/\-10<=p)=false:=decide_eq_false (fun h=>z3 h.2);have z3':decide (-10<=p)=false:=decide_eq_false z3;go_wp2_with fail;all_goals exact got HR ⟨zb,zb,zb,zαj,rfl⟩
    ·have e:decide (p<0/\-10<=p)=false:=decide_eq_false (fun h=>z2 h.1);have z2':decide (p<0)=false:=decide_eq_false z2;go_wp2_with fail;all_goals exact got HR ⟨zb,zb,zb,zαj,rfl⟩
   clear s1 s6 s7 s22 σ;rintro σ w1 ⟨s1,s6,s7,s50,rfl⟩;by_cases z56:p<0/\-10<=p
   ·rw[decide_eq_true z56]at s50;obtain⟨i,hi⟩:∃ i:Nat,p=-(i:Int):=⟨(-p).toNat,zd⟩;subst hi;have c1:=HT.out i zd;have hm:=yaj i zd HRD.out;obtain⟨x,hx⟩:=zX (yad i);obtain⟨N2,hN2⟩:=zX (sgC neg+zxq d (10^i));rw[hx,hN2]at hm;rw[hx]at c1;have hm:=zzh .quo hm;have HN2:=zH hN2;have hicnt:i<11:=zd;have hwn:IntKind.i64.wrap (i:Int)=(i:Int):=zk;clear hN2 hx z56 z23;(go_wp2_with fail;repeat ((first|refine cZ ?_|refine cW ?_);go_wp2_with fail));refine xc (.float .f32 N2) (.bool true) rfl ze ze zb zb ⟨N2,true,rfl,(fun _=>⟨?_,HB.out,zd⟩),rfl⟩;rw[<-HN2.out,show (-(i:Int)).toNat=0 by omega,Int.neg_neg,Int.toNat_natCast,Nat.pow_zero,Nat.mul_one]
   ·rw[decide_eq_false z56]at s50;(go_wp2_with fail;repeat ((first|refine cZ ?_|refine cW ?_);go_wp2_with fail));exact xc (.float .f32 N) (.bool false) rfl ze ze zb zb ⟨_,false,rfl,(fun h=>zF),rfl⟩
 ·have g1:((d:Int) / 8388608 != 0)=true:=by
   rw[bne_iff_ne];omega
  (go_wp2_with fail;repeat ((first|refine cZ ?_|refine cW ?_);go_wp2_with fail));exact xc (.float .f32 0) (.bool false) rfl ze ze zb zb ⟨_,false,rfl,(fun h=>zF),rfl⟩
end
end Go.Proofs.YtnifedmhgncioaaGreatDoor
