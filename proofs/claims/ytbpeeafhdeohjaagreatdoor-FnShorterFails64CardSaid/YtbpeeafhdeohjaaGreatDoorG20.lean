/- Lemmas that the claim's top text leans on. No condition of their own. -/
import Derived.Test.YtbpeeafhdeohjaaGreatDoorG17
import Derived.Test.YtbpeeafhdeohjaaGreatDoorG25
namespace Go.Proofs.YtbpeeafhdeohjaaGreatDoor
open Go.RowKit
set_option linter.unusedSimpArgs false
set_option linter.unusedVariables false
set_option maxHeartbeats 16000000
theorem zhk:∀ (k:Nat) (s p:List UInt8),k<=p.length->(k<=cpL s p↔k<=s.length/\xf (s.take k)=p.take k)
 | 0,s,p,_=>by simp[xf]
 | k+1,[],p,_=>by
  have:cpL [] p=0:=by cases p <;> rfl
  simp[this]
 | k+1,c::s,[],h=>by simp at h
 | k+1,c::s,q::p,h=>by
  have ih:=zhk k s p zI
  show k+1<=(if vb c=q then 1+cpL s p else 0)↔_
  by_cases hc:vb c=q
  ·rw[if_pos hc]
   have e:xf ((c::s).take (k+1))=vb c::xf (s.take k):=rfl
   rw[e,List.take_succ_cons,hc,List.length_cons]
   constructor
   ·intro h1
    obtain⟨h2,h3⟩:=ih.1 zd
    exact⟨zd,by rw[h3]⟩
   ·rintro⟨h1,h2⟩
    have:=ih.2 ⟨zd,(List.cons.inj h2).2⟩
    omega
  ·rw[if_neg hc]
   have e:xf ((c::s).take (k+1))=vb c::xf (s.take k):=rfl
   rw[e,List.take_succ_cons]
   constructor
   ·intro h1;omega
   ·rintro⟨h1,h2⟩
    exact absurd (List.cons.inj h2).1 hc
theorem ut (c:UInt8):∀ x:UInt8,(x=105\/x=110)->(vb c=x↔c=x\/c=x-32):=by
 intro x hx;rcases hx with rfl | rfl <;> revert c <;> refine vu _ ?_ <;> decide +kernel
theorem yiq {s:List UInt8} {c:UInt8} {r:List UInt8} (h:(sgn s).2=c::r) (hc:vb c=105\/vb c=110):zau s=none:=by
 have h4:c=105\/c=73\/c=110\/c=78:=by
  rcases hc with hc | hc
  ·rcases (ut c 105 (Or.inl rfl)).1 hc with h | h
   ·exact Or.inl h
   ·exact Or.inr (Or.inl h)
  ·rcases (ut c 110 (Or.inr rfl)).1 hc with h | h
   ·exact Or.inr (Or.inr (Or.inl h))
   ·exact Or.inr (Or.inr (Or.inr h))
 have hx:yo (sgn s).2=false:=by
  rw[h];match r with
  | []=>rfl
  | [_]=>rfl
  | x::y::r=>
   show decide (c=48/\wc x=120)=false;apply decide_eq_false;rintro⟨rfl,-⟩;revert h4;decide
 have hb:yj s=c::r:=by unfold yj;rw[hx,h];rfl
 have hd:xe false c=false:=by rcases h4 with rfl | rfl | rfl | rfl <;> decide
 have h46:c≠46:=by rintro rfl;revert h4;decide
 rw[jv,if_pos];rw[hx,hb];have e1:ve false (c::r)=[]:=by unfold ve;rw[List.takeWhile_cons_of_neg (by rw[hd];decide)]
 have e2:qi false (c::r)=c::r:=by unfold qi;rw[List.dropWhile_cons_of_neg (by rw[hd];decide)]
 have e3:yw false (c::r)=[]:=by
  unfold yw;rw[e2,if_neg];intro h;exact h46 zI
 rw[e1,e3];exact⟨rfl,rfl⟩
theorem zj8 (s:List UInt8):(xf s).length=s.length:=by unfold xf;simp
theorem ziv (neg:Bool) (k:Nat) (t:List UInt8):
  (xf t=[105,110,102]\/xf t=[105,110,102,105,110,105,116,121]->zd3 neg k t=some (kp neg,k+t.length))/\
  (¬(xf t=[105,110,102]\/xf t=[105,110,102,105,110,105,116,121])->zd3 neg k t=none\/∃ n,zd3 neg k t=some (kp neg,n)/\n≠k+t.length/\∃ c r,t=c::r/\vb c=105):=by
 have h8:=zhk 8 t infinityL ze;have h3:=zhk 3 t infinityL ze;have h4:=zhk 4 t infinityL ze;have hle:=zer t infinityL;change cpL t infinityL<=8 at hle;have hd8:xf (t.take 8)=(xf t).take 8:=zαk;have hd3:xf (t.take 3)=(xf t).take 3:=zαk;have hd4:xf (t.take 4)=(xf t).take 4:=zαk;rw[hd8]at h8;rw[hd3]at h3;rw[hd4]at h4;have hlen:=zj8 t;unfold zd3;constructor
 ·rintro (h | h)
  ·rw[h]at h8 h3 h4 hlen;have hl:t.length=3:=hlen.symm;have a3:3<=cpL t infinityL:=h3.2 ⟨zd,rfl⟩;have a8:¬8<=cpL t infinityL:=fun h=>by have:=(h8.1 h).1;omega
   rw[if_neg zd,if_pos a3,hl]
  ·rw[h]at h8 h3 h4 hlen;have hl:t.length=8:=hlen.symm;have a8:8<=cpL t infinityL:=h8.2 ⟨zd,rfl⟩;rw[if_pos zd,hl]
 ·intro hno;have hhead:3<=cpL t infinityL->∃ c r,t=c::r/\vb c=105:=by
   intro h;obtain⟨h1,h2⟩:=h3.1 h;cases t with
   | nil=>simp at h1
   | cons c r=>
    refine⟨c,r,rfl,?_⟩;have:=congrArg List.head? h2;simpa[xf,infinityL]using this
  by_cases a8:cpL t infinityL=8
  ·rw[if_pos a8];refine Or.inr ⟨_,rfl,?_,hhead zd⟩;intro hl;obtain⟨h1,h2⟩:=h8.1 zd;refine hno (Or.inr ?_);rw[List.take_of_length_le zd]at h2;exact h2
  ·rw[if_neg a8];by_cases a3:3<=cpL t infinityL
   ·rw[if_pos a3];refine Or.inr ⟨_,rfl,?_,hhead a3⟩;intro hl;obtain⟨h1,h2⟩:=h3.1 a3;refine hno (Or.inl ?_);rw[List.take_of_length_le zd]at h2;exact h2
   ·rw[if_neg a3];exact Or.inl rfl
theorem zvo (s:List UInt8):
  (xf s=[110,97,110]->qp s=some (zmd,s.length))/\
  (xf s≠[110,97,110]->((sgn (xf s)).2=[105,110,102]\/(sgn (xf s)).2=[105,110,102,105,110,105,116,121])->qp s=some (kp (sgn (xf s)).1,s.length))/\
  (xf s≠[110,97,110]->¬((sgn (xf s)).2=[105,110,102]\/(sgn (xf s)).2=[105,110,102,105,110,105,116,121])->qp s=none\/∃ v n,qp s=some (v,n)/\n≠s.length/\zau s=none):=by
 have hsl:=zct s;rw[hsl];simp only;have hlen:=zj8 s;cases s with
 | nil=>
  refine⟨fun h=>by simp[xf]at h,fun _ h=>by simp[xf,sgn]at h,fun _ _=>Or.inl rfl⟩
 | cons c r=>
  have hdef:qp (c::r)=if c=43 then zd3 false 1 r else if c=45 then zd3 true 1 r else if c=105\/c=73 then zd3 false 0 (c::r) else if c=110\/c=78 then (if cpL (c::r) [110,97,110]=3 then some (zmd,3) else none) else none:=rfl
  by_cases c1:c=43
  ·have hs:sgn (c::r)=(false,r):=by rw[xq,if_pos c1]
   have hn:xf (c::r)≠[110,97,110]:=by
    rw[c1];intro h;have:=congrArg List.head? h;revert this;simp[xf];decide
   rw[hdef,if_pos c1,hs];obtain⟨i1,i2⟩:=ziv false 1 r;refine⟨fun h=>absurd h hn,fun _ h=>by rw[i1 h,List.length_cons,Nat.add_comm],fun _ h=>?_⟩;rcases i2 h with h2 | ⟨n,h2,h3,x,y,h4,h5⟩
   ·exact Or.inl h2
   ·exact Or.inr ⟨_,n,h2,by rw[List.length_cons];omega,yiq (by rw[hs];exact h4) (Or.inl h5)⟩
  by_cases c2:c=45
  ·have hs:sgn (c::r)=(true,r):=by rw[xq,if_neg c1,if_pos c2]
   have hn:xf (c::r)≠[110,97,110]:=by
    rw[c2];intro h;have:=congrArg List.head? h;revert this;simp[xf];decide
   rw[hdef,if_neg c1,if_pos c2,hs];obtain⟨i1,i2⟩:=ziv true 1 r;refine⟨fun h=>absurd h hn,fun _ h=>by rw[i1 h,List.length_cons,Nat.add_comm],fun _ h=>?_⟩;rcases i2 h with h2 | ⟨n,h2,h3,x,y,h4,h5⟩
   ·exact Or.inl h2
   ·exact Or.inr ⟨_,n,h2,by rw[List.length_cons];omega,yiq (by rw[hs];exact h4) (Or.inl h5)⟩
  have hs:sgn (c::r)=(false,c::r):=by rw[xq,if_neg c1,if_neg c2]
  rw[hdef,if_neg c1,if_neg c2,hs];simp only;by_cases c3:c=105\/c=73
  ·have hl:vb c=105:=(ut c 105 (Or.inl rfl)).2 c3;have hn:xf (c::r)≠[110,97,110]:=by
    intro h;have:=congrArg List.head? h;simp[xf,hl]at this
   rw[if_pos c3];obtain⟨i1,i2⟩:=ziv false 0 (c::r);refine⟨fun h=>absurd h hn,fun _ h=>by rw[i1 h,Nat.zero_add],fun _ h=>?_⟩;rcases i2 h with h2 | ⟨n,h2,h3,x,y,h4,h5⟩
   ·exact Or.inl h2
   ·exact Or.inr ⟨_,n,h2,zd,yiq (by rw[hs]) (Or.inl hl)⟩
  ·have hl:vb c≠105:=fun h=>c3 ((ut c 105 (Or.inl rfl)).1 h)
   have hi:¬(xf (c::r)=[105,110,102]\/xf (c::r)=[105,110,102,105,110,105,116,121]):=by
    rintro (h | h) <;> · have:=congrArg List.head? h;simp[xf]at this;exact hl this
   rw[if_neg c3];have h3:=zhk 3 (c::r) [110,97,110] ze;have hd3:xf ((c::r).take 3)=(xf (c::r)).take 3:=zαk;rw[hd3]at h3;have hle:=zer (c::r) [110,97,110];change cpL (c::r) [110,97,110]<=3 at hle;by_cases c4:c=110\/c=78
   ·have hl4:vb c=110:=(ut c 110 (Or.inr rfl)).2 c4;rw[if_pos c4];refine⟨fun h=>?_,fun _ h=>absurd h hi,fun h _=>?_⟩
    ·rw[h]at h3 hlen;have a3:=h3.2 ⟨by rw[<-hlen];decide,rfl⟩;rw[if_pos zd,<-hlen];rfl
    ·by_cases a3:cpL (c::r) [110,97,110]=3
     ·rw[if_pos a3];refine Or.inr ⟨_,_,rfl,?_,yiq (by rw[hs]) (Or.inr hl4)⟩;intro hl3;obtain⟨-,h2⟩:=h3.1 zd;rw[List.take_of_length_le zd]at h2;exact h h2
     ·rw[if_neg a3];exact Or.inl rfl
   ·rw[if_neg c4];refine⟨fun h=>?_,fun _ h=>absurd h hi,fun _ _=>Or.inl rfl⟩;exfalso;have:=congrArg List.head? h;simp[xf]at this;exact c4 ((ut c 110 (Or.inr rfl)).1 this)
def erK (k:Nat):Value:=if k=0 then .nilIface else if k=1 then .iface 121 (.int .i64 2) else .iface 121 (.int .i64 1)
theorem zus (b:Bool):erV b=erK (if b=true then 2 else 0):=by cases b <;> rfl
def spB (F:Nat) (bias:Int) (inf:Nat) (t:Txt):Nat:=spN F bias inf t.base t.digits t.exp
def PaQ64 (s:List UInt8) (v k:Nat):Prop:=match ul s with
 | none=>v=0/\k=1
 | some t=>(t.kind=2->(9218868437227405312<v%9223372036854775808/\v<18446744073709551616)/\k=0)/\(t.kind=1->v=kp t.neg/\k=0)/\
  (t.kind=0->v=sgB t.neg+spB 52 1023 9218868437227405312 t/\k=if spB 52 1023 9218868437227405312 t=9218868437227405312 then 2 else 0)
theorem zib (s:List UInt8):
  (xf s=[110,97,110]->ul s=some ⟨2,false,0,[],0⟩)/\
  (xf s≠[110,97,110]->((sgn (xf s)).2=[105,110,102]\/(sgn (xf s)).2=[105,110,102,105,110,105,116,121])->ul s=some ⟨1,(sgn (xf s)).1,0,[],0⟩)/\
  (xf s≠[110,97,110]->¬((sgn (xf s)).2=[105,110,102]\/(sgn (xf s)).2=[105,110,102,105,110,105,116,121])->ul s=(zau s).map spT):=by
 rw[zqo];refine⟨fun h=>by rw[if_pos h],fun h h2=>by rw[if_neg h,if_pos h2],fun h h2=>by rw[if_neg h,if_neg h2]⟩
theorem zco (s:List UInt8) (P:Prop)
  (h1:qp s=some (zmd,s.length)->ul s=some ⟨2,false,0,[],0⟩->P)
  (h2:∀ ng,qp s=some (kp ng,s.length)->ul s=some ⟨1,ng,0,[],0⟩->P)
  (h3:(qp s=none\/∃ v n,qp s=some (v,n)/\n≠s.length/\zau s=none)->ul s=(zau s).map spT->P):P:=by
 obtain⟨a1,a2,a3⟩:=zvo s;obtain⟨b1,b2,b3⟩:=zib s;by_cases hn:xf s=[110,97,110]
 ·exact h1 (a1 hn) (b1 hn)
 ·by_cases hi:(sgn (xf s)).2=[105,110,102]\/(sgn (xf s)).2=[105,110,102,105,110,105,116,121]
  ·exact h2 _ (a2 hn hi) (b2 hn hi)
  ·exact h3 (a3 hn hi) (b3 hn hi)
theorem zto (F:Nat) (bias:Int) (inf:Nat) {s:List UInt8} {L:Lit} (h:zau s=some L) (hs:s.length<=1000) (hb1:1<=bias) (hb2:bias<=1023) (hF1:1<=F) (hF2:bias+F<=1075):spB F bias inf (spT L)=nvL F bias inf L:=by
 obtain⟨h1,h2,h3,-⟩:=zfk h;exact sp_eq F bias inf L h1 h3 zd hb1 hb2 hF1 hF2
theorem zql {s:List UInt8} {R:RR} (h:rfP s=some R):(R.n=s.length->∃ L,zau s=some L/\zau (s.take R.n)=some L)/\(R.n≠s.length->zau s=none):=by
 obtain⟨h1,L,hL,hR⟩:=zsf h;constructor
 ·intro e;have:s.take R.n=s:=by rw[e,List.take_length]
  exact⟨L,by rw[<-this];exact hL,hL⟩
 ·intro hne;cases hl:zau s with
  | none=>rfl
  | some L'=>
   have:=zm9 hl;rw[h]at this;cases this;exact absurd rfl hne
theorem zq7 {s:List UInt8} (h:rfP s=none):zau s=none:=by
 cases hl:zau s with
 | none=>rfl
 | some L=>rw[zm9 hl]at h;cases h
theorem PaQ64.bad {s:List UInt8} (h:ul s=none):PaQ64 s 0 1:=by unfold PaQ64;rw[h];exact⟨rfl,rfl⟩
section
attribute [local go_sem] undef
def xd (a b:Nat):Nat:=xh 52 1023 9218868437227405312 a b
end
section
theorem zxm (k:FloatKind) (b:Nat):Op.unary .neg (.float k b)=pure (.float k (Op.negFloat k b)):=rfl
def zkr (fmt:Ieee.Format) (x v:Nat):Bool:=match fmt.read x with | .number false n j=>decide (n≠0/\n*2^j.toNat=v*2^(-j).toNat) | _=>false
theorem zpm {fmt:Ieee.Format} {x v:Nat} (h:zkr fmt x v=true):RdV fmt x false v:=by
 unfold zkr at h;split at h
 ·rename_i n j e;have:=of_decide_eq_true h;exact⟨n,j,e,this.1,this.2⟩
 ·cases h
theorem zpl:∀ i,i<23->zkr Ieee.double (zso i) (10^i)=true:=by
 have h:(List.range 23).all (fun i=>zkr Ieee.double (zso i) (10^i))=true:=zp;intro i hi;exact (List.all_eq_true.1 h) i (List.mem_range.2 hi)
theorem wv (neg:Bool) (r:Nat):Ieee.double.word neg r=sgB neg+r:=by
 cases neg
 ·show r=0+r;omega
 ·rfl
theorem zs0 (k r:Nat) (h:r<2^k):r ^^^ 2^k=2^k+r:=by
 apply Nat.eq_of_testBit_eq;intro i;rw[Nat.testBit_xor,Nat.testBit_two_pow];by_cases hi:k=i
 ·subst hi;rw[Nat.testBit_two_pow_add_eq,Nat.testBit_lt_two_pow h];simp
 ·rcases Nat.lt_or_gt_of_ne hi with h1 | h1
  ·have e:2^k+r<2^i:=by
    have:2^(k+1)<=2^i:=Nat.pow_le_pow_right zd h1;rw[Nat.pow_succ]at this;omega
   rw[Nat.testBit_lt_two_pow e,Nat.testBit_lt_two_pow (Nat.lt_of_lt_of_le h (Nat.pow_le_pow_right zd zd))];simp[hi]
  ·rw[Nat.testBit_two_pow_add_gt h1];simp[hi]
theorem neg64 (r:Nat) (h:r<9223372036854775808):Op.negFloat .f64 r=sgB true+r:=by
 show r ^^^ 2^63=_;rw[zs0 63 r h];rfl
def RdO (fmt:Ieee.Format) (y:Nat) (t:Bool) (u:Nat):Prop:=∃ n j,fmt.read y=.number t n j/\j<=0/\n*2^j.toNat=u*2^(-j).toNat
theorem c15p:RdO Ieee.double 4831355200913801216 false (10^15):=⟨8000000000000000,-3,zp,ze,zp⟩
theorem c15n:RdO Ieee.double 14054727237768577024 true (10^15):=⟨8000000000000000,-3,zp,ze,zp⟩
theorem zv4 {fmt:Ieee.Format} {x y v u:Nat} {s:Bool} (hx:RdV fmt x s v) (hy:RdO fmt y false u) (hu:u≠0):(fmt.order x y==some Ordering.gt)=(!s&&decide (u<v)):=by
 rw[RdV.order hx hy];cases s
 ·simp only[Bool.false_eq_true,if_false,Bool.not_false,Bool.true_and];by_cases h:u<v
  ·rw[decide_eq_true h,Int.compare_eq_gt.2 zd];rfl
  ·rw[decide_eq_false h];rcases Nat.lt_or_ge v u with h1 | h1
   ·rw[Int.compare_eq_lt.2 zd];rfl
   ·rw[Int.compare_eq_eq.2 zd];rfl
 ·simp only[if_true,Bool.not_true,Bool.false_and,Bool.false_eq_true,if_false];rw[Int.compare_eq_lt.2 zd];rfl
theorem zv3 {fmt:Ieee.Format} {x y v u:Nat} {s:Bool} (hx:RdV fmt x s v) (hy:RdO fmt y true u) (hu:u≠0):(fmt.order x y==some Ordering.lt)=(s&&decide (u<v)):=by
 rw[RdV.order hx hy];cases s
 ·simp only[Bool.false_eq_true,if_false,Bool.false_and,if_true];rw[Int.compare_eq_gt.2 zd];rfl
 ·simp only[if_true,Bool.true_and];by_cases h:u<v
  ·rw[decide_eq_true h,Int.compare_eq_lt.2 zd];rfl
  ·rw[decide_eq_false h];rcases Nat.lt_or_ge v u with h1 | h1
   ·rw[Int.compare_eq_gt.2 zd];rfl
   ·rw[Int.compare_eq_eq.2 zd];rfl
section
variable {fmt : Ieee.Format} {f : Nat} {bias : Int} {inf : Nat}
theorem zt0 (h:FmtOK fmt f bias inf) (neg:Bool) (d u yp yn:Nat) (h0:d≠0) (hd:d<2^bias.toNat) (hu:u≠0) (hul:u<2^(f+1)) (hp:RdO fmt yp false u) (hn:RdO fmt yn true u):
  ((fmt.order (fmt.word neg (xh f bias inf d 1)) yp==some Ordering.gt) || (fmt.order (fmt.word neg (xh f bias inf d 1)) yn==some Ordering.lt))=decide (u<d):=by
 have key:∃ v,RdV fmt (fmt.word neg (xh f bias inf d 1)) neg v/\(u<v↔u<d):=by
  rcases Nat.lt_or_ge d (2^(f+1)) with h1 | h1
  ·exact⟨d,RdV.small h neg d h0 h1,Iff.rfl⟩
  ·obtain⟨v,hv,hv2⟩:=RdV.large h neg d h1 hd;exact⟨v,hv,⟨fun _=>zd,fun _=>zd⟩⟩
 obtain⟨v,hv,hiff⟩:=key;rw[zv4 hv hp hu,zv3 hv hn hu];cases neg <;> simp[hiff]
end
end
section
attribute [local go_sem] zxm
theorem zw0 (d:Nat):floatOfInt .f64 (d:Int)=sgB false+xd d 1:=by
 show Ieee.double.nearest (decide ((d:Int)<0)) (d:Int).natAbs 0=_;rw[decide_eq_false zd,Int.natAbs_natCast,zij,wv];show sgB false+xd (d*1) 1=_;rw[Nat.mul_one]
theorem zm7 (op:BinOp) {x y r:Nat} (h:floatBits op .f64 x y=some r) (t:TypeId) (w:World):(binOp op t (.float .f64 x) (.float .f64 y)).run Tryz.prog w=.ok (.float .f64 r) w:=run_float_arith w op t .f64 x y r h
theorem zoz {neg:Bool} {N d:Nat} (i:Nat) (hi:i<23) (h:RdV Ieee.double N neg d):Ieee.double.mul N (zso i)=some (sgB neg+xd (d*10^i) 1):=by
 rw[RdV.mul FmtOK.double h (zpm (zpl i hi)),wv,Bool.xor_false];rfl
theorem zur {neg:Bool} {N d:Nat} (i:Nat) (hi:i<23) (h:RdV Ieee.double N neg d):Ieee.double.div N (zso i)=some (sgB neg+xd d (10^i)):=by
 rw[RdV.div FmtOK.double h (zpm (zpl i hi)) (by have:=p10 i;omega),wv,Bool.xor_false];rfl
theorem zo0 (neg:Bool) (d:Nat) (h0:d≠0) (hd:d<2^(1023:Int).toNat):
  ((Ieee.double.order (sgB neg+xd d 1) 4831355200913801216==some Ordering.gt) || (Ieee.double.order (sgB neg+xd d 1) 14054727237768577024==some Ordering.lt))=decide (10^15<d):=by
 have h:=zt0 FmtOK.double neg d (10^15) 4831355200913801216 14054727237768577024 h0 hd ze ze c15p c15n;rw[wv]at h;exact h
theorem zoy {d i:Nat} (hd:d<4503599627370496) (hi:i<=15):d*10^i<2^(1023:Int).toNat:=by
 have h1:d*10^i<4503599627370496*10^i:=Nat.mul_lt_mul_of_pos_right hd (p10 i);have h2:4503599627370496*10^i<=4503599627370496*10^15:=Nat.mul_le_mul_left _ (Nat.pow_le_pow_right zd hi);exact Nat.lt_of_lt_of_le h1 (Nat.le_trans h2 zp)
set_option maxRecDepth 100000 in
theorem zdr (T d:Nat) (p:Int) (neg:Bool) (w:World) (he:EnvP T w) (h0:d≠0) (hd:d<18446744073709551616) (hp1:-1000000<=p) (hp2:p<=1000000):
  Calls Tryz.prog 147 #[.int .u64 (d:Int),.int .i64 p,.bool neg] w fun e w'=>
   ∃ (v:Nat) (ok:Bool),e=.returned (.tuple #[.float .f64 v,.bool ok])/\(ok=true->v=sgB neg+xd (d*10^p.toNat) (10^(-p).toNat)/\d<4503599627370496/\p<=37)/\w=w':=by
 refine ye Tryz.func147 rfl (by rw[Tryz.ntmps147];simp) ?_;intro σ hσ;rw[Tryz.ntmps147];have s0:σ 0=.int .u64 (d:Int):=hσ 0 zi;have s1:σ 1=.int .i64 p:=hσ 1 zi;have s2:σ 2=.bool neg:=hσ 2 zi;clear hσ;have f1:=he.i64.1;obtain⟨tb,tof,tc,htT,htc,ht0,ht⟩:=he.t64;have HT:=zH ht;clear ht he;by_cases hb:d<4503599627370496
 ·have g1:((d:Int) / 4503599627370496 != 0)=false:=by
   rw[bne_eq_false_iff_eq];omega
  have hnl:xd d 1<9223372036854775808:=Nat.lt_of_le_of_lt (ud 52 1023 9218868437227405312 d 1 ze ze rfl) ze;obtain⟨n0,hn0⟩:=zX (floatOfInt .f64 (d:Int));obtain⟨n1,hn1⟩:=zX (Op.negFloat .f64 n0);obtain⟨N,hN⟩:=zX (sgB neg+xd d 1);have HN0:=zH (hn0.symm.trans (zw0 d));have HN1:=zH (show n1=sgB true+xd d 1 by rw[<-hn1,HN0.out];show Op.negFloat .f64 (0+xd d 1)=_;rw[Nat.zero_add];exact neg64 _ hnl);have HN:=zH hN;have HRD:=zH (show RdV Ieee.double N neg d by rw[<-hN,<-wv];exact RdV.small FmtOK.double neg d h0 zd);have HB:=zH hb;clear hnl hN hb;(go_upto_block 0 with fail;repeat ((first|refine cZ ?_|refine cW ?_);go_upto_block 0 with fail));refine yr (fun s' w'=>s' 1=.int .i64 p/\s' 6=.float .f64 N/\s' 7=.bool false/\w=w') ?_ ?_
  ·intro R' K' HR hK';cases neg with
   | false=>
    have e:n0=N:=by rw[HN0.out,<-HN.out]
    subst e;(go_wp2_with fail;repeat ((first|refine cZ ?_|refine cW ?_);go_wp2_with fail));exact got HR ⟨zb,zb,zb,rfl⟩
   | true=>
    have e:n1=N:=by rw[HN1.out,<-HN.out]
    subst e;(go_wp2_with fail;repeat ((first|refine cZ ?_|refine cW ?_);go_wp2_with fail));exact got HR ⟨zb,zb,zb,rfl⟩
  clear s0 s1 s2 σ g1 hn0 hn1 HN0 HN1 n0 n1 f1 hd;rintro σ w1 ⟨s1,s6,s7,rfl⟩;by_cases z0:p=0
  ·subst z0;(go_wp2_with fail;repeat ((first|refine cZ ?_|refine cW ?_);go_wp2_with fail));exact xc (.float .f64 N) (.bool true) rfl ze ze zb zb ⟨N,true,rfl,(fun _=>⟨by rw[<-HN.out];show _=sgB neg+xd (d*1) 1;rw[Nat.mul_one],HB.out,zd⟩),rfl⟩
  have z1:(p==0)=false:=by rw[beq_eq_false_iff_ne];exact z0
  (go_upto_region 7 with fail;repeat ((first|refine cZ ?_|refine cW ?_);go_upto_region 7 with fail));refine yr (fun s' w'=>s' 1=.int .i64 p/\s' 6=.float .f64 N/\s' 7=.bool false/\s' 22=.bool (decide (0<p/\p<=37))/\w=w') ?_ ?_
  ·intro R' K' HR hK';by_cases z2:0<p
   ·by_cases z3:p<=37
    ·have e:decide (0<p/\p<=37)=true:=decide_eq_true ⟨z2,z3⟩;go_wp2_with fail;all_goals exact got HR ⟨zb,zb,zb,zαj,rfl⟩
    ·have e:decide (0<p/\p<=37)=false:=decide_eq_false (fun h=>z3 h.2);have z3':decide (p<=37)=false:=decide_eq_false z3;go_wp2_with fail;all_goals exact got HR ⟨zb,zb,zb,zαj,rfl⟩
   ·have e:decide (0<p/\p<=37)=false:=decide_eq_false (fun h=>z2 h.1);have z2':decide (0<p)=false:=decide_eq_false z2;go_wp2_with fail;all_goals exact got HR ⟨zb,zb,zb,zαj,rfl⟩
  clear s1 s6 s7 σ;rintro σ w1 ⟨s1,s6,s7,s22,rfl⟩;by_cases z23:0<p/\p<=37
  ·rw[decide_eq_true z23]at s22;obtain⟨z2,z3⟩:=z23;(go_upto_region 11 with fail;repeat ((first|refine cZ ?_|refine cW ?_);go_upto_region 11 with fail));refine yr (fun s' w'=>∃ (d2 i N2:Nat),s' 1=.int .i64 (i:Int)/\i<=22/\s' 6=.float .f64 N2/\s' 7=.bool false/\d2≠0/\d2*10^i=d*10^p.toNat/\(d2<=10^15->RdV Ieee.double N2 neg d2)/\((Ieee.double.order N2 4831355200913801216==some Ordering.gt) || (Ieee.double.order N2 14054727237768577024==some Ordering.lt))=decide (10^15<d2)/\w=w') ?_ ?_
   ·intro R' K' HR hK';by_cases z4:22<p
    ·obtain⟨i,hi⟩:∃ i:Nat,p-22=i:=⟨(p-22).toNat,zd⟩;have hiK:i<=15:=zd;have c1:=HT.out i zd;have hm:=zoz i zd HRD.out;obtain⟨x,hx⟩:=zX (zso i);obtain⟨N2,hN2⟩:=zX (sgB neg+xd (d*10^i) 1);rw[hx,hN2]at hm;rw[hx]at c1;have hm:=zm7 .mul hm;have hprod0:d*10^i≠0:=by have:=Nat.mul_pos (Nat.pos_of_ne_zero h0) (p10 i);omega
     have hprodL:d*10^i<2^(1023:Int).toNat:=zoy HB.out hiK;have hcmp:=zo0 neg (d*10^i) hprod0 hprodL;rw[hN2]at hcmp;have hRD2:d*10^i<=10^15->RdV Ieee.double N2 neg (d*10^i):=fun hle=>by rw[<-hN2,<-wv];exact RdV.small FmtOK.double neg _ hprod0 (Nat.lt_of_le_of_lt hle ze)
     have heq:d*10^i*10^22=d*10^p.toNat:=by rw[show p.toNat=i+22 by omega,Nat.pow_add,Nat.mul_assoc]
     have H1:=zH hcmp;have H2:=zH hRD2;have H3:=zH heq;have H4:=zH hprod0;have hicnt:i<23:=zd;clear hx hN2 hprod0 hprodL hcmp hRD2 heq;(go_upto_region 11 with fail;repeat ((first|refine cZ ?_|refine cW ?_);go_upto_region 11 with fail));exact got HR ⟨d*10^i,22,N2,zb,zd,zb,zb,H4.out,H3.out,H2.out,H1.out,rfl⟩
    ·obtain⟨i,hi⟩:∃ i:Nat,p=i:=⟨p.toNat,zd⟩;subst hi;have z4':decide (22<(i:Int))=false:=decide_eq_false z4;have hcmp:=zo0 neg d h0 (Nat.lt_of_lt_of_le HB.out zp);rw[HN.out]at hcmp;have H1:=zH hcmp;clear hcmp;(go_upto_region 11 with fail;repeat ((first|refine cZ ?_|refine cW ?_);go_upto_region 11 with fail));exact got HR ⟨d,i,N,zb,zd,zb,zb,h0,by rw[Int.toNat_natCast],fun _=>HRD.out,H1.out,rfl⟩
   clear s1 s6 s7 s22 σ;rintro σ w1 ⟨d2,i,N2,s1,hiK,s6,s7,hd0,heq,hrd,hcmp,rfl⟩;have H1:=zH hcmp;have H2:=zH hrd;have H3:=zH heq;obtain⟨b1,hb1⟩:=zX ((Ieee.double.order N2 4831355200913801216==some Ordering.gt));obtain⟨b2,hb2⟩:=zX ((Ieee.double.order N2 14054727237768577024==some Ordering.lt));obtain⟨b3,hb3⟩:=zX (decide (10^15<d2));rw[hb1,hb2,hb3]at hcmp;have HC:=zH hcmp;have HB3:=zH hb3;replace hb1:(FloatKind.f64.format.order N2 4831355200913801216==some Ordering.gt)=b1:=hb1;replace hb2:(FloatKind.f64.format.order N2 14054727237768577024==some Ordering.lt)=b2:=hb2;clear hcmp hrd heq hb3;(go_upto_region 11 with fail;repeat ((first|refine cZ ?_|refine cW ?_);go_upto_region 11 with fail));refine yr (fun s' w'=>s' 1=.int .i64 (i:Int)/\s' 6=.float .f64 N2/\s' 7=.bool false/\s' 43=.bool b3/\w=w') ?_ ?_
   ·intro R' K' HR hK';have hC:=HC.out.symm;subst hC;clear HC HB3;cases b1
    ·cases b2
     ·go_wp2_with fail;all_goals exact got HR ⟨zb,zb,zb,zb,rfl⟩
     ·go_wp2_with fail;all_goals exact got HR ⟨zb,zb,zb,zb,rfl⟩
    ·go_wp2_with fail;all_goals exact got HR ⟨zb,zb,zb,zb,rfl⟩
   clear s1 s6 s7 σ HC hb1 hb2;rintro σ w1 ⟨s1,s6,s7,s43,rfl⟩;by_cases hle:d2<=10^15
   ·have e3:b3=false:=by rw[<-HB3.out];exact decide_eq_false zd
    subst e3;have c2:=HT.out i zd;have hm2:=zoz i zd (H2.out hle);obtain⟨x,hx⟩:=zX (zso i);obtain⟨N3,hN3⟩:=zX (sgB neg+xd (d2*10^i) 1);rw[hx,hN3]at hm2;rw[hx]at c2;have hm2:=zm7 .mul hm2;have HN3:=zH hN3;have hicnt:i<23:=zd;clear hle hN3 hx;(go_wp2_with fail;repeat ((first|refine cZ ?_|refine cW ?_);go_wp2_with fail));refine xc (.float .f64 N3) (.bool true) rfl ze ze zb zb ⟨N3,true,rfl,(fun _=>⟨?_,HB.out,z3⟩),rfl⟩;rw[<-HN3.out,H3.out,show (-p).toNat=0 by omega,Nat.pow_zero]
   ·have e3:b3=true:=by rw[<-HB3.out];exact decide_eq_true zd
    subst e3;clear hle;(go_wp2_with fail;repeat ((first|refine cZ ?_|refine cW ?_);go_wp2_with fail));exact xc (.float .f64 N2) (.bool false) rfl ze ze zb zb ⟨_,false,rfl,(fun h=>zF),rfl⟩
  ·rw[decide_eq_false z23]at s22;(go_upto_region 13 with fail;repeat ((first|refine cZ ?_|refine cW ?_);go_upto_region 13 with fail));refine yr (fun s' w'=>s' 1=.int .i64 p/\s' 6=.float .f64 N/\s' 7=.bool false/\s' 50=.bool (decide (p<0/\-22<=p))/\w=w') ?_ ?_
   ·intro R' K' HR hK';by_cases z2:p<0
    ·by_cases z3:-22<=p
     ·have e:decide (p<0/\-22<=p)=true:=decide_eq_true ⟨z2,z3⟩;go_wp2_with fail;all_goals exact got HR ⟨zb,zb,zb,zαj,rfl⟩
     ·have e:decide (p<0/\-22<=p)=false:=decide_eq_false (fun h=>z3 h.2);have z3':decide (-22<=p)=false:=decide_eq_false z3;go_wp2_with fail;all_goals exact got HR ⟨zb,zb,zb,zαj,rfl⟩
    ·have e:decide (p<0/\-22<=p)=false:=decide_eq_false (fun h=>z2 h.1);have z2':decide (p<0)=false:=decide_eq_false z2;go_wp2_with fail;all_goals exact got HR ⟨zb,zb,zb,zαj,rfl⟩
   clear s1 s6 s7 s22 σ;rintro σ w1 ⟨s1,s6,s7,s50,rfl⟩;by_cases z56:p<0/\-22<=p
   ·rw[decide_eq_true z56]at s50;obtain⟨i,hi⟩:∃ i:Nat,p=-(i:Int):=⟨(-p).toNat,zd⟩;subst hi;have c1:=HT.out i zd;have hm:=zur i zd HRD.out;obtain⟨x,hx⟩:=zX (zso i);obtain⟨N2,hN2⟩:=zX (sgB neg+xd d (10^i));rw[hx,hN2]at hm;rw[hx]at c1;have hm:=zm7 .quo hm;have HN2:=zH hN2;have hicnt:i<23:=zd;have hwn:IntKind.i64.wrap (i:Int)=(i:Int):=zk;clear hN2 hx z56 z23;(go_wp2_with fail;repeat ((first|refine cZ ?_|refine cW ?_);go_wp2_with fail));refine xc (.float .f64 N2) (.bool true) rfl ze ze zb zb ⟨N2,true,rfl,(fun _=>⟨?_,HB.out,zd⟩),rfl⟩;rw[<-HN2.out,show (-(i:Int)).toNat=0 by omega,Int.neg_neg,Int.toNat_natCast,Nat.pow_zero,Nat.mul_one]
   ·rw[decide_eq_false z56]at s50;(go_wp2_with fail;repeat ((first|refine cZ ?_|refine cW ?_);go_wp2_with fail));exact xc (.float .f64 N) (.bool false) rfl ze ze zb zb ⟨_,false,rfl,(fun h=>zF),rfl⟩
 ·have g1:((d:Int) / 4503599627370496 != 0)=true:=by
   rw[bne_iff_ne];omega
  (go_wp2_with fail;repeat ((first|refine cZ ?_|refine cW ?_);go_wp2_with fail));exact xc (.float .f64 0) (.bool false) rfl ze ze zb zb ⟨_,false,rfl,(fun h=>zF),rfl⟩
end
theorem zqy (F:Nat) (bias:Int) (d:Nat) (p e:Int) (hF1:23<=F) (hF2:F<=52) (hd0:d≠0) (hd:d<18446744073709551616) (hp1:-348<=p) (hp2:p<=347)
  (he:e=min (bias+F-1) (F+1-((Lib.bitLen d:Int)+lpT p))):
  (if 2^(F+1)*4-2<=usE (d*2^shS d) (e-(64-(Lib.bitLen d:Int))) p
   then (yj4 (usE (d*2^shS d) (e-(64-(Lib.bitLen d:Int))) p / 2|||usE (d*2^shS d) (e-(64-(Lib.bitLen d:Int))) p%2),e-1)
   else (yj4 (usE (d*2^shS d) (e-(64-(Lib.bitLen d:Int))) p|||usE (d*2^shS d) (e-(64-(Lib.bitLen d:Int))) p%2),e))=prG F (d*10^p.toNat) (10^(-p).toNat) e:=by
 obtain⟨hb1,hb2,hb3,hb4⟩:=zdq d hd hd0;obtain⟨t1,t2,t3⟩:=zcq d (Lib.bitLen d) p hp1 hp2 hb1 hb2 hb3;have hS:shS d=64-Lib.bitLen d:=rfl;rw[hS];generalize Lib.bitLen d=L at *
 have hx:d*2^(64-L)<18446744073709551616:=by
  rw[show (18446744073709551616:Nat)=2^L*2^(64-L) by rw[<-Nat.pow_add,show L+(64-L)=64 by omega]];exact Nat.mul_lt_mul_of_pos_right hb3 (p2 _)
 have hx0:9223372036854775808<=d*2^(64-L):=by
  rw[show (9223372036854775808:Nat)=2^(L-1)*2^(64-L) by rw[<-Nat.pow_add,show L-1+(64-L)=63 by omega]];exact Nat.mul_le_mul_right _ hb2
 have hlp:p*108853 / 32768=lpT p:=rfl;rw[usE_C _ _ p hp1 hp2 hx hx0 (by rw[hlp];omega)];have hT:0<10^(-p).toNat:=p10 _;have hB:0<10^(-p).toNat*2^(-e).toNat:=Nat.mul_pos hT (p2 _);have hu:zvm (d*2^(64-L)) (e-(64-(L:Int))) p=zcj (4*(d*10^p.toNat*2^e.toNat)) (10^(-p).toNat*2^(-e).toNat):=by
  unfold zvm;refine zd7 (Nat.mul_pos (p2 _) hT) hB ?_;have e1:2^(64-L)*2^(e-(64-(L:Int))).toNat*2^(-e).toNat=2^e.toNat*2^(-(e-(64-(L:Int)))).toNat:=by
   rw[<-Nat.pow_add,<-Nat.pow_add,<-Nat.pow_add];congr 1;omega
  calc 4*(d*2^(64-L))*2^(e-(64-(L:Int))).toNat*10^p.toNat*(10^(-p).toNat*2^(-e).toNat)=4*d*10^p.toNat*10^(-p).toNat*(2^(64-L)*2^(e-(64-(L:Int))).toNat*2^(-e).toNat):=by ac_rfl
   _=4*d*10^p.toNat*10^(-p).toNat*(2^e.toNat*2^(-(e-(64-(L:Int)))).toNat):=by rw[e1]
   _=_:=by ac_rfl
 rw[hu];clear hu hx hx0;generalize d*10^p.toNat=a at *
 generalize 10^(-p).toNat=b at *
 have hA:a*2^e.toNat<b*2^(-e).toNat*4000000000000000000:=by
  have h1:¬le2 a b (-e+((F+2:Nat):Int)):=fun h=>t2 (wh zd h)
  rw[zke,Nat.not_le,Int.neg_neg]at h1;have h2:2^(F+2)<=2^54:=Nat.pow_le_pow_right zd zd;have h3:=Nat.mul_le_mul_right (b*2^(-e).toNat) h2;generalize b*2^(-e).toNat=B at *
  generalize 2^(F+2)*B=z at *
  omega
 have r1:yj4 (zcj (4*(a*2^e.toNat)) (b*2^(-e).toNat))=rB a b (-e):=by
  rw[zck _ _ hB hA];unfold rB;rw[Int.neg_neg]
 have hB2:0<b*2^(-e).toNat*2:=Nat.mul_pos hB zd;have hA2:a*2^e.toNat<b*2^(-e).toNat*2*4000000000000000000:=by
  exact Nat.lt_of_lt_of_le hA (Nat.mul_le_mul_right _ (Nat.le_mul_of_pos_right _ zd))
 have r2:yj4 (zcj (4*(a*2^e.toNat)) (b*2^(-e).toNat*2))=rB a b (1-e):=by
  rw[zck _ _ hB2 hA2];unfold rB;refine yj7 zd (Nat.mul_pos zd (p2 _)) ?_;have e1:2^e.toNat*2^(1-e).toNat=2^(-(1-e)).toNat*2^(-e).toNat*2:=by
   rw[<-Nat.pow_add,<-Nat.pow_add,<-Nat.pow_succ];congr 1;omega
  calc a*2^e.toNat*(b*2^(1-e).toNat)=a*b*(2^e.toNat*2^(1-e).toNat):=by ac_rfl
   _=a*b*(2^(-(1-e)).toNat*2^(-e).toNat*2):=by rw[e1]
   _=_:=by ac_rfl
 have hlt:zcj (4*(a*2^e.toNat)) (b*2^(-e).toNat)<16000000000000000000:=by
  have:=(zta (a*2^e.toNat) (b*2^(-e).toNat) 4000000000000000000 hB).2 (by rw[Nat.mul_comm 4000000000000000000];exact hA);omega
 have hm:=zmg _ (2^(F+1)) (by rw[Nat.pow_succ];omega) (p2 _) hlt;rw[zmf _ _ hB,zt5,r1,r2];rw[r1]at hm;unfold prG;by_cases c:2^(F+1)<=rB a b (-e)
 ·rw[if_pos c,if_pos (hm.2 c)]
 ·rw[if_neg c,if_neg (fun h=>c (hm.1 h))]
theorem zng (d:Nat) (p:Int) (hd0:d≠0) (hd:d<18446744073709551616) (hp1:-348<=p) (hp2:p<=347):
  (pfS d p<64->(pfR d p).1<9007199254740992)/\zpx d p=(xd (d*10^p.toNat) (10^(-p).toNat),decide (xd (d*10^p.toNat) (10^(-p).toNat)=9218868437227405312)):=by
 obtain⟨hb1,hb2,hb3,hb4⟩:=zdq d hd hd0;obtain⟨t1,t2,t3⟩:=zcq d (Lib.bitLen d) p hp1 hp2 hb1 hb2 hb3;have hT:0<10^(-p).toNat:=p10 _;have ha:d*10^p.toNat≠0:=Nat.mul_ne_zero hd0 (by have:=p10 p.toNat;omega);have he:pfE d p=min ((1023:Int)+(52:Nat)-1) ((52:Nat)+1-((Lib.bitLen d:Int)+lpT p)):=by unfold pfE lpT;omega
 have hpr:=zqy 52 1023 d p (pfE d p) zd zd hd0 hd hp1 hp2 he;have hU:pfU d p=usE (d*2^shS d) (pfE d p-(64-(Lib.bitLen d:Int))) p:=rfl;have hR:pfR d p=prG 52 (d*10^p.toNat) (10^(-p).toNat) (pfE d p):=by
  rw[<-hpr];unfold pfR;rw[hU]
 have hn:=zq2 52 1023 9218868437227405312 (d*10^p.toNat) (10^(-p).toNat) ((Lib.bitLen d:Int)+lpT p) (pfE d p) ha zd zd zd rfl t1 t2 (t3 52 zd) he;have hr:(pfR d p).1<9007199254740992:=by rw[hR];exact hn.2
 refine⟨fun _=>hr,?_⟩;have hnear:xd (d*10^p.toNat) (10^(-p).toNat)=xh 52 1023 9218868437227405312 (d*10^p.toNat) (10^(-p).toNat):=rfl;have hle:xd (d*10^p.toNat) (10^(-p).toNat)=xh (52:Nat) 1023 9218868437227405312 (d*10^p.toNat) (10^(-p).toNat):=rfl;unfold zpx;by_cases h64:64<=pfS d p
 ·rw[if_pos h64];have hz:xd (d*10^p.toNat) (10^(-p).toNat)=0:=by
   refine kv 52 1023 _ _ _ zd zd zd (fun _ h=>t2 (wh ?_ h));unfold pfS pfE at h64;unfold lpT;omega
  rw[hz];rfl
 ·rw[if_neg h64];have h1:=hn.1;rw[<-hR,<-hle]at h1;rw[<-h1];unfold pkG pkB;generalize pfR d p=x at *
  obtain⟨m,e⟩:=x;have hm:m<9007199254740992:=hr;have e52:(2:Nat)^52=4503599627370496:=rfl;rw[e52];dsimp only;by_cases c1:m<4503599627370496
  ·rw[if_pos c1,if_pos c1];congr 1;exact (decide_eq_false zd).symm
  ·rw[if_neg c1,if_neg c1];have c2:(972<=-e)↔((1023:Int)+1-(52:Nat)<=-e):=zd;by_cases c3:972<=-e
   ·rw[if_pos c3,if_pos (c2.1 c3)];rfl
   ·rw[if_neg c3,if_neg (fun h=>c3 (c2.2 h)),show (1075+-e).toNat=((1023:Int)+(52:Nat)-e).toNat by omega];congr 1;refine (decide_eq_false ?_).symm;have:((1023:Int)+(52:Nat)-e).toNat<=2046:=zd;generalize ((1023:Int)+(52:Nat)-e).toNat=t at *
    omega
def yig (c:UInt8):Prop:=c=43\/c=45\/c=105
theorem yh9 (hex:Bool) {c:UInt8} (h:yig c):dgV hex c=none:=by
 rcases h with rfl | rfl | rfl <;> cases hex <;> decide
theorem yf7 {c:UInt8} (h:yig c):c≠95/\c≠46/\c≠48/\wc c≠101/\wc c≠112/\wc c≠120/\¬(48<=c.toNat/\c.toNat<=57):=by
 rcases h with rfl | rfl | rfl <;> decide
theorem ygo (hex:Bool) {c:UInt8} (r:List UInt8) (h:yig c):∀ (l:List UInt8) (st:RF),scF hex (l++c::r) st=((scF hex l st).1,(scF hex l st).2++c::r)
 | [],st=>by
  obtain⟨h1,h2,-⟩:=yf7 h
  show scF hex (c::r) st=(st,[]++c::r)
  rw[scF,if_neg h1,if_neg h2,yh9 hex h]
  rfl
 | x::l,st=>by
  rw[List.cons_append,scF,scF]
  by_cases h1:x=95
  ·rw[if_pos h1,if_pos h1];exact ygo hex r h l _
  ·rw[if_neg h1,if_neg h1]
   by_cases h2:x=46
   ·rw[if_pos h2,if_pos h2]
    by_cases h3:st.dot=true
    ·rw[if_pos h3,if_pos h3];rfl
    ·rw[if_neg h3,if_neg h3];exact ygo hex r h l _
   ·rw[if_neg h2,if_neg h2]
    cases dgV hex x with
    | none=>rfl
    | some d=>exact ygo hex r h l _
theorem yg8 {c:UInt8} (r:List UInt8) (h:yig c):∀ (l:List UInt8) (us:Bool) (e:Nat),scE (l++c::r) us e=((scE l us e).1,(scE l us e).2.1,(scE l us e).2.2++c::r)
 | [],us,e=>by
  obtain⟨h1,-,-,-,-,-,h2⟩:=yf7 h
  show scE (c::r) us e=(us,e,[]++c::r)
  rw[scE,if_neg h2,if_neg h1]
  rfl
 | x::l,us,e=>by
  rw[List.cons_append,scE,scE]
  by_cases h1:48<=x.toNat/\x.toNat<=57
  ·rw[if_pos h1,if_pos h1];exact yg8 r h l _ _
  ·rw[if_neg h1,if_neg h1]
   by_cases h2:x=95
   ·rw[if_pos h2,if_pos h2];exact yg8 r h l _ _
   ·rw[if_neg h2,if_neg h2];rfl
theorem yh7 {c:UInt8} (r:List UInt8) (h:yig c):∀ (u:List UInt8),(∀ x,u=[48,x]->wc x≠120)->yo (u++c::r)=yo u
 | [],_=>by
  obtain⟨-,-,h1,-⟩:=yf7 h
  cases r with
  | nil=>rfl
  | cons x r=>
   cases r with
   | nil=>rfl
   | cons y r=>exact decide_eq_false (fun e=>h1 e.1)
 | [a],_=>by
  obtain⟨-,-,-,-,-,h1,-⟩:=yf7 h
  cases r with
  | nil=>rfl
  | cons y r=>exact decide_eq_false (fun e=>h1 e.2)
 | [a,x],hx=>by
  show decide (a=48/\wc x=120)=false
  refine decide_eq_false ?_
  rintro⟨rfl,e⟩
  exact hx x rfl e
 | a::x::y::u,_=>rfl
theorem yhg (t y:List UInt8) (neg hex:Bool) (st:RF) (dp:Int) (nm:Nat) (us:Bool):zdv (t++y) neg hex st dp nm us y=zdv t neg hex st dp nm us []:=by
 unfold zdv;rw[List.length_append,Nat.add_sub_cancel,List.take_left',List.length_nil,Nat.sub_zero,List.take_length];rfl
theorem yha:∀ (l:List UInt8) (us:Bool) (e:Nat),(scE l us e).2.2.length<=l.length
 | [],us,e=>Nat.le_refl _
 | x::l,us,e=>by
  rw[scE]
  split
  ·exact Nat.le_succ_of_le (yha l _ _)
  ·split
   ·exact Nat.le_succ_of_le (yha l _ _)
   ·exact Nat.le_refl _
theorem ygs (hex:Bool):∀ (l:List UInt8) (st:RF),(scF hex l st).2.length<=l.length
 | [],st=>Nat.le_refl _
 | x::l,st=>by
  rw[scF]
  split
  ·exact Nat.le_succ_of_le (ygs hex l _)
  ·split
   ·split
    ·exact Nat.le_refl _
    ·exact Nat.le_succ_of_le (ygs hex l _)
   ·split
    ·exact Nat.le_succ_of_le (ygs hex l _)
    ·exact Nat.le_refl _
theorem yh8 {t:List UInt8} {c:UInt8} (r:List UInt8) (h:yig c) {neg hex:Bool} {st:RF} {dp:Int} {nm:Nat} {rest:List UInt8} {R:RR} (hr:rest.length<=t.length) (ht:t≠[]) (hR:zf9 t neg hex st dp nm rest=some R) (hn:R.n=t.length):
  zf9 (t++c::r) neg hex st dp nm (rest++c::r)=some R:=by
 obtain⟨-,-,-,n1,n2,-,-⟩:=yf7 h;cases rest with
 | nil=>
  unfold zf9 at hR ⊢;dsimp only[List.nil_append]at hR ⊢;cases hex
  case true=>rw[if_pos rfl]at hR;cases hR
  rw[if_neg ze]at hR;rw[if_neg (by rw[if_neg ze];exact n1),if_neg ze,yhg];exact hR
 | cons d r1=>
  rw[List.cons_append];unfold zf9 at hR ⊢;dsimp only at hR ⊢;by_cases hd:wc d=(if hex=true then 112 else 101)
  ·rw[if_pos hd]at hR ⊢;have h1:r1≠[]:=by
    intro e;subst e;cases hR
   rw[yg7 _ _ h1];dsimp only;have hlr:(sgn r1).2.length<=r1.length:=zfl r1;generalize (sgn r1).1=sg at *
   generalize (sgn r1).2=q at *
   cases q with
   | nil=>cases hR
   | cons e r2=>
    rw[List.cons_append];dsimp only at hR ⊢;by_cases he:48<=e.toNat/\e.toNat<=57
    ·rw[if_pos he]at hR ⊢;rw[<-List.cons_append,yg8 r h];dsimp only;have hl:=yha (e::r2) st.us 0;rw[List.length_cons]at hr;have h0:=zeo t _ _ _ _ _ _ _ R zd ht hR hn;rw[h0]at hR;rw[h0,List.nil_append,yhg];exact hR
    ·rw[if_neg he]at hR;cases hR
  ·rw[if_neg hd]at hR;cases hex
   case true=>rw[if_pos rfl]at hR;cases hR
   rw[if_neg ze]at hR;have h0:=zeo t _ _ _ _ _ _ _ R hr ht hR hn;cases h0
theorem yii {t:List UInt8} {c:UInt8} (r:List UInt8) (h:yig c) {R:RR} (hR:rfP t=some R) (hn:R.n=t.length):rfP (t++c::r)=some R:=by
 have ht:t≠[]:=by
  intro e;subst e;cases hR
 unfold rfP at hR ⊢;rw[if_neg ht]at hR;rw[if_neg zi,yg7 _ _ ht];dsimp only at hR ⊢;have hu:(sgn t).2.length<=t.length:=zfl t;have hx:∀ x,(sgn t).2=[48,x]->wc x≠120:=by
  intro x hx hc;rw[hx]at hR;rw[show yo [48,x]=false from rfl]at hR;simp only[Bool.false_eq_true,if_false]at hR;have hd:dgV false x=none:=by
   unfold dgV;rw[if_neg ?_,if_neg (by rintro⟨e,-⟩;cases e)];intro hh;have:∀ n:Fin 256,48<=n.val/\n.val<=57->n.val|||32≠120:=zp
   exact this ⟨x.toNat,x.toNat_lt⟩ hh hc
  have hx1:x≠95:=by rintro rfl;revert hc;decide
  have hx2:x≠46:=by rintro rfl;revert hc;decide
  have hs:scF false [48,x] RF.init=(dgS false RF.init 0,[x]):=by
   rw[scF,if_neg ze,if_neg ze,show dgV false 48=some 0 by decide];dsimp only;rw[scF,if_neg hx1,if_neg hx2,hd]
  rw[hs]at hR;dsimp only at hR;split at hR
  ·cases hR
  ·unfold zf9 at hR;dsimp only at hR;rw[if_neg (by rw[hc];decide),if_neg ze]at hR;have:=zeo t _ _ _ _ _ _ _ R (by rw[hx]at hu;simp at hu ⊢;omega) ht hR hn;cases this
 rw[yh7 r h _ hx];have hb:(if yo (sgn t).2=true then ((sgn t).2++c::r).drop 2 else (sgn t).2++c::r)=(if yo (sgn t).2=true then (sgn t).2.drop 2 else (sgn t).2)++c::r:=by
  cases hh:yo (sgn t).2
  ·rw[if_neg ze,if_neg ze]
  ·rw[if_pos rfl,if_pos rfl];cases hq:(sgn t).2 with
   | nil=>rw[hq]at hh;cases hh
   | cons a q=>
    cases q with
    | nil=>rw[hq]at hh;cases hh
    | cons b q=>rfl
 rw[hb,ygo _ r h];have hl:(if yo (sgn t).2=true then (sgn t).2.drop 2 else (sgn t).2).length<=t.length:=by
  split
  ·rw[List.length_drop];omega
  ·exact hu
 generalize (if yo (sgn t).2=true then (sgn t).2.drop 2 else (sgn t).2)=l at *
 dsimp only;have hsl:=ygs (yo (sgn t).2) l RF.init;by_cases hdg:(scF (yo (sgn t).2) l RF.init).1.dig=false
 ·rw[if_pos hdg]at hR;cases hR
 ·rw[if_neg hdg]at hR ⊢;exact yh8 r h zd ht hR hn
def StpQ (c:UInt8) (r:List UInt8):Prop:=c=43\/c=45\/(c=105/\r=[])
theorem StpQ.s3 {c:UInt8} {r:List UInt8} (h:StpQ c r):yig c:=by
 rcases h with h | h | ⟨h,-⟩
 ·exact Or.inl h
 ·exact Or.inr (Or.inl h)
 ·exact Or.inr (Or.inr h)
theorem yib {c:UInt8} {r:List UInt8} (h:vb c≠105):cpL (c::r) infinityL=0:=by
 show (if vb c=105 then _ else 0)=0;rw[if_neg h]
theorem yg4 (ng:Bool) (k:Nat) {c:UInt8} {r:List UInt8} (h:vb c≠105):zd3 ng k (c::r)=none:=by
 unfold zd3;rw[yib h,if_neg ze,if_neg ze]
theorem ygn {s:List UInt8} {d:UInt8} {r:List UInt8} (h:(sgn s).2=d::r) (h1:vb d≠105) (h2:vb d≠110):qp s=none:=by
 cases s with
 | nil=>rfl
 | cons c q=>
  have hdef:qp (c::q)=if c=43 then zd3 false 1 q else if c=45 then zd3 true 1 q else if c=105\/c=73 then zd3 false 0 (c::q) else if c=110\/c=78 then (if cpL (c::q) [110,97,110]=3 then some (zmd,3) else none) else none:=rfl
  rw[hdef];rw[xq]at h;by_cases c1:c=43
  ·rw[if_pos c1]at h ⊢;have h:q=d::r:=h;rw[h];exact yg4 _ _ h1
  rw[if_neg c1]at h ⊢;by_cases c2:c=45
  ·rw[if_pos c2]at h ⊢;have h:q=d::r:=h;rw[h];exact yg4 _ _ h1
  rw[if_neg c2]at h ⊢;have h:c::q=d::r:=h;obtain⟨rfl,rfl⟩:=List.cons.inj h;have n1:¬(c=105\/c=73):=fun hh=>h1 ((ut c 105 (Or.inl rfl)).2 hh)
  have n2:¬(c=110\/c=78):=fun hh=>h2 ((ut c 110 (Or.inr rfl)).2 hh)
  rw[if_neg n1,if_neg n2]
theorem ygr {s:List UInt8} {L:Lit} (h:zau s=some L):∃ d r,(sgn s).2=d::r/\vb d≠105/\vb d≠110:=by
 cases hq:(sgn s).2 with
 | nil=>
  exfalso;unfold zau at h;rw[hq]at h;revert h;show ¬(Option.map _ (yil false [])=some L);unfold yil;simp
 | cons d r=>
  refine⟨d,r,rfl,fun e=>?_,fun e=>?_⟩
  ·rw[yiq hq (Or.inl e)]at h;cases h
  ·rw[yiq hq (Or.inr e)]at h;cases h
theorem yid {s:List UInt8} {L:Lit} (h:zau s=some L):s≠[]:=by
 rintro rfl;obtain⟨d,r,h1,-⟩:=ygr h;cases h1
theorem yhs {s:List UInt8} {L:Lit} (h:zau s=some L):qp s=none/\ul s=some (spT L):=by
 obtain⟨d,r,h1,h2,h3⟩:=ygr h;have hs:=ygn h1 h2 h3;refine⟨hs,?_⟩;refine zco s _ (fun h1 _=>?_) (fun ng h1 _=>?_) (fun _ hr=>?_)
 ·rw[hs]at h1;cases h1
 ·rw[hs]at h1;cases h1
 ·rw[hr,h];rfl
theorem yf3:∀ (p t y:List UInt8),xf t=p->cpL (t++y) p=p.length
 | [],t,y,h=>by cases t with
  | nil=>cases y <;> rfl
  | cons c r=>cases h
 | q::p,t,y,h=>by
  cases t with
  | nil=>cases h
  | cons c r=>
   obtain⟨h1,h2⟩:=List.cons.inj (show vb c::xf r=q::p from h)
   show (if vb c=q then 1+cpL (r++y) p else 0)=_
   rw[if_pos h1,yf3 p r y h2,List.length_cons,Nat.add_comm]
theorem ygz:∀ (p t:List UInt8) (a:UInt8) (p2 y:List UInt8),xf t=p->cpL (t++y) (p++a::p2)=p.length+cpL y (a::p2)
 | [],t,a,p2,y,h=>by
  cases t with
  | nil=>simp
  | cons c r=>cases h
 | q::p,t,a,p2,y,h=>by
  cases t with
  | nil=>cases h
  | cons c r=>
   obtain⟨h1,h2⟩:=List.cons.inj (show vb c::xf r=q::p from h)
   show (if vb c=q then 1+cpL (r++y) (p++a::p2) else 0)=_
   rw[if_pos h1,ygz p r a p2 y h2,List.length_cons]
   omega
theorem ygb (ng:Bool) (k:Nat) {t:List UInt8} {c:UInt8} {r:List UInt8} (hs:StpQ c r) (h:xf t=[105,110,102]\/xf t=[105,110,102,105,110,105,116,121]):zd3 ng k (t++c::r)=some (kp ng,k+t.length):=by
 have hl:t.length=(xf t).length:=(zj8 t).symm;unfold zd3;rcases h with h | h
 ·have e:=ygz [105,110,102] t 105 [110,105,116,121] (c::r) h;have e2:cpL (c::r) [105,110,105,116,121]<=1:=by
   show (if vb c=105 then 1+cpL r [110,105,116,121] else 0)<=1;rcases hs with rfl | rfl | ⟨rfl,rfl⟩
   ·rw[if_neg ze];omega
   ·rw[if_neg ze];omega
   ·rw[if_pos ze];exact Nat.le_refl _
  have e3:cpL (t++c::r) infinityL=3+cpL (c::r) [105,110,105,116,121]:=e;rw[if_neg zd,if_pos zd,hl,h];rfl
 ·have e:=yf3 [105,110,102,105,110,105,116,121] t (c::r) h;have e3:cpL (t++c::r) infinityL=8:=e;rw[if_pos e3,hl,h];rfl
theorem ygl {t:List UInt8} {c:UInt8} {r:List UInt8} {x:Txt} (hs:StpQ c r) (h:ul t=some x):
  (∃ y,qp (t++c::r)=some (y,t.length)/\qp t=some (y,t.length)) \/
  (qp (t++c::r)=none/\qp t=none/\∃ R L,rfP (t++c::r)=some R/\rfP t=some R/\R.n=t.length/\zau t=some L):=by
 obtain⟨a1,a2,-⟩:=zvo t;obtain⟨-,-,b3⟩:=zib t;by_cases hn:xf t=[110,97,110]
 ·refine Or.inl ⟨zmd,?_,a1 hn⟩;have e:=yf3 [110,97,110] t (c::r) hn;have hl:t.length=3:=by rw[<-zj8 t,hn];rfl
  cases t with
  | nil=>cases hn
  | cons d q=>
   have hd:vb d=110:=(List.cons.inj (show vb d::xf q=[110,97,110] from hn)).1;have hd2:d=110\/d=78:=(ut d 110 (Or.inr rfl)).1 hd;have n1:d≠43:=by rintro rfl;revert hd;decide
   have n2:d≠45:=by rintro rfl;revert hd;decide
   have n3:¬(d=105\/d=73):=fun hh=>by have:=(ut d 105 (Or.inl rfl)).2 hh;rw[hd]at this;revert this;decide
   show (if d=43 then zd3 false 1 (q++c::r) else if d=45 then zd3 true 1 (q++c::r) else if d=105\/d=73 then zd3 false 0 (d::(q++c::r)) else if d=110\/d=78 then (if cpL (d::(q++c::r)) [110,97,110]=3 then some (zmd,3) else none) else none)=_;have e3:cpL (d::(q++c::r)) [110,97,110]=3:=e;rw[if_neg n1,if_neg n2,if_neg n3,if_pos hd2,if_pos e3,hl]
 by_cases hi:(sgn (xf t)).2=[105,110,102]\/(sgn (xf t)).2=[105,110,102,105,110,105,116,121]
 ·refine Or.inl ⟨kp (sgn (xf t)).1,?_,a2 hn hi⟩;have hsl:=zct t;rw[hsl]at hi ⊢;dsimp only at hi ⊢;cases t with
  | nil=>rcases hi with hi | hi <;> cases hi
  | cons d q=>
   have hdef:qp ((d::q)++c::r)=if d=43 then zd3 false 1 (q++c::r) else if d=45 then zd3 true 1 (q++c::r) else if d=105\/d=73 then zd3 false 0 (d::q++c::r) else if d=110\/d=78 then (if cpL (d::q++c::r) [110,97,110]=3 then some (zmd,3) else none) else none:=rfl
   rw[hdef];rw[xq]at hi ⊢;by_cases c1:d=43
   ·rw[if_pos c1]at hi ⊢;rw[if_pos c1,ygb false 1 hs hi,List.length_cons,Nat.add_comm]
   rw[if_neg c1]at hi ⊢;rw[if_neg c1];by_cases c2:d=45
   ·rw[if_pos c2]at hi ⊢;rw[if_pos c2,ygb true 1 hs hi,List.length_cons,Nat.add_comm]
   rw[if_neg c2]at hi ⊢;rw[if_neg c2];dsimp only at hi ⊢;have hd:vb d=105:=by
    rcases hi with hi | hi
    ·exact (List.cons.inj (show vb d::xf q=_ from hi)).1
    ·exact (List.cons.inj (show vb d::xf q=_ from hi)).1
   have hd2:d=105\/d=73:=(ut d 105 (Or.inl rfl)).1 hd;rw[if_pos hd2,ygb false 0 hs hi,Nat.zero_add]
 ·rw[b3 hn hi]at h;obtain⟨L,hL,-⟩:=Option.map_eq_some_iff.1 h;obtain⟨d,q,h1,h2,h3⟩:=ygr hL;have h4:(sgn (t++c::r)).2=d::(q++c::r):=by rw[yg7 _ _ (yid hL),h1];rfl
  have h5:=zm9 hL;exact Or.inr ⟨ygn h4 h2 h3,ygn h1 h2 h3,_,L,yii r hs.s3 h5 rfl,h5,rfl,hL⟩
theorem yhc:∀ (s p:List UInt8),cpL s p<=s.length
 | [],p=>Nat.zero_le _
 | c::s,[]=>Nat.zero_le _
 | c::s,q::p=>by
  show (if vb c=q then 1+cpL s p else 0)<=s.length+1
  have:=yhc s p
  split <;> omega
theorem yf6:∀ (s p:List UInt8) (k:Nat),k<=cpL s p->xf (s.take k)=p.take k
 | s,p,0,_=>by rw[List.take_zero,List.take_zero];rfl
 | [],p,k+1,h=>by exact absurd h (by show ¬k+1<=0;omega)
 | c::s,[],k+1,h=>by exact absurd h (by show ¬k+1<=0;omega)
 | c::s,q::p,k+1,h=>by
  have h:k+1<=(if vb c=q then 1+cpL s p else 0):=h
  by_cases hc:vb c=q
  ·rw[if_pos hc]at h
   rw[List.take_succ_cons,List.take_succ_cons,<-hc,<-yf6 s p k zd]
   rfl
  ·rw[if_neg hc]at h;omega
theorem ygu (ng:Bool) (k:Nat) {t:List UInt8} {x:Nat×Nat} (h:zd3 ng k t=some x):
  x.1=kp ng/\∃ m,x.2=k+m/\m<=t.length/\(xf (t.take m)=[105,110,102]\/xf (t.take m)=[105,110,102,105,110,105,116,121]):=by
 unfold zd3 at h;have hl:=yhc t infinityL;by_cases h8:cpL t infinityL=8
 ·rw[if_pos h8]at h;cases h;refine⟨rfl,8,rfl,zd,Or.inr ?_⟩;rw[yf6 t infinityL 8 zd];rfl
 ·rw[if_neg h8]at h;by_cases h3:3<=cpL t infinityL
  ·rw[if_pos h3]at h;cases h;refine⟨rfl,3,rfl,zd,Or.inl ?_⟩;rw[yf6 t infinityL 3 zd];rfl
  ·rw[if_neg h3]at h;cases h
theorem ygt (ng:Bool) (k:Nat) {t:List UInt8} (h:xf t=[105,110,102]\/xf t=[105,110,102,105,110,105,116,121]):zd3 ng k t=some (kp ng,k+t.length):=by
 have hl:t.length=(xf t).length:=(zj8 t).symm;have e0:=fun p h=>yf3 p t [] h
 rw[List.append_nil]at e0;unfold zd3;rcases h with h | h
 ·have e:=ygz [105,110,102] t 105 [110,105,116,121] [] h;rw[List.append_nil]at e;have e3:cpL t infinityL=3:=e;rw[if_neg zd,if_pos zd,hl,h];rfl
 ·have e3:cpL t infinityL=8:=e0 _ h;rw[if_pos e3,hl,h];rfl
theorem yhf {s:List UInt8} {x:Nat×Nat} (h:qp s=some x):x.2<=s.length/\0<x.2/\qp (s.take x.2)=some x/\∃ t,ul (s.take x.2)=some t:=by
 cases s with
 | nil=>cases h
 | cons c r=>
  have hdef:qp (c::r)=if c=43 then zd3 false 1 r else if c=45 then zd3 true 1 r else if c=105\/c=73 then zd3 false 0 (c::r) else if c=110\/c=78 then (if cpL (c::r) [110,97,110]=3 then some (zmd,3) else none) else none:=rfl
  have fin:x.2<=(c::r).length->0<x.2->qp ((c::r).take x.2)=some x->x.2<=(c::r).length/\0<x.2/\qp ((c::r).take x.2)=some x/\∃ t,ul ((c::r).take x.2)=some t:=by
   intro h1 h0 h2;refine⟨h1,h0,h2,?_⟩;have hl:((c::r).take x.2).length=x.2:=zN;refine zco ((c::r).take x.2) _ (fun _ h=>⟨_,h⟩) (fun _ _ h=>⟨_,h⟩) (fun h3 _=>?_);rcases h3 with h3 | ⟨v,n,h3,h4,-⟩
   ·rw[h2]at h3;cases h3
   ·rw[h2]at h3;cases h3;exact absurd hl.symm h4
  rw[hdef]at h;by_cases c1:c=43
  ·rw[if_pos c1]at h;obtain⟨e1,m,e2,e3,e4⟩:=ygu false 1 h;refine fin (by rw[e2,List.length_cons];omega) zd ?_;rw[e2,Nat.add_comm,List.take_succ_cons];show (if c=43 then zd3 false 1 (r.take m) else _)=_;rw[if_pos c1,ygt false 1 e4,List.length_take,Nat.min_eq_left e3,<-e2,<-e1]
  rw[if_neg c1]at h;by_cases c2:c=45
  ·rw[if_pos c2]at h;obtain⟨e1,m,e2,e3,e4⟩:=ygu true 1 h;refine fin (by rw[e2,List.length_cons];omega) zd ?_;rw[e2,Nat.add_comm,List.take_succ_cons];show (if c=43 then zd3 false 1 (r.take m) else if c=45 then zd3 true 1 (r.take m) else _)=_;rw[if_neg c1,if_pos c2,ygt true 1 e4,List.length_take,Nat.min_eq_left e3,<-e2,<-e1]
  rw[if_neg c2]at h;by_cases c3:c=105\/c=73
  ·rw[if_pos c3]at h;obtain⟨e1,m,e2,e3,e4⟩:=ygu false 0 h;have e5:x.2=m:=zd;have hm0:m≠0:=by
    rintro rfl;rw[List.take_zero]at e4;rcases e4 with e4 | e4 <;> cases e4
   obtain⟨j,rfl⟩:∃ j,m=j+1:=⟨m-1,zd⟩;refine fin zd zd ?_;rw[e5];have hself:zd3 false 0 ((c::r).take (j+1))=some x:=by
    rw[ygt false 0 e4,List.length_take,Nat.min_eq_left e3,Nat.zero_add,<-e1,<-e5]
   rw[List.take_succ_cons]at hself ⊢;show (if c=43 then zd3 false 1 (r.take j) else if c=45 then zd3 true 1 (r.take j) else if c=105\/c=73 then zd3 false 0 (c::r.take j) else _)=_;rw[if_neg c1,if_neg c2,if_pos c3];exact hself
  rw[if_neg c3]at h;by_cases c4:c=110\/c=78
  ·rw[if_pos c4]at h;by_cases c5:cpL (c::r) [110,97,110]=3
   ·rw[if_pos c5]at h;cases h;have hl:=yhc (c::r) [110,97,110];have ht:=yf6 (c::r) [110,97,110] 3 zd;refine fin zd ze ?_;have e:=yf3 [110,97,110] ((c::r).take 3) [] ht;rw[List.append_nil]at e;rw[List.take_succ_cons]at e ⊢;show (if c=43 then zd3 false 1 (r.take 2) else if c=45 then zd3 true 1 (r.take 2) else if c=105\/c=73 then zd3 false 0 (c::r.take 2) else if c=110\/c=78 then (if cpL (c::r.take 2) [110,97,110]=3 then some (zmd,3) else none) else none)=_;have e3:cpL (c::r.take 2) [110,97,110]=3:=e;rw[if_neg c1,if_neg c2,if_neg c3,if_pos c4,if_pos e3]
   ·rw[if_neg c5]at h;cases h
  ·rw[if_neg c4]at h;cases h
theorem yhp {s:List UInt8} {R:RR} (h:rfP s=some R):R.n<=s.length/\0<R.n/\rfP (s.take R.n)=some R/\∃ L,zau (s.take R.n)=some L:=by
 obtain⟨P,T,h1,h2,h3⟩:=zvv h;obtain⟨h4,L,hL,-⟩:=zsf h;have e:s.take R.n=P:=by rw[h2,h1,List.take_left]
 have hne:=yid hL;rw[e]at hne;have hp:0<P.length:=List.length_pos_iff.2 hne;exact⟨h4,zd,by rw[e];exact h3,L,hL⟩
def yfz (s:List UInt8):List UInt8:=if 1<s.length/\s.getD 0 0=40/\s.getD (s.length-1) 0=41 then (s.drop 1).take (s.length-2) else s
theorem ygm {k:Nat} (h:k=0\/k=2):erK k≠erK 1:=by
 rcases h with rfl | rfl
 ·intro h;cases h
 ·unfold erK;rw[if_neg ze,if_neg ze,if_neg ze,if_pos rfl];intro h;injection h with _ h;injection h with _ h;revert h;decide
theorem ygw {k j:Nat} (h:k=0\/k=2) (h2:j=0\/j=2) (e:erK k=erK j):k=j:=by
 have key:erK 2≠erK 0:=by
  unfold erK;rw[if_neg ze,if_neg ze,if_pos rfl];intro h;cases h
 rcases h with rfl | rfl <;> rcases h2 with rfl | rfl
 ·rfl
 ·exact absurd e.symm key
 ·exact absurd e key
 ·rfl
structure FrOK (A:List UInt8->Nat->Nat->Value->Prop) (Pa:List UInt8->Nat->Nat->Prop):Prop where
 front:∀ {t:List UInt8} {c:UInt8} {r:List UInt8} {x:Txt} {v n:Nat} {ev:Value},StpQ c r->ul t=some x->t.length<=800->A (t++c::r) v n ev->n=t.length/\∃ k,ev=erK k/\Pa t v k
 back:∀ {s:List UInt8} {v n:Nat} {ev:Value},A s v n ev->s.length<=800->(v=0/\ev=erK 1)\/(n<=s.length/\0<n/\(∃ x,ul (s.take n)=some x)/\∃ k,(k=0\/k=2)/\ev=erK k/\Pa (s.take n) v k)
 whole:∀ {t:List UInt8} {x:Txt} {v n:Nat} {ev:Value},ul t=some x->t.length<=800->A t v n ev->n=t.length/\∃ k,ev=erK k/\Pa t v k
 kind:∀ {t:List UInt8} {x:Txt} {v k:Nat},ul t=some x->Pa t v k->k=0\/k=2
 ext:∀ {s t:List UInt8} {v k:Nat},ul s=ul t->Pa s v k->Pa t v k
 zero:Pa [48] 0 0
def yg6 (c:UInt8) (r:List UInt8):List UInt8:=if c=43/\r≠[]/\r.getD 0 0≠43 then r else c::r
def yim (A:List UInt8->Nat->Nat->Value->Prop) (u:List UInt8) (x y k:Nat):Prop:=
  ∃ v n ev,A u v n ev/\
    ((ev=erK 1/\x=0/\y=0/\k=1) \/
     ∃ k1,(k1=0\/k1=2)/\ev=erK k1/\n<=u.length/\
      ((u.drop n=[]/\x=v/\y=0/\k=k1) \/
       (u.drop n=[105]/\x=0/\y=v/\k=k1) \/
       (∃ c r,u.drop n=c::r/\c≠43/\c≠45/\(c=105->r≠[])/\x=0/\y=0/\k=1) \/
       (∃ c r,u.drop n=c::r/\(c=43\/c=45)/\∃ v2 n2 ev2,A (yg6 c r) v2 n2 ev2/\
         ((ev2=erK 1/\x=0/\y=0/\k=1) \/
          ∃ k2,(k2=0\/k2=2)/\ev2=erK k2/\n2<=(yg6 c r).length/\
           (((yg6 c r).drop n2≠[105]/\x=0/\y=0/\k=1)\/((yg6 c r).drop n2=[105]/\x=v/\y=v2/\k=if k2=2 then 2 else k1))))))
def yhe (A:List UInt8->Nat->Nat->Value->Prop) (s:List UInt8) (x y k:Nat):Prop:=yim A (yfz s) x y k
theorem yi0 (t:List UInt8):yfz (40::(t++[41]))=t:=by
 unfold yfz;have hl:(40::(t++[41])).length=t.length+2:=zi;rw[hl,if_pos]
 ·show (t++[41]).take (t.length+2-2)=t;rw[Nat.add_sub_cancel,List.take_left'];rfl
 ·refine⟨zd,rfl,?_⟩;show (40::(t++[41])).getD (t.length+1) 0=41;rw[List.getD_eq_getElem?_getD,List.getElem?_cons_succ,List.getElem?_append_right (Nat.le_refl _),Nat.sub_self];rfl
theorem yjc {A:List UInt8->Nat->Nat->Value->Prop} {Pa:List UInt8->Nat->Nat->Prop} (H:FrOK A Pa) {a b tb:List UInt8} {c:UInt8} {xa xb:Txt} {x y k:Nat} (ha:ul a=some xa) (hb:ul tb=some xb) (hla:a.length<=800) (hlb:tb.length<=800)
  (hc:(c=43/\tb=b/\b.getD 0 0≠43)\/(c=45/\tb=45::b)) (hr:yim A (a++c::(b++[105])) x y k):
  ∃ k1 k2,(k1=0\/k1=2)/\(k2=0\/k2=2)/\Pa a x k1/\Pa tb y k2/\k=if k2=2 then 2 else k1:=by
 obtain⟨v,n,ev,hA,hr⟩:=hr;have hcs:c=43\/c=45:=hc.elim (fun h=>Or.inl h.1) (fun h=>Or.inr h.1);obtain⟨rfl,k0,e0,hp⟩:=H.front (hcs.elim Or.inl (fun h=>Or.inr (Or.inl h))) ha hla hA;have hk:=H.kind ha hp;have hd:(a++c::(b++[105])).drop a.length=c::(b++[105]):=List.drop_left' rfl;rcases hr with⟨e,-⟩ | ⟨k1,hk1,e,-,hr⟩
 ·exact absurd (e0.symm.trans e) (ygm hk)
 ·obtain rfl:=ygw hk1 hk (e.symm.trans e0);rw[hd]at hr;rcases hr with⟨h,-⟩ | ⟨h,-⟩ | ⟨c',r,h,h43,h45,-⟩ | ⟨c',r,h,-,v2,n2,ev2,hA2,hr⟩
  ·cases h
  ·obtain⟨h,-⟩:=List.cons.inj h;rw[h]at hcs;rcases hcs with hc | hc <;> exact absurd hc ze
  ·obtain⟨h,-⟩:=List.cons.inj h;rw[h]at hcs;exact hcs.elim (fun h=>absurd h h43) (fun h=>absurd h h45)
  ·obtain⟨rfl,rfl⟩:=List.cons.inj h;have hsec:yg6 c (b++[105])=tb++[105]:=by
    unfold yg6;rcases hc with⟨rfl,rfl,hh⟩ | ⟨rfl,rfl⟩
    ·rw[if_pos];refine⟨rfl,zi,?_⟩;cases tb with
     | nil=>decide
     | cons d q=>exact hh
    ·rw[if_neg (fun h=>absurd h.1 ze)];rfl
   rw[hsec]at hA2 hr;obtain⟨rfl,j0,j1,hp2⟩:=H.front (Or.inr (Or.inr ⟨rfl,rfl⟩)) hb hlb hA2;have hj:=H.kind hb hp2;have hd2:(tb++[105]).drop tb.length=[105]:=List.drop_left' rfl;rcases hr with⟨e2,-⟩ | ⟨k2,hk2,e2,-,⟨h5,-⟩ | ⟨-,rfl,rfl,h3⟩⟩
   ·exact absurd (j1.symm.trans e2) (ygm hj)
   ·exact absurd hd2 h5
   ·obtain rfl:=ygw hk2 hj (e2.symm.trans j1);exact⟨k1,k2,hk1,hk2,hp,hp2,h3⟩
end Go.Proofs.YtbpeeafhdeohjaaGreatDoor
