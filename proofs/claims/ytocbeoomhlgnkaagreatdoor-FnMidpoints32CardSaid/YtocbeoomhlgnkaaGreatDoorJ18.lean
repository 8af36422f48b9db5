/- Lemmas that the claim's top text leans on. No condition of their own. -/
import Derived.Test.YtocbeoomhlgnkaaGreatDoorJ22
import Derived.Test.YtocbeoomhlgnkaaGreatDoorJ26
import Derived.Test.YtocbeoomhlgnkaaGreatDoorJ27
namespace Go.Proofs.YtocbeoomhlgnkaaGreatDoor
open Go.RowKit
set_option linter.unusedSimpArgs false
set_option linter.unusedVariables false
set_option maxHeartbeats 16000000
section
attribute [local go_sem] undef
def jy (b:Nat) (l:List Nat):Nat:=l.foldl (fun n d=>n*b+d) 0
end
def allD (b:Nat) (l:List UInt8):Prop:=∀ c ∈ l,isD b c=true
theorem allD.cons {b:Nat} {c:UInt8} {l:List UInt8} (h:allD b (c::l)):isD b c=true/\allD b l:=⟨h c zi,fun x hx=>h x (by simp[hx])⟩
theorem allD.append {b:Nat} {l m:List UInt8} (h:allD b l) (k:allD b m):allD b (l++m):=fun c hc=>(List.mem_append.1 hc).elim (h c) (k c)
theorem yde {c:UInt8} (h:isD 10 c=true):48<=c.toNat/\c.toNat<=57:=by
 unfold isD dig at h;split at h
 ·assumption
 ·split at h
  ·rename_i h2;exact absurd h2.2 ze
  ·cases h
theorem dig10 {c:UInt8} (h:isD 10 c=true):dig 10 c=some (c.toNat-48):=by unfold dig;rw[if_pos (yde h)]
def ydy (b:Nat) (R:List UInt8):Prop:=R=[]\/∃ c r,R=c::r/\isD b c=false/\c≠95
theorem yd4 {b:Nat} {R:List UInt8} (h:ydy b R):yft b R=0:=by
 rcases h with rfl | ⟨c,r,rfl,h1,h2⟩
 ·rfl
 ·exact zaz b c r h1 (fun d r' _ hh=>h2 hh.1)
theorem yd5 {b:Nat} {R:List UInt8} (h:ydy b R):jh b R=0:=by
 rcases h with rfl | ⟨c,r,rfl,h1,h2⟩
 ·rfl
 ·rw[jh,if_neg (by rw[h1];simp)]
theorem yes {b:Nat} {A R:List UInt8} (hA:allD b A) (hR:ydy b R):yft b (A++R)=A.length:=by
 induction A with
 | nil=>exact yd4 hR
 | cons c r ih=>rw[List.cons_append,zjt b c _ hA.cons.1,ih hA.cons.2,List.length_cons];omega
theorem yc5 {b:Nat} {A R:List UInt8} (hA:allD b A) (hR:ydy b R):jh b (A++R)=A.length:=by
 cases A with
 | nil=>exact yd5 hR
 | cons c r=>rw[List.cons_append,jh,if_pos hA.cons.1,yes hA.cons.2 hR,List.length_cons];omega
def pT:Option (List UInt8)->List UInt8
 | none=>[]
 | some F=>46::F
def pF:Option (List UInt8)->List UInt8
 | none=>[]
 | some F=>F
def xT (lt:UInt8):Option (UInt8×List UInt8)->List UInt8
 | none=>[]
 | some (sg,E)=>lt::sg::E
theorem yez {b:Nat} {l:List UInt8} (h:allD b l):zkq b l=l.length:=by
 unfold zkq;rw[List.countP_eq_length];exact h
theorem yc7 (s:List UInt8) (h:∀ c ∈ s,¬(65<=c.toNat/\c.toNat<=90)):xf s=s:=by
 unfold xf;induction s with
 | nil=>rfl
 | cons c r ih=>
  rw[List.map_cons,ih (fun x hx=>h x (by simp[hx]))];unfold vb;rw[if_neg (h c zi)]
theorem ydp (neg:Bool) (u:List UInt8) (c:UInt8) (r:List UInt8) (hu:u=c::r) (hc:isD 10 c=true) (hl:xf u=u) (x:Int) (hx:zf8 u=some x):ul (ycv neg++u)=some ⟨0,neg,wb u,nDigits u,x⟩:=by
 have hcc:=yde hc;have ne:∀ k:UInt8,¬(48<=k.toNat/\k.toNat<=57)->c≠k:=fun k hk e=>hk (e ▸ hcc)
 have hlow:xf (ycv neg++u)=ycv neg++u:=by
  have:xf (ycv neg++u)=xf (ycv neg)++xf u:=by unfold xf;rw[List.map_append]
  rw[this,hl];cases neg <;> rfl
 have hsg:sgL (ycv neg++u)=(neg,u):=by
  rw[hu];cases neg
  ·simp only[ycv,Bool.false_eq_true,if_false,List.nil_append,sgL];rw[if_neg (ne 43 ze),if_neg (ne 45 ze)]
  ·simp[ycv,sgL]
 unfold ul;rw[hlow,hsg,if_neg]
 ·unfold zna;rw[if_neg,hx]
  ·rfl
  ·rw[hu];rintro (h | h)
   ·exact ne 105 ze (List.cons.inj h).1
   ·exact ne 105 ze (List.cons.inj h).1
 ·rw[hu];intro h;cases neg
  ·exact ne 110 ze (List.cons.inj h).1
  ·have:=(List.cons.inj h).1;revert this;decide
theorem yco (b:Nat) (l:List Nat) (d:Nat):jy b (l++[d])=jy b l*b+d:=by unfold jy;rw[List.foldl_append];rfl
theorem yd8 (v d:Nat) (hv:v≠0) (hd:d<=9):yi (v*10+d)=yi v+1:=by
 have h1:=qh hv;have h2:=xi v;have h3:=yfr hv;obtain⟨k,hk⟩:∃ k,yi v=k+1:=⟨yi v-1,zd⟩;rw[hk]at h1 h2 ⊢;rw[Nat.add_sub_cancel]at h1;refine vk (k+1) _ ?_ ?_
 ·rw[Nat.pow_succ];omega
 ·rw[Nat.pow_succ];omega
theorem yem (b:Nat) (l:List UInt8) (c:UInt8):dgL b (l++[c])=vp b (dgL b l) c:=by unfold dgL;rw[List.foldl_append];rfl
theorem ydm (n:Nat):∀ (l:List UInt8),l.length=n->allD 10 l->jy 10 (dgL 10 l)=zd5 l/\(dgL 10 l).length=yi (zd5 l):=by
 induction n with
 | zero=>
  intro l hl _;have:l=[]:=List.length_eq_zero_iff.1 hl;subst this;exact⟨rfl,rfl⟩
 | succ n ih=>
  intro l hl hA;have hne:l≠[]:=by intro h;rw[h]at hl;cases hl
  obtain⟨m,c,rfl⟩:∃ m c,l=m++[c]:=⟨l.dropLast,l.getLast hne,(List.dropLast_concat_getLast hne).symm⟩;have hm:m.length=n:=by rw[List.length_append]at hl;simpa using hl
  obtain⟨h1,h2⟩:=ih m hm (fun x hx=>hA x (by simp[hx]));have hc:=hA c zi;have hcc:=yde hc;rw[yem,zi3];unfold vp;rw[dig10 hc];dsimp only;by_cases h:0<c.toNat-48\/dgL 10 m≠[]
  ·rw[if_pos h,yco,h1,List.length_append,h2];refine⟨rfl,?_⟩;by_cases h0:zd5 m=0
   ·rw[h0,kw];have h3:dgL 10 m=[]:=by rw[h0,kw]at h2;exact List.length_eq_zero_iff.1 h2
    have h4:0<c.toNat-48:=h.resolve_right (fun hh=>hh h3);rw[Nat.zero_mul,Nat.zero_add];exact (vk 0 _ zd zd).symm
   ·exact (yd8 _ _ h0 zd).symm
  ·rw[if_neg h];have h3:dgL 10 m=[]:=Classical.byContradiction (fun hh=>h (Or.inr hh));have h4:c.toNat-48=0:=by have:=fun hh=>h (Or.inl hh);omega
   have h5:zd5 m=0:=by rw[<-h1,h3];rfl
   rw[h3,h4,h5];exact⟨rfl,rfl⟩
theorem yei (n:Nat):∀ l:List Nat,l.length=n->ki l=min (jy 10 l) 1000000000000000:=by
 induction n with
 | zero=>intro l hl;rw[List.length_eq_zero_iff.1 hl];rfl
 | succ n ih=>
  intro l hl;have hne:l≠[]:=by intro h;rw[h]at hl;cases hl
  obtain⟨m,c,rfl⟩:∃ m c,l=m++[c]:=⟨l.dropLast,l.getLast hne,(List.dropLast_concat_getLast hne).symm⟩;have hm:=ih m (by rw[List.length_append]at hl;simpa using hl);have e:ki (m++[c])=min (ki m*10+c) 1000000000000000:=by unfold ki;rw[List.foldl_append];rfl
  rw[e,hm,yco];omega
theorem yej (E:List UInt8) (h:allD 10 E) (hl:zd5 E<1000000000000000):ki (dgL 10 E)=zd5 E:=by
 rw[yei _ _ rfl,(ydm _ E rfl h).1];omega
theorem yeu (n:Nat) (h:n<=9):isD 10 (UInt8.ofNat (48+n))=true/\(UInt8.ofNat (48+n)).toNat=48+n:=by
 have e:(UInt8.ofNat (48+n)).toNat=48+n:=by rw[UInt8.toNat_ofNat'];omega
 refine⟨?_,e⟩;unfold isD dig;rw[e,if_pos zd];rfl
section
attribute [local go_sem] undef
theorem zn5 (y k n:Nat) (h:y<=2^k) (hk:k<=63*n) (hn:n<=281):(yf y).length<=600:=by
 refine zj0 (2^63) n y 600 ze zd (Nat.le_trans h ?_);rw[<-Nat.pow_mul];exact Nat.pow_le_pow_right ze hk
theorem qo (y k:Nat) (h:y<=2^k) (hk:k<=8127):(yf y).length<=600:=zn5 y k 129 h hk zd 
end
section
attribute [local go_sem] undef
theorem yen (M:Nat) (h:(yf M).length<=600):(ycg M).length<=100000:=by
 have h1:=wu M;unfold ycg;split
 ·simp
 ·obtain⟨K,hK⟩:=zX 600;obtain⟨J,hJ⟩:=zX 100000;rw[hK]at h;rw[hJ];refine ycm M J (Nat.lt_of_lt_of_le h1 ?_);refine Nat.le_trans (Nat.pow_le_pow_right ze h) ?_;rw[show (1073741824:Nat)=2^30 by decide,<-Nat.pow_mul];refine Nat.le_trans (Nat.pow_le_pow_left (show 2<=10 by decide) _) (Nat.pow_le_pow_right ze zd)
theorem yeo (n:Nat) (h:n<1000000000000):(ycg n).length<=12:=by
 unfold ycg;split
 ·simp
 ·exact ycm n 12 zd 
def ycd (x:Int):List UInt8:=if x<0 then 45::ycg x.natAbs else ycg x.natAbs
theorem yca (x:Int) (h1:-1000000000000<x) (h2:x<1000000000000):(ycd x).length<=20:=by
 have:=yeo x.natAbs zd;unfold ycd;split
 ·rw[List.length_cons];omega
 ·omega
set_option maxRecDepth 100000 in
theorem yb8 (x:Int) (w:World) (h1:-1000000000000<x) (h2:x<1000000000000):
  Calls Tryz.prog 27 #[.int .i64 x] w fun e w'=>e=.returned (.string ⟨(ycd x).toArray⟩)/\w.grownBy w' none:=by
 obtain⟨n,hn⟩:=zX x.natAbs;have hn1:n<1000000000000:=zd;have HO:=zH (fun W=>ww n W zd);have hnl:(yf n).length<=90000:=Nat.le_trans (yv (k:=2) zd) zd;have HT:=zH (fun v W h=>yc0 v n W h hnl);refine ye Tryz.func27 rfl (by rw[Tryz.ntmps27];simp) ?_;intro σ hσ;rw[Tryz.ntmps27];have s0:σ 0=.int .i64 x:=hσ 0 zi;clear hσ hnl;by_cases hx:x<0
 ·have hnt:ycd x=45::ycg n:=by unfold ycd;rw[if_pos hx,hn]
  have HNT:=zH hnt;obtain rfl:x=-(n:Int):=by omega
  have hd:decide (-(n:Int)<0)=true:=zh;have hd2:0<n:=zd;clear hx hnt hn;(go_wp2_with fail;repeat ((first|refine cZ ?_|refine cW ?_);go_wp2_with fail));refine (HO.out _).mono ?_;rintro e w1 ⟨v1,rfl,hv1,hg1⟩;have HV1:=zH hv1;have HG1:=zH hg1;clear hv1 hg1;(go_wp2_with fail;repeat ((first|refine cZ ?_|refine cW ?_);go_wp2_with fail));refine (HT.out _ _ HV1.out).mono ?_;rintro e w2 ⟨rfl,hg2⟩;have HG2:=zH (ya HG1.out hg2);clear hg2;have hdl:=yeo n hn1;have hsz:(⟨(ycg n).toArray⟩:ByteArray).size=(ycg n).length:=zm;have c1:(⟨#[45]⟩:ByteArray)++⟨(ycg n).toArray⟩=⟨(45::ycg n).toArray⟩:=yb0 [45] _;(go_wp2_with fail;repeat ((first|refine cZ ?_|refine cW ?_);go_wp2_with fail));exact yl (.string ⟨(45::ycg n).toArray⟩) rfl ze zb ⟨by rw[HNT.out],HG2.out⟩
 ·have hnt:ycd x=ycg n:=by unfold ycd;rw[if_neg hx,hn]
  have HNT:=zH hnt;obtain rfl:x=(n:Int):=by omega
  clear hx hnt hn h1 h2;(go_wp2_with fail;repeat ((first|refine cZ ?_|refine cW ?_);go_wp2_with fail));refine (HO.out _).mono ?_;rintro e w1 ⟨v1,rfl,hv1,hg1⟩;have HV1:=zH hv1;have HG1:=zH hg1;clear hv1 hg1;(go_wp2_with fail;repeat ((first|refine cZ ?_|refine cW ?_);go_wp2_with fail));refine (HT.out _ _ HV1.out).mono ?_;rintro e w2 ⟨rfl,hg2⟩;have HG2:=zH (ya HG1.out hg2);clear hg2;(go_wp2_with fail;repeat ((first|refine cZ ?_|refine cW ?_);go_wp2_with fail));exact yl (.string ⟨(ycg n).toArray⟩) rfl ze zb ⟨by rw[HNT.out],HG2.out⟩
def ych (a:Nat) (e:Int):Nat:=a*2^e.toNat*5^(-e).toNat*10
def ycp (a:Nat) (e p:Int):List UInt8:=ycg ((ych a e:Int)+p).toNat++101::ycd (min e 0-1)
theorem yew (n:Nat):5^n<=2^(3*n):=by
 rw[Nat.pow_mul];exact Nat.pow_le_pow_left ze _
theorem ye5 (a:Nat) (e:Int) (ha:a<18446744073709551616) (he1:-1100<=e) (he2:e<=1100):
  (yf a).length<=600/\(yf (a*2^e.toNat*5^(-e).toNat)).length<=600/\(yf (ych a e)).length<=600/\(yf (ych a e+1)).length<=600/\(yf (5^(-e).toNat)).length<=600:=by
 have h0:a<=2^64:=zd;have h5:=yew (-e).toNat;have h1:a*2^e.toNat*5^(-e).toNat<=2^(64+e.toNat+3*(-e).toNat):=by
  rw[Nat.pow_add,Nat.pow_add];exact Nat.mul_le_mul (Nat.mul_le_mul_right _ h0) h5
 have h2:ych a e<=2^(64+e.toNat+3*(-e).toNat+4):=by
  unfold ych;rw[Nat.pow_add _ _ 4];exact Nat.mul_le_mul h1 ze
 have h3:ych a e+1<=2^(64+e.toNat+3*(-e).toNat+5):=by
  have:=p2 (64+e.toNat+3*(-e).toNat+4);rw[show 64+e.toNat+3*(-e).toNat+5=64+e.toNat+3*(-e).toNat+4+1 by omega,Nat.pow_succ];omega
 exact⟨qo _ 64 h0 ze,qo _ _ h1 zd,qo _ _ h2 zd,qo _ _ h3 zd,qo _ _ h5 zd⟩
set_option maxRecDepth 100000 in
theorem ycs (v:Value) (a:Nat) (e p:Int) (w:World) (hr:NatV w v a) (ha:a<18446744073709551616) (ha0:1<=a\/p=0) (he1:-1100<=e) (he2:e<=1100) (hp:p=0\/p=1\/p=-1):
  Calls Tryz.prog 18 #[v,.int .i64 e,.int .i64 p] w fun r w'=>r=.returned (.string ⟨(ycp a e p).toArray⟩)/\w.grownBy w' none:=by
 obtain⟨l0,l1,l2,l3,l5⟩:=ye5 a e ha he1 he2;have hs1:1<=ych a e\/p=0:=by
  rcases ha0 with ha0 | h
  ·refine Or.inl ?_;unfold ych;have h2:=p2 e.toNat;have h5:0<5^(-e).toNat:=Nat.pow_pos ze;have:=Nat.mul_pos (Nat.mul_pos (show 0<a by omega) h2) h5;omega
  ·exact Or.inr h
 have hbr:∀ X:Nat,a*2^e.toNat*5^(-e).toNat=X->ych a e=X*10:=fun X h=>by unfold ych;rw[h]
 obtain⟨X,hX⟩:=zX (a*2^e.toNat*5^(-e).toNat);have hS:=hbr X hX;rw[hX]at l1;have HX:=zH hX;obtain⟨q,hq⟩:=zX (min e 0-1);have HNU:=zH (fun W=>yb8 q W zd zd);obtain⟨M,hM⟩:=zX (((ych a e:Int)+p).toNat);have hres:ycp a e p=ycg M++101::ycd q:=by unfold ycp;rw[hM,hq]
 have hlM:(yf M).length<=600:=Nat.le_trans (qt zd) l3;have HT:=zH (fun v W h=>yc0 v M W h zd);rw[hS]at hM l2 hs1;have HRES:=zH hres;have HSH:=zH (fun (n:Nat) (hn:n<=1100)=>qe v a n w hr zd zd);have HPW:=zH (fun (n:Nat) (hn:n<=1100) W=>zea 5 n W ze ze zd);have HM1:=zH (fun (n:Nat) (v2:Value) (W:World) (hn:(yf (5^n)).length<=600) (hg:w.grownBy W none) (h2:NatV W v2 (5^n))=>vc v v2 a (5^n) W (hr.grown hg) h2 zd zd);have HN10:=zH (fun W=>ww 10 W ze);have HN1:=zH (fun W=>ww 1 W ze);have h10:(yf 10).length<=600:=qo 10 4 ze ze;have h11:(yf 1).length<=600:=qo 1 0 ze ze;have HM2:=zH (fun v1 v2 W h1 h2=>vc v1 v2 X 10 W h1 h2 zd zd);have HAD:=zH (fun v1 v2 W h1 h2=>zbe v1 v2 (X*10) 1 W h1 h2 zd zd);have HSU:=zH (fun v1 v2 W h1 h2 (h3:1<=X*10)=>zaw v1 v2 (X*10) 1 W h1 h2 zd h3);have HL5:=zH l5;have HQ:=zH hq;have HLD:=zH (yen M hlM);have HQB:=zH (show -2000<=q/\q<=-1 by omega);have HMM:=zH hM;have HP1:=zH hs1;have HR:=zH hr;clear hbr hX hS l0 l1 l2 l3 l5 hs1 hres hlM hM hq h10 h11 ha ha0 hr;refine ye Tryz.func18 rfl (by rw[Tryz.ntmps18];simp) ?_;intro σ hσ;rw[Tryz.ntmps18];have s0:σ 0=v:=hσ 0 zi;have s1:σ 1=.int .i64 e:=hσ 1 zi;have s2:σ 2=.int .i64 p:=hσ 2 zi;clear hσ;go_wp2_with fail;refine yr (fun s' w'=>∃ u,s' 0=u/\NatV w' u X/\s' 1=.int .i64 (q+1)/\s' 2=.int .i64 p/\w.grownBy w' none) ?_ ?_
 ·intro R' K' HK hK';by_cases hneg:e<0
  ·obtain⟨n,rfl⟩:∃ n:Nat,e=-(n:Int):=⟨e.natAbs,zd⟩;have hn0:0<n:=zd;have hd:decide (0<=-(n:Int))=false:=zh;have hd2:¬(0<=-(n:Int)):=zd;have hd3:n≠0:=zd;have hqn:q+1=-(n:Int):=by have:=HQ.out;omega
   have hXn:a*5^n=X:=by
    have:=HX.out;rw[show (-(n:Int)).toNat=0 by omega,show (- -(n:Int)).toNat=n by omega,Nat.pow_zero,Nat.mul_one]at this;exact this
   have hl5:(yf (5^n)).length<=600:=by
    have:=HL5.out;rw[show (- -(n:Int)).toNat=n by omega]at this;exact this
   have HXN:=zH hXn;have HLN:=zH hl5;have HQN:=zH hqn;clear hneg hXn hl5 hqn;(go_wp2_with fail;repeat ((first|refine cZ ?_|refine cW ?_);go_wp2_with fail));refine (HPW.out n zd _).mono ?_;rintro r w1 ⟨v1,rfl,hv1,hg1⟩;have HC:=zH (HM1.out n v1 w1 HLN.out hg1 hv1);have HG1:=zH hg1;clear hv1 hg1;(go_wp2_with fail;repeat ((first|refine cZ ?_|refine cW ?_);go_wp2_with fail));refine HC.out.mono ?_;rintro r w2 ⟨v2,rfl,hv2,hg2⟩;have HV2:=zH hv2;have HG2:=zH (ya HG1.out hg2);clear hv2 hg2;(go_wp2_with fail;repeat ((first|refine cZ ?_|refine cW ?_);go_wp2_with fail));exact got HK ⟨v2,zb,by rw[<-HXN.out];exact HV2.out,by rw[HQN.out];simp[ov, *],zb,HG2.out⟩
  ·obtain⟨n,rfl⟩:∃ n:Nat,e=(n:Int):=⟨e.natAbs,zd⟩;have hqn:q+1=0:=by have:=HQ.out;omega
   have hXn:a*2^n=X:=by
    have:=HX.out;rw[show ((n:Int)).toNat=n by omega,show (-(n:Int)).toNat=0 by omega,Nat.pow_zero,Nat.mul_one]at this;exact this
   have HXN:=zH hXn;have HQN:=zH hqn;have hn1:n<=1100:=zd;clear hneg hXn hqn he1 he2;(go_wp2_with fail;repeat ((first|refine cZ ?_|refine cW ?_);go_wp2_with fail));refine (HSH.out n hn1).mono ?_;rintro r w2 ⟨v2,rfl,hv2,hg2⟩;have HV2:=zH hv2;have HG2:=zH hg2;clear hv2 hg2;(go_wp2_with fail;repeat ((first|refine cZ ?_|refine cW ?_);go_wp2_with fail));exact got HK ⟨v2,zb,by rw[<-HXN.out];exact HV2.out,by rw[HQN.out];simp[ov, *],zb,HG2.out⟩
 clear s0 s1 s2 σ HSH HPW HM1 HL5 HX he1 he2;rintro σ w1 ⟨u,s0,hu,s1,s2,hg1⟩;have HU:=zH hu;have HG1:=zH hg1;have hq1:=HQB.out.1;have hq2:=HQB.out.2;clear hu hg1;(go_wp2_with fail;repeat ((first|refine cZ ?_|refine cW ?_);go_wp2_with fail));refine (HN10.out _).mono ?_;rintro r w2 ⟨v2,rfl,hv2,hg2⟩;have HC:=zH (HM2.out u v2 w2 (HU.out.grown hg2) hv2);have HG2:=zH (ya HG1.out hg2);clear hv2 hg2;(go_wp2_with fail;repeat ((first|refine cZ ?_|refine cW ?_);go_wp2_with fail));refine HC.out.mono ?_;rintro r w3 ⟨v3,rfl,hv3,hg3⟩;have HV3:=zH hv3;have HG3:=zH (ya HG2.out hg3);clear hv3 hg3 HC;go_wp2_with fail;refine yr (fun s' w'=>∃ u,s' 0=u/\NatV w' u (if p=1 then X*10+1 else X*10)/\s' 1=.int .i64 (q+1)/\s' 2=.int .i64 p/\w.grownBy w' none) ?_ ?_
 ·intro R' K' HK hK';by_cases hp1:p=1
  ·subst hp1;(go_wp2_with fail;repeat ((first|refine cZ ?_|refine cW ?_);go_wp2_with fail));refine (HN1.out _).mono ?_;rintro r w4 ⟨v4,rfl,hv4,hg4⟩;have HC:=zH (HAD.out v3 v4 w4 (HV3.out.grown hg4) hv4);have HG4:=zH (ya HG3.out hg4);clear hv4 hg4;(go_wp2_with fail;repeat ((first|refine cZ ?_|refine cW ?_);go_wp2_with fail));refine HC.out.mono ?_;rintro r w5 ⟨v5,rfl,hv5,hg5⟩;have HV5:=zH hv5;have HG5:=zH (ya HG4.out hg5);clear hv5 hg5;(go_wp2_with fail;repeat ((first|refine cZ ?_|refine cW ?_);go_wp2_with fail));exact got HK ⟨v5,zb,by simpa using HV5.out,zb,zb,HG5.out⟩
  ·have hd:¬0<p:=zd;have HPN:=zH hp1;clear hp1;(go_wp2_with fail;repeat ((first|refine cZ ?_|refine cW ?_);go_wp2_with fail));exact got HK ⟨v3,zb,by have:=HPN.out;simpa[this]using HV3.out,zb,zb,HG3.out⟩
 clear s0 s1 s2 σ;rintro σ w4 ⟨u4,s0,hu4,s1,s2,hg4⟩;have HV4:=zH hu4;have HG4:=zH hg4;clear hu4 hg4;go_wp2_with fail;refine yr (fun s' w'=>∃ u,s' 0=u/\NatV w' u M/\s' 1=.int .i64 (q+1)/\w.grownBy w' none) ?_ ?_
 ·intro R' K' HK hK';by_cases hp1:p<0
  ·obtain rfl:p=-1:=by omega
   have hM1:X*10-1=M:=by have:=HMM.out;omega
   have HM1':=zH hM1;have hv4:NatV w4 u4 (X*10):=by have:=HV4.out;rw[if_neg ze]at this;exact this
   have HV4':=zH hv4;clear hM1 hv4 hp1;(go_wp2_with fail;repeat ((first|refine cZ ?_|refine cW ?_);go_wp2_with fail));refine (HN1.out _).mono ?_;rintro r w5 ⟨v5,rfl,hv5,hg5⟩;have HC:=zH (HSU.out u4 v5 w5 (HV4'.out.grown hg5) hv5 (HP1.out.elim id (fun h=>zd)));have HG5:=zH (ya HG4.out hg5);clear hv5 hg5;(go_wp2_with fail;repeat ((first|refine cZ ?_|refine cW ?_);go_wp2_with fail));refine HC.out.mono ?_;rintro r w6 ⟨v6,rfl,hv6,hg6,-⟩;have HV6:=zH hv6;have HG6:=zH (ya HG5.out hg6);clear hv6 hg6;(go_wp2_with fail;repeat ((first|refine cZ ?_|refine cW ?_);go_wp2_with fail));exact got HK ⟨v6,zb,by rw[<-HM1'.out];exact HV6.out,zb,HG6.out⟩
  ·have hM1:(if p=1 then X*10+1 else X*10)=M:=by have:=HMM.out;split <;> omega
   have HM1':=zH hM1;clear hM1;(go_wp2_with fail;repeat ((first|refine cZ ?_|refine cW ?_);go_wp2_with fail));exact got HK ⟨u4,zb,by rw[<-HM1'.out];exact HV4.out,zb,HG4.out⟩
 clear s0 s1 s2 σ;rintro σ w5 ⟨u5,s0,hu5,s1,hg5⟩;have HC:=zH (HT.out u5 w5 hu5);have HG5:=zH hg5;clear hu5 hg5;(go_wp2_with fail;repeat ((first|refine cZ ?_|refine cW ?_);go_wp2_with fail));refine HC.out.mono ?_;rintro r w6 ⟨rfl,hg6⟩;have HG6:=zH (ya HG5.out hg6);clear hg6;obtain⟨D,hD⟩:=zX (ycg M);have hdl:D.length<=100000:=by rw[<-hD];exact HLD.out
 rw[hD]at HRES ⊢;have HL:=zH hdl;clear hD hdl;have hsz:(⟨D.toArray⟩:ByteArray).size=D.length:=zm;have hdl:=HL.out;have c1:(⟨D.toArray⟩:ByteArray)++⟨#[101]⟩=⟨(D++[101]).toArray⟩:=yb0 D [101];have hsz2:(⟨(D++[101]).toArray⟩:ByteArray).size=D.length+1:=zm;(go_wp2_with fail;repeat ((first|refine cZ ?_|refine cW ?_);go_wp2_with fail));refine (HNU.out _).mono ?_;rintro r w7 ⟨rfl,hg7⟩;have HG7:=zH (ya HG6.out hg7);clear hg7;obtain⟨E,hE⟩:=zX (ycd q);have hel:E.length<=20:=by rw[<-hE];exact yca q zd zd
 rw[hE]at HRES ⊢;clear hE;have hsz3:(⟨E.toArray⟩:ByteArray).size=E.length:=zm;have c2:(⟨(D++[101]).toArray⟩:ByteArray)++⟨E.toArray⟩=⟨(D++101::E).toArray⟩:=by rw[yb0];simp
 (go_wp2_with fail;repeat ((first|refine cZ ?_|refine cW ?_);go_wp2_with fail));exact yl (.string ⟨(D++101::E).toArray⟩) rfl ze zb ⟨by rw[HRES.out],HG7.out⟩
end
theorem ye0 (b:Nat) (lt:UInt8) (h1:isD b lt=false) (h2:lt≠95) (T:List UInt8) (h:T=[]\/∃ r,T=lt::r):ydy b T:=by
 rcases h with rfl | ⟨r,rfl⟩
 ·exact Or.inl rfl
 ·exact Or.inr ⟨lt,_,rfl,h1,h2⟩
theorem ye2 (b:Nat) (lt:UInt8) (h1:isD b lt=false) (h2:lt≠95) (h3:isD b 46=false) (P:Option (List UInt8)) (T:List UInt8) (h:T=[]\/∃ r,T=lt::r):ydy b (pT P++T):=by
 cases P with
 | none=>exact ye0 b lt h1 h2 T h
 | some F=>exact Or.inr ⟨46,_,rfl,h3,ze⟩
theorem yc3 (u A:List UInt8) (P:Option (List UInt8)) (T:List UInt8) (x:Int) (lt:UInt8) (hu:u.drop (vy u)=A++(pT P++T)) (hlt:za2 u=lt) (hA0:A≠[]\/pF P≠[]) (hA:allD (wb u) A) (hF:allD (wb u) (pF P)) (hT:T=[]/\x=0\/(∃ r,T=lt::r)/\jc lt T=some x)
  (h1:isD (wb u) lt=false) (h2:lt≠95) (h2':lt≠46) (h3:isD (wb u) 46=false) (hx16:wb u=16->T≠[]):
  zf8 u=some (x-((zpy u*(pF P).length:Nat):Int))/\nDigits u=dgL (wb u) (A++pF P):=by
 have hT2:T=[]\/∃ r,T=lt::r:=hT.elim (fun h=>Or.inl h.1) (fun h=>Or.inr h.1);have hdl:u.length=vy u+(A++(pT P++T)).length:=by
  have:=congrArg List.length hu;rw[List.length_drop]at this;have h:=zcb u;omega
 have hdrop:∀ k,u.drop (vy u+k)=(A++(pT P++T)).drop k:=fun k=>by rw[<-hu,List.drop_drop]
 have hget:∀ k,u.getD (vy u+k) 0=(A++(pT P++T)).getD k 0:=fun k=>by
  rw[List.getD_eq_getElem?_getD,List.getD_eq_getElem?_getD,<-hu,List.getElem?_drop]
 have hr1:jh (wb u) (u.drop (vy u))=A.length:=by rw[hu];exact yc5 hA (ye2 _ lt h1 h2 h3 P T hT2)
 have hI1:nI1 u=vy u+A.length:=by unfold nI1;rw[hr1]
 have hfst:kl u=A:=by unfold kl;rw[hr1,hu,List.take_left'];rfl
 have hat:u.getD (nI1 u) 0=(pT P++T).getD 0 0:=by
  rw[hI1,hget,List.getD_eq_getElem?_getD,List.getD_eq_getElem?_getD,List.getElem?_append_right (Nat.le_refl _),Nat.sub_self]
 have hpt:nPt u↔P≠none:=by
  unfold nPt;rw[hat,hI1,hdl,List.length_append,List.length_append];cases P with
  | none=>
   simp only[pT,List.nil_append,ne_eq,not_true_eq_false,iff_false,not_and];intro _;rcases hT2 with rfl | ⟨r,rfl⟩
   ·simp
   ·simp only[List.getD_cons_zero];exact h2'
  | some F=>simp[pT];omega
 have hsnd:xz u=pF P/\nI2 u=vy u+(A++pT P).length:=by
  unfold xz nI2;cases P with
  | none=>rw[if_neg (by rw[hpt];simp),if_neg (by rw[hpt];simp),hI1];simp[pF,pT]
  | some F=>
   have hd2:u.drop (nI1 u+1)=F++T:=by
    rw[hI1,Nat.add_assoc,hdrop,List.drop_append,List.drop_of_length_le zd,Nat.add_sub_cancel_left];rfl
   have hr2:jh (wb u) (u.drop (nI1 u+1))=F.length:=by rw[hd2];exact yc5 hF (ye0 _ lt h1 h2 T hT2)
   rw[if_pos (hpt.2 zi),if_pos (hpt.2 zi),hr2,hd2,List.take_left' rfl];refine⟨rfl,?_⟩;rw[hI1];simp only[pT,List.length_append,List.length_cons];omega
 have hdX:u.drop (nI2 u)=T:=by
  rw[hsnd.2,hdrop,<-List.append_assoc,List.drop_left' rfl]
 have hexp:zpz u=some x:=by
  unfold zpz;rw[hlt,hdX];have hlen:nI2 u<u.length↔T≠[]:=by
   rw[hsnd.2,hdl];simp only[List.length_append];rcases hT2 with rfl | ⟨r,rfl⟩
   ·simp
   ·simp
  rcases hT with⟨h0,rfl⟩ | ⟨⟨r,hr⟩,hx⟩
  ·rw[if_neg];rintro (h | h)
   ·exact absurd h0 (hlen.1 h)
   ·exact absurd h0 (hx16 h)
  ·rw[if_pos (Or.inl (hlen.2 (by rw[hr];simp)))];exact hx
 refine⟨?_,by unfold nDigits;rw[hfst,hsnd.1]⟩;unfold zf8;rw[hfst,hsnd.1,if_neg (fun h=>hA0.elim (fun g=>g h.1) (fun g=>g h.2)),hexp,yez hF];rfl
theorem ydd (neg:Bool) (A:List UInt8) (P:Option (List UInt8)) (T:List UInt8) (x:Int) (hA0:A≠[]) (hA:allD 10 A) (hF:allD 10 (pF P)) (hT:T=[]/\x=0\/(∃ r,T=101::r)/\jc 101 T=some x) (hTc:∀ c ∈ T,(48<=c.toNat/\c.toNat<=57)\/c=46\/c=101\/c=43\/c=45):
  ul (ycv neg++(A++(pT P++T)))=some ⟨0,neg,10,dgL 10 (A++pF P),x-(((pF P).length:Nat):Int)⟩:=by
 obtain⟨u,hu⟩:=zX (A++(pT P++T));rw[hu];have hmem:∀ c ∈ u,(48<=c.toNat/\c.toNat<=57)\/c=46\/c=101\/c=43\/c=45:=by
  intro c hc;rw[<-hu,List.mem_append,List.mem_append]at hc;rcases hc with hc | hc | hc
  ·exact Or.inl (yde (hA c hc))
  ·cases P with
   | none=>cases hc
   | some F=>
    rcases List.mem_cons.1 hc with h | h
    ·exact Or.inr (Or.inl h)
    ·exact Or.inl (yde (hF c h))
  ·exact hTc c hc
 have hnx:¬zd4 u:=by
  rintro⟨h1,_,h3⟩;have hm:u.getD 1 0 ∈ u:=by rw[List.getD_eq_getElem?_getD,List.getElem?_eq_getElem h1];exact List.getElem_mem _
  rw[h3]at hm;rcases hmem 120 hm with h | h | h | h | h <;> revert h <;> decide
 have hb:wb u=10:=by unfold wb;rw[if_neg hnx]
 have hf0:vy u=0:=by unfold vy;rw[if_neg hnx]
 have hp:zpy u=1:=by unfold zpy;rw[hb];rfl
 have hl:za2 u=101:=by unfold za2;rw[hb];rfl
 obtain⟨h1,h2⟩:=yc3 u A P T x 101 (by rw[hf0,List.drop_zero,hu]) hl (Or.inl hA0) (by rw[hb];exact hA) (by rw[hb];exact hF) hT (by rw[hb];decide) ze ze (by rw[hb];decide) (by rw[hb];intro h;cases h);rw[hp,Nat.one_mul]at h1;rw[hb]at h2;obtain⟨c,r,hcr⟩:∃ c r,u=c::r:=by
  cases A with
  | nil=>exact absurd rfl hA0
  | cons c r=>exact⟨c,_,hu.symm⟩
 have hcd:isD 10 c=true:=by
  cases A with
  | nil=>exact absurd rfl hA0
  | cons c' r'=>
   have:=hu.trans hcr;rw[List.cons_append]at this;rw[<-(List.cons.inj this).1];exact hA.cons.1
 have:=ydp neg u c r hcr hcd (yc7 u (fun c hc=>by rcases hmem c hc with h | rfl | rfl | rfl | rfl <;> first | omega | decide)) _ h1;rw[this,hb,h2]
theorem ydt (n:Nat):allD 10 (ycr n)/\zd5 (ycr n)=n:=by
 induction n using Nat.strongRecOn with
 | _ n ih=>
  by_cases h0:n=0
  ·subst h0;rw[yb9];exact And.intro (fun c hc=>by cases hc) rfl
  ·obtain⟨h1,h2⟩:=ih (n / 10) zd;obtain⟨i1,i2⟩:=yeu (n%10) zd;rw[ycl h0];refine⟨h1.append (fun c hc=>?_),?_⟩
   ·rw[List.mem_singleton.1 hc];exact i1
   ·rw[zi3,h2,i2];omega
theorem yds (n:Nat):allD 10 (ycg n)/\zd5 (ycg n)=n/\ycg n≠[]:=by
 unfold ycg;split
 ·rename_i h;subst h;exact⟨fun c hc=>by rw[List.mem_singleton.1 hc];decide,rfl,zi⟩
 ·rename_i h;exact⟨(ydt n).1,(ydt n).2,ydn h⟩
theorem ycq (lt:UInt8) (x:Int) (h1:-1000000000000000<x) (h2:x<1000000000000000):jc lt (lt::ycd x)=some x/\∀ c ∈ ycd x,(48<=c.toNat/\c.toNat<=57)\/c=45:=by
 obtain⟨d1,d2,d3⟩:=yds x.natAbs;have hrun:jh 10 (ycg x.natAbs)=(ycg x.natAbs).length:=by have:=yc5 (R:=[]) d1 (Or.inl rfl);rwa [List.append_nil]at this
 have hex:=yej _ d1 zd;rw[d2]at hex;unfold ycd;generalize ycg x.natAbs=E at *
 by_cases hx:x<0
 ·rw[if_pos hx];refine⟨?_,fun c hc=>?_⟩
  ·simp only[jc];rw[if_neg zi,show sgL (45::E)=(true,E) by simp[sgL]];unfold zft;rw[if_neg (by rw[hrun];simp[d3]),hex];show some (-(x.natAbs:Int))=some x;congr 1;omega
  ·rcases List.mem_cons.1 hc with h | h
   ·exact Or.inr h
   ·exact Or.inl (yde (d1 c h))
 ·rw[if_neg hx];refine⟨?_,fun c hc=>?_⟩
  ·simp only[jc];have hs:sgL E=(false,E):=by
    cases E with
    | nil=>exact absurd rfl d3
    | cons c r=>
     have hc:=yde (d1 c zi);have n1:c≠43:=by rintro rfl;revert hc;decide
     have n2:c≠45:=by rintro rfl;revert hc;decide
     simp[sgL,n1,n2]
   rw[if_neg zi,hs];unfold zft;rw[if_neg (by rw[hrun];simp[d3]),hex];show some ((x.natAbs:Nat):Int)=some x;congr 1;omega
  ·exact Or.inl (yde (d1 c hc))
theorem yex (x:Int) (h1:-1000000000000000<x) (h2:x<1000000000000000):jc 101 (101::ycd x)=some x/\∀ c ∈ (101::ycd x:List UInt8),(48<=c.toNat/\c.toNat<=57)\/c=46\/c=101\/c=43\/c=45:=by
 obtain⟨e1,e2⟩:=ycq 101 x h1 h2;refine⟨e1,fun c hc=>?_⟩;rcases List.mem_cons.1 hc with h | h
 ·exact Or.inr (Or.inr (Or.inl h))
 ·rcases e2 c h with h | h
  ·exact Or.inl h
  ·exact Or.inr (Or.inr (Or.inr (Or.inr h)))
theorem ye1 (F:Nat) (bias:Int) (inf:Nat) (l:List Nat) (N:Nat) (x:Int) (hN:jy 10 l=N) (hl:l.length=yi N) (hb1:1<=bias) (hb2:bias<=1023) (hF1:1<=F) (hF2:bias+F<=1075):
  spN F bias inf 10 l x=nvT F bias inf 10 N x:=by
 have hN':dgN 10 l=N:=hN;unfold spN;rw[hN',show yfj 10=10 from rfl];by_cases h0:l=[]
 ·subst h0;have:N=0:=by rw[<-hN];rfl
  subst this;rw[if_pos (by unfold zq0;rw[if_pos rfl])];exact (zca F bias inf _ _ zd hb1 hF1).symm
 have hl1:1<=l.length:=by
  cases l with
  | nil=>exact absurd rfl h0
  | cons=>simp
 have hN0:N≠0:=by rintro rfl;rw[kw]at hl;omega
 have hj1:10^(l.length-1)<=N:=by rw[hl];exact qh hN0
 have hj2:N<10^l.length:=by rw[hl];exact xi N
 rw[zt4 x h0];by_cases c1:400<(l.length:Int)-1+x
 ·rw[if_pos c1,if_neg ze,if_pos rfl];refine (znp F bias inf 10 _ _ 400 (bias+1).toNat x zd hj1 ?_ ?_ zd).symm
  ·exact Nat.le_trans (Nat.pow_le_pow_right zd (show (bias+1).toNat<=1024 by omega)) zqc
  ·omega
 ·rw[if_neg c1];by_cases c2:(l.length:Int)-1+x < -400
  ·rw[if_pos c2,if_pos rfl];refine (zno F bias inf 10 _ _ 400 (bias+F).toNat x zd hj2 ?_ ?_ zd hb1 hF1).symm
   ·exact Nat.le_trans (Nat.pow_le_pow_right zd (show (bias+F).toNat<=1075 by omega)) zqb
   ·omega
  ·rw[if_neg c2,if_neg ze,if_neg ze]
theorem ydc (neg:Bool) (A:List UInt8) (P:Option (List UInt8)) (x:Int) (hA0:A≠[]) (hA:allD 10 A) (hF:allD 10 (pF P)) (h1:-1000000000000000<x) (h2:x<1000000000000000):
  ∃ t,ul (ycv neg++(A++(pT P++101::ycd x)))=some t/\t.kind=0/\t.neg=neg/\
   ∀ (F:Nat) (bias:Int) (inf:Nat),1<=bias->bias<=1023->1<=F->bias+F<=1075->spB F bias inf t=nvT F bias inf 10 (zd5 (A++pF P)) (x-(((pF P).length:Nat):Int)):=by
 obtain⟨e1,e2⟩:=yex x h1 h2;obtain⟨h3,h4⟩:=ydm _ (A++pF P) rfl (hA.append hF);exact⟨_,ydd neg A P (101::ycd x) x hA0 hA hF (Or.inr ⟨⟨_,rfl⟩,e1⟩) e2,rfl,rfl,fun F bias inf b1 b2 f1 f2=>ye1 F bias inf _ _ _ h3 h4 b1 b2 f1 f2⟩
theorem yal (m:Nat) (e:Int) (hm:m<2^53) (h1:-1074<=e) (h2:e<=971):(yf (vN m e)).length<=100/\(yf (vD e)).length<=100:=by
 obtain⟨K,hK⟩:∃ K,K=100:=⟨_,rfl⟩;rw[<-hK];constructor
 ·refine yv ?_;unfold vN;refine Nat.lt_of_lt_of_le (Nat.mul_lt_mul_of_pos_right hm (Nat.two_pow_pos _)) ?_;rw[<-Nat.pow_add,js];exact Nat.pow_le_pow_right zd zd
 ·refine yv ?_;unfold vD;rw[js];exact Nat.pow_lt_pow_right zd zd
theorem zlo (s:Nat) (E:Int) (a b:Nat) (hb:b≠0) (hab:a*vD E=vN s E*b) (h1:4503599627370496<=s) (h2:s<9007199254740992) (hE1:-1074<=E) (hE2:E<=971):
  xh 52 1023 9218868437227405312 a b=(E+1074).toNat*4503599627370496+s:=by
 have hs0:s≠0:=zd;have hvn:=yam E hs0;have hvd:=zjf E;have ha:a≠0:=by
  intro h0;rw[h0,Nat.zero_mul]at hab;exact absurd hab.symm (Nat.mul_ne_zero hvn hb)
 have ho:uo a b=E+52:=by
  refine zfa ha hb ((zan zd hvd hab _).2 ?_) (fun hh=>?_)
  ·rw[ws (j:=-E) (n:=52) zd,Int.neg_neg];unfold vN vD;rw[Nat.mul_assoc s,Nat.mul_comm (2^(-E).toNat) (2^E.toNat)];exact Nat.mul_le_mul_right _ h1
  ·have:=(zan zd hvd hab _).1 hh;rw[ws (j:=-E) (n:=53) zd,Int.neg_neg]at this;unfold vN vD at this;rw[Nat.mul_assoc s,Nat.mul_comm (2^(-E).toNat) (2^E.toNat)]at this;have h3:=Nat.le_of_mul_le_mul_right this (Nat.mul_pos (p2 _) (p2 _));omega
 have hne:yt 52 1023 a b=E:=by
  unfold yt;rw[if_neg ha,ho];omega
 have hrb:rB a b E=s:=by
  unfold rB;have:vi (a*2^(-E).toNat) (b*2^E.toNat)=vi (s*1) 1:=by
   refine vm (Nat.mul_pos zd (p2 _)) zd ?_;rw[Nat.mul_one,Nat.mul_one];unfold vN vD at hab;rw[hab];ac_rfl
  rw[this];exact zad s 1 zd
 unfold xh;rw[hne,if_pos zd,hrb];congr 2
theorem zrj (s:Nat) (E:Int) (g:Nat) (h1:4503599627370496<=s) (h2:s<9007199254740992) (hE1:-1074<=E) (hE2:E<=971) (hg:g=0\/g=9223372036854775808):
  m64 ((E+1074).toNat*4503599627370496+s+g)=s/\e64 ((E+1074).toNat*4503599627370496+s+g)=E/\((E+1074).toNat*4503599627370496+s+g)%9223372036854775808<9218868437227405312/\(E+1074).toNat*4503599627370496+s+g<18446744073709551616/\decide (9223372036854775808<=(E+1074).toNat*4503599627370496+s+g)=decide (g=9223372036854775808):=by
 obtain⟨q,hq⟩:=zX ((E+1074).toNat);rw[hq];have hq2:q<=2045:=zd;have f1:flE 11 52 (q*4503599627370496+s+g)=q+1:=by unfold flE;omega
 have f2:flF 52 (q*4503599627370496+s+g)=s-4503599627370496:=by unfold flF;omega
 refine⟨?_,?_,zd,zd,?_⟩
 ·unfold m64 zen;rw[f1,if_neg zd,f2];omega
 ·unfold e64 zor;rw[f1,if_neg zd];omega
 ·rw[decide_eq_decide];omega
theorem zgd (m:Nat) (e:Int) (g:Nat) (hm:m<16777216) (he1:-149<=e) (he2:e<=104) (hg:g=0\/g=9223372036854775808):
  ∃ N,xh 52 1023 9218868437227405312 (vN m e) (vD e)+g=N/\N<18446744073709551616/\N%9223372036854775808<9218868437227405312/\decide (9223372036854775808<=N)=decide (g=9223372036854775808)/\vN m e*vD (e64 N)=vN (m64 N) (e64 N)*vD e:=by
 by_cases h0:m=0
 ·subst h0;have hV:vN 0 e=0:=by unfold vN;rw[Nat.zero_mul]
  have hn:xh 52 1023 9218868437227405312 (vN 0 e) (vD e)=0:=by
   rw[hV];unfold xh yt;rw[if_pos rfl,if_pos zd];unfold rB;rw[Nat.zero_mul];have:=zad 0 (vD e*2^((1:Int)-1023-52).toNat) (Nat.mul_pos (zjf e) (p2 _));rw[Nat.zero_mul]at this;rw[this];rfl
  rw[hn,hV];refine⟨g,zd,zd,zd,by rw[decide_eq_decide];omega,?_⟩;have:m64 g=0:=by
   rcases hg with rfl | rfl
   ·rfl
   ·unfold m64 zen flE flF;decide
  rw[this];unfold vN;rw[Nat.zero_mul,Nat.zero_mul,Nat.zero_mul]
 ·obtain⟨k,hk⟩:=zX m.log2;have hlo:2^k<=m:=by rw[<-hk];exact Nat.log2_self_le h0
  have hhi:m<2^(k+1):=by rw[<-hk];exact Nat.lt_log2_self
  have hk24:k<24:=(Nat.pow_lt_pow_iff_right (by omega:1<2)).1 (Nat.lt_of_le_of_lt hlo hm);have hs1:4503599627370496<=m*2^(52-k):=by
   have:=Nat.mul_le_mul_right (2^(52-k)) hlo;rw[<-Nat.pow_add,show k+(52-k)=52 by omega]at this;exact this
  have hs2:m*2^(52-k)<9007199254740992:=by
   have:=Nat.mul_lt_mul_of_pos_right hhi (p2 (52-k));rw[<-Nat.pow_add,show k+1+(52-k)=53 by omega]at this;exact this
  have hsh:=zs6 m (52-k) e;have hne:=zlo (m*2^(52-k)) (e-(52-k:Nat)) (vN m e) (vD e) (Nat.ne_of_gt (zjf e)) hsh.symm hs1 hs2 zd zd;obtain⟨f1,f2,f3,f4,f5⟩:=zrj (m*2^(52-k)) (e-(52-k:Nat)) g hs1 hs2 zd zd hg;refine⟨_,rfl,?_⟩;rw[hne];refine⟨f4,f3,f5,?_⟩;rw[f1,f2];exact hsh.symm
section
attribute [local go_sem] undef
def zma (n:Nat):Nat:=xd (vN (m32 n) (e32 n)) (vD (e32 n))+if 2147483648<=n then 9223372036854775808 else 0
theorem zxi (n:Nat) (hn:n<4294967296) (hfin:n%2147483648<2139095040):
  zma n<18446744073709551616/\zma n%9223372036854775808<9218868437227405312/\decide (9223372036854775808<=zma n)=decide (2147483648<=n)/\vN (m32 n) (e32 n)*vD (e64 (zma n))=vN (m64 (zma n)) (e64 (zma n))*vD (e32 n):=by
 have hx:=zsr n hfin;have hm:=zsl n;obtain⟨g,hg,hgn⟩:∃ g:Nat,(g=0\/g=9223372036854775808)/\g=if 2147483648<=n then 9223372036854775808 else 0:=by
  by_cases h:2147483648<=n
  ·exact⟨_,Or.inr rfl,by rw[if_pos h]⟩
  ·exact⟨_,Or.inl rfl,by rw[if_neg h]⟩
 obtain⟨N,hN,h1,h2,h3,h4⟩:=zgd (m32 n) (e32 n) g hm zd zd hg;have hw:zma n=N:=by unfold zma;rw[<-hgn];exact hN
 rw[hw];refine⟨h1,h2,?_,h4⟩;rw[h3,decide_eq_decide,hgn];constructor
 ·intro h;split at h
  ·assumption
  ·omega
 ·intro h;rw[if_pos h]
set_option maxRecDepth 100000 in
theorem zkw (n:Nat) (hn:n<4294967296) (hfin:n%2147483648<2139095040) (w:World):
  Calls Tryz.prog 19 #[.int .u32 (n:Int)] w fun e w'=>e=.returned (.int .u64 ((zma n:Nat):Int))/\w.grownBy w' none:=by
 have hx:=zsr n hfin;have hm:=zsl n;obtain⟨g,hg,hgn⟩:∃ g:Nat,(g=0\/g=9223372036854775808)/\g=if 2147483648<=n then 9223372036854775808 else 0:=by
  by_cases h:2147483648<=n
  ·exact⟨_,Or.inr rfl,by rw[if_pos h]⟩
  ·exact⟨_,Or.inl rfl,by rw[if_neg h]⟩
 obtain⟨N,hN,h1,h2,h3,h4⟩:=zgd (m32 n) (e32 n) g hm zd zd hg;have hw:zma n=N:=by unfold zma;rw[<-hgn];exact hN
 rw[hw];clear hw;have hk:kn 2139095040 2147483648 n=0:=zis rfl hfin;have hK:=fun W=>za8 n W hn
 rw[hk]at hK;have HK:=zH hK;have HI:=zH (fun W=>jw n W hn);have HS:=zH wm;have HV:=zH (fun W=>zev n (m32 n) (e32 n) W hn hk (zv8 n) (zwp n));obtain⟨v1,v2⟩:=yal (m32 n) (e32 n) (Nat.lt_of_lt_of_le hm ze) zd zd;have HNE:=zH (fun vn vd W (h1:NatV W vn (vN (m32 n) (e32 n))) (h2:NatV W vd (vD (e32 n)))=>zah false vn vd _ _ W h1 h2 (Nat.ne_of_gt (zjf _)) zd zd);have HNN:=zH (show xd (vN (m32 n) (e32 n)) (vD (e32 n))+g=N from hN);have HGN:=zH hgn;obtain⟨M,hM⟩:=zX (xd (vN (m32 n) (e32 n)) (vD (e32 n)));simp only[hM]at HNE HNN;have hM2:M<18446744073709551616:=by have:=HNN.out;omega
 have HV':=zH (show ∀ W,Calls Tryz.prog 46 #[.int .i64 32,.int .u64 (n:Int)] W fun x w'=>∃ vn vd,x=.returned (.tuple #[.agg #[.bool (decide (2147483648<=n)),vn,vd],.bool true])/\NatV w' vn (vN (m32 n) (e32 n))/\NatV w' vd (vD (e32 n))/\W.grownBy w' none from HV.out);generalize vN (m32 n) (e32 n)=a at *
 generalize vD (e32 n)=b at *
 have hN64:=h1;clear HV hM hN hK hk h1 h2 h3 h4 hgn v1 v2;refine ye Tryz.func19 rfl (by rw[Tryz.ntmps19];simp) ?_;intro σ hσ;rw[Tryz.ntmps19];have s0:σ 0=.int .u32 (n:Int):=hσ 0 zi;clear hσ;(go_wp2_with fail;repeat ((first|refine cZ ?_|refine cW ?_);go_wp2_with fail));refine (HI.out _).mono ?_;rintro e w7 ⟨rfl,rfl⟩;go_wp2_with fail;refine yr (fun s' w'=>s' 0=.int .u32 (n:Int)/\s' 3=.int .u64 (g:Int)/\w=w') ?_ ?_
 ·intro R' K' HR hK';by_cases hs:2147483648<=n
  ·have e:g=9223372036854775808:=by rw[HGN.out,if_pos hs]
   subst e;have f1:decide (2147483648<=n)=true:=by simpa using hs
   clear hs;(go_wp2_with fail;repeat ((first|refine cZ ?_|refine cW ?_);go_wp2_with fail));refine (HS.out _).mono ?_;rintro e w7 ⟨rfl,rfl⟩;(go_wp2_with fail;repeat ((first|refine cZ ?_|refine cW ?_);go_wp2_with fail));exact got HR ⟨zb,zj,rfl⟩
  ·have e:g=0:=by rw[HGN.out,if_neg hs]
   subst e;have f1:decide (2147483648<=n)=false:=by simpa using hs
   clear hs;(go_wp2_with fail;repeat ((first|refine cZ ?_|refine cW ?_);go_wp2_with fail));exact got HR ⟨zb,zj,rfl⟩
 clear s0 σ HI HS;rintro σ w' ⟨s0,s3,rfl⟩;(go_wp2_with fail;repeat ((first|refine cZ ?_|refine cW ?_);go_wp2_with fail));refine (HK.out _).mono ?_;rintro e w7 ⟨rfl,rfl⟩;(go_wp2_with fail;repeat ((first|refine cZ ?_|refine cW ?_);go_wp2_with fail));refine (HV'.out _).mono ?_;rintro e w2 ⟨vn,vd,rfl,hvn,hvd,hg2⟩;generalize decide (2147483648<=n)=neg at *
 obtain⟨an,cn,rfl⟩:=hvn.len;obtain⟨ad,cd,rfl⟩:=hvd.len;generalize (yf a).length=LN at *
 generalize (yf b).length=LD at *
 obtain⟨w3,hw3⟩:∃ w',World.alloc w2 (.cells #[.bool neg,.slice an LN cn,.slice ad LD cd] 38)=w':=⟨_,rfl⟩;obtain⟨B,hB⟩:=zX ((World.heap w2).size);have hib:=InBlk.new w2 neg (.slice an LN cn) (.slice ad LD cd) 38;rw[hw3,hB]at hib;have HIB:=zH hib;have HVN:=zH (hvn.grown hib.grown);have HVD:=zH (hvd.grown hib.grown);have HG3:=zH (ya hg2 hib.grown);have HW3:=zH hw3;have HB:=zH hB;have HSZ:=zH hg2.size;clear hvn hvd hg2 hib hw3 hB;go_upto_region 10 with fail;rw[HW3.out,HB.out];clear HW3;have c0:=HIB.out.row.cell 0;have c1:=HIB.out.row.cell 1;have c2:=HIB.out.row.cell 2;have t0:=HIB.out.row.frozen 0;simp only[List.getElem?_cons_zero,List.getElem?_cons_succ]at c0 c1 c2;go_upto_region 11 with fail;obtain⟨w4,hw4⟩:=zX (w3.setCell ⟨B,0,none⟩ (.bool false));have hr4:=HIB.out.row.setCell 0 (.bool false);simp only[List.set_cons_zero]at hr4;have hn4:=NatV.setB (u:=.bool false) (k:=0) HVN.out c0;have hd4:=NatV.setB (u:=.bool false) (k:=0) HVD.out c0;have hg4:=yb HG3.out (a:=⟨B,0,none⟩) (.bool false) (by show w.heap.size<=B;have:=HB.out;have:=HSZ.out;omega);rw[hw4]at hr4 hn4 hd4 hg4;rw[hw4];have HN4:=zH hn4;have HD4:=zH hd4;have HG4:=zH hg4;clear c0 c1 c2 t0 hn4 hd4 hg4 hw4;have c0:=hr4.cell 0;have c1:=hr4.cell 1;have c2:=hr4.cell 2;simp only[List.getElem?_cons_zero,List.getElem?_cons_succ]at c0 c1 c2;clear hr4;(go_wp2_with fail;repeat ((first|refine cZ ?_|refine cW ?_);go_wp2_with fail));refine (HNE.out _ _ _ HN4.out HD4.out).mono ?_;rintro e w5 ⟨rfl,hg5⟩;have HG5:=zH (ya HG4.out hg5);clear hg5 c0 c1 c2;simp only[Bool.false_eq_true,if_false,Nat.add_zero];have hwr:IntKind.u64.wrap (N:Int)=(N:Int):=zku N hN64;have hsum2:(g:Int)+(M:Int)=(N:Int):=by have:=HNN.out;omega
 (go_wp2_with fail;repeat ((first|refine cZ ?_|refine cW ?_);go_wp2_with fail));exact yl (.int .u64 (N:Int)) rfl ze zb ⟨rfl,HG5.out⟩
end
section
attribute [local go_sem] undef
def sgW (n:Nat):Nat:=if 2147483648<=n then 9223372036854775808 else 0
def zs5 (n:Nat):Nat:=if n%2147483648=2139095040 then 9218868437227405312 else 9223372036854775807
def zyo (n:Nat):Nat:=if n%2147483648<2139095040 then zma n else sgW n+zs5 n
set_option maxRecDepth 100000 in
theorem zkv (n:Nat) (hn:n<4294967296) (hfin:¬n%2147483648<2139095040) (w:World):
  Calls Tryz.prog 19 #[.int .u32 (n:Int)] w fun e w'=>e=.returned (.int .u64 ((sgW n+zs5 n:Nat):Int))/\w=w':=by
 obtain⟨g,hg,hgn⟩:∃ g:Nat,(g=0\/g=9223372036854775808)/\sgW n=g:=by
  by_cases h:2147483648<=n
  ·exact⟨_,Or.inr rfl,by unfold sgW;rw[if_pos h]⟩
  ·exact⟨_,Or.inl rfl,by unfold sgW;rw[if_neg h]⟩
 rw[hgn];have hK:=fun W=>za8 n W hn
 obtain⟨kd,hkd,hkk⟩:∃ kd:Int,kn 2139095040 2147483648 n=kd/\((kd=1/\zs5 n=9218868437227405312)\/(kd=2/\zs5 n=9223372036854775807)):=by
  by_cases h:n%2147483648=2139095040
  ·exact⟨1,zir rfl h,Or.inl ⟨rfl,by unfold zs5;rw[if_pos h]⟩⟩
  ·exact⟨2,zde rfl zd,Or.inr ⟨rfl,by unfold zs5;rw[if_neg h]⟩⟩
 rw[hkd]at hK;obtain⟨q,hq⟩:=zX (zs5 n);rw[hq]at hkk ⊢;have HK:=zH hK;have HI:=zH (fun W=>jw n W hn);have HS:=zH wm;have HF:=zH wy;have HGN:=zH hgn;clear hK hgn hkd hq hfin;refine ye Tryz.func19 rfl (by rw[Tryz.ntmps19];simp) ?_;intro σ hσ;rw[Tryz.ntmps19];have s0:σ 0=.int .u32 (n:Int):=hσ 0 zi;clear hσ;(go_wp2_with fail;repeat ((first|refine cZ ?_|refine cW ?_);go_wp2_with fail));refine (HI.out _).mono ?_;rintro e w7 ⟨rfl,rfl⟩;go_wp2_with fail;refine yr (fun s' w'=>s' 0=.int .u32 (n:Int)/\s' 3=.int .u64 (g:Int)/\w=w') ?_ ?_
 ·intro R' K' HR hK';by_cases hs:2147483648<=n
  ·have e:g=9223372036854775808:=by rw[<-HGN.out];unfold sgW;rw[if_pos hs]
   subst e;have f1:decide (2147483648<=n)=true:=by simpa using hs
   clear hs;(go_wp2_with fail;repeat ((first|refine cZ ?_|refine cW ?_);go_wp2_with fail));refine (HS.out _).mono ?_;rintro e w7 ⟨rfl,rfl⟩;(go_wp2_with fail;repeat ((first|refine cZ ?_|refine cW ?_);go_wp2_with fail));exact got HR ⟨zb,zj,rfl⟩
  ·have e:g=0:=by rw[<-HGN.out];unfold sgW;rw[if_neg hs]
   subst e;have f1:decide (2147483648<=n)=false:=by simpa using hs
   clear hs;(go_wp2_with fail;repeat ((first|refine cZ ?_|refine cW ?_);go_wp2_with fail));exact got HR ⟨zb,zj,rfl⟩
 clear s0 σ HI HGN;rintro σ w' ⟨s0,s3,rfl⟩;rcases hkk with⟨rfl,rfl⟩ | ⟨rfl,rfl⟩
 ·(go_wp2_with fail;repeat ((first|refine cZ ?_|refine cW ?_);go_wp2_with fail));refine (HK.out _).mono ?_;rintro e w7 ⟨rfl,rfl⟩;(go_wp2_with fail;repeat ((first|refine cZ ?_|refine cW ?_);go_wp2_with fail));refine (HF.out _).mono ?_;rintro e w7 ⟨rfl,rfl⟩;have hwr:IntKind.u64.wrap ((g:Int)+9218868437227405312)=((g+9218868437227405312:Nat):Int):=by rcases hg with rfl | rfl <;> decide
  (go_wp2_with fail;repeat ((first|refine cZ ?_|refine cW ?_);go_wp2_with fail));exact yl (.int .u64 ((g+9218868437227405312:Nat):Int)) rfl ze zb ⟨rfl,rfl⟩
 ·(go_wp2_with fail;repeat ((first|refine cZ ?_|refine cW ?_);go_wp2_with fail));refine (HK.out _).mono ?_;rintro e w7 ⟨rfl,rfl⟩;(go_wp2_with fail;repeat ((first|refine cZ ?_|refine cW ?_);go_wp2_with fail));refine (HS.out _).mono ?_;rintro e w7 ⟨rfl,rfl⟩;obtain⟨y,hy,hy2⟩:∃ y,IntKind.u64.wrap ((g:Int)+9223372036854775808)=y/\IntKind.u64.wrap (y-1)=((g+9223372036854775807:Nat):Int):=by
   rcases hg with rfl | rfl
   ·exact⟨_,rfl,ze⟩
   ·exact⟨_,rfl,ze⟩
  (go_wp2_with fail;repeat ((first|refine cZ ?_|refine cW ?_);go_wp2_with fail));exact yl (.int .u64 ((g+9223372036854775807:Nat):Int)) rfl ze zb ⟨rfl,rfl⟩
theorem zkx (n:Nat) (hn:n<4294967296) (w:World):
  Calls Tryz.prog 19 #[.int .u32 (n:Int)] w fun e w'=>e=.returned (.int .u64 ((zyo n:Nat):Int))/\w.grownBy w' none:=by
 unfold zyo;by_cases h:n%2147483648<2139095040
 ·rw[if_pos h];exact zkw n hn h w
 ·rw[if_neg h];refine (zkv n hn h w).mono ?_;rintro e w1 ⟨rfl,rfl⟩;exact⟨rfl,World.grownBy.refl w none⟩
end
end Go.Proofs.YtocbeoomhlgnkaaGreatDoor
