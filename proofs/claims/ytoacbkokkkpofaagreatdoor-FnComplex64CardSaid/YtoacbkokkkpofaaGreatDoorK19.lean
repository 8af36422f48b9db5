/- Lemmas that the claim's top text leans on. No condition of their own. -/
import Derived.Test.YtoacbkokkkpofaaGreatDoorK15
import Derived.Test.YtoacbkokkkpofaaGreatDoorK26
import Derived.Test.YtoacbkokkkpofaaGreatDoorK29
namespace Go.Proofs.YtoacbkokkkpofaaGreatDoor
open Go.RowKit
set_option linter.unusedSimpArgs false
set_option linter.unusedVariables false
set_option maxHeartbeats 16000000
section
attribute [local go_sem] undef
set_option maxRecDepth 100000 in
theorem zbz (b:Nat) (hb:b=10\/b=16) (s:List UInt8) (w:World) (hs:s.length<=4000000):
  Calls Tryz.prog 73 #[.string ⟨s.toArray⟩,.int .i64 (b:Int)] w fun e w'=>∃ v',e=.returned v'/\OwnI w.heap.size w' v' (dgL b s)/\w.grownBy w' none:=by
 have HD:=zH (fun c W=>zaq b hb c W);clear hb;have HO0:=zH (OwnI.fresh0 (T:=w.heap.size) (w:=w) (Nat.le_refl _) 3);have HG0:=zH (World.grownBy_alloc w (.cells #[] 3) none);refine ye Tryz.func73 rfl (by rw[Tryz.ntmps73];simp) ?_;intro σ hσ;rw[Tryz.ntmps73];have s0:σ 0=.string ⟨s.toArray⟩:=hσ 0 zi;have s1:σ 1=.int .i64 (b:Int):=hσ 1 zi;clear hσ;have hsz:(⟨s.toArray⟩:ByteArray).size=s.length:=zm;obtain⟨N,hN⟩:=zX s.length;rw[hN]at hsz hs;have HN:=zH hN;clear hN;(go_wp2_with fail;repeat ((first|refine cZ ?_|refine cW ?_);go_wp2_with fail));refine xb (fun kk s' w'=>∃ (i:Nat) (v:Value) (l:List Nat),i<=N/\kk=N-i/\l=dgL b (s.take i)/\s' 0=.string ⟨s.toArray⟩/\s' 1=.int .i64 (b:Int)/\s' 5=v/\s' 6=.int .i64 (i:Int)/\OwnI w.heap.size w' v l/\w.grownBy w' none) N
  ⟨0,_,[],Nat.zero_le _,rfl,by simp[dgL],zb,zb,zb,zb,HO0.out,HG0.out⟩ ?_
 clear s0 s1 σ HO0 HG0;rintro kk σ wk ⟨i,v,l,hi,hkk,hl,s0,s1,s5,s6,hown,hg⟩ RK KK HRK hKK;have HKK:=zH hkk;have HC:=zH hl;have HG:=zH hg;have hll:l.length<=4000000:=by have:=zf0 b (s.take i);rw[List.length_take]at this;rw[hl];omega
 clear hkk hl hg;by_cases hiN:i<N
 ·have hidx:=xu s i zn;have hts:=zrx b s i zn;rw[<-HC.out]at hts;have hiN':(i:Int)<(N:Int):=zd;generalize s.getD i 0=c at *
  have hL:=HD.out c;unfold vp at hts;unfold zfx at hL;cases hdc:dig b c with
  | none=>
   rw[hdc]at hts hL;have HTS:=zH hts;have HL:=zH hL;have HO:=zH hown;clear hts hL hown hdc;(go_wp2_with (first | (refine (HL.out _).mono ?_;rintro e w8 ⟨rfl,rfl⟩));repeat ((first|refine cZ ?_|refine cW ?_);go_wp2_with (first | (refine (HL.out _).mono ?_;rintro e w8 ⟨rfl,rfl⟩))));exact wo HRK (N-(i+1)) (by have:=HKK.out;omega) ⟨i+1,v,l,zd,rfl,HTS.out.symm,zb,zb,zb,zj,HO.out,HG.out⟩
  | some d=>
   have hd16:=zss hdc;rw[hdc]at hts hL;have hts':dgL b (s.take (i+1))=if 0<d\/l≠[] then l++[d] else l:=hts
   clear hts hdc;by_cases hd0:0<d
   ·rw[if_pos (Or.inl hd0)]at hts';have HTS:=zH hts';have HL:=zH hL;have HO:=zH hown;have hd1:(0:Int)<(d:Int):=zd;clear hts' hL hown;(go_wp2_with (first | (at_builtin;refine yk rfl _ _ _ _ rfl ze ze ug (HO.out.alloc _) zb _ zb [d] (xl Tryz.underlying35 _ d _ rfl) zh ?_;intro v1 w1 ho1 hs1) | (refine (HL.out _).mono ?_;rintro e w8 ⟨rfl,rfl⟩));repeat ((first|refine cZ ?_|refine cW ?_);go_wp2_with (first | (at_builtin;refine yk rfl _ _ _ _ rfl ze ze ug (HO.out.alloc _) zb _ zb [d] (xl Tryz.underlying35 _ d _ rfl) zh ?_;intro v1 w1 ho1 hs1) | (refine (HL.out _).mono ?_;rintro e w8 ⟨rfl,rfl⟩))));exact wo HRK (N-(i+1)) (by have:=HKK.out;omega) ⟨i+1,v1,l++[d],zd,rfl,HTS.out.symm,zb,zb,zb,zj,ho1,wi (Nat.le_refl _) (ya HG.out (World.grownBy_alloc wk _ none)) (HO.out.alloc _) hs1⟩
   ·have hd1:d=0:=zd;subst hd1;obtain⟨g,cc,rfl,hb1,hb2,hb3,hb4⟩:=hown.block;obtain⟨M,hM⟩:=zX l.length;rw[hM]at hown s5 hb3 hll;by_cases hlz:l=[]
    ·subst hlz;rw[if_neg zi]at hts';simp only[List.length_nil]at hM;subst hM;have HTS:=zH hts';have HL:=zH hL;have HO:=zH hown;clear hts' hL hown;(go_wp2_with (first | (refine (HL.out _).mono ?_;rintro e w8 ⟨rfl,rfl⟩));repeat ((first|refine cZ ?_|refine cW ?_);go_wp2_with (first | (refine (HL.out _).mono ?_;rintro e w8 ⟨rfl,rfl⟩))));exact wo HRK (N-(i+1)) (by have:=HKK.out;omega) ⟨i+1,_,[],zd,rfl,HTS.out.symm,zb,zb,zb,zj,HO.out,HG.out⟩
    ·rw[if_pos (Or.inr hlz)]at hts';have hM0:0<M:=by rw[<-hM];exact List.length_pos_iff.2 hlz
     have HTS:=zH hts';have HL:=zH hL;have HO:=zH hown;have HM:=zH hM;have hM1:(0:Int)<(M:Int):=zd;clear hts' hL hown hlz hM hb1 hb2 hb3 hb4;(go_wp2_with (first | (at_builtin;refine yk rfl _ _ _ _ rfl ze ze ug (HO.out.alloc _) zb _ zb [0] (xl Tryz.underlying35 _ 0 _ rfl) (by rw[HM.out];simp;omega) ?_;intro v1 w1 ho1 hs1) | (refine (HL.out _).mono ?_;rintro e w8 ⟨rfl,rfl⟩));repeat ((first|refine cZ ?_|refine cW ?_);go_wp2_with (first | (at_builtin;refine yk rfl _ _ _ _ rfl ze ze ug (HO.out.alloc _) zb _ zb [0] (xl Tryz.underlying35 _ 0 _ rfl) (by rw[HM.out];simp;omega) ?_;intro v1 w1 ho1 hs1) | (refine (HL.out _).mono ?_;rintro e w8 ⟨rfl,rfl⟩))));exact wo HRK (N-(i+1)) (by have:=HKK.out;omega) ⟨i+1,v1,l++[0],zd,rfl,HTS.out.symm,zb,zb,zb,zj,ho1,wi (Nat.le_refl _) (ya HG.out (World.grownBy_alloc wk _ none)) (HO.out.alloc _) hs1⟩
 ·have hiN':decide (i<N)=false:=zβw;have hall:s.take i=s:=List.take_of_length_le zt;rw[hall]at HC;have HO:=zH hown;clear hall hown;(go_wp2_with fail;repeat ((first|refine cZ ?_|refine cW ?_);go_wp2_with fail));exact yl v rfl ze zb ⟨v,rfl,by rw[<-HC.out];exact HO.out,HG.out⟩
end
section
attribute [local go_sem] undef
set_option maxRecDepth 100000 in
theorem zm6 (b:Nat) (hb:b=10\/b=16) (s:List UInt8) (i0:Nat) (w:World) (hs:s.length<=4000000) (hi0:i0<=s.length):
  Calls Tryz.prog 72 #[.string ⟨s.toArray⟩,.int .i64 (i0:Int),.int .i64 (b:Int)] w fun e w'=>e=.returned (.int .i64 ((i0+jh b (s.drop i0):Nat):Int))/\w=w':=by
 have HD:=zH (fun c W=>zaq b hb c W);clear hb;refine ye Tryz.func72 rfl (by rw[Tryz.ntmps72];simp) ?_;intro σ hσ;rw[Tryz.ntmps72];have s0:σ 0=.string ⟨s.toArray⟩:=hσ 0 zi;have s1:σ 1=.int .i64 (i0:Int):=hσ 1 zi;have s2:σ 2=.int .i64 (b:Int):=hσ 2 zi;clear hσ;have hsz:(⟨s.toArray⟩:ByteArray).size=s.length:=zm;obtain⟨N,hN⟩:=zX s.length;rw[hN]at hsz hs hi0;have HN:=zH hN;clear hN;by_cases hiN:i0<N
 case neg=>
  have e0:i0=N:=zd;subst e0;have e:jh b (s.drop i0)=0:=by rw[List.drop_of_length_le zR];rfl
  rw[e,Nat.add_zero];clear e hiN;(go_wp2_with fail;repeat ((first|refine cZ ?_|refine cW ?_);go_wp2_with fail));exact yl (.int .i64 (i0:Int)) rfl ze zb ⟨rfl,rfl⟩
 have hidx:=xu s i0 zn;have hdr:=ua s i0 zn;rw[hdr];clear hdr;have hiN':(i0:Int)<(N:Int):=zd;have hiN2:decide ((N:Int)<=(i0:Int))=false:=zh;have hiN3:decide (N<=i0)=false:=zh;generalize s.getD i0 0=c at *
 have hL:=HD.out c;by_cases hd:isD b c=true
 case neg=>
  have hd':isD b c=false:=by simpa using hd
  rw[zdm hd']at hL;have HL:=zH hL;have e:jh b (c::s.drop (i0+1))=0:=by rw[jh,if_neg hd]
  rw[e,Nat.add_zero];clear e hd hd' hL;(go_wp2_with (first | (refine (HL.out _).mono ?_;rintro e w8 ⟨rfl,rfl⟩));repeat ((first|refine cZ ?_|refine cW ?_);go_wp2_with (first | (refine (HL.out _).mono ?_;rintro e w8 ⟨rfl,rfl⟩))));exact yl (.int .i64 (i0:Int)) rfl ze zb ⟨rfl,rfl⟩
 have e:jh b (c::s.drop (i0+1))=1+yft b (s.drop (i0+1)):=by rw[jh,if_pos hd]
 rw[e];have hge:=zdn hd;have hlt0:decide (zfx b c<0)=false:=zh;obtain⟨E,hE⟩:=zX (i0+(1+yft b (s.drop (i0+1))));rw[hE];have HE:=zH (show i0+1+yft b (s.drop (i0+1))=E by omega);have HL:=zH hL;clear e hE hL hd hge;generalize zfx b c=z at *
 (go_wp2_with (first | (refine (HL.out _).mono ?_;rintro e w8 ⟨rfl,rfl⟩));repeat ((first|refine cZ ?_|refine cW ?_);go_wp2_with (first | (refine (HL.out _).mono ?_;rintro e w8 ⟨rfl,rfl⟩))));refine xb (fun kk s' w'=>∃ (i:Nat),i<=N/\kk=N-i/\i+yft b (s.drop i)=E/\s' 0=.string ⟨s.toArray⟩/\s' 1=.int .i64 (i:Int)/\s' 2=.int .i64 (b:Int)/\w=w') (N-(i0+1))
  ⟨i0+1,zd,rfl,HE.out,zb,zj,zb,rfl⟩ ?_
 clear s0 s1 s2 σ HE HL hidx hiN hiN' hiN2 hiN3 hlt0 z;rintro kk σ wk ⟨i,hi,hkk,hE,s0,s1,s2,rfl⟩ RK KK HRK hKK;have HKK:=zH hkk;clear hkk;by_cases hiN:i<N
 case neg=>
  have e0:i=N:=zd;subst e0;have e:yft b (s.drop i)=0:=by rw[List.drop_of_length_le zR];rfl
  rw[e,Nat.add_zero]at hE;subst hE;clear e hiN;(go_wp2_with fail;repeat ((first|refine cZ ?_|refine cW ?_);go_wp2_with fail));exact yl (.int .i64 (i:Int)) rfl ze zb ⟨rfl,rfl⟩
 have hidx:=xu s i zn;have hdr:=ua s i zn;rw[hdr]at hE;clear hdr;have hiN':(i:Int)<(N:Int):=zd;generalize s.getD i 0=x at *
 have hL:=HD.out x;by_cases hd:isD b x=true
 ·rw[zjt b x _ hd]at hE;have hge:=zdn hd;have HE:=zH hE;have HL:=zH hL;clear hE hL hd;generalize zfx b x=z at *
  (go_wp2_with (first | (refine (HL.out _).mono ?_;rintro e w8 ⟨rfl,rfl⟩));repeat ((first|refine cZ ?_|refine cW ?_);go_wp2_with (first | (refine (HL.out _).mono ?_;rintro e w8 ⟨rfl,rfl⟩))));exact wo HRK (N-(i+1)) (by have:=HKK.out;omega) ⟨i+1,zd,rfl,by have:=HE.out;omega,zb,zj,zb,rfl⟩
 ·have hd':isD b x=false:=by simpa using hd
  have hzx:=zdm hd';rw[hzx]at hL;have HL:=zH hL;clear hL hd;by_cases hx:x.toNat=95
  case neg=>
   rw[zaz b x _ hd' (by rintro d r' _ ⟨rfl,_⟩;exact hx rfl),Nat.add_zero]at hE;subst hE;have hx1:((x.toNat:Int)==95)=false:=zf;have hx2:(x.toNat==95)=false:=zf;clear hd';(go_wp2_with (first | (refine (HL.out _).mono ?_;rintro e w8 ⟨rfl,rfl⟩));repeat ((first|refine cZ ?_|refine cW ?_);go_wp2_with (first | (refine (HL.out _).mono ?_;rintro e w8 ⟨rfl,rfl⟩))));exact yl (.int .i64 (i:Int)) rfl ze zb ⟨rfl,rfl⟩
  have hx0:x=95:=UInt8.toNat_inj.1 hx;have hx1:((x.toNat:Int)==95)=true:=zo;have hx2:(x.toNat==95)=true:=by rw[beq_iff_eq];exact hx
  clear hx;by_cases hi1:i+1<N
  case neg=>
   have e:s.drop (i+1)=[]:=List.drop_of_length_le zt;rw[e,zaz b x _ hd' (by intro d r' h;cases h),Nat.add_zero]at hE;subst hE;clear hx0;have h1:decide ((i:Int)+1<(N:Int))=false:=zh;have h2:decide (i+1<N)=false:=zh;clear hd' e;(go_wp2_with (first | (refine (HL.out _).mono ?_;rintro e w8 ⟨rfl,rfl⟩));repeat ((first|refine cZ ?_|refine cW ?_);go_wp2_with (first | (refine (HL.out _).mono ?_;rintro e w8 ⟨rfl,rfl⟩))));exact yl (.int .i64 (i:Int)) rfl ze zb ⟨rfl,rfl⟩
  have hidx2:=xu s (i+1) (by rw[HN.out];exact hi1);have hdr:=ua s (i+1) (by rw[HN.out];exact hi1);rw[hdr]at hE;clear hdr;have h1:(i:Int)+1<(N:Int):=zd;generalize s.getD (i+1) 0=y at *
  have hL2:=HD.out y;rw[hx0]at hE hd';clear hx0;by_cases hdy:isD b y=true
  ·rw[zd9 b y _ hd' hdy]at hE;have hge:=zdn hdy;have HE:=zH hE;clear hE hL2 hdy hd' HL;(go_wp2_with (first | (refine (HD.out _ _).mono ?_;rintro e w8 ⟨rfl,rfl⟩));repeat ((first|refine cZ ?_|refine cW ?_);go_wp2_with (first | (refine (HD.out _ _).mono ?_;rintro e w8 ⟨rfl,rfl⟩))));exact wo HRK (N-(i+2)) (by have:=HKK.out;omega) ⟨i+2,zd,rfl,by have h9:=HE.out;rw[show i+1+1=i+2 from rfl]at h9;omega,zb,zj,zb,rfl⟩
  ·have hdy':isD b y=false:=by simpa using hdy
   rw[zaz b 95 _ hd' (by intro d r' h;cases h;rintro⟨_,h⟩;exact hdy h),Nat.add_zero]at hE;subst hE;have hzy:=zdm hdy';clear hL2 hdy hd' hdy' HL;(go_wp2_with (first | (refine (HD.out _ _).mono ?_;rintro e w8 ⟨rfl,rfl⟩));repeat ((first|refine cZ ?_|refine cW ?_);go_wp2_with (first | (refine (HD.out _ _).mono ?_;rintro e w8 ⟨rfl,rfl⟩))));exact yl (.int .i64 (i:Int)) rfl ze zb ⟨rfl,rfl⟩
end
section
attribute [local go_sem] undef
def zb2 (neg:Bool) (s:List UInt8) (k:Nat):Option Int:=zft neg (s.drop k)
theorem zou (letter:UInt8) (s:List UInt8) (h:1<s.length) (h0:s.getD 0 0=letter):
  (s.getD 1 0=43/\jc letter s=zb2 false s 2)\/(s.getD 1 0=45/\jc letter s=zb2 true s 2)\/(s.getD 1 0≠43/\s.getD 1 0≠45/\jc letter s=zb2 false s 1):=by
 match s,h with
 | c::x::r,_=>
  have hc:c=letter:=h0;subst hc;show (x=43/\_)\/(x=45/\_)\/(x≠43/\x≠45/\_);by_cases h1:x=43
  ·left;refine⟨h1,?_⟩;subst h1;show (if c≠c then none else _)=_;rw[if_neg zi];rfl
  ·right;by_cases h2:x=45
   ·left;refine⟨h2,?_⟩;subst h2;show (if c≠c then none else _)=_;rw[if_neg zi];rfl
   ·right;refine⟨h1,h2,?_⟩;show (if c≠c then none else zft (sgL (x::r)).1 (sgL (x::r)).2)=_;rw[if_neg zi,sgL,if_neg h1,if_neg h2];rfl
theorem zro (letter:UInt8) (s:List UInt8) (h:s.length=1) (h0:s.getD 0 0=letter):jc letter s=zb2 false s 1:=by
 match s,h with
 | [c],_=>
  have hc:c=letter:=h0;subst hc;show (if c≠c then none else _)=_;rw[if_neg zi];rfl
theorem zup (letter:UInt8) (s:List UInt8) (h:s.length≠0) (h0:s.getD 0 0≠letter):jc letter s=none:=by
 match s,h with
 | [],h=>exact absurd rfl h
 | c::r,_=>show (if c≠letter then none else _)=none;exact if_pos h0
def optI (o:Option Int):Value:=.tuple #[.int .i64 (o.getD 0),.bool o.isSome]
theorem u8_ne (x y:UInt8) (h:x≠y):((x.toNat:Int)==(y.toNat:Int))=false/\(x.toNat==y.toNat)=false:=by
 have h1:x.toNat≠y.toNat:=fun e=>h (UInt8.toNat_inj.1 e)
 exact⟨zf,by rw[beq_eq_false_iff_ne];exact h1⟩
set_option maxRecDepth 100000 in
theorem zhg (letter:UInt8) (s:List UInt8) (w:World) (hs:s.length<=4000000):
  Calls Tryz.prog 74 #[.string ⟨s.toArray⟩,.int .u8 (letter.toNat:Int)] w fun e w'=>e=.returned (optI (jc letter s))/\w.grownBy w' none:=by
 refine ye Tryz.func74 rfl (by rw[Tryz.ntmps74];simp) ?_;intro σ hσ;rw[Tryz.ntmps74];have s0:σ 0=.string ⟨s.toArray⟩:=hσ 0 zi;have s1:σ 1=.int .u8 (letter.toNat:Int):=hσ 1 zi;clear hσ;have hsz:(⟨s.toArray⟩:ByteArray).size=s.length:=zm;obtain⟨N,hN⟩:=zX s.length;rw[hN]at hsz hs;have HN:=zH hN;by_cases hN0:N=0
 ·have e:s=[]:=List.length_eq_zero_iff.1 (by rw[hN];exact hN0);subst e;clear hN;(go_wp2_with fail;repeat ((first|refine cZ ?_|refine cW ?_);go_wp2_with fail));exact xc (.int .i64 0) (.bool false) rfl ze ze zb zb ⟨rfl,yy w none⟩
 have hemp:s.isEmpty=false:=by
  cases s with
  | nil=>exact absurd hN.symm hN0
  | cons a r=>rfl
 clear hN;have hidx:=xu s 0 zt;have hN1:(0:Int)<(N:Int):=zd;have hN2:0<N:=zd;obtain⟨c,hc⟩:=zX (s.getD 0 0);rw[hc]at hidx;have HC:=zH hc;clear hc;by_cases hcl:c=letter
 case neg=>
  obtain⟨q1,q2⟩:=u8_ne c letter hcl;have q3:((c.toNat:Int) != (letter.toNat:Int))=true:=by rw[bne,q1];rfl
  have q4:(c.toNat != letter.toNat)=true:=by rw[bne,q2];rfl
  have HE:=zH (zup letter s (by rw[HN.out];exact hN0) (by rw[HC.out];exact hcl));clear hcl;(go_wp2_with fail;repeat ((first|refine cZ ?_|refine cW ?_);go_wp2_with fail));exact xc (.int .i64 0) (.bool false) rfl ze ze zb zb ⟨zβy,yy w none⟩
 have q3:((c.toNat:Int) != (letter.toNat:Int))=false:=by subst hcl;simp
 have q4:(c.toNat != letter.toNat)=false:=by subst hcl;simp
 have HCL:=zH hcl;clear hcl;obtain⟨neg,k,hk1,hkN,HE,hcase⟩:∃ (neg:Bool) (k:Nat),1<=k/\k<=N/\Hid (jc letter s=zb2 neg s k)/\((k=1/\neg=false/\N=1)\/(k=1/\neg=false/\1<N/\s.getD 1 0≠43/\s.getD 1 0≠45)\/(k=2/\neg=false/\1<N/\s.getD 1 0=43)\/(k=2/\neg=true/\1<N/\s.getD 1 0=45)):=by
  by_cases hN9:N=1
  ·exact⟨false,1,Nat.le_refl _,zd,zro letter s (by rw[HN.out];exact hN9) (by rw[HC.out];exact HCL.out),Or.inl ⟨rfl,rfl,hN9⟩⟩
  ·rcases zou letter s zt (by rw[HC.out];exact HCL.out) with⟨a,b⟩ | ⟨a,b⟩ | ⟨a,b,c⟩
   ·exact⟨false,2,zd,zd,b,Or.inr (Or.inr (Or.inl ⟨rfl,rfl,zd,a⟩))⟩
   ·exact⟨true,2,zd,zd,b,Or.inr (Or.inr (Or.inr ⟨rfl,rfl,zd,a⟩))⟩
   ·exact⟨false,1,zd,zd,c,Or.inr (Or.inl ⟨rfl,rfl,zd,a,b⟩)⟩
 clear hN0;((repeat (go_upto_region 5 with fail;first | (refine jq ?hc ze ?_;(case hc=>(simp[ov, *];done))) | (refine kj ?hc ze ?_;(case hc=>(simp[ov, *];done)))));go_upto_region 5 with fail);refine yr (fun s' w'=>s' 34=.bool (k==2)/\s' 0=.string ⟨s.toArray⟩/\s' 6=.int .i64 1/\s' 7=.bool false/\w=w') ?_ ?_
 ·intro R' K' HR hK';rcases hcase with⟨rfl,rfl,rfl⟩ | ⟨rfl,rfl,h1,h43,h45⟩ | ⟨rfl,rfl,h1,h43⟩ | ⟨rfl,rfl,h1,h45⟩
  ·(go_wp2_with fail;repeat ((first|refine cZ ?_|refine cW ?_);go_wp2_with fail));exact got HR zb
  ·have hidx1:=xu s 1 zS;generalize s.getD 1 0=x at *
   have n43:x.toNat≠43:=fun e=>h43 (UInt8.toNat_inj.1 e)
   have n45:x.toNat≠45:=fun e=>h45 (UInt8.toNat_inj.1 e)
   have p1a:((x.toNat:Int)==43)=false:=zf;have p1b:(x.toNat==43)=false:=by rw[beq_eq_false_iff_ne];exact n43
   have p2a:((x.toNat:Int)==45)=false:=zf;have p2b:(x.toNat==45)=false:=by rw[beq_eq_false_iff_ne];exact n45
   clear n43 n45 h43 h45;have h1':(1:Int)<(N:Int):=zd;(go_wp2_with fail;repeat ((first|refine cZ ?_|refine cW ?_);go_wp2_with fail));exact got HR zb
  ·have hidx1:=xu s 1 zS;rw[h43]at hidx1;clear h43;have h1':(1:Int)<(N:Int):=zd;(go_wp2_with fail;repeat ((first|refine cZ ?_|refine cW ?_);go_wp2_with fail));exact got HR zb
  ·have hidx1:=xu s 1 zS;rw[h45]at hidx1;clear h45;have h1':(1:Int)<(N:Int):=zd;(go_wp2_with fail;repeat ((first|refine cZ ?_|refine cW ?_);go_wp2_with fail));exact got HR zb
 clear s0 s1 σ;rintro σ w' ⟨s34,s0,s6,s7,rfl⟩;go_wp2_with fail;refine yr (fun s' w'=>s' 0=.string ⟨s.toArray⟩/\s' 6=.int .i64 (k:Int)/\s' 7=.bool neg/\w=w') ?_ ?_
 ·intro R' K' HR hK';rcases hcase with⟨rfl,rfl,rfl⟩ | ⟨rfl,rfl,h1,h43,h45⟩ | ⟨rfl,rfl,h1,h43⟩ | ⟨rfl,rfl,h1,h45⟩
  ·refine kj zb ze ?_;(go_wp2_with fail;repeat ((first|refine cZ ?_|refine cW ?_);go_wp2_with fail));exact got HR zb
  ·refine kj zb ze ?_;clear h43 h45;(go_wp2_with fail;repeat ((first|refine cZ ?_|refine cW ?_);go_wp2_with fail));exact got HR zb
  ·refine jq zb ze ?_;have hidx1:=xu s 1 zS;rw[h43]at hidx1;clear h43;have h1':(1:Int)<(N:Int):=zd;(go_wp2_with fail;repeat ((first|refine cZ ?_|refine cW ?_);go_wp2_with fail));exact got HR zb
  ·refine jq zb ze ?_;have hidx1:=xu s 1 zS;rw[h45]at hidx1;clear h45;have h1':(1:Int)<(N:Int):=zd;(go_wp2_with fail;repeat ((first|refine cZ ?_|refine cW ?_);go_wp2_with fail));exact got HR zb
 clear s34 s0 s6 s7 σ hcase HCL HC q3 q4 hidx hemp hN1 hN2;rintro σ w' ⟨s0,s6,s7,rfl⟩;have hrun:=zm6 10 (Or.inl rfl) s k w (by rw[HN.out];exact hs) (by rw[HN.out];exact hkN);rw[show ((10:Nat):Int)=10 from rfl]at hrun;have hEle:=zh4 10 (s.drop k);rw[List.length_drop,HN.out]at hEle;obtain⟨E,hE⟩:=zX (k+jh 10 (s.drop k));rw[hE]at hrun;have HRUN:=zH hrun;have hEN:E<=N:=zd;have HEE:=zH hE;clear hrun hE hEle;by_cases hkn:k=N
 ·subst hkn;have hres:jc letter s=none:=by
   rw[HE.out];unfold zb2 zft;rw[if_pos (Or.inl (List.drop_of_length_le zR))]
  have HRES:=zH hres;clear hres;(go_wp2_with fail;repeat ((first|refine cZ ?_|refine cW ?_);go_wp2_with fail));exact xc (.int .i64 0) (.bool false) rfl ze ze zb zb ⟨by rw[HRES.out];rfl,yy w none⟩
 have r1:((k:Int)==(N:Int))=false:=zf;have r2:(k==N)=false:=zf;by_cases hEn:E=N
 case neg=>
  have hres:jc letter s=none:=by
   rw[HE.out];unfold zb2 zft;rw[if_pos (Or.inr (by rw[List.length_drop,HN.out];have:=HEE.out;omega))]
  have HRES:=zH hres;have r3:((E:Int) != (N:Int))=true:=zQ;have r4:(E != N)=true:=zQ;clear hres;(go_wp2_with (first | (refine HRUN.out.mono ?_;rintro e w8 ⟨rfl,rfl⟩));repeat ((first|refine cZ ?_|refine cW ?_);go_wp2_with (first | (refine HRUN.out.mono ?_;rintro e w8 ⟨rfl,rfl⟩))));exact xc (.int .i64 0) (.bool false) rfl ze ze zb zb ⟨by rw[HRES.out];rfl,yy w none⟩
 subst hEn;have hres:jc letter s=some (if neg then -(ki (dgL 10 (s.drop k)):Int) else (ki (dgL 10 (s.drop k)):Int)):=by
  rw[HE.out];unfold zb2 zft;rw[if_neg];rintro (h | h)
  ·have:=congrArg List.length h;rw[List.length_drop,HN.out,List.length_nil]at this;omega
  ·rw[List.length_drop,HN.out]at h;have:=HEE.out;omega
 have HRES:=zH hres;have hext:(⟨s.toArray⟩:ByteArray).extract k E=⟨(s.drop k).toArray⟩:=by
  apply ByteArray.ext;simp[ByteArray.data_extract];exact List.take_of_length_le (by rw[List.length_drop,HN.out];exact Nat.le_refl _)
 have hdg:=zbz 10 (Or.inl rfl) (s.drop k) w zαb;rw[show ((10:Nat):Int)=10 from rfl]at hdg;have HDG:=zH hdg;have hdl:=zf0 10 (s.drop k);rw[List.length_drop,HN.out]at hdl;have HDD:=zH (zwv 10 (s.drop k));clear hres hdg;generalize dgL 10 (s.drop k)=l at *
 obtain⟨M,hM⟩:=zX l.length;rw[hM]at hdl;have HM:=zH hM;clear hM;(go_wp2_with (first | (refine HRUN.out.mono ?_;rintro e w8 ⟨rfl,rfl⟩) | (refine HDG.out.mono ?_;rintro e w8 ⟨v8,rfl,ho8,hg8⟩;obtain⟨g8,c8,hv8,b1,b2,b3,b4⟩:=ho8.block;rw[HM.out]at hv8 b3;subst hv8));repeat ((first|refine cZ ?_|refine cW ?_);go_wp2_with (first | (refine HRUN.out.mono ?_;rintro e w8 ⟨rfl,rfl⟩) | (refine HDG.out.mono ?_;rintro e w8 ⟨v8,rfl,ho8,hg8⟩;obtain⟨g8,c8,hv8,b1,b2,b3,b4⟩:=ho8.block;rw[HM.out]at hv8 b3;subst hv8))));have HO:=zH ho8;have HG:=zH hg8;clear ho8 hg8;refine xb (fun kk s' w'=>∃ (i n:Nat),i<=M/\kk=M-i/\n=ki (l.take i)/\n<=1000000000000000/\s' 7=.bool neg/\s' 8=.int .i64 (n:Int)/\s' 56=.slice (some ⟨g8,0,none⟩) M c8/\s' 57=.int .i64 (M:Int)/\s' 58=.int .i64 (i:Int)/\w8.grownBy w' none) M
  ⟨0,0,Nat.zero_le _,rfl,rfl,zd,zb,zb,zb,zb,zb,yy w8 none⟩ ?_
 clear s0 s6 s7 σ HRUN HEE HDG;rintro kk σ wk ⟨i,n,hi,hkk,hn,hn1,s7,s8,s56,s57,s58,hgk⟩ RK KK HRK hKK;have HKK:=zH hkk;have HNN:=zH hn;have HGK:=zH hgk;clear hkk hn hgk;by_cases hiM:i<M
 ·obtain⟨d,hd⟩:∃ d,l[i]?=some d:=⟨l[i]'(by rw[HM.out];exact hiM),List.getElem?_eq_getElem _⟩;have hcj:=(HO.out.grown0 HGK.out).cell i d hd;unfold qd at hcj;have hd16:=HDD.out d (List.mem_of_getElem? hd);have hts:=zl1 l i (by rw[HM.out];exact hiM);have hgd:l.getD i 0=d:=by rw[List.getD_eq_getElem?_getD,hd];rfl
  rw[hgd,<-HNN.out]at hts;have HTS:=zH hts;have hiM':(i:Int)<(M:Int):=zd;clear hd hgd hts;by_cases hmin:n*10+d<=1000000000000000
  ·have hmi:min ((n:Int)*10+(d:Int)) 1000000000000000=(n:Int)*10+(d:Int):=zd;(go_wp2_with fail;repeat ((first|refine cZ ?_|refine cW ?_);go_wp2_with fail));exact wo HRK (M-(i+1)) (by have:=HKK.out;omega) ⟨i+1,n*10+d,zd,rfl,by rw[HTS.out];omega,zd,zb,zb,zb,zb,zj,HGK.out⟩
  ·have hmi:min ((n:Int)*10+(d:Int)) 1000000000000000=1000000000000000:=zd;(go_wp2_with fail;repeat ((first|refine cZ ?_|refine cW ?_);go_wp2_with fail));exact wo HRK (M-(i+1)) (by have:=HKK.out;omega) ⟨i+1,1000000000000000,zd,rfl,by rw[HTS.out];omega,zd,zb,zb,zb,zb,zj,HGK.out⟩
 ·have hiM':decide (i<M)=false:=by simpa using hiM
  have hall:l.take i=l:=List.take_of_length_le (by rw[HM.out];omega);have hfin:ki l=n:=by rw[HNN.out,hall]
  have HF:=zH hfin;clear hall hfin;cases neg with
  | true=>
   (go_wp2_with fail;repeat ((first|refine cZ ?_|refine cW ?_);go_wp2_with fail));exact xc (.int .i64 (-(n:Int))) (.bool true) rfl ze ze zb zb ⟨by rw[HRES.out,HF.out];rfl,ya HG.out HGK.out⟩
  | false=>
   (go_wp2_with fail;repeat ((first|refine cZ ?_|refine cW ?_);go_wp2_with fail));exact xc (.int .i64 (n:Int)) (.bool true) rfl ze ze zb zb ⟨by rw[HRES.out,HF.out];rfl,ya HG.out HGK.out⟩
end
theorem zhk:∀ (k:Nat) (s p:List UInt8),k<=p.length->(k<=cpL s p↔k<=s.length/\xf (s.take k)=p.take k)
 | 0,s,p,_=>by simp[xf]
 | k+1,[],p,_=>by
  have:cpL [] p=0:=by cases p <;> rfl
  simp[this]
 | k+1,c::s,[],h=>by simp at h
 | k+1,c::s,q::p,h=>by
  have ih:=zhk k s p zI
  show k+1<=(if vb c=q then 1+cpL s p else 0)↔_
  by_cases hc:vb c=q
  ·rw[if_pos hc]
   have e:xf ((c::s).take (k+1))=vb c::xf (s.take k):=rfl
   rw[e,List.take_succ_cons,hc,List.length_cons]
   constructor
   ·intro h1
    obtain⟨h2,h3⟩:=ih.1 zd
    exact⟨zd,by rw[h3]⟩
   ·rintro⟨h1,h2⟩
    have:=ih.2 ⟨zd,(List.cons.inj h2).2⟩
    omega
  ·rw[if_neg hc]
   have e:xf ((c::s).take (k+1))=vb c::xf (s.take k):=rfl
   rw[e,List.take_succ_cons]
   constructor
   ·intro h1;omega
   ·rintro⟨h1,h2⟩
    exact absurd (List.cons.inj h2).1 hc
theorem ut (c:UInt8):∀ x:UInt8,(x=105\/x=110)->(vb c=x↔c=x\/c=x-32):=by
 intro x hx;rcases hx with rfl | rfl <;> revert c <;> refine vu _ ?_ <;> decide +kernel
theorem kg {s:List UInt8} {c:UInt8} {r:List UInt8} (h:(sgn s).2=c::r) (hc:vb c=105\/vb c=110):zau s=none:=by
 have h4:c=105\/c=73\/c=110\/c=78:=by
  rcases hc with hc | hc
  ·rcases (ut c 105 (Or.inl rfl)).1 hc with h | h
   ·exact Or.inl h
   ·exact Or.inr (Or.inl h)
  ·rcases (ut c 110 (Or.inr rfl)).1 hc with h | h
   ·exact Or.inr (Or.inr (Or.inl h))
   ·exact Or.inr (Or.inr (Or.inr h))
 have hx:yo (sgn s).2=false:=by
  rw[h];match r with
  | []=>rfl
  | [_]=>rfl
  | x::y::r=>
   show decide (c=48/\wc x=120)=false;apply decide_eq_false;rintro⟨rfl,-⟩;revert h4;decide
 have hb:yj s=c::r:=by unfold yj;rw[hx,h];rfl
 have hd:xe false c=false:=by rcases h4 with rfl | rfl | rfl | rfl <;> decide
 have h46:c≠46:=by rintro rfl;revert h4;decide
 rw[jv,if_pos];rw[hx,hb];have e1:ve false (c::r)=[]:=by unfold ve;rw[List.takeWhile_cons_of_neg (by rw[hd];decide)]
 have e2:qi false (c::r)=c::r:=by unfold qi;rw[List.dropWhile_cons_of_neg (by rw[hd];decide)]
 have e3:yw false (c::r)=[]:=by
  unfold yw;rw[e2,if_neg];intro h;exact h46 zI
 rw[e1,e3];exact⟨rfl,rfl⟩
theorem zj8 (s:List UInt8):(xf s).length=s.length:=by unfold xf;simp
theorem ziv (neg:Bool) (k:Nat) (t:List UInt8):
  (xf t=[105,110,102]\/xf t=[105,110,102,105,110,105,116,121]->zd3 neg k t=some (kp neg,k+t.length))/\
  (¬(xf t=[105,110,102]\/xf t=[105,110,102,105,110,105,116,121])->zd3 neg k t=none\/∃ n,zd3 neg k t=some (kp neg,n)/\n≠k+t.length/\∃ c r,t=c::r/\vb c=105):=by
 have h8:=zhk 8 t infinityL ze;have h3:=zhk 3 t infinityL ze;have h4:=zhk 4 t infinityL ze;have hle:=zer t infinityL;change cpL t infinityL<=8 at hle;have hd8:xf (t.take 8)=(xf t).take 8:=zαk;have hd3:xf (t.take 3)=(xf t).take 3:=zαk;have hd4:xf (t.take 4)=(xf t).take 4:=zαk;rw[hd8]at h8;rw[hd3]at h3;rw[hd4]at h4;have hlen:=zj8 t;unfold zd3;constructor
 ·rintro (h | h)
  ·rw[h]at h8 h3 h4 hlen;have hl:t.length=3:=hlen.symm;have a3:3<=cpL t infinityL:=h3.2 ⟨zd,rfl⟩;have a8:¬8<=cpL t infinityL:=fun h=>by have:=(h8.1 h).1;omega
   rw[if_neg zd,if_pos a3,hl]
  ·rw[h]at h8 h3 h4 hlen;have hl:t.length=8:=hlen.symm;have a8:8<=cpL t infinityL:=h8.2 ⟨zd,rfl⟩;rw[if_pos zd,hl]
 ·intro hno;have hhead:3<=cpL t infinityL->∃ c r,t=c::r/\vb c=105:=by
   intro h;obtain⟨h1,h2⟩:=h3.1 h;cases t with
   | nil=>simp at h1
   | cons c r=>
    refine⟨c,r,rfl,?_⟩;have:=congrArg List.head? h2;simpa[xf,infinityL]using this
  by_cases a8:cpL t infinityL=8
  ·rw[if_pos a8];refine Or.inr ⟨_,rfl,?_,hhead zd⟩;intro hl;obtain⟨h1,h2⟩:=h8.1 zd;refine hno (Or.inr ?_);rw[List.take_of_length_le zd]at h2;exact h2
  ·rw[if_neg a8];by_cases a3:3<=cpL t infinityL
   ·rw[if_pos a3];refine Or.inr ⟨_,rfl,?_,hhead a3⟩;intro hl;obtain⟨h1,h2⟩:=h3.1 a3;refine hno (Or.inl ?_);rw[List.take_of_length_le zd]at h2;exact h2
   ·rw[if_neg a3];exact Or.inl rfl
theorem zvo (s:List UInt8):
  (xf s=[110,97,110]->qp s=some (zmd,s.length))/\
  (xf s≠[110,97,110]->((sgn (xf s)).2=[105,110,102]\/(sgn (xf s)).2=[105,110,102,105,110,105,116,121])->qp s=some (kp (sgn (xf s)).1,s.length))/\
  (xf s≠[110,97,110]->¬((sgn (xf s)).2=[105,110,102]\/(sgn (xf s)).2=[105,110,102,105,110,105,116,121])->qp s=none\/∃ v n,qp s=some (v,n)/\n≠s.length/\zau s=none):=by
 have hsl:=zct s;rw[hsl];simp only;have hlen:=zj8 s;cases s with
 | nil=>
  refine⟨fun h=>by simp[xf]at h,fun _ h=>by simp[xf,sgn]at h,fun _ _=>Or.inl rfl⟩
 | cons c r=>
  have hdef:qp (c::r)=if c=43 then zd3 false 1 r else if c=45 then zd3 true 1 r else if c=105\/c=73 then zd3 false 0 (c::r) else if c=110\/c=78 then (if cpL (c::r) [110,97,110]=3 then some (zmd,3) else none) else none:=rfl
  by_cases c1:c=43
  ·have hs:sgn (c::r)=(false,r):=by rw[xq,if_pos c1]
   have hn:xf (c::r)≠[110,97,110]:=by
    rw[c1];intro h;have:=congrArg List.head? h;revert this;simp[xf];decide
   rw[hdef,if_pos c1,hs];obtain⟨i1,i2⟩:=ziv false 1 r;refine⟨fun h=>absurd h hn,fun _ h=>by rw[i1 h,List.length_cons,Nat.add_comm],fun _ h=>?_⟩;rcases i2 h with h2 | ⟨n,h2,h3,x,y,h4,h5⟩
   ·exact Or.inl h2
   ·exact Or.inr ⟨_,n,h2,zβA,kg (by rw[hs];exact h4) (Or.inl h5)⟩
  by_cases c2:c=45
  ·have hs:sgn (c::r)=(true,r):=by rw[xq,if_neg c1,if_pos c2]
   have hn:xf (c::r)≠[110,97,110]:=by
    rw[c2];intro h;have:=congrArg List.head? h;revert this;simp[xf];decide
   rw[hdef,if_neg c1,if_pos c2,hs];obtain⟨i1,i2⟩:=ziv true 1 r;refine⟨fun h=>absurd h hn,fun _ h=>by rw[i1 h,List.length_cons,Nat.add_comm],fun _ h=>?_⟩;rcases i2 h with h2 | ⟨n,h2,h3,x,y,h4,h5⟩
   ·exact Or.inl h2
   ·exact Or.inr ⟨_,n,h2,zβA,kg (by rw[hs];exact h4) (Or.inl h5)⟩
  have hs:sgn (c::r)=(false,c::r):=by rw[xq,if_neg c1,if_neg c2]
  rw[hdef,if_neg c1,if_neg c2,hs];simp only;by_cases c3:c=105\/c=73
  ·have hl:vb c=105:=(ut c 105 (Or.inl rfl)).2 c3;have hn:xf (c::r)≠[110,97,110]:=by
    intro h;have:=congrArg List.head? h;simp[xf,hl]at this
   rw[if_pos c3];obtain⟨i1,i2⟩:=ziv false 0 (c::r);refine⟨fun h=>absurd h hn,fun _ h=>by rw[i1 h,Nat.zero_add],fun _ h=>?_⟩;rcases i2 h with h2 | ⟨n,h2,h3,x,y,h4,h5⟩
   ·exact Or.inl h2
   ·exact Or.inr ⟨_,n,h2,zd,kg (by rw[hs]) (Or.inl hl)⟩
  ·have hl:vb c≠105:=fun h=>c3 ((ut c 105 (Or.inl rfl)).1 h)
   have hi:¬(xf (c::r)=[105,110,102]\/xf (c::r)=[105,110,102,105,110,105,116,121]):=by
    rintro (h | h) <;> · have:=congrArg List.head? h;simp[xf]at this;exact hl this
   rw[if_neg c3];have h3:=zhk 3 (c::r) [110,97,110] ze;have hd3:xf ((c::r).take 3)=(xf (c::r)).take 3:=zαk;rw[hd3]at h3;have hle:=zer (c::r) [110,97,110];change cpL (c::r) [110,97,110]<=3 at hle;by_cases c4:c=110\/c=78
   ·have hl4:vb c=110:=(ut c 110 (Or.inr rfl)).2 c4;rw[if_pos c4];refine⟨fun h=>?_,fun _ h=>absurd h hi,fun h _=>?_⟩
    ·rw[h]at h3 hlen;have a3:=h3.2 ⟨by rw[<-hlen];decide,rfl⟩;rw[if_pos zd,<-hlen];rfl
    ·by_cases a3:cpL (c::r) [110,97,110]=3
     ·rw[if_pos a3];refine Or.inr ⟨_,_,rfl,?_,kg (by rw[hs]) (Or.inr hl4)⟩;intro hl3;obtain⟨-,h2⟩:=h3.1 zd;rw[List.take_of_length_le zd]at h2;exact h h2
     ·rw[if_neg a3];exact Or.inl rfl
   ·rw[if_neg c4];refine⟨fun h=>?_,fun _ h=>absurd h hi,fun _ _=>Or.inl rfl⟩;exfalso;have:=congrArg List.head? h;simp[xf]at this;exact c4 ((ut c 110 (Or.inr rfl)).1 this)
def erK (k:Nat):Value:=if k=0 then .nilIface else if k=1 then .iface 95 (.int .i64 2) else .iface 95 (.int .i64 1)
theorem zus (b:Bool):erV b=erK (if b=true then 2 else 0):=by cases b <;> rfl
def spB (F:Nat) (bias:Int) (inf:Nat) (t:Txt):Nat:=spN F bias inf t.base t.digits t.exp
def PaQ64 (s:List UInt8) (v k:Nat):Prop:=match ul s with
 | none=>v=0/\k=1
 | some t=>(t.kind=2->(9218868437227405312<v%9223372036854775808/\v<18446744073709551616)/\k=0)/\(t.kind=1->v=kp t.neg/\k=0)/\
  (t.kind=0->v=sgB t.neg+spB 52 1023 9218868437227405312 t/\k=if spB 52 1023 9218868437227405312 t=9218868437227405312 then 2 else 0)
theorem zib (s:List UInt8):
  (xf s=[110,97,110]->ul s=some ⟨2,false,0,[],0⟩)/\
  (xf s≠[110,97,110]->((sgn (xf s)).2=[105,110,102]\/(sgn (xf s)).2=[105,110,102,105,110,105,116,121])->ul s=some ⟨1,(sgn (xf s)).1,0,[],0⟩)/\
  (xf s≠[110,97,110]->¬((sgn (xf s)).2=[105,110,102]\/(sgn (xf s)).2=[105,110,102,105,110,105,116,121])->ul s=(zau s).map spT):=by
 rw[zqo];refine⟨fun h=>by rw[if_pos h],fun h h2=>by rw[if_neg h,if_pos h2],fun h h2=>by rw[if_neg h,if_neg h2]⟩
theorem zco (s:List UInt8) (P:Prop)
  (h1:qp s=some (zmd,s.length)->ul s=some ⟨2,false,0,[],0⟩->P)
  (h2:∀ ng,qp s=some (kp ng,s.length)->ul s=some ⟨1,ng,0,[],0⟩->P)
  (h3:(qp s=none\/∃ v n,qp s=some (v,n)/\n≠s.length/\zau s=none)->ul s=(zau s).map spT->P):P:=by
 obtain⟨a1,a2,a3⟩:=zvo s;obtain⟨b1,b2,b3⟩:=zib s;by_cases hn:xf s=[110,97,110]
 ·exact h1 (a1 hn) (b1 hn)
 ·by_cases hi:(sgn (xf s)).2=[105,110,102]\/(sgn (xf s)).2=[105,110,102,105,110,105,116,121]
  ·exact h2 _ (a2 hn hi) (b2 hn hi)
  ·exact h3 (a3 hn hi) (b3 hn hi)
theorem zto (F:Nat) (bias:Int) (inf:Nat) {s:List UInt8} {L:Lit} (h:zau s=some L) (hs:s.length<=1000) (hb1:1<=bias) (hb2:bias<=1023) (hF1:1<=F) (hF2:bias+F<=1075):spB F bias inf (spT L)=nvL F bias inf L:=by
 obtain⟨h1,h2,h3,-⟩:=zfk h;exact sp_eq F bias inf L h1 h3 zd hb1 hb2 hF1 hF2
theorem zql {s:List UInt8} {R:RR} (h:rfP s=some R):(R.n=s.length->∃ L,zau s=some L/\zau (s.take R.n)=some L)/\(R.n≠s.length->zau s=none):=by
 obtain⟨h1,L,hL,hR⟩:=zsf h;constructor
 ·intro e;have:s.take R.n=s:=by rw[e,List.take_length]
  exact⟨L,by rw[<-this];exact hL,hL⟩
 ·intro hne;cases hl:zau s with
  | none=>rfl
  | some L'=>
   have:=zm9 hl;rw[h]at this;cases this;exact absurd rfl hne
theorem zq7 {s:List UInt8} (h:rfP s=none):zau s=none:=by
 cases hl:zau s with
 | none=>rfl
 | some L=>rw[zm9 hl]at h;cases h
theorem PaQ64.bad {s:List UInt8} (h:ul s=none):PaQ64 s 0 1:=by unfold PaQ64;rw[h];exact⟨rfl,rfl⟩
def yig (c:UInt8):Prop:=c=43\/c=45\/c=105
theorem yh9 (hex:Bool) {c:UInt8} (h:yig c):dgV hex c=none:=by
 rcases h with rfl | rfl | rfl <;> cases hex <;> decide
theorem yf7 {c:UInt8} (h:yig c):c≠95/\c≠46/\c≠48/\wc c≠101/\wc c≠112/\wc c≠120/\¬(48<=c.toNat/\c.toNat<=57):=by
 rcases h with rfl | rfl | rfl <;> decide
theorem ygo (hex:Bool) {c:UInt8} (r:List UInt8) (h:yig c):∀ (l:List UInt8) (st:RF),scF hex (l++c::r) st=((scF hex l st).1,(scF hex l st).2++c::r)
 | [],st=>by
  obtain⟨h1,h2,-⟩:=yf7 h
  show scF hex (c::r) st=(st,[]++c::r)
  rw[scF,if_neg h1,if_neg h2,yh9 hex h]
  rfl
 | x::l,st=>by
  rw[List.cons_append,scF,scF]
  by_cases h1:x=95
  ·rw[if_pos h1,if_pos h1];exact ygo hex r h l _
  ·rw[if_neg h1,if_neg h1]
   by_cases h2:x=46
   ·rw[if_pos h2,if_pos h2]
    by_cases h3:st.dot=true
    ·rw[if_pos h3,if_pos h3];rfl
    ·rw[if_neg h3,if_neg h3];exact ygo hex r h l _
   ·rw[if_neg h2,if_neg h2]
    cases dgV hex x with
    | none=>rfl
    | some d=>exact ygo hex r h l _
theorem yg8 {c:UInt8} (r:List UInt8) (h:yig c):∀ (l:List UInt8) (us:Bool) (e:Nat),scE (l++c::r) us e=((scE l us e).1,(scE l us e).2.1,(scE l us e).2.2++c::r)
 | [],us,e=>by
  obtain⟨h1,-,-,-,-,-,h2⟩:=yf7 h
  show scE (c::r) us e=(us,e,[]++c::r)
  rw[scE,if_neg h2,if_neg h1]
  rfl
 | x::l,us,e=>by
  rw[List.cons_append,scE,scE]
  by_cases h1:48<=x.toNat/\x.toNat<=57
  ·rw[if_pos h1,if_pos h1];exact yg8 r h l _ _
  ·rw[if_neg h1,if_neg h1]
   by_cases h2:x=95
   ·rw[if_pos h2,if_pos h2];exact yg8 r h l _ _
   ·rw[if_neg h2,if_neg h2];rfl
theorem yh7 {c:UInt8} (r:List UInt8) (h:yig c):∀ (u:List UInt8),(∀ x,u=[48,x]->wc x≠120)->yo (u++c::r)=yo u
 | [],_=>by
  obtain⟨-,-,h1,-⟩:=yf7 h
  cases r with
  | nil=>rfl
  | cons x r=>
   cases r with
   | nil=>rfl
   | cons y r=>exact decide_eq_false (fun e=>h1 e.1)
 | [a],_=>by
  obtain⟨-,-,-,-,-,h1,-⟩:=yf7 h
  cases r with
  | nil=>rfl
  | cons y r=>exact decide_eq_false (fun e=>h1 e.2)
 | [a,x],hx=>by
  show decide (a=48/\wc x=120)=false
  refine decide_eq_false ?_
  rintro⟨rfl,e⟩
  exact hx x rfl e
 | a::x::y::u,_=>rfl
theorem yhg (t y:List UInt8) (neg hex:Bool) (st:RF) (dp:Int) (nm:Nat) (us:Bool):zdv (t++y) neg hex st dp nm us y=zdv t neg hex st dp nm us []:=by
 unfold zdv;rw[List.length_append,Nat.add_sub_cancel,List.take_left',List.length_nil,Nat.sub_zero,List.take_length];rfl
theorem yha:∀ (l:List UInt8) (us:Bool) (e:Nat),(scE l us e).2.2.length<=l.length
 | [],us,e=>Nat.le_refl _
 | x::l,us,e=>by
  rw[scE]
  split
  ·exact Nat.le_succ_of_le (yha l _ _)
  ·split
   ·exact Nat.le_succ_of_le (yha l _ _)
   ·exact Nat.le_refl _
theorem ygs (hex:Bool):∀ (l:List UInt8) (st:RF),(scF hex l st).2.length<=l.length
 | [],st=>Nat.le_refl _
 | x::l,st=>by
  rw[scF]
  split
  ·exact Nat.le_succ_of_le (ygs hex l _)
  ·split
   ·split
    ·exact Nat.le_refl _
    ·exact Nat.le_succ_of_le (ygs hex l _)
   ·split
    ·exact Nat.le_succ_of_le (ygs hex l _)
    ·exact Nat.le_refl _
theorem yh8 {t:List UInt8} {c:UInt8} (r:List UInt8) (h:yig c) {neg hex:Bool} {st:RF} {dp:Int} {nm:Nat} {rest:List UInt8} {R:RR} (hr:rest.length<=t.length) (ht:t≠[]) (hR:zf9 t neg hex st dp nm rest=some R) (hn:R.n=t.length):
  zf9 (t++c::r) neg hex st dp nm (rest++c::r)=some R:=by
 obtain⟨-,-,-,n1,n2,-,-⟩:=yf7 h;cases rest with
 | nil=>
  unfold zf9 at hR ⊢;dsimp only[List.nil_append]at hR ⊢;cases hex
  case true=>rw[if_pos rfl]at hR;cases hR
  rw[if_neg ze]at hR;rw[if_neg (by rw[if_neg ze];exact n1),if_neg ze,yhg];exact hR
 | cons d r1=>
  rw[List.cons_append];unfold zf9 at hR ⊢;dsimp only at hR ⊢;by_cases hd:wc d=(if hex=true then 112 else 101)
  ·rw[if_pos hd]at hR ⊢;have h1:r1≠[]:=by
    intro e;subst e;cases hR
   rw[yg7 _ _ h1];dsimp only;have hlr:(sgn r1).2.length<=r1.length:=zfl r1;generalize (sgn r1).1=sg at *
   generalize (sgn r1).2=q at *
   cases q with
   | nil=>cases hR
   | cons e r2=>
    rw[List.cons_append];dsimp only at hR ⊢;by_cases he:48<=e.toNat/\e.toNat<=57
    ·rw[if_pos he]at hR ⊢;rw[<-List.cons_append,yg8 r h];dsimp only;have hl:=yha (e::r2) st.us 0;rw[List.length_cons]at hr;have h0:=zeo t _ _ _ _ _ _ _ R zd ht hR hn;rw[h0]at hR;rw[h0,List.nil_append,yhg];exact hR
    ·rw[if_neg he]at hR;cases hR
  ·rw[if_neg hd]at hR;cases hex
   case true=>rw[if_pos rfl]at hR;cases hR
   rw[if_neg ze]at hR;have h0:=zeo t _ _ _ _ _ _ _ R hr ht hR hn;cases h0
theorem yii {t:List UInt8} {c:UInt8} (r:List UInt8) (h:yig c) {R:RR} (hR:rfP t=some R) (hn:R.n=t.length):rfP (t++c::r)=some R:=by
 have ht:t≠[]:=by
  intro e;subst e;cases hR
 unfold rfP at hR ⊢;rw[if_neg ht]at hR;rw[if_neg zi,yg7 _ _ ht];dsimp only at hR ⊢;have hu:(sgn t).2.length<=t.length:=zfl t;have hx:∀ x,(sgn t).2=[48,x]->wc x≠120:=by
  intro x hx hc;rw[hx]at hR;rw[show yo [48,x]=false from rfl]at hR;simp only[Bool.false_eq_true,if_false]at hR;have hd:dgV false x=none:=by
   unfold dgV;rw[if_neg ?_,if_neg (by rintro⟨e,-⟩;cases e)];intro hh;have:∀ n:Fin 256,48<=n.val/\n.val<=57->n.val|||32≠120:=zp
   exact this ⟨x.toNat,x.toNat_lt⟩ hh hc
  have hx1:x≠95:=by rintro rfl;revert hc;decide
  have hx2:x≠46:=by rintro rfl;revert hc;decide
  have hs:scF false [48,x] RF.init=(dgS false RF.init 0,[x]):=by
   rw[scF,if_neg ze,if_neg ze,show dgV false 48=some 0 by decide];dsimp only;rw[scF,if_neg hx1,if_neg hx2,hd]
  rw[hs]at hR;dsimp only at hR;split at hR
  ·cases hR
  ·unfold zf9 at hR;dsimp only at hR;rw[if_neg (by rw[hc];decide),if_neg ze]at hR;have:=zeo t _ _ _ _ _ _ _ R (by rw[hx]at hu;simp at hu ⊢;omega) ht hR hn;cases this
 rw[yh7 r h _ hx];have hb:(if yo (sgn t).2=true then ((sgn t).2++c::r).drop 2 else (sgn t).2++c::r)=(if yo (sgn t).2=true then (sgn t).2.drop 2 else (sgn t).2)++c::r:=by
  cases hh:yo (sgn t).2
  ·rw[if_neg ze,if_neg ze]
  ·rw[if_pos rfl,if_pos rfl];cases hq:(sgn t).2 with
   | nil=>rw[hq]at hh;cases hh
   | cons a q=>
    cases q with
    | nil=>rw[hq]at hh;cases hh
    | cons b q=>rfl
 rw[hb,ygo _ r h];have hl:(if yo (sgn t).2=true then (sgn t).2.drop 2 else (sgn t).2).length<=t.length:=by
  split
  ·rw[List.length_drop];omega
  ·exact hu
 generalize (if yo (sgn t).2=true then (sgn t).2.drop 2 else (sgn t).2)=l at *
 dsimp only;have hsl:=ygs (yo (sgn t).2) l RF.init;by_cases hdg:(scF (yo (sgn t).2) l RF.init).1.dig=false
 ·rw[if_pos hdg]at hR;cases hR
 ·rw[if_neg hdg]at hR ⊢;exact yh8 r h zd ht hR hn
def StpQ (c:UInt8) (r:List UInt8):Prop:=c=43\/c=45\/(c=105/\r=[])
theorem StpQ.s3 {c:UInt8} {r:List UInt8} (h:StpQ c r):yig c:=by
 rcases h with h | h | ⟨h,-⟩
 ·exact Or.inl h
 ·exact Or.inr (Or.inl h)
 ·exact Or.inr (Or.inr h)
theorem yib {c:UInt8} {r:List UInt8} (h:vb c≠105):cpL (c::r) infinityL=0:=by
 show (if vb c=105 then _ else 0)=0;rw[if_neg h]
theorem yg4 (ng:Bool) (k:Nat) {c:UInt8} {r:List UInt8} (h:vb c≠105):zd3 ng k (c::r)=none:=by
 unfold zd3;rw[yib h,if_neg ze,if_neg ze]
theorem ygn {s:List UInt8} {d:UInt8} {r:List UInt8} (h:(sgn s).2=d::r) (h1:vb d≠105) (h2:vb d≠110):qp s=none:=by
 cases s with
 | nil=>rfl
 | cons c q=>
  have hdef:qp (c::q)=if c=43 then zd3 false 1 q else if c=45 then zd3 true 1 q else if c=105\/c=73 then zd3 false 0 (c::q) else if c=110\/c=78 then (if cpL (c::q) [110,97,110]=3 then some (zmd,3) else none) else none:=rfl
  rw[hdef];rw[xq]at h;by_cases c1:c=43
  ·rw[if_pos c1]at h ⊢;have h:q=d::r:=h;rw[h];exact yg4 _ _ h1
  rw[if_neg c1]at h ⊢;by_cases c2:c=45
  ·rw[if_pos c2]at h ⊢;have h:q=d::r:=h;rw[h];exact yg4 _ _ h1
  rw[if_neg c2]at h ⊢;have h:c::q=d::r:=h;obtain⟨rfl,rfl⟩:=List.cons.inj h;have n1:¬(c=105\/c=73):=fun hh=>h1 ((ut c 105 (Or.inl rfl)).2 hh)
  have n2:¬(c=110\/c=78):=fun hh=>h2 ((ut c 110 (Or.inr rfl)).2 hh)
  rw[if_neg n1,if_neg n2]
theorem ygr {s:List UInt8} {L:Lit} (h:zau s=some L):∃ d r,(sgn s).2=d::r/\vb d≠105/\vb d≠110:=by
 cases hq:(sgn s).2 with
 | nil=>
  exfalso;unfold zau at h;rw[hq]at h;revert h;show ¬(Option.map _ (yil false [])=some L);unfold yil;simp
 | cons d r=>
  refine⟨d,r,rfl,fun e=>?_,fun e=>?_⟩
  ·rw[kg hq (Or.inl e)]at h;cases h
  ·rw[kg hq (Or.inr e)]at h;cases h
theorem yid {s:List UInt8} {L:Lit} (h:zau s=some L):s≠[]:=by
 rintro rfl;obtain⟨d,r,h1,-⟩:=ygr h;cases h1
theorem yhs {s:List UInt8} {L:Lit} (h:zau s=some L):qp s=none/\ul s=some (spT L):=by
 obtain⟨d,r,h1,h2,h3⟩:=ygr h;have hs:=ygn h1 h2 h3;refine⟨hs,?_⟩;refine zco s _ (fun h1 _=>?_) (fun ng h1 _=>?_) (fun _ hr=>?_)
 ·rw[hs]at h1;cases h1
 ·rw[hs]at h1;cases h1
 ·rw[hr,h];rfl
theorem yf3:∀ (p t y:List UInt8),xf t=p->cpL (t++y) p=p.length
 | [],t,y,h=>by cases t with
  | nil=>cases y <;> rfl
  | cons c r=>cases h
 | q::p,t,y,h=>by
  cases t with
  | nil=>cases h
  | cons c r=>
   obtain⟨h1,h2⟩:=List.cons.inj (show vb c::xf r=q::p from h)
   show (if vb c=q then 1+cpL (r++y) p else 0)=_
   rw[if_pos h1,yf3 p r y h2,List.length_cons,Nat.add_comm]
theorem ygz:∀ (p t:List UInt8) (a:UInt8) (p2 y:List UInt8),xf t=p->cpL (t++y) (p++a::p2)=p.length+cpL y (a::p2)
 | [],t,a,p2,y,h=>by
  cases t with
  | nil=>simp
  | cons c r=>cases h
 | q::p,t,a,p2,y,h=>by
  cases t with
  | nil=>cases h
  | cons c r=>
   obtain⟨h1,h2⟩:=List.cons.inj (show vb c::xf r=q::p from h)
   show (if vb c=q then 1+cpL (r++y) (p++a::p2) else 0)=_
   rw[if_pos h1,ygz p r a p2 y h2,List.length_cons]
   omega
theorem ygb (ng:Bool) (k:Nat) {t:List UInt8} {c:UInt8} {r:List UInt8} (hs:StpQ c r) (h:xf t=[105,110,102]\/xf t=[105,110,102,105,110,105,116,121]):zd3 ng k (t++c::r)=some (kp ng,k+t.length):=by
 have hl:t.length=(xf t).length:=(zj8 t).symm;unfold zd3;rcases h with h | h
 ·have e:=ygz [105,110,102] t 105 [110,105,116,121] (c::r) h;have e2:cpL (c::r) [105,110,105,116,121]<=1:=by
   show (if vb c=105 then 1+cpL r [110,105,116,121] else 0)<=1;rcases hs with rfl | rfl | ⟨rfl,rfl⟩
   ·rw[if_neg ze];omega
   ·rw[if_neg ze];omega
   ·rw[if_pos ze];exact Nat.le_refl _
  have e3:cpL (t++c::r) infinityL=3+cpL (c::r) [105,110,105,116,121]:=e;rw[if_neg zd,if_pos zd,hl,h];rfl
 ·have e:=yf3 [105,110,102,105,110,105,116,121] t (c::r) h;have e3:cpL (t++c::r) infinityL=8:=e;rw[if_pos e3,hl,h];rfl
theorem ygl {t:List UInt8} {c:UInt8} {r:List UInt8} {x:Txt} (hs:StpQ c r) (h:ul t=some x):
  (∃ y,qp (t++c::r)=some (y,t.length)/\qp t=some (y,t.length)) \/
  (qp (t++c::r)=none/\qp t=none/\∃ R L,rfP (t++c::r)=some R/\rfP t=some R/\R.n=t.length/\zau t=some L):=by
 obtain⟨a1,a2,-⟩:=zvo t;obtain⟨-,-,b3⟩:=zib t;by_cases hn:xf t=[110,97,110]
 ·refine Or.inl ⟨zmd,?_,a1 hn⟩;have e:=yf3 [110,97,110] t (c::r) hn;have hl:t.length=3:=by rw[<-zj8 t,hn];rfl
  cases t with
  | nil=>cases hn
  | cons d q=>
   have hd:vb d=110:=(List.cons.inj (show vb d::xf q=[110,97,110] from hn)).1;have hd2:d=110\/d=78:=(ut d 110 (Or.inr rfl)).1 hd;have n1:d≠43:=by rintro rfl;revert hd;decide
   have n2:d≠45:=by rintro rfl;revert hd;decide
   have n3:¬(d=105\/d=73):=fun hh=>by have:=(ut d 105 (Or.inl rfl)).2 hh;rw[hd]at this;revert this;decide
   show (if d=43 then zd3 false 1 (q++c::r) else if d=45 then zd3 true 1 (q++c::r) else if d=105\/d=73 then zd3 false 0 (d::(q++c::r)) else if d=110\/d=78 then (if cpL (d::(q++c::r)) [110,97,110]=3 then some (zmd,3) else none) else none)=_;have e3:cpL (d::(q++c::r)) [110,97,110]=3:=e;rw[if_neg n1,if_neg n2,if_neg n3,if_pos hd2,if_pos e3,hl]
 by_cases hi:(sgn (xf t)).2=[105,110,102]\/(sgn (xf t)).2=[105,110,102,105,110,105,116,121]
 ·refine Or.inl ⟨kp (sgn (xf t)).1,?_,a2 hn hi⟩;have hsl:=zct t;rw[hsl]at hi ⊢;dsimp only at hi ⊢;cases t with
  | nil=>rcases hi with hi | hi <;> cases hi
  | cons d q=>
   have hdef:qp ((d::q)++c::r)=if d=43 then zd3 false 1 (q++c::r) else if d=45 then zd3 true 1 (q++c::r) else if d=105\/d=73 then zd3 false 0 (d::q++c::r) else if d=110\/d=78 then (if cpL (d::q++c::r) [110,97,110]=3 then some (zmd,3) else none) else none:=rfl
   rw[hdef];rw[xq]at hi ⊢;by_cases c1:d=43
   ·rw[if_pos c1]at hi ⊢;rw[if_pos c1,ygb false 1 hs hi,List.length_cons,Nat.add_comm]
   rw[if_neg c1]at hi ⊢;rw[if_neg c1];by_cases c2:d=45
   ·rw[if_pos c2]at hi ⊢;rw[if_pos c2,ygb true 1 hs hi,List.length_cons,Nat.add_comm]
   rw[if_neg c2]at hi ⊢;rw[if_neg c2];dsimp only at hi ⊢;have hd:vb d=105:=by
    rcases hi with hi | hi
    ·exact (List.cons.inj (show vb d::xf q=_ from hi)).1
    ·exact (List.cons.inj (show vb d::xf q=_ from hi)).1
   have hd2:d=105\/d=73:=(ut d 105 (Or.inl rfl)).1 hd;rw[if_pos hd2,ygb false 0 hs hi,Nat.zero_add]
 ·rw[b3 hn hi]at h;obtain⟨L,hL,-⟩:=Option.map_eq_some_iff.1 h;obtain⟨d,q,h1,h2,h3⟩:=ygr hL;have h4:(sgn (t++c::r)).2=d::(q++c::r):=by rw[yg7 _ _ (yid hL),h1];rfl
  have h5:=zm9 hL;exact Or.inr ⟨ygn h4 h2 h3,ygn h1 h2 h3,_,L,yii r hs.s3 h5 rfl,h5,rfl,hL⟩
theorem yhc:∀ (s p:List UInt8),cpL s p<=s.length
 | [],p=>Nat.zero_le _
 | c::s,[]=>Nat.zero_le _
 | c::s,q::p=>by
  show (if vb c=q then 1+cpL s p else 0)<=s.length+1
  have:=yhc s p
  split <;> omega
theorem yf6:∀ (s p:List UInt8) (k:Nat),k<=cpL s p->xf (s.take k)=p.take k
 | s,p,0,_=>by rw[List.take_zero,List.take_zero];rfl
 | [],p,k+1,h=>by exact absurd h (by show ¬k+1<=0;omega)
 | c::s,[],k+1,h=>by exact absurd h (by show ¬k+1<=0;omega)
 | c::s,q::p,k+1,h=>by
  have h:k+1<=(if vb c=q then 1+cpL s p else 0):=h
  by_cases hc:vb c=q
  ·rw[if_pos hc]at h
   rw[List.take_succ_cons,List.take_succ_cons,<-hc,<-yf6 s p k zd]
   rfl
  ·rw[if_neg hc]at h;omega
theorem ygu (ng:Bool) (k:Nat) {t:List UInt8} {x:Nat×Nat} (h:zd3 ng k t=some x):
  x.1=kp ng/\∃ m,x.2=k+m/\m<=t.length/\(xf (t.take m)=[105,110,102]\/xf (t.take m)=[105,110,102,105,110,105,116,121]):=by
 unfold zd3 at h;have hl:=yhc t infinityL;by_cases h8:cpL t infinityL=8
 ·rw[if_pos h8]at h;cases h;refine⟨rfl,8,rfl,zd,Or.inr ?_⟩;rw[yf6 t infinityL 8 zd];rfl
 ·rw[if_neg h8]at h;by_cases h3:3<=cpL t infinityL
  ·rw[if_pos h3]at h;cases h;refine⟨rfl,3,rfl,zd,Or.inl ?_⟩;rw[yf6 t infinityL 3 zd];rfl
  ·rw[if_neg h3]at h;cases h
theorem ygt (ng:Bool) (k:Nat) {t:List UInt8} (h:xf t=[105,110,102]\/xf t=[105,110,102,105,110,105,116,121]):zd3 ng k t=some (kp ng,k+t.length):=by
 have hl:t.length=(xf t).length:=(zj8 t).symm;have e0:=fun p h=>yf3 p t [] h
 rw[List.append_nil]at e0;unfold zd3;rcases h with h | h
 ·have e:=ygz [105,110,102] t 105 [110,105,116,121] [] h;rw[List.append_nil]at e;have e3:cpL t infinityL=3:=e;rw[if_neg zd,if_pos zd,hl,h];rfl
 ·have e3:cpL t infinityL=8:=e0 _ h;rw[if_pos e3,hl,h];rfl
theorem yhf {s:List UInt8} {x:Nat×Nat} (h:qp s=some x):x.2<=s.length/\0<x.2/\qp (s.take x.2)=some x/\∃ t,ul (s.take x.2)=some t:=by
 cases s with
 | nil=>cases h
 | cons c r=>
  have hdef:qp (c::r)=if c=43 then zd3 false 1 r else if c=45 then zd3 true 1 r else if c=105\/c=73 then zd3 false 0 (c::r) else if c=110\/c=78 then (if cpL (c::r) [110,97,110]=3 then some (zmd,3) else none) else none:=rfl
  have fin:x.2<=(c::r).length->0<x.2->qp ((c::r).take x.2)=some x->x.2<=(c::r).length/\0<x.2/\qp ((c::r).take x.2)=some x/\∃ t,ul ((c::r).take x.2)=some t:=by
   intro h1 h0 h2;refine⟨h1,h0,h2,?_⟩;have hl:((c::r).take x.2).length=x.2:=zN;refine zco ((c::r).take x.2) _ (fun _ h=>⟨_,h⟩) (fun _ _ h=>⟨_,h⟩) (fun h3 _=>?_);rcases h3 with h3 | ⟨v,n,h3,h4,-⟩
   ·rw[h2]at h3;cases h3
   ·rw[h2]at h3;cases h3;exact absurd hl.symm h4
  rw[hdef]at h;by_cases c1:c=43
  ·rw[if_pos c1]at h;obtain⟨e1,m,e2,e3,e4⟩:=ygu false 1 h;refine fin (by rw[e2,List.length_cons];omega) zd ?_;rw[e2,Nat.add_comm,List.take_succ_cons];show (if c=43 then zd3 false 1 (r.take m) else _)=_;rw[if_pos c1,ygt false 1 e4,List.length_take,Nat.min_eq_left e3,<-e2,<-e1]
  rw[if_neg c1]at h;by_cases c2:c=45
  ·rw[if_pos c2]at h;obtain⟨e1,m,e2,e3,e4⟩:=ygu true 1 h;refine fin (by rw[e2,List.length_cons];omega) zd ?_;rw[e2,Nat.add_comm,List.take_succ_cons];show (if c=43 then zd3 false 1 (r.take m) else if c=45 then zd3 true 1 (r.take m) else _)=_;rw[if_neg c1,if_pos c2,ygt true 1 e4,List.length_take,Nat.min_eq_left e3,<-e2,<-e1]
  rw[if_neg c2]at h;by_cases c3:c=105\/c=73
  ·rw[if_pos c3]at h;obtain⟨e1,m,e2,e3,e4⟩:=ygu false 0 h;have e5:x.2=m:=zd;have hm0:m≠0:=by
    rintro rfl;rw[List.take_zero]at e4;rcases e4 with e4 | e4 <;> cases e4
   obtain⟨j,rfl⟩:∃ j,m=j+1:=⟨m-1,zd⟩;refine fin zd zd ?_;rw[e5];have hself:zd3 false 0 ((c::r).take (j+1))=some x:=by
    rw[ygt false 0 e4,List.length_take,Nat.min_eq_left e3,Nat.zero_add,<-e1,<-e5]
   rw[List.take_succ_cons]at hself ⊢;show (if c=43 then zd3 false 1 (r.take j) else if c=45 then zd3 true 1 (r.take j) else if c=105\/c=73 then zd3 false 0 (c::r.take j) else _)=_;rw[if_neg c1,if_neg c2,if_pos c3];exact hself
  rw[if_neg c3]at h;by_cases c4:c=110\/c=78
  ·rw[if_pos c4]at h;by_cases c5:cpL (c::r) [110,97,110]=3
   ·rw[if_pos c5]at h;cases h;have hl:=yhc (c::r) [110,97,110];have ht:=yf6 (c::r) [110,97,110] 3 zd;refine fin zd ze ?_;have e:=yf3 [110,97,110] ((c::r).take 3) [] ht;rw[List.append_nil]at e;rw[List.take_succ_cons]at e ⊢;show (if c=43 then zd3 false 1 (r.take 2) else if c=45 then zd3 true 1 (r.take 2) else if c=105\/c=73 then zd3 false 0 (c::r.take 2) else if c=110\/c=78 then (if cpL (c::r.take 2) [110,97,110]=3 then some (zmd,3) else none) else none)=_;have e3:cpL (c::r.take 2) [110,97,110]=3:=e;rw[if_neg c1,if_neg c2,if_neg c3,if_pos c4,if_pos e3]
   ·rw[if_neg c5]at h;cases h
  ·rw[if_neg c4]at h;cases h
theorem yhp {s:List UInt8} {R:RR} (h:rfP s=some R):R.n<=s.length/\0<R.n/\rfP (s.take R.n)=some R/\∃ L,zau (s.take R.n)=some L:=by
 obtain⟨P,T,h1,h2,h3⟩:=zvv h;obtain⟨h4,L,hL,-⟩:=zsf h;have e:s.take R.n=P:=by rw[h2,h1,List.take_left]
 have hne:=yid hL;rw[e]at hne;have hp:0<P.length:=List.length_pos_iff.2 hne;exact⟨h4,zd,by rw[e];exact h3,L,hL⟩
def yfz (s:List UInt8):List UInt8:=if 1<s.length/\s.getD 0 0=40/\s.getD (s.length-1) 0=41 then (s.drop 1).take (s.length-2) else s
def yic:List UInt8:=[110,97,110]
def ygg (u:List UInt8):Nat->Nat->Option (List UInt8×List UInt8)
 | 0,_=>none
 | k+1,i=>if (u.getD i 0=43\/u.getD i 0=45)/\(ul (u.take i)).isSome=true then
   (if (ul (u.drop i)).isSome=true then some (u.take i,u.drop i) else if u.getD i 0=43/\xf (u.drop (i+1))=yic then some (u.take i,u.drop (i+1)) else ygg u k (i+1))
  else ygg u k (i+1)
def yia (u:List UInt8):Option (List UInt8×List UInt8):=
 if (ul u).isSome=true then some (u,[48]) else
 if u=[]\/u.getD (u.length-1) 0≠105 then none else
 if (ul u.dropLast).isSome=true then some ([48],u.dropLast) else ygg u.dropLast (u.dropLast.length-1) 1
def yf2 (s:List UInt8):Option (List UInt8×List UInt8):=yia (yfz s)
def yg3 (u:List UInt8):Prop:=∀ i,i+1<u.length->¬((u.getD i 0=43\/u.getD i 0=45)/\(u.getD (i+1) 0=43\/u.getD (i+1) 0=45))
theorem yg2 {d:UInt8} {r:List UInt8} (h1:d≠43) (h2:d≠45) (hn:xf (d::r)≠yic):ul (43::d::r)=ul (d::r):=by
 have hd:vb d≠43/\vb d≠45:=by
  have:∀ n:Fin 256,UInt8.ofNat n.val≠43->UInt8.ofNat n.val≠45->vb (UInt8.ofNat n.val)≠43/\vb (UInt8.ofNat n.val)≠45:=zp;have:=this ⟨d.toNat,d.toNat_lt⟩;simp only[UInt8.ofNat_toNat]at this;exact this h1 h2
 have hl:xf (d::r)=vb d::xf r:=rfl;have hl3:xf (43::d::r)=43::xf (d::r):=rfl;have hs:sgL (xf (d::r))=(false,xf (d::r)):=by rw[hl];simp[sgL,hd.1,hd.2]
 have hs3:sgL (xf (43::d::r))=(false,xf (d::r)):=by rw[hl3];simp[sgL]
 have hn':xf (d::r)≠[110,97,110]:=hn;unfold ul;rw[hs,hs3,if_neg hn',if_neg (by rw[hl3];intro e;have:=(List.cons.inj e).1;revert this;decide)]
theorem ygm {k:Nat} (h:k=0\/k=2):erK k≠erK 1:=by
 rcases h with rfl | rfl
 ·intro h;cases h
 ·unfold erK;rw[if_neg ze,if_neg ze,if_neg ze,if_pos rfl];intro h;injection h with _ h;injection h with _ h;revert h;decide
theorem ygw {k j:Nat} (h:k=0\/k=2) (h2:j=0\/j=2) (e:erK k=erK j):k=j:=by
 have key:erK 2≠erK 0:=by
  unfold erK;rw[if_neg ze,if_neg ze,if_pos rfl];intro h;cases h
 rcases h with rfl | rfl <;> rcases h2 with rfl | rfl
 ·rfl
 ·exact absurd e.symm key
 ·exact absurd e key
 ·rfl
structure FrOK (A:List UInt8->Nat->Nat->Value->Prop) (Pa:List UInt8->Nat->Nat->Prop):Prop where
 front:∀ {t:List UInt8} {c:UInt8} {r:List UInt8} {x:Txt} {v n:Nat} {ev:Value},StpQ c r->ul t=some x->t.length<=800->A (t++c::r) v n ev->n=t.length/\∃ k,ev=erK k/\Pa t v k
 back:∀ {s:List UInt8} {v n:Nat} {ev:Value},A s v n ev->s.length<=800->(v=0/\ev=erK 1)\/(n<=s.length/\0<n/\(∃ x,ul (s.take n)=some x)/\∃ k,(k=0\/k=2)/\ev=erK k/\Pa (s.take n) v k)
 whole:∀ {t:List UInt8} {x:Txt} {v n:Nat} {ev:Value},ul t=some x->t.length<=800->A t v n ev->n=t.length/\∃ k,ev=erK k/\Pa t v k
 kind:∀ {t:List UInt8} {x:Txt} {v k:Nat},ul t=some x->Pa t v k->k=0\/k=2
 ext:∀ {s t:List UInt8} {v k:Nat},ul s=ul t->Pa s v k->Pa t v k
 zero:Pa [48] 0 0
def yg6 (c:UInt8) (r:List UInt8):List UInt8:=if c=43/\r≠[]/\r.getD 0 0≠43 then r else c::r
def yim (A:List UInt8->Nat->Nat->Value->Prop) (u:List UInt8) (x y k:Nat):Prop:=
  ∃ v n ev,A u v n ev/\
    ((ev=erK 1/\x=0/\y=0/\k=1) \/
     ∃ k1,(k1=0\/k1=2)/\ev=erK k1/\n<=u.length/\
      ((u.drop n=[]/\x=v/\y=0/\k=k1) \/
       (u.drop n=[105]/\x=0/\y=v/\k=k1) \/
       (∃ c r,u.drop n=c::r/\c≠43/\c≠45/\(c=105->r≠[])/\x=0/\y=0/\k=1) \/
       (∃ c r,u.drop n=c::r/\(c=43\/c=45)/\∃ v2 n2 ev2,A (yg6 c r) v2 n2 ev2/\
         ((ev2=erK 1/\x=0/\y=0/\k=1) \/
          ∃ k2,(k2=0\/k2=2)/\ev2=erK k2/\n2<=(yg6 c r).length/\
           (((yg6 c r).drop n2≠[105]/\x=0/\y=0/\k=1)\/((yg6 c r).drop n2=[105]/\x=v/\y=v2/\k=if k2=2 then 2 else k1))))))
def yhe (A:List UInt8->Nat->Nat->Value->Prop) (s:List UInt8) (x y k:Nat):Prop:=yim A (yfz s) x y k
def PcQ (Pa:List UInt8->Nat->Nat->Prop) (o:Option (List UInt8×List UInt8)) (x y k:Nat):Prop:=match o with
 | none=>x=0/\y=0/\k=1
 | some (a,b)=>∃ k1 k2,(k1=0\/k1=2)/\(k2=0\/k2=2)/\Pa a x k1/\Pa b y k2/\k=if k2=2 then 2 else k1
theorem yg5 (u:List UInt8) (h:∀ i,1<=i->i<u.length->(u.getD i 0=43\/u.getD i 0=45)->(ul (u.take i)).isSome=true->False):∀ k i,1<=i->k+i<=u.length->ygg u k i=none
 | 0,_,_,_=>rfl
 | k+1,i,h1,h2=>by
  unfold ygg
  rw[if_neg (fun hh=>h i h1 zd hh.1 hh.2)]
  exact yg5 u h k (i+1) zd zd 
theorem yhz (u:List UInt8) (n:Nat) (hn:n<u.length) (h:∀ i,1<=i->i<u.length->(u.getD i 0=43\/u.getD i 0=45)->(ul (u.take i)).isSome=true->i=n) (hc:u.getD n 0=43\/u.getD n 0=45) (hr:(ul (u.take n)).isSome=true):
  ∀ k i,1<=i->i<=n->k+i=u.length->ygg u k i=if (ul (u.drop n)).isSome=true then some (u.take n,u.drop n) else if u.getD n 0=43/\xf (u.drop (n+1))=yic then some (u.take n,u.drop (n+1)) else none
 | 0,i,h1,h2,h3=>by omega
 | k+1,i,h1,h2,h3=>by
  unfold ygg
  by_cases e:i=n
  ·subst e
   rw[if_pos ⟨hc,hr⟩]
   have hnone:ygg u k (i+1)=none:=by
    have:∀ k j,i<j->k+j<=u.length->ygg u k j=none:=by
     intro k;induction k with
     | zero=>intros;rfl
     | succ k ih=>
      intro j hj hk;unfold ygg;rw[if_neg (fun hh=>by have:=h j zd zd hh.1 hh.2;omega)];exact ih (j+1) zd zd
    exact this k (i+1) zd zd
   rw[hnone]
  ·rw[if_neg (fun hh=>e (h i h1 zd hh.1 hh.2))];exact yhz u n hn h hc hr k (i+1) zd zd zd 
section
attribute [local go_sem] undef
theorem zdh (w:World) (B:Nat) (u0 u1 u2:Value):w.grownBy (((w.setCell ⟨B,0,none⟩ u0).setCell ⟨B,1,none⟩ u1).setCell ⟨B,2,none⟩ u2) (some B):=
 yx (yx (wq w ⟨B,0,none⟩ _) (wq _ ⟨B,1,none⟩ _) (fun _ h _=>h)) (wq _ ⟨B,2,none⟩ _) (fun _ h _=>h)
end
section
attribute [local go_sem] undef
theorem zr6 (j:Int) (h1:-9223372036854775808<=j) (h2:j<=9223372036854775807):IntKind.i64.wrap j=j:=by rw[IntKind.wrap_i64];omega
structure InBlk (w w1:World) (B:Nat) (neg:Bool) (vn vd:Value):Prop where
 row:Row w1 B [.bool neg,vn,vd]
 grown:w.grownBy w1 none
 size:w.heap.size=B
theorem InBlk.new (w:World) (neg:Bool) (vn vd:Value) (t:TypeId):InBlk w (w.alloc (.cells #[.bool neg,vn,vd] t)) w.heap.size neg vn vd:=⟨Row.new w _ _,World.grownBy_alloc w _ none,rfl⟩
end
end Go.Proofs.YtoacbkokkkpofaaGreatDoor
