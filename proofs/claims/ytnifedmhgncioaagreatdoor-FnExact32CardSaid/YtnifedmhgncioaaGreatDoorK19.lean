/- Lemmas that the claim's top text leans on. No condition of their own. -/
import Derived.Test.YtnifedmhgncioaaGreatDoorK16
import Derived.Test.YtnifedmhgncioaaGreatDoorK34
import Derived.Test.YtnifedmhgncioaaGreatDoorK31
namespace Go.Proofs.YtnifedmhgncioaaGreatDoor
open Go.RowKit
set_option linter.unusedSimpArgs false
set_option linter.unusedVariables false
set_option maxHeartbeats 16000000
section
attribute [local go_sem] undef
set_option maxRecDepth 100000 in
theorem zbz (b:Nat) (hb:b=10\/b=16) (s:List UInt8) (w:World) (hs:s.length<=4000000):
  Calls Tryz.prog 80 #[.string ⟨s.toArray⟩,.int .i64 (b:Int)] w fun e w'=>∃ v',e=.returned v'/\OwnI w.heap.size w' v' (dgL b s)/\w.grownBy w' none:=by
 have HD:=zH (fun c W=>zaq b hb c W);clear hb;have HO0:=zH (OwnI.fresh0 (T:=w.heap.size) (w:=w) (Nat.le_refl _) 3);have HG0:=zH (World.grownBy_alloc w (.cells #[] 3) none);refine ye Tryz.func80 rfl (by rw[Tryz.ntmps80];simp) ?_;intro σ hσ;rw[Tryz.ntmps80];have s0:σ 0=.string ⟨s.toArray⟩:=hσ 0 zi;have s1:σ 1=.int .i64 (b:Int):=hσ 1 zi;clear hσ;have hsz:(⟨s.toArray⟩:ByteArray).size=s.length:=zm;obtain⟨N,hN⟩:=zX s.length;rw[hN]at hsz hs;have HN:=zH hN;clear hN;(go_wp2_with fail;repeat ((first|refine cZ ?_|refine cW ?_);go_wp2_with fail));refine xx (fun kk s' w'=>∃ (i:Nat) (v:Value) (l:List Nat),i<=N/\kk=N-i/\l=dgL b (s.take i)/\s' 0=.string ⟨s.toArray⟩/\s' 1=.int .i64 (b:Int)/\s' 5=v/\s' 6=.int .i64 (i:Int)/\OwnI w.heap.size w' v l/\w.grownBy w' none) N
  ⟨0,_,[],Nat.zero_le _,rfl,by simp[dgL],zb,zb,zb,zb,HO0.out,HG0.out⟩ ?_
 clear s0 s1 σ HO0 HG0;rintro kk σ wk ⟨i,v,l,hi,hkk,hl,s0,s1,s5,s6,hown,hg⟩ RK KK HRK hKK;have HKK:=zH hkk;have HC:=zH hl;have HG:=zH hg;have hll:l.length<=4000000:=by have:=zf0 b (s.take i);rw[List.length_take]at this;rw[hl];omega
 clear hkk hl hg;by_cases hiN:i<N
 ·have hidx:=xu s i zn;have hts:=zrx b s i zn;rw[<-HC.out]at hts;have hiN':(i:Int)<(N:Int):=zd;generalize s.getD i 0=c at *
  have hL:=HD.out c;unfold vp at hts;unfold zfx at hL;cases hdc:dig b c with
  | none=>
   rw[hdc]at hts hL;have HTS:=zH hts;have HL:=zH hL;have HO:=zH hown;clear hts hL hown hdc;(go_wp2_with (first | (refine (HL.out _).mono ?_;rintro e w8 ⟨rfl,rfl⟩));repeat ((first|refine cZ ?_|refine cW ?_);go_wp2_with (first | (refine (HL.out _).mono ?_;rintro e w8 ⟨rfl,rfl⟩))));exact wo HRK (N-(i+1)) (by have:=HKK.out;omega) ⟨i+1,v,l,zd,rfl,HTS.out.symm,zb,zb,zb,zj,HO.out,HG.out⟩
  | some d=>
   have hd16:=zss hdc;rw[hdc]at hts hL;have hts':dgL b (s.take (i+1))=if 0<d\/l≠[] then l++[d] else l:=hts
   clear hts hdc;by_cases hd0:0<d
   ·rw[if_pos (Or.inl hd0)]at hts';have HTS:=zH hts';have HL:=zH hL;have HO:=zH hown;have hd1:(0:Int)<(d:Int):=zd;clear hts' hL hown;(go_wp2_with (first | (at_builtin;refine yk rfl _ _ _ _ rfl ze ze ug (HO.out.alloc _) zb _ zb [d] (xl Tryz.underlying39 _ d _ rfl) zh ?_;intro v1 w1 ho1 hs1) | (refine (HL.out _).mono ?_;rintro e w8 ⟨rfl,rfl⟩));repeat ((first|refine cZ ?_|refine cW ?_);go_wp2_with (first | (at_builtin;refine yk rfl _ _ _ _ rfl ze ze ug (HO.out.alloc _) zb _ zb [d] (xl Tryz.underlying39 _ d _ rfl) zh ?_;intro v1 w1 ho1 hs1) | (refine (HL.out _).mono ?_;rintro e w8 ⟨rfl,rfl⟩))));exact wo HRK (N-(i+1)) (by have:=HKK.out;omega) ⟨i+1,v1,l++[d],zd,rfl,HTS.out.symm,zb,zb,zb,zj,ho1,wi (Nat.le_refl _) (ya HG.out (World.grownBy_alloc wk _ none)) (HO.out.alloc _) hs1⟩
   ·have hd1:d=0:=zd;subst hd1;obtain⟨g,cc,rfl,hb1,hb2,hb3,hb4⟩:=hown.block;obtain⟨M,hM⟩:=zX l.length;rw[hM]at hown s5 hb3 hll;by_cases hlz:l=[]
    ·subst hlz;rw[if_neg zi]at hts';simp only[List.length_nil]at hM;subst hM;have HTS:=zH hts';have HL:=zH hL;have HO:=zH hown;clear hts' hL hown;(go_wp2_with (first | (refine (HL.out _).mono ?_;rintro e w8 ⟨rfl,rfl⟩));repeat ((first|refine cZ ?_|refine cW ?_);go_wp2_with (first | (refine (HL.out _).mono ?_;rintro e w8 ⟨rfl,rfl⟩))));exact wo HRK (N-(i+1)) (by have:=HKK.out;omega) ⟨i+1,_,[],zd,rfl,HTS.out.symm,zb,zb,zb,zj,HO.out,HG.out⟩
    ·rw[if_pos (Or.inr hlz)]at hts';have hM0:0<M:=by rw[<-hM];exact List.length_pos_iff.2 hlz
     have HTS:=zH hts';have HL:=zH hL;have HO:=zH hown;have HM:=zH hM;have hM1:(0:Int)<(M:Int):=zd;clear hts' hL hown hlz hM hb1 hb2 hb3 hb4;(go_wp2_with (first | (at_builtin;refine yk rfl _ _ _ _ rfl ze ze ug (HO.out.alloc _) zb _ zb [0] (xl Tryz.underlying39 _ 0 _ rfl) (by rw[HM.out];simp;omega) ?_;intro v1 w1 ho1 hs1) | (refine (HL.out _).mono ?_;rintro e w8 ⟨rfl,rfl⟩));repeat ((first|refine cZ ?_|refine cW ?_);go_wp2_with (first | (at_builtin;refine yk rfl _ _ _ _ rfl ze ze ug (HO.out.alloc _) zb _ zb [0] (xl Tryz.underlying39 _ 0 _ rfl) (by rw[HM.out];simp;omega) ?_;intro v1 w1 ho1 hs1) | (refine (HL.out _).mono ?_;rintro e w8 ⟨rfl,rfl⟩))));exact wo HRK (N-(i+1)) (by have:=HKK.out;omega) ⟨i+1,v1,l++[0],zd,rfl,HTS.out.symm,zb,zb,zb,zj,ho1,wi (Nat.le_refl _) (ya HG.out (World.grownBy_alloc wk _ none)) (HO.out.alloc _) hs1⟩
 ·have hiN':decide (i<N)=false:=zβw;have hall:s.take i=s:=List.take_of_length_le zt;rw[hall]at HC;have HO:=zH hown;clear hall hown;(go_wp2_with fail;repeat ((first|refine cZ ?_|refine cW ?_);go_wp2_with fail));exact yl v rfl ze zb ⟨v,rfl,by rw[<-HC.out];exact HO.out,HG.out⟩
end
section
attribute [local go_sem] undef
set_option maxRecDepth 100000 in
theorem zm6 (b:Nat) (hb:b=10\/b=16) (s:List UInt8) (i0:Nat) (w:World) (hs:s.length<=4000000) (hi0:i0<=s.length):
  Calls Tryz.prog 79 #[.string ⟨s.toArray⟩,.int .i64 (i0:Int),.int .i64 (b:Int)] w fun e w'=>e=.returned (.int .i64 ((i0+jh b (s.drop i0):Nat):Int))/\w=w':=by
 have HD:=zH (fun c W=>zaq b hb c W);clear hb;refine ye Tryz.func79 rfl (by rw[Tryz.ntmps79];simp) ?_;intro σ hσ;rw[Tryz.ntmps79];have s0:σ 0=.string ⟨s.toArray⟩:=hσ 0 zi;have s1:σ 1=.int .i64 (i0:Int):=hσ 1 zi;have s2:σ 2=.int .i64 (b:Int):=hσ 2 zi;clear hσ;have hsz:(⟨s.toArray⟩:ByteArray).size=s.length:=zm;obtain⟨N,hN⟩:=zX s.length;rw[hN]at hsz hs hi0;have HN:=zH hN;clear hN;by_cases hiN:i0<N
 case neg=>
  have e0:i0=N:=zd;subst e0;have e:jh b (s.drop i0)=0:=by rw[List.drop_of_length_le zR];rfl
  rw[e,Nat.add_zero];clear e hiN;(go_wp2_with fail;repeat ((first|refine cZ ?_|refine cW ?_);go_wp2_with fail));exact yl (.int .i64 (i0:Int)) rfl ze zb ⟨rfl,rfl⟩
 have hidx:=xu s i0 zn;have hdr:=ua s i0 zn;rw[hdr];clear hdr;have hiN':(i0:Int)<(N:Int):=zd;have hiN2:decide ((N:Int)<=(i0:Int))=false:=zh;have hiN3:decide (N<=i0)=false:=zh;generalize s.getD i0 0=c at *
 have hL:=HD.out c;by_cases hd:isD b c=true
 case neg=>
  have hd':isD b c=false:=by simpa using hd
  rw[zdm hd']at hL;have HL:=zH hL;have e:jh b (c::s.drop (i0+1))=0:=by rw[jh,if_neg hd]
  rw[e,Nat.add_zero];clear e hd hd' hL;(go_wp2_with (first | (refine (HL.out _).mono ?_;rintro e w8 ⟨rfl,rfl⟩));repeat ((first|refine cZ ?_|refine cW ?_);go_wp2_with (first | (refine (HL.out _).mono ?_;rintro e w8 ⟨rfl,rfl⟩))));exact yl (.int .i64 (i0:Int)) rfl ze zb ⟨rfl,rfl⟩
 have e:jh b (c::s.drop (i0+1))=1+yft b (s.drop (i0+1)):=by rw[jh,if_pos hd]
 rw[e];have hge:=zdn hd;have hlt0:decide (zfx b c<0)=false:=zh;obtain⟨E,hE⟩:=zX (i0+(1+yft b (s.drop (i0+1))));rw[hE];have HE:=zH (show i0+1+yft b (s.drop (i0+1))=E by omega);have HL:=zH hL;clear e hE hL hd hge;generalize zfx b c=z at *
 (go_wp2_with (first | (refine (HL.out _).mono ?_;rintro e w8 ⟨rfl,rfl⟩));repeat ((first|refine cZ ?_|refine cW ?_);go_wp2_with (first | (refine (HL.out _).mono ?_;rintro e w8 ⟨rfl,rfl⟩))));refine xx (fun kk s' w'=>∃ (i:Nat),i<=N/\kk=N-i/\i+yft b (s.drop i)=E/\s' 0=.string ⟨s.toArray⟩/\s' 1=.int .i64 (i:Int)/\s' 2=.int .i64 (b:Int)/\w=w') (N-(i0+1))
  ⟨i0+1,zd,rfl,HE.out,zb,zj,zb,rfl⟩ ?_
 clear s0 s1 s2 σ HE HL hidx hiN hiN' hiN2 hiN3 hlt0 z;rintro kk σ wk ⟨i,hi,hkk,hE,s0,s1,s2,rfl⟩ RK KK HRK hKK;have HKK:=zH hkk;clear hkk;by_cases hiN:i<N
 case neg=>
  have e0:i=N:=zd;subst e0;have e:yft b (s.drop i)=0:=by rw[List.drop_of_length_le zR];rfl
  rw[e,Nat.add_zero]at hE;subst hE;clear e hiN;(go_wp2_with fail;repeat ((first|refine cZ ?_|refine cW ?_);go_wp2_with fail));exact yl (.int .i64 (i:Int)) rfl ze zb ⟨rfl,rfl⟩
 have hidx:=xu s i zn;have hdr:=ua s i zn;rw[hdr]at hE;clear hdr;have hiN':(i:Int)<(N:Int):=zd;generalize s.getD i 0=x at *
 have hL:=HD.out x;by_cases hd:isD b x=true
 ·rw[zjt b x _ hd]at hE;have hge:=zdn hd;have HE:=zH hE;have HL:=zH hL;clear hE hL hd;generalize zfx b x=z at *
  (go_wp2_with (first | (refine (HL.out _).mono ?_;rintro e w8 ⟨rfl,rfl⟩));repeat ((first|refine cZ ?_|refine cW ?_);go_wp2_with (first | (refine (HL.out _).mono ?_;rintro e w8 ⟨rfl,rfl⟩))));exact wo HRK (N-(i+1)) (by have:=HKK.out;omega) ⟨i+1,zd,rfl,by have:=HE.out;omega,zb,zj,zb,rfl⟩
 ·have hd':isD b x=false:=by simpa using hd
  have hzx:=zdm hd';rw[hzx]at hL;have HL:=zH hL;clear hL hd;by_cases hx:x.toNat=95
  case neg=>
   rw[zaz b x _ hd' (by rintro d r' _ ⟨rfl,_⟩;exact hx rfl),Nat.add_zero]at hE;subst hE;have hx1:((x.toNat:Int)==95)=false:=zf;have hx2:(x.toNat==95)=false:=zf;clear hd';(go_wp2_with (first | (refine (HL.out _).mono ?_;rintro e w8 ⟨rfl,rfl⟩));repeat ((first|refine cZ ?_|refine cW ?_);go_wp2_with (first | (refine (HL.out _).mono ?_;rintro e w8 ⟨rfl,rfl⟩))));exact yl (.int .i64 (i:Int)) rfl ze zb ⟨rfl,rfl⟩
  have hx0:x=95:=UInt8.toNat_inj.1 hx;have hx1:((x.toNat:Int)==95)=true:=zo;have hx2:(x.toNat==95)=true:=by rw[beq_iff_eq];exact hx
  clear hx;by_cases hi1:i+1<N
  case neg=>
   have e:s.drop (i+1)=[]:=List.drop_of_length_le zt;rw[e,zaz b x _ hd' (by intro d r' h;cases h),Nat.add_zero]at hE;subst hE;clear hx0;have h1:decide ((i:Int)+1<(N:Int))=false:=zh;have h2:decide (i+1<N)=false:=zh;clear hd' e;(go_wp2_with (first | (refine (HL.out _).mono ?_;rintro e w8 ⟨rfl,rfl⟩));repeat ((first|refine cZ ?_|refine cW ?_);go_wp2_with (first | (refine (HL.out _).mono ?_;rintro e w8 ⟨rfl,rfl⟩))));exact yl (.int .i64 (i:Int)) rfl ze zb ⟨rfl,rfl⟩
  have hidx2:=xu s (i+1) (by rw[HN.out];exact hi1);have hdr:=ua s (i+1) (by rw[HN.out];exact hi1);rw[hdr]at hE;clear hdr;have h1:(i:Int)+1<(N:Int):=zd;generalize s.getD (i+1) 0=y at *
  have hL2:=HD.out y;rw[hx0]at hE hd';clear hx0;by_cases hdy:isD b y=true
  ·rw[zd9 b y _ hd' hdy]at hE;have hge:=zdn hdy;have HE:=zH hE;clear hE hL2 hdy hd' HL;(go_wp2_with (first | (refine (HD.out _ _).mono ?_;rintro e w8 ⟨rfl,rfl⟩));repeat ((first|refine cZ ?_|refine cW ?_);go_wp2_with (first | (refine (HD.out _ _).mono ?_;rintro e w8 ⟨rfl,rfl⟩))));exact wo HRK (N-(i+2)) (by have:=HKK.out;omega) ⟨i+2,zd,rfl,by have h9:=HE.out;rw[show i+1+1=i+2 from rfl]at h9;omega,zb,zj,zb,rfl⟩
  ·have hdy':isD b y=false:=by simpa using hdy
   rw[zaz b 95 _ hd' (by intro d r' h;cases h;rintro⟨_,h⟩;exact hdy h),Nat.add_zero]at hE;subst hE;have hzy:=zdm hdy';clear hL2 hdy hd' hdy' HL;(go_wp2_with (first | (refine (HD.out _ _).mono ?_;rintro e w8 ⟨rfl,rfl⟩));repeat ((first|refine cZ ?_|refine cW ?_);go_wp2_with (first | (refine (HD.out _ _).mono ?_;rintro e w8 ⟨rfl,rfl⟩))));exact yl (.int .i64 (i:Int)) rfl ze zb ⟨rfl,rfl⟩
end
section
attribute [local go_sem] undef
def zb2 (neg:Bool) (s:List UInt8) (k:Nat):Option Int:=zft neg (s.drop k)
theorem zou (letter:UInt8) (s:List UInt8) (h:1<s.length) (h0:s.getD 0 0=letter):
  (s.getD 1 0=43/\jc letter s=zb2 false s 2)\/(s.getD 1 0=45/\jc letter s=zb2 true s 2)\/(s.getD 1 0≠43/\s.getD 1 0≠45/\jc letter s=zb2 false s 1):=by
 match s,h with
 | c::x::r,_=>
  have hc:c=letter:=h0;subst hc;show (x=43/\_)\/(x=45/\_)\/(x≠43/\x≠45/\_);by_cases h1:x=43
  ·left;refine⟨h1,?_⟩;subst h1;show (if c≠c then none else _)=_;rw[if_neg zi];rfl
  ·right;by_cases h2:x=45
   ·left;refine⟨h2,?_⟩;subst h2;show (if c≠c then none else _)=_;rw[if_neg zi];rfl
   ·right;refine⟨h1,h2,?_⟩;show (if c≠c then none else zft (sgL (x::r)).1 (sgL (x::r)).2)=_;rw[if_neg zi,sgL,if_neg h1,if_neg h2];rfl
theorem zro (letter:UInt8) (s:List UInt8) (h:s.length=1) (h0:s.getD 0 0=letter):jc letter s=zb2 false s 1:=by
 match s,h with
 | [c],_=>
  have hc:c=letter:=h0;subst hc;show (if c≠c then none else _)=_;rw[if_neg zi];rfl
theorem zup (letter:UInt8) (s:List UInt8) (h:s.length≠0) (h0:s.getD 0 0≠letter):jc letter s=none:=by
 match s,h with
 | [],h=>exact absurd rfl h
 | c::r,_=>show (if c≠letter then none else _)=none;exact if_pos h0
def optI (o:Option Int):Value:=.tuple #[.int .i64 (o.getD 0),.bool o.isSome]
theorem u8_ne (x y:UInt8) (h:x≠y):((x.toNat:Int)==(y.toNat:Int))=false/\(x.toNat==y.toNat)=false:=by
 have h1:x.toNat≠y.toNat:=fun e=>h (UInt8.toNat_inj.1 e)
 exact⟨zf,zγo⟩
set_option maxRecDepth 100000 in
theorem zhg (letter:UInt8) (s:List UInt8) (w:World) (hs:s.length<=4000000):
  Calls Tryz.prog 81 #[.string ⟨s.toArray⟩,.int .u8 (letter.toNat:Int)] w fun e w'=>e=.returned (optI (jc letter s))/\w.grownBy w' none:=by
 refine ye Tryz.func81 rfl (by rw[Tryz.ntmps81];simp) ?_;intro σ hσ;rw[Tryz.ntmps81];have s0:σ 0=.string ⟨s.toArray⟩:=hσ 0 zi;have s1:σ 1=.int .u8 (letter.toNat:Int):=hσ 1 zi;clear hσ;have hsz:(⟨s.toArray⟩:ByteArray).size=s.length:=zm;obtain⟨N,hN⟩:=zX s.length;rw[hN]at hsz hs;have HN:=zH hN;by_cases hN0:N=0
 ·have e:s=[]:=List.length_eq_zero_iff.1 (by rw[hN];exact hN0);subst e;clear hN;(go_wp2_with fail;repeat ((first|refine cZ ?_|refine cW ?_);go_wp2_with fail));exact xc (.int .i64 0) (.bool false) rfl ze ze zb zb ⟨rfl,yy w none⟩
 have hemp:s.isEmpty=false:=by
  cases s with
  | nil=>exact absurd hN.symm hN0
  | cons a r=>rfl
 clear hN;have hidx:=xu s 0 zt;have hN1:(0:Int)<(N:Int):=zd;have hN2:0<N:=zd;obtain⟨c,hc⟩:=zX (s.getD 0 0);rw[hc]at hidx;have HC:=zH hc;clear hc;by_cases hcl:c=letter
 case neg=>
  obtain⟨q1,q2⟩:=u8_ne c letter hcl;have q3:((c.toNat:Int) != (letter.toNat:Int))=true:=by rw[bne,q1];rfl
  have q4:(c.toNat != letter.toNat)=true:=by rw[bne,q2];rfl
  have HE:=zH (zup letter s (by rw[HN.out];exact hN0) (by rw[HC.out];exact hcl));clear hcl;(go_wp2_with fail;repeat ((first|refine cZ ?_|refine cW ?_);go_wp2_with fail));exact xc (.int .i64 0) (.bool false) rfl ze ze zb zb ⟨by rw[HE.out];rfl,yy w none⟩
 have q3:((c.toNat:Int) != (letter.toNat:Int))=false:=by subst hcl;simp
 have q4:(c.toNat != letter.toNat)=false:=by subst hcl;simp
 have HCL:=zH hcl;clear hcl;obtain⟨neg,k,hk1,hkN,HE,hcase⟩:∃ (neg:Bool) (k:Nat),1<=k/\k<=N/\Hid (jc letter s=zb2 neg s k)/\((k=1/\neg=false/\N=1)\/(k=1/\neg=false/\1<N/\s.getD 1 0≠43/\s.getD 1 0≠45)\/(k=2/\neg=false/\1<N/\s.getD 1 0=43)\/(k=2/\neg=true/\1<N/\s.getD 1 0=45)):=by
  by_cases hN9:N=1
  ·exact⟨false,1,Nat.le_refl _,zd,zro letter s (by rw[HN.out];exact hN9) (by rw[HC.out];exact HCL.out),Or.inl ⟨rfl,rfl,hN9⟩⟩
  ·rcases zou letter s zt (by rw[HC.out];exact HCL.out) with⟨a,b⟩ | ⟨a,b⟩ | ⟨a,b,c⟩
   ·exact⟨false,2,zd,zd,b,Or.inr (Or.inr (Or.inl ⟨rfl,rfl,zd,a⟩))⟩
   ·exact⟨true,2,zd,zd,b,Or.inr (Or.inr (Or.inr ⟨rfl,rfl,zd,a⟩))⟩
   ·exact⟨false,1,zd,zd,c,Or.inr (Or.inl ⟨rfl,rfl,zd,a,b⟩)⟩
 clear hN0;((repeat (go_upto_region 5 with fail;first | (refine jq ?hc ze ?_;(case hc=>(simp[ov, *];done))) | (refine kj ?hc ze ?_;(case hc=>(simp[ov, *];done)))));go_upto_region 5 with fail);refine yr (fun s' w'=>s' 34=.bool (k==2)/\s' 0=.string ⟨s.toArray⟩/\s' 6=.int .i64 1/\s' 7=.bool false/\w=w') ?_ ?_
 ·intro R' K' HR hK';rcases hcase with⟨rfl,rfl,rfl⟩ | ⟨rfl,rfl,h1,h43,h45⟩ | ⟨rfl,rfl,h1,h43⟩ | ⟨rfl,rfl,h1,h45⟩
  ·(go_wp2_with fail;repeat ((first|refine cZ ?_|refine cW ?_);go_wp2_with fail));exact got HR zb
  ·have hidx1:=xu s 1 zS;generalize s.getD 1 0=x at *
   have n43:x.toNat≠43:=fun e=>h43 (UInt8.toNat_inj.1 e)
   have n45:x.toNat≠45:=fun e=>h45 (UInt8.toNat_inj.1 e)
   have p1a:((x.toNat:Int)==43)=false:=zf;have p1b:(x.toNat==43)=false:=by rw[beq_eq_false_iff_ne];exact n43
   have p2a:((x.toNat:Int)==45)=false:=zf;have p2b:(x.toNat==45)=false:=by rw[beq_eq_false_iff_ne];exact n45
   clear n43 n45 h43 h45;have h1':(1:Int)<(N:Int):=zd;(go_wp2_with fail;repeat ((first|refine cZ ?_|refine cW ?_);go_wp2_with fail));exact got HR zb
  ·have hidx1:=xu s 1 zS;rw[h43]at hidx1;clear h43;have h1':(1:Int)<(N:Int):=zd;(go_wp2_with fail;repeat ((first|refine cZ ?_|refine cW ?_);go_wp2_with fail));exact got HR zb
  ·have hidx1:=xu s 1 zS;rw[h45]at hidx1;clear h45;have h1':(1:Int)<(N:Int):=zd;(go_wp2_with fail;repeat ((first|refine cZ ?_|refine cW ?_);go_wp2_with fail));exact got HR zb
 clear s0 s1 σ;rintro σ w' ⟨s34,s0,s6,s7,rfl⟩;go_wp2_with fail;refine yr (fun s' w'=>s' 0=.string ⟨s.toArray⟩/\s' 6=.int .i64 (k:Int)/\s' 7=.bool neg/\w=w') ?_ ?_
 ·intro R' K' HR hK';rcases hcase with⟨rfl,rfl,rfl⟩ | ⟨rfl,rfl,h1,h43,h45⟩ | ⟨rfl,rfl,h1,h43⟩ | ⟨rfl,rfl,h1,h45⟩
  ·refine kj zb ze ?_;(go_wp2_with fail;repeat ((first|refine cZ ?_|refine cW ?_);go_wp2_with fail));exact got HR zb
  ·refine kj zb ze ?_;clear h43 h45;(go_wp2_with fail;repeat ((first|refine cZ ?_|refine cW ?_);go_wp2_with fail));exact got HR zb
  ·refine jq zb ze ?_;have hidx1:=xu s 1 zS;rw[h43]at hidx1;clear h43;have h1':(1:Int)<(N:Int):=zd;(go_wp2_with fail;repeat ((first|refine cZ ?_|refine cW ?_);go_wp2_with fail));exact got HR zb
  ·refine jq zb ze ?_;have hidx1:=xu s 1 zS;rw[h45]at hidx1;clear h45;have h1':(1:Int)<(N:Int):=zd;(go_wp2_with fail;repeat ((first|refine cZ ?_|refine cW ?_);go_wp2_with fail));exact got HR zb
 clear s34 s0 s6 s7 σ hcase HCL HC q3 q4 hidx hemp hN1 hN2;rintro σ w' ⟨s0,s6,s7,rfl⟩;have hrun:=zm6 10 (Or.inl rfl) s k w (by rw[HN.out];exact hs) (by rw[HN.out];exact hkN);rw[show ((10:Nat):Int)=10 from rfl]at hrun;have hEle:=zh4 10 (s.drop k);rw[List.length_drop,HN.out]at hEle;obtain⟨E,hE⟩:=zX (k+jh 10 (s.drop k));rw[hE]at hrun;have HRUN:=zH hrun;have hEN:E<=N:=zd;have HEE:=zH hE;clear hrun hE hEle;by_cases hkn:k=N
 ·subst hkn;have hres:jc letter s=none:=by
   rw[HE.out];unfold zb2 zft;rw[if_pos (Or.inl (List.drop_of_length_le zR))]
  have HRES:=zH hres;clear hres;(go_wp2_with fail;repeat ((first|refine cZ ?_|refine cW ?_);go_wp2_with fail));exact xc (.int .i64 0) (.bool false) rfl ze ze zb zb ⟨by rw[HRES.out];rfl,yy w none⟩
 have r1:((k:Int)==(N:Int))=false:=zf;have r2:(k==N)=false:=zf;by_cases hEn:E=N
 case neg=>
  have hres:jc letter s=none:=by
   rw[HE.out];unfold zb2 zft;rw[if_pos (Or.inr (by rw[List.length_drop,HN.out];have:=HEE.out;omega))]
  have HRES:=zH hres;have r3:((E:Int) != (N:Int))=true:=zQ;have r4:(E != N)=true:=zQ;clear hres;(go_wp2_with (first | (refine HRUN.out.mono ?_;rintro e w8 ⟨rfl,rfl⟩));repeat ((first|refine cZ ?_|refine cW ?_);go_wp2_with (first | (refine HRUN.out.mono ?_;rintro e w8 ⟨rfl,rfl⟩))));exact xc (.int .i64 0) (.bool false) rfl ze ze zb zb ⟨by rw[HRES.out];rfl,yy w none⟩
 subst hEn;have hres:jc letter s=some (if neg then -(ki (dgL 10 (s.drop k)):Int) else (ki (dgL 10 (s.drop k)):Int)):=by
  rw[HE.out];unfold zb2 zft;rw[if_neg];rintro (h | h)
  ·have:=congrArg List.length h;rw[List.length_drop,HN.out,List.length_nil]at this;omega
  ·rw[List.length_drop,HN.out]at h;have:=HEE.out;omega
 have HRES:=zH hres;have hext:(⟨s.toArray⟩:ByteArray).extract k E=⟨(s.drop k).toArray⟩:=by
  apply ByteArray.ext;simp[ByteArray.data_extract];exact List.take_of_length_le (by rw[List.length_drop,HN.out];exact Nat.le_refl _)
 have hdg:=zbz 10 (Or.inl rfl) (s.drop k) w zαb;rw[show ((10:Nat):Int)=10 from rfl]at hdg;have HDG:=zH hdg;have hdl:=zf0 10 (s.drop k);rw[List.length_drop,HN.out]at hdl;have HDD:=zH (zwv 10 (s.drop k));clear hres hdg;generalize dgL 10 (s.drop k)=l at *
 obtain⟨M,hM⟩:=zX l.length;rw[hM]at hdl;have HM:=zH hM;clear hM;(go_wp2_with (first | (refine HRUN.out.mono ?_;rintro e w8 ⟨rfl,rfl⟩) | (refine HDG.out.mono ?_;rintro e w8 ⟨v8,rfl,ho8,hg8⟩;obtain⟨g8,c8,hv8,b1,b2,b3,b4⟩:=ho8.block;rw[HM.out]at hv8 b3;subst hv8));repeat ((first|refine cZ ?_|refine cW ?_);go_wp2_with (first | (refine HRUN.out.mono ?_;rintro e w8 ⟨rfl,rfl⟩) | (refine HDG.out.mono ?_;rintro e w8 ⟨v8,rfl,ho8,hg8⟩;obtain⟨g8,c8,hv8,b1,b2,b3,b4⟩:=ho8.block;rw[HM.out]at hv8 b3;subst hv8))));have HO:=zH ho8;have HG:=zH hg8;clear ho8 hg8;refine xx (fun kk s' w'=>∃ (i n:Nat),i<=M/\kk=M-i/\n=ki (l.take i)/\n<=1000000000000000/\s' 7=.bool neg/\s' 8=.int .i64 (n:Int)/\s' 56=.slice (some ⟨g8,0,none⟩) M c8/\s' 57=.int .i64 (M:Int)/\s' 58=.int .i64 (i:Int)/\w8.grownBy w' none) M
  ⟨0,0,Nat.zero_le _,rfl,rfl,zd,zb,zb,zb,zb,zb,yy w8 none⟩ ?_
 clear s0 s6 s7 σ HRUN HEE HDG;rintro kk σ wk ⟨i,n,hi,hkk,hn,hn1,s7,s8,s56,s57,s58,hgk⟩ RK KK HRK hKK;have HKK:=zH hkk;have HNN:=zH hn;have HGK:=zH hgk;clear hkk hn hgk;by_cases hiM:i<M
 ·obtain⟨d,hd⟩:∃ d,l[i]?=some d:=⟨l[i]'(by rw[HM.out];exact hiM),List.getElem?_eq_getElem _⟩;have hcj:=(HO.out.grown0 HGK.out).cell i d hd;unfold qd at hcj;have hd16:=HDD.out d (List.mem_of_getElem? hd);have hts:=zl1 l i (by rw[HM.out];exact hiM);have hgd:l.getD i 0=d:=by rw[List.getD_eq_getElem?_getD,hd];rfl
  rw[hgd,<-HNN.out]at hts;have HTS:=zH hts;have hiM':(i:Int)<(M:Int):=zd;clear hd hgd hts;by_cases hmin:n*10+d<=1000000000000000
  ·have hmi:min ((n:Int)*10+(d:Int)) 1000000000000000=(n:Int)*10+(d:Int):=zd;(go_wp2_with fail;repeat ((first|refine cZ ?_|refine cW ?_);go_wp2_with fail));exact wo HRK (M-(i+1)) (by have:=HKK.out;omega) ⟨i+1,n*10+d,zd,rfl,by rw[HTS.out];omega,zd,zb,zb,zb,zb,zj,HGK.out⟩
  ·have hmi:min ((n:Int)*10+(d:Int)) 1000000000000000=1000000000000000:=zd;(go_wp2_with fail;repeat ((first|refine cZ ?_|refine cW ?_);go_wp2_with fail));exact wo HRK (M-(i+1)) (by have:=HKK.out;omega) ⟨i+1,1000000000000000,zd,rfl,by rw[HTS.out];omega,zd,zb,zb,zb,zb,zj,HGK.out⟩
 ·have hiM':decide (i<M)=false:=by simpa using hiM
  have hall:l.take i=l:=List.take_of_length_le (by rw[HM.out];omega);have hfin:ki l=n:=by rw[HNN.out,hall]
  have HF:=zH hfin;clear hall hfin;cases neg with
  | true=>
   (go_wp2_with fail;repeat ((first|refine cZ ?_|refine cW ?_);go_wp2_with fail));exact xc (.int .i64 (-(n:Int))) (.bool true) rfl ze ze zb zb ⟨by rw[HRES.out,HF.out];rfl,ya HG.out HGK.out⟩
  | false=>
   (go_wp2_with fail;repeat ((first|refine cZ ?_|refine cW ?_);go_wp2_with fail));exact xc (.int .i64 (n:Int)) (.bool true) rfl ze ze zb zb ⟨by rw[HRES.out,HF.out];rfl,ya HG.out HGK.out⟩
end
section
attribute [local go_sem] undef
theorem zdh (w:World) (B:Nat) (u0 u1 u2:Value):w.grownBy (((w.setCell ⟨B,0,none⟩ u0).setCell ⟨B,1,none⟩ u1).setCell ⟨B,2,none⟩ u2) (some B):=
 yx (yx (wq w ⟨B,0,none⟩ _) (wq _ ⟨B,1,none⟩ _) (fun _ h _=>h)) (wq _ ⟨B,2,none⟩ _) (fun _ h _=>h)
end
section
attribute [local go_sem] undef
theorem zr6 (j:Int) (h1:-9223372036854775808<=j) (h2:j<=9223372036854775807):IntKind.i64.wrap j=j:=by rw[IntKind.wrap_i64];omega
structure InBlk (w w1:World) (B:Nat) (neg:Bool) (vn vd:Value):Prop where
 row:Row w1 B [.bool neg,vn,vd]
 grown:w.grownBy w1 none
 size:w.heap.size=B
theorem InBlk.new (w:World) (neg:Bool) (vn vd:Value) (t:TypeId):InBlk w (w.alloc (.cells #[.bool neg,vn,vd] t)) w.heap.size neg vn vd:=⟨Row.new w _ _,World.grownBy_alloc w _ none,rfl⟩
end
section
attribute [local go_sem] undef
theorem zab (x K N:Nat) (h:(yf x).length<=K):(yf (x*2^N)).length<=K+N:=by
 refine yv ?_;rw[Nat.pow_add];refine Nat.mul_lt_mul_of_lt_of_le (Nat.lt_of_lt_of_le (wu x) (Nat.pow_le_pow_right ze h)) ?_ (Nat.pow_pos ze);exact Nat.pow_le_pow_left ze _
set_option maxRecDepth 100000 in
theorem zli (neg:Bool) (vn vd:Value) (a b N:Nat) (w:World) (hn:NatV w vn a) (hd:NatV w vd b) (hla:(yf a).length<=1000000) (hlb:(yf b).length<=1000000) (hN:N<=5000000):
  Calls Tryz.prog 56 #[.agg #[.bool neg,vn,vd],.int .i64 (N:Int)] w fun e w'=>∃ vr,e=.returned vr/\zpu w' vr neg (a) (b*2^N)/\w.grownBy w' none:=by
 have HM:=zH (fun W (hg:w.grownBy W none)=>qe vd b N W (hd.grown hg) hlb zd);have HNA:=zH hn;have HNB:=zH hd;obtain⟨an,cn,rfl⟩:=hn.len;obtain⟨ad,cd,rfl⟩:=hd.len;generalize (yf a).length=LN at *
 generalize (yf b).length=LD at *
 obtain⟨w1,hw1⟩:=zX ((w.alloc (.cells #[.bool neg,.slice an LN cn,.slice ad LD cd] 41)).alloc (.cells #[.bool false,.slice none 0 0,.slice none 0 0] 41));obtain⟨B,hB⟩:=zX w.heap.size;have hrT:Row w1 B [.bool neg,.slice an LN cn,.slice ad LD cd]:=zV;have hrR:Row w1 (B+1) ratZ:=by
  rw[<-hw1,<-hB];have:=Row.new (w.alloc (.cells #[.bool neg,.slice an LN cn,.slice ad LD cd] 41)) ratZ 41;have e:(w.alloc (.cells #[.bool neg,.slice an LN cn,.slice ad LD cd] 41)).heap.size=w.heap.size+1:=by show (w.heap.push _).size=_;simp
  rw[e]at this;exact this
 have hg1:w.grownBy w1 none:=zy;have HRT:=zH hrT;have HRR:=zH hrR;have HG1:=zH hg1;have HW1:=zH hw1;have HB:=zH hB;clear hrT hrR hg1 hw1 hn hd hla hlb;refine ye Tryz.func56 rfl (by rw[Tryz.ntmps56];simp) ?_;intro σ hσ;rw[Tryz.ntmps56];have s0:σ 0=.agg #[.bool neg,.slice an LN cn,.slice ad LD cd]:=hσ 0 zi;have s1:σ 1=.int .i64 (N:Int):=hσ 1 zi;clear hσ;go_upto_region 1 with fail;rw[HW1.out];clear HW1;have hcell0:∀ W,w1.grownBy W (some (B+1))->W.cell? ⟨B,0,none⟩=some (.bool neg):=fun W h=>(HRT.out.grown h zi).cell 0
 have hcell1:∀ W,w1.grownBy W (some (B+1))->W.cell? ⟨B,1,none⟩=some (.slice an LN cn):=fun W h=>(HRT.out.grown h zi).cell 1
 have hcell2:∀ W,w1.grownBy W (some (B+1))->W.cell? ⟨B,2,none⟩=some (.slice ad LD cd):=fun W h=>(HRT.out.grown h zi).cell 2
 have HC0:=zH hcell0;have HC1:=zH hcell1;have HC2:=zH hcell2;clear hcell0 hcell1 hcell2 hB;(go_wp2_with fail;repeat ((first|refine cZ ?_|refine cW ?_);go_wp2_with fail));refine wp_region_noPanic ?_;refine wp_region_held_drew (S:=fun W=>w1.grownBy W (some (B+1))) zg (yh w1 1 _) (fun hHeld=>?_);have hrD:=HRR.out.drew;have hG:=ya HG1.out (yh w1 1 none);replace hG:w.grownBy w1.drew none:=hG;(refine yg 0 7 ?_);(refine xg 1 8 (oi:=?_) (v:=?_) ?_ ?_ zg zg zg (fun _ _ _ _ _ h=>h) ?_ zq ?_ ?_;rotate_left 2;(focus ((simp only[List.getElem?_toArray,List.getElem?_cons_succ,List.getElem?_cons_zero]);rfl));(focus rfl);(focus (first | rfl | (simp only[Region.wanted,yielded,List.getElem?_toArray,List.getElem?_cons_succ,List.getElem?_cons_zero,Option.bind_some,Option.map_some,Fr_get?,yc,yd];rfl) | go_simp));(focus (intro W hS;have hc:=HC0.out W hS;go_simp;try with_reducible rfl)));(refine yg 2 9 ?_);(refine xg 3 10 (oi:=?_) (v:=?_) ?_ ?_ zg zg zg (fun _ _ _ _ _ h=>h) ?_ zq ?_ ?_;rotate_left 2;(focus ((simp only[List.getElem?_toArray,List.getElem?_cons_succ,List.getElem?_cons_zero]);rfl));(focus rfl);(focus (first | rfl | (simp only[Region.wanted,yielded,List.getElem?_toArray,List.getElem?_cons_succ,List.getElem?_cons_zero,Option.bind_some,Option.map_some,Fr_get?,yc,yd];rfl) | go_simp));(focus (intro W hS;have hc:=HC1.out W hS;go_simp;try with_reducible rfl)));(refine yg 4 11 ?_);(refine xg 5 12 (oi:=?_) (v:=?_) ?_ ?_ zg zg zg (fun _ _ _ _ _ h=>h) ?_ zq ?_ ?_;rotate_left 2;(focus ((simp only[List.getElem?_toArray,List.getElem?_cons_succ,List.getElem?_cons_zero]);rfl));(focus rfl);(focus (first | rfl | (simp only[Region.wanted,yielded,List.getElem?_toArray,List.getElem?_cons_succ,List.getElem?_cons_zero,Option.bind_some,Option.map_some,Fr_get?,yc,yd];rfl) | go_simp));(focus (intro W hS;have hc:=HC2.out W hS;go_simp;try with_reducible rfl)));(refine yg 6 13 ?_);(refine zO 7 ?_;intro K hK;go_simp;(refine (HM.out _ hG).mono ?_;rintro e wA ⟨vA,rfl,hvd,hgA⟩);go_wp2_with fail;replace hHeld:=yx hHeld hgA (fun j e=>zL);refine hK.out _ _ hHeld ?_;clear hK K);replace hrD:=hrD.grown hgA zi;replace hG:=ya hG hgA;clear hgA;have hvn:=HNA.out.grown hG;obtain⟨am,cm,rfl⟩:=hvd.len;generalize (yf (b*2^N)).length=LM at *
 (refine yg 8 15 ?_);have k0:=hrD.cell 0;have k1:=hrD.cell 1;have k2:=hrD.cell 2;have t0:=hrD.frozen 0;have t1:=hrD.frozen 1;have t2:=hrD.frozen 2;unfold ratZ at k0 k1 k2;simp only[List.getElem?_cons_zero,List.getElem?_cons_succ]at k0 k1 k2;have HG:=zH (xk hG (B:=B+1) (by have:=HB.out;omega) (.bool neg) (.slice an LN cn) (.slice am LM cm));have HVN:=zH (yz hrD hvn neg (.slice an LN cn) (.slice am LM cm));have HVD:=zH (yz hrD hvd neg (.slice an LN cn) (.slice am LM cm));have HROW:=zH (wp hrD (.bool neg) (.slice an LN cn) (.slice am LM cm));(refine zO 9 ?_;intro K hK;go_simp;(skip);go_wp2_with fail;replace hHeld:=yx hHeld (zdh _ _ (.bool neg) (.slice an LN cn) (.slice am LM cm)) (fun j e _=>e ▸ rfl);refine hK.out _ _ hHeld ?_;clear hK K);refine wpAnyH_done zg ?_ _;refine NoPanic.normal ?_;(go_wp2_with fail;repeat ((first|refine cZ ?_|refine cW ?_);go_wp2_with fail));obtain⟨ty,hrow⟩:=HROW.out;exact bodyPost_ret (v:=.agg #[.bool neg,.slice an LN cn,.slice am LM cm]) (results_cell_row rfl _ _ (B+1) ty _ (0,0) _ (by rw[wa 26 _ σ 4 ze];simp[ov, *]) hrow Tryz.underlying41 rfl zg) (vz ..) ⟨_,rfl,⟨_,_,rfl,HVN.out,HVD.out⟩,HG.out⟩
set_option maxRecDepth 100000 in
theorem zgz (neg:Bool) (vn vd:Value) (a b N:Nat) (w:World) (hn:NatV w vn a) (hd:NatV w vd b) (hla:(yf a).length<=1000000) (hlb:(yf b).length<=1000000) (hN:N<=5000000) (hN1:1<=N):
  Calls Tryz.prog 56 #[.agg #[.bool neg,vn,vd],.int .i64 (-(N:Int))] w fun e w'=>∃ vr,e=.returned vr/\zpu w' vr neg (a*2^N) (b)/\w.grownBy w' none:=by
 have HM:=zH (fun W (hg:w.grownBy W none)=>qe vn a N W (hn.grown hg) hla zd);have HNA:=zH hn;have HNB:=zH hd;obtain⟨an,cn,rfl⟩:=hn.len;obtain⟨ad,cd,rfl⟩:=hd.len;generalize (yf a).length=LN at *
 generalize (yf b).length=LD at *
 obtain⟨w1,hw1⟩:=zX ((w.alloc (.cells #[.bool neg,.slice an LN cn,.slice ad LD cd] 41)).alloc (.cells #[.bool false,.slice none 0 0,.slice none 0 0] 41));obtain⟨B,hB⟩:=zX w.heap.size;have hrT:Row w1 B [.bool neg,.slice an LN cn,.slice ad LD cd]:=zV;have hrR:Row w1 (B+1) ratZ:=by
  rw[<-hw1,<-hB];have:=Row.new (w.alloc (.cells #[.bool neg,.slice an LN cn,.slice ad LD cd] 41)) ratZ 41;have e:(w.alloc (.cells #[.bool neg,.slice an LN cn,.slice ad LD cd] 41)).heap.size=w.heap.size+1:=by show (w.heap.push _).size=_;simp
  rw[e]at this;exact this
 have hg1:w.grownBy w1 none:=zy;have HRT:=zH hrT;have HRR:=zH hrR;have HG1:=zH hg1;have HW1:=zH hw1;have HB:=zH hB;clear hrT hrR hg1 hw1 hn hd hla hlb;refine ye Tryz.func56 rfl (by rw[Tryz.ntmps56];simp) ?_;intro σ hσ;rw[Tryz.ntmps56];have s0:σ 0=.agg #[.bool neg,.slice an LN cn,.slice ad LD cd]:=hσ 0 zi;have s1:σ 1=.int .i64 (-(N:Int)):=hσ 1 zi;have f1:decide ((0:Int)<=-(N:Int))=false:=zh;have f2:decide (N=0)=false:=zh;clear hσ;go_upto_region 1 with fail;rw[HW1.out];clear HW1;have hcell0:∀ W,w1.grownBy W (some (B+1))->W.cell? ⟨B,0,none⟩=some (.bool neg):=fun W h=>(HRT.out.grown h zi).cell 0
 have hcell1:∀ W,w1.grownBy W (some (B+1))->W.cell? ⟨B,1,none⟩=some (.slice an LN cn):=fun W h=>(HRT.out.grown h zi).cell 1
 have hcell2:∀ W,w1.grownBy W (some (B+1))->W.cell? ⟨B,2,none⟩=some (.slice ad LD cd):=fun W h=>(HRT.out.grown h zi).cell 2
 have HC0:=zH hcell0;have HC1:=zH hcell1;have HC2:=zH hcell2;clear hcell0 hcell1 hcell2 hB;(go_wp2_with fail;repeat ((first|refine cZ ?_|refine cW ?_);go_wp2_with fail));refine wp_region_noPanic ?_;refine wp_region_held_drew (S:=fun W=>w1.grownBy W (some (B+1))) zg (yh w1 1 _) (fun hHeld=>?_);have hrD:=HRR.out.drew;have hG:=ya HG1.out (yh w1 1 none);replace hG:w.grownBy w1.drew none:=hG;(refine yg 0 16 ?_);(refine xg 1 17 (oi:=?_) (v:=?_) ?_ ?_ zg zg zg (fun _ _ _ _ _ h=>h) ?_ zq ?_ ?_;rotate_left 2;(focus ((simp only[List.getElem?_toArray,List.getElem?_cons_succ,List.getElem?_cons_zero]);rfl));(focus rfl);(focus (first | rfl | (simp only[Region.wanted,yielded,List.getElem?_toArray,List.getElem?_cons_succ,List.getElem?_cons_zero,Option.bind_some,Option.map_some,Fr_get?,yc,yd];rfl) | go_simp));(focus (intro W hS;have hc:=HC0.out W hS;go_simp;try with_reducible rfl)));(refine yg 2 18 ?_);(refine xg 3 19 (oi:=?_) (v:=?_) ?_ ?_ zg zg zg (fun _ _ _ _ _ h=>h) ?_ zq ?_ ?_;rotate_left 2;(focus ((simp only[List.getElem?_toArray,List.getElem?_cons_succ,List.getElem?_cons_zero]);rfl));(focus rfl);(focus (first | rfl | (simp only[Region.wanted,yielded,List.getElem?_toArray,List.getElem?_cons_succ,List.getElem?_cons_zero,Option.bind_some,Option.map_some,Fr_get?,yc,yd];rfl) | go_simp));(focus (intro W hS;have hc:=HC1.out W hS;go_simp;try with_reducible rfl)));(refine yg 4 20 ?_);(refine xg 5 21 (oi:=?_) (v:=?_) ?_ ?_ zg zg zg (fun _ _ _ _ _ h=>h) ?_ zq ?_ ?_;rotate_left 2;(focus ((simp only[List.getElem?_toArray,List.getElem?_cons_succ,List.getElem?_cons_zero]);rfl));(focus rfl);(focus (first | rfl | (simp only[Region.wanted,yielded,List.getElem?_toArray,List.getElem?_cons_succ,List.getElem?_cons_zero,Option.bind_some,Option.map_some,Fr_get?,yc,yd];rfl) | go_simp));(focus (intro W hS;go_simp;rw[vt N zd])));(refine yg 7 23 ?_);(refine xg 8 24 (oi:=?_) (v:=?_) ?_ ?_ zg zg zg (fun _ _ _ _ _ h=>h) ?_ zq ?_ ?_;rotate_left 2;(focus ((simp only[List.getElem?_toArray,List.getElem?_cons_succ,List.getElem?_cons_zero]);rfl));(focus rfl);(focus (first | rfl | (simp only[Region.wanted,yielded,List.getElem?_toArray,List.getElem?_cons_succ,List.getElem?_cons_zero,Option.bind_some,Option.map_some,Fr_get?,yc,yd];rfl) | go_simp));(focus (intro W hS;have hc:=HC2.out W hS;go_simp;try with_reducible rfl)));(refine zO 6 ?_;intro K hK;go_simp;(refine (HM.out _ hG).mono ?_;rintro e wA ⟨vA,rfl,hvn,hgA⟩);go_wp2_with fail;replace hHeld:=yx hHeld hgA (fun j e=>zL);refine hK.out _ _ hHeld ?_;clear hK K);replace hrD:=hrD.grown hgA zi;replace hG:=ya hG hgA;clear hgA;have hvd:=HNB.out.grown hG;obtain⟨am,cm,rfl⟩:=hvn.len;generalize (yf (a*2^N)).length=LM at *
 (refine yg 9 25 ?_);have k0:=hrD.cell 0;have k1:=hrD.cell 1;have k2:=hrD.cell 2;have t0:=hrD.frozen 0;have t1:=hrD.frozen 1;have t2:=hrD.frozen 2;unfold ratZ at k0 k1 k2;simp only[List.getElem?_cons_zero,List.getElem?_cons_succ]at k0 k1 k2;have HG:=zH (xk hG (B:=B+1) (by have:=HB.out;omega) (.bool neg) (.slice am LM cm) (.slice ad LD cd));have HVN:=zH (yz hrD hvn neg (.slice am LM cm) (.slice ad LD cd));have HVD:=zH (yz hrD hvd neg (.slice am LM cm) (.slice ad LD cd));have HROW:=zH (wp hrD (.bool neg) (.slice am LM cm) (.slice ad LD cd));(refine zO 10 ?_;intro K hK;go_simp;(skip);go_wp2_with fail;replace hHeld:=yx hHeld (zdh _ _ (.bool neg) (.slice am LM cm) (.slice ad LD cd)) (fun j e _=>e ▸ rfl);refine hK.out _ _ hHeld ?_;clear hK K);refine wpAnyH_done zg ?_ _;refine NoPanic.normal ?_;(go_wp2_with fail;repeat ((first|refine cZ ?_|refine cW ?_);go_wp2_with fail));obtain⟨ty,hrow⟩:=HROW.out;exact bodyPost_ret (v:=.agg #[.bool neg,.slice am LM cm,.slice ad LD cd]) (results_cell_row rfl _ _ (B+1) ty _ (0,0) _ (by rw[wa 26 _ σ 4 ze];simp[ov, *]) hrow Tryz.underlying41 rfl zg) (vz ..) ⟨_,rfl,⟨_,_,rfl,HVN.out,HVD.out⟩,HG.out⟩
theorem zc1 (neg:Bool) (vn vd:Value) (a b:Nat) (k:Int) (w:World) (hn:NatV w vn a) (hd:NatV w vd b) (hla:(yf a).length<=1000000) (hlb:(yf b).length<=1000000) (hk1:-5000000<=k) (hk2:k<=5000000):
  Calls Tryz.prog 56 #[.agg #[.bool neg,vn,vd],.int .i64 k] w fun e w'=>∃ vr,e=.returned vr/\zpu w' vr neg (a*2^(-k).toNat) (b*2^k.toNat)/\w.grownBy w' none:=by
 by_cases hk0:0<=k
 ·obtain⟨N,rfl⟩:∃ N:Nat,k=(N:Int):=⟨k.toNat,zd⟩;rw[Int.toNat_natCast,show (-(N:Int)).toNat=0 by omega,Nat.pow_zero,Nat.mul_one];exact zli neg vn vd a b N w hn hd hla hlb zd
 ·obtain⟨N,rfl⟩:∃ N:Nat,k=-(N:Int):=⟨(-k).toNat,zd⟩;rw[Int.neg_neg,Int.toNat_natCast,show (-(N:Int)).toNat=0 by omega,Nat.pow_zero,Nat.mul_one];exact zgz neg vn vd a b N w hn hd hla hlb zd zd 
end
section
attribute [local go_sem] undef
theorem jk (a K:Nat) (h:(yf a).length<=K):yu a<=30*K:=by
 by_cases h0:a=0
 ·subst h0;unfold yu;rw[if_pos rfl];omega
 ·have h1:=vw h0;have h2:=wu a;rw[js]at h2;have h3:=(Nat.pow_lt_pow_iff_right (by omega:1<2)).1 (Nat.lt_of_le_of_lt h1 h2);have:30*(yf a).length<=30*K:=Nat.mul_le_mul_left _ h;omega
set_option maxRecDepth 100000 in
theorem zdz (neg:Bool) (vn vd:Value) (a b:Nat) (w:World) (hn:NatV w vn a) (hd:NatV w vd b) (hla:(yf a).length<=150000) (hlb:(yf b).length<=150000):
  Calls Tryz.prog 54 #[.agg #[.bool neg,vn,vd]] w fun e w'=>e=.returned (.int .i64 (uo a b))/\w.grownBy w' none:=by
 have da:=jk a 150000 hla;have db:=jk b 150000 hlb;obtain⟨j,hj⟩:=zX ((yu a:Int)-yu b);have HTA:=zH (fun W h=>yir vn a W (hn.grown h) zd);have HTB:=zH (fun W h=>yir vd b W (hd.grown h) zd);have HTT:=zH (fun W h=>zc1 neg vn vd a b j W (hn.grown h) (hd.grown h) zd zd zd zd);obtain⟨κ,hκ⟩:=zX (ko (a*2^(-j).toNat) (b*2^j.toNat));have hcm:∀ V U W,NatV W V (a*2^(-j).toNat)->NatV W U (b*2^j.toNat)->Calls Tryz.prog 44 #[V,U] W fun e w'=>e=.returned (.int .i64 κ)/\W.grownBy w' none:=by
  intro V U W h1 h2;rw[<-hκ];exact qy V U _ _ W h1 h2 (by have:=zab a 150000 (-j).toNat hla;omega) (by have:=zab b 150000 j.toNat hlb;omega)
 have hκ2:le2 a b j↔¬κ<0:=by
  rw[<-hκ];unfold ko;show b*2^j.toNat<=a*2^(-j).toNat↔_;generalize b*2^j.toNat=y;generalize a*2^(-j).toNat=x;split
  ·constructor <;> intro h <;> omega
  ·split <;> (constructor <;> intro h <;> omega)
 have hj1:-4600000<=j:=zd;have hj2:j<=4600000:=zd;have hord:uo a b=if κ<0 then j-1 else j:=by
  unfold uo;rw[hj];by_cases h:κ<0
  ·rw[if_pos h,if_neg (fun hh=>hκ2.1 hh h)]
  ·rw[if_neg h,if_pos (hκ2.2 h)]
 obtain⟨res,hres⟩:=zX (uo a b);have HRES:=zH (hres.symm.trans hord);rw[hres];clear hres;have HCM:=zH hcm;generalize yu a=NA at *
 generalize yu b=NB at *
 clear hcm hord hκ hκ2 hla hlb;obtain⟨an,cn,rfl⟩:=hn.len;obtain⟨ad,cd,rfl⟩:=hd.len;generalize (yf a).length=LN at *
 generalize (yf b).length=LD at *
 obtain⟨w1,hw1⟩:=zX (w.alloc (.cells #[.bool neg,.slice an LN cn,.slice ad LD cd] 41));obtain⟨B,hB⟩:=zX w.heap.size;have hib:=InBlk.new w neg (.slice an LN cn) (.slice ad LD cd) 41;rw[hw1,hB]at hib;have HIB:=zH hib;have HW1:=zH hw1;clear hib hw1 hn hd;refine ye Tryz.func54 rfl (by rw[Tryz.ntmps54];simp) ?_;intro σ hσ;rw[Tryz.ntmps54];have s0:σ 0=.agg #[.bool neg,.slice an LN cn,.slice ad LD cd]:=hσ 0 zi;clear hσ;go_upto_region 1 with fail;rw[HW1.out];clear HW1 hB;have hcell0:∀ W,w1.grownBy W none->W.cell? ⟨B,0,none⟩=some (.bool neg):=fun W h=>(HIB.out.row.grown h zi).cell 0
 have hcell1:∀ W,w1.grownBy W none->W.cell? ⟨B,1,none⟩=some (.slice an LN cn):=fun W h=>(HIB.out.row.grown h zi).cell 1
 have hcell2:∀ W,w1.grownBy W none->W.cell? ⟨B,2,none⟩=some (.slice ad LD cd):=fun W h=>(HIB.out.row.grown h zi).cell 2
 have HC0:=zH hcell0;have HC1:=zH hcell1;have HC2:=zH hcell2;clear hcell0 hcell1 hcell2;have HJ:=zH hj;refine yr (fun s' w'=>s' 1=.pointer (some ⟨B,0,none⟩)/\s' 3=.int .i64 j/\w1.grownBy w' none) ?_ ?_
 ·intro R' K' HR hK';refine wp_region_noPanic ?_;refine wp_region_held_drew (S:=fun W=>w1.grownBy W none) zg (yh w1 1 none) (fun hHeld=>?_);(refine yg 0 5 ?_);(refine xg 1 6 (oi:=?_) (v:=?_) ?_ ?_ zg zg zg (fun _ _ _ _ _ h=>h) ?_ zq ?_ ?_;rotate_left 2;(focus ((simp only[List.getElem?_toArray,List.getElem?_cons_succ,List.getElem?_cons_zero]);rfl));(focus rfl);(focus (first | rfl | (simp only[Region.wanted,yielded,List.getElem?_toArray,List.getElem?_cons_succ,List.getElem?_cons_zero,Option.bind_some,Option.map_some,Fr_get?,yc,yd];rfl) | go_simp));(focus (intro W hS;have hc:=HC1.out W hS;go_simp;try with_reducible rfl)));(refine yg 3 8 ?_);(refine xg 4 9 (oi:=?_) (v:=?_) ?_ ?_ zg zg zg (fun _ _ _ _ _ h=>h) ?_ zq ?_ ?_;rotate_left 2;(focus ((simp only[List.getElem?_toArray,List.getElem?_cons_succ,List.getElem?_cons_zero]);rfl));(focus rfl);(focus (first | rfl | (simp only[Region.wanted,yielded,List.getElem?_toArray,List.getElem?_cons_succ,List.getElem?_cons_zero,Option.bind_some,Option.map_some,Fr_get?,yc,yd];rfl) | go_simp));(focus (intro W hS;have hc:=HC2.out W hS;go_simp;try with_reducible rfl)));(refine zO 2 ?_;intro K hK;go_simp;(refine (HTA.out _ (ya HIB.out.grown hHeld)).mono ?_;rintro e w9 ⟨rfl,rfl⟩);go_wp2_with fail;replace hHeld:=hHeld;refine hK.out _ _ hHeld ?_;clear hK K);(refine zO 5 ?_;intro K hK;go_simp;(refine (HTB.out _ (ya HIB.out.grown hHeld)).mono ?_;rintro e w10 ⟨rfl,rfl⟩);go_wp2_with fail;replace hHeld:=hHeld;refine hK.out _ _ hHeld ?_;clear hK K);(refine xg 6 11 (oi:=?_) (v:=?_) ?_ ?_ zg zg zg (fun _ _ _ _ _ h=>h) ?_ zq ?_ ?_;rotate_left 2;(focus ((simp only[List.getElem?_toArray,List.getElem?_cons_succ,List.getElem?_cons_zero]);rfl));(focus rfl);(focus (first | rfl | (simp only[Region.wanted,yielded,List.getElem?_toArray,List.getElem?_cons_succ,List.getElem?_cons_zero,Option.bind_some,Option.map_some,Fr_get?,yc,yd];rfl) | go_simp));(focus (intro W hS;go_simp;rw[zr6 _ zd zd])));(refine yg 7 3 ?_);refine wpAnyH_done zg ?_ _;refine NoPanic.normal ?_;exact hK' _ _ _ (got HR ⟨zb,zb,hHeld⟩)
 clear s0 σ HTA HTB;rintro σ w2 ⟨s1,s3,hg2⟩;have HG2:=zH (ya HIB.out.grown hg2);have c0:=HC0.out w2 hg2;have c1:=HC1.out w2 hg2;have c2:=HC2.out w2 hg2;clear hg2 hj HC0 HC1 HC2;(go_wp2_with fail;repeat ((first|refine cZ ?_|refine cW ?_);go_wp2_with fail));refine (HTT.out _ HG2.out).mono ?_;rintro e w3 ⟨v3,rfl,hv3,hg3⟩;obtain⟨n3,d3,rfl,hn3,hd3⟩:=hv3;obtain⟨a3,k3,rfl⟩:=hn3.len;obtain⟨b3,l3,rfl⟩:=hd3.len;generalize (yf (a*2^(-j).toNat)).length=LN3 at *
 generalize (yf (b*2^j.toNat)).length=LD3 at *
 have HN3:=zH hn3;have HD3:=zH hd3;have HG3:=zH (ya HG2.out hg3);clear hn3 hd3 hg3 c0 c1 c2;go_upto_region 3 with fail;obtain⟨w4,hw4⟩:∃ w',World.alloc w3 (.cells #[.bool neg,.slice a3 LN3 k3,.slice b3 LD3 l3] 41)=w':=⟨_,rfl⟩;obtain⟨D,hD⟩:=zX ((World.heap w3).size);have hib:=InBlk.new w3 neg (.slice a3 LN3 k3) (.slice b3 LD3 l3) 41;rw[hw4,hD]at hib;rw[hw4,hD];have c0:=hib.row.cell 0;have c1:=hib.row.cell 1;have c2:=hib.row.cell 2;simp only[List.getElem?_cons_zero,List.getElem?_cons_succ]at c0 c1 c2;have HN4:=zH (HN3.out.grown hib.grown);have HD4:=zH (HD3.out.grown hib.grown);have HG4:=zH (ya HG3.out hib.grown);clear hib hw4 hD;(go_wp2_with fail;repeat ((first|refine cZ ?_|refine cW ?_);go_wp2_with fail));refine (HCM.out _ _ _ HN4.out HD4.out).mono ?_;rintro e w5 ⟨rfl,hg5⟩;have HG5:=zH (ya HG4.out hg5);clear hg5 c0 c1 c2;by_cases h:κ<0
 ·have HH:=zH h;(go_wp2_with fail;repeat ((first|refine cZ ?_|refine cW ?_);go_wp2_with fail));exact yl (.int .i64 (j-1)) rfl ze zb ⟨by rw[HRES.out,if_pos HH.out],HG5.out⟩
 ·have f1:decide (κ<0)=false:=zh;have HH:=zH h;clear h;(go_wp2_with fail;repeat ((first|refine cZ ?_|refine cW ?_);go_wp2_with fail));exact yl (.int .i64 j) rfl ze zb ⟨by rw[HRES.out,if_neg (by have:=HH.out;omega)],HG5.out⟩
end
section
attribute [local go_sem] undef
theorem ya6 (x K N:Nat) (h:(yf x).length<=K):(yf (x*2^N)).length<=K+(N / 30+1):=by
 refine yv ?_;rw[Nat.pow_add];refine Nat.mul_lt_mul_of_lt_of_le (Nat.lt_of_lt_of_le (wu x) (Nat.pow_le_pow_right ze h)) ?_ (Nat.pow_pos ze);rw[js];exact Nat.pow_le_pow_right ze zd 
theorem zq5 (f bias:Int) (a b:Nat) (ha:(yf a).length<=150000) (hb:(yf b).length<=150000) (hf1:0<=f) (hf2:f<=52) (hb1:0<=bias) (hb2:bias<=1023):1-bias-f<=yt f bias a b/\yt f bias a b<=4500001/\-4500001<=uo a b/\uo a b<=4500001:=by
 have da:=jk a 150000 ha;have db:=jk b 150000 hb;have ho:-4500001<=uo a b/\uo a b<=4500001:=by unfold uo;split <;> omega
 unfold yt;split <;> omega
def xd (a b:Nat):Nat:=xh 52 1023 9218868437227405312 a b
set_option maxRecDepth 100000 in
theorem zah (neg:Bool) (vn vd:Value) (a b:Nat) (w:World) (hn:NatV w vn a) (hd:NatV w vd b) (hb:b≠0) (hla:(yf a).length<=150000) (hlb:(yf b).length<=150000):
  Calls Tryz.prog 37 #[.agg #[.bool neg,vn,vd],.int .i64 64] w fun e w'=>e=.returned (.tuple #[.int .u64 ((xd a b+if neg then 9223372036854775808 else 0:Nat):Int),.bool (xd a b==9218868437227405312)])/\w.grownBy w' none:=by
 obtain⟨e1,e2,o1,o2⟩:=zq5 52 1023 a b hla hlb zd zd zd zd;have hs:=zld a b 52 1023 hb zd;obtain⟨N,hN⟩:=zX (xd a b);have hnr:N=if yt 52 1023 a b<=1023-52 then (yt 52 1023 a b-(1-1023-52)).toNat*2^(52:Int).toNat+rB a b (yt 52 1023 a b) else 9218868437227405312:=by rw[<-hN];rfl
 have hen:yt 52 1023 a b=if a=0 then 1-1023-52 else max (1-1023-52) (uo a b-52):=rfl
 rw[hN];obtain⟨M,hM⟩:=zX (N+(if neg then 9223372036854775808 else 0));rw[hM];have HM:=zH hM;clear hN hM;have HOT:=zH (fun vn vd W (h1:NatV W vn a) (h2:NatV W vd b)=>zdz false vn vd a b W h1 h2 hla hlb);have HTT:=zH (fun vn vd W (h1:NatV W vn a) (h2:NatV W vd b)=>zc1 false vn vd a b (yt 52 1023 a b) W h1 h2 zd zd zd zd);have HRD:=zH (fun V U W (h1:NatV W V (a*2^(-yt 52 1023 a b).toNat)) (h2:NatV W U (b*2^(yt 52 1023 a b).toNat))=>zh6 false V U _ _ W h1 h2 (Nat.mul_pos zd (p2 _)) (by have:=ya6 a 150000 (-yt 52 1023 a b).toNat hla;omega) (by have:=ya6 b 150000 (yt 52 1023 a b).toNat hlb;omega));obtain⟨S,hS1,hS2⟩:∃ S,vi (a*2^(-yt 52 1023 a b).toNat) (b*2^(yt 52 1023 a b).toNat)=S/\rB a b (yt 52 1023 a b)=S:=⟨_,rfl,rfl⟩;simp only[hS1]at HRD;rw[hS2]at hs hnr;have hs2:S<=9007199254740992:=hs;generalize yt 52 1023 a b=E at *
 generalize uo a b=O at *
 have hSl:(yf S).length<=3:=yv zd;have g0:(yf S).getD 0 0=S%1073741824:=by rw[qu,Nat.pow_zero,Nat.div_one]
 have g1:(yf S).getD 1 0=S / 1073741824:=by rw[qu,Nat.pow_one,Nat.mod_eq_of_lt zd]
 have ha0:=fun V W (h:NatV W V S)=>zds V (yf S) 0 W h zd zd
 have ha1:=fun V W (h:NatV W V S)=>zds V (yf S) 1 W h zd zd
 obtain⟨x0,hx0⟩:=zX (S%1073741824);obtain⟨x1,hx1⟩:=zX (S / 1073741824);have hx0l:x0<1073741824:=zd;have hx1l:x1<16777216:=zd;have HXS:=zH (show S=x0+x1*1073741824 by omega);rw[g0,hx0]at ha0;rw[g1,hx1]at ha1;have HA0:=zH (show ∀ V W,NatV W V S->Calls Tryz.prog 57 #[V,.int .i64 0] W fun e w'=>e=.returned (.int .i64 (x0:Int))/\W=w' from ha0);have HA1:=zH (show ∀ V W,NatV W V S->Calls Tryz.prog 57 #[V,.int .i64 1] W fun e w'=>e=.returned (.int .i64 (x1:Int))/\W=w' from ha1);have HNR:=zH hnr;have HEN:=zH hen;have HFR:=zH zba;have HBI:=zH qz;have HIN:=zH wy;have HSB:=zH wm;have HNL:=zH (show (yf a).length=0↔a=0 from ⟨fun h=>by by_cases h0:a=0;exact h0;exact absurd (List.length_eq_zero_iff.1 h) (qn h0),fun h=>by rw[h,xm];rfl⟩);clear hnr hen hS1 hS2 hs ha0 ha1 g0 g1 hSl hx0 hx1;obtain⟨an,cn,rfl⟩:=hn.len;obtain⟨ad,cd,rfl⟩:=hd.len;obtain⟨LN,hLN⟩:=zX ((yf a).length);rw[hLN]at hn HNL hla;simp only[hLN];generalize (yf b).length=LD at *
 clear hLN;obtain⟨w1,hw1⟩:=zX (w.alloc (.cells #[.bool neg,.slice an LN cn,.slice ad LD cd] 41));obtain⟨B,hB⟩:=zX w.heap.size;have hib:=InBlk.new w neg (.slice an LN cn) (.slice ad LD cd) 41;rw[hw1,hB]at hib;obtain⟨w2,hw2⟩:∃ w',w1.alloc (.cells #[.bool false,.slice an LN cn,.slice ad LD cd] 41)=w':=⟨_,rfl⟩;obtain⟨D,hD⟩:=zX ((World.heap w1).size);have hid:=InBlk.new w1 false (.slice an LN cn) (.slice ad LD cd) 41;rw[hw2,hD]at hid;have HG2:=zH (ya hib.grown hid.grown);have HRB:=zH (hib.row.grown hid.grown zi);have HRD2:=zH hid.row;have HN2:=zH (hn.grown HG2.out);have HD2:=zH (hd.grown HG2.out);have k0:=hib.row.cell 0;have k1:=hib.row.cell 1;have k2:=hib.row.cell 2;simp only[List.getElem?_cons_zero,List.getElem?_cons_succ]at k0 k1 k2;have HW1:=zH hw1;have HW2:=zH hw2;have HBB:=zH hB;have HDD:=zH hD;clear hib hid hw1 hw2 hn hd hB hD;refine ye Tryz.func37 rfl (by rw[Tryz.ntmps37];simp) ?_;intro σ hσ;rw[Tryz.ntmps37];have s0:σ 0=.agg #[.bool neg,.slice an LN cn,.slice ad LD cd]:=hσ 0 zi;have s1:σ 1=.int .i64 64:=hσ 1 zi;clear hσ;go_upto_region 1 with fail;rw[HW1.out,HBB.out];go_upto_region 2 with fail;rw[HW2.out,HDD.out];clear HW1 HW2 k0 k1 k2;have k0:=HRD2.out.cell 0;have k1:=HRD2.out.cell 1;have k2:=HRD2.out.cell 2;have b0:=HRB.out.cell 0;simp only[List.getElem?_cons_zero,List.getElem?_cons_succ]at k0 k1 k2 b0;(go_wp2_with fail;repeat ((first|refine cZ ?_|refine cW ?_);go_wp2_with fail));refine (HFR.out _).mono ?_;rintro e w7 ⟨rfl,rfl⟩;(go_wp2_with fail;repeat ((first|refine cZ ?_|refine cW ?_);go_wp2_with fail));refine (HBI.out _).mono ?_;rintro e w7 ⟨rfl,rfl⟩;(go_wp2_with fail;repeat ((first|refine cZ ?_|refine cW ?_);go_wp2_with fail));refine yr (fun s' w'=>s' 1=.int .i64 64/\s' 2=.pointer (some ⟨B,0,none⟩)/\s' 6=.pointer (some ⟨D,0,none⟩)/\s' 7=.int .i64 52/\s' 8=.int .i64 (-1074)/\s' 9=.int .i64 E/\w2.grownBy w' none) ?_ ?_
 ·intro R' K' HR hK';by_cases h0:LN=0
  ·have hE:E=-1074:=by have:=HEN.out;rw[if_pos (HNL.out.1 h0)]at this;omega
   subst hE;subst h0;(go_wp2_with fail;repeat ((first|refine cZ ?_|refine cW ?_);go_wp2_with fail));exact got HR ⟨zb,zb,zb,zb,zb,zb,yy w2 none⟩
  ·have hE:E=max (-1074) (O-52):=by have:=HEN.out;rw[if_neg (fun h=>h0 (HNL.out.2 h))]at this;omega
   have hLN:0<LN:=zd;have HEE:=zH hE;clear hE;(go_wp2_with fail;repeat ((first|refine cZ ?_|refine cW ?_);go_wp2_with fail));refine (HOT.out _ _ _ HN2.out HD2.out).mono ?_;rintro e w3 ⟨rfl,hg3⟩;have HG3:=zH hg3;clear hg3;(go_wp2_with fail;repeat ((first|refine cZ ?_|refine cW ?_);go_wp2_with fail));refine got HR ⟨zb,zb,zb,zb,zb,?_,HG3.out⟩;simp[ov, *];rw[HEE.out]
 clear s0 s1 σ k0 k1 k2 b0;rintro σ w3 ⟨s1,s2,s6,s7,s8,s9,hg3⟩;have HRD3:=zH (HRD2.out.grown hg3 zi);have HRB3:=zH (HRB.out.grown hg3 zi);have HN3:=zH (HN2.out.grown hg3);have HD3:=zH (HD2.out.grown hg3);have HG3:=zH (ya HG2.out hg3);clear hg3 HOT;have k0:=HRD3.out.cell 0;have k1:=HRD3.out.cell 1;have k2:=HRD3.out.cell 2;simp only[List.getElem?_cons_zero,List.getElem?_cons_succ]at k0 k1 k2;(go_wp2_with fail;repeat ((first|refine cZ ?_|refine cW ?_);go_wp2_with fail));refine (HIN.out _).mono ?_;rintro e w7 ⟨rfl,rfl⟩;(go_wp2_with fail;repeat ((first|refine cZ ?_|refine cW ?_);go_wp2_with fail));refine (HBI.out _).mono ?_;rintro e w7 ⟨rfl,rfl⟩;go_wp2_with fail;refine yr (fun s' w'=>s' 1=.int .i64 64/\s' 2=.pointer (some ⟨B,0,none⟩)/\s' 4=.int .u64 (N:Int)/\w3.grownBy w' none) ?_ ?_
 ·intro R' K' HR hK';by_cases hc:E<=1023-52
  ·have hc2:E<=971:=zd;obtain⟨q,hq⟩:∃ q:Nat,E-(-1074)=(q:Int):=⟨(E-(-1074)).toNat,zd⟩;have hNv:N=q*4503599627370496+S:=by
    have:=HNR.out;rw[if_pos hc,show (E-(1-1023-52)).toNat=q by omega]at this;exact this
   have HQE:=zH hq;have hq9:q<=2100:=zd;have HNV:=zH hNv;clear hc hNv hq;(go_wp2_with fail;repeat ((first|refine cZ ?_|refine cW ?_);go_wp2_with fail));refine (HTT.out _ _ _ HN3.out HD3.out).mono ?_;rintro e w4 ⟨v4,rfl,hv4,hg4⟩;obtain⟨n4,d4,rfl,hn4,hd4⟩:=hv4;have HN4:=zH hn4;have HD4:=zH hd4;have HG4:=zH hg4;clear hn4 hd4 hg4 k0 k1 k2;(go_wp2_with fail;repeat ((first|refine cZ ?_|refine cW ?_);go_wp2_with fail));refine (HRD.out _ _ _ HN4.out HD4.out).mono ?_;rintro e w5 ⟨v5,rfl,hn5,hg5⟩;have HN5:=zH hn5;have HG5:=zH (ya HG4.out hg5);clear hn5 hg5;(go_wp2_with fail;repeat ((first|refine cZ ?_|refine cW ?_);go_wp2_with fail));refine wp_region_noPanic ?_;refine wp_region_held_drew (S:=fun W=>w5.grownBy W none) zg (yh w5 1 none) (fun hHeld=>?_);(refine yg 0 46 ?_;refine yg 1 47 ?_);(refine xg 2 48 (oi:=?_) (v:=?_) ?_ ?_ zg zg zg (fun _ _ _ _ _ h=>h) ?_ zq ?_ ?_;rotate_left 2;(focus ((simp only[List.getElem?_toArray,List.getElem?_cons_succ,List.getElem?_cons_zero]);rfl));(focus rfl);(focus (first | rfl | (simp only[Region.wanted,yielded,List.getElem?_toArray,List.getElem?_cons_succ,List.getElem?_cons_zero,Option.bind_some,Option.map_some,Fr_get?,yc,yd];rfl) | go_simp));(focus (intro W hS;go_simp;rw[zr6 _ zd zd,show E+1074=(q:Int) by have:=HQE.out;omega])));(refine xg 3 49 (oi:=?_) (v:=?_) ?_ ?_ zg zg zg (fun _ _ _ _ _ h=>h) ?_ zq ?_ ?_;rotate_left 2;(focus ((simp only[List.getElem?_toArray,List.getElem?_cons_succ,List.getElem?_cons_zero]);rfl));(focus rfl);(focus (first | rfl | (simp only[Region.wanted,yielded,List.getElem?_toArray,List.getElem?_cons_succ,List.getElem?_cons_zero,Option.bind_some,Option.map_some,Fr_get?,yc,yd];rfl) | go_simp));(focus (intro W hS;go_simp;rw[zku q zd])));(refine yg 4 50 ?_);(refine xg 5 51 (oi:=?_) (v:=?_) ?_ ?_ zg zg zg (fun _ _ _ _ _ h=>h) ?_ zq ?_ ?_;rotate_left 2;(focus ((simp only[List.getElem?_toArray,List.getElem?_cons_succ,List.getElem?_cons_zero]);rfl));(focus rfl);(focus (first | rfl | (simp only[Region.wanted,yielded,List.getElem?_toArray,List.getElem?_cons_succ,List.getElem?_cons_zero,Option.bind_some,Option.map_some,Fr_get?,yc,yd];rfl) | go_simp));(focus (intro W hS;go_simp;rw[show IntKind.u64.wrap ((q:Int)*4503599627370496)=((q*4503599627370496:Nat):Int) by rw[IntKind.wrap_u64];omega])));(refine yg 6 52 ?_;refine yg 10 56 ?_);(refine zO 7 ?_;intro K hK;go_simp;(refine (HA0.out _ _ (HN5.out.grown hHeld)).mono ?_;rintro e w6 ⟨rfl,rfl⟩);go_wp2_with fail;replace hHeld:=hHeld;refine hK.out _ _ hHeld ?_;clear hK K);(refine xg 8 54 (oi:=?_) (v:=?_) ?_ ?_ zg zg zg (fun _ _ _ _ _ h=>h) ?_ zq ?_ ?_;rotate_left 2;(focus ((simp only[List.getElem?_toArray,List.getElem?_cons_succ,List.getElem?_cons_zero]);rfl));(focus rfl);(focus (first | rfl | (simp only[Region.wanted,yielded,List.getElem?_toArray,List.getElem?_cons_succ,List.getElem?_cons_zero,Option.bind_some,Option.map_some,Fr_get?,yc,yd];rfl) | go_simp));(focus (intro W hS;go_simp;rw[zku x0 zd])));(refine xg 9 55 (oi:=?_) (v:=?_) ?_ ?_ zg zg zg (fun _ _ _ _ _ h=>h) ?_ zq ?_ ?_;rotate_left 2;(focus ((simp only[List.getElem?_toArray,List.getElem?_cons_succ,List.getElem?_cons_zero]);rfl));(focus rfl);(focus (first | rfl | (simp only[Region.wanted,yielded,List.getElem?_toArray,List.getElem?_cons_succ,List.getElem?_cons_zero,Option.bind_some,Option.map_some,Fr_get?,yc,yd];rfl) | go_simp));(focus (intro W hS;go_simp;rw[show IntKind.u64.wrap ((q:Int)*4503599627370496+(x0:Int))=((q*4503599627370496+x0:Nat):Int) by rw[IntKind.wrap_u64];omega])));(refine zO 11 ?_;intro K hK;go_simp;(refine (HA1.out _ _ (HN5.out.grown hHeld)).mono ?_;rintro e w8 ⟨rfl,rfl⟩);go_wp2_with fail;replace hHeld:=hHeld;refine hK.out _ _ hHeld ?_;clear hK K);(refine xg 12 58 (oi:=?_) (v:=?_) ?_ ?_ zg zg zg (fun _ _ _ _ _ h=>h) ?_ zq ?_ ?_;rotate_left 2;(focus ((simp only[List.getElem?_toArray,List.getElem?_cons_succ,List.getElem?_cons_zero]);rfl));(focus rfl);(focus (first | rfl | (simp only[Region.wanted,yielded,List.getElem?_toArray,List.getElem?_cons_succ,List.getElem?_cons_zero,Option.bind_some,Option.map_some,Fr_get?,yc,yd];rfl) | go_simp));(focus (intro W hS;go_simp;rw[zku x1 zd])));(refine xg 13 59 (oi:=?_) (v:=?_) ?_ ?_ zg zg zg (fun _ _ _ _ _ h=>h) ?_ zq ?_ ?_;rotate_left 2;(focus ((simp only[List.getElem?_toArray,List.getElem?_cons_succ,List.getElem?_cons_zero]);rfl));(focus rfl);(focus (first | rfl | (simp only[Region.wanted,yielded,List.getElem?_toArray,List.getElem?_cons_succ,List.getElem?_cons_zero,Option.bind_some,Option.map_some,Fr_get?,yc,yd];rfl) | go_simp));(focus (intro W hS;go_simp;rw[show IntKind.u64.wrap ((x1:Int)*1073741824)=((x1*1073741824:Nat):Int) by rw[IntKind.wrap_u64];omega])));(refine xg 14 60 (oi:=?_) (v:=?_) ?_ ?_ zg zg zg (fun _ _ _ _ _ h=>h) ?_ zq ?_ ?_;rotate_left 2;(focus ((simp only[List.getElem?_toArray,List.getElem?_cons_succ,List.getElem?_cons_zero]);rfl));(focus rfl);(focus (first | rfl | (simp only[Region.wanted,yielded,List.getElem?_toArray,List.getElem?_cons_succ,List.getElem?_cons_zero,Option.bind_some,Option.map_some,Fr_get?,yc,yd];rfl) | go_simp));(focus (intro W hS;go_simp;rw[show IntKind.u64.wrap ((q:Int)*4503599627370496+(x0:Int)+(x1:Int)*1073741824)=(N:Int) by rw[IntKind.wrap_u64];have h1:=HNV.out;have h2:=HXS.out;omega])));(refine yg 15 4 ?_);refine wpAnyH_done zg ?_ _;refine NoPanic.normal ?_;exact hK' _ _ _ (got HR ⟨zb,zb,zb,ya HG5.out hHeld⟩)
  ·have hNv:N=9218868437227405312:=by have:=HNR.out;rw[if_neg hc]at this;exact this
   have f1:decide (E<=971)=false:=zh;subst hNv;clear hc;(go_wp2_with fail;repeat ((first|refine cZ ?_|refine cW ?_);go_wp2_with fail));exact got HR ⟨zb,zb,zb,yy w3 none⟩
 clear s1 s2 s6 s7 s8 s9 σ k0 k1 k2;rintro σ w4 ⟨s1,s2,s4,hg4⟩;have HG4:=zH (ya HG3.out hg4);have hb4:=HRB3.out.grown hg4 zi;have b0:=hb4.cell 0;simp only[List.getElem?_cons_zero]at b0;have hNl:N<=9218868437227405312:=by
  have:=HNR.out;split at this
  ·next h=>
   rw[this];have hq:(E-(1-1023-52)).toNat<=2045:=zd;have h2:(E-(1-1023-52)).toNat*2^(52:Int).toNat<=2045*4503599627370496:=Nat.mul_le_mul_right _ hq;omega
  ·omega
 clear hg4 hb4;(go_wp2_with fail;repeat ((first|refine cZ ?_|refine cW ?_);go_wp2_with fail));refine (HIN.out _).mono ?_;rintro e w7 ⟨rfl,rfl⟩;go_wp2_with fail;have hbe:((N:Int)==9218868437227405312)=(N==9218868437227405312):=by
  rw[Bool.eq_iff_iff];simp only[beq_iff_eq];omega
 refine yr (fun s' w'=>s' 4=.int .u64 (M:Int)/\s' 5=.bool (N==9218868437227405312)/\w4=w') ?_ ?_
 ·intro R' K' HR hK';cases neg
  ·(go_wp2_with fail;repeat ((first|refine cZ ?_|refine cW ?_);go_wp2_with fail));exact got HR ⟨by have:=HM.out;simp only[Bool.false_eq_true,if_false,Nat.add_zero]at this;rw[<-this];simp[ov, *],by simp[yc,yd,hbe],rfl⟩
  ·(go_wp2_with fail;repeat ((first|refine cZ ?_|refine cW ?_);go_wp2_with fail));refine (HSB.out _).mono ?_;rintro e w8 ⟨rfl,rfl⟩;(go_wp2_with fail;repeat ((first|refine cZ ?_|refine cW ?_);go_wp2_with fail));exact got HR ⟨by have:=HM.out;simp only[if_true]at this;rw[<-this];simp only[yc,yd,if_true];congr 1,by simp[yc,yd,hbe],rfl⟩
 clear s1 s2 s4 b0 σ;rintro σ w5 ⟨s4,s5,rfl⟩;(go_wp2_with fail;repeat ((first|refine cZ ?_|refine cW ?_);go_wp2_with fail));exact xc (.int .u64 (M:Int)) (.bool (N==9218868437227405312)) rfl ze ze zb zb ⟨rfl,HG4.out⟩
end
theorem zhk:∀ (k:Nat) (s p:List UInt8),k<=p.length->(k<=cpL s p↔k<=s.length/\xf (s.take k)=p.take k)
 | 0,s,p,_=>by simp[xf]
 | k+1,[],p,_=>by
  have:cpL [] p=0:=by cases p <;> rfl
  simp[this]
 | k+1,c::s,[],h=>by simp at h
 | k+1,c::s,q::p,h=>by
  have ih:=zhk k s p zI
  show k+1<=(if vb c=q then 1+cpL s p else 0)↔_
  by_cases hc:vb c=q
  ·rw[if_pos hc]
   have e:xf ((c::s).take (k+1))=vb c::xf (s.take k):=rfl
   rw[e,List.take_succ_cons,hc,List.length_cons]
   constructor
   ·intro h1
    obtain⟨h2,h3⟩:=ih.1 zd
    exact⟨zd,by rw[h3]⟩
   ·rintro⟨h1,h2⟩
    have:=ih.2 ⟨zd,(List.cons.inj h2).2⟩
    omega
  ·rw[if_neg hc]
   have e:xf ((c::s).take (k+1))=vb c::xf (s.take k):=rfl
   rw[e,List.take_succ_cons]
   constructor
   ·intro h1;omega
   ·rintro⟨h1,h2⟩
    exact absurd (List.cons.inj h2).1 hc
theorem ut (c:UInt8):∀ x:UInt8,(x=105\/x=110)->(vb c=x↔c=x\/c=x-32):=by
 intro x hx;rcases hx with rfl | rfl <;> revert c <;> refine vu _ ?_ <;> decide +kernel
theorem yiq {s:List UInt8} {c:UInt8} {r:List UInt8} (h:(sgn s).2=c::r) (hc:vb c=105\/vb c=110):zau s=none:=by
 have h4:c=105\/c=73\/c=110\/c=78:=by
  rcases hc with hc | hc
  ·rcases (ut c 105 (Or.inl rfl)).1 hc with h | h
   ·exact Or.inl h
   ·exact Or.inr (Or.inl h)
  ·rcases (ut c 110 (Or.inr rfl)).1 hc with h | h
   ·exact Or.inr (Or.inr (Or.inl h))
   ·exact Or.inr (Or.inr (Or.inr h))
 have hx:yo (sgn s).2=false:=by
  rw[h];match r with
  | []=>rfl
  | [_]=>rfl
  | x::y::r=>
   show decide (c=48/\wc x=120)=false;apply decide_eq_false;rintro⟨rfl,-⟩;revert h4;decide
 have hb:yj s=c::r:=by unfold yj;rw[hx,h];rfl
 have hd:xe false c=false:=by rcases h4 with rfl | rfl | rfl | rfl <;> decide
 have h46:c≠46:=by rintro rfl;revert h4;decide
 rw[jv,if_pos];rw[hx,hb];have e1:ve false (c::r)=[]:=by unfold ve;rw[List.takeWhile_cons_of_neg (by rw[hd];decide)]
 have e2:qi false (c::r)=c::r:=by unfold qi;rw[List.dropWhile_cons_of_neg (by rw[hd];decide)]
 have e3:yw false (c::r)=[]:=by
  unfold yw;rw[e2,if_neg];intro h;exact h46 zI
 rw[e1,e3];exact⟨rfl,rfl⟩
theorem zj8 (s:List UInt8):(xf s).length=s.length:=by unfold xf;simp
theorem ziv (neg:Bool) (k:Nat) (t:List UInt8):
  (xf t=[105,110,102]\/xf t=[105,110,102,105,110,105,116,121]->zd3 neg k t=some (kp neg,k+t.length))/\
  (¬(xf t=[105,110,102]\/xf t=[105,110,102,105,110,105,116,121])->zd3 neg k t=none\/∃ n,zd3 neg k t=some (kp neg,n)/\n≠k+t.length/\∃ c r,t=c::r/\vb c=105):=by
 have h8:=zhk 8 t infinityL ze;have h3:=zhk 3 t infinityL ze;have h4:=zhk 4 t infinityL ze;have hle:=zer t infinityL;change cpL t infinityL<=8 at hle;have hd8:xf (t.take 8)=(xf t).take 8:=zαk;have hd3:xf (t.take 3)=(xf t).take 3:=zαk;have hd4:xf (t.take 4)=(xf t).take 4:=zαk;rw[hd8]at h8;rw[hd3]at h3;rw[hd4]at h4;have hlen:=zj8 t;unfold zd3;constructor
 ·rintro (h | h)
  ·rw[h]at h8 h3 h4 hlen;have hl:t.length=3:=hlen.symm;have a3:3<=cpL t infinityL:=h3.2 ⟨zd,rfl⟩;have a8:¬8<=cpL t infinityL:=fun h=>by have:=(h8.1 h).1;omega
   rw[if_neg zd,if_pos a3,hl]
  ·rw[h]at h8 h3 h4 hlen;have hl:t.length=8:=hlen.symm;have a8:8<=cpL t infinityL:=h8.2 ⟨zd,rfl⟩;rw[if_pos zd,hl]
 ·intro hno;have hhead:3<=cpL t infinityL->∃ c r,t=c::r/\vb c=105:=by
   intro h;obtain⟨h1,h2⟩:=h3.1 h;cases t with
   | nil=>simp at h1
   | cons c r=>
    refine⟨c,r,rfl,?_⟩;have:=congrArg List.head? h2;simpa[xf,infinityL]using this
  by_cases a8:cpL t infinityL=8
  ·rw[if_pos a8];refine Or.inr ⟨_,rfl,?_,hhead zd⟩;intro hl;obtain⟨h1,h2⟩:=h8.1 zd;refine hno (Or.inr ?_);rw[List.take_of_length_le zd]at h2;exact h2
  ·rw[if_neg a8];by_cases a3:3<=cpL t infinityL
   ·rw[if_pos a3];refine Or.inr ⟨_,rfl,?_,hhead a3⟩;intro hl;obtain⟨h1,h2⟩:=h3.1 a3;refine hno (Or.inl ?_);rw[List.take_of_length_le zd]at h2;exact h2
   ·rw[if_neg a3];exact Or.inl rfl
theorem zvo (s:List UInt8):
  (xf s=[110,97,110]->qp s=some (zmd,s.length))/\
  (xf s≠[110,97,110]->((sgn (xf s)).2=[105,110,102]\/(sgn (xf s)).2=[105,110,102,105,110,105,116,121])->qp s=some (kp (sgn (xf s)).1,s.length))/\
  (xf s≠[110,97,110]->¬((sgn (xf s)).2=[105,110,102]\/(sgn (xf s)).2=[105,110,102,105,110,105,116,121])->qp s=none\/∃ v n,qp s=some (v,n)/\n≠s.length/\zau s=none):=by
 have hsl:=zct s;rw[hsl];simp only;have hlen:=zj8 s;cases s with
 | nil=>
  refine⟨fun h=>by simp[xf]at h,fun _ h=>by simp[xf,sgn]at h,fun _ _=>Or.inl rfl⟩
 | cons c r=>
  have hdef:qp (c::r)=if c=43 then zd3 false 1 r else if c=45 then zd3 true 1 r else if c=105\/c=73 then zd3 false 0 (c::r) else if c=110\/c=78 then (if cpL (c::r) [110,97,110]=3 then some (zmd,3) else none) else none:=rfl
  by_cases c1:c=43
  ·have hs:sgn (c::r)=(false,r):=by rw[xq,if_pos c1]
   have hn:xf (c::r)≠[110,97,110]:=by
    rw[c1];intro h;have:=congrArg List.head? h;revert this;simp[xf];decide
   rw[hdef,if_pos c1,hs];obtain⟨i1,i2⟩:=ziv false 1 r;refine⟨fun h=>absurd h hn,fun _ h=>by rw[i1 h,List.length_cons,Nat.add_comm],fun _ h=>?_⟩;rcases i2 h with h2 | ⟨n,h2,h3,x,y,h4,h5⟩
   ·exact Or.inl h2
   ·exact Or.inr ⟨_,n,h2,by rw[List.length_cons];omega,yiq (by rw[hs];exact h4) (Or.inl h5)⟩
  by_cases c2:c=45
  ·have hs:sgn (c::r)=(true,r):=by rw[xq,if_neg c1,if_pos c2]
   have hn:xf (c::r)≠[110,97,110]:=by
    rw[c2];intro h;have:=congrArg List.head? h;revert this;simp[xf];decide
   rw[hdef,if_neg c1,if_pos c2,hs];obtain⟨i1,i2⟩:=ziv true 1 r;refine⟨fun h=>absurd h hn,fun _ h=>by rw[i1 h,List.length_cons,Nat.add_comm],fun _ h=>?_⟩;rcases i2 h with h2 | ⟨n,h2,h3,x,y,h4,h5⟩
   ·exact Or.inl h2
   ·exact Or.inr ⟨_,n,h2,by rw[List.length_cons];omega,yiq (by rw[hs];exact h4) (Or.inl h5)⟩
  have hs:sgn (c::r)=(false,c::r):=by rw[xq,if_neg c1,if_neg c2]
  rw[hdef,if_neg c1,if_neg c2,hs];simp only;by_cases c3:c=105\/c=73
  ·have hl:vb c=105:=(ut c 105 (Or.inl rfl)).2 c3;have hn:xf (c::r)≠[110,97,110]:=by
    intro h;have:=congrArg List.head? h;simp[xf,hl]at this
   rw[if_pos c3];obtain⟨i1,i2⟩:=ziv false 0 (c::r);refine⟨fun h=>absurd h hn,fun _ h=>by rw[i1 h,Nat.zero_add],fun _ h=>?_⟩;rcases i2 h with h2 | ⟨n,h2,h3,x,y,h4,h5⟩
   ·exact Or.inl h2
   ·exact Or.inr ⟨_,n,h2,zd,yiq (by rw[hs]) (Or.inl hl)⟩
  ·have hl:vb c≠105:=fun h=>c3 ((ut c 105 (Or.inl rfl)).1 h)
   have hi:¬(xf (c::r)=[105,110,102]\/xf (c::r)=[105,110,102,105,110,105,116,121]):=by
    rintro (h | h) <;> · have:=congrArg List.head? h;simp[xf]at this;exact hl this
   rw[if_neg c3];have h3:=zhk 3 (c::r) [110,97,110] ze;have hd3:xf ((c::r).take 3)=(xf (c::r)).take 3:=zαk;rw[hd3]at h3;have hle:=zer (c::r) [110,97,110];change cpL (c::r) [110,97,110]<=3 at hle;by_cases c4:c=110\/c=78
   ·have hl4:vb c=110:=(ut c 110 (Or.inr rfl)).2 c4;rw[if_pos c4];refine⟨fun h=>?_,fun _ h=>absurd h hi,fun h _=>?_⟩
    ·rw[h]at h3 hlen;have a3:=h3.2 ⟨by rw[<-hlen];decide,rfl⟩;rw[if_pos zd,<-hlen];rfl
    ·by_cases a3:cpL (c::r) [110,97,110]=3
     ·rw[if_pos a3];refine Or.inr ⟨_,_,rfl,?_,yiq (by rw[hs]) (Or.inr hl4)⟩;intro hl3;obtain⟨-,h2⟩:=h3.1 zd;rw[List.take_of_length_le zd]at h2;exact h h2
     ·rw[if_neg a3];exact Or.inl rfl
   ·rw[if_neg c4];refine⟨fun h=>?_,fun _ h=>absurd h hi,fun _ _=>Or.inl rfl⟩;exfalso;have:=congrArg List.head? h;simp[xf]at this;exact c4 ((ut c 110 (Or.inr rfl)).1 this)
def erK (k:Nat):Value:=if k=0 then .nilIface else if k=1 then .iface 101 (.int .i64 2) else .iface 101 (.int .i64 1)
theorem zus (b:Bool):erV b=erK (if b=true then 2 else 0):=by cases b <;> rfl
def spB (F:Nat) (bias:Int) (inf:Nat) (t:Txt):Nat:=spN F bias inf t.base t.digits t.exp
def PaQ64 (s:List UInt8) (v k:Nat):Prop:=match ul s with
 | none=>v=0/\k=1
 | some t=>(t.kind=2->(9218868437227405312<v%9223372036854775808/\v<18446744073709551616)/\k=0)/\(t.kind=1->v=kp t.neg/\k=0)/\
  (t.kind=0->v=sgB t.neg+spB 52 1023 9218868437227405312 t/\k=if spB 52 1023 9218868437227405312 t=9218868437227405312 then 2 else 0)
theorem zib (s:List UInt8):
  (xf s=[110,97,110]->ul s=some ⟨2,false,0,[],0⟩)/\
  (xf s≠[110,97,110]->((sgn (xf s)).2=[105,110,102]\/(sgn (xf s)).2=[105,110,102,105,110,105,116,121])->ul s=some ⟨1,(sgn (xf s)).1,0,[],0⟩)/\
  (xf s≠[110,97,110]->¬((sgn (xf s)).2=[105,110,102]\/(sgn (xf s)).2=[105,110,102,105,110,105,116,121])->ul s=(zau s).map spT):=by
 rw[zqo];refine⟨fun h=>by rw[if_pos h],fun h h2=>by rw[if_neg h,if_pos h2],fun h h2=>by rw[if_neg h,if_neg h2]⟩
theorem zco (s:List UInt8) (P:Prop)
  (h1:qp s=some (zmd,s.length)->ul s=some ⟨2,false,0,[],0⟩->P)
  (h2:∀ ng,qp s=some (kp ng,s.length)->ul s=some ⟨1,ng,0,[],0⟩->P)
  (h3:(qp s=none\/∃ v n,qp s=some (v,n)/\n≠s.length/\zau s=none)->ul s=(zau s).map spT->P):P:=by
 obtain⟨a1,a2,a3⟩:=zvo s;obtain⟨b1,b2,b3⟩:=zib s;by_cases hn:xf s=[110,97,110]
 ·exact h1 (a1 hn) (b1 hn)
 ·by_cases hi:(sgn (xf s)).2=[105,110,102]\/(sgn (xf s)).2=[105,110,102,105,110,105,116,121]
  ·exact h2 _ (a2 hn hi) (b2 hn hi)
  ·exact h3 (a3 hn hi) (b3 hn hi)
theorem zto (F:Nat) (bias:Int) (inf:Nat) {s:List UInt8} {L:Lit} (h:zau s=some L) (hs:s.length<=1000) (hb1:1<=bias) (hb2:bias<=1023) (hF1:1<=F) (hF2:bias+F<=1075):spB F bias inf (spT L)=nvL F bias inf L:=by
 obtain⟨h1,h2,h3,-⟩:=zfk h;exact sp_eq F bias inf L h1 h3 zd hb1 hb2 hF1 hF2
theorem zql {s:List UInt8} {R:RR} (h:rfP s=some R):(R.n=s.length->∃ L,zau s=some L/\zau (s.take R.n)=some L)/\(R.n≠s.length->zau s=none):=by
 obtain⟨h1,L,hL,hR⟩:=zsf h;constructor
 ·intro e;have:s.take R.n=s:=by rw[e,List.take_length]
  exact⟨L,by rw[<-this];exact hL,hL⟩
 ·intro hne;cases hl:zau s with
  | none=>rfl
  | some L'=>
   have:=zm9 hl;rw[h]at this;cases this;exact absurd rfl hne
theorem zq7 {s:List UInt8} (h:rfP s=none):zau s=none:=by
 cases hl:zau s with
 | none=>rfl
 | some L=>rw[zm9 hl]at h;cases h
theorem PaQ64.bad {s:List UInt8} (h:ul s=none):PaQ64 s 0 1:=by unfold PaQ64;rw[h];exact⟨rfl,rfl⟩
section
theorem zxm (k:FloatKind) (b:Nat):Op.unary .neg (.float k b)=pure (.float k (Op.negFloat k b)):=rfl
def zkr (fmt:Ieee.Format) (x v:Nat):Bool:=match fmt.read x with | .number false n j=>decide (n≠0/\n*2^j.toNat=v*2^(-j).toNat) | _=>false
theorem zpm {fmt:Ieee.Format} {x v:Nat} (h:zkr fmt x v=true):RdV fmt x false v:=by
 unfold zkr at h;split at h
 ·rename_i n j e;have:=of_decide_eq_true h;exact⟨n,j,e,this.1,this.2⟩
 ·cases h
theorem zpl:∀ i,i<23->zkr Ieee.double (zso i) (10^i)=true:=by
 have h:(List.range 23).all (fun i=>zkr Ieee.double (zso i) (10^i))=true:=zp;intro i hi;exact (List.all_eq_true.1 h) i (List.mem_range.2 hi)
theorem wv (neg:Bool) (r:Nat):Ieee.double.word neg r=sgB neg+r:=by
 cases neg
 ·show r=0+r;omega
 ·rfl
theorem zs0 (k r:Nat) (h:r<2^k):r ^^^ 2^k=2^k+r:=by
 apply Nat.eq_of_testBit_eq;intro i;rw[Nat.testBit_xor,Nat.testBit_two_pow];by_cases hi:k=i
 ·subst hi;rw[Nat.testBit_two_pow_add_eq,Nat.testBit_lt_two_pow h];simp
 ·rcases Nat.lt_or_gt_of_ne hi with h1 | h1
  ·have e:2^k+r<2^i:=by
    have:2^(k+1)<=2^i:=Nat.pow_le_pow_right zd h1;rw[Nat.pow_succ]at this;omega
   rw[Nat.testBit_lt_two_pow e,Nat.testBit_lt_two_pow (Nat.lt_of_lt_of_le h (Nat.pow_le_pow_right zd zd))];simp[hi]
  ·rw[Nat.testBit_two_pow_add_gt h1];simp[hi]
theorem neg64 (r:Nat) (h:r<9223372036854775808):Op.negFloat .f64 r=sgB true+r:=by
 show r ^^^ 2^63=_;rw[zs0 63 r h];rfl
def RdO (fmt:Ieee.Format) (y:Nat) (t:Bool) (u:Nat):Prop:=∃ n j,fmt.read y=.number t n j/\j<=0/\n*2^j.toNat=u*2^(-j).toNat
theorem c15p:RdO Ieee.double 4831355200913801216 false (10^15):=⟨8000000000000000,-3,zp,ze,zp⟩
theorem c15n:RdO Ieee.double 14054727237768577024 true (10^15):=⟨8000000000000000,-3,zp,ze,zp⟩
theorem zv4 {fmt:Ieee.Format} {x y v u:Nat} {s:Bool} (hx:RdV fmt x s v) (hy:RdO fmt y false u) (hu:u≠0):(fmt.order x y==some Ordering.gt)=(!s&&decide (u<v)):=by
 rw[RdV.order hx hy];cases s
 ·simp only[Bool.false_eq_true,if_false,Bool.not_false,Bool.true_and];by_cases h:u<v
  ·rw[decide_eq_true h,Int.compare_eq_gt.2 zd];rfl
  ·rw[decide_eq_false h];rcases Nat.lt_or_ge v u with h1 | h1
   ·rw[Int.compare_eq_lt.2 zd];rfl
   ·rw[Int.compare_eq_eq.2 zd];rfl
 ·simp only[if_true,Bool.not_true,Bool.false_and,Bool.false_eq_true,if_false];rw[Int.compare_eq_lt.2 zd];rfl
theorem zv3 {fmt:Ieee.Format} {x y v u:Nat} {s:Bool} (hx:RdV fmt x s v) (hy:RdO fmt y true u) (hu:u≠0):(fmt.order x y==some Ordering.lt)=(s&&decide (u<v)):=by
 rw[RdV.order hx hy];cases s
 ·simp only[Bool.false_eq_true,if_false,Bool.false_and,if_true];rw[Int.compare_eq_gt.2 zd];rfl
 ·simp only[if_true,Bool.true_and];by_cases h:u<v
  ·rw[decide_eq_true h,Int.compare_eq_lt.2 zd];rfl
  ·rw[decide_eq_false h];rcases Nat.lt_or_ge v u with h1 | h1
   ·rw[Int.compare_eq_gt.2 zd];rfl
   ·rw[Int.compare_eq_eq.2 zd];rfl
section
variable {fmt : Ieee.Format} {f : Nat} {bias : Int} {inf : Nat}
theorem zt0 (h:FmtOK fmt f bias inf) (neg:Bool) (d u yp yn:Nat) (h0:d≠0) (hd:d<2^bias.toNat) (hu:u≠0) (hul:u<2^(f+1)) (hp:RdO fmt yp false u) (hn:RdO fmt yn true u):
  ((fmt.order (fmt.word neg (xh f bias inf d 1)) yp==some Ordering.gt) || (fmt.order (fmt.word neg (xh f bias inf d 1)) yn==some Ordering.lt))=decide (u<d):=by
 have key:∃ v,RdV fmt (fmt.word neg (xh f bias inf d 1)) neg v/\(u<v↔u<d):=by
  rcases Nat.lt_or_ge d (2^(f+1)) with h1 | h1
  ·exact⟨d,RdV.small h neg d h0 h1,Iff.rfl⟩
  ·obtain⟨v,hv,hv2⟩:=RdV.large h neg d h1 hd;exact⟨v,hv,⟨fun _=>zd,fun _=>zd⟩⟩
 obtain⟨v,hv,hiff⟩:=key;rw[zv4 hv hp hu,zv3 hv hn hu];cases neg <;> simp[hiff]
end
end
end Go.Proofs.YtnifedmhgncioaaGreatDoor
