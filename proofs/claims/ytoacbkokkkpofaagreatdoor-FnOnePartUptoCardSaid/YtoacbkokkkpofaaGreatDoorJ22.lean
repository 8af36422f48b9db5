/- Lemmas that the claim's top text leans on. No condition of their own. -/
import Derived.Test.YtoacbkokkkpofaaGreatDoorJ21
namespace Go.Proofs.YtoacbkokkkpofaaGreatDoor
open Go.RowKit
set_option linter.unusedSimpArgs false
set_option linter.unusedVariables false
set_option maxHeartbeats 16000000
section
attribute [local go_sem] undef
set_option maxRecDepth 100000 in
theorem zm6 (b:Nat) (hb:b=10\/b=16) (s:List UInt8) (i0:Nat) (w:World) (hs:s.length<=4000000) (hi0:i0<=s.length):
  Calls Tryz.prog 72 #[.string ⟨s.toArray⟩,.int .i64 (i0:Int),.int .i64 (b:Int)] w fun e w'=>e=.returned (.int .i64 ((i0+jh b (s.drop i0):Nat):Int))/\w=w':=by
 have HD:=zH (fun c W=>zaq b hb c W);clear hb;refine ye Tryz.func72 rfl (by rw[Tryz.ntmps72];simp) ?_;intro σ hσ;rw[Tryz.ntmps72];have s0:σ 0=.string ⟨s.toArray⟩:=hσ 0 zi;have s1:σ 1=.int .i64 (i0:Int):=hσ 1 zi;have s2:σ 2=.int .i64 (b:Int):=hσ 2 zi;clear hσ;have hsz:(⟨s.toArray⟩:ByteArray).size=s.length:=zm;obtain⟨N,hN⟩:=zX s.length;rw[hN]at hsz hs hi0;have HN:=zH hN;clear hN;by_cases hiN:i0<N
 case neg=>
  have e0:i0=N:=zd;subst e0;have e:jh b (s.drop i0)=0:=by rw[List.drop_of_length_le zR];rfl
  rw[e,Nat.add_zero];clear e hiN;(go_wp2_with fail;repeat ((first|refine cZ ?_|refine cW ?_);go_wp2_with fail));exact yl (.int .i64 (i0:Int)) rfl ze zb ⟨rfl,rfl⟩
 have hidx:=xu s i0 zn;have hdr:=ua s i0 zn;rw[hdr];clear hdr;have hiN':(i0:Int)<(N:Int):=zd;have hiN2:decide ((N:Int)<=(i0:Int))=false:=zh;have hiN3:decide (N<=i0)=false:=zh;generalize s.getD i0 0=c at *
 have hL:=HD.out c;by_cases hd:isD b c=true
 case neg=>
  have hd':isD b c=false:=by simpa using hd
  rw[zdm hd']at hL;have HL:=zH hL;have e:jh b (c::s.drop (i0+1))=0:=by rw[jh,if_neg hd]
  rw[e,Nat.add_zero];clear e hd hd' hL;(go_wp2_with (first | (refine (HL.out _).mono ?_;rintro e w8 ⟨rfl,rfl⟩));repeat ((first|refine cZ ?_|refine cW ?_);go_wp2_with (first | (refine (HL.out _).mono ?_;rintro e w8 ⟨rfl,rfl⟩))));exact yl (.int .i64 (i0:Int)) rfl ze zb ⟨rfl,rfl⟩
 have e:jh b (c::s.drop (i0+1))=1+yft b (s.drop (i0+1)):=by rw[jh,if_pos hd]
 rw[e];have hge:=zdn hd;have hlt0:decide (zfx b c<0)=false:=zh;obtain⟨E,hE⟩:=zX (i0+(1+yft b (s.drop (i0+1))));rw[hE];have HE:=zH (show i0+1+yft b (s.drop (i0+1))=E by omega);have HL:=zH hL;clear e hE hL hd hge;generalize zfx b c=z at *
 (go_wp2_with (first | (refine (HL.out _).mono ?_;rintro e w8 ⟨rfl,rfl⟩));repeat ((first|refine cZ ?_|refine cW ?_);go_wp2_with (first | (refine (HL.out _).mono ?_;rintro e w8 ⟨rfl,rfl⟩))));refine xx (fun kk s' w'=>∃ (i:Nat),i<=N/\kk=N-i/\i+yft b (s.drop i)=E/\s' 0=.string ⟨s.toArray⟩/\s' 1=.int .i64 (i:Int)/\s' 2=.int .i64 (b:Int)/\w=w') (N-(i0+1))
  ⟨i0+1,zd,rfl,HE.out,zb,zj,zb,rfl⟩ ?_
 clear s0 s1 s2 σ HE HL hidx hiN hiN' hiN2 hiN3 hlt0 z;rintro kk σ wk ⟨i,hi,hkk,hE,s0,s1,s2,rfl⟩ RK KK HRK hKK;have HKK:=zH hkk;clear hkk;by_cases hiN:i<N
 case neg=>
  have e0:i=N:=zd;subst e0;have e:yft b (s.drop i)=0:=by rw[List.drop_of_length_le zR];rfl
  rw[e,Nat.add_zero]at hE;subst hE;clear e hiN;(go_wp2_with fail;repeat ((first|refine cZ ?_|refine cW ?_);go_wp2_with fail));exact yl (.int .i64 (i:Int)) rfl ze zb ⟨rfl,rfl⟩
 have hidx:=xu s i zn;have hdr:=ua s i zn;rw[hdr]at hE;clear hdr;have hiN':(i:Int)<(N:Int):=zd;generalize s.getD i 0=x at *
 have hL:=HD.out x;by_cases hd:isD b x=true
 ·rw[zjt b x _ hd]at hE;have hge:=zdn hd;have HE:=zH hE;have HL:=zH hL;clear hE hL hd;generalize zfx b x=z at *
  (go_wp2_with (first | (refine (HL.out _).mono ?_;rintro e w8 ⟨rfl,rfl⟩));repeat ((first|refine cZ ?_|refine cW ?_);go_wp2_with (first | (refine (HL.out _).mono ?_;rintro e w8 ⟨rfl,rfl⟩))));exact wo HRK (N-(i+1)) (by have:=HKK.out;omega) ⟨i+1,zd,rfl,by have:=HE.out;omega,zb,zj,zb,rfl⟩
 ·have hd':isD b x=false:=by simpa using hd
  have hzx:=zdm hd';rw[hzx]at hL;have HL:=zH hL;clear hL hd;by_cases hx:x.toNat=95
  case neg=>
   rw[zaz b x _ hd' (by rintro d r' _ ⟨rfl,_⟩;exact hx rfl),Nat.add_zero]at hE;subst hE;have hx1:((x.toNat:Int)==95)=false:=zf;have hx2:(x.toNat==95)=false:=zf;clear hd';(go_wp2_with (first | (refine (HL.out _).mono ?_;rintro e w8 ⟨rfl,rfl⟩));repeat ((first|refine cZ ?_|refine cW ?_);go_wp2_with (first | (refine (HL.out _).mono ?_;rintro e w8 ⟨rfl,rfl⟩))));exact yl (.int .i64 (i:Int)) rfl ze zb ⟨rfl,rfl⟩
  have hx0:x=95:=UInt8.toNat_inj.1 hx;have hx1:((x.toNat:Int)==95)=true:=zo;have hx2:(x.toNat==95)=true:=by rw[beq_iff_eq];exact hx
  clear hx;by_cases hi1:i+1<N
  case neg=>
   have e:s.drop (i+1)=[]:=List.drop_of_length_le zt;rw[e,zaz b x _ hd' (by intro d r' h;cases h),Nat.add_zero]at hE;subst hE;clear hx0;have h1:decide ((i:Int)+1<(N:Int))=false:=zh;have h2:decide (i+1<N)=false:=zh;clear hd' e;(go_wp2_with (first | (refine (HL.out _).mono ?_;rintro e w8 ⟨rfl,rfl⟩));repeat ((first|refine cZ ?_|refine cW ?_);go_wp2_with (first | (refine (HL.out _).mono ?_;rintro e w8 ⟨rfl,rfl⟩))));exact yl (.int .i64 (i:Int)) rfl ze zb ⟨rfl,rfl⟩
  have hidx2:=xu s (i+1) (by rw[HN.out];exact hi1);have hdr:=ua s (i+1) (by rw[HN.out];exact hi1);rw[hdr]at hE;clear hdr;have h1:(i:Int)+1<(N:Int):=zd;generalize s.getD (i+1) 0=y at *
  have hL2:=HD.out y;rw[hx0]at hE hd';clear hx0;by_cases hdy:isD b y=true
  ·rw[zd9 b y _ hd' hdy]at hE;have hge:=zdn hdy;have HE:=zH hE;clear hE hL2 hdy hd' HL;(go_wp2_with (first | (refine (HD.out _ _).mono ?_;rintro e w8 ⟨rfl,rfl⟩));repeat ((first|refine cZ ?_|refine cW ?_);go_wp2_with (first | (refine (HD.out _ _).mono ?_;rintro e w8 ⟨rfl,rfl⟩))));exact wo HRK (N-(i+2)) (by have:=HKK.out;omega) ⟨i+2,zd,rfl,by have h9:=HE.out;rw[show i+1+1=i+2 from rfl]at h9;omega,zb,zj,zb,rfl⟩
  ·have hdy':isD b y=false:=by simpa using hdy
   rw[zaz b 95 _ hd' (by intro d r' h;cases h;rintro⟨_,h⟩;exact hdy h),Nat.add_zero]at hE;subst hE;have hzy:=zdm hdy';clear hL2 hdy hd' hdy' HL;(go_wp2_with (first | (refine (HD.out _ _).mono ?_;rintro e w8 ⟨rfl,rfl⟩));repeat ((first|refine cZ ?_|refine cW ?_);go_wp2_with (first | (refine (HD.out _ _).mono ?_;rintro e w8 ⟨rfl,rfl⟩))));exact yl (.int .i64 (i:Int)) rfl ze zb ⟨rfl,rfl⟩
end
section
attribute [local go_sem] undef
def zb2 (neg:Bool) (s:List UInt8) (k:Nat):Option Int:=zft neg (s.drop k)
theorem zou (letter:UInt8) (s:List UInt8) (h:1<s.length) (h0:s.getD 0 0=letter):
  (s.getD 1 0=43/\jc letter s=zb2 false s 2)\/(s.getD 1 0=45/\jc letter s=zb2 true s 2)\/(s.getD 1 0≠43/\s.getD 1 0≠45/\jc letter s=zb2 false s 1):=by
 match s,h with
 | c::x::r,_=>
  have hc:c=letter:=h0;subst hc;show (x=43/\_)\/(x=45/\_)\/(x≠43/\x≠45/\_);by_cases h1:x=43
  ·left;refine⟨h1,?_⟩;subst h1;show (if c≠c then none else _)=_;rw[if_neg zi];rfl
  ·right;by_cases h2:x=45
   ·left;refine⟨h2,?_⟩;subst h2;show (if c≠c then none else _)=_;rw[if_neg zi];rfl
   ·right;refine⟨h1,h2,?_⟩;show (if c≠c then none else zft (sgL (x::r)).1 (sgL (x::r)).2)=_;rw[if_neg zi,sgL,if_neg h1,if_neg h2];rfl
theorem zro (letter:UInt8) (s:List UInt8) (h:s.length=1) (h0:s.getD 0 0=letter):jc letter s=zb2 false s 1:=by
 match s,h with
 | [c],_=>
  have hc:c=letter:=h0;subst hc;show (if c≠c then none else _)=_;rw[if_neg zi];rfl
theorem zup (letter:UInt8) (s:List UInt8) (h:s.length≠0) (h0:s.getD 0 0≠letter):jc letter s=none:=by
 match s,h with
 | [],h=>exact absurd rfl h
 | c::r,_=>show (if c≠letter then none else _)=none;exact if_pos h0
def optI (o:Option Int):Value:=.tuple #[.int .i64 (o.getD 0),.bool o.isSome]
theorem u8_ne (x y:UInt8) (h:x≠y):((x.toNat:Int)==(y.toNat:Int))=false/\(x.toNat==y.toNat)=false:=by
 have h1:x.toNat≠y.toNat:=fun e=>h (UInt8.toNat_inj.1 e)
 exact⟨zf,by rw[beq_eq_false_iff_ne];exact h1⟩
set_option maxRecDepth 100000 in
theorem zhg (letter:UInt8) (s:List UInt8) (w:World) (hs:s.length<=4000000):
  Calls Tryz.prog 74 #[.string ⟨s.toArray⟩,.int .u8 (letter.toNat:Int)] w fun e w'=>e=.returned (optI (jc letter s))/\w.grownBy w' none:=by
 refine ye Tryz.func74 rfl (by rw[Tryz.ntmps74];simp) ?_;intro σ hσ;rw[Tryz.ntmps74];have s0:σ 0=.string ⟨s.toArray⟩:=hσ 0 zi;have s1:σ 1=.int .u8 (letter.toNat:Int):=hσ 1 zi;clear hσ;have hsz:(⟨s.toArray⟩:ByteArray).size=s.length:=zm;obtain⟨N,hN⟩:=zX s.length;rw[hN]at hsz hs;have HN:=zH hN;by_cases hN0:N=0
 ·have e:s=[]:=List.length_eq_zero_iff.1 (by rw[hN];exact hN0);subst e;clear hN;(go_wp2_with fail;repeat ((first|refine cZ ?_|refine cW ?_);go_wp2_with fail));exact xc (.int .i64 0) (.bool false) rfl ze ze zb zb ⟨rfl,yy w none⟩
 have hemp:s.isEmpty=false:=by
  cases s with
  | nil=>exact absurd hN.symm hN0
  | cons a r=>rfl
 clear hN;have hidx:=xu s 0 zt;have hN1:(0:Int)<(N:Int):=zd;have hN2:0<N:=zd;obtain⟨c,hc⟩:=zX (s.getD 0 0);rw[hc]at hidx;have HC:=zH hc;clear hc;by_cases hcl:c=letter
 case neg=>
  obtain⟨q1,q2⟩:=u8_ne c letter hcl;have q3:((c.toNat:Int) != (letter.toNat:Int))=true:=by rw[bne,q1];rfl
  have q4:(c.toNat != letter.toNat)=true:=by rw[bne,q2];rfl
  have HE:=zH (zup letter s (by rw[HN.out];exact hN0) (by rw[HC.out];exact hcl));clear hcl;(go_wp2_with fail;repeat ((first|refine cZ ?_|refine cW ?_);go_wp2_with fail));exact xc (.int .i64 0) (.bool false) rfl ze ze zb zb ⟨by rw[HE.out];rfl,yy w none⟩
 have q3:((c.toNat:Int) != (letter.toNat:Int))=false:=by subst hcl;simp
 have q4:(c.toNat != letter.toNat)=false:=by subst hcl;simp
 have HCL:=zH hcl;clear hcl;obtain⟨neg,k,hk1,hkN,HE,hcase⟩:∃ (neg:Bool) (k:Nat),1<=k/\k<=N/\Hid (jc letter s=zb2 neg s k)/\((k=1/\neg=false/\N=1)\/(k=1/\neg=false/\1<N/\s.getD 1 0≠43/\s.getD 1 0≠45)\/(k=2/\neg=false/\1<N/\s.getD 1 0=43)\/(k=2/\neg=true/\1<N/\s.getD 1 0=45)):=by
  by_cases hN9:N=1
  ·exact⟨false,1,Nat.le_refl _,zd,zro letter s (by rw[HN.out];exact hN9) (by rw[HC.out];exact HCL.out),Or.inl ⟨rfl,rfl,hN9⟩⟩
  ·rcases zou letter s zt (by rw[HC.out];exact HCL.out) with⟨a,b⟩ | ⟨a,b⟩ | ⟨a,b,c⟩
   ·exact⟨false,2,zd,zd,b,Or.inr (Or.inr (Or.inl ⟨rfl,rfl,zd,a⟩))⟩
   ·exact⟨true,2,zd,zd,b,Or.inr (Or.inr (Or.inr ⟨rfl,rfl,zd,a⟩))⟩
   ·exact⟨false,1,zd,zd,c,Or.inr (Or.inl ⟨rfl,rfl,zd,a,b⟩)⟩
 clear hN0;((repeat (go_upto_region 5 with fail;first | (refine jq ?hc ze ?_;(case hc=>(simp[ov, *];done))) | (refine kj ?hc ze ?_;(case hc=>(simp[ov, *];done)))));go_upto_region 5 with fail);refine yr (fun s' w'=>s' 34=.bool (k==2)/\s' 0=.string ⟨s.toArray⟩/\s' 6=.int .i64 1/\s' 7=.bool false/\w=w') ?_ ?_
 ·intro R' K' HR hK';rcases hcase with⟨rfl,rfl,rfl⟩ | ⟨rfl,rfl,h1,h43,h45⟩ | ⟨rfl,rfl,h1,h43⟩ | ⟨rfl,rfl,h1,h45⟩
  ·(go_wp2_with fail;repeat ((first|refine cZ ?_|refine cW ?_);go_wp2_with fail));exact got HR zb
  ·have hidx1:=xu s 1 zS;generalize s.getD 1 0=x at *
   have n43:x.toNat≠43:=fun e=>h43 (UInt8.toNat_inj.1 e)
   have n45:x.toNat≠45:=fun e=>h45 (UInt8.toNat_inj.1 e)
   have p1a:((x.toNat:Int)==43)=false:=zf;have p1b:(x.toNat==43)=false:=by rw[beq_eq_false_iff_ne];exact n43
   have p2a:((x.toNat:Int)==45)=false:=zf;have p2b:(x.toNat==45)=false:=by rw[beq_eq_false_iff_ne];exact n45
   clear n43 n45 h43 h45;have h1':(1:Int)<(N:Int):=zd;(go_wp2_with fail;repeat ((first|refine cZ ?_|refine cW ?_);go_wp2_with fail));exact got HR zb
  ·have hidx1:=xu s 1 zS;rw[h43]at hidx1;clear h43;have h1':(1:Int)<(N:Int):=zd;(go_wp2_with fail;repeat ((first|refine cZ ?_|refine cW ?_);go_wp2_with fail));exact got HR zb
  ·have hidx1:=xu s 1 zS;rw[h45]at hidx1;clear h45;have h1':(1:Int)<(N:Int):=zd;(go_wp2_with fail;repeat ((first|refine cZ ?_|refine cW ?_);go_wp2_with fail));exact got HR zb
 clear s0 s1 σ;rintro σ w' ⟨s34,s0,s6,s7,rfl⟩;go_wp2_with fail;refine yr (fun s' w'=>s' 0=.string ⟨s.toArray⟩/\s' 6=.int .i64 (k:Int)/\s' 7=.bool neg/\w=w') ?_ ?_
 ·intro R' K' HR hK';rcases hcase with⟨rfl,rfl,rfl⟩ | ⟨rfl,rfl,h1,h43,h45⟩ | ⟨rfl,rfl,h1,h43⟩ | ⟨rfl,rfl,h1,h45⟩
  ·refine kj zb ze ?_;(go_wp2_with fail;repeat ((first|refine cZ ?_|refine cW ?_);go_wp2_with fail));exact got HR zb
  ·refine kj zb ze ?_;clear h43 h45;(go_wp2_with fail;repeat ((first|refine cZ ?_|refine cW ?_);go_wp2_with fail));exact got HR zb
  ·refine jq zb ze ?_;have hidx1:=xu s 1 zS;rw[h43]at hidx1;clear h43;have h1':(1:Int)<(N:Int):=zd;(go_wp2_with fail;repeat ((first|refine cZ ?_|refine cW ?_);go_wp2_with fail));exact got HR zb
  ·refine jq zb ze ?_;have hidx1:=xu s 1 zS;rw[h45]at hidx1;clear h45;have h1':(1:Int)<(N:Int):=zd;(go_wp2_with fail;repeat ((first|refine cZ ?_|refine cW ?_);go_wp2_with fail));exact got HR zb
 clear s34 s0 s6 s7 σ hcase HCL HC q3 q4 hidx hemp hN1 hN2;rintro σ w' ⟨s0,s6,s7,rfl⟩;have hrun:=zm6 10 (Or.inl rfl) s k w (by rw[HN.out];exact hs) (by rw[HN.out];exact hkN);rw[show ((10:Nat):Int)=10 from rfl]at hrun;have hEle:=zh4 10 (s.drop k);rw[List.length_drop,HN.out]at hEle;obtain⟨E,hE⟩:=zX (k+jh 10 (s.drop k));rw[hE]at hrun;have HRUN:=zH hrun;have hEN:E<=N:=zd;have HEE:=zH hE;clear hrun hE hEle;by_cases hkn:k=N
 ·subst hkn;have hres:jc letter s=none:=by
   rw[HE.out];unfold zb2 zft;rw[if_pos (Or.inl (List.drop_of_length_le zR))]
  have HRES:=zH hres;clear hres;(go_wp2_with fail;repeat ((first|refine cZ ?_|refine cW ?_);go_wp2_with fail));exact xc (.int .i64 0) (.bool false) rfl ze ze zb zb ⟨by rw[HRES.out];rfl,yy w none⟩
 have r1:((k:Int)==(N:Int))=false:=zf;have r2:(k==N)=false:=zf;by_cases hEn:E=N
 case neg=>
  have hres:jc letter s=none:=by
   rw[HE.out];unfold zb2 zft;rw[if_pos (Or.inr (by rw[List.length_drop,HN.out];have:=HEE.out;omega))]
  have HRES:=zH hres;have r3:((E:Int) != (N:Int))=true:=zQ;have r4:(E != N)=true:=zQ;clear hres;(go_wp2_with (first | (refine HRUN.out.mono ?_;rintro e w8 ⟨rfl,rfl⟩));repeat ((first|refine cZ ?_|refine cW ?_);go_wp2_with (first | (refine HRUN.out.mono ?_;rintro e w8 ⟨rfl,rfl⟩))));exact xc (.int .i64 0) (.bool false) rfl ze ze zb zb ⟨by rw[HRES.out];rfl,yy w none⟩
 subst hEn;have hres:jc letter s=some (if neg then -(ki (dgL 10 (s.drop k)):Int) else (ki (dgL 10 (s.drop k)):Int)):=by
  rw[HE.out];unfold zb2 zft;rw[if_neg];rintro (h | h)
  ·have:=congrArg List.length h;rw[List.length_drop,HN.out,List.length_nil]at this;omega
  ·rw[List.length_drop,HN.out]at h;have:=HEE.out;omega
 have HRES:=zH hres;have hext:(⟨s.toArray⟩:ByteArray).extract k E=⟨(s.drop k).toArray⟩:=by
  apply ByteArray.ext;simp[ByteArray.data_extract];exact List.take_of_length_le (by rw[List.length_drop,HN.out];exact Nat.le_refl _)
 have hdg:=zbz 10 (Or.inl rfl) (s.drop k) w zαb;rw[show ((10:Nat):Int)=10 from rfl]at hdg;have HDG:=zH hdg;have hdl:=zf0 10 (s.drop k);rw[List.length_drop,HN.out]at hdl;have HDD:=zH (zwv 10 (s.drop k));clear hres hdg;generalize dgL 10 (s.drop k)=l at *
 obtain⟨M,hM⟩:=zX l.length;rw[hM]at hdl;have HM:=zH hM;clear hM;(go_wp2_with (first | (refine HRUN.out.mono ?_;rintro e w8 ⟨rfl,rfl⟩) | (refine HDG.out.mono ?_;rintro e w8 ⟨v8,rfl,ho8,hg8⟩;obtain⟨g8,c8,hv8,b1,b2,b3,b4⟩:=ho8.block;rw[HM.out]at hv8 b3;subst hv8));repeat ((first|refine cZ ?_|refine cW ?_);go_wp2_with (first | (refine HRUN.out.mono ?_;rintro e w8 ⟨rfl,rfl⟩) | (refine HDG.out.mono ?_;rintro e w8 ⟨v8,rfl,ho8,hg8⟩;obtain⟨g8,c8,hv8,b1,b2,b3,b4⟩:=ho8.block;rw[HM.out]at hv8 b3;subst hv8))));have HO:=zH ho8;have HG:=zH hg8;clear ho8 hg8;refine xx (fun kk s' w'=>∃ (i n:Nat),i<=M/\kk=M-i/\n=ki (l.take i)/\n<=1000000000000000/\s' 7=.bool neg/\s' 8=.int .i64 (n:Int)/\s' 56=.slice (some ⟨g8,0,none⟩) M c8/\s' 57=.int .i64 (M:Int)/\s' 58=.int .i64 (i:Int)/\w8.grownBy w' none) M
  ⟨0,0,Nat.zero_le _,rfl,rfl,zd,zb,zb,zb,zb,zb,yy w8 none⟩ ?_
 clear s0 s6 s7 σ HRUN HEE HDG;rintro kk σ wk ⟨i,n,hi,hkk,hn,hn1,s7,s8,s56,s57,s58,hgk⟩ RK KK HRK hKK;have HKK:=zH hkk;have HNN:=zH hn;have HGK:=zH hgk;clear hkk hn hgk;by_cases hiM:i<M
 ·obtain⟨d,hd⟩:∃ d,l[i]?=some d:=⟨l[i]'(by rw[HM.out];exact hiM),List.getElem?_eq_getElem _⟩;have hcj:=(HO.out.grown0 HGK.out).cell i d hd;unfold qd at hcj;have hd16:=HDD.out d (List.mem_of_getElem? hd);have hts:=zl1 l i (by rw[HM.out];exact hiM);have hgd:l.getD i 0=d:=by rw[List.getD_eq_getElem?_getD,hd];rfl
  rw[hgd,<-HNN.out]at hts;have HTS:=zH hts;have hiM':(i:Int)<(M:Int):=zd;clear hd hgd hts;by_cases hmin:n*10+d<=1000000000000000
  ·have hmi:min ((n:Int)*10+(d:Int)) 1000000000000000=(n:Int)*10+(d:Int):=zd;(go_wp2_with fail;repeat ((first|refine cZ ?_|refine cW ?_);go_wp2_with fail));exact wo HRK (M-(i+1)) (by have:=HKK.out;omega) ⟨i+1,n*10+d,zd,rfl,by rw[HTS.out];omega,zd,zb,zb,zb,zb,zj,HGK.out⟩
  ·have hmi:min ((n:Int)*10+(d:Int)) 1000000000000000=1000000000000000:=zd;(go_wp2_with fail;repeat ((first|refine cZ ?_|refine cW ?_);go_wp2_with fail));exact wo HRK (M-(i+1)) (by have:=HKK.out;omega) ⟨i+1,1000000000000000,zd,rfl,by rw[HTS.out];omega,zd,zb,zb,zb,zb,zj,HGK.out⟩
 ·have hiM':decide (i<M)=false:=by simpa using hiM
  have hall:l.take i=l:=List.take_of_length_le (by rw[HM.out];omega);have hfin:ki l=n:=by rw[HNN.out,hall]
  have HF:=zH hfin;clear hall hfin;cases neg with
  | true=>
   (go_wp2_with fail;repeat ((first|refine cZ ?_|refine cW ?_);go_wp2_with fail));exact xc (.int .i64 (-(n:Int))) (.bool true) rfl ze ze zb zb ⟨by rw[HRES.out,HF.out];rfl,ya HG.out HGK.out⟩
  | false=>
   (go_wp2_with fail;repeat ((first|refine cZ ?_|refine cW ?_);go_wp2_with fail));exact xc (.int .i64 (n:Int)) (.bool true) rfl ze ze zb zb ⟨by rw[HRES.out,HF.out];rfl,ya HG.out HGK.out⟩
end
end Go.Proofs.YtoacbkokkkpofaaGreatDoor
