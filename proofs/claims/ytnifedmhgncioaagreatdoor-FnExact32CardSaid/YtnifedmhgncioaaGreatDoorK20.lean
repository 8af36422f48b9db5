/- Lemmas that the claim's top text leans on. No condition of their own. -/
import Derived.Test.YtnifedmhgncioaaGreatDoorK19
import Derived.Test.YtnifedmhgncioaaGreatDoorK24
namespace Go.Proofs.YtnifedmhgncioaaGreatDoor
open Go.RowKit
set_option linter.unusedSimpArgs false
set_option linter.unusedVariables false
set_option maxHeartbeats 16000000
section
attribute [local go_sem] zxm
theorem zw0 (d:Nat):floatOfInt .f64 (d:Int)=sgB false+xd d 1:=by
 show Ieee.double.nearest (decide ((d:Int)<0)) (d:Int).natAbs 0=_;rw[decide_eq_false zd,Int.natAbs_natCast,zij,wv];show sgB false+xd (d*1) 1=_;rw[Nat.mul_one]
theorem zm7 (op:BinOp) {x y r:Nat} (h:floatBits op .f64 x y=some r) (t:TypeId) (w:World):(binOp op t (.float .f64 x) (.float .f64 y)).run Tryz.prog w=.ok (.float .f64 r) w:=run_float_arith w op t .f64 x y r h
theorem zoz {neg:Bool} {N d:Nat} (i:Nat) (hi:i<23) (h:RdV Ieee.double N neg d):Ieee.double.mul N (zso i)=some (sgB neg+xd (d*10^i) 1):=by
 rw[RdV.mul FmtOK.double h (zpm (zpl i hi)),wv,Bool.xor_false];rfl
theorem zur {neg:Bool} {N d:Nat} (i:Nat) (hi:i<23) (h:RdV Ieee.double N neg d):Ieee.double.div N (zso i)=some (sgB neg+xd d (10^i)):=by
 rw[RdV.div FmtOK.double h (zpm (zpl i hi)) (by have:=p10 i;omega),wv,Bool.xor_false];rfl
theorem zo0 (neg:Bool) (d:Nat) (h0:d≠0) (hd:d<2^(1023:Int).toNat):
  ((Ieee.double.order (sgB neg+xd d 1) 4831355200913801216==some Ordering.gt) || (Ieee.double.order (sgB neg+xd d 1) 14054727237768577024==some Ordering.lt))=decide (10^15<d):=by
 have h:=zt0 FmtOK.double neg d (10^15) 4831355200913801216 14054727237768577024 h0 hd ze ze c15p c15n;rw[wv]at h;exact h
theorem zoy {d i:Nat} (hd:d<4503599627370496) (hi:i<=15):d*10^i<2^(1023:Int).toNat:=by
 have h1:d*10^i<4503599627370496*10^i:=Nat.mul_lt_mul_of_pos_right hd (p10 i);have h2:4503599627370496*10^i<=4503599627370496*10^15:=Nat.mul_le_mul_left _ (Nat.pow_le_pow_right zd hi);exact Nat.lt_of_lt_of_le h1 (Nat.le_trans h2 zp)
set_option maxRecDepth 100000 in
theorem zdr (T d:Nat) (p:Int) (neg:Bool) (w:World) (he:EnvP T w) (h0:d≠0) (hd:d<18446744073709551616) (hp1:-1000000<=p) (hp2:p<=1000000):
  Calls Tryz.prog 118 #[.int .u64 (d:Int),.int .i64 p,.bool neg] w fun e w'=>
   ∃ (v:Nat) (ok:Bool),e=.returned (.tuple #[.float .f64 v,.bool ok])/\(ok=true->v=sgB neg+xd (d*10^p.toNat) (10^(-p).toNat)/\d<4503599627370496/\p<=37)/\w=w':=by
 refine ye Tryz.func118 rfl (by rw[Tryz.ntmps118];simp) ?_;intro σ hσ;rw[Tryz.ntmps118];have s0:σ 0=.int .u64 (d:Int):=hσ 0 zi;have s1:σ 1=.int .i64 p:=hσ 1 zi;have s2:σ 2=.bool neg:=hσ 2 zi;clear hσ;have f1:=he.i64.1;obtain⟨tb,tof,tc,htT,htc,ht0,ht⟩:=he.t64;have HT:=zH ht;clear ht he;by_cases hb:d<4503599627370496
 ·have g1:((d:Int) / 4503599627370496 != 0)=false:=by
   rw[bne_eq_false_iff_eq];omega
  have hnl:xd d 1<9223372036854775808:=Nat.lt_of_le_of_lt (ud 52 1023 9218868437227405312 d 1 ze ze rfl) ze;obtain⟨n0,hn0⟩:=zX (floatOfInt .f64 (d:Int));obtain⟨n1,hn1⟩:=zX (Op.negFloat .f64 n0);obtain⟨N,hN⟩:=zX (sgB neg+xd d 1);have HN0:=zH (hn0.symm.trans (zw0 d));have HN1:=zH (show n1=sgB true+xd d 1 by rw[<-hn1,HN0.out];show Op.negFloat .f64 (0+xd d 1)=_;rw[Nat.zero_add];exact neg64 _ hnl);have HN:=zH hN;have HRD:=zH (show RdV Ieee.double N neg d by rw[<-hN,<-wv];exact RdV.small FmtOK.double neg d h0 zd);have HB:=zH hb;clear hnl hN hb;(go_upto_block 0 with fail;repeat ((first|refine cZ ?_|refine cW ?_);go_upto_block 0 with fail));refine yr (fun s' w'=>s' 1=.int .i64 p/\s' 6=.float .f64 N/\s' 7=.bool false/\w=w') ?_ ?_
  ·intro R' K' HR hK';cases neg with
   | false=>
    have e:n0=N:=by rw[HN0.out,<-HN.out]
    subst e;(go_wp2_with fail;repeat ((first|refine cZ ?_|refine cW ?_);go_wp2_with fail));exact got HR ⟨zb,zb,zb,rfl⟩
   | true=>
    have e:n1=N:=by rw[HN1.out,<-HN.out]
    subst e;(go_wp2_with fail;repeat ((first|refine cZ ?_|refine cW ?_);go_wp2_with fail));exact got HR ⟨zb,zb,zb,rfl⟩
  clear s0 s1 s2 σ g1 hn0 hn1 HN0 HN1 n0 n1 f1 hd;rintro σ w1 ⟨s1,s6,s7,rfl⟩;by_cases z0:p=0
  ·subst z0;(go_wp2_with fail;repeat ((first|refine cZ ?_|refine cW ?_);go_wp2_with fail));exact xc (.float .f64 N) (.bool true) rfl ze ze zb zb ⟨N,true,rfl,(fun _=>⟨by rw[<-HN.out];show _=sgB neg+xd (d*1) 1;rw[Nat.mul_one],HB.out,zd⟩),rfl⟩
  have z1:(p==0)=false:=by rw[beq_eq_false_iff_ne];exact z0
  (go_upto_region 7 with fail;repeat ((first|refine cZ ?_|refine cW ?_);go_upto_region 7 with fail));refine yr (fun s' w'=>s' 1=.int .i64 p/\s' 6=.float .f64 N/\s' 7=.bool false/\s' 22=.bool (decide (0<p/\p<=37))/\w=w') ?_ ?_
  ·intro R' K' HR hK';by_cases z2:0<p
   ·by_cases z3:p<=37
    ·have e:decide (0<p/\p<=37)=true:=decide_eq_true ⟨z2,z3⟩;go_wp2_with fail;all_goals exact got HR ⟨zb,zb,zb,zαj,rfl⟩
    ·have e:decide (0<p/\p<=37)=false:=decide_eq_false (fun h=>z3 h.2);have z3':decide (p<=37)=false:=decide_eq_false z3;go_wp2_with fail;all_goals exact got HR ⟨zb,zb,zb,zαj,rfl⟩
   ·have e:decide (0<p/\p<=37)=false:=decide_eq_false (fun h=>z2 h.1);have z2':decide (0<p)=false:=decide_eq_false z2;go_wp2_with fail;all_goals exact got HR ⟨zb,zb,zb,zαj,rfl⟩
  clear s1 s6 s7 σ;rintro σ w1 ⟨s1,s6,s7,s22,rfl⟩;by_cases z23:0<p/\p<=37
  ·rw[decide_eq_true z23]at s22;obtain⟨z2,z3⟩:=z23;(go_upto_region 11 with fail;repeat ((first|refine cZ ?_|refine cW ?_);go_upto_region 11 with fail));refine yr (fun s' w'=>∃ (d2 i N2:Nat),s' 1=.int .i64 (i:Int)/\i<=22/\s' 6=.float .f64 N2/\s' 7=.bool false/\d2≠0/\d2*10^i=d*10^p.toNat/\(d2<=10^15->RdV Ieee.double N2 neg d2)/\((Ieee.double.order N2 4831355200913801216==some Ordering.gt) || (Ieee.double.order N2 14054727237768577024==some Ordering.lt))=decide (10^15<d2)/\w=w') ?_ ?_
   ·intro R' K' HR hK';by_cases z4:22<p
    ·obtain⟨i,hi⟩:∃ i:Nat,p-22=i:=⟨(p-22).toNat,zd⟩;have hiK:i<=15:=zd;have c1:=HT.out i zd;have hm:=zoz i zd HRD.out;obtain⟨x,hx⟩:=zX (zso i);obtain⟨N2,hN2⟩:=zX (sgB neg+xd (d*10^i) 1);rw[hx,hN2]at hm;rw[hx]at c1;have hm:=zm7 .mul hm;have hprod0:d*10^i≠0:=by have:=Nat.mul_pos (Nat.pos_of_ne_zero h0) (p10 i);omega
     have hprodL:d*10^i<2^(1023:Int).toNat:=zoy HB.out hiK;have hcmp:=zo0 neg (d*10^i) hprod0 hprodL;rw[hN2]at hcmp;have hRD2:d*10^i<=10^15->RdV Ieee.double N2 neg (d*10^i):=fun hle=>by rw[<-hN2,<-wv];exact RdV.small FmtOK.double neg _ hprod0 (Nat.lt_of_le_of_lt hle ze)
     have heq:d*10^i*10^22=d*10^p.toNat:=by rw[show p.toNat=i+22 by omega,Nat.pow_add,Nat.mul_assoc]
     have H1:=zH hcmp;have H2:=zH hRD2;have H3:=zH heq;have H4:=zH hprod0;have hicnt:i<23:=zd;clear hx hN2 hprod0 hprodL hcmp hRD2 heq;(go_upto_region 11 with fail;repeat ((first|refine cZ ?_|refine cW ?_);go_upto_region 11 with fail));exact got HR ⟨d*10^i,22,N2,zb,zd,zb,zb,H4.out,H3.out,H2.out,H1.out,rfl⟩
    ·obtain⟨i,hi⟩:∃ i:Nat,p=i:=⟨p.toNat,zd⟩;subst hi;have z4':decide (22<(i:Int))=false:=decide_eq_false z4;have hcmp:=zo0 neg d h0 (Nat.lt_of_lt_of_le HB.out zp);rw[HN.out]at hcmp;have H1:=zH hcmp;clear hcmp;(go_upto_region 11 with fail;repeat ((first|refine cZ ?_|refine cW ?_);go_upto_region 11 with fail));exact got HR ⟨d,i,N,zb,zd,zb,zb,h0,by rw[Int.toNat_natCast],fun _=>HRD.out,H1.out,rfl⟩
   clear s1 s6 s7 s22 σ;rintro σ w1 ⟨d2,i,N2,s1,hiK,s6,s7,hd0,heq,hrd,hcmp,rfl⟩;have H1:=zH hcmp;have H2:=zH hrd;have H3:=zH heq;obtain⟨b1,hb1⟩:=zX ((Ieee.double.order N2 4831355200913801216==some Ordering.gt));obtain⟨b2,hb2⟩:=zX ((Ieee.double.order N2 14054727237768577024==some Ordering.lt));obtain⟨b3,hb3⟩:=zX (decide (10^15<d2));rw[hb1,hb2,hb3]at hcmp;have HC:=zH hcmp;have HB3:=zH hb3;replace hb1:(FloatKind.f64.format.order N2 4831355200913801216==some Ordering.gt)=b1:=hb1;replace hb2:(FloatKind.f64.format.order N2 14054727237768577024==some Ordering.lt)=b2:=hb2;clear hcmp hrd heq hb3;(go_upto_region 11 with fail;repeat ((first|refine cZ ?_|refine cW ?_);go_upto_region 11 with fail));refine yr (fun s' w'=>s' 1=.int .i64 (i:Int)/\s' 6=.float .f64 N2/\s' 7=.bool false/\s' 43=.bool b3/\w=w') ?_ ?_
   ·intro R' K' HR hK';have hC:=HC.out.symm;subst hC;clear HC HB3;cases b1
    ·cases b2
     ·go_wp2_with fail;all_goals exact got HR ⟨zb,zb,zb,zb,rfl⟩
     ·go_wp2_with fail;all_goals exact got HR ⟨zb,zb,zb,zb,rfl⟩
    ·go_wp2_with fail;all_goals exact got HR ⟨zb,zb,zb,zb,rfl⟩
   clear s1 s6 s7 σ HC hb1 hb2;rintro σ w1 ⟨s1,s6,s7,s43,rfl⟩;by_cases hle:d2<=10^15
   ·have e3:b3=false:=by rw[<-HB3.out];exact decide_eq_false zd
    subst e3;have c2:=HT.out i zd;have hm2:=zoz i zd (H2.out hle);obtain⟨x,hx⟩:=zX (zso i);obtain⟨N3,hN3⟩:=zX (sgB neg+xd (d2*10^i) 1);rw[hx,hN3]at hm2;rw[hx]at c2;have hm2:=zm7 .mul hm2;have HN3:=zH hN3;have hicnt:i<23:=zd;clear hle hN3 hx;(go_wp2_with fail;repeat ((first|refine cZ ?_|refine cW ?_);go_wp2_with fail));refine xc (.float .f64 N3) (.bool true) rfl ze ze zb zb ⟨N3,true,rfl,(fun _=>⟨?_,HB.out,z3⟩),rfl⟩;rw[<-HN3.out,H3.out,show (-p).toNat=0 by omega,Nat.pow_zero]
   ·have e3:b3=true:=by rw[<-HB3.out];exact decide_eq_true zd
    subst e3;clear hle;(go_wp2_with fail;repeat ((first|refine cZ ?_|refine cW ?_);go_wp2_with fail));exact xc (.float .f64 N2) (.bool false) rfl ze ze zb zb ⟨_,false,rfl,(fun h=>zF),rfl⟩
  ·rw[decide_eq_false z23]at s22;(go_upto_region 13 with fail;repeat ((first|refine cZ ?_|refine cW ?_);go_upto_region 13 with fail));refine yr (fun s' w'=>s' 1=.int .i64 p/\s' 6=.float .f64 N/\s' 7=.bool false/\s' 50=.bool (decide (p<0/\-22<=p))/\w=w') ?_ ?_
   ·intro R' K' HR hK';by_cases z2:p<0
    ·by_cases z3:-22<=p
     ·have e:decide (p<0/\-22<=p)=true:=decide_eq_true ⟨z2,z3⟩;go_wp2_with fail;all_goals exact got HR ⟨zb,zb,zb,zαj,rfl⟩
     ·have e:decide (p<0/\-22<=p)=false:=decide_eq_false (fun h=>z3 h.2);have z3':decide (-22<=p)=false:=decide_eq_false z3;go_wp2_with fail;all_goals exact got HR ⟨zb,zb,zb,zαj,rfl⟩
    ·have e:decide (p<0/\-22<=p)=false:=decide_eq_false (fun h=>z2 h.1);have z2':decide (p<0)=false:=decide_eq_false z2;go_wp2_with fail;all_goals exact got HR ⟨zb,zb,zb,zαj,rfl⟩
   clear s1 s6 s7 s22 σ;rintro σ w1 ⟨s1,s6,s7,s50,rfl⟩;by_cases z56:p<0/\-22<=p
   ·rw[decide_eq_true z56]at s50;obtain⟨i,hi⟩:∃ i:Nat,p=-(i:Int):=⟨(-p).toNat,zd⟩;subst hi;have c1:=HT.out i zd;have hm:=zur i zd HRD.out;obtain⟨x,hx⟩:=zX (zso i);obtain⟨N2,hN2⟩:=zX (sgB neg+xd d (10^i));rw[hx,hN2]at hm;rw[hx]at c1;have hm:=zm7 .quo hm;have HN2:=zH hN2;have hicnt:i<23:=zd;have hwn:IntKind.i64.wrap (i:Int)=(i:Int):=zk;clear hN2 hx z56 z23;(go_wp2_with fail;repeat ((first|refine cZ ?_|refine cW ?_);go_wp2_with fail));refine xc (.float .f64 N2) (.bool true) rfl ze ze zb zb ⟨N2,true,rfl,(fun _=>⟨?_,HB.out,zd⟩),rfl⟩;rw[<-HN2.out,show (-(i:Int)).toNat=0 by omega,Int.neg_neg,Int.toNat_natCast,Nat.pow_zero,Nat.mul_one]
   ·rw[decide_eq_false z56]at s50;(go_wp2_with fail;repeat ((first|refine cZ ?_|refine cW ?_);go_wp2_with fail));exact xc (.float .f64 N) (.bool false) rfl ze ze zb zb ⟨_,false,rfl,(fun h=>zF),rfl⟩
 ·have g1:((d:Int) / 4503599627370496 != 0)=true:=by
   rw[bne_iff_ne];omega
  (go_wp2_with fail;repeat ((first|refine cZ ?_|refine cW ?_);go_wp2_with fail));exact xc (.float .f64 0) (.bool false) rfl ze ze zb zb ⟨_,false,rfl,(fun h=>zF),rfl⟩
end
theorem zqy (F:Nat) (bias:Int) (d:Nat) (p e:Int) (hF1:23<=F) (hF2:F<=52) (hd0:d≠0) (hd:d<18446744073709551616) (hp1:-348<=p) (hp2:p<=347)
  (he:e=min (bias+F-1) (F+1-((Lib.bitLen d:Int)+lpT p))):
  (if 2^(F+1)*4-2<=usE (d*2^shS d) (e-(64-(Lib.bitLen d:Int))) p
   then (yj4 (usE (d*2^shS d) (e-(64-(Lib.bitLen d:Int))) p / 2|||usE (d*2^shS d) (e-(64-(Lib.bitLen d:Int))) p%2),e-1)
   else (yj4 (usE (d*2^shS d) (e-(64-(Lib.bitLen d:Int))) p|||usE (d*2^shS d) (e-(64-(Lib.bitLen d:Int))) p%2),e))=prG F (d*10^p.toNat) (10^(-p).toNat) e:=by
 obtain⟨hb1,hb2,hb3,hb4⟩:=zdq d hd hd0;obtain⟨t1,t2,t3⟩:=zcq d (Lib.bitLen d) p hp1 hp2 hb1 hb2 hb3;have hS:shS d=64-Lib.bitLen d:=rfl;rw[hS];generalize Lib.bitLen d=L at *
 have hx:d*2^(64-L)<18446744073709551616:=by
  rw[show (18446744073709551616:Nat)=2^L*2^(64-L) by rw[<-Nat.pow_add,show L+(64-L)=64 by omega]];exact Nat.mul_lt_mul_of_pos_right hb3 (p2 _)
 have hx0:9223372036854775808<=d*2^(64-L):=by
  rw[show (9223372036854775808:Nat)=2^(L-1)*2^(64-L) by rw[<-Nat.pow_add,show L-1+(64-L)=63 by omega]];exact Nat.mul_le_mul_right _ hb2
 have hlp:p*108853 / 32768=lpT p:=rfl;rw[usE_C _ _ p hp1 hp2 hx hx0 (by rw[hlp];omega)];have hT:0<10^(-p).toNat:=p10 _;have hB:0<10^(-p).toNat*2^(-e).toNat:=Nat.mul_pos hT (p2 _);have hu:zvm (d*2^(64-L)) (e-(64-(L:Int))) p=zcj (4*(d*10^p.toNat*2^e.toNat)) (10^(-p).toNat*2^(-e).toNat):=by
  unfold zvm;refine zd7 (Nat.mul_pos (p2 _) hT) hB ?_;have e1:2^(64-L)*2^(e-(64-(L:Int))).toNat*2^(-e).toNat=2^e.toNat*2^(-(e-(64-(L:Int)))).toNat:=by
   rw[<-Nat.pow_add,<-Nat.pow_add,<-Nat.pow_add];congr 1;omega
  calc 4*(d*2^(64-L))*2^(e-(64-(L:Int))).toNat*10^p.toNat*(10^(-p).toNat*2^(-e).toNat)=4*d*10^p.toNat*10^(-p).toNat*(2^(64-L)*2^(e-(64-(L:Int))).toNat*2^(-e).toNat):=by ac_rfl
   _=4*d*10^p.toNat*10^(-p).toNat*(2^e.toNat*2^(-(e-(64-(L:Int)))).toNat):=by rw[e1]
   _=_:=by ac_rfl
 rw[hu];clear hu hx hx0;generalize d*10^p.toNat=a at *
 generalize 10^(-p).toNat=b at *
 have hA:a*2^e.toNat<b*2^(-e).toNat*4000000000000000000:=by
  have h1:¬le2 a b (-e+((F+2:Nat):Int)):=fun h=>t2 (wh zd h)
  rw[zke,Nat.not_le,Int.neg_neg]at h1;have h2:2^(F+2)<=2^54:=Nat.pow_le_pow_right zd zd;have h3:=Nat.mul_le_mul_right (b*2^(-e).toNat) h2;generalize b*2^(-e).toNat=B at *
  generalize 2^(F+2)*B=z at *
  omega
 have r1:yj4 (zcj (4*(a*2^e.toNat)) (b*2^(-e).toNat))=rB a b (-e):=by
  rw[zck _ _ hB hA];unfold rB;rw[Int.neg_neg]
 have hB2:0<b*2^(-e).toNat*2:=Nat.mul_pos hB zd;have hA2:a*2^e.toNat<b*2^(-e).toNat*2*4000000000000000000:=by
  exact Nat.lt_of_lt_of_le hA (Nat.mul_le_mul_right _ (Nat.le_mul_of_pos_right _ zd))
 have r2:yj4 (zcj (4*(a*2^e.toNat)) (b*2^(-e).toNat*2))=rB a b (1-e):=by
  rw[zck _ _ hB2 hA2];unfold rB;refine yj7 zd (Nat.mul_pos zd (p2 _)) ?_;have e1:2^e.toNat*2^(1-e).toNat=2^(-(1-e)).toNat*2^(-e).toNat*2:=by
   rw[<-Nat.pow_add,<-Nat.pow_add,<-Nat.pow_succ];congr 1;omega
  calc a*2^e.toNat*(b*2^(1-e).toNat)=a*b*(2^e.toNat*2^(1-e).toNat):=by ac_rfl
   _=a*b*(2^(-(1-e)).toNat*2^(-e).toNat*2):=by rw[e1]
   _=_:=by ac_rfl
 have hlt:zcj (4*(a*2^e.toNat)) (b*2^(-e).toNat)<16000000000000000000:=by
  have:=(zta (a*2^e.toNat) (b*2^(-e).toNat) 4000000000000000000 hB).2 (by rw[Nat.mul_comm 4000000000000000000];exact hA);omega
 have hm:=zmg _ (2^(F+1)) (by rw[Nat.pow_succ];omega) (p2 _) hlt;rw[zmf _ _ hB,zt5,r1,r2];rw[r1]at hm;unfold prG;by_cases c:2^(F+1)<=rB a b (-e)
 ·rw[if_pos c,if_pos (hm.2 c)]
 ·rw[if_neg c,if_neg (fun h=>c (hm.1 h))]
theorem zng (d:Nat) (p:Int) (hd0:d≠0) (hd:d<18446744073709551616) (hp1:-348<=p) (hp2:p<=347):
  (pfS d p<64->(pfR d p).1<9007199254740992)/\zpx d p=(xd (d*10^p.toNat) (10^(-p).toNat),decide (xd (d*10^p.toNat) (10^(-p).toNat)=9218868437227405312)):=by
 obtain⟨hb1,hb2,hb3,hb4⟩:=zdq d hd hd0;obtain⟨t1,t2,t3⟩:=zcq d (Lib.bitLen d) p hp1 hp2 hb1 hb2 hb3;have hT:0<10^(-p).toNat:=p10 _;have ha:d*10^p.toNat≠0:=Nat.mul_ne_zero hd0 (by have:=p10 p.toNat;omega);have he:pfE d p=min ((1023:Int)+(52:Nat)-1) ((52:Nat)+1-((Lib.bitLen d:Int)+lpT p)):=by unfold pfE lpT;omega
 have hpr:=zqy 52 1023 d p (pfE d p) zd zd hd0 hd hp1 hp2 he;have hU:pfU d p=usE (d*2^shS d) (pfE d p-(64-(Lib.bitLen d:Int))) p:=rfl;have hR:pfR d p=prG 52 (d*10^p.toNat) (10^(-p).toNat) (pfE d p):=by
  rw[<-hpr];unfold pfR;rw[hU]
 have hn:=zq2 52 1023 9218868437227405312 (d*10^p.toNat) (10^(-p).toNat) ((Lib.bitLen d:Int)+lpT p) (pfE d p) ha zd zd zd rfl t1 t2 (t3 52 zd) he;have hr:(pfR d p).1<9007199254740992:=by rw[hR];exact hn.2
 refine⟨fun _=>hr,?_⟩;have hnear:xd (d*10^p.toNat) (10^(-p).toNat)=xh 52 1023 9218868437227405312 (d*10^p.toNat) (10^(-p).toNat):=rfl;have hle:xd (d*10^p.toNat) (10^(-p).toNat)=xh (52:Nat) 1023 9218868437227405312 (d*10^p.toNat) (10^(-p).toNat):=rfl;unfold zpx;by_cases h64:64<=pfS d p
 ·rw[if_pos h64];have hz:xd (d*10^p.toNat) (10^(-p).toNat)=0:=by
   refine kv 52 1023 _ _ _ zd zd zd (fun _ h=>t2 (wh ?_ h));unfold pfS pfE at h64;unfold lpT;omega
  rw[hz];rfl
 ·rw[if_neg h64];have h1:=hn.1;rw[<-hR,<-hle]at h1;rw[<-h1];unfold pkG pkB;generalize pfR d p=x at *
  obtain⟨m,e⟩:=x;have hm:m<9007199254740992:=hr;have e52:(2:Nat)^52=4503599627370496:=rfl;rw[e52];dsimp only;by_cases c1:m<4503599627370496
  ·rw[if_pos c1,if_pos c1];congr 1;exact (decide_eq_false zd).symm
  ·rw[if_neg c1,if_neg c1];have c2:(972<=-e)↔((1023:Int)+1-(52:Nat)<=-e):=zd;by_cases c3:972<=-e
   ·rw[if_pos c3,if_pos (c2.1 c3)];rfl
   ·rw[if_neg c3,if_neg (fun h=>c3 (c2.2 h)),show (1075+-e).toNat=((1023:Int)+(52:Nat)-e).toNat by omega];congr 1;refine (decide_eq_false ?_).symm;have:((1023:Int)+(52:Nat)-e).toNat<=2046:=zd;generalize ((1023:Int)+(52:Nat)-e).toNat=t at *
    omega
end Go.Proofs.YtnifedmhgncioaaGreatDoor
