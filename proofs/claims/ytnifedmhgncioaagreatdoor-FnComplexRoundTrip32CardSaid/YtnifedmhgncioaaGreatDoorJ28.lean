/- Lemmas that the claim's top text leans on. No condition of their own. -/
import Derived.Test.YtnifedmhgncioaaGreatDoorJ25
import Derived.LaidEqlPtr
namespace Go.Proofs.YtnifedmhgncioaaGreatDoor
open Go.RowKit
set_option linter.unusedSimpArgs false
set_option linter.unusedVariables false
set_option maxHeartbeats 16000000
section
attribute [local go_sem] undef
theorem zz6 {w:World} {c5 c3:Array Value} {t5 t3:TypeId} (h5:w.heap[4]?=some (.cells c5 t5 (0,0))) (h3:w.heap[4]?=some (.cells c3 t3 (0,0))) (n:Nat):
  (binOp .eql 161 (.pointer (some ⟨4,0,none⟩)) (.pointer (some ⟨4,0,none⟩))).run Tryz.prog (w.drewN n)=.ok (.bool true) (w.drewN n):=by
 obtain⟨j,hj,hjs⟩:=Option.map_eq_some_iff.1 (show (Tryz.prog.info? 163).map (·.size)=some 3 by kernel_rfl);exact run_eql_ptr_same (w.drewN n) _ Tryz.underlying161 hj
theorem zyk (m:Nat) (hm:m<18446744073709551616):bits .and .u64 (m:Int) 1=((m%2:Nat):Int):=by
 have h:=u64_and_nat m 1 hm zd;have h2:=Nat.and_two_pow_sub_one_eq_mod m 1;rw[show (2^1-1:Nat)=1 by rfl,show (2^1:Nat)=2 by rfl]at h2;rw[h2]at h;exact h
theorem zy7 (m:Nat) (hm:m<18446744073709551616):bits .and .u64 (m:Int) 3=((m%4:Nat):Int):=by
 have h:=u64_and_nat m 3 hm zd;have h2:=Nat.and_two_pow_sub_one_eq_mod m 2;rw[show (2^2-1:Nat)=3 by rfl,show (2^2:Nat)=4 by rfl]at h2;rw[h2]at h;exact h
theorem zyj (a b:Nat) (ha:a<18446744073709551616) (hb:b<18446744073709551616):bits .or .u64 (a:Int) (b:Int)=((a|||b:Nat):Int):=u64_or_nat a b ha hb
theorem yav {d m j:Nat} (hm:m=d*2^j) (h0:d=0->j=0) (h:j=0\/m<67108864):j<=25:=by
 rcases h with h | h
 ·omega
 ·by_cases hd:d=0
  ·have:=h0 hd;omega
  ·have h1:2^j<=m:=by rw[hm];exact Nat.le_mul_of_pos_left _ (Nat.pos_of_ne_zero hd)
   have h2:2^j<2^26:=Nat.lt_of_le_of_lt h1 h;have:=(Nat.pow_lt_pow_iff_right (by omega:1<2)).1 h2;omega
def zxt (nb mant:Nat) (ef:Int):Prop:=(127<ef->nb=2139095040)/\(ef<=127->-127<=ef/\mant%8388608+(ef+127).toNat*8388608=nb/\nb≠2139095040)
theorem zz7 {nb m:Nat} {e:Int} (h:HS 23 127 2139095040 nb m e) (hc:m=0\/(33554432<=m/\-128<=e)\/e=-128\/(m<=1/\e<=-128)) (hm:m<67108864):
  if rdQ m=16777216 then zxt nb 8388608 (e+3) else rdQ m<16777216/\zxt nb (rdQ m) (if rdQ m<8388608 then -127 else e+2):=by
 have tiny:nb=0->rdQ m=0->(if rdQ m=16777216 then zxt nb 8388608 (e+3) else rdQ m<16777216/\zxt nb (rdQ m) (if rdQ m<8388608 then -127 else e+2)):=by
  intro h1 h2;rw[h2,if_neg ze,if_pos ze,h1];exact⟨ze,fun h=>zd,fun _=>⟨zd,ze,ze⟩⟩
 by_cases hm0:m=0
 ·subst hm0;exact tiny (HS.zero h ze ze) (znb ze)
 by_cases ht:m<=1/\e<=-128
 ·exact tiny (HS.tiny h ze ze ht.1 (by have:=ht.2;omega)) (znb ht.1)
 obtain⟨a1,a2,a3⟩:=HS.done h ze rfl ze hm (by
  rcases hc with hc | hc | hc | hc
  ·exact absurd hc hm0
  ·exact Or.inl ⟨hc.1,zd⟩
  ·exact Or.inr zd
  ·exact absurd hc ht)
 have he:-128<=e:=by
  rcases hc with hc | hc | hc | hc
  ·exact absurd hc hm0
  ·exact hc.2
  ·omega
  ·exact absurd hc ht
 unfold zxg at a1;have e1:(2:Nat)^(23+1)=16777216:=rfl;have e2:(2:Nat)^23=8388608:=rfl;rw[e1,e2]at a1;rw[e1]at a2;rw[e2]at a3;generalize rdQ m=R at *
 by_cases c1:R=16777216
 ·rw[if_pos c1]at a1 ⊢;unfold zxt;constructor
  ·intro h2;rw[a1,if_pos zd]
  ·intro h2;rw[if_neg zd]at a1;refine⟨zd,?_,?_⟩
   ·rw[a1,show e-((23:Nat):Int)+2+((23:Nat):Int)+1+127=e+3+127 by omega];simp
   ·rw[a1];omega
 ·rw[if_neg c1]at a1 ⊢;refine⟨zd,?_⟩;unfold zxt;by_cases c2:R<8388608
  ·rw[if_pos c2]at a1 ⊢;refine⟨fun h=>zd,fun _=>⟨zd,?_,?_⟩⟩
   ·rw[a1,show (-127+127:Int).toNat=0 by decide];omega
   ·omega
  ·rw[if_neg c2]at a1 ⊢;constructor
   ·intro h2;rw[a1,if_pos zd]
   ·intro h2;rw[if_neg zd]at a1;refine⟨zd,?_,?_⟩
    ·rw[a1,show e-((23:Nat):Int)+2+((23:Nat):Int)+127=e+2+127 by omega];omega
    ·rw[a1];omega
set_option maxRecDepth 100000 in
theorem zyn (T d nb:Nat) (p:Int) (ng tr:Bool) (sv:Value) (w:World) (he:EnvP T w) (hd:d<18446744073709551616) (hp1:-1000000<=p) (hp2:p<=1000000)
  (h0:tr=false->xh 23 127 2139095040 (d*2^p.toNat) (2^(-p).toNat)=nb) (h1:tr=true->1152921504606846976<=d/\HS 23 127 2139095040 nb (d|||1) (p+23)) (hnl:nb<=2139095040) (r:Nat) (hr:floatToFloatBits .f32 (sgN ng+nb) .f64=some r):
  Calls Tryz.prog 109 #[sv,.pointer (some ⟨4,0,none⟩),.int .u64 (d:Int),.int .i64 p,.bool ng,.bool tr] w fun e w'=>
   e=.returned (.tuple #[.float .f64 r,erV (decide (nb=2139095040))])/\w.grownBy w' none:=by
 obtain⟨c5,t5,h5⟩:=he.b32;obtain⟨c3,t3,h3⟩:=he.b32;have heq:=zz6 h5 h3;clear h5 h3;have f1:=he.i32.1;have f2:=he.i32.2.1;have f3:=he.i32.2.2;have H0:=zH h0;have H1:=zH h1;clear he h0 h1;refine ye Tryz.func109 rfl (by rw[Tryz.ntmps109];simp) ?_;intro σ hσ;rw[Tryz.ntmps109];have s1:σ 1=.pointer (some ⟨4,0,none⟩):=hσ 1 zi;have s2:σ 2=.int .u64 (d:Int):=hσ 2 zi;have s3:σ 3=.int .i64 p:=hσ 3 zi;have s4:σ 4=.bool ng:=hσ 4 zi;have s5:σ 5=.bool tr:=hσ 5 zi;clear hσ;have wA:IntKind.i64.wrap 256=256:=ze;have wB:IntKind.i64.wrap 129=129:=ze;have wC:IntKind.i64.wrap 127=127:=ze;(go_upto_region 1 with fail;repeat ((first|refine cZ ?_|refine cW ?_);go_upto_region 1 with fail));refine yr (fun s' w'=>s' 1=.pointer (some ⟨4,0,none⟩)/\s' 4=.bool ng/\s' 14=.int .i64 127/\s' 2=.int .u64 (d:Int)/\s' 3=.int .i64 p/\s' 5=.bool tr/\∃ nq,w'=w.drewN nq) ?_ ?_
 ·intro R' K' HR hK';go_quiet (fail);go_wp2_with fail;exact got HR ⟨zb,zb,zb,zb,zb,zb,_,rfl⟩
 clear s1 s2 s3 s4 s5 σ wA wB wC;rintro σ w1 ⟨s1,s4,s14,s2,s3,s5,nq,rfl⟩;have hw1:IntKind.i64.wrap (p+23)=p+23:=zk;have hw2:IntKind.i64.wrap 23=23:=ze;(go_upto_block 0 with fail;repeat ((first|refine cZ ?_|refine cW ?_);go_upto_block 0 with fail));refine yr (fun s' w'=>∃ (m j:Nat),s' 1=.pointer (some ⟨4,0,none⟩)/\s' 4=.bool ng/\s' 14=.int .i64 127/\s' 15=.int .i64 (-126)/\s' 2=.int .u64 (m:Int)/\s' 3=.int .i64 (p+23-j)/\s' 5=.bool tr/\m=d*2^j/\(m=0\/33554432<=m)/\m<18446744073709551616/\j<=25/\(33554432<=d->j=0)/\w'=w.drewN nq) ?_ ?_
 ·intro R' K' HR hK';(go_wp2_with fail;repeat ((first|refine cZ ?_|refine cW ?_);go_wp2_with fail));refine xx (fun kk s' w'=>∃ (m j:Nat),kk=67108864-m/\s' 1=.pointer (some ⟨4,0,none⟩)/\s' 4=.bool ng/\s' 14=.int .i64 127/\s' 15=.int .i64 (-126)/\s' 2=.int .u64 (m:Int)/\s' 3=.int .i64 (p+23-j)/\s' 5=.bool tr/\m=d*2^j/\(d=0->j=0)/\(33554432<=d->j=0)/\(j=0\/m<67108864)/\m<18446744073709551616/\w'=w.drewN nq) (67108864-d)
   ⟨d,0,rfl,zb,zb,zb,zb,zb,zb,zb,zi,fun _=>rfl,fun _=>rfl,Or.inl rfl,hd,rfl⟩ ?_
  clear s1 s2 s3 s4 s5 s14 σ hw1;rintro kk σ wk ⟨m,j,hkk,s1,s4,s14,s15,s2,s3,s5,hm,hd0,hdj,hmj,hm64,rfl⟩ RK KK HRK hKK;have HKK:=zH hkk;have HJB:=zH (yav hm hd0 hmj);have HM:=zH hm;have HD0:=zH hd0;have HDJ:=zH hdj;clear hkk hm hd0 hdj hmj;obtain⟨go,hgo⟩:=zX (decide (m≠0/\m<33554432));have HGO:=zH hgo;clear hgo;(go_upto_region 4 with fail;repeat ((first|refine cZ ?_|refine cW ?_);go_upto_region 4 with fail));refine yr (fun s' w'=>s' 1=.pointer (some ⟨4,0,none⟩)/\s' 4=.bool ng/\s' 14=.int .i64 127/\s' 15=.int .i64 (-126)/\s' 2=.int .u64 (m:Int)/\s' 3=.int .i64 (p+23-j)/\s' 5=.bool tr/\s' 53=.bool go/\w'=w.drewN nq) ?_ ?_
  ·intro R2 K2 HR2 hK2;by_cases hm0:m=0
   ·have e:go=false:=by rw[<-HGO.out];exact decide_eq_false (fun h=>h.1 hm0)
    subst hm0 e;go_wp2_with fail;all_goals exact got HR2 ⟨zb,zb,zb,zb,zb,zb,zb,zb,rfl⟩
   ·have g1:((m:Int) != 0)=true:=zQ;have g1n:(m != 0)=true:=zQ;by_cases hmb:m<33554432
    ·have e:go=true:=by rw[<-HGO.out];exact decide_eq_true ⟨hm0,hmb⟩
     have g2:((m:Int) / 33554432==0)=true:=zo;have g3:(m:Int) / 33554432=0:=zd;subst e;go_wp2_with fail;all_goals exact got HR2 ⟨zb,zb,zb,zb,zb,zb,zb,zb,rfl⟩
    ·have e:go=false:=by rw[<-HGO.out];exact decide_eq_false (fun h=>hmb h.2)
     have g2:((m:Int) / 33554432==0)=false:=zf;subst e;clear hmb;go_wp2_with fail;all_goals exact got HR2 ⟨zb,zb,zb,zb,zb,zb,zb,zb,rfl⟩
  clear s1 s2 s3 s4 s5 s14 s15 σ;rintro σ w2 ⟨s1,s4,s14,s15,s2,s3,s5,s53,rfl⟩;have hjb:=HJB.out;cases go
  ·have HNO:=zH (show m=0\/33554432<=m by have:=of_decide_eq_false HGO.out;omega);(go_wp2_with fail;repeat ((first|refine cZ ?_|refine cW ?_);go_wp2_with fail));exact got HR ⟨m,j,zb,zb,zb,zb,zb,zb,zb,HM.out,HNO.out,hm64,hjb,HDJ.out,rfl⟩
  ·obtain⟨hm0,hmb⟩:=of_decide_eq_true HGO.out;have hd0:d≠0:=by intro h;have:=HM.out;rw[h,Nat.zero_mul]at this;exact hm0 this
   have hdm:d<=m:=by rw[HM.out];exact Nat.le_mul_of_pos_right _ (p2 j)
   have q1:IntKind.u64.wrap ((m:Int)*2)=((m*2:Nat):Int):=zl;have q2:IntKind.i64.wrap (p+23-(j:Int)-1)=p+23-((j+1:Nat):Int):=zk;(go_wp2_with fail;repeat ((first|refine cZ ?_|refine cW ?_);go_wp2_with fail));refine wo HRK (67108864-m*2) (by have:=HKK.out;omega) ⟨m*2,j+1,rfl,zb,zb,zb,zb,?_,?_,zb,by rw[HM.out,Nat.pow_succ,Nat.mul_assoc],fun h=>absurd h hd0,fun h=>zd,Or.inr zd,zd,rfl⟩
   ·simp[yc,yd]
   ·(simp[yc,yd]) <;> omega
 clear s1 s2 s3 s4 s5 s14 σ hw1 hw2;rintro σ w2 ⟨m,j,s1,s4,s14,s15,s2,s3,s5,hm,hno,hm64,hjb,hdj,rfl⟩;have HM:=zH hm;have HNO:=zH hno;have HDJ:=zH hdj;clear hm hno hdj;(go_upto_region 7 with fail;repeat ((first|refine cZ ?_|refine cW ?_);go_upto_region 7 with fail));go_wp2_with fail;refine yr (fun s' w'=>∃ (m:Nat) (e:Int),s' 1=.pointer (some ⟨4,0,none⟩)/\s' 4=.bool ng/\s' 14=.int .i64 127/\s' 15=.int .i64 (-126)/\s' 2=.int .u64 (m:Int)/\s' 3=.int .i64 e/\HS 23 127 2139095040 nb m e/\(m=0\/33554432<=m)/\m<18446744073709551616/\-1001000<=e/\e<=1001000/\w'=w.drewN nq) ?_ ?_
 ·intro R' K' HR hK';cases tr
  ·have HH:=zH (show HS 23 127 2139095040 nb m (p+23-j) by rw[HM.out];exact HS.exact d j p (H0.out rfl));(go_wp2_with fail;repeat ((first|refine cZ ?_|refine cW ?_);go_wp2_with fail));exact got HR ⟨m,p+23-j,zb,zb,zb,zb,zb,zb,HH.out,HNO.out,hm64,zd,zd,rfl⟩
  ·obtain⟨hdb,hhs⟩:=H1.out rfl;have hj0:j=0:=HDJ.out zd;have hmd:m=d:=by rw[HM.out,hj0,Nat.pow_zero,Nat.mul_one]
   subst hmd hj0;have hor:=zyj m 1 hm64 ze;have HH:=zH hhs;have hlt:m|||1<18446744073709551616:=Nat.or_lt_two_pow (n:=64) hm64 ze
   have hge:m<=m|||1:=Nat.left_le_or
   obtain⟨m1,hm1⟩:=zX (m|||1);rw[hm1]at hor HH hlt hge;have hor':bits .or .u64 (m:Int) 1=(m1:Int):=hor;clear hhs hor hm1;(go_wp2_with fail;repeat ((first|refine cZ ?_|refine cW ?_);go_wp2_with fail));refine got HR ⟨m1,p+23,zb,zb,zb,zb,zb,?_,HH.out,Or.inr zd,hlt,zd,zd,rfl⟩;simp[ov, *]
 clear s1 s2 s3 s4 s5 s14 s15 σ H0 H1 HM HNO HDJ hjb hm64 j m;rintro σ w3 ⟨m,e,s1,s4,s14,s15,s2,s3,hhs,hno,hm64,he1,he2,rfl⟩;have HH:=zH hhs;have HNO:=zH hno;clear hhs hno;(go_upto_block 2 with fail;repeat ((first|refine cZ ?_|refine cW ?_);go_upto_block 2 with fail));refine yr (fun s' w'=>∃ (m:Nat) (e:Int),s' 1=.pointer (some ⟨4,0,none⟩)/\s' 4=.bool ng/\s' 14=.int .i64 127/\s' 15=.int .i64 (-126)/\s' 2=.int .u64 (m:Int)/\s' 3=.int .i64 e/\HS 23 127 2139095040 nb m e/\(m=0\/33554432<=m)/\m<67108864/\-1001000<=e/\e<=1002000/\w'=w.drewN nq) ?_ ?_
 ·intro R' K' HR hK';(go_wp2_with fail;repeat ((first|refine cZ ?_|refine cW ?_);go_wp2_with fail));refine xx (fun kk s' w'=>∃ (m:Nat) (e:Int),kk<=64/\m<2^kk/\s' 1=.pointer (some ⟨4,0,none⟩)/\s' 4=.bool ng/\s' 14=.int .i64 127/\s' 15=.int .i64 (-126)/\s' 2=.int .u64 (m:Int)/\s' 3=.int .i64 e/\HS 23 127 2139095040 nb m e/\(m=0\/33554432<=m)/\m<18446744073709551616/\-1001000<=e/\e<=1001000+(64-kk:Int)/\w'=w.drewN nq) 64
   ⟨m,e,zd,hm64,zb,zb,zb,zb,zb,zb,HH.out,HNO.out,hm64,zd,zd,rfl⟩ ?_
  clear s1 s2 s3 s4 s14 s15 σ HH HNO hm64 he1 he2 m e;rintro kk σ wk ⟨m,e,hk64,hmk,s1,s4,s14,s15,s2,s3,hhs,hno,hm64,he1,he2,rfl⟩ RK KK HRK hKK;have HH:=zH hhs;have HNO:=zH hno;have HMK:=zH hmk;clear hhs hno hmk;by_cases hmb:m<67108864
  ·have g2:((m:Int) / 67108864 != 0)=false:=by rw[bne_eq_false_iff_eq];omega
   (go_wp2_with fail;repeat ((first|refine cZ ?_|refine cW ?_);go_wp2_with fail));exact got HR ⟨m,e,zb,zb,zb,zb,zb,zb,HH.out,HNO.out,hmb,zd,zd,rfl⟩
  ·have g2:((m:Int) / 67108864 != 0)=true:=zQ;have hkk:26<kk:=by
    have h4:2^26<2^kk:=Nat.lt_of_le_of_lt (Nat.le_of_not_lt hmb) HMK.out;exact (Nat.pow_lt_pow_iff_right (by omega:1<2)).1 h4
   have hlt2:m / 2|||m%2<2^(kk-1):=zuk (by rw[show kk-1+1=kk by omega];exact HMK.out) zd
   have hge2:33554432<=m / 2|||m%2:=zul (b:=25) (by show 67108864<=m;omega)
   have hsm:=zej (m:=m) zd;have hand:=zyk m hm64;have hor:=zyj (m / 2) (m%2) zd zd;have hsh:(m:Int) / 2=((m / 2:Nat):Int):=zd;have HH2:=zH HH.out.half;have HLT:=zH hlt2;obtain⟨m2,hm2⟩:=zX (m / 2|||m%2);rw[hm2]at hor HH2 HLT hge2 hsm;obtain⟨mh,hmh⟩:=zX (m / 2);obtain⟨ml,hml⟩:=zX (m%2);rw[hmh]at hsh hor;rw[hml]at hand hor;have hwe:IntKind.i64.wrap (e+1)=e+1:=zk;clear hlt2 hm2 hmh hml hmb;(go_wp2_with fail;repeat ((first|refine cZ ?_|refine cW ?_);go_wp2_with fail));exact wo HRK (kk-1) zd ⟨m2,e+1,zd,HLT.out,zb,zb,zb,zb,zb,zb,HH2.out,Or.inr hge2,zd,zd,zd,rfl⟩
 clear s1 s2 s3 s4 s14 s15 σ HH HNO hm64 he1 he2 m e;rintro σ w4 ⟨m,e,s1,s4,s14,s15,s2,s3,hhs,hno,hm3,he1,he2,rfl⟩;have HH:=zH hhs;have HNO:=zH hno;clear hhs hno;(go_upto_block 4 with fail;repeat ((first|refine cZ ?_|refine cW ?_);go_upto_block 4 with fail));refine yr (fun s' w'=>∃ (m:Nat) (e:Int),s' 1=.pointer (some ⟨4,0,none⟩)/\s' 4=.bool ng/\s' 14=.int .i64 127/\s' 15=.int .i64 (-126)/\s' 2=.int .u64 (m:Int)/\s' 3=.int .i64 e/\HS 23 127 2139095040 nb m e/\(m=0\/(33554432<=m/\-128<=e)\/e=-128\/(m<=1/\e<=-128))/\m<67108864/\-1001000<=e/\e<=1002000/\w'=w.drewN nq) ?_ ?_
 ·intro R' K' HR hK';(go_wp2_with fail;repeat ((first|refine cZ ?_|refine cW ?_);go_wp2_with fail));refine xx (fun kk s' w'=>∃ (m:Nat) (e:Int),kk=(-128-e).toNat/\s' 1=.pointer (some ⟨4,0,none⟩)/\s' 4=.bool ng/\s' 14=.int .i64 127/\s' 15=.int .i64 (-126)/\s' 2=.int .u64 (m:Int)/\s' 3=.int .i64 e/\HS 23 127 2139095040 nb m e/\((m=0\/33554432<=m)\/e<=-128)/\m<67108864/\-1001000<=e/\e<=1002000/\w'=w.drewN nq) (-128-e).toNat
   ⟨m,e,rfl,zb,zb,zb,zb,zb,zb,HH.out,Or.inl HNO.out,hm3,zd,zd,rfl⟩ ?_
  clear s1 s2 s3 s4 s14 s15 σ HH HNO hm3 he1 he2 m e;rintro kk σ wk ⟨m,e,hkk,s1,s4,s14,s15,s2,s3,hhs,hno,hm3,he1,he2,rfl⟩ RK KK HRK hKK;have HKK:=zH hkk;have HH:=zH hhs;have HNO:=zH hno;clear hkk hhs hno;obtain⟨go,hgo⟩:=zX (decide (1<m/\e < -128));have HGO:=zH hgo;clear hgo;(go_upto_region 12 with fail;repeat ((first|refine cZ ?_|refine cW ?_);go_upto_region 12 with fail));refine yr (fun s' w'=>s' 1=.pointer (some ⟨4,0,none⟩)/\s' 4=.bool ng/\s' 14=.int .i64 127/\s' 15=.int .i64 (-126)/\s' 2=.int .u64 (m:Int)/\s' 3=.int .i64 e/\s' 84=.bool go/\w'=w.drewN nq) ?_ ?_
  ·intro R2 K2 HR2 hK2;by_cases hm1:1<m
   ·have g1:(1:Int)<(m:Int):=zd;by_cases he3:e < -128
    ·have e1:go=true:=by rw[<-HGO.out];exact decide_eq_true ⟨hm1,he3⟩
     subst e1;go_wp2_with fail;all_goals exact got HR2 ⟨zb,zb,zb,zb,zb,zb,zb,rfl⟩
    ·have e1:go=false:=by rw[<-HGO.out];exact decide_eq_false (fun h=>he3 h.2)
     have g2:decide (e < -128)=false:=decide_eq_false he3;subst e1;go_wp2_with fail;all_goals exact got HR2 ⟨zb,zb,zb,zb,zb,zb,zb,rfl⟩
   ·have e1:go=false:=by rw[<-HGO.out];exact decide_eq_false (fun h=>hm1 h.1)
    have g1:decide ((1:Int)<(m:Int))=false:=zh;have g2:decide (1<m)=false:=zh;subst e1;clear hm1;go_wp2_with fail;all_goals exact got HR2 ⟨zb,zb,zb,zb,zb,zb,zb,rfl⟩
  clear s1 s2 s3 s4 s14 s15 σ;rintro σ w5 ⟨s1,s4,s14,s15,s2,s3,s84,rfl⟩;cases go
  ·have HNO2:=zH (show m=0\/(33554432<=m/\-128<=e)\/e=-128\/(m<=1/\e<=-128) by
    have:=of_decide_eq_false HGO.out;have:=HNO.out;omega)
   (go_wp2_with fail;repeat ((first|refine cZ ?_|refine cW ?_);go_wp2_with fail));exact got HR ⟨m,e,zb,zb,zb,zb,zb,zb,HH.out,HNO2.out,hm3,zd,zd,rfl⟩
  ·obtain⟨hm1,he3⟩:=of_decide_eq_true HGO.out;have hsm:=zej (m:=m) zd;have hand:=zyk m zd;have hor:=zyj (m / 2) (m%2) zd zd;have hsh:(m:Int) / 2=((m / 2:Nat):Int):=zd;have HH2:=zH HH.out.half;obtain⟨m2,hm2⟩:=zX (m / 2|||m%2);rw[hm2]at hor HH2 hsm;obtain⟨mh,hmh⟩:=zX (m / 2);obtain⟨ml,hml⟩:=zX (m%2);rw[hmh]at hsh hor;rw[hml]at hand hor;have hwe:IntKind.i64.wrap (e+1)=e+1:=zk;clear hm2 hmh hml;(go_wp2_with fail;repeat ((first|refine cZ ?_|refine cW ?_);go_wp2_with fail));exact wo HRK (-128-(e+1)).toNat (by have:=HKK.out;omega) ⟨m2,e+1,rfl,zb,zb,zb,zb,zb,zb,HH2.out,Or.inr zd,zd,zd,zd,rfl⟩
 clear s1 s2 s3 s4 s14 s15 σ HH HNO hm3 he1 he2 m e;rintro σ w5 ⟨m,e,s1,s4,s14,s15,s2,s3,hhs,hno,hm3,he1,he2,rfl⟩;have HPL:=zH (zz7 hhs hno hm3);clear hhs hno;have hq:(m:Int) / 4=((m / 4:Nat):Int):=zd;have hand3:=zy7 m zd;have hand1:=zyk (m / 4) zd;have hor:=zyj (m%4) (m / 4%2) zd zd;have hwe:IntKind.i64.wrap (e+2)=e+2:=zk;have hq2:m / 4<16777216:=zd;obtain⟨q,hqq⟩:=zX (m / 4);obtain⟨r4,hr4⟩:=zX (m%4);obtain⟨q1,hq1⟩:=zX (m / 4%2);obtain⟨ro,hro⟩:=zX (m%4|||m / 4%2);rw[hro,hr4,hq1]at hor;rw[hq1,hqq]at hand1;rw[hr4]at hand3;rw[hqq]at hq hq2;have HRQ:=zH (show rdQ m=if ro=3 then q+1 else q by unfold rdQ;rw[hro,hqq]);rw[HRQ.out]at HPL;clear hqq hr4 hq1 hro HRQ;(go_upto_region 19 with fail;repeat ((first|refine cZ ?_|refine cW ?_);go_upto_region 19 with fail));go_wp2_with fail;refine yr (fun s' w'=>∃ (mant:Nat) (ef:Int),s' 1=.pointer (some ⟨4,0,none⟩)/\s' 4=.bool ng/\s' 14=.int .i64 127/\s' 15=.int .i64 (-126)/\s' 2=.int .u64 (mant:Int)/\s' 3=.int .i64 ef/\mant<16777216/\-2000000<=ef/\ef<=2000000/\zxt nb mant (if mant<8388608 then -127 else ef)/\w'=w.drewN nq) ?_ ?_
 ·intro R' K' HR hK';by_cases h3:ro=3
  ·subst h3;have hpl:=HPL.out;rw[if_pos rfl]at hpl;have HPL2:=zH hpl;have hw3:IntKind.i64.wrap (e+2+1)=e+2+1:=zk;have q64:IntKind.u64.wrap ((q:Int)+1)=(q:Int)+1:=zl;clear HPL hpl;by_cases hq21:q+1=16777216
   ·have HF:=zH (show zxt nb 8388608 (e+3) by have:=HPL2.out;rw[if_pos hq21]at this;exact this);have hqe:q=16777215:=zd;subst hqe;(go_wp2_with fail;repeat ((first|refine cZ ?_|refine cW ?_);go_wp2_with fail));refine got HR ⟨8388608,e+3,zb,zb,zb,zb,zb,?_,zd,zd,zd,?_,rfl⟩
    ·simp[yc,yd];try omega
    ·rw[if_neg zd];exact HF.out
   ·have HF:=zH (show zxt nb (q+1) (if q+1<8388608 then -127 else e+2) by have:=HPL2.out;rw[if_neg hq21]at this;exact this.2);have g1:((q:Int)+1==16777216)=false:=zf;have g2:(q+1==16777216)=false:=zf;(go_wp2_with fail;repeat ((first|refine cZ ?_|refine cW ?_);go_wp2_with fail));exact got HR ⟨q+1,e+2,zb,zb,zb,zb,zb,zb,zd,zd,zd,HF.out,rfl⟩
  ·have hpl:=HPL.out;rw[if_neg h3]at hpl;have hq21:¬q=16777216:=zd;have HF:=zH (show zxt nb q (if q<8388608 then -127 else e+2) by have:=hpl;rw[if_neg hq21]at this;exact this.2);have g0:((ro:Int)==3)=false:=zf;have g0n:(ro==3)=false:=zβJ;clear HPL hpl;(go_wp2_with fail;repeat ((first|refine cZ ?_|refine cW ?_);go_wp2_with fail));exact got HR ⟨q,e+2,zb,zb,zb,zb,zb,zb,zd,zd,zd,HF.out,rfl⟩
 clear s1 s2 s3 s4 s14 s15 σ HPL he1 he2 hand3 hand1 hor hwe hq hm3 hq2 m e q r4 q1 ro;rintro σ w6 ⟨mant,ef0,s1,s4,s14,s15,s2,s3,hm21,he1,he2,hfin,rfl⟩;obtain⟨ef,hef⟩:=zX ((if mant<8388608 then -127 else ef0));rw[hef]at hfin;have HEF:=zH hef;have HFIN:=zH hfin;clear hef hfin;(go_upto_region 24 with fail;repeat ((first|refine cZ ?_|refine cW ?_);go_upto_region 24 with fail));go_wp2_with fail;refine yr (fun s' w'=>s' 1=.pointer (some ⟨4,0,none⟩)/\s' 4=.bool ng/\s' 14=.int .i64 127/\s' 15=.int .i64 (-126)/\s' 2=.int .u64 (mant:Int)/\s' 3=.int .i64 ef/\w'=w.drewN nq) ?_ ?_
 ·intro R' K' HR hK';by_cases hqb:mant<8388608
  ·have e1:ef=-127:=by rw[<-HEF.out,if_pos hqb]
   have g3:((mant:Int) / 8388608==0)=true:=zo;have g4:(mant:Int) / 8388608=0:=zd;subst e1;(go_wp2_with fail;repeat ((first|refine cZ ?_|refine cW ?_);go_wp2_with fail));exact got HR ⟨zb,zb,zb,zb,zb,zb,rfl⟩
  ·have e1:ef=ef0:=by rw[<-HEF.out,if_neg hqb]
   have g3:((mant:Int) / 8388608==0)=false:=zf;subst e1;(go_wp2_with fail;repeat ((first|refine cZ ?_|refine cW ?_);go_wp2_with fail));exact got HR ⟨zb,zb,zb,zb,zb,zb,rfl⟩
 have hefb:-2000000<=ef/\ef<=2000000:=by have:=HEF.out;omega
 clear s1 s2 s3 s4 s14 s15 σ HEF he1 he2 ef0;rintro σ w7 ⟨s1,s4,s14,s15,s2,s3,rfl⟩;obtain⟨er,her⟩:=zX (decide (nb=2139095040));have HER:=zH her;(go_upto_region 27 with fail;repeat ((first|refine cZ ?_|refine cW ?_);go_upto_region 27 with fail));go_wp2_with fail;refine yr (fun s' w'=>∃ (mant E:Nat),s' 1=.pointer (some ⟨4,0,none⟩)/\s' 4=.bool ng/\s' 2=.int .u64 (mant:Int)/\s' 3=.int .i64 ((E:Int)-127)/\s' 17=erV er/\mant<16777216/\E<=255/\mant%8388608+E*8388608=nb/\w'=w.drewN nq) ?_ ?_
 ·intro R' K' HR hK';by_cases hb:127<ef
  ·have e1:er=true:=by rw[<-HER.out];exact decide_eq_true (HFIN.out.1 hb)
   have HV:=zH (HFIN.out.1 hb);subst e1;(go_wp2_with fail;repeat ((first|refine cZ ?_|refine cW ?_);go_wp2_with fail));refine got HR ⟨8388608,255,zb,zb,zb,?_,?_,zd,zd,by rw[HV.out],rfl⟩
   ·simp[ov, *]
   ·simp[ov,erV, *]
  ·have e1:er=false:=by rw[<-HER.out];exact decide_eq_false (HFIN.out.2 zd).2.2
   have HV:=zH (HFIN.out.2 zd);have hlo:=HV.out.1;have g1:decide (127<ef)=false:=decide_eq_false hb;subst e1;(go_wp2_with fail;repeat ((first|refine cZ ?_|refine cW ?_);go_wp2_with fail));refine got HR ⟨mant,(ef+127).toNat,zb,zb,zb,?_,?_,hm21,zd,HV.out.2.1,rfl⟩
   ·rw[show (((ef+127).toNat:Nat):Int)-127=ef by omega];simp[ov, *]
   ·simp[ov,erV, *]
 clear s1 s2 s3 s4 s14 s15 σ HFIN hefb hm21 mant ef;rintro σ w8 ⟨mant,E,s1,s4,s2,s3,s17,hm,hE,hval,rfl⟩;have HV:=zH hval;have hlow:=zx4 mant zd;have hexp:=zx7 E hE;have hor:=zx3 mant E hE;have hml:mant%8388608<8388608:=Nat.mod_lt _ zd;obtain⟨lo,hlo⟩:=zX (mant%8388608);rw[hlo]at hlow hor hml HV;have hEs:E*8388608<2147483648:=zd;have hsh1:IntKind.u64.wrap ((E:Int)*8388608)=((E*8388608:Nat):Int):=zl;have hsh2:(E:Int)*8388608=((E*8388608:Nat):Int):=zd;obtain⟨hi',hhi'⟩:=zX (E*8388608);rw[hhi']at hor hsh1 hsh2 hEs HV;have hsg:=zx0 (lo+hi') zd;obtain⟨bb,hbb⟩:=zX (lo+hi');rw[hbb]at hor hsg HV;have hbl:bb<2147483648:=zd;have q1:(E:Int)-127 - -127=(E:Int):=zd;have q2:(E:Int)-127+127=(E:Int):=zd;have hw64:IntKind.u64.wrap (E:Int)=(E:Int):=zl;have hwhi:IntKind.u64.wrap (hi':Int)=(hi':Int):=zl;have hw65:IntKind.i64.wrap (E:Int)=(E:Int):=zk;have wA:IntKind.i64.wrap 256=256:=ze;have wB:IntKind.i64.wrap 255=255:=ze;have wD:IntKind.u64.wrap 8388608=8388608:=ze;have wE:IntKind.u64.wrap 2147483648=2147483648:=ze;have hbn:bb=nb:=HV.out;subst hbn;clear hlo hhi' hbb hval HV her;(go_upto_region 32 with fail;repeat ((first|refine cZ ?_|refine cW ?_);go_upto_region 32 with fail));refine yr (fun s' w'=>s' 1=.pointer (some ⟨4,0,none⟩)/\s' 4=.bool ng/\s' 18=.int .u64 (bb:Int)/\s' 17=erV er/\∃ nq,w'=w.drewN nq) ?_ ?_
 ·intro R' K' HR hK';go_quiet (fail);go_wp2_with fail;exact got HR ⟨zb,zb,zb,zb,_,World.drewN_drewN ..⟩
 clear s1 s2 s3 s4 s17 σ hlow hexp hor hsh1 hsh2 q1 q2 hw64 hw65 hwhi wA wB;rintro σ w9 ⟨s1,s4,s18,s17,n2,rfl⟩;obtain⟨B2,hB2⟩:=zX (sgN ng+bb);(go_upto_region 33 with fail;repeat ((first|refine cZ ?_|refine cW ?_);go_upto_region 33 with fail));go_wp2_with fail;refine yr (fun s' w'=>s' 1=.pointer (some ⟨4,0,none⟩)/\s' 18=.int .u64 (B2:Int)/\s' 17=erV er/\∃ nq,w'=w.drewN nq) ?_ ?_
 ·intro R' K' HR hK';cases ng
  ·have e1:bb=B2:=by rw[<-hB2];show bb=0+bb;omega
   subst e1;(go_wp2_with fail;repeat ((first|refine cZ ?_|refine cW ?_);go_wp2_with fail));exact got HR ⟨zb,zb,zb,_,rfl⟩
  ·have e1:bb+2147483648=B2:=by rw[<-hB2];show bb+2147483648=2147483648+bb;omega
   rw[e1]at hsg;(go_upto_region 34 with fail;repeat ((first|refine cZ ?_|refine cW ?_);go_upto_region 34 with fail));go_quiet (fail);go_wp2_with fail;exact got HR ⟨zb,zb,zb,_,World.drewN_drewN ..⟩
 clear s1 s4 s18 s17 σ;rintro σ w10 ⟨s1,s18,s17,n3,rfl⟩;have hext:=fun W=>zxs B2 W
 rw[hB2]at hr;have hcv:=fun W=>run_convert_float_float (P:=Tryz.prog) W 60 51 .f32 .f64 B2 r zγC Tryz.underlying51 hr
 have hB32:B2<4294967296:=by rw[<-hB2];cases ng <;> simp[sgN] <;> omega
 have hwB:IntKind.u32.wrap (B2:Int)=(B2:Int):=zαV;cases er
 ·(go_wp2_with fail;repeat ((first|refine cZ ?_|refine cW ?_);go_wp2_with fail));exact xc (.float .f64 r) .nilIface rfl ze ze zb (by simp[ov,erV, *]) ⟨by rw[HER.out];rfl,yh _ _ _⟩
 ·(go_wp2_with fail;repeat ((first|refine cZ ?_|refine cW ?_);go_wp2_with fail));exact xc (.float .f64 r) (.iface 101 (.int .i64 1)) rfl ze ze zb (by simp[ov,erV, *]) ⟨by rw[HER.out];rfl,yh _ _ _⟩
end
section
attribute [local go_sem] undef
def AtQ32 (s:List UInt8) (v n:Nat) (ev:Value):Prop:=match qp s with
 | some x=>n=x.2/\ev=.nilIface/\((x.1=zmd/\zxp v)\/(x.1=kp false/\v=2139095040)\/(x.1=kp true/\v=4286578688))
 | none=>match rfP s with
  | none=>v=0/\ev=.iface 101 (.int .i64 2)
  | some R=>n=R.n/\∃ L,zau (s.take R.n)=some L/\v=sgC L.neg+nvL 23 127 2139095040 L/\ev=erV (decide (nvL 23 127 2139095040 L=2139095040))
theorem AtQ32.no {s:List UInt8} (h:qp s=none) (h2:rfP s=none) (n:Nat):AtQ32 s 0 n (.iface 101 (.int .i64 2)):=by
 unfold AtQ32;rw[h,h2];exact⟨rfl,rfl⟩
theorem AtQ32.lit {s:List UInt8} {R:RR} {L:Lit} {v:Nat} {ev:Value} (h:qp s=none) (h2:rfP s=some R) (hL:zau (s.take R.n)=some L) (hv:v=sgC L.neg+nvL 23 127 2139095040 L) (he:ev=erV (decide (nvL 23 127 2139095040 L=2139095040))):AtQ32 s v R.n ev:=by
 unfold AtQ32;rw[h,h2];exact⟨rfl,L,hL,hv,he⟩
theorem zz2 (T d:Nat) (p:Int) (ng:Bool) (w:World) (he:Env T w) (hd0:d≠0) (hd:d<18446744073709551616) (hp1:-348<=p) (hp2:p<=347):
  Calls Tryz.prog 113 #[.int .u64 (d:Int),.int .i64 p,.int .u32 ((sgC ng:Nat):Int)] w fun r w'=>
   r=.returned (.tuple #[.float .f32 (sgC ng+nvT 23 127 2139095040 10 d p),erV (decide (nvT 23 127 2139095040 10 d p=2139095040))])/\w.grownBy w' none:=by
 obtain⟨h1,h2⟩:=zzi d p hd0 hd hp1 hp2;refine (zx2 T d p ng w he hd0 hd hp1 hp2 h1).mono ?_;rintro r w' ⟨rfl,hg⟩;rw[h2];exact⟨rfl,hg⟩
set_option maxRecDepth 100000 in
theorem zza (T:Nat) (s:List UInt8) (w:World) (he:EnvP T w) (hs:s.length<=800):
  Calls Tryz.prog 83 #[.string ⟨s.toArray⟩] w fun e w'=>(∃ (v n:Nat) (ev:Value),e=.returned (.tuple #[.float .f32 v,.int .i64 (n:Int),ev])/\AtQ32 s v n ev)/\w.grownBy w' none:=by
 have hsz:(⟨s.toArray⟩:ByteArray).size=s.length:=zm;have hs4:s.length<=4000000:=zd;refine ye Tryz.func83 rfl (by rw[Tryz.ntmps83];simp) ?_;intro σ hσ;rw[Tryz.ntmps83];have s0:σ 0=.string ⟨s.toArray⟩:=hσ 0 zi;clear hσ;cases hsp:qp s with
 | some x=>
  have HS:=zH (fun W=>zgm hs4 hsp W);have hx3:=zzg hsp;obtain⟨v,n⟩:=x;simp only at hx3 HS;rcases hx3 with hv | hv | hv
  ·have HQ:=zH (fun b (hb:zxp b)=>(show AtQ32 s b n .nilIface by unfold AtQ32;rw[hsp];exact⟨rfl,rfl,Or.inl ⟨hv,hb⟩⟩));obtain⟨b,hb,hcv⟩:=zym v (by rw[hv];exact⟨ze,ze⟩) w;clear hsp hv;(go_wp2_with fail;repeat ((first|refine cZ ?_|refine cW ?_);go_wp2_with fail));refine (HS.out _).mono ?_;rintro e w1 ⟨rfl,hw1⟩;subst w1;(go_wp2_with fail;repeat ((first|refine cZ ?_|refine cW ?_);go_wp2_with fail));exact xy (.float .f32 b) (.int .i64 (n:Int)) .nilIface rfl ze ze ze zb zb zb ⟨⟨b,n,_,rfl,HQ.out b hb⟩,yh w 1 _⟩
  ·have HQ:=zH (show AtQ32 s 2139095040 n .nilIface by unfold AtQ32;rw[hsp];exact⟨rfl,rfl,Or.inr (Or.inl ⟨hv,rfl⟩)⟩);have hcv:=fun W=>run_convert_float_float (P:=Tryz.prog) W 51 60 .f64 .f32 v 2139095040 zγg Tryz.underlying60 (by rw[hv];decide +kernel)
   clear hsp hv;(go_wp2_with fail;repeat ((first|refine cZ ?_|refine cW ?_);go_wp2_with fail));refine (HS.out _).mono ?_;rintro e w1 ⟨rfl,hw1⟩;subst w1;(go_wp2_with fail;repeat ((first|refine cZ ?_|refine cW ?_);go_wp2_with fail));exact xy (.float .f32 2139095040) (.int .i64 (n:Int)) .nilIface rfl ze ze ze zb zb zb ⟨⟨_,n,_,rfl,HQ.out⟩,yy _ _⟩
  ·have HQ:=zH (show AtQ32 s 4286578688 n .nilIface by unfold AtQ32;rw[hsp];exact⟨rfl,rfl,Or.inr (Or.inr ⟨hv,rfl⟩)⟩);have hcv:=fun W=>run_convert_float_float (P:=Tryz.prog) W 51 60 .f64 .f32 v 4286578688 zγg Tryz.underlying60 (by rw[hv];decide +kernel)
   clear hsp hv;(go_wp2_with fail;repeat ((first|refine cZ ?_|refine cW ?_);go_wp2_with fail));refine (HS.out _).mono ?_;rintro e w1 ⟨rfl,hw1⟩;subst w1;(go_wp2_with fail;repeat ((first|refine cZ ?_|refine cW ?_);go_wp2_with fail));exact xy (.float .f32 4286578688) (.int .i64 (n:Int)) .nilIface rfl ze ze ze zb zb zb ⟨⟨_,n,_,rfl,HQ.out⟩,yy _ _⟩
 | none=>
  have HS:=zH (fun W=>zgn hs4 hsp W);have HSP:=zH hsp;clear hsp;(go_wp2_with fail;repeat ((first|refine cZ ?_|refine cW ?_);go_wp2_with fail));refine (HS.out _).mono ?_;rintro e w1 ⟨rfl,rfl⟩;cases hrf:rfP s with
  | none=>
   have HR:=zH (fun W=>zlc hs4 hrf W);have HNO:=zH (fun n=>AtQ32.no HSP.out hrf n);clear hrf;(go_wp2_with fail;repeat ((first|refine cZ ?_|refine cW ?_);go_wp2_with fail));refine (HR.out _).mono ?_;rintro e w1 ⟨⟨a,p,b,c,d,n,rfl⟩,rfl⟩;(go_wp2_with fail;repeat ((first|refine cZ ?_|refine cW ?_);go_wp2_with fail));exact xy (.float .f32 0) (.int .i64 (n:Int)) (.iface 101 (.int .i64 2)) rfl ze ze ze zb zb zb ⟨⟨0,n,_,rfl,HNO.out n⟩,yy _ _⟩
  | some R=>
   have HR:=zH (fun W=>zlb hs4 hrf W);obtain⟨hRn,L,hL,hR⟩:=zsf hrf;have HLIT:=zH (fun v ev h1 h2=>AtQ32.lit (v:=v) (ev:=ev) HSP.out hrf hL h1 h2);have hok:=zfk hL;have hlen:(s.take R.n).length=R.n:=zN;have hexb:=zwn L R.n hok.1 (by have:=hok.2.1;omega) hok.2.2.1;have hnegR:R.neg=L.neg:=by rw[hR];rfl
   have hhexR:R.hex=L.hex:=by rw[hR];rfl
   have HHX:=zH (fun (h:L.hex=true)=>by have:=zok 23 127 2139095040 L R.n hok.1 h ze ze ze;rw[<-hR]at this;exact this);have HDC:=zH (fun (h:L.hex=false)=>by have:=zo9 23 127 2139095040 L R.n hok.1 h ze ze rfl;rw[<-hR]at this;exact this);rw[<-hR]at hexb;have hnl:nvL 23 127 2139095040 L<=2139095040:=ud 23 127 2139095040 _ _ (qg _ (by have:=zjl L.hex;omega)) ze rfl;have hdl:R.mant<18446744073709551616:=by
    cases hx:L.hex with
    | true=>exact (HHX.out hx).1
    | false=>exact Nat.lt_of_lt_of_le (HDC.out hx).lt ze
   have HL:=zH hL;clear hrf hL hok hR;rw[hnegR,hhexR]at HR;obtain⟨d,hd⟩:=zX R.mant;obtain⟨p,hp⟩:=zX R.exp;obtain⟨tr,htr⟩:=zX R.tr;obtain⟨n,hn⟩:=zX R.n;obtain⟨ng,hng⟩:=zX L.neg;obtain⟨nv,hnv⟩:=zX (nvL 23 127 2139095040 L);rw[hd,hp,htr,hn,hng]at HR;rw[hd,hp,htr,hnv]at HHX HDC;rw[hn,hng,hnv]at HLIT;rw[hn]at hRn hlen HL;rw[hp]at hexb;rw[hd]at hdl;rw[hnv]at hnl;have hcut:=zqe s n hRn;have hnN:(n:Int)<=(s.length:Int):=zd;have HNG:=zH hng;clear hd hp htr hn hng hnv hnegR hhexR;cases hx:L.hex with
   | true=>
    obtain⟨x1,x2,x3⟩:=HHX.out hx;rw[hx]at HR;clear HHX HDC hx;have hb32:sgN ng+nv<4294967296:=by cases ng <;> simp[sgN] <;> omega
    obtain⟨r,hr1,hr2,hr3⟩:=zyp (sgN ng+nv) hb32 (fun h=>by have h2:=h.2;cases ng <;> simp[sgN]at h2 <;> omega);have HH:=zH (fun sv W (hE:EnvP T W)=>zyn T d nv p ng tr sv W hE hdl zd zd x2 (fun h=>⟨by have:=(x3 h).1;omega,(x3 h).2⟩) hnl r hr2);have hcv:=fun W=>run_convert_float_float (P:=Tryz.prog) W 51 60 .f64 .f32 r (sgN ng+nv) zγg Tryz.underlying60 hr3
    clear x1 x2 x3 hr2 hr3;(go_wp2_with fail;repeat ((first|refine cZ ?_|refine cW ?_);go_wp2_with fail));refine (HR.out _).mono ?_;rintro e w1 ⟨rfl,hw1⟩;subst w1;(go_wp2_with fail;repeat ((first|refine cZ ?_|refine cW ?_);go_wp2_with fail));refine (HH.out _ _ he).mono ?_;rintro e w1 ⟨rfl,hg⟩;(go_wp2_with fail;repeat ((first|refine cZ ?_|refine cW ?_);go_wp2_with fail));exact xy (.float .f32 (sgN ng+nv)) (.int .i64 (n:Int)) (erV (decide (nv=2139095040))) rfl ze ze ze zb zb zb ⟨⟨_,n,_,rfl,HLIT.out _ _ rfl rfl⟩,hg⟩
   | false=>
    have hdc:=HDC.out hx;rw[hx]at HR;have HX:=zH hx;clear HHX HDC hx;have HDC:=zH hdc;have hopt:=he.env.opt;have HE:=zH he;have hlt:=he.env.size;clear hdc he;have hsgw:IntKind.u32.wrap (2147483648*(if ng then 1 else 0))=((sgC ng:Nat):Int):=zαQ;have hor0:bits .or .u32 ((sgC ng:Nat):Int) 0=((sgC ng:Nat):Int):=zαQ;have hsgw2:IntKind.u32.wrap (((b2n ng:Nat):Int)*2147483648)=((sgC ng:Nat):Int):=zαQ;have hsgw3:((if ng=true then 1 else 0:Int))*2147483648=((sgC ng:Nat):Int):=zαQ;have hori:bits .or .u32 ((sgC ng:Nat):Int) 2139095040=((sgC ng+2139095040:Nat):Int):=zzk ng;obtain⟨S,hS⟩:=zX (sgC ng);rw[hS]at hor0 hori hsgw hsgw2 hsgw3;obtain⟨S2,hS2⟩:=zX (S+2139095040);rw[hS2]at hori;have HS2:=zH hS2;clear hS2;have HS0:=zH hS;clear hS;(go_wp2_with fail;repeat ((first|refine cZ ?_|refine cW ?_);go_wp2_with fail));refine (HR.out _).mono ?_;rintro e w1 ⟨rfl,rfl⟩;(go_wp2_with fail;repeat ((first|refine cZ ?_|refine cW ?_);go_wp2_with fail));refine (zy9 ng _).mono ?_;rintro e w1 ⟨rfl,hw1⟩;subst w1;(go_upto_region 12 with fail;repeat ((first|refine cZ ?_|refine cW ?_);go_upto_region 12 with fail));refine zjw (fun s'=>s' 0=.string ⟨s.toArray⟩/\s' 3=.int .i64 (n:Int)/\s' 4=.nilIface/\s' 8=.int .u64 (d:Int)/\s' 9=.int .i64 p/\s' 10=.bool ng/\s' 11=.bool tr/\s' 16=.int .u32 (S:Int)) ⟨zb,zb,zb,zb,zb,zb,zb,zb⟩ ?_;clear s0 σ hsgw hsgw2 hsgw3 HR;rintro σ ⟨s0,s3,s4,s8,s9,s10,s11,s16⟩;have hext:=fun (W:World)=>zxs S W
    have hexti:=fun (W:World)=>zxs S2 W
    by_cases hd0:d=0
    ·have HF:=zH (HLIT.out S .nilIface (by rw[HS0.out,(HDC.out.zero hd0).1,Nat.add_zero]) (by rw[(HDC.out.zero hd0).1];rfl));subst hd0;(go_wp2_with fail;repeat ((first|refine cZ ?_|refine cW ?_);go_wp2_with fail));exact xy (.float .f32 S) (.int .i64 (n:Int)) .nilIface rfl ze ze ze zb zb zb ⟨⟨S,n,_,rfl,HF.out⟩,yy _ _⟩
    have g1:((d:Int)==0)=false:=zf;have g2:(d==0)=false:=by rw[beq_eq_false_iff_ne];exact hd0
    have HD0:=zH hd0;clear hd0;by_cases hp1:40<p
    ·have hn:=HDC.out.over 39 HD0.out zd zp ze;have HF:=zH (HLIT.out S2 (.iface 101 (.int .i64 1)) (by rw[HS0.out,hn];exact HS2.out.symm) (by rw[hn];rfl));clear hn;(go_wp2_with fail;repeat ((first|refine cZ ?_|refine cW ?_);go_wp2_with fail));exact xy (.float .f32 S2) (.int .i64 (n:Int)) (.iface 101 (.int .i64 1)) rfl ze ze ze zb zb zb ⟨⟨S2,n,_,rfl,HF.out⟩,yy _ _⟩
    have g3:decide (40<p)=false:=decide_eq_false hp1;by_cases hp2:p < -70
    ·have hn:=HDC.out.under 51 HD0.out zd zp ze ze;have HF:=zH (HLIT.out S .nilIface (by rw[HS0.out,hn,Nat.add_zero]) (by rw[hn];rfl));clear hn;(go_wp2_with fail;repeat ((first|refine cZ ?_|refine cW ?_);go_wp2_with fail));exact xy (.float .f32 S) (.int .i64 (n:Int)) .nilIface rfl ze ze ze zb zb zb ⟨⟨S,n,_,rfl,HF.out⟩,yy _ _⟩
    have g4:decide (p < -70)=false:=decide_eq_false hp2;clear hor0 hori hext hexti;(go_upto_region 18 with fail;repeat ((first|refine cZ ?_|refine cW ?_);go_upto_region 18 with fail));go_wp2_with fail;refine yr (fun s' w'=>s' 0=.string ⟨s.toArray⟩/\s' 3=.int .i64 (n:Int)/\s' 4=.nilIface/\s' 8=.int .u64 (d:Int)/\s' 9=.int .i64 p/\s' 10=.bool ng/\s' 11=.bool tr/\s' 16=.int .u32 (S:Int)/\w=w') ?_ ?_
    ·intro R' K' HR hK';cases tr
     ·have HEX:=zH (fun W (hE:EnvP T W)=>zx8 T d p ng W hE HD0.out hdl zd zd);have HSM:=zH (HDC.out.same rfl);have hgr1:=yy w none;(go_wp2_with fail;repeat ((first|refine cZ ?_|refine cW ?_);go_wp2_with fail));refine (HEX.out _ HE.out).mono ?_;rintro e w1 ⟨v,ok,rfl,hv,rfl⟩;have HV:=zH hv;clear hv;cases ok
      ·(go_wp2_with fail;repeat ((first|refine cZ ?_|refine cW ?_);go_wp2_with fail));exact got HR ⟨zb,zb,zb,zb,zb,zb,zb,zb,rfl⟩
      ·obtain⟨hv1,hv2,hv3⟩:=HV.out rfl;have hnf:nv≠2139095040:=by rw[HSM.out];exact zt9 23 127 2139095040 d 17 p (Nat.lt_of_lt_of_le hv2 zp) ze ze rfl zd zp
       have HF:=zH (HLIT.out v .nilIface (by rw[hv1,HSM.out];rfl) (by rw[decide_eq_false hnf];rfl));clear hv1 hv2 hv3 hnf;(go_wp2_with fail;repeat ((first|refine cZ ?_|refine cW ?_);go_wp2_with fail));exact xy (.float .f32 v) (.int .i64 (n:Int)) .nilIface rfl ze ze ze zb zb zb ⟨⟨v,n,_,rfl,HF.out⟩,hgr1⟩
     ·(go_wp2_with fail;repeat ((first|refine cZ ?_|refine cW ?_);go_wp2_with fail));exact got HR ⟨zb,zb,zb,zb,zb,zb,zb,zb,rfl⟩
    clear s0 s3 s4 s8 s9 s10 s11 s16 σ g1 g2 g3 g4;rintro σ w1 ⟨s0,s3,s4,s8,s9,s10,s11,s16,rfl⟩;have hp1':-348<=p:=zd;have hp2':p<=347:=zd;have HPF:=zH (fun d' (W:World) (hE:Env T W) (h0:d'≠0) (hd':d'<18446744073709551616)=>zz2 T d' p ng W hE h0 hd' hp1' hp2');rw[HS0.out]at HPF;have hd19:d+1<18446744073709551616:=Nat.lt_of_le_of_lt (Nat.succ_le_of_lt HDC.out.lt) ze;obtain⟨X1,hX1⟩:=zX (nvT 23 127 2139095040 10 d p);have HX1:=zH hX1;have HP1:=zH (fun W hE=>hX1 ▸ HPF.out d W hE HD0.out hdl);clear hX1;(go_wp2_with fail;repeat ((first|refine cZ ?_|refine cW ?_);go_wp2_with fail));refine (HP1.out _ HE.out.env).mono ?_;rintro e w2 ⟨rfl,hg2⟩;have HG2:=zH hg2;have hlt2:=hg2.size;clear hg2;cases tr
    ·have hsm:nv=X1:=by rw[HDC.out.same rfl];exact HX1.out
     have HF:=zH (HLIT.out (S+X1) (erV (decide (X1=2139095040))) (by rw[HS0.out,hsm]) (by rw[hsm]));clear hsm;(go_wp2_with fail;repeat ((first|refine cZ ?_|refine cW ?_);go_wp2_with fail));exact xy (.float .f32 (S+X1)) (.int .i64 (n:Int)) (erV (decide (X1=2139095040))) rfl ze ze ze zb zb zb ⟨⟨S+X1,n,_,rfl,HF.out⟩,HG2.out⟩
    obtain⟨X2,hX2⟩:=zX (nvT 23 127 2139095040 10 (d+1) p);have HX2:=zH hX2;have HP2:=zH (fun W hE=>hX2 ▸ HPF.out (d+1) W hE zd hd19);clear hX2 HP1 HPF;have q1:IntKind.u64.wrap ((d:Int)+1)=(((d+1:Nat):Nat):Int):=zl;(go_wp2_with fail;repeat ((first|refine cZ ?_|refine cW ?_);go_wp2_with fail));refine (HP2.out _ (HE.out.grown HG2.out (fun _ e=>zL)).env).mono ?_;rintro e w3 ⟨rfl,hg3⟩;have HG3:=zH (yx HG2.out hg3 (fun _ e _=>zL));have hlt3:=HG3.out.size;clear hg3 HG2 hlt2;obtain⟨b,hb⟩:=zX ((FloatKind.f32.format.order (S+X1) (S+X2)==some Ordering.eq));cases b;rotate_left 1
    ·have hsm:nv=X1:=by
      have h1:=zt2 FmtOK.single ng X1 X2 (by rw[<-HX1.out];exact zec 23 127 2139095040 _ _ ze rfl) (by rw[<-HX2.out];exact zec 23 127 2139095040 _ _ ze rfl) (by rw[zxr,zxr,HS0.out];exact eq_of_beq hb);have h2:=HDC.out.lo;have h3:=HDC.out.hi rfl;rw[HX1.out]at h2;rw[HX2.out]at h3;omega
     have HF:=zH (HLIT.out (S+X1) (erV (decide (X1=2139095040))) (by rw[HS0.out,hsm]) (by rw[hsm]));clear hsm;(go_wp2_with fail;repeat ((first|refine cZ ?_|refine cW ?_);go_wp2_with fail));exact xy (.float .f32 (S+X1)) (.int .i64 (n:Int)) (erV (decide (X1=2139095040))) rfl ze ze ze zb zb zb ⟨⟨S+X1,n,_,rfl,HF.out⟩,HG3.out⟩
    have HNS:=zH (Dec.new w3);have HE3:=zH ((HE.out.grown HG3.out (fun _ e=>zL)).alloc (Obj.cells Tryz.zeroCells152 152));have HN0:=zH (HDC.out.ne HD0.out);(go_wp2_with fail;repeat ((first|refine cZ ?_|refine cW ?_);go_wp2_with fail));refine (zts w3.heap.size (s.take n) L (List.replicate 800 0) false false _ HL.out HX.out HN0.out (by rw[hlen];omega) HNS.out).mono ?_;rintro e w4 ⟨rfl,hdt,hg4⟩;rw[HNG.out]at hdt;have HDT:=zH hdt;have HG4:=zH hg4;clear hdt hg4;have HE4:=zH (HE3.out.grown HG4.out (fun k e=>by cases e;exact Nat.le_trans hlt hlt3));have hdp1:=HDC.out.dp1 HD0.out;have hdp2:=HDC.out.dp2 HD0.out;have HFB:=zH (fun W (h:W=w4)=>h ▸ zx6 T w3.heap.size L.num L.ex ng w4 HE4.out zd HDT.out zd zd);have hnvis:zxq (L.num*10^L.ex.toNat) (10^(-L.ex).toNat)=nv:=HDC.out.nvis.symm;rw[hnvis]at HFB;obtain⟨S3,hS3⟩:=zX (sgN ng+nv);rw[hS3]at HFB;have HS3:=zH hS3;obtain⟨bo,hbo⟩:=zX (decide (nv=2139095040));rw[hbo]at HFB;have HF:=zH (HLIT.out S3 (erV bo) hS3.symm (by rw[hbo]));have HGW:=zH (fun w5 (hg5:Gr w4 w5 w3.heap.size)=>yx HG3.out (row1:=none) (zom (World.grownBy_alloc w3 (Obj.cells Tryz.zeroCells152 152) none) (HG4.out.trans hg5)) (fun _ e _=>zL));clear hnvis hdp1 hdp2 HX1 HX2 HP2 HDC hS3 hbo;(go_wp2_with fail;repeat ((first|refine cZ ?_|refine cW ?_);go_wp2_with fail));refine (HFB.out _ rfl).mono ?_;rintro e w5 ⟨rfl,hg5⟩;have HG5:=zH (HGW.out w5 hg5);clear hg5 HGW;have hext:=fun (W:World)=>zxs S3 W
    have hwS:IntKind.u32.wrap (S3:Int)=(S3:Int):=by
     have:S3<4294967296:=by rw[<-HS3.out];cases ng <;> simp[sgN] <;> omega
     rw[IntKind.wrap_u32];omega
    cases bo
    ·(go_wp2_with fail;repeat ((first|refine cZ ?_|refine cW ?_);go_wp2_with fail));exact xy (.float .f32 S3) (.int .i64 (n:Int)) .nilIface rfl ze ze ze zb zb zb ⟨⟨S3,n,_,rfl,HF.out⟩,HG5.out⟩
    ·(go_wp2_with fail;repeat ((first|refine cZ ?_|refine cW ?_);go_wp2_with fail));exact xy (.float .f32 S3) (.int .i64 (n:Int)) (.iface 101 (.int .i64 1)) rfl ze ze ze zb zb zb ⟨⟨S3,n,_,rfl,HF.out⟩,HG5.out⟩
end
def PaQ32 (s:List UInt8) (v k:Nat):Prop:=match ul s with
 | none=>v=0/\k=1
 | some t=>(t.kind=2->zxp v/\k=0)/\(t.kind=1->v=(if t.neg then 4286578688 else 2139095040)/\k=0)/\
  (t.kind=0->v=sgC t.neg+spB 23 127 2139095040 t/\k=if spB 23 127 2139095040 t=2139095040 then 2 else 0)
theorem PaQ32.bad {s:List UInt8} (h:ul s=none):PaQ32 s 0 1:=by unfold PaQ32;rw[h];exact⟨rfl,rfl⟩
theorem zx1 (b:Bool):zmd≠kp b:=by cases b <;> decide
theorem zzp:kp false≠kp true:=by decide
theorem zzv {s:List UInt8} {v n:Nat} {ev:Value} (h:AtQ32 s v n ev) (hs:s.length<=800):(n=s.length->∃ k,ev=erK k/\PaQ32 s v k)/\(n≠s.length->PaQ32 s 0 1):=by
 unfold AtQ32 at h;refine zco s _ (fun hsp hr=>?_) (fun ng hsp hr=>?_) (fun hsp hr=>?_)
 ·rw[hsp]at h;obtain⟨rfl,rfl,hx⟩:=h;refine⟨fun _=>⟨0,rfl,?_⟩,fun h=>absurd rfl h⟩;have hx2:zxp v:=by
   rcases hx with⟨-,h⟩ | ⟨h,-⟩ | ⟨h,-⟩
   ·exact h
   ·exact absurd h (zx1 _)
   ·exact absurd h (zx1 _)
  unfold PaQ32;rw[hr];exact⟨fun _=>⟨hx2,rfl⟩,fun h=>absurd h (by show ¬(2:Int)=1;decide),fun h=>absurd h (by show ¬(2:Int)=0;decide)⟩
 ·rw[hsp]at h;obtain⟨rfl,rfl,hx⟩:=h;refine⟨fun _=>⟨0,rfl,?_⟩,fun h=>absurd rfl h⟩;have hx2:v=if ng then 4286578688 else 2139095040:=by
   rcases hx with⟨h,-⟩ | ⟨h,h2⟩ | ⟨h,h2⟩
   ·exact absurd h.symm (zx1 _)
   ·cases ng
    ·exact h2
    ·exact absurd h.symm zzp
   ·cases ng
    ·exact absurd h zzp
    ·exact h2
  unfold PaQ32;rw[hr];exact⟨fun h=>absurd h (by show ¬(1:Int)=2;decide),fun _=>⟨hx2,rfl⟩,fun h=>absurd h (by show ¬(1:Int)=0;decide)⟩
 ·rcases hsp with hsp | ⟨v',n',hsp,hn',hl⟩
  ·rw[hsp]at h;simp only at h;cases hrf:rfP s with
   | none=>
    rw[hrf]at h;obtain⟨rfl,rfl⟩:=h;have hb:=PaQ32.bad (s:=s) (by rw[hr,zq7 hrf];rfl);exact⟨fun _=>⟨1,rfl,hb⟩,fun _=>hb⟩
   | some R=>
    rw[hrf]at h;obtain⟨rfl,L,hL,rfl,rfl⟩:=h;obtain⟨w1,w2⟩:=zql hrf;refine⟨fun hn=>?_,fun hn=>PaQ32.bad (by rw[hr,w2 hn];rfl)⟩;obtain⟨L',hL',hL2⟩:=w1 hn;rw[hL]at hL2;cases hL2;have hv:=zto 23 127 2139095040 hL' zd ze ze ze ze;refine⟨_,zus _,?_⟩;unfold PaQ32;rw[hr,hL'];refine⟨fun h=>absurd h (by show ¬(0:Int)=2;decide),fun h=>absurd h (by show ¬(0:Int)=1;decide),fun _=>?_⟩;rw[hv];exact⟨rfl,zi⟩
  ·rw[hsp]at h;obtain⟨rfl,rfl,-⟩:=h;exact⟨fun h=>absurd h hn',fun _=>PaQ32.bad (by rw[hr,hl];rfl)⟩
section
attribute [local go_sem] undef
def yak (v r:Nat):Prop:=(zxp v/\zzw r)\/(v<4294967296/\¬zxp v/\r<18446744073709551616/\floatToFloatBits .f32 v .f64=some r)
def yxs (s:List UInt8) (r k:Nat):Prop:=∃ v,PaQ32 s v k/\yak v r
theorem zze:yak 0 0:=Or.inr ⟨ze,by rintro⟨-,h⟩;revert h;decide,ze,zp⟩
theorem zxo (L:Lit):nvL 23 127 2139095040 L<=2139095040:=by
 unfold nvL nvT;exact ud 23 127 2139095040 _ _ (qg _ zαO) ze ze 
theorem AtQ32.lt {s:List UInt8} {v n:Nat} {ev:Value} (h:AtQ32 s v n ev):v<4294967296:=by
 unfold AtQ32 at h;split at h
 ·obtain⟨-,-,h⟩:=h;rcases h with⟨-,h⟩ | ⟨-,h⟩ | ⟨-,h⟩
  ·exact h.1
  ·omega
  ·omega
 ·split at h
  ·omega
  ·obtain⟨-,L,-,hv,-⟩:=h;have:=zxo L;have h2:sgC L.neg<=2147483648:=by unfold sgC;split <;> omega
   omega
set_option maxRecDepth 100000 in
theorem zys (T:Nat) (s:List UInt8) (w:World) (he:EnvP T w) (hs:s.length<=800):
  Calls Tryz.prog 63 #[.string ⟨s.toArray⟩,.int .i64 32] w fun e w'=>(∃ (v r n:Nat) (ev:Value),e=.returned (.tuple #[.float .f64 r,.int .i64 (n:Int),ev])/\AtQ32 s v n ev/\yak v r)/\w.grownBy w' none:=by
 have HAT:=zH (zza T s w he hs);refine ye Tryz.func63 rfl (by rw[Tryz.ntmps63];simp) ?_;intro σ hσ;rw[Tryz.ntmps63];have s0:σ 0=.string ⟨s.toArray⟩:=hσ 0 zi;have s1:σ 1=.int .i64 32:=hσ 1 zi;clear hσ;(go_wp2_with fail;repeat ((first|refine cZ ?_|refine cW ?_);go_wp2_with fail));refine HAT.out.mono ?_;rintro e w1 ⟨⟨v,n,ev,rfl,hq⟩,hg⟩;have hv:=hq.lt;have HQ:=zH hq;clear hq;by_cases hn:zxp v
 ·obtain⟨r,hr,hcv⟩:=zyz v hn w1;have HN:=zH (And.intro hn hr);clear hn hr hv;(go_wp2_with fail;repeat ((first|refine cZ ?_|refine cW ?_);go_wp2_with fail));exact xy (.float .f64 r) (.int .i64 (n:Int)) ev rfl ze ze ze zb zb zb ⟨⟨v,r,n,ev,rfl,HQ.out,Or.inl HN.out⟩,ym hg (yh w1 1 none)⟩
 ·obtain⟨r,hr,hf,-⟩:=zyp v hv hn;have hcv:=fun W=>run_convert_float_float (P:=Tryz.prog) W 60 51 .f32 .f64 v r zγC Tryz.underlying51 hf
  have HW:=zH (show yak v r from Or.inr ⟨hv,hn,hr,hf⟩);clear hn hr hv hf;(go_wp2_with fail;repeat ((first|refine cZ ?_|refine cW ?_);go_wp2_with fail));exact xy (.float .f64 r) (.int .i64 (n:Int)) ev rfl ze ze ze zb zb zb ⟨⟨v,r,n,ev,rfl,HQ.out,HW.out⟩,hg⟩
end
end Go.Proofs.YtnifedmhgncioaaGreatDoor
