/- Lemmas that the claim's top text leans on. No condition of their own. -/
import Derived.Test.YtnifedmhgncioaaGreatDoorK32
namespace Go.Proofs.YtnifedmhgncioaaGreatDoor
open Go.RowKit
set_option linter.unusedSimpArgs false
set_option linter.unusedVariables false
set_option maxHeartbeats 16000000
section
attribute [local go_sem] undef
set_option maxRecDepth 100000 in
theorem ytp (T:Nat) (n:Nat) (hn:n<4294967296) (w:World) (he:EnvP T w):
  Calls Tryz.prog 8 #[.int .u32 (n:Int)] w fun e w'=>e=.returned (.bool true)/\w.grownBy w' none:=by
 have HE:=zH he;clear he;refine ye Tryz.func8 rfl (by rw[Tryz.ntmps8];simp) ?_;intro σ hσ;rw[Tryz.ntmps8];have s0:σ 0=.int .u32 (n:Int):=hσ 0 zi;clear hσ;have HG0:=zH (World.grownBy.refl w none);have HK:=zH (fun W=>za8 n W hn);by_cases hfin:n%2147483648<2139095040
 case neg=>
  have hk:=yk4 hfin;generalize kn 2139095040 2147483648 n=k1 at *
  (go_wp2_with fail;repeat ((first|refine cZ ?_|refine cW ?_);go_wp2_with fail));refine (HK.out _).mono ?_;rintro e w7 ⟨rfl,rfl⟩;(go_wp2_with fail;repeat ((first|refine cZ ?_|refine cW ?_);go_wp2_with fail));all_goals (try (go_wp2_with fail;repeat ((first|refine cZ ?_|refine cW ?_);go_wp2_with fail)))
  all_goals exact yl (.bool true) rfl ze zb ⟨rfl,HG0.out⟩
 rw[zis rfl hfin]at HK;(go_wp2_with fail;repeat ((first|refine cZ ?_|refine cW ?_);go_wp2_with fail));refine (HK.out _).mono ?_;rintro e w7 ⟨rfl,rfl⟩;clear HK;have hE:n / 2^23%2^8≠2^8-1:=ytk n hfin;obtain⟨e1,e2,e3,e4,e5⟩:=ytl n hn hE;have hsh:IntKind.u32.wrap ((n:Int)*2)=((n*2%4294967296:Nat):Int):=zαV;by_cases hz:n*2%4294967296=0
 ·rw[hz]at hsh;clear e1 e2 e3 e4 e5 hz;(go_wp2_with fail;repeat ((first|refine cZ ?_|refine cW ?_);go_wp2_with fail));exact yl (.bool true) rfl ze zb ⟨rfl,HG0.out⟩
 have h0:zen 8 23 n≠0:=by
  intro h;rw[h]at e1 e3;rcases e3 with g | g
  ·exact absurd g ze
  ·rw[g]at e1;have:n%2147483648=0:=by rw[<-e1];decide
   omega
 obtain⟨m2,hm2⟩:=zX (n*2%4294967296);rw[hm2]at hsh hz;have hz1:((m2:Int)==0)=false:=zf;have hz2:(m2==0)=false:=by rw[beq_eq_false_iff_ne];exact hz
 clear hm2;obtain⟨m1,m2'⟩:=yo1 8 23 (-127) 40 (-189) n hE e2 e3 h0;obtain⟨hl,-⟩:=rt32 n hn hE 101 (Or.inl rfl);have hsf:=fun c (hc:shN 8 23 (-127) 40 (-189) n=c) (h2:2<=c)=>sf32 n hn hE h0 c hc h2
 obtain⟨c,hc⟩:=zX (shN 8 23 (-127) 40 (-189) n);have hc20:c<=20:=by rw[<-hc];exact yph 8 23 (-127) 40 (-189) n e2 h0
 rw[hc]at m1 m2';have hsf:=hsf c hc;obtain⟨r,-,hr1,hr2⟩:=Wd.widen_back n hn hfin;have HF:=zH (fun (q:Int) W (h:Env T W) (hq1:-9223372036854775808<=q) (hq2:q<=50000)=>ytd T n r q 101 W h hn hr1 hr2 ze ze hq1 hq2);have HWI:=zH (fun W=>zkx n hn W);have hwl:=zzf n hn;have HF1:=zH (fun W (h:Env T W)=>HF.out (-1) W h ze ze);obtain⟨A,hA⟩:=zX (xb n 101 (-1));have m1:yka (xb n 101 (-1))=c:=m1;rw[hA]at HF1 hl m1;have HMD:=zH (fun W=>ynt A W zd);rw[m1]at HMD;have HFS:=zH hsf;clear e1 e2 e3 e4 e5 hA hl m1 hc hE h0 hsf;(go_wp2_with fail;repeat ((first|refine cZ ?_|refine cW ?_);go_wp2_with fail));refine (HF1.out _ (HE.out.grown HG0.out (fun _ e=>zL)).env).mono ?_;rintro e w1 ⟨rfl,hg⟩;have HG1:=zH (ym HG0.out hg);clear hg HF1;have hc1:¬(c:Int)<1:=zd;have hc1':decide ((c:Int)<1)=false:=zh;have hc1'':decide (c<1)=false:=zh;by_cases hc2:c=1
 ·subst hc2;(go_wp2_with fail;repeat ((first|refine cZ ?_|refine cW ?_);go_wp2_with fail));refine (HMD.out _).mono ?_;rintro e w7 ⟨rfl,rfl⟩;(go_wp2_with fail;repeat ((first|refine cZ ?_|refine cW ?_);go_wp2_with fail));exact yl (.bool true) rfl ze zb ⟨rfl,HG1.out⟩
 have hc3:((c:Int)==1)=false:=zf;have hc3':(c==1)=false:=by rw[beq_eq_false_iff_ne];exact hc2
 obtain⟨hl2,hns⟩:=HFS.out zd;have hw:IntKind.i64.wrap ((c:Int)-2)=(c:Int)-2:=IntWalk.i64_in _ zd;have HF2:=zH (fun W (h:Env T W)=>HF.out ((c:Int)-2) W h zd zd);obtain⟨A2,hA2⟩:=zX (xb n 101 ((c:Int)-2));rw[hA2]at HF2 hl2 hns;have HP:=zH (fun W (h:EnvP T W)=>zxw T A2 W h hl2);have HNS:=zH hns;clear hA2 hl2 hns HFS HF hc2;(go_wp2_with fail;repeat ((first|refine cZ ?_|refine cW ?_);go_wp2_with fail));refine (HMD.out _).mono ?_;rintro e w7 ⟨rfl,rfl⟩;(go_wp2_with fail;repeat ((first|refine cZ ?_|refine cW ?_);go_wp2_with fail));refine (HF2.out _ (HE.out.grown HG1.out (fun _ e=>zL)).env).mono ?_;rintro e w2 ⟨rfl,hg⟩;have HG2:=zH (ym HG1.out hg);clear hg HF2;(go_wp2_with fail;repeat ((first|refine cZ ?_|refine cW ?_);go_wp2_with fail));refine (HP.out _ (HE.out.grown HG2.out (fun _ e=>zL))).mono ?_;rintro e w3 ⟨⟨v,k,rfl,hp⟩,hg⟩;have hvn:=HNS.out v k hp;obtain⟨fb,fc,hfa⟩:=yp5 A2 k;rw[hfa];have HG3:=zH (ym HG2.out hg);clear hg HP hp hfa HNS;obtain⟨x,hx⟩:=zX (zyo n);rw[hx]at HWI hvn;have hv1:((v:Int)==(x:Int))=false:=zf;have hv2:((v:Int) != (x:Int))=true:=by rw[bne,hv1];rfl
 clear hvn hx;(go_wp2_with fail;repeat ((first|refine cZ ?_|refine cW ?_);go_wp2_with fail));refine (HWI.out _).mono ?_;rintro e w4 ⟨rfl,hg⟩;have HG4:=zH (ym (ym HG3.out (World.grownBy_alloc _ _ none)) hg);clear hg;(go_wp2_with fail;repeat ((first|refine cZ ?_|refine cW ?_);go_wp2_with fail));exact yl (.bool true) rfl ze zb ⟨rfl,HG4.out⟩
end
end Go.Proofs.YtnifedmhgncioaaGreatDoor
