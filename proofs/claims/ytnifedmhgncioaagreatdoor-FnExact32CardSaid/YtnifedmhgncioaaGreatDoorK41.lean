/- Lemmas that the claim's top text leans on. No condition of their own. -/
import Derived.Test.YtnifedmhgncioaaGreatDoorK32
import Derived.Test.YtnifedmhgncioaaGreatDoorK40
namespace Go.Proofs.YtnifedmhgncioaaGreatDoor
open Go.RowKit
set_option linter.unusedSimpArgs false
set_option linter.unusedVariables false
set_option maxHeartbeats 16000000
section
open Go.ChangeShapes Go.WideShapes Go.ChangeAt Go.RowKit
attribute [local go_sem] undef
set_option maxRecDepth 100000 in
theorem yt1 (T n:Nat) (more:Int) (w:World) (he:EnvP T w) (hn:n<4294967296) (hp1:-9223372036854775808<=more) (hp2:more<=9223372036854775807):
  Calls Tryz.prog 6 #[.int .u32 (n:Int),.int .i64 more] w fun e w'=>e=.returned (.bool true)/\w.grownBy w' none:=by
 have HK1:=zH (fun W=>za8 n W hn);have HE:=zH he;clear he;refine ye Tryz.func6 rfl (by rw[Tryz.ntmps6];simp) ?_;intro σ hσ;rw[Tryz.ntmps6];have s0:σ 0=.int .u32 (n:Int):=hσ 0 zi;have s1:σ 1=.int .i64 more:=hσ 1 zi;clear hσ;by_cases hf1:n%2147483648<2139095040
 case neg=>
  have hk:=yk4 hf1;generalize kn 2139095040 2147483648 n=k1 at *
  (go_wp2_with fail;repeat ((first|refine cZ ?_|refine cW ?_);go_wp2_with fail));refine (HK1.out _).mono ?_;rintro e w7 ⟨rfl,rfl⟩;(go_wp2_with fail;repeat ((first|refine cZ ?_|refine cW ?_);go_wp2_with fail));all_goals (try (go_wp2_with fail;repeat ((first|refine cZ ?_|refine cW ?_);go_wp2_with fail)))
  all_goals exact yl (.bool true) rfl ze zb ⟨rfl,yy w none⟩
 have hk1:kn 2139095040 2147483648 n=0:=zis rfl hf1;rw[hk1]at HK1;by_cases hmo:0<=more/\more<=1000
 case neg=>
  by_cases hml:more<0
  ·(go_wp2_with fail;repeat ((first|refine cZ ?_|refine cW ?_);go_wp2_with fail));refine (HK1.out _).mono ?_;rintro e w7 ⟨rfl,rfl⟩;(go_wp2_with fail;repeat ((first|refine cZ ?_|refine cW ?_);go_wp2_with fail));all_goals (try (go_wp2_with fail;repeat ((first|refine cZ ?_|refine cW ?_);go_wp2_with fail)))
   all_goals exact yl (.bool true) rfl ze zb ⟨rfl,yy w none⟩
  ·have hml':decide (more<0)=false:=by simpa using hml
   have hmu:1000<more:=zd;(go_wp2_with fail;repeat ((first|refine cZ ?_|refine cW ?_);go_wp2_with fail));refine (HK1.out _).mono ?_;rintro e w7 ⟨rfl,rfl⟩;(go_wp2_with fail;repeat ((first|refine cZ ?_|refine cW ?_);go_wp2_with fail));all_goals (try (go_wp2_with fail;repeat ((first|refine cZ ?_|refine cW ?_);go_wp2_with fail)))
   all_goals exact yl (.bool true) rfl ze zb ⟨rfl,yy w none⟩
 obtain⟨k,rfl⟩:∃ k:Nat,more=(k:Int):=⟨more.toNat,zd⟩;have hk1000:k<=1000:=zd;have hml':decide ((k:Int)<0)=false:=zi;have hmu':decide (1000<(k:Int))=false:=zh;have hmu'':decide (1000<k)=false:=zh;have hx:=zsr n hf1;have hm:=zsl n;obtain⟨a1,d1,r1,q1,z1,l1,l2,hl,hmore⟩:=yt0 n (zun n hf1) hm (by unfold e32 at hx;omega) (by unfold e32 at hx;omega);have hq:zen 8 23 n=m32 n:=rfl;have hq2:zor 8 23 (-127) n-23=e32 n:=rfl;rw[hq,hq2]at q1;rw[hq]at z1;rw[yt6 n hn]at r1;have v1:=yt7 (m32 n) (e32 n) (Nat.lt_of_lt_of_le hm ze) zd zd;have pw:∀ k:Nat,(2:Nat)^k≠0:=fun k=>Nat.ne_of_gt (Nat.two_pow_pos k)
 have HC1:=zH (fun u1 u2 u3 u4 W k1 k2 k3 k4=>yt5 (decide (2147483648<=n)) (decide (2147483648<=n)) u1 u2 u3 u4 a1 d1 (m32 n*2^(e32 n).toNat) (2^(-e32 n).toNat) W k1 k2 k3 k4 l1 l2 v1.1 v1.2 (by rw[z1];constructor;(intro h;rw[h,Nat.zero_mul]);(intro h;rcases Nat.mul_eq_zero.1 h with h | h;exact h;exact absurd h (pw _))) (fun _=>rfl) q1);have hR1:=fun W=>zdx (xb n 102 149) W zd
 unfold zdt at hR1;rw[r1]at hR1;dsimp only at hR1;have HR1:=zH hR1;have HV2:=zH (fun W=>zev n (m32 n) (e32 n) W hn hk1 (zv8 n) (zwp n));obtain⟨r,-,hr1,hr2⟩:=Wd.widen_back n hn hf1;obtain⟨hl8,hp64⟩:=ex32 n hn (zun n hf1);have HF1:=zH (fun T W he=>ytd T n r 149 102 W he hn hr1 hr2 zd zd zd zd);have hF2:=fun T W he=>ytd T n r (149+(k:Int)) 102 W he hn hr1 hr2 zd zd zd zd
 rw[hmore k]at hF2;have HF2:=zH hF2;have HZ:=zH (fun W=>ycb k W zd);have hzl:(List.replicate k (48:UInt8)).length<=1000:=zh;have HPF:=zH (fun W (h:EnvP T W)=>zhd T (xb n 102 149) W h hl8);have HR0:=zH hp64;have HWI:=zH (fun W=>zkx n hn W);have HS:=zH (fun W=>zx9 (zyo n) (zyo n) W (zzf n hn) (zzf n hn) (Or.inl rfl));clear hl8 hp64 hr1 hr2;generalize xb n 102 149=t1 at *
 generalize List.replicate k (48:UInt8)=zs at *
 generalize decide (2147483648<=n)=g1 at *
 generalize m32 n*2^(e32 n).toNat=a2 at *
 generalize 2^(-e32 n).toNat=d2 at *
 have c1:=yb0 t1 zs;have y1:(⟨t1.toArray⟩:ByteArray).size=t1.length:=zm;have y2:(⟨zs.toArray⟩:ByteArray).size=zs.length:=zm;generalize t1.length=j1 at *
 generalize zs.length=j2 at *
 clear hR1 hF2 r1 q1 z1 l1 l2 v1 pw hk1 hmore hq hq2 hx hm hmo;(go_wp2_with fail;repeat ((first|refine cZ ?_|refine cW ?_);go_wp2_with fail));refine (HK1.out _).mono ?_;rintro e w7 ⟨rfl,rfl⟩;(go_wp2_with fail;repeat ((first|refine cZ ?_|refine cW ?_);go_wp2_with fail));refine (HF1.out T _ HE.out.env).mono ?_;rintro e w1 ⟨rfl,hg1⟩;have HW1:=zH hg1;clear hg1 HF1;go_wp2_with fail;refine (HR1.out _).mono ?_;rintro e w2 ⟨hg2,vr,rfl,vn,vd,rfl,hvn,hvd⟩;obtain⟨an1,cn1,rfl⟩:=hvn.len;obtain⟨ad1,cd1,rfl⟩:=hvd.len;generalize (yf a1).length=Ln1 at *
 generalize (yf d1).length=Ld1 at *
 obtain⟨w3,hw3⟩:∃ w',World.alloc w2 (.cells #[.bool g1,.slice an1 Ln1 cn1,.slice ad1 Ld1 cd1] 41)=w':=⟨_,rfl⟩;obtain⟨A1,hA1⟩:=zX ((World.heap w2).size);have hS:=RatS.new (w:=w2) (g:=g1) hvn hvd 41;have hal:=World.grownBy_alloc w2 (.cells #[.bool g1,.slice an1 Ln1 cn1,.slice ad1 Ld1 cd1] 41) none;rw[hw3]at hS hal;rw[hA1]at hS;have hstep:=ya hg2 hal;have Hw3:=zH hw3;have HA1:=zH hA1;have HW3:=zH (ya HW1.out hstep);have HS1:=zH hS;clear hS hal hstep hg2 hw3 hA1 hvn hvd;go_upto_region 5 with fail;rw[Hw3.out,HA1.out];clear Hw3 HA1;go_wp2_with fail;refine (HV2.out _).mono ?_;rintro e w4 ⟨vn,vd,rfl,hvn,hvd,hg4⟩;obtain⟨an2,cn2,rfl⟩:=hvn.len;obtain⟨ad2,cd2,rfl⟩:=hvd.len;generalize (yf a2).length=Ln2 at *
 generalize (yf d2).length=Ld2 at *
 obtain⟨w5,hw5⟩:∃ w',World.alloc w4 (.cells #[.bool g1,.slice an2 Ln2 cn2,.slice ad2 Ld2 cd2] 41)=w':=⟨_,rfl⟩;obtain⟨A2,hA2⟩:=zX ((World.heap w4).size);have hS:=RatS.new (w:=w4) (g:=g1) hvn hvd 41;have hal:=World.grownBy_alloc w4 (.cells #[.bool g1,.slice an2 Ln2 cn2,.slice ad2 Ld2 cd2] 41) none;rw[hw5]at hS hal;rw[hA2]at hS;have hstep:=ya hg4 hal;have Hw5:=zH hw5;have HA2:=zH hA2;have HW5:=zH (ya HW3.out hstep);replace HS1:=zH (HS1.out.grown hstep);have HS2:=zH hS;clear hS hal hstep hg4 hw5 hA2 hvn hvd;go_upto_region 6 with fail;rw[Hw5.out,HA2.out];clear Hw5 HA2;(go_wp2_with fail;repeat ((first|refine cZ ?_|refine cW ?_);go_wp2_with fail));refine (HPF.out _ (HE.out.grown HW5.out (fun _ e=>zL))).mono ?_;rintro e w6 ⟨⟨v0,k0,rfl,hp0⟩,hg6⟩;obtain⟨rfl,hv0⟩:=HR0.out _ _ hp0;rw[hv0,show zp1 t1 0=[.int .i64 0,.string ⟨#[]⟩,.string ⟨#[]⟩] from rfl];have HG6:=zH (ya HW5.out hg6);obtain⟨B0,hB0⟩:=zX w6.heap.size;obtain⟨w8,hw8⟩:∃ w',w6.alloc (.cells #[.int .i64 0,.string ⟨#[]⟩,.string ⟨#[]⟩] 25)=w':=⟨_,rfl⟩;have g8:w6.grownBy w8 none:=by rw[<-hw8];exact World.grownBy_alloc w6 _ none
 have HW8:=zH (ya HG6.out g8);have HO0:=zH (show Row w8 B0 [.int .i64 0,.string ⟨#[]⟩,.string ⟨#[]⟩] by rw[<-hw8,<-hB0];exact Row.new w6 _ _);replace HS1:=zH (HS1.out.grown (ya hg6 g8));replace HS2:=zH (HS2.out.grown (ya hg6 g8));have HWW:=zH hw8;have HBE:=zH hB0;clear hw8 hB0 hg6 g8 hp0 hv0 HPF HR0;go_upto_region 7 with fail;rw[HWW.out,HBE.out];clear HWW HBE;obtain⟨k10,k11,k12⟩:=HS1.out.cells;obtain⟨k20,k21,k22⟩:=HS2.out.cells;clear HR1 HV2 HK1;(go_wp2_with fail;repeat ((first|refine cZ ?_|refine cW ?_);go_wp2_with fail));refine (HC1.out _ _ _ _ _ HS1.out.2.1 HS1.out.2.2 HS2.out.2.1 HS2.out.2.2).mono ?_;rintro e w11 ⟨rfl,hg11⟩;have HW11:=zH (ya HW8.out hg11);have HO0:=zH (HO0.out.grown hg11 zi);clear hg11 k10 k11 k12 k20 k21 k22;(go_wp2_with fail;repeat ((first|refine cZ ?_|refine cW ?_);go_wp2_with fail));refine (HF2.out T _ (HE.out.grown HW11.out zi).env).mono ?_;rintro e w12 ⟨rfl,hg12⟩;have HW12:=zH (ya HW11.out hg12);have HO0:=zH (HO0.out.grown hg12 zi);clear hg12;(go_wp2_with fail;repeat ((first|refine cZ ?_|refine cW ?_);go_wp2_with fail));refine (HZ.out _).mono ?_;rintro e w13 ⟨rfl,hg13⟩;have HW13:=zH (ya HW12.out hg13);have HO0:=zH (HO0.out.grown hg13 zi);clear hg13;(go_wp2_with fail;repeat ((first|refine cZ ?_|refine cW ?_);go_wp2_with fail));refine (HWI.out _).mono ?_;rintro e w14 ⟨rfl,hg14⟩;have HW14:=zH (ya HW13.out hg14);have HO0:=zH (HO0.out.grown hg14 zi);clear hg14;(go_wp2_with fail;repeat ((first|refine cZ ?_|refine cW ?_);go_wp2_with fail));refine (HS.out _).mono ?_;rintro e w9 ⟨rfl,rfl⟩;have o0:w14.cell? ⟨B0,0,none⟩=some (.int .i64 0):=HO0.out.cell 0;(go_wp2_with fail;repeat ((first|refine cZ ?_|refine cW ?_);go_wp2_with fail));exact yl (.bool true) rfl ze zb ⟨rfl,HW14.out⟩
end
end Go.Proofs.YtnifedmhgncioaaGreatDoor
