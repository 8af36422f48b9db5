/- Lemmas that the claim's top text leans on. No condition of their own. -/
import Derived.Test.YtnifedmhgncioaaGreatDoorJ43
import Derived.Test.YtnifedmhgncioaaGreatDoorJ45
namespace Go.Proofs.YtnifedmhgncioaaGreatDoor
open Go.RowKit
set_option linter.unusedSimpArgs false
set_option linter.unusedVariables false
set_option maxHeartbeats 16000000
section
attribute [local go_sem] undef
set_option maxRecDepth 100000 in
theorem yxk (T:Nat) (re im:Nat) (f:Int) (hre:re<4294967296) (him:im<4294967296) (hf1:0<=f) (hf2:f<=255) (w:World) (he:EnvP T w):
  Calls Tryz.prog 4 #[.int .u32 (re:Int),.int .u32 (im:Int),.int .u8 f] w fun e w'=>e=.returned (.bool true)/\w.grownBy w' none:=by
 have HE:=zH he;clear he;refine ye Tryz.func4 rfl (by rw[Tryz.ntmps4];simp) ?_;intro σ hσ;rw[Tryz.ntmps4];have s0:σ 0=.int .u32 (re:Int):=hσ 0 zi;have s1:σ 1=.int .u32 (im:Int):=hσ 1 zi;have s2:σ 2=.int .u8 f:=hσ 2 zi;clear hσ;have HG0:=zH (World.grownBy.refl w none);have HK:=zH (fun W=>za8 re W hre);by_cases hfr:re%2147483648<2139095040
 case neg=>
  have hk:=yk4 hfr;generalize kn 2139095040 2147483648 re=k1 at *
  (go_wp2_with fail;repeat ((first|refine cZ ?_|refine cW ?_);go_wp2_with fail));refine (HK.out _).mono ?_;rintro e w7 ⟨rfl,rfl⟩;(go_wp2_with fail;repeat ((first|refine cZ ?_|refine cW ?_);go_wp2_with fail));all_goals (try (go_wp2_with fail;repeat ((first|refine cZ ?_|refine cW ?_);go_wp2_with fail)))
  all_goals exact yl (.bool true) rfl ze zb ⟨rfl,HG0.out⟩
 rw[zis rfl hfr]at HK;(go_wp2_with fail;repeat ((first|refine cZ ?_|refine cW ?_);go_wp2_with fail));refine (HK.out _).mono ?_;rintro e w7 ⟨rfl,rfl⟩;clear HK;have HK:=zH (fun W=>za8 im W him);by_cases hfi:im%2147483648<2139095040
 case neg=>
  have hk:=yk4 hfi;generalize kn 2139095040 2147483648 im=k1 at *
  (go_wp2_with fail;repeat ((first|refine cZ ?_|refine cW ?_);go_wp2_with fail));refine (HK.out _).mono ?_;rintro e w7 ⟨rfl,rfl⟩;(go_wp2_with fail;repeat ((first|refine cZ ?_|refine cW ?_);go_wp2_with fail));all_goals (try (go_wp2_with fail;repeat ((first|refine cZ ?_|refine cW ?_);go_wp2_with fail)))
  all_goals exact yl (.bool true) rfl ze zb ⟨rfl,HG0.out⟩
 rw[zis rfl hfi]at HK;(go_wp2_with fail;repeat ((first|refine cZ ?_|refine cW ?_);go_wp2_with fail));refine (HK.out _).mono ?_;rintro e w7 ⟨rfl,rfl⟩;clear HK;have HI:=zH (fun W=>ylx f W);obtain⟨i,hi⟩:=zX (ylg f);rw[hi]at HI;(go_wp2_with fail;repeat ((first|refine cZ ?_|refine cW ?_);go_wp2_with fail));refine (HI.out _).mono ?_;rintro e w7 ⟨rfl,rfl⟩;cases i
 case false=>
  (go_wp2_with fail;repeat ((first|refine cZ ?_|refine cW ?_);go_wp2_with fail));exact yl (.bool true) rfl ze zb ⟨rfl,HG0.out⟩
 have hok:=yrk hi;have hi0:=hi;clear hi HI;obtain⟨hl,hrt⟩:=crt32 re im hre him hfr hfi f hi0;obtain⟨r,-,hr1,hr2⟩:=Wd.widen_back re hre hfr;obtain⟨q,-,hq1,hq2⟩:=Wd.widen_back im him hfi;have HF:=zH (fun W (h:Env T W)=>yxr T re im r q (-1) f W h hre him hr1 hr2 hq1 hq2 hf1 hf2 ze ze);obtain⟨A,hA⟩:=zX (ylc (wi re f (-1)) (wi im f (-1)));rw[hA]at HF hl hrt;have HP0:=zH (fun W (h:EnvP T W)=>ygv T A W h hl);have HR0:=zH hrt;have HWI:=zH (fun W=>zkx re hre W);have HWJ:=zH (fun W=>zkx im him W);have HS:=zH (fun W=>zx9 (zyo re) (zyo re) W (zzf re hre) (zzf re hre) (Or.inl rfl));have HS2:=zH (fun W=>zx9 (zyo im) (zyo im) W (zzf im him) (zzf im him) (Or.inl rfl));clear hA hl hrt hok hfr hfi hi0;(go_wp2_with fail;repeat ((first|refine cZ ?_|refine cW ?_);go_wp2_with fail));refine (HF.out _ (HE.out.grown HG0.out (fun _ e=>zL)).env).mono ?_;rintro e w1 ⟨rfl,hg⟩;have HG1:=zH (ym HG0.out hg);clear hg HF;(go_wp2_with fail;repeat ((first|refine cZ ?_|refine cW ?_);go_wp2_with fail));refine (HP0.out _ (HE.out.grown HG1.out (fun _ e=>zL))).mono ?_;rintro e w2 ⟨⟨v0,y0,k0,rfl,hp0⟩,hg2⟩;obtain⟨hv0,hy0,rfl⟩:=HR0.out _ _ _ hp0;rw[hv0,hy0,show yfw yf0 A 0=[.int .i64 0,.string ⟨#[]⟩,.string ⟨#[]⟩] from rfl];have HG2:=zH (ym HG1.out hg2);obtain⟨B0,hB0⟩:=zX w2.heap.size;obtain⟨w3,hw3⟩:∃ w',w2.alloc (.cells #[.int .i64 0,.string ⟨#[]⟩,.string ⟨#[]⟩] 25)=w':=⟨_,rfl⟩;have g3:w2.grownBy w3 none:=by rw[<-hw3];exact World.grownBy_alloc w2 _ none
 have HG3:=zH (ym HG2.out g3);have HO0:=zH (show Row w3 B0 [.int .i64 0,.string ⟨#[]⟩,.string ⟨#[]⟩] by rw[<-hw3,<-hB0];exact Row.new w2 _ _);have HW3:=zH hw3;have HBE0:=zH hB0;clear hw3 hB0 hg2 g3 hp0 hv0 hy0;go_upto_region 4 with fail;rw[HW3.out,HBE0.out];clear HW3 HBE0;(go_wp2_with fail;repeat ((first|refine cZ ?_|refine cW ?_);go_wp2_with fail));refine (HWI.out _).mono ?_;rintro e w4 ⟨rfl,hg⟩;have HG4:=zH (ym HG3.out hg);have HO0:=zH (HO0.out.grown hg zi);clear hg;(go_wp2_with fail;repeat ((first|refine cZ ?_|refine cW ?_);go_wp2_with fail));refine (HS.out _).mono ?_;rintro e w9 ⟨rfl,rfl⟩;(go_wp2_with fail;repeat ((first|refine cZ ?_|refine cW ?_);go_wp2_with fail));refine (HWJ.out _).mono ?_;rintro e w5 ⟨rfl,hg⟩;have HG5:=zH (ym HG4.out hg);have HO0:=zH (HO0.out.grown hg zi);clear hg;(go_wp2_with fail;repeat ((first|refine cZ ?_|refine cW ?_);go_wp2_with fail));refine (HS2.out _).mono ?_;rintro e w9 ⟨rfl,rfl⟩;have o0:w5.cell? ⟨B0,0,none⟩=some (.int .i64 0):=HO0.out.cell 0;(go_wp2_with fail;repeat ((first|refine cZ ?_|refine cW ?_);go_wp2_with fail));exact yl (.bool true) rfl ze zb ⟨rfl,HG5.out⟩
end
end Go.Proofs.YtnifedmhgncioaaGreatDoor
