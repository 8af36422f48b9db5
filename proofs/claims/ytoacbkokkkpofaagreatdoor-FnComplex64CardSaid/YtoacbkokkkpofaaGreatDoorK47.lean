/- Lemmas that the claim's top text leans on. No condition of their own. -/
import Derived.Test.YtoacbkokkkpofaaGreatDoorK44
import Derived.Test.YtoacbkokkkpofaaGreatDoorK46
namespace Go.Proofs.YtoacbkokkkpofaaGreatDoor
open Go.RowKit
set_option linter.unusedSimpArgs false
set_option linter.unusedVariables false
set_option maxHeartbeats 16000000
section
attribute [local go_sem] undef
set_option maxRecDepth 100000 in
theorem yf5 (T:Nat) (s:List UInt8) (w:World) (he:EnvP T w) (hbig:s.length<9223372036854775808):
  Calls Tryz.prog 3 #[.string ⟨s.toArray⟩] w fun e w'=>e=.returned (.bool true)/\w.grownBy w' none:=by
 have HE:=zH he;clear he;refine ye Tryz.func3 rfl (by rw[Tryz.ntmps3];simp) ?_;intro σ hσ;rw[Tryz.ntmps3];have s0:σ 0=.string ⟨s.toArray⟩:=hσ 0 zi;clear hσ;have hsz:(⟨s.toArray⟩:ByteArray).size=s.length:=zm;by_cases hs:s.length<=800
 case neg=>
  obtain⟨N,hN⟩:=zX s.length;rw[hN]at hsz hs hbig;have h1:decide ((800:Int)<(N:Int))=true:=zh;have h2:decide (800<N)=true:=zh;have h3:(800:Int)<(N:Int):=zd;clear hN hs;(go_wp2_with fail;repeat ((first|refine cZ ?_|refine cW ?_);go_wp2_with fail));exact yl (.bool true) rfl ze zb ⟨rfl,World.grownBy.refl w none⟩
 have HCT:=zH (fun W=>qq s W hs);have HCC:=zH (fun W=>yf1 s W hs);have HPB:=zH (fun W=>ygp s W hs);have HPF:=zH (fun W (h:EnvP T W)=>ygi T s W h hs);have HSL:=zH hs;obtain⟨re,im,ok,hv,hra,hrb,-,-⟩:=ygx s;rw[hv]at HCT;have HIT:=zH (fun W=>zit 971 1024 rfl rfl re W zd);have HIU:=zH (fun W=>zit 971 1024 rfl rfl im W zd);clear hv hra hrb;obtain⟨N,hN⟩:=zX s.length;rw[hN]at hsz hs hbig;have h1:decide ((800:Int)<(N:Int))=false:=zh;have h2:decide (800<N)=false:=zh;have h3:¬(800:Int)<(N:Int):=zd;clear hN hs;(go_wp2_with fail;repeat ((first|refine cZ ?_|refine cW ?_);go_wp2_with fail));refine (HCT.out _).mono ?_;rintro e w1 ⟨rfl,hg1⟩;have HG1:=zH hg1;clear hg1 HCT h1 h2 h3;(go_wp2_with fail;repeat ((first|refine cZ ?_|refine cW ?_);go_wp2_with fail));refine (HCC.out _).mono ?_;rintro e w2 ⟨⟨c,rfl,hc⟩,hg2⟩;have HG2:=zH (ym HG1.out hg2);have HNT:=zH hc;clear hg2 HCC hc;cases c
 case true=>
  (go_wp2_with fail;repeat ((first|refine cZ ?_|refine cW ?_);go_wp2_with fail));exact yl (.bool true) rfl ze zb ⟨rfl,HG2.out⟩
 (go_wp2_with fail;repeat ((first|refine cZ ?_|refine cW ?_);go_wp2_with fail));refine (HIT.out _).mono ?_;rintro e w3 ⟨⟨c,rfl,-⟩,hg3⟩;have HG3:=zH (ym HG2.out hg3);clear hg3 HIT;cases c
 case true=>
  (go_wp2_with fail;repeat ((first|refine cZ ?_|refine cW ?_);go_wp2_with fail));exact yl (.bool true) rfl ze zb ⟨rfl,HG3.out⟩
 (go_wp2_with fail;repeat ((first|refine cZ ?_|refine cW ?_);go_wp2_with fail));refine (HIU.out _).mono ?_;rintro e w4 ⟨⟨c,rfl,-⟩,hg4⟩;have HG4:=zH (ym HG3.out hg4);clear hg4 HIU;cases c
 case true=>
  (go_wp2_with fail;repeat ((first|refine cZ ?_|refine cW ?_);go_wp2_with fail));exact yl (.bool true) rfl ze zb ⟨rfl,HG4.out⟩
 (go_wp2_with fail;repeat ((first|refine cZ ?_|refine cW ?_);go_wp2_with fail));refine (HPB.out _).mono ?_;rintro e w5 ⟨⟨X,Y,K,rfl,hcb⟩,hg5⟩;have HG5:=zH (ym HG4.out hg5);have HCB:=zH hcb;clear hg5 HPB hcb;(go_wp2_with fail;repeat ((first|refine cZ ?_|refine cW ?_);go_wp2_with fail));refine (HPF.out _ (HE.out.grown HG5.out (fun _ e=>zL))).mono ?_;rintro e w6 ⟨⟨x,y,k,rfl,hp⟩,hg6⟩;have HG6:=zH (ym HG5.out hg6);obtain⟨hxl,hyl,hk,hx,hy,hXl,hYl⟩:=yh5 hp HSL.out (HNT.out (by first | rfl | simp)) HCB.out;subst hk;clear hg6 HPF hp HCB;obtain⟨fb,fc,hfa,hf0⟩:∃ fb fc:ByteArray,yfw yf0 s k=[.int .i64 (k:Int),.string fb,.string fc]/\(((k:Int)=0/\fb=⟨#[]⟩/\fc=⟨#[]⟩)\/(k:Int)≠0)/\((k:Int)≠0->yf0=fb/\(⟨s.toArray⟩:ByteArray)=fc):=by
  unfold yfw;by_cases h:k=0
  ·subst h;exact⟨_,_,by rw[if_pos rfl];rfl,Or.inl ⟨rfl,rfl,rfl⟩,fun h=>absurd rfl h⟩
  ·exact⟨_,_,by rw[if_neg h],Or.inr zd,fun _=>⟨rfl,rfl⟩⟩
 have HAG:=zH (fun W=>zje (k:Int) fb fc W hf0.1 yf0 ⟨s.toArray⟩ hf0.2);have HSX:=zH (fun (h:k≠1) W=>ze6 x X W hxl hXl (hx h));have HSY:=zH (fun (h:k≠1) W=>ze6 y Y W hyl hYl (hy h));rw[hfa];obtain⟨B,hB⟩:=zX w6.heap.size;obtain⟨w7,hw7⟩:=zX (w6.alloc (.cells #[.int .i64 (k:Int),.string fb,.string fc] 30));have HG7:=zH (show w.grownBy w7 none by rw[<-hw7];exact ym HG6.out (World.grownBy_alloc w6 _ none));have HO:=zH (show Row w7 B [.int .i64 (k:Int),.string fb,.string fc] by rw[<-hw7,<-hB];exact Row.new w6 _ _);have HW7:=zH hw7;have HBE:=zH hB;clear hw7 hB hfa hf0 hx hy hxl hyl hXl hYl;go_upto_region 8 with fail;rw[HW7.out,HBE.out];have o0:=HO.out.cell 0;have o1:=HO.out.cell 1;have o2:=HO.out.cell 2;simp only[List.getElem?_cons_zero,List.getElem?_cons_succ]at o0 o1 o2;(go_wp2_with fail;repeat ((first|refine cZ ?_|refine cW ?_);go_wp2_with fail));refine (HAG.out _).mono ?_;rintro e w8 ⟨rfl,hg8⟩;have HG8:=zH (ym HG7.out hg8);clear hg8 HAG o0 o1 o2;by_cases hk1:k=1
 ·subst hk1;(go_wp2_with fail;repeat ((first|refine cZ ?_|refine cW ?_);go_wp2_with fail));exact yl (.bool true) rfl ze zb ⟨rfl,HG8.out⟩
 ·have HS:=zH (HSX.out hk1 w8);have HS2:=zH (HSY.out hk1 w8);have e1:((k:Int)==1)=false:=zf;have e2:(k==1)=false:=by rw[beq_eq_false_iff_ne];exact hk1
  clear hk1 HSX HSY;(go_wp2_with fail;repeat ((first|refine cZ ?_|refine cW ?_);go_wp2_with fail));refine HS.out.mono ?_;rintro e w9 ⟨rfl,rfl⟩;(go_wp2_with fail;repeat ((first|refine cZ ?_|refine cW ?_);go_wp2_with fail));refine HS2.out.mono ?_;rintro e w9 ⟨rfl,rfl⟩;(go_wp2_with fail;repeat ((first|refine cZ ?_|refine cW ?_);go_wp2_with fail));exact yl (.bool true) rfl ze zb ⟨rfl,HG8.out⟩
end
section
attribute [local go_sem] undef
set_option maxRecDepth 100000 in
theorem yge (T:Nat) (s:List UInt8) (w:World) (he:EnvP T w) (hbig:s.length<9223372036854775808):
  Calls Tryz.prog 4 #[.string ⟨s.toArray⟩] w fun e w'=>e=.returned (.bool true)/\w.grownBy w' none:=by
 have HE:=zH he;clear he;refine ye Tryz.func4 rfl (by rw[Tryz.ntmps4];simp) ?_;intro σ hσ;rw[Tryz.ntmps4];have s0:σ 0=.string ⟨s.toArray⟩:=hσ 0 zi;clear hσ;have hsz:(⟨s.toArray⟩:ByteArray).size=s.length:=zm;by_cases hs:s.length<=800
 case neg=>
  obtain⟨N,hN⟩:=zX s.length;rw[hN]at hsz hs hbig;have h1:decide ((800:Int)<(N:Int))=true:=zh;have h2:decide (800<N)=true:=zh;have h3:(800:Int)<(N:Int):=zd;clear hN hs;(go_wp2_with fail;repeat ((first|refine cZ ?_|refine cW ?_);go_wp2_with fail));exact yl (.bool true) rfl ze zb ⟨rfl,World.grownBy.refl w none⟩
 have HCT:=zH (fun W=>qq s W hs);have HCC:=zH (fun W=>yf1 s W hs);have HPB:=zH (fun W=>ygq s W hs);have HPF:=zH (fun W (h:EnvP T W)=>ygv T s W h hs);have HSL:=zH hs;obtain⟨re,im,ok,hv,hra,hrb,-,-⟩:=ygx s;rw[hv]at HCT;have HIT:=zH (fun W=>zx5 104 128 rfl rfl re W zd);have HIU:=zH (fun W=>zx5 104 128 rfl rfl im W zd);clear hv hra hrb;obtain⟨N,hN⟩:=zX s.length;rw[hN]at hsz hs hbig;have h1:decide ((800:Int)<(N:Int))=false:=zh;have h2:decide (800<N)=false:=zh;have h3:¬(800:Int)<(N:Int):=zd;clear hN hs;(go_wp2_with fail;repeat ((first|refine cZ ?_|refine cW ?_);go_wp2_with fail));refine (HCT.out _).mono ?_;rintro e w1 ⟨rfl,hg1⟩;have HG1:=zH hg1;clear hg1 HCT h1 h2 h3;(go_wp2_with fail;repeat ((first|refine cZ ?_|refine cW ?_);go_wp2_with fail));refine (HCC.out _).mono ?_;rintro e w2 ⟨⟨c,rfl,hc⟩,hg2⟩;have HG2:=zH (ym HG1.out hg2);have HNT:=zH hc;clear hg2 HCC hc;cases c
 case true=>
  (go_wp2_with fail;repeat ((first|refine cZ ?_|refine cW ?_);go_wp2_with fail));exact yl (.bool true) rfl ze zb ⟨rfl,HG2.out⟩
 (go_wp2_with fail;repeat ((first|refine cZ ?_|refine cW ?_);go_wp2_with fail));refine (HIT.out _).mono ?_;rintro e w3 ⟨⟨c,rfl,-⟩,hg3⟩;have HG3:=zH (ym HG2.out hg3);clear hg3 HIT;cases c
 case true=>
  (go_wp2_with fail;repeat ((first|refine cZ ?_|refine cW ?_);go_wp2_with fail));exact yl (.bool true) rfl ze zb ⟨rfl,HG3.out⟩
 (go_wp2_with fail;repeat ((first|refine cZ ?_|refine cW ?_);go_wp2_with fail));refine (HIU.out _).mono ?_;rintro e w4 ⟨⟨c,rfl,-⟩,hg4⟩;have HG4:=zH (ym HG3.out hg4);clear hg4 HIU;cases c
 case true=>
  (go_wp2_with fail;repeat ((first|refine cZ ?_|refine cW ?_);go_wp2_with fail));exact yl (.bool true) rfl ze zb ⟨rfl,HG4.out⟩
 (go_wp2_with fail;repeat ((first|refine cZ ?_|refine cW ?_);go_wp2_with fail));refine (HPB.out _).mono ?_;rintro e w5 ⟨⟨X,Y,K,rfl,hcb⟩,hg5⟩;have HG5:=zH (ym HG4.out hg5);have HCB:=zH hcb;clear hg5 HPB hcb;(go_wp2_with fail;repeat ((first|refine cZ ?_|refine cW ?_);go_wp2_with fail));refine (HPF.out _ (HE.out.grown HG5.out (fun _ e=>zL))).mono ?_;rintro e w6 ⟨⟨x,y,k,rfl,hp⟩,hg6⟩;have HG6:=zH (ym HG5.out hg6);obtain⟨hxl,hyl,hk,hx,hy,hXl,hYl⟩:=yh6 hp HSL.out (HNT.out (by first | rfl | simp)) HCB.out;subst hk;clear hg6 HPF hp HCB;obtain⟨fb,fc,hfa,hf0⟩:∃ fb fc:ByteArray,yfw yf0 s k=[.int .i64 (k:Int),.string fb,.string fc]/\(((k:Int)=0/\fb=⟨#[]⟩/\fc=⟨#[]⟩)\/(k:Int)≠0)/\((k:Int)≠0->yf0=fb/\(⟨s.toArray⟩:ByteArray)=fc):=by
  unfold yfw;by_cases h:k=0
  ·subst h;exact⟨_,_,by rw[if_pos rfl];rfl,Or.inl ⟨rfl,rfl,rfl⟩,fun h=>absurd rfl h⟩
  ·exact⟨_,_,by rw[if_neg h],Or.inr zd,fun _=>⟨rfl,rfl⟩⟩
 have HAG:=zH (fun W=>zje (k:Int) fb fc W hf0.1 yf0 ⟨s.toArray⟩ hf0.2);have HSX:=zH (fun (h:k≠1) W=>ze6 x X W hxl hXl (hx h));have HSY:=zH (fun (h:k≠1) W=>ze6 y Y W hyl hYl (hy h));rw[hfa];obtain⟨B,hB⟩:=zX w6.heap.size;obtain⟨w7,hw7⟩:=zX (w6.alloc (.cells #[.int .i64 (k:Int),.string fb,.string fc] 30));have HG7:=zH (show w.grownBy w7 none by rw[<-hw7];exact ym HG6.out (World.grownBy_alloc w6 _ none));have HO:=zH (show Row w7 B [.int .i64 (k:Int),.string fb,.string fc] by rw[<-hw7,<-hB];exact Row.new w6 _ _);have HW7:=zH hw7;have HBE:=zH hB;clear hw7 hB hfa hf0 hx hy hxl hyl hXl hYl;go_upto_region 8 with fail;rw[HW7.out,HBE.out];have o0:=HO.out.cell 0;have o1:=HO.out.cell 1;have o2:=HO.out.cell 2;simp only[List.getElem?_cons_zero,List.getElem?_cons_succ]at o0 o1 o2;(go_wp2_with fail;repeat ((first|refine cZ ?_|refine cW ?_);go_wp2_with fail));refine (HAG.out _).mono ?_;rintro e w8 ⟨rfl,hg8⟩;have HG8:=zH (ym HG7.out hg8);clear hg8 HAG o0 o1 o2;by_cases hk1:k=1
 ·subst hk1;(go_wp2_with fail;repeat ((first|refine cZ ?_|refine cW ?_);go_wp2_with fail));exact yl (.bool true) rfl ze zb ⟨rfl,HG8.out⟩
 ·have HS:=zH (HSX.out hk1 w8);have HS2:=zH (HSY.out hk1 w8);have e1:((k:Int)==1)=false:=zf;have e2:(k==1)=false:=by rw[beq_eq_false_iff_ne];exact hk1
  clear hk1 HSX HSY;(go_wp2_with fail;repeat ((first|refine cZ ?_|refine cW ?_);go_wp2_with fail));refine HS.out.mono ?_;rintro e w9 ⟨rfl,rfl⟩;(go_wp2_with fail;repeat ((first|refine cZ ?_|refine cW ?_);go_wp2_with fail));refine HS2.out.mono ?_;rintro e w9 ⟨rfl,rfl⟩;(go_wp2_with fail;repeat ((first|refine cZ ?_|refine cW ?_);go_wp2_with fail));exact yl (.bool true) rfl ze zb ⟨rfl,HG8.out⟩
end
end Go.Proofs.YtoacbkokkkpofaaGreatDoor
