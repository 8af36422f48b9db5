/- Lemmas that the claim's top text leans on. No condition of their own. -/
import Derived.Test.YtocbeoomhlgnkaaGreatDoorK42
namespace Go.Proofs.YtocbeoomhlgnkaaGreatDoor
open Go.RowKit
set_option linter.unusedSimpArgs false
set_option linter.unusedVariables false
set_option maxHeartbeats 16000000
section
attribute [local go_sem] undef
theorem ybn:ul []=none:=by rfl
set_option maxRecDepth 100000 in
theorem ybi (T:Nat) (s:List UInt8) (w:World) (he:EnvP T w) (hs:s.length<=1048576):
  Calls Tryz.prog 9 #[.string ⟨s.toArray⟩] w fun e w'=>e=.returned (.bool true)/\w.grownBy w' none:=by
 have HE:=zH he;have HPL:=zH (fun W=>ya4 s W zd);clear he;refine ye Tryz.func9 rfl (by rw[Tryz.ntmps9];simp) ?_;intro σ hσ;rw[Tryz.ntmps9];have s0:σ 0=.string ⟨s.toArray⟩:=hσ 0 zi;clear hσ;have HS:=zH hs;clear hs;(go_wp2_with fail;repeat ((first|refine cZ ?_|refine cW ?_);go_wp2_with fail));refine (HPL.out _).mono ?_;rintro e w1 ⟨hg1,g,a1,n1,c1,a2,n2,c2,b,rfl,hb⟩;obtain⟨w2,hw2⟩:∃ w',w1.alloc (.cells #[.bool g,.slice a1 n1 c1,.slice a2 n2 c2] 38)=w':=⟨_,rfl⟩;have HG2:=zH (show w.grownBy w2 none by rw[<-hw2];exact ym hg1 (World.grownBy_alloc w1 _ none));have HW2:=zH hw2;have HBB:=zH hb;clear hw2 hg1 hb HPL;go_upto_region 2 with fail;rw[HW2.out];clear HW2;cases b
 case false=>
  (go_wp2_with fail;repeat ((first|refine cZ ?_|refine cW ?_);go_wp2_with fail));exact yl (.bool true) rfl ze zb ⟨rfl,HG2.out⟩
 obtain⟨ng,na,nb,hrd⟩:∃ ng n d,RdNum s ng n d:=by
  obtain⟨ng,n,d,hr,-⟩:=HBB.out rfl;exact⟨ng,n,d,ybe hr⟩
 cases s with
 | nil=>obtain⟨-,t,ht,-⟩:=hrd;rw[ybn]at ht;cases ht
 | cons c r=>
 have HS2:=HS.out;rw[List.length_cons]at HS2;obtain⟨N,hN⟩:=zX r.length;have hsz:(⟨(c::r).toArray⟩:ByteArray).size=N+1:=by rw[<-hN];simp[ByteArray.size]
 obtain⟨q,hq⟩:=zX (c::r);have hidx:∀ h:0<(⟨q.toArray⟩:ByteArray).size,(⟨q.toArray⟩:ByteArray)[0]'h=c:=by subst hq;intro h;rfl
 have HQL:=zH (show q.length=N+1 by rw[<-hq,List.length_cons,hN]);rw[hq]at hsz s0;have HQQ:=zH hq;have HRD:=zH hrd;have HN:=zH hN;rw[hN]at HS2;have HS3:=zH HS2;clear hrd hN hq HBB HS HS2;by_cases h45:c=45
 ·have e45:(((c.toNat:Nat):Int)==45)=true:=by rw[h45];rfl
  clear h45;(go_wp2_with fail;repeat ((first|refine cZ ?_|refine cW ?_);go_wp2_with fail));exact yl (.bool true) rfl ze zb ⟨rfl,HG2.out⟩
 have e45:(((c.toNat:Nat):Int)==45)=false:=by
  rw[beq_eq_false_iff_ne];intro h;exact h45 (UInt8.toNat_inj.1 (by show c.toNat=45;omega))
 have H45:=zH h45;clear h45;by_cases h43:c=43
 ·have e43:(((c.toNat:Nat):Int)==43)=true:=by rw[h43];rfl
  clear h43;(go_wp2_with fail;repeat ((first|refine cZ ?_|refine cW ?_);go_wp2_with fail));exact yl (.bool true) rfl ze zb ⟨rfl,HG2.out⟩
 have e43:(((c.toNat:Nat):Int)==43)=false:=by
  rw[beq_eq_false_iff_ne];intro h;exact h43 (UInt8.toNat_inj.1 (by show c.toNat=43;omega))
 have H43:=zH h43;clear h43;by_cases hl:799<N+1
 ·have h1:(799:Int)<((N+1:Nat):Int):=zd;have h2:(799:Int)<(N:Int)+1:=zd;clear hl;(go_wp2_with fail;repeat ((first|refine cZ ?_|refine cW ?_);go_wp2_with fail));exact yl (.bool true) rfl ze zb ⟨rfl,HG2.out⟩
 have h1:¬(799:Int)<((N+1:Nat):Int):=zd;have h2:¬(799:Int)<(N:Int)+1:=zd;have cat:(⟨#[45]⟩:ByteArray)++⟨q.toArray⟩=⟨(45::q).toArray⟩:=yb0 [45] _;obtain⟨rfl,-,hmm⟩:=HRD.out.signs H43.out H45.out;rw[HQQ.out]at hmm;have HMM:=zH hmm;have HRD:=zH (show RdNum q false na nb by rw[<-HQQ.out];exact HRD.out);have hA:q.length<=800:=by have:=HQL.out;omega
 have hB:(45::q).length<=800:=by have:=HQL.out;simp only[List.length_cons];omega
 have HA64:=zH (fun W (h:EnvP T W)=>zhd T q W h hA);have HB64:=zH (fun W (h:EnvP T W)=>zhd T (45::q) W h hB);have HA32:=zH (fun W (h:EnvP T W)=>zxw T q W h hA);have HB32:=zH (fun W (h:EnvP T W)=>zxw T (45::q) W h hB);have HM64:=zH (fun v k (h:PaQ64 q v k) W=>zyt 64 q (zdy q) (zig q) v W h.lt (zrc h).2.2 (fun hk=>by
  obtain⟨h1,h2,-⟩:=zrc h;rcases h2 zd with h3 | ⟨h3,-⟩
  ·exact Or.inl h3
  ·exact Or.inr (ya3 h3)) (fun W=>zc0 q W zd))
 have HM32:=zH (fun v k (h:PaQw q v k) W=>zyt 32 q (zxy q) (zya q) v W h.lt (zyh h).2.2 (fun hk=>by
  obtain⟨h1,h2,-⟩:=zyh h;rcases h2 zd with h3 | ⟨h3,-⟩
  ·exact Or.inl h3
  ·exact Or.inr (ya3 h3)) (fun W=>zxu q W zd))
 clear H45 H43 hl HN HS3 hA hB hmm HQQ HQL;(go_wp2_with fail;repeat ((first|refine cZ ?_|refine cW ?_);go_wp2_with fail));refine (HA64.out _ (HE.out.grown HG2.out (fun _ e=>zL))).mono ?_;rintro e w3 ⟨⟨v0,k0,rfl,hp0⟩,hg3⟩;have HQ0:=zH hp0;obtain⟨fb0,fc0,hfa⟩:=ya2 q k0;rw[hfa];have HG3:=zH (ym HG2.out hg3);obtain⟨B0,hB0⟩:=zX w3.heap.size;obtain⟨w4,hw4⟩:∃ w',w3.alloc (.cells #[.int .i64 (k0:Int),.string fb0,.string fc0] 30)=w':=⟨_,rfl⟩;have g4:w3.grownBy w4 none:=zβg;have HG4:=zH (ym HG3.out g4);have HO0:=zH (show Row w4 B0 [.int .i64 (k0:Int),.string fb0,.string fc0] by rw[<-hw4,<-hB0];exact Row.new w3 _ _);have HW4:=zH hw4;have HBE0:=zH hB0;clear hw4 hB0 hg3 g4 hfa hp0 HA64;go_upto_region 5 with fail;rw[HW4.out,HBE0.out];clear HW4 HBE0;(go_wp2_with fail;repeat ((first|refine cZ ?_|refine cW ?_);go_wp2_with fail));refine (HB64.out _ (HE.out.grown HG4.out (fun _ e=>zL))).mono ?_;rintro e w5 ⟨⟨v1,k1,rfl,hp1⟩,hg5⟩;have HQ1:=zH hp1;obtain⟨fb1,fc1,hfa⟩:=ya2 (45::q) k1;rw[hfa];have HG5:=zH (ym HG4.out hg5);obtain⟨B1,hB1⟩:=zX w5.heap.size;obtain⟨w6,hw6⟩:∃ w',w5.alloc (.cells #[.int .i64 (k1:Int),.string fb1,.string fc1] 30)=w':=⟨_,rfl⟩;have g6:w5.grownBy w6 none:=zβf;have HG6:=zH (ym HG5.out g6);have HO1:=zH (show Row w6 B1 [.int .i64 (k1:Int),.string fb1,.string fc1] by rw[<-hw6,<-hB1];exact Row.new w5 _ _);have HO0:=zH (HO0.out.grown (ym hg5 g6) zi);have HW6:=zH hw6;have HBE1:=zH hB1;clear hw6 hB1 hg5 g6 hfa hp1 HB64;go_upto_region 6 with fail;rw[HW6.out,HBE1.out];clear HW6 HBE1;(go_wp2_with fail;repeat ((first|refine cZ ?_|refine cW ?_);go_wp2_with fail));refine (HA32.out _ (HE.out.grown HG6.out (fun _ e=>zL))).mono ?_;rintro e w7 ⟨⟨v2,k2,rfl,hp2⟩,hg7⟩;have HQ2:=zH hp2;obtain⟨fb2,fc2,hfa⟩:=ya2 q k2;rw[hfa];have HG7:=zH (ym HG6.out hg7);obtain⟨B2,hB2⟩:=zX w7.heap.size;obtain⟨w8,hw8⟩:∃ w',w7.alloc (.cells #[.int .i64 (k2:Int),.string fb2,.string fc2] 30)=w':=⟨_,rfl⟩;have g8:w7.grownBy w8 none:=zβh;have HG8:=zH (ym HG7.out g8);have HO2:=zH (show Row w8 B2 [.int .i64 (k2:Int),.string fb2,.string fc2] by rw[<-hw8,<-hB2];exact Row.new w7 _ _);have HO0:=zH (HO0.out.grown (ym hg7 g8) zi);have HO1:=zH (HO1.out.grown (ym hg7 g8) zi);have HW8:=zH hw8;have HBE2:=zH hB2;clear hw8 hB2 hg7 g8 hfa hp2 HA32;go_upto_region 7 with fail;rw[HW8.out,HBE2.out];clear HW8 HBE2;(go_wp2_with fail;repeat ((first|refine cZ ?_|refine cW ?_);go_wp2_with fail));refine (HB32.out _ (HE.out.grown HG8.out (fun _ e=>zL))).mono ?_;rintro e w9 ⟨⟨v3,k3,rfl,hp3⟩,hg9⟩;have HQ3:=zH hp3;obtain⟨fb3,fc3,hfa⟩:=ya2 (45::q) k3;rw[hfa];have HG9:=zH (ym HG8.out hg9);obtain⟨B3,hB3⟩:=zX w9.heap.size;obtain⟨w10,hw10⟩:∃ w',w9.alloc (.cells #[.int .i64 (k3:Int),.string fb3,.string fc3] 30)=w':=⟨_,rfl⟩;have g10:w9.grownBy w10 none:=by rw[<-hw10];exact World.grownBy_alloc w9 _ none
 have HG10:=zH (ym HG9.out g10);have HO3:=zH (show Row w10 B3 [.int .i64 (k3:Int),.string fb3,.string fc3] by rw[<-hw10,<-hB3];exact Row.new w9 _ _);have HO0:=zH (HO0.out.grown (ym hg9 g10) zi);have HO1:=zH (HO1.out.grown (ym hg9 g10) zi);have HO2:=zH (HO2.out.grown (ym hg9 g10) zi);have HW10:=zH hw10;have HBE3:=zH hB3;clear hw10 hB3 hg9 g10 hfa hp3 HB32;go_upto_region 8 with fail;rw[HW10.out,HBE3.out];clear HW10 HBE3;obtain⟨rfl,hx0,hy0⟩:=ybz HRD.out HMM.out HQ0.out HQ1.out;obtain⟨rfl,hx2,hy2⟩:=yb2 HRD.out HMM.out HQ2.out HQ3.out;have HC0:=zH (HM64.out _ _ HQ0.out);have HC2:=zH (HM32.out _ _ HQ2.out);have xr0:=ybj v0 hx0;have xr2:=ybj v2 hx2;rw[<-hy0]at xr0;rw[<-hy2]at xr2;have HSF0:=zH (fun W=>zx9 v1 v1 W HQ1.out.lt HQ1.out.lt (Or.inl rfl));have HSF2:=zH (fun W=>zx9 v3 v3 W HQ3.out.lt HQ3.out.lt (Or.inl rfl));clear HQ0 HQ1 HQ2 HQ3 HM64 HM32 hx0 hx2 hy0 hy2 HRD HMM cat hsz h1 h2;have o0:=HO0.out.cell 0;simp only[List.getElem?_cons_zero,List.getElem?_cons_succ]at o0;have o1:=HO1.out.cell 0;simp only[List.getElem?_cons_zero,List.getElem?_cons_succ]at o1;have o2:=HO2.out.cell 0;simp only[List.getElem?_cons_zero,List.getElem?_cons_succ]at o2;have o3:=HO3.out.cell 0;simp only[List.getElem?_cons_zero,List.getElem?_cons_succ]at o3;(go_wp2_with fail;repeat ((first|refine cZ ?_|refine cW ?_);go_wp2_with fail));refine (HSF0.out _).mono ?_;rintro e w11 ⟨rfl,rfl⟩;(go_wp2_with fail;repeat ((first|refine cZ ?_|refine cW ?_);go_wp2_with fail));refine (HSF2.out _).mono ?_;rintro e w11 ⟨rfl,rfl⟩;(go_wp2_with fail;repeat ((first|refine cZ ?_|refine cW ?_);go_wp2_with fail));refine (HC0.out _).mono ?_;rintro e w11 ⟨rfl,hg11⟩;have HG11:=zH (ym HG10.out hg11);clear hg11 o0 o1 o2 o3;(go_wp2_with fail;repeat ((first|refine cZ ?_|refine cW ?_);go_wp2_with fail));refine (HC2.out _).mono ?_;rintro e w12 ⟨rfl,hg12⟩;have HG12:=zH (ym HG11.out hg12);clear hg12;(go_wp2_with fail;repeat ((first|refine cZ ?_|refine cW ?_);go_wp2_with fail));exact yl (.bool true) rfl ze zb ⟨rfl,HG12.out⟩
end
theorem yb1 {s s':List UInt8} {n1 n2:Bool} {a b c d v v' k k':Nat} (h1:RdNum s n1 a b) (h2:RdNum s' n2 c d) (p1:PaQ64 s v k) (p2:PaQ64 s' v' k'):
  ∃ X Y,X<9223372036854775808/\Y<9223372036854775808/\v=sgB n1+X/\v'=sgB n2+Y/\(zu6 n1 n2 a b c d<=0->ybc n1 X<=ybc n2 Y)/\(0<=zu6 n1 n2 a b c d->ybc n2 Y<=ybc n1 X):=by
 obtain⟨e1,-⟩:=h1.pa64 p1;obtain⟨e2,-⟩:=h2.pa64 p2;have l1:xd a b<=9218868437227405312:=ud 52 1023 9218868437227405312 a b h1.1 ze ze;have l2:xd c d<=9218868437227405312:=ud 52 1023 9218868437227405312 c d h2.1 ze ze;refine⟨xd a b,xd c d,zd,zd,e1,e2,?_⟩;refine yby n1 n2 a b c d _ _ (fun h=>?_) (fun h=>?_) (fun h=>?_) (fun h=>?_)
 ·exact ya5 52 1023 _ a b c d h1.1 h2.1 h ze ze
 ·exact ya5 52 1023 _ c d a b h2.1 h1.1 h ze ze
 ·rw[h];exact zai 52 1023 _ _ h1.1 ze ze
 ·rw[h];exact zai 52 1023 _ _ h2.1 ze ze 
theorem ybs (n:Bool) (x:Nat) (hx:x<=2139095040):zyo (sgC n+x)=sgB n+zyo x:=by
 cases n
 ·rw[show sgC false=0 from rfl,show sgB false=0 from rfl,Nat.zero_add,Nat.zero_add]
 ·exact ybf x hx
theorem yb5 {s s':List UInt8} {n1 n2:Bool} {a b c d v v' k k':Nat} (h1:RdNum s n1 a b) (h2:RdNum s' n2 c d) (p1:PaQw s v k) (p2:PaQw s' v' k'):
  ∃ X Y,X<9223372036854775808/\Y<9223372036854775808/\v=sgB n1+X/\v'=sgB n2+Y/\(zu6 n1 n2 a b c d<=0->ybc n1 X<=ybc n2 Y)/\(0<=zu6 n1 n2 a b c d->ybc n2 Y<=ybc n1 X):=by
 obtain⟨e1,-⟩:=h1.paw p1;obtain⟨e2,-⟩:=h2.paw p2;have l1:zxq a b<=2139095040:=ud 23 127 2139095040 a b h1.1 ze ze;have l2:zxq c d<=2139095040:=ud 23 127 2139095040 c d h2.1 ze ze;refine⟨zyo (zxq a b),zyo (zxq c d),ybq _ l1,ybq _ l2,e1.trans (ybs n1 _ l1),e2.trans (ybs n2 _ l2),?_⟩;refine yby n1 n2 a b c d _ _ (fun h=>?_) (fun h=>?_) (fun h=>?_) (fun h=>?_)
 ·exact ybk _ _ (ya5 23 127 _ a b c d h1.1 h2.1 h ze ze) l2
 ·exact ybk _ _ (ya5 23 127 _ c d a b h2.1 h1.1 h ze ze) l1
 ·rw[h,show zxq 0 b=0 from zai 23 127 _ _ h1.1 ze ze];exact ybr.1
 ·rw[h,show zxq 0 d=0 from zai 23 127 _ _ h2.1 ze ze];exact ybr.1
set_option maxRecDepth 100000 in
theorem ya7 (s:Bool) (X:Nat) (w:World) (hX:X<9223372036854775808):
  Calls Tryz.prog 23 #[.int .u64 ((sgB s+X:Nat):Int)] w fun e w'=>e=.returned (.int .i64 (ybc s X))/\w=w':=by
 refine ye Tryz.func23 rfl (by rw[Tryz.ntmps23];simp) ?_;intro σ hσ;rw[Tryz.ntmps23];obtain⟨n,hn⟩:=zX (sgB s+X);rw[hn]at hσ;have s0:σ 0=.int .u64 (n:Int):=hσ 0 zi;clear hσ;cases s
 case false=>
  rw[show sgB false=0 from rfl,Nat.zero_add]at hn;subst hn;have hd1:∀ [Inhabited Nat],(X:Int) / 9223372036854775808=0:=by intro _;omega
  have hd2:∀ [Inhabited Nat],(X:Int) / 2^63=0:=by intro _;rw[show ((2:Int)^63)=9223372036854775808 by decide];omega
  have hw:IntKind.i64.wrap (X:Int)=(X:Int):=IntWalk.i64_in _ zd;(go_wp2_with fail;repeat ((first|refine cZ ?_|refine cW ?_);go_wp2_with fail));exact yl (.int .i64 (X:Int)) rfl ze zb ⟨rfl,rfl⟩
 case true=>
  rw[show sgB true=9223372036854775808 from rfl]at hn;have hd1:∀ [Inhabited Nat],(n:Int) / 9223372036854775808=1:=by intro _;omega
  have hd2:∀ [Inhabited Nat],(n:Int) / 2^63=1:=by intro _;rw[show ((2:Int)^63)=9223372036854775808 by decide];omega
  have hand:bits .and .u64 (n:Int) 9223372036854775807=(X:Int):=by
   rw[show X=n%9223372036854775808 by omega];exact ybg n 63 9223372036854775807 ze zd zd
  have hw:IntKind.i64.wrap (X:Int)=(X:Int):=IntWalk.i64_in _ zd;have hw2:IntKind.i64.wrap (-(X:Int))=-(X:Int):=IntWalk.i64_in _ zd;clear hn;(go_wp2_with fail;repeat ((first|refine cZ ?_|refine cW ?_);go_wp2_with fail));exact yl (.int .i64 (-(X:Int))) rfl ze zb ⟨rfl,rfl⟩
section
attribute [local go_sem] undef
theorem zqr {s:List UInt8} (hs:s.length<=800) {ng:Bool} {n d:Nat} (h:zjy s=some (ng,n,d)):(yf n).length<=600/\(yf d).length<=600:=by
 unfold zjy at h;split at h
 ·cases h
 ·rename_i r hr;have hok:=ze9 hr;split at h
  ·cases h
  ·rename_i hk;obtain⟨hb,hd,hl,-,-⟩:=hok.2 (by simpa using hk);split at h
   ·cases h;exact⟨qo 0 0 ze zd,qo 1 0 ze zd⟩
   ·split at h
    ·cases h
    ·rename_i ho;cases h;obtain⟨h1,h2,-,-⟩:=ybv hb (by simpa using ho) hd zd;exact⟨h1,h2⟩
end
section
attribute [local go_sem] undef
set_option maxRecDepth 100000 in
theorem ya9 (T:Nat) (a b:List UInt8) (w:World) (he:EnvP T w) (ha:a.length<=1048576) (hb:b.length<=1048576):
  Calls Tryz.prog 6 #[.string ⟨a.toArray⟩,.string ⟨b.toArray⟩] w fun e w'=>e=.returned (.bool true)/\w.grownBy w' none:=by
 have HE:=zH he;have HPA:=zH (fun W=>ya4 a W zd);have HPB:=zH (fun W=>ya4 b W zd);have HLA:=zH ha;have HLB:=zH hb;clear he ha hb;refine ye Tryz.func6 rfl (by rw[Tryz.ntmps6];simp) ?_;intro σ hσ;rw[Tryz.ntmps6];have s0:σ 0=.string ⟨a.toArray⟩:=hσ 0 zi;have s1:σ 1=.string ⟨b.toArray⟩:=hσ 1 zi;clear hσ;have HG0:=zH (World.grownBy.refl w none);(go_wp2_with fail;repeat ((first|refine cZ ?_|refine cW ?_);go_wp2_with fail));refine (HPA.out _).mono ?_;rintro e w1 ⟨hg1,g0,x0,n0,c0,y0,m0,d0,ok0,rfl,hk0⟩;have HG1:=zH (ym HG0.out hg1);obtain⟨R0,hR0⟩:=zX w1.heap.size;obtain⟨w2,hw2⟩:∃ w',w1.alloc (.cells #[.bool g0,.slice x0 n0 c0,.slice y0 m0 d0] 38)=w':=⟨_,rfl⟩;have gr2:w1.grownBy w2 none:=zβj;have HG2:=zH (ym HG1.out gr2);have HK0:=zH (show ok0=true->∃ ng n d,zjy a=some (ng,n,d)/\g0=ng/\NatV w2 (.slice x0 n0 c0) n/\NatV w2 (.slice y0 m0 d0) d from fun h=>by
  obtain⟨ng,n,d,h1,vn,vd,h2,h3,h4⟩:=hk0 h;cases h2;exact⟨_,n,d,h1,rfl,h3.grown gr2,h4.grown gr2⟩)
 have HQ0:=zH (show Row w2 R0 [.bool g0,.slice x0 n0 c0,.slice y0 m0 d0] by rw[<-hw2,<-hR0];exact Row.new w1 _ _);have HW2:=zH hw2;have HR0:=zH hR0;clear hw2 hR0 hg1 gr2 hk0 HPA;go_upto_region 2 with fail;rw[HW2.out,HR0.out];clear HW2 HR0;(go_wp2_with fail;repeat ((first|refine cZ ?_|refine cW ?_);go_wp2_with fail));refine (HPB.out _).mono ?_;rintro e w3 ⟨hg3,g1,x1,n1,c1,y1,m1,d1,ok1,rfl,hk1⟩;have HG3:=zH (ym HG2.out hg3);obtain⟨R1,hR1⟩:=zX w3.heap.size;obtain⟨w4,hw4⟩:∃ w',w3.alloc (.cells #[.bool g1,.slice x1 n1 c1,.slice y1 m1 d1] 38)=w':=⟨_,rfl⟩;have gr4:w3.grownBy w4 none:=zβg;have HG4:=zH (ym HG3.out gr4);have HK1:=zH (show ok1=true->∃ ng n d,zjy b=some (ng,n,d)/\g1=ng/\NatV w4 (.slice x1 n1 c1) n/\NatV w4 (.slice y1 m1 d1) d from fun h=>by
  obtain⟨ng,n,d,h1,vn,vd,h2,h3,h4⟩:=hk1 h;cases h2;exact⟨_,n,d,h1,rfl,h3.grown gr4,h4.grown gr4⟩)
 have HQ1:=zH (show Row w4 R1 [.bool g1,.slice x1 n1 c1,.slice y1 m1 d1] by rw[<-hw4,<-hR1];exact Row.new w3 _ _);have HQ0:=zH (HQ0.out.grown (ym hg3 gr4) zi);have HS1:=zH (ym hg3 gr4);have HW4:=zH hw4;have HR1:=zH hR1;clear hw4 hR1 hg3 gr4 hk1 HPB;go_upto_region 3 with fail;rw[HW4.out,HR1.out];clear HW4 HR1;cases ok0
 case false=>
  (go_wp2_with fail;repeat ((first|refine cZ ?_|refine cW ?_);go_wp2_with fail));exact yl (.bool true) rfl ze zb ⟨rfl,HG4.out⟩
 cases ok1
 case false=>
  (go_wp2_with fail;repeat ((first|refine cZ ?_|refine cW ?_);go_wp2_with fail));exact yl (.bool true) rfl ze zb ⟨rfl,HG4.out⟩
 obtain⟨A,hA⟩:=zX a.length;obtain⟨B,hB⟩:=zX b.length;have zA:(⟨a.toArray⟩:ByteArray).size=A:=by rw[<-hA];simp[ByteArray.size]
 have zB:(⟨b.toArray⟩:ByteArray).size=B:=by rw[<-hB];simp[ByteArray.size]
 have HAA:=zH hA;have HBB:=zH hB;clear hA hB;by_cases hl:800<A
 ·have h1:decide ((800:Int)<(A:Int))=true:=zh;have h3:(800:Int)<(A:Int):=zd;(go_wp2_with fail;repeat ((first|refine cZ ?_|refine cW ?_);go_wp2_with fail));exact yl (.bool true) rfl ze zb ⟨rfl,HG4.out⟩
 have h1:decide ((800:Int)<(A:Int))=false:=zh;have h3:¬(800:Int)<(A:Int):=zd;by_cases hl2:800<B
 ·have h4:decide ((800:Int)<(B:Int))=true:=zh;have h5:(800:Int)<(B:Int):=zd;clear hl;(go_wp2_with fail;repeat ((first|refine cZ ?_|refine cW ?_);go_wp2_with fail));exact yl (.bool true) rfl ze zb ⟨rfl,HG4.out⟩
 have h4:decide ((800:Int)<(B:Int))=false:=zh;have h5:¬(800:Int)<(B:Int):=zd;have la:a.length<=800:=by have:=HAA.out;omega
 have lb:b.length<=800:=by have:=HBB.out;omega
 obtain⟨ng,na,da,hra,hg0,hna,hda⟩:=HK0.out rfl;obtain⟨nh,nb,db,hrb,hg1,hnb,hdb⟩:=HK1.out rfl;subst hg0 hg1;obtain⟨la1,la2⟩:=zqr la hra;obtain⟨lb1,lb2⟩:=zqr lb hrb;have HCR:=zH (fun (W:World) (hW:w4.grownBy W none)=>zl7 g0 g1 _ _ _ _ na da nb db W (hna.grown (ym HS1.out hW)) (hda.grown (ym HS1.out hW)) (hnb.grown hW) (hdb.grown hW) zd zd zd zd);have HRA:=zH (ybe hra);have HRB:=zH (ybe hrb);have HA64:=zH (fun W (h:EnvP T W)=>zhd T a W h la);have HB64:=zH (fun W (h:EnvP T W)=>zhd T b W h lb);have HMa:=zH (fun v k (h:PaQ64 a v k) W=>zyt 64 a (zdy a) (zig a) v W h.lt (zrc h).2.2 (fun hk=>by
  obtain⟨h1,h2,-⟩:=zrc h;rcases h2 zd with h3 | ⟨h3,-⟩
  ·exact Or.inl h3
  ·exact Or.inr (ya3 h3)) (fun W=>zc0 a W zd))
 have HMb:=zH (fun v k (h:PaQ64 b v k) W=>zyt 64 b (zdy b) (zig b) v W h.lt (zrc h).2.2 (fun hk=>by
  obtain⟨h1,h2,-⟩:=zrc h;rcases h2 zd with h3 | ⟨h3,-⟩
  ·exact Or.inl h3
  ·exact Or.inr (ya3 h3)) (fun W=>zc0 b W zd))
 clear HK0 HK1 HS1 HLA HLB hl hl2 la lb hra hrb hna hda hnb hdb la1 la2 lb1 lb2 HAA HBB;have HX4:=zH (World.grownBy.refl w4 none);(go_wp2_with fail;repeat ((first|refine cZ ?_|refine cW ?_);go_wp2_with fail));refine (HA64.out _ (HE.out.grown HG4.out (fun _ e=>zL))).mono ?_;rintro e w5 ⟨⟨v0,k0,rfl,hp0⟩,hg5⟩;have HP0:=zH hp0;obtain⟨fb0,fc0,hfa⟩:=ya2 a k0;rw[hfa];have HG5:=zH (ym HG4.out hg5);have HQ0:=zH (HQ0.out.grown hg5 zi);have HQ1:=zH (HQ1.out.grown hg5 zi);have HX5:=zH (ym HX4.out hg5);clear hg5 hfa hp0 HA64;obtain⟨B0,hB0⟩:=zX w5.heap.size;obtain⟨w6,hw6⟩:∃ w',w5.alloc (.cells #[.int .i64 (k0:Int),.string fb0,.string fc0] 30)=w':=⟨_,rfl⟩;have gr6:w5.grownBy w6 none:=zβf;have HG6:=zH (ym HG5.out gr6);have HX6:=zH (ym HX5.out gr6);have HQ0:=zH (HQ0.out.grown gr6 zi);have HQ1:=zH (HQ1.out.grown gr6 zi);have HW6:=zH hw6;have HB0:=zH hB0;clear hw6 hB0 gr6;go_upto_region 6 with fail;rw[HW6.out,HB0.out];clear HW6 HB0;(go_wp2_with fail;repeat ((first|refine cZ ?_|refine cW ?_);go_wp2_with fail));refine (HB64.out _ (HE.out.grown HG6.out (fun _ e=>zL))).mono ?_;rintro e w7 ⟨⟨v1,k1,rfl,hp1⟩,hg7⟩;have HP1:=zH hp1;obtain⟨fb1,fc1,hfa⟩:=ya2 b k1;rw[hfa];have HG7:=zH (ym HG6.out hg7);have HQ0:=zH (HQ0.out.grown hg7 zi);have HQ1:=zH (HQ1.out.grown hg7 zi);have HX7:=zH (ym HX6.out hg7);clear hg7 hfa hp1 HB64;obtain⟨B1,hB1⟩:=zX w7.heap.size;obtain⟨w8,hw8⟩:∃ w',w7.alloc (.cells #[.int .i64 (k1:Int),.string fb1,.string fc1] 30)=w':=⟨_,rfl⟩;have gr8:w7.grownBy w8 none:=zβh;have HG8:=zH (ym HG7.out gr8);have HX8:=zH (ym HX7.out gr8);have HQ0:=zH (HQ0.out.grown gr8 zi);have HQ1:=zH (HQ1.out.grown gr8 zi);have HW8:=zH hw8;have HB1:=zH hB1;clear hw8 hB1 gr8;go_upto_region 7 with fail;rw[HW8.out,HB1.out];clear HW8 HB1;obtain⟨X,Y,hX,hY,hv0,hv1,ho1,ho2⟩:=yb1 HRA.out HRB.out HP0.out HP1.out;have HOX:=zH (fun W=>ya7 g0 X W hX);have HOY:=zH (fun W=>ya7 g1 Y W hY);rw[<-hv0]at HOX;rw[<-hv1]at HOY;have HC0:=zH (HMa.out _ _ HP0.out);have HC2:=zH (HMb.out _ _ HP1.out);obtain⟨c,hc⟩:=zX (zu6 g0 g1 na da nb db);rw[hc]at HCR ho1 ho2;obtain⟨p,hp⟩:=zX (ybc g0 X);obtain⟨q,hq⟩:=zX (ybc g1 Y);rw[hp]at HOX ho1 ho2;rw[hq]at HOY ho1 ho2;have HO1:=zH ho1;have HO2:=zH ho2;clear ho1 ho2;clear hc hp hq hv0 hv1 hX hY HMa HMb HP0 HP1 HRA HRB;have r0:=HQ0.out.cell 0;have r1:=HQ0.out.cell 1;have r2:=HQ0.out.cell 2;have q0:=HQ1.out.cell 0;have q1:=HQ1.out.cell 1;have q2:=HQ1.out.cell 2;simp only[List.getElem?_cons_zero,List.getElem?_cons_succ]at r0 r1 r2 q0 q1 q2;(go_wp2_with fail;repeat ((first|refine cZ ?_|refine cW ?_);go_wp2_with fail));refine (HCR.out _ HX8.out).mono ?_;rintro e w9 ⟨rfl,hg9⟩;have HG9:=zH (ym HG8.out hg9);clear hg9 r0 r1 r2 q0 q1 q2 HCR;by_cases hc1:0<c
 ·have e1:decide (0<c)=true:=zh;have e2:decide (c<0)=false:=zh;have e3:¬c<0:=zd;have hle:q<=p:=HO2.out zd;have hled:decide (q<=p)=true:=zh;clear HO1 HO2;(go_wp2_with fail;repeat ((first|refine cZ ?_|refine cW ?_);go_wp2_with fail));refine (HOX.out _).mono ?_;rintro e w10 ⟨rfl,rfl⟩;(go_wp2_with fail;repeat ((first|refine cZ ?_|refine cW ?_);go_wp2_with fail));refine (HOY.out _).mono ?_;rintro e w10 ⟨rfl,rfl⟩;(go_wp2_with fail;repeat ((first|refine cZ ?_|refine cW ?_);go_wp2_with fail));refine (HC0.out _).mono ?_;rintro e w10 ⟨rfl,hg10⟩;have HG10:=zH (ym HG9.out hg10);clear hg10;(go_wp2_with fail;repeat ((first|refine cZ ?_|refine cW ?_);go_wp2_with fail));refine (HC2.out _).mono ?_;rintro e w11 ⟨rfl,hg11⟩;have HG11:=zH (ym HG10.out hg11);clear hg11;(go_wp2_with fail;repeat ((first|refine cZ ?_|refine cW ?_);go_wp2_with fail));exact yl (.bool true) rfl ze zb ⟨rfl,HG11.out⟩
 have e1:decide (0<c)=false:=zh;have hle:p<=q:=HO1.out zd;have hled:decide (p<=q)=true:=zh;by_cases hc2:c<0
 ·have e2:decide (c<0)=true:=zh;clear HO1 HO2;(go_wp2_with fail;repeat ((first|refine cZ ?_|refine cW ?_);go_wp2_with fail));refine (HOX.out _).mono ?_;rintro e w10 ⟨rfl,rfl⟩;(go_wp2_with fail;repeat ((first|refine cZ ?_|refine cW ?_);go_wp2_with fail));refine (HOY.out _).mono ?_;rintro e w10 ⟨rfl,rfl⟩;(go_wp2_with fail;repeat ((first|refine cZ ?_|refine cW ?_);go_wp2_with fail));refine (HC0.out _).mono ?_;rintro e w10 ⟨rfl,hg10⟩;have HG10:=zH (ym HG9.out hg10);clear hg10;(go_wp2_with fail;repeat ((first|refine cZ ?_|refine cW ?_);go_wp2_with fail));refine (HC2.out _).mono ?_;rintro e w11 ⟨rfl,hg11⟩;have HG11:=zH (ym HG10.out hg11);clear hg11;(go_wp2_with fail;repeat ((first|refine cZ ?_|refine cW ?_);go_wp2_with fail));exact yl (.bool true) rfl ze zb ⟨rfl,HG11.out⟩
 ·have e2:decide (c<0)=false:=zh;have hle2:q<=p:=HO2.out zd;have hled2:decide (q<=p)=true:=zh;clear HO1 HO2;(go_wp2_with fail;repeat ((first|refine cZ ?_|refine cW ?_);go_wp2_with fail));refine (HOX.out _).mono ?_;rintro e w10 ⟨rfl,rfl⟩;(go_wp2_with fail;repeat ((first|refine cZ ?_|refine cW ?_);go_wp2_with fail));refine (HOY.out _).mono ?_;rintro e w10 ⟨rfl,rfl⟩;(go_wp2_with fail;repeat ((first|refine cZ ?_|refine cW ?_);go_wp2_with fail));refine (HOX.out _).mono ?_;rintro e w10 ⟨rfl,rfl⟩;(go_wp2_with fail;repeat ((first|refine cZ ?_|refine cW ?_);go_wp2_with fail));refine (HOY.out _).mono ?_;rintro e w10 ⟨rfl,rfl⟩;(go_wp2_with fail;repeat ((first|refine cZ ?_|refine cW ?_);go_wp2_with fail));refine (HC0.out _).mono ?_;rintro e w10 ⟨rfl,hg10⟩;have HG10:=zH (ym HG9.out hg10);clear hg10;(go_wp2_with fail;repeat ((first|refine cZ ?_|refine cW ?_);go_wp2_with fail));refine (HC2.out _).mono ?_;rintro e w11 ⟨rfl,hg11⟩;have HG11:=zH (ym HG10.out hg11);clear hg11;(go_wp2_with fail;repeat ((first|refine cZ ?_|refine cW ?_);go_wp2_with fail));exact yl (.bool true) rfl ze zb ⟨rfl,HG11.out⟩
end
section
attribute [local go_sem] undef
set_option maxRecDepth 100000 in
theorem yba (T:Nat) (a b:List UInt8) (w:World) (he:EnvP T w) (ha:a.length<=1048576) (hb:b.length<=1048576):
  Calls Tryz.prog 5 #[.string ⟨a.toArray⟩,.string ⟨b.toArray⟩] w fun e w'=>e=.returned (.bool true)/\w.grownBy w' none:=by
 have HE:=zH he;have HPA:=zH (fun W=>ya4 a W zd);have HPB:=zH (fun W=>ya4 b W zd);have HLA:=zH ha;have HLB:=zH hb;clear he ha hb;refine ye Tryz.func5 rfl (by rw[Tryz.ntmps5];simp) ?_;intro σ hσ;rw[Tryz.ntmps5];have s0:σ 0=.string ⟨a.toArray⟩:=hσ 0 zi;have s1:σ 1=.string ⟨b.toArray⟩:=hσ 1 zi;clear hσ;have HG0:=zH (World.grownBy.refl w none);(go_wp2_with fail;repeat ((first|refine cZ ?_|refine cW ?_);go_wp2_with fail));refine (HPA.out _).mono ?_;rintro e w1 ⟨hg1,g0,x0,n0,c0,y0,m0,d0,ok0,rfl,hk0⟩;have HG1:=zH (ym HG0.out hg1);obtain⟨R0,hR0⟩:=zX w1.heap.size;obtain⟨w2,hw2⟩:∃ w',w1.alloc (.cells #[.bool g0,.slice x0 n0 c0,.slice y0 m0 d0] 38)=w':=⟨_,rfl⟩;have gr2:w1.grownBy w2 none:=zβj;have HG2:=zH (ym HG1.out gr2);have HK0:=zH (show ok0=true->∃ ng n d,zjy a=some (ng,n,d)/\g0=ng/\NatV w2 (.slice x0 n0 c0) n/\NatV w2 (.slice y0 m0 d0) d from fun h=>by
  obtain⟨ng,n,d,h1,vn,vd,h2,h3,h4⟩:=hk0 h;cases h2;exact⟨_,n,d,h1,rfl,h3.grown gr2,h4.grown gr2⟩)
 have HQ0:=zH (show Row w2 R0 [.bool g0,.slice x0 n0 c0,.slice y0 m0 d0] by rw[<-hw2,<-hR0];exact Row.new w1 _ _);have HW2:=zH hw2;have HR0:=zH hR0;clear hw2 hR0 hg1 gr2 hk0 HPA;go_upto_region 2 with fail;rw[HW2.out,HR0.out];clear HW2 HR0;(go_wp2_with fail;repeat ((first|refine cZ ?_|refine cW ?_);go_wp2_with fail));refine (HPB.out _).mono ?_;rintro e w3 ⟨hg3,g1,x1,n1,c1,y1,m1,d1,ok1,rfl,hk1⟩;have HG3:=zH (ym HG2.out hg3);obtain⟨R1,hR1⟩:=zX w3.heap.size;obtain⟨w4,hw4⟩:∃ w',w3.alloc (.cells #[.bool g1,.slice x1 n1 c1,.slice y1 m1 d1] 38)=w':=⟨_,rfl⟩;have gr4:w3.grownBy w4 none:=zβg;have HG4:=zH (ym HG3.out gr4);have HK1:=zH (show ok1=true->∃ ng n d,zjy b=some (ng,n,d)/\g1=ng/\NatV w4 (.slice x1 n1 c1) n/\NatV w4 (.slice y1 m1 d1) d from fun h=>by
  obtain⟨ng,n,d,h1,vn,vd,h2,h3,h4⟩:=hk1 h;cases h2;exact⟨_,n,d,h1,rfl,h3.grown gr4,h4.grown gr4⟩)
 have HQ1:=zH (show Row w4 R1 [.bool g1,.slice x1 n1 c1,.slice y1 m1 d1] by rw[<-hw4,<-hR1];exact Row.new w3 _ _);have HQ0:=zH (HQ0.out.grown (ym hg3 gr4) zi);have HS1:=zH (ym hg3 gr4);have HW4:=zH hw4;have HR1:=zH hR1;clear hw4 hR1 hg3 gr4 hk1 HPB;go_upto_region 3 with fail;rw[HW4.out,HR1.out];clear HW4 HR1;cases ok0
 case false=>
  (go_wp2_with fail;repeat ((first|refine cZ ?_|refine cW ?_);go_wp2_with fail));exact yl (.bool true) rfl ze zb ⟨rfl,HG4.out⟩
 cases ok1
 case false=>
  (go_wp2_with fail;repeat ((first|refine cZ ?_|refine cW ?_);go_wp2_with fail));exact yl (.bool true) rfl ze zb ⟨rfl,HG4.out⟩
 obtain⟨A,hA⟩:=zX a.length;obtain⟨B,hB⟩:=zX b.length;have zA:(⟨a.toArray⟩:ByteArray).size=A:=by rw[<-hA];simp[ByteArray.size]
 have zB:(⟨b.toArray⟩:ByteArray).size=B:=by rw[<-hB];simp[ByteArray.size]
 have HAA:=zH hA;have HBB:=zH hB;clear hA hB;by_cases hl:800<A
 ·have h1:decide ((800:Int)<(A:Int))=true:=zh;have h3:(800:Int)<(A:Int):=zd;(go_wp2_with fail;repeat ((first|refine cZ ?_|refine cW ?_);go_wp2_with fail));exact yl (.bool true) rfl ze zb ⟨rfl,HG4.out⟩
 have h1:decide ((800:Int)<(A:Int))=false:=zh;have h3:¬(800:Int)<(A:Int):=zd;by_cases hl2:800<B
 ·have h4:decide ((800:Int)<(B:Int))=true:=zh;have h5:(800:Int)<(B:Int):=zd;clear hl;(go_wp2_with fail;repeat ((first|refine cZ ?_|refine cW ?_);go_wp2_with fail));exact yl (.bool true) rfl ze zb ⟨rfl,HG4.out⟩
 have h4:decide ((800:Int)<(B:Int))=false:=zh;have h5:¬(800:Int)<(B:Int):=zd;have la:a.length<=800:=by have:=HAA.out;omega
 have lb:b.length<=800:=by have:=HBB.out;omega
 obtain⟨ng,na,da,hra,hg0,hna,hda⟩:=HK0.out rfl;obtain⟨nh,nb,db,hrb,hg1,hnb,hdb⟩:=HK1.out rfl;subst hg0 hg1;obtain⟨la1,la2⟩:=zqr la hra;obtain⟨lb1,lb2⟩:=zqr lb hrb;have HCR:=zH (fun (W:World) (hW:w4.grownBy W none)=>zl7 g0 g1 _ _ _ _ na da nb db W (hna.grown (ym HS1.out hW)) (hda.grown (ym HS1.out hW)) (hnb.grown hW) (hdb.grown hW) zd zd zd zd);have HRA:=zH (ybe hra);have HRB:=zH (ybe hrb);have HA64:=zH (fun W (h:EnvP T W)=>zxw T a W h la);have HB64:=zH (fun W (h:EnvP T W)=>zxw T b W h lb);have HMa:=zH (fun v k (h:PaQw a v k) W=>zyt 32 a (zxy a) (zya a) v W h.lt (zyh h).2.2 (fun hk=>by
  obtain⟨h1,h2,-⟩:=zyh h;rcases h2 zd with h3 | ⟨h3,-⟩
  ·exact Or.inl h3
  ·exact Or.inr (ya3 h3)) (fun W=>zxu a W zd))
 have HMb:=zH (fun v k (h:PaQw b v k) W=>zyt 32 b (zxy b) (zya b) v W h.lt (zyh h).2.2 (fun hk=>by
  obtain⟨h1,h2,-⟩:=zyh h;rcases h2 zd with h3 | ⟨h3,-⟩
  ·exact Or.inl h3
  ·exact Or.inr (ya3 h3)) (fun W=>zxu b W zd))
 clear HK0 HK1 HS1 HLA HLB hl hl2 la lb hra hrb hna hda hnb hdb la1 la2 lb1 lb2 HAA HBB;have HX4:=zH (World.grownBy.refl w4 none);(go_wp2_with fail;repeat ((first|refine cZ ?_|refine cW ?_);go_wp2_with fail));refine (HA64.out _ (HE.out.grown HG4.out (fun _ e=>zL))).mono ?_;rintro e w5 ⟨⟨v0,k0,rfl,hp0⟩,hg5⟩;have HP0:=zH hp0;obtain⟨fb0,fc0,hfa⟩:=ya2 a k0;rw[hfa];have HG5:=zH (ym HG4.out hg5);have HQ0:=zH (HQ0.out.grown hg5 zi);have HQ1:=zH (HQ1.out.grown hg5 zi);have HX5:=zH (ym HX4.out hg5);clear hg5 hfa hp0 HA64;obtain⟨B0,hB0⟩:=zX w5.heap.size;obtain⟨w6,hw6⟩:∃ w',w5.alloc (.cells #[.int .i64 (k0:Int),.string fb0,.string fc0] 30)=w':=⟨_,rfl⟩;have gr6:w5.grownBy w6 none:=zβf;have HG6:=zH (ym HG5.out gr6);have HX6:=zH (ym HX5.out gr6);have HQ0:=zH (HQ0.out.grown gr6 zi);have HQ1:=zH (HQ1.out.grown gr6 zi);have HW6:=zH hw6;have HB0:=zH hB0;clear hw6 hB0 gr6;go_upto_region 6 with fail;rw[HW6.out,HB0.out];clear HW6 HB0;(go_wp2_with fail;repeat ((first|refine cZ ?_|refine cW ?_);go_wp2_with fail));refine (HB64.out _ (HE.out.grown HG6.out (fun _ e=>zL))).mono ?_;rintro e w7 ⟨⟨v1,k1,rfl,hp1⟩,hg7⟩;have HP1:=zH hp1;obtain⟨fb1,fc1,hfa⟩:=ya2 b k1;rw[hfa];have HG7:=zH (ym HG6.out hg7);have HQ0:=zH (HQ0.out.grown hg7 zi);have HQ1:=zH (HQ1.out.grown hg7 zi);have HX7:=zH (ym HX6.out hg7);clear hg7 hfa hp1 HB64;obtain⟨B1,hB1⟩:=zX w7.heap.size;obtain⟨w8,hw8⟩:∃ w',w7.alloc (.cells #[.int .i64 (k1:Int),.string fb1,.string fc1] 30)=w':=⟨_,rfl⟩;have gr8:w7.grownBy w8 none:=zβh;have HG8:=zH (ym HG7.out gr8);have HX8:=zH (ym HX7.out gr8);have HQ0:=zH (HQ0.out.grown gr8 zi);have HQ1:=zH (HQ1.out.grown gr8 zi);have HW8:=zH hw8;have HB1:=zH hB1;clear hw8 hB1 gr8;go_upto_region 7 with fail;rw[HW8.out,HB1.out];clear HW8 HB1;obtain⟨X,Y,hX,hY,hv0,hv1,ho1,ho2⟩:=yb5 HRA.out HRB.out HP0.out HP1.out;have HOX:=zH (fun W=>ya7 g0 X W hX);have HOY:=zH (fun W=>ya7 g1 Y W hY);rw[<-hv0]at HOX;rw[<-hv1]at HOY;have HC0:=zH (HMa.out _ _ HP0.out);have HC2:=zH (HMb.out _ _ HP1.out);obtain⟨c,hc⟩:=zX (zu6 g0 g1 na da nb db);rw[hc]at HCR ho1 ho2;obtain⟨p,hp⟩:=zX (ybc g0 X);obtain⟨q,hq⟩:=zX (ybc g1 Y);rw[hp]at HOX ho1 ho2;rw[hq]at HOY ho1 ho2;have HO1:=zH ho1;have HO2:=zH ho2;clear ho1 ho2;clear hc hp hq hv0 hv1 hX hY HMa HMb HP0 HP1 HRA HRB;have r0:=HQ0.out.cell 0;have r1:=HQ0.out.cell 1;have r2:=HQ0.out.cell 2;have q0:=HQ1.out.cell 0;have q1:=HQ1.out.cell 1;have q2:=HQ1.out.cell 2;simp only[List.getElem?_cons_zero,List.getElem?_cons_succ]at r0 r1 r2 q0 q1 q2;(go_wp2_with fail;repeat ((first|refine cZ ?_|refine cW ?_);go_wp2_with fail));refine (HCR.out _ HX8.out).mono ?_;rintro e w9 ⟨rfl,hg9⟩;have HG9:=zH (ym HG8.out hg9);clear hg9 r0 r1 r2 q0 q1 q2 HCR;by_cases hc1:0<c
 ·have e1:decide (0<c)=true:=zh;have e2:decide (c<0)=false:=zh;have e3:¬c<0:=zd;have hle:q<=p:=HO2.out zd;have hled:decide (q<=p)=true:=zh;clear HO1 HO2;(go_wp2_with fail;repeat ((first|refine cZ ?_|refine cW ?_);go_wp2_with fail));refine (HOX.out _).mono ?_;rintro e w10 ⟨rfl,rfl⟩;(go_wp2_with fail;repeat ((first|refine cZ ?_|refine cW ?_);go_wp2_with fail));refine (HOY.out _).mono ?_;rintro e w10 ⟨rfl,rfl⟩;(go_wp2_with fail;repeat ((first|refine cZ ?_|refine cW ?_);go_wp2_with fail));refine (HC0.out _).mono ?_;rintro e w10 ⟨rfl,hg10⟩;have HG10:=zH (ym HG9.out hg10);clear hg10;(go_wp2_with fail;repeat ((first|refine cZ ?_|refine cW ?_);go_wp2_with fail));refine (HC2.out _).mono ?_;rintro e w11 ⟨rfl,hg11⟩;have HG11:=zH (ym HG10.out hg11);clear hg11;(go_wp2_with fail;repeat ((first|refine cZ ?_|refine cW ?_);go_wp2_with fail));exact yl (.bool true) rfl ze zb ⟨rfl,HG11.out⟩
 have e1:decide (0<c)=false:=zh;have hle:p<=q:=HO1.out zd;have hled:decide (p<=q)=true:=zh;by_cases hc2:c<0
 ·have e2:decide (c<0)=true:=zh;clear HO1 HO2;(go_wp2_with fail;repeat ((first|refine cZ ?_|refine cW ?_);go_wp2_with fail));refine (HOX.out _).mono ?_;rintro e w10 ⟨rfl,rfl⟩;(go_wp2_with fail;repeat ((first|refine cZ ?_|refine cW ?_);go_wp2_with fail));refine (HOY.out _).mono ?_;rintro e w10 ⟨rfl,rfl⟩;(go_wp2_with fail;repeat ((first|refine cZ ?_|refine cW ?_);go_wp2_with fail));refine (HC0.out _).mono ?_;rintro e w10 ⟨rfl,hg10⟩;have HG10:=zH (ym HG9.out hg10);clear hg10;(go_wp2_with fail;repeat ((first|refine cZ ?_|refine cW ?_);go_wp2_with fail));refine (HC2.out _).mono ?_;rintro e w11 ⟨rfl,hg11⟩;have HG11:=zH (ym HG10.out hg11);clear hg11;(go_wp2_with fail;repeat ((first|refine cZ ?_|refine cW ?_);go_wp2_with fail));exact yl (.bool true) rfl ze zb ⟨rfl,HG11.out⟩
 ·have e2:decide (c<0)=false:=zh;have hle2:q<=p:=HO2.out zd;have hled2:decide (q<=p)=true:=zh;clear HO1 HO2;(go_wp2_with fail;repeat ((first|refine cZ ?_|refine cW ?_);go_wp2_with fail));refine (HOX.out _).mono ?_;rintro e w10 ⟨rfl,rfl⟩;(go_wp2_with fail;repeat ((first|refine cZ ?_|refine cW ?_);go_wp2_with fail));refine (HOY.out _).mono ?_;rintro e w10 ⟨rfl,rfl⟩;(go_wp2_with fail;repeat ((first|refine cZ ?_|refine cW ?_);go_wp2_with fail));refine (HOX.out _).mono ?_;rintro e w10 ⟨rfl,rfl⟩;(go_wp2_with fail;repeat ((first|refine cZ ?_|refine cW ?_);go_wp2_with fail));refine (HOY.out _).mono ?_;rintro e w10 ⟨rfl,rfl⟩;(go_wp2_with fail;repeat ((first|refine cZ ?_|refine cW ?_);go_wp2_with fail));refine (HC0.out _).mono ?_;rintro e w10 ⟨rfl,hg10⟩;have HG10:=zH (ym HG9.out hg10);clear hg10;(go_wp2_with fail;repeat ((first|refine cZ ?_|refine cW ?_);go_wp2_with fail));refine (HC2.out _).mono ?_;rintro e w11 ⟨rfl,hg11⟩;have HG11:=zH (ym HG10.out hg11);clear hg11;(go_wp2_with fail;repeat ((first|refine cZ ?_|refine cW ?_);go_wp2_with fail));exact yl (.bool true) rfl ze zb ⟨rfl,HG11.out⟩
end
end Go.Proofs.YtocbeoomhlgnkaaGreatDoor
