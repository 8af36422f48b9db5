/- Lemmas that the claim's top text leans on. No condition of their own. -/
import Derived.WalkMore
import Derived.Test.YtoacbkokkkpofaaGreatDoorK24
namespace Go.Proofs.YtoacbkokkkpofaaGreatDoor
open Go.RowKit
set_option linter.unusedSimpArgs false
set_option linter.unusedVariables false
set_option maxHeartbeats 16000000
section
attribute [local go_sem] undef
theorem yfy {n:Nat} {z:Int} {zn:Nat} (hz:z=(zn:Int)) (h:¬n=zn):((n:Int)==z)=false/\(n==zn)=false/\¬((n:Int)=z):=by
 subst hz;refine⟨?_,?_,?_⟩
 ·rw[beq_eq_false_iff_ne];omega
 ·rw[beq_eq_false_iff_ne];exact h
 ·omega
theorem yhw (s:List UInt8) (a b:Nat) (h:b<=s.length) (hab:a<=b):(⟨s.toArray⟩:ByteArray).extract a b=⟨((s.drop a).take (b-a)).toArray⟩:=by
 obtain⟨n,rfl⟩:∃ n,b=a+n:=⟨b-a,zd⟩;apply ByteArray.ext;simp[ByteArray.data_extract]
theorem yhv (s:List UInt8) (a N:Nat) (h:s.length=N) (hab:a<=N):(⟨s.toArray⟩:ByteArray).extract a N=⟨(s.drop a).toArray⟩:=by
 rw[yhw s a N zd hab];congr 2;rw[List.take_of_length_le (by rw[List.length_drop];omega)]
theorem yhx (s:List UInt8) (n:Nat) (h:n<=s.length):(⟨s.toArray⟩:ByteArray).extract 0 n=⟨(s.take n).toArray⟩:=by
 rw[yhw s 0 n h zd];rfl
set_option maxRecDepth 100000 in
theorem yhm (s:List UInt8) (w:World) (hs:s.length<=2000000):
  Calls Tryz.prog 23 #[.string ⟨s.toArray⟩] w fun e w'=>e=.returned (.bool (ul s).isSome)/\w.grownBy w' none:=by
 have HRT:=zH (fun W=>zbo s W hs);refine ye Tryz.func23 rfl (by rw[Tryz.ntmps23];simp) ?_;intro σ hσ;rw[Tryz.ntmps23];have s0:σ 0=.string ⟨s.toArray⟩:=hσ 0 zi;clear hσ;go_wp2_with fail;refine (HRT.out _).mono ?_;rintro e w2 ⟨hg2,hp⟩;clear HRT;cases hrd:ul s with
 | none=>
  rw[hrd]at hp;dsimp only at hp;subst hp;obtain⟨w3,hw3⟩:=zX (w2.alloc (.cells textZ.toArray 62));have HG3:=zH (show w.grownBy w3 none by rw[<-hw3];exact ya hg2 (World.grownBy_alloc w2 _ none));have HW3:=zH hw3;unfold textZ at HW3 ⊢;have HRD:=zH hrd;clear hrd hw3 hg2;go_upto_region 2 with fail;rw[HW3.out];(go_wp2_with fail;repeat ((first|refine cZ ?_|refine cW ?_);go_wp2_with fail));exact yl (.bool false) rfl ze zb ⟨by rw[HRD.out];rfl,HG3.out⟩
 | some r=>
  rw[hrd]at hp;dsimp only at hp;obtain⟨v,rfl,hv⟩:=hp;obtain⟨kind,neg,b,l,x⟩:=r;obtain⟨a,c,rfl⟩:=hv.1.len;obtain⟨N,hN⟩:=zX l.length;dsimp only;simp only[hN]at *
  obtain⟨w3,hw3⟩:=zX (w2.alloc (.cells #[.int .i64 kind,.bool neg,.int .i64 (b:Int),.slice a N c,.int .i64 x] 62));have HG3:=zH (show w.grownBy w3 none by rw[<-hw3];exact ya hg2 (World.grownBy_alloc w2 _ none));have HW3:=zH hw3;have HRD:=zH hrd;clear hrd hw3 hg2 hv hN;go_upto_region 2 with fail;rw[HW3.out];(go_wp2_with fail;repeat ((first|refine cZ ?_|refine cW ?_);go_wp2_with fail));exact yl (.bool true) rfl ze zb ⟨by rw[HRD.out];rfl,HG3.out⟩
def cplV:Option (List UInt8×List UInt8)->Value
 | none=>.tuple #[.string ⟨#[]⟩,.string ⟨#[]⟩,.bool false]
 | some (a,b)=>.tuple #[.string ⟨a.toArray⟩,.string ⟨b.toArray⟩,.bool true]
set_option maxRecDepth 100000 in
theorem qq (s:List UInt8) (w:World) (hs:s.length<=800):
  Calls Tryz.prog 10 #[.string ⟨s.toArray⟩] w fun e w'=>e=.returned (cplV (yf2 s))/\w.grownBy w' none:=by
 have HIT:=zH yhm;have HLO:=zH zc8;have HIDX:=zH (fun i h=>xu s i h);have HIN:=zH hs;clear hs;refine ye Tryz.func10 rfl (by rw[Tryz.ntmps10];simp) ?_;intro σ hσ;rw[Tryz.ntmps10];have s0:σ 0=.string ⟨s.toArray⟩:=hσ 0 zi;clear hσ;have hsz:(⟨s.toArray⟩:ByteArray).size=s.length:=zm;obtain⟨pb,hpb⟩:=zX (decide (1<s.length/\(s.getD 0 0).toNat=40/\(s.getD (s.length-1) 0).toNat=41));obtain⟨u,hu⟩:=zX (yfz s);have hul:u.length<=800:=by
  have:=HIN.out;rw[<-hu];unfold yfz;split
  ·rw[List.length_take,List.length_drop];omega
  ·exact this
 have hP0:pb=false->s=u:=fun e=>by
  rw[e]at hpb;rw[<-hu];unfold yfz;rw[if_neg];rintro⟨h1,h2,h3⟩;exact of_decide_eq_false hpb ⟨h1,by rw[h2];rfl,by rw[h3];rfl⟩
 have hP1:pb=true->2<=s.length/\(⟨s.toArray⟩:ByteArray).extract 1 (s.length-1)=⟨u.toArray⟩:=fun e=>by
  rw[e]at hpb;obtain⟨h1,h2,h3⟩:=of_decide_eq_true hpb;refine⟨h1,?_⟩;rw[<-hu];unfold yfz;rw[if_pos ⟨h1,UInt8.toNat_inj.1 h2,UInt8.toNat_inj.1 h3⟩,yhw s 1 (s.length-1) zd zd];rw[show s.length-1-1=s.length-2 by omega]
 have HPB:=zH hpb;have HU:=zH hu;have HP0:=zH hP0;have HP1:=zH hP1;obtain⟨N,hN⟩:=zX s.length;rw[hN]at HPB HP1 HIDX HIN hsz;have HN:=zH hN;have hN8:N<=800:=HIN.out;clear hpb hu hP0 hP1 hN;go_upto_region 1 with fail;refine yr (fun s' w'=>s' 0=.string ⟨s.toArray⟩/\s' 21=.bool pb/\w=w') ?_ ?_
 ·intro R' K' HR hK';by_cases h2:1<N
  ·obtain⟨M,hM⟩:∃ M,N=M+1:=⟨N-1,zd⟩;have g1:(1:Int)<(N:Int):=zd;have g2:(0:Int)<(N:Int):=zd;have g3:(N:Int)-1=(M:Int):=zd;have g4:0<N:=zd;have g5:M<N:=zd;have g6:(M:Int)<(N:Int):=zd;have hidx0:=HIDX.out 0 zd;have hidx1:=HIDX.out M zd;have HPB:=zH (show decide (1<N/\(s.getD 0 0).toNat=40/\(s.getD M 0).toNat=41)=pb by rw[<-HPB.out,show N-1=M by omega]);clear hM;generalize s.getD 0 0=c at *
   generalize s.getD M 0=x at *
   obtain⟨n,hn⟩:=zX c.toNat;obtain⟨l,hl⟩:=zX x.toNat;rw[hn,hl]at HPB;by_cases h40:n=40
   ·by_cases h41:l=41
    ·have e:pb=true:=by rw[<-HPB.out];exact decide_eq_true ⟨h2,h40,h41⟩
     subst h40 h41 e;(go_wp2_with fail;repeat ((first|refine cZ ?_|refine cW ?_);go_wp2_with fail));exact got HR ⟨zb,zb,rfl⟩
    ·obtain⟨a1,a2,a3⟩:=yfy (z:=41) (zn:=41) rfl h41;have e:pb=false:=by rw[<-HPB.out];exact decide_eq_false (fun h=>h41 h.2.2)
     subst h40 e;(go_wp2_with fail;repeat ((first|refine cZ ?_|refine cW ?_);go_wp2_with fail));exact got HR ⟨zb,zb,rfl⟩
   ·obtain⟨a1,a2,a3⟩:=yfy (z:=40) (zn:=40) rfl h40;have e:pb=false:=by rw[<-HPB.out];exact decide_eq_false (fun h=>h40 h.2.1)
    subst e;(go_wp2_with fail;repeat ((first|refine cZ ?_|refine cW ?_);go_wp2_with fail));exact got HR ⟨zb,zb,rfl⟩
  ·have e:pb=false:=by rw[<-HPB.out];exact decide_eq_false (fun h=>h2 h.1)
   have g1:decide ((1:Int)<(N:Int))=false:=zh;have g2:¬((1:Int)<(N:Int)):=zd;subst e;(go_wp2_with fail;repeat ((first|refine cZ ?_|refine cW ?_);go_wp2_with fail));exact got HR ⟨zb,zb,rfl⟩
 clear s0 σ HPB;rintro σ w1 ⟨s0,s21,rfl⟩;go_wp2_with fail;refine yr (fun s' w'=>s' 0=.string ⟨u.toArray⟩/\w=w') ?_ ?_
 ·intro R' K' HR hK';cases pb
  ·have e:=HP0.out rfl;subst e;(go_wp2_with fail;repeat ((first|refine cZ ?_|refine cW ?_);go_wp2_with fail));exact got HR ⟨zb,rfl⟩
  ·obtain⟨h2,hcut⟩:=HP1.out rfl;obtain⟨M,hM⟩:∃ M,N=M+1:=⟨N-1,zd⟩;rw[show N-1=M by omega]at hcut;have g3:(N:Int)-1=(M:Int):=zd;have g4:(1:Int)<=(M:Int):=zd;have g5:(M:Int)<=(N:Int):=zd;have g6:1<=M:=zd;have g7:M<=N:=zd;clear hM;(go_wp2_with fail;repeat ((first|refine cZ ?_|refine cW ?_);go_wp2_with fail));exact got HR ⟨zb,rfl⟩
 clear s0 s21 σ HP0 HP1 HIN HN hN8 hsz HIDX N pb;rintro σ w1 ⟨s0,rfl⟩;have HCU:=zH (show yf2 s=yia u by unfold yf2;rw[HU.out]);clear HU;have hsz:(⟨u.toArray⟩:ByteArray).size=u.length:=zm;obtain⟨N,hN⟩:=zX u.length;rw[hN]at hsz hul;have HN:=zH hN;clear hN;(go_wp2_with fail;repeat ((first|refine cZ ?_|refine cW ?_);go_wp2_with fail));refine (HIT.out u _ zt).mono ?_;rintro e w1 ⟨rfl,hg1⟩;have HG1:=zH hg1;clear hg1;obtain⟨b1,hb1⟩:=zX ((ul u).isSome);rw[hb1];have HB1:=zH hb1;clear hb1;cases b1
 case true=>
  have HE:=zH (show yf2 s=some (u,[48]) by rw[HCU.out];unfold yia;rw[if_pos HB1.out]);(go_wp2_with fail;repeat ((first|refine cZ ?_|refine cW ?_);go_wp2_with fail));exact xy (.string ⟨u.toArray⟩) (.string ⟨#[48]⟩) (.bool true) rfl ze ze ze zb zb zb ⟨zβy,HG1.out⟩
 by_cases hu0:u=[]
 ·have HE:=zH (show yf2 s=none by rw[HCU.out];unfold yia;rw[if_neg (by rw[HB1.out];decide),if_pos (Or.inl hu0)]);subst hu0;(go_wp2_with fail;repeat ((first|refine cZ ?_|refine cW ?_);go_wp2_with fail));exact xy (.string ⟨#[]⟩) (.string ⟨#[]⟩) (.bool false) rfl ze ze ze zb zb zb ⟨zβy,HG1.out⟩
 have hue:(u==[])=false:=by rw[beq_eq_false_iff_ne];exact hu0
 have hN1:0<N:=by rw[<-HN.out];exact List.length_pos_iff.2 hu0
 obtain⟨M,hM⟩:∃ M,N=M+1:=⟨N-1,zd⟩;have g3:(N:Int)-1=(M:Int):=zd;have g5:M<N:=zd;have g6:(M:Int)<(N:Int):=zd;have g7:M<=N:=zd;have g8:(M:Int)<=(N:Int):=zd;have hidx1:=xu u M (by rw[HN.out];exact g5);have HM:=zH hM;clear hM;obtain⟨x,hx⟩:=zX (u.getD M 0);rw[hx]at hidx1;have HX:=zH hx;clear hx;obtain⟨l,hl⟩:=zX x.toNat;by_cases hl5:¬l=105
 ·obtain⟨a1,a2,a3⟩:=yfy (z:=105) (zn:=105) rfl hl5;have HE:=zH (show yf2 s=none by
   rw[HCU.out];unfold yia;rw[if_neg (by rw[HB1.out];decide),if_pos (Or.inr ?_)];rw[HN.out,show N-1=M by have:=HM.out;omega,HX.out];intro h;exact hl5 (by rw[<-hl,h];rfl))
  clear hl5 hu0;(go_wp2_with fail;repeat ((first|refine cZ ?_|refine cW ?_);go_wp2_with fail));exact xy (.string ⟨#[]⟩) (.string ⟨#[]⟩) (.bool false) rfl ze ze ze zb zb zb ⟨zβy,HG1.out⟩
 replace hl5:l=105:=by omega
 subst hl5;obtain⟨p,hp⟩:=zX u.dropLast;have hcut:(⟨u.toArray⟩:ByteArray).extract 0 M=⟨p.toArray⟩:=by
  rw[yhx u M (by rw[HN.out];exact g7),<-hp,List.dropLast_eq_take,HN.out,show N-1=M by have:=HM.out;omega]
 have hpl:p.length=M:=by rw[<-hp,List.length_dropLast,HN.out];have:=HM.out;omega
 have HCP:=zH (show yf2 s=if (ul p).isSome=true then some ([48],p) else ygg p (M-1) 1 by
  rw[HCU.out];unfold yia;rw[if_neg (by rw[HB1.out];decide),if_neg,hp,hpl];rintro (h | h)
  ·exact hu0 h
  ·rw[HN.out,show N-1=M by have:=HM.out;omega,HX.out]at h;exact h (UInt8.toNat_inj.1 hl))
 have hM8:M<=800:=zd;clear hu0 hp HCU HB1;(go_wp2_with fail;repeat ((first|refine cZ ?_|refine cW ?_);go_wp2_with fail));refine (HIT.out p _ (by rw[hpl];omega)).mono ?_;rintro e w2 ⟨rfl,hg2⟩;have HG2:=zH (ya HG1.out hg2);clear hg2;obtain⟨b2,hb2⟩:=zX ((ul p).isSome);rw[hb2];rw[hb2]at HCP;clear hb2;cases b2
 case true=>
  have HE:=zH (show yf2 s=some ([48],p) by rw[HCP.out,if_pos rfl]);(go_wp2_with fail;repeat ((first|refine cZ ?_|refine cW ?_);go_wp2_with fail));exact xy (.string ⟨#[48]⟩) (.string ⟨p.toArray⟩) (.bool true) rfl ze ze ze zb zb zb ⟨zβy,HG2.out⟩
 have HE:=zH (show yf2 s=ygg p (M-1) 1 by rw[HCP.out,if_neg ze]);have hsz2:(⟨p.toArray⟩:ByteArray).size=M:=by simp[ByteArray.size,hpl]
 have HPL:=zH hpl;have HIP:=zH (fun i (h:i<M)=>xu p i (by rw[HPL.out];exact h));clear hcut hpl HCP hsz;(go_wp2_with fail;repeat ((first|refine cZ ?_|refine cW ?_);go_wp2_with fail));refine xb (fun kk s' w'=>∃ i:Nat,1<=i/\kk=M-i/\yf2 s=ygg p (M-i) i/\s' 0=.string ⟨p.toArray⟩/\s' 5=.int .i64 (i:Int)/\w.grownBy w' none) (M-1) ⟨1,zd,rfl,HE.out,zb,zb,HG2.out⟩ ?_;clear s0 σ HE HG1 HG2 hidx1 hl HX HM g3 g5 g6 g7 g8 hN1 hue HN;rintro kk σ wk ⟨i,hi1,hkk,hcp,s0,s5,hgk⟩ RK KK HRK hKK;have HKK:=zH hkk;have HGK:=zH hgk;clear hkk hgk;by_cases hiM:i<M
 case neg=>
  have hiN':decide (i<M)=false:=by simpa using hiM
  have hiN2:decide ((i:Int)<(M:Int))=false:=zh;have HE:=zH (show yf2 s=none by rw[hcp,show M-i=0 by omega];rfl);clear hcp;(go_wp2_with fail;repeat ((first|refine cZ ?_|refine cW ?_);go_wp2_with fail));exact xy (.string ⟨#[]⟩) (.string ⟨#[]⟩) (.bool false) rfl ze ze ze zb zb zb ⟨zβy,HGK.out⟩
 have hidx:=HIP.out i hiM;have hiM':(i:Int)<(M:Int):=zd;have hcutA:=yhx p i (by rw[HPL.out];omega);have hcutB:=yhv p i M HPL.out zd;have hcutC:=yhv p (i+1) M HPL.out zd;have i1:(i:Int)<=(M:Int):=zd;have i2:i<=M:=zd;have i3:(i:Int)+1<=(M:Int):=zd;have i4:i+1<=M:=zd;have hwr:IntKind.i64.wrap ((i:Int)+1)=(i:Int)+1:=zk;have htn:((i:Int)+1).toNat=i+1:=zd;have i5:0<=(i:Int)+1:=zd;have HST:=zH (show yf2 s=_ from hcp.trans (by rw[show M-i=(M-(i+1))+1 by omega,ygg]));clear hcp;generalize p.getD i 0=c at *
 have hce:∀ x:UInt8,c=x↔c.toNat=x.toNat:=fun x=>⟨fun h=>by rw[h],fun h=>UInt8.toNat_inj.1 h⟩
 simp only[hce,show (43:UInt8).toNat=43 from rfl,show (45:UInt8).toNat=45 from rfl]at HST;clear hce;unfold yic at HST;obtain⟨m,hm⟩:=zX c.toNat;rw[hm]at HST;by_cases h:m=43
 ·subst h;(go_wp2_with fail;repeat ((first|refine cZ ?_|refine cW ?_);go_wp2_with fail));refine (HIT.out (p.take i) _ zN).mono ?_;rintro e w3 ⟨rfl,hg3⟩;have HG3:=zH (ya HGK.out hg3);clear hg3;obtain⟨b3,hb3⟩:=zX ((ul (p.take i)).isSome);rw[hb3];rw[hb3]at HST;clear hb3;cases b3
  case false=>
   have HE:=zH (show yf2 s=ygg p (M-(i+1)) (i+1) by rw[HST.out,if_neg (fun h=>by cases h.2)]);have HGX:=HG3;(go_wp2_with fail;repeat ((first|refine cZ ?_|refine cW ?_);go_wp2_with fail));exact wo HRK (M-(i+1)) (by have:=HKK.out;omega) ⟨i+1,zd,rfl,HE.out,zb,zj,HGX.out⟩
  (go_wp2_with fail;repeat ((first|refine cZ ?_|refine cW ?_);go_wp2_with fail));refine (HIT.out (p.drop i) _ (by rw[List.length_drop,HPL.out];omega)).mono ?_;rintro e w4 ⟨rfl,hg4⟩;have HGX:=zH (ya HG3.out hg4);clear hg4;obtain⟨b4,hb4⟩:=zX ((ul (p.drop i)).isSome);rw[hb4];rw[hb4]at HST;clear hb4;cases b4
  case true=>
   have HE:=zH (show yf2 s=some (p.take i,p.drop i) by rw[HST.out,if_pos zi,if_pos rfl]);(go_wp2_with fail;repeat ((first|refine cZ ?_|refine cW ?_);go_wp2_with fail));refine wp_region_noPanic ?_;refine wp_region_held_drew (S:=fun w'=>w4.grownBy w' none) zg (yh w4 1 none) (fun hHeld=>?_);(refine yg 0 75 ?_;refine yg 1 76 ?_);(refine xg 2 77 (oi:=?_) (v:=?_) ?_ ?_ zg zg zg (fun _ _ _ _ _ h=>h) ?_ zq ?_ ?_;rotate_left 2;(focus ((simp only[List.getElem?_toArray,List.getElem?_cons_succ,List.getElem?_cons_zero]);rfl));(focus rfl);(focus (first | rfl | (simp only[Region.wanted,yielded,List.getElem?_toArray,List.getElem?_cons_succ,List.getElem?_cons_zero,Option.bind_some,Option.map_some,Fr_get?,yc,yd];rfl) | go_simp));(focus (intro W _;go_simp;try with_reducible rfl)));(refine yg 3 78 ?_;refine yg 4 79 ?_);(refine xg 5 80 (oi:=?_) (v:=?_) ?_ ?_ zg zg zg (fun _ _ _ _ _ h=>h) ?_ zq ?_ ?_;rotate_left 2;(focus ((simp only[List.getElem?_toArray,List.getElem?_cons_succ,List.getElem?_cons_zero]);rfl));(focus rfl);(focus (first | rfl | (simp only[Region.wanted,yielded,List.getElem?_toArray,List.getElem?_cons_succ,List.getElem?_cons_zero,Option.bind_some,Option.map_some,Fr_get?,yc,yd];rfl) | go_simp));(focus (intro W _;go_simp;try with_reducible rfl)));(refine yg 6 2 ?_;refine yg 7 3 ?_;refine yg 8 4 ?_);refine wpAnyH_done zg ?_ _;refine NoPanic.normal ?_;(go_wp2_with fail;repeat ((first|refine cZ ?_|refine cW ?_);go_wp2_with fail));exact xy (.string ⟨(p.take i).toArray⟩) (.string ⟨(p.drop i).toArray⟩) (.bool true) rfl ze ze ze zb zb zb ⟨zβy,ya HGX.out hHeld⟩
  (go_wp2_with fail;repeat ((first|refine cZ ?_|refine cW ?_);go_wp2_with fail));refine (HLO.out (p.drop (i+1)) _ (by rw[List.length_drop,HPL.out];omega)).mono ?_;rintro e w5 ⟨rfl,hg5⟩;replace HGX:=zH (ya HGX.out hg5);clear hg5;obtain⟨T,hT⟩:=zX (xf (p.drop (i+1)));rw[hT];rw[hT]at HST;clear hT;by_cases hn:T=[110,97,110]
  ·have HE:=zH (show yf2 s=some (p.take i,p.drop (i+1)) by rw[HST.out,if_pos zi,if_neg ze,if_pos (by simp[hn])]);subst hn;(go_wp2_with fail;repeat ((first|refine cZ ?_|refine cW ?_);go_wp2_with fail));refine wp_region_noPanic ?_;refine wp_region_held_drew (S:=fun w'=>w5.grownBy w' none) zg (yh w5 1 none) (fun hHeld=>?_);(refine yg 0 93 ?_;refine yg 1 94 ?_);(refine xg 2 95 (oi:=?_) (v:=?_) ?_ ?_ zg zg zg (fun _ _ _ _ _ h=>h) ?_ zq ?_ ?_;rotate_left 2;(focus ((simp only[List.getElem?_toArray,List.getElem?_cons_succ,List.getElem?_cons_zero]);rfl));(focus rfl);(focus (first | rfl | (simp only[Region.wanted,yielded,List.getElem?_toArray,List.getElem?_cons_succ,List.getElem?_cons_zero,Option.bind_some,Option.map_some,Fr_get?,yc,yd];rfl) | go_simp));(focus (intro W _;go_simp;try with_reducible rfl)));(refine yg 3 96 ?_;refine yg 4 97 ?_);(refine xg 5 98 (oi:=?_) (v:=?_) ?_ ?_ zg zg zg (fun _ _ _ _ _ h=>h) ?_ zq ?_ ?_;rotate_left 2;(focus ((simp only[List.getElem?_toArray,List.getElem?_cons_succ,List.getElem?_cons_zero]);rfl));(focus rfl);(focus (first | rfl | (simp only[Region.wanted,yielded,List.getElem?_toArray,List.getElem?_cons_succ,List.getElem?_cons_zero,Option.bind_some,Option.map_some,Fr_get?,yc,yd];rfl) | go_simp));(focus (intro W _;go_simp;first | with_reducible rfl | rfl)));(refine xg 6 99 (oi:=?_) (v:=?_) ?_ ?_ zg zg zg (fun _ _ _ _ _ h=>h) ?_ zq ?_ ?_;rotate_left 2;(focus ((simp only[List.getElem?_toArray,List.getElem?_cons_succ,List.getElem?_cons_zero]);rfl));(focus rfl);(focus (first | rfl | (simp only[Region.wanted,yielded,List.getElem?_toArray,List.getElem?_cons_succ,List.getElem?_cons_zero,Option.bind_some,Option.map_some,Fr_get?,yc,yd];rfl) | go_simp));(focus (intro W _;go_simp;(try simp only[hwr,htn,i3,i5,and_self,if_true,hcutC]);try with_reducible rfl)));(refine yg 7 2 ?_;refine yg 8 3 ?_;refine yg 9 4 ?_);refine wpAnyH_done zg ?_ _;refine NoPanic.normal ?_;(go_wp2_with fail;repeat ((first|refine cZ ?_|refine cW ?_);go_wp2_with fail));exact xy (.string ⟨(p.take i).toArray⟩) (.string ⟨(p.drop (i+1)).toArray⟩) (.bool true) rfl ze ze ze zb zb zb ⟨zβy,ya HGX.out hHeld⟩
  ·have HE:=zH (show yf2 s=ygg p (M-(i+1)) (i+1) by rw[HST.out,if_pos zi,if_neg ze,if_neg (fun h=>hn h.2)]);have hn':(T==[110,97,110])=false:=by rw[beq_eq_false_iff_ne];exact hn
   clear hn;(go_wp2_with fail;repeat ((first|refine cZ ?_|refine cW ?_);go_wp2_with fail));exact wo HRK (M-(i+1)) (by have:=HKK.out;omega) ⟨i+1,zd,rfl,HE.out,zb,zj,HGX.out⟩
 by_cases h:m=45
 ·subst h;(go_wp2_with fail;repeat ((first|refine cZ ?_|refine cW ?_);go_wp2_with fail));refine (HIT.out (p.take i) _ zN).mono ?_;rintro e w3 ⟨rfl,hg3⟩;have HG3:=zH (ya HGK.out hg3);clear hg3;obtain⟨b3,hb3⟩:=zX ((ul (p.take i)).isSome);rw[hb3];rw[hb3]at HST;clear hb3;cases b3
  case false=>
   have HE:=zH (show yf2 s=ygg p (M-(i+1)) (i+1) by rw[HST.out,if_neg (fun h=>by cases h.2)]);have HGX:=HG3;(go_wp2_with fail;repeat ((first|refine cZ ?_|refine cW ?_);go_wp2_with fail));exact wo HRK (M-(i+1)) (by have:=HKK.out;omega) ⟨i+1,zd,rfl,HE.out,zb,zj,HGX.out⟩
  (go_wp2_with fail;repeat ((first|refine cZ ?_|refine cW ?_);go_wp2_with fail));refine (HIT.out (p.drop i) _ (by rw[List.length_drop,HPL.out];omega)).mono ?_;rintro e w4 ⟨rfl,hg4⟩;have HGX:=zH (ya HG3.out hg4);clear hg4;obtain⟨b4,hb4⟩:=zX ((ul (p.drop i)).isSome);rw[hb4];rw[hb4]at HST;clear hb4;cases b4
  case true=>
   have HE:=zH (show yf2 s=some (p.take i,p.drop i) by rw[HST.out,if_pos zi,if_pos rfl]);(go_wp2_with fail;repeat ((first|refine cZ ?_|refine cW ?_);go_wp2_with fail));refine wp_region_noPanic ?_;refine wp_region_held_drew (S:=fun w'=>w4.grownBy w' none) zg (yh w4 1 none) (fun hHeld=>?_);(refine yg 0 75 ?_;refine yg 1 76 ?_);(refine xg 2 77 (oi:=?_) (v:=?_) ?_ ?_ zg zg zg (fun _ _ _ _ _ h=>h) ?_ zq ?_ ?_;rotate_left 2;(focus ((simp only[List.getElem?_toArray,List.getElem?_cons_succ,List.getElem?_cons_zero]);rfl));(focus rfl);(focus (first | rfl | (simp only[Region.wanted,yielded,List.getElem?_toArray,List.getElem?_cons_succ,List.getElem?_cons_zero,Option.bind_some,Option.map_some,Fr_get?,yc,yd];rfl) | go_simp));(focus (intro W _;go_simp;try with_reducible rfl)));(refine yg 3 78 ?_;refine yg 4 79 ?_);(refine xg 5 80 (oi:=?_) (v:=?_) ?_ ?_ zg zg zg (fun _ _ _ _ _ h=>h) ?_ zq ?_ ?_;rotate_left 2;(focus ((simp only[List.getElem?_toArray,List.getElem?_cons_succ,List.getElem?_cons_zero]);rfl));(focus rfl);(focus (first | rfl | (simp only[Region.wanted,yielded,List.getElem?_toArray,List.getElem?_cons_succ,List.getElem?_cons_zero,Option.bind_some,Option.map_some,Fr_get?,yc,yd];rfl) | go_simp));(focus (intro W _;go_simp;try with_reducible rfl)));(refine yg 6 2 ?_;refine yg 7 3 ?_;refine yg 8 4 ?_);refine wpAnyH_done zg ?_ _;refine NoPanic.normal ?_;(go_wp2_with fail;repeat ((first|refine cZ ?_|refine cW ?_);go_wp2_with fail));exact xy (.string ⟨(p.take i).toArray⟩) (.string ⟨(p.drop i).toArray⟩) (.bool true) rfl ze ze ze zb zb zb ⟨zβy,ya HGX.out hHeld⟩
  have HE:=zH (show yf2 s=ygg p (M-(i+1)) (i+1) by rw[HST.out,if_pos zi,if_neg ze,if_neg (fun h=>absurd h.1 ze)]);(go_wp2_with fail;repeat ((first|refine cZ ?_|refine cW ?_);go_wp2_with fail));exact wo HRK (M-(i+1)) (by have:=HKK.out;omega) ⟨i+1,zd,rfl,HE.out,zb,zj,HGX.out⟩
 obtain⟨a1,a2,a3⟩:=yfy (z:=43) (zn:=43) rfl (by assumption:¬m=43);obtain⟨c1,c2,c3⟩:=yfy (z:=45) (zn:=45) rfl h;have HE:=zH (show yf2 s=ygg p (M-(i+1)) (i+1) by rw[HST.out,if_neg (fun h=>zd)]);have HGX:=HGK;(go_wp2_with fail;repeat ((first|refine cZ ?_|refine cW ?_);go_wp2_with fail));exact wo HRK (M-(i+1)) (by have:=HKK.out;omega) ⟨i+1,zd,rfl,HE.out,zb,zj,HGX.out⟩
end
section
attribute [local go_sem] undef
theorem yg0 (s:List UInt8):(yfz s).length<=s.length:=by
 unfold yfz;split
 ·rw[List.length_take,List.length_drop];omega
 ·omega
theorem ygy (u:List UInt8) {a b:List UInt8}:∀ k i,ygg u k i=some (a,b)->a.length<=u.length/\b.length<=u.length
 | 0,_,h=>by cases h
 | k+1,i,h=>by
  unfold ygg at h
  split at h
  ·split at h
   ·cases h;simp only[List.length_take,List.length_drop];omega
   ·split at h
    ·cases h;simp only[List.length_take,List.length_drop];omega
    ·exact ygy u k (i+1) h
  ·exact ygy u k (i+1) h
theorem yhy {s a b:List UInt8} (h:yf2 s=some (a,b)):a.length<=max s.length 1/\b.length<=max s.length 1:=by
 have hl:=yg0 s;unfold yf2 yia at h;split at h
 ·cases h;simp only[List.length_cons,List.length_nil];omega
 ·split at h
  ·cases h
  ·split at h
   ·cases h;simp only[List.length_cons,List.length_nil,List.length_dropLast];omega
   ·have:=ygy _ _ _ h;rw[List.length_dropLast]at this;omega
theorem ygx (s:List UInt8):∃ (a b:List UInt8) (ok:Bool),cplV (yf2 s)=.tuple #[.string ⟨a.toArray⟩,.string ⟨b.toArray⟩,.bool ok]/\a.length<=max s.length 1/\b.length<=max s.length 1/\(ok=false->yf2 s=none)/\(ok=true->yf2 s=some (a,b)):=by
 cases h:yf2 s with
 | none=>exact⟨[],[],false,rfl,zi,zi,fun _=>rfl,fun e=>zL⟩
 | some x=>
  obtain⟨a,b⟩:=x;exact⟨a,b,true,rfl,(yhy h).1,(yhy h).2,fun e=>zL,fun _=>rfl⟩
set_option maxRecDepth 100000 in
theorem yf1 (s:List UInt8) (w:World) (hs:s.length<=800):
  Calls Tryz.prog 11 #[.string ⟨s.toArray⟩] w fun e w'=>(∃ b:Bool,e=.returned (.bool b)/\(b=false->yg3 s))/\w.grownBy w' none:=by
 have HCT:=zH (qq s);have HCO:=zH zl6;have HIDX:=zH (fun i h=>xu s i h);obtain⟨ra,rb,ok,hv,hra,hrb,-,-⟩:=ygx s;rw[hv]at HCT;refine ye Tryz.func11 rfl (by rw[Tryz.ntmps11];simp) ?_;intro σ hσ;rw[Tryz.ntmps11];have s0:σ 0=.string ⟨s.toArray⟩:=hσ 0 zi;clear hσ hv;have hsz:(⟨s.toArray⟩:ByteArray).size=s.length:=zm;obtain⟨N,hN⟩:=zX s.length;rw[hN]at hsz HIDX hra hrb;have HN:=zH hN;rw[hN]at hs;clear hN;(go_wp2_with fail;repeat ((first|refine cZ ?_|refine cW ?_);go_wp2_with fail));refine xb (fun kk s' w'=>∃ i i':Nat,i=i'+1/\kk=N-i/\(∀ j,j+1<i->¬((s.getD j 0=43\/s.getD j 0=45)/\(s.getD (j+1) 0=43\/s.getD (j+1) 0=45)))/\s' 0=.string ⟨s.toArray⟩/\s' 3=.int .i64 (i:Int)/\w=w') (N-1) ⟨1,0,rfl,rfl,fun j hj=>zd,zb,zb,rfl⟩ ?_;clear s0 σ;rintro kk σ wk ⟨i,i',hi,hkk,hno,s0,s3,rfl⟩ RK KK HRK hKK;have HKK:=zH hkk;have HNO:=zH hno;clear hkk hno;by_cases hiN:i<N
 case neg=>
  have hiN':decide (i<N)=false:=zβw;have hiN2:decide ((i:Int)<(N:Int))=false:=zh;have HNT:=zH (show yg3 s from fun j hj=>HNO.out j (by rw[HN.out]at hj;omega));clear hiN hi HNO HIDX;(go_wp2_with fail;repeat ((first|refine cZ ?_|refine cW ?_);go_wp2_with fail));refine (HCT.out _ (by rw[HN.out];exact hs)).mono ?_;rintro e w1 ⟨rfl,hg1⟩;have HG1:=zH hg1;clear hg1;(go_wp2_with fail;repeat ((first|refine cZ ?_|refine cW ?_);go_wp2_with fail));refine (HCO.out ra _ zd).mono ?_;rintro e w2 ⟨⟨b1,rfl⟩,hg2⟩;have HG2:=zH (ya HG1.out hg2);clear hg2;cases b1
  ·(go_wp2_with fail;repeat ((first|refine cZ ?_|refine cW ?_);go_wp2_with fail));refine (HCO.out rb _ zd).mono ?_;rintro e w3 ⟨⟨b2,rfl⟩,hg3⟩;have HG3:=zH (ya HG2.out hg3);clear hg3;(go_wp2_with fail;repeat ((first|refine cZ ?_|refine cW ?_);go_wp2_with fail));exact yl (.bool b2) rfl ze zb ⟨⟨b2,rfl,fun _=>HNT.out⟩,HG3.out⟩
  ·(go_wp2_with fail;repeat ((first|refine cZ ?_|refine cW ?_);go_wp2_with fail));exact yl (.bool true) rfl ze zb ⟨⟨true,rfl,fun _=>HNT.out⟩,HG2.out⟩
 have hidx:=HIDX.out i hiN;have hidx2:=HIDX.out i' zd;have hiN':(i:Int)<(N:Int):=zd;have g3:(i:Int)-1=(i':Int):=zd;have g4:(i':Int)<(N:Int):=zd;have g5:i'<N:=zd;have HNX:=zH (show (¬((s.getD i 0).toNat=43\/(s.getD i 0).toNat=45))\/(¬((s.getD i' 0).toNat=43\/(s.getD i' 0).toNat=45))->∀ j,j+1<i+1->¬((s.getD j 0=43\/s.getD j 0=45)/\(s.getD (j+1) 0=43\/s.getD (j+1) 0=45)) from fun h j hj=>by
  by_cases hj2:j+1<i
  ·exact HNO.out j hj2
  ·have e:j=i':=zd;rintro⟨p1,p2⟩;subst e;rw[<-hi]at p2;rcases h with h | h
   ·exact h (p2.imp (fun h=>zβz) (fun h=>zβz))
   ·exact h (p1.imp (fun h=>zβz) (fun h=>zβz)))
 have hi2:i<1000:=zd;clear HNO hi;generalize s.getD i 0=c at *
 generalize s.getD i' 0=d at *
 obtain⟨m,hm'⟩:=zX c.toNat;obtain⟨l,hl'⟩:=zX d.toNat;rw[hm',hl']at HNX;rcases (show m=43\/m=45\/(m≠43/\m≠45) by omega) with hm | hm | hm
 ·subst hm;rcases (show l=43\/l=45\/(l≠43/\l≠45) by omega) with hl | hl | hl
  ·subst hl;(go_wp2_with fail;repeat ((first|refine cZ ?_|refine cW ?_);go_wp2_with fail));exact yl (.bool true) rfl ze zb ⟨⟨true,rfl,fun h=>zF⟩,World.grownBy.refl w none⟩
  ·subst hl;(go_wp2_with fail;repeat ((first|refine cZ ?_|refine cW ?_);go_wp2_with fail));exact yl (.bool true) rfl ze zb ⟨⟨true,rfl,fun h=>zF⟩,World.grownBy.refl w none⟩
  ·obtain⟨a1,a2,a3⟩:=yfy (z:=43) (zn:=43) rfl hl.1;obtain⟨c1,c2,c3⟩:=yfy (z:=45) (zn:=45) rfl hl.2;(go_wp2_with fail;repeat ((first|refine cZ ?_|refine cW ?_);go_wp2_with fail));exact wo HRK (N-(i+1)) (by have:=HKK.out;omega) ⟨i+1,i,zd,rfl,HNX.out (Or.inr (fun h=>zd)),zb,zj,rfl⟩
 ·subst hm;rcases (show l=43\/l=45\/(l≠43/\l≠45) by omega) with hl | hl | hl
  ·subst hl;(go_wp2_with fail;repeat ((first|refine cZ ?_|refine cW ?_);go_wp2_with fail));exact yl (.bool true) rfl ze zb ⟨⟨true,rfl,fun h=>zF⟩,World.grownBy.refl w none⟩
  ·subst hl;(go_wp2_with fail;repeat ((first|refine cZ ?_|refine cW ?_);go_wp2_with fail));exact yl (.bool true) rfl ze zb ⟨⟨true,rfl,fun h=>zF⟩,World.grownBy.refl w none⟩
  ·obtain⟨a1,a2,a3⟩:=yfy (z:=43) (zn:=43) rfl hl.1;obtain⟨c1,c2,c3⟩:=yfy (z:=45) (zn:=45) rfl hl.2;(go_wp2_with fail;repeat ((first|refine cZ ?_|refine cW ?_);go_wp2_with fail));exact wo HRK (N-(i+1)) (by have:=HKK.out;omega) ⟨i+1,i,zd,rfl,HNX.out (Or.inr (fun h=>zd)),zb,zj,rfl⟩
 ·obtain⟨a1,a2,a3⟩:=yfy (z:=43) (zn:=43) rfl hm.1;obtain⟨c1,c2,c3⟩:=yfy (z:=45) (zn:=45) rfl hm.2;(go_wp2_with fail;repeat ((first|refine cZ ?_|refine cW ?_);go_wp2_with fail));exact wo HRK (N-(i+1)) (by have:=HKK.out;omega) ⟨i+1,i,zd,rfl,HNX.out (Or.inl (fun h=>zd)),zb,zj,rfl⟩
def CbQ (V K:List UInt8->Nat) (o:Option (List UInt8×List UInt8)) (x y k:Nat):Prop:=match o with
 | none=>x=0/\y=0/\k=1
 | some (a,b)=>x=V a/\y=V b/\k=max (K a) (K b)
set_option maxRecDepth 100000 in
theorem ygk (sz:Int) (V K:List UInt8->Nat) (s:List UInt8) (w:World) (hs:s.length<=800)
  (HP:∀ (t:List UInt8) (W:World),t.length<=1050000->Calls Tryz.prog 30 #[.string ⟨t.toArray⟩,.int .i64 sz] W fun e w'=>e=.returned (.tuple #[.int .u64 (V t:Int),.int .i64 (K t:Int)])/\W.grownBy w' none):
  Calls Tryz.prog 13 #[.string ⟨s.toArray⟩,.int .i64 sz] w fun e w'=>(∃ x y k:Nat,e=.returned (.tuple #[.int .u64 (x:Int),.int .u64 (y:Int),.int .i64 (k:Int)])/\
   CbQ V K (yf2 s) x y k)/\w.grownBy w' none:=by
 have HCT:=zH (qq s);have HP:=zH HP;obtain⟨ra,rb,ok,hv,hra,hrb,hn,hy⟩:=ygx s;rw[hv]at HCT;have HCN:=zH hn;have HCY:=zH hy;refine ye Tryz.func13 rfl (by rw[Tryz.ntmps13];simp) ?_;intro σ hσ;rw[Tryz.ntmps13];have s0:σ 0=.string ⟨s.toArray⟩:=hσ 0 zi;have s1:σ 1=.int .i64 sz:=hσ 1 zi;clear hσ hv hn hy;(go_wp2_with fail;repeat ((first|refine cZ ?_|refine cW ?_);go_wp2_with fail));refine (HCT.out _ hs).mono ?_;rintro e w1 ⟨rfl,hg1⟩;have HG1:=zH hg1;clear hg1;cases ok
 ·have HE:=zH (HCN.out rfl);(go_wp2_with fail;repeat ((first|refine cZ ?_|refine cW ?_);go_wp2_with fail));exact xy (.int .u64 0) (.int .u64 0) (.int .i64 1) rfl ze ze ze zb zb zb ⟨⟨0,0,1,rfl,by rw[HE.out];exact⟨rfl,rfl,rfl⟩⟩,HG1.out⟩
 ·have HE:=zH (HCY.out rfl);(go_wp2_with fail;repeat ((first|refine cZ ?_|refine cW ?_);go_wp2_with fail));refine (HP.out ra _ zd).mono ?_;rintro e w2 ⟨rfl,hg2⟩;have HG2:=zH (ya HG1.out hg2);clear hg2;(go_wp2_with fail;repeat ((first|refine cZ ?_|refine cW ?_);go_wp2_with fail));refine (HP.out rb _ zd).mono ?_;rintro e w3 ⟨rfl,hg3⟩;have HG3:=zH (ya HG2.out hg3);clear hg3;obtain⟨x,hx⟩:=zX (V ra);obtain⟨y,hy⟩:=zX (V rb);obtain⟨k1,hk1⟩:=zX (K ra);obtain⟨k2,hk2⟩:=zX (K rb);rw[hx,hy,hk1,hk2];have HX:=zH (And.intro hx (And.intro hy (And.intro hk1 hk2)));clear hx hy hk1 hk2;(go_wp2_with fail;repeat ((first|refine cZ ?_|refine cW ?_);go_wp2_with fail));exact xy (.int .u64 (x:Int)) (.int .u64 (y:Int)) (.int .i64 ((max k1 k2:Nat):Int)) rfl ze ze ze zb zb (by simp[ov, *];omega) ⟨⟨x,y,max k1 k2,rfl,by rw[HE.out];exact⟨HX.out.1.symm,HX.out.2.1.symm,by rw[HX.out.2.2.1,HX.out.2.2.2]⟩⟩,HG3.out⟩
theorem ygp (s:List UInt8) (w:World) (hs:s.length<=800):
  Calls Tryz.prog 13 #[.string ⟨s.toArray⟩,.int .i64 64] w fun e w'=>(∃ x y k:Nat,e=.returned (.tuple #[.int .u64 (x:Int),.int .u64 (y:Int),.int .i64 (k:Int)])/\
   CbQ zdy zig (yf2 s) x y k)/\w.grownBy w' none:=
 ygk 64 zdy zig s w hs (fun t W h=>zc0 t W h)
theorem ygq (s:List UInt8) (w:World) (hs:s.length<=800):
  Calls Tryz.prog 13 #[.string ⟨s.toArray⟩,.int .i64 32] w fun e w'=>(∃ x y k:Nat,e=.returned (.tuple #[.int .u64 (x:Int),.int .u64 (y:Int),.int .i64 (k:Int)])/\
   CbQ zxy zya (yf2 s) x y k)/\w.grownBy w' none:=
 ygk 32 zxy zya s w hs (fun t W h=>zxu t W h)
end
end Go.Proofs.YtoacbkokkkpofaaGreatDoor
