/- Lemmas that the claim's top text leans on. No condition of their own. -/
import Derived.Test.YtnifedmhgncioaaGreatDoorJ30
import Derived.Lib.IfaceNeq
namespace Go.Proofs.YtnifedmhgncioaaGreatDoor
open Go.RowKit
set_option linter.unusedSimpArgs false
set_option linter.unusedVariables false
set_option maxHeartbeats 16000000
section
attribute [local go_sem] undef
theorem yif (s:List UInt8) (a b:Nat) (h:b<=s.length) (hab:a<=b):(⟨s.toArray⟩:ByteArray).extract a b=⟨((s.drop a).take (b-a)).toArray⟩:=by
 obtain⟨n,rfl⟩:∃ n,b=a+n:=⟨b-a,zd⟩;apply ByteArray.ext;simp[ByteArray.data_extract]
theorem yhb (s:List UInt8) (a N:Nat) (h:s.length=N) (hab:a<=N):(⟨s.toArray⟩:ByteArray).extract a N=⟨(s.drop a).toArray⟩:=by
 rw[yif s a N zd hab];congr 2;rw[List.take_of_length_le (by rw[List.length_drop];omega)]
theorem yhr (W:World) (a b:Int):(binOp .neq 53 (.iface 101 (.int .i64 a)) (.iface 101 (.int .i64 b))).run Tryz.prog W=.ok (.bool (!(a==b))) W:=
 Lib.run_neq_iface_int (P:=Tryz.prog) W a b Tryz.underlying53 zg Tryz.underlying101
set_option maxRecDepth 100000 in
theorem ygc (T:Nat) (A:List UInt8->Nat->Nat->Value->Prop) (s:List UInt8) (bs sz:Int) (b64:Bool) (w:World) (he:EnvP T w) (hs:s.length<=800)
  (hb:decide (bs=64)=b64) (hz:sz=if b64=true then 32 else 64)
  (HA:∀ (t:List UInt8) (w:World),EnvP T w->t.length<=800->Calls Tryz.prog 63 #[.string ⟨t.toArray⟩,.int .i64 sz] w fun e w'=>(∃ (v n:Nat) (ev:Value),e=.returned (.tuple #[.float .f64 v,.int .i64 (n:Int),ev])/\A t v n ev)/\w.grownBy w' none)
  (HB:∀ (t:List UInt8) (v n:Nat) (ev:Value),A t v n ev->t.length<=800->ev=erK 1\/(n<=t.length/\∃ k,(k=0\/k=2)/\ev=erK k)):
  Calls Tryz.prog 52 #[.string ⟨s.toArray⟩,.int .i64 bs] w fun e w'=>(∃ x y k:Nat,e=.returned (.tuple #[.complex .f64 x y,erK k])/\yhe A s x y k)/\w.grownBy w' none:=by
 have HA:=zH HA;have HB:=zH HB;have HE:=zH he;have HIDX:=zH (fun i h=>xu s i h);have HIN:=zH hs;have HZ:=zH hz;clear he hs hz;have q21:=fun W=>yhr W 2 1
 have q11:=fun W=>yhr W 1 1
 refine ye Tryz.func52 rfl (by rw[Tryz.ntmps52];simp) ?_;intro σ hσ;rw[Tryz.ntmps52];have s0:σ 0=.string ⟨s.toArray⟩:=hσ 0 zi;have s1:σ 1=.int .i64 bs:=hσ 1 zi;clear hσ;have b2:(bs==64)=b64:=by rw[<-hb];rfl
 go_wp2_with fail;refine yr (fun s' w'=>s' 0=.string ⟨s.toArray⟩/\s' 4=.complex .f64 0 0/\s' 5=.nilIface/\s' 6=.int .i64 sz/\w=w') ?_ ?_
 ·intro R' K' HR hK';have hz:=HZ.out;clear HZ hb b2;cases b64
  ·rw[if_neg ze]at hz;subst hz;(go_wp2_with fail;repeat ((first|refine cZ ?_|refine cW ?_);go_wp2_with fail));exact got HR ⟨zb,zb,zb,zb,rfl⟩
  ·rw[if_pos rfl]at hz;subst hz;(go_wp2_with fail;repeat ((first|refine cZ ?_|refine cW ?_);go_wp2_with fail));exact got HR ⟨zb,zb,zb,zb,rfl⟩
 clear s0 s1 σ hb b2 HZ;rintro σ w1 ⟨s0,s4,s5,s6,rfl⟩;have hsz:(⟨s.toArray⟩:ByteArray).size=s.length:=zm;obtain⟨pb,hpb⟩:=zX (decide (1<s.length/\(s.getD 0 0).toNat=40/\(s.getD (s.length-1) 0).toNat=41));obtain⟨u,hu⟩:=zX (yfz s);have hul:u.length<=800:=by
  have:=HIN.out;rw[<-hu];unfold yfz;split
  ·rw[List.length_take,List.length_drop];omega
  ·exact this
 have hP0:pb=false->s=u:=fun e=>by
  rw[e]at hpb;rw[<-hu];unfold yfz;rw[if_neg];rintro⟨h1,h2,h3⟩;exact of_decide_eq_false hpb ⟨h1,by rw[h2];rfl,by rw[h3];rfl⟩
 have hP1:pb=true->2<=s.length/\(⟨s.toArray⟩:ByteArray).extract 1 (s.length-1)=⟨u.toArray⟩:=fun e=>by
  rw[e]at hpb;obtain⟨h1,h2,h3⟩:=of_decide_eq_true hpb;refine⟨h1,?_⟩;rw[<-hu];unfold yfz;rw[if_pos ⟨h1,UInt8.toNat_inj.1 h2,UInt8.toNat_inj.1 h3⟩,yif s 1 (s.length-1) zd zd];rw[show s.length-1-1=s.length-2 by omega]
 have HPB:=zH hpb;have HU:=zH hu;have HP0:=zH hP0;have HP1:=zH hP1;obtain⟨N,hN⟩:=zX s.length;rw[hN]at HPB HP1 HIDX HIN hsz;have HN:=zH hN;have hN8:N<=800:=HIN.out;clear hpb hu hP0 hP1 hN;(try (go_upto_region 4 with fail));refine yr (fun s' w'=>s' 0=.string ⟨s.toArray⟩/\s' 4=.complex .f64 0 0/\s' 5=.nilIface/\s' 6=.int .i64 sz/\s' 29=.bool pb/\w=w') ?_ ?_
 ·intro R' K' HR hK';by_cases h2:1<N
  ·obtain⟨M,hM⟩:∃ M,N=M+1:=⟨N-1,zd⟩;have g1:(2:Int)<=(N:Int):=zd;have g2:(0:Int)<(N:Int):=zd;have g3:(N:Int)-1=(M:Int):=zd;have g4:0<N:=zd;have g5:M<N:=zd;have g6:(M:Int)<(N:Int):=zd;have hidx0:=HIDX.out 0 zd;have hidx1:=HIDX.out M zd;have HPB:=zH (show decide (1<N/\(s.getD 0 0).toNat=40/\(s.getD M 0).toNat=41)=pb by rw[<-HPB.out,show N-1=M by omega]);clear hM;generalize s.getD 0 0=c at *
   generalize s.getD M 0=x at *
   obtain⟨n,hn⟩:=zX c.toNat;obtain⟨l,hl⟩:=zX x.toNat;rw[hn,hl]at HPB;by_cases h40:n=40
   ·by_cases h41:l=41
    ·have e:pb=true:=by rw[<-HPB.out];exact decide_eq_true ⟨h2,h40,h41⟩
     subst h40 h41 e;(go_wp2_with fail;repeat ((first|refine cZ ?_|refine cW ?_);go_wp2_with fail));exact got HR ⟨zb,zb,zb,zb,zb,rfl⟩
    ·obtain⟨a1,a2,a3⟩:=yq (z:=41) rfl h41;have e:pb=false:=by rw[<-HPB.out];exact decide_eq_false (fun h=>h41 h.2.2)
     subst h40 e;(go_wp2_with fail;repeat ((first|refine cZ ?_|refine cW ?_);go_wp2_with fail));exact got HR ⟨zb,zb,zb,zb,zb,rfl⟩
   ·obtain⟨a1,a2,a3⟩:=yq (z:=40) rfl h40;have e:pb=false:=by rw[<-HPB.out];exact decide_eq_false (fun h=>h40 h.2.1)
    subst e;(go_wp2_with fail;repeat ((first|refine cZ ?_|refine cW ?_);go_wp2_with fail));exact got HR ⟨zb,zb,zb,zb,zb,rfl⟩
  ·have e:pb=false:=by rw[<-HPB.out];exact decide_eq_false (fun h=>h2 h.1)
   have g1:decide ((2:Int)<=(N:Int))=false:=zh;have g2:¬((2:Int)<=(N:Int)):=zd;subst e;(go_wp2_with fail;repeat ((first|refine cZ ?_|refine cW ?_);go_wp2_with fail));exact got HR ⟨zb,zb,zb,zb,zb,rfl⟩
 clear s0 s4 s5 s6 σ HPB HIDX;rintro σ w1 ⟨s0,s4,s5,s6,s29,rfl⟩;go_wp2_with fail;refine yr (fun s' w'=>s' 0=.string ⟨u.toArray⟩/\s' 4=.complex .f64 0 0/\s' 5=.nilIface/\s' 6=.int .i64 sz/\w=w') ?_ ?_
 ·intro R' K' HR hK';cases pb
  ·have e:=HP0.out rfl;subst e;(go_wp2_with fail;repeat ((first|refine cZ ?_|refine cW ?_);go_wp2_with fail));exact got HR ⟨zb,zb,zb,zb,rfl⟩
  ·obtain⟨h2,hcut⟩:=HP1.out rfl;obtain⟨M,hM⟩:∃ M,N=M+1:=⟨N-1,zd⟩;rw[show N-1=M by omega]at hcut;have g3:(N:Int)-1=(M:Int):=zd;have g4:(1:Int)<=(M:Int):=zd;have g5:(M:Int)<=(N:Int):=zd;have g6:1<=M:=zd;have g7:M<=N:=zd;clear hM;(go_wp2_with fail;repeat ((first|refine cZ ?_|refine cW ?_);go_wp2_with fail));exact got HR ⟨zb,zb,zb,zb,rfl⟩
 clear s0 s4 s5 s6 s29 σ HP0 HP1 HIN HN hN8 hsz N pb;rintro σ w1 ⟨s0,s4,s5,s6,rfl⟩;have HRUN:=zH (show ∀ x y k,yim A u x y k->yhe A s x y k from fun x y k h=>by unfold yhe;rw[HU.out];exact h);clear HU;have HA1:=zH (HA.out u w HE.out hul);have hsz:(⟨u.toArray⟩:ByteArray).size=u.length:=zm;obtain⟨N,hN⟩:=zX u.length;rw[hN]at hsz hul;have HN:=zH hN;clear hN;(go_wp2_with fail;repeat ((first|refine cZ ?_|refine cW ?_);go_wp2_with fail));refine HA1.out.mono ?_;rintro e w1 ⟨⟨v,n,ev,rfl,hq⟩,hg⟩;have HQ:=zH hq;have HG:=zH hg;have hk:=HB.out u v n ev hq (by rw[HN.out];exact hul);clear hq hg HA1;rcases hk with e1 | ⟨hnN,k1,hk1,e1⟩
 ·subst e1;rw[show erK 1=.iface 101 (.int .i64 2) from rfl];(go_wp2_with fail;repeat ((first|refine cZ ?_|refine cW ?_);go_wp2_with fail));exact xc (.complex .f64 0 0) (.iface 101 (.int .i64 2)) rfl ze ze zb zb ⟨⟨0,0,1,rfl,HRUN.out 0 0 1 ⟨v,n,_,HQ.out,Or.inl ⟨rfl,rfl,rfl,rfl⟩⟩⟩,HG.out⟩
 obtain⟨E1,hE1⟩:=zX (erK k1);have HE1:=zH hE1;have HK1:=zH hk1;clear hE1;rw[e1]at HQ;have HEV:=zH e1;clear e1;obtain⟨eb,heb⟩:=zX (decide (k1=2));(go_upto_region 8 with fail;repeat ((first|refine cZ ?_|refine cW ?_);go_upto_region 8 with fail));refine yr (fun s' w'=>s' 0=.string ⟨u.toArray⟩/\s' 4=.complex .f64 0 0/\s' 5=.nilIface/\s' 6=.int .i64 sz/\s' 7=.nilIface/\s' 8=.float .f64 v/\s' 9=.int .i64 (n:Int)/\s' 10=ev/\s' 43=.bool eb/\w1=w') ?_ ?_
 ·intro R' K' HR hK';rcases hk1 with rfl | rfl
  ·have e1:=HEV.out;rw[show erK 0=.nilIface from rfl]at e1;rw[decide_eq_false ze]at heb;subst e1 heb;(go_wp2_with fail;repeat ((first|refine cZ ?_|refine cW ?_);go_wp2_with fail));exact got HR ⟨zb,zb,zb,zb,zb,zb,zb,zb,zb,rfl⟩
  ·have e1:=HEV.out;rw[show erK 2=.iface 101 (.int .i64 1) from rfl]at e1;rw[decide_eq_true rfl]at heb;subst e1 heb;(go_wp2_with fail;repeat ((first|refine cZ ?_|refine cW ?_);go_wp2_with fail));exact got HR ⟨zb,zb,zb,zb,zb,zb,zb,zb,zb,rfl⟩
 clear s0 s4 s5 s6 σ;rintro σ w2 ⟨s0,s4,s5,s6,s7,s8,s9,s10,s43,rfl⟩;go_wp2_with fail;refine yr (fun s' w'=>s' 0=.string ⟨u.toArray⟩/\s' 4=.complex .f64 0 0/\s' 5=.nilIface/\s' 6=.int .i64 sz/\s' 7=E1/\s' 8=.float .f64 v/\s' 9=.int .i64 (n:Int)/\w1=w') ?_ ?_
 ·intro R' K' HR hK';rcases hk1 with rfl | rfl
  ·have e1:=HEV.out;have hE1:=HE1.out;rw[show erK 0=.nilIface from rfl]at e1 hE1;rw[decide_eq_false ze]at heb;subst e1 hE1 heb;(go_wp2_with fail;repeat ((first|refine cZ ?_|refine cW ?_);go_wp2_with fail));exact got HR ⟨zb,zb,zb,zb,zb,zb,zb,rfl⟩
  ·have e1:=HEV.out;have hE1:=HE1.out;rw[show erK 2=.iface 101 (.int .i64 1) from rfl]at e1 hE1;rw[decide_eq_true rfl]at heb;subst e1 hE1 heb;(go_wp2_with fail;repeat ((first|refine cZ ?_|refine cW ?_);go_wp2_with fail));exact got HR ⟨zb,zb,zb,zb,zb,zb,zb,rfl⟩
 clear s0 s4 s5 s6 s7 s8 s9 s10 s43 σ hk1 heb HEV ev;rintro σ w2 ⟨s0,s4,s5,s6,s7,s8,s9,rfl⟩;have hcut:=yhb u n N HN.out (by rw[<-HN.out];exact hnN);rw[HN.out]at hnN;obtain⟨t,ht⟩:=zX (u.drop n);rw[ht]at hcut;have hnN2:(n:Int)<=(N:Int):=zd;have htl:t.length<=800:=by rw[<-ht,List.length_drop,HN.out];omega
 have HT:=zH ht;have hsz2:(⟨t.toArray⟩:ByteArray).size=t.length:=zm;have HTL:=zH htl;clear ht htl;(go_upto_region 13 with fail;repeat ((first|refine cZ ?_|refine cW ?_);go_upto_region 13 with fail));by_cases ht0:t=[]
 ·subst ht0;(go_wp2_with fail;repeat ((first|refine cZ ?_|refine cW ?_);go_wp2_with fail));exact xc (.complex .f64 v 0) E1 rfl ze ze zb zb ⟨⟨v,0,k1,by rw[HE1.out],HRUN.out v 0 k1 ⟨v,n,_,HQ.out,Or.inr ⟨k1,HK1.out,rfl,by rw[HN.out];exact hnN,Or.inl ⟨HT.out,rfl,rfl,rfl⟩⟩⟩⟩,HG.out⟩
 obtain⟨c,r,hcr⟩:∃ c r,t=c::r:=by
  cases t with
  | nil=>exact absurd rfl ht0
  | cons c r=>exact⟨c,r,rfl⟩
 have HCR:=zH hcr;have HT2:=zH (show u.drop n=c::r by rw[HT.out];exact hcr);have hidx0:=xu t 0 (by rw[hcr];simp);rw[show t.getD 0 0=c by rw[hcr];rfl]at hidx0;have hLr:t.length=r.length+1:=by rw[hcr];rfl
 obtain⟨L,hL⟩:=zX t.length;rw[hL]at hsz2 HTL hLr;have HL:=zH hL;have HLR:=zH hLr;have l1:((L:Int)==0)=false:=zf;have l2:¬(L:Int)=0:=zd;have l3:0<L:=zd;have l4:(0:Int)<(L:Int):=zd;have l5:¬L=0:=zd;have l6:(L==0)=false:=zf;have hnN':=hnN;clear hcr ht0 hL hLr;obtain⟨m,hm⟩:=zX c.toNat;have HM:=zH hm;by_cases hc:¬(m=43\/m=45)
 ·have HSY:=zH (show (c=105->r≠[])->yhe A s 0 0 1 from fun h=>HRUN.out 0 0 1 ⟨v,n,_,HQ.out,Or.inr ⟨k1,HK1.out,rfl,by rw[HN.out];exact hnN',Or.inr (Or.inr (Or.inl ⟨c,r,HT2.out,fun e=>hc (Or.inl (by rw[<-HM.out,e];rfl)),fun e=>hc (Or.inr (by rw[<-HM.out,e];rfl)),h,rfl,rfl,rfl⟩))⟩⟩);obtain⟨a1,a2,a3⟩:=yq (z:=43) rfl (fun e=>hc (Or.inl e):¬m=43);obtain⟨b1,b2,b3⟩:=yq (z:=45) rfl (fun e=>hc (Or.inr e):¬m=45);clear hc hm;have hm:=HM.out;by_cases h105:m=105
  ·subst h105;clear a1 a2 a3 b1 b2 b3;by_cases hL1:L=1
   ·have hr:r=[]:=List.length_eq_zero_iff.1 (by have:=HLR.out;omega);have HI:=zH (show yhe A s 0 v k1 from HRUN.out 0 v k1 ⟨v,n,_,HQ.out,Or.inr ⟨k1,HK1.out,rfl,by rw[HN.out];exact hnN',Or.inr (Or.inl ⟨by rw[HT2.out,hr,show c=105 from UInt8.toNat_inj.1 HM.out],rfl,rfl,rfl⟩)⟩⟩);clear hr;subst hL1;clear l1 l2 l3 l4 l5 l6;(go_wp2_with fail;repeat ((first|refine cZ ?_|refine cW ?_);go_wp2_with fail));exact xc (.complex .f64 0 v) E1 rfl ze ze zb zb ⟨⟨0,v,k1,by rw[HE1.out],HI.out⟩,HG.out⟩
   ·have HS:=zH (HSY.out (fun _ e=>hL1 (by rw[HLR.out,e];rfl)));have m1:((L:Int)==1)=false:=zf;have m2:¬(L:Int)=1:=zd;have m3:(L==1)=false:=zf;(go_wp2_with fail;repeat ((first|refine cZ ?_|refine cW ?_);go_wp2_with fail));exact xc (.complex .f64 0 0) (.iface 101 (.int .i64 2)) rfl ze ze zb zb ⟨⟨0,0,1,rfl,HS.out⟩,HG.out⟩
  ·have HS:=zH (HSY.out (fun e=>absurd (by rw[<-HM.out,e];rfl) h105));obtain⟨c1,c2,c3⟩:=yq (z:=105) rfl h105;(go_wp2_with fail;repeat ((first|refine cZ ?_|refine cW ?_);go_wp2_with fail));exact xc (.complex .f64 0 0) (.iface 101 (.int .i64 2)) rfl ze ze zb zb ⟨⟨0,0,1,rfl,HS.out⟩,HG.out⟩
 replace hc:m=43\/m=45:=by omega
 have HC:=zH hc;obtain⟨q,hq⟩:=zX (yg6 c r);have HSE:=zH hq;have hql:q.length<=800:=by
  have:=HTL.out;have h3:=HLR.out;rw[<-hq];unfold yg6;split
  ·omega
  ·rw[List.length_cons];omega
 have HRUN2:=zH (show ∀ x y k,(∃ v2 n2 ev2,A q v2 n2 ev2/\((ev2=erK 1/\x=0/\y=0/\k=1)\/∃ k2,(k2=0\/k2=2)/\ev2=erK k2/\n2<=q.length/\((q.drop n2≠[105]/\x=0/\y=0/\k=1)\/(q.drop n2=[105]/\x=v/\y=v2/\k=if k2=2 then 2 else k1))))->yhe A s x y k from fun x y k h=>HRUN.out x y k ⟨v,n,_,HQ.out,Or.inr ⟨k1,HK1.out,rfl,by rw[HN.out];exact hnN',Or.inr (Or.inr (Or.inr ⟨c,r,HT2.out,by
   rcases HC.out with e | e
   ·exact Or.inl (UInt8.toNat_inj.1 (by rw[HM.out,e];rfl))
   ·exact Or.inr (UInt8.toNat_inj.1 (by rw[HM.out,e];rfl)),by rw[HSE.out];exact h⟩))⟩⟩)
 clear HRUN;(go_upto_block 0 with fail;repeat ((first|refine cZ ?_|refine cW ?_);go_upto_block 0 with fail));refine yr (fun s' w'=>s' 0=.string ⟨q.toArray⟩/\s' 4=.complex .f64 0 0/\s' 5=.nilIface/\s' 6=.int .i64 sz/\s' 7=E1/\s' 8=.float .f64 v/\w1=w') ?_ ?_
 ·intro R' K' HR hK';rcases hc with h43 | h45
  ·by_cases hL1:1<L
   ·have hidx1:=xu t 1 (by rw[HL.out];exact hL1);rw[show t.getD 1 0=r.getD 0 0 by rw[HCR.out];rfl]at hidx1;have m1:(1:Int)<(L:Int):=zd;have m4:(1:Int)<=(L:Int):=zd;have m5:1<=L:=zd;have hcut1:=yhb t 1 L HL.out zd;rw[show t.drop 1=r by rw[HCR.out];rfl]at hcut1;have hqe:q=if (r.getD 0 0).toNat=43 then t else r:=by
     rw[<-HSE.out,HCR.out];unfold yg6;by_cases h:(r.getD 0 0).toNat=43
     ·rw[if_pos h,if_neg (fun hh=>hh.2.2 (UInt8.toNat_inj.1 h))]
     ·rw[if_neg h,if_pos ⟨UInt8.toNat_inj.1 (by rw[HM.out,h43];rfl),fun e=>by have:=HLR.out;rw[e]at this;simp at this;omega,fun e=>h (by rw[e];rfl)⟩]
    generalize r.getD 0 0=d at *
    obtain⟨p,hp⟩:=zX d.toNat;rw[hp]at hqe;by_cases hp43:p=43
    ·rw[if_pos hp43]at hqe;subst hp43 hqe h43;clear l1 l2 l5 l6;(go_wp2_with fail;repeat ((first|refine cZ ?_|refine cW ?_);go_wp2_with fail));exact got HR ⟨zb,zb,zb,zb,zb,zb,rfl⟩
    ·obtain⟨a1,a2,a3⟩:=yq (z:=43) rfl hp43;rw[if_neg hp43]at hqe;subst hqe h43;clear l1 l2 l5 l6;(go_wp2_with fail;repeat ((first|refine cZ ?_|refine cW ?_);go_wp2_with fail));exact got HR ⟨zb,zb,zb,zb,zb,zb,rfl⟩
   ·have hqe:q=t:=by
     rw[<-HSE.out,HCR.out];unfold yg6;rw[if_neg];rintro⟨-,h,-⟩;have:=HLR.out;exact h (List.length_eq_zero_iff.1 zd)
    have m1:decide ((1:Int)<(L:Int))=false:=zh;have m2:¬((1:Int)<(L:Int)):=zd;subst hqe h43;(go_wp2_with fail;repeat ((first|refine cZ ?_|refine cW ?_);go_wp2_with fail));exact got HR ⟨zb,zb,zb,zb,zb,zb,rfl⟩
  ·have hqe:q=t:=by
    rw[<-HSE.out,HCR.out];unfold yg6;rw[if_neg];rintro⟨h,-,-⟩;have:=HM.out;rw[h,h45]at this;revert this;decide
   subst hqe h45;(go_wp2_with fail;repeat ((first|refine cZ ?_|refine cW ?_);go_wp2_with fail));exact got HR ⟨zb,zb,zb,zb,zb,zb,rfl⟩
 clear s0 s4 s5 s6 s7 s8 s9 σ hsz hsz2 hcut hidx0 l1 l2 l3 l4 l5 l6 hm hc hq HSE HT HT2 HL HLR HTL HCR HN hnN hnN' hnN2 hul;rintro σ w2 ⟨s0,s4,s5,s6,s7,s8,rfl⟩;have HA2:=zH (HA.out q w1 (HE.out.grown HG.out (fun _ e=>zL)) hql);have hsz:(⟨q.toArray⟩:ByteArray).size=q.length:=zm;obtain⟨N2,hN2⟩:=zX q.length;rw[hN2]at hsz hql;have HN2:=zH hN2;clear hN2;(go_wp2_with fail;repeat ((first|refine cZ ?_|refine cW ?_);go_wp2_with fail));refine HA2.out.mono ?_;rintro e w2 ⟨⟨v2,n2,ev2,rfl,hq2⟩,hg2⟩;have HQ2:=zH hq2;have HG2:=zH (ym HG.out hg2);have hk2:=HB.out q v2 n2 ev2 hq2 (by rw[HN2.out];exact hql);clear hq2 hg2 HA2;rcases hk2 with e1 | ⟨hn2,k2,hk2,e1⟩
 ·subst e1;rw[show erK 1=.iface 101 (.int .i64 2) from rfl];(go_wp2_with fail;repeat ((first|refine cZ ?_|refine cW ?_);go_wp2_with fail));exact xc (.complex .f64 0 0) (.iface 101 (.int .i64 2)) rfl ze ze zb zb ⟨⟨0,0,1,rfl,HRUN2.out 0 0 1 ⟨v2,n2,_,HQ2.out,Or.inl ⟨rfl,rfl,rfl,rfl⟩⟩⟩,HG2.out⟩
 obtain⟨E2,hE2⟩:=zX (erK (if k2=2 then 2 else k1));have HE2:=zH hE2;have HK2:=zH hk2;clear hE2;rw[e1]at HQ2;have HEV2:=zH e1;clear e1;obtain⟨eb,heb⟩:=zX (decide (k2=2));(go_upto_region 25 with fail;repeat ((first|refine cZ ?_|refine cW ?_);go_upto_region 25 with fail));refine yr (fun s' w'=>s' 0=.string ⟨q.toArray⟩/\s' 4=.complex .f64 0 0/\s' 5=.nilIface/\s' 7=E1/\s' 8=.float .f64 v/\s' 11=.float .f64 v2/\s' 9=.int .i64 (n2:Int)/\s' 10=ev2/\s' 91=.bool eb/\w2=w') ?_ ?_
 ·intro R' K' HR hK';rcases hk2 with rfl | rfl
  ·have e1:=HEV2.out;rw[show erK 0=.nilIface from rfl]at e1;rw[decide_eq_false ze]at heb;subst e1 heb;(go_wp2_with fail;repeat ((first|refine cZ ?_|refine cW ?_);go_wp2_with fail));exact got HR ⟨zb,zb,zb,zb,zb,zb,zb,zb,zb,rfl⟩
  ·have e1:=HEV2.out;rw[show erK 2=.iface 101 (.int .i64 1) from rfl]at e1;rw[decide_eq_true rfl]at heb;subst e1 heb;(go_wp2_with fail;repeat ((first|refine cZ ?_|refine cW ?_);go_wp2_with fail));exact got HR ⟨zb,zb,zb,zb,zb,zb,zb,zb,zb,rfl⟩
 clear s0 s4 s5 s6 s7 s8 σ;rintro σ w3 ⟨s0,s4,s5,s7,s8,s11,s9,s10,s91,rfl⟩;go_wp2_with fail;refine yr (fun s' w'=>s' 0=.string ⟨q.toArray⟩/\s' 4=.complex .f64 0 0/\s' 5=.nilIface/\s' 7=E2/\s' 8=.float .f64 v/\s' 11=.float .f64 v2/\s' 9=.int .i64 (n2:Int)/\w2=w') ?_ ?_
 ·intro R' K' HR hK';rcases hk2 with rfl | rfl
  ·have e1:=HEV2.out;have e3:E1=E2:=by rw[<-HE1.out,<-HE2.out];rfl
   rw[show erK 0=.nilIface from rfl]at e1;rw[decide_eq_false ze]at heb;subst e1 e3 heb;(go_wp2_with fail;repeat ((first|refine cZ ?_|refine cW ?_);go_wp2_with fail));exact got HR ⟨zb,zb,zb,zb,zb,zb,zb,rfl⟩
  ·have e1:=HEV2.out;have e3:.iface 101 (.int .i64 1)=E2:=by rw[<-HE2.out];rfl
   rw[show erK 2=.iface 101 (.int .i64 1) from rfl]at e1;rw[decide_eq_true rfl]at heb;subst e1 e3 heb;(go_wp2_with fail;repeat ((first|refine cZ ?_|refine cW ?_);go_wp2_with fail));exact got HR ⟨zb,zb,zb,zb,zb,zb,zb,rfl⟩
 clear s0 s4 s5 s7 s8 s11 s9 s10 s91 σ hk2 heb HEV2 ev2;rintro σ w3 ⟨s0,s4,s5,s7,s8,s11,s9,rfl⟩;have hcut:=yhb q n2 N2 HN2.out (by rw[<-HN2.out];exact hn2);have HN3:=zH hn2;rw[HN2.out]at hn2;obtain⟨d,hd⟩:=zX (q.drop n2);rw[hd]at hcut;have hn3:(n2:Int)<=(N2:Int):=zd;have HD:=zH hd;clear hd;by_cases h:d=[105]
 ·have HI:=zH (HRUN2.out v v2 _ ⟨v2,n2,_,HQ2.out,Or.inr ⟨k2,HK2.out,rfl,HN3.out,Or.inr ⟨by rw[HD.out,h],rfl,rfl,rfl⟩⟩⟩);subst h;(go_wp2_with fail;repeat ((first|refine cZ ?_|refine cW ?_);go_wp2_with fail));exact xc (.complex .f64 v v2) E2 rfl ze ze zb zb ⟨⟨v,v2,_,by rw[HE2.out],HI.out⟩,HG2.out⟩
 ·have HI:=zH (HRUN2.out 0 0 1 ⟨v2,n2,_,HQ2.out,Or.inr ⟨k2,HK2.out,rfl,HN3.out,Or.inl ⟨by rw[HD.out];exact h,rfl,rfl,rfl⟩⟩⟩);have h':(d==[105])=false:=by rw[beq_eq_false_iff_ne];exact h
  (go_wp2_with fail;repeat ((first|refine cZ ?_|refine cW ?_);go_wp2_with fail));exact xc (.complex .f64 0 0) (.iface 101 (.int .i64 2)) rfl ze ze zb zb ⟨⟨0,0,1,rfl,HI.out⟩,HG2.out⟩
theorem ygh (T:Nat) (s:List UInt8) (w:World) (he:EnvP T w) (hs:s.length<=800):
  Calls Tryz.prog 52 #[.string ⟨s.toArray⟩,.int .i64 64] w fun e w'=>(∃ x y k:Nat,e=.returned (.tuple #[.complex .f64 x y,erK k])/\yhe yij s x y k)/\w.grownBy w' none:=
 ygc T yij s 64 32 true w he hs rfl rfl (fun t w he ht=>(zys T t w he ht).mono (by
  rintro e w1 ⟨⟨v,r,n,ev,rfl,h1,h2⟩,hg⟩
  exact⟨⟨r,n,ev,rfl,v,h1,h2⟩,hg⟩)) (fun t v n ev h ht=>by
  rcases frOK32.back h ht with⟨-,h⟩ | ⟨h1,-,-,k,h2,h3,-⟩
  ·exact Or.inl h
  ·exact Or.inr ⟨h1,k,h2,h3⟩)
end
end Go.Proofs.YtnifedmhgncioaaGreatDoor
