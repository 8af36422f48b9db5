/- Lemmas that the claim's top text leans on. No condition of their own. -/
import Derived.Test.YtoacbkokkkpofaaGreatDoorK28
import Derived.Test.YtoacbkokkkpofaaGreatDoorK39
namespace Go.Proofs.YtoacbkokkkpofaaGreatDoor
open Go.RowKit
set_option linter.unusedSimpArgs false
set_option linter.unusedVariables false
set_option maxHeartbeats 16000000
section
attribute [local go_sem] undef
theorem Dec.setNg {w:World} {g:Nat} {bs:List UInt8} {nd dp:Int} {ng tr:Bool} (h:Dec w g bs nd dp ng tr) (x:Bool):Dec (w.setCell ⟨g,802,none⟩ (.bool x)) g bs nd dp x tr:=by
 refine⟨h.1,?_⟩;have:=h.2.setCell 802 (.bool x);rw[List.set_append_right _ _ zv,List.length_map,h.1]at this;exact this
theorem sd95 {c:UInt8} {r:List UInt8} {dot dig:Bool} {nd:Nat} {dp:Int} {N:Nat} (h:c.toNat=95):dsD (c::r) dot dig nd dp N=dsD r dot dig nd dp N:=by
 rw[dsD,if_pos (UInt8.toNat_inj.1 h)]
theorem sd46n {c:UInt8} {r:List UInt8} {dig:Bool} {nd:Nat} {dp:Int} {N:Nat} (h:c.toNat=46):dsD (c::r) false dig nd dp N=dsD r true dig nd nd N:=by
 rw[dsD,if_neg (uw (by rw[h];decide)),if_pos (UInt8.toNat_inj.1 h),if_neg ze]
theorem sd46y {c:UInt8} {r:List UInt8} {dig:Bool} {nd:Nat} {dp:Int} {N:Nat} (h:c.toNat=46):dsD (c::r) true dig nd dp N=(true,dig,nd,dp,N,c::r):=by
 rw[dsD,if_neg (uw (by rw[h];decide)),if_pos (UInt8.toNat_inj.1 h),if_pos rfl]
theorem sdD {c:UInt8} {r:List UInt8} {dot dig:Bool} {nd:Nat} {dp:Int} {N:Nat} (h:48<=c.toNat/\c.toNat<=57):
  dsD (c::r) dot dig nd dp N=if c.toNat-48=0/\nd=0 then dsD r dot true nd (dp-1) N else dsD r dot true (nd+1) dp (N*10+(c.toNat-48)):=by
 rw[dsD,if_neg (uw (by show ¬c.toNat=95;omega)),if_neg (uw (by show ¬c.toNat=46;omega))];have e:dgV false c=some (c.toNat-48):=by unfold dgV;rw[if_pos h]
 rw[e]
theorem sdN {c:UInt8} {r:List UInt8} {dot dig:Bool} {nd:Nat} {dp:Int} {N:Nat} (h1:¬(48<=c.toNat/\c.toNat<=57)) (h2:c.toNat≠95) (h3:c.toNat≠46):dsD (c::r) dot dig nd dp N=(dot,dig,nd,dp,N,c::r):=by
 rw[dsD,if_neg (uw h2),if_neg (uw h3)];have e:dgV false c=none:=by unfold dgV;rw[if_neg h1,if_neg zi]
 rw[e]
theorem zex (bs:List UInt8) (n:Nat) (c:UInt8) (h:n<bs.length):(bs.set n c).take (n+1)=bs.take n++[c]:=by
 rw[List.take_add_one,List.take_set_of_le (Nat.le_refl _),List.getElem?_set_self h];rfl
theorem zo5 (bs:List UInt8) (N nd d:Nat) (hd:d<10) (hl:nd<bs.length) (h:bs.take nd=qw N nd):(bs.set nd (UInt8.ofNat (48+d))).take (nd+1)=qw (N*10+d) (nd+1):=by
 rw[zex _ _ _ hl,h,zap,show (N*10+d) / 10=N by omega];congr 2;unfold Lib.dg;rw[Nat.pow_zero,Nat.div_one,show (N*10+d)%10=d by omega]
set_option maxRecDepth 100000 in
theorem zts (g:Nat) (s:List UInt8) (L:Lit) (bs0:List UInt8) (ng0 tr0:Bool) (w:World) (hL:zau s=some L) (hx:L.hex=false) (h0:L.num≠0) (hs:s.length<=800) (hd:Dec w g bs0 0 0 ng0 tr0):
  Calls Tryz.prog 98 #[.pointer (some ⟨g,0,none⟩),.string ⟨s.toArray⟩] w fun r w'=>r=.returned (.bool true)/\DecT w' g L.num L.ex L.neg false/\Gr w w' g:=by
 have HLOW:=zH (fun (c:UInt8) W=>za5 c W);obtain⟨hne,dotT,ndT,dpT,rest,hT,hndT,hdpT,hrest⟩:=ztr hL hx h0;have hok:=zfk hL;have hneg:(sgn s).1=L.neg:=hok.2.2.2.2.symm;have hgoE:=zoo L.de hok.2.2.1;have hE9:goE L.de<=99999:=zd;have hRH:∀ c r,rest=c::r->wc c=101:=by
  intro c r h;rcases hrest with⟨h1,-⟩ | ⟨c',r1,d,r2,h1,h2,-⟩
  ·rw[h1]at h;cases h
  ·rw[h1]at h;cases h;exact h2
 have hndT8:ndT<=800:=by
  rw[hndT];have h1:=zko 10 zd (L.da++L.db) (fun d h=>by have:=hok.1 d h;rw[hx]at this;exact this);have h2:L.num<10^(L.da++L.db).length:=by unfold Lit.num;rw[hx];exact h1
  have:=zee h2;rw[List.length_append]at this;omega
 have hex:L.ex=goX L-(L.db.length:Int):=by unfold Lit.ex zb7;rw[hx];simp
 have hlen:=hok.2.1;have hfin:∀ W bs,bs.take ndT=qw L.num ndT->Dec W g bs ndT ((ndT:Int)-L.db.length+goX L) L.neg false->DecT W g L.num L.ex L.neg false:=by
  intro W bs h1 h2;rw[hndT]at h1 h2;exact⟨h0,zd,bs,h1,by rw[hex,show goX L-(L.db.length:Int)+(yi L.num:Int)=(yi L.num:Int)-L.db.length+goX L by omega];exact h2⟩
 have HFIN:=zH hfin;have HRH:=zH hRH;have HREST:=zH hrest;have HDPT:=zH hdpT;have HTT:=zH hT;have HE9:=zH hE9;obtain⟨ng,hng⟩:=zX L.neg;rw[hng]at hneg HFIN;obtain⟨X,hX⟩:=zX (goX L);rw[hX]at HFIN;have HXX:=zH hX;obtain⟨lb,hlb⟩:=zX L.db.length;rw[hlb]at HDPT HFIN;have hlb8:lb<=800:=zd;rw[hng];clear hL hok hrest hT hdpT hRH hfin hndT hex hx h0 hgoE hE9 hng hX hlb hlen;refine ye Tryz.func98 rfl (by rw[Tryz.ntmps98];simp) ?_;intro σ hσ;rw[Tryz.ntmps98];have s0:σ 0=.pointer (some ⟨g,0,none⟩):=hσ 0 zi;have s1:σ 1=.string ⟨s.toArray⟩:=hσ 1 zi;clear hσ;have hsz:(⟨s.toArray⟩:ByteArray).size=s.length:=zm;have HIDX:=zH (fun i h=>xu s i h);obtain⟨N,hN⟩:=zX s.length;rw[hN]at hsz hs HIDX;have HN:=zH hN;clear hN;have hN0:0<N:=by rw[<-HN.out];exact List.length_pos_iff.2 hne
 have n1:(0:Int)<(N:Int):=zd;have n3:decide ((N:Int)<=0)=false:=zh;have n4:decide (N<=0)=false:=zh;have n5:decide (N=0)=false:=zh;have n6:¬N=0:=zd;have hidx0:=HIDX.out 0 hN0;have hsg:(sgn s)=(decide ((s.getD 0 0).toNat=45),s.drop (0+if (s.getD 0 0).toNat=43\/(s.getD 0 0).toNat=45 then 1 else 0)):=zmz (s:=s) (i:=0) (by rw[HN.out];exact hN0);obtain⟨c,hc⟩:=zX (s.getD 0 0);rw[hc]at hsg hidx0;obtain⟨n,hn⟩:=zX c.toNat;simp only[hn]at hsg;rw[hsg]at hneg;simp only at hneg;obtain⟨i0,hi0⟩:=zX (0+(if n=43\/n=45 then 1 else 0));rw[hi0]at hsg;have hi0N:i0<=N:=by rw[<-hi0];split <;> omega
 have HI0:=zH hi0;have HNEG:=zH hneg;have hT2:=HTT.out;rw[hsg]at hT2;have HT:=zH hT2;have hlt:=hd.lt;have fz:=hd.frozen;have hd1:=hd.setNg false;have hd2:=hd1.setTr false;have HD:=zH hd2;have HG:=zH (((Gr.refl w g).set 802 (.bool false)).set 803 (.bool false));have d3:=hd.cng;have d4:=hd.ctr;clear hc hsg hi0 hneg hT2 hd hd1 hd2 HTT;(go_upto_block 0 with fail;repeat ((first|refine cZ ?_|refine cW ?_);go_upto_block 0 with fail));refine yr (fun s' w'=>s' 0=.pointer (some ⟨g,0,none⟩)/\s' 1=.string ⟨s.toArray⟩/\s' 4=.bool false/\s' 5=.int .i64 (i0:Int)/\Dec w' g bs0 0 0 ng false/\Gr w w' g) ?_ ?_
 ·intro R' K' HR hK';by_cases h43:n=43
  ·subst h43;have e1:ng=false:=by rw[<-HNEG.out];rfl
   have e2:i0=1:=by rw[<-HI0.out];rfl
   subst e1 e2;(go_wp2_with fail;repeat ((first|refine cZ ?_|refine cW ?_);go_wp2_with fail));exact got HR ⟨zb,zb,zb,zb,HD.out,HG.out⟩
  ·obtain⟨a1,a2,a3⟩:=yq (z:=43) rfl h43;by_cases h45:n=45
   ·subst h45;have e1:ng=true:=by rw[<-HNEG.out];rfl
    have e2:i0=1:=by rw[<-HI0.out];rfl
    subst e1 e2;clear h43 a1 a2 a3;(go_wp2_with fail;repeat ((first|refine cZ ?_|refine cW ?_);go_wp2_with fail));exact got HR ⟨zb,zb,zb,zb,HD.out.setNg true,HG.out.set 802 (.bool true)⟩
   ·obtain⟨b1,b2,b3⟩:=yq (z:=45) rfl h45;have e1:ng=false:=by rw[<-HNEG.out];exact decide_eq_false h45
    have e2:i0=0:=by rw[<-HI0.out,if_neg (fun h=>h.elim h43 h45)]
    subst e1 e2;clear h43 h45;(go_wp2_with fail;repeat ((first|refine cZ ?_|refine cW ?_);go_wp2_with fail));exact got HR ⟨zb,zb,zb,zb,HD.out,HG.out⟩
 clear s0 s1 σ HD HG hlt fz d3 d4 hidx0 HI0 HNEG n1 n3 n4 n5 n6 hn n c;rintro σ w1 ⟨s0,s1,s4,s5,hd,hg⟩;have HD:=zH hd;have HG:=zH hg;clear hd hg;(go_upto_block 1 with fail;repeat ((first|refine cZ ?_|refine cW ?_);go_upto_block 1 with fail));refine yr (fun s' w'=>∃ (i nd:Nat) (dot dig:Bool) (dp:Int) (Nn:Nat) (bs:List UInt8),i<=N/\(dotT,true,ndT,dpT,L.num,rest)=(dot,dig,nd,dp,Nn,s.drop i)/\s' 0=.pointer (some ⟨g,0,none⟩)/\s' 1=.string ⟨s.toArray⟩/\s' 4=.bool false/\s' 5=.int .i64 (i:Int)/\s' 6=.bool dot/\s' 7=.bool dig/\bs.take nd=qw Nn nd/\-(800:Int)<=dp/\dp<=800/\Dec w' g bs nd dp ng false/\Gr w w' g) ?_ ?_
 ·intro R' K' HR hK';(go_wp2_with fail;repeat ((first|refine cZ ?_|refine cW ?_);go_wp2_with fail));refine xb (fun kk s' w'=>∃ (i nd:Nat) (dot dig:Bool) (dp:Int) (Nn:Nat) (bs:List UInt8),i<=N/\kk=N-i/\dsD (s.drop i) dot dig nd dp Nn=(dotT,true,ndT,dpT,L.num,rest)/\nd<=i/\-(i:Int)<=dp/\dp<=i/\s' 0=.pointer (some ⟨g,0,none⟩)/\s' 1=.string ⟨s.toArray⟩/\s' 4=.bool false/\s' 5=.int .i64 (i:Int)/\s' 6=.bool dot/\s' 7=.bool dig/\bs.take nd=qw Nn nd/\Dec w' g bs nd dp ng false/\Gr w w' g) (N-i0)
   ⟨i0,0,false,false,0,0,bs0,hi0N,rfl,HT.out,zd,zd,zd,zb,zb,zb,zb,zb,zb,rfl,HD.out,HG.out⟩ ?_
  clear s0 s1 s4 s5 σ HT HD HG hi0N i0;rintro kk σ wk ⟨i,nd,dot,dig,dp,Nn,bs,hi,hkk,hsc,o3,o4,o5,s0,s1,s4,s5,s6,s7,hbs,hd,hg⟩ RK KK HRK hKK;have HKK:=zH hkk;have HSC:=zH hsc;have HBS:=zH hbs;have HD:=zH hd;have HG:=zH hg;have hlt:=hd.lt;have fz:=hd.frozen;have d1:=hd.cnd;have d2:=hd.cdp;clear hkk hsc hbs hd hg;by_cases hiN:i<N
  ·have hidx:=HIDX.out i hiN;have hiN':(i:Int)<(N:Int):=zd;have hdr:=ua s i zn;have hsc:=HSC.out;rw[hdr]at hsc;have HDR:=zH hdr;generalize s.getD i 0=c at *
   obtain⟨n,hn⟩:=zX c.toNat;have HNN:=zH hn;have HS2:=zH hsc;clear hdr hsc HSC;by_cases h95:n=95
   ·have HF:=zH ((sd95 (HNN.out.trans h95)).symm.trans HS2.out);subst h95;(go_wp2_with fail;repeat ((first|refine cZ ?_|refine cW ?_);go_wp2_with fail));exact wo HRK (N-(i+1)) (by have:=HKK.out;omega) ⟨i+1,nd,dot,dig,dp,Nn,bs,zd,rfl,HF.out,zd,zd,zd,zb,zb,zb,zb,zb,zb,HBS.out,HD.out,HG.out⟩
   ·obtain⟨a1,a2,a3⟩:=yq (z:=95) rfl h95;have H95:=zH h95;clear h95;by_cases h46:n=46
    ·subst h46;cases dot
     ·have HF:=zH ((sd46n HNN.out).symm.trans HS2.out);(go_wp2_with fail;repeat ((first|refine cZ ?_|refine cW ?_);go_wp2_with fail));exact wo HRK (N-(i+1)) (by have:=HKK.out;omega) ⟨i+1,nd,true,dig,(nd:Int),Nn,bs,zd,rfl,HF.out,zd,zd,zd,zb,zb,zb,zb,zb,zb,HBS.out,HD.out.setDp _,HG.out.set _ _⟩
     ·exfalso;have h1:=(sd46y HNN.out).symm.trans HS2.out;have h2:c::s.drop (i+1)=rest:=congrArg (fun x=>x.2.2.2.2.2) h1;have h3:=HRH.out _ _ h2.symm;have h4:c=46:=UInt8.toNat_inj.1 HNN.out;rw[h4]at h3;revert h3;decide
    ·obtain⟨b1,b2,b3⟩:=yq (z:=46) rfl h46;have H46:=zH h46;clear h46;obtain⟨dd,hdd⟩:=zX (decide (48<=n/\n<=57));have HDD:=zH hdd;clear hdd;(go_upto_region 20 with fail;repeat ((first|refine cZ ?_|refine cW ?_);go_upto_region 20 with fail));refine yr (fun s' w'=>s' 0=.pointer (some ⟨g,0,none⟩)/\s' 1=.string ⟨s.toArray⟩/\s' 4=.bool false/\s' 5=.int .i64 (i:Int)/\s' 6=.bool dot/\s' 7=.bool dig/\s' 58=.bool dd/\w'=wk) ?_ ?_
     ·intro R2 K2 HR2 hK2;by_cases h1:48<=n
      ·have k1:(48:Int)<=(n:Int):=zd;by_cases h2:n<=57
       ·have k2:(n:Int)<=57:=zd;have e:dd=true:=by rw[<-HDD.out];exact decide_eq_true ⟨h1,h2⟩
        subst e;go_wp2_with fail;all_goals exact got HR2 ⟨zb,zb,zb,zb,zb,zb,zb,rfl⟩
       ·have e:dd=false:=by rw[<-HDD.out];exact decide_eq_false (fun h=>h2 h.2)
        have k2:decide ((n:Int)<=57)=false:=zh;have k3:decide (n<=57)=false:=zh;subst e;clear h2;go_wp2_with fail;all_goals exact got HR2 ⟨zb,zb,zb,zb,zb,zb,zb,rfl⟩
      ·have e:dd=false:=by rw[<-HDD.out];exact decide_eq_false (fun h=>h1 h.1)
       have k2:decide (48<=(n:Int))=false:=zh;have k3:decide (48<=n)=false:=zh;subst e;clear h1;go_wp2_with fail;all_goals exact got HR2 ⟨zb,zb,zb,zb,zb,zb,zb,rfl⟩
     clear s0 s1 s4 s5 s6 s7 σ;rintro σ w2 ⟨s0,s1,s4,s5,s6,s7,s58,rfl⟩;cases dd
     ·have HF:=zH (show (dotT,true,ndT,dpT,L.num,rest)=(dot,dig,nd,dp,Nn,s.drop i) by
       rw[HDR.out,<-HS2.out];exact sdN (fun h=>by have:=HDD.out;rw[decide_eq_true (by rw[<-HNN.out];exact h)]at this;cases this) (by rw[HNN.out];exact H95.out) (by rw[HNN.out];exact H46.out))
      (go_wp2_with fail;repeat ((first|refine cZ ?_|refine cW ?_);go_wp2_with fail));exact got HR ⟨i,nd,dot,dig,dp,Nn,bs,hi,HF.out,zb,zb,zb,zb,zb,zb,HBS.out,zd,zd,HD.out,HG.out⟩
     ·have hdg:=of_decide_eq_true HDD.out;have HF:=zH ((sdD (by rw[HNN.out];exact hdg)).symm.trans HS2.out);rw[hn]at HF;obtain⟨z,hz⟩:=zX (decide (n=48/\nd=0));have HZ:=zH hz;clear hz;(go_upto_region 22 with fail;repeat ((first|refine cZ ?_|refine cW ?_);go_upto_region 22 with fail));refine yr (fun s' w'=>s' 0=.pointer (some ⟨g,0,none⟩)/\s' 1=.string ⟨s.toArray⟩/\s' 4=.bool false/\s' 5=.int .i64 (i:Int)/\s' 6=.bool dot/\s' 7=.bool true/\s' 79=.bool z/\w'=w2) ?_ ?_
      ·intro R2 K2 HR2 hK2;by_cases h1:n=48
       ·by_cases h2:nd=0
        ·have e:z=true:=by rw[<-HZ.out];exact decide_eq_true ⟨h1,h2⟩
         subst h1 h2 e;go_wp2_with fail;all_goals exact got HR2 ⟨zb,zb,zb,zb,zb,zb,zb,rfl⟩
        ·obtain⟨c1,c2,c3⟩:=yq (z:=0) rfl h2;have e:z=false:=by rw[<-HZ.out];exact decide_eq_false (fun h=>h2 h.2)
         subst h1 e;clear h2;go_wp2_with fail;all_goals exact got HR2 ⟨zb,zb,zb,zb,zb,zb,zb,rfl⟩
       ·obtain⟨c1,c2,c3⟩:=yq (z:=48) rfl h1;have e:z=false:=by rw[<-HZ.out];exact decide_eq_false (fun h=>h1 h.1)
        subst e;clear h1;go_wp2_with fail;all_goals exact got HR2 ⟨zb,zb,zb,zb,zb,zb,zb,rfl⟩
      clear s0 s1 s4 s5 s6 s7 s58 σ;rintro σ w3 ⟨s0,s1,s4,s5,s6,s7,s79,rfl⟩;cases z
      ·have HF2:=zH (show dsD (s.drop (i+1)) dot true (nd+1) dp (Nn*10+(n-48))=(dotT,true,ndT,dpT,L.num,rest) by
        rw[<-HF.out,if_neg];intro h;have:=of_decide_eq_false HZ.out;exact this ⟨zd,h.2⟩)
       have hnd8:(nd:Int)<800:=zd;have hdW:∃ v,w3.cell? ⟨g,nd,none⟩=some v:=⟨_,HD.out.digit nd zd⟩;obtain⟨vW,hvW⟩:=hdW;have hbl:bs.length=800:=HD.out.len;have HB2:=zH (zo5 bs Nn nd (n-48) zd zd HBS.out);have hn256:n<256:=by rw[<-HNN.out];exact UInt8.toNat_lt c
       have e48:((n:Int)).toNat=48+(n-48):=zd;have hwd:IntKind.i64.wrap ((nd:Int)+1)=(nd:Int)+1:=zk;have hdn:=HD.out.setDigit nd zd (n:Int) zd zd;rw[e48]at hdn;have HDN:=zH hdn;clear hdn;(go_upto_region 25 with fail;repeat ((first|refine cZ ?_|refine cW ?_);go_upto_region 25 with fail));go_still_tail 11,zg;(go_wp2_with fail;repeat ((first|refine cZ ?_|refine cW ?_);go_wp2_with fail));refine wo HRK (N-(i+1)) (by have:=HKK.out;omega) ⟨i+1,nd+1,dot,true,dp,Nn*10+(n-48),bs.set nd (UInt8.ofNat (48+(n-48))),zd,rfl,HF2.out,zd,zd,zd,zb,zb,zb,zb,zb,zb,HB2.out,?_,?_⟩
       ·first
         | exact HDN.out.setNd _
         | exact (HDN.out.drewN _).setNd _
       ·first
         | exact (HG.out.set _ _).set _ _
         | exact ((HG.out.drewN _).set _ _).set _ _
      ·obtain⟨h1,h2⟩:=of_decide_eq_true HZ.out;have HF2:=zH (show dsD (s.drop (i+1)) dot true 0 (dp-1) Nn=(dotT,true,ndT,dpT,L.num,rest) by
        rw[<-HF.out,if_pos ⟨zd,h2⟩,h2])
       subst h1 h2;(go_wp2_with fail;repeat ((first|refine cZ ?_|refine cW ?_);go_wp2_with fail));exact wo HRK (N-(i+1)) (by have:=HKK.out;omega) ⟨i+1,0,dot,true,dp-1,Nn,bs,zd,rfl,HF2.out,zd,zd,zd,zb,zb,zb,zb,zb,zb,HBS.out,HD.out.setDp _,HG.out.set _ _⟩
  ·have eN:i=N:=zd;have HF:=zH (show (dotT,true,ndT,dpT,L.num,rest)=(dot,dig,nd,dp,Nn,s.drop i) by rw[<-HSC.out,List.drop_eq_nil_of_le zt];rfl);have g1:decide ((i:Int)<(N:Int))=false:=zh;have g2:decide (i<N)=false:=zh;have g3:¬((i:Int)<(N:Int)):=zd;(go_wp2_with fail;repeat ((first|refine cZ ?_|refine cW ?_);go_wp2_with fail));exact got HR ⟨i,nd,dot,dig,dp,Nn,bs,hi,HF.out,zb,zb,zb,zb,zb,zb,HBS.out,zd,zd,HD.out,HG.out⟩
 clear HT HD HG hi0N i0 s0 s1 s4 s5 σ;rintro σ w2 ⟨i,nd,dot,dig,dp,Nn,bs,hi,hT,s0,s1,s4,s5,s6,s7,hbs,hdp1,hdp2,hd,hg⟩;simp only[Prod.mk.injEq]at hT;obtain⟨rfl,rfl,rfl,rfl,hNn,hrest⟩:=hT;subst hNn;rw[hrest]at HREST;have HBS:=zH hbs;have HD:=zH hd;have HG:=zH hg;have hlt:=hd.lt;have fz:=hd.frozen;have d1:=hd.cnd;have d2:=hd.cdp;clear hbs hd hg hrest HRH;obtain⟨dv,hdv⟩:=zX ((ndT:Int)-lb);rw[hdv]at HDPT HFIN;have hdva:-800<=dv:=zd;have hdvb:dv<=800:=zd;clear hdv;(go_upto_region 30 with fail;repeat ((first|refine cZ ?_|refine cW ?_);go_upto_region 30 with fail));go_wp2_with fail;refine yr (fun s' w'=>s' 0=.pointer (some ⟨g,0,none⟩)/\s' 1=.string ⟨s.toArray⟩/\s' 4=.bool false/\s' 5=.int .i64 (i:Int)/\Dec w' g bs ndT dv ng false/\Gr w w' g) ?_ ?_
 ·intro R' K' HR hK';cases dotT
  ·have e:(ndT:Int)=dv:=HDPT.out;subst e;(go_wp2_with fail;repeat ((first|refine cZ ?_|refine cW ?_);go_wp2_with fail));exact got HR ⟨zb,zb,zb,zb,HD.out.setDp _,HG.out.set _ _⟩
  ·have e:dpT=dv:=HDPT.out;subst e;(go_wp2_with fail;repeat ((first|refine cZ ?_|refine cW ?_);go_wp2_with fail));exact got HR ⟨zb,zb,zb,zb,HD.out,HG.out⟩
 clear s0 s1 s4 s5 s6 s7 σ HD HG HDPT hlt fz d1 d2 hdp1 hdp2;rintro σ w3 ⟨s0,s1,s4,s5,hd,hg⟩;have HD:=zH hd;have HG:=zH hg;have hlt:=hd.lt;have fz:=hd.frozen;have d2:=hd.cdp;clear hd hg;have HFIN2:=zH (fun W h=>HFIN.out W bs HBS.out h);clear HFIN HBS;rcases HREST.out with⟨hr0,hx0⟩ | ⟨c,r1,d,r2,hr,hcl,hr2,hdd,hscE,hen⟩
 ·have eN:i=N:=by
   have h1:=congrArg List.length hr0;rw[List.length_drop,HN.out,List.length_nil]at h1;omega
  have e0:X=0:=by rw[<-HXX.out];exact hx0
  have HFF:=zH (HFIN2.out w3 (by rw[e0,Int.add_zero];exact HD.out));clear hr0 hx0 HREST;subst eN;(go_wp2_with fail;repeat ((first|refine cZ ?_|refine cW ?_);go_wp2_with fail));exact yl (.bool true) rfl ze zb ⟨rfl,HFF.out,HG.out⟩
 ·have hiN:i<N:=by
   have h1:=congrArg List.length hr;rw[List.length_drop,HN.out,List.length_cons]at h1;omega
  have hdr:=ua s i zn;rw[hr]at hdr;obtain⟨hce,hr1⟩:=List.cons.inj hdr;have hidx:=HIDX.out i hiN;rw[<-hce]at hidx;have hlow:=fun W=>HLOW.out c W
  rw[hcl]at hlow;obtain⟨n,hn⟩:=zX c.toNat;rw[hn]at hlow;have HL:=zH hlow;have hiN':(i:Int)<(N:Int):=zd;have g4:i+1<N:=by
   have h1:r1≠[]:=by intro e;rw[e]at hr2;simp[sgn]at hr2
   have h2:=List.length_pos_iff.2 h1;rw[hr1,List.length_drop,HN.out]at h2;omega
  have HSA:=zH (zmz (s:=s) (i:=i+1) (by rw[HN.out];exact g4));have hidx1:=HIDX.out (i+1) g4;obtain⟨c1,hc1⟩:=zX (s.getD (i+1) 0);rw[hc1]at hidx1 HSA;obtain⟨n1,hn1⟩:=zX c1.toNat;simp only[hn1]at HSA;obtain⟨i2,hi2e⟩:=zX (i+1+(if n1=43\/n1=45 then 1 else 0));rw[hi2e]at HSA;have HI2:=zH hi2e;rw[hr1,HSA.out]at hr2 hen;simp only at hr2 hen;obtain⟨eneg,heneg⟩:=zX (decide (n1=45));rw[heneg]at hen;have HEN:=zH heneg;obtain⟨es,hes⟩:=zX ((if eneg=true then -1 else 1));have HES:=zH hes;have hi2N:i2<N:=by
   have h1:=congrArg List.length hr2;rw[List.length_drop,HN.out,List.length_cons]at h1;omega
  have hdr2:=ua s i2 (by rw[HN.out];exact hi2N);rw[hr2]at hdr2;have hde:=(List.cons.inj hdr2).1;have hidx2:=HIDX.out i2 hi2N;rw[<-hde]at hidx2;have HX:=zH (show ∀ us,(scE (s.drop i2) us 0).2=(goE L.de,[]) by rw[hr2];exact hscE);have hxe:X=(goE L.de:Int)*es:=by
   rw[<-HXX.out,<-hes];unfold goX;rw[hen];cases eneg <;> simp
  have HXE:=zH hxe;obtain⟨m,hm⟩:=zX d.toNat;rw[hm]at hdd;have g5:(i:Int)+1<(N:Int):=zd;have g1:decide ((N:Int)<=(i:Int)+1)=false:=zh;have g2:decide (N<=i+1)=false:=zh;have g3:¬((N:Int)<=(i:Int)+1):=zd;have hw:IntKind.i64.wrap ((i:Int)+1)=(i:Int)+1:=zk;have hw2:IntKind.i64.wrap ((i:Int)+1+1)=(i:Int)+1+1:=zk;clear hlow hr hcl hr2 hscE hen hdr hce hr1 hc1 hi2e heneg hes hdr2 hde hxe HREST HXX HSA;(go_upto_region 32 with fail;repeat ((first|refine cZ ?_|refine cW ?_);go_upto_region 32 with fail));refine yr (fun s' w'=>s' 0=.pointer (some ⟨g,0,none⟩)/\s' 1=.string ⟨s.toArray⟩/\s' 4=.bool false/\s' 5=.int .i64 (i:Int)/\s' 138=.bool true/\w'=w3) ?_ ?_
  ·intro R' K' HR hK';(go_wp2_with fail;repeat ((first|refine cZ ?_|refine cW ?_);go_wp2_with fail));refine (HL.out _).mono ?_;rintro e w1 ⟨rfl,rfl⟩;(go_wp2_with fail;repeat ((first|refine cZ ?_|refine cW ?_);go_wp2_with fail));all_goals exact got HR ⟨zb,zb,zb,zb,zb,rfl⟩
  clear s0 s1 s4 s5 σ HL hn n c hidx;rintro σ w4 ⟨s0,s1,s4,s5,s138,rfl⟩;(go_upto_block 4 with fail;repeat ((first|refine cZ ?_|refine cW ?_);go_upto_block 4 with fail));refine yr (fun s' w'=>s' 0=.pointer (some ⟨g,0,none⟩)/\s' 1=.string ⟨s.toArray⟩/\s' 4=.bool false/\s' 5=.int .i64 (i2:Int)/\s' 8=.int .i64 es/\w'=w4) ?_ ?_
  ·intro R2 K2 HR2 hK2;by_cases h43:n1=43
   ·subst h43;have e1:eneg=false:=by rw[<-HEN.out];rfl
    subst e1;have e2:es=1:=by rw[<-HES.out];rfl
    have e3:i2=i+1+1:=by rw[<-HI2.out];rfl
    subst e2 e3;(go_wp2_with fail;repeat ((first|refine cZ ?_|refine cW ?_);go_wp2_with fail));exact got HR2 ⟨zb,zb,zb,zb,zb,rfl⟩
   ·obtain⟨a1,a2,a3⟩:=yq (z:=43) rfl h43;by_cases h45:n1=45
    ·subst h45;have e1:eneg=true:=by rw[<-HEN.out];rfl
     subst e1;have e2:es=-1:=by rw[<-HES.out];rfl
     have e3:i2=i+1+1:=by rw[<-HI2.out];rfl
     subst e2 e3;clear h43 a1 a2 a3;(go_wp2_with fail;repeat ((first|refine cZ ?_|refine cW ?_);go_wp2_with fail));exact got HR2 ⟨zb,zb,zb,zb,zb,rfl⟩
    ·obtain⟨b1,b2,b3⟩:=yq (z:=45) rfl h45;have e1:eneg=false:=by rw[<-HEN.out];exact decide_eq_false h45
     subst e1;have e2:es=1:=by rw[<-HES.out];rfl
     have e3:i2=i+1:=by rw[<-HI2.out,if_neg (fun h=>h.elim h43 h45)]
     subst e2 e3;clear h43 h45;(go_wp2_with fail;repeat ((first|refine cZ ?_|refine cW ?_);go_wp2_with fail));exact got HR2 ⟨zb,zb,zb,zb,zb,rfl⟩
  clear s0 s1 s4 s5 s138 σ hidx1 HI2 HEN hn1 n1 c1 g1 g2 g3 g4 g5 hw hw2 hiN hiN' hi;rintro σ w5 ⟨s0,s1,s4,s5,s8,rfl⟩;have h48:decide ((m:Int)<48)=false:=zh;have h48n:decide (m<48)=false:=zh;have h57:decide ((57:Int)<(m:Int))=false:=zh;have h57n:decide (57<m)=false:=zh;have g1:decide ((N:Int)<=(i2:Int))=false:=zh;have g2:decide (N<=i2)=false:=zh;have g5:(i2:Int)<(N:Int):=zd;(go_upto_region 42 with fail;repeat ((first|refine cZ ?_|refine cW ?_);go_upto_region 42 with fail));refine yr (fun s' w'=>s' 0=.pointer (some ⟨g,0,none⟩)/\s' 1=.string ⟨s.toArray⟩/\s' 4=.bool false/\s' 5=.int .i64 (i2:Int)/\s' 8=.int .i64 es/\s' 171=.bool false/\w'=w5) ?_ ?_
  ·intro R2 K2 HR2 hK2;go_wp2_with fail;all_goals exact got HR2 ⟨zb,zb,zb,zb,zb,zb,rfl⟩
  clear s0 s1 s4 s5 s8 σ h48 h48n h57 h57n g1 g2 g5 hidx2 hm;rintro σ w6 ⟨s0,s1,s4,s5,s8,s171,rfl⟩;obtain⟨E,hE⟩:=zX (goE L.de);rw[hE]at HX HXE HE9;have hE9:=HE9.out;have hes1:es=1\/es=-1:=by rw[<-HES.out];cases eneg <;> simp
  clear hE;(go_upto_block 5 with fail;repeat ((first|refine cZ ?_|refine cW ?_);go_upto_block 5 with fail));refine yr (fun s' w'=>s' 0=.pointer (some ⟨g,0,none⟩)/\s' 1=.string ⟨s.toArray⟩/\s' 4=.bool false/\s' 5=.int .i64 (N:Int)/\s' 8=.int .i64 es/\s' 9=.int .i64 (E:Int)/\w'=w6) ?_ ?_
  ·intro R2 K2 HR2 hK2;(go_wp2_with fail;repeat ((first|refine cZ ?_|refine cW ?_);go_wp2_with fail));refine xb (fun kk s' w'=>∃ (i4 e:Nat) (u:Bool),i4<=N/\kk=N-i4/\e<=99999/\(scE (s.drop i4) u e).2=(E,[])/\s' 0=.pointer (some ⟨g,0,none⟩)/\s' 1=.string ⟨s.toArray⟩/\s' 4=.bool false/\s' 5=.int .i64 (i4:Int)/\s' 8=.int .i64 es/\s' 9=.int .i64 (e:Int)/\w'=w6) (N-i2)
    ⟨i2,0,false,zd,rfl,zd,HX.out false,zb,zb,zb,zb,zb,zb,rfl⟩ ?_
   clear s0 s1 s4 s5 s8 s171 σ HX hi2N i2;rintro kk σ wk ⟨i4,e,u,hi4,hkk,he9,hX4,s0,s1,s4,s5,s8,s9,rfl⟩ RK KK HRK hKK;have HKK:=zH hkk;have HX4:=zH hX4;clear hkk hX4;by_cases hiN:i4<N
   ·have hidx4:=HIDX.out i4 hiN;have g5:(i4:Int)<(N:Int):=zd;have hdr:=ua s i4 zn;have hx4:=HX4.out;rw[hdr]at hx4;generalize s.getD i4 0=c at *
    obtain⟨n,hn⟩:=zX c.toNat;have HNN:=zH hn;have HX5:=zH hx4;clear hdr hx4 HX4;have hw:IntKind.i64.wrap ((i4:Int)+1)=(i4:Int)+1:=zk;by_cases hdig:48<=n/\n<=57
    ·obtain⟨h1,h2⟩:=hdig;have k1:(48:Int)<=(n:Int):=zd;have k2:(n:Int)<=57:=zd;have h95:n≠95:=zd;obtain⟨a1,a2,a3⟩:=yq (z:=95) rfl h95;have HF:=zH (show (scE (s.drop (i4+1)) u (if e<10000 then e*10+(n-48) else e)).2=(E,[]) by
      have:=HX5.out;rw[zvu (by rw[HNN.out];exact⟨h1,h2⟩),HNN.out]at this;exact this)
     (go_upto_region 44 with fail;repeat ((first|refine cZ ?_|refine cW ?_);go_upto_region 44 with fail));refine yr (fun s' w'=>s' 0=.pointer (some ⟨g,0,none⟩)/\s' 1=.string ⟨s.toArray⟩/\s' 4=.bool false/\s' 5=.int .i64 (i4:Int)/\s' 8=.int .i64 es/\s' 9=.int .i64 (e:Int)/\s' 193=.bool true/\w'=wk) ?_ ?_
     ·intro R3 K3 HR3 hK3;go_wp2_with fail;all_goals exact got HR3 ⟨zb,zb,zb,zb,zb,zb,zb,rfl⟩
     clear s0 s1 s4 s5 s8 s9 σ;rintro σ w7 ⟨s0,s1,s4,s5,s8,s9,s193,rfl⟩;by_cases he4:e<10000
     ·have he4i:(e:Int)<10000:=zd;have HF2:=zH (show (scE (s.drop (i4+1)) u (e*10+(n-48))).2=(E,[]) by have:=HF.out;rw[if_pos he4]at this;exact this);have q1:(e:Int)*10+(n:Int)-48=((e*10+(n-48):Nat):Int):=zd;(go_wp2_with fail;repeat ((first|refine cZ ?_|refine cW ?_);go_wp2_with fail));refine wo HRK (N-(i4+1)) (by have:=HKK.out;omega) ⟨i4+1,e*10+(n-48),u,zd,rfl,zd,HF2.out,zb,zb,zb,zb,zb,?_,rfl⟩;rw[<-q1];simp[yc,yd];try omega
     ·have he4i:decide ((e:Int)<10000)=false:=zh;have he4n:decide (e<10000)=false:=zh;have HF2:=zH (show (scE (s.drop (i4+1)) u e).2=(E,[]) by have:=HF.out;rw[if_neg he4]at this;exact this);(go_wp2_with fail;repeat ((first|refine cZ ?_|refine cW ?_);go_wp2_with fail));exact wo HRK (N-(i4+1)) (by have:=HKK.out;omega) ⟨i4+1,e,u,zd,rfl,zd,HF2.out,zb,zb,zb,zb,zb,zb,rfl⟩
    ·by_cases h95:n=95
     ·have HF:=zH (show (scE (s.drop (i4+1)) true e).2=(E,[]) by
       have:=HX5.out;rw[zvs (by rw[HNN.out];exact h95)]at this;exact this)
      subst h95;clear hdig;(go_upto_region 44 with fail;repeat ((first|refine cZ ?_|refine cW ?_);go_upto_region 44 with fail));refine yr (fun s' w'=>s' 0=.pointer (some ⟨g,0,none⟩)/\s' 1=.string ⟨s.toArray⟩/\s' 4=.bool false/\s' 5=.int .i64 (i4:Int)/\s' 8=.int .i64 es/\s' 9=.int .i64 (e:Int)/\s' 193=.bool true/\w'=wk) ?_ ?_
      ·intro R3 K3 HR3 hK3;go_wp2_with fail;all_goals exact got HR3 ⟨zb,zb,zb,zb,zb,zb,zb,rfl⟩
      clear s0 s1 s4 s5 s8 s9 σ;rintro σ w7 ⟨s0,s1,s4,s5,s8,s9,s193,rfl⟩;(go_wp2_with fail;repeat ((first|refine cZ ?_|refine cW ?_);go_wp2_with fail));exact wo HRK (N-(i4+1)) (by have:=HKK.out;omega) ⟨i4+1,e,true,zd,rfl,zd,HF.out,zb,zb,zb,zb,zb,zb,rfl⟩
     ·exfalso;have h1:=HX5.out;rw[zvt (by rw[HNN.out];exact hdig) (by rw[HNN.out];exact h95)]at h1;have h2:=congrArg (fun x=>x.2) h1;simp at h2
   ·have eN:i4=N:=zd;have HF:=zH (show e=E by
     have h1:=HX4.out;rw[List.drop_eq_nil_of_le zt]at h1;exact congrArg (fun x=>x.1) h1)
    have g1:decide ((N:Int)<(N:Int))=false:=zi;have eE:=HF.out;subst eN eE;clear hiN;(go_upto_region 44 with fail;repeat ((first|refine cZ ?_|refine cW ?_);go_upto_region 44 with fail));refine yr (fun s' w'=>s' 0=.pointer (some ⟨g,0,none⟩)/\s' 1=.string ⟨s.toArray⟩/\s' 4=.bool false/\s' 5=.int .i64 (i4:Int)/\s' 8=.int .i64 es/\s' 9=.int .i64 (e:Int)/\s' 193=.bool false/\w'=wk) ?_ ?_
    ·intro R3 K3 HR3 hK3;go_wp2_with fail;all_goals exact got HR3 ⟨zb,zb,zb,zb,zb,zb,zb,rfl⟩
    clear s0 s1 s4 s5 s8 s9 σ;rintro σ w7 ⟨s0,s1,s4,s5,s8,s9,s193,rfl⟩;(go_wp2_with fail;repeat ((first|refine cZ ?_|refine cW ?_);go_wp2_with fail));exact got HR2 ⟨zb,zb,zb,zb,zb,zb,rfl⟩
  clear s0 s1 s4 s5 s8 s171 σ HX hi2N i2;rintro σ w7 ⟨s0,s1,s4,s5,s8,s9,rfl⟩;have hEe1:-99999<=(E:Int)*es:=by rcases hes1 with h | h <;> rw[h] <;> omega
  have hEe2:(E:Int)*es<=99999:=by rcases hes1 with h | h <;> rw[h] <;> omega
  obtain⟨Y,hY⟩:=zX ((E:Int)*es);rw[hY]at hEe1 hEe2;have hwm:IntKind.i64.wrap ((E:Int)*es)=Y:=by rw[hY,IntKind.wrap_i64];omega
  have HFF:=zH (fun W (h:Dec W g bs ndT (dv+Y) ng false)=>HFIN2.out W (by rw[HXE.out,hY];exact h));have HDY:=zH (HD.out.setDp (dv+Y));(go_wp2_with fail;repeat ((first|refine cZ ?_|refine cW ?_);go_wp2_with fail));exact yl (.bool true) rfl ze zb ⟨rfl,HFF.out _ HDY.out,HG.out.set _ _⟩
end
theorem zom {w w1 w2:World} (h:w.grownBy w1 none) (hg:Gr w1 w2 w.heap.size):w.grownBy w2 none:=
 ⟨hg.os.trans h.os,hg.tape.trans h.tape,hg.output.trans h.output,Nat.le_trans h.size hg.size,fun j hj _=>
  (hg.block j (Nat.lt_of_lt_of_le hj h.size) (fun e=>by cases e;omega)).trans (h.block j hj zi)⟩
theorem zqe (s:List UInt8) (n:Nat) (h:n<=s.length):(⟨s.toArray⟩:ByteArray).extract 0 n=⟨(s.take n).toArray⟩:=by
 apply ByteArray.ext;simp[ByteArray.extract,ByteArray.copySlice]
theorem zec (F:Nat) (bias:Int) (inf d:Nat) (p:Int) (hbias:1<=bias) (hinf:inf=(2*bias+1).toNat*2^F):nvT F bias inf 10 d p<=inf:=
 ud F bias inf _ _ (qg _ ze) hbias hinf
theorem zwn (L:Lit) (n:Nat) (hok:L.ok) (hlen:L.da.length+L.db.length<=800) (hde:∀ d ∈ L.de,d<10):-200000<=(goR L n).exp/\(goR L n).exp<=200000:=by
 obtain⟨z,nd,hz,hm,ht,hne,hze,hlt,hl,hM⟩:=zon L n hok;have hE:=zoo L.de hde;have hE9:goE L.de<=99999:=zd;have hper:zb7 L.hex<=4:=zαO;have h1:zb7 L.hex*z<=4*z:=Nat.mul_le_mul_right _ hper;have h2:zb7 L.hex*L.db.length<=4*L.db.length:=Nat.mul_le_mul_right _ hper;have hX:-99999<=goX L/\goX L<=99999:=by unfold goX;split <;> omega
 by_cases h0:L.num=0
 ·rw[(hze h0).1];omega
 ·rw[(hne h0).2.2.1];unfold Lit.ex;omega
theorem zzg {s:List UInt8} {x:Nat×Nat} (h:qp s=some x):x.1=zmd\/x.1=kp false\/x.1=kp true:=by
 have key:∀ (ng:Bool) (k:Nat) (t:List UInt8) (y:Nat×Nat),zd3 ng k t=some y->y.1=kp ng:=by
  intro ng k t y hy;unfold zd3 at hy;split at hy
  ·cases hy;rfl
  ·split at hy
   ·cases hy;rfl
   ·cases hy
 cases s with
 | nil=>cases h
 | cons c r=>
  have hdef:qp (c::r)=if c=43 then zd3 false 1 r else if c=45 then zd3 true 1 r else if c=105\/c=73 then zd3 false 0 (c::r) else if c=110\/c=78 then (if cpL (c::r) [110,97,110]=3 then some (zmd,3) else none) else none:=rfl
  rw[hdef]at h;split at h
  ·exact Or.inr (Or.inl (key _ _ _ _ h))
  ·split at h
   ·exact Or.inr (Or.inr (key _ _ _ _ h))
   ·split at h
    ·exact Or.inr (Or.inl (key _ _ _ _ h))
    ·split at h
     ·split at h
      ·cases h;exact Or.inl rfl
      ·cases h
     ·cases h
theorem zgn {s:List UInt8} (hs:s.length<=4000000) (h:qp s=none) (w:World):Calls Tryz.prog 91 #[.string ⟨s.toArray⟩] w fun e w'=>e=.returned (.tuple #[.float .f64 0,.int .i64 0,.bool false])/\w=w':=by
 have:=zcs s w hs;rw[h]at this;exact this
theorem zgm {s:List UInt8} (hs:s.length<=4000000) {x:Nat×Nat} (h:qp s=some x) (w:World):Calls Tryz.prog 91 #[.string ⟨s.toArray⟩] w fun e w'=>e=.returned (.tuple #[.float .f64 x.1,.int .i64 (x.2:Int),.bool true])/\w=w':=by
 have:=zcs s w hs;rw[h]at this;exact this
theorem zlc {s:List UInt8} (hs:s.length<=4000000) (h:rfP s=none) (w:World):Calls Tryz.prog 92 #[.string ⟨s.toArray⟩] w fun e w'=>
  (∃ (a:Nat) (p:Int) (b c d:Bool) (n:Nat),e=.returned (.tuple #[.int .u64 (a:Int),.int .i64 p,.bool b,.bool c,.bool d,.int .i64 (n:Int),.bool false]))/\w=w':=by
 have:=zae s w hs;unfold RfPost at this;rw[h]at this;exact this
theorem zlb {s:List UInt8} (hs:s.length<=4000000) {R:RR} (h:rfP s=some R) (w:World):Calls Tryz.prog 92 #[.string ⟨s.toArray⟩] w fun e w'=>
  e=.returned (.tuple #[.int .u64 (R.mant:Int),.int .i64 R.exp,.bool R.neg,.bool R.tr,.bool R.hex,.int .i64 (R.n:Int),.bool true])/\w=w':=by
 have:=zae s w hs;unfold RfPost at this;rw[h]at this;exact this
end Go.Proofs.YtoacbkokkkpofaaGreatDoor
