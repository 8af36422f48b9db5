/- Lemmas that the claim's top text leans on. No condition of their own. -/
import Derived.Test.YtnifedmhgncioaaGreatDoorJ08
namespace Go.Proofs.YtnifedmhgncioaaGreatDoor
open Go.RowKit
set_option linter.unusedSimpArgs false
set_option linter.unusedVariables false
set_option maxHeartbeats 16000000
theorem zg8 (N s:Nat):N%10^(s+1)=N / 10^s%10*10^s+N%10^s:=by
 rw[Nat.pow_succ,Nat.mod_mul,Nat.mul_comm (10^s),Nat.add_comm]
theorem zn2 (M q:Nat):decide (M%10^(q+1)≠0)=(decide (M%10^q≠0) || decide (M / 10^q%10≠0)):=by
 have e:=zg8 M q;have p:0<10^q:=Nat.pow_pos zd;by_cases h1:M%10^q=0
 ·by_cases h2:M / 10^q%10=0
  ·rw[h1,h2]at e;simp[e,h1,h2]
  ·have:0<M / 10^q%10*10^q:=Nat.mul_pos zd p;simp only[h1,h2,ne_eq,not_true_eq_false,decide_false,Bool.false_or,not_false_eq_true,decide_true,decide_eq_true_eq];omega
 ·simp only[h1,ne_eq,not_false_eq_true,decide_true,Bool.true_or,decide_eq_true_eq];omega
theorem zam (M:Nat):decide (M%10^0≠0)=false:=by simp[Nat.mod_one]
theorem zst (M Z j:Nat):Lib.dg (M / 10^Z) j=Lib.dg M (j+Z):=by
 unfold Lib.dg;rw[Nat.div_div_eq_div_mul,<-Nat.pow_add,Nat.add_comm Z]
set_option maxRecDepth 100000 in
theorem zd1 (T g N k:Nat) (bs:List UInt8) (dp:Int) (ng tr:Bool) (w:World) (he:Env T w) (hgT:T<=g) (hd:Dec w g bs (yi N:Nat) dp ng tr) (hbs:bs.take (yi N)=digs N (yi N))
  (hN:N≠0) (hk1:1<=k) (hk2:k<=60) (hM:yi N<=800) (hp1:-4000<=dp) (hp2:dp<=4000):
  Calls Tryz.prog 137 #[.pointer (some ⟨g,0,none⟩),.int .u64 (k:Int)] w fun r w'=>
   r=.returned (.tuple #[])/\∃ (bs':List UInt8) (n:Nat),n=min (yi (N*2^k)) 800/\bs'.take n=digs (N*2^k / 10^(yi (N*2^k)-800)) n/\
    Dec w' g bs' (uc bs' n:Nat) (zbi (uc bs' n) (dp+yi (N*2^k)-yi N)) ng (tr || decide (N*2^k%10^(yi (N*2^k)-800)≠0))/\yi N<=yi (N*2^k)/\yi (N*2^k)<=yi N+19/\Gr w w' g:=by
 have hch:=zho N k hN hk1 hk2;have hrow:=zhm k hk1 hk2;have hpos:=hrow.pos;have h19:=hrow.le19;obtain⟨cb,co,cc,hcbT,hcc,c0,hcells⟩:=he.cheats;have c1:=(hcells k zd).1;have c2:=(hcells k zd).2;have hsl:(chS k).length<=100:=by rw[hrow.str,va];omega
 have hlt:=hd.lt;have d1:=hd.cnd;have hTs:=he.size;have hg8:=he.glob;have hpre:=fun n:Nat=>zle g (yi N) bs (chS k) dp ng tr (yi N:Nat) (w.drewN n) (hd.drewN n) zd hsl
 rw[hbs]at hpre;have HPRE:=zH hpre;obtain⟨L,hL⟩:=zX (yi N);obtain⟨pb,hpb⟩:=zX (jt (digs N L) (chS k));rw[hL]at hM d1 hd HPRE hch hbs;rw[hpb]at hch;have hLp:1<=L:=by rw[<-hL];exact yfr hN
 have HD:=zH hd;have HBS:=zH hbs;have HCH:=zH hch;have HPB:=zH hpb;have HL:=zH hL;have hci:(k:Int)<61:=zd;clear hpre hcells hrow hd hbs hch hpb hL he;refine ye Tryz.func137 rfl (by rw[Tryz.ntmps137];simp) ?_;intro σ hσ;rw[Tryz.ntmps137];have s0:σ 0=.pointer (some ⟨g,0,none⟩):=hσ 0 zi;have s1:σ 1=.int .u64 (k:Int):=hσ 1 zi;clear hσ;have hslice:=fun W=>zqi g L W zd
 have hLi:(L:Int)<=800:=zd;go_wp2_with fail;go_quiet ((go_at_call 154;exact Calls.quiet_of (HPRE.out _)));go_wp2_with fail;obtain⟨D,hD⟩:=zX ((if pb=true then chN k-1 else chN k));have hnM:yi (N*2^k)=L+D:=by have:=HCH.out;rw[<-hD];split at this <;> simp_all <;> omega
 have hDb:D<=chN k:=by rw[<-hD];split <;> omega
 have HNM:=zH hnM;have HDD:=zH hD;clear hnM hD;refine yr (fun s' w'=>s' 4=.int .i64 (D:Int)/\s' 0=.pointer (some ⟨g,0,none⟩)/\s' 1=.int .u64 (k:Int)/\Dec w' g bs L dp ng tr/\Gr w w' g) ?_ ?_
 ·intro R2 K2 HR hK2;refine zb0 pb (by simp[yc,yd,HPB.out]) ze (fun h=>?_) (fun h=>?_)
  ·have hDi:((chN k:Nat):Int)-1=(D:Int):=by have:=HDD.out;rw[if_pos h]at this;omega
   go_wp2_with fail;exact got HR ⟨zb,zb,zb,HD.out.drewN _,(Gr.refl w g).drewN _⟩
  ·have hDi:(chN k:Int)=(D:Int):=by have:=HDD.out;rw[h]at this;simp at this;omega
   go_wp2_with fail;exact got HR ⟨zb,zb,zb,HD.out.drewN _,(Gr.refl w g).drewN _⟩
 clear s0 s1 σ HD hslice c0 c1 c2 d1 hlt hTs;rintro σ w1 ⟨s4,s0,s1,hd,hg⟩;have hlt:=hd.lt;have d1:=hd.cnd;have HD:=zH hd;have HG:=zH hg;clear hd hg;go_wp2_with fail;obtain⟨Z,hZ⟩:=zX (L+D-800);have HZ:=zH hZ;obtain⟨M,hMd⟩:=zX (N*2^k);have HMD:=zH hMd;clear hZ hMd;refine xx (fun kk s' w'=>∃ (r c:Nat) (bs':List UInt8) (tq:Bool),r<=L/\kk=r/\c=ziq N k (L-r)/\s' 5=.int .i64 ((r:Int)-1)/\s' 6=.int .i64 ((r:Int)+D)/\s' 7=.int .u64 (c:Int)/\s' 4=.int .i64 (D:Int)/\s' 0=.pointer (some ⟨g,0,none⟩)/\s' 1=.int .u64 (k:Int)/\Dec w' g bs' L dp ng tq/\Gr w w' g/\(∀ i,i<r->bs'.getD i 0=Lib.dg N (L-1-i))/\(∀ j,Z<=j->j<L-r->bs'.getD (L+D-1-j) 0=Lib.dg M j)/\tq=(tr || decide (M%10^(min (L-r) Z)≠0))) L
  ⟨L,0,bs,tr,Nat.le_refl _,rfl,by rw[Nat.sub_self,zn8],zb,zb,zb,zb,zb,zb,HD.out,HG.out,fun i hi=>uq bs N L HBS.out i hi,fun j _ hj=>absurd hj zd,by rw[Nat.sub_self,Nat.zero_min,zam,Bool.or_false]⟩ ?_
 clear s0 s1 s4 σ HD HG hlt d1;rintro r σ wk ⟨_,c,bs',tq,hr,rfl,hc,s5,s6,s7,s4,s0,s1,hd,hg,hun,hwr,htq⟩ RK KK HRK hKK;have HC:=zH hc;have HUN:=zH hun;have HWR:=zH hwr;have HTQ:=zH htq;have HD:=zH hd;have HG:=zH hg;have hlt:=hd.lt;have fz:=hd.frozen;have hcb:c<2^k:=by rw[hc];exact zuh _ _ _
 have hk60:2^k<=2^60:=Nat.pow_le_pow_right zd hk2;clear hc hun hwr hd hg htq;cases r with
 | zero=>
  rw[show ((0:Nat):Int)-1=-1 by omega]at s5;rw[show ((0:Nat):Int)+(D:Int)=(D:Int) by omega]at s6;have hfull:=zoa N k L (by have:=xi N;rw[HL.out]at this;exact this);have hc0:c=M / 10^L:=by rw[<-HMD.out,<-hfull];exact HC.out
  have hMlt:M<10^(L+D):=by have:=xi (N*2^k);rw[HNM.out,HMD.out]at this;exact this
  have HC0:=zH hc0;have HML:=zH hMlt;have hwr:∀ j,Z<=j->j<L->bs'.getD (L+D-1-j) 0=Lib.dg M j:=HWR.out;have HWR2:=zH hwr;have hZL:min (L-0) Z=Z:=by have:=HZ.out;omega
  have htz:tq=(tr || decide (M%10^Z≠0)):=by have:=HTQ.out;rw[hZL]at this;exact this
  have HTZ:=zH htz;have hZD:Z<=D:=by have:=HZ.out;omega
  clear hfull hc0 hMlt hwr htz hZL HC HWR HUN HTQ;(go_wp2_with fail;repeat ((first|refine cZ ?_|refine cW ?_);go_wp2_with fail));refine xx (fun kk s' w'=>∃ (t c:Nat) (bs':List UInt8),t<=D/\kk=c/\c=M / 10^(L+t)/\c<2^60/\s' 6=.int .i64 ((D:Int)-t)/\s' 7=.int .u64 (c:Int)/\s' 4=.int .i64 (D:Int)/\s' 0=.pointer (some ⟨g,0,none⟩)/\Dec w' g bs' L dp ng tq/\Gr w w' g/\(∀ j,Z<=j->j<L+t->bs'.getD (L+D-1-j) 0=Lib.dg M j)) c
   ⟨0,c,bs',Nat.zero_le _,rfl,HC0.out,zd,zb,zb,zb,zb,HD.out,HG.out,HWR2.out⟩ ?_
  clear s0 s1 s4 s5 s6 s7 σ HD HG HWR2 HC0 hlt fz hcb;rintro c' σ wl ⟨t,_,bs2,ht,rfl,hc,hcb,s6,s7,s4,s0,hd,hg,hwr⟩ RL KL HRL hKL;have HC:=zH hc;have HWR:=zH hwr;have HD:=zH hd;have HG:=zH hg;have hlt:=hd.lt;have fz:=hd.frozen;clear hc hwr hd hg;by_cases hz:c'=0
  ·have htD:t=D:=by
    have h1:M<10^(L+t):=by
     have:=HC.out;rw[hz]at this;have p:0<10^(L+t):=Nat.pow_pos zd;rcases Nat.lt_or_ge M (10^(L+t)) with h | h
     ·exact h
     ·have:=Nat.div_pos h p;omega
    have hM0:M≠0:=by
     rw[<-HMD.out];exact Nat.mul_ne_zero hN (Nat.ne_of_gt (Nat.pow_pos zd))
    have h2:=qh hM0;rw[<-HMD.out,HNM.out,HMD.out]at h2;have h3:10^(L+D-1)<10^(L+t):=Nat.lt_of_le_of_lt h2 h1;have h4:=(Nat.pow_lt_pow_iff_right (by omega:1<10)).1 h3;omega
   subst hz;obtain⟨n8,hn8⟩:=zX (min (L+D) 800);have htk:bs2.take n8=digs (M / 10^Z) n8:=zgk bs2 (M / 10^Z) n8 (by rw[HD.out.len];omega) (fun j hj=>by
    rw[zst,<-HWR.out (j+Z) zd (by have:=HZ.out;omega)];congr 1;have:=HZ.out;omega)
   have HTK:=zH htk;have HN8:=zH hn8;have d1:=HD.out.cnd;have d2:=HD.out.cdp;have htrim:=fun (n:Nat) (W:World) (dp':Int) (hdd:Dec W g bs2 n dp' ng tq) (hn:n<=800)=>zji g n bs2 dp' ng tq W hdd hn
   have HTR:=zH htrim;clear htk htrim HC hn8;go_wp2_with fail;refine kj zb ze ?_;go_wp2_with fail;have hd2:Dec (wl.setCell ⟨g,800,none⟩ (.int .i64 ((L:Int)+D))) g bs2 ((L+D:Nat):Int) dp ng tq:=by
    have:=HD.out.setNd ((L:Int)+D);rw[show ((L+D:Nat):Int)=(L:Int)+D by omega];exact this
   have hg2:=HG.out.set 800 (.int .i64 ((L:Int)+D));have HD2:=zH hd2;have HG2:=zH hg2;generalize wl.setCell ⟨g,800,none⟩ (.int .i64 ((L:Int)+D))=w5 at *
   have hlt5:=hd2.lt;have fz5:=hd2.frozen;have e1:=hd2.cnd;clear hd2 hg2 HD HG hlt fz d1 d2;refine yr (fun s' w'=>s' 0=.pointer (some ⟨g,0,none⟩)/\s' 4=.int .i64 (D:Int)/\Dec w' g bs2 ((n8:Nat):Int) dp ng tq/\Gr w w' g) ?_ ?_
   ·intro R2 K2 HR hK2;by_cases h8:800<=L+D
    ·have h8i:(800:Int)<=(L:Int)+D:=zd;refine jq zb ze ?_;go_wp2_with fail;refine got HR ⟨zb,zb,?_,HG2.out.set _ _⟩;have:=HD2.out.setNd 800;rw[show ((n8:Nat):Int)=800 by have:=HN8.out;omega];exact this
    ·have h8i:decide ((800:Int)<=(L:Int)+D)=false:=zh;refine kj zb ze ?_;go_wp2_with fail;refine got HR ⟨zb,zb,?_,HG2.out⟩;have:=HD2.out;rw[show L+D=n8 by have:=HN8.out;omega]at this;exact this
   clear s0 s4 s6 s7 σ HD2 HG2 hlt5 fz5 e1;rintro σ w6 ⟨s0,s4,hd,hg⟩;have hlt:=hd.lt;have fz:=hd.frozen;have d2:=hd.cdp;have hd3:=fun x=>hd.setDp x
   have HD3:=zH hd3;have HG3:=zH hg;have hn800:n8<=800:=by have:=HN8.out;omega
   clear hd hg hd3;go_wp2_with fail;refine (HTR.out n8 _ _ (HD3.out _) hn800).mono ?_;rintro e w7 ⟨rfl,hd7,hg7⟩;go_wp2_with fail;have hZ':L+D-800=Z:=HZ.out;refine zi2 rfl ⟨rfl,bs2,n8,?_,?_,?_,?_,?_,?_⟩
   ·rw[HNM.out];exact HN8.out.symm
   ·rw[HNM.out,HMD.out,hZ'];exact HTK.out
   ·rw[HNM.out,HMD.out,hZ',HL.out,<-HTZ.out];rw[show dp+((L+D:Nat):Int)-(L:Int)=dp+(D:Int) by omega];exact hd7
   ·rw[HNM.out,HL.out];omega
   ·rw[HNM.out,HL.out];omega
   ·exact (HG3.out.set _ _).trans hg7
  ·have htD:t<D:=by
    have hc:=HC.out;have h1:10^(L+t)<=M:=by
     rcases Nat.lt_or_ge M (10^(L+t)) with h | h
     ·rw[Nat.div_eq_of_lt h]at hc;omega
     ·exact h
    have h3:10^(L+t)<10^(L+D):=Nat.lt_of_le_of_lt h1 HML.out;have h4:=(Nat.pow_lt_pow_iff_right (by omega:1<10)).1 h3;omega
   obtain⟨W,hW⟩:=zX (D-t-1);have hWb:W<800:=zd;have hWi:(W:Int)<800:=zd;rw[show (D:Int)-(t:Int)=(W:Int)+1 by omega]at s6;have hdW:∃ v,wl.cell? ⟨g,W,none⟩=some v:=⟨_,HD.out.digit W hWb⟩;obtain⟨vW,hvW⟩:=hdW;have hzi:0<c':=zd;have hnn:IntKind.u64.wrap (c':Int)=(c':Int):=zl;have HW:=zH hW;clear hW;(go_wp2_with fail;repeat ((first|refine cZ ?_|refine cW ?_);go_wp2_with fail));have hlen:bs2.length=800:=HD.out.len;have hc:=HC.out;refine wo HRL (c' / 10) zd ⟨t+1,c' / 10,bs2.set W (UInt8.ofNat ((c':Int)-10*((c':Int) / 10)+48).toNat),zd,rfl,?_,zd,?_,zj,zb,zb,HD.out.setDigit W hWb _ zd zd,HG.out.set _ _,?_⟩
   ·rw[hc,Nat.div_div_eq_div_mul,<-Nat.pow_succ];rfl
   ·have:(D:Int)-((t+1:Nat):Int)=(W:Int):=by have:=HW.out;omega
    rw[this];simp[yc,yd]
   ·intro j hjZ hj;rw[jn _ _ _ _ zd];by_cases hjq:j=L+t
    ·rw[hjq,if_pos (by have:=HW.out;omega),show ((c':Int)-10*((c':Int) / 10)+48).toNat=48+c'%10 by omega];exact zut _ _ _ (by rw[<-hc])
    ·rw[if_neg (by have:=HW.out;omega)];exact HWR.out j hjZ zd
 | succ r=>
  obtain⟨q,hq⟩:=zX (L-(r+1));obtain⟨x,hx⟩:=zX (N / 10^q%10);have hx9:x<=9:=by rw[<-hx];have:N / 10^q%10<10:=Nat.mod_lt _ zd;omega
  have d1:=HD.out.digit r zd;rw[HUN.out r zd,show L-1-r=q by omega,vh,hx,show ((48+x:Nat):Int)=48+(x:Int) by omega]at d1;obtain⟨y,hy⟩:=zX (x*2^k);have hyb:y<=9*2^60:=by rw[<-hy];exact Nat.mul_le_mul hx9 hk60
  have hyi:IntKind.u64.wrap ((x:Int)*2^k)=(y:Int):=by
   have:(x:Int)*2^k=(y:Int):=by rw[<-hy];simp
   rw[this,IntKind.wrap_u64];omega
  obtain⟨n,hn⟩:=zX (c+y);have hnb:n<18446744073709551616:=zd;have hni:(c:Int)+(y:Int)=(n:Int):=zd;obtain⟨W,hW⟩:=zX (r+D);rw[show ((r+1:Nat):Int)-1=(r:Int) by omega]at s5;rw[show ((r+1:Nat):Int)+(D:Int)=(W:Int)+1 by omega]at s6;have hri:(r:Int)<800:=zd;have hWL:W<=1000:=zd;have HX:=zH hx;have HY:=zH hy;have HQ:=zH hq;have HN:=zH hn;have HW:=zH hW;clear hx hy hq hn hW;have h48:(48:Int)+(x:Int)-48=(x:Int):=zd;have hnn:IntKind.u64.wrap (n:Int)=(n:Int):=zl;have hcq:c=ziq N k q:=by have:=HC.out;rw[HQ.out]at this;exact this
  have hnq:ziq N k q+N / 10^q%10*2^k=n:=by rw[HX.out,HY.out,<-hcq,HN.out]
  have hLr:L-r=q+1:=by have:=HQ.out;omega
  have hWq:L+D-1-q=W:=by have:=HQ.out;have:=HW.out;omega
  have hdig:M / 10^q%10=n%10:=by rw[<-HMD.out,zls,hnq]
  have hcs:n / 10=ziq N k (q+1):=by rw[zn9,hnq]
  have htq2:(W<800->tq=(tr || decide (M%10^(min (q+1) Z)≠0)))/\(800<=W->(tr || decide (M%10^(min (q+1) Z)≠0))=(tq || decide (n%10≠0))):=by
   have h1:=HTQ.out;have h2:=HQ.out;have h3:=HW.out;have h4:=HZ.out;rw[h2]at h1;constructor
   ·intro h5;rw[h1,show min q Z=min (q+1) Z by omega]
   ·intro h5;rw[h1,show min (q+1) Z=q+1 by omega,show min q Z=q by omega,zn2,hdig,Bool.or_assoc]
  have HT2:=zH htq2;have HHC:=zH hcs;have HDG:=zH hdig;have HLR:=zH hLr;have HWQ:=zH hWq;clear hcq hnq hLr hWq hdig hcs htq2 HTQ;by_cases hWb:W<800
  ·have hWi:(W:Int)<800:=zd;have hdW:∃ v,wk.cell? ⟨g,W,none⟩=some v:=⟨_,HD.out.digit W hWb⟩;obtain⟨vW,hvW⟩:=hdW;(go_wp2_with fail;repeat ((first|refine cZ ?_|refine cW ?_);go_wp2_with fail));have hlen:bs'.length=800:=HD.out.len;have hLr:=HLR.out;refine wo HRK r zd ⟨r,n / 10,bs'.set W (UInt8.ofNat ((n:Int)-10*((n:Int) / 10)+48).toNat),tq,zd,rfl,by rw[hLr];exact HHC.out,zb,?_,zj,zb,zb,zb,HD.out.setDigit W hWb _ zd zd,HG.out.set _ _,?_,?_,by rw[hLr];exact HT2.out.1 hWb⟩
   ·have:(r:Int)+(D:Int)=(W:Int):=by have:=HW.out;omega
    rw[this];simp[yc,yd]
   ·intro i hi;rw[jn _ _ _ _ zd,if_neg (by have:=HW.out;omega)];exact HUN.out i zd
   ·intro j hjZ hj;rw[hLr]at hj;rw[jn _ _ _ _ zd];by_cases hjq:j=q
    ·rw[hjq,if_pos HWQ.out.symm,show ((n:Int)-10*((n:Int) / 10)+48).toNat=48+n%10 by omega];exact zut _ _ _ HDG.out
    ·rw[if_neg (by have:=HQ.out;have:=HW.out;omega)];exact HWR.out j hjZ (by rw[HQ.out];omega)
  ·have hWi:decide ((W:Int)<800)=false:=zh;have hWi2:decide (W<800)=false:=zh;by_cases hr0:n%10=0
   ·have hr1:((n:Int)-10*((n:Int) / 10)==0)=true:=zo;have hr2:((n:Int)-10*((n:Int) / 10) != 0)=false:=by rw[bne,hr1];rfl
    (go_wp2_with fail;repeat ((first|refine cZ ?_|refine cW ?_);go_wp2_with fail));have hLr:=HLR.out;refine wo HRK r zd ⟨r,n / 10,bs',tq,zd,rfl,by rw[hLr];exact HHC.out,zb,?_,zj,zb,zb,zb,HD.out,HG.out,?_,?_,?_⟩
    ·have:(r:Int)+(D:Int)=(W:Int):=by have:=HW.out;omega
     rw[this];simp[yc,yd]
    ·intro i hi;exact HUN.out i zd
    ·intro j hjZ hj;rw[hLr]at hj;exact HWR.out j hjZ (by have:=HQ.out;have:=HW.out;have:=HZ.out;omega)
    ·rw[hLr,HT2.out.2 zd,hr0];simp
   ·have hr1:((n:Int)-10*((n:Int) / 10)==0)=false:=zf;have hr2:((n:Int)-10*((n:Int) / 10) != 0)=true:=by rw[bne,hr1];rfl
    have d3:=HD.out.ctr;(go_wp2_with fail;repeat ((first|refine cZ ?_|refine cW ?_);go_wp2_with fail));have hLr:=HLR.out;refine wo HRK r zd ⟨r,n / 10,bs',true,zd,rfl,by rw[hLr];exact HHC.out,zb,?_,zj,zb,zb,zb,HD.out.setTr true,HG.out.set _ _,?_,?_,?_⟩
    ·have:(r:Int)+(D:Int)=(W:Int):=by have:=HW.out;omega
     rw[this];simp[yc,yd]
    ·intro i hi;exact HUN.out i zd
    ·intro j hjZ hj;rw[hLr]at hj;exact HWR.out j hjZ (by have:=HQ.out;have:=HW.out;have:=HZ.out;omega)
    ·rw[hLr,HT2.out.2 zd];simp[hr0]
end Go.Proofs.YtnifedmhgncioaaGreatDoor
