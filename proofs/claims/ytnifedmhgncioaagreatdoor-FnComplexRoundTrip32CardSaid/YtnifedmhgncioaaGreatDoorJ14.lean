/- Lemmas that the claim's top text leans on. No condition of their own. -/
import Derived.Deep.CutBlock
import Derived.Test.YtnifedmhgncioaaGreatDoorJ09
namespace Go.Proofs.YtnifedmhgncioaaGreatDoor
open Go.RowKit
set_option linter.unusedSimpArgs false
set_option linter.unusedVariables false
set_option maxHeartbeats 16000000
def xR (N L r:Nat):Nat:=N*10^r / 10^L
theorem zhs (N L:Nat) (h:N<10^L):xR N L 0=0:=by unfold xR;rw[Nat.pow_zero,Nat.mul_one,Nat.div_eq_of_lt h]
theorem zs2 (N L r:Nat) (h:r<=L):xR N L r=N / 10^(L-r):=by
 unfold xR;have e:10^L=10^(L-r)*10^r:=zαa;rw[e,Nat.mul_div_mul_right _ _ (Nat.pow_pos zd)]
theorem zgb (N L r:Nat) (h:L<=r):xR N L r=N*10^(r-L):=by
 unfold xR;have e:10^r=10^(r-L)*10^L:=zαa;rw[e,<-Nat.mul_assoc,Nat.mul_div_cancel _ (Nat.pow_pos zd)]
theorem zav (N L r:Nat) (h:r<L):xR N L (r+1)=xR N L r*10+N / 10^(L-1-r)%10:=by
 rw[zs2 _ _ _ zd,zs2 _ _ _ zd,show L-r=(L-1-r)+1 by omega,Nat.pow_succ,<-Nat.div_div_eq_div_mul,show L-(r+1)=L-1-r by omega];omega
theorem je (N L r:Nat) (h:L<=r):xR N L (r+1)=xR N L r*10:=by
 rw[zgb _ _ _ zd,zgb _ _ _ h,show r+1-L=(r-L)+1 by omega,Nat.pow_succ,Nat.mul_assoc]
theorem zet (N L r t:Nat):xR N L r=xR N L (r+t) / 10^t:=by
 unfold xR;rw[Nat.div_div_eq_div_mul,Nat.pow_add,<-Nat.mul_assoc,Nat.mul_div_mul_right _ _ (Nat.pow_pos zd)]
theorem zj6 (X B c:Nat) (hB:0<B) (hc:c<=9):X%(10*B)%B*10+c=(X*10+c)%(10*B):=by
 rw[Nat.mod_mod_of_dvd _ (Nat.dvd_mul_left B 10)];have h1:=Nat.mod_add_div X B;have h2:=Nat.mod_lt X hB;have e:X*10+c=X%B*10+c+10*B*(X / B):=by
  conv=>lhs;rw[<-h1]
  rw[Nat.add_mul,Nat.mul_assoc 10 B,Nat.mul_comm (B*(X / B)) 10];omega
 rw[e,Nat.add_mul_mod_self_left,Nat.mod_eq_of_lt (a:=X%B*10+c) zd]
theorem zkn (X B:Nat):X%(10*B) / B=X / B%10:=by
 rw[Nat.mul_comm 10 B,Nat.mod_mul_right_div_self]
theorem zs1 (N L B r0 w:Nat) (hB:0<B) (h1:B<=xR N L r0) (h2:xR N L r0<10*B):10^w<=xR N L (r0+w) / B/\xR N L (r0+w) / B<10^(w+1):=by
 have hb:=zet N L r0 w;have p:0<10^w:=Nat.pow_pos zd;generalize xR N L (r0+w)=X at *
 rw[hb]at h1 h2;constructor
 ·rw[Nat.le_div_iff_mul_le hB,Nat.mul_comm];exact (Nat.le_div_iff_mul_le p).1 h1
 ·rw[Nat.div_lt_iff_lt_mul hB];have:=(Nat.div_lt_iff_lt_mul p).1 h2;rw[Nat.pow_succ,Nat.mul_assoc,Nat.mul_comm (10^w)];exact this
theorem yrr (N L r t:Nat):xR N L r<=xR N L (r+t):=by
 rw[zet N L r t];exact Nat.div_le_self _ _
theorem xR_w (N L k r0 w:Nat) (h1:2^k<=xR N L r0) (h2:xR N L r0<10*2^k) (hr:r0+w<=L+k):w<yi (N*5^k):=by
 have hB:0<2^k:=Nat.pow_pos zd;have h3:=(zs1 N L (2^k) r0 w hB h1 h2).1;have h4:=yrr N L (r0+w) (L+k-(r0+w));rw[show r0+w+(L+k-(r0+w))=L+k by omega,zgb _ _ _ (Nat.le_add_right L k),Nat.add_sub_cancel_left]at h4;have h5:N*10^k / 2^k=N*5^k:=by
  rw[show (10:Nat)=5*2 by rfl,Nat.mul_pow,<-Nat.mul_assoc,Nat.mul_div_cancel _ hB]
 have h6:=Nat.div_le_div_right (c:=2^k) h4;rw[h5]at h6;have h7:=xi (N*5^k);exact (Nat.pow_lt_pow_iff_right (by omega:1<10)).1 (Nat.lt_of_le_of_lt (Nat.le_trans h3 h6) h7)
theorem zs4 (N L k r:Nat) (h:L+k+1<=r):xR N L r%(10*2^k)=0:=by
 rw[zgb _ _ _ zd];obtain⟨t,ht⟩:∃ t,r-L=(k+1)+t:=⟨r-L-(k+1),zd⟩;have e:N*10^(r-L)=10*2^k*(N*(5^k*10^t)):=by
  rw[ht,Nat.pow_add,Nat.pow_succ,show (10:Nat)^k=2^k*5^k by rw[<-Nat.mul_pow]];simp only[Nat.mul_assoc,Nat.mul_comm,Nat.mul_left_comm]
 rw[e,Nat.mul_mod_right]
theorem zu8 (N L k r0 w:Nat) (h0:xR N L (r0+w)%(10*2^k)=0) (hr:L+1<=r0+w) (hk:r0+w<=L+k+1):
  xR N L (r0+w-1) / 2^k*10^(L+k+1-(r0+w))=N*5^k:=by
 obtain⟨s,hs⟩:∃ s,r0+w=s+1:=⟨r0+w-1,zd⟩;rw[hs]at h0 hr hk ⊢;rw[Nat.add_sub_cancel];rw[je _ _ _ zd,Nat.mul_comm _ 10,Nat.mul_mod_mul_left]at h0;have h1:xR N L s%2^k=0:=zd;have h2:xR N L s / 2^k*2^k=xR N L s:=Nat.div_mul_cancel (Nat.dvd_of_mod_eq_zero h1);have p:0<2^k:=Nat.pow_pos zd;refine Nat.eq_of_mul_eq_mul_right p ?_;rw[Nat.mul_right_comm,h2,zgb _ _ _ zd,Nat.mul_assoc,<-Nat.pow_add,Nat.mul_assoc,show s-L+(L+k+1-(s+1))=k by omega,show (10:Nat)=5*2 by rfl,Nat.mul_pow]
theorem yrs (N L B r0 w:Nat) (bs:List UInt8) (hl:w<=bs.length) (hw:1<=w) (h:∀ i,i<w->bs.getD i 0=UInt8.ofNat (48+xR N L (r0+i) / B%10)):bs.take w=digs (xR N L (r0+w-1) / B) w:=by
 refine zgk bs _ w hl fun j hj=>?_
 rw[h _ zd];refine zut _ _ _ ?_;have:=zet N L (r0+(w-1-j)) j;rw[show r0+(w-1-j)+j=r0+w-1 by omega]at this;rw[this,Nat.div_div_eq_div_mul,Nat.div_div_eq_div_mul,Nat.mul_comm]
theorem zbh (n k:Nat) (hk:k<=60) (hn:n<18446744073709551616):bits .and .u64 (n:Int) ((2^k:Nat)-1:Int)=((n%2^k:Nat):Int):=by
 have p:0<2^k:=Nat.pow_pos zd;have hk60:2^k<=2^60:=Nat.pow_le_pow_right zd hk;have h:=u64_and_nat n (2^k-1) hn zd;rw[Nat.and_two_pow_sub_one_eq_mod]at h;rw[<-h];congr 1;omega
set_option maxRecDepth 100000 in
theorem ymj (T g N k:Nat) (bs:List UInt8) (dp:Int) (ng tr:Bool) (w:World) (he:Env T w) (hgT:T<=g) (hd:Dec w g bs (yi N:Nat) dp ng tr) (hbs:bs.take (yi N)=digs N (yi N))
  (hN:N%10≠0) (hk1:1<=k) (hk2:k<=60) (hM:yi (N*5^k)<=800) (hM2:yi N<=800) (hp1:-2000<=dp) (hp2:dp<=2000):
  Calls Tryz.prog 138 #[.pointer (some ⟨g,0,none⟩),.int .u64 (k:Int)] w fun r w'=>
   r=.returned (.tuple #[])/\∃ (Q z:Nat) (bs':List UInt8),Q*10^z=N*5^k/\bs'.take (yi Q)=digs Q (yi Q)/\
    Dec w' g bs' (uc bs' (yi Q):Nat) (zbi (uc bs' (yi Q)) (dp+yi Q-yi N-k+z)) ng tr/\Gr w w' g:=by
 have hlt:=hd.lt;have d1:=hd.cnd;have d2:=hd.cdp;have fz:=hd.frozen;obtain⟨L,hL⟩:=zX (yi N);rw[hL]at hd hbs d1 hM2;have hN0:N≠0:=by intro e;rw[e]at hN;simp at hN
 have hLp:1<=L:=by rw[<-hL];exact yfr hN0
 have hNL:N<10^L:=by rw[<-hL];exact xi N
 obtain⟨B,hB⟩:=zX (2^k);have hB1:2<=B:=by rw[<-hB];exact Nat.le_trans (by omega:2<=2^1) (Nat.pow_le_pow_right zd hk1)
 have hB2:B<=2^60:=by rw[<-hB];exact Nat.pow_le_pow_right zd hk2
 have hBi:(2:Int)^k=(B:Int):=by rw[<-hB];simp
 have hx0:=zhs N L hNL;have HX0:=zH hx0;have HD:=zH hd;have HBS:=zH hbs;have HL:=zH hL;have HNL:=zH hNL;have HB:=zH hB;have HN:=zH hN;have HM:=zH hM;clear hx0 hd hbs hL hNL hB he hN hM hN0;refine ye Tryz.func138 rfl (by rw[Tryz.ntmps138];simp) ?_;intro σ hσ;rw[Tryz.ntmps138];have s0:σ 0=.pointer (some ⟨g,0,none⟩):=hσ 0 zi;have s1:σ 1=.int .u64 (k:Int):=hσ 1 zi;clear hσ;go_upto_block 0 with fail;refine yr (fun s' w'=>∃ r0 n:Nat,1<=r0/\n=xR N L r0/\B<=n/\n<10*B/\(L<r0->xR N L (r0-1)<B)/\r0<=L+2^60/\s' 4=.int .i64 (r0:Int)/\s' 5=.int .i64 0/\s' 6=.int .u64 (n:Int)/\s' 0=.pointer (some ⟨g,0,none⟩)/\s' 1=.int .u64 (k:Int)/\w=w') ?_ ?_
 ·intro R2 K2 HR hK2;go_wp2_with fail;refine xx (fun kk s' w'=>∃ (r n:Nat),r<=L/\kk=L-r/\n=xR N L r/\n<10*B/\(r=0->n=0)/\s' 4=.int .i64 (r:Int)/\s' 5=.int .i64 0/\s' 6=.int .u64 (n:Int)/\s' 0=.pointer (some ⟨g,0,none⟩)/\s' 1=.int .u64 (k:Int)/\w=w') L
   ⟨0,0,Nat.zero_le _,rfl,HX0.out.symm,zd,fun _=>rfl,zb,zb,zb,zb,zb,rfl⟩ ?_
  clear s0 s1 σ;rintro kk σ wk ⟨r,n,hr,hkk,hn,hnb,hz,s4,s5,s6,s0,s1,rfl⟩ RK KK HRK hKK;have HX:=zH hn;have HKK:=zH hkk;clear hn hkk;by_cases hnB:n<B
  ·have hq:(n:Int) / (B:Int)=0:=zβK;by_cases hrL:r<L
   ·have c1:=HD.out.digit r zd;have hdg:=uq bs N L HBS.out r hrL;obtain⟨x,hx⟩:=zX (N / 10^(L-1-r)%10);have hx9:x<=9:=by rw[<-hx];have:N / 10^(L-1-r)%10<10:=Nat.mod_lt _ zd;omega
    rw[hdg,vh,hx,show ((48+x:Nat):Int)=48+(x:Int) by omega]at c1;have hsucc:=zav N L r hrL;rw[<-HX.out,hx]at hsucc;have HSU:=zH hsucc;have hri:(r:Int)<800:=zd;clear hdg hx hsucc;(go_wp2_with fail;repeat ((first|refine cZ ?_|refine cW ?_);go_wp2_with fail));refine wo HRK (L-(r+1)) (by have:=HKK.out;omega) ⟨r+1,n*10+x,zd,rfl,HSU.out.symm,zd,fun h=>absurd h zd,zb,zb,zγc,zb,zb,rfl⟩
   ·have hrL':r=L:=zd;subst hrL';have hNn:n=N:=zβQ;have hnz:((n:Int)==0)=false:=by
     rw[beq_eq_false_iff_ne];have:=HN.out;intro e;have:n=0:=zd;rw[<-hNn,this]at HN;exact HN.out zi
    have hn1:1<=n:=by rw[beq_eq_false_iff_ne]at hnz;omega
    have HNN:=zH hNn;clear hNn hrL;(go_wp2_with fail;repeat ((first|refine cZ ?_|refine cW ?_);go_wp2_with fail));refine xx (fun kk s' w'=>∃ (r' n':Nat),r<=r'/\kk=10*B-n'/\n'=xR N r r'/\n'<10*B/\r'+1<=r+n'/\r'<=r+2^60/\(r<r'->xR N r (r'-1)<B)/\s' 4=.int .i64 (r':Int)/\s' 5=.int .i64 0/\s' 6=.int .u64 (n':Int)/\s' 0=.pointer (some ⟨g,0,none⟩)/\s' 1=.int .u64 (k:Int)/\w=w') (10*B-n)
     ⟨r,n,Nat.le_refl _,rfl,HX.out,hnb,zd,zd,fun h=>absurd h zd,zb,zb,zb,zb,zb,rfl⟩ ?_
    clear s0 s1 s4 s5 s6 σ HX HKK HNN hnz hn1 hz hnb hq hnB n HRK hKK;rintro k2 σ wk ⟨r',n,hrr,hkk,hn,hnb,hrn,hr60,hpr,s4,s5,s6,s0,s1,rfl⟩ RL KL HRL hKL;have HX:=zH hn;have HKK:=zH hkk;have HPR:=zH hpr;clear hn hkk hpr;have hr0:(r':Int)<=1152921504606847776:=zd;by_cases hnB:n<B
    ·have hq:(n:Int) / (B:Int)=0:=zβK;have hsucc:=je N r r' hrr;rw[<-HX.out]at hsucc;have HSU:=zH hsucc;clear hsucc;(go_wp2_with fail;repeat ((first|refine cZ ?_|refine cW ?_);go_wp2_with fail));exact wo HRL (10*B-n*10) (by have:=HKK.out;omega) ⟨r'+1,n*10,zd,rfl,HSU.out.symm,zd,zd,zd,fun _=>by rw[Nat.add_sub_cancel,<-HX.out];exact hnB,zb,zb,zj,zb,zb,rfl⟩
    ·have hq:0<(n:Int) / (B:Int):=by rw[<-Int.natCast_ediv];have:=Nat.div_pos (Nat.le_of_not_lt hnB) zd;omega
     have hq2:((n:Int) / (B:Int)==0)=false:=zf;(go_wp2_with fail;repeat ((first|refine cZ ?_|refine cW ?_);go_wp2_with fail));exact got HR ⟨r',n,zd,HX.out,zd,hnb,HPR.out,hr60,zb,zb,zb,zb,zb,rfl⟩
  ·have hq:0<(n:Int) / (B:Int):=by rw[<-Int.natCast_ediv];have:=Nat.div_pos (Nat.le_of_not_lt hnB) zd;omega
   have hq2:((n:Int) / (B:Int)==0)=false:=zf;(go_wp2_with fail;repeat ((first|refine cZ ?_|refine cW ?_);go_wp2_with fail));exact got HR ⟨r,n,zd,HX.out,zd,hnb,fun h=>absurd h zd,zd,zb,zb,zb,zb,zb,rfl⟩
 clear s0 s1 σ HX0;rintro σ w' ⟨r0,n,hr1,hn,hnb1,hnb2,hpr,hr60,s4,s5,s6,s0,s1,rfl⟩;have hNX:=hn;have HX:=zH hNX;have HPR:=zH hpr;clear hn hpr hNX;have hr0:(r0:Int)<=1152921504606847776:=zd;have hwB:IntKind.u64.wrap (B:Int)=(B:Int):=zl;go_wp2_with fail;have hdd:=HD.out.setDp (dp-((r0:Int)-1));have hgg:=(Gr.refl w g).set 801 (.int .i64 (dp-((r0:Int)-1)));have HDD:=zH hdd;have HGG:=zH hgg;clear hdd hgg;refine xx (fun kk s' w'=>∃ (wd n':Nat) (bs':List UInt8),(wd=0\/r0+wd<=L)/\kk=L-(r0+wd)/\n'=xR N L (r0+wd)%(10*B)/\s' 4=.int .i64 ((r0:Int)+wd)/\s' 5=.int .i64 (wd:Int)/\s' 6=.int .u64 (n':Int)/\s' 8=.int .u64 ((B:Int)-1)/\s' 0=.pointer (some ⟨g,0,none⟩)/\s' 1=.int .u64 (k:Int)/\Dec w' g bs' L (dp-((r0:Int)-1)) ng tr/\Gr w w' g/\(∀ i,r0+wd<=i->i<L->bs'.getD i 0=Lib.dg N (L-1-i))/\(∀ i,i<wd->bs'.getD i 0=UInt8.ofNat (48+xR N L (r0+i) / B%10))) (L-r0)
  ⟨0,n,bs,Or.inl rfl,rfl,by rw[Nat.add_zero,<-HX.out,Nat.mod_eq_of_lt hnb2],zb,zb,zb,zb,zb,zb,HDD.out,HGG.out,fun i _ hi=>uq bs N L HBS.out i hi,fun i hi=>absurd hi zd⟩ ?_
 clear s0 s1 s4 s5 s6 σ HDD HGG hlt d1 d2 fz;rintro kk σ wk ⟨wd,n',bs',hwd,hkk,hn,s4,s5,s6,s8,s0,s1,hd,hg,hun,hwr⟩ RK KK HRK hKK;have HXW:=zH hn;have HKK:=zH hkk;have HUN:=zH hun;have HWR:=zH hwr;have HD:=zH hd;have HG:=zH hg;have hlt:=hd.lt;have fz:=hd.frozen;have d1:=hd.cnd;have hn10:n'<10*B:=by rw[hn];exact Nat.mod_lt _ zd
 clear hn hkk hun hwr hd hg;by_cases hrL:r0+wd<L
 ·have hrLi:(r0:Int)+(wd:Int)<(L:Int):=zd;obtain⟨x,hx⟩:=zX (N / 10^(L-1-(r0+wd))%10);have hx9:x<=9:=by rw[<-hx];have:N / 10^(L-1-(r0+wd))%10<10:=Nat.mod_lt _ zd;omega
  have c1:=HD.out.digit (r0+wd) zd;rw[HUN.out _ (Nat.le_refl _) hrL,vh,hx,show ((48+x:Nat):Int)=48+(x:Int) by omega]at c1;have hdW:∃ v,wk.cell? ⟨g,wd,none⟩=some v:=⟨_,HD.out.digit wd zd⟩;obtain⟨vW,hvW⟩:=hdW;have hand:=zbh n' k hk2 zd;rw[HB.out]at hand;have hdig:(n':Int) / (B:Int)=((n' / B:Nat):Int):=by rw[Int.natCast_ediv]
  have hdb:n' / B<=9:=by have:=Nat.div_lt_of_lt_mul (m:=n') (n:=B) (k:=10) zβX;omega
  have hmb:n'%B<B:=Nat.mod_lt _ zd;have hstep:=zj6 (xR N L (r0+wd)) B x zd hx9;have hsu:=zav N L (r0+wd) hrL;rw[hx]at hsu;rw[<-hsu,<-HXW.out]at hstep;have hdst:=zkn (xR N L (r0+wd)) B;rw[<-HXW.out]at hdst;have HST:=zH hstep;have HDS:=zH hdst;clear hstep hdst hsu hx;obtain⟨q,hq⟩:=zX (n' / B);obtain⟨m,hm⟩:=zX (n'%B);rw[hq]at hdig hdb HDS;rw[hm]at hand hmb HST;have hwi:(wd:Int)<800:=zd;have hri:(r0:Int)+(wd:Int)<800:=zd;have hrn:((r0:Int)+(wd:Int)).toNat=r0+wd:=zd;clear hq hm;(go_wp2_with fail;repeat ((first|refine cZ ?_|refine cW ?_);go_wp2_with fail));have hlen:bs'.length=800:=HD.out.len;have hq48:((q:Int)+48).toNat=48+q:=zd;refine wo HRK (L-(r0+(wd+1))) (by have:=HKK.out;omega) ⟨wd+1,m*10+x,bs'.set wd (UInt8.ofNat ((q:Int)+48).toNat),Or.inr zd,rfl,HST.out,?_,zb,?_,zb,zb,zb,HD.out.setDigit wd zd _ zd zd,HG.out.set _ _,?_,?_⟩
  ·simp[yc,yd];omega
  ·simp[yc,yd];omega
  ·intro i h1 h2;rw[jn _ _ _ _ zd,if_neg zd];exact HUN.out i zd h2
  ·intro i hi;rw[jn _ _ _ _ zd];by_cases hiw:wd=i
   ·subst hiw;rw[if_pos rfl,hq48,HDS.out]
   ·rw[if_neg hiw];exact HWR.out i zd
 ·have hrLi:decide ((r0:Int)+(wd:Int)<(L:Int))=false:=zh;(go_wp2_with fail;repeat ((first|refine cZ ?_|refine cW ?_);go_wp2_with fail));have hw8:wd<=800:=zd;have hnn:n'=0->L+1<=r0+wd/\1<=wd:=by
   intro h0;exfalso;have e:=HXW.out;by_cases hz:wd=0
   ·rw[hz,Nat.add_zero,<-HX.out,Nat.mod_eq_of_lt hnb2]at e;omega
   ·have hrl:r0+wd=L:=zd;rw[hrl,zgb _ _ _ (Nat.le_refl _),Nat.sub_self,Nat.pow_zero,Nat.mul_one,h0]at e;have h1:N%(10*B)%10=N%10:=Nat.mod_mod_of_dvd _ (Nat.dvd_mul_right 10 B);rw[<-e]at h1;exact HN.out h1.symm
  have hk0:r0+wd<=L+k+1:=by
   by_cases hz:L<r0
   ·have h1:=HPR.out hz;rw[zgb _ _ _ zd,<-HB.out]at h1;have hN1:1<=N:=by have:=HN.out;rcases Nat.eq_zero_or_pos N with h | h;(rw[h]at this;simp at this);exact h
    have h2:10^(r0-1-L)<10^k:=Nat.lt_of_le_of_lt (Nat.le_mul_of_pos_left _ hN1) (Nat.lt_of_lt_of_le h1 (Nat.pow_le_pow_left zd k));have h3:=(Nat.pow_lt_pow_iff_right (by omega:1<10)).1 h2;omega
   ·omega
  refine xx (fun kk s' w'=>∃ (wd n':Nat) (bs':List UInt8),L<=r0+wd/\r0+wd<=L+k+1/\wd<=800/\kk=L+k+2-(r0+wd)/\n'=xR N L (r0+wd)%(10*B)/\(n'=0->L+1<=r0+wd/\1<=wd)/\s' 5=.int .i64 (wd:Int)/\s' 6=.int .u64 (n':Int)/\s' 8=.int .u64 ((B:Int)-1)/\s' 0=.pointer (some ⟨g,0,none⟩)/\s' 1=.int .u64 (k:Int)/\Dec w' g bs' L (dp-((r0:Int)-1)) ng tr/\Gr w w' g/\(∀ i,i<wd->bs'.getD i 0=UInt8.ofNat (48+xR N L (r0+i) / B%10))) (L+k+2-(r0+wd))
   ⟨wd,n',bs',zd,hk0,hw8,rfl,HXW.out,hnn,zb,zb,zb,zb,zb,HD.out,HG.out,HWR.out⟩ ?_
  clear s0 s1 s4 s5 s6 s8 σ HD HG hlt d1 fz HXW HWR HUN HKK hn10 hrL hrLi hw8 hnn hk0 hwd wd n' bs' HRK hKK;rintro k4 σ wl ⟨wd,n',bs',hge,hke,hw8,hkk,hn,hnn,s5,s6,s8,s0,s1,hd,hg,hwr⟩ RL KL HRL hKL;have HXW:=zH hn;have HKK:=zH hkk;have HNN:=zH hnn;have HWR:=zH hwr;have HD:=zH hd;have HG:=zH hg;have hlt:=hd.lt;have fz:=hd.frozen;have hn10:n'<10*B:=by rw[hn];exact Nat.mod_lt _ zd
  clear hn hkk hnn hwr hd hg;by_cases hz:n'=0
  ·obtain⟨hL1,hw1⟩:=HNN.out hz;subst hz;have hend:=zu8 N L k r0 wd (by rw[HB.out];exact HXW.out.symm) hL1 hke;rw[HB.out]at hend;have hdg:=yrs N L B r0 wd bs' (by rw[HD.out.len];exact hw8) hw1 HWR.out;have hsz:=zs1 N L B r0 (wd-1) zd (by rw[<-HX.out];exact hnb1) (by rw[<-HX.out];exact hnb2);rw[show r0+(wd-1)=r0+wd-1 by omega]at hsz;have hnd:=vg (wd-1) _ hsz.1 hsz.2;rw[show wd-1+1=wd by omega]at hnd;obtain⟨Q,hQ⟩:=zX (xR N L (r0+wd-1) / B);rw[hQ]at hend hdg hnd;have htrim:=fun (n:Nat) (W:World) (dp':Int) (hdd:Dec W g bs' n dp' ng tr) (hn:n<=800)=>zji g n bs' dp' ng tr W hdd hn
   have HTR:=zH htrim;have HEN:=zH hend;have HDG:=zH hdg;have HND:=zH hnd;have d1:=HD.out.cnd;clear htrim hend hdg hnd hsz hQ;(go_wp2_with fail;repeat ((first|refine cZ ?_|refine cW ?_);go_wp2_with fail));refine (HTR.out wd _ _ (HD.out.setNd _) hw8).mono ?_;rintro e w7 ⟨rfl,hd7,hg7⟩;go_wp2_with fail;refine zi2 rfl ⟨rfl,Q,L+k+1-(r0+wd),bs',HEN.out,?_,?_,?_⟩
   ·rw[HND.out];exact HDG.out
   ·rw[HND.out,HL.out];rw[show dp+(wd:Int)-(L:Int)-(k:Int)+((L+k+1-(r0+wd):Nat):Int)=dp-((r0:Int)-1) by omega];exact hd7
   ·exact (HG.out.set _ _).trans hg7
  ·have hrk:r0+wd<=L+k:=by
    rcases Nat.lt_or_ge (L+k) (r0+wd) with h | h
    ·have:=zs4 N L k (r0+wd) zd;rw[HB.out]at this;exact absurd (HXW.out.trans this) hz
    ·exact h
   have hw:wd<800:=by
    have h:=xR_w N L k r0 wd (by rw[HB.out,<-HX.out];exact hnb1) (by rw[HB.out,<-HX.out];exact hnb2) hrk;have:=HM.out;omega
   have hdW:∃ v,wl.cell? ⟨g,wd,none⟩=some v:=⟨_,HD.out.digit wd zd⟩;obtain⟨vW,hvW⟩:=hdW;have hand:=zbh n' k hk2 zd;rw[HB.out]at hand;have hdig:(n':Int) / (B:Int)=((n' / B:Nat):Int):=by rw[Int.natCast_ediv]
   have hdb:n' / B<=9:=by have:=Nat.div_lt_of_lt_mul (m:=n') (n:=B) (k:=10) zβX;omega
   have hmb:n'%B<B:=Nat.mod_lt _ zd;have hstep:=zj6 (xR N L (r0+wd)) B 0 zd zd;have hsu:=je N L (r0+wd) hge;rw[Nat.add_zero,<-hsu,<-HXW.out]at hstep;have hdst:=zkn (xR N L (r0+wd)) B;rw[<-HXW.out]at hdst;have HST:=zH hstep;have HDS:=zH hdst;clear hstep hdst hsu;obtain⟨q,hq⟩:=zX (n' / B);obtain⟨m,hm⟩:=zX (n'%B);rw[hq]at hdig hdb HDS;rw[hm]at hand hmb HST;have hwi:(wd:Int)<800:=zd;have hzi:0<n':=zd;clear hq hm hz;(go_wp2_with fail;repeat ((first|refine cZ ?_|refine cW ?_);go_wp2_with fail));have hlen:bs'.length=800:=HD.out.len;have hq48:((q:Int)+48).toNat=48+q:=zd;refine wo HRL (L+k+2-(r0+(wd+1))) (by have:=HKK.out;omega) ⟨wd+1,m*10,bs'.set wd (UInt8.ofNat ((q:Int)+48).toNat),zd,zd,zd,rfl,HST.out,fun _=>zd,zb,?_,zb,zb,zb,HD.out.setDigit wd zd _ zd zd,HG.out.set _ _,?_⟩
   ·simp[yc,yd]
   ·intro i hi;rw[jn _ _ _ _ zd];by_cases hiw:wd=i
    ·subst hiw;rw[if_pos rfl,hq48,HDS.out]
    ·rw[if_neg hiw];exact HWR.out i zd
theorem ylw (T g N k:Nat) (p:Int) (ng:Bool) (w:World) (he:Env T w) (hgT:T<=g) (hd:DecN w g N p ng)
  (hk1:1<=k) (hk2:k<=60) (hM:yi (N*5^k)<=800) (hp1:-1200<=p) (hp2:p<=1200):
  Calls Tryz.prog 138 #[.pointer (some ⟨g,0,none⟩),.int .u64 (k:Int)] w fun r w'=>
   r=.returned (.tuple #[])/\DecN w' g (zga (N*5^k)) (p-k+tz (N*5^k)) ng/\Gr w w' g:=by
 obtain⟨hne,bs,hbs,hdec⟩:=hd;have hN0:N≠0:=by intro e;rw[e]at hne;simp at hne
 have hle:yi N<=yi (N*5^k):=znw _ _ (Nat.le_mul_of_pos_right _ (Nat.pow_pos zd));refine (ymj T g N k bs _ ng false w he hgT hdec hbs hne hk1 hk2 hM zd zd zd).mono ?_;rintro r w' ⟨rfl,Q,z,bs',hQ,hb,hd',hg⟩;refine⟨rfl,?_,hg⟩;have hM0:N*5^k≠0:=Nat.mul_ne_zero hN0 (Nat.ne_of_gt (Nat.pow_pos zd));have hQ0:Q≠0:=by intro e;rw[e,Nat.zero_mul]at hQ;exact hM0 hQ.symm
 have hc:=zar Q hQ0;have hcc:=yme (A:=zga Q) (a:=tz Q+z) (M:=N*5^k) (by rw[Nat.pow_add,<-Nat.mul_assoc,hc.1,hQ]) hc.2;have:=DecN.of_trim (p:=p-k+z) hQ0 hb hd' zd;rw[hcc.1,hcc.2];rw[show p-(k:Int)+((tz Q+z:Nat):Int)=p-k+z+tz Q by omega];exact this
theorem yl8 (T g N k:Nat) (p:Int) (ng:Bool) (w:World) (he:Env T w) (hgT:T<=g) (hd:DecN w g N p ng)
  (hk1:1<=k) (hk2:k<=60) (hM:yi N+chN k<=800) (hp1:-1200<=p) (hp2:p<=1200):
  Calls Tryz.prog 137 #[.pointer (some ⟨g,0,none⟩),.int .u64 (k:Int)] w fun r w'=>
   r=.returned (.tuple #[])/\DecN w' g (zga (N*2^k)) (p+tz (N*2^k)) ng/\Gr w w' g:=by
 obtain⟨hne,bs,hbs,hdec⟩:=hd;have hN0:N≠0:=by intro e;rw[e]at hne;simp at hne
 refine (yna T g N k bs _ ng false w he hgT hdec hbs hN0 hk1 hk2 hM zd zd).mono ?_;rintro r w' ⟨rfl,bs',hb,hd',hg⟩;have hM0:N*2^k≠0:=Nat.mul_ne_zero hN0 (Nat.ne_of_gt (Nat.pow_pos zd));exact⟨rfl,DecN.of_trim (p:=p) hM0 hb hd' zd,hg⟩
theorem zs3 (N L k r0 w:Nat) (hw:1<=w) (h0:xR N L (r0+w)%(10*2^k)=0) (hr:L<=r0+w) (hk:r0+w<=L+k+1):
  xR N L (r0+w-1) / 2^k*10^(L+k+1-(r0+w))=N*5^k:=by
 rcases Nat.lt_or_ge L (r0+w) with h | h
 ·exact zu8 N L k r0 w h0 h hk
 ·have e:r0+w=L:=zd;rw[e]at h0 ⊢;have hb:=zet N L (L-1) 1;rw[show L-1+1=L by omega,Nat.pow_one]at hb;rw[zgb _ _ _ (Nat.le_refl _),Nat.sub_self,Nat.pow_zero,Nat.mul_one]at h0 hb;rw[hb,Nat.div_div_eq_div_mul,show L+k+1-L=k+1 by omega];obtain⟨q,hq⟩:=Nat.dvd_of_mod_eq_zero h0;have hp:0<10*2^k:=Nat.mul_pos zd (Nat.pow_pos zd);rw[hq,Nat.mul_div_cancel_left _ hp,Nat.pow_succ,show (10:Nat)^k=5^k*2^k by rw[<-Nat.mul_pow]];ac_rfl
set_option maxRecDepth 100000 in
theorem zcx (T g N k:Nat) (bs:List UInt8) (dp:Int) (ng tr:Bool) (w:World) (he:Env T w) (hgT:T<=g) (hd:Dec w g bs (yi N:Nat) dp ng tr) (hbs:bs.take (yi N)=digs N (yi N))
  (hN:N≠0) (hk1:1<=k) (hk2:k<=60) (hM2:yi N<=800) (hp1:-4000<=dp) (hp2:dp<=4000):
  Calls Tryz.prog 138 #[.pointer (some ⟨g,0,none⟩),.int .u64 (k:Int)] w fun r w'=>
   r=.returned (.tuple #[])/\∃ (Q z n:Nat) (bs':List UInt8),Q*10^z=N*5^k/\n=min (yi Q) 800/\bs'.take n=digs (Q / 10^(yi Q-800)) n/\
    Dec w' g bs' (uc bs' n:Nat) (zbi (uc bs' n) (dp+yi Q-yi N-k+z)) ng (tr || decide (Q%10^(yi Q-800)≠0))/\Gr w w' g:=by
 have hlt:=hd.lt;have d1:=hd.cnd;have d2:=hd.cdp;have fz:=hd.frozen;obtain⟨L,hL⟩:=zX (yi N);rw[hL]at hd hbs d1 hM2;have hN0:N≠0:=hN;have hLp:1<=L:=by rw[<-hL];exact yfr hN0
 have hNL:N<10^L:=by rw[<-hL];exact xi N
 obtain⟨B,hB⟩:=zX (2^k);have hB1:2<=B:=by rw[<-hB];exact Nat.le_trans (by omega:2<=2^1) (Nat.pow_le_pow_right zd hk1)
 have hB2:B<=2^60:=by rw[<-hB];exact Nat.pow_le_pow_right zd hk2
 have hBi:(2:Int)^k=(B:Int):=by rw[<-hB];simp
 have hx0:=zhs N L hNL;have HX0:=zH hx0;have HD:=zH hd;have HBS:=zH hbs;have HL:=zH hL;have HNL:=zH hNL;have HB:=zH hB;have HN:=zH hN;clear hx0 hd hbs hL hNL hB he hN hN0;refine ye Tryz.func138 rfl (by rw[Tryz.ntmps138];simp) ?_;intro σ hσ;rw[Tryz.ntmps138];have s0:σ 0=.pointer (some ⟨g,0,none⟩):=hσ 0 zi;have s1:σ 1=.int .u64 (k:Int):=hσ 1 zi;clear hσ;go_upto_block 0 with fail;refine yr (fun s' w'=>∃ r0 n:Nat,1<=r0/\n=xR N L r0/\B<=n/\n<10*B/\(L<r0->xR N L (r0-1)<B)/\r0<=L+2^60/\s' 4=.int .i64 (r0:Int)/\s' 5=.int .i64 0/\s' 6=.int .u64 (n:Int)/\s' 0=.pointer (some ⟨g,0,none⟩)/\s' 1=.int .u64 (k:Int)/\w=w') ?_ ?_
 ·intro R2 K2 HR hK2;go_wp2_with fail;refine xx (fun kk s' w'=>∃ (r n:Nat),r<=L/\kk=L-r/\n=xR N L r/\n<10*B/\(r=0->n=0)/\s' 4=.int .i64 (r:Int)/\s' 5=.int .i64 0/\s' 6=.int .u64 (n:Int)/\s' 0=.pointer (some ⟨g,0,none⟩)/\s' 1=.int .u64 (k:Int)/\w=w') L
   ⟨0,0,Nat.zero_le _,rfl,HX0.out.symm,zd,fun _=>rfl,zb,zb,zb,zb,zb,rfl⟩ ?_
  clear s0 s1 σ;rintro kk σ wk ⟨r,n,hr,hkk,hn,hnb,hz,s4,s5,s6,s0,s1,rfl⟩ RK KK HRK hKK;have HX:=zH hn;have HKK:=zH hkk;clear hn hkk;by_cases hnB:n<B
  ·have hq:(n:Int) / (B:Int)=0:=zβK;by_cases hrL:r<L
   ·have c1:=HD.out.digit r zd;have hdg:=uq bs N L HBS.out r hrL;obtain⟨x,hx⟩:=zX (N / 10^(L-1-r)%10);have hx9:x<=9:=by rw[<-hx];have:N / 10^(L-1-r)%10<10:=Nat.mod_lt _ zd;omega
    rw[hdg,vh,hx,show ((48+x:Nat):Int)=48+(x:Int) by omega]at c1;have hsucc:=zav N L r hrL;rw[<-HX.out,hx]at hsucc;have HSU:=zH hsucc;have hri:(r:Int)<800:=zd;clear hdg hx hsucc;(go_wp2_with fail;repeat ((first|refine cZ ?_|refine cW ?_);go_wp2_with fail));refine wo HRK (L-(r+1)) (by have:=HKK.out;omega) ⟨r+1,n*10+x,zd,rfl,HSU.out.symm,zd,fun h=>absurd h zd,zb,zb,zγc,zb,zb,rfl⟩
   ·have hrL':r=L:=zd;subst hrL';have hNn:n=N:=zβQ;have hnz:((n:Int)==0)=false:=by
     rw[beq_eq_false_iff_ne];have:=HN.out;intro e;have:n=0:=zd;exact HN.out (by rw[<-hNn];exact this)
    have hn1:1<=n:=by rw[beq_eq_false_iff_ne]at hnz;omega
    have HNN:=zH hNn;clear hNn hrL;(go_wp2_with fail;repeat ((first|refine cZ ?_|refine cW ?_);go_wp2_with fail));refine xx (fun kk s' w'=>∃ (r' n':Nat),r<=r'/\kk=10*B-n'/\n'=xR N r r'/\n'<10*B/\r'+1<=r+n'/\r'<=r+2^60/\(r<r'->xR N r (r'-1)<B)/\s' 4=.int .i64 (r':Int)/\s' 5=.int .i64 0/\s' 6=.int .u64 (n':Int)/\s' 0=.pointer (some ⟨g,0,none⟩)/\s' 1=.int .u64 (k:Int)/\w=w') (10*B-n)
     ⟨r,n,Nat.le_refl _,rfl,HX.out,hnb,zd,zd,fun h=>absurd h zd,zb,zb,zb,zb,zb,rfl⟩ ?_
    clear s0 s1 s4 s5 s6 σ HX HKK HNN hnz hn1 hz hnb hq hnB n HRK hKK;rintro k2 σ wk ⟨r',n,hrr,hkk,hn,hnb,hrn,hr60,hpr,s4,s5,s6,s0,s1,rfl⟩ RL KL HRL hKL;have HX:=zH hn;have HKK:=zH hkk;have HPR:=zH hpr;clear hn hkk hpr;have hr0:(r':Int)<=1152921504606847776:=zd;by_cases hnB:n<B
    ·have hq:(n:Int) / (B:Int)=0:=zβK;have hsucc:=je N r r' hrr;rw[<-HX.out]at hsucc;have HSU:=zH hsucc;clear hsucc;(go_wp2_with fail;repeat ((first|refine cZ ?_|refine cW ?_);go_wp2_with fail));exact wo HRL (10*B-n*10) (by have:=HKK.out;omega) ⟨r'+1,n*10,zd,rfl,HSU.out.symm,zd,zd,zd,fun _=>by rw[Nat.add_sub_cancel,<-HX.out];exact hnB,zb,zb,zj,zb,zb,rfl⟩
    ·have hq:0<(n:Int) / (B:Int):=by rw[<-Int.natCast_ediv];have:=Nat.div_pos (Nat.le_of_not_lt hnB) zd;omega
     have hq2:((n:Int) / (B:Int)==0)=false:=zf;(go_wp2_with fail;repeat ((first|refine cZ ?_|refine cW ?_);go_wp2_with fail));exact got HR ⟨r',n,zd,HX.out,zd,hnb,HPR.out,hr60,zb,zb,zb,zb,zb,rfl⟩
  ·have hq:0<(n:Int) / (B:Int):=by rw[<-Int.natCast_ediv];have:=Nat.div_pos (Nat.le_of_not_lt hnB) zd;omega
   have hq2:((n:Int) / (B:Int)==0)=false:=zf;(go_wp2_with fail;repeat ((first|refine cZ ?_|refine cW ?_);go_wp2_with fail));exact got HR ⟨r,n,zd,HX.out,zd,hnb,fun h=>absurd h zd,zd,zb,zb,zb,zb,zb,rfl⟩
 clear s0 s1 σ HX0;rintro σ w' ⟨r0,n,hr1,hn,hnb1,hnb2,hpr,hr60,s4,s5,s6,s0,s1,rfl⟩;have hNX:=hn;have HX:=zH hNX;have HPR:=zH hpr;clear hn hpr hNX;have hr0:(r0:Int)<=1152921504606847776:=zd;have hwB:IntKind.u64.wrap (B:Int)=(B:Int):=zl;go_wp2_with fail;have hdd:=HD.out.setDp (dp-((r0:Int)-1));have hgg:=(Gr.refl w g).set 801 (.int .i64 (dp-((r0:Int)-1)));have HDD:=zH hdd;have HGG:=zH hgg;clear hdd hgg;refine xx (fun kk s' w'=>∃ (wd n':Nat) (bs':List UInt8),(wd=0\/r0+wd<=L)/\kk=L-(r0+wd)/\n'=xR N L (r0+wd)%(10*B)/\s' 4=.int .i64 ((r0:Int)+wd)/\s' 5=.int .i64 (wd:Int)/\s' 6=.int .u64 (n':Int)/\s' 8=.int .u64 ((B:Int)-1)/\s' 0=.pointer (some ⟨g,0,none⟩)/\s' 1=.int .u64 (k:Int)/\Dec w' g bs' L (dp-((r0:Int)-1)) ng tr/\Gr w w' g/\(∀ i,r0+wd<=i->i<L->bs'.getD i 0=Lib.dg N (L-1-i))/\(∀ i,i<wd->bs'.getD i 0=UInt8.ofNat (48+xR N L (r0+i) / B%10))) (L-r0)
  ⟨0,n,bs,Or.inl rfl,rfl,by rw[Nat.add_zero,<-HX.out,Nat.mod_eq_of_lt hnb2],zb,zb,zb,zb,zb,zb,HDD.out,HGG.out,fun i _ hi=>uq bs N L HBS.out i hi,fun i hi=>absurd hi zd⟩ ?_
 clear s0 s1 s4 s5 s6 σ HDD HGG hlt d1 d2 fz;rintro kk σ wk ⟨wd,n',bs',hwd,hkk,hn,s4,s5,s6,s8,s0,s1,hd,hg,hun,hwr⟩ RK KK HRK hKK;have HXW:=zH hn;have HKK:=zH hkk;have HUN:=zH hun;have HWR:=zH hwr;have HD:=zH hd;have HG:=zH hg;have hlt:=hd.lt;have fz:=hd.frozen;have d1:=hd.cnd;have hn10:n'<10*B:=by rw[hn];exact Nat.mod_lt _ zd
 clear hn hkk hun hwr hd hg;by_cases hrL:r0+wd<L
 ·have hrLi:(r0:Int)+(wd:Int)<(L:Int):=zd;obtain⟨x,hx⟩:=zX (N / 10^(L-1-(r0+wd))%10);have hx9:x<=9:=by rw[<-hx];have:N / 10^(L-1-(r0+wd))%10<10:=Nat.mod_lt _ zd;omega
  have c1:=HD.out.digit (r0+wd) zd;rw[HUN.out _ (Nat.le_refl _) hrL,vh,hx,show ((48+x:Nat):Int)=48+(x:Int) by omega]at c1;have hdW:∃ v,wk.cell? ⟨g,wd,none⟩=some v:=⟨_,HD.out.digit wd zd⟩;obtain⟨vW,hvW⟩:=hdW;have hand:=zbh n' k hk2 zd;rw[HB.out]at hand;have hdig:(n':Int) / (B:Int)=((n' / B:Nat):Int):=by rw[Int.natCast_ediv]
  have hdb:n' / B<=9:=by have:=Nat.div_lt_of_lt_mul (m:=n') (n:=B) (k:=10) zβX;omega
  have hmb:n'%B<B:=Nat.mod_lt _ zd;have hstep:=zj6 (xR N L (r0+wd)) B x zd hx9;have hsu:=zav N L (r0+wd) hrL;rw[hx]at hsu;rw[<-hsu,<-HXW.out]at hstep;have hdst:=zkn (xR N L (r0+wd)) B;rw[<-HXW.out]at hdst;have HST:=zH hstep;have HDS:=zH hdst;clear hstep hdst hsu hx;obtain⟨q,hq⟩:=zX (n' / B);obtain⟨m,hm⟩:=zX (n'%B);rw[hq]at hdig hdb HDS;rw[hm]at hand hmb HST;have hwi:(wd:Int)<800:=zd;have hri:(r0:Int)+(wd:Int)<800:=zd;have hrn:((r0:Int)+(wd:Int)).toNat=r0+wd:=zd;clear hq hm;(go_wp2_with fail;repeat ((first|refine cZ ?_|refine cW ?_);go_wp2_with fail));have hlen:bs'.length=800:=HD.out.len;have hq48:((q:Int)+48).toNat=48+q:=zd;refine wo HRK (L-(r0+(wd+1))) (by have:=HKK.out;omega) ⟨wd+1,m*10+x,bs'.set wd (UInt8.ofNat ((q:Int)+48).toNat),Or.inr zd,rfl,HST.out,?_,zb,?_,zb,zb,zb,HD.out.setDigit wd zd _ zd zd,HG.out.set _ _,?_,?_⟩
  ·simp[yc,yd];omega
  ·simp[yc,yd];omega
  ·intro i h1 h2;rw[jn _ _ _ _ zd,if_neg zd];exact HUN.out i zd h2
  ·intro i hi;rw[jn _ _ _ _ zd];by_cases hiw:wd=i
   ·subst hiw;rw[if_pos rfl,hq48,HDS.out]
   ·rw[if_neg hiw];exact HWR.out i zd
 ·have hrLi:decide ((r0:Int)+(wd:Int)<(L:Int))=false:=zh;(go_wp2_with fail;repeat ((first|refine cZ ?_|refine cW ?_);go_wp2_with fail));have hw8:wd<801:=zd;have hlost0:tr=(tr || decide (xR N L (r0+wd-1) / B%10^(wd-800)≠0)):=by rw[show wd-800=0 by omega,zam,Bool.or_false]
  have hnn:n'=0->L<=r0+wd/\1<=wd:=by
   intro h0;have e:=HXW.out;by_cases hz:wd=0
   ·exfalso;rw[hz,Nat.add_zero,<-HX.out,Nat.mod_eq_of_lt hnb2]at e;omega
   ·omega
  have hk0:r0+wd<=L+k+1:=by
   by_cases hz:L<r0
   ·have h1:=HPR.out hz;rw[zgb _ _ _ zd,<-HB.out]at h1;have hN1:1<=N:=Nat.pos_of_ne_zero HN.out;have h2:10^(r0-1-L)<10^k:=Nat.lt_of_le_of_lt (Nat.le_mul_of_pos_left _ hN1) (Nat.lt_of_lt_of_le h1 (Nat.pow_le_pow_left zd k));have h3:=(Nat.pow_lt_pow_iff_right (by omega:1<10)).1 h2;omega
   ·omega
  refine xx (fun kk s' w'=>∃ (wd n':Nat) (bs':List UInt8) (tq:Bool),L<=r0+wd/\r0+wd<=L+k+1/\kk=L+k+2-(r0+wd)/\n'=xR N L (r0+wd)%(10*B)/\(n'=0->L<=r0+wd/\1<=wd)/\s' 5=.int .i64 ((min wd 800:Nat):Int)/\s' 6=.int .u64 (n':Int)/\s' 8=.int .u64 ((B:Int)-1)/\s' 0=.pointer (some ⟨g,0,none⟩)/\s' 1=.int .u64 (k:Int)/\Dec w' g bs' L (dp-((r0:Int)-1)) ng tq/\Gr w w' g/\(∀ i,i<min wd 800->bs'.getD i 0=UInt8.ofNat (48+xR N L (r0+i) / B%10))/\tq=(tr || decide (xR N L (r0+wd-1) / B%10^(wd-800)≠0))) (L+k+2-(r0+wd))
   ⟨wd,n',bs',tr,zd,hk0,rfl,HXW.out,hnn,by rw[Nat.min_eq_left zd];simp[ov, *],zb,zb,zb,zb,HD.out,HG.out,fun i hi=>HWR.out i zd,hlost0⟩ ?_
  clear s0 s1 s4 s5 s6 s8 σ HD HG hlt d1 fz HXW HWR HUN HKK hn10 hrL hrLi hw8 hnn hk0 hwd hlost0 wd n' bs' HRK hKK;rintro k4 σ wl ⟨wd,n',bs',tq,hge,hke,hkk,hn,hnn,s5,s6,s8,s0,s1,hd,hg,hwr,htq⟩ RL KL HRL hKL;have HTQ:=zH htq;clear htq;have hwb:wd<=L+k+1:=zd;have HXW:=zH hn;have HKK:=zH hkk;have HNN:=zH hnn;have HWR:=zH hwr;have HD:=zH hd;have HG:=zH hg;have hlt:=hd.lt;have fz:=hd.frozen;have hn10:n'<10*B:=by rw[hn];exact Nat.mod_lt _ zd
  clear hn hkk hnn hwr hd hg;by_cases hz:n'=0
  ·obtain⟨hL1,hw1⟩:=HNN.out hz;subst hz;have hend:=zs3 N L k r0 wd hw1 (by rw[HB.out];exact HXW.out.symm) hL1 hke;rw[HB.out]at hend;have hsz:=zs1 N L B r0 (wd-1) zd (by rw[<-HX.out];exact hnb1) (by rw[<-HX.out];exact hnb2);rw[show r0+(wd-1)=r0+wd-1 by omega]at hsz;have hnd:=vg (wd-1) _ hsz.1 hsz.2;rw[show wd-1+1=wd by omega]at hnd;obtain⟨n8,hn8⟩:=zX (min wd 800);have hdg:bs'.take n8=digs (xR N L (r0+wd-1) / B / 10^(wd-800)) n8:=by
    refine zgk bs' _ n8 (by rw[HD.out.len];omega) fun j hj=>?_
    rw[HWR.out _ zd,zst];refine zut _ _ _ ?_;have:=zet N L (r0+(n8-1-j)) (j+(wd-800));rw[show r0+(n8-1-j)+(j+(wd-800))=r0+wd-1 by omega]at this;rw[this,Nat.div_div_eq_div_mul,Nat.div_div_eq_div_mul,Nat.mul_comm]
   have htq:=HTQ.out;obtain⟨Q,hQ⟩:=zX (xR N L (r0+wd-1) / B);rw[hQ]at hend hdg hnd htq;have htrim:=fun (n:Nat) (W:World) (dp':Int) (hdd:Dec W g bs' n dp' ng tq) (hn:n<=800)=>zji g n bs' dp' ng tq W hdd hn
   have HTR:=zH htrim;have HEN:=zH hend;have HDG:=zH hdg;have HND:=zH hnd;have HTQ2:=zH htq;have HN8:=zH hn8;have d1:=HD.out.cnd;have h800:n8<=800:=zd;rw[hn8]at s5;clear htrim hend hdg hnd hsz hQ htq hn8;(go_wp2_with fail;repeat ((first|refine cZ ?_|refine cW ?_);go_wp2_with fail));refine (HTR.out n8 _ _ (HD.out.setNd _) h800).mono ?_;rintro e w7 ⟨rfl,hd7,hg7⟩;go_wp2_with fail;refine zi2 rfl ⟨rfl,Q,L+k+1-(r0+wd),n8,bs',HEN.out,?_,?_,?_,?_⟩
   ·rw[HND.out];exact HN8.out.symm
   ·rw[HND.out];exact HDG.out
   ·rw[HND.out,HL.out,<-HTQ2.out];rw[show dp+(wd:Int)-(L:Int)-(k:Int)+((L+k+1-(r0+wd):Nat):Int)=dp-((r0:Int)-1) by omega];exact hd7
   ·exact (HG.out.set _ _).trans hg7
  ·have hrk:r0+wd<=L+k:=by
    rcases Nat.lt_or_ge (L+k) (r0+wd) with h | h
    ·have:=zs4 N L k (r0+wd) zd;rw[HB.out]at this;exact absurd (HXW.out.trans this) hz
    ·exact h
   have hand:=zbh n' k hk2 zd;rw[HB.out]at hand;have hdig:(n':Int) / (B:Int)=((n' / B:Nat):Int):=by rw[Int.natCast_ediv]
   have hdb:n' / B<=9:=by have:=Nat.div_lt_of_lt_mul (m:=n') (n:=B) (k:=10) zβX;omega
   have hmb:n'%B<B:=Nat.mod_lt _ zd;have hstep:=zj6 (xR N L (r0+wd)) B 0 zd zd;have hsu:=je N L (r0+wd) hge;rw[Nat.add_zero,<-hsu,<-HXW.out]at hstep;have hdst:=zkn (xR N L (r0+wd)) B;rw[<-HXW.out]at hdst;have HST:=zH hstep;have HDS:=zH hdst;clear hstep hdst hsu;obtain⟨q,hq⟩:=zX (n' / B);obtain⟨m,hm⟩:=zX (n'%B);rw[hq]at hdig hdb HDS;rw[hm]at hand hmb HST;have hzi:0<n':=zd;have hqs:xR N L (r0+(wd+1)-1) / B=(if wd=0 then 0 else xR N L (r0+wd-1) / B)*10+q:=by
    rw[show r0+(wd+1)-1=r0+wd by omega,HDS.out];by_cases hw0:wd=0
    ·rw[if_pos hw0,hw0,Nat.add_zero,Nat.zero_mul,Nat.zero_add];have h1:xR N L r0 / B<10:=by
      rw[<-HX.out];exact Nat.div_lt_of_lt_mul (by rw[Nat.mul_comm];exact hnb2)
     exact (Nat.mod_eq_of_lt h1).symm
    ·rw[if_neg hw0];have h1:=zet N L (r0+wd-1) 1;rw[show r0+wd-1+1=r0+wd by omega,Nat.pow_one]at h1;rw[h1,Nat.div_div_eq_div_mul,Nat.mul_comm 10 B,<-Nat.div_div_eq_div_mul];generalize xR N L (r0+wd) / B=A;omega
   have htq2:(wd<800->tq=(tr || decide (xR N L (r0+(wd+1)-1) / B%10^(wd+1-800)≠0)))/\(800<=wd->(tr || decide (xR N L (r0+(wd+1)-1) / B%10^(wd+1-800)≠0))=(tq || decide (q≠0))):=by
    have h1:=HTQ.out;constructor
    ·intro h5;rw[h1,show wd-800=0 by omega,show wd+1-800=0 by omega,zam,zam]
    ·intro h5;rw[h1,hqs,if_neg zd,Bool.or_assoc];congr 1;rw[show wd+1-800=(wd-800)+1 by omega];generalize xR N L (r0+wd-1) / B=Y;have e1:(Y*10+q)%10^(wd-800+1)=Y%10^(wd-800)*10+q:=by
      rw[Nat.pow_succ,Nat.mul_comm (10^(wd-800)) 10,Nat.mod_mul,show (Y*10+q) / 10=Y by omega,show (Y*10+q)%10=q by omega];omega
     rw[e1];clear e1;generalize Y%10^(wd-800)=y at *
     by_cases y0:y=0
     ·subst y0;simp
     ·rw[decide_eq_true (show y*10+q≠0 by omega),decide_eq_true y0,Bool.true_or]
   have HT2:=zH htq2;clear hq hm hz hqs htq2;by_cases hw:wd<800
   ·have hwi:(wd:Int)<800:=zd;have hdW:∃ v,wl.cell? ⟨g,wd,none⟩=some v:=⟨_,HD.out.digit wd zd⟩;obtain⟨vW,hvW⟩:=hdW;rw[Nat.min_eq_left (by omega:wd<=800)]at s5;(go_wp2_with fail;repeat ((first|refine cZ ?_|refine cW ?_);go_wp2_with fail));have hlen:bs'.length=800:=HD.out.len;have hq48:((q:Int)+48).toNat=48+q:=zd;refine wo HRL (L+k+2-(r0+(wd+1))) (by have:=HKK.out;omega) ⟨wd+1,m*10,bs'.set wd (UInt8.ofNat ((q:Int)+48).toNat),tq,zd,zd,rfl,HST.out,fun _=>zd,?_,?_,zb,zb,zb,HD.out.setDigit wd zd _ zd zd,HG.out.set _ _,?_,HT2.out.1 hw⟩
    ·rw[Nat.min_eq_left (by omega:wd+1<=800)];simp[yc,yd]
    ·simp[yc,yd]
    ·intro i hi;rw[jn _ _ _ _ zd];by_cases hiw:wd=i
     ·subst hiw;rw[if_pos rfl,hq48,HDS.out]
     ·rw[if_neg hiw];exact HWR.out i zd
   ·rw[Nat.min_eq_right (by omega:800<=wd)]at s5;have d3:=HD.out.ctr;by_cases hq0:q=0
    ·subst hq0;(go_wp2_with fail;repeat ((first|refine cZ ?_|refine cW ?_);go_wp2_with fail));refine wo HRL (L+k+2-(r0+(wd+1))) (by have:=HKK.out;omega) ⟨wd+1,m*10,bs',tq,zd,zd,rfl,HST.out,fun _=>zd,?_,?_,zb,zb,zb,HD.out,HG.out,fun i hi=>HWR.out i zd,?_⟩
     ·rw[Nat.min_eq_right (by omega:800<=wd+1)];simp[ov, *]
     ·simp[yc,yd]
     ·rw[HT2.out.2 zd];simp
    ·have hq1:0<q:=zd;(go_wp2_with fail;repeat ((first|refine cZ ?_|refine cW ?_);go_wp2_with fail));refine wo HRL (L+k+2-(r0+(wd+1))) (by have:=HKK.out;omega) ⟨wd+1,m*10,bs',true,zd,zd,rfl,HST.out,fun _=>zd,?_,?_,zb,zb,zb,HD.out.setTr true,HG.out.set _ _,fun i hi=>HWR.out i zd,?_⟩
     ·rw[Nat.min_eq_right (by omega:800<=wd+1)];simp[ov, *]
     ·simp[yc,yd]
     ·rw[HT2.out.2 zd];simp[hq0]
end Go.Proofs.YtnifedmhgncioaaGreatDoor
