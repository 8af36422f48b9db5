/- Lemmas that the claim's top text leans on. No condition of their own. -/
import Derived.Test.YtnifedmhgncioaaGreatDoorJ18
namespace Go.Proofs.YtnifedmhgncioaaGreatDoor
open Go.RowKit
set_option linter.unusedSimpArgs false
set_option linter.unusedVariables false
set_option maxHeartbeats 16000000
structure DecT (w:World) (g N:Nat) (p:Int) (ng tr:Bool):Prop where
 ne:N≠0
 le:yi N<=800
 dec:∃ bs,bs.take (yi N)=digs N (yi N)/\Dec w g bs (yi N:Nat) (p+yi N) ng tr
theorem DecT.grown {w w':World} {row:Option Nat} {g N:Nat} {p:Int} {ng tr:Bool} (h:DecT w g N p ng tr) (hg:w.grownBy w' row) (hne:some g≠row):DecT w' g N p ng tr:=by
 obtain⟨h1,h2,bs,h3,h4⟩:=h;exact⟨h1,h2,bs,h3,h4.grown hg hne⟩
theorem DecT.ne0 {w:World} {g N:Nat} {p:Int} {ng tr:Bool} (h:DecT w g N p ng tr):N≠0:=h.ne
theorem DecT.toN {w:World} {g N:Nat} {p:Int} {ng:Bool} (h:DecT w g N p ng false) (hne:N%10≠0):DecN w g N p ng:=⟨hne,h.dec⟩
theorem DecT.of_trim {w:World} {g M:Nat} {p:Int} {ng tr:Bool} {bs:List UInt8} {dp:Int} (h0:M≠0) (h8:yi M<=800) (h:bs.take (yi M)=digs M (yi M))
  (hd:Dec w g bs (uc bs (yi M):Nat) (zbi (uc bs (yi M)) dp) ng tr) (hp:dp=p+yi M):DecT w g (zga M) (p+tz M) ng tr/\p+tz M+yi (zga M)=dp:=by
 obtain⟨h1,h2⟩:=zk3 bs M h0 h;have h3:=znx M h0;refine⟨⟨zpc M h0,zd,bs,h2,?_⟩,zd⟩;rw[h1]at hd;have h4:zbi (yi (zga M)) dp=p+tz M+yi (zga M):=by
  have:=yfr (zpc M h0);unfold zbi;rw[if_neg zd,hp];omega
 rw[h4]at hd;exact hd
theorem zee {M n:Nat} (h:M<10^n):yi M<=n:=by
 by_cases h0:M=0
 ·subst h0;rw[kw];exact Nat.zero_le _
 ·have h1:=qh h0;have h3:=(Nat.pow_lt_pow_iff_right (by omega:1<10)).1 (Nat.lt_of_le_of_lt h1 h);omega
theorem zj5 (M Z:Nat) (h0:M≠0) (hZ:Z<yi M):yi (M / 10^Z)=yi M-Z:=by
 have h1:=qh h0;have h2:=xi M;generalize yi M=n at *
 have:=vg (n-1-Z) (M / 10^Z) ((Nat.le_div_iff_mul_le (p10 Z)).2 (by rw[<-Nat.pow_add];rw[show n-1-Z+Z=n-1 by omega];exact h1)) ((Nat.div_lt_iff_lt_mul (p10 Z)).2 (by rw[<-Nat.pow_add];rw[show n-1-Z+1+Z=n by omega];exact h2));omega
theorem zc5 (N c k:Nat) (hc:c<=10):yi (N*c^k)<=yi N+k:=by
 by_cases h0:N=0
 ·subst h0;rw[Nat.zero_mul,kw];exact Nat.zero_le _
 refine zee ?_;rw[Nat.pow_add];exact Nat.lt_of_le_of_lt (Nat.mul_le_mul_left _ (Nat.pow_le_pow_left hc k)) (Nat.mul_lt_mul_of_pos_right (xi N) (p10 k))
def Bd (G e:Int):Prop:=e<=G+1110/\-1300<=e/\e<=1300/\-1200<=G/\G<=1100/\G-e<=2200
def Sh (k:Int) (N:Nat) (p:Int) (tr:Bool) (N':Nat) (p':Int) (tr':Bool):Prop:=
 ∀ (A:Nat) (P:Int) (J:Nat) (G e:Int),Lim A P G->Bd G e->Bd G (e-k)->Apx A P J G e N p tr->Apx A P J G (e-k) N' p' tr'
theorem Sh.refl (N:Nat) (p:Int) (tr:Bool):Sh 0 N p tr N p tr:=by
 intro A P J G e _ _ _ h;rw[Int.sub_zero];exact h
theorem Sh.trans {k j:Int} {N N1 N2:Nat} {p p1 p2:Int} {tr tr1 tr2:Bool} (h:Sh k N p tr N1 p1 tr1) (h':Sh j N1 p1 tr1 N2 p2 tr2) (hs:(0<=k/\0<=j)\/(k<=0/\j<=0)):Sh (k+j) N p tr N2 p2 tr2:=by
 intro A P J G e hl h1 h2 ha;have h3:Bd G (e-k):=by unfold Bd at *;omega
 have:=h' A P J G (e-k) hl h3 (by rw[show e-k-j=e-(k+j) by omega];exact h2) (h A P J G e hl h1 h3 ha);rw[show e-k-j=e-(k+j) by omega]at this;exact this
theorem zdd (T g N k:Nat) (p:Int) (ng tr:Bool) (w:World) (he:Env T w) (hgT:T<=g) (hd:DecT w g N p ng tr)
  (hk1:1<=k) (hk2:k<=60) (hp1:-1500<=p+yi N) (hp2:p+yi N<=1300):
  Calls Tryz.prog 137 #[.pointer (some ⟨g,0,none⟩),.int .u64 (k:Int)] w fun r w'=>
   r=.returned (.tuple #[])/\∃ (N':Nat) (p':Int) (tr':Bool),DecT w' g N' p' ng tr'/\N'%10≠0/\Sh k N p tr N' p' tr'/\p+yi N<=p'+yi N'/\p'+yi N'<=p+yi N+k/\Gr w w' g:=by
 have hN0:=hd.ne0;obtain⟨hne,h8,bs,hbs,hdec⟩:=hd;refine (zd1 T g N k bs _ ng tr w he hgT hdec hbs hN0 hk1 hk2 h8 zd zd).mono ?_;rintro r w' ⟨rfl,bs',n,hn,hb,hd',hle,h19,hg⟩;have hM0:N*2^k≠0:=Nat.mul_ne_zero hN0 (Nat.ne_of_gt (p2 k));have hMp:=yfr hM0;have hq:yi (N*2^k / 10^(yi (N*2^k)-800))=n:=by rw[zj5 _ _ hM0 zd];omega
 have hQ0:N*2^k / 10^(yi (N*2^k)-800)≠0:=by
  intro e;rw[e,kw]at hq;omega
 rw[<-hq]at hb hd';have hup:=zc5 N 2 k zd;obtain⟨t1,t2⟩:=DecT.of_trim (p:=p+(yi (N*2^k)-800:Nat)) hQ0 zd hb hd' zd;refine⟨rfl,_,_,_,t1,(zar _ hQ0).2,?_,zd,zd,hg⟩;intro A P J G e hl h1 h2 ha;have hk:=vs;unfold Bd at h1 h2;exact Apx.chopN (ha.left k zd zd) hl hM0 zd zd zd zd zd zd zd zd zd
theorem zbm (T g N k:Nat) (p:Int) (ng tr:Bool) (w:World) (he:Env T w) (hgT:T<=g) (hd:DecT w g N p ng tr)
  (hk1:1<=k) (hk2:k<=60) (hp1:-1500<=p+yi N) (hp2:p+yi N<=1300):
  Calls Tryz.prog 138 #[.pointer (some ⟨g,0,none⟩),.int .u64 (k:Int)] w fun r w'=>
   r=.returned (.tuple #[])/\∃ (N':Nat) (p':Int) (tr':Bool),DecT w' g N' p' ng tr'/\N'%10≠0/\Sh (-(k:Int)) N p tr N' p' tr'/\p+yi N-k<=p'+yi N'/\p'+yi N'<=p+yi N/\Gr w w' g:=by
 have hN0:=hd.ne0;obtain⟨hne,h8,bs,hbs,hdec⟩:=hd;refine (zcx T g N k bs _ ng tr w he hgT hdec hbs hne hk1 hk2 h8 zd zd).mono ?_;rintro r w' ⟨rfl,Q,z,n,bs',hQ,hn,hb,hd',hg⟩;have hM0:N*5^k≠0:=Nat.mul_ne_zero hN0 (Nat.ne_of_gt (Nat.pow_pos zd));have hQ0:Q≠0:=by intro e;rw[e,Nat.zero_mul]at hQ;exact hM0 hQ.symm
 have hQp:=yfr hQ0;have hq:yi (Q / 10^(yi Q-800))=n:=by rw[zj5 _ _ hQ0 zd];omega
 have hR0:Q / 10^(yi Q-800)≠0:=by
  intro e;rw[e,kw]at hq;omega
 rw[<-hq]at hb hd';have hup:=zc5 N 5 k zd;have hlo:=znw N (N*5^k) (Nat.le_mul_of_pos_right _ (Nat.pow_pos zd));have hz:yi Q+z=yi (N*5^k):=by
  rw[<-hQ];clear hQ hn hb hd' hq hR0 hup hlo;induction z with
  | zero=>rw[Nat.pow_zero,Nat.mul_one,Nat.add_zero]
  | succ z ih=>
   rw[Nat.pow_succ,<-Nat.mul_assoc,za3 (Nat.mul_ne_zero hQ0 (Nat.ne_of_gt (p10 z)))];omega
 obtain⟨t1,t2⟩:=DecT.of_trim (p:=p-k+z+(yi Q-800:Nat)) hR0 zd hb hd' zd;refine⟨rfl,_,_,_,t1,(zar _ hR0).2,?_,zd,zd,hg⟩;intro A P J G e hl h1 h2 ha;have hk:=vs;unfold Bd at h1 h2;have h3:=ha.right k zd zd zd zd;rw[<-hQ]at h3;have h4:=h3.norm zd;have:=Apx.chopN h4 hl hQ0 zd zd zd zd zd zd zd zd zd;rw[show e - -(k:Int)=e+k by omega];exact this
set_option maxRecDepth 100000 in
theorem zbf (T g N:Nat) (p k:Int) (ng tr:Bool) (w:World) (he:Env T w) (hgT:T<=g) (hd:DecT w g N p ng tr)
  (hk1:-1120<=k) (hk2:k<=200) (hp1:-1480<=p+yi N) (hp3:k<0->-1480<=p+yi N+k) (hp2:p+yi N<=1000):
  Calls Tryz.prog 100 #[.pointer (some ⟨g,0,none⟩),.int .i64 k] w fun r w'=>
   r=.returned (.tuple #[])/\∃ (N':Nat) (p':Int) (tr':Bool),DecT w' g N' p' ng tr'/\(k≠0->N'%10≠0)/\Sh k N p tr N' p' tr'/\(0<=k->p+yi N<=p'+yi N'/\p'+yi N'<=p+yi N+k)/\(k<=0->p+yi N+k<=p'+yi N'/\p'+yi N'<=p+yi N)/\Gr w w' g:=by
 have hN0:=hd.ne0;have hL1:=yfr hN0;have h8:=hd.le;have hlt:g<w.heap.size:=by obtain⟨_,_,bs,_,hd⟩:=hd;exact hd.lt
 have d1:w.cell? ⟨g,800,none⟩=some (.int .i64 (yi N:Nat)):=by obtain⟨_,_,bs,_,hd⟩:=hd;exact hd.cnd
 obtain⟨L,hL⟩:=zX (yi N);rw[hL]at d1 hL1 hp1 hp2 hp3 h8;rw[hL];have hLz:((L:Int)==0)=false:=zf;have HD:=zH hd;have HE:=zH he;have HL:=zH hL;clear hd he hN0 hL;obtain⟨dp,hdp⟩:=zX (p+(L:Int));rw[hdp]at hp1 hp2 hp3 ⊢;have HDP:=zH hdp;clear hdp;refine ye Tryz.func100 rfl (by rw[Tryz.ntmps100];simp) ?_;intro σ hσ;rw[Tryz.ntmps100];have s0:σ 0=.pointer (some ⟨g,0,none⟩):=hσ 0 zi;have s1:σ 1=.int .i64 k:=hσ 1 zi;clear hσ;rcases Int.lt_trichotomy k 0 with hk | hk | hk
 ·obtain⟨n,rfl⟩:∃ n:Nat,k=-(n:Int):=⟨(-k).toNat,zd⟩;have hk':decide (0 < -(n:Int))=false:=zi;have hn0:1<=n:=zd;have hn00:0<n:=zd;have hp4:-1480<=dp-n:=by have:=hp3 hk;omega
  clear hp3;(go_wp2_with fail;repeat ((first|refine cZ ?_|refine cW ?_);go_wp2_with fail));refine xx (fun kk s' w'=>∃ (j:Nat) (Nj:Nat) (pj:Int) (tj:Bool),j<n/\kk=n-j/\s' 0=.pointer (some ⟨g,0,none⟩)/\s' 1=.int .i64 (-((n:Int)-j))/\DecT w' g Nj pj ng tj/\Sh (-(j:Int)) N p tr Nj pj tj/\dp-j<=pj+yi Nj/\pj+yi Nj<=dp/\Gr w w' g) n
   ⟨0,N,p,tr,zd,rfl,zb,zb,HD.out,Sh.refl N p tr,zr,zr,Gr.refl w g⟩ ?_
  clear s0 s1 σ;rintro kk σ wk ⟨j,Nj,pj,tj,hj,hkk,s0,s1,hdec,hsh,hb1,hb2,hgr⟩ RK KK HRK hKK;have HKK:=zH hkk;have HDEC:=zH hdec;have HGR:=zH hgr;have HSH:=zH hsh;clear hkk hdec hgr hsh;by_cases hn60:60<n-j
  ·have ht:-((n:Int)-(j:Int)) < -60:=zd;(go_wp2_with fail;repeat ((first|refine cZ ?_|refine cW ?_);go_wp2_with fail));refine (zbm T g Nj 60 pj ng tj _ (HE.out.grown HGR.out (fun k e=>zz)) hgT HDEC.out zd zd zd zd).mono ?_;rintro e w7 ⟨rfl,N7,p7,t7,hd7,hn7,hs7,hb71,hb72,hg7⟩;have HD7:=zH hd7;have HS7:=zH hs7;have HN7:=zH hn7;clear hd7 hs7 hn7;(go_wp2_with fail;repeat ((first|refine cZ ?_|refine cW ?_);go_wp2_with fail));refine wo HRK (n-(j+60)) (by have:=HKK.out;omega) ⟨j+60,N7,p7,t7,zd,rfl,zb,?_,HD7.out,?_,zd,zd,HGR.out.trans hg7⟩
   ·have:-((n:Int)-((j+60:Nat):Int))=-((n:Int)-(j:Int))+60:=zd;rw[this];simp[yc,yd]
   ·have:=HSH.out.trans HS7.out (Or.inr ⟨zd,zd⟩);rw[show -(j:Int)+-((60:Nat):Int)=-((j+60:Nat):Int) by omega]at this;exact this
  ·obtain⟨c,hc⟩:=zX (n-j);have ht:decide (-((n:Int)-(j:Int)) < -60)=false:=zh;have hci:-(-((n:Int)-(j:Int)))=(c:Int):=zd;rw[show -((n:Int)-(j:Int))=-(c:Int) by omega]at s1 ht;have hc64:IntKind.u64.wrap (c:Int)=(c:Int):=zl;have hc0:(c:Int)<=60:=zd;clear hci;(go_wp2_with fail;repeat ((first|refine cZ ?_|refine cW ?_);go_wp2_with fail));refine (zbm T g Nj c pj ng tj _ (HE.out.grown HGR.out (fun k e=>zz)) hgT HDEC.out zd zd zd zd).mono ?_;rintro e w7 ⟨rfl,N7,p7,t7,hd7,hn7,hs7,hb71,hb72,hg7⟩;have HD7:=zH hd7;have HS7:=zH hs7;have HN7:=zH hn7;clear hd7 hs7 hn7;(go_wp2_with fail;repeat ((first|refine cZ ?_|refine cW ?_);go_wp2_with fail));refine zi2 rfl ⟨rfl,N7,p7,t7,HD7.out,fun _=>HN7.out,?_,fun h=>zd,fun _=>zd,HGR.out.trans hg7⟩;have:=HSH.out.trans HS7.out (Or.inr ⟨zd,zd⟩);rw[show -(j:Int)+-(c:Int)=-(n:Int) by omega]at this;exact this
 ·subst hk;(go_wp2_with fail;repeat ((first|refine cZ ?_|refine cW ?_);go_wp2_with fail));exact zi2 rfl ⟨rfl,N,p,tr,HD.out,fun h=>absurd rfl h,Sh.refl N p tr,fun _=>zr,fun _=>zr,Gr.refl w g⟩
 ·obtain⟨n,rfl⟩:∃ n:Nat,k=(n:Int):=⟨k.toNat,zd⟩;have hn0:1<=n:=zd;have hn00:0<n:=zd;(go_wp2_with fail;repeat ((first|refine cZ ?_|refine cW ?_);go_wp2_with fail));refine xx (fun kk s' w'=>∃ (j:Nat) (Nj:Nat) (pj:Int) (tj:Bool),j<n/\kk=n-j/\s' 0=.pointer (some ⟨g,0,none⟩)/\s' 1=.int .i64 ((n:Int)-j)/\DecT w' g Nj pj ng tj/\Sh (j:Int) N p tr Nj pj tj/\dp<=pj+yi Nj/\pj+yi Nj<=dp+j/\Gr w w' g) n
   ⟨0,N,p,tr,zd,rfl,zb,zb,HD.out,Sh.refl N p tr,zr,zr,Gr.refl w g⟩ ?_
  clear s0 s1 σ;rintro kk σ wk ⟨j,Nj,pj,tj,hj,hkk,s0,s1,hdec,hsh,hb1,hb2,hgr⟩ RK KK HRK hKK;have HKK:=zH hkk;have HDEC:=zH hdec;have HGR:=zH hgr;have HSH:=zH hsh;clear hkk hdec hgr hsh;by_cases hn60:60<n-j
  ·have ht:60<(n:Int)-(j:Int):=zd;(go_wp2_with fail;repeat ((first|refine cZ ?_|refine cW ?_);go_wp2_with fail));refine (zdd T g Nj 60 pj ng tj _ (HE.out.grown HGR.out (fun k e=>zz)) hgT HDEC.out zd zd zd zd).mono ?_;rintro e w7 ⟨rfl,N7,p7,t7,hd7,hn7,hs7,hb71,hb72,hg7⟩;have HD7:=zH hd7;have HS7:=zH hs7;have HN7:=zH hn7;clear hd7 hs7 hn7;(go_wp2_with fail;repeat ((first|refine cZ ?_|refine cW ?_);go_wp2_with fail));refine wo HRK (n-(j+60)) (by have:=HKK.out;omega) ⟨j+60,N7,p7,t7,zd,rfl,zb,?_,HD7.out,?_,zd,zd,HGR.out.trans hg7⟩
   ·have:(n:Int)-((j+60:Nat):Int)=(n:Int)-(j:Int)-60:=zd;rw[this];simp[yc,yd]
   ·have:=HSH.out.trans HS7.out (Or.inl ⟨zd,zd⟩);rw[show (j:Int)+((60:Nat):Int)=((j+60:Nat):Int) by omega]at this;exact this
  ·obtain⟨c,hc⟩:=zX (n-j);have ht:decide (60<(n:Int)-(j:Int))=false:=zh;rw[show (n:Int)-(j:Int)=(c:Int) by omega]at s1 ht;have hc64:IntKind.u64.wrap (c:Int)=(c:Int):=zl;have hc0:(c:Int)<=60:=zd;(go_wp2_with fail;repeat ((first|refine cZ ?_|refine cW ?_);go_wp2_with fail));refine (zdd T g Nj c pj ng tj _ (HE.out.grown HGR.out (fun k e=>zz)) hgT HDEC.out zd zd zd zd).mono ?_;rintro e w7 ⟨rfl,N7,p7,t7,hd7,hn7,hs7,hb71,hb72,hg7⟩;have HD7:=zH hd7;have HS7:=zH hs7;have HN7:=zH hn7;clear hd7 hs7 hn7;(go_wp2_with fail;repeat ((first|refine cZ ?_|refine cW ?_);go_wp2_with fail));refine zi2 rfl ⟨rfl,N7,p7,t7,HD7.out,fun _=>HN7.out,?_,fun _=>zd,fun h=>zd,HGR.out.trans hg7⟩;have:=HSH.out.trans HS7.out (Or.inl ⟨zd,zd⟩);rw[show (j:Int)+(c:Int)=(n:Int) by omega]at this;exact this
def ux (N t:Nat) (tr:Bool):Bool:=decide (10^t<2*(N%10^t)) || (decide (10^t=2*(N%10^t))&&(tr || decide (N / 10^t%2=1)))
theorem zgs (N t:Nat):ux N t false=zgt N t:=by unfold ux zgt;simp
theorem zh7 (N:Nat) (h:N%10=5):ux N 1 true=true:=by
 unfold ux;rw[Nat.pow_one,h];simp
theorem zh8 (N s:Nat) (tr:Bool) (hN:N%10≠0) (h:¬(N / 10^s%10=5/\s=0)):ux N (s+1) tr=decide (5<=N / 10^s%10):=by
 unfold ux;have e:=zbs N s;have p:0<10^s:=Nat.pow_pos zd;have hl:=Nat.mod_lt N p;obtain⟨d,hd⟩:=zX (N / 10^s%10);have hnz:d=5->N%10^s≠0:=by
  intro h5 e0;cases s with
  | zero=>exact h ⟨by rw[hd];exact h5,rfl⟩
  | succ s=>
   have:N%10^(s+1)%10=N%10:=Nat.mod_mod_of_dvd _ ⟨10^s,zE⟩;rw[e0]at this;exact hN this.symm
 rw[hd]at e ⊢;rw[e,Nat.pow_succ];generalize N%10^s=x at *
 generalize 10^s=P at *
 rcases Nat.lt_or_ge d 5 with h5 | h5
 ·have:d*P<=4*P:=Nat.mul_le_mul_right _ zd;have h1:¬P*10<2*(d*P+x):=zd;have h2:¬P*10=2*(d*P+x):=zd;simp[h1,h2,h5]
 ·have h1:P*10<2*(d*P+x):=by
   rcases Nat.lt_or_ge 5 d with h6 | h6
   ·have:6*P<=d*P:=Nat.mul_le_mul_right _ h6;omega
   ·have h5':d=5:=zd;have hx:=hnz h5';rw[h5'];omega
  simp[h1,h5]
set_option maxRecDepth 100000 in
theorem zqj (g N n:Nat) (p:Int) (ng tr:Bool) (w:World) (hd:DecT w g N p ng tr) (hne:N%10≠0) (hn:n<yi N):
  Calls Tryz.prog 139 #[.pointer (some ⟨g,0,none⟩),.int .i64 (n:Int)] w fun r w'=>
   r=.returned (.bool (ux N (yi N-n) tr))/\w=w':=by
 have hL8:=hd.le;cases tr with
 | false=>rw[zgs];exact zk7 g N n p ng w (hd.toN hne) hn hL8
 | true=>
  obtain⟨-,-,bs,hbs,hd⟩:=hd;have hN:=hne;have hlt:=hd.lt;have d1:=hd.cnd;have d3:=hd.ctr;obtain⟨L,hL⟩:=zX (yi N);rw[hL]at d1 hbs hn hL8;rw[hL];have c1:=hd.digit n zd;rw[uq bs N L hbs n hn,vh]at c1;obtain⟨s,hs⟩:=zX (L-1-n);rw[hs]at c1;rw[show L-n=s+1 by omega];have hni:(n:Int)<(L:Int):=zd;have hni2:decide (L<=n)=false:=zh;have hn0:decide ((n:Int)<0)=false:=zi;have hn8:(n:Int)<800:=zd;have hd9:N / 10^s%10<10:=Nat.mod_lt _ zd;obtain⟨res,hres⟩:=zX (ux N (s+1) true);have hE:=zh8 N s true hN;have HE:=zH hE;have HRES:=zH hres;rw[hres];obtain⟨d,hdd⟩:=zX (N / 10^s%10);rw[hdd]at c1 hd9;rw[show ((48+d:Nat):Int)=48+(d:Int) by omega]at c1;have HDD:=zH hdd;have HL:=zH hL;clear hE hres hd hbs hdd hL hN;refine ye Tryz.func139 rfl (by rw[Tryz.ntmps139];simp) ?_;intro σ hσ;rw[Tryz.ntmps139];have s0:σ 0=.pointer (some ⟨g,0,none⟩):=hσ 0 zi;have s1:σ 1=.int .i64 (n:Int):=hσ 1 zi;clear hσ;by_cases h5:d=5
  ·subst h5;by_cases hs0:s=0
   ·have hnL:((n:Int)+1==(L:Int))=true:=zh;have hhalf:=zh7 N (by have:=HDD.out;rw[hs0,Nat.pow_zero,Nat.div_one]at this;exact this);rw[hs0]at HRES;rw[Nat.zero_add]at HRES;rw[HRES.out]at hhalf;(go_wp2_with fail;repeat ((first|refine cZ ?_|refine cW ?_);go_wp2_with fail));exact yl (.bool true) rfl ze zb ⟨by rw[hhalf],rfl⟩
   ·have hnL:((n:Int)+1==(L:Int))=false:=zf;have hr:=HE.out (fun h=>hs0 h.2);rw[HRES.out,HDD.out]at hr;have HR:=zH hr;clear hr;(go_wp2_with fail;repeat ((first|refine cZ ?_|refine cW ?_);go_wp2_with fail));refine yl (.bool (decide (5<=5))) rfl ze zb ⟨?_,rfl⟩;rw[HR.out]
  ·have hr:=HE.out (fun h=>h5 (HDD.out.symm.trans h.1));rw[HRES.out,HDD.out]at hr;have HR:=zH hr;have h53:((48:Int)+(d:Int)==53)=false:=zf;clear hr;(go_wp2_with fail;repeat ((first|refine cZ ?_|refine cW ?_);go_wp2_with fail));refine yl (.bool (decide (53<=48+(d:Int)))) rfl ze zb ⟨?_,rfl⟩;rw[HR.out];congr 2;rw[Bool.eq_iff_iff];simp only[decide_eq_true_eq];omega
set_option maxRecDepth 100000 in
theorem zk6 (g N:Nat) (n p:Int) (ng tr:Bool) (w:World) (hd:DecT w g N p ng tr) (hn:n<0\/(yi N:Int)<=n):
  Calls Tryz.prog 139 #[.pointer (some ⟨g,0,none⟩),.int .i64 n] w fun r w'=>
   r=.returned (.bool false)/\w=w':=by
 obtain⟨hN,hL8,bs,hbs,hd⟩:=hd;have hlt:=hd.lt;have d1:=hd.cnd;obtain⟨L,hL⟩:=zX (yi N);rw[hL]at d1 hn;clear hL hbs hd hN hL8;refine ye Tryz.func139 rfl (by rw[Tryz.ntmps139];simp) ?_;intro σ hσ;rw[Tryz.ntmps139];have s0:σ 0=.pointer (some ⟨g,0,none⟩):=hσ 0 zi;have s1:σ 1=.int .i64 n:=hσ 1 zi;clear hσ;by_cases h0:n<0
 ·clear hn;(go_wp2_with fail;repeat ((first|refine cZ ?_|refine cW ?_);go_wp2_with fail));exact yl (.bool false) rfl ze zb ⟨rfl,rfl⟩
 ·have h1:(L:Int)<=n:=zd;have h2:decide (n<0)=false:=zh;clear hn;(go_wp2_with fail;repeat ((first|refine cZ ?_|refine cW ?_);go_wp2_with fail));exact yl (.bool false) rfl ze zb ⟨rfl,rfl⟩
def rdI (N:Nat) (p:Int) (tr:Bool):Nat:=if 0<=p then N*10^p.toNat else N / 10^(-p).toNat+(ux N (-p).toNat tr).toNat
theorem zvy (N:Nat) (p:Int) (tr:Bool):rdI N p tr=xR N (yi N) (p+yi N).toNat+(if 0<=p+yi N/\p<0 then (ux N (-p).toNat tr).toNat else 0):=by
 unfold rdI;by_cases h:0<=p
 ·rw[if_pos h,if_neg zd,zgb _ _ _ zd,show (p+yi N).toNat-yi N=p.toNat by omega,Nat.add_zero]
 ·rw[if_neg h];by_cases h2:0<=p+yi N
  ·rw[if_pos ⟨h2,zd⟩,zs2 _ _ _ zd,show yi N-(p+yi N).toNat=(-p).toNat by omega]
  ·rw[if_neg zd,show (p+yi N).toNat=0 by omega,zhs _ _ (xi N),Nat.add_zero];obtain⟨t,ht⟩:∃ t,(-p).toNat=t+1+yi N:=⟨(-p).toNat-1-yi N,zd⟩;have h3:=xi N;have h4:10^(-p).toNat=10*(10^t*10^yi N):=by rw[ht,Nat.pow_add,Nat.pow_succ,Nat.mul_comm (10^t),Nat.mul_assoc]
   have h5:10^yi N<=10^t*10^yi N:=Nat.le_mul_of_pos_left _ (p10 t);have hlt:N<10^(-p).toNat:=zd;have hr:ux N (-p).toNat tr=false:=by
    unfold ux;rw[Nat.mod_eq_of_lt hlt];have e1:¬(10^(-p).toNat<2*N):=zd;have e2:¬(10^(-p).toNat=2*N):=zd;simp[e1,e2]
   rw[hr,Nat.div_eq_of_lt hlt];rfl
set_option maxRecDepth 100000 in
theorem zb6 (g N:Nat) (p:Int) (ng tr:Bool) (w:World) (hd:DecT w g N p ng tr) (hne:N%10≠0) (hp1:-2000<=p+yi N) (hp2:p+yi N<=18):
  Calls Tryz.prog 147 #[.pointer (some ⟨g,0,none⟩)] w fun r w'=>
   r=.returned (.int .u64 (rdI N p tr:Nat))/\w=w':=by
 rw[zvy];have hL8:=hd.le;have HDT:=zH hd;obtain⟨-,-,bs,hbs,hd⟩:=hd;have hN:=hne;have hlt:=hd.lt;have d1:=hd.cnd;have d2:=hd.cdp;obtain⟨L,hL⟩:=zX (yi N);rw[hL]at d1 d2 hbs hL8 hp1 hp2;rw[hL];have hNL:N<10^L:=by rw[<-hL];exact xi N
 have hx0:=zhs N L hNL;have HX0:=zH hx0;obtain⟨dp,hdp⟩:=zX (p+(L:Int));rw[hdp]at d2 hp1 hp2 ⊢;have hxlt:∀ r:Nat,r<=18->xR N L r<1000000000000000000:=by
  intro r hr;have h1:xR N L r<10^r:=by
   unfold xR;rw[Nat.div_lt_iff_lt_mul (p10 L),Nat.mul_comm];exact Nat.mul_lt_mul_of_pos_left hNL (p10 r)
  have h2:10^r<=10^18:=Nat.pow_le_pow_right zd hr;omega
 have HXL:=zH hxlt;have HD:=zH hd;have HBS:=zH hbs;have HDP:=zH hdp;have HL:=zH hL;obtain⟨D,hD⟩:=zX dp.toNat;have HDD:=zH hD;rw[hD];have hD18:D<=18:=zd;clear hd hbs hL hNL hx0 hdp hxlt hD;refine ye Tryz.func147 rfl (by rw[Tryz.ntmps147];simp) ?_;intro σ hσ;rw[Tryz.ntmps147];have s0:σ 0=.pointer (some ⟨g,0,none⟩):=hσ 0 zi;clear hσ;have h20:decide (20<dp)=false:=zh;(go_upto_block 0 with fail;repeat ((first|refine cZ ?_|refine cW ?_);go_upto_block 0 with fail));refine yr (fun s' w'=>s' 3=.int .i64 ((min D L:Nat):Int)/\s' 4=.int .u64 ((xR N L (min D L):Nat):Int)/\s' 0=.pointer (some ⟨g,0,none⟩)/\w=w') ?_ ?_
 ·intro R2 K2 HR hK2;go_wp2_with fail;refine xx (fun kk s' w'=>∃ i:Nat,i<=min D L/\kk=min D L-i/\s' 3=.int .i64 (i:Int)/\s' 4=.int .u64 ((xR N L i:Nat):Int)/\s' 0=.pointer (some ⟨g,0,none⟩)/\w=w') (min D L)
   ⟨0,Nat.zero_le _,rfl,zb,by rw[HX0.out];simp[ov, *],zb,rfl⟩ ?_
  clear s0 σ;rintro kk σ wk ⟨i,hi,hkk,s3,s4,s0,rfl⟩ RK KK HRK hKK;have HKK:=zH hkk;clear hkk;(go_upto_region 6 with fail;repeat ((first|refine cZ ?_|refine cW ?_);go_upto_region 6 with fail));refine yr (fun s' w'=>s' 23=.bool (decide (i<min D L))/\s' 3=.int .i64 (i:Int)/\s' 4=.int .u64 ((xR N L i:Nat):Int)/\s' 0=.pointer (some ⟨g,0,none⟩)/\w=w') ?_ ?_
  ·intro R3 K3 HR3 hK3;by_cases h1:(i:Int)<dp
   ·have h1d:decide ((i:Int)<dp)=true:=decide_eq_true h1;by_cases h2:i<L
    ·have h2i:decide ((i:Int)<(L:Int))=true:=zh;have h2j:decide (i<L)=true:=zh;have hres:decide (i<min D L)=true:=by have:=HDD.out;simp;omega
     go_wp2_with fail;exact got HR3 ⟨zαc,zb,zb,zb,rfl⟩
    ·have h2i:decide ((i:Int)<(L:Int))=false:=zh;have h2j:decide (i<L)=false:=zh;have hres:decide (i<min D L)=false:=by have:=HDD.out;simp;omega
     go_wp2_with fail;exact got HR3 ⟨zαc,zb,zb,zb,rfl⟩
   ·have h1d:decide ((i:Int)<dp)=false:=decide_eq_false h1;have hres:decide (i<min D L)=false:=by have:=HDD.out;simp;omega
    go_wp2_with fail;exact got HR3 ⟨zαc,zb,zb,zb,rfl⟩
  clear s3 s4 s0 σ;rintro σ w1 ⟨s23,s3,s4,s0,rfl⟩;by_cases hlt2:i<min D L
  ·have ht:decide (i<min D L)=true:=decide_eq_true hlt2;rw[ht]at s23;have hiL:i<L:=zd;have c1:=HD.out.digit i zd;have hdg:=uq bs N L HBS.out i hiL;obtain⟨x,hx⟩:=zX (N / 10^(L-1-i)%10);have hx9:x<=9:=by rw[<-hx];have:N / 10^(L-1-i)%10<10:=Nat.mod_lt _ zd;omega
   rw[hdg,vh,hx,show ((48+x:Nat):Int)=48+(x:Int) by omega]at c1;have hsucc:=zav N L i hiL;rw[hx]at hsucc;have hb:=HXL.out i zd;obtain⟨y,hy⟩:=zX (xR N L i);rw[hy]at s4 hsucc hb;have HSU:=zH hsucc;have hi8:(i:Int)<800:=zd;have hx8:IntKind.u8.wrap (x:Int)=(x:Int):=by rw[IntKind.wrap_u8];omega
   have hx64:IntKind.u64.wrap (x:Int)=(x:Int):=zl;have h48:(48:Int)+(x:Int)-48=(x:Int):=zd;clear hdg hx hsucc ht hy;(go_wp2_with fail;repeat ((first|refine cZ ?_|refine cW ?_);go_wp2_with fail));refine wo HRK (min D L-(i+1)) (by have:=HKK.out;omega) ⟨i+1,zd,rfl,zb,?_,zb,rfl⟩;rw[HSU.out];simp[yc,yd]
  ·have ht:decide (i<min D L)=false:=decide_eq_false hlt2;rw[ht]at s23;have he:i=min D L:=zd;subst he;(go_wp2_with fail;repeat ((first|refine cZ ?_|refine cW ?_);go_wp2_with fail));exact got HR ⟨zb,zb,zb,rfl⟩
 clear s0 σ;rintro σ w1 ⟨s3,s4,s0,rfl⟩;(go_upto_block 2 with fail;repeat ((first|refine cZ ?_|refine cW ?_);go_upto_block 2 with fail));refine yr (fun s' w'=>s' 4=.int .u64 ((xR N L D:Nat):Int)/\s' 0=.pointer (some ⟨g,0,none⟩)/\w=w') ?_ ?_
 ·intro R2 K2 HR hK2;go_wp2_with fail;refine xx (fun kk s' w'=>∃ i:Nat,min D L<=i/\i<=D/\kk=D-i/\s' 3=.int .i64 (i:Int)/\s' 4=.int .u64 ((xR N L i:Nat):Int)/\s' 0=.pointer (some ⟨g,0,none⟩)/\w=w') (D-min D L)
   ⟨min D L,Nat.le_refl _,zd,rfl,zb,zb,zb,rfl⟩ ?_
  clear s0 s3 s4 σ;rintro kk σ wk ⟨i,hi,hiD,hkk,s3,s4,s0,rfl⟩ RK KK HRK hKK;have HKK:=zH hkk;clear hkk;by_cases hlt2:i<D
  ·have h1:(i:Int)<dp:=by have:=HDD.out;omega
   have hsucc:=je N L i zd;have hb:=HXL.out i zd;have hb2:=HXL.out (i+1) zd;obtain⟨y,hy⟩:=zX (xR N L i);rw[hy]at s4 hsucc hb;have HSU:=zH hsucc;clear hsucc hy hb2;(go_wp2_with fail;repeat ((first|refine cZ ?_|refine cW ?_);go_wp2_with fail));refine wo HRK (D-(i+1)) (by have:=HKK.out;omega) ⟨i+1,zd,zd,rfl,zb,?_,zb,rfl⟩;rw[HSU.out];simp[yc,yd]
  ·have h1:decide ((i:Int)<dp)=false:=by have:=HDD.out;simp;omega
   have he:i=D:=zd;subst he;(go_wp2_with fail;repeat ((first|refine cZ ?_|refine cW ?_);go_wp2_with fail));exact got HR ⟨zb,zb,rfl⟩
 clear s0 s3 s4 σ;rintro σ w1 ⟨s4,s0,rfl⟩;have hb:=HXL.out D hD18;obtain⟨y,hy⟩:=zX (xR N L D);rw[hy]at s4 hb;have HY:=zH hy;clear hy;by_cases hin:0<=dp/\p<0
 ·have hpn:p=-((L:Int)-D):=by have:=HDP.out;have:=HDD.out;omega
  have hdpD:dp=(D:Int):=by have:=HDD.out;omega
  have hsr:=zqj g N D p ng tr w HDT.out hne (by rw[HL.out];omega);rw[HL.out]at hsr;have HSR:=zH hsr;rw[hdpD]at d2;obtain⟨res,hres⟩:=zX (ux N (L-D) tr);rw[hres]at HSR;have HF:=zH hres;have HIN:=zH hin;have HLD:=zH (show (-p).toNat=L-D by omega);clear hsr hres hin;go_wp2_with fail;refine HSR.out.mono ?_;rintro e w2 ⟨rfl,rfl⟩;cases res with
  | true=>
   (go_wp2_with fail;repeat ((first|refine cZ ?_|refine cW ?_);go_wp2_with fail));exact yl (.int .u64 ((y:Int)+1)) rfl ze zb ⟨by first | (rw[HF.out,HY.out];simp;done) | (rw[if_pos HIN.out,HLD.out,HF.out,HY.out];simp;done),rfl⟩
  | false=>
   (go_wp2_with fail;repeat ((first|refine cZ ?_|refine cW ?_);go_wp2_with fail));exact yl (.int .u64 (y:Int)) rfl ze zb ⟨by first | (rw[HF.out,HY.out];simp;done) | (rw[if_pos HIN.out,HLD.out,HF.out,HY.out];simp;done),rfl⟩
 ·have hsr:=zk6 g N dp p ng tr w HDT.out (by rw[HL.out];have:=HDP.out;omega);have HSR:=zH hsr;have HF:=zH (show (if 0<=dp/\p<0 then (ux N (-p).toNat tr).toNat else 0)=0 from if_neg hin);have HIN:=zH hin;clear hsr hin;go_wp2_with fail;refine HSR.out.mono ?_;rintro e w2 ⟨rfl,rfl⟩;(go_wp2_with fail;repeat ((first|refine cZ ?_|refine cW ?_);go_wp2_with fail));exact yl (.int .u64 (y:Int)) rfl ze zb ⟨by first | (rw[HF.out,HY.out,Nat.add_zero];done) | (rw[HY.out];done) | (rw[HY.out,Nat.add_zero];done) | (rw[if_neg HIN.out,HY.out,Nat.add_zero];done),rfl⟩
theorem zay {x y:Nat} {p q r s:Int} (k:Int) (h1:-KK<=q) (h2:-KK<=s) (h3:-KK<=q+k) (h4:-KK<=s+k):sc x p q<sc y r s↔sc x p (q+k)<sc y r (s+k):=by
 rcases Int.le_total 0 k with h0 | h0
 ·obtain⟨n,rfl⟩:∃ n:Nat,k=n:=⟨k.toNat,zd⟩;rw[yio _ _ _ _ h1,yio _ _ _ _ h2];exact⟨fun h=>Nat.mul_lt_mul_of_pos_right h (p2 n),fun h=>Nat.lt_of_mul_lt_mul_right h⟩
 ·obtain⟨n,hn⟩:∃ n:Nat,-k=n:=⟨(-k).toNat,zd⟩;have e1:sc x p q=sc x p (q+k)*2^n:=by rw[<-yio _ _ _ _ h3];congr 1;omega
  have e2:sc y r s=sc y r (s+k)*2^n:=by rw[<-yio _ _ _ _ h4];congr 1;omega
  rw[e1,e2];exact⟨fun h=>Nat.lt_of_mul_lt_mul_right h,fun h=>Nat.mul_lt_mul_of_pos_right h (p2 n)⟩
theorem zhz (x A:Nat) (P h:Int) (hP:-KK<=P) (hh:-KK<=h):sc x 0 h<=sc A P 0↔x*(10^(-P).toNat*2^h.toNat)<=A*10^P.toNat*2^(-h).toNat:=by
 have hk:=vs;unfold sc;generalize KK=K at *
 refine uf (c:=10^P.toNat*2^(-h).toNat) (c':=10^(P+K).toNat*2^K.toNat) (Nat.mul_pos (p10 _) (p2 _)) (Nat.mul_pos (p10 _) (p2 _)) ?_ ?_
 ·have e1:10^(0+K).toNat*10^P.toNat=10^(-P).toNat*10^(P+K).toNat:=zC;have e2:2^(h+K).toNat*2^(-h).toNat=2^h.toNat*2^K.toNat:=zC;calc x*(10^(0+K).toNat*2^(h+K).toNat)*(10^P.toNat*2^(-h).toNat)=x*(10^(0+K).toNat*10^P.toNat)*(2^(h+K).toNat*2^(-h).toNat):=by ac_rfl
   _=x*(10^(-P).toNat*10^(P+K).toNat)*(2^h.toNat*2^K.toNat):=by rw[e1,e2]
   _=_:=by ac_rfl
 ·rw[Int.zero_add];ac_rfl
theorem zkc (A:Nat) (P k:Int) (hP:-KK<=P) (hk:-KK<=k):le2 (A*10^P.toNat) (10^(-P).toNat) k↔sc 1 0 k<=sc A P 0:=by
 rw[zhz 1 A P k hP hk,Nat.one_mul];rfl
theorem rB_sc (A:Nat) (P E:Int) (hP:-KK<=P) (hE:-KK<=-E):vi (sc A P (-E)) (sc 1 0 0)=rB (A*10^P.toNat) (10^(-P).toNat) E:=by
 have hk:=vs;unfold rB;refine yj7 (by unfold sc;exact Nat.mul_pos zd (scU 0 0)) (Nat.mul_pos (p10 _) (p2 _)) ?_;unfold sc;generalize KK=K at *
 rw[Int.zero_add,Nat.one_mul];have e1:10^(P+K).toNat*10^(-P).toNat=10^P.toNat*10^K.toNat:=zC;have e2:2^(-E+K).toNat*2^E.toNat=2^(-E).toNat*2^K.toNat:=zC;calc A*(10^(P+K).toNat*2^(-E+K).toNat)*(10^(-P).toNat*2^E.toNat)=A*(10^(P+K).toNat*10^(-P).toNat)*(2^(-E+K).toNat*2^E.toNat):=by ac_rfl
  _=A*(10^P.toNat*10^K.toNat)*(2^(-E).toNat*2^K.toNat):=by rw[e1,e2]
  _=_:=by ac_rfl
theorem zvx (A:Nat) (P:Int) (J N:Nat) (G p:Int) (tr:Bool) (hap:Apx A P J G (G+1) N p tr) (hx:sc A P (-(G+1))<sc (J+1) 0 (-1)) (hp:-KK≤p):
  rdI N p tr=vi (sc A P (-(G+1))) (sc 1 0 0):=by
 have hk:=vs
 have hle:=hap.le
 obtain⟨h1,h2,h3⟩:=hap
 rw[show G-(G+1)=-1 by omega]at h3
 have hh:∀ x,2*sc x 0 (-1)=x*sc 1 0 0:=by
  intro x
  have a1:=yio x 1 0 (-1) zd
  have a2:=zbk 1 x 0 0
  rw[Nat.one_mul]at a2
  rw[show (-1:Int)+((1:Nat):Int)=0 by omega,Nat.pow_one]at a1
  rw[Nat.mul_comm x,←a2,a1,Nat.mul_comm]
 have hJ:=hh J
 have hJ1:=hh (J+1)
 have hU:0<sc 1 0 0:=by unfold sc;exact Nat.mul_pos zd (scU 0 0)
 generalize hXe:sc A P (-(G+1))=X at *
 have f1:J*sc 1 0 0≤2*sc N p 0:=zd
 have f2:2*X<(J+1)*sc 1 0 0:=zd
 clear h3 hx hJ hJ1 hh
 symm
 unfold rdI
 by_cases hp0:0≤p
 ·rw[if_pos hp0]
  have hD:sc N p 0=N*10^p.toNat*sc 1 0 0:=by
   have a1:=ub N p.toNat 0 0 zd
   have a2:=zbk 1 (N*10^p.toNat) 0 0
   rw[Nat.one_mul]at a2
   rw[show (0:Int)+((p.toNat:Nat):Int)=p by omega]at a1
   rw[←a1,a2,Nat.mul_comm]
  generalize N*10^p.toNat=s at *
  rw[hD]at f1 hle
  generalize sc 1 0 0=U at *
  have hJs:J≤2*s:=by
   rw[←Nat.mul_assoc]at f1
   exact Nat.le_of_mul_le_mul_right f1 hU
  have hm:=Nat.mul_le_mul_right U (show J+1≤2*s+1 by omega)
  rw[Nat.add_mul (2*s),Nat.one_mul,Nat.mul_assoc]at hm
  rw[qf _ _ _ hU]
  generalize s*U=z at *
  omega
 ·rw[if_neg hp0]
  obtain⟨t,ht⟩:∃ t:Nat,-p=t:=⟨(-p).toNat,zd⟩
  rw[show (-p).toNat=t by omega]
  have hu:0<sc 1 p 0:=by unfold sc;exact Nat.mul_pos zd (scU p 0)
  have hUt:sc 1 0 0=10^t*sc 1 p 0:=by
   have a1:=ub 1 t p 0 hp
   have a2:=zbk 1 (10^t) p 0
   rw[Nat.one_mul]at a1 a2
   rw[show p+(t:Int)=0 by omega]at a1
   rw[←a1,a2,Nat.mul_comm]
  have hD:sc N p 0=N*sc 1 p 0:=by
   have a2:=zbk 1 N p 0
   rw[Nat.one_mul]at a2
   rw[a2,Nat.mul_comm]
  have hN:=Nat.div_add_mod N (10^t)
  have hr:=Nat.mod_lt N (p10 t)
  have hD2:sc N p 0=N / 10^t*sc 1 0 0+N%10^t*sc 1 p 0:=by
   rw[hD,hUt,←Nat.mul_assoc,←Nat.add_mul,Nat.mul_comm (N / 10^t),hN]
  unfold ux
  generalize N / 10^t=q at *
  generalize N%10^t=r at *
  clear hN hD
  generalize 10^t=T at *
  generalize sc 1 p 0=u at *
  rw[hD2]at f1 hle h1 h2
  clear hD2
  have hT:0<T:=zd
  have g1:J*T≤2*(q*T+r):=by
   rw[hUt]at f1
   have:J*T*u≤2*(q*T+r)*u:=by
    calc J*T*u=J*(T*u):=by rw[Nat.mul_assoc]
     _≤2*(q*(T*u)+r*u):=f1
     _=2*(q*T+r)*u:=by rw[Nat.mul_assoc 2,Nat.add_mul,Nat.mul_assoc]
   exact Nat.le_of_mul_le_mul_right this hu
  have hJlt:∀ c:Nat,2*(q*T+r)<c*T→J<c:=by
   intro c hc
   exact Nat.lt_of_mul_lt_mul_right (Nat.lt_of_le_of_lt g1 hc)
  have hup:∀ c:Nat,J<c→2*X<c*sc 1 0 0:=by
   intro c hc
   exact Nat.lt_of_lt_of_le f2 (Nat.mul_le_mul_right _ hc)
  have e1:(2*q+1)*T=2*(q*T)+T:=by rw[Nat.add_mul,Nat.one_mul,Nat.mul_assoc]
  have e2:(2*q+2)*T=2*(q*T)+2*T:=by rw[Nat.add_mul,Nat.mul_assoc]
  have e3:(2*q+1)*sc 1 0 0=2*(q*sc 1 0 0)+sc 1 0 0:=by rw[Nat.add_mul,Nat.one_mul,Nat.mul_assoc]
  have e4:(2*q+2)*sc 1 0 0=2*(q*sc 1 0 0)+2*sc 1 0 0:=by rw[Nat.add_mul,Nat.mul_assoc]
  have e5:(q+1)*sc 1 0 0=q*sc 1 0 0+sc 1 0 0:=zβv
  have k2:=hup (2*q+2) (hJlt _ (by rw[e2];omega))
  rcases Nat.lt_trichotomy (2*r) T with c | c | c
  ·have k1:=hup (2*q+1) (hJlt _ (by rw[e1];omega))
   have b1:decide (T<2*r)=false:=decide_eq_false zd
   have b2:decide (T=2*r)=false:=decide_eq_false zd
   rw[b1,b2]
   show vi X (sc 1 0 0)=q+0
   rw[Nat.add_zero,qf _ _ _ hU]
   rw[e3]at k1
   generalize q*sc 1 0 0=z at *
   generalize sc 1 0 0=U at *
   omega
  ·have hru:2*(r*u)=sc 1 0 0:=by rw[hUt,←c,Nat.mul_assoc]
   have b1:decide (T<2*r)=false:=decide_eq_false zd
   have b2:decide (T=2*r)=true:=decide_eq_true zd
   rw[b1,b2]
   cases tr with
   | true=>
    have hX:=h2 rfl
    show vi X (sc 1 0 0)=q+1
    rw[qf _ _ _ hU,e5]
    rw[e4]at k2
    generalize q*sc 1 0 0=z at *
    generalize sc 1 0 0=U at *
    generalize r*u=v at *
    omega
   | false=>
    have hX:=h1 rfl
    rcases Nat.mod_two_eq_zero_or_one q with m | m
    ·have b3:decide (q%2=1)=false:=decide_eq_false zd
     rw[b3]
     show vi X (sc 1 0 0)=q+0
     rw[Nat.add_zero,qf _ _ _ hU]
     generalize q*sc 1 0 0=z at *
     generalize sc 1 0 0=U at *
     generalize r*u=v at *
     omega
    ·have b3:decide (q%2=1)=true:=decide_eq_true m
     rw[b3]
     show vi X (sc 1 0 0)=q+1
     rw[qf _ _ _ hU,e5]
     generalize q*sc 1 0 0=z at *
     generalize sc 1 0 0=U at *
     generalize r*u=v at *
     omega
  ·have hru:sc 1 0 0<2*(r*u):=by
    rw[hUt,←Nat.mul_assoc]
    exact Nat.mul_lt_mul_of_pos_right c hu
   have b1:decide (T<2*r)=true:=decide_eq_true c
   rw[b1]
   show vi X (sc 1 0 0)=q+1
   rw[qf _ _ _ hU,e5]
   rw[e4]at k2
   generalize q*sc 1 0 0=z at *
   generalize sc 1 0 0=U at *
   generalize r*u=v at *
   omega
theorem zte (x y:Int) (hx:-3000<=x) (hy:-3000<=y) (h:sc 1 0 y<sc 1 x 0):(0<=x->3*y<10*x)/\(x<0->y<3*x):=by
 unfold sc at h;have hk:=vs;rw[Nat.one_mul,Nat.one_mul,Int.zero_add]at h;constructor
 ·intro h0;obtain⟨n,rfl⟩:∃ n:Nat,x=n:=⟨x.toNat,zd⟩;rw[show ((n:Int)+KK).toNat=KK.toNat+n by omega,Nat.pow_add,Nat.mul_assoc]at h;have h1:=Nat.lt_of_mul_lt_mul_left h;have h2:10^(3*n)<=2^(10*n):=by
   rw[Nat.pow_mul,Nat.pow_mul];exact Nat.pow_le_pow_left zd n
  have h3:2^(3*(y+KK).toNat)<2^(10*n+3*KK.toNat):=by
   have h4:=Nat.pow_lt_pow_left h1 (show 3≠0 by omega);rw[Nat.mul_pow,<-Nat.pow_mul,<-Nat.pow_mul,<-Nat.pow_mul,Nat.mul_comm KK.toNat,Nat.mul_comm n,Nat.mul_comm (y+KK).toNat]at h4;rw[Nat.pow_add];exact Nat.lt_of_lt_of_le h4 (Nat.mul_le_mul_right _ h2)
  have:=(Nat.pow_lt_pow_iff_right (by omega:1<2)).1 h3;omega
 ·intro h0;obtain⟨n,hn⟩:∃ n:Nat,-x=n:=⟨(-x).toNat,zd⟩;rw[show KK.toNat=(x+KK).toNat+n by omega,Nat.pow_add 10,Nat.mul_assoc]at h;have h1:=Nat.lt_of_mul_lt_mul_left h;rw[show (x+KK).toNat+n=KK.toNat by omega]at h1;have h2:2^(3*n)<=10^n:=by rw[Nat.pow_mul];exact Nat.pow_le_pow_left zd n
  have h3:2^(3*n+(y+KK).toNat)<2^KK.toNat:=by
   rw[Nat.pow_add];exact Nat.lt_of_le_of_lt (Nat.mul_le_mul_right _ h2) h1
  have:=(Nat.pow_lt_pow_iff_right (by omega:1<2)).1 h3;omega
def St (m x z:Nat):Prop:=x=m*2^z\/(m%2=1/\(m-1)*2^z<x/\x<(m+1)*2^z)
theorem zkh (u:Nat):u / 2|||u%2=if u%2=0 then u / 2 else u / 2 / 2*2+1:=by
 rcases Nat.mod_two_eq_zero_or_one u with h1 | h1
 ·rw[h1,Nat.or_zero,if_pos rfl]
 ·rw[h1,zg2,if_neg zd]
theorem St.half {m x z:Nat} (h:St m x z):St (m / 2|||m%2) x (z+1):=by
 have hP:=p2 z;rw[zkh];unfold St at *
 rw[Nat.pow_succ];generalize 2^z=Z at *
 by_cases he:m%2=0
 ·rw[if_pos he];left;rcases h with h | ⟨h,-⟩
  ·obtain⟨k,rfl⟩:∃ k,m=2*k:=⟨m / 2,zd⟩;rw[h,show 2*k / 2=k by omega,Nat.mul_comm Z 2,<-Nat.mul_assoc,Nat.mul_comm k]
  ·omega
 ·rw[if_neg he];right;obtain⟨k,rfl⟩:∃ k,m=2*k+1:=⟨m / 2,zd⟩;have hx:2*(k*Z)<x/\x<2*(k*Z)+2*Z:=by
   rcases h with h | ⟨-,h1,h2⟩
   ·rw[Nat.add_mul,Nat.mul_assoc]at h;omega
   ·rw[Nat.add_sub_cancel,Nat.mul_assoc]at h1;rw[show 2*k+1+1=2*k+2 by omega,Nat.add_mul,Nat.mul_assoc]at h2;omega
  clear h he;rw[show (2*k+1) / 2=k by omega];refine⟨zd,?_⟩;rcases Nat.mod_two_eq_zero_or_one k with h1 | h1
  ·rw[show k / 2*2+1=k+1 by omega,Nat.add_sub_cancel,show k+1+1=k+2 by omega];have e1:k*(Z*2)=2*(k*Z):=by rw[<-Nat.mul_assoc,Nat.mul_comm]
   have e2:(k+2)*(Z*2)=2*(k*Z)+4*Z:=by rw[Nat.add_mul,e1];omega
   omega
  ·obtain⟨j,rfl⟩:∃ j,k=j+1:=⟨k-1,zd⟩;rw[show (j+1) / 2*2+1=j+1 by omega,Nat.add_sub_cancel];have e0:(j+1)*Z=j*Z+Z:=zβv;have e1:j*(Z*2)=2*(j*Z):=by rw[<-Nat.mul_assoc,Nat.mul_comm]
   have e2:(j+1+1)*(Z*2)=2*(j*Z)+4*Z:=by rw[Nat.add_mul,Nat.add_mul,e1];omega
   omega
theorem St.round {m x z:Nat} (h:St m x z):(if m%4|||m / 4%2=3 then m / 4+1 else m / 4)=vi x (4*2^z):=by
 have hP:=p2 z;have hor:(m%4|||m / 4%2=3)↔(m%4=3\/(m%4=2/\m / 4%2=1)):=by
  have h1:m%4<4:=Nat.mod_lt _ zd;have h2:m / 4%2<2:=Nat.mod_lt _ zd;generalize m%4=a at *
  generalize m / 4%2=b at *
  have ha:a=0\/a=1\/a=2\/a=3:=zd;have hb:b=0\/b=1:=zd;rcases ha with rfl | rfl | rfl | rfl <;> rcases hb with rfl | rfl <;> decide
 symm;rw[qf _ _ _ zd];unfold St at h;generalize 2^z=Z at *
 have ha:m%4<4:=Nat.mod_lt _ zd;obtain⟨q,r,hr,rfl⟩:∃ q r,r<4/\m=4*q+r:=⟨m / 4,m%4,ha,zd⟩;rw[show (4*q+r) / 4=q by omega,show (4*q+r)%4=r by omega]at hor ⊢;have e0:q*(4*Z)=4*(q*Z):=by rw[Nat.mul_left_comm]
 have e1:(q+1)*(4*Z)=4*(q*Z)+4*Z:=by rw[Nat.add_mul,e0];omega
 have hx:(x=4*(q*Z)+r*Z)\/((4*q+r)%2=1/\4*(q*Z)+(r-1)*Z<x/\x<4*(q*Z)+(r+1)*Z):=by
  rcases h with h | ⟨h,h1,h2⟩
  ·left;rw[h,Nat.add_mul,Nat.mul_assoc]
  ·right;rw[show 4*q+r-1=4*q+(r-1) by omega,Nat.add_mul,Nat.mul_assoc]at h1;rw[show 4*q+r+1=4*q+(r+1) by omega,Nat.add_mul,Nat.mul_assoc]at h2;exact⟨h,h1,h2⟩
 clear h ha;have:r=0\/r=1\/r=2\/r=3:=zd;rcases this with rfl | rfl | rfl | rfl
 ·rw[if_neg (fun hh=>by have:=hor.1 hh;omega),e0];generalize q*Z=y at *
  omega
 ·rw[if_neg (fun hh=>by have:=hor.1 hh;omega),e0];generalize q*Z=y at *
  omega
 ·rcases Nat.mod_two_eq_zero_or_one q with m1 | m1
  ·rw[if_neg (fun hh=>by have:=hor.1 hh;omega),e0];generalize q*Z=y at *
   omega
  ·rw[if_pos (hor.2 zd),e1];generalize q*Z=y at *
   omega
 ·rw[if_pos (hor.2 zd),e1];generalize q*Z=y at *
  omega
theorem St.lo {m x z k:Nat} (h:St m x z) (hk:2^(k+1)<=m):2^(k+1)*2^z<=x:=by
 rcases h with h | ⟨h1,h2,-⟩
 ·rw[h];exact Nat.mul_le_mul_right _ hk
 ·have:2^(k+1)<=m-1:=by rw[Nat.pow_succ]at *;omega
  exact Nat.le_of_lt (Nat.lt_of_le_of_lt (Nat.mul_le_mul_right _ this) h2)
theorem St.hi {m x z k:Nat} (h:St m x z) (hk:m<2^(k+1)):x<2^(k+1)*2^z:=by
 rcases h with h | ⟨h1,-,h2⟩
 ·rw[h];exact Nat.mul_lt_mul_of_pos_right hk (p2 z)
 ·exact Nat.lt_of_lt_of_le h2 (Nat.mul_le_mul_right _ hk)
def zxg (F:Nat) (bias:Int) (inf R:Nat) (E:Int):Nat:=
 if R=2^(F+1) then (if bias<E+F+1 then inf else (E+F+1+bias).toNat*2^F)
 else if R<2^F then R else if bias<E+F then inf else (E+F+bias).toNat*2^F+(R-2^F)
theorem zks (F:Nat) (bias:Int) (inf a b R:Nat) (E:Int) (hb:b≠0) (hbias:1<=bias) (hinf:inf=(2*bias+1).toNat*2^F) (hE:yt F bias a b=E) (hR:rB a b E=R):
  xh F bias inf a b=zxg F bias inf R E/\R<=2^(F+1)/\1-bias-F<=E/\(R<2^F->E=1-bias-F):=by
 have hle:=zld a b F bias hb zd;rw[Int.toNat_natCast,hE,hR]at hle;have hlE:1-bias-F<=E:=by rw[<-hE];unfold yt;split <;> omega
 have hden:R<2^F->E=1-bias-F:=by
  intro h;by_cases ha:a=0
  ·rw[<-hE];unfold yt;rw[if_pos ha]
  ·have hm:max (1-bias-F) (uo a b-F)=E:=by rw[<-hE];unfold yt;rw[if_neg ha]
   rcases Int.lt_or_le (1-bias-F) E with h1 | h1
   ·exfalso;have h2:uo a b=E+F:=zd;have:=zgv (n:=F) (k:=E) hb (by rw[<-h2];exact (wg a b ha hb).1);omega
   ·omega
 refine⟨?_,hle,hlE,hden⟩;have hP:2^(F+1)=2*2^F:=zE;have hF:=p2 F;rw[qm F bias inf a b E hE,hR];unfold zxg;by_cases h1:R=2^(F+1)
 ·rw[if_pos h1];by_cases h2:bias<E+F+1
  ·rw[if_pos h2];by_cases h3:E<=bias-F
   ·rw[if_pos h3,h1,hP,<-Nat.add_mul,hinf];congr 1;omega
   ·rw[if_neg h3]
  ·rw[if_neg h2,if_pos zd,h1,hP,<-Nat.add_mul];congr 1;omega
 ·rw[if_neg h1];by_cases h2:R<2^F
  ·rw[if_pos h2,hden h2,if_pos zd,Int.sub_self];show 0*2^F+R=R;rw[Nat.zero_mul,Nat.zero_add]
  ·rw[if_neg h2];by_cases h3:bias<E+F
   ·rw[if_pos h3,if_neg zd]
   ·rw[if_neg h3,if_pos zd,show (E+F+bias).toNat=(E-(1-bias-F)).toNat+1 by omega,Nat.succ_mul];omega
theorem st_rB (m x z:Nat) (k E:Int) (hE:E=k+z+2):rB (x*2^k.toNat) (2^(-k).toNat) E=vi x (4*2^z):=by
 unfold rB;refine yj7 (Nat.mul_pos (p2 _) (p2 _)) (by have:=p2 z;omega) ?_;have e1:2^k.toNat*2^(-E).toNat*(2^2*2^z)=2^(-k).toNat*2^E.toNat:=by
  rw[<-Nat.pow_add,<-Nat.pow_add,<-Nat.pow_add,<-Nat.pow_add];congr 1;omega
 rw[show (4:Nat)=2^2 by rfl];calc x*2^k.toNat*2^(-E).toNat*(2^2*2^z)=x*(2^k.toNat*2^(-E).toNat*(2^2*2^z)):=by ac_rfl
  _=_:=by rw[e1]
theorem zms (x z n:Nat) (k:Int):le2 (x*2^k.toNat) (2^(-k).toNat) (k+z+n)↔2^n*2^z<=x:=by
 rw[ws (j:=-k) (n:=n+z) zd,Int.neg_neg,Nat.pow_add];refine uf (c:=1) (c':=2^(-k).toNat*2^k.toNat) zd (Nat.mul_pos (p2 _) (p2 _)) ?_ ?_
 ·rw[Nat.mul_one]
 ·ac_rfl
theorem zqh (F:Nat) (bias:Int) (m x z:Nat) (k E:Int) (hE:E=k+z+2) (h:St m x z) (hm:m<2^(F+3)) (hc:(2^(F+2)<=m/\1-bias-F<=E)\/E=1-bias-F):
  yt F bias (x*2^k.toNat) (2^(-k).toNat)=E:=by
 have hb:2^(-k).toNat≠0:=by have:=p2 (-k).toNat;omega
 have hhi:x<2^(F+3)*2^z:=h.hi (k:=F+2) hm;unfold yt;by_cases h0:x*2^k.toNat=0
 ·rw[if_pos h0];rcases hc with⟨h1,h2⟩ | h1
  ·have h4:2^(F+2)*2^z<=x:=h.lo (k:=F+1) h1;have hx:x=0:=by
    rcases Nat.mul_eq_zero.1 h0 with h3 | h3
    ·exact h3
    ·have:=p2 k.toNat;omega
   have h5:=Nat.mul_pos (p2 (F+2)) (p2 z);omega
  ·omega
 ·rw[if_neg h0];obtain⟨o1,o2⟩:=wg _ _ h0 hb;have hup:uo (x*2^k.toNat) (2^(-k).toNat)<=E+F:=by
   rcases Int.lt_or_le (E+F) (uo (x*2^k.toNat) (2^(-k).toNat)) with h1 | h1
   ·exfalso;have:=wh (j:=k+z+(F+3:Nat)) zd o1;rw[zms]at this;omega
   ·exact h1
  rcases hc with⟨h1,h2⟩ | h1
  ·have hlo:E+F<=uo (x*2^k.toNat) (2^(-k).toNat):=by
    rcases Int.lt_or_le (uo (x*2^k.toNat) (2^(-k).toNat)) (E+F) with h3 | h3
    ·exfalso;apply o2;refine wh (k:=k+z+(F+2:Nat)) zd ?_;rw[zms];exact h.lo (k:=F+1) h1
    ·exact h3
   omega
  ·omega
theorem ztk (F:Nat) (bias:Int) (inf m x z:Nat) (k E:Int) (hE:E=k+z+2) (h:St m x z) (hm:m<=1) (hbias:1<=bias) (hF:1<=F) (hc:E<=1-bias-F):xh F bias inf (x*2^k.toNat) (2^(-k).toNat)=0/\vi x (4*2^z)=0:=by
 have hhi:=h.hi (k:=0) zd;refine⟨kv F bias inf _ _ (by have:=p2 (-k).toNat;omega) hbias hF (fun _ hh=>?_),qr zd⟩;have:=wh (j:=k+z+(1:Nat)) zd hh;rw[zms]at this;omega
theorem zvr {x:Nat} (p q:Int) (h:0<x):0<sc x p q:=by unfold sc;exact Nat.mul_pos h (scU p q)
theorem zac {y z:Int} (h:sc 1 0 y<sc 1 0 z) (hy:-KK<=y) (hz:-KK<=z):y<z:=by
 unfold sc at h;rw[Nat.one_mul,Nat.one_mul]at h;have h1:=Nat.lt_of_mul_lt_mul_left h;have:=(Nat.pow_lt_pow_iff_right (by omega:1<2)).1 h1;omega
theorem zl2 (N:Nat) (p:Int) (hN:N≠0) (hp:-KK<=p):sc 1 (p+yi N-1) 0<=sc N p 0:=by
 have h1:=qh hN;have h2:=yfr hN;have:=ub 1 (yi N-1) p 0 hp;rw[Nat.one_mul]at this;rw[show p+(yi N:Int)-1=p+((yi N-1:Nat):Int) by omega,<-this];exact ze2.2 h1
theorem zrs (N:Nat) (p:Int) (hp:-KK<=p):sc N p 0<sc 1 (p+yi N) 0:=by
 have:=ub 1 (yi N) p 0 hp;rw[Nat.one_mul]at this;rw[<-this];exact zhy.2 (xi N)
theorem vf {y z:Int} (h:y<=z) (hy:-KK<=y):sc 1 y 0<=sc 1 z 0:=by
 unfold sc;rw[Nat.one_mul,Nat.one_mul];exact Nat.mul_le_mul_right _ (Nat.pow_le_pow_right zd zd)
theorem kb {y z:Int} (h:y<=z):sc 1 0 y<=sc 1 0 z:=by
 unfold sc;rw[Nat.one_mul,Nat.one_mul];exact Nat.mul_le_mul_left _ (Nat.pow_le_pow_right zd zd)
theorem zj2 (A:Nat) (P:Int) (hA:A≠0) (hP1:-2500<=P) (hd1:-1000<=P+yi A) (hd2:P+yi A<=2000) (o:Int) (ho:uo (A*10^P.toNat) (10^(-P).toNat)=o):
  sc 1 0 o<=sc A P 0/\sc A P 0<sc 1 0 (o+1):=by
 have hk:=vs;have hb:10^(-P).toNat≠0:=by have:=p10 (-P).toNat;omega
 have ha:A*10^P.toNat≠0:=Nat.mul_ne_zero hA (by have:=p10 P.toNat;omega);obtain⟨o1,o2⟩:=wg _ _ ha hb;rw[ho]at o1 o2;have hlo:-3401<=o:=by
  rcases Int.lt_or_le o (-3401) with h | h
  ·exfalso;have h3:¬le2 (A*10^P.toNat) (10^(-P).toNat) (-3400):=fun hh=>o2 (wh zd hh)
   rw[zkc _ _ _ zd zd,Nat.not_le]at h3;have h4:=zl2 A P hA zd;have h5:sc 1 (-1001) 0<=sc A P 0:=Nat.le_trans (vf zd zd) h4;have:=(zcp (-1001) (-3400) zd zd (Nat.lt_of_le_of_lt h5 h3)).2 zd;omega
  ·omega
 refine⟨(zkc _ _ _ zd zd).1 o1,?_⟩;rw[zkc _ _ _ zd zd,Nat.not_le]at o2;exact o2
theorem znh (A:Nat) (P:Int) (hA:A≠0) (hP1:-2500<=P) (hd1:-330<=P+yi A) (hd2:P+yi A<=310) (o:Int) (ho:uo (A*10^P.toNat) (10^(-P).toNat)=o):-1105<=o/\o<=1033:=by
 have hk:=vs;obtain⟨h1,h2⟩:=zj2 A P hA hP1 zd zd o ho;have a1:=zl2 A P hA zd;have a2:=zrs A P zd;constructor
 ·have h3:sc 1 (-331) 0<sc 1 0 (o+1):=Nat.lt_of_le_of_lt (vf zd zd) (Nat.lt_of_le_of_lt a1 h2);rcases Int.lt_or_le (o+1) (-3000) with h | h
  ·exfalso;have h4:sc 1 0 (o+1)<=sc 1 0 (-3000):=by
    unfold sc;rw[Nat.one_mul,Nat.one_mul];exact Nat.mul_le_mul_left _ (Nat.pow_le_pow_right zd zd)
   have:=(zcp (-331) (-3000) zd zd (Nat.lt_of_lt_of_le h3 h4)).2 zd;omega
  ·have:=(zcp (-331) (o+1) zd zd h3).2 zd;omega
 ·have h3:sc 1 0 o<sc 1 310 0:=Nat.lt_of_le_of_lt h1 (Nat.lt_of_lt_of_le a2 (vf zd zd));rcases Int.lt_or_le o 0 with h | h
  ·omega
  ·have:=(zte 310 o zd zd h3).1 zd;omega
theorem zns (F:Nat) (bias:Int) (inf A:Nat) (P:Int) (hA:A≠0) (hP1:-2500≤P) (hd1:311≤P+yi A) (hd2:P+yi A≤2000) (hb1:1≤bias) (hb2:bias≤1023):xh F bias inf (A*10^P.toNat) (10^(-P).toNat)=inf:=by
 have hk:=vs
 obtain⟨o,ho⟩:=zX (uo (A*10^P.toNat) (10^(-P).toNat))
 obtain⟨h1,h2⟩:=zj2 A P hA hP1 zd hd2 o ho
 have a1:=zl2 A P hA zd
 have h3:sc 1 310 0<sc 1 0 (o+1):=Nat.lt_of_le_of_lt (vf zd zd) (Nat.lt_of_le_of_lt a1 h2)
 have h4:1024≤o:=by
  rcases Int.lt_or_le o 1024 with h | h
  ·exfalso
   have h5:sc 1 310 0<sc 1 0 1024:=Nat.lt_of_lt_of_le h3 (kb zd)
   unfold sc at h5
   rw[Nat.one_mul,Nat.one_mul,Int.zero_add]at h5
   generalize KK=K at *
   rw[show (310+K).toNat=K.toNat+310 by omega,show (1024+K).toNat=K.toNat+1024 by omega,Nat.pow_add,Nat.pow_add]at h5
   have h6:(2:Nat)^1024≤10^310:=zp
   have h7:10^K.toNat*(2^K.toNat*2^1024)≤10^K.toNat*10^310*2^K.toNat:=by
    generalize (2:Nat)^1024=x at *
    generalize (10:Nat)^310=y at *
    calc 10^K.toNat*(2^K.toNat*x)=10^K.toNat*2^K.toNat*x:=by ac_rfl
     _≤10^K.toNat*2^K.toNat*y:=Nat.mul_le_mul_left _ h6
     _=10^K.toNat*y*2^K.toNat:=by ac_rfl
   exact absurd h5 (Nat.not_lt.2 h7)
  ·exact h
 have ha:A*10^P.toNat≠0:=Nat.mul_ne_zero hA (by have:=p10 P.toNat;omega)
 unfold xh
 rw[if_neg]
 unfold yt
 rw[if_neg ha,ho]
 omega
theorem zlm (F:Nat) (bias:Int) (inf A:Nat) (P:Int) (hA:A≠0) (hP1:-2500≤P) (hd1:P+yi A≤-331) (hd0:-2000≤P+yi A) (hb1:1≤bias) (hF:1≤F) (hb2:bias+F≤1075):xh F bias inf (A*10^P.toNat) (10^(-P).toNat)=0:=by
 have hk:=vs
 refine kv F bias inf _ _ (by have:=p10 (-P).toNat;omega) hb1 hF (fun _ h=>?_)
 rw[zkc _ _ _ zd zd]at h
 have a2:=zrs A P zd
 have h1:sc 1 0 (-(bias+F))<sc 1 (-331) 0:=Nat.lt_of_le_of_lt h (Nat.lt_of_lt_of_le a2 (vf zd zd))
 have h5:sc 1 0 (-1075)<sc 1 (-331) 0:=Nat.lt_of_le_of_lt (kb zd) h1
 unfold sc at h5
 rw[Nat.one_mul,Nat.one_mul,Int.zero_add]at h5
 generalize KK=K at *
 obtain⟨m,hm⟩:∃ m:Nat,m=1075:=⟨_,rfl⟩
 obtain⟨l,hl⟩:∃ l:Nat,l=331:=⟨_,rfl⟩
 have h6:(2:Nat)^m≤10^l:=by rw[hm,hl];decide +kernel
 have e1:(10:Nat)^K.toNat=10^(-331+K).toNat*10^l:=zαa
 have e2:(2:Nat)^K.toNat=2^(-1075+K).toNat*2^m:=zαa
 rw[e1,e2]at h5
 have h7:10^(-331+K).toNat*(2^(-1075+K).toNat*2^m)≤10^(-331+K).toNat*10^l*2^(-1075+K).toNat:=by
  calc 10^(-331+K).toNat*(2^(-1075+K).toNat*2^m)=10^(-331+K).toNat*2^(-1075+K).toNat*2^m:=by ac_rfl
   _≤10^(-331+K).toNat*2^(-1075+K).toNat*10^l:=Nat.mul_le_mul_left _ h6
   _=10^(-331+K).toNat*10^l*2^(-1075+K).toNat:=by ac_rfl
 exact absurd h5 (Nat.not_lt.2 h7)
structure FB (A:Nat) (P o:Int) (J:Nat) (G e:Int) (N:Nat) (p:Int) (tr:Bool):Prop where
 a1:Apx A P 1 o e N p tr
 a2:Apx A P J G e N p tr
theorem zrk (F:Nat) (bias P o E:Int) (A':Nat) (hA:A'≠0) (hP:-2500<=P) (hd1:-330<=P+yi A') (hd2:P+yi A'<=310) (hF:F<=52) (hbias:bias+F<=1075) (hb0:1<=bias)
  (ho:uo (A'*10^P.toNat) (10^(-P).toNat)=o) (hE:yt F bias (A'*10^P.toNat) (10^(-P).toNat)=E):
  -1105<=o/\o<=1033/\E=max (1-bias-F) (o-F)/\Lim A' P o/\Lim A' P (E-1)/\∃ J,FB A' P o J (E-1) 0 A' P false/\sc A' P 0<sc (J+1) 0 (E-1):=by
 have hk:=vs;obtain⟨r1,r2⟩:=znh A' P hA hP hd1 hd2 o ho;obtain⟨h1,h2⟩:=zj2 A' P hA hP zd zd o ho;have ha:A'*10^P.toNat≠0:=Nat.mul_ne_zero hA (by have:=p10 P.toNat;omega);have hEE:E=max (1-bias-F) (o-F):=by rw[<-hE];unfold yt;rw[if_neg ha,ho]
 have hB:0<10^(-P).toNat*2^(E-1).toNat:=Nat.mul_pos (p10 _) (p2 _);refine⟨r1,r2,hEE,?_,?_,A'*10^P.toNat*2^(-(E-1)).toNat / (10^(-P).toNat*2^(E-1).toNat),⟨⟨fun _=>(by rw[Int.neg_zero]),fun h=>zF,?_⟩,⟨fun _=>(by rw[Int.neg_zero]),fun h=>zF,?_⟩⟩,?_⟩
 ·exact Nat.lt_of_lt_of_le h2 (kb zd)
 ·exact Nat.lt_of_lt_of_le h2 (kb zd)
 ·rw[Int.sub_zero];exact h1
 ·rw[Int.sub_zero,zhz _ _ _ _ zd zd];exact Nat.div_mul_le_self _ _
 ·rw[<-Nat.not_le,zhz _ _ _ _ zd zd,Nat.not_le];exact Nat.lt_of_lt_of_le (Nat.lt_mul_div_succ _ hB) (Nat.le_of_eq (Nat.mul_comm _ _))
theorem zwf {A:Nat} {P o:Int} {J:Nat} {G e:Int} {N:Nat} {p:Int} {tr:Bool} (h:FB A P o J G e N p tr) (ho2:sc A P 0<sc 1 0 (o+1)) (hN:N≠0) (hp1:-3000<=p) (he1:-1300<=e) (he2:e<=1300) (ho1:-1200<=o) (ho3:o<=1200) (hdp:0<p+yi N):e<=o:=by
 have hk:=vs;have h1:=zl2 N p hN zd;have h2:sc 1 0 0<=sc N p 0:=Nat.le_trans (vf zd zd) h1;have h3:=h.a1.le;have h4:=(zay (-e) zd zd zd zd).1 ho2;rw[Int.zero_add]at h4;have:=zac (Nat.lt_of_le_of_lt (Nat.le_trans h2 h3) h4) zd zd;omega
theorem zrl {A:Nat} {P o:Int} {J:Nat} {G e:Int} {N:Nat} {p:Int} {tr:Bool} (h:FB A P o J G e N p tr) (he1:-1300<=e) (he2:e<=1300) (ho1:-1200<=o) (ho3:o<=1200) (hs:sc N p 0<sc 1 0 (-1)):o+2<=e:=by
 have hk:=vs;have h1:=h.a1.jj;have:=zac (Nat.lt_of_le_of_lt h1 hs) zd zd;omega
theorem zuo {A:Nat} {P o:Int} {J:Nat} {G e:Int} {N:Nat} {p:Int} {tr:Bool} (h:FB A P o J G e N p tr) (ho2:sc A P 0<sc 1 0 (o+1)) (he1:-1300<=e) (he2:e<=1300) (ho1:-1200<=o) (ho3:o<=1200) (hs:sc 1 0 (-1)<=sc N p 0) (hs2:sc N p 0<sc 1 0 0):e=o+1:=by
 have hk:=vs;have h1:=h.a1.jj;have h5:=zac (Nat.lt_of_le_of_lt h1 hs2) zd zd;have h3:=h.a1.le;have h4:=(zay (-e) zd zd zd zd).1 ho2;rw[Int.zero_add]at h4;have:=zac (Nat.lt_of_le_of_lt (Nat.le_trans hs h3) h4) zd zd;omega
theorem zlx (N:Nat) (p:Int) (hN:N≠0) (hp:p+yi N=0) (hp2:-3000<=p):(N / 10^(yi N-1)<5->sc N p 0<sc 1 0 (-1))/\(5<=N / 10^(yi N-1)->sc 1 0 (-1)<=sc N p 0)/\sc N p 0<sc 1 0 0:=by
 have hk:=vs;have hL:=yfr hN;obtain⟨n,hn⟩:∃ n,yi N=n+1:=⟨yi N-1,zd⟩;have hlt:=zrs N p zd;rw[hp]at hlt;have e0:2*sc 1 0 (-1)=sc 1 0 0:=by
  have:=yio 1 1 0 (-1) zd;rw[show (-1:Int)+((1:Nat):Int)=0 by omega,Nat.pow_one]at this;omega
 have e1:sc (10^(n+1)) p 0=sc 1 0 0:=by
  have:=ub 1 (n+1) p 0 zd;rw[Nat.one_mul]at this;rw[this,show p+((n+1:Nat):Int)=0 by omega]
 have e2:sc (2*N) p 0=2*sc N p 0:=by rw[Nat.mul_comm,zbk,Nat.mul_comm]
 rw[hn,Nat.add_sub_cancel];have hd:=Nat.div_add_mod N (10^n);have hm:=Nat.mod_lt N (p10 n);have hpow:10^(n+1)=10*10^n:=zE;refine⟨fun h=>?_,fun h=>?_,hlt⟩
 ·have h1:10^n*(N / 10^n)<=10^n*4:=Nat.mul_le_mul_left _ zd;have h2:sc (2*N) p 0<sc (10^(n+1)) p 0:=zhy.2 zd;omega
 ·have h1:10^n*5<=10^n*(N / 10^n):=Nat.mul_le_mul_left _ h;have h2:sc (10^(n+1)) p 0<=sc (2*N) p 0:=ze2.2 zd;omega
theorem zk4:sc 1 (-1) 0<=sc 1 0 (-1):=by
 have hk:=vs;have a1:=zm3 1 1 (-1) 0 zd;have a2:=yio 1 1 0 (-1) zd;rw[show (-1:Int)+((1:Nat):Int)=0 by omega,Nat.pow_one]at a1 a2;omega
theorem zwg {A:Nat} {P o:Int} {J:Nat} {E:Int} {N:Nat} {p:Int} {tr:Bool} (h:Apx A P J (E-1) E N p tr) (hJ:sc A P 0<sc (J+1) 0 (E-1)) (hE1:-1300<=E) (hE2:E<=1300) (hP:-2500<=P) (hp:-3000<=p):
  rdI N p tr=rB (A*10^P.toNat) (10^(-P).toNat) E:=by
 have hk:=vs;have h4:=(zay (-E) zd zd zd zd).1 hJ;rw[Int.zero_add,show E-1+-E=-1 by omega]at h4;have:=zvx A P J N (E-1) p tr (by rw[show E-1+1=E by omega];exact h) (by rw[show -(E-1+1)=-E by omega];exact h4) zd;rw[this,show -(E-1+1)=-E by omega];exact rB_sc A P E zd zd
theorem yaw {A:Nat} {P G e:Int} {J N:Nat} {p:Int} {tr:Bool} (h:Apx A P J G e N p tr) (hl:Lim A P G) (hN:N≠0) (he:e=G+1) (he1:-1300<=e) (he2:e<=1300) (hp:-3000<=p) (hd:p+yi N<=2000):p+yi N<=18:=by
 have hk:=vs;have h1:=zl2 N p hN zd;have h2:=hl.at (e:=e) zd zd zd zd zd;rcases Int.lt_or_le (p+yi N-1) 0 with h0 | h0
 ·omega
 ·have h3:=(zcp (p+yi N-1) (G+54-e) zd zd (Nat.lt_of_le_of_lt (Nat.le_trans h1 h.le) h2)).1 h0;omega
theorem zsc {k N:Nat} {p:Int} {tr:Bool} {N':Nat} {p':Int} {tr':Bool} (hs:Sh k N p tr N' p' tr') (hN':N'≠0) (hk:k<=60) (hp:-3000<=p) (hp':-3000<=p') (h1:sc N p 0<sc 1 0 0) (h:sc (10*N+1) (p-1) k<=sc 1 0 0):p'+yi N'<=0:=by
 have hKK:=vs;have key:∀ (A:Nat) (P:Int),-4000<=P->(tr=false->sc N p 0=sc A P 0)->(tr=true->sc N p 0<sc A P 0)->sc A P 0<sc 1 0 54->sc N' p' 0<=sc A P k:=by
  intro A P hP a1 a2 a3;have hap:Apx A P 0 0 0 N p tr:=⟨a1,a2,by unfold sc;rw[Nat.zero_mul];exact Nat.zero_le _⟩;have h2:=(hs A P 0 0 0 a3 zs zs hap).le;rw[show -(0-(k:Int))=k by omega]at h2;exact h2
 have hup:sc (10*N+1) (p-1) 0<sc 1 0 54:=by
  have e:=yio (10*N+1) k (p-1) 0 zd;have e2:sc 1 0 ((0:Int)+54)=sc 1 0 0*2^54:=yio 1 54 0 0 zd;rw[Int.zero_add]at e e2;rw[e]at h;have h3:sc (10*N+1) (p-1) 0*1<=sc (10*N+1) (p-1) 0*2^k:=Nat.mul_le_mul_left _ (p2 k);have h4:0<sc 1 0 0:=zvr 0 0 zd;rw[e2];omega
 have hlt:sc N p 0<sc (10*N+1) (p-1) 0:=by
  have e:sc (N*10^1) (p-1) 0=sc N (p-1+(1:Nat)) 0:=ub N 1 (p-1) 0 zd;rw[show p-1+((1:Nat):Int)=p by omega]at e;rw[<-e];exact zhy.2 zd
 have hres:sc N' p' 0<sc 1 0 0:=by
  cases tr with
  | true=>
   have h5:=key (10*N+1) (p-1) zd (fun h=>zF) (fun _=>hlt) hup;exact Nat.lt_of_le_of_ne (Nat.le_trans h5 h) (fun e=>by
    have h7:=key (100*N+1) (p-2) zd (fun h=>zF) (fun _=>by
     have e3:sc (N*10^2) (p-2) 0=sc N (p-2+(2:Nat)) 0:=ub N 2 (p-2) 0 zd;rw[show p-2+((2:Nat):Int)=p by omega]at e3;rw[<-e3];exact zhy.2 zd) (Nat.lt_trans (by
     have e4:sc ((10*N+1)*10^1) (p-2) 0=sc (10*N+1) (p-2+(1:Nat)) 0:=ub _ 1 (p-2) 0 zd;rw[show p-2+((1:Nat):Int)=p-1 by omega]at e4;rw[<-e4];exact zhy.2 zd) hup)
    have e4:sc ((10*N+1)*10^1) (p-2) k=sc (10*N+1) (p-2+(1:Nat)) k:=ub _ 1 (p-2) k zd;rw[show p-2+((1:Nat):Int)=p-1 by omega]at e4;have h8:sc (100*N+1) (p-2) k<sc ((10*N+1)*10^1) (p-2) k:=zhy.2 zd;omega)
  | false=>
   have h5:=key N p zd (fun _=>rfl) (fun h=>zF) (Nat.lt_trans hlt hup);have e:=yio (10*N+1) k (p-1) 0 zd;have e2:=yio N k p 0 zd;rw[Int.zero_add]at e e2;have h6:sc N p 0*2^k<sc (10*N+1) (p-1) 0*2^k:=Nat.mul_lt_mul_of_pos_right hlt (p2 k);omega
 have h9:=zl2 N' p' hN' zd;rcases Int.lt_or_le 0 (p'+yi N') with h10 | h10
 ·have h11:=vf (y:=0) (z:=p'+yi N'-1) zd zd;omega
 ·exact h10
theorem zmy {k i N:Nat} {p:Int} (hN:N≠0) (hp:-3000<=p) (hi:p+yi N=-(i:Int)) (h2:2^k<=10^i):sc (10*N+1) (p-1) k<=sc 1 0 0:=by
 have hKK:=vs;have hlt:10*N+1<=1*10^(yi N+1):=by
  have:=xi N;rw[Nat.pow_succ];omega
 have e1:sc (1*10^(yi N+1)) (p-1) k=sc 1 (p-1+(yi N+1:Nat)) k:=ub 1 _ (p-1) k zd;rw[show p-1+((yi N+1:Nat):Int)=-(i:Int) by omega]at e1;have e2:sc (1*2^k) (-(i:Int)) 0=sc 1 (-(i:Int)) (0+k):=zm2 1 k _ 0 zd;rw[Int.zero_add,Nat.one_mul]at e2;have e3:sc (1*10^i) (-(i:Int)) 0=sc 1 (-(i:Int)+(i:Nat)) 0:=ub 1 i _ 0 (by have:=yfr hN;omega);rw[show -(i:Int)+((i:Nat):Int)=0 by omega,Nat.one_mul]at e3;have h3:sc (10*N+1) (p-1) k<=sc (1*10^(yi N+1)) (p-1) k:=ze2.2 hlt;have h4:sc (2^k) (-(i:Int)) 0<=sc (10^i) (-(i:Int)) 0:=ze2.2 h2;omega
theorem ztq {N:Nat} {p:Int} (hN:N≠0) (hp:-3000<=p) (hi:p+yi N=0) (h5:N / 10^(yi N-1)<5):sc (10*N+1) (p-1) (1:Nat)<=sc 1 0 0:=by
 have hKK:=vs;have hL:=yfr hN;have h6:N<5*10^(yi N-1):=(Nat.div_lt_iff_lt_mul (p10 _)).1 h5;have e1:=zm2 (10*N+1) 1 (p-1) 0 zd;rw[show (0:Int)+((1:Nat):Int)=((1:Nat):Int) by omega]at e1;have e3:sc (1*10^(yi N+1)) (p-1) 0=sc 1 (p-1+(yi N+1:Nat)) 0:=ub 1 _ (p-1) 0 zd;rw[show p-1+((yi N+1:Nat):Int)=0 by omega]at e3;rw[<-e1,<-e3];refine ze2.2 ?_;have e4:(10:Nat)^(yi N+1)=100*10^(yi N-1):=by
  rw[show yi N+1=(yi N-1)+2 by omega,Nat.pow_add,Nat.mul_comm]
 rw[e4];omega
def Kd (Z:Nat) (ME:Int) (mb m:Nat) (x:Int):Prop:=Z=11/\ME=-1085/\mb=52/\-1022<=x/\x<=1023/\m<2^53\/Z=40/\ME=-189/\mb=23/\-126<=x/\x<=127/\m<2^24
structure Top (m mb:Nat) (x:Int):Prop where
 ge:9223372036854775808<=m*2^shS m
 lt:m*2^shS m<18446744073709551616
 mod:m*2^shS m%2048=0
 lo:-1074<=x-(mb:Nat)-shS m+63
 hi:x-(mb:Nat)-shS m+63<=x
 s11:11<=shS m
 m53:m<2^53
 norm:2^mb<=m->m<2^(mb+1)->x-(mb:Nat)-shS m+63=x
theorem ypd {Z:Nat} {ME:Int} {mb m:Nat} {x:Int} (hz:Kd Z ME mb m x) (hm0:m≠0):Top m mb x:=by
 have hm53:m<2^53:=zβH;obtain⟨hb1,hb2,hb3,hb4⟩:=zdq m zd hm0;have hbl:=Lib.bitLen_le m 53 zd hm53;have hmb:m<2^(mb+1):=by
  rcases hz with⟨_,_,rfl,_,_,h⟩ | ⟨_,_,rfl,_,_,h⟩ <;> exact h
 have hbm:=Lib.bitLen_le m (mb+1) zβH hmb;have hS:shS m=64-Lib.bitLen m:=rfl;refine⟨?_,?_,?_,?_,?_,zd,hm53,?_⟩
 ·have h:=Nat.mul_le_mul_right (2^shS m) hb2;rw[<-Nat.pow_add,show Lib.bitLen m-1+shS m=63 by omega]at h;exact h
 ·rw[show (18446744073709551616:Nat)=2^Lib.bitLen m*2^shS m by rw[<-Nat.pow_add,show Lib.bitLen m+shS m=64 by omega]];exact Nat.mul_lt_mul_of_pos_right hb3 (Nat.pow_pos zd)
 ·rw[show shS m=shS m-11+11 by omega,Nat.pow_add,<-Nat.mul_assoc];exact Nat.mul_mod_left _ _
 ·unfold Kd at hz;omega
 ·unfold Kd at hz;omega
 ·intro h1 _;have h2:mb<Lib.bitLen m:=(Nat.pow_lt_pow_iff_right (by omega:1<2)).1 (Nat.lt_of_le_of_lt h1 hb3);omega
section
def HS (F:Nat) (bias:Int) (inf nb m:Nat) (e:Int):Prop:=
 ∃ (x z:Nat) (k:Int),St m x z/\e=F+k+z/\xh F bias inf (x*2^k.toNat) (2^(-k).toNat)=nb
theorem zgf (d j:Nat) (p:Int):d*2^p.toNat*2^(-(p-j)).toNat=d*2^j*2^(p-j).toNat*2^(-p).toNat:=by
 rw[Nat.mul_assoc,Nat.mul_assoc,Nat.mul_assoc,<-Nat.pow_add,<-Nat.pow_add,<-Nat.pow_add];congr 2;omega
section
variable {F : Nat} {bias : Int} {inf nb m : Nat} {e : Int}
theorem HS.exact (d j:Nat) (p:Int) (h:xh F bias inf (d*2^p.toNat) (2^(-p).toNat)=nb):HS F bias inf nb (d*2^j) (p+F-j):=by
 refine⟨d*2^j,0,p-j,Or.inl zi,zd,?_⟩;rw[<-h];refine ue F bias inf (qg _ ze) (qg _ ze) ?_;exact (zgf d j p).symm
theorem HS.sticky (d N z:Nat) (K p:Int) (h1:d*2^z<N) (h2:N<(d+1)*2^z) (hp:p=z+K) (h:xh F bias inf (N*2^K.toNat) (2^(-K).toNat)=nb):HS F bias inf nb (d|||1) (p+F):=by
 refine⟨N,z,K,Or.inr ?_,zd,h⟩;have e:d|||1=if d%2=0 then d+1 else d:=by
  rw[zg2];by_cases c:d%2=0
  ·rw[if_pos c];omega
  ·rw[if_neg c];omega
 rw[e];by_cases c:d%2=0
 ·rw[if_pos c];refine⟨zd,by rw[Nat.add_sub_cancel];exact h1,Nat.lt_of_lt_of_le h2 (Nat.mul_le_mul_right _ zd)⟩
 ·rw[if_neg c];exact⟨zd,Nat.lt_of_le_of_lt (Nat.mul_le_mul_right _ zd) h1,h2⟩
theorem HS.half (h:HS F bias inf nb m e):HS F bias inf nb (m / 2|||m%2) (e+1):=by
 obtain⟨x,z,k,h1,h2,h3⟩:=h;exact⟨x,z+1,k,h1.half,zd,h3⟩
theorem zuk {m b:Nat} (h:m<2^(b+1)) (hb:1<=b):m / 2|||m%2<2^b:=by
 rw[zkh];have h2:m / 2<2^b:=by rw[Nat.pow_succ]at h;omega
 split
 ·exact h2
 ·have h3:2^b=2^(b-1)*2:=by rw[<-Nat.pow_succ,show (b-1).succ=b by omega]
  omega
theorem zul {m b:Nat} (h:2^(b+1)<=m):2^b<=m / 2|||m%2:=by
 rw[zkh];have h2:2^b<=m / 2:=by rw[Nat.pow_succ]at h;omega
 split <;> omega
theorem zej {m:Nat} (h:2<=m):m / 2|||m%2<m/\1<=m / 2|||m%2:=by
 rw[zkh];split <;> omega
def rdQ (m:Nat):Nat:=if m%4|||m / 4%2=3 then m / 4+1 else m / 4
theorem HS.done (h:HS F bias inf nb m e) (hbias:1<=bias) (hinf:inf=(2*bias+1).toNat*2^F) (hF:1<=F) (hm:m<2^(F+3))
  (hc:(2^(F+2)<=m/\-bias-1<=e)\/e=-bias-1):
  nb=zxg F bias inf (rdQ m) (e-F+2)/\rdQ m<=2^(F+1)/\(rdQ m<2^F->e=-bias-1):=by
 obtain⟨x,z,k,h1,h2,h3⟩:=h;have hE:e-F+2=k+z+2:=zd;have hnE:=zqh F bias m x z k (k+z+2) rfl h1 hm (by rcases hc with⟨c1,c2⟩ | c;exact Or.inl ⟨c1,zd⟩;exact Or.inr zd);have hR:rB (x*2^k.toNat) (2^(-k).toNat) (k+z+2)=rdQ m:=by
  rw[st_rB m x z k (k+z+2) rfl,<-h1.round];rfl
 have:=zks F bias inf _ _ (rdQ m) (k+z+2) (qg _ ze) hbias hinf hnE hR;rw[h3]at this;rw[hE];exact⟨this.1,this.2.1,fun h=>by have:=this.2.2.2 h;omega⟩
theorem HS.tiny (h:HS F bias inf nb m e) (hbias:1<=bias) (hF:1<=F) (hm:m<=1) (he:e<=-bias-1):nb=0:=by
 obtain⟨x,z,k,h1,h2,h3⟩:=h;have:=(ztk F bias inf m x z k (k+z+2) rfl h1 hm hbias hF zd).1;rw[<-h3];exact this
theorem HS.zero (h:HS F bias inf nb 0 e) (hbias:1<=bias) (hF:1<=F):nb=0:=by
 obtain⟨x,z,k,h1,h2,h3⟩:=h;have hx:x=0:=by
  rcases h1 with h1 | ⟨h1,-⟩
  ·rw[h1,Nat.zero_mul]
  ·simp at h1
 rw[<-h3,hx,Nat.zero_mul];exact zai F bias inf _ (qg _ ze) hbias hF
theorem znb {m:Nat} (h:m<=1):rdQ m=0:=by
 unfold rdQ;have:m=0\/m=1:=zd;rcases this with rfl | rfl <;> decide
end
theorem zok (F:Nat) (bias:Int) (inf:Nat) (L:Lit) (n:Nat) (hok:L.ok) (hx:L.hex=true) (hF:F<=52) (hbias:1<=bias) (hF1:1<=F):
  (goR L n).mant<2^64/\((goR L n).tr=false->xh F bias inf ((goR L n).mant*2^(goR L n).exp.toNat) (2^(-(goR L n).exp).toNat)=nvL F bias inf L)/\
   ((goR L n).tr=true->2^60<=(goR L n).mant/\HS F bias inf (nvL F bias inf L) ((goR L n).mant|||1) ((goR L n).exp+F)):=by
 obtain⟨z,nd,hz,hm,ht,hne,hze,hlt,hlen,hM⟩:=zon L n hok;have hb:xj L.hex=16:=zαq;have hMm:ju L.hex=16:=zαq;have hp:zb7 L.hex=4:=zαq;have htn:zjn L.hex=2:=zαq;rw[hb]at hm ht hne hlt hM;rw[hMm]at hz hM;rw[hp]at hne;have e16:∀ k:Nat,16^k=2^(4*k):=fun k=>by rw[Nat.pow_mul]
 have hnv:nvL F bias inf L=xh F bias inf (L.num*2^L.ex.toNat) (2^(-L.ex).toNat):=by unfold nvL nvT;rw[htn]
 refine⟨by rw[e16]at hM;exact hM,fun h=>?_,fun h=>?_⟩
 ·rw[hnv];by_cases h0:L.num=0
  ·obtain⟨a1,a2,-⟩:=hze h0;rw[a1,a2,h0,Nat.zero_mul,Nat.zero_mul];rw[zai F bias inf _ (qg _ ze) hbias hF1,zai F bias inf _ (qg _ ze) hbias hF1]
  ·obtain⟨-,-,a3,-⟩:=hne h0;rw[ht]at h;have hdv:L.num=(goR L n).mant*2^(4*z):=by
    have h1:L.num%16^z=0:=zI;rw[hm,<-e16];exact (Nat.div_mul_cancel (Nat.dvd_of_mod_eq_zero h1)).symm
   refine ue F bias inf (qg _ ze) (qg _ ze) ?_;rw[hdv,a3];have:=zgf (goR L n).mant (4*z) (((4*z:Nat):Int)+L.ex);rw[show ((4*z:Nat):Int)+L.ex-((4*z:Nat):Int)=L.ex by omega]at this;exact this
 ·have h1:L.num%16^z≠0:=by rw[ht]at h;exact of_decide_eq_true h
  have h0:L.num≠0:=by intro e;rw[e]at h1;simp at h1
  obtain⟨a1,a2,a3,-⟩:=hne h0;have hz0:z≠0:=by intro e;rw[e]at h1;simp[Nat.mod_one]at h1
  refine⟨?_,?_⟩
  ·rw[hm];rw[Nat.le_div_iff_mul_le (Nat.pow_pos zd)];refine Nat.le_trans ?_ a2;rw[e16,e16,<-Nat.pow_add];exact Nat.pow_le_pow_right zd zd
  ·have hdm:=Nat.div_add_mod L.num (16^z);have hml:L.num%16^z<16^z:=Nat.mod_lt _ (Nat.pow_pos zd);rw[<-hm,e16]at hdm;rw[e16]at hml h1;refine HS.sticky (goR L n).mant L.num (4*z) L.ex (goR L n).exp ?_ ?_ a3 hnv.symm
   ·rw[Nat.mul_comm];omega
   ·rw[Nat.add_mul,Nat.one_mul,Nat.mul_comm];omega
end
theorem ze0 {A n h:Nat} (hn:0<n):2*h*n<=2*A↔2*h<=2*(A / n)+(A%n != 0).toNat:=by
 have h1:2*h*n<=2*A↔h*n<=A:=by rw[Nat.mul_assoc];omega
 rw[h1,<-Nat.le_div_iff_mul_le hn];cases (A%n != 0) <;> simp <;> omega
theorem zjq {A n h:Nat} (hn:0<n):2*A<=2*h*n↔2*(A / n)+(A%n != 0).toNat<=2*h:=by
 have h1:2*A<=2*h*n↔A<=h*n:=by rw[Nat.mul_assoc];omega
 have hd:=Nat.div_add_mod A n;have hm:=Nat.mod_lt A hn;rw[h1];by_cases h0:A%n=0
 ·have e:(A%n != 0)=false:=by rw[h0];rfl
  rw[e];rw[h0,Nat.add_zero]at hd;constructor
  ·intro h2;have:A / n<=h:=by
    rw[<-hd,Nat.mul_comm n]at h2;exact Nat.le_of_mul_le_mul_right h2 hn
   simp;omega
  ·intro h2;have:A / n<=h:=by simp at h2;omega
   rw[<-hd,Nat.mul_comm n];exact Nat.mul_le_mul_right n this
 ·have e:(A%n != 0)=true:=by rw[bne_iff_ne];exact h0
  rw[e];constructor
  ·intro h2;have:A / n<h:=by
    rw[Nat.div_lt_iff_lt_mul hn];rcases Nat.lt_or_eq_of_le h2 with h3 | h3
    ·exact h3
    ·exact absurd (by rw[h3];exact Nat.mul_mod_left h n) h0
   show 2*(A / n)+1<=2*h;omega
  ·intro h2;have h3:A / n<h:=by
    have:2*(A / n)+1<=2*h:=h2;omega
   rw[Nat.div_lt_iff_lt_mul hn]at h3;omega
theorem zh9 (A n u:Nat) (hn:0<n) (hu:1<=u):vi (2*(A / n)+(A%n != 0).toNat) (2^(u+1))=vi A (n*2^u):=by
 obtain⟨V,hV⟩:∃ V,2^u=2*V:=⟨2^(u-1),by rw[show u=u-1+1 by omega,Nat.pow_succ];simp;omega⟩;have hV0:0<V:=by have:=Nat.two_pow_pos u;omega
 have hs:=kt A (n*2^u) (Nat.mul_pos hn (Nat.two_pow_pos u));generalize vi A (n*2^u)=s at *
 rw[qf _ _ s (Nat.two_pow_pos _),Nat.pow_succ,hV];rw[hV]at hs;have e1:s*(n*(2*V))=2*(s*V*n):=by rw[Nat.mul_left_comm n,Nat.mul_left_comm s,Nat.mul_comm n,Nat.mul_assoc s]
 have e2:n*(2*V)=2*(V*n):=by rw[Nat.mul_left_comm,Nat.mul_comm n]
 have e3:s*(2*V*2)=4*(s*V):=by rw[show 2*V*2=4*V by omega,Nat.mul_left_comm]
 rw[e1,e2]at hs;rw[e3];have a1:=ze0 (A:=A) (h:=2*(s*V)-V) hn;have a2:=zjq (A:=A) (h:=2*(s*V)-V) hn;have b1:=ze0 (A:=A) (h:=2*(s*V)+V) hn;have b2:=zjq (A:=A) (h:=2*(s*V)+V) hn;have f1:2*(2*(s*V)-V)*n=4*(s*V*n)-2*(V*n):=by
  rw[Nat.mul_assoc,Nat.sub_mul,Nat.mul_assoc];omega
 have f2:2*(2*(s*V)+V)*n=4*(s*V*n)+2*(V*n):=by
  rw[Nat.mul_assoc,Nat.add_mul,Nat.mul_assoc];omega
 rw[f1]at a1 a2;rw[f2]at b1 b2;generalize 2*(A / n)+(A%n != 0).toNat=t at *
 have hsV:s=0\/V<=s*V:=by
  rcases Nat.eq_zero_or_pos s with h | h
  ·exact Or.inl h
  ·exact Or.inr (Nat.le_mul_of_pos_left V h)
 have hsn:s=0\/V*n<=s*V*n:=hsV.imp_right (fun h=>Nat.mul_le_mul_right n h);have hz:0<V*n:=Nat.mul_pos hV0 hn;have h0:s=0->s*V=0:=fun h=>by rw[h,Nat.zero_mul]
 have h0n:s=0->s*V*n=0:=fun h=>by rw[h0 h,Nat.zero_mul]
 generalize s*V*n=y at *
 generalize s*V=x at *
 generalize V*n=z at *
 obtain⟨c1,c2,c3⟩:=hs;refine⟨?_,?_,?_⟩
 ·omega
 ·omega
 ·intro ho;have:=c3 ho;omega
theorem zgl {A n k:Nat} (hn:0<n) (hk:1<=k):2^k<=2*(A / n)+(A%n != 0).toNat↔2^k*n<=2*A:=by
 obtain⟨h,hh⟩:∃ h,2^k=2*h:=⟨2^(k-1),by rw[show k=k-1+1 by omega,Nat.pow_succ];simp;omega⟩;rw[hh];exact (ze0 hn).symm
theorem zkd {m n:Nat} (d:Int) (more j:Nat):le2 (m*2^d.toNat) (n*2^(-d).toNat) (d-more-1+j)↔2^j*n<=2*(m*2^more):=by
 rw[ws (k:=d-more-1+j) (j:=(more:Int)+1-d) (n:=j) zd];refine uf (p2 0) (p2 ((-d).toNat+(d-more-1).toNat)) ?_ ?_
 ·rw[Nat.pow_zero,Nat.mul_one,Nat.pow_add,show (-((more:Int)+1-d)).toNat=(d-more-1).toNat by omega];simp only[Nat.mul_assoc]
 ·have e:2*(m*2^more)=m*2^(more+1):=by rw[Nat.pow_succ,Nat.mul_left_comm,Nat.mul_comm 2]
  rw[Nat.pow_zero,Nat.mul_one,e,Nat.mul_assoc,Nat.mul_assoc,<-Nat.pow_add,<-Nat.pow_add];congr 2;omega
theorem zni {m n:Nat} (d:Int) (more L:Nat) (hm:m≠0) (hn:0<n) (hL:1<=L) (hl:(2*((m*2^more) / n)+((m*2^more)%n != 0).toNat).log2=L):uo (m*2^d.toNat) (n*2^(-d).toNat)=d-more-1+L:=by
 generalize ht:2*((m*2^more) / n)+((m*2^more)%n != 0).toNat=t at hl;have h0:t≠0:=by
  intro h;rw[h]at hl;simp at hl;omega
 have a1:2^L<=t:=by rw[<-hl];exact Nat.log2_self_le h0
 have a2:t<2^(L+1):=by rw[<-hl];exact Nat.lt_log2_self
 refine zfa (Nat.mul_ne_zero hm (by have:=p2 d.toNat;omega)) (Nat.mul_ne_zero zd (by have:=p2 (-d).toNat;omega)) ?_ ?_
 ·rw[zkd,<-zgl hn hL,ht];exact a1
 ·rw[Int.add_assoc,show ((L:Int)+1)=((L+1:Nat):Int) by omega,zkd,<-zgl hn zd,ht];omega
theorem ztw {m n t:Nat} (d E:Int) (more u:Nat) (hn:0<n) (hu:1<=u) (hE:E-d+more=u) (ht:2*((m*2^more) / n)+((m*2^more)%n != 0).toNat=t):vi (t*2^(d-more-1-E).toNat) (2^(E-(d-more-1)).toNat)=rB (m*2^d.toNat) (n*2^(-d).toNat) E:=by
 rw[show (d-more-1-E).toNat=0 by omega,show (E-(d-more-1)).toNat=u+1 by omega,Nat.pow_zero,Nat.mul_one,<-ht,zh9 _ _ _ hn hu];unfold rB;refine yj7 (Nat.mul_pos hn (p2 _)) (Nat.mul_pos (Nat.mul_pos hn (p2 _)) (p2 _)) ?_;rw[show m*2^more*(n*2^(-d).toNat*2^E.toNat)=m*n*(2^more*2^(-d).toNat*2^E.toNat) by ac_rfl,show m*2^d.toNat*2^(-E).toNat*(n*2^u)=m*n*(2^d.toNat*2^(-E).toNat*2^u) by ac_rfl,<-Nat.pow_add,<-Nat.pow_add,<-Nat.pow_add,<-Nat.pow_add];congr 2;omega
theorem znr (f bias:Int) (inf:Nat) {m n t:Nat} (d:Int) (more:Nat) (hm:m≠0) (hn:0<n) (hf:0<=f) (ht:2*((m*2^more) / n)+((m*2^more)%n != 0).toNat=t) (hL:f+2<=(t.log2:Int)):xh f bias inf (t*2^(d-more-1).toNat) (2^(-(d-more-1)).toNat)=xh f bias inf (m*2^d.toNat) (n*2^(-d).toNat):=by
 have h0:t≠0:=by intro h;rw[h]at hL;simp at hL;omega
 have o1:=zb9 t (d-more-1) h0;have o2:=zni d more t.log2 hm hn zd (by rw[ht]);have ha:t*2^(d-more-1).toNat≠0:=Nat.mul_ne_zero h0 (by have:=p2 (d-more-1).toNat;omega);have hb:m*2^d.toNat≠0:=Nat.mul_ne_zero hm (by have:=p2 d.toNat;omega);have hE:yt f bias (t*2^(d-more-1).toNat) (2^(-(d-more-1)).toNat)=yt f bias (m*2^d.toNat) (n*2^(-d).toNat):=by
  unfold yt;rw[if_neg ha,if_neg hb,o1,o2]
 have hE2:d-more-1+t.log2-f<=yt f bias (m*2^d.toNat) (n*2^(-d).toNat):=by
  unfold yt;rw[if_neg hb,o2];omega
 unfold xh;rw[hE];generalize yt f bias (m*2^d.toNat) (n*2^(-d).toNat)=E at *
 obtain⟨u,hu⟩:∃ u:Nat,E-d+more=u:=⟨(E-d+more).toNat,zd⟩;rw[znc,ztw d E more u hn zd hu ht]
section
structure FmtOK (fmt:Ieee.Format) (f:Nat) (bias:Int) (inf:Nat):Prop where
 hf:fmt.fractionBits=f
 hl:fmt.leastPlace=1-bias-f
 hi:fmt.infRung=inf
 hinf:inf=(2*bias+1).toNat*2^f
 hb:1<=bias
 hfb:(f:Int)+2<=bias
 hf2:2<=f
 hw:inf<fmt.signWeight
theorem FmtOK.single:FmtOK Ieee.single 23 127 2139095040:=⟨rfl,ze,ze,ze,ze,ze,ze,ze⟩
section
variable {fmt : Ieee.Format} {f : Nat} {bias : Int} {inf : Nat}
theorem FmtOK.binade (h:FmtOK fmt f bias inf):fmt.binade=2^f:=by unfold Ieee.Format.binade;rw[h.hf]
theorem FmtOK.near (h:FmtOK fmt f bias inf) (neg:Bool) (mag:Nat) (place:Int):fmt.nearest neg mag place=fmt.word neg (xh f bias inf (mag*2^place.toNat) (2^(-place).toNat)):=by
 have h1:=h.hf;exact zg4 fmt f bias inf (by rw[h1]) h.hl h.hi (by rw[Int.toNat_natCast];exact h.hinf) h.hb neg mag place
theorem zcy (h:FmtOK fmt f bias inf) (neg:Bool) (k S:Nat) (h1:2^f<=S) (h2:S<2^(f+1)) (hk:k*2^f+S<inf):fmt.read (fmt.word neg (k*2^f+S))=.number neg S (fmt.leastPlace+k):=by
 have hw:=h.hw;have hB:=h.binade;have hi:=h.hi;rw[Nat.pow_succ]at h2;have hBp:=p2 f;unfold Ieee.Format.read Ieee.Format.word;simp only[hB,hi];generalize 2^f=B at *
 generalize fmt.signWeight=W at *
 have hkB:S<=k*B+S:=Nat.le_add_left _ _;have m3:(k*B+S)%B=S-B:=by
  rw[Nat.mul_comm,Nat.mul_add_mod];rw[Nat.mod_eq_sub_mod h1,Nat.mod_eq_of_lt zd]
 have m4:(k*B+S) / B=k+1:=by
  rw[Nat.mul_comm,Nat.mul_add_div hBp];congr 1;exact Nat.div_eq_of_lt_le (by rw[Nat.one_mul];exact h1) zd
 obtain⟨r,hr⟩:=zX (k*B+S);rw[hr]at m3 m4 hk hkB ⊢;have m1:(if neg=true then W+r else r)%W=r:=by
  cases neg
  ·simp only[Bool.false_eq_true,if_false];exact Nat.mod_eq_of_lt zd
  ·simp only[if_true];rw[Nat.add_mod_left];exact Nat.mod_eq_of_lt zd
 have m2:((if neg=true then W+r else r) / W%2==1)=neg:=by
  cases neg
  ·simp only[Bool.false_eq_true,if_false];rw[Nat.div_eq_of_lt zd];rfl
  ·simp only[if_true];rw[Nat.add_div_left _ zd,Nat.div_eq_of_lt zd];rfl
 rw[m1,m2,m3,m4,if_neg zd,if_pos hk];congr 1;omega
def RdV (fmt:Ieee.Format) (x:Nat) (neg:Bool) (v:Nat):Prop:=∃ m j,fmt.read x=.number neg m j/\m≠0/\m*2^j.toNat=v*2^(-j).toNat
theorem zln (h:FmtOK fmt f bias inf) (d:Nat) (h0:d≠0) (hd:d<2^(f+1)):xh f bias inf d 1=(d.log2+bias.toNat-1)*2^f+d*2^(f-d.log2)/\d.log2<=f:=by
 have hb:=h.hb;have hfb:=h.hfb;have hl:d.log2<=f:=by
  have:=(Nat.log2_lt h0).2 hd;omega
 have ho:uo d 1=d.log2:=by
  have:=zb9 d 0 h0;simpa using this
 have hE:yt f bias d 1=(d.log2:Int)-f:=by
  unfold yt;rw[if_neg h0,ho];omega
 refine⟨?_,hl⟩;unfold xh;rw[hE,if_pos zd];unfold rB;rw[show ((d.log2:Int)-f).toNat=0 by omega,show (-((d.log2:Int)-f)).toNat=f-d.log2 by omega,show ((d.log2:Int)-f-(1-bias-f)).toNat=d.log2+bias.toNat-1 by omega];have:=zad (d*2^(f-d.log2)) 1 zd;rw[Nat.mul_one]at this;rw[Nat.pow_zero,Nat.mul_one,this];rfl
theorem zhw (d:Nat) (h0:d≠0) (h:d.log2<=f):2^f<=d*2^(f-d.log2)/\d*2^(f-d.log2)<2^(f+1):=by
 have h1:2^d.log2<=d:=Nat.log2_self_le h0;have h2:d<2^(d.log2+1):=Nat.lt_log2_self;constructor
 ·calc 2^f=2^d.log2*2^(f-d.log2):=by rw[<-Nat.pow_add];congr 1;omega
   _<=_:=Nat.mul_le_mul_right _ h1
 ·calc d*2^(f-d.log2)<2^(d.log2+1)*2^(f-d.log2):=Nat.mul_lt_mul_of_pos_right h2 (p2 _)
   _=2^(f+1):=by rw[<-Nat.pow_add];congr 1;omega
theorem RdV.small (h:FmtOK fmt f bias inf) (neg:Bool) (d:Nat) (h0:d≠0) (hd:d<2^(f+1)):RdV fmt (fmt.word neg (xh f bias inf d 1)) neg d:=by
 obtain⟨e,hl⟩:=zln h d h0 hd;obtain⟨h1,h2⟩:=zhw (f:=f) d h0 hl;have hb:=h.hb;have hfb:=h.hfb;rw[e];refine⟨_,_,zcy h neg _ _ h1 h2 ?_,?_,?_⟩
 ·rw[h.hinf];have h3:(d.log2+bias.toNat-1+2)*2^f<=(2*bias+1).toNat*2^f:=Nat.mul_le_mul_right _ zd;rw[Nat.pow_succ]at h2;rw[Nat.add_mul]at h3;omega
 ·have:=p2 f;omega
 ·rw[h.hl];rw[show (1-bias-(f:Int)+((d.log2+bias.toNat-1:Nat):Int)).toNat=0 by omega,show (-(1-bias-(f:Int)+((d.log2+bias.toNat-1:Nat):Int))).toNat=f-d.log2 by omega,Nat.pow_zero,Nat.mul_one]
theorem zpa (m v n u:Nat) (i j:Int) (hi:m*2^i.toNat=v*2^(-i).toNat) (hj:n*2^j.toNat=u*2^(-j).toNat):m*n*2^(i+j).toNat=v*u*2^(-(i+j)).toNat:=by
 have key:m*n*2^(i+j).toNat*(2^(-i).toNat*2^(-j).toNat*2^(i.toNat+j.toNat))=v*u*2^(-(i+j)).toNat*(2^(-i).toNat*2^(-j).toNat*2^(i.toNat+j.toNat)):=by
  have e1:m*n*2^(i+j).toNat*(2^(-i).toNat*2^(-j).toNat*2^(i.toNat+j.toNat))=(m*2^i.toNat)*(n*2^j.toNat)*(2^(i+j).toNat*2^(-i).toNat*2^(-j).toNat):=by
   rw[Nat.pow_add];ac_rfl
  have e2:v*u*2^(-(i+j)).toNat*(2^(-i).toNat*2^(-j).toNat*2^(i.toNat+j.toNat))=(v*2^(-i).toNat)*(u*2^(-j).toNat)*(2^(-(i+j)).toNat*2^i.toNat*2^j.toNat):=by
   rw[Nat.pow_add];ac_rfl
  rw[e1,e2,hi,hj,<-Nat.pow_add,<-Nat.pow_add,<-Nat.pow_add,<-Nat.pow_add];congr 2;omega
 exact Nat.eq_of_mul_eq_mul_right (Nat.mul_pos (Nat.mul_pos (p2 _) (p2 _)) (p2 _)) key
theorem zpb (m v n u:Nat) (i j:Int) (hi:m*2^i.toNat=v*2^(-i).toNat) (hj:n*2^j.toNat=u*2^(-j).toNat):m*2^(i-j).toNat*u=v*(n*2^(-(i-j)).toNat):=by
 have key:m*2^(i-j).toNat*u*(2^(-i).toNat*2^(-j).toNat*2^(i.toNat+j.toNat))=v*(n*2^(-(i-j)).toNat)*(2^(-i).toNat*2^(-j).toNat*2^(i.toNat+j.toNat)):=by
  have e1:m*2^(i-j).toNat*u*(2^(-i).toNat*2^(-j).toNat*2^(i.toNat+j.toNat))=(m*2^i.toNat)*(u*2^(-j).toNat)*(2^(i-j).toNat*2^(-i).toNat*2^j.toNat):=by
   rw[Nat.pow_add];ac_rfl
  have e2:v*(n*2^(-(i-j)).toNat)*(2^(-i).toNat*2^(-j).toNat*2^(i.toNat+j.toNat))=(v*2^(-i).toNat)*(n*2^j.toNat)*(2^(-(i-j)).toNat*2^i.toNat*2^(-j).toNat):=by
   rw[Nat.pow_add];ac_rfl
  rw[e1,e2,hi,hj,<-Nat.pow_add,<-Nat.pow_add,<-Nat.pow_add,<-Nat.pow_add];congr 2;omega
 exact Nat.eq_of_mul_eq_mul_right (Nat.mul_pos (Nat.mul_pos (p2 _) (p2 _)) (p2 _)) key
theorem RdV.mul (h:FmtOK fmt f bias inf) {x y v u:Nat} {s t:Bool} (hx:RdV fmt x s v) (hy:RdV fmt y t u):fmt.mul x y=some (fmt.word (s ^^ t) (xh f bias inf (v*u) 1)):=by
 obtain⟨m,i,hx,-,hi⟩:=hx;obtain⟨n,j,hy,-,hj⟩:=hy;unfold Ieee.Format.mul;rw[hx,hy];show some (fmt.nearest (s ^^ t) (m*n) (i+j))=_;rw[h.near];congr 2;refine ue f bias inf (by have:=p2 (-(i+j)).toNat;omega) ze ?_;rw[Nat.mul_one];exact zpa m v n u i j hi hj
theorem RdV.div (h:FmtOK fmt f bias inf) {x y v u:Nat} {s t:Bool} (hx:RdV fmt x s v) (hy:RdV fmt y t u) (hu:u≠0):fmt.div x y=some (fmt.word (s ^^ t) (xh f bias inf v u)):=by
 obtain⟨m,i,hx,hm,hi⟩:=hx;obtain⟨n,j,hy,hn,hj⟩:=hy;unfold Ieee.Format.div;rw[hx,hy];show Option.map _ (if n=0 then _ else _)=_;rw[if_neg hn,h.hf];show some (fmt.nearest (s ^^ t) (2*((m<<<(f+2+n.log2-m.log2)) / n)+((m<<<(f+2+n.log2-m.log2))%n != 0).toNat) (i-j-(f+2+n.log2-m.log2:Nat)-1))=_;rw[h.near,Nat.shiftLeft_eq];congr 2;obtain⟨more,hmore⟩:=zX (f+2+n.log2-m.log2);rw[hmore];obtain⟨q,hq⟩:=zX (2*((m*2^more) / n)+((m*2^more)%n != 0).toNat);rw[hq];have hL:((f:Nat):Int)+2<=(q.log2:Int):=by
  have h1:2^m.log2<=m:=Nat.log2_self_le hm;have h2:n<2^(n.log2+1):=Nat.lt_log2_self;have h3:2^(f+1)<=(m*2^more) / n:=by
   rw[Nat.le_div_iff_mul_le zd];have h4:2^(f+1)*n<=2^(f+1)*2^(n.log2+1):=Nat.mul_le_mul_left _ zd;have h5:2^m.log2*2^more<=m*2^more:=Nat.mul_le_mul_right _ h1;rw[<-Nat.pow_add]at h4 h5;refine Nat.le_trans h4 (Nat.le_trans (Nat.pow_le_pow_right zd zd) h5)
  have h6:2^(f+2)<=q:=by rw[<-hq,Nat.pow_succ 2 (f+1)];omega
  have h7:q≠0:=by have:=p2 (f+2);omega
  have:=(Nat.le_log2 h7).2 h6;omega
 rw[znr f bias inf (i-j) more hm zd zd hq hL];have h8:n*2^(-(i-j)).toNat≠0:=by have:=Nat.mul_pos (Nat.pos_of_ne_zero hn) (p2 (-(i-j)).toNat);omega
 exact ue f bias inf h8 hu (zpb m v n u i j hi hj)
theorem zgo {s:Bool} {m v:Nat} {i base:Int} (hi:m*2^i.toNat=v*2^(-i).toNat) (hb:base<=i) (hb0:base<=0):Ieee.signed s m (i-base).toNat=if s then -((v*2^(-base).toNat:Nat):Int) else ((v*2^(-base).toNat:Nat):Int):=by
 have e:m<<<(i-base).toNat=v*2^(-base).toNat:=by
  rw[Nat.shiftLeft_eq];have key:m*2^(i-base).toNat*2^(-i).toNat=v*2^(-base).toNat*2^(-i).toNat:=by
   have e1:m*2^(i-base).toNat*2^(-i).toNat=m*2^i.toNat*2^(-base).toNat:=by
    rw[Nat.mul_assoc,Nat.mul_assoc,<-Nat.pow_add,<-Nat.pow_add];congr 2;omega
   rw[e1,hi];ac_rfl
  exact Nat.eq_of_mul_eq_mul_right (p2 _) key
 unfold Ieee.signed;rw[e]
theorem RdV.order {x y v u:Nat} {s t:Bool} (hx:RdV fmt x s v) (hy:∃ n j,fmt.read y=.number t n j/\j<=0/\n*2^j.toNat=u*2^(-j).toNat):
  fmt.order x y=some (compare (if s then -(v:Int) else (v:Int)) (if t then -(u:Int) else (u:Int))):=by
 obtain⟨m,i,hx,-,hi⟩:=hx;obtain⟨n,j,hy,hj0,hj⟩:=hy;unfold Ieee.Format.order;rw[hx,hy];show some (compare (Ieee.signed s m (i-min i j).toNat) (Ieee.signed t n (j-min i j).toNat))=_;rw[zgo hi zd zd,zgo hj zd zd];congr 1;obtain⟨K,hK⟩:=zX (2^(-min i j).toNat);have hKp:0<K:=by rw[<-hK];exact p2 _
 rw[hK];have e1:∀ (b:Bool) (z:Nat),(if b then -((z*K:Nat):Int) else ((z*K:Nat):Int))=(if b then -(z:Int) else (z:Int))*K:=by
  intro b z;cases b
  ·simp
  ·simp[Int.neg_mul]
 rw[e1,e1];generalize (if s then -(v:Int) else (v:Int))=a;generalize (if t then -(u:Int) else (u:Int))=b;have hKi:(0:Int)<(K:Int):=zd;rcases Int.lt_trichotomy a b with h | h | h
 ·rw[Int.compare_eq_lt.2 h,Int.compare_eq_lt.2 (Int.mul_lt_mul_of_pos_right h hKi)]
 ·rw[h];rw[Int.compare_eq_eq.2 rfl,Int.compare_eq_eq.2 rfl]
 ·rw[Int.compare_eq_gt.2 h,Int.compare_eq_gt.2 (Int.mul_lt_mul_of_pos_right h hKi)]
theorem RdV.large (h:FmtOK fmt f bias inf) (neg:Bool) (d:Nat) (hd:2^(f+1)<=d) (hlt:d<2^bias.toNat):∃ v,RdV fmt (fmt.word neg (xh f bias inf d 1)) neg v/\2^(f+1)<=v:=by
 have hb:=h.hb;have hfb:=h.hfb;have h0:d≠0:=by have:=p2 (f+1);omega
 have hlo:f+1<=d.log2:=(Nat.le_log2 h0).2 hd;have hhi:d.log2<bias.toNat:=(Nat.log2_lt h0).2 hlt;have ho:uo d 1=d.log2:=by
  have:=zb9 d 0 h0;simpa using this
 have hE:yt f bias d 1=(d.log2:Int)-f:=by
  unfold yt;rw[if_neg h0,ho];omega
 have hN:xh f bias inf d 1=(d.log2+bias.toNat-1)*2^f+vi d (2^(d.log2-f)):=by
  unfold xh;rw[hE,if_pos zd];unfold rB;rw[show ((d.log2:Int)-f).toNat=d.log2-f by omega,show (-((d.log2:Int)-f)).toNat=0 by omega,show ((d.log2:Int)-f-(1-bias-f)).toNat=d.log2+bias.toNat-1 by omega];rw[Nat.pow_zero,Nat.mul_one,Nat.one_mul];rfl
 have hB:=p2 (d.log2-f);have h1:2^d.log2<=d:=Nat.log2_self_le h0;have h2:d<2^(d.log2+1):=Nat.lt_log2_self;have hr1:2^f<=vi d (2^(d.log2-f)):=by
  have e:=zad (2^f) (2^(d.log2-f)) hB;rw[<-e];refine zcv hB ?_;rw[<-Nat.pow_add,show f+(d.log2-f)=d.log2 by omega];exact h1
 have hr2:vi d (2^(d.log2-f))<=2^(f+1):=by
  have e:=zad (2^(f+1)) (2^(d.log2-f)) hB;rw[<-e];refine zcv hB ?_;rw[<-Nat.pow_add,show f+1+(d.log2-f)=d.log2+1 by omega];omega
 have hinf:∀ k S,k+2<=2*bias.toNat+1->S<2^(f+1)->k*2^f+S<inf:=by
  intro k S hk hS;rw[h.hinf];have h3:(k+2)*2^f<=(2*bias+1).toNat*2^f:=Nat.mul_le_mul_right _ zd;rw[Nat.pow_succ]at hS;rw[Nat.add_mul]at h3;omega
 rw[hN];obtain⟨k,hk⟩:=zX (d.log2+bias.toNat-1);rw[hk];generalize vi d (2^(d.log2-f))=r at *
 have key:∀ (K S:Nat),2^f<=S->S<2^(f+1)->k<=K->K<=k+1->∃ v,RdV fmt (fmt.word neg (K*2^f+S)) neg v/\2^(f+1)<=v:=by
  intro K S a1 a2 a3 a4;refine⟨S*2^(K+1-bias.toNat-f),⟨S,_,zcy h neg K S a1 a2 (hinf K S zd a2),by have:=p2 f;omega,?_⟩,?_⟩
  ·rw[h.hl,show (1-bias-(f:Int)+(K:Int)).toNat=K+1-bias.toNat-f by omega,show (-(1-bias-(f:Int)+(K:Int))).toNat=0 by omega,Nat.pow_zero,Nat.mul_one]
  ·have h5:2^f*2^1<=S*2^(K+1-bias.toNat-f):=Nat.mul_le_mul a1 (Nat.pow_le_pow_right zd zd);rw[<-Nat.pow_add]at h5;exact h5
 by_cases hc:r=2^(f+1)
 ·have e:k*2^f+r=(k+1)*2^f+2^f:=by rw[hc,Nat.add_mul,Nat.pow_succ];omega
  rw[e];refine key (k+1) (2^f) (Nat.le_refl _) ?_ zd zd;rw[Nat.pow_succ];have:=p2 f;omega
 ·exact key k r hr1 zd zd zd
end
end
end Go.Proofs.YtnifedmhgncioaaGreatDoor
