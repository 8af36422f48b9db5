/- Lemmas that the claim's top text leans on. No condition of their own. -/
import Derived.Test.YtnifedmhgncioaaGreatDoorJ14
import Derived.StillTailTactics
namespace Go.Proofs.YtnifedmhgncioaaGreatDoor
open Go.RowKit
set_option linter.unusedSimpArgs false
set_option linter.unusedVariables false
set_option maxHeartbeats 16000000
def zgt (N t:Nat):Bool:=decide (10^t<2*(N%10^t)) || (decide (10^t=2*(N%10^t))&&decide (N / 10^t%2=1))
def yoi (N t:Nat):Nat:=N / 10^t+if zgt N t then 1 else 0
structure DecV (w:World) (g M:Nat) (p:Int) (ng:Bool):Prop where
 pos:M≠0->DecN w g (zga M) (p+tz M) ng
 zero:M=0->∃ bs,Dec w g bs 0 0 ng false
theorem zbs (N s:Nat):N%10^(s+1)=N / 10^s%10*10^s+N%10^s:=by
 rw[Nat.pow_succ,Nat.mod_mul,Nat.mul_comm (10^s),Nat.add_comm]
theorem zk9 (N:Nat) (h:N%10=5):zgt N 1=decide (N / 10%10%2=1):=by
 unfold zgt;rw[Nat.pow_one,h];simp
theorem zla (N s:Nat) (hN:N%10≠0) (h:¬(N / 10^s%10=5/\s=0)):zgt N (s+1)=decide (5<=N / 10^s%10):=by
 unfold zgt;have e:=zbs N s;have p:0<10^s:=Nat.pow_pos zd;have hl:=Nat.mod_lt N p;obtain⟨d,hd⟩:=zX (N / 10^s%10);have hnz:d=5->N%10^s≠0:=by
  intro h5 e0;cases s with
  | zero=>exact h ⟨by rw[hd];exact h5,rfl⟩
  | succ s=>
   have:N%10^(s+1)%10=N%10:=Nat.mod_mod_of_dvd _ ⟨10^s,zE⟩;rw[e0]at this;exact hN this.symm
 rw[hd]at e ⊢;rw[e,Nat.pow_succ];generalize N%10^s=x at *
 generalize 10^s=P at *
 rcases Nat.lt_or_ge d 5 with h5 | h5
 ·have:d*P<=4*P:=Nat.mul_le_mul_right _ zd;have h1:¬P*10<2*(d*P+x):=zd;have h2:¬P*10=2*(d*P+x):=zd;simp[h1,h2,h5]
 ·have h1:P*10<2*(d*P+x):=by
   rcases Nat.lt_or_ge 5 d with h6 | h6
   ·have:6*P<=d*P:=Nat.mul_le_mul_right _ h6;omega
   ·have h5':d=5:=zd;have hx:=hnz h5';rw[h5'];omega
  simp[h1,h5]
set_option maxRecDepth 100000 in
theorem zk7 (g N n:Nat) (p:Int) (ng:Bool) (w:World) (hd:DecN w g N p ng) (hn:n<yi N) (hL8:yi N<=800):
  Calls Tryz.prog 139 #[.pointer (some ⟨g,0,none⟩),.int .i64 (n:Int)] w fun r w'=>
   r=.returned (.bool (zgt N (yi N-n)))/\w=w':=by
 obtain⟨hN,bs,hbs,hd⟩:=hd;have hlt:=hd.lt;have d1:=hd.cnd;have d3:=hd.ctr;obtain⟨L,hL⟩:=zX (yi N);rw[hL]at d1 hbs hn hL8;rw[hL];have c1:=hd.digit n zd;rw[uq bs N L hbs n hn,vh]at c1;obtain⟨s,hs⟩:=zX (L-1-n);rw[hs]at c1;rw[show L-n=s+1 by omega];have hni:(n:Int)<(L:Int):=zd;have hni2:decide (L<=n)=false:=zh;have hn0:decide ((n:Int)<0)=false:=zi;have hn8:(n:Int)<800:=zd;have hd9:N / 10^s%10<10:=Nat.mod_lt _ zd;obtain⟨res,hres⟩:=zX (zgt N (s+1));have hE:=zla N s hN;have HE:=zH hE;have HRES:=zH hres;have HD:=zH hd;have HBS:=zH hbs;rw[hres];obtain⟨d,hdd⟩:=zX (N / 10^s%10);rw[hdd]at c1 hd9;rw[show ((48+d:Nat):Int)=48+(d:Int) by omega]at c1;have HDD:=zH hdd;have HN:=zH hN;have HL:=zH hL;clear hE hres hd hbs hdd hL hN;refine ye Tryz.func139 rfl (by rw[Tryz.ntmps139];simp) ?_;intro σ hσ;rw[Tryz.ntmps139];have s0:σ 0=.pointer (some ⟨g,0,none⟩):=hσ 0 zi;have s1:σ 1=.int .i64 (n:Int):=hσ 1 zi;clear hσ;by_cases h5:d=5
 ·subst h5;by_cases hs0:s=0
  ·have hnL:((n:Int)+1==(L:Int))=true:=zh;have hhalf:=zk9 N (by have:=HDD.out;rw[hs0,Nat.pow_zero,Nat.div_one]at this;exact this);rw[hs0]at HRES;rw[Nat.zero_add]at HRES;rw[HRES.out]at hhalf;by_cases hn1:1<=n
   ·have c2:=HD.out.digit (n-1) zd;rw[uq bs N L HBS.out (n-1) zd,vh,show L-1-(n-1)=1 by omega,Nat.pow_one]at c2;obtain⟨y,hy⟩:=zX (N / 10%10);have hy9:y<10:=zd;rw[hy]at c2 hhalf;rw[show ((48+y:Nat):Int)=48+(y:Int) by omega]at c2;have hn1':decide (0<n)=true:=zh;have hHALF:=zH hhalf;obtain⟨j,hj⟩:=zX (n-1);rw[hj]at c2;have hnj:(n:Int)-1=(j:Int):=zd;have hj8:(j:Int)<800:=zd;clear hhalf hy;(go_wp2_with fail;repeat ((first|refine cZ ?_|refine cW ?_);go_wp2_with fail));refine yl (.bool ((48+(y:Int)-48)%2 != 0)) rfl ze zb ⟨?_,rfl⟩;rw[hHALF.out];congr 2;rw[Bool.eq_iff_iff];simp only[bne_iff_ne,decide_eq_true_eq];omega
   ·have hn0':decide (0<n)=false:=zh;have hnz:n=0:=zd;have hL1:L=1:=zd;have hq:N / 10=0:=by
     have:=xi N;rw[HL.out,hL1]at this;omega
    rw[hq]at hhalf;have hHALF:=zH hhalf;clear hhalf hq hnz hL1;(go_wp2_with fail;repeat ((first|refine cZ ?_|refine cW ?_);go_wp2_with fail));refine yl (.bool false) rfl ze zb ⟨?_,rfl⟩;rw[hHALF.out];rfl
  ·have hnL:((n:Int)+1==(L:Int))=false:=zf;have hr:=HE.out (fun h=>hs0 h.2);rw[HRES.out,HDD.out]at hr;have HR:=zH hr;clear hr;(go_wp2_with fail;repeat ((first|refine cZ ?_|refine cW ?_);go_wp2_with fail));refine yl (.bool (decide (5<=5))) rfl ze zb ⟨?_,rfl⟩;rw[HR.out]
 ·have hr:=HE.out (fun h=>h5 (HDD.out.symm.trans h.1));rw[HRES.out,HDD.out]at hr;have HR:=zH hr;have h53:((48:Int)+(d:Int)==53)=false:=zf;clear hr;(go_wp2_with fail;repeat ((first|refine cZ ?_|refine cW ?_);go_wp2_with fail));refine yl (.bool (decide (53<=48+(d:Int)))) rfl ze zb ⟨?_,rfl⟩;rw[HR.out];congr 2;rw[Bool.eq_iff_iff];simp only[decide_eq_true_eq];omega
set_option maxRecDepth 100000 in
theorem ynl (g N n:Nat) (p:Int) (ng:Bool) (w:World) (hd:DecN w g N p ng) (hn:n<yi N) (hL8:yi N<=800):
  Calls Tryz.prog 141 #[.pointer (some ⟨g,0,none⟩),.int .i64 (n:Int)] w fun r w'=>
   r=.returned (.tuple #[])/\DecV w' g (N / 10^(yi N-n)) (p+(yi N-n:Nat)) ng/\Gr w w' g:=by
 obtain⟨hN,bs,hbs,hd⟩:=hd;have hlt:=hd.lt;have d1:=hd.cnd;have fz:=hd.frozen;have hN0:N≠0:=by intro e;rw[e]at hN;simp at hN
 obtain⟨L,hL⟩:=zX (yi N);rw[hL]at d1 hbs hn hL8 hd;rw[hL];have hpost:∀ w',Dec w' g bs (uc bs n:Nat) (zbi (uc bs n) (p+L)) ng false->DecV w' g (N / 10^(L-n)) (p+(L-n:Nat)) ng:=by
  intro w' hd';have htk:bs.take n=digs (N / 10^(L-n)) n:=by
   refine zgk bs _ n (by rw[hd.len];omega) fun j hj=>?_
   rw[uq bs N L hbs _ zd];unfold Lib.dg;rw[Nat.div_div_eq_div_mul,<-Nat.pow_add];congr 5;omega
  refine⟨fun h0=>?_,fun h0=>?_⟩
  ·have hn1:1<=n:=by
    rcases Nat.eq_zero_or_pos n with h | h
    ·exfalso;apply h0;rw[h,Nat.sub_zero,<-hL];exact Nat.div_eq_of_lt (xi N)
    ·exact h
   have hq:yi (N / 10^(L-n))=n:=by
    have h1:=qh hN0;have h2:=xi N;rw[hL]at h1 h2;have pp:0<10^(L-n):=Nat.pow_pos zd;have:=vg (n-1) (N / 10^(L-n)) ((Nat.le_div_iff_mul_le pp).2 (by rw[<-Nat.pow_add,show n-1+(L-n)=L-1 by omega];exact h1))
     ((Nat.div_lt_iff_lt_mul pp).2 (by rw[<-Nat.pow_add,show n-1+1+(L-n)=L by omega];exact h2))
    omega
   have h3:=DecN.of_trim (w:=w') (g:=g) (M:=N / 10^(L-n)) (p:=p+(L-n:Nat)) (ng:=ng) (bs:=bs) (dp:=p+L) h0 (by rw[hq];exact htk) (by rw[hq];exact hd') (by rw[hq];omega);exact h3
  ·have hn0:n=0:=by
    rcases Nat.eq_zero_or_pos n with h | h
    ·exact h
    ·exfalso;have h1:=qh hN0;rw[hL]at h1;have pp:0<10^(L-n):=Nat.pow_pos zd;have h2:10^(n-1)<=N / 10^(L-n):=(Nat.le_div_iff_mul_le pp).2 (by rw[<-Nat.pow_add,show n-1+(L-n)=L-1 by omega];exact h1);have:0<10^(n-1):=Nat.pow_pos zd;omega
   subst hn0;exact⟨bs,hd'⟩
 have HP:=zH hpost;have HD:=zH hd;have hni:(n:Int)<(L:Int):=zd;have hni2:decide (L<=n)=false:=zh;have hn0:decide ((n:Int)<0)=false:=zi;clear hpost hd hbs hL hN hN0;refine ye Tryz.func141 rfl (by rw[Tryz.ntmps141];simp) ?_;intro σ hσ;rw[Tryz.ntmps141];have s0:σ 0=.pointer (some ⟨g,0,none⟩):=hσ 0 zi;have s1:σ 1=.int .i64 (n:Int):=hσ 1 zi;clear hσ;(go_wp2_with fail;repeat ((first|refine cZ ?_|refine cW ?_);go_wp2_with fail));refine (zji g n bs _ ng false _ (HD.out.setNd _) zd).mono ?_;rintro e w7 ⟨rfl,hd7,hg7⟩;go_wp2_with fail;exact zi2 rfl ⟨rfl,HP.out _ hd7,((Gr.refl w g).set _ _).trans hg7⟩
theorem yoz (q j:Nat) (h:q+1=(q / 10^j+1)*10^j) (h9:q / 10^j%10=9):q+1=(q / 10^(j+1)+1)*10^(j+1):=by
 have e:q / 10^(j+1)=q / 10^j / 10:=by rw[Nat.pow_succ,Nat.div_div_eq_div_mul]
 rw[h,e,Nat.pow_succ,Nat.mul_comm (10^j) 10,<-Nat.mul_assoc];congr 1;omega
set_option maxRecDepth 100000 in
theorem yof (g N n:Nat) (p:Int) (ng:Bool) (w:World) (hd:DecN w g N p ng) (hn:n<yi N) (hL8:yi N<=800) (hp1:-2000<=p) (hp2:p<=2000):
  Calls Tryz.prog 140 #[.pointer (some ⟨g,0,none⟩),.int .i64 (n:Int)] w fun r w'=>
   r=.returned (.tuple #[])/\DecV w' g (N / 10^(yi N-n)+1) (p+(yi N-n:Nat)) ng/\Gr w w' g:=by
 obtain⟨hN,bs,hbs,hd⟩:=hd;have hlt:=hd.lt;have d1:=hd.cnd;have d2:=hd.cdp;have fz:=hd.frozen;have hN0:N≠0:=by intro e;rw[e]at hN;simp at hN
 obtain⟨L,hL⟩:=zX (yi N);rw[hL]at d1 d2 hbs hn hL8 hd;rw[hL];obtain⟨q,hq⟩:=zX (N / 10^(L-n));have pp:0<10^(L-n):=Nat.pow_pos zd;have hqlt:q<10^n:=by
  have h2:=xi N;rw[hL]at h2;rw[<-hq,Nat.div_lt_iff_lt_mul pp,<-Nat.pow_add,show n+(L-n)=L by omega];exact h2
 have hqlow:1<=n->10^(n-1)<=q:=by
  intro hn1;have h1:=qh hN0;rw[hL]at h1;rw[<-hq,Nat.le_div_iff_mul_le pp,<-Nat.pow_add,show n-1+(L-n)=L-1 by omega];exact h1
 have htk:bs.take n=digs q n:=by
  rw[<-hq];refine zgk bs _ n (by rw[hd.len];omega) fun j hj=>?_
  rw[uq bs N L hbs _ zd];unfold Lib.dg;rw[Nat.div_div_eq_div_mul,<-Nat.pow_add];congr 5;omega
 rw[hq];have HD:=zH hd;have HTK:=zH htk;have HQL:=zH hqlow;have HQT:=zH hqlt;have hni:(n:Int)<(L:Int):=zd;have hni2:decide (L<=n)=false:=zh;have hn0:decide ((n:Int)<0)=false:=zi;clear hd hbs hL hN hN0 hq pp hqlt hqlow htk;refine ye Tryz.func140 rfl (by rw[Tryz.ntmps140];simp) ?_;intro σ hσ;rw[Tryz.ntmps140];have s0:σ 0=.pointer (some ⟨g,0,none⟩):=hσ 0 zi;have s1:σ 1=.int .i64 (n:Int):=hσ 1 zi;clear hσ;(go_wp2_with fail;repeat ((first|refine cZ ?_|refine cW ?_);go_wp2_with fail));refine xx (fun kk s' w'=>∃ i:Nat,i<=n/\kk=i/\q+1=(q / 10^(n-i)+1)*10^(n-i)/\s' 4=.int .i64 ((i:Int)-1)/\s' 0=.pointer (some ⟨g,0,none⟩)/\w=w') n
  ⟨n,Nat.le_refl _,rfl,zi,zb,zb,rfl⟩ ?_
 clear s0 s1 σ;rintro i σ wk ⟨_,hi,rfl,hnine,s4,s0,rfl⟩ RK KK HRK hKK;have HNI:=zH hnine;clear hnine;cases i with
 | zero=>
  rw[show ((0:Nat):Int)-1=-1 by omega]at s4;have c0:=HD.out.digit 0 zd;(go_wp2_with fail;repeat ((first|refine cZ ?_|refine cW ?_);go_wp2_with fail));refine zi2 rfl ⟨rfl,⟨fun _=>?_,fun h=>absurd h zd⟩,(((Gr.refl w g).set _ _).set _ _).set _ _⟩;have hq1:q+1=1*10^n:=by
   have h1:=HNI.out;rw[Nat.sub_zero,Nat.div_eq_of_lt HQT.out,Nat.zero_add]at h1;exact h1
  have hc:=yme hq1.symm ze;rw[hc.1,hc.2];have hd1:yi 1=1:=vg 0 1 ze ze;refine⟨ze,bs.set 0 49,?_,?_⟩
  ·rw[hd1];have hlen:bs.length=800:=HD.out.len;cases bs with
   | nil=>simp at hlen
   | cons b l=>rfl
  ·rw[hd1];have h3:=((HD.out.setDigit 0 zd 49 zd zd).setNd 1).setDp (p+(L:Int)+1);rw[show p+((L-n:Nat):Int)+(n:Int)+((1:Nat):Int)=p+(L:Int)+1 by omega];exact h3
 | succ i=>
  rw[show ((i+1:Nat):Int)-1=(i:Int) by omega]at s4;have c1:=HD.out.digit i zd;rw[uq bs q n HTK.out i zd,vh]at c1;obtain⟨j,hj⟩:=zX (n-1-i);rw[hj]at c1;have hj2:n-(i+1)=j:=zd;rw[hj2]at HNI;obtain⟨x,hx⟩:=zX (q / 10^j%10);have hx9:x<=9:=by rw[<-hx];have:q / 10^j%10<10:=Nat.mod_lt _ zd;omega
  rw[hx,show ((48+x:Nat):Int)=48+(x:Int) by omega]at c1;have HXX:=zH hx;have hi8:(i:Int)<800:=zd;clear hx;by_cases h9:x=9
  ·subst h9;have hst:=yoz q j HNI.out HXX.out;have HST:=zH hst;clear hst;(go_wp2_with fail;repeat ((first|refine cZ ?_|refine cW ?_);go_wp2_with fail));exact wo HRK i zd ⟨i,zd,rfl,by rw[show n-i=j+1 by omega];exact HST.out,zb,zb,rfl⟩
  ·have hx57:(48:Int)+(x:Int)<57:=zd;(go_wp2_with fail;repeat ((first|refine cZ ?_|refine cW ?_);go_wp2_with fail));go_still_tail 10,zg;(go_wp2_with fail;repeat ((first|refine cZ ?_|refine cW ?_);go_wp2_with fail));refine ymd rfl ⟨rfl,⟨fun _=>?_,fun h=>absurd h zd⟩,?_⟩
   ·have hmod:(q / 10^j+1)%10≠0:=by have:=HXX.out;omega
    have hc:=yme HNI.out.symm hmod;have hup:q / 10^j+1<10^(i+1):=by
     have h1:q / 10^j<10^(i+1):=by
      rw[Nat.div_lt_iff_lt_mul (Nat.pow_pos zd),<-Nat.pow_add,show i+1+j=n by omega];exact HQT.out
     rw[Nat.pow_succ]at h1 ⊢;omega
    have hlow:10^i<=q / 10^j+1:=by
     have h1:=HQL.out zd;have h2:10^i<=q / 10^j:=by
      rw[Nat.le_div_iff_mul_le (Nat.pow_pos zd),<-Nat.pow_add,show i+j=n-1 by omega];exact h1
     omega
    have hnd:=vg i _ hlow hup;have hlen:bs.length=800:=HD.out.len;rw[hc.1,hc.2];refine⟨hmod,bs.set i (UInt8.ofNat (48+(x:Int)+1).toNat),?_,?_⟩
    ·rw[hnd];refine zgk _ _ _ (by rw[List.length_set];omega) fun t ht=>?_
     rw[jn _ _ _ _ zd];by_cases ht0:t=0
     ·subst ht0;rw[if_pos zd,show (48+(x:Int)+1).toNat=48+(x+1) by omega];refine zut _ _ _ ?_;rw[Nat.pow_zero,Nat.div_one];have:=HXX.out;omega
     ·rw[if_neg zd,uq bs q n HTK.out _ zd];obtain⟨u,rfl⟩:∃ u,t=u+1:=⟨t-1,zd⟩;unfold Lib.dg;have e1:(q / 10^j+1) / 10^(u+1)=q / 10^j / 10^(u+1):=by
       rw[Nat.pow_succ,Nat.mul_comm,<-Nat.div_div_eq_div_mul,<-Nat.div_div_eq_div_mul];congr 1;have:=HXX.out;omega
      rw[e1,Nat.div_div_eq_div_mul,<-Nat.pow_add];congr 5;omega
    ·rw[hnd];have h3:=((HD.out.setDigit i zd (48+(x:Int)+1) zd zd).setNd ((i:Int)+1)).drew;rw[show p+((L-n:Nat):Int)+(j:Int)+((i+1:Nat):Int)=p+(L:Int) by omega];rw[show ((i+1:Nat):Int)=(i:Int)+1 by omega];exact h3
   ·exact (((Gr.refl w g).set _ _).set _ _).drew
def ymf (N:Nat) (p n:Int):Nat×Int:=if 0<=n/\n<yi N then (yoi N (yi N-n.toNat),p+(yi N-n.toNat:Nat)) else (N,p)
theorem DecN.toV {w:World} {g N:Nat} {p:Int} {ng:Bool} (h:DecN w g N p ng):DecV w g N p ng:=by
 have h0:N≠0:=by intro e;have:=h.ne;rw[e]at this;simp at this
 refine⟨fun _=>?_,fun e=>absurd e h0⟩;rw[zi8 h.ne,ztd h.ne];simpa using h
set_option maxRecDepth 100000 in
theorem yqg (g N:Nat) (n p:Int) (ng:Bool) (w:World) (hd:DecN w g N p ng) (hL8:yi N<=800) (hp1:-2000<=p) (hp2:p<=2000):
  Calls Tryz.prog 101 #[.pointer (some ⟨g,0,none⟩),.int .i64 n] w fun r w'=>
   r=.returned (.tuple #[])/\DecV w' g (ymf N p n).1 (ymf N p n).2 ng/\Gr w w' g:=by
 have hlt:g<w.heap.size:=by obtain⟨_,bs,_,hd⟩:=hd;exact hd.lt
 have d1:w.cell? ⟨g,800,none⟩=some (.int .i64 (yi N:Nat)):=by obtain⟨_,bs,_,hd⟩:=hd;exact hd.cnd
 obtain⟨L,hL⟩:=zX (yi N);have HD:=zH hd;have hL8':=hL8;rw[hL]at d1 hL8;have HL:=zH hL;have HL8:=zH hL8';clear hd hL hL8';refine ye Tryz.func101 rfl (by rw[Tryz.ntmps101];simp) ?_;intro σ hσ;rw[Tryz.ntmps101];have s0:σ 0=.pointer (some ⟨g,0,none⟩):=hσ 0 zi;have s1:σ 1=.int .i64 n:=hσ 1 zi;clear hσ;by_cases hin:0<=n/\n<(L:Int)
 ·obtain⟨h0,h1⟩:=hin;obtain⟨k,rfl⟩:∃ k:Nat,n=(k:Int):=⟨n.toNat,zd⟩;have hkL:k<L:=zd;have hni2:decide (L<=k)=false:=zh;have hn0:decide ((k:Int)<0)=false:=zi;have hres:ymf N p (k:Int)=(N / 10^(yi N-k)+(if zgt N (yi N-k) then 1 else 0),p+(yi N-k:Nat)):=by
   unfold ymf yoi;rw[if_pos (by have:=HL.out;omega),Int.toNat_natCast]
  have HRES:=zH hres;clear hres;(go_wp2_with fail;repeat ((first|refine cZ ?_|refine cW ?_);go_wp2_with fail));refine (zk7 g N k p ng _ HD.out (by rw[HL.out];exact hkL) HL8.out).mono ?_;rintro e w7 ⟨rfl,rfl⟩;go_wp2_with fail;refine zb0 (zgt N (yi N-k)) zb ze (fun h=>?_) (fun h=>?_)
  ·rw[h]at HRES;have HUP:=zH h;clear h;go_wp2_with fail;refine (yof g N k p ng _ HD.out (by rw[HL.out];exact hkL) HL8.out hp1 hp2).mono ?_;rintro e w8 ⟨rfl,hd8,hg8⟩;go_wp2_with fail;exact zi2 rfl ⟨rfl,by rw[HRES.out];exact hd8,hg8⟩
  ·rw[h]at HRES;have HUP:=zH h;clear h;go_wp2_with fail;refine (ynl g N k p ng _ HD.out (by rw[HL.out];exact hkL) HL8.out).mono ?_;rintro e w8 ⟨rfl,hd8,hg8⟩;go_wp2_with fail;exact zi2 rfl ⟨rfl,by rw[HRES.out];exact hd8,hg8⟩
 ·have hres:ymf N p n=(N,p):=by
   unfold ymf;rw[if_neg (by rw[HL.out];exact hin)]
  have HRES:=zH hres;clear hres;by_cases hneg:n<0
  ·clear hin;(go_wp2_with fail;repeat ((first|refine cZ ?_|refine cW ?_);go_wp2_with fail));exact ymd rfl ⟨rfl,by rw[HRES.out];exact HD.out.toV,Gr.refl w g⟩
  ·have hge:(L:Int)<=n:=zd;have hneg':decide (n<0)=false:=by simpa using hneg
   clear hin;(go_wp2_with fail;repeat ((first|refine cZ ?_|refine cW ?_);go_wp2_with fail));exact ymd rfl ⟨rfl,by rw[HRES.out];exact HD.out.toV,Gr.refl w g⟩
theorem Gr.setNew {w w1:World} {g b:Nat} (h:Gr w w1 g) (hb:w.heap.size<=b) (i:Nat) (u:Value):Gr w (w1.setCell ⟨b,i,none⟩ u) g:=
 yx h (wq w1 ⟨b,i,none⟩ u) (fun j e hj=>by cases e;dsimp only at hj;omega)
theorem Gr.alloc {w w1:World} {g:Nat} (h:Gr w w1 g) (o:Obj):Gr w (w1.alloc o) g:=h.trans (World.grownBy_alloc w1 o _)
theorem Dec.setOther {w:World} {g b:Nat} {bs:List UInt8} {nd dp:Int} {ng tr:Bool} (h:Dec w g bs nd dp ng tr) (hb:g≠b) (i:Nat) (u:Value):Dec (w.setCell ⟨b,i,none⟩ u) g bs nd dp ng tr:=
 ⟨h.1,h.2.setCell_other hb u⟩
theorem BRow.setOther {w:World} {g b:Nat} {bs:List UInt8} (h:BRow w g bs) (hb:g≠b) (i:Nat) (u:Value):BRow (w.setCell ⟨b,i,none⟩ u) g bs:=Row.setCell_other h hb u
theorem BRow.cellD {w:World} {g:Nat} {bs:List UInt8} (h:BRow w g bs) (i:Nat) (hi:i<bs.length):w.cell? ⟨g,i,none⟩=some (.int .u8 ((bs.getD i 0).toNat:Int)):=by
 rw[h.row.cell,List.getElem?_map,List.getD_eq_getElem?_getD,List.getElem?_eq_getElem hi];rfl
theorem BRow.setD {w:World} {g:Nat} {bs:List UInt8} (h:BRow w g bs) (i:Nat) (c:Int) (h1:0<=c) (h2:c<256):BRow (w.setCell ⟨g,i,none⟩ (.int .u8 c)) g (bs.set i (UInt8.ofNat c.toNat)):=by
 have:=Row.setCell h i (.int .u8 c);rw[<-zo1 c h1 h2,<-List.map_set]at this;rw[zo1 c h1 h2]at this;exact this
set_option maxRecDepth 100000 in
theorem yo7 (g v:Nat) (bs:List UInt8) (nd dp:Int) (ng:Bool) (w:World) (hd:Dec w g bs nd dp ng false) (hv:v<18446744073709551616):
  Calls Tryz.prog 99 #[.pointer (some ⟨g,0,none⟩),.int .u64 (v:Int)] w fun r w'=>
   r=.returned (.tuple #[])/\DecV w' g v 0 ng/\Gr w w' g:=by
 have hlt:=hd.lt;have HD:=zH hd;have hn20:=yks v hv;obtain⟨L,hL⟩:=zX (yi v);rw[hL]at hn20;have hvL:v<10^L:=by rw[<-hL];exact xi v
 have HL:=zH hL;have HVL:=zH hvL;clear hd hL hvL;refine ye Tryz.func99 rfl (by rw[Tryz.ntmps99];simp) ?_;intro σ hσ;rw[Tryz.ntmps99];have s0:σ 0=.pointer (some ⟨g,0,none⟩):=hσ 0 zi;have s1:σ 1=.int .u64 (v:Int):=hσ 1 zi;clear hσ;go_wp2_with fail;have hrow:BRow (w.alloc (Obj.cells ((List.replicate 24 (0:UInt8)).map zkm).toArray 147)) w.heap.size (List.replicate 24 0):=Row.new w _ _;have hdec:Dec (w.alloc (Obj.cells ((List.replicate 24 (0:UInt8)).map zkm).toArray 147)) g bs nd dp ng false:=HD.out.grown (World.grownBy_alloc w _ none) zi;have hgr:=(Gr.refl w g).alloc (Obj.cells ((List.replicate 24 (0:UInt8)).map zkm).toArray 147);obtain⟨b,hb⟩:=zX w.heap.size;rw[hb]at hrow;have hgb:g≠b:=zd;have HB:=zH hb;refine xx (fun kk s' w'=>∃ (n u:Nat) (ds:List UInt8),n<=L/\kk=u/\u=v / 10^n/\(n=L\/0<u)/\ds.length=24/\(∀ j,j<n->ds.getD j 0=Lib.dg v j)/\s' 0=.pointer (some ⟨g,0,none⟩)/\s' 1=.int .u64 (u:Int)/\s' 4=.pointer (some ⟨b,0,none⟩)/\s' 5=.int .i64 (n:Int)/\BRow w' b ds/\Dec w' g bs nd dp ng false/\Gr w w' g) v
  ⟨0,v,List.replicate 24 0,Nat.zero_le _,rfl,zi,?_,zi,fun j hj=>absurd hj zd,zb,zb,zb,zb,hrow,hdec,hgr⟩ ?_
 ·by_cases h0:v=0
  ·left;rw[<-HL.out,h0,kw]
  ·right;omega
 clear s0 s1 σ hrow hdec hgr HD hb;rintro u σ wk ⟨n,_,ds,hn,rfl,hu,hnu,hdl,hds,s0,s1,s4,s5,hrow,hdec,hgr⟩ RK KK HRK hKK;have hb1:=hrow.row.lt;have hg1:=hdec.lt;have fzb:=hrow.row.frozen;have HU:=zH hu;have HDL:=zH hdl;have HDS:=zH hds;have HROW:=zH hrow;have HDEC:=zH hdec;have HGR:=zH hgr;have hu64:u<18446744073709551616:=by rw[hu];exact Nat.lt_of_le_of_lt (Nat.div_le_self _ _) hv
 clear hu hdl hds hrow hdec hgr;by_cases hz:u=0
 ·subst hz;have hnL:n=L:=zd;subst hnL;have d1:=HDEC.out.cnd;have fz:=HDEC.out.frozen;(go_wp2_with fail;repeat ((first|refine cZ ?_|refine cW ?_);go_wp2_with fail));have hdec2:=HDEC.out.setNd 0;have hrow2:=HROW.out.setOther (Ne.symm hgb) 800 (.int .i64 0);have hgr2:=HGR.out.set 800 (.int .i64 0);refine xx (fun kk s' w'=>∃ (i:Nat) (bs':List UInt8),i<=n/\kk=i/\(∀ t,t<n-i->bs'.getD t 0=Lib.dg v (n-1-t))/\s' 0=.pointer (some ⟨g,0,none⟩)/\s' 4=.pointer (some ⟨b,0,none⟩)/\s' 5=.int .i64 ((i:Int)-1)/\BRow w' b ds/\Dec w' g bs' ((n:Int)-i) dp ng false/\Gr w w' g) n
   ⟨n,bs,Nat.le_refl _,rfl,fun t ht=>absurd ht zd,zb,zb,zb,hrow2,by rw[Int.sub_self];exact hdec2,hgr2⟩ ?_
  clear s0 s1 s4 s5 σ hrow2 hdec2 hgr2 HROW HDEC HGR hb1 hg1 fzb d1 fz HRK hKK;rintro i σ wl ⟨_,bs2,hi,rfl,hbs,s0,s4,s5,hrow,hdec,hgr⟩ RL KL HRL hKL;have hb1:=hrow.row.lt;have hg1:=hdec.lt;have fz:=hdec.frozen;have d1:=hdec.cnd;have HBS:=zH hbs;have HROW:=zH hrow;have HDEC:=zH hdec;have HGR:=zH hgr;clear hbs hrow hdec hgr;cases i with
  | zero=>
   rw[show ((0:Nat):Int)-1=-1 by omega]at s5;rw[show (n:Int)-((0:Nat):Int)=(n:Int) by omega]at d1 HDEC;have d2:=HDEC.out.cdp;(go_wp2_with fail;repeat ((first|refine cZ ?_|refine cW ?_);go_wp2_with fail));refine (zji g n bs2 _ ng false _ (HDEC.out.setDp _) zd).mono ?_;rintro e w7 ⟨rfl,hd7,hg7⟩;go_wp2_with fail;have htk:bs2.take n=digs v n:=zgk bs2 v n (by rw[HDEC.out.len];omega) (fun j hj=>by
    rw[HBS.out _ zd];congr 1;omega)
   refine zi2 rfl ⟨rfl,⟨fun h0=>?_,fun h0=>?_⟩,(HGR.out.set _ _).trans hg7⟩
   ·refine DecN.of_trim (p:=0) h0 (by rw[HL.out];exact htk) (by rw[HL.out];exact hd7) (by rw[HL.out];omega)
   ·have:n=0:=by rw[<-HL.out,h0,kw]
    subst this;exact⟨bs2,hd7⟩
  | succ i=>
   rw[show ((i+1:Nat):Int)-1=(i:Int) by omega]at s5;obtain⟨m,hm⟩:=zX (n-(i+1));rw[show (n:Int)-((i+1:Nat):Int)=(m:Int) by omega]at d1 HDEC;have hdl:=HDL.out;have c1:=HROW.out.cellD i zd;rw[HDS.out i zd]at c1;have hc57:=zrd v i;obtain⟨c,hc⟩:=zX (Lib.dg v i);rw[hc]at c1 hc57;unfold zd2 at hc57;have HC:=zH hc;obtain⟨vm,hvm⟩:∃ x,wl.cell? ⟨g,m,none⟩=some x:=⟨_,HDEC.out.digit m zd⟩;have hm8:(m:Int)<800:=zd;have hi8:(i:Int)<24:=zd;clear hc hdl;(go_wp2_with fail;repeat ((first|refine cZ ?_|refine cW ?_);go_wp2_with fail));go_still_tail 11,zg;(go_wp2_with fail;repeat ((first|refine cZ ?_|refine cW ?_);go_wp2_with fail));have hlen:bs2.length=800:=HDEC.out.len;refine wo HRL i zd ⟨i,bs2.set m (UInt8.ofNat ((c.toNat:Nat):Int).toNat),zd,rfl,?_,zb,zb,zb,?_,?_,?_⟩
   ·intro t ht;rw[jn _ _ _ _ zd];by_cases htm:m=t
    ·subst htm;rw[if_pos rfl,Int.toNat_natCast,<-HC.out];have h1:n-1-m=i:=zd;rw[h1];apply UInt8.toNat_inj.1;rw[UInt8.toNat_ofNat'];have:=vh v i;have h2:v / 10^i%10<10:=Nat.mod_lt _ zd;omega
    ·rw[if_neg htm];exact HBS.out t zd
   ·exact ((HROW.out.setOther (Ne.symm hgb) _ _).setOther (Ne.symm hgb) _ _)
   ·have h3:=((HDEC.out.setDigit m zd (c.toNat:Int) zd zd).setNd ((m:Int)+1)).drew;rw[show (n:Int)-(i:Int)=(m:Int)+1 by omega];exact h3
   ·exact ((HGR.out.set _ _).set _ _).drew
 ·have hnL:n<L:=by
   rcases Nat.lt_or_ge n L with h | h
   ·exact h
   ·exfalso;have h1:=HU.out;rw[show n=L by omega,Nat.div_eq_of_lt HVL.out]at h1;exact hz h1
  obtain⟨vm,hvm⟩:∃ x,wk.cell? ⟨b,n,none⟩=some x:=⟨_,HROW.out.cellD n (by rw[HDL.out];omega)⟩;have hn24:(n:Int)<24:=zd;have hu0:0<u:=zd;clear hz;(go_wp2_with fail;repeat ((first|refine cZ ?_|refine cW ?_);go_wp2_with fail));have hdl:=HDL.out;refine wo HRK (u / 10) zd ⟨n+1,u / 10,ds.set n (UInt8.ofNat ((u:Int)-10*((u:Int) / 10)+48).toNat),zd,rfl,?_,?_,by rw[List.length_set];exact hdl,?_,zb,zj,zb,zj,HROW.out.setD n _ zd zd,HDEC.out.setOther hgb _ _,HGR.out.setNew (by rw[HB.out];exact Nat.le_refl _) _ _⟩
  ·rw[HU.out,Nat.div_div_eq_div_mul,<-Nat.pow_succ]
  ·by_cases h:n+1=L
   ·exact Or.inl h
   ·right;have hv0:v≠0:=by intro e;have:=HU.out;rw[e,Nat.zero_div]at this;omega
    have h1:=qh hv0;rw[HL.out]at h1;rw[HU.out,Nat.div_div_eq_div_mul,<-Nat.pow_succ];refine Nat.div_pos (Nat.le_trans (Nat.pow_le_pow_right zd zd) h1) (Nat.pow_pos zd)
  ·intro j hj;rw[jn _ _ _ _ zd];by_cases hjn:n=j
   ·subst hjn;rw[if_pos rfl,show ((u:Int)-10*((u:Int) / 10)+48).toNat=48+u%10 by omega];exact zut _ _ _ (by rw[<-HU.out])
   ·rw[if_neg hjn];exact HDS.out j zd
def shD (N:Nat) (p k:Int):Nat×Int:=if 0<=k then (zga (N*2^k.toNat),p+tz (N*2^k.toNat)) else (zga (N*5^(-k).toNat),p+k+tz (N*5^(-k).toNat))
theorem yk9 (M c:Nat) (h0:M≠0) (hc:c≠0):zga (zga M*c)=zga (M*c)/\tz M+tz (zga M*c)=tz (M*c):=by
 have h1:=zar M h0;have hx:zga M*c≠0:=Nat.mul_ne_zero (zpc M h0) hc;have h2:=zar (zga M*c) hx;have h3:=yme (A:=zga (zga M*c)) (a:=tz M+tz (zga M*c)) (M:=M*c) (by
  rw[Nat.add_comm,Nat.pow_add,<-Nat.mul_assoc,h2.1,Nat.mul_right_comm,h1.1]) h2.2
 exact⟨h3.1.symm,h3.2.symm⟩
set_option maxRecDepth 100000 in
theorem yqf (T g N:Nat) (p k:Int) (ng:Bool) (w:World) (he:Env T w) (hgT:T<=g) (hd:DecN w g N p ng)
  (hk1:-1100<=k) (hk2:k<=1000) (hp1:0<=p) (hp2:p<=20) (hM1:0<=k->yi (N*2^k.toNat)<=781) (hM2:k<0->yi (N*5^(-k).toNat)<=800):
  Calls Tryz.prog 100 #[.pointer (some ⟨g,0,none⟩),.int .i64 k] w fun r w'=>
   r=.returned (.tuple #[])/\DecN w' g (shD N p k).1 (shD N p k).2 ng/\Gr w w' g:=by
 have hne:=hd.ne;have hN0:N≠0:=by intro e;rw[e]at hne;simp at hne
 have hL1:=yfr hN0;have hlt:g<w.heap.size:=by obtain⟨_,bs,_,hd⟩:=hd;exact hd.lt
 have d1:w.cell? ⟨g,800,none⟩=some (.int .i64 (yi N:Nat)):=by obtain⟨_,bs,_,hd⟩:=hd;exact hd.cnd
 obtain⟨L,hL⟩:=zX (yi N);rw[hL]at d1 hL1;have hLz:((L:Int)==0)=false:=zf;have HD:=zH hd;have HE:=zH he;have HNE:=zH hne;have HN0:=zH hN0;clear hd he hne hN0 hL;refine ye Tryz.func100 rfl (by rw[Tryz.ntmps100];simp) ?_;intro σ hσ;rw[Tryz.ntmps100];have s0:σ 0=.pointer (some ⟨g,0,none⟩):=hσ 0 zi;have s1:σ 1=.int .i64 k:=hσ 1 zi;clear hσ;rcases Int.lt_trichotomy k 0 with hk | hk | hk
 ·obtain⟨n,rfl⟩:∃ n:Nat,k=-(n:Int):=⟨(-k).toNat,zd⟩;have hM:=hM2 hk;rw[Int.neg_neg,Int.toNat_natCast]at hM;have hres:shD N p (-(n:Int))=(zga (N*5^n),p-n+tz (N*5^n)):=by
   unfold shD;rw[if_neg zd,Int.neg_neg,Int.toNat_natCast];rfl
  have HRES:=zH hres;have HM:=zH hM;have hk':decide (0 < -(n:Int))=false:=zi;have hn0:1<=n:=zd;have hn00:0<n:=zd;clear hM1 hM2 hres hM;(go_wp2_with fail;repeat ((first|refine cZ ?_|refine cW ?_);go_wp2_with fail));refine xx (fun kk s' w'=>∃ j:Nat,j<n/\kk=n-j/\s' 0=.pointer (some ⟨g,0,none⟩)/\s' 1=.int .i64 (-((n:Int)-j))/\DecN w' g (zga (N*5^j)) (p-j+tz (N*5^j)) ng/\Gr w w' g) n
   ⟨0,zd,rfl,zb,zb,zβP,Gr.refl w g⟩ ?_
  clear s0 s1 σ;rintro kk σ wk ⟨j,hj,hkk,s0,s1,hdec,hgr⟩ RK KK HRK hKK;have HKK:=zH hkk;have HDEC:=zH hdec;have HGR:=zH hgr;have hj0:N*5^j≠0:=Nat.mul_ne_zero HN0.out (Nat.ne_of_gt (Nat.pow_pos zd));have HJ0:=zH hj0;have htz:(tz (N*5^j):Int)<=800:=by
   have h1:=znx (N*5^j) hj0;have h2:=znw (N*5^j) (N*5^n) (Nat.mul_le_mul_left _ (Nat.pow_le_pow_right zd zd));have:=HM.out;omega
  have hnd:∀ c,j+c<=n->yi (zga (N*5^j)*5^c)<=800:=by
   intro c hc;have h1:=zar (N*5^j) hj0;have h2:zga (N*5^j)*5^c<=N*5^n:=by
    have h3:zga (N*5^j)<=N*5^j:=by
     have:=Nat.le_mul_of_pos_right (zga (N*5^j)) (Nat.pow_pos (n:=tz (N*5^j)) (by omega:0<10));omega
    refine Nat.le_trans (Nat.mul_le_mul_right _ h3) ?_;rw[Nat.mul_assoc,<-Nat.pow_add];exact Nat.mul_le_mul_left _ (Nat.pow_le_pow_right zd hc)
   exact Nat.le_trans (znw _ _ h2) HM.out
  have HND:=zH hnd;have hcm:∀ c,zga (zga (N*5^j)*5^c)=zga (N*5^(j+c))/\tz (N*5^j)+tz (zga (N*5^j)*5^c)=tz (N*5^(j+c)):=by
   intro c;have:=yk9 (N*5^j) (5^c) hj0 (Nat.ne_of_gt (Nat.pow_pos zd));rw[Nat.mul_assoc,<-Nat.pow_add]at this;exact this
  have HCM:=zH hcm;obtain⟨q,hq⟩:=zX (p-j+tz (N*5^j));have hq1:-1200<=q:=zd;have hq2:q<=1200:=zd;have HQ:=zH hq;rw[hq]at HDEC;clear hkk hdec hgr hj0 htz hnd hcm hq;by_cases hn60:60<n-j
  ·have ht:-((n:Int)-(j:Int)) < -60:=zd;(go_wp2_with fail;repeat ((first|refine cZ ?_|refine cW ?_);go_wp2_with fail));refine (ylw T g _ 60 q ng _ (HE.out.grown HGR.out (fun k e=>zz)) hgT HDEC.out zd zd (HND.out 60 zd) hq1 hq2).mono ?_;rintro e w7 ⟨rfl,hd7,hg7⟩;(go_wp2_with fail;repeat ((first|refine cZ ?_|refine cW ?_);go_wp2_with fail));refine wo HRK (n-(j+60)) (by have:=HKK.out;omega) ⟨j+60,zd,rfl,zb,?_,?_,HGR.out.trans hg7⟩
   ·have:-((n:Int)-((j+60:Nat):Int))=-((n:Int)-(j:Int))+60:=zd;rw[this];simp[yc,yd]
   ·have h1:=HCM.out 60;rw[h1.1]at hd7;rw[show p-((j+60:Nat):Int)+(tz (N*5^(j+60)):Int)=q-((60:Nat):Int)+(tz (zga (N*5^j)*5^60):Int) by rw[<-h1.2,<-HQ.out];omega];exact hd7
  ·obtain⟨c,hc⟩:=zX (n-j);have ht:decide (-((n:Int)-(j:Int)) < -60)=false:=zh;have hci:-(-((n:Int)-(j:Int)))=(c:Int):=zd;rw[show -((n:Int)-(j:Int))=-(c:Int) by omega]at s1 ht;have hc64:IntKind.u64.wrap (c:Int)=(c:Int):=zl;have hc0:(c:Int)<=60:=zd;clear hci;(go_wp2_with fail;repeat ((first|refine cZ ?_|refine cW ?_);go_wp2_with fail));refine (ylw T g _ c q ng _ (HE.out.grown HGR.out (fun k e=>zz)) hgT HDEC.out zd zd (HND.out c zd) hq1 hq2).mono ?_;rintro e w7 ⟨rfl,hd7,hg7⟩;(go_wp2_with fail;repeat ((first|refine cZ ?_|refine cW ?_);go_wp2_with fail));refine zi2 rfl ⟨rfl,?_,HGR.out.trans hg7⟩;have h1:=HCM.out c;rw[show j+c=n by omega]at h1;rw[HRES.out];rw[h1.1]at hd7;dsimp only;rw[show p-(n:Int)+(tz (N*5^n):Int)=q-(c:Int)+(tz (zga (N*5^j)*5^c):Int) by rw[<-h1.2,<-HQ.out];omega];exact hd7
 ·subst hk;have hres:shD N p 0=(N,p):=by
   unfold shD;rw[if_pos zd];have h1:=HNE.out;rw[show ((0:Int).toNat)=0 by rfl,Nat.pow_zero,Nat.mul_one,zi8 h1,ztd h1];simp
  have HRES:=zH hres;clear hres hM1 hM2;(go_wp2_with fail;repeat ((first|refine cZ ?_|refine cW ?_);go_wp2_with fail));refine zi2 rfl ⟨rfl,by rw[HRES.out];exact HD.out,Gr.refl w g⟩
 ·obtain⟨n,rfl⟩:∃ n:Nat,k=(n:Int):=⟨k.toNat,zd⟩;have hM:=hM1 zd;rw[Int.toNat_natCast]at hM;have hres:shD N p (n:Int)=(zga (N*2^n),p+tz (N*2^n)):=by
   unfold shD;rw[if_pos zd,Int.toNat_natCast]
  have HRES:=zH hres;have HM:=zH hM;have hn0:1<=n:=zd;have hn00:0<n:=zd;clear hM1 hM2 hres hM;(go_wp2_with fail;repeat ((first|refine cZ ?_|refine cW ?_);go_wp2_with fail));refine xx (fun kk s' w'=>∃ j:Nat,j<n/\kk=n-j/\s' 0=.pointer (some ⟨g,0,none⟩)/\s' 1=.int .i64 ((n:Int)-j)/\DecN w' g (zga (N*2^j)) (p+tz (N*2^j)) ng/\Gr w w' g) n
   ⟨0,zd,rfl,zb,zb,zβP,Gr.refl w g⟩ ?_
  clear s0 s1 σ;rintro kk σ wk ⟨j,hj,hkk,s0,s1,hdec,hgr⟩ RK KK HRK hKK;have HKK:=zH hkk;have HDEC:=zH hdec;have HGR:=zH hgr;have hj0:N*2^j≠0:=Nat.mul_ne_zero HN0.out (Nat.ne_of_gt (Nat.pow_pos zd));have HJ0:=zH hj0;have htz:(tz (N*2^j):Int)<=781:=by
   have h1:=znx (N*2^j) hj0;have h2:=znw (N*2^j) (N*2^n) (Nat.mul_le_mul_left _ (Nat.pow_le_pow_right zd zd));have:=HM.out;omega
  have hnd:∀ c,j+c<=n->yi (zga (N*2^j)*2^c)<=781:=by
   intro c hc;have h1:=zar (N*2^j) hj0;have h2:zga (N*2^j)*2^c<=N*2^n:=by
    have h3:zga (N*2^j)<=N*2^j:=by
     have:=Nat.le_mul_of_pos_right (zga (N*2^j)) (Nat.pow_pos (n:=tz (N*2^j)) (by omega:0<10));omega
    refine Nat.le_trans (Nat.mul_le_mul_right _ h3) ?_;rw[Nat.mul_assoc,<-Nat.pow_add];exact Nat.mul_le_mul_left _ (Nat.pow_le_pow_right zd hc)
   exact Nat.le_trans (znw _ _ h2) HM.out
  have HND:=zH hnd;have hcm:∀ c,zga (zga (N*2^j)*2^c)=zga (N*2^(j+c))/\tz (N*2^j)+tz (zga (N*2^j)*2^c)=tz (N*2^(j+c)):=by
   intro c;have:=yk9 (N*2^j) (2^c) hj0 (Nat.ne_of_gt (Nat.pow_pos zd));rw[Nat.mul_assoc,<-Nat.pow_add]at this;exact this
  have HCM:=zH hcm;obtain⟨q,hq⟩:=zX (p+tz (N*2^j));have hq1:-1200<=q:=zd;have hq2:q<=1200:=zd;have HQ:=zH hq;rw[hq]at HDEC;clear hkk hdec hgr hj0 htz hnd hcm hq;by_cases hn60:60<n-j
  ·have ht:60<(n:Int)-(j:Int):=zd;(go_wp2_with fail;repeat ((first|refine cZ ?_|refine cW ?_);go_wp2_with fail));have hc60:chN 60<=19:=(zhm 60 zd zd).le19;have hn0c:=HND.out 0 zd;rw[Nat.pow_zero,Nat.mul_one]at hn0c;refine (yl8 T g _ 60 q ng _ (HE.out.grown HGR.out (fun k e=>zz)) hgT HDEC.out zd zd zd hq1 hq2).mono ?_;rintro e w7 ⟨rfl,hd7,hg7⟩;(go_wp2_with fail;repeat ((first|refine cZ ?_|refine cW ?_);go_wp2_with fail));refine wo HRK (n-(j+60)) (by have:=HKK.out;omega) ⟨j+60,zd,rfl,zb,?_,?_,HGR.out.trans hg7⟩
   ·have:(n:Int)-((j+60:Nat):Int)=(n:Int)-(j:Int)-60:=zd;rw[this];simp[yc,yd]
   ·have h1:=HCM.out 60;rw[h1.1]at hd7;rw[show p+(tz (N*2^(j+60)):Int)=q+(tz (zga (N*2^j)*2^60):Int) by rw[<-h1.2,<-HQ.out];omega];exact hd7
  ·obtain⟨c,hc⟩:=zX (n-j);have ht:decide (60<c)=false:=zh;have ht2:decide ((60:Int)<(c:Int))=false:=zh;rw[show (n:Int)-(j:Int)=(c:Int) by omega]at s1;have hc64:IntKind.u64.wrap (c:Int)=(c:Int):=zl;have hc0:(c:Int)<=60:=zd;(go_wp2_with fail;repeat ((first|refine cZ ?_|refine cW ?_);go_wp2_with fail));have hcc:chN c<=19:=(zhm c zd zd).le19;have hn0c:=HND.out 0 zd;rw[Nat.pow_zero,Nat.mul_one]at hn0c;refine (yl8 T g _ c q ng _ (HE.out.grown HGR.out (fun k e=>zz)) hgT HDEC.out zd zd zd hq1 hq2).mono ?_;rintro e w7 ⟨rfl,hd7,hg7⟩;(go_wp2_with fail;repeat ((first|refine cZ ?_|refine cW ?_);go_wp2_with fail));refine zi2 rfl ⟨rfl,?_,HGR.out.trans hg7⟩;have h1:=HCM.out c;rw[show j+c=n by omega]at h1;rw[HRES.out];rw[h1.1]at hd7;dsimp only;rw[show p+(tz (N*2^n):Int)=q+(tz (zga (N*2^j)*2^c):Int) by rw[<-h1.2,<-HQ.out];omega];exact hd7
def yta (eb mb b:Nat):Bool:=decide (b / 2^(eb+mb)≠0)
def flE (eb mb b:Nat):Nat:=b / 2^mb%2^eb
def flF (mb b:Nat):Nat:=b%2^mb
def zen (eb mb b:Nat):Nat:=if flE eb mb b=0 then flF mb b else flF mb b+2^mb
def zor (eb mb:Nat) (bias:Int) (b:Nat):Int:=(if flE eb mb b=0 then 1 else (flE eb mb b:Int))+bias
structure Pick where
 ds:List UInt8
 dp:Int
 prec:Int
 sh:Bool
def ylb (neg:Bool) (f:Int) (P:Pick):List UInt8:=ymh neg P.ds P.dp (ykz P.dp P.ds.length P.prec f P.sh).1 (ykz P.dp P.ds.length P.prec f P.sh).2
def yko (d:Nat):List UInt8:=(digs d (yi d)).take (uc (digs d (yi d)) (yi d))
theorem yku (d:Nat):(yko d).length=uc (digs d (yi d)) (yi d):=by
 unfold yko;rw[List.length_take,va];have:=zjj (digs d (yi d)) (yi d);omega
def shS (m:Nat):Nat:=64-Lib.bitLen m
def yj9 (nd dp prec f:Int):Int:=if f=101\/f=69 then max (nd-1) 0 else if f=102 then max (nd-dp) 0 else if f=103\/f=71 then nd else prec
def ykg (Z:Nat) (ME:Int) (m:Nat) (e prec f:Int):Pick:=
 let r:=kg Z ME (m*2^shS m) (e-shS m)
 ⟨yko r.1,yi r.1+r.2,yj9 (yko r.1).length (yi r.1+r.2) prec f,true⟩
def xt (prec f:Int):Int:=if (f=103\/f=71)/\prec=0 then 1 else prec
def ykk (exp prec f:Int):Int:=
 if f=102 then (if 0<=exp then 1+(1+exp)*78913 / 262144+prec else 1+prec - -exp*78913 / 262144)
 else if f=101\/f=69 then prec+1 else if f=103\/f=71 then xt prec f else 1
def ylt (m:Nat) (e digits prec f:Int):Pick:=
 if 0<digits then
  let r:=fwf (m*2^shS m) (e-shS m) digits prec (f==102)
  if r.1≠0 then ⟨yko r.1,yi r.1+r.2,prec,false⟩ else ⟨[],0,prec,false⟩
 else ⟨[],0,prec,false⟩
def kf (m:Nat) (e:Int):Nat×Int:=shD (zga m) (tz m) e
def ykl (m:Nat) (e prec f:Int):Nat×Int:=
 ymf (kf m e).1 (kf m e).2 (if f=101\/f=69 then prec+1 else if f=102 then (kf m e).2+yi (kf m e).1+prec else prec)
def ym4 (r:Nat×Int) (prec:Int):Pick:=if r.1=0 then ⟨[],0,prec,false⟩ else ⟨digs (zga r.1) (yi (zga r.1)),r.2+tz r.1+yi (zga r.1),prec,false⟩
def ykq (Z:Nat) (ME:Int) (mb:Nat) (m:Nat) (exp prec f:Int):Pick:=
 if m=0 then ⟨[],0,prec,decide (prec<0)⟩
 else if prec<0 then ykg Z ME m (exp-mb) prec f
 else if ykk exp prec f<=18 then ylt m (exp-mb) (ykk exp prec f) (xt prec f) f
 else ym4 (ykl m (exp-mb) (xt prec f) f) (xt prec f)
def yj5 (eb mb:Nat) (bias:Int) (Z:Nat) (ME:Int) (b:Nat) (f prec:Int):List UInt8:=
 if flE eb mb b=2^eb-1 then (if flF mb b≠0 then [78,97,78] else if yta eb mb b then [45,73,110,102] else [43,73,110,102])
 else if f=98 then yob (yta eb mb b) (zen eb mb b) (zor eb mb bias b-mb)
 else if f=120\/f=88 then xL (yta eb mb b) prec f (zen eb mb b) mb (zor eb mb bias b)
 else ylb (yta eb mb b) f (ykq Z ME mb (zen eb mb b) (zor eb mb bias b) prec f)
def wi (b:Nat) (f prec:Int):List UInt8:=yj5 8 23 (-127) 40 (-189) b f prec
theorem ylm (Z:Nat) (ME:Int) (m:Nat) (e:Int) (hZ:Z=11/\ME=-1085/\-1137<=e/\e<=960\/Z=40/\ME=-189/\-212<=e/\e<=64) (hm:m<18446744073709551616):(kg Z ME m e).1<18446744073709551616/\-400<=(kg Z ME m e).2/\(kg Z ME m e).2<=400:=by
 have hc1:-390<=(shC Z ME m e).1/\(shC Z ME m e).1<=390:=by
  unfold shC;rcases hZ with⟨rfl,rfl,h1,h2⟩ | ⟨rfl,rfl,h1,h2⟩ <;> (repeat' split) <;> dsimp only <;> omega
 unfold kg;dsimp only;have hr:∀ u,yj4 u<18446744073709551616:=fun u=>by unfold yj4;omega
 have hcl:∀ u,yll u<18446744073709551616:=fun u=>by unfold yll;omega
 have hfl:∀ u d,ykw (yj6 u d)<18446744073709551616:=fun u d=>by unfold ykw yj6;omega
 have h3:=hfl (usE (shC Z ME m e).2.2.1 e (shC Z ME m e).1) (-((shC Z ME m e).2.2.2:Int));split
 ·dsimp only;omega
 ·split
  ·dsimp only;have:=hr (usE m e (shC Z ME m e).1);omega
  ·dsimp only;have:=hcl (yj6 (usE (shC Z ME m e).2.1 e (shC Z ME m e).1) (shC Z ME m e).2.2.2);omega
theorem yrn (m:Nat) (e n prec:Int) (isF:Bool) (hx1:-1200<=e) (hx2:e<=1000) (hn1:1<=n) (hn2:n<=18) (hp1:0<=prec) (hp2:prec<=100000):
  (fwf m e n prec isF).1<18446744073709551616/\-400<=(fwf m e n prec isF).2/\(fwf m e n prec isF).2<=400:=by
 have hr:∀ u,yj4 u<18446744073709551616:=fun u=>by unfold yj4;omega
 have h2:-390<=(fwU m e n).2/\(fwU m e n).2<=390:=by
  unfold fwU;dsimp only;split <;> dsimp only <;> omega
 unfold fwf;dsimp only;split
 ·rename_i h;simp only[Bool.and_eq_true,decide_eq_true_eq]at h;dsimp only;have:=hr (yno (fwU m e n).1 ((fwU m e n).2-prec).toNat);omega
 ·dsimp only;have:=hr (fwU m e n).1;omega
theorem yk2 (n m:Nat) (h:m<2^n) (hn:n<=1024):yi m<=309:=by
 have h1:m<10^309:=Nat.lt_of_lt_of_le h (Nat.le_trans (Nat.pow_le_pow_right zd hn) zp);by_cases h0:m=0
 ·subst h0;rw[kw];omega
 ·have h2:=qh h0;have h3:=(Nat.pow_lt_pow_iff_right (by omega:1<10)).1 (Nat.lt_of_le_of_lt h2 h1);omega
theorem ylp (n m:Nat) (h:m<2^53) (hn:n<=1074):yi (m*5^n)<=767:=by
 have h1:m*5^n<10^767:=Nat.lt_of_lt_of_le (Nat.mul_lt_mul_of_pos_right h (Nat.pow_pos zd)) (Nat.le_trans (Nat.mul_le_mul_left _ (Nat.pow_le_pow_right zd hn)) zp);by_cases h0:m*5^n=0
 ·rw[h0,kw];omega
 ·have h2:=qh h0;have h3:=(Nat.pow_lt_pow_iff_right (by omega:1<10)).1 (Nat.lt_of_le_of_lt h2 h1);omega
theorem yn6 (n:Nat):10^(n / 2)<=5^n:=by
 have h1:(10:Nat)^(n / 2)<=25^(n / 2):=Nat.pow_le_pow_left zd _;have h2:(25:Nat)^(n / 2)=5^(2*(n / 2)):=by rw[Nat.pow_mul]
 have h3:(5:Nat)^(2*(n / 2))<=5^n:=Nat.pow_le_pow_right zd zd;omega
theorem yl0 (m:Nat) (e:Int) (hm0:m≠0) (hm:m<2^53) (he1:-1074<=e) (he2:e<=971):
  (kf m e).1%10≠0/\yi (kf m e).1<=767/\-1074<=(kf m e).2/\(kf m e).2<=800/\-540<=(kf m e).2+yi (kf m e).1/\(kf m e).2+yi (kf m e).1<=800:=by
 unfold kf shD;by_cases h0:0<=e
 ·rw[if_pos h0];dsimp only;obtain⟨k,rfl⟩:∃ k:Nat,e=(k:Int):=⟨e.toNat,zd⟩;rw[Int.toNat_natCast];have h1:=yk9 m (2^k) hm0 (Nat.ne_of_gt (Nat.pow_pos zd));have hM0:m*2^k≠0:=Nat.mul_ne_zero hm0 (Nat.ne_of_gt (Nat.pow_pos zd));have h2:=znx (m*2^k) hM0;have h3:=yk2 (53+k) (m*2^k) (by rw[Nat.pow_add];exact Nat.mul_lt_mul_of_pos_right hm (Nat.pow_pos zd)) zd;have h4:=yfr hM0;rw[h1.1];refine⟨(zar _ hM0).2,zd,zd,zd,zd,zd⟩
 ·rw[if_neg h0];dsimp only;obtain⟨n,rfl⟩:∃ n:Nat,e=-(n:Int):=⟨(-e).toNat,zd⟩;rw[Int.neg_neg,Int.toNat_natCast];have h1:=yk9 m (5^n) hm0 (Nat.ne_of_gt (Nat.pow_pos zd));have hM0:m*5^n≠0:=Nat.mul_ne_zero hm0 (Nat.ne_of_gt (Nat.pow_pos zd));have h2:=znx (m*5^n) hM0;have h3:=ylp n m hm zd;have h4:n / 2<yi (m*5^n):=by
   have h5:=xi (m*5^n);have h6:10^(n / 2)<=m*5^n:=Nat.le_trans (yn6 n) (Nat.le_mul_of_pos_left _ zd);exact (Nat.pow_lt_pow_iff_right (by omega:1<10)).1 (Nat.lt_of_le_of_lt h6 h5)
  rw[h1.1];refine⟨(zar _ hM0).2,zd,zd,zd,zd,zd⟩
theorem yr3 (N:Nat) (p n:Int) (hN:N%10≠0) (h0:(ymf N p n).1≠0):
  yi (ymf N p n).1<=yi N+1/\p+yi N<=(ymf N p n).2+yi (ymf N p n).1/\(ymf N p n).2+yi (ymf N p n).1<=p+yi N+1:=by
 have hN0:N≠0:=by intro e;rw[e]at hN;simp at hN
 unfold ymf at h0 ⊢;by_cases h:0<=n/\n<yi N
 ·rw[if_pos h]at h0 ⊢;dsimp only at h0 ⊢;obtain⟨k,rfl⟩:∃ k:Nat,n=(k:Int):=⟨n.toNat,zd⟩;rw[Int.toNat_natCast]at h0 ⊢;obtain⟨L,hL⟩:=zX (yi N);have h1:=qh hN0;have h2:=xi N;rw[hL]at h h0 h1 h2 ⊢;have hk:k<L:=zd;have pp:0<10^(L-k):=Nat.pow_pos zd;have hq:N / 10^(L-k)<10^k:=by
   rw[Nat.div_lt_iff_lt_mul pp,<-Nat.pow_add,show k+(L-k)=L by omega];exact h2
  have hup:yoi N (L-k)<=10^k:=by unfold yoi;split <;> omega
  have hlow:1<=k->10^(k-1)<=yoi N (L-k):=by
   intro hk1;have:10^(k-1)<=N / 10^(L-k):=by
    rw[Nat.le_div_iff_mul_le pp,<-Nat.pow_add,show k-1+(L-k)=L-1 by omega];exact h1
   unfold yoi;omega
  have hu:yi (yoi N (L-k))<=k+1:=by
   have h5:=qh h0;have h6:=(Nat.pow_le_pow_iff_right (by omega:1<10)).1 (Nat.le_trans h5 hup);omega
  have hl:k<=yi (yoi N (L-k)):=by
   rcases Nat.eq_zero_or_pos k with h | h
   ·omega
   ·have h5:=xi (yoi N (L-k));have h6:=(Nat.pow_lt_pow_iff_right (by omega:1<10)).1 (Nat.lt_of_le_of_lt (hlow h) h5);omega
  omega
 ·rw[if_neg h];dsimp only;omega
theorem yoj (m:Nat) (e prec f:Int) (hm0:m≠0) (hm:m<2^53) (he1:-1074<=e) (he2:e<=971):
  ∃ ds dp,ym4 (ykl m e prec f) prec=⟨ds,dp,prec,false⟩/\ds.length<=800/\-900<=dp/\dp<=900/\(ds=[]->dp=0)/\
   ∀ (w:World) (g:Nat) (ng:Bool),DecV w g (ykl m e prec f).1 (ykl m e prec f).2 ng->∃ bs,bs.take ds.length=ds/\Dec w g bs (ds.length:Nat) dp ng false:=by
 obtain⟨h1,h2,h3,h4,h5,h6⟩:=yl0 m e hm0 hm he1 he2;unfold ym4;by_cases h0:(ykl m e prec f).1=0
 ·rw[if_pos h0];refine⟨[],0,rfl,zi,zd,zd,fun _=>rfl,fun w g ng hd=>?_⟩;obtain⟨bs,hb⟩:=hd.zero h0;exact⟨bs,zi,hb⟩
 ·rw[if_neg h0];have h7:=yr3 (kf m e).1 (kf m e).2 _ h1 h0;have h8:=znx (ykl m e prec f).1 h0;have h9:=yfr (zpc (ykl m e prec f).1 h0);refine⟨_,_,rfl,?_,?_,?_,fun hh=>?_,fun w g ng hd=>?_⟩
  ·rw[va];unfold ykl at *;omega
  ·unfold ykl at *;omega
  ·unfold ykl at *;omega
  ·have:=congrArg List.length hh;rw[va]at this;simp at this;omega
  ·obtain⟨_,bs,hb,hdd⟩:=hd.pos h0;rw[va];exact⟨bs,hb,hdd⟩
theorem yqw (v k n:Nat) (h0:v≠0) (hv:yi v=n):yi (v*10^k)=n+k:=by
 induction k with
 | zero=>simpa using hv
 | succ k ih=>
  rw[Nat.pow_succ,<-Nat.mul_assoc,za3 (Nat.mul_ne_zero h0 (Nat.ne_of_gt (Nat.pow_pos zd))),ih];omega
end Go.Proofs.YtnifedmhgncioaaGreatDoor
