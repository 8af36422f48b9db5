/- Lemmas that the claim's top text leans on. No condition of their own. -/
import Derived.Test.YtnifedmhgncioaaDoorK06
import Derived.StillTailTactics
namespace Go.Proofs.YtnifedmhgncioaaDoor
open Go.RowKit
set_option linter.unusedSimpArgs false
set_option linter.unusedVariables false
set_option maxHeartbeats 16000000
def zgt (N t:Nat):Bool:=decide (10^t<2*(N%10^t)) || (decide (10^t=2*(N%10^t))&&decide (N / 10^t%2=1))
theorem zbs (N s:Nat):N%10^(s+1)=N / 10^s%10*10^s+N%10^s:=by
 rw[Nat.pow_succ,Nat.mod_mul,Nat.mul_comm (10^s),Nat.add_comm]
theorem zk9 (N:Nat) (h:N%10=5):zgt N 1=decide (N / 10%10%2=1):=by
 unfold zgt;rw[Nat.pow_one,h];simp
theorem zla (N s:Nat) (hN:N%10≠0) (h:¬(N / 10^s%10=5/\s=0)):zgt N (s+1)=decide (5<=N / 10^s%10):=by
 unfold zgt;have e:=zbs N s;have p:0<10^s:=Nat.pow_pos zd;have hl:=Nat.mod_lt N p;obtain⟨d,hd⟩:=zX (N / 10^s%10);have hnz:d=5->N%10^s≠0:=by
  intro h5 e0;cases s with
  | zero=>exact h ⟨by rw[hd];exact h5,rfl⟩
  | succ s=>
   have:N%10^(s+1)%10=N%10:=Nat.mod_mod_of_dvd _ ⟨10^s,zE⟩;rw[e0]at this;exact hN this.symm
 rw[hd]at e ⊢;rw[e,Nat.pow_succ];generalize N%10^s=x at *
 generalize 10^s=P at *
 rcases Nat.lt_or_ge d 5 with h5 | h5
 ·have:d*P<=4*P:=Nat.mul_le_mul_right _ zd;have h1:¬P*10<2*(d*P+x):=zd;have h2:¬P*10=2*(d*P+x):=zd;simp[h1,h2,h5]
 ·have h1:P*10<2*(d*P+x):=by
   rcases Nat.lt_or_ge 5 d with h6 | h6
   ·have:6*P<=d*P:=Nat.mul_le_mul_right _ h6;omega
   ·have h5':d=5:=zd;have hx:=hnz h5';rw[h5'];omega
  simp[h1,h5]
set_option maxRecDepth 100000 in
theorem zk7 (g N n:Nat) (p:Int) (ng:Bool) (w:World) (hd:DecN w g N p ng) (hn:n<yi N) (hL8:yi N<=800):
  Calls Tryd.prog 63 #[.pointer (some ⟨g,0,none⟩),.int .i64 (n:Int)] w fun r w'=>
   r=.returned (.bool (zgt N (yi N-n)))/\w=w':=by
 obtain⟨hN,bs,hbs,hd⟩:=hd;have hlt:=hd.lt;have d1:=hd.cnd;have d3:=hd.ctr;obtain⟨L,hL⟩:=zX (yi N);rw[hL]at d1 hbs hn hL8;rw[hL];have c1:=hd.digit n zd;rw[uq bs N L hbs n hn,vh]at c1;obtain⟨s,hs⟩:=zX (L-1-n);rw[hs]at c1;rw[show L-n=s+1 by omega];have hni:(n:Int)<(L:Int):=zd;have hni2:decide (L<=n)=false:=zh;have hn0:decide ((n:Int)<0)=false:=zi;have hn8:(n:Int)<800:=zd;have hd9:N / 10^s%10<10:=Nat.mod_lt _ zd;obtain⟨res,hres⟩:=zX (zgt N (s+1));have hE:=zla N s hN;have HE:=zH hE;have HRES:=zH hres;have HD:=zH hd;have HBS:=zH hbs;rw[hres];obtain⟨d,hdd⟩:=zX (N / 10^s%10);rw[hdd]at c1 hd9;rw[show ((48+d:Nat):Int)=48+(d:Int) by omega]at c1;have HDD:=zH hdd;have HN:=zH hN;have HL:=zH hL;clear hE hres hd hbs hdd hL hN;refine ye Tryd.func63 rfl (by rw[Tryd.ntmps63];simp) ?_;intro σ hσ;rw[Tryd.ntmps63];have s0:σ 0=.pointer (some ⟨g,0,none⟩):=hσ 0 zi;have s1:σ 1=.int .i64 (n:Int):=hσ 1 zi;clear hσ;by_cases h5:d=5
 ·subst h5;by_cases hs0:s=0
  ·have hnL:((n:Int)+1==(L:Int))=true:=zh;have hhalf:=zk9 N (by have:=HDD.out;rw[hs0,Nat.pow_zero,Nat.div_one]at this;exact this);rw[hs0]at HRES;rw[Nat.zero_add]at HRES;rw[HRES.out]at hhalf;by_cases hn1:1<=n
   ·have c2:=HD.out.digit (n-1) zd;rw[uq bs N L HBS.out (n-1) zd,vh,show L-1-(n-1)=1 by omega,Nat.pow_one]at c2;obtain⟨y,hy⟩:=zX (N / 10%10);have hy9:y<10:=zd;rw[hy]at c2 hhalf;rw[show ((48+y:Nat):Int)=48+(y:Int) by omega]at c2;have hn1':decide (0<n)=true:=zh;have hHALF:=zH hhalf;obtain⟨j,hj⟩:=zX (n-1);rw[hj]at c2;have hnj:(n:Int)-1=(j:Int):=zd;have hj8:(j:Int)<800:=zd;clear hhalf hy;(go_wp2_with fail;repeat ((first|refine cZ ?_|refine cW ?_);go_wp2_with fail));refine yl (.bool ((48+(y:Int)-48)%2 != 0)) rfl ze zb ⟨?_,rfl⟩;rw[hHALF.out];congr 2;rw[Bool.eq_iff_iff];simp only[bne_iff_ne,decide_eq_true_eq];omega
   ·have hn0':decide (0<n)=false:=zh;have hnz:n=0:=zd;have hL1:L=1:=zd;have hq:N / 10=0:=by
     have:=xi N;rw[HL.out,hL1]at this;omega
    rw[hq]at hhalf;have hHALF:=zH hhalf;clear hhalf hq hnz hL1;(go_wp2_with fail;repeat ((first|refine cZ ?_|refine cW ?_);go_wp2_with fail));refine yl (.bool false) rfl ze zb ⟨?_,rfl⟩;rw[hHALF.out];rfl
  ·have hnL:((n:Int)+1==(L:Int))=false:=zf;have hr:=HE.out (fun h=>hs0 h.2);rw[HRES.out,HDD.out]at hr;have HR:=zH hr;clear hr;(go_wp2_with fail;repeat ((first|refine cZ ?_|refine cW ?_);go_wp2_with fail));refine yl (.bool (decide (5<=5))) rfl ze zb ⟨?_,rfl⟩;rw[HR.out]
 ·have hr:=HE.out (fun h=>h5 (HDD.out.symm.trans h.1));rw[HRES.out,HDD.out]at hr;have HR:=zH hr;have h53:((48:Int)+(d:Int)==53)=false:=zf;clear hr;(go_wp2_with fail;repeat ((first|refine cZ ?_|refine cW ?_);go_wp2_with fail));refine yl (.bool (decide (53<=48+(d:Int)))) rfl ze zb ⟨?_,rfl⟩;rw[HR.out];congr 2;rw[Bool.eq_iff_iff];simp only[decide_eq_true_eq];omega
def flE (eb mb b:Nat):Nat:=b / 2^mb%2^eb
def flF (mb b:Nat):Nat:=b%2^mb
def zen (eb mb b:Nat):Nat:=if flE eb mb b=0 then flF mb b else flF mb b+2^mb
def zor (eb mb:Nat) (bias:Int) (b:Nat):Int:=(if flE eb mb b=0 then 1 else (flE eb mb b:Int))+bias
def shS (m:Nat):Nat:=64-Lib.bitLen m
end Go.Proofs.YtnifedmhgncioaaDoor
