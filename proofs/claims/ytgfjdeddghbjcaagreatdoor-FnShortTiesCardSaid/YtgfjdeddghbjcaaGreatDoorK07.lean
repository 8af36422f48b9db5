/- Lemmas that the claim's top text leans on. No condition of their own. -/
import Derived.Test.YtgfjdeddghbjcaaGreatDoorK06
import Derived.Deep.CutBlock
import Derived.StillTailTactics
namespace Go.Proofs.YtgfjdeddghbjcaaGreatDoor
open Go.RowKit
set_option linter.unusedSimpArgs false
set_option linter.unusedVariables false
set_option maxHeartbeats 16000000
def zgt (N t:Nat):Bool:=decide (10^t<2*(N%10^t)) || (decide (10^t=2*(N%10^t))&&decide (N / 10^t%2=1))
def yoi (N t:Nat):Nat:=N / 10^t+if zgt N t then 1 else 0
structure DecV (w:World) (g M:Nat) (p:Int) (ng:Bool):Prop where
 pos:M≠0->DecN w g (zga M) (p+tz M) ng
 zero:M=0->∃ bs,Dec w g bs 0 0 ng false
def ymf (N:Nat) (p n:Int):Nat×Int:=if 0<=n/\n<yi N then (yoi N (yi N-n.toNat),p+(yi N-n.toNat:Nat)) else (N,p)
def shD (N:Nat) (p k:Int):Nat×Int:=if 0<=k then (zga (N*2^k.toNat),p+tz (N*2^k.toNat)) else (zga (N*5^(-k).toNat),p+k+tz (N*5^(-k).toNat))
theorem yk9 (M c:Nat) (h0:M≠0) (hc:c≠0):zga (zga M*c)=zga (M*c)/\tz M+tz (zga M*c)=tz (M*c):=by
 have h1:=zar M h0;have hx:zga M*c≠0:=Nat.mul_ne_zero (zpc M h0) hc;have h2:=zar (zga M*c) hx;have h3:=yme (A:=zga (zga M*c)) (a:=tz M+tz (zga M*c)) (M:=M*c) (by
  rw[Nat.add_comm,Nat.pow_add,<-Nat.mul_assoc,h2.1,Nat.mul_right_comm,h1.1]) h2.2
 exact⟨h3.1.symm,h3.2.symm⟩
def yta (eb mb b:Nat):Bool:=decide (b / 2^(eb+mb)≠0)
def flE (eb mb b:Nat):Nat:=b / 2^mb%2^eb
def flF (mb b:Nat):Nat:=b%2^mb
def zen (eb mb b:Nat):Nat:=if flE eb mb b=0 then flF mb b else flF mb b+2^mb
def zor (eb mb:Nat) (bias:Int) (b:Nat):Int:=(if flE eb mb b=0 then 1 else (flE eb mb b:Int))+bias
structure Pick where
 ds:List UInt8
 dp:Int
 prec:Int
 sh:Bool
def ylb (neg:Bool) (f:Int) (P:Pick):List UInt8:=ymh neg P.ds P.dp (ykz P.dp P.ds.length P.prec f P.sh).1 (ykz P.dp P.ds.length P.prec f P.sh).2
def yko (d:Nat):List UInt8:=(digs d (yi d)).take (uc (digs d (yi d)) (yi d))
theorem yku (d:Nat):(yko d).length=uc (digs d (yi d)) (yi d):=by
 unfold yko;rw[List.length_take,va];have:=zjj (digs d (yi d)) (yi d);omega
def shS (m:Nat):Nat:=64-Lib.bitLen m
def yj9 (nd dp prec f:Int):Int:=if f=101\/f=69 then max (nd-1) 0 else if f=102 then max (nd-dp) 0 else if f=103\/f=71 then nd else prec
def ykg (Z:Nat) (ME:Int) (m:Nat) (e prec f:Int):Pick:=
 let r:=kg Z ME (m*2^shS m) (e-shS m)
 ⟨yko r.1,yi r.1+r.2,yj9 (yko r.1).length (yi r.1+r.2) prec f,true⟩
def xt (prec f:Int):Int:=if (f=103\/f=71)/\prec=0 then 1 else prec
def ykk (exp prec f:Int):Int:=
 if f=102 then (if 0<=exp then 1+(1+exp)*78913 / 262144+prec else 1+prec - -exp*78913 / 262144)
 else if f=101\/f=69 then prec+1 else if f=103\/f=71 then xt prec f else 1
def ylt (m:Nat) (e digits prec f:Int):Pick:=
 if 0<digits then
  let r:=fwf (m*2^shS m) (e-shS m) digits prec (f==102)
  if r.1≠0 then ⟨yko r.1,yi r.1+r.2,prec,false⟩ else ⟨[],0,prec,false⟩
 else ⟨[],0,prec,false⟩
def kf (m:Nat) (e:Int):Nat×Int:=shD (zga m) (tz m) e
def ykl (m:Nat) (e prec f:Int):Nat×Int:=
 ymf (kf m e).1 (kf m e).2 (if f=101\/f=69 then prec+1 else if f=102 then (kf m e).2+yi (kf m e).1+prec else prec)
def ym4 (r:Nat×Int) (prec:Int):Pick:=if r.1=0 then ⟨[],0,prec,false⟩ else ⟨digs (zga r.1) (yi (zga r.1)),r.2+tz r.1+yi (zga r.1),prec,false⟩
def ykq (Z:Nat) (ME:Int) (mb:Nat) (m:Nat) (exp prec f:Int):Pick:=
 if m=0 then ⟨[],0,prec,decide (prec<0)⟩
 else if prec<0 then ykg Z ME m (exp-mb) prec f
 else if ykk exp prec f<=18 then ylt m (exp-mb) (ykk exp prec f) (xt prec f) f
 else ym4 (ykl m (exp-mb) (xt prec f) f) (xt prec f)
def yj5 (eb mb:Nat) (bias:Int) (Z:Nat) (ME:Int) (b:Nat) (f prec:Int):List UInt8:=
 if flE eb mb b=2^eb-1 then (if flF mb b≠0 then [78,97,78] else if yta eb mb b then [45,73,110,102] else [43,73,110,102])
 else if f=98 then yob (yta eb mb b) (zen eb mb b) (zor eb mb bias b-mb)
 else if f=120\/f=88 then xL (yta eb mb b) prec f (zen eb mb b) mb (zor eb mb bias b)
 else ylb (yta eb mb b) f (ykq Z ME mb (zen eb mb b) (zor eb mb bias b) prec f)
def xr (b:Nat) (f prec:Int):List UInt8:=yj5 11 52 (-1023) 11 (-1085) b f prec
def xb (b:Nat) (f prec:Int):List UInt8:=yj5 8 23 (-127) 40 (-189) b f prec
theorem ylm (Z:Nat) (ME:Int) (m:Nat) (e:Int) (hZ:Z=11/\ME=-1085/\-1137<=e/\e<=960\/Z=40/\ME=-189/\-212<=e/\e<=64) (hm:m<18446744073709551616):(kg Z ME m e).1<18446744073709551616/\-400<=(kg Z ME m e).2/\(kg Z ME m e).2<=400:=by
 have hc1:-390<=(shC Z ME m e).1/\(shC Z ME m e).1<=390:=by
  unfold shC;rcases hZ with⟨rfl,rfl,h1,h2⟩ | ⟨rfl,rfl,h1,h2⟩ <;> (repeat' split) <;> dsimp only <;> omega
 unfold kg;dsimp only;have hr:∀ u,yj4 u<18446744073709551616:=fun u=>by unfold yj4;omega
 have hcl:∀ u,yll u<18446744073709551616:=fun u=>by unfold yll;omega
 have hfl:∀ u d,ykw (yj6 u d)<18446744073709551616:=fun u d=>by unfold ykw yj6;omega
 have h3:=hfl (usE (shC Z ME m e).2.2.1 e (shC Z ME m e).1) (-((shC Z ME m e).2.2.2:Int));split
 ·dsimp only;omega
 ·split
  ·dsimp only;have:=hr (usE m e (shC Z ME m e).1);omega
  ·dsimp only;have:=hcl (yj6 (usE (shC Z ME m e).2.1 e (shC Z ME m e).1) (shC Z ME m e).2.2.2);omega
theorem yrn (m:Nat) (e n prec:Int) (isF:Bool) (hx1:-1200<=e) (hx2:e<=1000) (hn1:1<=n) (hn2:n<=18) (hp1:0<=prec) (hp2:prec<=100000):
  (fwf m e n prec isF).1<18446744073709551616/\-400<=(fwf m e n prec isF).2/\(fwf m e n prec isF).2<=400:=by
 have hr:∀ u,yj4 u<18446744073709551616:=fun u=>by unfold yj4;omega
 have h2:-390<=(fwU m e n).2/\(fwU m e n).2<=390:=by
  unfold fwU;dsimp only;split <;> dsimp only <;> omega
 unfold fwf;dsimp only;split
 ·rename_i h;simp only[Bool.and_eq_true,decide_eq_true_eq]at h;dsimp only;have:=hr (yno (fwU m e n).1 ((fwU m e n).2-prec).toNat);omega
 ·dsimp only;have:=hr (fwU m e n).1;omega
theorem yk2 (n m:Nat) (h:m<2^n) (hn:n<=1024):yi m<=309:=by
 have h1:m<10^309:=Nat.lt_of_lt_of_le h (Nat.le_trans (Nat.pow_le_pow_right zd hn) zp);by_cases h0:m=0
 ·subst h0;rw[kw];omega
 ·have h2:=qh h0;have h3:=(Nat.pow_lt_pow_iff_right (by omega:1<10)).1 (Nat.lt_of_le_of_lt h2 h1);omega
theorem ylp (n m:Nat) (h:m<2^53) (hn:n<=1074):yi (m*5^n)<=767:=by
 have h1:m*5^n<10^767:=Nat.lt_of_lt_of_le (Nat.mul_lt_mul_of_pos_right h (Nat.pow_pos zd)) (Nat.le_trans (Nat.mul_le_mul_left _ (Nat.pow_le_pow_right zd hn)) zp);by_cases h0:m*5^n=0
 ·rw[h0,kw];omega
 ·have h2:=qh h0;have h3:=(Nat.pow_lt_pow_iff_right (by omega:1<10)).1 (Nat.lt_of_le_of_lt h2 h1);omega
theorem yn6 (n:Nat):10^(n / 2)<=5^n:=by
 have h1:(10:Nat)^(n / 2)<=25^(n / 2):=Nat.pow_le_pow_left zd _;have h2:(25:Nat)^(n / 2)=5^(2*(n / 2)):=by rw[Nat.pow_mul]
 have h3:(5:Nat)^(2*(n / 2))<=5^n:=Nat.pow_le_pow_right zd zd;omega
theorem yl0 (m:Nat) (e:Int) (hm0:m≠0) (hm:m<2^53) (he1:-1074<=e) (he2:e<=971):
  (kf m e).1%10≠0/\yi (kf m e).1<=767/\-1074<=(kf m e).2/\(kf m e).2<=800/\-540<=(kf m e).2+yi (kf m e).1/\(kf m e).2+yi (kf m e).1<=800:=by
 unfold kf shD;by_cases h0:0<=e
 ·rw[if_pos h0];dsimp only;obtain⟨k,rfl⟩:∃ k:Nat,e=(k:Int):=⟨e.toNat,zd⟩;rw[Int.toNat_natCast];have h1:=yk9 m (2^k) hm0 (Nat.ne_of_gt (Nat.pow_pos zd));have hM0:m*2^k≠0:=Nat.mul_ne_zero hm0 (Nat.ne_of_gt (Nat.pow_pos zd));have h2:=znx (m*2^k) hM0;have h3:=yk2 (53+k) (m*2^k) (by rw[Nat.pow_add];exact Nat.mul_lt_mul_of_pos_right hm (Nat.pow_pos zd)) zd;have h4:=yfr hM0;rw[h1.1];refine⟨(zar _ hM0).2,zd,zd,zd,zd,zd⟩
 ·rw[if_neg h0];dsimp only;obtain⟨n,rfl⟩:∃ n:Nat,e=-(n:Int):=⟨(-e).toNat,zd⟩;rw[Int.neg_neg,Int.toNat_natCast];have h1:=yk9 m (5^n) hm0 (Nat.ne_of_gt (Nat.pow_pos zd));have hM0:m*5^n≠0:=Nat.mul_ne_zero hm0 (Nat.ne_of_gt (Nat.pow_pos zd));have h2:=znx (m*5^n) hM0;have h3:=ylp n m hm zd;have h4:n / 2<yi (m*5^n):=by
   have h5:=xi (m*5^n);have h6:10^(n / 2)<=m*5^n:=Nat.le_trans (yn6 n) (Nat.le_mul_of_pos_left _ zd);exact (Nat.pow_lt_pow_iff_right (by omega:1<10)).1 (Nat.lt_of_le_of_lt h6 h5)
  rw[h1.1];refine⟨(zar _ hM0).2,zd,zd,zd,zd,zd⟩
theorem yr3 (N:Nat) (p n:Int) (hN:N%10≠0) (h0:(ymf N p n).1≠0):
  yi (ymf N p n).1<=yi N+1/\p+yi N<=(ymf N p n).2+yi (ymf N p n).1/\(ymf N p n).2+yi (ymf N p n).1<=p+yi N+1:=by
 have hN0:N≠0:=by intro e;rw[e]at hN;simp at hN
 unfold ymf at h0 ⊢;by_cases h:0<=n/\n<yi N
 ·rw[if_pos h]at h0 ⊢;dsimp only at h0 ⊢;obtain⟨k,rfl⟩:∃ k:Nat,n=(k:Int):=⟨n.toNat,zd⟩;rw[Int.toNat_natCast]at h0 ⊢;obtain⟨L,hL⟩:=zX (yi N);have h1:=qh hN0;have h2:=xi N;rw[hL]at h h0 h1 h2 ⊢;have hk:k<L:=zd;have pp:0<10^(L-k):=Nat.pow_pos zd;have hq:N / 10^(L-k)<10^k:=by
   rw[Nat.div_lt_iff_lt_mul pp,<-Nat.pow_add,show k+(L-k)=L by omega];exact h2
  have hup:yoi N (L-k)<=10^k:=by unfold yoi;split <;> omega
  have hlow:1<=k->10^(k-1)<=yoi N (L-k):=by
   intro hk1;have:10^(k-1)<=N / 10^(L-k):=by
    rw[Nat.le_div_iff_mul_le pp,<-Nat.pow_add,show k-1+(L-k)=L-1 by omega];exact h1
   unfold yoi;omega
  have hu:yi (yoi N (L-k))<=k+1:=by
   have h5:=qh h0;have h6:=(Nat.pow_le_pow_iff_right (by omega:1<10)).1 (Nat.le_trans h5 hup);omega
  have hl:k<=yi (yoi N (L-k)):=by
   rcases Nat.eq_zero_or_pos k with h | h
   ·omega
   ·have h5:=xi (yoi N (L-k));have h6:=(Nat.pow_lt_pow_iff_right (by omega:1<10)).1 (Nat.lt_of_le_of_lt (hlow h) h5);omega
  omega
 ·rw[if_neg h];dsimp only;omega
theorem yoj (m:Nat) (e prec f:Int) (hm0:m≠0) (hm:m<2^53) (he1:-1074<=e) (he2:e<=971):
  ∃ ds dp,ym4 (ykl m e prec f) prec=⟨ds,dp,prec,false⟩/\ds.length<=800/\-900<=dp/\dp<=900/\(ds=[]->dp=0)/\
   ∀ (w:World) (g:Nat) (ng:Bool),DecV w g (ykl m e prec f).1 (ykl m e prec f).2 ng->∃ bs,bs.take ds.length=ds/\Dec w g bs (ds.length:Nat) dp ng false:=by
 obtain⟨h1,h2,h3,h4,h5,h6⟩:=yl0 m e hm0 hm he1 he2;unfold ym4;by_cases h0:(ykl m e prec f).1=0
 ·rw[if_pos h0];refine⟨[],0,rfl,zi,zd,zd,fun _=>rfl,fun w g ng hd=>?_⟩;obtain⟨bs,hb⟩:=hd.zero h0;exact⟨bs,zi,hb⟩
 ·rw[if_neg h0];have h7:=yr3 (kf m e).1 (kf m e).2 _ h1 h0;have h8:=znx (ykl m e prec f).1 h0;have h9:=yfr (zpc (ykl m e prec f).1 h0);refine⟨_,_,rfl,?_,?_,?_,fun hh=>?_,fun w g ng hd=>?_⟩
  ·rw[va];unfold ykl at *;omega
  ·unfold ykl at *;omega
  ·unfold ykl at *;omega
  ·have:=congrArg List.length hh;rw[va]at this;simp at this;omega
  ·obtain⟨_,bs,hb,hdd⟩:=hd.pos h0;rw[va];exact⟨bs,hb,hdd⟩
theorem yqw (v k n:Nat) (h0:v≠0) (hv:yi v=n):yi (v*10^k)=n+k:=by
 induction k with
 | zero=>simpa using hv
 | succ k ih=>
  rw[Nat.pow_succ,<-Nat.mul_assoc,za3 (Nat.mul_ne_zero h0 (Nat.ne_of_gt (Nat.pow_pos zd))),ih];omega
theorem ym7 {a k:Nat} (h:a<10^k):yi a<=k:=by
 by_cases h0:a=0
 ·subst h0;rw[kw];omega
 ·have h2:=qh h0;have h3:=(Nat.pow_lt_pow_iff_right (by omega:1<10)).1 (Nat.lt_of_le_of_lt h2 h);omega
end Go.Proofs.YtgfjdeddghbjcaaGreatDoor
