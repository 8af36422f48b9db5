/- Lemmas that the claim's top text leans on. No condition of their own. -/
import Derived.Test.YtoacbkokkkpofaaGreatDoorK02
import Derived.Test.YtoacbkokkkpofaaGreatDoorKS
import Derived.WalkLawsBesides
import Derived.BigQuiet
namespace Go.Proofs.YtoacbkokkkpofaaGreatDoor
open Go.RowKit
set_option linter.unusedSimpArgs false
set_option linter.unusedVariables false
set_option maxHeartbeats 16000000
theorem zfj (x:Int) (w:World) (h1:-10000<=x) (h2:x<=10000):
  Calls Tryz.prog 113 #[.int .i64 x] w fun e w'=>e=.returned (.int .i64 (x*108853 / 32768))/\w'=w:=by
 go_enter Tryz.func113,Tryz.ntmps113;go_wp2;go_ret;exact⟨rfl,rfl⟩
theorem zhb (x r:Int) (w:World) (h1:-10000<=x) (h2:x<=10000) (hr:r=x*108853 / 32768):
  Calls Tryz.prog 113 #[.int .i64 x] w fun e w'=>e=.returned (.int .i64 r)/\w=w':=by
 subst hr;exact (zfj x w h1 h2).mono fun _ _ ⟨h,k⟩=>⟨h,k.symm⟩
def uv (u:Nat):Nat:=(u+1+u / 4%2)%18446744073709551616 / 4
theorem zm8 (u:Nat) (w:World) (h:u<18446744073709551616):
  Calls Tryz.prog 119 #[.int .u64 u] w fun e w'=>e=.returned (.int .u64 (uv u:Nat))/\w'=w:=by
 have e1:IntKind.u64.wrap ((u:Int)+1)=(((u+1)%18446744073709551616:Nat):Int):=zl;have e2:bits .and .u64 ((u:Int) / 4) 1=((u / 4%2:Nat):Int):=by
  have:=zjg (u / 4) zd;rw[<-this];rfl
 have e3:IntKind.u64.wrap ((((u+1)%18446744073709551616:Nat):Int)+((u / 4%2:Nat):Int))=(((u+1+u / 4%2)%18446744073709551616:Nat):Int):=zl;unfold uv;generalize (u+1)%18446744073709551616=k at *
 generalize (u+1+u / 4%2)%18446744073709551616=k2 at *
 generalize u / 4%2=k3 at *
 go_enter Tryz.func119,Tryz.ntmps119;go_wp2;go_ret;exact⟨rfl,rfl⟩
theorem zmh (u:Nat) (w:World) (h:1<=u) (h1:u<4611686018427387904):
  Calls Tryz.prog 117 #[.int .u64 u] w fun e w'=>e=.returned (.int .u64 ((u*4-2:Nat):Int))/\w'=w:=by
 have e1:((u:Int)*4-2)=((u*4-2:Nat):Int):=zd;go_enter Tryz.func117,Tryz.ntmps117;go_wp2;go_ret;exact⟨rfl,rfl⟩
theorem zes (b:Bool) (w:World):
  Calls Tryz.prog 116 #[.bool b] w fun e w'=>e=.returned (.int .i64 (b2n b:Nat))/\w'=w:=by
 cases b <;> (
  go_enter Tryz.func116,Tryz.ntmps116;go_wp2;go_ret;exact⟨rfl,rfl⟩)
theorem zbc (b:Bool) (w:World):
  Calls Tryz.prog 100 #[.bool b] w fun e w'=>e=.returned (.int .u64 (b2n b:Nat))/\w'=w:=by
 cases b <;> (
  go_enter Tryz.func100,Tryz.ntmps100;go_wp2;go_ret;exact⟨rfl,rfl⟩)
theorem zgx (T b:Nat) (x p lp:Int) (c0 c1 c2:Value) (w:World) (he:Env T w) (hb:T<=b) (hr:Row w b [c0,c1,c2])
  (hp1:-348<=p) (hp2:p<=347) (hx1:-10000<=x) (hx2:x<=10000) (hl1:-10000<=lp) (hl2:lp<=10000):
  Calls Tryz.prog 114 #[.pointer (some ⟨b,0,none⟩),.int .i64 x,.int .i64 p,.int .i64 lp] w fun e w'=>
   e=.returned (.tuple #[])/\Row w' b [.int .u64 (zmc (p+348).toNat:Int),.int .u64 (zmb (p+348).toNat:Int),.int .i64 (-(x+lp+3))]/\w.grownBy w' (some b):=by
 obtain⟨i,hi⟩:∃ i:Nat,p=(i:Int)-348:=⟨(p+348).toNat,zd⟩;subst hi;have ei:((i:Int)-348+348).toNat=i:=zd;rw[ei];have hg:=he.glob;have hi:i<696:=zd;have t1:=(he.tab i hi).1;have t2:=(he.tab i hi).2;have e1:w.cell? ⟨b,0,none⟩=some c0:=zαp;have e2:w.cell? ⟨b,1,none⟩=some c1:=zαp;have e3:w.cell? ⟨b,2,none⟩=some c2:=zαp;have f1:=hr.frozen 0;have f2:=hr.frozen 1;have f3:=hr.frozen 2;have hne:¬b=9:=zd;have H:=zH hr;clear hr he ei;generalize zmc i=ph at *
 generalize zmb i=pl at *
 go_enter Tryz.func114,Tryz.ntmps114;go_wp2;go_end0;refine⟨rfl,?_,?_⟩
 ·have h1:=((H.out.setCell 0 (.int .u64 (ph:Int))).setCell 1 (.int .u64 (pl:Int))).setCell 2 (.int .i64 (-(x+lp+3)));exact h1
 ·exact yx (yx (wq w ⟨b,0,none⟩ _) (wq _ ⟨b,1,none⟩ _) (fun _ h _=>h)) (wq _ ⟨b,2,none⟩ _) (fun _ h _=>h)
def us (x hi lo s:Nat):Nat:=
 if (x*hi / 18446744073709551616) / 2^s*2^s≠x*hi / 18446744073709551616 then (x*hi / 18446744073709551616) / 2^s|||1
 else (x*hi / 18446744073709551616+18446744073709551616-b2n (decide (x*hi%18446744073709551616<x*lo / 18446744073709551616)))%18446744073709551616 / 2^s |||
  b2n (decide (1<(x*hi%18446744073709551616+18446744073709551616-x*lo / 18446744073709551616)%18446744073709551616))
theorem yan (x hi lo s:Nat) (hx:x<18446744073709551616) (hhi:hi<18446744073709551616):us x hi lo s<18446744073709551616:=by
 have bh:x*hi / 18446744073709551616<18446744073709551616:=by
  have:x*hi<18446744073709551616*18446744073709551616:=Nat.mul_lt_mul'' hx hhi;omega
 have h1:us x hi lo s<2^64:=by
  unfold us;generalize x*hi / 18446744073709551616=h at *
  split
  ·exact Nat.or_lt_two_pow (Nat.lt_of_le_of_lt (Nat.div_le_self _ _) zd) zd
  ·have:=zpq (decide (1<(x*hi%18446744073709551616+18446744073709551616-x*lo / 18446744073709551616)%18446744073709551616));exact Nat.or_lt_two_pow (Nat.lt_of_le_of_lt (Nat.div_le_self _ _) zd) zd
 omega
theorem zkz (x hi lo:Nat) (s:Nat) (b o:Nat) (w:World) (hx:x<18446744073709551616) (hhi:hi<18446744073709551616) (hlo:lo<18446744073709551616)
  (hs:s<64) (c0:w.cell? ⟨b,o,none⟩=some (.int .u64 hi)) (c1:w.cell? ⟨b,o+1,none⟩=some (.int .u64 lo)) (c2:w.cell? ⟨b,o+2,none⟩=some (.int .i64 s)):
  Calls Tryz.prog 115 #[.int .u64 x,.pointer (some ⟨b,o,none⟩)] w fun e w'=>e=.returned (.int .u64 (us x hi lo s:Nat))/\∃ n,w'=w.drewN n:=by
 have hand:bits .and .i64 (s:Int) 63=(s:Int):=by rw[zoh];omega
 have bh:x*hi / 18446744073709551616<18446744073709551616:=by
  have:x*hi<18446744073709551616*18446744073709551616:=Nat.mul_lt_mul'' hx hhi;omega
 have bm:x*hi%18446744073709551616<18446744073709551616:=zd;have bm2:x*lo / 18446744073709551616<18446744073709551616:=by
  have:x*lo<18446744073709551616*18446744073709551616:=Nat.mul_lt_mul'' hx hlo;omega
 have M1:=Tryz.bits_Mul64 x hi hx hhi;have M2:=Tryz.bits_Mul64 x lo hx hlo;unfold us;revert M1 M2;generalize x*hi / 18446744073709551616=h at *
 generalize x*hi%18446744073709551616=m at *
 generalize x*lo / 18446744073709551616=m2 at *
 generalize x*lo%18446744073709551616=m3 at *
 intro M1 M2;have H1:=zH M1;have H2:=zH M2;clear M1 M2;have bq:h / 2^s*2^s<=h:=Nat.div_mul_le_self _ _;have bq2:h / 2^s<18446744073709551616:=Nat.lt_of_le_of_lt (Nat.div_le_self _ _) bh;have ee:(h:Int) / 2^s*2^s=((h / 2^s*2^s:Nat):Int):=zi;have wr:IntKind.u64.wrap ((h:Int) / 2^s*2^s)=(h:Int) / 2^s*2^s:=by
  rw[ee,IntKind.wrap_u64];omega
 by_cases hc:h / 2^s*2^s=h
 ·rw[if_neg (by simp[hc])];have hb:(((h:Int) / 2^s*2^s) != (h:Int))=false:=by
   rw[ee,hc];simp
  clear hc bq bq2 ee;have hle:=zpq (decide (m<m2));have B2:=zbc (decide (m<m2));generalize b2n (decide (m<m2))=c at *
  have wr2:IntKind.u64.wrap ((h:Int)-c)=(((h+18446744073709551616-c)%18446744073709551616:Nat):Int):=by
   rw[IntKind.wrap_u64];omega
  have wr3:IntKind.u64.wrap ((m:Int)-m2)=(((m+18446744073709551616-m2)%18446744073709551616:Nat):Int):=by
   rw[IntKind.wrap_u64];omega
  have b4:(h+18446744073709551616-c)%18446744073709551616<18446744073709551616:=zd;generalize (h+18446744073709551616-c)%18446744073709551616=h' at *
  generalize (m+18446744073709551616-m2)%18446744073709551616=m' at *
  have b5:h' / 2^s<18446744073709551616:=Nat.lt_of_le_of_lt (Nat.div_le_self _ _) b4;have hd:decide (1<(m':Int))=decide (1<m'):=by
   rw[decide_eq_decide];omega
  have B3:=zbc (decide (1<m'));have hle3:=zpq (decide (1<m'));rw[<-hd]at *
  generalize b2n (decide (1<(m':Int)))=c3 at *
  have hor:bits .or .u64 ((h':Int) / 2^s) (c3:Nat)=((h' / 2^s|||c3:Nat):Int):=by
   have e:=u64_or_nat (h' / 2^s) c3 b5 zd;rw[<-e];simp
  clear hd;have HB2:=zH B2;have HB3:=zH B3;clear B2 B3;go_enter Tryz.func115,Tryz.ntmps115;go_wp2_with fail;refine (H1.out _).mono ?_;rintro e w' ⟨rfl,rfl⟩;go_wp2_with fail;refine (H2.out _).mono ?_;rintro e w' ⟨rfl,rfl⟩;go_wp2_with fail;refine (HB2.out _).mono ?_;rintro e w' ⟨rfl,rfl⟩;go_wp2_with fail;go_quiet ((go_at_call 100;exact Calls.quiet_of_same (HB3.out _)));go_wp2_with fail;go_ret;exact⟨rfl,_,rfl⟩
 ·rw[if_pos hc];have hb:(((h:Int) / 2^s*2^s) != (h:Int))=true:=by
   rw[ee];simp only[bne_iff_ne,ne_eq];omega
  have hor:bits .or .u64 ((h:Int) / 2^s) 1=((h / 2^s|||1:Nat):Int):=by
   have e:=u64_or_nat (h / 2^s) 1 bq2 zd;rw[<-e];simp
  clear hc bq bq2 ee;go_enter Tryz.func115,Tryz.ntmps115;go_wp2_with fail;refine (H1.out _).mono ?_;rintro e w' ⟨rfl,rfl⟩;go_wp2_with fail;go_ret;exact⟨rfl,0,rfl⟩
theorem zky (x hi lo s:Nat) (r:Nat) (b:Nat) (si:Int) (w:World) (hx:x<18446744073709551616) (hhi:hi<18446744073709551616) (hlo:lo<18446744073709551616)
  (hs:s<64) (hsi:si=(s:Int)) (hr:Row w b [.int .u64 (hi:Int),.int .u64 (lo:Int),.int .i64 si]) (hu:us x hi lo s=r):
  Calls Tryz.prog 115 #[.int .u64 x,.pointer (some ⟨b,0,none⟩)] w fun e w'=>e=.returned (.int .u64 (r:Int))/\w.grownBy w' none:=by
 subst hu hsi;refine (zkz x hi lo s b 0 w hx hhi hlo hs zαp zαp zαp).mono ?_;rintro e w' ⟨rfl,n,rfl⟩;exact⟨rfl,yh w n none⟩
theorem zjv (u r:Nat) (w:World) (h:u<18446744073709551616) (hr:uv u=r):
  Calls Tryz.prog 119 #[.int .u64 u] w fun e w'=>e=.returned (.int .u64 (r:Int))/\w=w':=by
 subst hr;exact (zm8 u w h).mono fun _ _ ⟨h,k⟩=>⟨h,k.symm⟩
def usE (x:Nat) (e p:Int):Nat:=us x (zmc (p+348).toNat) (zmb (p+348).toNat) (-(e+p*108853 / 32768+3)).toNat
theorem zku (k:Nat) (h:k<18446744073709551616):IntKind.u64.wrap (k:Int)=(k:Int):=by rw[IntKind.wrap_u64];omega
def zcj (A B:Nat):Nat:=A / B|||b2n (decide (A%B≠0))
theorem zge {A B k:Nat} (h1:k*B<A) (h2:A<(k+1)*B):zcj A B=k|||1:=by
 have hd:A / B=k:=Nat.div_eq_of_lt_le (Nat.le_of_lt h1) h2;have hm:A%B≠0:=by
  intro h0;have:=Nat.div_add_mod A B;rw[hd,h0,Nat.mul_comm]at this;omega
 unfold zcj;rw[hd];simp[hm,b2n]
theorem zp4 (k B:Nat) (hB:0<B):zcj (k*B) B=k:=by
 unfold zcj;rw[Nat.mul_div_cancel _ hB,Nat.mul_mod_left];simp[b2n]
theorem zd6 (A B c:Nat) (hc:0<c):zcj (A*c) (B*c)=zcj A B:=by
 unfold zcj;rw[Nat.mul_div_mul_right _ _ hc,Nat.mul_mod_mul_right];have:decide (A%B*c≠0)=decide (A%B≠0):=by
  rw[decide_eq_decide];constructor
  ·intro h h0;exact h (by rw[h0,Nat.zero_mul])
  ·intro h h0;rcases Nat.mul_eq_zero.1 h0 with h1 | h1
   ·exact h h1
   ·omega
 rw[this]
theorem zd7 {A B C D:Nat} (hB:0<B) (hD:0<D) (h:A*D=C*B):zcj A B=zcj C D:=by
 rw[<-zd6 A B D hD,h,<-zd6 C D B hB,Nat.mul_comm B D]
theorem zvl (x hi lo s pm gn gd:Nat) (hx:x<18446744073709551616) (hx0:0<x) (hhi:hi<18446744073709551616) (hlo:lo<18446744073709551616) (hpm:pm+lo=hi*18446744073709551616)
  (hgd:0<gd) (h1:gn<=pm*gd) (h2:pm*gd<gn+gd)
  (cert:∀ Z:Nat,Z*2^(128+s)<=x*pm+18446744073709551616->x*pm<=Z*2^(128+s)+18446744073709551616->x*gn=Z*2^(128+s)*gd):
  us x hi lo s=zcj (x*gn) (gd*2^(128+s)):=by
 have hS:(2:Nat)^(128+s)=340282366920938463463374607431768211456*2^s:=by rw[Nat.pow_add]
 have hS0:0<2^s:=Nat.two_pow_pos s;have f1:x*gn<=x*pm*gd:=by rw[Nat.mul_assoc];exact Nat.mul_le_mul_left _ h1
 have f2:x*pm*gd<x*gn+x*gd:=by rw[Nat.mul_assoc,<-Nat.mul_add];exact Nat.mul_lt_mul_of_pos_left h2 hx0
 have f3:x*pm+x*lo=x*hi*18446744073709551616:=by rw[<-Nat.mul_add,hpm,Nat.mul_assoc]
 have f4:x*lo<=18446744073709551615*18446744073709551615:=Nat.mul_le_mul zd zd;have f5:x*hi<=18446744073709551615*18446744073709551615:=Nat.mul_le_mul zd zd;have f6:x*lo+x<=18446744073709551616*18446744073709551615:=by
  have:x*lo+x=x*(lo+1):=by rw[Nat.mul_add,Nat.mul_one]
  rw[this,Nat.mul_comm];exact Nat.mul_le_mul zd zd
 have low:∀ K:Nat,K*340282366920938463463374607431768211456+x<=x*pm->K*340282366920938463463374607431768211456*gd<x*gn:=by
  intro K hK;have h3:=Nat.mul_le_mul_right gd hK;rw[Nat.add_mul]at h3;omega
 have upp:∀ K:Nat,x*pm<K*340282366920938463463374607431768211456->x*gn<K*340282366920938463463374607431768211456*gd:=by
  intro K hK;exact Nat.lt_of_le_of_lt f1 (Nat.mul_lt_mul_of_pos_right hK hgd)
 have e1:∀ k:Nat,k*(gd*(340282366920938463463374607431768211456*2^s))=k*2^s*340282366920938463463374607431768211456*gd:=by
  intro k;generalize 2^s=S;rw[Nat.mul_comm gd,Nat.mul_comm _ S,<-Nat.mul_assoc,<-Nat.mul_assoc]
 have fin:∀ k:Nat,k*2^s*340282366920938463463374607431768211456+x<=x*pm->x*pm<(k+1)*2^s*340282366920938463463374607431768211456->zcj (x*gn) (gd*2^(128+s))=k|||1:=by
  intro k g1 g2;refine zge ?_ ?_
  ·rw[hS,e1];exact low _ g1
  ·rw[hS,e1];exact upp _ g2
 have q1:=Nat.div_add_mod (x*hi) 18446744073709551616;have q2:=Nat.div_add_mod (x*lo) 18446744073709551616;have b1:x*hi%18446744073709551616<18446744073709551616:=Nat.mod_lt _ zd;have b2:x*lo%18446744073709551616<18446744073709551616:=Nat.mod_lt _ zd;have b3:x*hi / 18446744073709551616<18446744073709551616:=zd;have b4:x*lo / 18446744073709551616<=18446744073709551614:=zd;unfold us;generalize x*hi / 18446744073709551616=h at *
 generalize x*hi%18446744073709551616=m at *
 generalize x*lo / 18446744073709551616=m2 at *
 generalize x*lo%18446744073709551616=r3 at *
 have k1:=Nat.div_add_mod h (2^s);have k2:h%2^s<2^s:=Nat.mod_lt _ hS0;rw[Nat.mul_comm]at k1;by_cases hc:h / 2^s*2^s=h
 ·rw[if_neg (by simp[hc])];by_cases hm:m<m2
  ·have ht:(m+18446744073709551616-m2)%18446744073709551616=m+18446744073709551616-m2:=zd;rw[ht];have hd1:decide (1<m+18446744073709551616-m2)=true:=zh;have hh:1<=h:=zd;have hd2:(h+18446744073709551616-b2n (decide (m<m2)))%18446744073709551616=h-1:=by
    have hb:b2n (decide (m<m2))=1:=by simp[hm,b2n]
    rw[hb];omega
   rw[hd1,hd2];have hz:1<=h / 2^s:=by
    rcases Nat.eq_zero_or_pos (h / 2^s) with h0 | h0
    ·rw[h0,Nat.zero_mul]at hc;omega
    ·exact h0
   have hk:(h-1) / 2^s=h / 2^s-1:=by
    refine Nat.div_eq_of_lt_le ?_ ?_
    ·rw[Nat.sub_mul,hc,Nat.one_mul];omega
    ·rw[Nat.sub_add_cancel hz,hc];omega
   rw[fin (h / 2^s-1) (by rw[Nat.sub_mul,hc,Nat.one_mul];omega) (by rw[Nat.sub_add_cancel hz,hc];omega),hk];simp[b2n]
  ·have hd2:(h+18446744073709551616-b2n (decide (m<m2)))%18446744073709551616=h:=by
    have hb:b2n (decide (m<m2))=0:=by simp[hm,b2n]
    rw[hb];omega
   have ht:(m+18446744073709551616-m2)%18446744073709551616=m-m2:=zd;rw[hd2,ht];by_cases h3:1<m-m2
   ·rw[fin (h / 2^s) (by rw[hc];omega) (by rw[Nat.add_mul,hc,Nat.one_mul];omega)];simp[h3,b2n]
   ·have hZ:h / 2^s*2^(128+s)=h*340282366920938463463374607431768211456:=by
     rw[hS,Nat.mul_comm 340282366920938463463374607431768211456,<-Nat.mul_assoc,hc]
    have:=cert (h / 2^s) (by rw[hZ];omega) (by rw[hZ];omega);rw[this,show h / 2^s*2^(128+s)*gd=h / 2^s*(gd*2^(128+s)) by rw[Nat.mul_assoc,Nat.mul_comm gd],zp4 _ _ (Nat.mul_pos hgd (Nat.two_pow_pos _))];simp[h3,b2n]
 ·rw[if_pos hc];rw[fin (h / 2^s) zd (by rw[Nat.add_mul,Nat.one_mul];omega)]
theorem znt (P M q z Y y Z:Nat) (hM:0<M) (hy:y<=Y)
  (hc:q*18446744073709551616+Y*(if z*M<=q*P then q*P-z*M else z*M-q*P)<M)
  (g1:Z*M<=y*P+18446744073709551616) (g2:y*P<=Z*M+18446744073709551616):y*z=q*Z/\((q:Int)*((y:Int)*P-Z*M)=y*((q:Int)*P-z*M)):=by
 have hr:∃ r:Int,(q:Int)*P-z*M=r/\((r.natAbs:Nat)=if z*M<=q*P then q*P-z*M else z*M-q*P):=by
  refine⟨_,rfl,?_⟩;rw[<-Int.natCast_mul,<-Int.natCast_mul];generalize q*P=a;generalize z*M=b;split <;> omega
 obtain⟨r,hr1,hr2⟩:=hr;rw[<-hr2]at hc;have hw:∃ v:Int,(y:Int)*P-Z*M=v/\v.natAbs<=18446744073709551616:=by
  refine⟨_,rfl,?_⟩;rw[<-Int.natCast_mul,<-Int.natCast_mul];generalize y*P=a at *
  generalize Z*M=b at *
  omega
 obtain⟨v,hv1,hv2⟩:=hw;have key:(q:Int)*v-y*r=((y:Int)*z-q*Z)*M:=by rw[<-hv1,<-hr1];grind
 have n1:((q:Int)*v).natAbs<=q*18446744073709551616:=by
  rw[Int.natAbs_mul,Int.natAbs_natCast];exact Nat.mul_le_mul_left _ hv2
 have n2:((y:Int)*r).natAbs<=Y*r.natAbs:=by
  rw[Int.natAbs_mul,Int.natAbs_natCast];exact Nat.mul_le_mul_right _ hy
 have n3:(((y:Int)*z-q*Z)*M).natAbs<M:=by
  rw[<-key];generalize (q:Int)*v=a at *
  generalize (y:Int)*r=b at *
  omega
 have n4:(y:Int)*z-q*Z=0:=by
  rw[Int.natAbs_mul,Int.natAbs_natCast]at n3;rcases Nat.eq_zero_or_pos ((y:Int)*z-q*Z).natAbs with h | h
  ·omega
  ·have:=Nat.mul_le_mul_right M h;omega
 refine⟨?_,?_⟩
 ·have:(y:Int)*z=q*Z:=zd;exact_mod_cast this
 ·rw[hv1,hr1];rw[n4,Int.zero_mul]at key;omega
def zb1 (j s Y y0 gn gd pm q:Nat):Bool:=
  (pm%36893488147419103232==0&&gn==pm*gd) ||
  (let M:=2^(128+s)
   let P:=pm*2^j
   let z:=(2*(q*P)+M) / (2*M)
   let r:=if z*M<=q*P then q*P-z*M else z*M-q*P
   decide (0<q)&&decide (q*18446744073709551616+Y*r<M)&&(decide (18446744073709551616*q<r*y0) || (decide (18446744073709551616<r)&&Nat.gcd q z==1) || q*(gn*2^j)==z*M*gd))
theorem zhp (j s Y y0 gn gd pm q y s1:Nat) (h:zb1 j s Y y0 gn gd pm q=true) (hs:s<=s1) (hy:y<=Y) (hy0:y0<=y) (h0:0<y) (Z:Nat)
  (g1:Z*2^(128+s1)<=y*2^j*pm+18446744073709551616) (g2:y*2^j*pm<=Z*2^(128+s1)+18446744073709551616):y*2^j*gn=Z*2^(128+s1)*gd:=by
 have hsp:Z*2^(128+s1)=Z*2^(s1-s)*2^(128+s):=by
  rw[Nat.mul_assoc,<-Nat.pow_add,show s1-s+(128+s)=128+s1 by omega]
 rw[hsp]at g1 g2 ⊢;generalize Z*2^(s1-s)=Z at *
 have hyj:∀ a,y*2^j*a=y*(a*2^j):=fun a=>by rw[Nat.mul_assoc,Nat.mul_comm (2^j)]
 rw[hyj]at g1 g2 ⊢;unfold zb1 at h;rw[Bool.or_eq_true]at h;rcases h with h | h
 ·simp only[Bool.and_eq_true,beq_iff_eq]at h;obtain⟨ha,hb⟩:=h;obtain⟨u,hu⟩:∃ u,pm=u*36893488147419103232:=⟨pm / 36893488147419103232,zd⟩;have hq:(2:Nat)^(128+s)=9223372036854775808*2^s*36893488147419103232:=by
   rw[Nat.pow_add,Nat.mul_right_comm]
  have e:y*(pm*2^j)=y*(u*2^j)*36893488147419103232:=by
   rw[hu,Nat.mul_right_comm u,Nat.mul_assoc y]
  have e2:Z*2^(128+s)=Z*(9223372036854775808*2^s)*36893488147419103232:=by rw[hq,Nat.mul_assoc Z]
  rw[e,e2]at g1 g2;have:y*(pm*2^j)=Z*2^(128+s):=by
   rw[e,e2];generalize y*(u*2^j)=a at *
   generalize Z*(9223372036854775808*2^s)=b at *
   omega
  rw[hb,<-this,Nat.mul_right_comm pm,Nat.mul_assoc y]
 ·dsimp only at h;generalize hM:2^(128+s)=M at *
  have hM0:0<M:=by rw[<-hM];exact Nat.two_pow_pos _
  generalize hP:pm*2^j=P at *
  generalize hz:(2*(q*P)+M) / (2*M)=z at *
  simp only[Bool.and_eq_true,Bool.or_eq_true,decide_eq_true_eq,beq_iff_eq]at h;obtain⟨⟨hq0,hc⟩,h⟩:=h;obtain⟨k1,k2⟩:=znt P M q z Y y Z hM0 hy hc g1 g2;have hr:(((q:Int)*P-z*M).natAbs:Nat)=if z*M<=q*P then q*P-z*M else z*M-q*P:=by
   rw[<-Int.natCast_mul,<-Int.natCast_mul];generalize q*P=a;generalize z*M=b;split <;> omega
  have hv:((y:Int)*P-Z*M).natAbs<=18446744073709551616:=by
   rw[<-Int.natCast_mul,<-Int.natCast_mul];generalize y*P=a at *
   generalize Z*M=b at *
   omega
  rw[<-hr]at h;have k3:=congrArg Int.natAbs k2;rw[Int.natAbs_mul,Int.natAbs_mul,Int.natAbs_natCast,Int.natAbs_natCast]at k3;generalize ((y:Int)*P-Z*M).natAbs=v at *
  generalize ((q:Int)*P-z*M).natAbs=r at *
  rcases h with (h | h) | h
  ·exfalso;have a1:=Nat.mul_le_mul_left q hv;have a2:=Nat.mul_le_mul_right r hy0;rw[Nat.mul_comm y0]at a2;rw[Nat.mul_comm q]at a1;rw[Nat.mul_comm q]at k3;omega
  ·exfalso;have d1:q∣y:=by
    refine Nat.Coprime.dvd_of_dvd_mul_right (n:=z) (k:=q) (m:=y) h.2 ⟨Z,k1⟩
   obtain⟨k,rfl⟩:=d1;rw[Nat.mul_assoc]at k3;have k4:=Nat.eq_of_mul_eq_mul_left hq0 k3;have hk:1<=k:=by
    rcases Nat.eq_zero_or_pos k with h' | h'
    ·rw[h',Nat.mul_zero]at h0;omega
    ·exact h'
   have:=Nat.mul_le_mul_right r hk;omega
  ·refine Nat.eq_of_mul_eq_mul_left hq0 ?_;rw[<-Nat.mul_assoc,Nat.mul_comm q y,Nat.mul_assoc,h,<-Nat.mul_assoc,<-Nat.mul_assoc,k1,<-Nat.mul_assoc,<-Nat.mul_assoc]
end Go.Proofs.YtoacbkokkkpofaaGreatDoor
