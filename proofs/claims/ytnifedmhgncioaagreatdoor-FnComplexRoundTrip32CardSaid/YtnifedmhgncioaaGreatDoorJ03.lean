/- Lemmas that the claim's top text leans on. No condition of their own. -/
import Derived.Test.YtnifedmhgncioaaGreatDoorJ02
import Derived.Test.YtnifedmhgncioaaGreatDoorJS
import Derived.WalkLawsBesides
import Derived.BigQuiet
namespace Go.Proofs.YtnifedmhgncioaaGreatDoor
open Go.RowKit
set_option linter.unusedSimpArgs false
set_option linter.unusedVariables false
set_option maxHeartbeats 16000000
theorem ym9 (x:Int) (w:World) (h1:-10000<=x) (h2:x<=10000):
  Calls Tryz.prog 97 #[.int .i64 x] w fun e w'=>e=.returned (.int .i64 (x*78913 / 262144))/\w'=w:=by
 go_enter Tryz.func97,Tryz.ntmps97;go_wp2;go_ret;exact⟨rfl,rfl⟩
theorem zfj (x:Int) (w:World) (h1:-10000<=x) (h2:x<=10000):
  Calls Tryz.prog 126 #[.int .i64 x] w fun e w'=>e=.returned (.int .i64 (x*108853 / 32768))/\w'=w:=by
 go_enter Tryz.func126,Tryz.ntmps126;go_wp2;go_ret;exact⟨rfl,rfl⟩
theorem yox (x:Int) (w:World) (h1:-10000<=x) (h2:x<=10000):
  Calls Tryz.prog 124 #[.int .i64 x] w fun e w'=>e=.returned (.int .i64 ((x*631305-261663) / 2097152))/\w'=w:=by
 go_enter Tryz.func124,Tryz.ntmps124;go_wp2;go_ret;exact⟨rfl,rfl⟩
theorem yke (x r:Int) (w:World) (h1:-10000<=x) (h2:x<=10000) (hr:r=x*78913 / 262144):
  Calls Tryz.prog 97 #[.int .i64 x] w fun e w'=>e=.returned (.int .i64 r)/\w=w':=by
 subst hr;exact (ym9 x w h1 h2).mono fun _ _ ⟨h,k⟩=>⟨h,k.symm⟩
theorem zhb (x r:Int) (w:World) (h1:-10000<=x) (h2:x<=10000) (hr:r=x*108853 / 32768):
  Calls Tryz.prog 126 #[.int .i64 x] w fun e w'=>e=.returned (.int .i64 r)/\w=w':=by
 subst hr;exact (zfj x w h1 h2).mono fun _ _ ⟨h,k⟩=>⟨h,k.symm⟩
theorem ype (x r:Int) (w:World) (h1:-10000<=x) (h2:x<=10000) (hr:r=(x*631305-261663) / 2097152):
  Calls Tryz.prog 124 #[.int .i64 x] w fun e w'=>e=.returned (.int .i64 r)/\w=w':=by
 subst hr;exact (yox x w h1 h2).mono fun _ _ ⟨h,k⟩=>⟨h,k.symm⟩
def ykw (u:Nat):Nat:=u / 4
def yll (u:Nat):Nat:=(u+3)%18446744073709551616 / 4
def yj4 (u:Nat):Nat:=(u+1+u / 4%2)%18446744073709551616 / 4
def yj6 (u:Nat) (d:Int):Nat:=(((u:Int)+d)%18446744073709551616).toNat
def yn4 (u d:Nat):Nat:=(u / d|||u%2)|||b2n (decide (u%d≠0))
theorem yp3 (u:Nat) (w:World) (h:u<18446744073709551616):
  Calls Tryz.prog 130 #[.int .u64 u] w fun e w'=>e=.returned (.int .u64 (ykw u:Nat))/\w'=w:=by
 go_enter Tryz.func130,Tryz.ntmps130;go_wp2;go_ret;exact⟨rfl,rfl⟩
theorem yre (u:Nat) (w:World) (h:u<18446744073709551616):
  Calls Tryz.prog 129 #[.int .u64 u] w fun e w'=>e=.returned (.int .u64 (yll u:Nat))/\w'=w:=by
 have e1:IntKind.u64.wrap ((u:Int)+3)=(((u+3)%18446744073709551616:Nat):Int):=zl;unfold yll;generalize (u+3)%18446744073709551616=k at *
 go_enter Tryz.func129,Tryz.ntmps129;go_wp2;go_ret;exact⟨rfl,rfl⟩
theorem zm8 (u:Nat) (w:World) (h:u<18446744073709551616):
  Calls Tryz.prog 131 #[.int .u64 u] w fun e w'=>e=.returned (.int .u64 (yj4 u:Nat))/\w'=w:=by
 have e1:IntKind.u64.wrap ((u:Int)+1)=(((u+1)%18446744073709551616:Nat):Int):=zl;have e2:bits .and .u64 ((u:Int) / 4) 1=((u / 4%2:Nat):Int):=by
  have:=zjg (u / 4) zd;rw[<-this];rfl
 have e3:IntKind.u64.wrap ((((u+1)%18446744073709551616:Nat):Int)+((u / 4%2:Nat):Int))=(((u+1+u / 4%2)%18446744073709551616:Nat):Int):=zl;unfold yj4;generalize (u+1)%18446744073709551616=k at *
 generalize (u+1+u / 4%2)%18446744073709551616=k2 at *
 generalize u / 4%2=k3 at *
 go_enter Tryz.func131,Tryz.ntmps131;go_wp2;go_ret;exact⟨rfl,rfl⟩
theorem ypo (u:Nat) (d:Int) (w:World) (h:u<18446744073709551616) (h1:-9223372036854775808<=d) (h2:d<=9223372036854775807):
  Calls Tryz.prog 128 #[.int .u64 u,.int .i64 d] w fun e w'=>e=.returned (.int .u64 (yj6 u d:Nat))/\w'=w:=by
 have e1:IntKind.u64.wrap ((u:Int)+IntKind.u64.wrap d)=(yj6 u d:Nat):=by
  unfold yj6;rw[IntKind.wrap_u64,IntKind.wrap_u64];omega
 generalize yj6 u d=k at *
 go_enter Tryz.func128,Tryz.ntmps128;go_wp2;go_ret;exact⟨rfl,rfl⟩
theorem zmh (u:Nat) (w:World) (h:1<=u) (h1:u<4611686018427387904):
  Calls Tryz.prog 134 #[.int .u64 u] w fun e w'=>e=.returned (.int .u64 ((u*4-2:Nat):Int))/\w'=w:=by
 have e1:((u:Int)*4-2)=((u*4-2:Nat):Int):=zd;go_enter Tryz.func134,Tryz.ntmps134;go_wp2;go_ret;exact⟨rfl,rfl⟩
theorem zes (b:Bool) (w:World):
  Calls Tryz.prog 133 #[.bool b] w fun e w'=>e=.returned (.int .i64 (b2n b:Nat))/\w'=w:=by
 cases b <;> (
  go_enter Tryz.func133,Tryz.ntmps133;go_wp2;go_ret;exact⟨rfl,rfl⟩)
theorem zbc (b:Bool) (w:World):
  Calls Tryz.prog 116 #[.bool b] w fun e w'=>e=.returned (.int .u64 (b2n b:Nat))/\w'=w:=by
 cases b <;> (
  go_enter Tryz.func116,Tryz.ntmps116;go_wp2;go_ret;exact⟨rfl,rfl⟩)
theorem yo6 (b:Bool) (w:World):
  Calls Tryz.prog 153 #[.bool b] w fun e w'=>e=.returned (.int .u64 (b2n b:Nat))/\w'=w:=by
 cases b <;> (
  go_enter Tryz.func153,Tryz.ntmps153;go_wp2;go_ret;exact⟨rfl,rfl⟩)
theorem yso (u:Nat) (w:World) (h:u<18446744073709551616):
  Calls Tryz.prog 135 #[.int .u64 u,.int .u64 10] w fun e w'=>e=.returned (.int .u64 (yn4 u 10:Nat))/\∃ n,w'=w.drewN n:=by
 have e1:bits .and .u64 (u:Int) 1=((u%2:Nat):Int):=zjg u h;have e2:bits .or .u64 ((u:Int) / 10) ((u%2:Nat):Int)=((u / 10|||u%2:Nat):Int):=u64_or_nat (u / 10) (u%2) zd zd;have B:=yo6 (decide (u%10≠0));have hb:=zpq (decide (u%10≠0));have hd:(((u:Int)%10) != 0)=decide (u%10≠0):=by
  rw[Bool.eq_iff_iff];simp only[bne_iff_ne,decide_eq_true_eq];omega
 have e3:bits .or .u64 ((u / 10|||u%2:Nat):Int) ((b2n (decide (u%10≠0)):Nat):Int)=((yn4 u 10:Nat):Int):=
  u64_or_nat _ _ (by
   have:u / 10|||u%2<2^64:=Nat.or_lt_two_pow zd zd
   omega) zd
 generalize yn4 u 10=k3 at *
 generalize b2n (decide (u%10≠0))=c at *
 generalize decide (u%10≠0)=q at *
 generalize u / 10|||u%2=k at *
 generalize u%2=k2 at *
 have HB:=zH B;clear B;go_enter Tryz.func135,Tryz.ntmps135;go_wp2_with fail;go_quiet ((go_at_call 153;exact Calls.quiet_of_same (HB.out _)));go_wp2_with fail;go_ret;exact⟨rfl,_,rfl⟩
theorem zgx (T b:Nat) (x p lp:Int) (c0 c1 c2:Value) (w:World) (he:Env T w) (hb:T<=b) (hr:Row w b [c0,c1,c2])
  (hp1:-348<=p) (hp2:p<=347) (hx1:-10000<=x) (hx2:x<=10000) (hl1:-10000<=lp) (hl2:lp<=10000):
  Calls Tryz.prog 125 #[.pointer (some ⟨b,0,none⟩),.int .i64 x,.int .i64 p,.int .i64 lp] w fun e w'=>
   e=.returned (.tuple #[])/\Row w' b [.int .u64 (zmc (p+348).toNat:Int),.int .u64 (zmb (p+348).toNat:Int),.int .i64 (-(x+lp+3))]/\w.grownBy w' (some b):=by
 obtain⟨i,hi⟩:∃ i:Nat,p=(i:Int)-348:=⟨(p+348).toNat,zd⟩;subst hi;have ei:((i:Int)-348+348).toNat=i:=zd;rw[ei];have hg:=he.glob;have hi:i<696:=zd;have t1:=(he.tab i hi).1;have t2:=(he.tab i hi).2;have e1:w.cell? ⟨b,0,none⟩=some c0:=zαp;have e2:w.cell? ⟨b,1,none⟩=some c1:=zαp;have e3:w.cell? ⟨b,2,none⟩=some c2:=zαp;have f1:=hr.frozen 0;have f2:=hr.frozen 1;have f3:=hr.frozen 2;have hne:¬b=10:=zd;have H:=zH hr;clear hr he ei;generalize zmc i=ph at *
 generalize zmb i=pl at *
 go_enter Tryz.func125,Tryz.ntmps125;go_wp2;go_end0;refine⟨rfl,?_,?_⟩
 ·have h1:=((H.out.setCell 0 (.int .u64 (ph:Int))).setCell 1 (.int .u64 (pl:Int))).setCell 2 (.int .i64 (-(x+lp+3)));exact h1
 ·exact yx (yx (wq w ⟨b,0,none⟩ _) (wq _ ⟨b,1,none⟩ _) (fun _ h _=>h)) (wq _ ⟨b,2,none⟩ _) (fun _ h _=>h)
def us (x hi lo s:Nat):Nat:=
 if (x*hi / 18446744073709551616) / 2^s*2^s≠x*hi / 18446744073709551616 then (x*hi / 18446744073709551616) / 2^s|||1
 else (x*hi / 18446744073709551616+18446744073709551616-b2n (decide (x*hi%18446744073709551616<x*lo / 18446744073709551616)))%18446744073709551616 / 2^s |||
  b2n (decide (1<(x*hi%18446744073709551616+18446744073709551616-x*lo / 18446744073709551616)%18446744073709551616))
theorem yan (x hi lo s:Nat) (hx:x<18446744073709551616) (hhi:hi<18446744073709551616):us x hi lo s<18446744073709551616:=by
 have bh:x*hi / 18446744073709551616<18446744073709551616:=by
  have:x*hi<18446744073709551616*18446744073709551616:=Nat.mul_lt_mul'' hx hhi;omega
 have h1:us x hi lo s<2^64:=by
  unfold us;generalize x*hi / 18446744073709551616=h at *
  split
  ·exact Nat.or_lt_two_pow (Nat.lt_of_le_of_lt (Nat.div_le_self _ _) zd) zd
  ·have:=zpq (decide (1<(x*hi%18446744073709551616+18446744073709551616-x*lo / 18446744073709551616)%18446744073709551616));exact Nat.or_lt_two_pow (Nat.lt_of_le_of_lt (Nat.div_le_self _ _) zd) zd
 omega
theorem zkz (x hi lo:Nat) (s:Nat) (b o:Nat) (w:World) (hx:x<18446744073709551616) (hhi:hi<18446744073709551616) (hlo:lo<18446744073709551616)
  (hs:s<64) (c0:w.cell? ⟨b,o,none⟩=some (.int .u64 hi)) (c1:w.cell? ⟨b,o+1,none⟩=some (.int .u64 lo)) (c2:w.cell? ⟨b,o+2,none⟩=some (.int .i64 s)):
  Calls Tryz.prog 127 #[.int .u64 x,.pointer (some ⟨b,o,none⟩)] w fun e w'=>e=.returned (.int .u64 (us x hi lo s:Nat))/\∃ n,w'=w.drewN n:=by
 have hand:bits .and .i64 (s:Int) 63=(s:Int):=by rw[zoh];omega
 have bh:x*hi / 18446744073709551616<18446744073709551616:=by
  have:x*hi<18446744073709551616*18446744073709551616:=Nat.mul_lt_mul'' hx hhi;omega
 have bm:x*hi%18446744073709551616<18446744073709551616:=zd;have bm2:x*lo / 18446744073709551616<18446744073709551616:=by
  have:x*lo<18446744073709551616*18446744073709551616:=Nat.mul_lt_mul'' hx hlo;omega
 have M1:=Tryz.bits_Mul64 x hi hx hhi;have M2:=Tryz.bits_Mul64 x lo hx hlo;unfold us;revert M1 M2;generalize x*hi / 18446744073709551616=h at *
 generalize x*hi%18446744073709551616=m at *
 generalize x*lo / 18446744073709551616=m2 at *
 generalize x*lo%18446744073709551616=m3 at *
 intro M1 M2;have H1:=zH M1;have H2:=zH M2;clear M1 M2;have bq:h / 2^s*2^s<=h:=Nat.div_mul_le_self _ _;have bq2:h / 2^s<18446744073709551616:=Nat.lt_of_le_of_lt (Nat.div_le_self _ _) bh;have ee:(h:Int) / 2^s*2^s=((h / 2^s*2^s:Nat):Int):=zi;have wr:IntKind.u64.wrap ((h:Int) / 2^s*2^s)=(h:Int) / 2^s*2^s:=by
  rw[ee,IntKind.wrap_u64];omega
 by_cases hc:h / 2^s*2^s=h
 ·rw[if_neg (by simp[hc])];have hb:(((h:Int) / 2^s*2^s) != (h:Int))=false:=by
   rw[ee,hc];simp
  clear hc bq bq2 ee;have hle:=zpq (decide (m<m2));have B2:=zbc (decide (m<m2));generalize b2n (decide (m<m2))=c at *
  have wr2:IntKind.u64.wrap ((h:Int)-c)=(((h+18446744073709551616-c)%18446744073709551616:Nat):Int):=by
   rw[IntKind.wrap_u64];omega
  have wr3:IntKind.u64.wrap ((m:Int)-m2)=(((m+18446744073709551616-m2)%18446744073709551616:Nat):Int):=by
   rw[IntKind.wrap_u64];omega
  have b4:(h+18446744073709551616-c)%18446744073709551616<18446744073709551616:=zd;generalize (h+18446744073709551616-c)%18446744073709551616=h' at *
  generalize (m+18446744073709551616-m2)%18446744073709551616=m' at *
  have b5:h' / 2^s<18446744073709551616:=Nat.lt_of_le_of_lt (Nat.div_le_self _ _) b4;have hd:decide (1<(m':Int))=decide (1<m'):=by
   rw[decide_eq_decide];omega
  have B3:=zbc (decide (1<m'));have hle3:=zpq (decide (1<m'));rw[<-hd]at *
  generalize b2n (decide (1<(m':Int)))=c3 at *
  have hor:bits .or .u64 ((h':Int) / 2^s) (c3:Nat)=((h' / 2^s|||c3:Nat):Int):=by
   have e:=u64_or_nat (h' / 2^s) c3 b5 zd;rw[<-e];simp
  clear hd;have HB2:=zH B2;have HB3:=zH B3;clear B2 B3;go_enter Tryz.func127,Tryz.ntmps127;go_wp2_with fail;refine (H1.out _).mono ?_;rintro e w' ⟨rfl,rfl⟩;go_wp2_with fail;refine (H2.out _).mono ?_;rintro e w' ⟨rfl,rfl⟩;go_wp2_with fail;refine (HB2.out _).mono ?_;rintro e w' ⟨rfl,rfl⟩;go_wp2_with fail;go_quiet ((go_at_call 116;exact Calls.quiet_of_same (HB3.out _)));go_wp2_with fail;go_ret;exact⟨rfl,_,rfl⟩
 ·rw[if_pos hc];have hb:(((h:Int) / 2^s*2^s) != (h:Int))=true:=by
   rw[ee];simp only[bne_iff_ne,ne_eq];omega
  have hor:bits .or .u64 ((h:Int) / 2^s) 1=((h / 2^s|||1:Nat):Int):=by
   have e:=u64_or_nat (h / 2^s) 1 bq2 zd;rw[<-e];simp
  clear hc bq bq2 ee;go_enter Tryz.func127,Tryz.ntmps127;go_wp2_with fail;refine (H1.out _).mono ?_;rintro e w' ⟨rfl,rfl⟩;go_wp2_with fail;go_ret;exact⟨rfl,0,rfl⟩
theorem zky (x hi lo s:Nat) (r:Nat) (b:Nat) (si:Int) (w:World) (hx:x<18446744073709551616) (hhi:hi<18446744073709551616) (hlo:lo<18446744073709551616)
  (hs:s<64) (hsi:si=(s:Int)) (hr:Row w b [.int .u64 (hi:Int),.int .u64 (lo:Int),.int .i64 si]) (hu:us x hi lo s=r):
  Calls Tryz.prog 127 #[.int .u64 x,.pointer (some ⟨b,0,none⟩)] w fun e w'=>e=.returned (.int .u64 (r:Int))/\w.grownBy w' none:=by
 subst hu hsi;refine (zkz x hi lo s b 0 w hx hhi hlo hs zαp zαp zαp).mono ?_;rintro e w' ⟨rfl,n,rfl⟩;exact⟨rfl,yh w n none⟩
theorem yqc (u r:Nat) (w:World) (h:u<18446744073709551616) (hr:yn4 u 10=r):
  Calls Tryz.prog 135 #[.int .u64 u,.int .u64 10] w fun e w'=>e=.returned (.int .u64 (r:Int))/\w.grownBy w' none:=by
 subst hr;refine (yso u w h).mono ?_;rintro e w' ⟨rfl,n,rfl⟩;exact⟨rfl,yh w n none⟩
theorem zjv (u r:Nat) (w:World) (h:u<18446744073709551616) (hr:yj4 u=r):
  Calls Tryz.prog 131 #[.int .u64 u] w fun e w'=>e=.returned (.int .u64 (r:Int))/\w=w':=by
 subst hr;exact (zm8 u w h).mono fun _ _ ⟨h,k⟩=>⟨h,k.symm⟩
theorem yom (u r:Nat) (d:Int) (w:World) (h:u<18446744073709551616) (h1:-9223372036854775808<=d) (h2:d<=9223372036854775807) (hr:yj6 u d=r):
  Calls Tryz.prog 128 #[.int .u64 u,.int .i64 d] w fun e w'=>e=.returned (.int .u64 (r:Int))/\w=w':=by
 subst hr;exact (ypo u d w h h1 h2).mono fun _ _ ⟨h,k⟩=>⟨h,k.symm⟩
theorem ysq (u r:Nat) (w:World) (h:u<18446744073709551616) (hr:yll u=r):
  Calls Tryz.prog 129 #[.int .u64 u] w fun e w'=>e=.returned (.int .u64 (r:Int))/\w=w':=by
 subst hr;exact (yre u w h).mono fun _ _ ⟨h,k⟩=>⟨h,k.symm⟩
theorem yq4 (u r:Nat) (w:World) (h:u<18446744073709551616) (hr:ykw u=r):
  Calls Tryz.prog 130 #[.int .u64 u] w fun e w'=>e=.returned (.int .u64 (r:Int))/\w=w':=by
 subst hr;exact (yp3 u w h).mono fun _ _ ⟨h,k⟩=>⟨h,k.symm⟩
theorem ynn (u:Nat) (d:Int):yj6 u d<18446744073709551616:=by
 unfold yj6;omega
def yno (u:Nat):Nat->Nat
 | 0=>u
 | k+1=>yn4 (yno u k) 10
theorem yn3 (u:Nat) (h:u<18446744073709551616):yn4 u 10<18446744073709551616:=by
 have:=zpq (decide (u%10≠0));have h1:yn4 u 10<2^64:=Nat.or_lt_two_pow (Nat.or_lt_two_pow zd zd) zd;omega
theorem yqj (u k:Nat) (h:u<18446744073709551616):yno u k<18446744073709551616:=by
 induction k with
 | zero=>exact h
 | succ k ih=>exact yn3 _ ih
def fwU (m:Nat) (e n:Int):Nat×Int:=
 let p:=n-1-(e+63)*78913 / 262144
 let u:=us m (zmc (p+348).toNat) (zmb (p+348).toNat) (-(e+p*108853 / 32768+3)).toNat
 if 10^n.toNat*4-2<=u then (yn4 u 10,p-1) else (u,p)
def fwf (m:Nat) (e n prec:Int) (isF:Bool):Nat×Int:=
 let up:=fwU m e n
 if isF&&decide (prec<up.2) then (yj4 (yno up.1 (up.2-prec).toNat),-prec) else (yj4 up.1,-up.2)
theorem yli (T:Nat) (m:Nat) (x n prec f:Int) (w:World) (he:Env T w) (hm:m<18446744073709551616) (hx1:-1200<=x) (hx2:x<=1000)
  (hn1:1<=n) (hn2:n<=18) (hp1:0<=prec) (hp2:prec<=100000) (hE1:-1074<=x+63) (hE2:x+63<=1024):
  Calls Tryz.prog 98 #[.int .u64 m,.int .i64 x,.int .i64 n,.int .i64 prec,.int .u8 f] w fun e w'=>
   e=.returned (.tuple #[.int .u64 ((fwf m x n prec (f==102)).1:Nat),.int .i64 (fwf m x n prec (f==102)).2])/\w.grownBy w' none:=by
 obtain⟨q,hq⟩:∃ q:Int,q=(x+63)*78913 / 262144:=⟨_,rfl⟩;obtain⟨lp,hlp⟩:∃ lp:Int,lp=(n-1-q)*108853 / 32768:=⟨_,rfl⟩;have hs1:0<=-(x+lp+3):=zd;have hs2:-(x+lp+3)<64:=zd;obtain⟨s,hs⟩:∃ s:Nat,-(x+lp+3)=(s:Int):=⟨(-(x+lp+3)).toNat,zd⟩;have hs3:s<64:=zd;obtain⟨u,hu⟩:=zX (us m (zmc (n-1-q+348).toNat) (zmb (n-1-q+348).toNat) s);have hul:u<18446744073709551616:=by rw[<-hu];exact yan _ _ _ _ hm (zqu _).1
 have hq1:-348<=n-1-q:=zd;have hq2:n-1-q<=347:=zd;have hl1:-10000<=lp:=zd;have hl2:lp<=10000:=zd;have hU:fwU m x n=if 10^n.toNat*4-2<=u then (yn4 u 10,n-1-q-1) else (u,n-1-q):=by
  unfold fwU;simp only[<-hq,<-hlp];rw[show (-(x+lp+3)).toNat=s by omega,hu]
 obtain⟨k,hk⟩:∃ k:Nat,n=(k:Int):=⟨n.toNat,zd⟩;subst hk;rw[Int.toNat_natCast]at hU;have Hq:=zH hq;have Hlp:=zH hlp;have Hs:=zH hs;have Hu:=zH hu;have HU:=zH hU;have hp10:=he.p10 k zd;have ht10:10^k<=1000000000000000000:=by
  have:10^k<=10^18:=Nat.pow_le_pow_right zd zd;omega
 have ht1:1<=10^k:=Nat.pos_of_ne_zero zi;clear hq hlp hs hu hU;generalize 10^k=t at *
 go_enter Tryz.func98,Tryz.ntmps98;go_wp2_with fail;refine (yke _ q _ zd zd Hq.out).mono ?_;rintro e w1 ⟨rfl,rfl⟩;go_wp2_with fail;refine (zhb _ lp _ zd zd Hlp.out).mono ?_;rintro e w1 ⟨rfl,rfl⟩;go_wp2_with fail;refine (zgx T w.heap.size x _ lp _ _ _ _ (he.alloc _) he.size (Row.new w [.int .u64 0,.int .u64 0,.int .i64 0] _) hq1 hq2 zd zd hl1 hl2).mono ?_;rintro e w1 ⟨rfl,hr1,hg1⟩;have hg:w.grownBy w1 none:=zhe (World.grownBy_alloc w _ none) hg1 (Nat.le_refl _);clear hg1;go_wp2_with fail;refine (zky m _ _ s u _ _ _ hm (zqu _).1 (zqu _).2 hs3 Hs.out hr1 Hu.out).mono ?_;rintro e w2 ⟨rfl,hg2⟩;have hg3:=ym hg hg2;have hz:w2.cell? ⟨6,k,none⟩=some (.int .u64 (t:Int)):=hg3.cell hp10 zi;clear hg hg2 hr1 hp10 w1;go_wp2_with fail;refine (zmh t _ ht1 zd).mono ?_;rintro e w3 ⟨rfl,rfl⟩;have key:∀ (u1:Nat) (p1:Int),fwU m x k=(u1,p1)->∀ j:Nat,fwf m x k prec (f==102)=if (f==102)&&decide (prec<p1) then (yj4 (yno u1 (p1-prec).toNat),-prec) else (yj4 u1,-p1):=by
  intro u1 p1 h _;unfold fwf;rw[h]
 have KEY:=zH key;clear key;by_cases hf:f=102
 ·subst hf;by_cases hc:t*4-2<=u
  case' pos=>
   obtain⟨u1,hu1⟩:=zX (yn4 u 10);have hul1:u1<18446744073709551616:=by rw[<-hu1];exact yn3 u hul
   have hF:fwU m x k=(u1,k-1-q-1):=by rw[HU.out,if_pos hc,hu1]
   have HF:=zH hF;have Hu1:=zH hu1;clear hF hu1;go_wp2_with fail;refine (yqc u u1 _ hul Hu1.out).mono ?_;rintro e w4 ⟨rfl,hg4⟩;have hg5:=ym hg3 hg4;have hp1a:-400<=(k:Int)-1-q-1:=zd;have hp1b:(k:Int)-1-q-1<=400:=zd;clear hg3 hg4 hz w3 hul Hu1;go_wp2_with fail;generalize hp1e:(k:Int)-1-q-1=p1 at *
   have Hp1e:=zH hp1e;clear hp1e;have hg3:=hg5;clear hg5
  case' neg=>
   have hF:fwU m x k=(u,k-1-q):=by rw[HU.out,if_neg hc]
   have HF:=zH hF;clear hF;go_wp2_with fail;have hp1a:-400<=(k:Int)-1-q:=zd;have hp1b:(k:Int)-1-q<=400:=zd;clear hz Hq Hlp Hu;generalize hp1e:(k:Int)-1-q=p1 at *
   have Hp1e:=zH hp1e;clear hp1e;generalize u=u1 at *
   have hul1:=hul;clear hul
  all_goals
   go_loopw [13,11] (fun uv pv wr=>∃ j:Nat,(j:Int)<=600/\uv=.int .u64 (yno u1 j:Nat)/\pv=.int .i64 (p1-j)/\(j=0\/prec<=p1-j)/\w.grownBy wr none) (fun _ pv _=>(intOf pv-prec).toNat)
   case atStart=>exact⟨0,zd,rfl,by simp <;> omega,.inl rfl,hg3⟩
   case round=>
    obtain⟨j,hj0,rfl,rfl,hj,hgr⟩:=hrel;have hul2:=yqj u1 j hul1;by_cases hlt:prec<p1-j
    ·go_wp2_with fail;refine (yqc _ _ _ hul2 rfl).mono ?_;rintro e w5 ⟨rfl,hg5⟩;go_wp2_with fail;go_roundw
     case rel=>exact⟨j+1,zd,rfl,by go_num,.inr zd,ym hgr hg5⟩
     case measure=>simp[intOf];omega
    ·have hfin:fwf m x k prec ((102:Int)==102)=(yj4 (yno u1 j),-(p1-j)):=by
      rw[KEY.out u1 p1 HF.out 0];by_cases hj1:prec<p1
      ·have ej:j=(p1-prec).toNat:=zd;rw[if_pos (by simp[hj1]),<-ej];congr 1;omega
      ·have ej:j=0:=zd;subst ej;rw[if_neg (by simp[hj1])];simp[yno]
     have HFin:=zH hfin;clear hfin;go_wp2_with fail;refine (zjv _ _ _ hul2 rfl).mono ?_;rintro e w5 ⟨rfl,rfl⟩;go_wp2_with fail;go_ret2;refine⟨?_,hgr⟩;rw[HFin.out];rfl
 ·have hb:(f==102)=false:=by simpa using hf
  clear hf;by_cases hc:t*4-2<=u
  case' pos=>
   obtain⟨u1,hu1⟩:=zX (yn4 u 10);have hul1:u1<18446744073709551616:=by rw[<-hu1];exact yn3 u hul
   have hF:fwU m x k=(u1,k-1-q-1):=by rw[HU.out,if_pos hc,hu1]
   have HF:=zH hF;have Hu1:=zH hu1;clear hF hu1;go_wp2_with fail;refine (yqc u u1 _ hul Hu1.out).mono ?_;rintro e w4 ⟨rfl,hg4⟩;have hg5:=ym hg3 hg4;have hp1a:-400<=(k:Int)-1-q-1:=zd;have hp1b:(k:Int)-1-q-1<=400:=zd;clear hg3 hg4 hz w3 hul Hu1;go_wp2_with fail;generalize hp1e:(k:Int)-1-q-1=p1 at *
   have Hp1e:=zH hp1e;clear hp1e;have hg3:=hg5;clear hg5
  case' neg=>
   have hF:fwU m x k=(u,k-1-q):=by rw[HU.out,if_neg hc]
   have HF:=zH hF;clear hF;go_wp2_with fail;have hp1a:-400<=(k:Int)-1-q:=zd;have hp1b:(k:Int)-1-q<=400:=zd;clear hz Hq Hlp Hu;generalize hp1e:(k:Int)-1-q=p1 at *
   have Hp1e:=zH hp1e;clear hp1e;generalize u=u1 at *
   have hul1:=hul;clear hul
  all_goals
   have hfin:fwf m x k prec (f==102)=(yj4 u1,-p1):=by
    rw[KEY.out u1 p1 HF.out 0,hb];simp
   have HFin:=zH hfin;clear hfin;go_wp2_with fail;refine (zjv _ _ _ hul1 rfl).mono ?_;rintro e w5 ⟨rfl,rfl⟩;go_wp2_with fail;go_ret2;refine⟨?_,hg3⟩;rw[HFin.out];rfl
def usE (x:Nat) (e p:Int):Nat:=us x (zmc (p+348).toNat) (zmb (p+348).toNat) (-(e+p*108853 / 32768+3)).toNat
theorem zku (k:Nat) (h:k<18446744073709551616):IntKind.u64.wrap (k:Int)=(k:Int):=by rw[IntKind.wrap_u64];omega
theorem ytw (k:Nat) (h:k<9223372036854775808):IntKind.i64.wrap (k:Int)=(k:Int):=by rw[IntKind.wrap_i64];omega
def shC (Z:Nat) (ME:Int) (m:Nat) (e:Int):Int×Nat×Nat×Nat:=
 if m=9223372036854775808/\ME<e then (-(((e+Z)*631305-261663) / 2097152),(m+18446744073709551616-2^(Z-2))%18446744073709551616,(m+2^(Z-1))%18446744073709551616,m / 2^Z%2)
 else if ME<=e then (-((e+Z)*78913 / 262144),(m+18446744073709551616-2^(Z-1))%18446744073709551616,(m+2^(Z-1))%18446744073709551616,m / 2^Z%2)
 else (-((ME+Z)*78913 / 262144),(m+18446744073709551616-2^(Z+(ME-e).toNat-1))%18446744073709551616,(m+2^(Z+(ME-e).toNat-1))%18446744073709551616,m / 2^(Z+(ME-e).toNat)%2)
def kg (Z:Nat) (ME:Int) (m:Nat) (e:Int):Nat×Int:=
 let c:=shC Z ME m e
 let dmin:=yll (yj6 (usE c.2.1 e c.1) c.2.2.2)
 let dmax:=ykw (yj6 (usE c.2.2.1 e c.1) (-(c.2.2.2:Int)))
 if dmin<=dmax / 10*10 then (dmax / 10,-(c.1-1)) else if dmin<dmax then (yj4 (usE m e c.1),-c.1) else (dmin,-c.1)
set_option maxRecDepth 100000 in
theorem yte (T:Nat) (m:Nat) (x:Int) (w:World) (he:Env T w) (hm:m<18446744073709551616) (hx1:-212<=x) (hx2:x<=64):
  Calls Tryz.prog 94 #[.int .u64 m,.int .i64 x] w fun e w'=>
   e=.returned (.tuple #[.int .u64 ((kg 40 (-189) m x).1:Nat),.int .i64 (kg 40 (-189) m x).2])/\w.grownBy w' none:=by
 have KEY:∀ (p:Int) (mn mx od:Nat),shC 40 (-189) m x=(p,mn,mx,od)->∀ (u1 u2 u3 u4 dmin dmax:Nat),usE mn x p=u1->yj6 u1 od=u2->yll u2=dmin->usE mx x p=u3->yj6 u3 (-(od:Int))=u4->ykw u4=dmax ->
   kg 40 (-189) m x=if dmin<=dmax / 10*10 then (dmax / 10,-(p-1)) else if dmin<dmax then (yj4 (usE m x p),-p) else (dmin,-p):=by
  intro p mn mx od h u1 u2 u3 u4 dmin dmax h1 h2 h3 h4 h5 h6;unfold kg;simp only[h,h1,h2,h3,h4,h5,h6]
 have HKEY:=zH KEY;clear KEY;by_cases hA:m=9223372036854775808/\-189<x
 case' pos=>
  obtain⟨hm63,hxm⟩:=hA;have hC:shC 40 (-189) m x=(-(((x+40)*631305-261663) / 2097152),(m+18446744073709551616-2^(40-2))%18446744073709551616,(m+2^(40-1))%18446744073709551616,m / 2^40%2):=by
   unfold shC;rw[if_pos ⟨hm63,hxm⟩];rfl
  obtain⟨q,hq⟩:∃ q:Int,q=((x+40)*631305-261663) / 2097152:=⟨_,rfl⟩;rw[<-hq]at hC;have hq1:-348<=-q:=zd;have hq2:-q<=347:=zd;have hs:0<=-(x+(-q)*108853 / 32768+3)/\-(x+(-q)*108853 / 32768+3)<64:=zd;have hb1:((m:Int)==9223372036854775808)=true:=zo;have hb2:decide ((-189:Int)<x)=true:=by simpa using hxm
  have e1:IntKind.u64.wrap ((m:Int)-274877906944)=((m+18446744073709551616-2^(40-2))%18446744073709551616:Nat):=zl;have e2:IntKind.u64.wrap ((m:Int)+549755813888)=((m+2^(40-1))%18446744073709551616:Nat):=zl;have e3:bits .and .i64 ((m:Int) / 1099511627776) 1=(m / 2^40%2:Nat):=by rw[ync];omega
  have hmn:(m+18446744073709551616-2^(40-2))%18446744073709551616<18446744073709551616:=zd;have hmx:(m+2^(40-1))%18446744073709551616<18446744073709551616:=zd;have hod:m / 2^40%2<2:=zd;clear hm63;generalize (m+18446744073709551616-2^(40-2))%18446744073709551616=mn at *
  generalize (m+2^(40-1))%18446744073709551616=mx at *
  generalize m / 2^40%2=od at *
  have Hq:=zH hq;have HC:=zH hC;clear hq hC;go_enter Tryz.func94,Tryz.ntmps94;go_wp2_with fail;refine (ype _ q _ zd zd Hq.out).mono ?_;rintro e w1 ⟨rfl,rfl⟩;go_wp2_with fail
 case' neg=>
  have hA':((m:Int)==9223372036854775808)=false\/((m:Int)==9223372036854775808)=true/\decide ((-189:Int)<x)=false:=by
   by_cases h:m=9223372036854775808
   ·right;exact⟨zo,zh⟩
   ·left;rw[beq_eq_false_iff_ne];omega
  by_cases hB:-189<=x
  case' pos=>
   have hC:shC 40 (-189) m x=(-((x+40)*78913 / 262144),(m+18446744073709551616-2^(40-1))%18446744073709551616,(m+2^(40-1))%18446744073709551616,m / 2^40%2):=by
    unfold shC;rw[if_neg hA,if_pos hB];rfl
   obtain⟨q,hq⟩:∃ q:Int,q=(x+40)*78913 / 262144:=⟨_,rfl⟩;rw[<-hq]at hC;have hq1:-348<=-q:=zd;have hq2:-q<=347:=zd;have hs:0<=-(x+(-q)*108853 / 32768+3)/\-(x+(-q)*108853 / 32768+3)<64:=zd;have hb3:decide ((-189:Int)<=x)=true:=by simpa using hB
   have e1:IntKind.u64.wrap ((m:Int)-549755813888)=((m+18446744073709551616-2^(40-1))%18446744073709551616:Nat):=zl;have e2:IntKind.u64.wrap ((m:Int)+549755813888)=((m+2^(40-1))%18446744073709551616:Nat):=zl;have e3:bits .and .i64 ((m:Int) / 1099511627776) 1=(m / 2^40%2:Nat):=by rw[ync];omega
   have hmn:(m+18446744073709551616-2^(40-1))%18446744073709551616<18446744073709551616:=zd;have hmx:(m+2^(40-1))%18446744073709551616<18446744073709551616:=zd;have hod:m / 2^40%2<2:=zd;clear hA;generalize (m+18446744073709551616-2^(40-1))%18446744073709551616=mn at *
   generalize (m+2^(40-1))%18446744073709551616=mx at *
   generalize m / 2^40%2=od at *
   have Hq:=zH hq;have HC:=zH hC;clear hq hC;rcases hA' with hb1 | ⟨hb1,hb2⟩;all_goals
    go_enter Tryz.func94,Tryz.ntmps94;go_wp2_with fail;refine (yke _ q _ zd zd Hq.out).mono ?_;rintro e w1 ⟨rfl,rfl⟩;go_wp2_with fail
  case' neg=>
   obtain⟨y,hz⟩:∃ y:Nat,40+(-189-x)=(y:Int)+1:=⟨40-1+(-189-x).toNat,zd⟩;have ez:40+(-189-x).toNat=y+1:=zd;have hz1:40-1<y:=zd;have hz2:y<=62:=zd;have hC:shC 40 (-189) m x=(-((-189+40)*78913 / 262144),(m+18446744073709551616-2^y)%18446744073709551616,(m+2^y)%18446744073709551616,m / 2^(y+1)%2):=by
    unfold shC;rw[if_neg hA,if_neg hB,ez];rfl
   obtain⟨q,hq⟩:∃ q:Int,q=(-189+40)*78913 / 262144:=⟨_,rfl⟩;rw[<-hq]at hC;have hq':q=(x+((y:Int)+1))*78913 / 262144:=by rw[hq,show (-189+40:Int)=x+((y:Int)+1) by omega]
   have hq1:-348<=-q:=zd;have hq2:-q<=347:=zd;have hs:0<=-(x+(-q)*108853 / 32768+3)/\-(x+(-q)*108853 / 32768+3)<64:=zd;have hb3:decide ((-189:Int)<=x)=false:=by simpa using hB
   have hpw:2^y<9223372036854775808:=by
    have:2^y<=2^62:=Nat.pow_le_pow_right zd zd;omega
   have hpc:(2:Int)^y=((2^y:Nat):Int):=zi;have hpw2:IntKind.u64.wrap ((2:Int)^y)=(2:Int)^y:=by rw[hpc];exact zku _ zd
   have e1:IntKind.u64.wrap ((m:Int)-2^y)=((m+18446744073709551616-2^y)%18446744073709551616:Nat):=by rw[hpc,IntKind.wrap_u64];omega
   have e2:IntKind.u64.wrap ((m:Int)+2^y)=((m+2^y)%18446744073709551616:Nat):=by rw[hpc,IntKind.wrap_u64];omega
   have hdv:m / 2^(y+1)<9223372036854775808:=by
    have:2<=2^(y+1):=by
     have:2^1<=2^(y+1):=Nat.pow_le_pow_right zd zd;omega
    have:=Nat.div_le_div_left this (by omega:0<2) (a:=m);omega
   have hdc:(m:Int) / 2^(y+1)=((m / 2^(y+1):Nat):Int):=zi;have hdw:IntKind.i64.wrap ((m:Int) / 2^(y+1))=(m:Int) / 2^(y+1):=by rw[hdc];exact ytw _ zd
   have e3:bits .and .i64 ((m:Int) / 2^(y+1)) 1=(m / 2^(y+1)%2:Nat):=by rw[ync,hdc];omega
   have hmn:(m+18446744073709551616-2^y)%18446744073709551616<18446744073709551616:=zd;have hmx:(m+2^y)%18446744073709551616<18446744073709551616:=zd;have hod:m / 2^(y+1)%2<2:=zd;clear hA hpc hdc ez;generalize (m+18446744073709551616-2^y)%18446744073709551616=mn at *
   generalize (m+2^y)%18446744073709551616=mx at *
   generalize m / 2^(y+1)%2=od at *
   have Hq:=zH hq';have HC:=zH hC;clear hq hC hq';rcases hA' with hb1 | ⟨hb1,hb2⟩;all_goals
    go_enter Tryz.func94,Tryz.ntmps94;go_wp2_with fail;refine (yke _ q _ zd zd Hq.out).mono ?_;rintro e w1 ⟨rfl,rfl⟩;go_wp2_with fail
 all_goals
  obtain⟨lp,hlp⟩:∃ lp:Int,lp=(-q)*108853 / 32768:=⟨_,rfl⟩;have hl1:-10000<=lp:=zd;have hl2:lp<=10000:=zd;obtain⟨s,hsx⟩:∃ s:Nat,-(x+lp+3)=(s:Int):=⟨(-(x+lp+3)).toNat,zd⟩;have hs3:s<64:=zd;have hse:(-(x+(-q)*108853 / 32768+3)).toNat=s:=zd;have Hlp:=zH hlp;have Hs:=zH hsx;have Hse:=zH hse;clear hlp hsx hse hs;refine (zhb _ lp _ zd zd Hlp.out).mono ?_;rintro e w1 ⟨rfl,rfl⟩;go_wp2_with fail;refine (zgx T w.heap.size x _ lp _ _ _ _ (he.alloc _) he.size (Row.new w [.int .u64 0,.int .u64 0,.int .i64 0] _) hq1 hq2 zd zd hl1 hl2).mono ?_;rintro e w1 ⟨rfl,hr1,hg1⟩;have hg:w.grownBy w1 none:=zhe (World.grownBy_alloc w _ none) hg1 (Nat.le_refl _);clear hg1;have hUS:∀ y r,usE y x (-q)=r->us y (zmc (-q+348).toNat) (zmb (-q+348).toNat) s=r:=by
   intro y r h;rw[<-h];unfold usE;rw[Hse.out]
  have HUS:=zH hUS;clear hUS;obtain⟨u1,hu1⟩:=zX (usE mn x (-q));obtain⟨u2,hu2⟩:=zX (yj6 u1 od);obtain⟨dmin,hdmin⟩:=zX (yll u2);obtain⟨u3,hu3⟩:=zX (usE mx x (-q));obtain⟨u4,hu4⟩:=zX (yj6 u3 (-(od:Int)));obtain⟨dmax,hdmax⟩:=zX (ykw u4);obtain⟨u5,hu5⟩:=zX (usE m x (-q));have hK:=HKEY.out _ _ _ _ HC.out _ _ _ _ _ _ hu1 hu2 hdmin hu3 hu4 hdmax;rw[hu5]at hK;have b1:u1<18446744073709551616:=by rw[<-hu1];exact yan _ _ _ _ hmn (zqu _).1
  have b3:u3<18446744073709551616:=by rw[<-hu3];exact yan _ _ _ _ hmx (zqu _).1
  have b5:u5<18446744073709551616:=by rw[<-hu5];exact yan _ _ _ _ hm (zqu _).1
  have b2:u2<18446744073709551616:=by rw[<-hu2];exact ynn _ _
  have b4:u4<18446744073709551616:=by rw[<-hu4];exact ynn _ _
  have b6:dmin<4611686018427387904:=by rw[<-hdmin];unfold yll;omega
  have b7:dmax<4611686018427387904:=by rw[<-hdmax];unfold ykw;omega
  have hu1':=HUS.out _ _ hu1;have hu3':=HUS.out _ _ hu3;have hu5':=HUS.out _ _ hu5;have Hu1:=zH hu1';have Hu2:=zH hu2;have Hdmin:=zH hdmin;have Hu3:=zH hu3';have Hu4:=zH hu4;have Hdmax:=zH hdmax;have Hu5:=zH hu5';have HK:=zH hK;clear hu1 hu2 hdmin hu3 hu4 hdmax hu5 hK hu1' hu3' hu5' HKEY HUS;go_wp2_with fail;refine (zky _ _ _ s u1 _ _ _ hmn (zqu _).1 (zqu _).2 hs3 Hs.out hr1 Hu1.out).mono ?_;rintro e w2 ⟨rfl,hg2⟩;have hr2:=hr1.grown hg2 zi;have hg:=ym hg hg2;clear hg2;go_wp2_with fail;refine (yom u1 u2 od _ b1 zd zd Hu2.out).mono ?_;rintro e w3 ⟨rfl,rfl⟩;go_wp2_with fail;refine (ysq u2 dmin _ b2 Hdmin.out).mono ?_;rintro e w3 ⟨rfl,rfl⟩;go_wp2_with fail;refine (zky _ _ _ s u3 _ _ _ hmx (zqu _).1 (zqu _).2 hs3 Hs.out hr2 Hu3.out).mono ?_;rintro e w3 ⟨rfl,hg2⟩;have hr3:=hr2.grown hg2 zi;have hg:=ym hg hg2;clear hg2;go_wp2_with fail;refine (yom u3 u4 (-(od:Int)) _ b3 zd zd Hu4.out).mono ?_;rintro e w3 ⟨rfl,rfl⟩;go_wp2_with fail;refine (yq4 u4 dmax _ b4 Hdmax.out).mono ?_;rintro e w3 ⟨rfl,rfl⟩;by_cases hd1:dmin<=dmax / 10*10
  ·have hfin:=HK.out;rw[if_pos hd1]at hfin;have HF:=zH hfin;clear hfin;go_wp2_with fail;go_ret2;refine⟨?_,hg⟩;rw[HF.out];rfl
  ·have hK2:=HK.out;rw[if_neg hd1]at hK2;by_cases hd2:dmin<dmax
   ·rw[if_pos hd2]at hK2;have HF:=zH hK2;clear hK2;go_wp2_with fail;refine (zky _ _ _ s u5 _ _ _ hm (zqu _).1 (zqu _).2 hs3 Hs.out hr3 Hu5.out).mono ?_;rintro e w4 ⟨rfl,hg2⟩;have hg:=ym hg hg2;clear hg2;go_wp2_with fail;refine (zjv u5 _ _ b5 rfl).mono ?_;rintro e w5 ⟨rfl,rfl⟩;go_wp2_with fail;go_ret2;refine⟨?_,hg⟩;rw[HF.out,Int.neg_neg];rfl
   ·rw[if_neg hd2]at hK2;have HF:=zH hK2;clear hK2;go_wp2_with fail;go_ret2;refine⟨?_,hg⟩;rw[HF.out,Int.neg_neg];rfl
def zcj (A B:Nat):Nat:=A / B|||b2n (decide (A%B≠0))
theorem zge {A B k:Nat} (h1:k*B<A) (h2:A<(k+1)*B):zcj A B=k|||1:=by
 have hd:A / B=k:=Nat.div_eq_of_lt_le (Nat.le_of_lt h1) h2;have hm:A%B≠0:=by
  intro h0;have:=Nat.div_add_mod A B;rw[hd,h0,Nat.mul_comm]at this;omega
 unfold zcj;rw[hd];simp[hm,b2n]
theorem zp4 (k B:Nat) (hB:0<B):zcj (k*B) B=k:=by
 unfold zcj;rw[Nat.mul_div_cancel _ hB,Nat.mul_mod_left];simp[b2n]
theorem zd6 (A B c:Nat) (hc:0<c):zcj (A*c) (B*c)=zcj A B:=by
 unfold zcj;rw[Nat.mul_div_mul_right _ _ hc,Nat.mul_mod_mul_right];have:decide (A%B*c≠0)=decide (A%B≠0):=by
  rw[decide_eq_decide];constructor
  ·intro h h0;exact h (by rw[h0,Nat.zero_mul])
  ·intro h h0;rcases Nat.mul_eq_zero.1 h0 with h1 | h1
   ·exact h h1
   ·omega
 rw[this]
theorem zd7 {A B C D:Nat} (hB:0<B) (hD:0<D) (h:A*D=C*B):zcj A B=zcj C D:=by
 rw[<-zd6 A B D hD,h,<-zd6 C D B hB,Nat.mul_comm B D]
theorem zvl (x hi lo s pm gn gd:Nat) (hx:x<18446744073709551616) (hx0:0<x) (hhi:hi<18446744073709551616) (hlo:lo<18446744073709551616) (hpm:pm+lo=hi*18446744073709551616)
  (hgd:0<gd) (h1:gn<=pm*gd) (h2:pm*gd<gn+gd)
  (cert:∀ Z:Nat,Z*2^(128+s)<=x*pm+18446744073709551616->x*pm<=Z*2^(128+s)+18446744073709551616->x*gn=Z*2^(128+s)*gd):
  us x hi lo s=zcj (x*gn) (gd*2^(128+s)):=by
 have hS:(2:Nat)^(128+s)=340282366920938463463374607431768211456*2^s:=by rw[Nat.pow_add]
 have hS0:0<2^s:=Nat.two_pow_pos s;have f1:x*gn<=x*pm*gd:=by rw[Nat.mul_assoc];exact Nat.mul_le_mul_left _ h1
 have f2:x*pm*gd<x*gn+x*gd:=by rw[Nat.mul_assoc,<-Nat.mul_add];exact Nat.mul_lt_mul_of_pos_left h2 hx0
 have f3:x*pm+x*lo=x*hi*18446744073709551616:=by rw[<-Nat.mul_add,hpm,Nat.mul_assoc]
 have f4:x*lo<=18446744073709551615*18446744073709551615:=Nat.mul_le_mul zd zd;have f5:x*hi<=18446744073709551615*18446744073709551615:=Nat.mul_le_mul zd zd;have f6:x*lo+x<=18446744073709551616*18446744073709551615:=by
  have:x*lo+x=x*(lo+1):=by rw[Nat.mul_add,Nat.mul_one]
  rw[this,Nat.mul_comm];exact Nat.mul_le_mul zd zd
 have low:∀ K:Nat,K*340282366920938463463374607431768211456+x<=x*pm->K*340282366920938463463374607431768211456*gd<x*gn:=by
  intro K hK;have h3:=Nat.mul_le_mul_right gd hK;rw[Nat.add_mul]at h3;omega
 have upp:∀ K:Nat,x*pm<K*340282366920938463463374607431768211456->x*gn<K*340282366920938463463374607431768211456*gd:=by
  intro K hK;exact Nat.lt_of_le_of_lt f1 (Nat.mul_lt_mul_of_pos_right hK hgd)
 have e1:∀ k:Nat,k*(gd*(340282366920938463463374607431768211456*2^s))=k*2^s*340282366920938463463374607431768211456*gd:=by
  intro k;generalize 2^s=S;rw[Nat.mul_comm gd,Nat.mul_comm _ S,<-Nat.mul_assoc,<-Nat.mul_assoc]
 have fin:∀ k:Nat,k*2^s*340282366920938463463374607431768211456+x<=x*pm->x*pm<(k+1)*2^s*340282366920938463463374607431768211456->zcj (x*gn) (gd*2^(128+s))=k|||1:=by
  intro k g1 g2;refine zge ?_ ?_
  ·rw[hS,e1];exact low _ g1
  ·rw[hS,e1];exact upp _ g2
 have q1:=Nat.div_add_mod (x*hi) 18446744073709551616;have q2:=Nat.div_add_mod (x*lo) 18446744073709551616;have b1:x*hi%18446744073709551616<18446744073709551616:=Nat.mod_lt _ zd;have b2:x*lo%18446744073709551616<18446744073709551616:=Nat.mod_lt _ zd;have b3:x*hi / 18446744073709551616<18446744073709551616:=zd;have b4:x*lo / 18446744073709551616<=18446744073709551614:=zd;unfold us;generalize x*hi / 18446744073709551616=h at *
 generalize x*hi%18446744073709551616=m at *
 generalize x*lo / 18446744073709551616=m2 at *
 generalize x*lo%18446744073709551616=r3 at *
 have k1:=Nat.div_add_mod h (2^s);have k2:h%2^s<2^s:=Nat.mod_lt _ hS0;rw[Nat.mul_comm]at k1;by_cases hc:h / 2^s*2^s=h
 ·rw[if_neg (by simp[hc])];by_cases hm:m<m2
  ·have ht:(m+18446744073709551616-m2)%18446744073709551616=m+18446744073709551616-m2:=zd;rw[ht];have hd1:decide (1<m+18446744073709551616-m2)=true:=zh;have hh:1<=h:=zd;have hd2:(h+18446744073709551616-b2n (decide (m<m2)))%18446744073709551616=h-1:=by
    have hb:b2n (decide (m<m2))=1:=by simp[hm,b2n]
    rw[hb];omega
   rw[hd1,hd2];have hz:1<=h / 2^s:=by
    rcases Nat.eq_zero_or_pos (h / 2^s) with h0 | h0
    ·rw[h0,Nat.zero_mul]at hc;omega
    ·exact h0
   have hk:(h-1) / 2^s=h / 2^s-1:=by
    refine Nat.div_eq_of_lt_le ?_ ?_
    ·rw[Nat.sub_mul,hc,Nat.one_mul];omega
    ·rw[Nat.sub_add_cancel hz,hc];omega
   rw[fin (h / 2^s-1) (by rw[Nat.sub_mul,hc,Nat.one_mul];omega) (by rw[Nat.sub_add_cancel hz,hc];omega),hk];simp[b2n]
  ·have hd2:(h+18446744073709551616-b2n (decide (m<m2)))%18446744073709551616=h:=by
    have hb:b2n (decide (m<m2))=0:=by simp[hm,b2n]
    rw[hb];omega
   have ht:(m+18446744073709551616-m2)%18446744073709551616=m-m2:=zd;rw[hd2,ht];by_cases h3:1<m-m2
   ·rw[fin (h / 2^s) (by rw[hc];omega) (by rw[Nat.add_mul,hc,Nat.one_mul];omega)];simp[h3,b2n]
   ·have hZ:h / 2^s*2^(128+s)=h*340282366920938463463374607431768211456:=by
     rw[hS,Nat.mul_comm 340282366920938463463374607431768211456,<-Nat.mul_assoc,hc]
    have:=cert (h / 2^s) (by rw[hZ];omega) (by rw[hZ];omega);rw[this,show h / 2^s*2^(128+s)*gd=h / 2^s*(gd*2^(128+s)) by rw[Nat.mul_assoc,Nat.mul_comm gd],zp4 _ _ (Nat.mul_pos hgd (Nat.two_pow_pos _))];simp[h3,b2n]
 ·rw[if_pos hc];rw[fin (h / 2^s) zd (by rw[Nat.add_mul,Nat.one_mul];omega)]
theorem znt (P M q z Y y Z:Nat) (hM:0<M) (hy:y<=Y)
  (hc:q*18446744073709551616+Y*(if z*M<=q*P then q*P-z*M else z*M-q*P)<M)
  (g1:Z*M<=y*P+18446744073709551616) (g2:y*P<=Z*M+18446744073709551616):y*z=q*Z/\((q:Int)*((y:Int)*P-Z*M)=y*((q:Int)*P-z*M)):=by
 have hr:∃ r:Int,(q:Int)*P-z*M=r/\((r.natAbs:Nat)=if z*M<=q*P then q*P-z*M else z*M-q*P):=by
  refine⟨_,rfl,?_⟩;rw[<-Int.natCast_mul,<-Int.natCast_mul];generalize q*P=a;generalize z*M=b;split <;> omega
 obtain⟨r,hr1,hr2⟩:=hr;rw[<-hr2]at hc;have hw:∃ v:Int,(y:Int)*P-Z*M=v/\v.natAbs<=18446744073709551616:=by
  refine⟨_,rfl,?_⟩;rw[<-Int.natCast_mul,<-Int.natCast_mul];generalize y*P=a at *
  generalize Z*M=b at *
  omega
 obtain⟨v,hv1,hv2⟩:=hw;have key:(q:Int)*v-y*r=((y:Int)*z-q*Z)*M:=by rw[<-hv1,<-hr1];grind
 have n1:((q:Int)*v).natAbs<=q*18446744073709551616:=by
  rw[Int.natAbs_mul,Int.natAbs_natCast];exact Nat.mul_le_mul_left _ hv2
 have n2:((y:Int)*r).natAbs<=Y*r.natAbs:=by
  rw[Int.natAbs_mul,Int.natAbs_natCast];exact Nat.mul_le_mul_right _ hy
 have n3:(((y:Int)*z-q*Z)*M).natAbs<M:=by
  rw[<-key];generalize (q:Int)*v=a at *
  generalize (y:Int)*r=b at *
  omega
 have n4:(y:Int)*z-q*Z=0:=by
  rw[Int.natAbs_mul,Int.natAbs_natCast]at n3;rcases Nat.eq_zero_or_pos ((y:Int)*z-q*Z).natAbs with h | h
  ·omega
  ·have:=Nat.mul_le_mul_right M h;omega
 refine⟨?_,?_⟩
 ·have:(y:Int)*z=q*Z:=zd;exact_mod_cast this
 ·rw[hv1,hr1];rw[n4,Int.zero_mul]at key;omega
def zb1 (j s Y y0 gn gd pm q:Nat):Bool:=
  (pm%36893488147419103232==0&&gn==pm*gd) ||
  (let M:=2^(128+s)
   let P:=pm*2^j
   let z:=(2*(q*P)+M) / (2*M)
   let r:=if z*M<=q*P then q*P-z*M else z*M-q*P
   decide (0<q)&&decide (q*18446744073709551616+Y*r<M)&&(decide (18446744073709551616*q<r*y0) || (decide (18446744073709551616<r)&&Nat.gcd q z==1) || q*(gn*2^j)==z*M*gd))
theorem zhp (j s Y y0 gn gd pm q y s1:Nat) (h:zb1 j s Y y0 gn gd pm q=true) (hs:s<=s1) (hy:y<=Y) (hy0:y0<=y) (h0:0<y) (Z:Nat)
  (g1:Z*2^(128+s1)<=y*2^j*pm+18446744073709551616) (g2:y*2^j*pm<=Z*2^(128+s1)+18446744073709551616):y*2^j*gn=Z*2^(128+s1)*gd:=by
 have hsp:Z*2^(128+s1)=Z*2^(s1-s)*2^(128+s):=by
  rw[Nat.mul_assoc,<-Nat.pow_add,show s1-s+(128+s)=128+s1 by omega]
 rw[hsp]at g1 g2 ⊢;generalize Z*2^(s1-s)=Z at *
 have hyj:∀ a,y*2^j*a=y*(a*2^j):=fun a=>by rw[Nat.mul_assoc,Nat.mul_comm (2^j)]
 rw[hyj]at g1 g2 ⊢;unfold zb1 at h;rw[Bool.or_eq_true]at h;rcases h with h | h
 ·simp only[Bool.and_eq_true,beq_iff_eq]at h;obtain⟨ha,hb⟩:=h;obtain⟨u,hu⟩:∃ u,pm=u*36893488147419103232:=⟨pm / 36893488147419103232,zd⟩;have hq:(2:Nat)^(128+s)=9223372036854775808*2^s*36893488147419103232:=by
   rw[Nat.pow_add,Nat.mul_right_comm]
  have e:y*(pm*2^j)=y*(u*2^j)*36893488147419103232:=by
   rw[hu,Nat.mul_right_comm u,Nat.mul_assoc y]
  have e2:Z*2^(128+s)=Z*(9223372036854775808*2^s)*36893488147419103232:=by rw[hq,Nat.mul_assoc Z]
  rw[e,e2]at g1 g2;have:y*(pm*2^j)=Z*2^(128+s):=by
   rw[e,e2];generalize y*(u*2^j)=a at *
   generalize Z*(9223372036854775808*2^s)=b at *
   omega
  rw[hb,<-this,Nat.mul_right_comm pm,Nat.mul_assoc y]
 ·dsimp only at h;generalize hM:2^(128+s)=M at *
  have hM0:0<M:=by rw[<-hM];exact Nat.two_pow_pos _
  generalize hP:pm*2^j=P at *
  generalize hz:(2*(q*P)+M) / (2*M)=z at *
  simp only[Bool.and_eq_true,Bool.or_eq_true,decide_eq_true_eq,beq_iff_eq]at h;obtain⟨⟨hq0,hc⟩,h⟩:=h;obtain⟨k1,k2⟩:=znt P M q z Y y Z hM0 hy hc g1 g2;have hr:(((q:Int)*P-z*M).natAbs:Nat)=if z*M<=q*P then q*P-z*M else z*M-q*P:=by
   rw[<-Int.natCast_mul,<-Int.natCast_mul];generalize q*P=a;generalize z*M=b;split <;> omega
  have hv:((y:Int)*P-Z*M).natAbs<=18446744073709551616:=by
   rw[<-Int.natCast_mul,<-Int.natCast_mul];generalize y*P=a at *
   generalize Z*M=b at *
   omega
  rw[<-hr]at h;have k3:=congrArg Int.natAbs k2;rw[Int.natAbs_mul,Int.natAbs_mul,Int.natAbs_natCast,Int.natAbs_natCast]at k3;generalize ((y:Int)*P-Z*M).natAbs=v at *
  generalize ((q:Int)*P-z*M).natAbs=r at *
  rcases h with (h | h) | h
  ·exfalso;have a1:=Nat.mul_le_mul_left q hv;have a2:=Nat.mul_le_mul_right r hy0;rw[Nat.mul_comm y0]at a2;rw[Nat.mul_comm q]at a1;rw[Nat.mul_comm q]at k3;omega
  ·exfalso;have d1:q∣y:=by
    refine Nat.Coprime.dvd_of_dvd_mul_right (n:=z) (k:=q) (m:=y) h.2 ⟨Z,k1⟩
   obtain⟨k,rfl⟩:=d1;rw[Nat.mul_assoc]at k3;have k4:=Nat.eq_of_mul_eq_mul_left hq0 k3;have hk:1<=k:=by
    rcases Nat.eq_zero_or_pos k with h' | h'
    ·rw[h',Nat.mul_zero]at h0;omega
    ·exact h'
   have:=Nat.mul_le_mul_right r hk;omega
  ·refine Nat.eq_of_mul_eq_mul_left hq0 ?_;rw[<-Nat.mul_assoc,Nat.mul_comm q y,Nat.mul_assoc,h,<-Nat.mul_assoc,<-Nat.mul_assoc,k1,<-Nat.mul_assoc,<-Nat.mul_assoc]
end Go.Proofs.YtnifedmhgncioaaGreatDoor
