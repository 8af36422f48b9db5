/- Lemmas that the claim's top text leans on. No condition of their own. -/
import Derived.Test.YtnifedmhgncioaaGreatDoorJ16
import Derived.Test.YtnifedmhgncioaaGreatDoorJ22
namespace Go.Proofs.YtnifedmhgncioaaGreatDoor
open Go.RowKit
set_option linter.unusedSimpArgs false
set_option linter.unusedVariables false
set_option maxHeartbeats 16000000
def pfE (d:Nat) (p:Int):Int:=min 1074 (53-(Lib.bitLen d:Int)-p*108853 / 32768)
def pfS (d:Nat) (p:Int):Int:=-(pfE d p-(64-(Lib.bitLen d:Int))+p*108853 / 32768+3)
def pfU (d:Nat) (p:Int):Nat:=us (d*2^shS d) (zmc (p+348).toNat) (zmb (p+348).toNat) (pfS d p).toNat
def zzb (d:Nat) (p:Int):Int:=min 149 (24-(Lib.bitLen d:Int)-p*108853 / 32768)
def yac (d:Nat) (p:Int):Int:=-(zzb d p-(64-(Lib.bitLen d:Int))+p*108853 / 32768+3)
def yab (d:Nat) (p:Int):Nat:=us (d*2^shS d) (zmc (p+348).toNat) (zmb (p+348).toNat) (yac d p).toNat
def zy3 (d:Nat) (p:Int):Nat×Int:=if 16777216*4-2<=yab d p then (yj4 (yab d p / 2|||yab d p%2),zzb d p-1) else (yj4 (yab d p|||yab d p%2),zzb d p)
def zzy (d:Nat) (p:Int):Nat×Bool:=if 64<=yac d p then (0,false) else pkC (zy3 d p).1 (-(zy3 d p).2)
theorem zzj (sg:Bool) (m:Nat) (hm:m<16777216):bits .or .u32 ((sgC sg:Nat):Int) (m:Int)=((sgC sg+m:Nat):Int):=by
 have hs:=zye sg;rw[u32_or_nat (sgC sg) m zd zd];congr 1;cases sg
 ·show 0|||m=0+m
  rw[Nat.zero_add,Nat.zero_or]
 ·have h2:=Nat.two_pow_add_eq_or_of_lt (i:=31) (show m<2^31 by omega) 1;exact h2.symm
set_option maxRecDepth 100000 in
theorem zx2 (T:Nat) (d:Nat) (p:Int) (sg:Bool) (w:World) (he:Env T w) (hd0:d≠0) (hd:d<18446744073709551616) (hp1:-348<=p) (hp2:p<=347) (hr:yac d p<64->(zy3 d p).1<16777216):
  Calls Tryz.prog 113 #[.int .u64 (d:Int),.int .i64 p,.int .u32 ((sgC sg:Nat):Int)] w fun r w'=>
   r=.returned (.tuple #[.float .f32 (sgC sg+(zzy d p).1),erV (zzy d p).2])/\w.grownBy w' none:=by
 obtain⟨hb1,hb2,hb3,hb4⟩:=zdq d hd hd0;have hlen:=fun W=>zrb d W hd
 obtain⟨S,hS⟩:=zX (shS d);have hbl:Lib.bitLen d<=64:=Lib.bitLen_le d 64 zd zd;have hSi:(64:Int)-(Lib.bitLen d:Int)=(S:Int):=by rw[<-hS];unfold shS;omega
 obtain⟨mm,hmm⟩:=zX (d*2^S);have hmm64:mm<18446744073709551616:=by
  rw[<-hmm,show (18446744073709551616:Nat)=2^Lib.bitLen d*2^S by rw[<-Nat.pow_add,show Lib.bitLen d+S=64 by omega]];exact Nat.mul_lt_mul_of_pos_right hb3 (Nat.pow_pos zd)
 have hmmi:IntKind.u64.wrap ((d:Int)*2^S)=(mm:Int):=by
  have:(d:Int)*2^S=(mm:Int):=by rw[<-hmm];simp
  rw[this,IntKind.wrap_u64];omega
 obtain⟨lp,hlp⟩:∃ lp:Int,lp=p*108853 / 32768:=⟨_,rfl⟩;obtain⟨E,hE⟩:=zX (zzb d p);have hE2:=hE;unfold zzb at hE2;rw[<-hlp]at hE2;obtain⟨bl,hbl2⟩:=zX (Lib.bitLen d);rw[hbl2]at hE2 hbl hSi hb1 hlen;have HE:=zH hE;obtain⟨si,hsi⟩:=zX (yac d p);have hsi2:=hsi;unfold yac at hsi2;rw[hE,hbl2,<-hlp,hSi]at hsi2;have HSI:=zH hsi;have HLP:=zH hlp;have HMM:=zH hmm;have HSS:=zH hS;have hEb:-1300<=E/\E<=149:=zd;have hsi8:8<=si:=zd;have hsiB:si<=5000:=zd;have HE2:=zH hE2;have HSI2:=zH hsi2;have hl1:-10000<=lp:=zd;have hl2:lp<=10000:=zd;have HLEN:=zH hlen;have HR:=zH hr;have hmin:=hE2;clear hE hE2 hsi hsi2 hlp hmm hS hlen hr hb2 hb3 hb4 hbl2;go_enter Tryz.func113,Tryz.ntmps113;go_wp2_with fail;refine (HLEN.out _).mono ?_;rintro e w1 ⟨rfl,rfl⟩;go_wp2_with fail;refine (zhb _ lp _ zd zd HLP.out).mono ?_;rintro e w1 ⟨rfl,rfl⟩;go_wp2_with fail;refine (zgx T w.heap.size (E-S) p lp _ _ _ _ (he.alloc _) he.size (Row.new w [.int .u64 0,.int .u64 0,.int .i64 0] _) hp1 hp2 zd zd hl1 hl2).mono ?_;rintro e w1 ⟨rfl,hr1,hg1⟩;have hg:w.grownBy w1 none:=zhe (World.grownBy_alloc w _ none) hg1 (Nat.le_refl _);rw[HSI2.out]at hr1;have e3:w1.cell? ⟨w.heap.size,2,none⟩=some (.int .i64 si):=by rw[hr1.cell];rfl
 have HR1:=zH hr1;clear hg1 hr1;by_cases h64:64<=si
 ·have HF:=zH (show zzy d p=(0,false) by unfold zzy;rw[HSI.out,if_pos h64]);have hoz:=zzj sg 0 zd;obtain⟨g,hgs⟩:=zX (sgC sg);rw[hgs]at hoz;have hext:=fun W=>zxs g W
  have HGS:=zH hgs;have hoz2:bits .or .u32 (g:Int) 0=(g:Int):=hoz;clear hoz;go_wp2_with fail;go_ret2;refine⟨?_,hg⟩;rw[HF.out,<-HGS.out];rfl
 ·obtain⟨sh,hsh⟩:∃ k:Nat,si=(k:Int):=⟨si.toNat,zd⟩;have hsh64:sh<64:=zd;obtain⟨u,hu⟩:=zX (us mm (zmc (p+348).toNat) (zmb (p+348).toNat) sh);have hul:u<18446744073709551616:=by rw[<-hu];exact yan _ _ _ _ hmm64 (zqu _).1
  have HU:=zH (show yab d p=u by unfold yab;rw[HSS.out,HMM.out,HSI.out,hsh,Int.toNat_natCast,hu]);have Hu:=zH hu;have HF:=zH (show zzy d p=pkC (zy3 d p).1 (-(zy3 d p).2) by unfold zzy;rw[HSI.out,if_neg h64]);have HR2:=zH (HR.out (by rw[HSI.out];omega));have hr1:=HR1.out;have hsh':=hsh;clear hu;have g1:decide (64<=si)=false:=zh;have Hsh:=zH hsh;clear hsh hsh' hr1;go_wp2_with fail;refine (zky mm _ _ sh u _ _ _ hmm64 (zqu _).1 (zqu _).2 hsh64 Hsh.out HR1.out Hu.out).mono ?_;rintro e w2 ⟨rfl,hg2⟩;have hg3:=ym hg hg2;clear hg hg2 HR1 w1 e3 HLEN;go_wp2_with fail;refine (zmh 16777216 _ zd zd).mono ?_;rintro e w3 ⟨rfl,rfl⟩;have e1:bits .and .u64 (u:Int) 1=((u%2:Nat):Int):=zjg u hul;by_cases hc:16777216*4-2<=u
  ·obtain⟨R,hR⟩:=zX (yj4 (u / 2|||u%2));have hpr:zy3 d p=(R,E-1):=by unfold zy3;rw[HU.out,if_pos hc,hR,HE.out]
   have hRb:=HR2.out;rw[hpr]at hRb;have HFF:=zH (show zzy d p=pkC R (-(E-1)) by rw[HF.out,hpr]);have hRb2:R<16777216:=hRb;have e2:bits .or .u64 ((u:Int) / 2) ((u%2:Nat):Int)=((u / 2|||u%2:Nat):Int):=u64_or_nat (u / 2) (u%2) zd zd;have hul2:u / 2|||u%2<18446744073709551616:=by
    have:u / 2|||u%2<2^64:=Nat.or_lt_two_pow zd zd
    omega
   obtain⟨u2,hu2⟩:=zX (u / 2|||u%2);rw[hu2]at e2 hul2 hR;have HR3:=zH hR;have hos:=zzj sg R hRb2;have hw32:IntKind.u32.wrap (R:Int)=(R:Int):=zαV;obtain⟨um,hum⟩:=zX (u%2);rw[hum]at e1 e2;clear hum hu2 hpr hRb hR;go_wp2_with fail;rw[show decide ((67108862:Int)<=(u:Int))=true from decide_eq_true zd];refine (zes true _).mono ?_;rintro e w4 ⟨he4,rfl⟩;rw[show ((b2n true:Nat):Int)=1 from rfl]at he4;subst he4;go_wp2_with fail;refine (zjv u2 R _ hul2 HR3.out).mono ?_;rintro e w5 ⟨rfl,rfl⟩;go_wp2_with fail;obtain⟨fb,hfb⟩:=zX (sgC sg+(pkC R (-(E-1))).1);obtain⟨ev,hev⟩:=zX (erV (pkC R (-(E-1))).2);have HPK:=zH (fun W=>zyf sg R (-(E-1)) W hRb2 zd zd);rw[hfb,hev,Int.natCast_add]at HPK;have HFB:=zH hfb;have HEV:=zH hev;clear hfb hev;refine (HPK.out _).mono ?_;rintro e w6 ⟨rfl,rfl⟩;go_wp2_with fail;go_ret2;refine⟨?_,hg3⟩;rw[HFF.out,HFB.out,HEV.out];rfl
  ·obtain⟨R,hR⟩:=zX (yj4 (u|||u%2));have hpr:zy3 d p=(R,E):=by unfold zy3;rw[HU.out,if_neg hc,hR,HE.out]
   have hRb:=HR2.out;rw[hpr]at hRb;have HFF:=zH (show zzy d p=pkC R (-E) by rw[HF.out,hpr]);have hRb2:R<16777216:=hRb;have e2:bits .or .u64 (u:Int) ((u%2:Nat):Int)=((u|||u%2:Nat):Int):=u64_or_nat u (u%2) hul zd;have hul2:u|||u%2<18446744073709551616:=by
    have:u|||u%2<2^64:=Nat.or_lt_two_pow zd zd
    omega
   obtain⟨u2,hu2⟩:=zX (u|||u%2);rw[hu2]at e2 hul2 hR;have HR3:=zH hR;have hos:=zzj sg R hRb2;have hw32:IntKind.u32.wrap (R:Int)=(R:Int):=zαV;obtain⟨um,hum⟩:=zX (u%2);rw[hum]at e1 e2;clear hum hu2 hpr hRb hR;go_wp2_with fail;rw[show decide ((67108862:Int)<=(u:Int))=false from decide_eq_false zd];refine (zes false _).mono ?_;rintro e w4 ⟨he4,rfl⟩;rw[show ((b2n false:Nat):Int)=0 from rfl]at he4;subst he4;go_wp2_with fail;refine (zjv u2 R _ hul2 HR3.out).mono ?_;rintro e w5 ⟨rfl,rfl⟩;go_wp2_with fail;obtain⟨fb,hfb⟩:=zX (sgC sg+(pkC R (-E)).1);obtain⟨ev,hev⟩:=zX (erV (pkC R (-E)).2);have HPK:=zH (fun W=>zyf sg R (-E) W hRb2 zd zd);rw[hfb,hev,Int.natCast_add]at HPK;have HFB:=zH hfb;have HEV:=zH hev;clear hfb hev;refine (HPK.out _).mono ?_;rintro e w6 ⟨rfl,rfl⟩;go_wp2_with fail;go_ret2;refine⟨?_,hg3⟩;rw[HFF.out,HFB.out,HEV.out];rfl
def m64 (b:Nat):Nat:=zen 11 52 b
def e64 (b:Nat):Int:=zor 11 52 (-1023) b-52
def m32 (b:Nat):Nat:=zen 8 23 b
def e32 (b:Nat):Int:=zor 8 23 (-127) b-23
theorem zv8 (b:Nat):(if b%2147483648 / 8388608=0 then b%2147483648%8388608 else b%2147483648%8388608+8388608)=m32 b:=by
 unfold m32 zen flE flF;have h1:b%2147483648 / 8388608=b / 2^23%2^8:=zd;have h2:b%2147483648%8388608=b%2^23:=zd;rw[h1,h2]
theorem zwp (b:Nat):(if b%2147483648 / 8388608=0 then 1 else ((b%2147483648 / 8388608:Nat):Int))-127-23=e32 b:=by
 unfold e32 zor flE;have h1:b%2147483648 / 8388608=b / 2^23%2^8:=zd;rw[h1];rfl
theorem zun (b:Nat) (h:b%2147483648<2139095040):flE 8 23 b≠2^8-1:=by unfold flE;omega
theorem zsl (b:Nat):m32 b<2^24:=by unfold m32 zen flF;split <;> omega
theorem zsr (b:Nat) (h:b%2147483648<2139095040):-149<=e32 b/\e32 b<=104:=by
 have:=zun b h;unfold e32 zor flE at *
 split <;> omega
end Go.Proofs.YtnifedmhgncioaaGreatDoor
