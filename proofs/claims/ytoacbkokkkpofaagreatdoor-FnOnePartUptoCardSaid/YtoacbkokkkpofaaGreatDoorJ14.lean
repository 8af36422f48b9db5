/- Lemmas that the claim's top text leans on. No condition of their own. -/
import Derived.Test.YtoacbkokkkpofaaGreatDoorJ13
import Derived.Laws.MakeOwn
import Derived.Laws.IdiomStrings
import Derived.Test.YtoacbkokkkpofaaGreatDoorJ29
namespace Go.Proofs.YtoacbkokkkpofaaGreatDoor
open Go.RowKit
set_option linter.unusedSimpArgs false
set_option linter.unusedVariables false
set_option maxHeartbeats 16000000
theorem zk5 {T:Nat} {w:World} {v:Value} {xs:List UInt8} (h:OwnB T w v xs):(convert 67 9 v).run Tryz.prog w=.ok (.string ⟨xs.toArray⟩) w:=by
 obtain⟨⟨g,rest,rfl,hr,hm⟩,_⟩:=h;rw[List.length_map];refine run_convert_bytes_back w 67 9 5 ⟨g,0,none⟩ _ xs Tryz.underlying67 Tryz.underlying5 Tryz.underlying9 (fun j hj=>?_);have e:((⟨g,0,none⟩:Addr).add j)=⟨g,j,none⟩:=by
  unfold Addr.add;split
  ·subst_vars;rfl
  ·simp
 rw[e,hr.cell,List.getElem?_append_left (by rw[List.length_map];exact hj),List.getElem?_map,List.getElem?_eq_getElem hj];rfl
def zxp (n:Nat):Prop:=n<4294967296/\2139095040<n%2147483648
def zzw (n:Nat):Prop:=n<18446744073709551616/\9218868437227405312<n%9223372036854775808
theorem zy6 (n:Nat) (h:zxp n):∃ s p,FloatKind.decode .f32 n=.nan s p:=by
 have h2:=h.2;refine⟨n / 2147483648%2==1,n%2147483648-2139095040,?_⟩;show Ieee.single.read n=_;unfold Ieee.Format.read;have sw:Ieee.single.signWeight=2147483648:=rfl;have bn:Ieee.single.binade=8388608:=rfl;have inf:Ieee.single.infRung=2139095040:=rfl;simp only[sw,bn,inf];rw[if_neg zd,if_neg zd,if_neg zd]
theorem zy5 (n:Nat) (h:zzw n):∃ s p,FloatKind.decode .f64 n=.nan s p:=by
 have h2:=h.2;refine⟨n / 9223372036854775808%2==1,n%9223372036854775808-9218868437227405312,?_⟩;show Ieee.double.read n=_;unfold Ieee.Format.read;have sw:Ieee.double.signWeight=9223372036854775808:=rfl;have bn:Ieee.double.binade=4503599627370496:=rfl;have inf:Ieee.double.infRung=9218868437227405312:=rfl;simp only[sw,bn,inf];rw[if_neg zd,if_neg zd,if_neg zd]
theorem zzo (b t:Nat):zxp (Question.cut (.nanConv .f32 b) t):=by
 have e:Question.cut (.nanConv .f32 b) t=(t%2)*2147483648+2139095040+1+(t / 2)%8388607:=rfl;rw[e];have h1:(t / 2)%8388607<8388607:=Nat.mod_lt _ ze;generalize (t / 2)%8388607=x at h1;rcases (show t%2=0\/t%2=1 by omega) with h | h
 ·rw[h];exact⟨show 0*2147483648+2139095040+1+x<4294967296 by omega,show 2139095040<(0*2147483648+2139095040+1+x)%2147483648 by rw[Nat.mod_eq_of_lt zd];omega⟩
 ·rw[h];have e2:1*2147483648+2139095040+1+x=(2139095040+1+x)+2147483648:=zd;exact⟨show 1*2147483648+2139095040+1+x<4294967296 by omega,show 2139095040<(1*2147483648+2139095040+1+x)%2147483648 by rw[e2,Nat.add_mod_right,Nat.mod_eq_of_lt zd];omega⟩
theorem zzn (b t:Nat):zzw (Question.cut (.nanConv .f64 b) t):=by
 have e:Question.cut (.nanConv .f64 b) t=(t%2)*9223372036854775808+9218868437227405312+1+(t / 2)%4503599627370495:=rfl;rw[e];have h1:(t / 2)%4503599627370495<4503599627370495:=Nat.mod_lt _ ze;generalize (t / 2)%4503599627370495=x at h1;rcases (show t%2=0\/t%2=1 by omega) with h | h
 ·rw[h];exact⟨show 0*9223372036854775808+9218868437227405312+1+x<18446744073709551616 by omega,show 9218868437227405312<(0*9223372036854775808+9218868437227405312+1+x)%9223372036854775808 by rw[Nat.mod_eq_of_lt zd];omega⟩
 ·rw[h];have e2:1*9223372036854775808+9218868437227405312+1+x=(9218868437227405312+1+x)+9223372036854775808:=zd;exact⟨show 1*9223372036854775808+9218868437227405312+1+x<18446744073709551616 by omega,show 9218868437227405312<(1*9223372036854775808+9218868437227405312+1+x)%9223372036854775808 by rw[e2,Nat.add_mod_right,Nat.mod_eq_of_lt zd];omega⟩
set_option maxRecDepth 100000 in
theorem zym (r:Nat) (hr:zzw r) (W:World):∃ n,zxp n/\(convert 57 116 (.float .f64 r)).run Tryz.prog W=.ok (.float .f32 n) W.drew:=by
 obtain⟨s,p,hd⟩:=zy5 r hr;refine⟨_,zzo r (W.tape W.drawn (.nanConv .f32 r)),?_⟩;have hne:¬(FloatKind.f64=FloatKind.f32):=ze;have hq:Question.forced (.nanConv .f32 r)=false:=rfl;have h1:(Conv.floatToFloat .f64 r .f32).run Tryz.prog W=.ok (.float .f32 (Question.cut (.nanConv .f32 r) (W.tape W.drawn (.nanConv .f32 r)))) W.drew:=by
  unfold Conv.floatToFloat;rw[if_neg hne,hd];simp only[Sem.run_bind,run_choose_drew,hq,Bool.false_eq_true,if_false,Result.andThen_ok,Sem.run_pure]
 simp only[convert,Sem.run_bind,run_underlying Tryz.underlying57,run_underlying Tryz.underlying116,Result.andThen_ok];exact h1
set_option maxRecDepth 100000 in
theorem zyz (b:Nat) (hb:zxp b) (W:World):∃ n,zzw n/\(convert 116 57 (.float .f32 b)).run Tryz.prog W=.ok (.float .f64 n) W.drew:=by
 obtain⟨s,p,hd⟩:=zy6 b hb;refine⟨_,zzn b (W.tape W.drawn (.nanConv .f64 b)),?_⟩;have hne:¬(FloatKind.f32=FloatKind.f64):=ze;have hq:Question.forced (.nanConv .f64 b)=false:=rfl;have h1:(Conv.floatToFloat .f32 b .f64).run Tryz.prog W=.ok (.float .f64 (Question.cut (.nanConv .f64 b) (W.tape W.drawn (.nanConv .f64 b)))) W.drew:=by
  unfold Conv.floatToFloat;rw[if_neg hne,hd];simp only[Sem.run_bind,run_choose_drew,hq,Bool.false_eq_true,if_false,Result.andThen_ok,Sem.run_pure]
 simp only[convert,Sem.run_bind,run_underlying Tryz.underlying57,run_underlying Tryz.underlying116,Result.andThen_ok];exact h1
theorem zzd (b:Nat) (hb:b<4294967296) (h:b%2147483648=2139095040):∃ r,r<18446744073709551616/\floatToFloatBits .f32 b .f64=some r/\floatToFloatBits .f64 r .f32=some b:=by
 have:b=2139095040\/b=4286578688:=zd;rcases this with rfl | rfl
 ·exact⟨9218868437227405312,ze,zp,zp⟩
 ·exact⟨18442240474082181120,ze,zp,zp⟩
theorem zyp (b:Nat) (hb:b<4294967296) (h:¬zxp b):∃ r,r<18446744073709551616/\floatToFloatBits .f32 b .f64=some r/\floatToFloatBits .f64 r .f32=some b:=by
 by_cases h1:b%2147483648<2139095040
 ·exact Wd.widen_back b hb h1
 ·refine zzd b hb ?_;have:¬2139095040<b%2147483648:=fun h2=>h ⟨hb,h2⟩
  omega
theorem znz (c:UInt8) (w:World):
  Calls Tryz.prog 38 #[.int .u8 (c.toNat:Int)] w fun e w'=>e=.returned (.int .u8 ((vb c).toNat:Int))/\w=w':=by
 have hc:=c.toNat_lt;refine ye Tryz.func38 rfl (by rw[Tryz.ntmps38];simp) ?_;intro σ hσ;rw[Tryz.ntmps38];have s0:σ 0=.int .u8 (c.toNat:Int):=hσ 0 zi;clear hσ;by_cases h1:65<=c.toNat/\c.toNat<=90
 ·obtain⟨h1a,h1b⟩:=h1;have e:((vb c).toNat:Int)=(c.toNat:Int)+32:=by
   unfold vb;rw[if_pos ⟨h1a,h1b⟩,UInt8.toNat_ofNat'];omega
  have HE:=zH e;clear e;have h1a':(65:Int)<=(c.toNat:Int):=zd;have h1b':(c.toNat:Int)<=90:=zd;generalize c.toNat=n at *
  (go_wp2_with fail;repeat ((first|refine cZ ?_|refine cW ?_);go_wp2_with fail));exact yl (.int .u8 ((n:Int)+32)) rfl ze zb ⟨by rw[HE.out],rfl⟩
 ·have e:vb c=c:=by unfold vb;rw[if_neg h1]
  rw[e];clear e;by_cases h2:65<=c.toNat
  ·have h2':(65:Int)<=(c.toNat:Int):=zd;have h3':decide ((c.toNat:Int)<=90)=false:=zh;have h3'':decide (c.toNat<=90)=false:=zh;clear h1;generalize c.toNat=n at *
   (go_wp2_with fail;repeat ((first|refine cZ ?_|refine cW ?_);go_wp2_with fail));exact yl (.int .u8 (n:Int)) rfl ze zb ⟨rfl,rfl⟩
  ·have h2':decide ((65:Int)<=(c.toNat:Int))=false:=zh;have h2'':decide (65<=c.toNat)=false:=zh;clear h1;generalize c.toNat=n at *
   (go_wp2_with fail;repeat ((first|refine cZ ?_|refine cW ?_);go_wp2_with fail));exact yl (.int .u8 (n:Int)) rfl ze zb ⟨rfl,rfl⟩
theorem zrw {b:Nat} {c:UInt8} (h1:48<=c.toNat) (h2:c.toNat<=57):zfx b c=(c.toNat:Int)-48:=by
 unfold zfx dig;rw[if_pos ⟨h1,h2⟩];simp;omega
theorem zrv {c:UInt8} (h1:97<=c.toNat) (h2:c.toNat<=102):zfx 16 c=(c.toNat:Int)-97+10:=by
 unfold zfx dig;rw[if_neg zd,if_pos ⟨⟨h1,h2⟩,rfl⟩];simp;omega
theorem zl4 {c:UInt8} (h1:97<=c.toNat) (h2:c.toNat<=102):zfx 10 c=-1:=by
 unfold zfx dig;rw[if_neg zd,if_neg zd]
theorem zi4 {b:Nat} {c:UInt8} (h1:¬(48<=c.toNat/\c.toNat<=57)) (h2:¬(97<=c.toNat/\c.toNat<=102)):zfx b c=-1:=by
 unfold zfx dig;rw[if_neg h1,if_neg (fun h=>h2 h.1)]
theorem zkj (a b n:Nat):(a<=n/\n<=b)\/(n<a)\/(b<n/\a<=n):=by omega
theorem zaq (b:Nat) (hb:b=10\/b=16) (c:UInt8) (w:World):
  Calls Tryz.prog 71 #[.int .u8 (c.toNat:Int),.int .i64 (b:Int)] w fun e w'=>e=.returned (.int .i64 (zfx b c))/\w=w':=by
 have hc:=c.toNat_lt;refine ye Tryz.func71 rfl (by rw[Tryz.ntmps71];simp) ?_;intro σ hσ;rw[Tryz.ntmps71];have s0:σ 0=.int .u8 (c.toNat:Int):=hσ 0 zi;have s1:σ 1=.int .i64 (b:Int):=hσ 1 zi;clear hσ;rcases zkj 48 57 c.toNat with⟨h1,h2⟩ | h1 | ⟨h1,h2⟩
 ·have HE:=zH (zrw (b:=b) h1 h2);have a1:(48:Int)<=(c.toNat:Int):=zd;have a2:(c.toNat:Int)<=57:=zd;have a3:decide ((97:Int)<=(c.toNat:Int))=false:=zh;have a4:decide (97<=c.toNat)=false:=zh;have a5:(c.toNat:Int)-48<(b:Int):=zd;clear hb;generalize c.toNat=n at *
  (go_wp2_with fail;repeat ((first|refine cZ ?_|refine cW ?_);go_wp2_with fail));exact yl (.int .i64 ((n:Int)-48)) rfl ze zb ⟨by rw[HE.out],rfl⟩
 ·have HE:=zH (zi4 (b:=b) (c:=c) zd zd);have a1:decide ((48:Int)<=(c.toNat:Int))=false:=zh;have a2:decide (48<=c.toNat)=false:=zh;have a3:decide ((97:Int)<=(c.toNat:Int))=false:=zh;have a4:decide (97<=c.toNat)=false:=zh;have a5:(-1:Int)<(b:Int):=zd;clear hb;generalize c.toNat=n at *
  (go_wp2_with fail;repeat ((first|refine cZ ?_|refine cW ?_);go_wp2_with fail));exact yl (.int .i64 (-1)) rfl ze zb ⟨by rw[HE.out],rfl⟩
 ·have a1:(48:Int)<=(c.toNat:Int):=zd;have a2:decide ((c.toNat:Int)<=57)=false:=zh;have a2':decide (c.toNat<=57)=false:=zh;rcases zkj 97 102 c.toNat with⟨h3,h4⟩ | h3 | ⟨h3,h4⟩
  ·have a3:(97:Int)<=(c.toNat:Int):=zd;have a4:(c.toNat:Int)<=102:=zd;rcases hb with rfl | rfl
   ·have HE:=zH (zl4 h3 h4);have a5:decide ((c.toNat:Int)-97+10<10)=false:=zh;have a6:decide ((c.toNat:Int)-97<0)=false:=zh;generalize c.toNat=n at *
    (go_wp2_with fail;repeat ((first|refine cZ ?_|refine cW ?_);go_wp2_with fail));exact yl (.int .i64 (-1)) rfl ze zb ⟨by rw[HE.out],rfl⟩
   ·have HE:=zH (zrv h3 h4);have a5:(c.toNat:Int)-97+10<16:=zd;generalize c.toNat=n at *
    (go_wp2_with fail;repeat ((first|refine cZ ?_|refine cW ?_);go_wp2_with fail));exact yl (.int .i64 ((n:Int)-97+10)) rfl ze zb ⟨by rw[HE.out],rfl⟩
  ·have HE:=zH (zi4 (b:=b) (c:=c) zd zd);have a3:decide ((97:Int)<=(c.toNat:Int))=false:=zh;have a4:decide (97<=c.toNat)=false:=zh;have a5:(-1:Int)<(b:Int):=zd;clear hb;generalize c.toNat=n at *
   (go_wp2_with fail;repeat ((first|refine cZ ?_|refine cW ?_);go_wp2_with fail));exact yl (.int .i64 (-1)) rfl ze zb ⟨by rw[HE.out],rfl⟩
  ·have HE:=zH (zi4 (b:=b) (c:=c) zd zd);have a3:(97:Int)<=(c.toNat:Int):=zd;have a4:decide ((c.toNat:Int)<=102)=false:=zh;have a4':decide (c.toNat<=102)=false:=zh;have a5:(-1:Int)<(b:Int):=zd;clear hb;generalize c.toNat=n at *
   (go_wp2_with fail;repeat ((first|refine cZ ?_|refine cW ?_);go_wp2_with fail));exact yl (.int .i64 (-1)) rfl ze zb ⟨by rw[HE.out],rfl⟩
end Go.Proofs.YtoacbkokkkpofaaGreatDoor
