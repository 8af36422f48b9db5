/- Lemmas that the claim's top text leans on. No condition of their own. -/
import Derived.Test.YtocbeoomhlgnkaaDoorK09
import Derived.Laws.MakeOwn
import Derived.Laws.IdiomStrings
import Derived.Test.YtocbeoomhlgnkaaDoorK23
namespace Go.Proofs.YtocbeoomhlgnkaaDoor
open Go.RowKit
set_option linter.unusedSimpArgs false
set_option linter.unusedVariables false
set_option maxHeartbeats 16000000
theorem zk5 {T:Nat} {w:World} {v:Value} {xs:List UInt8} (h:OwnB T w v xs):(convert 30 9 v).run Tryd.prog w=.ok (.string ⟨xs.toArray⟩) w:=by
 obtain⟨⟨g,rest,rfl,hr,hm⟩,_⟩:=h;rw[List.length_map];refine run_convert_bytes_back w 30 9 5 ⟨g,0,none⟩ _ xs Tryd.underlying30 Tryd.underlying5 Tryd.underlying9 (fun j hj=>?_);have e:((⟨g,0,none⟩:Addr).add j)=⟨g,j,none⟩:=by
  unfold Addr.add;split
  ·subst_vars;rfl
  ·simp
 rw[e,hr.cell,List.getElem?_append_left (by rw[List.length_map];exact hj),List.getElem?_map,List.getElem?_eq_getElem hj];rfl
def zxp (n:Nat):Prop:=n<4294967296/\2139095040<n%2147483648
def zzw (n:Nat):Prop:=n<18446744073709551616/\9218868437227405312<n%9223372036854775808
theorem zy6 (n:Nat) (h:zxp n):∃ s p,FloatKind.decode .f32 n=.nan s p:=by
 have h2:=h.2;refine⟨n / 2147483648%2==1,n%2147483648-2139095040,?_⟩;show Ieee.single.read n=_;unfold Ieee.Format.read;have sw:Ieee.single.signWeight=2147483648:=rfl;have bn:Ieee.single.binade=8388608:=rfl;have inf:Ieee.single.infRung=2139095040:=rfl;simp only[sw,bn,inf];rw[if_neg zd,if_neg zd,if_neg zd]
theorem zy5 (n:Nat) (h:zzw n):∃ s p,FloatKind.decode .f64 n=.nan s p:=by
 have h2:=h.2;refine⟨n / 9223372036854775808%2==1,n%9223372036854775808-9218868437227405312,?_⟩;show Ieee.double.read n=_;unfold Ieee.Format.read;have sw:Ieee.double.signWeight=9223372036854775808:=rfl;have bn:Ieee.double.binade=4503599627370496:=rfl;have inf:Ieee.double.infRung=9218868437227405312:=rfl;simp only[sw,bn,inf];rw[if_neg zd,if_neg zd,if_neg zd]
theorem zzo (b t:Nat):zxp (Question.cut (.nanConv .f32 b) t):=by
 have e:Question.cut (.nanConv .f32 b) t=(t%2)*2147483648+2139095040+1+(t / 2)%8388607:=rfl;rw[e];have h1:(t / 2)%8388607<8388607:=Nat.mod_lt _ ze;generalize (t / 2)%8388607=x at h1;rcases (show t%2=0\/t%2=1 by omega) with h | h
 ·rw[h];exact⟨show 0*2147483648+2139095040+1+x<4294967296 by omega,show 2139095040<(0*2147483648+2139095040+1+x)%2147483648 by rw[Nat.mod_eq_of_lt zd];omega⟩
 ·rw[h];have e2:1*2147483648+2139095040+1+x=(2139095040+1+x)+2147483648:=zd;exact⟨show 1*2147483648+2139095040+1+x<4294967296 by omega,show 2139095040<(1*2147483648+2139095040+1+x)%2147483648 by rw[e2,Nat.add_mod_right,Nat.mod_eq_of_lt zd];omega⟩
theorem zzn (b t:Nat):zzw (Question.cut (.nanConv .f64 b) t):=by
 have e:Question.cut (.nanConv .f64 b) t=(t%2)*9223372036854775808+9218868437227405312+1+(t / 2)%4503599627370495:=rfl;rw[e];have h1:(t / 2)%4503599627370495<4503599627370495:=Nat.mod_lt _ ze;generalize (t / 2)%4503599627370495=x at h1;rcases (show t%2=0\/t%2=1 by omega) with h | h
 ·rw[h];exact⟨show 0*9223372036854775808+9218868437227405312+1+x<18446744073709551616 by omega,show 9218868437227405312<(0*9223372036854775808+9218868437227405312+1+x)%9223372036854775808 by rw[Nat.mod_eq_of_lt zd];omega⟩
 ·rw[h];have e2:1*9223372036854775808+9218868437227405312+1+x=(9218868437227405312+1+x)+9223372036854775808:=zd;exact⟨show 1*9223372036854775808+9218868437227405312+1+x<18446744073709551616 by omega,show 9218868437227405312<(1*9223372036854775808+9218868437227405312+1+x)%9223372036854775808 by rw[e2,Nat.add_mod_right,Nat.mod_eq_of_lt zd];omega⟩
set_option maxRecDepth 100000 in
theorem zym (r:Nat) (hr:zzw r) (W:World):∃ n,zxp n/\(convert 31 59 (.float .f64 r)).run Tryd.prog W=.ok (.float .f32 n) W.drew:=by
 obtain⟨s,p,hd⟩:=zy5 r hr;refine⟨_,zzo r (W.tape W.drawn (.nanConv .f32 r)),?_⟩;have hne:¬(FloatKind.f64=FloatKind.f32):=ze;have hq:Question.forced (.nanConv .f32 r)=false:=rfl;have h1:(Conv.floatToFloat .f64 r .f32).run Tryd.prog W=.ok (.float .f32 (Question.cut (.nanConv .f32 r) (W.tape W.drawn (.nanConv .f32 r)))) W.drew:=by
  unfold Conv.floatToFloat;rw[if_neg hne,hd];simp only[Sem.run_bind,run_choose_drew,hq,Bool.false_eq_true,if_false,Result.andThen_ok,Sem.run_pure]
 simp only[convert,Sem.run_bind,run_underlying Tryd.underlying31,run_underlying Tryd.underlying59,Result.andThen_ok];exact h1
set_option maxRecDepth 100000 in
theorem zyz (b:Nat) (hb:zxp b) (W:World):∃ n,zzw n/\(convert 59 31 (.float .f32 b)).run Tryd.prog W=.ok (.float .f64 n) W.drew:=by
 obtain⟨s,p,hd⟩:=zy6 b hb;refine⟨_,zzn b (W.tape W.drawn (.nanConv .f64 b)),?_⟩;have hne:¬(FloatKind.f32=FloatKind.f64):=ze;have hq:Question.forced (.nanConv .f64 b)=false:=rfl;have h1:(Conv.floatToFloat .f32 b .f64).run Tryd.prog W=.ok (.float .f64 (Question.cut (.nanConv .f64 b) (W.tape W.drawn (.nanConv .f64 b)))) W.drew:=by
  unfold Conv.floatToFloat;rw[if_neg hne,hd];simp only[Sem.run_bind,run_choose_drew,hq,Bool.false_eq_true,if_false,Result.andThen_ok,Sem.run_pure]
 simp only[convert,Sem.run_bind,run_underlying Tryd.underlying31,run_underlying Tryd.underlying59,Result.andThen_ok];exact h1
theorem zzd (b:Nat) (hb:b<4294967296) (h:b%2147483648=2139095040):∃ r,r<18446744073709551616/\floatToFloatBits .f32 b .f64=some r/\floatToFloatBits .f64 r .f32=some b:=by
 have:b=2139095040\/b=4286578688:=zd;rcases this with rfl | rfl
 ·exact⟨9218868437227405312,ze,zp,zp⟩
 ·exact⟨18442240474082181120,ze,zp,zp⟩
theorem zyp (b:Nat) (hb:b<4294967296) (h:¬zxp b):∃ r,r<18446744073709551616/\floatToFloatBits .f32 b .f64=some r/\floatToFloatBits .f64 r .f32=some b:=by
 by_cases h1:b%2147483648<2139095040
 ·exact Wd.widen_back b hb h1
 ·refine zzd b hb ?_;have:¬2139095040<b%2147483648:=fun h2=>h ⟨hb,h2⟩
  omega
theorem ycb (n:Nat) (w:World) (hn:n<=100000):
  Calls Tryd.prog 5 #[.int .i64 (n:Int)] w fun e w'=>e=.returned (.string ⟨(List.replicate n (48:UInt8)).toArray⟩)/\w.grownBy w' none:=by
 refine ye Tryd.func5 rfl (by rw[Tryd.ntmps5];simp) ?_;intro σ hσ;rw[Tryd.ntmps5];have s0:σ 0=.int .i64 (n:Int):=hσ 0 zi;clear hσ;have hown0:OwnB w.heap.size (w.alloc (Obj.cells #[] 5)) (.slice (some ⟨w.heap.size,0,none⟩) 0 0) []:=by
  refine⟨⟨w.heap.size,[],rfl,Row.new w [] _,by simp[maxLen]⟩,fun k hk=>?_⟩;simp[Value.ownBlock]at hk;omega
 have HOWN:=zH hown0;clear hown0;(go_wp2_with fail;repeat ((first|refine cZ ?_|refine cW ?_);go_wp2_with fail));refine xb (fun kk s' w'=>∃ (i:Nat) (v:Value),i<=n/\kk=n-i/\s' 0=.int .i64 (n:Int)/\s' 4=.int .i64 (i:Int)/\s' 3=v/\OwnB w.heap.size w' v (List.replicate i 48)/\w.grownBy w' none) n
  ⟨0,_,zd,rfl,zb,zb,zb,HOWN.out,World.grownBy_alloc w _ none⟩ ?_
 clear s0 σ HOWN;rintro kk σ wk ⟨i,v,hi,hkk,s0,s4,s3,hown,hg⟩ RK KK HRK hKK;have HKK:=zH hkk;have HOWN:=zH hown;have HG:=zH hg;clear hkk hown hg;by_cases hin:i=n
 ·subst hin;have hcv:=zk5 HOWN.out;(go_wp2_with fail;repeat ((first|refine cZ ?_|refine cW ?_);go_wp2_with fail));exact yl _ rfl ze zb ⟨rfl,HG.out⟩
 ·have h1:(i:Int)<(n:Int):=zd;have h2:i<n:=zd;(go_wp2_with (first | (at_builtin;refine zch rfl _ _ _ _ rfl ze ze zsw (HOWN.out.alloc _) zb _ zb [48] (zmx Tryd.underlying30 [48] _) zh ?_;intro v2 w2 ho1 hs1));repeat ((first|refine cZ ?_|refine cW ?_);go_wp2_with (first | (at_builtin;refine zch rfl _ _ _ _ rfl ze ze zsw (HOWN.out.alloc _) zb _ zb [48] (zmx Tryd.underlying30 [48] _) zh ?_;intro v2 w2 ho1 hs1))));refine wo HRK (n-(i+1)) (by have:=HKK.out;omega) ⟨i+1,v2,zd,rfl,zb,zj,zb,by rw[List.replicate_succ'];exact ho1,?_⟩;refine yx (ym HG.out (World.grownBy_alloc wk _ none)) hs1.1 (fun j e hj=>?_);have:=HOWN.out.2 j e;omega
end Go.Proofs.YtocbeoomhlgnkaaDoor
