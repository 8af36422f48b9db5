/- Lemmas that the claim's top text leans on. No condition of their own. -/
import Derived.Test.YtnifedmhgncioaaDoorK08
import Derived.Laws.MakeOwn
import Derived.Laws.IdiomStrings
import Derived.Test.YtnifedmhgncioaaDoorK19
namespace Go.Proofs.YtnifedmhgncioaaDoor
open Go.RowKit
set_option linter.unusedSimpArgs false
set_option linter.unusedVariables false
set_option maxHeartbeats 16000000
def zxp (n:Nat):Prop:=n<4294967296/\2139095040<n%2147483648
def zzw (n:Nat):Prop:=n<18446744073709551616/\9218868437227405312<n%9223372036854775808
theorem zy6 (n:Nat) (h:zxp n):∃ s p,FloatKind.decode .f32 n=.nan s p:=by
 have h2:=h.2;refine⟨n / 2147483648%2==1,n%2147483648-2139095040,?_⟩;show Ieee.single.read n=_;unfold Ieee.Format.read;have sw:Ieee.single.signWeight=2147483648:=rfl;have bn:Ieee.single.binade=8388608:=rfl;have inf:Ieee.single.infRung=2139095040:=rfl;simp only[sw,bn,inf];rw[if_neg zd,if_neg zd,if_neg zd]
theorem zy5 (n:Nat) (h:zzw n):∃ s p,FloatKind.decode .f64 n=.nan s p:=by
 have h2:=h.2;refine⟨n / 9223372036854775808%2==1,n%9223372036854775808-9218868437227405312,?_⟩;show Ieee.double.read n=_;unfold Ieee.Format.read;have sw:Ieee.double.signWeight=9223372036854775808:=rfl;have bn:Ieee.double.binade=4503599627370496:=rfl;have inf:Ieee.double.infRung=9218868437227405312:=rfl;simp only[sw,bn,inf];rw[if_neg zd,if_neg zd,if_neg zd]
theorem zzo (b t:Nat):zxp (Question.cut (.nanConv .f32 b) t):=by
 have e:Question.cut (.nanConv .f32 b) t=(t%2)*2147483648+2139095040+1+(t / 2)%8388607:=rfl;rw[e];have h1:(t / 2)%8388607<8388607:=Nat.mod_lt _ ze;generalize (t / 2)%8388607=x at h1;rcases (show t%2=0\/t%2=1 by omega) with h | h
 ·rw[h];exact⟨show 0*2147483648+2139095040+1+x<4294967296 by omega,show 2139095040<(0*2147483648+2139095040+1+x)%2147483648 by rw[Nat.mod_eq_of_lt zd];omega⟩
 ·rw[h];have e2:1*2147483648+2139095040+1+x=(2139095040+1+x)+2147483648:=zd;exact⟨show 1*2147483648+2139095040+1+x<4294967296 by omega,show 2139095040<(1*2147483648+2139095040+1+x)%2147483648 by rw[e2,Nat.add_mod_right,Nat.mod_eq_of_lt zd];omega⟩
theorem zzn (b t:Nat):zzw (Question.cut (.nanConv .f64 b) t):=by
 have e:Question.cut (.nanConv .f64 b) t=(t%2)*9223372036854775808+9218868437227405312+1+(t / 2)%4503599627370495:=rfl;rw[e];have h1:(t / 2)%4503599627370495<4503599627370495:=Nat.mod_lt _ ze;generalize (t / 2)%4503599627370495=x at h1;rcases (show t%2=0\/t%2=1 by omega) with h | h
 ·rw[h];exact⟨show 0*9223372036854775808+9218868437227405312+1+x<18446744073709551616 by omega,show 9218868437227405312<(0*9223372036854775808+9218868437227405312+1+x)%9223372036854775808 by rw[Nat.mod_eq_of_lt zd];omega⟩
 ·rw[h];have e2:1*9223372036854775808+9218868437227405312+1+x=(9218868437227405312+1+x)+9223372036854775808:=zd;exact⟨show 1*9223372036854775808+9218868437227405312+1+x<18446744073709551616 by omega,show 9218868437227405312<(1*9223372036854775808+9218868437227405312+1+x)%9223372036854775808 by rw[e2,Nat.add_mod_right,Nat.mod_eq_of_lt zd];omega⟩
set_option maxRecDepth 100000 in
theorem zym (r:Nat) (hr:zzw r) (W:World):∃ n,zxp n/\(convert 32 57 (.float .f64 r)).run Tryd.prog W=.ok (.float .f32 n) W.drew:=by
 obtain⟨s,p,hd⟩:=zy5 r hr;refine⟨_,zzo r (W.tape W.drawn (.nanConv .f32 r)),?_⟩;have hne:¬(FloatKind.f64=FloatKind.f32):=ze;have hq:Question.forced (.nanConv .f32 r)=false:=rfl;have h1:(Conv.floatToFloat .f64 r .f32).run Tryd.prog W=.ok (.float .f32 (Question.cut (.nanConv .f32 r) (W.tape W.drawn (.nanConv .f32 r)))) W.drew:=by
  unfold Conv.floatToFloat;rw[if_neg hne,hd];simp only[Sem.run_bind,run_choose_drew,hq,Bool.false_eq_true,if_false,Result.andThen_ok,Sem.run_pure]
 simp only[convert,Sem.run_bind,run_underlying Tryd.underlying32,run_underlying Tryd.underlying57,Result.andThen_ok];exact h1
set_option maxRecDepth 100000 in
theorem zyz (b:Nat) (hb:zxp b) (W:World):∃ n,zzw n/\(convert 57 32 (.float .f32 b)).run Tryd.prog W=.ok (.float .f64 n) W.drew:=by
 obtain⟨s,p,hd⟩:=zy6 b hb;refine⟨_,zzn b (W.tape W.drawn (.nanConv .f64 b)),?_⟩;have hne:¬(FloatKind.f32=FloatKind.f64):=ze;have hq:Question.forced (.nanConv .f64 b)=false:=rfl;have h1:(Conv.floatToFloat .f32 b .f64).run Tryd.prog W=.ok (.float .f64 (Question.cut (.nanConv .f64 b) (W.tape W.drawn (.nanConv .f64 b)))) W.drew:=by
  unfold Conv.floatToFloat;rw[if_neg hne,hd];simp only[Sem.run_bind,run_choose_drew,hq,Bool.false_eq_true,if_false,Result.andThen_ok,Sem.run_pure]
 simp only[convert,Sem.run_bind,run_underlying Tryd.underlying32,run_underlying Tryd.underlying57,Result.andThen_ok];exact h1
theorem zzd (b:Nat) (hb:b<4294967296) (h:b%2147483648=2139095040):∃ r,r<18446744073709551616/\floatToFloatBits .f32 b .f64=some r/\floatToFloatBits .f64 r .f32=some b:=by
 have:b=2139095040\/b=4286578688:=zd;rcases this with rfl | rfl
 ·exact⟨9218868437227405312,ze,zp,zp⟩
 ·exact⟨18442240474082181120,ze,zp,zp⟩
theorem zyp (b:Nat) (hb:b<4294967296) (h:¬zxp b):∃ r,r<18446744073709551616/\floatToFloatBits .f32 b .f64=some r/\floatToFloatBits .f64 r .f32=some b:=by
 by_cases h1:b%2147483648<2139095040
 ·exact Wd.widen_back b hb h1
 ·refine zzd b hb ?_;have:¬2139095040<b%2147483648:=fun h2=>h ⟨hb,h2⟩
  omega
end Go.Proofs.YtnifedmhgncioaaDoor
