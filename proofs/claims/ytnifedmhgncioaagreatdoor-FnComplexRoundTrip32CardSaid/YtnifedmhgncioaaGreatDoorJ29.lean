/- Lemmas that the claim's top text leans on. No condition of their own. -/
import Derived.Test.YtnifedmhgncioaaGreatDoorJ01
import Derived.Laws.FloatArith
namespace Go.Proofs.YtnifedmhgncioaaGreatDoor
open Go.RowKit
set_option linter.unusedSimpArgs false
set_option linter.unusedVariables false
set_option maxHeartbeats 16000000
end Go.Proofs.YtnifedmhgncioaaGreatDoor

namespace Go.Proofs.YtnifedmhgncioaaGreatDoor.Wd
open Ieee
theorem zyv (neg:Bool) (n t:Nat) (ht:t<=n.log2+2) (h:n%2^t=0):Toward.even.cut neg n t=n / 2^t:=by
 unfold Toward.cut;have h1:min t (n.log2+2)=t:=zd;have h2:(1:Nat)<<<t=2^t:=by rw[Nat.shiftLeft_eq,Nat.one_mul]
 have p:0<2^t:=Nat.pow_pos zd;simp only[h1,h2,h];have h3:¬2^t<2*0:=zd;have h4:(2^t==2*0)=false:=zf;simp[h3,h4]
theorem widen (neg:Bool) (mag:Nat) (place:Int) (h0:mag≠0) (h1:mag<2^24) (h2:-149<=place) (h3:place<=104):
  double.nearest neg mag place=double.word neg ((place+mag.log2+1022).toNat*2^52+mag*2^(52-mag.log2))/\
  mag.log2<=23/\2^52<=mag*2^(52-mag.log2)/\mag*2^(52-mag.log2)<2^53:=by
 have hl:mag.log2<=23:=by
  have:=(Nat.log2_lt h0 (k:=24)).2 h1;omega
 have hlo:2^mag.log2<=mag:=Nat.log2_self_le h0;have hhi:mag<2^(mag.log2+1):=Nat.lt_log2_self;have p:0<2^(52-mag.log2):=Nat.pow_pos zd;have k1:2^52<=mag*2^(52-mag.log2):=by
  have:=Nat.mul_le_mul_right (2^(52-mag.log2)) hlo;rw[<-Nat.pow_add,show mag.log2+(52-mag.log2)=52 by omega]at this;exact this
 have k2:mag*2^(52-mag.log2)<2^53:=by
  have:=Nat.mul_lt_mul_of_pos_right hhi p;rw[<-Nat.pow_add,show mag.log2+1+(52-mag.log2)=53 by omega]at this;exact this
 refine⟨?_,hl,k1,k2⟩;unfold Format.nearest;rw[if_neg h0];have lp:double.leastPlace=-1074:=ze;have fb:double.fractionBits=52:=rfl;have bn:double.binade=2^52:=rfl;have hlast:max (place+mag.log2-(double.fractionBits:Int)) double.leastPlace=place+mag.log2-52:=by rw[lp,fb];omega
 simp only[hlast];simp only[lp,bn];have e1:(place-(place+(mag.log2:Int)-52)).toNat=52-mag.log2:=zd;have e2:(place+(mag.log2:Int)-52-place).toNat=0:=zd;have e3:(place+(mag.log2:Int)-52 - -1074).toNat=(place+mag.log2+1022).toNat:=zd;rw[e1,e2,e3,Nat.shiftLeft_eq,zyv neg _ 0 zd (by simp[Nat.mod_one]),Nat.pow_zero,Nat.div_one];have inf:double.infRung=9218868437227405312:=rfl;rw[inf,Nat.min_eq_left];have hE:(place+(mag.log2:Int)+1022).toNat<=2045:=zd;generalize (place+(mag.log2:Int)+1022).toNat=E at hE ⊢;generalize mag*2^(52-mag.log2)=K at k2 ⊢;omega
theorem read_double (neg:Bool) (E K:Nat) (hE:E<=2045) (k1:2^52<=K) (k2:K<2^53):double.read (double.word neg (E*2^52+K))=.number neg K (-1074+(E:Int)):=by
 have sw:double.signWeight=2^63:=rfl;have bn:double.binade=2^52:=rfl;have inf:double.infRung=2047*2^52:=ze;have lp:double.leastPlace=-1074:=ze;have hr:E*2^52+K<2^63:=zd;have hmod:double.word neg (E*2^52+K)%2^63=E*2^52+K:=by
  unfold Format.word;rw[sw];cases neg
  ·simp only[Bool.false_eq_true,if_false];omega
  ·simp only[if_true];omega
 have hdiv:(double.word neg (E*2^52+K) / 2^63%2==1)=neg:=by
  unfold Format.word;rw[sw];cases neg
  ·simp only[Bool.false_eq_true,if_false];rw[beq_eq_false_iff_ne];omega
  ·simp only[if_true];rw[beq_iff_eq];omega
 unfold Format.read;simp only[sw,bn,inf,lp,hmod,hdiv];rw[if_neg zd,if_pos zd];congr 1
 ·omega
 ·omega
theorem yae (neg:Bool) (E K:Nat) (hE:E<=2045) (k2:K<2^53):double.word neg (E*2^52+K)<2^64:=by
 unfold Format.word;rw[show double.signWeight=2^63 by rfl];split <;> omega
theorem yas (neg:Bool) (mag:Nat) (place:Int) (h0:mag≠0) (hl:mag.log2<=23) (h2:-149<=place) (h3:place<=104) (h4:mag.log2=23\/place=-149):
  single.nearest neg (mag*2^(52-mag.log2)) (place+mag.log2-52)=single.word neg ((place+149).toNat*2^23+mag):=by
 have hlo:2^mag.log2<=mag:=Nat.log2_self_le h0;have hhi:mag<2^(mag.log2+1):=Nat.lt_log2_self;have p:0<2^(52-mag.log2):=Nat.pow_pos zd;have k1:2^52<=mag*2^(52-mag.log2):=by
  have:=Nat.mul_le_mul_right (2^(52-mag.log2)) hlo;rw[<-Nat.pow_add,show mag.log2+(52-mag.log2)=52 by omega]at this;exact this
 have k2:mag*2^(52-mag.log2)<2^53:=by
  have:=Nat.mul_lt_mul_of_pos_right hhi p;rw[<-Nat.pow_add,show mag.log2+1+(52-mag.log2)=53 by omega]at this;exact this
 have hm24:mag<2^24:=Nat.lt_of_lt_of_le hhi (Nat.pow_le_pow_right zd zd);have hK0:mag*2^(52-mag.log2)≠0:=zd;have hlog:(mag*2^(52-mag.log2)).log2=52:=by
  rw[Nat.log2_eq_iff hK0];exact⟨k1,k2⟩
 unfold Format.nearest;rw[if_neg hK0];have lp:single.leastPlace=-149:=ze;have fb:single.fractionBits=23:=rfl;have bn:single.binade=2^23:=rfl;have inf:single.infRung=2139095040:=rfl;have hlast:max (place+(mag.log2:Int)-52+((mag*2^(52-mag.log2)).log2:Int)-(single.fractionBits:Int)) single.leastPlace=place:=by
  rw[hlog,lp,fb];omega
 simp only[hlast];simp only[lp,bn];have e1:(place+(mag.log2:Int)-52-place).toNat=0:=zd;have e2:(place-(place+(mag.log2:Int)-52)).toNat=52-mag.log2:=zd;have e3:(place - -149).toNat=(place+149).toNat:=zd;rw[e1,e2,e3,Nat.shiftLeft_eq,Nat.pow_zero,Nat.mul_one,zyv neg _ _ (by rw[hlog];omega) (Nat.mul_mod_left _ _),Nat.mul_div_cancel _ p];rw[inf,Nat.min_eq_left];have hE:(place+149).toNat<=253:=zd;generalize (place+149).toNat=E at hE ⊢;omega
theorem widen_back (b:Nat) (hb:b<4294967296) (hf:b%2147483648<2139095040):∃ r,r<18446744073709551616/\floatToFloatBits .f32 b .f64=some r/\floatToFloatBits .f64 r .f32=some b:=by
 obtain⟨neg,hneg⟩:=zX ((b / 2147483648%2==1));obtain⟨q,hq⟩:=zX (b%2147483648);have hbq:single.word neg q=b:=by
  unfold Format.word;rw[show single.signWeight=2147483648 by rfl];cases neg
  ·simp only[Bool.false_eq_true,if_false];rw[beq_eq_false_iff_ne]at hneg;omega
  ·simp only[if_true];rw[beq_iff_eq]at hneg;omega
 obtain⟨mag,place,hread,hm,hp1,hp2,hlog,hzero,hback⟩:∃ (mag:Nat) (place:Int),single.read b=.number neg mag place/\mag<2^24/\-149<=place/\place<=104/\(mag≠0->mag.log2=23\/place=-149)/\(q=0\/mag≠0)/\(place+149).toNat*2^23+mag=q:=by
  have sw:single.signWeight=2147483648:=rfl;have bn:single.binade=8388608:=rfl;have inf:single.infRung=2139095040:=ze;have lp:single.leastPlace=-149:=ze;unfold Format.read;simp only[sw,bn,inf,lp,hneg,hq];by_cases h1:q<8388608
  ·rw[if_pos h1];exact⟨q,-149,rfl,zd,zd,zd,fun _=>Or.inr rfl,zd,zi⟩
  ·rw[if_neg h1,if_pos zd];refine⟨_,_,rfl,zd,zd,zd,fun hne=>Or.inl ?_,zd,zd⟩;rw[Nat.log2_eq_iff hne];omega
 have hcl:single.read b=.number neg mag place:=hread;by_cases h0:mag=0
 ·subst h0;have hz:q=0:=by
   rcases hzero with h | h
   ·exact h
   ·exact absurd rfl h
  refine⟨double.word neg 0,by unfold Format.word;rw[show double.signWeight=2^63 by rfl];split <;> omega,?_,?_⟩
  ·have hr:double.read (double.word neg 0)=.number neg 0 (-1074):=by cases neg <;> decide
   have hw:FloatKind.encode .f64 (.number neg 0 place)=double.word neg 0:=by
    show double.nearest neg 0 place=_;unfold Format.nearest;rw[if_pos rfl]
   unfold floatToFloatBits;rw[if_neg ze,show FloatKind.decode .f32 b=.number neg 0 place from hread];dsimp only;rw[hw,show FloatKind.decode .f64 (double.word neg 0)=.number neg 0 (-1074) from hr];rfl
  ·have hr:double.read (double.word neg 0)=.number neg 0 (-1074):=by cases neg <;> decide
   have hw:FloatKind.encode .f32 (.number neg 0 (-1074))=b:=by
    show single.nearest neg 0 (-1074)=_;unfold Format.nearest;rw[if_pos rfl,<-hbq,hz]
   unfold floatToFloatBits;rw[if_neg ze,show FloatKind.decode .f64 (double.word neg 0)=.number neg 0 (-1074) from hr];dsimp only;rw[hw,show FloatKind.decode .f32 b=.number neg 0 place from hread];rfl
 ·obtain⟨hw,hl,k1,k2⟩:=widen neg mag place h0 hm hp1 hp2;have hE:(place+(mag.log2:Int)+1022).toNat<=2045:=zd;have hrd:=read_double neg _ _ hE k1 k2;have hpl:-1074+(((place+(mag.log2:Int)+1022).toNat:Nat):Int)=place+mag.log2-52:=zd;rw[hpl]at hrd;refine⟨_,yae neg _ _ hE k2,?_,?_⟩
  ·unfold floatToFloatBits;rw[if_neg ze,show FloatKind.decode .f32 b=.number neg mag place from hread];dsimp only;rw[show FloatKind.encode .f64 (.number neg mag place)=_ from hw,show FloatKind.decode .f64 (double.word neg ((place+(mag.log2:Int)+1022).toNat*2^52+mag*2^(52-mag.log2)))=_ from hrd];rfl
  ·have hn:=yas neg mag place h0 hl hp1 hp2 (hlog h0);rw[hback,hbq]at hn;unfold floatToFloatBits;rw[if_neg ze,show FloatKind.decode .f64 (double.word neg ((place+(mag.log2:Int)+1022).toNat*2^52+mag*2^(52-mag.log2)))=_ from hrd];dsimp only;rw[show FloatKind.encode .f32 (.number neg (mag*2^(52-mag.log2)) (place+mag.log2-52))=b from hn,show FloatKind.decode .f32 b=.number neg mag place from hread];rfl
end Go.Proofs.YtnifedmhgncioaaGreatDoor.Wd

namespace Go.Proofs.YtnifedmhgncioaaGreatDoor
open Go.RowKit
set_option linter.unusedSimpArgs false
set_option linter.unusedVariables false
set_option maxHeartbeats 16000000
end Go.Proofs.YtnifedmhgncioaaGreatDoor
