/- Lemmas that the claim's top text leans on. No condition of their own. -/
import Derived.Test.YtnifedmhgncioaaGreatDoorJ32
import Derived.Test.YtnifedmhgncioaaGreatDoorJ28
namespace Go.Proofs.YtnifedmhgncioaaGreatDoor
open Go.RowKit
set_option linter.unusedSimpArgs false
set_option linter.unusedVariables false
set_option maxHeartbeats 16000000
section
open Go.RowKit Ieee
theorem yap (b:Nat) (hb:b<4294967296) (hf:b%2147483648<2139095040):single.read b=.number (decide (2147483648<=b)) (m32 b) (e32 b):=by
 have sw:single.signWeight=2147483648:=rfl;have bn:single.binade=8388608:=rfl;have inf:single.infRung=2139095040:=ze;have lp:single.leastPlace=-149:=ze;have hneg:(b / 2147483648%2==1)=decide (2147483648<=b):=by
  by_cases h:2147483648<=b
  ·rw[decide_eq_true h,beq_iff_eq];omega
  ·rw[decide_eq_false h,beq_eq_false_iff_ne];omega
 unfold Format.read;simp only[sw,bn,inf,lp,hneg];rw[<-zv8 b,<-zwp b];by_cases h1:b%2147483648<8388608
 ·have h2:b%2147483648 / 8388608=0:=zd;rw[if_pos h1,if_pos h2,if_pos h2];have h3:b%2147483648%8388608=b%2147483648:=zd;rw[h3];rfl
 ·have h2:¬b%2147483648 / 8388608=0:=zd;rw[if_neg h1,if_pos zd,if_neg h2,if_neg h2];have h3:-149+((b%2147483648 / 8388608-1:Nat):Int)=((b%2147483648 / 8388608:Nat):Int)-127-23:=zd;first
   | rfl
   | (congr 1 <;> omega)
theorem yaf (b:Nat) (hb:b<4294967296) (hf:b%2147483648<2139095040):floatToFloatBits .f32 b .f64=some (zma b):=by
 have hread:=yap b hb hf;have hx:=zsr b hf;have hm:=zsl b;have hw64:∀ q:Nat,double.word (decide (2147483648<=b)) q=q+if 2147483648<=b then 9223372036854775808 else 0:=by
  intro q;unfold Format.word;rw[show double.signWeight=9223372036854775808 by rfl];by_cases h:2147483648<=b
  ·simp only[h,decide_true,if_true];omega
  ·simp[h]
 unfold zma;generalize decide (2147483648<=b)=neg at *
 generalize m32 b=mag at *
 generalize e32 b=place at *
 by_cases h0:mag=0
 ·subst h0;have hr:double.read (double.word neg 0)=.number neg 0 (-1074):=by cases neg <;> decide
  have hw:FloatKind.encode .f64 (.number neg 0 place)=double.word neg 0:=by
   show double.nearest neg 0 place=_;unfold Format.nearest;rw[if_pos rfl]
  have hn:xd (vN 0 place) (vD place)=0:=by
   unfold vN;rw[Nat.zero_mul];exact zai 52 1023 9218868437227405312 _ (Nat.ne_of_gt (zjf place)) ze ze
  rw[hn,<-hw64];unfold floatToFloatBits;rw[if_neg ze,show FloatKind.decode .f32 b=.number neg 0 place from hread];dsimp only;rw[hw,show FloatKind.decode .f64 (double.word neg 0)=.number neg 0 (-1074) from hr];rfl
 ·obtain⟨hw,hl,k1,k2⟩:=Wd.widen neg mag place h0 hm zd zd;have hE:(place+(mag.log2:Int)+1022).toNat<=2045:=zd;have hrd:=Wd.read_double neg _ _ hE k1 k2;have hsh:=zs6 mag (52-mag.log2) place;have hne:=zlo (mag*2^(52-mag.log2)) (place-(52-mag.log2:Nat)) (vN mag place) (vD place) (Nat.ne_of_gt (zjf place)) hsh.symm k1 k2 zd zd;have he:(place-((52-mag.log2:Nat):Int)+1074).toNat=(place+(mag.log2:Int)+1022).toNat:=zd;rw[he]at hne;unfold xd;rw[hne,<-hw64];unfold floatToFloatBits;rw[if_neg ze,show FloatKind.decode .f32 b=.number neg mag place from hread];dsimp only;rw[show FloatKind.encode .f64 (.number neg mag place)=_ from hw,show FloatKind.decode .f64 (double.word neg ((place+(mag.log2:Int)+1022).toNat*2^52+mag*2^(52-mag.log2)))=_ from hrd];rfl
end
end Go.Proofs.YtnifedmhgncioaaGreatDoor
