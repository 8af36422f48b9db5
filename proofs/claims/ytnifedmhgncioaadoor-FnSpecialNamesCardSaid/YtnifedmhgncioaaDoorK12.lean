/- Lemmas that the claim's top text leans on. No condition of their own. -/
import Derived.Laws.ResultCell
import Derived.Test.YtnifedmhgncioaaDoorK15
namespace Go.Proofs.YtnifedmhgncioaaDoor
open Go.RowKit
set_option linter.unusedSimpArgs false
set_option linter.unusedVariables false
set_option maxHeartbeats 16000000
def xT (lt:UInt8):Option (UInt8×List UInt8)->List UInt8
 | none=>[]
 | some (sg,E)=>lt::sg::E
theorem zlo (s:Nat) (E:Int) (a b:Nat) (hb:b≠0) (hab:a*vD E=vN s E*b) (h1:4503599627370496<=s) (h2:s<9007199254740992) (hE1:-1074<=E) (hE2:E<=971):
  xh 52 1023 9218868437227405312 a b=(E+1074).toNat*4503599627370496+s:=by
 have hs0:s≠0:=zd;have hvn:=yam E hs0;have hvd:=zjf E;have ha:a≠0:=by
  intro h0;rw[h0,Nat.zero_mul]at hab;exact absurd hab.symm (Nat.mul_ne_zero hvn hb)
 have ho:uo a b=E+52:=by
  refine zfa ha hb ((zan zd hvd hab _).2 ?_) (fun hh=>?_)
  ·rw[ws (j:=-E) (n:=52) zd,Int.neg_neg];unfold vN vD;rw[Nat.mul_assoc s,Nat.mul_comm (2^(-E).toNat) (2^E.toNat)];exact Nat.mul_le_mul_right _ h1
  ·have:=(zan zd hvd hab _).1 hh;rw[ws (j:=-E) (n:=53) zd,Int.neg_neg]at this;unfold vN vD at this;rw[Nat.mul_assoc s,Nat.mul_comm (2^(-E).toNat) (2^E.toNat)]at this;have h3:=Nat.le_of_mul_le_mul_right this (Nat.mul_pos (p2 _) (p2 _));omega
 have hne:yt 52 1023 a b=E:=by
  unfold yt;rw[if_neg ha,ho];omega
 have hrb:rB a b E=s:=by
  unfold rB;have:vi (a*2^(-E).toNat) (b*2^E.toNat)=vi (s*1) 1:=by
   refine yj7 (Nat.mul_pos zd (p2 _)) zd ?_;rw[Nat.mul_one,Nat.mul_one];unfold vN vD at hab;rw[hab];ac_rfl
  rw[this];exact zad s 1 zd
 unfold xh;rw[hne,if_pos zd,hrb];congr 2
section
attribute [local go_sem] undef
def zma (n:Nat):Nat:=xd (vN (m32 n) (e32 n)) (vD (e32 n))+if 2147483648<=n then 9223372036854775808 else 0
end
section
attribute [local go_sem] undef
def sgW (n:Nat):Nat:=if 2147483648<=n then 9223372036854775808 else 0
def zs5 (n:Nat):Nat:=if n%2147483648=2139095040 then 9218868437227405312 else 9223372036854775807
def zyo (n:Nat):Nat:=if n%2147483648<2139095040 then zma n else sgW n+zs5 n
end
end Go.Proofs.YtnifedmhgncioaaDoor
