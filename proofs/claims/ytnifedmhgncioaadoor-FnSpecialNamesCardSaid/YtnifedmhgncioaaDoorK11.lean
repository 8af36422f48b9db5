/- Lemmas that the claim's top text leans on. No condition of their own. -/
import Derived.Test.YtnifedmhgncioaaDoorRows
import Derived.Test.YtnifedmhgncioaaDoorK00
import Derived.Test.YtnifedmhgncioaaDoorK04
import Derived.Deep.RegionHeld3
import Derived.WalkLawsBesides
import Derived.BigQuiet
import Derived.StillTailTactics
import Derived.IntWalk
namespace Go.Proofs.YtnifedmhgncioaaDoor
open Go.RowKit
set_option linter.unusedSimpArgs false
set_option linter.unusedVariables false
set_option maxHeartbeats 16000000
def kn (inf s b:Nat):Int:=if b%s<inf then 0 else if b%s=inf then 1 else 2
theorem zis {inf s b m:Nat} (hm:b%s=m) (h:m<inf):kn inf s b=0:=by unfold kn;rw[hm,if_pos h]
theorem zir {inf s b m:Nat} (hm:b%s=m) (h:m=inf):kn inf s b=1:=by unfold kn;rw[hm,if_neg zd,if_pos h]
theorem zde {inf s b m:Nat} (hm:b%s=m) (h:inf<m):kn inf s b=2:=by unfold kn;rw[hm,if_neg zd,if_neg zd]
theorem ui (n k:Nat) (hn:n<2^(k+1)) (hk:k<=63):bits .andNot .u64 (n:Int) ((2^k:Nat):Int)=((n%2^k:Nat):Int):=by
 have p:0<2^k:=Nat.pow_pos zd;have hk63:2^k<=2^63:=Nat.pow_le_pow_right zd hk;have hk64:2^(k+1)<=2^64:=Nat.pow_le_pow_right zd zd;have hn64:n<18446744073709551616:=zd;have h0:(BitVec.ofInt 64 (n:Int)).toNat=n:=by rw[BitVec.toNat_ofInt];omega
 have h1:(BitVec.ofInt 64 ((2^k:Nat):Int)).toNat=2^k:=by rw[BitVec.toNat_ofInt];omega
 have key:(BitVec.ofInt 64 (n:Int)&&&~~~ (BitVec.ofInt 64 ((2^k:Nat):Int))).toNat=n%2^k:=by
  apply Nat.eq_of_testBit_eq;intro i;rw[<-BitVec.getLsbD,BitVec.getLsbD_and,BitVec.getLsbD_not,BitVec.getLsbD,BitVec.getLsbD,h0,h1,Nat.testBit_mod_two_pow,Nat.testBit_two_pow];by_cases hik:i<k
  ·have h2:¬k=i:=zd;have h3:i<64:=zd;simp[hik,h2,h3]
  ·by_cases hie:k=i
   ·simp[hie]
   ·have h4:n.testBit i=false:=Nat.testBit_lt_two_pow (Nat.lt_of_lt_of_le hn (Nat.pow_le_pow_right zd zd));simp[hik,h4]
 have hmod:n%2^k<=n:=Nat.mod_le _ _;show IntKind.u64.wrap ((BitVec.ofInt 64 (n:Int)&&&~~~ (BitVec.ofInt 64 ((2^k:Nat):Int))).toNat:Nat)=_;rw[key,IntKind.wrap_u64];omega
theorem qz (w:World):Calls Tryd.prog 15 #[.int .i64 64] w fun e w'=>e=.returned (.int .i64 1023)/\w=w':=by
 go_enter Tryd.func15,Tryd.ntmps15;go_wp2;go_ret;exact⟨rfl,rfl⟩
theorem zba (w:World):Calls Tryd.prog 16 #[.int .i64 64] w fun e w'=>e=.returned (.int .i64 52)/\w=w':=by
 go_enter Tryd.func16,Tryd.ntmps16;go_wp2;go_ret;exact⟨rfl,rfl⟩
theorem wm (w:World):Calls Tryd.prog 10 #[.int .i64 64] w fun e w'=>e=.returned (.int .u64 9223372036854775808)/\w=w':=by
 go_enter Tryd.func10,Tryd.ntmps10;go_wp2;go_ret;exact⟨rfl,rfl⟩
theorem wy (w:World):Calls Tryd.prog 11 #[.int .i64 64] w fun e w'=>e=.returned (.int .u64 9218868437227405312)/\w=w':=by
 go_enter Tryd.func11,Tryd.ntmps11;go_wp2_with (first | (go_at_call 15;refine (qz _).mono ?_;rintro e w' ⟨rfl,rfl⟩) | (go_at_call 16;refine (zba _).mono ?_;rintro e w' ⟨rfl,rfl⟩));go_ret;exact⟨rfl,rfl⟩
theorem za7 (b:Nat) (w:World) (hb:b<18446744073709551616):Calls Tryd.prog 6 #[.int .i64 64,.int .u64 (b:Int)] w fun e w'=>e=.returned (.int .i64 (kn 9218868437227405312 9223372036854775808 b))/\w=w':=by
 have hand:bits .andNot .u64 (b:Int) 9223372036854775808=((b%9223372036854775808:Nat):Int):=ui b 63 zd zd;obtain⟨m,hm⟩:=zX (b%9223372036854775808);rw[hm]at hand;rcases Nat.lt_trichotomy m 9218868437227405312 with h | h | h
 ·have hk:=zis (inf:=9218868437227405312) hm h;have h1:(m:Int)<9218868437227405312:=zd;have HK:=zH hk;clear hk h hm;go_enter Tryd.func6,Tryd.ntmps6;go_wp2_with (first | (go_at_call 10;refine (wm _).mono ?_;rintro e w' ⟨rfl,rfl⟩) | (go_at_call 11;refine (wy _).mono ?_;rintro e w' ⟨rfl,rfl⟩));go_ret;exact⟨by rw[HK.out];rfl,rfl⟩
 ·have hk:=zir (inf:=9218868437227405312) hm h;have h1:decide ((m:Int)<9218868437227405312)=false:=zh;have h2:((m:Int)==9218868437227405312)=true:=zo;have HK:=zH hk;clear hk h hm;go_enter Tryd.func6,Tryd.ntmps6;go_wp2_with (first | (go_at_call 10;refine (wm _).mono ?_;rintro e w' ⟨rfl,rfl⟩) | (go_at_call 11;refine (wy _).mono ?_;rintro e w' ⟨rfl,rfl⟩));go_ret;exact⟨by rw[HK.out];rfl,rfl⟩
 ·have hk:=zde (inf:=9218868437227405312) hm h;have h1:decide ((m:Int)<9218868437227405312)=false:=zh;have h2:((m:Int)==9218868437227405312)=false:=zf;have HK:=zH hk;clear hk h hm;go_enter Tryd.func6,Tryd.ntmps6;go_wp2_with (first | (go_at_call 10;refine (wm _).mono ?_;rintro e w' ⟨rfl,rfl⟩) | (go_at_call 11;refine (wy _).mono ?_;rintro e w' ⟨rfl,rfl⟩));go_ret;exact⟨by rw[HK.out];rfl,rfl⟩
end Go.Proofs.YtnifedmhgncioaaDoor
