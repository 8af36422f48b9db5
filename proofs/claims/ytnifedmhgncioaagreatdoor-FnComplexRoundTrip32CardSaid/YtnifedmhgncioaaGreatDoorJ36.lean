/- Lemmas that the claim's top text leans on. No condition of their own. -/
import Derived.Test.YtnifedmhgncioaaGreatDoorJ17
import Derived.Test.YtnifedmhgncioaaGreatDoorJ12
namespace Go.Proofs.YtnifedmhgncioaaGreatDoor
open Go.RowKit
set_option linter.unusedSimpArgs false
set_option linter.unusedVariables false
set_option maxHeartbeats 16000000
def ylg (f:Int):Bool:=f==101 || f==69 || f==102 || f==103 || f==71 || f==120 || f==88
theorem ylx (f:Int) (w:World):Calls Tryz.prog 10 #[.int .u8 f] w fun e w'=>e=.returned (.bool (ylg f))/\w=w':=by
 obtain⟨r,hr⟩:=zX (ylg f);rw[hr];have HR:=zH hr;clear hr;by_cases h1:f=101
 ·subst h1;go_enter Tryz.func10,Tryz.ntmps10;go_wp2;go_ret;exact⟨zβT,rfl⟩
 have h1':(f==101)=false:=zγo;by_cases h2:f=69
 ·subst h2;go_enter Tryz.func10,Tryz.ntmps10;go_wp2;go_ret;exact⟨zβT,rfl⟩
 have h2':(f==69)=false:=zγp;by_cases h3:f=102
 ·subst h3;go_enter Tryz.func10,Tryz.ntmps10;go_wp2;go_ret;exact⟨zβT,rfl⟩
 have h3':(f==102)=false:=zβJ;by_cases h4:f=103
 ·subst h4;go_enter Tryz.func10,Tryz.ntmps10;go_wp2;go_ret;exact⟨zβT,rfl⟩
 have h4':(f==103)=false:=by rw[beq_eq_false_iff_ne];exact h4
 by_cases h5:f=71
 ·subst h5;go_enter Tryz.func10,Tryz.ntmps10;go_wp2;go_ret;exact⟨zβT,rfl⟩
 have h5':(f==71)=false:=by rw[beq_eq_false_iff_ne];exact h5
 by_cases h6:f=120
 ·subst h6;go_enter Tryz.func10,Tryz.ntmps10;go_wp2;go_ret;exact⟨zβT,rfl⟩
 have h6':(f==120)=false:=by rw[beq_eq_false_iff_ne];exact h6
 by_cases h7:f=88
 ·subst h7;go_enter Tryz.func10,Tryz.ntmps10;go_wp2;go_ret;exact⟨zβT,rfl⟩
 have h7':(f==88)=false:=by rw[beq_eq_false_iff_ne];exact h7
 go_enter Tryz.func10,Tryz.ntmps10;go_wp2;go_ret;exact⟨by rw[<-HR.out];simp[ylg,h1,h2,h3,h4,h5,h6,h7],rfl⟩
theorem zxv (b:Nat) (w:World) (hb:b<18446744073709551616):Calls Tryz.prog 35 #[.int .u64 (b:Int)] w fun e w'=>e=.returned (.bool (decide (b*2%18446744073709551616=0)))/\w=w':=by
 have h:IntKind.u64.wrap ((b:Int)*2)=((b*2%18446744073709551616:Nat):Int):=zl;obtain⟨m,hm⟩:=zX (b*2%18446744073709551616);rw[hm]at h ⊢;have h2:((m:Int)==0)=decide (m=0):=by rw[Bool.eq_iff_iff];simp
 go_enter Tryz.func35,Tryz.ntmps35;go_wp2;go_ret;exact⟨rfl,rfl⟩
end Go.Proofs.YtnifedmhgncioaaGreatDoor
