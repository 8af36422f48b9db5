/- Lemmas that the claim's top text leans on. No condition of their own. -/
import Derived.Test.YtocbeoomhlgnkaaDoorK10
import Derived.Test.YtocbeoomhlgnkaaDoorK12
namespace Go.Proofs.YtocbeoomhlgnkaaDoor
open Go.RowKit
set_option linter.unusedSimpArgs false
set_option linter.unusedVariables false
set_option maxHeartbeats 16000000
theorem zxv (b:Nat) (w:World) (hb:b<18446744073709551616):Calls Tryd.prog 9 #[.int .u64 (b:Int)] w fun e w'=>e=.returned (.bool (decide (b*2%18446744073709551616=0)))/\w=w':=by
 have h:IntKind.u64.wrap ((b:Int)*2)=((b*2%18446744073709551616:Nat):Int):=zl;obtain⟨m,hm⟩:=zX (b*2%18446744073709551616);rw[hm]at h ⊢;have h2:((m:Int)==0)=decide (m=0):=by rw[Bool.eq_iff_iff];simp
 go_enter Tryd.func9,Tryd.ntmps9;go_wp2;go_ret;exact⟨rfl,rfl⟩
end Go.Proofs.YtocbeoomhlgnkaaDoor
