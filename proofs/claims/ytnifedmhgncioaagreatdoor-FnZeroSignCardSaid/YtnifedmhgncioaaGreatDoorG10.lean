/- Lemmas that the claim's top text leans on. No condition of their own. -/
import Derived.Test.YtnifedmhgncioaaGreatDoorRows
import Derived.Test.YtnifedmhgncioaaGreatDoorG01
import Derived.Test.YtnifedmhgncioaaGreatDoorG06
import Derived.Deep.RegionHeld3
import Derived.WalkLawsBesides
import Derived.BigQuiet
import Derived.StillTailTactics
import Derived.IntWalk
import Derived.Laws.MakeOwn
import Derived.Laws.OwnMore
namespace Go.Proofs.YtnifedmhgncioaaGreatDoor
open Go.RowKit
set_option linter.unusedSimpArgs false
set_option linter.unusedVariables false
set_option maxHeartbeats 16000000
theorem yb {w w1:World} (h:w.grownBy w1 none) {a:Addr} (u:Value) (ha:w.heap.size<=a.block):w.grownBy (w1.setCell a u) none:=
 yx h (⟨rfl,rfl,rfl,by simp[World.setCell],fun k hk hne=>Below.heap_setCell w1 a u k (fun e=>hne (by rw[e]))⟩:w1.grownBy (w1.setCell a u) (some a.block)) (fun j e hj=>by
  have:a.block=j:=by simpa using e
  omega)
def vi (a b:Nat):Nat:=if b<2*(a%b)\/(2*(a%b)=b/\a / b%2=1) then a / b+1 else a / b
end Go.Proofs.YtnifedmhgncioaaGreatDoor
