/- Lemmas that the claim's top text leans on. No condition of their own. -/
import Derived.Test.YtnifedmhgncioaaGreatDoorG10
import Derived.Laws.Rows
namespace Go.Proofs.YtnifedmhgncioaaGreatDoor
open Go.RowKit
set_option linter.unusedSimpArgs false
set_option linter.unusedVariables false
set_option maxHeartbeats 16000000
theorem xu (s:List UInt8) (i:Nat) (hi:i<s.length):∀ h:i<(⟨s.toArray⟩:ByteArray).size,(⟨s.toArray⟩:ByteArray)[i]'h=s.getD i 0:=by
 intro h;rw[List.getD_eq_getElem?_getD,List.getElem?_eq_getElem hi];rfl
end Go.Proofs.YtnifedmhgncioaaGreatDoor
