/- Lemmas that the claim's top text leans on. No condition of their own. -/
import Derived.Test.YtgfjdeddghbjcaaGreatDoorK30
import Derived.Lib.BufferOwn
namespace Go.Proofs.YtgfjdeddghbjcaaGreatDoor
open Go.RowKit
set_option linter.unusedSimpArgs false
set_option linter.unusedVariables false
set_option maxHeartbeats 16000000
section
attribute [local go_sem] undef
theorem za0 {s:List UInt8} {t:Txt} (h:ul s=some t):t.kind=0\/t.kind=1\/t.kind=2:=by
 refine zco s _ (fun _ hr=>?_) (fun ng _ hr=>?_) (fun _ hr=>?_)
 ·rw[h]at hr;cases hr;exact Or.inr (Or.inr rfl)
 ·rw[h]at hr;cases hr;exact Or.inr (Or.inl rfl)
 ·rw[h]at hr;cases hl:zau s with
  | none=>rw[hl]at hr;cases hr
  | some L=>rw[hl]at hr;cases hr;exact Or.inl rfl
end
end Go.Proofs.YtgfjdeddghbjcaaGreatDoor
