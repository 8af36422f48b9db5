/- Lemmas that the claim's top text leans on. No condition of their own. -/
import Derived.Test.YtnifedmhgncioaaDoorK02
import Derived.Lib.ItoaNum
namespace Go.Proofs.YtnifedmhgncioaaDoor
open Go.RowKit
set_option linter.unusedSimpArgs false
set_option linter.unusedVariables false
set_option maxHeartbeats 16000000
section
open Go.RowKit Go.Sort
def zkm (b:UInt8):Value:=Value.int .u8 (b.toNat:Int)
def yi (d:Nat):Nat:=if d=0 then 0 else Lib.nDigits d
def qw (d n:Nat):List UInt8:=(List.range n).map fun t=>Lib.dg d (n-1-t)
theorem va (d n:Nat):(qw d n).length=n:=by simp[qw]
def uc (l:List UInt8):Nat->Nat
 | 0=>0
 | n+1=>if l.getD n 0=48 then uc l n else n+1
theorem zjj (l:List UInt8) (n:Nat):uc l n<=n:=by
 induction n with
 | zero=>exact Nat.le_refl _
 | succ n ih=>unfold uc;split <;> omega
theorem xi (d:Nat):d<10^yi d:=by
 unfold yi;split
 ·subst_vars;decide
 ·exact Lib.lt_pow_nDigits d
end
end Go.Proofs.YtnifedmhgncioaaDoor
