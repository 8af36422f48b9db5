/- Lemmas that the claim's top text leans on. No condition of their own. -/
import Derived.Test.YtnifedmhgncioaaGreatDoorK22
import Derived.Test.YtnifedmhgncioaaGreatDoorK28
import Derived.Test.YtnifedmhgncioaaGreatDoorK29
namespace Go.Proofs.YtnifedmhgncioaaGreatDoor
open Go.RowKit
set_option linter.unusedSimpArgs false
set_option linter.unusedVariables false
set_option maxHeartbeats 16000000
section
open Go.ChangeShapes Go.WideShapes Go.ChangeAt Go.RowKit
attribute [local go_sem] undef
def RatS (w:World) (A:Nat) (g:Bool) (an:Option Addr) (Ln cn:Nat) (ad:Option Addr) (Ld cd:Nat) (n d:Nat):Prop:=
 Row w A [.bool g,.slice an Ln cn,.slice ad Ld cd]/\NatV w (.slice an Ln cn) n/\NatV w (.slice ad Ld cd) d
theorem RatS.grown {w w':World} {A:Nat} {g:Bool} {an:Option Addr} {Ln cn:Nat} {ad:Option Addr} {Ld cd:Nat} {n d:Nat} (h:RatS w A g an Ln cn ad Ld cd n d) (hg:w.grownBy w' none):RatS w' A g an Ln cn ad Ld cd n d:=
 ⟨h.1.grown hg zi,h.2.1.grown hg,h.2.2.grown hg⟩
theorem RatS.new {w:World} {g:Bool} {an:Option Addr} {Ln cn:Nat} {ad:Option Addr} {Ld cd:Nat} {n d:Nat} (h1:NatV w (.slice an Ln cn) n) (h2:NatV w (.slice ad Ld cd) d) (ty:TypeId):
  RatS (w.alloc (.cells #[.bool g,.slice an Ln cn,.slice ad Ld cd] ty)) w.heap.size g an Ln cn ad Ld cd n d:=
 ⟨Row.new w [.bool g,.slice an Ln cn,.slice ad Ld cd] ty,h1.grown (World.grownBy_alloc w _ none),h2.grown (World.grownBy_alloc w _ none)⟩
theorem RatS.cells {w:World} {A:Nat} {g:Bool} {an:Option Addr} {Ln cn:Nat} {ad:Option Addr} {Ld cd:Nat} {n d:Nat} (h:RatS w A g an Ln cn ad Ld cd n d):
  w.cell? ⟨A,0,none⟩=some (.bool g)/\w.cell? ⟨A,1,none⟩=some (.slice an Ln cn)/\w.cell? ⟨A,2,none⟩=some (.slice ad Ld cd):=⟨h.1.cell 0,h.1.cell 1,h.1.cell 2⟩
theorem yt7 (m:Nat) (e:Int) (hm:m<2^53) (h1:-1074<=e) (h2:e<=971):(yf (m*2^e.toNat)).length<=40000/\(yf (2^(-e).toNat)).length<=40000:=by
 constructor
 ·have h:m*2^e.toNat<1073741824^(53+e.toNat):=by
   refine Nat.lt_of_lt_of_le (Nat.mul_lt_mul_of_pos_right hm (Nat.two_pow_pos _)) ?_;rw[<-Nat.pow_add];exact Nat.pow_le_pow_left ze _
  exact Nat.le_trans (yv h) zd
 ·have h:2^(-e).toNat<1073741824^((-e).toNat+1):=Nat.lt_of_lt_of_le (Nat.pow_lt_pow_right ze (Nat.lt_succ_self _)) (Nat.pow_le_pow_left ze _);exact Nat.le_trans (yv h) zd 
end
end Go.Proofs.YtnifedmhgncioaaGreatDoor
