/- Lemmas that the claim's top text leans on. No condition of their own. -/
import Derived.Test.YtnifedmhgncioaaGreatDoorJ47
import Derived.SizedLaws
namespace Go.Proofs.YtnifedmhgncioaaGreatDoor
open Go.RowKit
set_option linter.unusedSimpArgs false
set_option linter.unusedVariables false
set_option maxHeartbeats 16000000
section
open Go.ChangeShapes Go.WideShapes Go.ChangeAt Go.RowKit
theorem zol (os:Os) (args:Array Value):((laidWorldP os).forCall (fun _ _=>0) ⟨#[],args,[]⟩).heap[10]?=some (.cells pow10Cells 208 (0,0)):=by kernel_rfl
theorem zp3 (os:Os) (args:Array Value):((laidWorldP os).forCall (fun _ _=>0) ⟨#[],args,[]⟩).variablesRefB Tryz.prog=true:=by
 unfold World.variablesRefB;rw[show Tryz.prog.globals.size=14 by kernel_rfl,show List.range 14=[0,1,2,3,4,5,6,7,8,9,10,11,12,13] by rfl];simp only[List.all_cons,List.all_nil,Bool.and_true,Bool.and_eq_true];refine⟨zg,zg,zg,zg,zg,zg,zg,zg,zg,zg,?_,zg,zg,zg⟩;have hz:=zp2;rw[zol os args];cases h:((begin Tryz.prog (fun _ _=>0) default).world.heap[10]?).bind Obj.row? with
 | none=>rfl
 | some x=>
  rw[h]at hz;obtain⟨z,t⟩:=x;simp only[Option.map_some,Option.some.injEq,Prod.mk.injEq]at hz;obtain⟨hz1,rfl⟩:=hz;dsimp only;rw[znn,hz1,ji];simp
theorem zlr (os:Os) (args:Array Value):laidMetH Tryz.prog zip ((laidWorldP os).forCall (fun _ _=>0) ⟨#[],args,[]⟩).memory:=by
 rw[MakeChecks.laidMetH_plain _ _ _ zg];exact zn6 os args
theorem zqg (s:ByteArray):s=⟨s.data.toList.toArray⟩:=by
 apply ByteArray.ext;simp
theorem zqf (s:ByteArray) (h:s.size<=maxLen):s.data.toList.length<9223372036854775808:=by
 have h1:s.data.toList.length=s.size:=by rw[Array.length_toList];rfl
 rw[h1];exact Nat.lt_of_le_of_lt h ze 
end
end Go.Proofs.YtnifedmhgncioaaGreatDoor
