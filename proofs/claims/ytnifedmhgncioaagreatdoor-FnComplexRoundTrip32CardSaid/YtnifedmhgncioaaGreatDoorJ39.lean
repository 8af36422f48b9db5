/- Lemmas that the claim's top text leans on. No condition of their own. -/
import Derived.Test.YtnifedmhgncioaaGreatDoorJ38
import Derived.Deep.DeepWitnessRowRef
namespace Go.Proofs.YtnifedmhgncioaaGreatDoor
open Go.RowKit
set_option linter.unusedSimpArgs false
set_option linter.unusedVariables false
set_option maxHeartbeats 16000000
section
open Go.ChangeShapes Go.WideShapes Go.ChangeAt Go.RowKit
theorem zmj:Tryz.prog.cellTypes Tryz.prog.depth 208=some (List.replicate 1392 23):=by kernel_rfl
theorem zlf (v:Value) (h:v ∈ pow10Cells.toList):∃ n:Int,v=.int .u64 n/\(Lit.int .u64 n).wf=true:=by
 unfold pow10Cells at h;rw[List.toList_toArray,List.mem_flatMap]at h;obtain⟨x,hx,hv⟩:=h;have hwf:=List.all_eq_true.1 zj1 _ hx;rw[Bool.and_eq_true]at hwf;simp only[List.mem_cons,List.not_mem_nil,or_false]at hv;rcases hv with rfl | rfl
 ·exact⟨_,rfl,hwf.1⟩
 ·exact⟨_,rfl,hwf.2⟩
theorem znn (W:World):Row.okRefB Tryz.prog W 208 pow10Cells=true:=by
 unfold Row.okRefB;rw[zmj];dsimp only;rw[ji,List.length_replicate,Bool.and_eq_true];refine⟨ze,?_⟩;rw[List.all_eq_true];intro i hi;have hi':=List.mem_range.1 hi;have hlt:i<pow10Cells.size:=by rw[ji];exact hi'
 rw[Nat.mod_eq_of_lt hi',List.getElem?_replicate,if_pos hi',Array.getElem?_eq_getElem hlt];obtain⟨n,hn,hw⟩:=zlf pow10Cells[i] (by rw[Array.mem_toList_iff];exact Array.getElem_mem hlt);rw[hn];dsimp only;simp only[Lit.wf,Bool.and_eq_true,decide_eq_true_eq]at hw;simp[Cell.okRefB,Cell.okB,Tryz.underlying23,hw]
theorem zp2:((begin Tryz.prog (fun _ _=>0) default).world.heap[10]?.bind Obj.row?).map (fun x=>(x.1.size,x.2))=some (1392,208):=by kernel_rfl
end
end Go.Proofs.YtnifedmhgncioaaGreatDoor
