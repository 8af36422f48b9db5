/- Lemmas that the claim's top text leans on. No condition of their own. -/
import Derived.Test.YtnifedmhgncioaaGreatDoorJ37
import Derived.Lib.LaidRTab
namespace Go.Proofs.YtnifedmhgncioaaGreatDoor
open Go.RowKit
set_option linter.unusedSimpArgs false
set_option linter.unusedVariables false
set_option maxHeartbeats 16000000
section
open Go.ChangeShapes Go.WideShapes Go.ChangeAt Go.RowKit
def putCells (cs:Array Value):Obj->Obj
 | .cells _ t frozen=>.cells cs t frozen
 | o=>o
def yin:DataW Unit->List Value
 | .agg l=>l.map fun
  | .lit (.int k n)=>.int k n
  | _=>.bool false
 | _=>[]
def pow10Cells:Array Value:=(Go.Pinned.pow10Rows.flatMap fun x=>[Value.int .u64 (x.1:Int),Value.int .u64 (x.2:Int)]).toArray
def cheatCells:Array Value:=(Go.Pinned.cheatRows.flatMap fun x=>[Value.int .i64 (x.1:Int),Value.string ⟨x.2.toArray⟩]).toArray
noncomputable def baseW (os:Os):World:=World.holding Tryz.prog os ⟨#[],#[],[]⟩
noncomputable def laidWorld (os:Os):World:=
 { baseW os with heap:=(((((((baseW os).heap.modify 3 (putCells #[.bool true])).modify 6 (putCells (yin Rows.laid_internal_strconv_uint64pow10).toArray)).modify 10 (putCells pow10Cells)).modify
   11 (putCells #[.slice (some ⟨(baseW os).heap.size,0,none⟩) 61 61])).modify 12 (putCells (yin Rows.laid_math_bits_deBruijn32tab).toArray)).modify 13 (putCells (yin Rows.laid_math_bits_deBruijn64tab).toArray)).push (.cells cheatCells 213 (0,0)) }
def kr:List (Nat×Nat)->List MemPlace
 | []=>[]
 | (b,n)::r=>(List.range n).map (fun i=>MemPlace.cell b i)++kr r
theorem zef {l:List (Nat×Nat)} {x:MemPlace} (h:x ∈ kr l):∃ b off,x=.cell b off/\b ∈ l.map (·.1):=by
 induction l with
 | nil=>cases h
 | cons y r ih=>
  obtain⟨b,n⟩:=y;simp only[kr,List.mem_append,List.mem_map]at h;rcases h with⟨i,_,rfl⟩ | h
  ·exact⟨b,i,rfl,zi⟩
  ·obtain⟨b',o',rfl,hb⟩:=ih h;exact⟨b',o',rfl,by simp only[List.map_cons,List.mem_cons];exact Or.inr hb⟩
theorem zbl:∀ (l:List (Nat×Nat)),(l.map (·.1)).Nodup->(kr l).Nodup
 | [],_=>List.nodup_nil
 | (b,n)::r,h=>by
  simp only[List.map_cons,List.nodup_cons]at h
  simp only[kr]
  rw[List.nodup_append]
  refine⟨?_,zbl r h.2,?_⟩
  ·rw[List.Nodup,List.pairwise_map]
   exact List.Pairwise.imp (fun hne e=>hne (by cases e;rfl)) (List.nodup_range (n:=n))
  ·intro x hx y hy e
   subst e
   simp only[List.mem_map]at hx
   obtain⟨i,_,rfl⟩:=hx
   obtain⟨b',o',e,hb⟩:=zef hy
   cases e
   exact h.1 hb
theorem vv (b n:Nat):MemPlace.row ⟨b,0,none⟩ n=(List.range n).map (fun i=>MemPlace.cell b i):=by simp[MemPlace.row]
section
variable {α : Type} (f g : α → Value)
theorem zum:∀ (l:List α) (i:Nat) (x:α),l[i]?=some x->((l.flatMap fun x=>[f x,g x]).drop (i*2)).take 2=[f x,g x]
 | [],i,x,h=>by simp at h
 | y::t,0,x,h=>by simp at h;subst h;simp
 | y::t,i+1,x,h=>by
  simp only[List.getElem?_cons_succ]at h
  rw[List.flatMap_cons,show (i+1)*2=i*2+1+1 by omega]
  simp only[List.cons_append,List.nil_append,List.drop_succ_cons]
  exact zum t i x h
theorem zbx (l:List α):(l.flatMap fun x=>[f x,g x]).length=l.length*2:=by
 induction l with
 | nil=>rfl
 | cons y t ih=>rw[List.flatMap_cons,List.length_append,ih,List.length_cons];simp;omega
end
theorem zju {α β:Type} (l:List α) (d:α) (F:α->β):((List.range l.length).map fun i=>F (l.getD i d))=l.map F:=by
 apply List.ext_getElem?;intro i;by_cases hi:i<l.length
 ·simp[hi,List.getD]
 ·simp[hi]
theorem zj1:Go.Pinned.pow10Rows.all (fun x=>(Lit.int .u64 (x.1:Int)).wf&&(Lit.int .u64 (x.2:Int)).wf)=true:=by decide +kernel
theorem zaf:Go.Pinned.pow10Rows.length=696:=by decide +kernel
theorem zr1:Go.Pinned.cheatRows.all (fun x=>(Lit.int .i64 (x.1:Int)).wf&&decide (x.2.length<=100))=true:=by decide +kernel
theorem zhn:Go.Pinned.cheatRows.length=61:=by decide +kernel
theorem zqt {w:World} (hi lo:Nat) (h0:(Lit.int .u64 (hi:Int)).wf=true) (h1:(Lit.int .u64 (lo:Int)).wf=true) (n:Nat):
  DataW.trod (fun _=>()) Tryz.prog w 0 (fun _=>true) false (n+2) 207 [.int .u64 hi,.int .u64 lo]=some (.agg [.lit (.int .u64 hi),.lit (.int .u64 lo)],[]):=by
 obtain⟨F0,F1,hu,hF0,hO0,hF1,hO1⟩:=uPm;refine trod_struct2_mk (n:=n+1) (y0:=(.lit (.int .u64 hi),[])) (y1:=(.lit (.int .u64 lo),[])) hu (by rw[cPm];rfl) ?_ ?_
 ·rw[hF0,hO0,zw3];exact trod_int_mk n Tryz.underlying23 h0
 ·rw[hF1,hO1,zw3];exact trod_int_mk n Tryz.underlying23 h1
theorem zid {w:World}:DataW.trod (fun _=>()) Tryz.prog w 0 (fun _=>true) false 8 208 pow10Cells.toList=some (Rows.laid_internal_strconv_pow10Tab,[]):=by
 have hl:pow10Cells.toList.length=1392:=by
  unfold pow10Cells;rw[List.toList_toArray,zbx (fun x:Nat×Nat=>Value.int .u64 (x.1:Int)) (fun x=>Value.int .u64 (x.2:Int)),zaf]
 have helem:∀ i ∈ List.range 696,DataW.trod (fun _=>()) Tryz.prog w 0 (fun _=>true) false 7 207 ((pow10Cells.toList.drop (i*2)).take 2)=some ((fun i=>((.agg [.lit (.int .u64 ((Go.Pinned.pow10Rows.getD i (0,0)).1:Int)),.lit (.int .u64 ((Go.Pinned.pow10Rows.getD i (0,0)).2:Int))]:DataW Unit),([]:List MemPlace))) i):=by
  intro i hi;have hi':=List.mem_range.1 hi;have hlt:i<Go.Pinned.pow10Rows.length:=by rw[zaf];exact hi'
  have hx:Go.Pinned.pow10Rows[i]?=some (Go.Pinned.pow10Rows.getD i (0,0)):=by
   rw[List.getD_eq_getElem?_getD,List.getElem?_eq_getElem hlt];rfl
  have hmem:=List.mem_of_getElem? hx;have hwf:=List.all_eq_true.1 zj1 _ hmem;rw[Bool.and_eq_true]at hwf;unfold pow10Cells;rw[List.toList_toArray,zum (fun x:Nat×Nat=>Value.int .u64 (x.1:Int)) (fun x=>Value.int .u64 (x.2:Int)) _ i _ hx];exact zqt _ _ hwf.1 hwf.2 5
 show DataW.trod _ _ _ _ _ _ (7+1) _ _=_;unfold DataW.trod;simp only[Tryz.underlying208,cPm,cTab];rw[if_pos hl,Go.Lib.mapM_someR _ _ _ helem];simp only[Option.map_some,List.map_map,Function.comp_def];have:=zju Go.Pinned.pow10Rows (0,0) (fun x=>(.agg [.lit (.int .u64 (x.1:Int)),.lit (.int .u64 (x.2:Int))]:DataW Unit));rw[zaf]at this;rw[this];simp[Rows.laid_internal_strconv_pow10Tab,Go.Pinned.pow10Tab]
theorem zpj {w:World} (x:Nat) (s:List UInt8) (h0:(Lit.int .i64 (x:Int)).wf=true) (h1:s.length<=100) (n:Nat):
  DataW.trod (fun _=>()) Tryz.prog w 0 (fun _=>true) false (n+2) 213 [.int .i64 x,.string ⟨s.toArray⟩]=some (.agg [.lit (.int .i64 x),.lit (.string s)],[]):=by
 obtain⟨F0,F1,hu,hF0,hO0,hF1,hO1⟩:=uChe;refine trod_struct2_mk (n:=n+1) (y0:=(.lit (.int .i64 x),[])) (y1:=(.lit (.string s),[])) hu (by rw[cChe];rfl) ?_ ?_
 ·rw[hF0,hO0,zxk];exact trod_int_mk n Tryz.underlying3 h0
 ·rw[hF1,hO1,zxj];have hs:(⟨s.toArray⟩:ByteArray).size<=maxLen:=by simp[ByteArray.size,maxLen];omega
  simp[DataW.trod,Tryz.underlying9,hs]
theorem zjb {w:World} {t:TypeId} {fz:Nat×Nat} (hb:w.heap[19]?=some (.cells cheatCells t fz)):DataW.trod (fun _=>()) Tryz.prog w 0 (fun _=>true) false 8 214 [.slice (some ⟨19,0,none⟩) 61 61]=some (Rows.laid_internal_strconv_leftcheats,MemPlace.row ⟨19,0,none⟩ 122):=by
 have helem:∀ i ∈ List.range 61,(w.cells? 0 ((⟨19,0,none⟩:Addr).add (i*2)) 2).bind (DataW.trod (fun _=>()) Tryz.prog w 0 (fun _=>true) false 7 213)=some ((fun i=>((.agg [.lit (.int .i64 ((Go.Pinned.cheatRows.getD i (0,[])).1:Int)),.lit (.string (Go.Pinned.cheatRows.getD i (0,[])).2)]:DataW Unit),([]:List MemPlace))) i):=by
  intro i hi;have hi':=List.mem_range.1 hi;have hlt:i<Go.Pinned.cheatRows.length:=by rw[zhn];exact hi'
  have hx:Go.Pinned.cheatRows[i]?=some (Go.Pinned.cheatRows.getD i (0,[])):=by
   rw[List.getD_eq_getElem?_getD,List.getElem?_eq_getElem hlt];rfl
  have hmem:=List.mem_of_getElem? hx;have hwf:=List.all_eq_true.1 zr1 _ hmem;rw[Bool.and_eq_true]at hwf;have h2:=zum (fun x:Nat×List UInt8=>Value.int .i64 (x.1:Int)) (fun x=>Value.string ⟨x.2.toArray⟩) _ i _ hx;have hc:w.cells? 0 ⟨19,i*2,none⟩ 2=some [Value.int .i64 ((Go.Pinned.cheatRows.getD i (0,[])).1:Int),Value.string ⟨(Go.Pinned.cheatRows.getD i (0,[])).2.toArray⟩]:=by
   refine cells?_of (Nat.zero_le _) rfl (fun j hj=>?_);have h3:w.cell? ⟨19,i*2+j,none⟩=cheatCells[i*2+j]?:=by simp[World.cell?,hb]
   rw[h3];have h4:=congrArg (fun l=>l[j]?) h2;simp only[List.getElem?_take,List.getElem?_drop]at h4;rw[if_pos hj]at h4;unfold cheatCells;rw[List.getElem?_toArray,h4]
  rw[zf6,Nat.zero_add,hc,Option.bind_some];dsimp only;generalize Go.Pinned.cheatRows.getD i (0,[])=x at hwf ⊢;exact zpj x.1 x.2 hwf.1 (of_decide_eq_true hwf.2) 5
 show DataW.trod _ _ _ _ _ _ (7+1) _ _=_;unfold DataW.trod;simp only[Tryz.underlying214,cChe];rw[if_pos ⟨Nat.zero_le _,Nat.le_refl _,by simp[maxLen]⟩,Go.Lib.mapM_someR _ _ _ helem];have:=zju Go.Pinned.cheatRows (0,[]) (fun x=>(.agg [.lit (.int .i64 (x.1:Int)),.lit (.string x.2)]:DataW Unit));rw[zhn]at this;simp only[Option.bind_some,Nat.sub_self,List.range_zero,List.mapM_nil,if_true,Option.pure_def,Option.map_some,List.map_map,Function.comp_def,List.length_map,List.length_range,List.length_nil,List.map_nil,List.append_nil];rw[this];simp[Rows.laid_internal_strconv_leftcheats,Go.Pinned.leftcheats]
section
variable (os : Os) (args : Array Value)
theorem zr8 : ((laidWorld os).forCall (fun _ _ => 0) ⟨#[], args, []⟩).memory.var? Tryz.prog "math/bits.deBruijn32tab" = some (yin Rows.laid_math_bits_deBruijn32tab).toArray := by kernel_rfl
theorem zr7 : ((laidWorld os).forCall (fun _ _ => 0) ⟨#[], args, []⟩).memory.var? Tryz.prog "math/bits.deBruijn64tab" = some (yin Rows.laid_math_bits_deBruijn64tab).toArray := by kernel_rfl
theorem zvb : ((laidWorld os).forCall (fun _ _ => 0) ⟨#[], args, []⟩).memory.var? Tryz.prog "internal/strconv.optimize" = some #[.bool true] := by kernel_rfl
theorem zva : ((laidWorld os).forCall (fun _ _ => 0) ⟨#[], args, []⟩).memory.var? Tryz.prog "internal/strconv.uint64pow10" = some (yin Rows.laid_internal_strconv_uint64pow10).toArray := by kernel_rfl
theorem zvc : ((laidWorld os).forCall (fun _ _ => 0) ⟨#[], args, []⟩).memory.var? Tryz.prog "internal/strconv.leftcheats" = some #[.slice (some ⟨19, 0, none⟩) 61 61] := by kernel_rfl
theorem zu9 : ((laidWorld os).forCall (fun _ _ => 0) ⟨#[], args, []⟩).memory.var? Tryz.prog "internal/strconv.pow10Tab" = some pow10Cells := by kernel_rfl
theorem zwe:((laidWorld os).forCall (fun _ _=>0) ⟨#[],args,[]⟩).memory.heap[19]?=some (.cells cheatCells 213 (0,0)):=by kernel_rfl
end
theorem zwx {W:World}:DataW.trod (fun _=>()) Tryz.prog W 0 (fun _=>true) false 8 142 (yin Rows.laid_math_bits_deBruijn32tab).toArray.toList=some (Rows.laid_math_bits_deBruijn32tab,[]):=by kernel_rfl
theorem zww {W:World}:DataW.trod (fun _=>()) Tryz.prog W 0 (fun _=>true) false 8 111 (yin Rows.laid_math_bits_deBruijn64tab).toArray.toList=some (Rows.laid_math_bits_deBruijn64tab,[]):=by kernel_rfl
theorem d_opt {W:World}:DataW.trod (fun _=>()) Tryz.prog W 0 (fun _=>true) false 8 4 #[Value.bool true].toList=some (Rows.laid_internal_strconv_optimize,[]):=by kernel_rfl
theorem d_p10 {W:World}:DataW.trod (fun _=>()) Tryz.prog W 0 (fun _=>true) false 8 191 (yin Rows.laid_internal_strconv_uint64pow10).toArray.toList=some (Rows.laid_internal_strconv_uint64pow10,[]):=by kernel_rfl
theorem gDb32 : Tryz.prog.globalNamed "math/bits.deBruijn32tab" = some 12 := by kernel_rfl
theorem yDb32:(Tryz.prog.globals[12]?).map (·.type)=some 142:=by kernel_rfl
theorem yDb64:(Tryz.prog.globals[13]?).map (·.type)=some 111:=by kernel_rfl
theorem ji:pow10Cells.size=1392:=by
 unfold pow10Cells;rw[List.size_toArray,zbx (fun x:Nat×Nat=>Value.int .u64 (x.1:Int)) (fun x=>Value.int .u64 (x.2:Int)),zaf]
section
variable (os : Os) (args : Array Value)
theorem zsy:∃ t,((laidWorld os).forCall (fun _ _=>0) ⟨#[],args,[]⟩).memory.heap[12]?=some (.cells (yin Rows.laid_math_bits_deBruijn32tab).toArray t (0,0)):=⟨142,zg⟩
theorem zsx:∃ t,((laidWorld os).forCall (fun _ _=>0) ⟨#[],args,[]⟩).memory.heap[13]?=some (.cells (yin Rows.laid_math_bits_deBruijn64tab).toArray t (0,0)):=⟨111,zg⟩
theorem zw7:∃ t,((laidWorld os).forCall (fun _ _=>0) ⟨#[],args,[]⟩).memory.heap[3]?=some (.cells #[.bool true] t (0,0)):=⟨4,zg⟩
theorem zw6:∃ t,((laidWorld os).forCall (fun _ _=>0) ⟨#[],args,[]⟩).memory.heap[6]?=some (.cells (yin Rows.laid_internal_strconv_uint64pow10).toArray t (0,0)):=⟨191,zg⟩
theorem zw5:∃ t,((laidWorld os).forCall (fun _ _=>0) ⟨#[],args,[]⟩).memory.heap[10]?=some (.cells pow10Cells t (0,0)):=⟨208,zg⟩
end
theorem zv9 (d:DataW Unit) (u:TypeId) (v:Value):Value.iface u v ∉ yin d:=by
 unfold yin;intro h;split at h
 ·rw[List.mem_map]at h;obtain⟨x,_,hx⟩:=h;split at hx <;> cases hx
 ·cases h
theorem zie (u:TypeId) (v:Value):Value.iface u v ∉ pow10Cells.toList:=by
 unfold pow10Cells;rw[List.toList_toArray,List.mem_flatMap];rintro⟨x,_,hx⟩;simp at hx
theorem zjc (u:TypeId) (v:Value):Value.iface u v ∉ cheatCells.toList:=by
 unfold cheatCells;rw[List.toList_toArray,List.mem_flatMap];rintro⟨x,_,hx⟩;simp at hx
theorem wf {P:Program} {W:World} {b:Nat} {cs:Array Value} (hb:∃ t,W.heap[b]?=some (.cells cs t (0,0))) (hp:∀ u v,Value.iface u v ∉ cs.toList) (off:Nat):
  (∃ c t,W.heap[b]?=some (.cells c t (0,0)))/\∀ u v,W.cell? ⟨b,off,none⟩=some (.iface u v)->Value.okWide P W .any 0 u v:=by
 obtain⟨t,hb⟩:=hb;have hF:∀ u v,W.cell? ⟨b,off,none⟩=some (.iface u v)->False:=by
  intro u v hc;have hc':W.cell? ⟨b,off,none⟩=cs[off]?:=by simp[World.cell?,hb]
  rw[hc',<-Array.getElem?_toList]at hc;exact hp u v (List.mem_of_getElem? hc)
 exact⟨⟨cs,t,hb⟩,fun u v hc=>(hF u v hc).elim⟩
end
end Go.Proofs.YtnifedmhgncioaaGreatDoor
