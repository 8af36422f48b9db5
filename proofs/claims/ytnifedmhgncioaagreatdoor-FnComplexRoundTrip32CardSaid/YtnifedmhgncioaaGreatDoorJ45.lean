/- Lemmas that the claim's top text leans on. No condition of their own. -/
import Derived.Test.YtnifedmhgncioaaGreatDoorJ44
import Derived.Test.YtnifedmhgncioaaGreatDoorJ33
namespace Go.Proofs.YtnifedmhgncioaaGreatDoor
open Go.RowKit
set_option linter.unusedSimpArgs false
set_option linter.unusedVariables false
set_option maxHeartbeats 16000000
section
attribute [local go_sem] undef
theorem yf4 {fn:Func} {p u v:Tmp} {ty:TypeId} (h:fn.results=#[.tmp u,.tmp v,.cell p ty]) (tmps:Array Value) (P:Program) (w:World):
  (results fn tmps).run P w=((asAddr (tmps.getD p undef)).run P w).andThen fun a w₁=>((loadVar ty a).run P w₁).andThen fun x w₂=>.ok (.tuple #[tmps.getD u undef,tmps.getD v undef,x]) w₂:=by
 simp only[results,h];simp[Sem.run_bind,Result.andThen]
theorem yg1 {P:Program} {fn:Func} {R:Ending->World->Prop} {n:Nat} {env:List (Nat×Value)} {s:Nat->Value} {w:World} {p u q:Nat} {ty:TypeId} {B:Nat} (x y v:Value) (hr:fn.results=#[.tmp u,.tmp q,.cell p ty]) (hu:u<n) (hq:q<n) (hp:p<n) (hx:over env s u=x) (hy:over env s q=y) (hpv:over env s p=.pointer (Option.some ⟨B,0,Option.none⟩))
  (hl:(loadVar ty ⟨B,0,Option.none⟩).run P w=.ok v w) (hR:R (.returned (.tuple #[x,y,v])) w):bodyPost P fn R .ret (Fr n env s) w:=by
 refine bodyPost_ret (v:=.tuple #[x,y,v]) ?_ (vz ..) hR;rw[yf4 hr,wa n env s p hp,wa n env s u hu,wa n env s q hq,hpv,hx,hy];simp[asAddr,hl,Result.andThen]
theorem yhu (nm:ByteArray) (s:List UInt8) (k:Nat):∃ (a:Int) (b c:ByteArray),yfw nm s k=[.int .i64 a,.string b,.string c]:=by unfold yfw;split <;> exact⟨_,_,_,rfl⟩
set_option maxRecDepth 100000 in
theorem ygv (T:Nat) (s:List UInt8) (w:World) (he:EnvP T w) (hs:s.length<=800):
  Calls Tryz.prog 16 #[.string ⟨s.toArray⟩] w fun e w'=>(∃ x y k:Nat,e=.returned (.tuple #[.int .u64 (x:Int),.int .u64 (y:Int),.agg (yfw yf0 s k).toArray])/\yhe yij s x y k)/\w.grownBy w' none:=by
 refine ye Tryz.func16 rfl (by rw[Tryz.ntmps16];simp) ?_;intro σ hσ;rw[Tryz.ntmps16];have s0:σ 0=.string ⟨s.toArray⟩:=hσ 0 zi;clear hσ;obtain⟨B,hB⟩:=zX w.heap.size;obtain⟨W1,hW1⟩:=zX (w.alloc (.cells fauZ.toArray 25));have g1:w.grownBy W1 none:=zαe;have r1:Row W1 B fauZ:=zβN;have HAT:=zH (ygj T s 64 W1 (yhe yij s) (he.grown g1 (fun _ e=>zL)) hs (fun x y k h=>(yf8 (fun _ _ _ _ h=>yh0 h) h).2.2) (ygh T s W1 (he.grown g1 (fun _ e=>zL)) hs));have hs1:w.heap.size<=B:=zd;have HB:=zH hs1;have G1:=zH g1;have R1:=zH r1;have HE:=zH he;unfold fauZ at hW1;clear hs1 g1 r1 he;(go_wp2_with fail;repeat ((first|refine cZ ?_|refine cW ?_);go_wp2_with fail));refine HAT.out.mono ?_;rintro e w2 ⟨⟨x,y,k,ev,rfl,hp,hq⟩,hg2⟩;clear hW1;obtain⟨hx,hy,-⟩:=yf8 (fun _ _ _ _ h=>yh0 h) hp;have hf:=fun W=>zot x hx W
 have hf2:=fun W=>zot y hy W
 have HFO:=zH (yfv (nm:=yf0) T s k ev w2 (HE.out.grown (ym G1.out hg2) (fun _ e=>zL)) hq);have G2:=zH (ym G1.out hg2);have R2:=zH (R1.out.grown hg2 zi);have HP:=zH hp;clear hp hq hg2 hx hy HAT HE R1 G1;(go_wp2_with fail;repeat ((first|refine cZ ?_|refine cW ?_);go_wp2_with fail));refine HFO.out.mono ?_;rintro e w3 ⟨rfl,hg3⟩;have G3:=zH (ym G2.out hg3);have R3:=zH (R2.out.grown hg3 zi);obtain⟨fa,fb,fc,hfa⟩:=yhu yf0 s k;have HF:=zH hfa;rw[hfa];have k0:=R3.out.cell 0;have k1:=R3.out.cell 1;have k2:=R3.out.cell 2;have u0:=R3.out.frozen 0;have u1:=R3.out.frozen 1;have u2:=R3.out.frozen 2;unfold fauZ at k0 k1 k2;simp only[List.getElem?_cons_zero,List.getElem?_cons_succ]at k0 k1 k2;clear hg3 hfa;(go_wp2_with fail;repeat ((first|refine cZ ?_|refine cW ?_);go_wp2_with fail));obtain⟨ty,hrow⟩:=((R3.out.setCell 0 (.int .i64 fa)).setCell 1 (.string fb)).setCell 2 (.string fc);refine yg1 (B:=B) (.int .u64 (x:Int)) (.int .u64 (y:Int)) (.agg #[.int .i64 fa,.string fb,.string fc]) rfl ze ze ze zb zb zb ?_ ⟨⟨x,y,k,zβG,HP.out⟩,yb (yb (yb G3.out _ HB.out) _ HB.out) _ HB.out⟩;exact run_loadVar_row (P:=Tryz.prog) _ B ty 25 _ (0,0) _ hrow Tryz.underlying25 rfl zg 
end
end Go.Proofs.YtnifedmhgncioaaGreatDoor
