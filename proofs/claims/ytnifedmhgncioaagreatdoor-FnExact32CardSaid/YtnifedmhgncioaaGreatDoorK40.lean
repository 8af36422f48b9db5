/- Lemmas that the claim's top text leans on. No condition of their own. -/
import Derived.Test.YtnifedmhgncioaaGreatDoorK38
import Derived.Test.YtnifedmhgncioaaGreatDoorK39
import Derived.Test.YtnifedmhgncioaaGreatDoorK22
namespace Go.Proofs.YtnifedmhgncioaaGreatDoor
open Go.RowKit
set_option linter.unusedSimpArgs false
set_option linter.unusedVariables false
set_option maxHeartbeats 16000000
section
attribute [local go_sem] undef
theorem ze7 {fn:Func} {p:Tmp} {ty:TypeId} (h:fn.results=#[.cell p ty]) (tmps:Array Value) (P:Program) (w:World):
  (results fn tmps).run P w=((asAddr (tmps.getD p undef)).run P w).andThen fun a w₁=>(loadVar ty a).run P w₁:=by
 simp only[results,h];simp[Sem.run_bind,Result.andThen]
theorem vj {P:Program} {fn:Func} {R:Ending->World->Prop} {n:Nat} {env:List (Nat×Value)} {s:Nat->Value} {w:World} {p:Nat} {ty:TypeId} {B:Nat} (v:Value) (hr:fn.results=#[.cell p ty]) (hp:p<n) (hpv:over env s p=.pointer (Option.some ⟨B,0,Option.none⟩))
  (hl:(loadVar ty ⟨B,0,Option.none⟩).run P w=.ok v w) (hR:R (.returned v) w):bodyPost P fn R .ret (Fr n env s) w:=by
 refine bodyPost_ret (v:=v) ?_ (vz ..) hR;rw[ze7 hr,wa n env s p hp,hpv];simp[asAddr,hl,Result.andThen]
def zp1 (s:List UInt8) (k:Nat):List Value:=if k=0 then [.int .i64 0,.string ⟨#[]⟩,.string ⟨#[]⟩] else [.int .i64 (k:Int),.string wn,.string ⟨s.toArray⟩]
def yfw (nm:ByteArray) (s:List UInt8) (k:Nat):List Value:=if k=0 then [.int .i64 0,.string ⟨#[]⟩,.string ⟨#[]⟩] else [.int .i64 (k:Int),.string nm,.string ⟨s.toArray⟩]
def fauZ:List Value:=[.int .i64 0,.string ⟨#[]⟩,.string ⟨#[]⟩]
theorem zsz (v:Value) (xT:TypeId) (w:World):(Instr.typeAssert (.iface 86 v) xT 86 true).run Tryz.prog w=.ok (.tuple #[v,.bool true]) w:=by kernel_rfl
set_option maxRecDepth 100000 in
theorem zos (w:World):Calls Tryz.prog 27 #[.nilIface] w fun e w'=>e=.returned (.agg fauZ.toArray)/\w.grownBy w' none:=by
 refine ye Tryz.func27 rfl (by rw[Tryz.ntmps27];simp) ?_;intro σ hσ;rw[Tryz.ntmps27];have s0:σ 0=.nilIface:=hσ 0 zi;clear hσ;obtain⟨w1,hw1⟩:=zX (w.alloc (.cells fauZ.toArray 25));have hrB:=Row.new w fauZ 25;have hgB:=World.grownBy_alloc w (.cells fauZ.toArray 25) none;rw[hw1]at hrB hgB;unfold fauZ at hw1;have HRB:=zH hrB;have HGB:=zH hgB;clear hrB hgB;obtain⟨B,hB⟩:=zX w.heap.size;rw[hB]at HRB;have k0:=HRB.out.cell 0;have k1:=HRB.out.cell 1;have k2:=HRB.out.cell 2;have t0:=HRB.out.frozen 0;have t1:=HRB.out.frozen 1;have t2:=HRB.out.frozen 2;unfold fauZ at k0 k1 k2;simp only[List.getElem?_cons_zero,List.getElem?_cons_succ]at k0 k1 k2;have HB:=zH hB;go_upto_region 1 with fail;clear hw1 hB;(go_wp2_with fail;repeat ((first|refine cZ ?_|refine cW ?_);go_wp2_with fail));obtain⟨ty,hrow⟩:=((HRB.out.setCell 0 (.int .i64 0)).setCell 1 (.string ⟨#[]⟩)).setCell 2 (.string ⟨#[]⟩);have hBw:w.heap.size<=B:=by have:=HB.out;omega
 refine vj (B:=B) (.agg fauZ.toArray) rfl ze zb ?_ ⟨rfl,yb (yb (yb HGB.out _ hBw) _ hBw) _ hBw⟩;exact run_loadVar_row (P:=Tryz.prog) _ B ty 25 _ (0,0) _ hrow Tryz.underlying25 rfl zg 
end
section
attribute [local go_sem] undef
theorem ErrNf.grown {nm:ByteArray} {w w':World} {s:List UInt8} {k N:Nat} (h:ErrNf nm w s k N) (hg:w.grownBy w' none):ErrNf nm w' s k N:=by
 obtain⟨x,h1,h2⟩:=h;exact⟨x,hg.cell h1 zi,(hg.block N (by obtain⟨hlt,-⟩:=Array.getElem?_eq_some_iff.1 h2;exact hlt) zi).trans h2⟩
theorem zbb {w:World} {N:Nat} {xs:List Value} {t:TypeId} (h:w.heap[N]?=some (.cells xs.toArray t (0,0))) (i:Nat):w.cell? ⟨N,i,none⟩=xs[i]?:=
 Row.cell (xs:=xs) ⟨t,h⟩ i
theorem is_S {nm:ByteArray} {T:Nat} {s:List UInt8} {k N:Nat} {w:World} (he:EnvP T w) (hn:ErrNf nm w s k N) (hk:k=1\/k=2):∃ a:Addr,w.cell? ⟨1,0,none⟩=some (.iface 176 (.pointer (some a)))/\
  Calls Tryz.prog 48 #[.iface 86 (.pointer (some ⟨N,0,none⟩)),.iface 176 (.pointer (some a))] w fun e w'=>e=.returned (.bool (decide (k=1)))/\w'=w:=by
 obtain⟨aS,aR,cS,cR,tS,tR,h1,h2,h3,h4,h5,h6,h7⟩:=he.errs;obtain⟨x,hx,hN⟩:=hn;have hc:=zbb (xs:=[.string nm,.string ⟨s.toArray⟩,x]) hN 2;simp only[List.getElem?_cons_zero,List.getElem?_cons_succ]at hc;refine⟨aS,h4,?_⟩;rcases hk with rfl | rfl
 ·rw[if_pos rfl,h4]at hx;cases hx;exact zdf N aS w hc
 ·rw[if_neg ze,h5]at hx;cases hx;exact zbv N aR aS cR cS tR tS w hc h3.symm h7 h6
theorem is_R {nm:ByteArray} {T:Nat} {s:List UInt8} {k N:Nat} {w:World} (he:EnvP T w) (hn:ErrNf nm w s k N) (hk:k=1\/k=2):∃ a:Addr,w.cell? ⟨2,0,none⟩=some (.iface 176 (.pointer (some a)))/\
  Calls Tryz.prog 48 #[.iface 86 (.pointer (some ⟨N,0,none⟩)),.iface 176 (.pointer (some a))] w fun e w'=>e=.returned (.bool (decide (k=2)))/\w'=w:=by
 obtain⟨aS,aR,cS,cR,tS,tR,h1,h2,h3,h4,h5,h6,h7⟩:=he.errs;obtain⟨x,hx,hN⟩:=hn;have hc:=zbb (xs:=[.string nm,.string ⟨s.toArray⟩,x]) hN 2;simp only[List.getElem?_cons_zero,List.getElem?_cons_succ]at hc;refine⟨aR,h5,?_⟩;rcases hk with rfl | rfl
 ·rw[if_pos rfl,h4]at hx;cases hx;exact zbv N aS aR cS cR tS tR w hc h3 h6 h7
 ·rw[if_neg ze,h5]at hx;cases hx;exact zdf N aR w hc
set_option maxRecDepth 100000 in
theorem zlz {nm:ByteArray} (T N:Nat) (s:List UInt8) (w:World) (he:EnvP T w) (hn:ErrNf nm w s 1 N):Calls Tryz.prog 27 #[.iface 86 (.pointer (some ⟨N,0,none⟩))] w fun e w'=>e=.returned (.agg (yfw nm s 1).toArray)/\w.grownBy w' none:=by
 refine ye Tryz.func27 rfl (by rw[Tryz.ntmps27];simp) ?_;intro σ hσ;rw[Tryz.ntmps27];have s0:σ 0=.iface 86 (.pointer (some ⟨N,0,none⟩)):=hσ 0 zi;clear hσ;have has:=zsz;obtain⟨B,hB⟩:=zX w.heap.size;obtain⟨W1,hW1⟩:=zX (w.alloc (.cells fauZ.toArray 25));have g1:w.grownBy W1 none:=zαe;have r1:Row W1 B fauZ:=zβN;obtain⟨B2,hB2⟩:=zX W1.heap.size;have hlt:B<B2:=by rw[<-hB2];exact r1.lt
 obtain⟨W2,hW2⟩:=zX (W1.alloc (.cells fauZ.toArray 25));have g2:w.grownBy W2 none:=by rw[<-hW2];exact ym g1 (World.grownBy_alloc W1 _ none)
 have r2:Row W2 B fauZ:=by rw[<-hW2];exact r1.alloc _
 have q2:Row W2 B2 fauZ:=by rw[<-hW2,<-hB2];exact Row.new W1 fauZ 25
 obtain⟨W3,hW3⟩:=zX (((W2.setCell ⟨B2,0,none⟩ (.int .i64 3)).setCell ⟨B2,1,none⟩ (.string ⟨#[]⟩)).setCell ⟨B2,2,none⟩ (.string ⟨#[]⟩));have hs1:w.heap.size<=B:=zd;have hs2:w.heap.size<=B2:=zd;have g3:w.grownBy W3 none:=zZ;have hne:B≠B2:=zd;have hne2:B2≠B:=zd;have r3:Row W3 B fauZ:=zP;have q3:Row W3 B2 [.int .i64 3,.string ⟨#[]⟩,.string ⟨#[]⟩]:=zB;obtain⟨W4,hW4⟩:=zX (W3.setCell ⟨B2,0,none⟩ (.int .i64 1));have g4:w.grownBy W4 none:=by rw[<-hW4];exact yb g3 _ hs2
 have r4:Row W4 B fauZ:=by rw[<-hW4];exact r3.setCell_other hne _
 have q4:Row W4 B2 [.int .i64 1,.string ⟨#[]⟩,.string ⟨#[]⟩]:=by rw[<-hW4];exact q3.setCell 0 (.int .i64 1)
 obtain⟨W5,hW5⟩:=zX (W4.setCell ⟨B2,1,none⟩ (.string nm));have g5:w.grownBy W5 none:=by rw[<-hW5];exact yb g4 _ hs2
 have r5:Row W5 B fauZ:=by rw[<-hW5];exact r4.setCell_other hne _
 have q5:Row W5 B2 [.int .i64 1,.string nm,.string ⟨#[]⟩]:=by rw[<-hW5];exact q4.setCell 1 (.string nm)
 obtain⟨W6,hW6⟩:=zX (W5.setCell ⟨B2,2,none⟩ (.string ⟨s.toArray⟩));have g6:w.grownBy W6 none:=by rw[<-hW6];exact yb g5 _ hs2
 have r6:Row W6 B fauZ:=by rw[<-hW6];exact r5.setCell_other hne _
 have q6:Row W6 B2 [.int .i64 1,.string nm,.string ⟨s.toArray⟩]:=by rw[<-hW6];exact q5.setCell 2 (.string ⟨s.toArray⟩)
 have hl6:(loadVar 25 ⟨B2,0,none⟩).run Tryz.prog W6=.ok (.agg #[.int .i64 1,.string nm,.string ⟨s.toArray⟩]) W6:=by
  obtain⟨ty,hrow⟩:=q6;exact run_loadVar_row (P:=Tryz.prog) _ B2 ty 25 _ (0,0) _ hrow Tryz.underlying25 rfl zg
 have n4:W4.cell? ⟨N,0,none⟩=some (.string nm):=by
  obtain⟨x,-,h⟩:=hn.grown g4;exact zbb (xs:=[.string nm,.string ⟨s.toArray⟩,x]) h 0
 have n5:W5.cell? ⟨N,1,none⟩=some (.string ⟨s.toArray⟩):=by
  obtain⟨x,-,h⟩:=hn.grown g5;exact zbb (xs:=[.string nm,.string ⟨s.toArray⟩,x]) h 1
 obtain⟨aS,hcS,hIS⟩:=is_S (he.grown g3 (fun _ e=>zL)) (hn.grown g3) ze;obtain⟨aR,hcR,hIR⟩:=is_R (he.grown g4 (fun _ e=>zL)) (hn.grown g4) ze;have HIS:=zH hIS;have HIR:=zH hIR;have G6:=zH g6;have R6:=zH r6;have HS1:=zH hs1;have HN:=zH hne;have k0:=q2.cell 0;have k1:=q2.cell 1;have k2:=q2.cell 2;have t0:=q2.frozen 0;have t1:=q2.frozen 1;have t2:=q2.frozen 2;have c3:=q3.cell 0;have f3:=q3.frozen 0;have c4:=q4.cell 1;have f4:=q4.frozen 1;have c5:=q5.cell 2;have f5:=q5.frozen 2;have d0:=q6.cell 0;have d1:=q6.cell 1;have d2:=q6.cell 2;have j0:=r6.cell 0;have j1:=r6.cell 1;have j2:=r6.cell 2;have u0:=r6.frozen 0;have u1:=r6.frozen 1;have u2:=r6.frozen 2;unfold fauZ at k0 k1 k2 j0 j1 j2 hW1 hW2;simp only[List.getElem?_cons_zero,List.getElem?_cons_succ]at k0 k1 k2 c3 c4 c5 d0 d1 d2 j0 j1 j2;clear he hn g1 g2 g3 g4 g5 g6 r1 r2 r3 r4 r5 r6 q2 q3 q4 q5 q6 hIS hIR hs1 hs2 hne hne2 hlt;(go_wp2_with fail;repeat ((first|refine cZ ?_|refine cW ?_);go_wp2_with fail));refine HIS.out.mono ?_;rintro e w9 ⟨rfl,hw9⟩;subst w9;(go_wp2_with fail;repeat ((first|refine cZ ?_|refine cW ?_);go_wp2_with fail));refine HIR.out.mono ?_;rintro e w9 ⟨rfl,hw9⟩;subst w9;(go_wp2_with fail;repeat ((first|refine cZ ?_|refine cW ?_);go_wp2_with fail));obtain⟨ty,hrow⟩:=((R6.out.setCell 0 (.int .i64 1)).setCell 1 (.string nm)).setCell 2 (.string ⟨s.toArray⟩);refine vj (B:=B) (.agg (yfw nm s 1).toArray) rfl ze zb ?_ ⟨rfl,yb (yb (yb G6.out _ HS1.out) _ HS1.out) _ HS1.out⟩;exact run_loadVar_row (P:=Tryz.prog) _ B ty 25 _ (0,0) _ hrow Tryz.underlying25 rfl zg
set_option maxRecDepth 100000 in
theorem zly {nm:ByteArray} (T N:Nat) (s:List UInt8) (w:World) (he:EnvP T w) (hn:ErrNf nm w s 2 N):Calls Tryz.prog 27 #[.iface 86 (.pointer (some ⟨N,0,none⟩))] w fun e w'=>e=.returned (.agg (yfw nm s 2).toArray)/\w.grownBy w' none:=by
 refine ye Tryz.func27 rfl (by rw[Tryz.ntmps27];simp) ?_;intro σ hσ;rw[Tryz.ntmps27];have s0:σ 0=.iface 86 (.pointer (some ⟨N,0,none⟩)):=hσ 0 zi;clear hσ;have has:=zsz;obtain⟨B,hB⟩:=zX w.heap.size;obtain⟨W1,hW1⟩:=zX (w.alloc (.cells fauZ.toArray 25));have g1:w.grownBy W1 none:=zαe;have r1:Row W1 B fauZ:=zβN;obtain⟨B2,hB2⟩:=zX W1.heap.size;have hlt:B<B2:=by rw[<-hB2];exact r1.lt
 obtain⟨W2,hW2⟩:=zX (W1.alloc (.cells fauZ.toArray 25));have g2:w.grownBy W2 none:=by rw[<-hW2];exact ym g1 (World.grownBy_alloc W1 _ none)
 have r2:Row W2 B fauZ:=by rw[<-hW2];exact r1.alloc _
 have q2:Row W2 B2 fauZ:=by rw[<-hW2,<-hB2];exact Row.new W1 fauZ 25
 obtain⟨W3,hW3⟩:=zX (((W2.setCell ⟨B2,0,none⟩ (.int .i64 3)).setCell ⟨B2,1,none⟩ (.string ⟨#[]⟩)).setCell ⟨B2,2,none⟩ (.string ⟨#[]⟩));have hs1:w.heap.size<=B:=zd;have hs2:w.heap.size<=B2:=zd;have g3:w.grownBy W3 none:=zZ;have hne:B≠B2:=zd;have hne2:B2≠B:=zd;have r3:Row W3 B fauZ:=zP;have q3:Row W3 B2 [.int .i64 3,.string ⟨#[]⟩,.string ⟨#[]⟩]:=zB;obtain⟨W4,hW4⟩:=zX (W3.setCell ⟨B2,0,none⟩ (.int .i64 2));have g4:w.grownBy W4 none:=by rw[<-hW4];exact yb g3 _ hs2
 have r4:Row W4 B fauZ:=by rw[<-hW4];exact r3.setCell_other hne _
 have q4:Row W4 B2 [.int .i64 2,.string ⟨#[]⟩,.string ⟨#[]⟩]:=by rw[<-hW4];exact q3.setCell 0 (.int .i64 2)
 obtain⟨W5,hW5⟩:=zX (W4.setCell ⟨B2,1,none⟩ (.string nm));have g5:w.grownBy W5 none:=by rw[<-hW5];exact yb g4 _ hs2
 have r5:Row W5 B fauZ:=by rw[<-hW5];exact r4.setCell_other hne _
 have q5:Row W5 B2 [.int .i64 2,.string nm,.string ⟨#[]⟩]:=by rw[<-hW5];exact q4.setCell 1 (.string nm)
 obtain⟨W6,hW6⟩:=zX (W5.setCell ⟨B2,2,none⟩ (.string ⟨s.toArray⟩));have g6:w.grownBy W6 none:=by rw[<-hW6];exact yb g5 _ hs2
 have r6:Row W6 B fauZ:=by rw[<-hW6];exact r5.setCell_other hne _
 have q6:Row W6 B2 [.int .i64 2,.string nm,.string ⟨s.toArray⟩]:=by rw[<-hW6];exact q5.setCell 2 (.string ⟨s.toArray⟩)
 have hl6:(loadVar 25 ⟨B2,0,none⟩).run Tryz.prog W6=.ok (.agg #[.int .i64 2,.string nm,.string ⟨s.toArray⟩]) W6:=by
  obtain⟨ty,hrow⟩:=q6;exact run_loadVar_row (P:=Tryz.prog) _ B2 ty 25 _ (0,0) _ hrow Tryz.underlying25 rfl zg
 have n4:W4.cell? ⟨N,0,none⟩=some (.string nm):=by
  obtain⟨x,-,h⟩:=hn.grown g4;exact zbb (xs:=[.string nm,.string ⟨s.toArray⟩,x]) h 0
 have n5:W5.cell? ⟨N,1,none⟩=some (.string ⟨s.toArray⟩):=by
  obtain⟨x,-,h⟩:=hn.grown g5;exact zbb (xs:=[.string nm,.string ⟨s.toArray⟩,x]) h 1
 obtain⟨aS,hcS,hIS⟩:=is_S (he.grown g3 (fun _ e=>zL)) (hn.grown g3) ze;obtain⟨aR,hcR,hIR⟩:=is_R (he.grown g3 (fun _ e=>zL)) (hn.grown g3) ze;have HIS:=zH hIS;have HIR:=zH hIR;have G6:=zH g6;have R6:=zH r6;have HS1:=zH hs1;have HN:=zH hne;have k0:=q2.cell 0;have k1:=q2.cell 1;have k2:=q2.cell 2;have t0:=q2.frozen 0;have t1:=q2.frozen 1;have t2:=q2.frozen 2;have c3:=q3.cell 0;have f3:=q3.frozen 0;have c4:=q4.cell 1;have f4:=q4.frozen 1;have c5:=q5.cell 2;have f5:=q5.frozen 2;have d0:=q6.cell 0;have d1:=q6.cell 1;have d2:=q6.cell 2;have j0:=r6.cell 0;have j1:=r6.cell 1;have j2:=r6.cell 2;have u0:=r6.frozen 0;have u1:=r6.frozen 1;have u2:=r6.frozen 2;unfold fauZ at k0 k1 k2 j0 j1 j2 hW1 hW2;simp only[List.getElem?_cons_zero,List.getElem?_cons_succ]at k0 k1 k2 c3 c4 c5 d0 d1 d2 j0 j1 j2;clear he hn g1 g2 g3 g4 g5 g6 r1 r2 r3 r4 r5 r6 q2 q3 q4 q5 q6 hIS hIR hs1 hs2 hne hne2 hlt;(go_wp2_with fail;repeat ((first|refine cZ ?_|refine cW ?_);go_wp2_with fail));refine HIS.out.mono ?_;rintro e w9 ⟨rfl,hw9⟩;subst w9;(go_wp2_with fail;repeat ((first|refine cZ ?_|refine cW ?_);go_wp2_with fail));refine HIR.out.mono ?_;rintro e w9 ⟨rfl,hw9⟩;subst w9;(go_wp2_with fail;repeat ((first|refine cZ ?_|refine cW ?_);go_wp2_with fail));obtain⟨ty,hrow⟩:=((R6.out.setCell 0 (.int .i64 2)).setCell 1 (.string nm)).setCell 2 (.string ⟨s.toArray⟩);refine vj (B:=B) (.agg (yfw nm s 2).toArray) rfl ze zb ?_ ⟨rfl,yb (yb (yb G6.out _ HS1.out) _ HS1.out) _ HS1.out⟩;exact run_loadVar_row (P:=Tryz.prog) _ B ty 25 _ (0,0) _ hrow Tryz.underlying25 rfl zg
theorem yfv {nm:ByteArray} (T:Nat) (s:List UInt8) (k:Nat) (ev:Value) (w:World) (he:EnvP T w) (hq:yfx nm w s k ev):
  Calls Tryz.prog 27 #[ev] w fun e w'=>e=.returned (.agg (yfw nm s k).toArray)/\w.grownBy w' none:=by
 rcases hq with⟨rfl,rfl⟩ | ⟨hk,N,rfl,hn⟩
 ·exact zos w
 ·rcases hk with rfl | rfl
  ·exact zlz T N s w he hn
  ·exact zly T N s w he hn
theorem ziz (T:Nat) (s:List UInt8) (k:Nat) (ev:Value) (w:World) (he:EnvP T w) (hq:yfx wn w s k ev):
  Calls Tryz.prog 27 #[ev] w fun e w'=>e=.returned (.agg (zp1 s k).toArray)/\w.grownBy w' none:=yfv (nm:=wn) T s k ev w he hq
end
section
attribute [local go_sem] undef
theorem zot (b:Nat) (hb:b<18446744073709551616) (w:World):(callFunc 26 #[.float .f64 b]).run Tryz.prog w=.ok (.value (.int .u64 (b:Int))) w:=by kernel_rfl
theorem zb4 {fn:Func} {p u:Tmp} {ty:TypeId} (h:fn.results=#[.tmp u,.cell p ty]) (tmps:Array Value) (P:Program) (w:World):
  (results fn tmps).run P w=((asAddr (tmps.getD p undef)).run P w).andThen fun a w₁=>((loadVar ty a).run P w₁).andThen fun v w₂=>.ok (.tuple #[tmps.getD u undef,v]) w₂:=by
 simp only[results,h];simp[Sem.run_bind,Result.andThen]
theorem zqm {P:Program} {fn:Func} {R:Ending->World->Prop} {n:Nat} {env:List (Nat×Value)} {s:Nat->Value} {w:World} {p u:Nat} {ty:TypeId} {B:Nat} (x v:Value) (hr:fn.results=#[.tmp u,.cell p ty]) (hu:u<n) (hp:p<n) (hx:over env s u=x) (hpv:over env s p=.pointer (Option.some ⟨B,0,Option.none⟩))
  (hl:(loadVar ty ⟨B,0,Option.none⟩).run P w=.ok v w) (hR:R (.returned (.tuple #[x,v])) w):bodyPost P fn R .ret (Fr n env s) w:=by
 refine bodyPost_ret (v:=.tuple #[x,v]) ?_ (vz ..) hR;rw[zb4 hr,wa n env s p hp,wa n env s u hu,hpv,hx];simp[asAddr,hl,Result.andThen]
theorem zwh (s:List UInt8) (k:Nat):∃ (a:Int) (b c:ByteArray),zp1 s k=[.int .i64 a,.string b,.string c]:=by unfold zp1;split <;> exact⟨_,_,_,rfl⟩
theorem zvp (F:Nat) (bias:Int) (inf b:Nat) (l:List Nat) (x:Int) (hbias:1<=bias) (hinf:inf=(2*bias+1).toNat*2^F):spN F bias inf b l x<=inf:=by
 unfold spN;split
 ·omega
 ·split
  ·exact Nat.le_refl _
  ·exact ud F bias inf _ _ (qg _ (by unfold yfj;split <;> decide)) hbias hinf
theorem zjr (t:Txt):spB 52 1023 9218868437227405312 t<=9218868437227405312:=zvp 52 1023 _ _ _ _ ze rfl
theorem PaQ64.lt {s:List UInt8} {v k:Nat} (h:PaQ64 s v k):v<18446744073709551616:=by
 unfold PaQ64 at h;split at h
 ·omega
 ·rename_i t ht;obtain⟨h0,h1,h2⟩:=h;rcases za0 ht with e | e | e
  ·have:=(h2 e).1;have h3:=zjr t;have h4:sgB t.neg<=9223372036854775808:=by unfold sgB;split <;> omega
   omega
  ·rw[(h1 e).1];cases t.neg <;> decide
  ·exact (h0 e).1.2
set_option maxRecDepth 100000 in
theorem zhd (T:Nat) (s:List UInt8) (w:World) (he:EnvP T w) (hs:s.length<=800):
  Calls Tryz.prog 11 #[.string ⟨s.toArray⟩] w fun e w'=>(∃ v k:Nat,e=.returned (.tuple #[.int .u64 (v:Int),.agg (zp1 s k).toArray])/\PaQ64 s v k)/\w.grownBy w' none:=by
 refine ye Tryz.func11 rfl (by rw[Tryz.ntmps11];simp) ?_;intro σ hσ;rw[Tryz.ntmps11];have s0:σ 0=.string ⟨s.toArray⟩:=hσ 0 zi;clear hσ;obtain⟨B,hB⟩:=zX w.heap.size;obtain⟨W1,hW1⟩:=zX (w.alloc (.cells fauZ.toArray 25));have g1:w.grownBy W1 none:=zαe;have r1:Row W1 B fauZ:=zβN;have HAT:=zH (zgr T s W1 (he.grown g1 (fun _ e=>zL)) hs);have hs1:w.heap.size<=B:=zd;have HB:=zH hs1;have G1:=zH g1;have R1:=zH r1;have HE:=zH he;unfold fauZ at hW1;clear hs1 g1 r1 he;(go_wp2_with fail;repeat ((first|refine cZ ?_|refine cW ?_);go_wp2_with fail));refine HAT.out.mono ?_;rintro e w2 ⟨⟨v,k,ev,rfl,hp,hq⟩,hg2⟩;clear hW1;have hv:v<18446744073709551616:=hp.lt;have hf:=fun W=>zot v hv W
 have HFO:=zH (ziz T s k ev w2 (HE.out.grown (ym G1.out hg2) (fun _ e=>zL)) hq);have G2:=zH (ym G1.out hg2);have R2:=zH (R1.out.grown hg2 zi);have HP:=zH hp;clear hp hq hg2 hv HAT HE R1 G1;(go_wp2_with fail;repeat ((first|refine cZ ?_|refine cW ?_);go_wp2_with fail));refine HFO.out.mono ?_;rintro e w3 ⟨rfl,hg3⟩;have G3:=zH (ym G2.out hg3);have R3:=zH (R2.out.grown hg3 zi);obtain⟨fa,fb,fc,hfa⟩:=zwh s k;have HF:=zH hfa;rw[hfa];have k0:=R3.out.cell 0;have k1:=R3.out.cell 1;have k2:=R3.out.cell 2;have u0:=R3.out.frozen 0;have u1:=R3.out.frozen 1;have u2:=R3.out.frozen 2;unfold fauZ at k0 k1 k2;simp only[List.getElem?_cons_zero,List.getElem?_cons_succ]at k0 k1 k2;clear hg3 hfa;(go_wp2_with fail;repeat ((first|refine cZ ?_|refine cW ?_);go_wp2_with fail));obtain⟨ty,hrow⟩:=((R3.out.setCell 0 (.int .i64 fa)).setCell 1 (.string fb)).setCell 2 (.string fc);refine zqm (B:=B) (.int .u64 (v:Int)) (.agg #[.int .i64 fa,.string fb,.string fc]) rfl ze ze zb zb ?_ ⟨⟨v,k,zβG,HP.out⟩,yb (yb (yb G3.out _ HB.out) _ HB.out) _ HB.out⟩;exact run_loadVar_row (P:=Tryz.prog) _ B ty 25 _ (0,0) _ hrow Tryz.underlying25 rfl zg
end
theorem zzf (v:Nat) (hv:v<4294967296):zyo v<18446744073709551616:=by
 unfold zyo;by_cases hf:v%2147483648<2139095040
 ·rw[if_pos hf];exact (zxi v hv hf).1
 ·rw[if_neg hf];unfold sgW zs5;split <;> split <;> omega
def RdNum (s:List UInt8) (neg:Bool) (a b:Nat):Prop:=b≠0/\∃ t,ul s=some t/\t.kind=0/\t.neg=neg/\∀ (F:Nat) (bias:Int) (inf:Nat),1<=bias->bias<=1023->1<=F->bias+F<=1075->spB F bias inf t=xh F bias inf a b
theorem RdNum.pa64 {s:List UInt8} {n:Bool} {a b v k:Nat} (h:RdNum s n a b) (hp:PaQ64 s v k):v=sgB n+xd a b/\k=if xd a b=9218868437227405312 then 2 else 0:=by
 obtain⟨hb,t,h1,h2,h3,h4⟩:=h;unfold PaQ64 at hp;rw[h1]at hp;obtain⟨e1,e2⟩:=hp.2.2 h2;rw[h4 52 1023 9218868437227405312 ze ze ze ze]at e1 e2;rw[h3]at e1;exact⟨e1,e2⟩
theorem ybl {s:List UInt8} {x:Bool×Nat×Nat} (h:zjy s=some x):∃ t,ul s=some t/\t.kind=0:=by
 unfold zjy at h;cases hr:ul s with
 | none=>rw[hr]at h;cases h
 | some t=>
  rw[hr]at h;dsimp only at h;by_cases hk:t.kind=0
  ·exact⟨t,rfl,hk⟩
  ·rw[if_pos hk]at h;cases h
theorem ybe {s:List UInt8} {ng:Bool} {n d:Nat} (h:zjy s=some (ng,n,d)):RdNum s ng n d:=by
 obtain⟨t,hr,hk⟩:=ybl h;have hok:=(ze9 hr).2 hk;unfold zjy at h;rw[hr]at h;dsimp only at h;rw[if_neg (by rw[hk];decide)]at h;by_cases h0:t.digits=[]
 ·rw[if_pos h0]at h;cases h;refine⟨ze,t,hr,hk,rfl,fun F bias inf b1 b2 f1 f2=>?_⟩;rw[zai F bias inf 1 ze b1 f1];unfold spB spN;rw[if_pos (by unfold zq0;rw[if_pos h0])]
 ·rw[if_neg h0]at h;by_cases ho:zb8 t.base t.digits t.exp=0
  ·rw[if_neg (by rw[ho];decide)]at h;cases h;refine⟨qg _ (by rcases hok.1 with e | e <;> rw[e] <;> decide),t,hr,hk,rfl,fun F bias inf b1 b2 f1 f2=>?_⟩;have hop:zq0 t.base t.digits t.exp=0:=ho;unfold spB spN;rw[hop,if_neg ze,if_neg ze];rfl
  ·rw[if_pos ho]at h;cases h
def hval (l:List UInt8):Nat:=l.foldl (fun n c=>n*16+(dig 16 c).getD 0) 0
theorem ytl (b:Nat) (hb:b<4294967296) (hE:b / 2^23%2^8≠2^8-1):(zor 8 23 (-127) b-((23:Nat):Int)-(-189+((40:Nat):Int))).toNat*2^23+zen 8 23 b=b%2147483648/\Kd 40 (-189) 23 (zen 8 23 b) (zor 8 23 (-127) b)/\(2^23<=zen 8 23 b\/zor 8 23 (-127) b-((23:Nat):Int)=-189+((40:Nat):Int))/\sgC (yta 8 23 b)+b%2147483648=b/\b%2147483648<2139095040:=by
 unfold Kd zen zor flE flF yta sgC;rw[show (2:Nat)^(8+23)=2147483648 by decide,show (2:Nat)^24=16777216 by decide]at *
 rw[show (2:Nat)^23=8388608 by decide,show (2:Nat)^8=256 by decide]at *
 have hd:=Nat.div_add_mod b 8388608;have hd2:=Nat.div_add_mod (b / 8388608) 256;have hq:b / 8388608 / 256=b / 2147483648:=by rw[Nat.div_div_eq_div_mul]
 have hm:b%2147483648=b / 8388608%256*8388608+b%8388608:=zd;have hr:=Nat.mod_lt b (show 0<8388608 by decide);have hr2:=Nat.mod_lt (b / 8388608) (show 0<256 by decide);have hs:b / 2147483648=0\/b / 2147483648=1:=zd;generalize b / 8388608%256=e at *
 generalize b%8388608=m at *
 generalize b / 2147483648=q at *
 generalize b%2147483648=y at *
 refine⟨?_,?_,?_,?_,?_⟩
 ·split <;> omega
 ·right;refine⟨rfl,rfl,rfl,?_,?_,?_⟩ <;> split <;> omega
 ·split <;> omega
 ·rcases hs with rfl | rfl
  ·simp;omega
  ·simp;omega
 ·omega
theorem ex32 (b:Nat) (hb:b<4294967296) (hfin:b / 2^23%2^8≠2^8-1):
  (xb b 102 149).length<=800/\∀ v k,PaQ64 (xb b 102 149) v k->k=0/\v=zyo b:=by
 obtain⟨e1,e2,e3,e4,e5⟩:=ytl b hb hfin;have hm:zen 8 23 b<2^24:=by unfold Kd at e2;omega
 obtain⟨a,d,h1,h2,h3,-,-,h6,-⟩:=yt0 b hfin hm (by unfold Kd at e2;omega) (by unfold Kd at e2;omega);refine⟨h6,fun v k hp=>?_⟩;have hr:=ybe h1;obtain⟨g1,g2⟩:=hr.pa64 hp;obtain⟨w1,w2,w3,-⟩:=zxi b hb e5;have hw:zyo b=zma b:=by unfold zyo;rw[if_pos e5]
 have hx:a*vD (e32 b)=vN (m32 b) (e32 b)*d:=by
  unfold vN vD m32 e32;exact h2
 have hn:xd a d=xd (vN (m32 b) (e32 b)) (vD (e32 b)):=ue 52 1023 9218868437227405312 hr.1 (Nat.ne_of_gt (zjf _)) hx;have hdef:zma b=xd (vN (m32 b) (e32 b)) (vD (e32 b))+if 2147483648<=b then 9223372036854775808 else 0:=rfl
 rw[<-hn]at hdef;have hsg:sgB (yta 8 23 b)=if 2147483648<=b then 9223372036854775808 else 0:=by
  unfold yta sgB;rw[show (2:Nat)^(8+23)=2147483648 by decide];by_cases h:2147483648<=b
  ·rw[if_pos h,decide_eq_true zd];rfl
  ·rw[if_neg h,decide_eq_false zd];rfl
 rw[hsg]at g1;have hle:xd a d<=9218868437227405312:=ud 52 1023 9218868437227405312 a d hr.1 ze ze;have hne:xd a d≠9218868437227405312:=by
  intro h;rw[h]at hdef;rw[hdef]at w2;split at w2 <;> omega
 rw[if_neg hne]at g2;exact⟨g2,by rw[g1,hw,hdef,Nat.add_comm]⟩
theorem yk4 {inf s b:Nat} (h:¬b%s<inf):(kn inf s b != 0)=true:=by
 unfold kn;rw[if_neg h];split <;> rfl
end Go.Proofs.YtnifedmhgncioaaGreatDoor
