/- Lemmas that the claim's top text leans on. No condition of their own. -/
import Derived.Test.YtnifedmhgncioaaDoorK27
import Derived.Test.YtnifedmhgncioaaDoorK28
import Derived.Test.YtnifedmhgncioaaDoorK26
namespace Go.Proofs.YtnifedmhgncioaaDoor
open Go.RowKit
set_option linter.unusedSimpArgs false
set_option linter.unusedVariables false
set_option maxHeartbeats 16000000
section
attribute [local go_sem] undef
theorem ze7 {fn:Func} {p:Tmp} {ty:TypeId} (h:fn.results=#[.cell p ty]) (tmps:Array Value) (P:Program) (w:World):
  (results fn tmps).run P w=((asAddr (tmps.getD p undef)).run P w).andThen fun a w₁=>(loadVar ty a).run P w₁:=by
 simp only[results,h];simp[Sem.run_bind,Result.andThen]
theorem vj {P:Program} {fn:Func} {R:Ending->World->Prop} {n:Nat} {env:List (Nat×Value)} {s:Nat->Value} {w:World} {p:Nat} {ty:TypeId} {B:Nat} (v:Value) (hr:fn.results=#[.cell p ty]) (hp:p<n) (hpv:over env s p=.pointer (Option.some ⟨B,0,Option.none⟩))
  (hl:(loadVar ty ⟨B,0,Option.none⟩).run P w=.ok v w) (hR:R (.returned v) w):bodyPost P fn R .ret (Fr n env s) w:=by
 refine bodyPost_ret (v:=v) ?_ (vz ..) hR;rw[ze7 hr,wa n env s p hp,hpv];simp[asAddr,hl,Result.andThen]
def zp1 (s:List UInt8) (k:Nat):List Value:=if k=0 then [.int .i64 0,.string ⟨#[]⟩,.string ⟨#[]⟩] else [.int .i64 (k:Int),.string wn,.string ⟨s.toArray⟩]
def yfw (nm:ByteArray) (s:List UInt8) (k:Nat):List Value:=if k=0 then [.int .i64 0,.string ⟨#[]⟩,.string ⟨#[]⟩] else [.int .i64 (k:Int),.string nm,.string ⟨s.toArray⟩]
def fauZ:List Value:=[.int .i64 0,.string ⟨#[]⟩,.string ⟨#[]⟩]
theorem zsz (v:Value) (xT:TypeId) (w:World):(Instr.typeAssert (.iface 42 v) xT 42 true).run Tryd.prog w=.ok (.tuple #[v,.bool true]) w:=by kernel_rfl
set_option maxRecDepth 100000 in
theorem zos (w:World):Calls Tryd.prog 9 #[.nilIface] w fun e w'=>e=.returned (.agg fauZ.toArray)/\w.grownBy w' none:=by
 refine ye Tryd.func9 rfl (by rw[Tryd.ntmps9];simp) ?_;intro σ hσ;rw[Tryd.ntmps9];have s0:σ 0=.nilIface:=hσ 0 zi;clear hσ;obtain⟨w1,hw1⟩:=zX (w.alloc (.cells fauZ.toArray 27));have hrB:=Row.new w fauZ 27;have hgB:=World.grownBy_alloc w (.cells fauZ.toArray 27) none;rw[hw1]at hrB hgB;unfold fauZ at hw1;have HRB:=zH hrB;have HGB:=zH hgB;clear hrB hgB;obtain⟨B,hB⟩:=zX w.heap.size;rw[hB]at HRB;have k0:=HRB.out.cell 0;have k1:=HRB.out.cell 1;have k2:=HRB.out.cell 2;have t0:=HRB.out.frozen 0;have t1:=HRB.out.frozen 1;have t2:=HRB.out.frozen 2;unfold fauZ at k0 k1 k2;simp only[List.getElem?_cons_zero,List.getElem?_cons_succ]at k0 k1 k2;have HB:=zH hB;go_upto_region 1 with fail;clear hw1 hB;(go_wp2_with fail;repeat ((first|refine cZ ?_|refine cW ?_);go_wp2_with fail));obtain⟨ty,hrow⟩:=((HRB.out.setCell 0 (.int .i64 0)).setCell 1 (.string ⟨#[]⟩)).setCell 2 (.string ⟨#[]⟩);have hBw:w.heap.size<=B:=by have:=HB.out;omega
 refine vj (B:=B) (.agg fauZ.toArray) rfl ze zb ?_ ⟨rfl,yb (yb (yb HGB.out _ hBw) _ hBw) _ hBw⟩;exact run_loadVar_row (P:=Tryd.prog) _ B ty 27 _ (0,0) _ hrow Tryd.underlying27 rfl zg 
end
section
attribute [local go_sem] undef
theorem ErrNf.grown {nm:ByteArray} {w w':World} {s:List UInt8} {k N:Nat} (h:ErrNf nm w s k N) (hg:w.grownBy w' none):ErrNf nm w' s k N:=by
 obtain⟨x,h1,h2⟩:=h;exact⟨x,hg.cell h1 zi,(hg.block N (by obtain⟨hlt,-⟩:=Array.getElem?_eq_some_iff.1 h2;exact hlt) zi).trans h2⟩
theorem zbb {w:World} {N:Nat} {xs:List Value} {t:TypeId} (h:w.heap[N]?=some (.cells xs.toArray t (0,0))) (i:Nat):w.cell? ⟨N,i,none⟩=xs[i]?:=
 Row.cell (xs:=xs) ⟨t,h⟩ i
theorem is_S {nm:ByteArray} {T:Nat} {s:List UInt8} {k N:Nat} {w:World} (he:EnvP T w) (hn:ErrNf nm w s k N) (hk:k=1\/k=2):∃ a:Addr,w.cell? ⟨1,0,none⟩=some (.iface 102 (.pointer (some a)))/\
  Calls Tryd.prog 14 #[.iface 42 (.pointer (some ⟨N,0,none⟩)),.iface 102 (.pointer (some a))] w fun e w'=>e=.returned (.bool (decide (k=1)))/\w'=w:=by
 obtain⟨aS,aR,cS,cR,tS,tR,h1,h2,h3,h4,h5,h6,h7⟩:=he.errs;obtain⟨x,hx,hN⟩:=hn;have hc:=zbb (xs:=[.string nm,.string ⟨s.toArray⟩,x]) hN 2;simp only[List.getElem?_cons_zero,List.getElem?_cons_succ]at hc;refine⟨aS,h4,?_⟩;rcases hk with rfl | rfl
 ·rw[if_pos rfl,h4]at hx;cases hx;exact zdf N aS w hc
 ·rw[if_neg ze,h5]at hx;cases hx;exact zbv N aR aS cR cS tR tS w hc h3.symm h7 h6
theorem is_R {nm:ByteArray} {T:Nat} {s:List UInt8} {k N:Nat} {w:World} (he:EnvP T w) (hn:ErrNf nm w s k N) (hk:k=1\/k=2):∃ a:Addr,w.cell? ⟨2,0,none⟩=some (.iface 102 (.pointer (some a)))/\
  Calls Tryd.prog 14 #[.iface 42 (.pointer (some ⟨N,0,none⟩)),.iface 102 (.pointer (some a))] w fun e w'=>e=.returned (.bool (decide (k=2)))/\w'=w:=by
 obtain⟨aS,aR,cS,cR,tS,tR,h1,h2,h3,h4,h5,h6,h7⟩:=he.errs;obtain⟨x,hx,hN⟩:=hn;have hc:=zbb (xs:=[.string nm,.string ⟨s.toArray⟩,x]) hN 2;simp only[List.getElem?_cons_zero,List.getElem?_cons_succ]at hc;refine⟨aR,h5,?_⟩;rcases hk with rfl | rfl
 ·rw[if_pos rfl,h4]at hx;cases hx;exact zbv N aS aR cS cR tS tR w hc h3 h6 h7
 ·rw[if_neg ze,h5]at hx;cases hx;exact zdf N aR w hc
set_option maxRecDepth 100000 in
theorem zlz {nm:ByteArray} (T N:Nat) (s:List UInt8) (w:World) (he:EnvP T w) (hn:ErrNf nm w s 1 N):Calls Tryd.prog 9 #[.iface 42 (.pointer (some ⟨N,0,none⟩))] w fun e w'=>e=.returned (.agg (yfw nm s 1).toArray)/\w.grownBy w' none:=by
 refine ye Tryd.func9 rfl (by rw[Tryd.ntmps9];simp) ?_;intro σ hσ;rw[Tryd.ntmps9];have s0:σ 0=.iface 42 (.pointer (some ⟨N,0,none⟩)):=hσ 0 zi;clear hσ;have has:=zsz;obtain⟨B,hB⟩:=zX w.heap.size;obtain⟨W1,hW1⟩:=zX (w.alloc (.cells fauZ.toArray 27));have g1:w.grownBy W1 none:=zαe;have r1:Row W1 B fauZ:=zγe;obtain⟨B2,hB2⟩:=zX W1.heap.size;have hlt:B<B2:=by rw[<-hB2];exact r1.lt
 obtain⟨W2,hW2⟩:=zX (W1.alloc (.cells fauZ.toArray 27));have g2:w.grownBy W2 none:=by rw[<-hW2];exact ym g1 (World.grownBy_alloc W1 _ none)
 have r2:Row W2 B fauZ:=by rw[<-hW2];exact r1.alloc _
 have q2:Row W2 B2 fauZ:=by rw[<-hW2,<-hB2];exact Row.new W1 fauZ 27
 obtain⟨W3,hW3⟩:=zX (((W2.setCell ⟨B2,0,none⟩ (.int .i64 3)).setCell ⟨B2,1,none⟩ (.string ⟨#[]⟩)).setCell ⟨B2,2,none⟩ (.string ⟨#[]⟩));have hs1:w.heap.size<=B:=zd;have hs2:w.heap.size<=B2:=zd;have g3:w.grownBy W3 none:=zZ;have hne:B≠B2:=zd;have hne2:B2≠B:=zd;have r3:Row W3 B fauZ:=zP;have q3:Row W3 B2 [.int .i64 3,.string ⟨#[]⟩,.string ⟨#[]⟩]:=zB;obtain⟨W4,hW4⟩:=zX (W3.setCell ⟨B2,0,none⟩ (.int .i64 1));have g4:w.grownBy W4 none:=by rw[<-hW4];exact yb g3 _ hs2
 have r4:Row W4 B fauZ:=by rw[<-hW4];exact r3.setCell_other hne _
 have q4:Row W4 B2 [.int .i64 1,.string ⟨#[]⟩,.string ⟨#[]⟩]:=by rw[<-hW4];exact q3.setCell 0 (.int .i64 1)
 obtain⟨W5,hW5⟩:=zX (W4.setCell ⟨B2,1,none⟩ (.string nm));have g5:w.grownBy W5 none:=by rw[<-hW5];exact yb g4 _ hs2
 have r5:Row W5 B fauZ:=by rw[<-hW5];exact r4.setCell_other hne _
 have q5:Row W5 B2 [.int .i64 1,.string nm,.string ⟨#[]⟩]:=by rw[<-hW5];exact q4.setCell 1 (.string nm)
 obtain⟨W6,hW6⟩:=zX (W5.setCell ⟨B2,2,none⟩ (.string ⟨s.toArray⟩));have g6:w.grownBy W6 none:=by rw[<-hW6];exact yb g5 _ hs2
 have r6:Row W6 B fauZ:=by rw[<-hW6];exact r5.setCell_other hne _
 have q6:Row W6 B2 [.int .i64 1,.string nm,.string ⟨s.toArray⟩]:=by rw[<-hW6];exact q5.setCell 2 (.string ⟨s.toArray⟩)
 have hl6:(loadVar 27 ⟨B2,0,none⟩).run Tryd.prog W6=.ok (.agg #[.int .i64 1,.string nm,.string ⟨s.toArray⟩]) W6:=by
  obtain⟨ty,hrow⟩:=q6;exact run_loadVar_row (P:=Tryd.prog) _ B2 ty 27 _ (0,0) _ hrow Tryd.underlying27 rfl zg
 have n4:W4.cell? ⟨N,0,none⟩=some (.string nm):=by
  obtain⟨x,-,h⟩:=hn.grown g4;exact zbb (xs:=[.string nm,.string ⟨s.toArray⟩,x]) h 0
 have n5:W5.cell? ⟨N,1,none⟩=some (.string ⟨s.toArray⟩):=by
  obtain⟨x,-,h⟩:=hn.grown g5;exact zbb (xs:=[.string nm,.string ⟨s.toArray⟩,x]) h 1
 obtain⟨aS,hcS,hIS⟩:=is_S (he.grown g3 (fun _ e=>zL)) (hn.grown g3) ze;obtain⟨aR,hcR,hIR⟩:=is_R (he.grown g4 (fun _ e=>zL)) (hn.grown g4) ze;have HIS:=zH hIS;have HIR:=zH hIR;have G6:=zH g6;have R6:=zH r6;have HS1:=zH hs1;have HN:=zH hne;have k0:=q2.cell 0;have k1:=q2.cell 1;have k2:=q2.cell 2;have t0:=q2.frozen 0;have t1:=q2.frozen 1;have t2:=q2.frozen 2;have c3:=q3.cell 0;have f3:=q3.frozen 0;have c4:=q4.cell 1;have f4:=q4.frozen 1;have c5:=q5.cell 2;have f5:=q5.frozen 2;have d0:=q6.cell 0;have d1:=q6.cell 1;have d2:=q6.cell 2;have j0:=r6.cell 0;have j1:=r6.cell 1;have j2:=r6.cell 2;have u0:=r6.frozen 0;have u1:=r6.frozen 1;have u2:=r6.frozen 2;unfold fauZ at k0 k1 k2 j0 j1 j2 hW1 hW2;simp only[List.getElem?_cons_zero,List.getElem?_cons_succ]at k0 k1 k2 c3 c4 c5 d0 d1 d2 j0 j1 j2;clear he hn g1 g2 g3 g4 g5 g6 r1 r2 r3 r4 r5 r6 q2 q3 q4 q5 q6 hIS hIR hs1 hs2 hne hne2 hlt;(go_wp2_with fail;repeat ((first|refine cZ ?_|refine cW ?_);go_wp2_with fail));refine HIS.out.mono ?_;rintro e w9 ⟨rfl,hw9⟩;subst w9;(go_wp2_with fail;repeat ((first|refine cZ ?_|refine cW ?_);go_wp2_with fail));refine HIR.out.mono ?_;rintro e w9 ⟨rfl,hw9⟩;subst w9;(go_wp2_with fail;repeat ((first|refine cZ ?_|refine cW ?_);go_wp2_with fail));obtain⟨ty,hrow⟩:=((R6.out.setCell 0 (.int .i64 1)).setCell 1 (.string nm)).setCell 2 (.string ⟨s.toArray⟩);refine vj (B:=B) (.agg (yfw nm s 1).toArray) rfl ze zb ?_ ⟨rfl,yb (yb (yb G6.out _ HS1.out) _ HS1.out) _ HS1.out⟩;exact run_loadVar_row (P:=Tryd.prog) _ B ty 27 _ (0,0) _ hrow Tryd.underlying27 rfl zg
set_option maxRecDepth 100000 in
theorem zly {nm:ByteArray} (T N:Nat) (s:List UInt8) (w:World) (he:EnvP T w) (hn:ErrNf nm w s 2 N):Calls Tryd.prog 9 #[.iface 42 (.pointer (some ⟨N,0,none⟩))] w fun e w'=>e=.returned (.agg (yfw nm s 2).toArray)/\w.grownBy w' none:=by
 refine ye Tryd.func9 rfl (by rw[Tryd.ntmps9];simp) ?_;intro σ hσ;rw[Tryd.ntmps9];have s0:σ 0=.iface 42 (.pointer (some ⟨N,0,none⟩)):=hσ 0 zi;clear hσ;have has:=zsz;obtain⟨B,hB⟩:=zX w.heap.size;obtain⟨W1,hW1⟩:=zX (w.alloc (.cells fauZ.toArray 27));have g1:w.grownBy W1 none:=zαe;have r1:Row W1 B fauZ:=zγe;obtain⟨B2,hB2⟩:=zX W1.heap.size;have hlt:B<B2:=by rw[<-hB2];exact r1.lt
 obtain⟨W2,hW2⟩:=zX (W1.alloc (.cells fauZ.toArray 27));have g2:w.grownBy W2 none:=by rw[<-hW2];exact ym g1 (World.grownBy_alloc W1 _ none)
 have r2:Row W2 B fauZ:=by rw[<-hW2];exact r1.alloc _
 have q2:Row W2 B2 fauZ:=by rw[<-hW2,<-hB2];exact Row.new W1 fauZ 27
 obtain⟨W3,hW3⟩:=zX (((W2.setCell ⟨B2,0,none⟩ (.int .i64 3)).setCell ⟨B2,1,none⟩ (.string ⟨#[]⟩)).setCell ⟨B2,2,none⟩ (.string ⟨#[]⟩));have hs1:w.heap.size<=B:=zd;have hs2:w.heap.size<=B2:=zd;have g3:w.grownBy W3 none:=zZ;have hne:B≠B2:=zd;have hne2:B2≠B:=zd;have r3:Row W3 B fauZ:=zP;have q3:Row W3 B2 [.int .i64 3,.string ⟨#[]⟩,.string ⟨#[]⟩]:=zB;obtain⟨W4,hW4⟩:=zX (W3.setCell ⟨B2,0,none⟩ (.int .i64 2));have g4:w.grownBy W4 none:=by rw[<-hW4];exact yb g3 _ hs2
 have r4:Row W4 B fauZ:=by rw[<-hW4];exact r3.setCell_other hne _
 have q4:Row W4 B2 [.int .i64 2,.string ⟨#[]⟩,.string ⟨#[]⟩]:=by rw[<-hW4];exact q3.setCell 0 (.int .i64 2)
 obtain⟨W5,hW5⟩:=zX (W4.setCell ⟨B2,1,none⟩ (.string nm));have g5:w.grownBy W5 none:=by rw[<-hW5];exact yb g4 _ hs2
 have r5:Row W5 B fauZ:=by rw[<-hW5];exact r4.setCell_other hne _
 have q5:Row W5 B2 [.int .i64 2,.string nm,.string ⟨#[]⟩]:=by rw[<-hW5];exact q4.setCell 1 (.string nm)
 obtain⟨W6,hW6⟩:=zX (W5.setCell ⟨B2,2,none⟩ (.string ⟨s.toArray⟩));have g6:w.grownBy W6 none:=by rw[<-hW6];exact yb g5 _ hs2
 have r6:Row W6 B fauZ:=by rw[<-hW6];exact r5.setCell_other hne _
 have q6:Row W6 B2 [.int .i64 2,.string nm,.string ⟨s.toArray⟩]:=by rw[<-hW6];exact q5.setCell 2 (.string ⟨s.toArray⟩)
 have hl6:(loadVar 27 ⟨B2,0,none⟩).run Tryd.prog W6=.ok (.agg #[.int .i64 2,.string nm,.string ⟨s.toArray⟩]) W6:=by
  obtain⟨ty,hrow⟩:=q6;exact run_loadVar_row (P:=Tryd.prog) _ B2 ty 27 _ (0,0) _ hrow Tryd.underlying27 rfl zg
 have n4:W4.cell? ⟨N,0,none⟩=some (.string nm):=by
  obtain⟨x,-,h⟩:=hn.grown g4;exact zbb (xs:=[.string nm,.string ⟨s.toArray⟩,x]) h 0
 have n5:W5.cell? ⟨N,1,none⟩=some (.string ⟨s.toArray⟩):=by
  obtain⟨x,-,h⟩:=hn.grown g5;exact zbb (xs:=[.string nm,.string ⟨s.toArray⟩,x]) h 1
 obtain⟨aS,hcS,hIS⟩:=is_S (he.grown g3 (fun _ e=>zL)) (hn.grown g3) ze;obtain⟨aR,hcR,hIR⟩:=is_R (he.grown g3 (fun _ e=>zL)) (hn.grown g3) ze;have HIS:=zH hIS;have HIR:=zH hIR;have G6:=zH g6;have R6:=zH r6;have HS1:=zH hs1;have HN:=zH hne;have k0:=q2.cell 0;have k1:=q2.cell 1;have k2:=q2.cell 2;have t0:=q2.frozen 0;have t1:=q2.frozen 1;have t2:=q2.frozen 2;have c3:=q3.cell 0;have f3:=q3.frozen 0;have c4:=q4.cell 1;have f4:=q4.frozen 1;have c5:=q5.cell 2;have f5:=q5.frozen 2;have d0:=q6.cell 0;have d1:=q6.cell 1;have d2:=q6.cell 2;have j0:=r6.cell 0;have j1:=r6.cell 1;have j2:=r6.cell 2;have u0:=r6.frozen 0;have u1:=r6.frozen 1;have u2:=r6.frozen 2;unfold fauZ at k0 k1 k2 j0 j1 j2 hW1 hW2;simp only[List.getElem?_cons_zero,List.getElem?_cons_succ]at k0 k1 k2 c3 c4 c5 d0 d1 d2 j0 j1 j2;clear he hn g1 g2 g3 g4 g5 g6 r1 r2 r3 r4 r5 r6 q2 q3 q4 q5 q6 hIS hIR hs1 hs2 hne hne2 hlt;(go_wp2_with fail;repeat ((first|refine cZ ?_|refine cW ?_);go_wp2_with fail));refine HIS.out.mono ?_;rintro e w9 ⟨rfl,hw9⟩;subst w9;(go_wp2_with fail;repeat ((first|refine cZ ?_|refine cW ?_);go_wp2_with fail));refine HIR.out.mono ?_;rintro e w9 ⟨rfl,hw9⟩;subst w9;(go_wp2_with fail;repeat ((first|refine cZ ?_|refine cW ?_);go_wp2_with fail));obtain⟨ty,hrow⟩:=((R6.out.setCell 0 (.int .i64 2)).setCell 1 (.string nm)).setCell 2 (.string ⟨s.toArray⟩);refine vj (B:=B) (.agg (yfw nm s 2).toArray) rfl ze zb ?_ ⟨rfl,yb (yb (yb G6.out _ HS1.out) _ HS1.out) _ HS1.out⟩;exact run_loadVar_row (P:=Tryd.prog) _ B ty 27 _ (0,0) _ hrow Tryd.underlying27 rfl zg
theorem yfv {nm:ByteArray} (T:Nat) (s:List UInt8) (k:Nat) (ev:Value) (w:World) (he:EnvP T w) (hq:yfx nm w s k ev):
  Calls Tryd.prog 9 #[ev] w fun e w'=>e=.returned (.agg (yfw nm s k).toArray)/\w.grownBy w' none:=by
 rcases hq with⟨rfl,rfl⟩ | ⟨hk,N,rfl,hn⟩
 ·exact zos w
 ·rcases hk with rfl | rfl
  ·exact zlz T N s w he hn
  ·exact zly T N s w he hn
theorem ziz (T:Nat) (s:List UInt8) (k:Nat) (ev:Value) (w:World) (he:EnvP T w) (hq:yfx wn w s k ev):
  Calls Tryd.prog 9 #[ev] w fun e w'=>e=.returned (.agg (zp1 s k).toArray)/\w.grownBy w' none:=yfv (nm:=wn) T s k ev w he hq
end
section
attribute [local go_sem] undef
theorem zot (b:Nat) (hb:b<18446744073709551616) (w:World):(callFunc 8 #[.float .f64 b]).run Tryd.prog w=.ok (.value (.int .u64 (b:Int))) w:=by kernel_rfl
theorem zb4 {fn:Func} {p u:Tmp} {ty:TypeId} (h:fn.results=#[.tmp u,.cell p ty]) (tmps:Array Value) (P:Program) (w:World):
  (results fn tmps).run P w=((asAddr (tmps.getD p undef)).run P w).andThen fun a w₁=>((loadVar ty a).run P w₁).andThen fun v w₂=>.ok (.tuple #[tmps.getD u undef,v]) w₂:=by
 simp only[results,h];simp[Sem.run_bind,Result.andThen]
theorem zqm {P:Program} {fn:Func} {R:Ending->World->Prop} {n:Nat} {env:List (Nat×Value)} {s:Nat->Value} {w:World} {p u:Nat} {ty:TypeId} {B:Nat} (x v:Value) (hr:fn.results=#[.tmp u,.cell p ty]) (hu:u<n) (hp:p<n) (hx:over env s u=x) (hpv:over env s p=.pointer (Option.some ⟨B,0,Option.none⟩))
  (hl:(loadVar ty ⟨B,0,Option.none⟩).run P w=.ok v w) (hR:R (.returned (.tuple #[x,v])) w):bodyPost P fn R .ret (Fr n env s) w:=by
 refine bodyPost_ret (v:=.tuple #[x,v]) ?_ (vz ..) hR;rw[zb4 hr,wa n env s p hp,wa n env s u hu,hpv,hx];simp[asAddr,hl,Result.andThen]
theorem zwh (s:List UInt8) (k:Nat):∃ (a:Int) (b c:ByteArray),zp1 s k=[.int .i64 a,.string b,.string c]:=by unfold zp1;split <;> exact⟨_,_,_,rfl⟩
theorem zvp (F:Nat) (bias:Int) (inf b:Nat) (l:List Nat) (x:Int) (hbias:1<=bias) (hinf:inf=(2*bias+1).toNat*2^F):spN F bias inf b l x<=inf:=by
 unfold spN;split
 ·omega
 ·split
  ·exact Nat.le_refl _
  ·exact ud F bias inf _ _ (qg _ (by unfold yfj;split <;> decide)) hbias hinf
theorem zjr (t:Txt):spB 52 1023 9218868437227405312 t<=9218868437227405312:=zvp 52 1023 _ _ _ _ ze rfl
theorem PaQ64.lt {s:List UInt8} {v k:Nat} (h:PaQ64 s v k):v<18446744073709551616:=by
 unfold PaQ64 at h;split at h
 ·omega
 ·rename_i t ht;obtain⟨h0,h1,h2⟩:=h;rcases za0 ht with e | e | e
  ·have:=(h2 e).1;have h3:=zjr t;have h4:sgB t.neg<=9223372036854775808:=by unfold sgB;split <;> omega
   omega
  ·rw[(h1 e).1];cases t.neg <;> decide
  ·exact (h0 e).1.2
theorem PaQw.lt {s:List UInt8} {v k:Nat} (h:PaQw s v k):v<18446744073709551616:=by
 obtain⟨v,-,⟨-,h⟩ | ⟨-,-,h,-⟩⟩:=h
 ·exact h.1
 ·exact h
set_option maxRecDepth 100000 in
theorem zhd (T:Nat) (s:List UInt8) (w:World) (he:EnvP T w) (hs:s.length<=800):
  Calls Tryd.prog 4 #[.string ⟨s.toArray⟩] w fun e w'=>(∃ v k:Nat,e=.returned (.tuple #[.int .u64 (v:Int),.agg (zp1 s k).toArray])/\PaQ64 s v k)/\w.grownBy w' none:=by
 refine ye Tryd.func4 rfl (by rw[Tryd.ntmps4];simp) ?_;intro σ hσ;rw[Tryd.ntmps4];have s0:σ 0=.string ⟨s.toArray⟩:=hσ 0 zi;clear hσ;obtain⟨B,hB⟩:=zX w.heap.size;obtain⟨W1,hW1⟩:=zX (w.alloc (.cells fauZ.toArray 27));have g1:w.grownBy W1 none:=zαe;have r1:Row W1 B fauZ:=zγe;have HAT:=zH (zgr T s W1 (he.grown g1 (fun _ e=>zL)) hs);have hs1:w.heap.size<=B:=zd;have HB:=zH hs1;have G1:=zH g1;have R1:=zH r1;have HE:=zH he;unfold fauZ at hW1;clear hs1 g1 r1 he;(go_wp2_with fail;repeat ((first|refine cZ ?_|refine cW ?_);go_wp2_with fail));refine HAT.out.mono ?_;rintro e w2 ⟨⟨v,k,ev,rfl,hp,hq⟩,hg2⟩;clear hW1;have hv:v<18446744073709551616:=hp.lt;have hf:=fun W=>zot v hv W
 have HFO:=zH (ziz T s k ev w2 (HE.out.grown (ym G1.out hg2) (fun _ e=>zL)) hq);have G2:=zH (ym G1.out hg2);have R2:=zH (R1.out.grown hg2 zi);have HP:=zH hp;clear hp hq hg2 hv HAT HE R1 G1;(go_wp2_with fail;repeat ((first|refine cZ ?_|refine cW ?_);go_wp2_with fail));refine HFO.out.mono ?_;rintro e w3 ⟨rfl,hg3⟩;have G3:=zH (ym G2.out hg3);have R3:=zH (R2.out.grown hg3 zi);obtain⟨fa,fb,fc,hfa⟩:=zwh s k;have HF:=zH hfa;rw[hfa];have k0:=R3.out.cell 0;have k1:=R3.out.cell 1;have k2:=R3.out.cell 2;have u0:=R3.out.frozen 0;have u1:=R3.out.frozen 1;have u2:=R3.out.frozen 2;unfold fauZ at k0 k1 k2;simp only[List.getElem?_cons_zero,List.getElem?_cons_succ]at k0 k1 k2;clear hg3 hfa;(go_wp2_with fail;repeat ((first|refine cZ ?_|refine cW ?_);go_wp2_with fail));obtain⟨ty,hrow⟩:=((R3.out.setCell 0 (.int .i64 fa)).setCell 1 (.string fb)).setCell 2 (.string fc);refine zqm (B:=B) (.int .u64 (v:Int)) (.agg #[.int .i64 fa,.string fb,.string fc]) rfl ze ze zb zb ?_ ⟨⟨v,k,zβG,HP.out⟩,yb (yb (yb G3.out _ HB.out) _ HB.out) _ HB.out⟩;exact run_loadVar_row (P:=Tryd.prog) _ B ty 27 _ (0,0) _ hrow Tryd.underlying27 rfl zg
set_option maxRecDepth 100000 in
theorem zxw (T:Nat) (s:List UInt8) (w:World) (he:EnvP T w) (hs:s.length<=800):
  Calls Tryd.prog 5 #[.string ⟨s.toArray⟩] w fun e w'=>(∃ v k:Nat,e=.returned (.tuple #[.int .u64 (v:Int),.agg (zp1 s k).toArray])/\PaQw s v k)/\w.grownBy w' none:=by
 refine ye Tryd.func5 rfl (by rw[Tryd.ntmps5];simp) ?_;intro σ hσ;rw[Tryd.ntmps5];have s0:σ 0=.string ⟨s.toArray⟩:=hσ 0 zi;clear hσ;obtain⟨B,hB⟩:=zX w.heap.size;obtain⟨W1,hW1⟩:=zX (w.alloc (.cells fauZ.toArray 27));have g1:w.grownBy W1 none:=zαe;have r1:Row W1 B fauZ:=zγe;have HAT:=zH (zyq T s W1 (he.grown g1 (fun _ e=>zL)) hs);have hs1:w.heap.size<=B:=zd;have HB:=zH hs1;have G1:=zH g1;have R1:=zH r1;have HE:=zH he;unfold fauZ at hW1;clear hs1 g1 r1 he;(go_wp2_with fail;repeat ((first|refine cZ ?_|refine cW ?_);go_wp2_with fail));refine HAT.out.mono ?_;rintro e w2 ⟨⟨v,k,ev,rfl,hp,hq⟩,hg2⟩;clear hW1;have hv:v<18446744073709551616:=hp.lt;have hf:=fun W=>zot v hv W
 have HFO:=zH (ziz T s k ev w2 (HE.out.grown (ym G1.out hg2) (fun _ e=>zL)) hq);have G2:=zH (ym G1.out hg2);have R2:=zH (R1.out.grown hg2 zi);have HP:=zH hp;clear hp hq hg2 hv HAT HE R1 G1;(go_wp2_with fail;repeat ((first|refine cZ ?_|refine cW ?_);go_wp2_with fail));refine HFO.out.mono ?_;rintro e w3 ⟨rfl,hg3⟩;have G3:=zH (ym G2.out hg3);have R3:=zH (R2.out.grown hg3 zi);obtain⟨fa,fb,fc,hfa⟩:=zwh s k;have HF:=zH hfa;rw[hfa];have k0:=R3.out.cell 0;have k1:=R3.out.cell 1;have k2:=R3.out.cell 2;have u0:=R3.out.frozen 0;have u1:=R3.out.frozen 1;have u2:=R3.out.frozen 2;unfold fauZ at k0 k1 k2;simp only[List.getElem?_cons_zero,List.getElem?_cons_succ]at k0 k1 k2;clear hg3 hfa;(go_wp2_with fail;repeat ((first|refine cZ ?_|refine cW ?_);go_wp2_with fail));obtain⟨ty,hrow⟩:=((R3.out.setCell 0 (.int .i64 fa)).setCell 1 (.string fb)).setCell 2 (.string fc);refine zqm (B:=B) (.int .u64 (v:Int)) (.agg #[.int .i64 fa,.string fb,.string fc]) rfl ze ze zb zb ?_ ⟨⟨v,k,zβG,HP.out⟩,yb (yb (yb G3.out _ HB.out) _ HB.out) _ HB.out⟩;exact run_loadVar_row (P:=Tryd.prog) _ B ty 27 _ (0,0) _ hrow Tryd.underlying27 rfl zg 
end
theorem zyg {v r:Nat} (h:yak v r) (hn:¬zxp v):r=zyo v:=by
 rcases h with⟨h,-⟩ | ⟨h1,-,-,h4⟩
 ·exact absurd h hn
 ·unfold zyo;by_cases hf:v%2147483648<2139095040
  ·rw[if_pos hf];rw[yaf v h1 hf]at h4;exact (Option.some.inj h4).symm
  ·have h5:¬2139095040<v%2147483648:=fun h=>hn ⟨h1,h⟩
   have h6:v=2139095040\/v=4286578688:=zd;rw[if_neg hf];rcases h6 with rfl | rfl
   ·have:floatToFloatBits .f32 2139095040 .f64=some 9218868437227405312:=zp;rw[this]at h4;exact (Option.some.inj h4).symm
   ·have:floatToFloatBits .f32 4286578688 .f64=some 18442240474082181120:=zp;rw[this]at h4;exact (Option.some.inj h4).symm
theorem ybf (x:Nat) (hx:x<=2139095040):zyo (2147483648+x)=9223372036854775808+zyo x:=by
 unfold zyo;rw[show (2147483648+x)%2147483648=x by omega,show x%2147483648=x by omega];by_cases h:x<2139095040
 ·rw[if_pos h,if_pos h];have hm:m32 (2147483648+x)=m32 x:=by
   rw[<-zv8,<-zv8,show (2147483648+x)%2147483648=x by omega,show x%2147483648=x by omega]
  have he:e32 (2147483648+x)=e32 x:=by
   rw[<-zwp,<-zwp,show (2147483648+x)%2147483648=x by omega,show x%2147483648=x by omega]
  unfold zma;rw[hm,he,if_pos zd,if_neg zd];omega
 ·rw[if_neg h,if_neg h];have:x=2139095040:=zd;subst this;decide
theorem ybr:zyo 0=0/\zyo 2147483648=9223372036854775808/\zyo 4286578688=18442240474082181120:=by
 have h0:zyo 0=0:=by
  unfold zyo;rw[if_pos ze];unfold zma;rw[if_neg ze,Nat.add_zero];have hm:m32 0=0:=by rw[<-zv8];decide
  unfold vN;rw[hm,Nat.zero_mul];exact zai 52 1023 _ _ (Nat.ne_of_gt (zjf _)) ze ze
 refine⟨h0,?_,?_⟩
 ·have:=ybf 0 ze;rw[h0]at this;exact this
 ·unfold zyo;rw[if_neg ze];decide
def hval (l:List UInt8):Nat:=l.foldl (fun n c=>n*16+(dig 16 c).getD 0) 0
theorem yd6 {s s':List UInt8} (h:xf s=xf s'):ul s=ul s':=by unfold ul;rw[h]
def vm (p:Nat):List UInt8:=match p with
 | 0=>[105,110,102]
 | 1=>[43,105,110,102]
 | 2=>[45,105,110,102]
 | 3=>[105,110,102,105,110,105,116,121]
 | 4=>[43,105,110,102,105,110,105,116,121]
 | 5=>[45,105,110,102,105,110,105,116,121]
 | _=>[110,97,110]
def xv (p:Nat):Bool:=p==2 || p==5
theorem wj:∀ p:Nat,p<=6->xf (vm p)=vm p/\3<=(vm p).length/\(vm p).length<=9:=by
 intro p hp;have:p=0\/p=1\/p=2\/p=3\/p=4\/p=5\/p=6:=zd;rcases this with rfl | rfl | rfl | rfl | rfl | rfl | rfl <;> decide
theorem vk:∀ p:Nat,p<=6->∃ t,ul (vm p)=some t/\(p=6->t.kind=2)/\(p≠6->t.kind=1/\t.neg=xv p):=by
 intro p hp;have:p=0\/p=1\/p=2\/p=3\/p=4\/p=5\/p=6:=zd;rcases this with rfl | rfl | rfl | rfl | rfl | rfl | rfl;all_goals exact⟨_,rfl,fun h=>by first | rfl | exact absurd h ze,fun h=>by first | exact⟨rfl,rfl⟩ | exact absurd rfl h⟩
theorem uv {c:UInt8} (h1:97<=c.toNat) (h2:c.toNat<=122):vb (UInt8.ofNat (c.toNat-32))=c:=by
 have:∀ n:Fin 256,97<=n.val->n.val<=122->vb (UInt8.ofNat (n.val-32))=UInt8.ofNat n.val:=zp;have:=this ⟨c.toNat,c.toNat_lt⟩ h1 h2;simpa using this
theorem sp_64 {t:List UInt8} {p v k:Nat} (hp:p<=6) (h:xf t=vm p) (hq:PaQ64 t v k):k=0/\(p≠6->v=kp (xv p))/\(p=6->kn 9218868437227405312 9223372036854775808 v=2)/\v<18446744073709551616:=by
 obtain⟨x,hr,h2,h1⟩:=vk p hp;rw[<-yd6 (show xf t=xf (vm p) by rw[h,(wj p hp).1])]at hr;unfold PaQ64 at hq;rw[hr]at hq;obtain⟨q2,q1,-⟩:=hq;by_cases h6:p=6
 ·obtain⟨⟨a,b⟩,c⟩:=q2 (h2 h6);refine⟨c,fun h=>absurd h6 h,fun _=>?_,b⟩;unfold kn;rw[if_neg zd,if_neg zd]
 ·obtain⟨a,b⟩:=h1 h6;obtain⟨c,d⟩:=q1 a;rw[b]at c;refine⟨d,fun _=>c,fun h=>absurd h h6,?_⟩;rw[c];cases xv p <;> decide
theorem sp_w {t:List UInt8} {p v k:Nat} (hp:p<=6) (h:xf t=vm p) (hq:PaQw t v k):k=0/\(p≠6->v=kp (xv p))/\(p=6->kn 9218868437227405312 9223372036854775808 v=2)/\v<18446744073709551616:=by
 obtain⟨x,hr,h2,h1⟩:=vk p hp;rw[<-yd6 (show xf t=xf (vm p) by rw[h,(wj p hp).1])]at hr;obtain⟨u,hq,hw⟩:=hq;unfold PaQ32 at hq;rw[hr]at hq;obtain⟨q2,q1,-⟩:=hq;by_cases h6:p=6
 ·obtain⟨a,c⟩:=q2 (h2 h6);have hn:zzw v:=by
   rcases hw with⟨-,g⟩ | ⟨-,g,-⟩
   ·exact g
   ·exact absurd a g
  refine⟨c,fun h=>absurd h6 h,fun _=>?_,hn.1⟩;have:=hn.2;unfold kn;rw[if_neg zd,if_neg zd]
 ·obtain⟨a,b⟩:=h1 h6;obtain⟨c,d⟩:=q1 a;rw[b]at c;have hnn:¬zxp u:=by
   rintro⟨-,g⟩;rw[c]at g;revert g;cases xv p <;> decide
  have hv:=zyg hw hnn;have hx:v=kp (xv p):=by
   rw[hv,c];cases xv p
   ·show zyo 2139095040=_;unfold zyo;rw[if_neg ze];decide
   ·exact ybr.2.2
  refine⟨d,fun _=>hx,fun h=>absurd h h6,?_⟩;rw[hx];cases xv p <;> decide
end Go.Proofs.YtnifedmhgncioaaDoor
