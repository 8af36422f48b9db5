/- Lemmas that the claim's top text leans on. No condition of their own. -/
import Derived.Test.YtoacbkokkkpofaaGreatDoorJ30
import Derived.Test.YtoacbkokkkpofaaGreatDoorJ37
import Derived.Test.YtoacbkokkkpofaaGreatDoorJ36
namespace Go.Proofs.YtoacbkokkkpofaaGreatDoor
open Go.RowKit
set_option linter.unusedSimpArgs false
set_option linter.unusedVariables false
set_option maxHeartbeats 16000000
section
attribute [local go_sem] undef
theorem ze7 {fn:Func} {p:Tmp} {ty:TypeId} (h:fn.results=#[.cell p ty]) (tmps:Array Value) (P:Program) (w:World):
  (results fn tmps).run P w=((asAddr (tmps.getD p undef)).run P w).andThen fun a w₁=>(loadVar ty a).run P w₁:=by
 simp only[results,h];simp[Sem.run_bind,Result.andThen]
theorem vj {P:Program} {fn:Func} {R:Ending->World->Prop} {n:Nat} {env:List (Nat×Value)} {s:Nat->Value} {w:World} {p:Nat} {ty:TypeId} {B:Nat} (v:Value) (hr:fn.results=#[.cell p ty]) (hp:p<n) (hpv:over env s p=.pointer (Option.some ⟨B,0,Option.none⟩))
  (hl:(loadVar ty ⟨B,0,Option.none⟩).run P w=.ok v w) (hR:R (.returned v) w):bodyPost P fn R .ret (Fr n env s) w:=by
 refine bodyPost_ret (v:=v) ?_ (vz ..) hR;rw[ze7 hr,wa n env s p hp,hpv];simp[asAddr,hl,Result.andThen]
def zp1 (s:List UInt8) (k:Nat):List Value:=if k=0 then [.int .i64 0,.string ⟨#[]⟩,.string ⟨#[]⟩] else [.int .i64 (k:Int),.string wn,.string ⟨s.toArray⟩]
def yfw (nm:ByteArray) (s:List UInt8) (k:Nat):List Value:=if k=0 then [.int .i64 0,.string ⟨#[]⟩,.string ⟨#[]⟩] else [.int .i64 (k:Int),.string nm,.string ⟨s.toArray⟩]
def fauZ:List Value:=[.int .i64 0,.string ⟨#[]⟩,.string ⟨#[]⟩]
theorem zsz (v:Value) (xT:TypeId) (w:World):(Instr.typeAssert (.iface 81 v) xT 81 true).run Tryz.prog w=.ok (.tuple #[v,.bool true]) w:=by kernel_rfl
set_option maxRecDepth 100000 in
theorem zos (w:World):Calls Tryz.prog 33 #[.nilIface] w fun e w'=>e=.returned (.agg fauZ.toArray)/\w.grownBy w' none:=by
 refine ye Tryz.func33 rfl (by rw[Tryz.ntmps33];simp) ?_;intro σ hσ;rw[Tryz.ntmps33];have s0:σ 0=.nilIface:=hσ 0 zi;clear hσ;obtain⟨w1,hw1⟩:=zX (w.alloc (.cells fauZ.toArray 30));have hrB:=Row.new w fauZ 30;have hgB:=World.grownBy_alloc w (.cells fauZ.toArray 30) none;rw[hw1]at hrB hgB;unfold fauZ at hw1;have HRB:=zH hrB;have HGB:=zH hgB;clear hrB hgB;obtain⟨B,hB⟩:=zX w.heap.size;rw[hB]at HRB;have k0:=HRB.out.cell 0;have k1:=HRB.out.cell 1;have k2:=HRB.out.cell 2;have t0:=HRB.out.frozen 0;have t1:=HRB.out.frozen 1;have t2:=HRB.out.frozen 2;unfold fauZ at k0 k1 k2;simp only[List.getElem?_cons_zero,List.getElem?_cons_succ]at k0 k1 k2;have HB:=zH hB;go_upto_region 1 with fail;clear hw1 hB;(go_wp2_with fail;repeat ((first|refine cZ ?_|refine cW ?_);go_wp2_with fail));obtain⟨ty,hrow⟩:=((HRB.out.setCell 0 (.int .i64 0)).setCell 1 (.string ⟨#[]⟩)).setCell 2 (.string ⟨#[]⟩);have hBw:w.heap.size<=B:=by have:=HB.out;omega
 refine vj (B:=B) (.agg fauZ.toArray) rfl ze zb ?_ ⟨rfl,yb (yb (yb HGB.out _ hBw) _ hBw) _ hBw⟩;exact run_loadVar_row (P:=Tryz.prog) _ B ty 30 _ (0,0) _ hrow Tryz.underlying30 rfl zg 
end
section
attribute [local go_sem] undef
theorem ErrNf.grown {nm:ByteArray} {w w':World} {s:List UInt8} {k N:Nat} (h:ErrNf nm w s k N) (hg:w.grownBy w' none):ErrNf nm w' s k N:=by
 obtain⟨x,h1,h2⟩:=h;exact⟨x,hg.cell h1 zi,(hg.block N (by obtain⟨hlt,-⟩:=Array.getElem?_eq_some_iff.1 h2;exact hlt) zi).trans h2⟩
theorem zbb {w:World} {N:Nat} {xs:List Value} {t:TypeId} (h:w.heap[N]?=some (.cells xs.toArray t (0,0))) (i:Nat):w.cell? ⟨N,i,none⟩=xs[i]?:=
 Row.cell (xs:=xs) ⟨t,h⟩ i
theorem is_S {nm:ByteArray} {T:Nat} {s:List UInt8} {k N:Nat} {w:World} (he:EnvP T w) (hn:ErrNf nm w s k N) (hk:k=1\/k=2):∃ a:Addr,w.cell? ⟨1,0,none⟩=some (.iface 160 (.pointer (some a)))/\
  Calls Tryz.prog 50 #[.iface 81 (.pointer (some ⟨N,0,none⟩)),.iface 160 (.pointer (some a))] w fun e w'=>e=.returned (.bool (decide (k=1)))/\w'=w:=by
 obtain⟨aS,aR,cS,cR,tS,tR,h1,h2,h3,h4,h5,h6,h7⟩:=he.errs;obtain⟨x,hx,hN⟩:=hn;have hc:=zbb (xs:=[.string nm,.string ⟨s.toArray⟩,x]) hN 2;simp only[List.getElem?_cons_zero,List.getElem?_cons_succ]at hc;refine⟨aS,h4,?_⟩;rcases hk with rfl | rfl
 ·rw[if_pos rfl,h4]at hx;cases hx;exact zdf N aS w hc
 ·rw[if_neg ze,h5]at hx;cases hx;exact zbv N aR aS cR cS tR tS w hc h3.symm h7 h6
theorem is_R {nm:ByteArray} {T:Nat} {s:List UInt8} {k N:Nat} {w:World} (he:EnvP T w) (hn:ErrNf nm w s k N) (hk:k=1\/k=2):∃ a:Addr,w.cell? ⟨2,0,none⟩=some (.iface 160 (.pointer (some a)))/\
  Calls Tryz.prog 50 #[.iface 81 (.pointer (some ⟨N,0,none⟩)),.iface 160 (.pointer (some a))] w fun e w'=>e=.returned (.bool (decide (k=2)))/\w'=w:=by
 obtain⟨aS,aR,cS,cR,tS,tR,h1,h2,h3,h4,h5,h6,h7⟩:=he.errs;obtain⟨x,hx,hN⟩:=hn;have hc:=zbb (xs:=[.string nm,.string ⟨s.toArray⟩,x]) hN 2;simp only[List.getElem?_cons_zero,List.getElem?_cons_succ]at hc;refine⟨aR,h5,?_⟩;rcases hk with rfl | rfl
 ·rw[if_pos rfl,h4]at hx;cases hx;exact zbv N aS aR cS cR tS tR w hc h3 h6 h7
 ·rw[if_neg ze,h5]at hx;cases hx;exact zdf N aR w hc
set_option maxRecDepth 100000 in
theorem zlz {nm:ByteArray} (T N:Nat) (s:List UInt8) (w:World) (he:EnvP T w) (hn:ErrNf nm w s 1 N):Calls Tryz.prog 33 #[.iface 81 (.pointer (some ⟨N,0,none⟩))] w fun e w'=>e=.returned (.agg (yfw nm s 1).toArray)/\w.grownBy w' none:=by
 refine ye Tryz.func33 rfl (by rw[Tryz.ntmps33];simp) ?_;intro σ hσ;rw[Tryz.ntmps33];have s0:σ 0=.iface 81 (.pointer (some ⟨N,0,none⟩)):=hσ 0 zi;clear hσ;have has:=zsz;obtain⟨B,hB⟩:=zX w.heap.size;obtain⟨W1,hW1⟩:=zX (w.alloc (.cells fauZ.toArray 30));have g1:w.grownBy W1 none:=zαe;have r1:Row W1 B fauZ:=zβi;obtain⟨B2,hB2⟩:=zX W1.heap.size;have hlt:B<B2:=by rw[<-hB2];exact r1.lt
 obtain⟨W2,hW2⟩:=zX (W1.alloc (.cells fauZ.toArray 30));have g2:w.grownBy W2 none:=by rw[<-hW2];exact ym g1 (World.grownBy_alloc W1 _ none)
 have r2:Row W2 B fauZ:=by rw[<-hW2];exact r1.alloc _
 have q2:Row W2 B2 fauZ:=by rw[<-hW2,<-hB2];exact Row.new W1 fauZ 30
 obtain⟨W3,hW3⟩:=zX (((W2.setCell ⟨B2,0,none⟩ (.int .i64 3)).setCell ⟨B2,1,none⟩ (.string ⟨#[]⟩)).setCell ⟨B2,2,none⟩ (.string ⟨#[]⟩));have hs1:w.heap.size<=B:=zd;have hs2:w.heap.size<=B2:=zd;have g3:w.grownBy W3 none:=zZ;have hne:B≠B2:=zd;have hne2:B2≠B:=zd;have r3:Row W3 B fauZ:=zP;have q3:Row W3 B2 [.int .i64 3,.string ⟨#[]⟩,.string ⟨#[]⟩]:=zB;obtain⟨W4,hW4⟩:=zX (W3.setCell ⟨B2,0,none⟩ (.int .i64 1));have g4:w.grownBy W4 none:=by rw[<-hW4];exact yb g3 _ hs2
 have r4:Row W4 B fauZ:=by rw[<-hW4];exact r3.setCell_other hne _
 have q4:Row W4 B2 [.int .i64 1,.string ⟨#[]⟩,.string ⟨#[]⟩]:=by rw[<-hW4];exact q3.setCell 0 (.int .i64 1)
 obtain⟨W5,hW5⟩:=zX (W4.setCell ⟨B2,1,none⟩ (.string nm));have g5:w.grownBy W5 none:=by rw[<-hW5];exact yb g4 _ hs2
 have r5:Row W5 B fauZ:=by rw[<-hW5];exact r4.setCell_other hne _
 have q5:Row W5 B2 [.int .i64 1,.string nm,.string ⟨#[]⟩]:=by rw[<-hW5];exact q4.setCell 1 (.string nm)
 obtain⟨W6,hW6⟩:=zX (W5.setCell ⟨B2,2,none⟩ (.string ⟨s.toArray⟩));have g6:w.grownBy W6 none:=by rw[<-hW6];exact yb g5 _ hs2
 have r6:Row W6 B fauZ:=by rw[<-hW6];exact r5.setCell_other hne _
 have q6:Row W6 B2 [.int .i64 1,.string nm,.string ⟨s.toArray⟩]:=by rw[<-hW6];exact q5.setCell 2 (.string ⟨s.toArray⟩)
 have hl6:(loadVar 30 ⟨B2,0,none⟩).run Tryz.prog W6=.ok (.agg #[.int .i64 1,.string nm,.string ⟨s.toArray⟩]) W6:=by
  obtain⟨ty,hrow⟩:=q6;exact run_loadVar_row (P:=Tryz.prog) _ B2 ty 30 _ (0,0) _ hrow Tryz.underlying30 rfl zg
 have n4:W4.cell? ⟨N,0,none⟩=some (.string nm):=by
  obtain⟨x,-,h⟩:=hn.grown g4;exact zbb (xs:=[.string nm,.string ⟨s.toArray⟩,x]) h 0
 have n5:W5.cell? ⟨N,1,none⟩=some (.string ⟨s.toArray⟩):=by
  obtain⟨x,-,h⟩:=hn.grown g5;exact zbb (xs:=[.string nm,.string ⟨s.toArray⟩,x]) h 1
 obtain⟨aS,hcS,hIS⟩:=is_S (he.grown g3 (fun _ e=>zL)) (hn.grown g3) ze;obtain⟨aR,hcR,hIR⟩:=is_R (he.grown g4 (fun _ e=>zL)) (hn.grown g4) ze;have HIS:=zH hIS;have HIR:=zH hIR;have G6:=zH g6;have R6:=zH r6;have HS1:=zH hs1;have HN:=zH hne;have k0:=q2.cell 0;have k1:=q2.cell 1;have k2:=q2.cell 2;have t0:=q2.frozen 0;have t1:=q2.frozen 1;have t2:=q2.frozen 2;have c3:=q3.cell 0;have f3:=q3.frozen 0;have c4:=q4.cell 1;have f4:=q4.frozen 1;have c5:=q5.cell 2;have f5:=q5.frozen 2;have d0:=q6.cell 0;have d1:=q6.cell 1;have d2:=q6.cell 2;have j0:=r6.cell 0;have j1:=r6.cell 1;have j2:=r6.cell 2;have u0:=r6.frozen 0;have u1:=r6.frozen 1;have u2:=r6.frozen 2;unfold fauZ at k0 k1 k2 j0 j1 j2 hW1 hW2;simp only[List.getElem?_cons_zero,List.getElem?_cons_succ]at k0 k1 k2 c3 c4 c5 d0 d1 d2 j0 j1 j2;clear he hn g1 g2 g3 g4 g5 g6 r1 r2 r3 r4 r5 r6 q2 q3 q4 q5 q6 hIS hIR hs1 hs2 hne hne2 hlt;(go_wp2_with fail;repeat ((first|refine cZ ?_|refine cW ?_);go_wp2_with fail));refine HIS.out.mono ?_;rintro e w9 ⟨rfl,hw9⟩;subst w9;(go_wp2_with fail;repeat ((first|refine cZ ?_|refine cW ?_);go_wp2_with fail));refine HIR.out.mono ?_;rintro e w9 ⟨rfl,hw9⟩;subst w9;(go_wp2_with fail;repeat ((first|refine cZ ?_|refine cW ?_);go_wp2_with fail));obtain⟨ty,hrow⟩:=((R6.out.setCell 0 (.int .i64 1)).setCell 1 (.string nm)).setCell 2 (.string ⟨s.toArray⟩);refine vj (B:=B) (.agg (yfw nm s 1).toArray) rfl ze zb ?_ ⟨rfl,yb (yb (yb G6.out _ HS1.out) _ HS1.out) _ HS1.out⟩;exact run_loadVar_row (P:=Tryz.prog) _ B ty 30 _ (0,0) _ hrow Tryz.underlying30 rfl zg
set_option maxRecDepth 100000 in
theorem zly {nm:ByteArray} (T N:Nat) (s:List UInt8) (w:World) (he:EnvP T w) (hn:ErrNf nm w s 2 N):Calls Tryz.prog 33 #[.iface 81 (.pointer (some ⟨N,0,none⟩))] w fun e w'=>e=.returned (.agg (yfw nm s 2).toArray)/\w.grownBy w' none:=by
 refine ye Tryz.func33 rfl (by rw[Tryz.ntmps33];simp) ?_;intro σ hσ;rw[Tryz.ntmps33];have s0:σ 0=.iface 81 (.pointer (some ⟨N,0,none⟩)):=hσ 0 zi;clear hσ;have has:=zsz;obtain⟨B,hB⟩:=zX w.heap.size;obtain⟨W1,hW1⟩:=zX (w.alloc (.cells fauZ.toArray 30));have g1:w.grownBy W1 none:=zαe;have r1:Row W1 B fauZ:=zβi;obtain⟨B2,hB2⟩:=zX W1.heap.size;have hlt:B<B2:=by rw[<-hB2];exact r1.lt
 obtain⟨W2,hW2⟩:=zX (W1.alloc (.cells fauZ.toArray 30));have g2:w.grownBy W2 none:=by rw[<-hW2];exact ym g1 (World.grownBy_alloc W1 _ none)
 have r2:Row W2 B fauZ:=by rw[<-hW2];exact r1.alloc _
 have q2:Row W2 B2 fauZ:=by rw[<-hW2,<-hB2];exact Row.new W1 fauZ 30
 obtain⟨W3,hW3⟩:=zX (((W2.setCell ⟨B2,0,none⟩ (.int .i64 3)).setCell ⟨B2,1,none⟩ (.string ⟨#[]⟩)).setCell ⟨B2,2,none⟩ (.string ⟨#[]⟩));have hs1:w.heap.size<=B:=zd;have hs2:w.heap.size<=B2:=zd;have g3:w.grownBy W3 none:=zZ;have hne:B≠B2:=zd;have hne2:B2≠B:=zd;have r3:Row W3 B fauZ:=zP;have q3:Row W3 B2 [.int .i64 3,.string ⟨#[]⟩,.string ⟨#[]⟩]:=zB;obtain⟨W4,hW4⟩:=zX (W3.setCell ⟨B2,0,none⟩ (.int .i64 2));have g4:w.grownBy W4 none:=by rw[<-hW4];exact yb g3 _ hs2
 have r4:Row W4 B fauZ:=by rw[<-hW4];exact r3.setCell_other hne _
 have q4:Row W4 B2 [.int .i64 2,.string ⟨#[]⟩,.string ⟨#[]⟩]:=by rw[<-hW4];exact q3.setCell 0 (.int .i64 2)
 obtain⟨W5,hW5⟩:=zX (W4.setCell ⟨B2,1,none⟩ (.string nm));have g5:w.grownBy W5 none:=by rw[<-hW5];exact yb g4 _ hs2
 have r5:Row W5 B fauZ:=by rw[<-hW5];exact r4.setCell_other hne _
 have q5:Row W5 B2 [.int .i64 2,.string nm,.string ⟨#[]⟩]:=by rw[<-hW5];exact q4.setCell 1 (.string nm)
 obtain⟨W6,hW6⟩:=zX (W5.setCell ⟨B2,2,none⟩ (.string ⟨s.toArray⟩));have g6:w.grownBy W6 none:=by rw[<-hW6];exact yb g5 _ hs2
 have r6:Row W6 B fauZ:=by rw[<-hW6];exact r5.setCell_other hne _
 have q6:Row W6 B2 [.int .i64 2,.string nm,.string ⟨s.toArray⟩]:=by rw[<-hW6];exact q5.setCell 2 (.string ⟨s.toArray⟩)
 have hl6:(loadVar 30 ⟨B2,0,none⟩).run Tryz.prog W6=.ok (.agg #[.int .i64 2,.string nm,.string ⟨s.toArray⟩]) W6:=by
  obtain⟨ty,hrow⟩:=q6;exact run_loadVar_row (P:=Tryz.prog) _ B2 ty 30 _ (0,0) _ hrow Tryz.underlying30 rfl zg
 have n4:W4.cell? ⟨N,0,none⟩=some (.string nm):=by
  obtain⟨x,-,h⟩:=hn.grown g4;exact zbb (xs:=[.string nm,.string ⟨s.toArray⟩,x]) h 0
 have n5:W5.cell? ⟨N,1,none⟩=some (.string ⟨s.toArray⟩):=by
  obtain⟨x,-,h⟩:=hn.grown g5;exact zbb (xs:=[.string nm,.string ⟨s.toArray⟩,x]) h 1
 obtain⟨aS,hcS,hIS⟩:=is_S (he.grown g3 (fun _ e=>zL)) (hn.grown g3) ze;obtain⟨aR,hcR,hIR⟩:=is_R (he.grown g3 (fun _ e=>zL)) (hn.grown g3) ze;have HIS:=zH hIS;have HIR:=zH hIR;have G6:=zH g6;have R6:=zH r6;have HS1:=zH hs1;have HN:=zH hne;have k0:=q2.cell 0;have k1:=q2.cell 1;have k2:=q2.cell 2;have t0:=q2.frozen 0;have t1:=q2.frozen 1;have t2:=q2.frozen 2;have c3:=q3.cell 0;have f3:=q3.frozen 0;have c4:=q4.cell 1;have f4:=q4.frozen 1;have c5:=q5.cell 2;have f5:=q5.frozen 2;have d0:=q6.cell 0;have d1:=q6.cell 1;have d2:=q6.cell 2;have j0:=r6.cell 0;have j1:=r6.cell 1;have j2:=r6.cell 2;have u0:=r6.frozen 0;have u1:=r6.frozen 1;have u2:=r6.frozen 2;unfold fauZ at k0 k1 k2 j0 j1 j2 hW1 hW2;simp only[List.getElem?_cons_zero,List.getElem?_cons_succ]at k0 k1 k2 c3 c4 c5 d0 d1 d2 j0 j1 j2;clear he hn g1 g2 g3 g4 g5 g6 r1 r2 r3 r4 r5 r6 q2 q3 q4 q5 q6 hIS hIR hs1 hs2 hne hne2 hlt;(go_wp2_with fail;repeat ((first|refine cZ ?_|refine cW ?_);go_wp2_with fail));refine HIS.out.mono ?_;rintro e w9 ⟨rfl,hw9⟩;subst w9;(go_wp2_with fail;repeat ((first|refine cZ ?_|refine cW ?_);go_wp2_with fail));refine HIR.out.mono ?_;rintro e w9 ⟨rfl,hw9⟩;subst w9;(go_wp2_with fail;repeat ((first|refine cZ ?_|refine cW ?_);go_wp2_with fail));obtain⟨ty,hrow⟩:=((R6.out.setCell 0 (.int .i64 2)).setCell 1 (.string nm)).setCell 2 (.string ⟨s.toArray⟩);refine vj (B:=B) (.agg (yfw nm s 2).toArray) rfl ze zb ?_ ⟨rfl,yb (yb (yb G6.out _ HS1.out) _ HS1.out) _ HS1.out⟩;exact run_loadVar_row (P:=Tryz.prog) _ B ty 30 _ (0,0) _ hrow Tryz.underlying30 rfl zg
theorem yfv {nm:ByteArray} (T:Nat) (s:List UInt8) (k:Nat) (ev:Value) (w:World) (he:EnvP T w) (hq:yfx nm w s k ev):
  Calls Tryz.prog 33 #[ev] w fun e w'=>e=.returned (.agg (yfw nm s k).toArray)/\w.grownBy w' none:=by
 rcases hq with⟨rfl,rfl⟩ | ⟨hk,N,rfl,hn⟩
 ·exact zos w
 ·rcases hk with rfl | rfl
  ·exact zlz T N s w he hn
  ·exact zly T N s w he hn
theorem ziz (T:Nat) (s:List UInt8) (k:Nat) (ev:Value) (w:World) (he:EnvP T w) (hq:yfx wn w s k ev):
  Calls Tryz.prog 33 #[ev] w fun e w'=>e=.returned (.agg (zp1 s k).toArray)/\w.grownBy w' none:=yfv (nm:=wn) T s k ev w he hq
end
section
attribute [local go_sem] undef
theorem zot (b:Nat) (hb:b<18446744073709551616) (w:World):(callFunc 32 #[.float .f64 b]).run Tryz.prog w=.ok (.value (.int .u64 (b:Int))) w:=by kernel_rfl
theorem zb4 {fn:Func} {p u:Tmp} {ty:TypeId} (h:fn.results=#[.tmp u,.cell p ty]) (tmps:Array Value) (P:Program) (w:World):
  (results fn tmps).run P w=((asAddr (tmps.getD p undef)).run P w).andThen fun a w₁=>((loadVar ty a).run P w₁).andThen fun v w₂=>.ok (.tuple #[tmps.getD u undef,v]) w₂:=by
 simp only[results,h];simp[Sem.run_bind,Result.andThen]
theorem zqm {P:Program} {fn:Func} {R:Ending->World->Prop} {n:Nat} {env:List (Nat×Value)} {s:Nat->Value} {w:World} {p u:Nat} {ty:TypeId} {B:Nat} (x v:Value) (hr:fn.results=#[.tmp u,.cell p ty]) (hu:u<n) (hp:p<n) (hx:over env s u=x) (hpv:over env s p=.pointer (Option.some ⟨B,0,Option.none⟩))
  (hl:(loadVar ty ⟨B,0,Option.none⟩).run P w=.ok v w) (hR:R (.returned (.tuple #[x,v])) w):bodyPost P fn R .ret (Fr n env s) w:=by
 refine bodyPost_ret (v:=.tuple #[x,v]) ?_ (vz ..) hR;rw[zb4 hr,wa n env s p hp,wa n env s u hu,hpv,hx];simp[asAddr,hl,Result.andThen]
theorem zwh (s:List UInt8) (k:Nat):∃ (a:Int) (b c:ByteArray),zp1 s k=[.int .i64 a,.string b,.string c]:=by unfold zp1;split <;> exact⟨_,_,_,rfl⟩
theorem zvp (F:Nat) (bias:Int) (inf b:Nat) (l:List Nat) (x:Int) (hbias:1<=bias) (hinf:inf=(2*bias+1).toNat*2^F):spN F bias inf b l x<=inf:=by
 unfold spN;split
 ·omega
 ·split
  ·exact Nat.le_refl _
  ·exact ud F bias inf _ _ (qg _ (by unfold yfj;split <;> decide)) hbias hinf
theorem zjr (t:Txt):spB 52 1023 9218868437227405312 t<=9218868437227405312:=zvp 52 1023 _ _ _ _ ze rfl
theorem zz1 (t:Txt):spB 23 127 2139095040 t<=2139095040:=zvp 23 127 _ _ _ _ ze rfl
theorem PaQ64.lt {s:List UInt8} {v k:Nat} (h:PaQ64 s v k):v<18446744073709551616:=by
 unfold PaQ64 at h;split at h
 ·omega
 ·rename_i t ht;obtain⟨h0,h1,h2⟩:=h;rcases za0 ht with e | e | e
  ·have:=(h2 e).1;have h3:=zjr t;have h4:sgB t.neg<=9223372036854775808:=by unfold sgB;split <;> omega
   omega
  ·rw[(h1 e).1];cases t.neg <;> decide
  ·exact (h0 e).1.2
theorem PaQw.lt {s:List UInt8} {v k:Nat} (h:PaQw s v k):v<18446744073709551616:=by
 obtain⟨v,-,⟨-,h⟩ | ⟨-,-,h,-⟩⟩:=h
 ·exact h.1
 ·exact h
set_option maxRecDepth 100000 in
theorem zhd (T:Nat) (s:List UInt8) (w:World) (he:EnvP T w) (hs:s.length<=800):
  Calls Tryz.prog 19 #[.string ⟨s.toArray⟩] w fun e w'=>(∃ v k:Nat,e=.returned (.tuple #[.int .u64 (v:Int),.agg (zp1 s k).toArray])/\PaQ64 s v k)/\w.grownBy w' none:=by
 refine ye Tryz.func19 rfl (by rw[Tryz.ntmps19];simp) ?_;intro σ hσ;rw[Tryz.ntmps19];have s0:σ 0=.string ⟨s.toArray⟩:=hσ 0 zi;clear hσ;obtain⟨B,hB⟩:=zX w.heap.size;obtain⟨W1,hW1⟩:=zX (w.alloc (.cells fauZ.toArray 30));have g1:w.grownBy W1 none:=zαe;have r1:Row W1 B fauZ:=zβi;have HAT:=zH (zgr T s W1 (he.grown g1 (fun _ e=>zL)) hs);have hs1:w.heap.size<=B:=zd;have HB:=zH hs1;have G1:=zH g1;have R1:=zH r1;have HE:=zH he;unfold fauZ at hW1;clear hs1 g1 r1 he;(go_wp2_with fail;repeat ((first|refine cZ ?_|refine cW ?_);go_wp2_with fail));refine HAT.out.mono ?_;rintro e w2 ⟨⟨v,k,ev,rfl,hp,hq⟩,hg2⟩;clear hW1;have hv:v<18446744073709551616:=hp.lt;have hf:=fun W=>zot v hv W
 have HFO:=zH (ziz T s k ev w2 (HE.out.grown (ym G1.out hg2) (fun _ e=>zL)) hq);have G2:=zH (ym G1.out hg2);have R2:=zH (R1.out.grown hg2 zi);have HP:=zH hp;clear hp hq hg2 hv HAT HE R1 G1;(go_wp2_with fail;repeat ((first|refine cZ ?_|refine cW ?_);go_wp2_with fail));refine HFO.out.mono ?_;rintro e w3 ⟨rfl,hg3⟩;have G3:=zH (ym G2.out hg3);have R3:=zH (R2.out.grown hg3 zi);obtain⟨fa,fb,fc,hfa⟩:=zwh s k;have HF:=zH hfa;rw[hfa];have k0:=R3.out.cell 0;have k1:=R3.out.cell 1;have k2:=R3.out.cell 2;have u0:=R3.out.frozen 0;have u1:=R3.out.frozen 1;have u2:=R3.out.frozen 2;unfold fauZ at k0 k1 k2;simp only[List.getElem?_cons_zero,List.getElem?_cons_succ]at k0 k1 k2;clear hg3 hfa;(go_wp2_with fail;repeat ((first|refine cZ ?_|refine cW ?_);go_wp2_with fail));obtain⟨ty,hrow⟩:=((R3.out.setCell 0 (.int .i64 fa)).setCell 1 (.string fb)).setCell 2 (.string fc);refine zqm (B:=B) (.int .u64 (v:Int)) (.agg #[.int .i64 fa,.string fb,.string fc]) rfl ze ze zb zb ?_ ⟨⟨v,k,zβG,HP.out⟩,yb (yb (yb G3.out _ HB.out) _ HB.out) _ HB.out⟩;exact run_loadVar_row (P:=Tryz.prog) _ B ty 30 _ (0,0) _ hrow Tryz.underlying30 rfl zg
set_option maxRecDepth 100000 in
theorem zxw (T:Nat) (s:List UInt8) (w:World) (he:EnvP T w) (hs:s.length<=800):
  Calls Tryz.prog 22 #[.string ⟨s.toArray⟩] w fun e w'=>(∃ v k:Nat,e=.returned (.tuple #[.int .u64 (v:Int),.agg (zp1 s k).toArray])/\PaQw s v k)/\w.grownBy w' none:=by
 refine ye Tryz.func22 rfl (by rw[Tryz.ntmps22];simp) ?_;intro σ hσ;rw[Tryz.ntmps22];have s0:σ 0=.string ⟨s.toArray⟩:=hσ 0 zi;clear hσ;obtain⟨B,hB⟩:=zX w.heap.size;obtain⟨W1,hW1⟩:=zX (w.alloc (.cells fauZ.toArray 30));have g1:w.grownBy W1 none:=zαe;have r1:Row W1 B fauZ:=zβi;have HAT:=zH (zyq T s W1 (he.grown g1 (fun _ e=>zL)) hs);have hs1:w.heap.size<=B:=zd;have HB:=zH hs1;have G1:=zH g1;have R1:=zH r1;have HE:=zH he;unfold fauZ at hW1;clear hs1 g1 r1 he;(go_wp2_with fail;repeat ((first|refine cZ ?_|refine cW ?_);go_wp2_with fail));refine HAT.out.mono ?_;rintro e w2 ⟨⟨v,k,ev,rfl,hp,hq⟩,hg2⟩;clear hW1;have hv:v<18446744073709551616:=hp.lt;have hf:=fun W=>zot v hv W
 have HFO:=zH (ziz T s k ev w2 (HE.out.grown (ym G1.out hg2) (fun _ e=>zL)) hq);have G2:=zH (ym G1.out hg2);have R2:=zH (R1.out.grown hg2 zi);have HP:=zH hp;clear hp hq hg2 hv HAT HE R1 G1;(go_wp2_with fail;repeat ((first|refine cZ ?_|refine cW ?_);go_wp2_with fail));refine HFO.out.mono ?_;rintro e w3 ⟨rfl,hg3⟩;have G3:=zH (ym G2.out hg3);have R3:=zH (R2.out.grown hg3 zi);obtain⟨fa,fb,fc,hfa⟩:=zwh s k;have HF:=zH hfa;rw[hfa];have k0:=R3.out.cell 0;have k1:=R3.out.cell 1;have k2:=R3.out.cell 2;have u0:=R3.out.frozen 0;have u1:=R3.out.frozen 1;have u2:=R3.out.frozen 2;unfold fauZ at k0 k1 k2;simp only[List.getElem?_cons_zero,List.getElem?_cons_succ]at k0 k1 k2;clear hg3 hfa;(go_wp2_with fail;repeat ((first|refine cZ ?_|refine cW ?_);go_wp2_with fail));obtain⟨ty,hrow⟩:=((R3.out.setCell 0 (.int .i64 fa)).setCell 1 (.string fb)).setCell 2 (.string fc);refine zqm (B:=B) (.int .u64 (v:Int)) (.agg #[.int .i64 fa,.string fb,.string fc]) rfl ze ze zb zb ?_ ⟨⟨v,k,zβG,HP.out⟩,yb (yb (yb G3.out _ HB.out) _ HB.out) _ HB.out⟩;exact run_loadVar_row (P:=Tryz.prog) _ B ty 30 _ (0,0) _ hrow Tryz.underlying30 rfl zg 
end
theorem ztp (t:Txt):spG 9218868437227405312 xd t=spB 52 1023 9218868437227405312 t:=rfl
theorem yag (t:Txt):spG 2139095040 zxq t=spB 23 127 2139095040 t:=rfl
theorem zv1 {inf sg:Nat} {nb:Nat->Nat->Nat} {r:Txt} (e:r.kind=0):zqq inf sg nb r=spG inf nb r+(if r.neg then sg else 0):=by
 unfold zqq;rw[if_neg zαW,if_neg zαW]
theorem zv0 {inf sg:Nat} {nb:Nat->Nat->Nat} {r:Txt} (e:r.kind=1):zqq inf sg nb r=inf+(if r.neg then sg else 0):=by
 unfold zqq;rw[if_pos e]
theorem zvz {inf sg:Nat} {nb:Nat->Nat->Nat} {r:Txt} (e:r.kind=2):zqq inf sg nb r=inf+1:=by
 unfold zqq;rw[if_neg zαW,if_pos e]
theorem yar {inf:Nat} {nb:Nat->Nat->Nat} {r:Txt} (e:r.kind=0):ovP inf nb r=(spG inf nb r==inf):=by
 unfold ovP;rw[e];simp
theorem zv2 {inf:Nat} {nb:Nat->Nat->Nat} {r:Txt} (e:r.kind≠0):ovP inf nb r=false:=by
 unfold ovP;simp[e]
theorem zrc {s:List UInt8} {v k:Nat} (h:PaQ64 s v k):k=zig s/\(k≠1->v=zdy s\/(kn 9218868437227405312 9223372036854775808 v=2/\kn 9218868437227405312 9223372036854775808 (zdy s)=2))/\zdy s<18446744073709551616:=by
 unfold PaQ64 at h;unfold zig zdy;cases hr:ul s with
 | none=>
  rw[hr]at h;obtain⟨rfl,rfl⟩:=h;exact⟨rfl,fun h=>absurd rfl h,ze⟩
 | some t=>
  rw[hr]at h;dsimp only at h ⊢;obtain⟨h2,h1,h0⟩:=h;have hle:=zjr t;have hl:(if t.neg=true then 9223372036854775808 else 0)<=9223372036854775808:=zαT;rcases za0 hr with e | e | e
  ·obtain⟨rfl,rfl⟩:=h0 e;rw[zv1 e,yar e,ztp];refine⟨?_,fun _=>Or.inl ?_,zd⟩
   ·by_cases hx:spB 52 1023 9218868437227405312 t=9218868437227405312
    ·simp[hx]
    ·simp[hx]
   ·unfold sgB;exact Nat.add_comm _ _
  ·obtain⟨rfl,rfl⟩:=h1 e;rw[zv0 e,zv2 zαW];refine⟨rfl,fun _=>Or.inl ?_,zd⟩;cases t.neg <;> rfl
  ·obtain⟨⟨h3,h4⟩,rfl⟩:=h2 e;rw[zvz e,zv2 zαW];exact⟨rfl,fun _=>Or.inr ⟨zde rfl h3,zde rfl ze⟩,ze⟩
theorem zyg {v r:Nat} (h:yak v r) (hn:¬zxp v):r=zyo v:=by
 rcases h with⟨h,-⟩ | ⟨h1,-,-,h4⟩
 ·exact absurd h hn
 ·unfold zyo;by_cases hf:v%2147483648<2139095040
  ·rw[if_pos hf];rw[yaf v h1 hf]at h4;exact (Option.some.inj h4).symm
  ·have h5:¬2139095040<v%2147483648:=fun h=>hn ⟨h1,h⟩
   have h6:v=2139095040\/v=4286578688:=zd;rw[if_neg hf];rcases h6 with rfl | rfl
   ·have:floatToFloatBits .f32 2139095040 .f64=some 9218868437227405312:=zp;rw[this]at h4;exact (Option.some.inj h4).symm
   ·have:floatToFloatBits .f32 4286578688 .f64=some 18442240474082181120:=zp;rw[this]at h4;exact (Option.some.inj h4).symm
theorem zzf (v:Nat) (hv:v<4294967296):zyo v<18446744073709551616:=by
 unfold zyo;by_cases hf:v%2147483648<2139095040
 ·rw[if_pos hf];exact (zxi v hv hf).1
 ·rw[if_neg hf];unfold sgW zs5;split <;> split <;> omega
theorem zyh {s:List UInt8} {v k:Nat} (h:PaQw s v k):k=zya s/\(k≠1->v=zxy s\/(kn 9218868437227405312 9223372036854775808 v=2/\kn 9218868437227405312 9223372036854775808 (zxy s)=2))/\zxy s<18446744073709551616:=by
 obtain⟨u,h,hw⟩:=h;unfold PaQ32 at h;unfold zya zxy;cases hr:ul s with
 | none=>
  rw[hr]at h;obtain⟨rfl,rfl⟩:=h;exact⟨rfl,fun h=>absurd rfl h,ze⟩
 | some t=>
  rw[hr]at h;dsimp only at h ⊢;obtain⟨h2,h1,h0⟩:=h;have hle:=zz1 t;have hl:(if t.neg=true then 2147483648 else 0)<=2147483648:=zαT;rcases za0 hr with e | e | e
  ·obtain⟨hu,rfl⟩:=h0 e;rw[zv1 e,yar e,yag];have hu2:u=spB 23 127 2139095040 t+if t.neg=true then 2147483648 else 0:=by rw[hu];unfold sgC;exact Nat.add_comm _ _
   rw[<-hu2];have hnn:¬zxp u:=by
    rintro⟨h3,h4⟩;revert h4;rw[hu2];split <;> omega
   refine⟨?_,fun _=>Or.inl (zyg hw hnn),zzf _ zd⟩;by_cases hx:spB 23 127 2139095040 t=2139095040
   ·simp[hx]
   ·simp[hx]
  ·obtain⟨hu,rfl⟩:=h1 e;rw[zv0 e,zv2 zαW];have hu2:u=2139095040+if t.neg=true then 2147483648 else 0:=by rw[hu];cases t.neg <;> rfl
   rw[<-hu2];have hnn:¬zxp u:=by
    rintro⟨h3,h4⟩;revert h4;rw[hu2];split <;> omega
   exact⟨rfl,fun _=>Or.inl (zyg hw hnn),zzf _ zd⟩
  ·obtain⟨h3,rfl⟩:=h2 e;rw[zvz e,zv2 zαW];have hw9:zyo (2139095040+1)=9223372036854775807:=by
    unfold zyo;rw[if_neg ze];rfl
   rw[hw9];refine⟨rfl,fun _=>Or.inr ⟨?_,zde rfl ze⟩,ze⟩;rcases hw with⟨-,h5⟩ | ⟨-,h5,-⟩
   ·exact zde rfl h5.2
   ·exact absurd h3 h5
def RdNum (s:List UInt8) (neg:Bool) (a b:Nat):Prop:=b≠0/\∃ t,ul s=some t/\t.kind=0/\t.neg=neg/\∀ (F:Nat) (bias:Int) (inf:Nat),1<=bias->bias<=1023->1<=F->bias+F<=1075->spB F bias inf t=xh F bias inf a b
theorem RdNum.pa64 {s:List UInt8} {n:Bool} {a b v k:Nat} (h:RdNum s n a b) (hp:PaQ64 s v k):v=sgB n+xd a b/\k=if xd a b=9218868437227405312 then 2 else 0:=by
 obtain⟨hb,t,h1,h2,h3,h4⟩:=h;unfold PaQ64 at hp;rw[h1]at hp;obtain⟨e1,e2⟩:=hp.2.2 h2;rw[h4 52 1023 9218868437227405312 ze ze ze ze]at e1 e2;rw[h3]at e1;exact⟨e1,e2⟩
theorem RdNum.paw {s:List UInt8} {n:Bool} {a b v k:Nat} (h:RdNum s n a b) (hp:PaQw s v k):v=zyo (sgC n+zxq a b)/\k=if zxq a b=2139095040 then 2 else 0:=by
 obtain⟨hb,t,h1,h2,h3,h4⟩:=h;obtain⟨u,hp,hw⟩:=hp;unfold PaQ32 at hp;rw[h1]at hp;obtain⟨e1,e2⟩:=hp.2.2 h2;rw[h4 23 127 2139095040 ze ze ze ze]at e1 e2;rw[h3]at e1;have hle:=ud 23 127 2139095040 a b hb ze ze;have e3:u=sgC n+zxq a b:=e1;refine⟨?_,e2⟩;rw[<-e3];refine zyg hw ?_;rintro⟨-,h⟩;have:zxq a b<=2139095040:=hle;cases n
 ·rw[show sgC false=0 from rfl]at e3;omega
 ·rw[show sgC true=2147483648 from rfl]at e3;omega
theorem RdNum.same64 {s s':List UInt8} {n:Bool} {a b v k v' k':Nat} (h1:RdNum s n a b) (h2:RdNum s' n a b) (p1:PaQ64 s v k) (p2:PaQ64 s' v' k'):v=v'/\k=k':=by
 obtain⟨e1,e2⟩:=h1.pa64 p1;obtain⟨e3,e4⟩:=h2.pa64 p2;exact⟨e1.trans e3.symm,e2.trans e4.symm⟩
theorem RdNum.samew {s s':List UInt8} {n:Bool} {a b v k v' k':Nat} (h1:RdNum s n a b) (h2:RdNum s' n a b) (p1:PaQw s v k) (p2:PaQw s' v' k'):v=v'/\k=k':=by
 obtain⟨e1,e2⟩:=h1.paw p1;obtain⟨e3,e4⟩:=h2.paw p2;exact⟨e1.trans e3.symm,e2.trans e4.symm⟩
theorem ybl {s:List UInt8} {x:Bool×Nat×Nat} (h:zjy s=some x):∃ t,ul s=some t/\t.kind=0:=by
 unfold zjy at h;cases hr:ul s with
 | none=>rw[hr]at h;cases h
 | some t=>
  rw[hr]at h;dsimp only at h;by_cases hk:t.kind=0
  ·exact⟨t,rfl,hk⟩
  ·rw[if_pos hk]at h;cases h
theorem ybe {s:List UInt8} {ng:Bool} {n d:Nat} (h:zjy s=some (ng,n,d)):RdNum s ng n d:=by
 obtain⟨t,hr,hk⟩:=ybl h;have hok:=(ze9 hr).2 hk;unfold zjy at h;rw[hr]at h;dsimp only at h;rw[if_neg (by rw[hk];decide)]at h;by_cases h0:t.digits=[]
 ·rw[if_pos h0]at h;cases h;refine⟨ze,t,hr,hk,rfl,fun F bias inf b1 b2 f1 f2=>?_⟩;rw[zai F bias inf 1 ze b1 f1];unfold spB spN;rw[if_pos (by unfold zq0;rw[if_pos h0])]
 ·rw[if_neg h0]at h;by_cases ho:zb8 t.base t.digits t.exp=0
  ·rw[if_neg (by rw[ho];decide)]at h;cases h;refine⟨qg _ (by rcases hok.1 with e | e <;> rw[e] <;> decide),t,hr,hk,rfl,fun F bias inf b1 b2 f1 f2=>?_⟩;have hop:zq0 t.base t.digits t.exp=0:=ho;unfold spB spN;rw[hop,if_neg ze,if_neg ze];rfl
  ·rw[if_pos ho]at h;cases h
theorem ybx {c:UInt8} (h1:c≠43) (h2:c≠45):vb c≠43/\vb c≠45:=by
 unfold vb;split
 ·rename_i h;have e:(UInt8.ofNat (c.toNat+32)).toNat=c.toNat+32:=by rw[UInt8.toNat_ofNat'];exact Nat.mod_eq_of_lt zd
  constructor
  ·intro hh;rw[hh]at e;have:(43:UInt8).toNat=43:=rfl;omega
  ·intro hh;rw[hh]at e;have:(45:UInt8).toNat=45:=rfl;omega
 ·exact⟨h1,h2⟩
theorem ybd {c:UInt8} {r:List UInt8} {t:Txt} (h:ul (c::r)=some t) (hk:t.kind=0) (h1:c≠43) (h2:c≠45):
  t.neg=false/\ul (43::c::r)=some t/\ul (45::c::r)=some ⟨0,true,t.base,t.digits,t.exp⟩:=by
 obtain⟨e1,e2⟩:=ybx h1 h2;have hl:xf (c::r)=vb c::xf r:=rfl;have hl3:xf (43::c::r)=43::xf (c::r):=rfl;have hl5:xf (45::c::r)=45::xf (c::r):=rfl;have hs:sgL (xf (c::r))=(false,xf (c::r)):=by rw[hl];simp[sgL,e1,e2]
 unfold ul at h;rw[hs]at h;by_cases hn:xf (c::r)=[110,97,110]
 ·rw[if_pos hn]at h;cases h;cases hk
 ·rw[if_neg hn]at h;unfold zna at h;dsimp only at h;split at h
  ·cases h;cases hk
  ·rename_i hi;obtain⟨x,hx,rfl⟩:=Option.map_eq_some_iff.1 h;refine⟨rfl,?_,?_⟩
   ·unfold ul;rw[hl3,if_neg (by intro e;have:=(List.cons.inj e).1;revert this;decide),show sgL (43::xf (c::r))=(false,xf (c::r)) by simp[sgL]];unfold zna;dsimp only;rw[if_neg hi,hx];rfl
   ·unfold ul;rw[hl5,if_neg (by intro e;have:=(List.cons.inj e).1;revert this;decide),show sgL (45::xf (c::r))=(true,xf (c::r)) by simp[sgL]];unfold zna;dsimp only;rw[if_neg hi,hx];rfl
theorem ybf (x:Nat) (hx:x<=2139095040):zyo (2147483648+x)=9223372036854775808+zyo x:=by
 unfold zyo;rw[show (2147483648+x)%2147483648=x by omega,show x%2147483648=x by omega];by_cases h:x<2139095040
 ·rw[if_pos h,if_pos h];have hm:m32 (2147483648+x)=m32 x:=by
   rw[<-zv8,<-zv8,show (2147483648+x)%2147483648=x by omega,show x%2147483648=x by omega]
  have he:e32 (2147483648+x)=e32 x:=by
   rw[<-zwp,<-zwp,show (2147483648+x)%2147483648=x by omega,show x%2147483648=x by omega]
  unfold zma;rw[hm,he,if_pos zd,if_neg zd];omega
 ·rw[if_neg h,if_neg h];have:x=2139095040:=zd;subst this;decide
theorem ybq (x:Nat) (hx:x<=2139095040):zyo x<9223372036854775808:=by
 unfold zyo;by_cases h:x%2147483648<2139095040
 ·rw[if_pos h];obtain⟨h1,h2,h3,-⟩:=zxi x zd h;have h4:¬2147483648<=x:=zd;have h5:¬9223372036854775808<=zma x:=by
   intro hh;rw[decide_eq_true hh,decide_eq_false h4]at h3;cases h3
  omega
 ·rw[if_neg h];have:x=2139095040:=zd;subst this;decide
theorem ybr:zyo 0=0/\zyo 2147483648=9223372036854775808/\zyo 4286578688=18442240474082181120:=by
 have h0:zyo 0=0:=by
  unfold zyo;rw[if_pos ze];unfold zma;rw[if_neg ze,Nat.add_zero];have hm:m32 0=0:=by rw[<-zv8];decide
  unfold vN;rw[hm,Nat.zero_mul];exact zai 52 1023 _ _ (Nat.ne_of_gt (zjf _)) ze ze
 refine⟨h0,?_,?_⟩
 ·have:=ybf 0 ze;rw[h0]at this;exact this
 ·unfold zyo;rw[if_neg ze];decide
theorem RdNum.signs {c:UInt8} {r:List UInt8} {n:Bool} {a b:Nat} (h:RdNum (c::r) n a b) (h1:c≠43) (h2:c≠45):
  n=false/\RdNum (43::c::r) false a b/\RdNum (45::c::r) true a b:=by
 obtain⟨hb,t,hr,hk,hn,hv⟩:=h;obtain⟨e1,e2,e3⟩:=ybd hr hk h1 h2;exact⟨hn.symm.trans e1,⟨hb,t,e2,hk,e1,hv⟩,⟨hb,_,e3,rfl,rfl,hv⟩⟩
theorem ybz {s s':List UInt8} {a b x y k k':Nat} (h1:RdNum s false a b) (h2:RdNum s' true a b) (p1:PaQ64 s x k) (p2:PaQ64 s' y k'):
  k=k'/\x<9223372036854775808/\y=9223372036854775808+x:=by
 obtain⟨e1,e2⟩:=h1.pa64 p1;obtain⟨e3,e4⟩:=h2.pa64 p2;have hle:xd a b<=9218868437227405312:=ud 52 1023 9218868437227405312 a b h1.1 ze ze;rw[show sgB false=0 from rfl,Nat.zero_add]at e1;rw[show sgB true=9223372036854775808 from rfl]at e3;exact⟨e2.trans e4.symm,zd,zd⟩
theorem yb2 {s s':List UInt8} {a b x y k k':Nat} (h1:RdNum s false a b) (h2:RdNum s' true a b) (p1:PaQw s x k) (p2:PaQw s' y k'):
  k=k'/\x<9223372036854775808/\y=9223372036854775808+x:=by
 obtain⟨e1,e2⟩:=h1.paw p1;obtain⟨e3,e4⟩:=h2.paw p2;have hle:zxq a b<=2139095040:=ud 23 127 2139095040 a b h1.1 ze ze;rw[show sgC false=0 from rfl,Nat.zero_add]at e1;rw[show sgC true=2147483648 from rfl,ybf _ hle]at e3;have:=ybq _ hle;exact⟨e2.trans e4.symm,zd,zd⟩
theorem ybj (x:Nat) (h:x<9223372036854775808):bits .xor .u64 (x:Int) 9223372036854775808=((9223372036854775808+x:Nat):Int):=by
 have:=bits_xor_u64_nat x 9223372036854775808 zd ze;rw[show x ^^^ 9223372036854775808=9223372036854775808+x from zs0 63 x h]at this;exact this
theorem RdNum.read {s:List UInt8} {n:Bool} {a b:Nat} (h:RdNum s n a b):∃ t,ul s=some t:=by
 obtain⟨-,t,h,-⟩:=h;exact⟨t,h⟩
theorem RdNum.no40 {s:List UInt8} {n:Bool} {a b:Nat} (h:RdNum s n a b):40 ∉ s:=by
 obtain⟨t,h⟩:=h.read;exact yiy h (Or.inr (Or.inl rfl))
theorem yi2 {t:List UInt8} (h:32 ∈ t):ul t=none:=by
 cases hr:ul t with
 | none=>rfl
 | some x=>exact absurd h (yiy hr (Or.inl rfl))
theorem yji {t:List UInt8} (h:32 ∈ t) {v k:Nat} (p:PaQ64 t v k):k=1:=by
 unfold PaQ64 at p;rw[yi2 h]at p;exact p.2
theorem yjs {t:List UInt8} (h:32 ∈ t) {v k:Nat} (p:PaQw t v k):k=1:=by
 obtain⟨u,p,-⟩:=p;unfold PaQ32 at p;rw[yi2 h]at p;exact p.2
theorem yjt {t:List UInt8} (h:32 ∈ t) (hl:t.length<=800) {x y k:Nat} (p:yhe AtQ64 t x y k):k=1:=by
 obtain⟨h1,h2⟩:=yjb h;exact yjd frOK64 h1 zd p
def cpT (a:List UInt8) (c:UInt8) (b:List UInt8):List UInt8:=a++c::(b++[105])
theorem yjh (a:List UInt8) (c:UInt8) (b:List UInt8):(cpT a c b).length=a.length+b.length+2:=by
 unfold cpT;simp only[List.length_append,List.length_cons,List.length_nil];omega
theorem yi5 {a b:List UInt8} {c:UInt8} {n n':Bool} {p q p' q':Nat} (ha:RdNum a n p q) (hb:RdNum b n' p' q') (hc:c=43\/c=45):yfz (cpT a c b)=cpT a c b:=by
 refine yix ?_;unfold cpT;intro h;rcases List.mem_append.1 h with h | h
 ·exact ha.no40 h
 rcases List.mem_cons.1 h with h | h
 ·rcases hc with hc | hc <;> rw[hc]at h <;> exact absurd h ze
 rcases List.mem_append.1 h with h | h
 ·exact hb.no40 h
 ·revert h;decide
structure PartsQ (a b:List UInt8) (c:UInt8) (x kf y kg re im h:Nat):Prop where
 ere:re=x
 eim:im=if c=45 then 9223372036854775808+y else y
 ekf:kf=0\/kf=2
 ekg:kg=0\/kg=2
 ek:h=if kg=2 then 2 else kf
 ey:y<9223372036854775808
theorem yjf {s:List UInt8} {a b x k:Nat} (h1:RdNum s false a b) (p1:PaQ64 s x k):x<9223372036854775808:=by
 obtain⟨e1,e2⟩:=h1.pa64 p1;have hle:xd a b<=9218868437227405312:=ud 52 1023 9218868437227405312 a b h1.1 ze ze;rw[show sgB false=0 from rfl,Nat.zero_add]at e1;omega
theorem yjv {s:List UInt8} {a b x k:Nat} (h1:RdNum s false a b) (p1:PaQw s x k):x<9223372036854775808:=by
 obtain⟨e1,e2⟩:=h1.paw p1;have hle:zxq a b<=2139095040:=ud 23 127 2139095040 a b h1.1 ze ze;rw[show sgC false=0 from rfl,Nat.zero_add]at e1;have:=ybq _ hle;omega
theorem yiu {A:List UInt8->Nat->Nat->Value->Prop} {Pa:List UInt8->Nat->Nat->Prop} (H:FrOK A Pa)
  (hsame:∀ {s s':List UInt8} {n:Bool} {a b v k v' k':Nat},RdNum s n a b->RdNum s' n a b->Pa s v k->Pa s' v' k'->v=v'/\k=k')
  (hmin:∀ {s s':List UInt8} {a b x y k k':Nat},RdNum s false a b->RdNum s' true a b->Pa s x k->Pa s' y k'->k=k'/\x<9223372036854775808/\y=9223372036854775808+x)
  (hpos:∀ {s:List UInt8} {a b x k:Nat},RdNum s false a b->Pa s x k->x<9223372036854775808)
  {a b:List UInt8} {c:UInt8} {d:UInt8} {r:List UInt8} {n n':Bool} {p q p' q' x kf y kg re im h:Nat} (hb0:b=d::r) (hd1:d≠43) (hd2:d≠45) (ha:RdNum a n p q) (hb:RdNum b n' p' q')
  (hla:a.length<=796) (hlb:b.length<=796) (hc:c=43\/c=45) (pa:Pa a x kf) (pb:Pa b y kg) (hr:yim A (cpT a c b) re im h):PartsQ a b c x kf y kg re im h:=by
 obtain⟨ta,ra⟩:=ha.read;obtain⟨tb,rb⟩:=hb.read;have hs:=hb0 ▸ hb;obtain⟨hn,-,hm⟩:=RdNum.signs hs hd1 hd2;rw[<-hb0]at hm;subst hn;obtain⟨tm,rm⟩:=hm.read;have hy:=hpos hb pb;have hkg:=H.kind rb pb;have hkf:=H.kind ra pa;by_cases h45:c=45
 ·obtain⟨k1,k2,g1,g2,q1,q2,e⟩:=yjc H (tb:=45::b) ra rm zd zβA (Or.inr ⟨h45,rfl⟩) hr;obtain⟨e1,e2⟩:=hsame ha ha pa q1;obtain⟨f1,-,f2⟩:=hmin hb hm pb q2;exact⟨e1.symm,by rw[if_pos h45];exact f2,hkf,hkg,by rw[e,<-f1,<-e2],hy⟩
 ·obtain⟨k1,k2,g1,g2,q1,q2,e⟩:=yjc H (tb:=b) ra rb zd zd (Or.inl ⟨hc.resolve_right h45,rfl,by rw[hb0];exact hd1⟩) hr;obtain⟨e1,e2⟩:=hsame ha ha pa q1;obtain⟨f1,f2⟩:=hsame hb hb pb q2;exact⟨e1.symm,by rw[if_neg h45];exact f1.symm,hkf,hkg,by rw[e,<-f2,<-e2],hy⟩
theorem yjk {a b:List UInt8} {c:UInt8} {d:UInt8} {r:List UInt8} {n n':Bool} {p q p' q' x kf y kg re im h re2 im2 h2:Nat} (hb0:b=d::r) (hd1:d≠43) (hd2:d≠45) (ha:RdNum a n p q) (hb:RdNum b n' p' q')
  (hla:a.length<=796) (hlb:b.length<=796) (hc:c=43\/c=45) (pa:PaQ64 a x kf) (pb:PaQ64 b y kg) (hr:yhe AtQ64 (cpT a c b) re im h) (hr2:yhe AtQ64 (40::(cpT a c b++[41])) re2 im2 h2):PartsQ a b c x kf y kg re im h/\re2=re/\im2=im/\h2=h:=by
 unfold yhe at hr hr2;rw[yi5 ha hb hc]at hr;rw[yi0]at hr2;have g1:=yiu frOK64 RdNum.same64 ybz yjf hb0 hd1 hd2 ha hb hla hlb hc pa pb hr;have g2:=yiu frOK64 RdNum.same64 ybz yjf hb0 hd1 hd2 ha hb hla hlb hc pa pb hr2;exact⟨g1,g2.ere.trans g1.ere.symm,g2.eim.trans g1.eim.symm,g2.ek.trans g1.ek.symm⟩
theorem yjw {a b:List UInt8} {c:UInt8} {d:UInt8} {r:List UInt8} {n n':Bool} {p q p' q' x kf y kg re im h re2 im2 h2:Nat} (hb0:b=d::r) (hd1:d≠43) (hd2:d≠45) (ha:RdNum a n p q) (hb:RdNum b n' p' q')
  (hla:a.length<=796) (hlb:b.length<=796) (hc:c=43\/c=45) (pa:PaQw a x kf) (pb:PaQw b y kg) (hr:yhe yij (cpT a c b) re im h) (hr2:yhe yij (40::(cpT a c b++[41])) re2 im2 h2):PartsQ a b c x kf y kg re im h/\re2=re/\im2=im/\h2=h:=by
 unfold yhe at hr hr2;rw[yi5 ha hb hc]at hr;rw[yi0]at hr2;have g1:=yiu frOK32 RdNum.samew yb2 yjv hb0 hd1 hd2 ha hb hla hlb hc pa pb hr;have g2:=yiu frOK32 RdNum.samew yb2 yjv hb0 hd1 hd2 ha hb hla hlb hc pa pb hr2;exact⟨g1,g2.ere.trans g1.ere.symm,g2.eim.trans g1.eim.symm,g2.ek.trans g1.ek.symm⟩
theorem yj3 {s:List UInt8} {n:Bool} {p q x f re no g ze im h:Nat} (hs:RdNum s n p q) (hl:s.length<=798) (pa:PaQ64 s x f) (h1:yhe AtQ64 s re no g) (h2:yhe AtQ64 (s++[105]) ze im h):
  re=x/\no=0/\g=f/\ze=0/\im=x/\h=f:=by
 obtain⟨t,rs⟩:=hs.read;unfold yhe at h1 h2;rw[yix hs.no40]at h1;rw[yix (fun hm=>(List.mem_append.1 hm).elim hs.no40 (fun hm=>by revert hm;decide))]at h2;obtain⟨q1,e1,-⟩:=yje frOK64 rs zd h1;obtain⟨q2,e2,-⟩:=yja frOK64 rs zd h2;obtain⟨a1,a2⟩:=hs.same64 hs pa q1;obtain⟨b1,b2⟩:=hs.same64 hs pa q2;exact⟨a1.symm,e1,a2.symm,e2,b1.symm,b2.symm⟩
theorem one_w {s:List UInt8} {n:Bool} {p q x f re no g ze im h:Nat} (hs:RdNum s n p q) (hl:s.length<=798) (pa:PaQw s x f) (h1:yhe yij (40::(s++[41])) re no g) (h2:yhe yij (s++[105]) ze im h):
  re=x/\no=0/\g=f/\ze=0/\im=x/\h=f:=by
 obtain⟨t,rs⟩:=hs.read;unfold yhe at h1 h2;rw[yi0]at h1;rw[yix (fun hm=>(List.mem_append.1 hm).elim hs.no40 (fun hm=>by revert hm;decide))]at h2;obtain⟨q1,e1,-⟩:=yje frOK32 rs zd h1;obtain⟨q2,e2,-⟩:=yja frOK32 rs zd h2;obtain⟨a1,a2⟩:=hs.samew hs pa q1;obtain⟨b1,b2⟩:=hs.samew hs pa q2;exact⟨a1.symm,e1,a2.symm,e2,b1.symm,b2.symm⟩
section
attribute [local go_sem] undef
theorem ya2 (s:List UInt8) (k:Nat):∃ fb fc:ByteArray,zp1 s k=[.int .i64 (k:Int),.string fb,.string fc]:=by
 unfold zp1;by_cases h:k=0
 ·subst h;exact⟨_,_,by rw[if_pos rfl];rfl⟩
 ·exact⟨_,_,by rw[if_neg h]⟩
theorem ya3 {v:Nat} (h:kn 9218868437227405312 9223372036854775808 v=2):v*2%18446744073709551616≠0:=by
 unfold kn at h;split at h
 ·cases h
 ·split at h
  ·cases h
  ·omega
end
theorem yjl {a b:Nat} (hb:b≠0) (h:xh 52 1023 9218868437227405312 a b=9218868437227405312):xh 23 127 2139095040 a b=2139095040:=by
 by_cases ha:a=0
 ·exfalso;have hz:xh 52 1023 9218868437227405312 0 b=0:=zai 52 1023 _ b hb ze ze;rw[ha,hz]at h;exact absurd h ze
 ·have h1:le2 a b 1023:=Classical.byContradiction (fun hn=>zq3 52 1023 9218868437227405312 a b hb ze ze ze (fun _=>hn) h);exact zq4 23 127 2139095040 a b hb (wh ze h1)
theorem yj1 {t:Txt} (ht:yfj t.base≠0) (h:spB 52 1023 9218868437227405312 t=9218868437227405312):spB 23 127 2139095040 t=2139095040:=by
 unfold spB spN at *
 by_cases h1:zq0 t.base t.digits t.exp=-1
 ·rw[if_pos h1]at h;exact absurd h ze
 ·rw[if_neg h1]at h ⊢;by_cases h2:zq0 t.base t.digits t.exp=1
  ·rw[if_pos h2]
  ·rw[if_neg h2]at h ⊢;exact yjl (qg _ zd) h
theorem yjr (b:Nat):yfj b≠0:=by unfold yfj;split <;> decide
theorem yjo {s:List UInt8} {v k v' k':Nat} (h1:PaQ64 s v k) (h2:PaQw s v' k'):
  (k=0\/k=1\/k=2)/\(k'=0\/k'=1\/k'=2)/\(k=1↔ul s=none)/\(k'=1↔ul s=none)/\(k=2->k'=2/\(v=9218868437227405312\/v=18442240474082181120))/\(k'=2->v'=9218868437227405312\/v'=18442240474082181120):=by
 obtain⟨u,h2,hw⟩:=h2;unfold PaQ64 at h1;unfold PaQ32 at h2;cases hr:ul s with
 | none=>
  rw[hr]at h1 h2;obtain⟨-,rfl⟩:=h1;obtain⟨-,rfl⟩:=h2;exact⟨zd,zd,⟨fun _=>rfl,fun _=>rfl⟩,⟨fun _=>rfl,fun _=>rfl⟩,fun h=>zd,fun h=>zd⟩
 | some t=>
  rw[hr]at h1 h2;obtain⟨a2,a1,a0⟩:=h1;obtain⟨b2,b1,b0⟩:=h2;rcases za0 hr with e | e | e
  ·obtain⟨c1,c2⟩:=a0 e;obtain⟨d1,d2⟩:=b0 e;have hk:k=0\/k=2:=by split at c2 <;> omega
   have hk':k'=0\/k'=2:=by split at d2 <;> omega
   refine⟨zd,zd,⟨fun h=>zd,fun h=>zF⟩,⟨fun h=>zd,fun h=>zF⟩,fun h=>?_,fun h=>?_⟩
   ·have hi:spB 52 1023 9218868437227405312 t=9218868437227405312:=by
     split at c2
     ·assumption
     ·omega
    rw[yj1 (yjr _) hi,if_pos rfl]at d2;refine⟨d2,?_⟩;rw[c1,hi];cases t.neg
    ·exact Or.inl rfl
    ·exact Or.inr rfl
   ·have hi:spB 23 127 2139095040 t=2139095040:=by
     split at d2
     ·assumption
     ·omega
    rw[hi]at d1;have hnn:¬zxp u:=by
     rintro⟨-,g⟩;rw[d1]at g;have hsg:sgC t.neg=0\/sgC t.neg=2147483648:=by
      cases t.neg
      ·exact Or.inl rfl
      ·exact Or.inr rfl
     omega
    have hv:=zyg hw hnn;rw[hv,d1];cases t.neg
    ·exact Or.inl (by rw[show sgC false+2139095040=2139095040 from rfl];unfold zyo;rw[if_neg ze];decide)
    ·exact Or.inr (by rw[show sgC true+2139095040=4286578688 from rfl];exact ybr.2.2)
  ·obtain⟨c1,c2⟩:=a1 e;obtain⟨d1,d2⟩:=b1 e;exact⟨zd,zd,⟨fun h=>zd,fun h=>zF⟩,⟨fun h=>zd,fun h=>zF⟩,fun h=>zd,fun h=>zd⟩
  ·obtain⟨c1,c2⟩:=a2 e;obtain⟨d1,d2⟩:=b2 e;exact⟨zd,zd,⟨fun h=>zd,fun h=>zF⟩,⟨fun h=>zd,fun h=>zF⟩,fun h=>zd,fun h=>zd⟩
end Go.Proofs.YtoacbkokkkpofaaGreatDoor
