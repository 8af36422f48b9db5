/- Lemmas that the claim's top text leans on. No condition of their own. -/
import Derived.Test.YtoacbkokkkpofaaGreatDoorK41
import Derived.Test.YtoacbkokkkpofaaGreatDoorK42
import Derived.Test.YtoacbkokkkpofaaGreatDoorK40
import Derived.Test.YtoacbkokkkpofaaGreatDoorK30
namespace Go.Proofs.YtoacbkokkkpofaaGreatDoor
open Go.RowKit
set_option linter.unusedSimpArgs false
set_option linter.unusedVariables false
set_option maxHeartbeats 16000000
section
attribute [local go_sem] undef
theorem ze7 {fn:Func} {p:Tmp} {ty:TypeId} (h:fn.results=#[.cell p ty]) (tmps:Array Value) (P:Program) (w:World):
  (results fn tmps).run P w=((asAddr (tmps.getD p undef)).run P w).andThen fun a w₁=>(loadVar ty a).run P w₁:=by
 simp only[results,h];simp[Sem.run_bind,Result.andThen]
theorem vj {P:Program} {fn:Func} {R:Ending->World->Prop} {n:Nat} {env:List (Nat×Value)} {s:Nat->Value} {w:World} {p:Nat} {ty:TypeId} {B:Nat} (v:Value) (hr:fn.results=#[.cell p ty]) (hp:p<n) (hpv:over env s p=.pointer (Option.some ⟨B,0,Option.none⟩))
  (hl:(loadVar ty ⟨B,0,Option.none⟩).run P w=.ok v w) (hR:R (.returned v) w):bodyPost P fn R .ret (Fr n env s) w:=by
 refine bodyPost_ret (v:=v) ?_ (vz ..) hR;rw[ze7 hr,wa n env s p hp,hpv];simp[asAddr,hl,Result.andThen]
def yfw (nm:ByteArray) (s:List UInt8) (k:Nat):List Value:=if k=0 then [.int .i64 0,.string ⟨#[]⟩,.string ⟨#[]⟩] else [.int .i64 (k:Int),.string nm,.string ⟨s.toArray⟩]
def fauZ:List Value:=[.int .i64 0,.string ⟨#[]⟩,.string ⟨#[]⟩]
theorem zsz (v:Value) (xT:TypeId) (w:World):(Instr.typeAssert (.iface 81 v) xT 81 true).run Tryz.prog w=.ok (.tuple #[v,.bool true]) w:=by kernel_rfl
set_option maxRecDepth 100000 in
theorem zos (w:World):Calls Tryz.prog 33 #[.nilIface] w fun e w'=>e=.returned (.agg fauZ.toArray)/\w.grownBy w' none:=by
 refine ye Tryz.func33 rfl (by rw[Tryz.ntmps33];simp) ?_;intro σ hσ;rw[Tryz.ntmps33];have s0:σ 0=.nilIface:=hσ 0 zi;clear hσ;obtain⟨w1,hw1⟩:=zX (w.alloc (.cells fauZ.toArray 30));have hrB:=Row.new w fauZ 30;have hgB:=World.grownBy_alloc w (.cells fauZ.toArray 30) none;rw[hw1]at hrB hgB;unfold fauZ at hw1;have HRB:=zH hrB;have HGB:=zH hgB;clear hrB hgB;obtain⟨B,hB⟩:=zX w.heap.size;rw[hB]at HRB;have k0:=HRB.out.cell 0;have k1:=HRB.out.cell 1;have k2:=HRB.out.cell 2;have t0:=HRB.out.frozen 0;have t1:=HRB.out.frozen 1;have t2:=HRB.out.frozen 2;unfold fauZ at k0 k1 k2;simp only[List.getElem?_cons_zero,List.getElem?_cons_succ]at k0 k1 k2;have HB:=zH hB;go_upto_region 1 with fail;clear hw1 hB;(go_wp2_with fail;repeat ((first|refine cZ ?_|refine cW ?_);go_wp2_with fail));obtain⟨ty,hrow⟩:=((HRB.out.setCell 0 (.int .i64 0)).setCell 1 (.string ⟨#[]⟩)).setCell 2 (.string ⟨#[]⟩);have hBw:w.heap.size<=B:=by have:=HB.out;omega
 refine vj (B:=B) (.agg fauZ.toArray) rfl ze zb ?_ ⟨rfl,yb (yb (yb HGB.out _ hBw) _ hBw) _ hBw⟩;exact run_loadVar_row (P:=Tryz.prog) _ B ty 30 _ (0,0) _ hrow Tryz.underlying30 rfl zg 
end
section
attribute [local go_sem] undef
theorem ErrNf.grown {nm:ByteArray} {w w':World} {s:List UInt8} {k N:Nat} (h:ErrNf nm w s k N) (hg:w.grownBy w' none):ErrNf nm w' s k N:=by
 obtain⟨x,h1,h2⟩:=h;exact⟨x,hg.cell h1 zi,(hg.block N (by obtain⟨hlt,-⟩:=Array.getElem?_eq_some_iff.1 h2;exact hlt) zi).trans h2⟩
theorem zbb {w:World} {N:Nat} {xs:List Value} {t:TypeId} (h:w.heap[N]?=some (.cells xs.toArray t (0,0))) (i:Nat):w.cell? ⟨N,i,none⟩=xs[i]?:=
 Row.cell (xs:=xs) ⟨t,h⟩ i
theorem is_S {nm:ByteArray} {T:Nat} {s:List UInt8} {k N:Nat} {w:World} (he:EnvP T w) (hn:ErrNf nm w s k N) (hk:k=1\/k=2):∃ a:Addr,w.cell? ⟨1,0,none⟩=some (.iface 160 (.pointer (some a)))/\
  Calls Tryz.prog 50 #[.iface 81 (.pointer (some ⟨N,0,none⟩)),.iface 160 (.pointer (some a))] w fun e w'=>e=.returned (.bool (decide (k=1)))/\w'=w:=by
 obtain⟨aS,aR,cS,cR,tS,tR,h1,h2,h3,h4,h5,h6,h7⟩:=he.errs;obtain⟨x,hx,hN⟩:=hn;have hc:=zbb (xs:=[.string nm,.string ⟨s.toArray⟩,x]) hN 2;simp only[List.getElem?_cons_zero,List.getElem?_cons_succ]at hc;refine⟨aS,h4,?_⟩;rcases hk with rfl | rfl
 ·rw[if_pos rfl,h4]at hx;cases hx;exact zdf N aS w hc
 ·rw[if_neg ze,h5]at hx;cases hx;exact zbv N aR aS cR cS tR tS w hc h3.symm h7 h6
theorem is_R {nm:ByteArray} {T:Nat} {s:List UInt8} {k N:Nat} {w:World} (he:EnvP T w) (hn:ErrNf nm w s k N) (hk:k=1\/k=2):∃ a:Addr,w.cell? ⟨2,0,none⟩=some (.iface 160 (.pointer (some a)))/\
  Calls Tryz.prog 50 #[.iface 81 (.pointer (some ⟨N,0,none⟩)),.iface 160 (.pointer (some a))] w fun e w'=>e=.returned (.bool (decide (k=2)))/\w'=w:=by
 obtain⟨aS,aR,cS,cR,tS,tR,h1,h2,h3,h4,h5,h6,h7⟩:=he.errs;obtain⟨x,hx,hN⟩:=hn;have hc:=zbb (xs:=[.string nm,.string ⟨s.toArray⟩,x]) hN 2;simp only[List.getElem?_cons_zero,List.getElem?_cons_succ]at hc;refine⟨aR,h5,?_⟩;rcases hk with rfl | rfl
 ·rw[if_pos rfl,h4]at hx;cases hx;exact zbv N aS aR cS cR tS tR w hc h3 h6 h7
 ·rw[if_neg ze,h5]at hx;cases hx;exact zdf N aR w hc
set_option maxRecDepth 100000 in
theorem zlz {nm:ByteArray} (T N:Nat) (s:List UInt8) (w:World) (he:EnvP T w) (hn:ErrNf nm w s 1 N):Calls Tryz.prog 33 #[.iface 81 (.pointer (some ⟨N,0,none⟩))] w fun e w'=>e=.returned (.agg (yfw nm s 1).toArray)/\w.grownBy w' none:=by
 refine ye Tryz.func33 rfl (by rw[Tryz.ntmps33];simp) ?_;intro σ hσ;rw[Tryz.ntmps33];have s0:σ 0=.iface 81 (.pointer (some ⟨N,0,none⟩)):=hσ 0 zi;clear hσ;have has:=zsz;obtain⟨B,hB⟩:=zX w.heap.size;obtain⟨W1,hW1⟩:=zX (w.alloc (.cells fauZ.toArray 30));have g1:w.grownBy W1 none:=zαe;have r1:Row W1 B fauZ:=zβi;obtain⟨B2,hB2⟩:=zX W1.heap.size;have hlt:B<B2:=by rw[<-hB2];exact r1.lt
 obtain⟨W2,hW2⟩:=zX (W1.alloc (.cells fauZ.toArray 30));have g2:w.grownBy W2 none:=by rw[<-hW2];exact ym g1 (World.grownBy_alloc W1 _ none)
 have r2:Row W2 B fauZ:=by rw[<-hW2];exact r1.alloc _
 have q2:Row W2 B2 fauZ:=by rw[<-hW2,<-hB2];exact Row.new W1 fauZ 30
 obtain⟨W3,hW3⟩:=zX (((W2.setCell ⟨B2,0,none⟩ (.int .i64 3)).setCell ⟨B2,1,none⟩ (.string ⟨#[]⟩)).setCell ⟨B2,2,none⟩ (.string ⟨#[]⟩));have hs1:w.heap.size<=B:=zd;have hs2:w.heap.size<=B2:=zd;have g3:w.grownBy W3 none:=zZ;have hne:B≠B2:=zd;have hne2:B2≠B:=zd;have r3:Row W3 B fauZ:=zP;have q3:Row W3 B2 [.int .i64 3,.string ⟨#[]⟩,.string ⟨#[]⟩]:=zB;obtain⟨W4,hW4⟩:=zX (W3.setCell ⟨B2,0,none⟩ (.int .i64 1));have g4:w.grownBy W4 none:=by rw[<-hW4];exact yb g3 _ hs2
 have r4:Row W4 B fauZ:=by rw[<-hW4];exact r3.setCell_other hne _
 have q4:Row W4 B2 [.int .i64 1,.string ⟨#[]⟩,.string ⟨#[]⟩]:=by rw[<-hW4];exact q3.setCell 0 (.int .i64 1)
 obtain⟨W5,hW5⟩:=zX (W4.setCell ⟨B2,1,none⟩ (.string nm));have g5:w.grownBy W5 none:=by rw[<-hW5];exact yb g4 _ hs2
 have r5:Row W5 B fauZ:=by rw[<-hW5];exact r4.setCell_other hne _
 have q5:Row W5 B2 [.int .i64 1,.string nm,.string ⟨#[]⟩]:=by rw[<-hW5];exact q4.setCell 1 (.string nm)
 obtain⟨W6,hW6⟩:=zX (W5.setCell ⟨B2,2,none⟩ (.string ⟨s.toArray⟩));have g6:w.grownBy W6 none:=by rw[<-hW6];exact yb g5 _ hs2
 have r6:Row W6 B fauZ:=by rw[<-hW6];exact r5.setCell_other hne _
 have q6:Row W6 B2 [.int .i64 1,.string nm,.string ⟨s.toArray⟩]:=by rw[<-hW6];exact q5.setCell 2 (.string ⟨s.toArray⟩)
 have hl6:(loadVar 30 ⟨B2,0,none⟩).run Tryz.prog W6=.ok (.agg #[.int .i64 1,.string nm,.string ⟨s.toArray⟩]) W6:=by
  obtain⟨ty,hrow⟩:=q6;exact run_loadVar_row (P:=Tryz.prog) _ B2 ty 30 _ (0,0) _ hrow Tryz.underlying30 rfl zg
 have n4:W4.cell? ⟨N,0,none⟩=some (.string nm):=by
  obtain⟨x,-,h⟩:=hn.grown g4;exact zbb (xs:=[.string nm,.string ⟨s.toArray⟩,x]) h 0
 have n5:W5.cell? ⟨N,1,none⟩=some (.string ⟨s.toArray⟩):=by
  obtain⟨x,-,h⟩:=hn.grown g5;exact zbb (xs:=[.string nm,.string ⟨s.toArray⟩,x]) h 1
 obtain⟨aS,hcS,hIS⟩:=is_S (he.grown g3 (fun _ e=>zL)) (hn.grown g3) ze;obtain⟨aR,hcR,hIR⟩:=is_R (he.grown g4 (fun _ e=>zL)) (hn.grown g4) ze;have HIS:=zH hIS;have HIR:=zH hIR;have G6:=zH g6;have R6:=zH r6;have HS1:=zH hs1;have HN:=zH hne;have k0:=q2.cell 0;have k1:=q2.cell 1;have k2:=q2.cell 2;have t0:=q2.frozen 0;have t1:=q2.frozen 1;have t2:=q2.frozen 2;have c3:=q3.cell 0;have f3:=q3.frozen 0;have c4:=q4.cell 1;have f4:=q4.frozen 1;have c5:=q5.cell 2;have f5:=q5.frozen 2;have d0:=q6.cell 0;have d1:=q6.cell 1;have d2:=q6.cell 2;have j0:=r6.cell 0;have j1:=r6.cell 1;have j2:=r6.cell 2;have u0:=r6.frozen 0;have u1:=r6.frozen 1;have u2:=r6.frozen 2;unfold fauZ at k0 k1 k2 j0 j1 j2 hW1 hW2;simp only[List.getElem?_cons_zero,List.getElem?_cons_succ]at k0 k1 k2 c3 c4 c5 d0 d1 d2 j0 j1 j2;clear he hn g1 g2 g3 g4 g5 g6 r1 r2 r3 r4 r5 r6 q2 q3 q4 q5 q6 hIS hIR hs1 hs2 hne hne2 hlt;(go_wp2_with fail;repeat ((first|refine cZ ?_|refine cW ?_);go_wp2_with fail));refine HIS.out.mono ?_;rintro e w9 ⟨rfl,hw9⟩;subst w9;(go_wp2_with fail;repeat ((first|refine cZ ?_|refine cW ?_);go_wp2_with fail));refine HIR.out.mono ?_;rintro e w9 ⟨rfl,hw9⟩;subst w9;(go_wp2_with fail;repeat ((first|refine cZ ?_|refine cW ?_);go_wp2_with fail));obtain⟨ty,hrow⟩:=((R6.out.setCell 0 (.int .i64 1)).setCell 1 (.string nm)).setCell 2 (.string ⟨s.toArray⟩);refine vj (B:=B) (.agg (yfw nm s 1).toArray) rfl ze zb ?_ ⟨rfl,yb (yb (yb G6.out _ HS1.out) _ HS1.out) _ HS1.out⟩;exact run_loadVar_row (P:=Tryz.prog) _ B ty 30 _ (0,0) _ hrow Tryz.underlying30 rfl zg
set_option maxRecDepth 100000 in
theorem zly {nm:ByteArray} (T N:Nat) (s:List UInt8) (w:World) (he:EnvP T w) (hn:ErrNf nm w s 2 N):Calls Tryz.prog 33 #[.iface 81 (.pointer (some ⟨N,0,none⟩))] w fun e w'=>e=.returned (.agg (yfw nm s 2).toArray)/\w.grownBy w' none:=by
 refine ye Tryz.func33 rfl (by rw[Tryz.ntmps33];simp) ?_;intro σ hσ;rw[Tryz.ntmps33];have s0:σ 0=.iface 81 (.pointer (some ⟨N,0,none⟩)):=hσ 0 zi;clear hσ;have has:=zsz;obtain⟨B,hB⟩:=zX w.heap.size;obtain⟨W1,hW1⟩:=zX (w.alloc (.cells fauZ.toArray 30));have g1:w.grownBy W1 none:=zαe;have r1:Row W1 B fauZ:=zβi;obtain⟨B2,hB2⟩:=zX W1.heap.size;have hlt:B<B2:=by rw[<-hB2];exact r1.lt
 obtain⟨W2,hW2⟩:=zX (W1.alloc (.cells fauZ.toArray 30));have g2:w.grownBy W2 none:=by rw[<-hW2];exact ym g1 (World.grownBy_alloc W1 _ none)
 have r2:Row W2 B fauZ:=by rw[<-hW2];exact r1.alloc _
 have q2:Row W2 B2 fauZ:=by rw[<-hW2,<-hB2];exact Row.new W1 fauZ 30
 obtain⟨W3,hW3⟩:=zX (((W2.setCell ⟨B2,0,none⟩ (.int .i64 3)).setCell ⟨B2,1,none⟩ (.string ⟨#[]⟩)).setCell ⟨B2,2,none⟩ (.string ⟨#[]⟩));have hs1:w.heap.size<=B:=zd;have hs2:w.heap.size<=B2:=zd;have g3:w.grownBy W3 none:=zZ;have hne:B≠B2:=zd;have hne2:B2≠B:=zd;have r3:Row W3 B fauZ:=zP;have q3:Row W3 B2 [.int .i64 3,.string ⟨#[]⟩,.string ⟨#[]⟩]:=zB;obtain⟨W4,hW4⟩:=zX (W3.setCell ⟨B2,0,none⟩ (.int .i64 2));have g4:w.grownBy W4 none:=by rw[<-hW4];exact yb g3 _ hs2
 have r4:Row W4 B fauZ:=by rw[<-hW4];exact r3.setCell_other hne _
 have q4:Row W4 B2 [.int .i64 2,.string ⟨#[]⟩,.string ⟨#[]⟩]:=by rw[<-hW4];exact q3.setCell 0 (.int .i64 2)
 obtain⟨W5,hW5⟩:=zX (W4.setCell ⟨B2,1,none⟩ (.string nm));have g5:w.grownBy W5 none:=by rw[<-hW5];exact yb g4 _ hs2
 have r5:Row W5 B fauZ:=by rw[<-hW5];exact r4.setCell_other hne _
 have q5:Row W5 B2 [.int .i64 2,.string nm,.string ⟨#[]⟩]:=by rw[<-hW5];exact q4.setCell 1 (.string nm)
 obtain⟨W6,hW6⟩:=zX (W5.setCell ⟨B2,2,none⟩ (.string ⟨s.toArray⟩));have g6:w.grownBy W6 none:=by rw[<-hW6];exact yb g5 _ hs2
 have r6:Row W6 B fauZ:=by rw[<-hW6];exact r5.setCell_other hne _
 have q6:Row W6 B2 [.int .i64 2,.string nm,.string ⟨s.toArray⟩]:=by rw[<-hW6];exact q5.setCell 2 (.string ⟨s.toArray⟩)
 have hl6:(loadVar 30 ⟨B2,0,none⟩).run Tryz.prog W6=.ok (.agg #[.int .i64 2,.string nm,.string ⟨s.toArray⟩]) W6:=by
  obtain⟨ty,hrow⟩:=q6;exact run_loadVar_row (P:=Tryz.prog) _ B2 ty 30 _ (0,0) _ hrow Tryz.underlying30 rfl zg
 have n4:W4.cell? ⟨N,0,none⟩=some (.string nm):=by
  obtain⟨x,-,h⟩:=hn.grown g4;exact zbb (xs:=[.string nm,.string ⟨s.toArray⟩,x]) h 0
 have n5:W5.cell? ⟨N,1,none⟩=some (.string ⟨s.toArray⟩):=by
  obtain⟨x,-,h⟩:=hn.grown g5;exact zbb (xs:=[.string nm,.string ⟨s.toArray⟩,x]) h 1
 obtain⟨aS,hcS,hIS⟩:=is_S (he.grown g3 (fun _ e=>zL)) (hn.grown g3) ze;obtain⟨aR,hcR,hIR⟩:=is_R (he.grown g3 (fun _ e=>zL)) (hn.grown g3) ze;have HIS:=zH hIS;have HIR:=zH hIR;have G6:=zH g6;have R6:=zH r6;have HS1:=zH hs1;have HN:=zH hne;have k0:=q2.cell 0;have k1:=q2.cell 1;have k2:=q2.cell 2;have t0:=q2.frozen 0;have t1:=q2.frozen 1;have t2:=q2.frozen 2;have c3:=q3.cell 0;have f3:=q3.frozen 0;have c4:=q4.cell 1;have f4:=q4.frozen 1;have c5:=q5.cell 2;have f5:=q5.frozen 2;have d0:=q6.cell 0;have d1:=q6.cell 1;have d2:=q6.cell 2;have j0:=r6.cell 0;have j1:=r6.cell 1;have j2:=r6.cell 2;have u0:=r6.frozen 0;have u1:=r6.frozen 1;have u2:=r6.frozen 2;unfold fauZ at k0 k1 k2 j0 j1 j2 hW1 hW2;simp only[List.getElem?_cons_zero,List.getElem?_cons_succ]at k0 k1 k2 c3 c4 c5 d0 d1 d2 j0 j1 j2;clear he hn g1 g2 g3 g4 g5 g6 r1 r2 r3 r4 r5 r6 q2 q3 q4 q5 q6 hIS hIR hs1 hs2 hne hne2 hlt;(go_wp2_with fail;repeat ((first|refine cZ ?_|refine cW ?_);go_wp2_with fail));refine HIS.out.mono ?_;rintro e w9 ⟨rfl,hw9⟩;subst w9;(go_wp2_with fail;repeat ((first|refine cZ ?_|refine cW ?_);go_wp2_with fail));refine HIR.out.mono ?_;rintro e w9 ⟨rfl,hw9⟩;subst w9;(go_wp2_with fail;repeat ((first|refine cZ ?_|refine cW ?_);go_wp2_with fail));obtain⟨ty,hrow⟩:=((R6.out.setCell 0 (.int .i64 2)).setCell 1 (.string nm)).setCell 2 (.string ⟨s.toArray⟩);refine vj (B:=B) (.agg (yfw nm s 2).toArray) rfl ze zb ?_ ⟨rfl,yb (yb (yb G6.out _ HS1.out) _ HS1.out) _ HS1.out⟩;exact run_loadVar_row (P:=Tryz.prog) _ B ty 30 _ (0,0) _ hrow Tryz.underlying30 rfl zg
theorem yfv {nm:ByteArray} (T:Nat) (s:List UInt8) (k:Nat) (ev:Value) (w:World) (he:EnvP T w) (hq:yfx nm w s k ev):
  Calls Tryz.prog 33 #[ev] w fun e w'=>e=.returned (.agg (yfw nm s k).toArray)/\w.grownBy w' none:=by
 rcases hq with⟨rfl,rfl⟩ | ⟨hk,N,rfl,hn⟩
 ·exact zos w
 ·rcases hk with rfl | rfl
  ·exact zlz T N s w he hn
  ·exact zly T N s w he hn
end
section
attribute [local go_sem] undef
theorem zot (b:Nat) (hb:b<18446744073709551616) (w:World):(callFunc 32 #[.float .f64 b]).run Tryz.prog w=.ok (.value (.int .u64 (b:Int))) w:=by kernel_rfl
theorem zvp (F:Nat) (bias:Int) (inf b:Nat) (l:List Nat) (x:Int) (hbias:1<=bias) (hinf:inf=(2*bias+1).toNat*2^F):spN F bias inf b l x<=inf:=by
 unfold spN;split
 ·omega
 ·split
  ·exact Nat.le_refl _
  ·exact ud F bias inf _ _ (qg _ (by unfold yfj;split <;> decide)) hbias hinf
theorem zjr (t:Txt):spB 52 1023 9218868437227405312 t<=9218868437227405312:=zvp 52 1023 _ _ _ _ ze rfl
theorem zz1 (t:Txt):spB 23 127 2139095040 t<=2139095040:=zvp 23 127 _ _ _ _ ze rfl
end
theorem ztp (t:Txt):spG 9218868437227405312 xd t=spB 52 1023 9218868437227405312 t:=rfl
theorem yag (t:Txt):spG 2139095040 zxq t=spB 23 127 2139095040 t:=rfl
theorem zv1 {inf sg:Nat} {nb:Nat->Nat->Nat} {r:Txt} (e:r.kind=0):zqq inf sg nb r=spG inf nb r+(if r.neg then sg else 0):=by
 unfold zqq;rw[if_neg zαW,if_neg zαW]
theorem zv0 {inf sg:Nat} {nb:Nat->Nat->Nat} {r:Txt} (e:r.kind=1):zqq inf sg nb r=inf+(if r.neg then sg else 0):=by
 unfold zqq;rw[if_pos e]
theorem zvz {inf sg:Nat} {nb:Nat->Nat->Nat} {r:Txt} (e:r.kind=2):zqq inf sg nb r=inf+1:=by
 unfold zqq;rw[if_neg zαW,if_pos e]
theorem yar {inf:Nat} {nb:Nat->Nat->Nat} {r:Txt} (e:r.kind=0):ovP inf nb r=(spG inf nb r==inf):=by
 unfold ovP;rw[e];simp
theorem zv2 {inf:Nat} {nb:Nat->Nat->Nat} {r:Txt} (e:r.kind≠0):ovP inf nb r=false:=by
 unfold ovP;simp[e]
theorem zrc {s:List UInt8} {v k:Nat} (h:PaQ64 s v k):k=zig s/\(k≠1->v=zdy s\/(kn 9218868437227405312 9223372036854775808 v=2/\kn 9218868437227405312 9223372036854775808 (zdy s)=2))/\zdy s<18446744073709551616:=by
 unfold PaQ64 at h;unfold zig zdy;cases hr:ul s with
 | none=>
  rw[hr]at h;obtain⟨rfl,rfl⟩:=h;exact⟨rfl,fun h=>absurd rfl h,ze⟩
 | some t=>
  rw[hr]at h;dsimp only at h ⊢;obtain⟨h2,h1,h0⟩:=h;have hle:=zjr t;have hl:(if t.neg=true then 9223372036854775808 else 0)<=9223372036854775808:=zαT;rcases za0 hr with e | e | e
  ·obtain⟨rfl,rfl⟩:=h0 e;rw[zv1 e,yar e,ztp];refine⟨?_,fun _=>Or.inl ?_,zd⟩
   ·by_cases hx:spB 52 1023 9218868437227405312 t=9218868437227405312
    ·simp[hx]
    ·simp[hx]
   ·unfold sgB;exact Nat.add_comm _ _
  ·obtain⟨rfl,rfl⟩:=h1 e;rw[zv0 e,zv2 zαW];refine⟨rfl,fun _=>Or.inl ?_,zd⟩;cases t.neg <;> rfl
  ·obtain⟨⟨h3,h4⟩,rfl⟩:=h2 e;rw[zvz e,zv2 zαW];exact⟨rfl,fun _=>Or.inr ⟨zde rfl h3,zde rfl ze⟩,ze⟩
theorem zyg {v r:Nat} (h:yak v r) (hn:¬zxp v):r=zyo v:=by
 rcases h with⟨h,-⟩ | ⟨h1,-,-,h4⟩
 ·exact absurd h hn
 ·unfold zyo;by_cases hf:v%2147483648<2139095040
  ·rw[if_pos hf];rw[yaf v h1 hf]at h4;exact (Option.some.inj h4).symm
  ·have h5:¬2139095040<v%2147483648:=fun h=>hn ⟨h1,h⟩
   have h6:v=2139095040\/v=4286578688:=zd;rw[if_neg hf];rcases h6 with rfl | rfl
   ·have:floatToFloatBits .f32 2139095040 .f64=some 9218868437227405312:=zp;rw[this]at h4;exact (Option.some.inj h4).symm
   ·have:floatToFloatBits .f32 4286578688 .f64=some 18442240474082181120:=zp;rw[this]at h4;exact (Option.some.inj h4).symm
theorem zzf (v:Nat) (hv:v<4294967296):zyo v<18446744073709551616:=by
 unfold zyo;by_cases hf:v%2147483648<2139095040
 ·rw[if_pos hf];exact (zxi v hv hf).1
 ·rw[if_neg hf];unfold sgW zs5;split <;> split <;> omega
theorem zyh {s:List UInt8} {v k:Nat} (h:PaQw s v k):k=zya s/\(k≠1->v=zxy s\/(kn 9218868437227405312 9223372036854775808 v=2/\kn 9218868437227405312 9223372036854775808 (zxy s)=2))/\zxy s<18446744073709551616:=by
 obtain⟨u,h,hw⟩:=h;unfold PaQ32 at h;unfold zya zxy;cases hr:ul s with
 | none=>
  rw[hr]at h;obtain⟨rfl,rfl⟩:=h;exact⟨rfl,fun h=>absurd rfl h,ze⟩
 | some t=>
  rw[hr]at h;dsimp only at h ⊢;obtain⟨h2,h1,h0⟩:=h;have hle:=zz1 t;have hl:(if t.neg=true then 2147483648 else 0)<=2147483648:=zαT;rcases za0 hr with e | e | e
  ·obtain⟨hu,rfl⟩:=h0 e;rw[zv1 e,yar e,yag];have hu2:u=spB 23 127 2139095040 t+if t.neg=true then 2147483648 else 0:=by rw[hu];unfold sgC;exact Nat.add_comm _ _
   rw[<-hu2];have hnn:¬zxp u:=by
    rintro⟨h3,h4⟩;revert h4;rw[hu2];split <;> omega
   refine⟨?_,fun _=>Or.inl (zyg hw hnn),zzf _ zd⟩;by_cases hx:spB 23 127 2139095040 t=2139095040
   ·simp[hx]
   ·simp[hx]
  ·obtain⟨hu,rfl⟩:=h1 e;rw[zv0 e,zv2 zαW];have hu2:u=2139095040+if t.neg=true then 2147483648 else 0:=by rw[hu];cases t.neg <;> rfl
   rw[<-hu2];have hnn:¬zxp u:=by
    rintro⟨h3,h4⟩;revert h4;rw[hu2];split <;> omega
   exact⟨rfl,fun _=>Or.inl (zyg hw hnn),zzf _ zd⟩
  ·obtain⟨h3,rfl⟩:=h2 e;rw[zvz e,zv2 zαW];have hw9:zyo (2139095040+1)=9223372036854775807:=by
    unfold zyo;rw[if_neg ze];rfl
   rw[hw9];refine⟨rfl,fun _=>Or.inr ⟨?_,zde rfl ze⟩,ze⟩;rcases hw with⟨-,h5⟩ | ⟨-,h5,-⟩
   ·exact zde rfl h5.2
   ·exact absurd h3 h5
theorem yg9 {s:List UInt8} (h:yg3 s):yg3 (yfz s):=by
 unfold yfz;split
 ·intro i hi;rw[List.length_take,List.length_drop]at hi;have e:∀ j,j<s.length-2->((s.drop 1).take (s.length-2)).getD j 0=s.getD (j+1) 0:=by
   intro j hj;rw[List.getD_eq_getElem?_getD,List.getElem?_take,if_pos hj,List.getElem?_drop,<-List.getD_eq_getElem?_getD,Nat.add_comm]
  rw[e i zd,e (i+1) zd];exact h (i+1) zd
 ·exact h
theorem yie {A:List UInt8->Nat->Nat->Value->Prop} {Pa:List UInt8->Nat->Nat->Prop} {V K:List UInt8->Nat} {N:Nat->Nat->Prop} (H:FrOK A Pa) (hA:∀ s v n ev,A s v n ev->v<18446744073709551616)
  (hP:∀ t v k,Pa t v k->k=K t/\(k≠1->N v (V t))/\V t<18446744073709551616) {s:List UInt8} {x y k X Y L:Nat} (hr:yhe A s x y k) (hl:s.length<=800) (hn:yg3 s) (hc:CbQ V K (yf2 s) X Y L):
  x<18446744073709551616/\y<18446744073709551616/\k=L/\(k≠1->N x X)/\(k≠1->N y Y)/\X<18446744073709551616/\Y<18446744073709551616:=by
 obtain⟨h1,h2,-⟩:=yf8 hA hr;refine⟨h1,h2,?_⟩;have hq:=run_u H (by have:=yg0 s;omega) (yg9 hn) hr;change PcQ Pa (yf2 s) x y k at hq;cases ho:yf2 s with
 | none=>
  rw[ho]at hq hc;obtain⟨rfl,rfl,rfl⟩:=hq;obtain⟨rfl,rfl,rfl⟩:=hc;exact⟨rfl,fun h=>absurd rfl h,fun h=>absurd rfl h,ze,ze⟩
 | some ab=>
  obtain⟨a,b⟩:=ab;rw[ho]at hq hc;obtain⟨k1,k2,hk1,hk2,pa,pb,hk⟩:=hq;obtain⟨rfl,rfl,rfl⟩:=hc;obtain⟨a1,a2,a3⟩:=hP _ _ _ pa;obtain⟨b1,b2,b3⟩:=hP _ _ _ pb;refine⟨?_,fun _=>a2 zd,fun _=>b2 zd,a3,b3⟩;rw[<-a1,<-b1,hk];split <;> omega
theorem yh5 {s:List UInt8} {x y k X Y L:Nat} (hr:yhe AtQ64 s x y k) (hl:s.length<=800) (hn:yg3 s) (hc:CbQ zdy zig (yf2 s) X Y L):
  x<18446744073709551616/\y<18446744073709551616/\k=L/\(k≠1->x=X\/(kn 9218868437227405312 9223372036854775808 x=2/\kn 9218868437227405312 9223372036854775808 X=2))/\(k≠1->y=Y\/(kn 9218868437227405312 9223372036854775808 y=2/\kn 9218868437227405312 9223372036854775808 Y=2))/\X<18446744073709551616/\Y<18446744073709551616:=
 yie (N:=fun v u=>v=u\/(kn 9218868437227405312 9223372036854775808 v=2/\kn 9218868437227405312 9223372036854775808 u=2)) frOK64 (fun _ _ _ _ h=>yhd h) (fun t v k h=>zrc h) hr hl hn hc
theorem yh6 {s:List UInt8} {x y k X Y L:Nat} (hr:yhe yij s x y k) (hl:s.length<=800) (hn:yg3 s) (hc:CbQ zxy zya (yf2 s) X Y L):
  x<18446744073709551616/\y<18446744073709551616/\k=L/\(k≠1->x=X\/(kn 9218868437227405312 9223372036854775808 x=2/\kn 9218868437227405312 9223372036854775808 X=2))/\(k≠1->y=Y\/(kn 9218868437227405312 9223372036854775808 y=2/\kn 9218868437227405312 9223372036854775808 Y=2))/\X<18446744073709551616/\Y<18446744073709551616:=
 yie (N:=fun v u=>v=u\/(kn 9218868437227405312 9223372036854775808 v=2/\kn 9218868437227405312 9223372036854775808 u=2)) frOK32 (fun _ _ _ _ h=>yh0 h) (fun t v k h=>zyh h) hr hl hn hc
section
attribute [local go_sem] undef
def dfN (x y:Nat):Nat:=if y<=x then x-y else y-x
theorem ky (p q:Nat) (hp:(yf p).length<=2000) (hq:(yf q).length<=2000):(yf (p*q)).length<=4000:=by
 obtain⟨K,hK⟩:∃ K,K=2000:=⟨_,rfl⟩;rw[<-hK]at hp hq;rw[show 4000=K+K by omega];refine yv ?_;rw[Nat.pow_add];refine Nat.mul_lt_mul'' ?_ ?_
 ·exact Nat.lt_of_lt_of_le (wu p) (Nat.pow_le_pow_right ze hp)
 ·exact Nat.lt_of_lt_of_le (wu q) (Nat.pow_le_pow_right ze hq)
set_option maxRecDepth 100000 in
theorem zby (u1 u2 u3 u4:Value) (a b c d:Nat) (w:World) (h1:NatV w u1 a) (h2:NatV w u2 b) (h3:NatV w u3 c) (h4:NatV w u4 d)
  (x1:(yf a).length<=2000) (x2:(yf b).length<=2000) (x3:(yf c).length<=2000) (x4:(yf d).length<=2000):
  Calls Tryz.prog 43 #[.agg #[.bool false,u1,u2],.agg #[.bool false,u3,u4]] w fun e w'=>∃ v,e=.returned v/\zpu w' v false (dfN (a*d) (c*b)) (b*d)/\w.grownBy w' none:=by
 unfold dfN;obtain⟨a1,c1,rfl⟩:=h1.len;obtain⟨a2,c2,rfl⟩:=h2.len;obtain⟨a3,c3,rfl⟩:=h3.len;obtain⟨a4,c4,rfl⟩:=h4.len;have l1:=ky a d x1 x4;have l2:=ky c b x3 x2;have HM1:=zH (fun (W:World) (hW:w.grownBy W none)=>vc _ _ a d W (h1.grown hW) (h4.grown hW) zd zd);have HM2:=zH (fun (W:World) (hW:w.grownBy W none)=>vc _ _ c b W (h3.grown hW) (h2.grown hW) zd zd);have HM3:=zH (fun (W:World) (hW:w.grownBy W none)=>vc _ _ b d W (h2.grown hW) (h4.grown hW) zd zd);have HCM:=zH (fun (V U:Value) (W:World) (g1:NatV W V (a*d)) (g2:NatV W U (c*b))=>qy V U (a*d) (c*b) W g1 g2 zd zd);have HSA:=zH (fun (V U:Value) (W:World) (g1:NatV W V (a*d)) (g2:NatV W U (c*b)) (h:c*b<=a*d)=>zaw V U (a*d) (c*b) W g1 g2 zd h);have HSC:=zH (fun (V U:Value) (W:World) (g1:NatV W V (c*b)) (g2:NatV W U (a*d)) (h:a*d<=c*b)=>zaw V U (c*b) (a*d) W g1 g2 zd h);clear h1 h2 h3 h4 l1 l2 x1 x2 x3 x4;generalize (yf a).length=N1 at *
 generalize (yf b).length=N2 at *
 generalize (yf c).length=N3 at *
 generalize (yf d).length=N4 at *
 obtain⟨B,hB⟩:=zX w.heap.size;obtain⟨w1,hw1⟩:=zX (w.alloc (.cells #[.bool false,.slice a1 N1 c1,.slice a2 N2 c2] 37));have g1:w.grownBy w1 none:=zαd;have hs1:w1.heap.size=B+1:=by rw[<-hw1,<-hB];show (w.heap.push _).size=_;rw[Array.size_push]
 have ra1:Row w1 B [.bool false,.slice a1 N1 c1,.slice a2 N2 c2]:=zαn;obtain⟨w2,hw2⟩:=zX (w1.alloc (.cells #[.bool false,.slice a3 N3 c3,.slice a4 N4 c4] 37));have g2:w.grownBy w2 none:=by rw[<-hw2];exact ya g1 (World.grownBy_alloc w1 _ none)
 have hs2:w2.heap.size=B+2:=by rw[<-hw2];show (w1.heap.push _).size=_;rw[Array.size_push,hs1]
 have ra2:Row w2 B [.bool false,.slice a1 N1 c1,.slice a2 N2 c2]:=by rw[<-hw2];exact ra1.alloc _
 have rb2:Row w2 (B+1) [.bool false,.slice a3 N3 c3,.slice a4 N4 c4]:=by rw[<-hw2,<-hs1];exact Row.new w1 _ _
 obtain⟨w3,hw3⟩:=zX (w2.alloc (.cells ratZ.toArray 37));have HG3:=zH (show w.grownBy w3 none by rw[<-hw3];exact ya g2 (World.grownBy_alloc w2 _ none));have hs3:w3.heap.size=B+3:=by rw[<-hw3];show (w2.heap.push _).size=_;rw[Array.size_push,hs2]
 have HA:=zH (show Row w3 B [.bool false,.slice a1 N1 c1,.slice a2 N2 c2] by rw[<-hw3];exact ra2.alloc _);have HBr:=zH (show Row w3 (B+1) [.bool false,.slice a3 N3 c3,.slice a4 N4 c4] by rw[<-hw3];exact rb2.alloc _);have HR:=zH (show Row w3 (B+2) ratZ by rw[<-hw3,<-hs2];exact Row.new w2 _ _);have HS3:=zH hs3;have HBB:=zH hB;unfold ratZ at hw3;clear g1 g2 ra1 ra2 rb2 hs3;refine ye Tryz.func43 rfl (by rw[Tryz.ntmps43];simp) ?_;intro σ hσ;rw[Tryz.ntmps43];have s0:σ 0=.agg #[.bool false,.slice a1 N1 c1,.slice a2 N2 c2]:=hσ 0 zi;have s1':σ 1=.agg #[.bool false,.slice a3 N3 c3,.slice a4 N4 c4]:=hσ 1 zi;clear hσ;go_upto_region 1 with fail;clear hw1 hw2 hw3 hs1 hs2 hB;have k0:=HA.out.cell 0;have k1:=HA.out.cell 1;have k2:=HA.out.cell 2;have m0:=HBr.out.cell 0;have m1:=HBr.out.cell 1;have m2:=HBr.out.cell 2;simp only[List.getElem?_cons_zero,List.getElem?_cons_succ]at k0 k1 k2 m0 m1 m2;(go_wp2_with fail;repeat ((first|refine cZ ?_|refine cW ?_);go_wp2_with fail));refine (HM1.out _ HG3.out).mono ?_;rintro e w4 ⟨v5,rfl,hn5,hg4⟩;have HG4:=zH (ya HG3.out hg4);have HA4:=zH (HA.out.grown hg4 zi);have HB4:=zH (HBr.out.grown hg4 zi);have HR4:=zH (HR.out.grown hg4 zi);have HSZ4:=zH hg4.size;have HX:=zH hn5;clear hn5 hg4 HA HBr HR k0 k1 k2 m0 m1 m2;have k0:=HA4.out.cell 0;have k1:=HA4.out.cell 1;have k2:=HA4.out.cell 2;have m0:=HB4.out.cell 0;have m1:=HB4.out.cell 1;have m2:=HB4.out.cell 2;simp only[List.getElem?_cons_zero,List.getElem?_cons_succ]at k0 k1 k2 m0 m1 m2;(go_wp2_with fail;repeat ((first|refine cZ ?_|refine cW ?_);go_wp2_with fail));refine (HM2.out _ HG4.out).mono ?_;rintro e w5 ⟨v6,rfl,hn6,hg5⟩;have HG5:=zH (ya HG4.out hg5);have HA5:=zH (HA4.out.grown hg5 zi);have HB5:=zH (HB4.out.grown hg5 zi);have HR5:=zH (HR4.out.grown hg5 zi);have HSZ5:=zH hg5.size;have HX5:=zH (HX.out.grown hg5);have HY:=zH hn6;clear hn6 hg5 HA4 HB4 HR4 HX k0 k1 k2 m0 m1 m2;have k0:=HA5.out.cell 0;have k1:=HA5.out.cell 1;have k2:=HA5.out.cell 2;have m0:=HB5.out.cell 0;have m1:=HB5.out.cell 1;have m2:=HB5.out.cell 2;simp only[List.getElem?_cons_zero,List.getElem?_cons_succ]at k0 k1 k2 m0 m1 m2;(go_wp2_with fail;repeat ((first|refine cZ ?_|refine cW ?_);go_wp2_with fail));refine (HM3.out _ HG5.out).mono ?_;rintro e w6 ⟨v22,rfl,hn22,hg6⟩;have HG6:=zH (ya HG5.out hg6);have HA6:=zH (HA5.out.grown hg6 zi);have HB6:=zH (HB5.out.grown hg6 zi);have HR6:=zH (HR5.out.grown hg6 zi);have HX6:=zH (HX5.out.grown hg6);have HY6:=zH (HY.out.grown hg6);have HSZ6:=zH hg6.size;have HL22:=zH hn22;clear hg6 HA5 HB5 HR5 HX5 HY k0 k1 k2 m0 m1 m2;obtain⟨a22,c22,rfl⟩:=hn22.len;clear hn22;generalize (yf (b*d)).length=N22 at *
 obtain⟨B7,hB7⟩:=zX w6.heap.size;have hlt:B+3<=B7:=by have:=HS3.out;have:=HSZ4.out;have:=HSZ5.out;have:=HSZ6.out;omega
 obtain⟨w7,hw7⟩:=zX (w6.alloc (.cells #[.bool false,.slice none 0 0,.slice a22 N22 c22] 37));have g7:w6.grownBy w7 none:=by rw[<-hw7];exact World.grownBy_alloc w6 _ none
 have HO7:=zH (show Row w7 B7 [.bool false,.slice none 0 0,.slice a22 N22 c22] by rw[<-hw7,<-hB7];exact Row.new w6 _ _);have HG7:=zH (ya HG6.out g7);have HA7:=zH (HA6.out.grown g7 zi);have HB7:=zH (HB6.out.grown g7 zi);have HR7:=zH (HR6.out.grown g7 zi);have HX7:=zH (HX6.out.grown g7);have HY7:=zH (HY6.out.grown g7);have HN22:=zH (HL22.out.grown g7);have HW7:=zH hw7;have HB7E:=zH hB7;clear g7 hw7 HA6 HB6 HR6 HX6 HY6 HL22 hB7 HSZ4 HSZ5 HSZ6 HS3;go_upto_block 0 with fail;rw[HW7.out,HB7E.out];clear HW7 HB7E;have k0:=HA7.out.cell 0;have k1:=HA7.out.cell 1;have k2:=HA7.out.cell 2;have m0:=HB7.out.cell 0;have m1:=HB7.out.cell 1;have m2:=HB7.out.cell 2;simp only[List.getElem?_cons_zero,List.getElem?_cons_succ]at k0 k1 k2 m0 m1 m2;obtain⟨a5,c5,rfl⟩:=HX7.out.len;obtain⟨a6,c6,rfl⟩:=HY7.out.len;have HCM':=zH (HCM.out _ _ _ HX7.out HY7.out);have hBw:w.heap.size=B:=HBB.out;clear HCM HM1 HM2 HM3;(go_wp2_with fail;repeat ((first|refine cZ ?_|refine cW ?_);go_wp2_with fail));refine HCM'.out.mono ?_;rintro e w8 ⟨rfl,hg8⟩;have HG8:=zH (ya HG7.out hg8);have HR8:=zH (HR7.out.grown hg8 zi);have HO8:=zH (HO7.out.grown hg8 zi);have HX8:=zH (HX7.out.grown hg8);have HY8:=zH (HY7.out.grown hg8);have HN22:=zH (HN22.out.grown hg8);clear hg8 HA7 HB7 HR7 HO7 HX7 HY7 k0 k1 k2 m0 m1 m2;by_cases hle:c*b<=a*d
 ·have hk:(0:Int)<=ko (a*d) (c*b):=by unfold ko;split <;> (try split) <;> omega
  have hk2:decide ((0:Int)<=ko (a*d) (c*b))=true:=by simpa using hk
  generalize ko (a*d) (c*b)=k at *
  (go_wp2_with fail;repeat ((first|refine cZ ?_|refine cW ?_);go_wp2_with fail));refine (HSA.out _ _ _ HX8.out HY8.out hle).mono ?_;rintro e w9 ⟨v9,rfl,hn9,hg9,-⟩;have HG9:=zH (ya HG8.out hg9);have HR9:=zH (HR8.out.grown hg9 zi);have HO9:=zH (HO8.out.grown hg9 zi);have HN22:=zH (HN22.out.grown hg9);have HL9:=zH hn9;obtain⟨a9,c9,rfl⟩:=hn9.len;generalize (yf (a*d-c*b)).length=N9 at *
  have o0:=HO9.out.cell 0;have o1:=HO9.out.cell 1;have o2:=HO9.out.cell 2;have p1:=HO9.out.frozen 1;simp only[List.getElem?_cons_zero,List.getElem?_cons_succ]at o0 o1 o2;obtain⟨w10,hw10⟩:=zX (w9.setCell ⟨B7,1,none⟩ (.slice a9 N9 c9));have HN10:=zH (show NatV w10 (.slice a9 N9 c9) (a*d-c*b) by rw[<-hw10];exact NatV.setB hn9 o0);have HN23:=zH (show NatV w10 (.slice a22 N22 c22) (b*d) by rw[<-hw10];exact NatV.setB HN22.out o0);have HO10:=zH (show Row w10 B7 [.bool false,.slice a9 N9 c9,.slice a22 N22 c22] by rw[<-hw10];exact HO9.out.setCell 1 (.slice a9 N9 c9));have HR10:=zH (show Row w10 (B+2) ratZ by rw[<-hw10];exact HR9.out.setCell_other (by show B+2≠B7;omega) _);have HG10:=zH (show w.grownBy w10 none by rw[<-hw10];exact yb HG9.out _ (by show w.heap.size<=B7;omega));clear hn9 hg9;go_upto_region 9 with fail;clear hw10 o0 o1 o2 p1;have o0:=HO10.out.cell 0;have o1:=HO10.out.cell 1;have o2:=HO10.out.cell 2;have r0:=HR10.out.cell 0;have r1:=HR10.out.cell 1;have r2:=HR10.out.cell 2;have z0:=HR10.out.frozen 0;have z1:=HR10.out.frozen 1;have z2:=HR10.out.frozen 2;unfold ratZ at r0 r1 r2;simp only[List.getElem?_cons_zero,List.getElem?_cons_succ]at o0 o1 o2 r0 r1 r2;(go_wp2_with fail;repeat ((first|refine cZ ?_|refine cW ?_);go_wp2_with fail));obtain⟨ty,hrow⟩:=wp HR10.out (.bool false) (.slice a9 N9 c9) (.slice a22 N22 c22);refine vj (B:=B+2) (.agg #[.bool false,.slice a9 N9 c9,.slice a22 N22 c22]) rfl ze zb ?_ ⟨_,rfl,⟨_,_,rfl,?_,yz HR10.out HN23.out _ _ _⟩,xk HG10.out zd _ _ _⟩
  ·exact run_loadVar_row (P:=Tryz.prog) _ (B+2) ty 37 _ (0,0) _ hrow Tryz.underlying37 rfl zg
  ·first
    | exact yz HR10.out HN10.out _ _ _
    | (rw[if_pos hle];exact yz HR10.out HN10.out _ _ _)
 ·have hk:¬(0:Int)<=ko (a*d) (c*b):=by unfold ko;rw[if_pos zd];omega
  have hk2:decide ((0:Int)<=ko (a*d) (c*b))=false:=by simpa using hk
  generalize ko (a*d) (c*b)=k at *
  (go_wp2_with fail;repeat ((first|refine cZ ?_|refine cW ?_);go_wp2_with fail));refine (HSC.out _ _ _ HY8.out HX8.out zd).mono ?_;rintro e w9 ⟨v9,rfl,hn9,hg9,-⟩;have HG9:=zH (ya HG8.out hg9);have HR9:=zH (HR8.out.grown hg9 zi);have HO9:=zH (HO8.out.grown hg9 zi);have HN22:=zH (HN22.out.grown hg9);have HL9:=zH hn9;obtain⟨a9,c9,rfl⟩:=hn9.len;generalize (yf (c*b-a*d)).length=N9 at *
  have o0:=HO9.out.cell 0;have o1:=HO9.out.cell 1;have o2:=HO9.out.cell 2;have p1:=HO9.out.frozen 1;simp only[List.getElem?_cons_zero,List.getElem?_cons_succ]at o0 o1 o2;obtain⟨w10,hw10⟩:=zX (w9.setCell ⟨B7,1,none⟩ (.slice a9 N9 c9));have HN10:=zH (show NatV w10 (.slice a9 N9 c9) (c*b-a*d) by rw[<-hw10];exact NatV.setB hn9 o0);have HN23:=zH (show NatV w10 (.slice a22 N22 c22) (b*d) by rw[<-hw10];exact NatV.setB HN22.out o0);have HO10:=zH (show Row w10 B7 [.bool false,.slice a9 N9 c9,.slice a22 N22 c22] by rw[<-hw10];exact HO9.out.setCell 1 (.slice a9 N9 c9));have HR10:=zH (show Row w10 (B+2) ratZ by rw[<-hw10];exact HR9.out.setCell_other (by show B+2≠B7;omega) _);have HG10:=zH (show w.grownBy w10 none by rw[<-hw10];exact yb HG9.out _ (by show w.heap.size<=B7;omega));clear hn9 hg9;go_upto_region 9 with fail;clear hw10 o0 o1 o2 p1;have o0:=HO10.out.cell 0;have o1:=HO10.out.cell 1;have o2:=HO10.out.cell 2;have r0:=HR10.out.cell 0;have r1:=HR10.out.cell 1;have r2:=HR10.out.cell 2;have z0:=HR10.out.frozen 0;have z1:=HR10.out.frozen 1;have z2:=HR10.out.frozen 2;unfold ratZ at r0 r1 r2;simp only[List.getElem?_cons_zero,List.getElem?_cons_succ]at o0 o1 o2 r0 r1 r2;(go_wp2_with fail;repeat ((first|refine cZ ?_|refine cW ?_);go_wp2_with fail));obtain⟨ty,hrow⟩:=wp HR10.out (.bool false) (.slice a9 N9 c9) (.slice a22 N22 c22);refine vj (B:=B+2) (.agg #[.bool false,.slice a9 N9 c9,.slice a22 N22 c22]) rfl ze zb ?_ ⟨_,rfl,⟨_,_,rfl,?_,yz HR10.out HN23.out _ _ _⟩,xk HG10.out zd _ _ _⟩
  ·exact run_loadVar_row (P:=Tryz.prog) _ (B+2) ty 37 _ (0,0) _ hrow Tryz.underlying37 rfl zg
  ·first
    | exact yz HR10.out HN10.out _ _ _
    | (rw[if_neg hle];exact yz HR10.out HN10.out _ _ _)
end
section
attribute [local go_sem] undef
set_option maxRecDepth 100000 in
theorem zio (size:Int) (inf:Nat) (w:World) (h1:1<=inf) (h2:inf<18446744073709551616)
  (hI:∀ W,Calls Tryz.prog 37 #[.int .i64 size] W fun e w'=>e=.returned (.int .u64 (inf:Int))/\W=w'):
  Calls Tryz.prog 45 #[.int .i64 size] w fun e w'=>e=.returned (.int .u64 ((inf-1:Nat):Int))/\w=w':=by
 have HI:=zH hI;refine ye Tryz.func45 rfl (by rw[Tryz.ntmps45];simp) ?_;intro σ hσ;rw[Tryz.ntmps45];have s0:σ 0=.int .i64 size:=hσ 0 zi;clear hσ hI;(go_wp2_with fail;repeat ((first|refine cZ ?_|refine cW ?_);go_wp2_with fail));refine (HI.out _).mono ?_;rintro e w7 ⟨rfl,rfl⟩;have hwr:IntKind.u64.wrap ((inf:Int)-1)=((inf-1:Nat):Int):=by
  rw[show (inf:Int)-1=((inf-1:Nat):Int) by omega];exact zku _ zd
 (go_wp2_with fail;repeat ((first|refine cZ ?_|refine cW ?_);go_wp2_with fail));exact yl (.int .u64 ((inf-1:Nat):Int)) rfl ze zb ⟨rfl,rfl⟩
set_option maxRecDepth 100000 in
theorem zpo (size bi:Int) (inf:Nat) (w:World) (hb1:0<=bi) (hb2:bi<=2000)
  (hI:∀ W,Calls Tryz.prog 37 #[.int .i64 size] W fun e w'=>e=.returned (.int .u64 (inf:Int))/\W=w')
  (hB:∀ W,Calls Tryz.prog 53 #[.int .i64 size] W fun e w'=>e=.returned (.int .i64 bi)/\W=w'):
  Calls Tryz.prog 44 #[.int .i64 size,.int .u64 (inf:Int)] w fun e w'=>∃ v,e=.returned v/\zpu w' v false (1*2^(bi+1).toNat) (2^(-(bi+1)).toNat)/\w.grownBy w' none:=by
 have HI:=zH hI;have HB:=zH hB;have HN:=zH (fun W=>ww 1 W ze);have hn1:(yf 1).length<=20000:=Nat.le_trans (zn5 1 0 1 ze zd zd) zd;have HSC:=zH (fun V W h=>jg V 1 2 (bi+1) W h zd ze ze zd zd);clear hI hB hn1;have hwb:IntKind.i64.wrap (bi+1)=bi+1:=zk;generalize 1*2^(bi+1).toNat=a at *
 generalize 2^(-(bi+1)).toNat=b at *
 generalize hbi:bi+1=bi1 at *
 refine ye Tryz.func44 rfl (by rw[Tryz.ntmps44];simp) ?_;intro σ hσ;rw[Tryz.ntmps44];have s0:σ 0=.int .i64 size:=hσ 0 zi;have s1:σ 1=.int .u64 (inf:Int):=hσ 1 zi;clear hσ;obtain⟨B,hB⟩:=zX w.heap.size;obtain⟨w1,hw1⟩:=zX (w.alloc (.cells ratZ.toArray 37));have HG1:=zH (show w.grownBy w1 none by rw[<-hw1];exact World.grownBy_alloc w _ none);have HR1:=zH (show Row w1 B ratZ by rw[<-hw1,<-hB];exact Row.new w _ _);have HBB:=zH hB;unfold ratZ at hw1;(go_wp2_with fail;repeat ((first|refine cZ ?_|refine cW ?_);go_wp2_with fail));clear hw1 hB;refine (HI.out _).mono ?_;rintro e w7 ⟨rfl,rfl⟩;have hee:((inf:Int)==(inf:Int))=true:=zi;(go_wp2_with fail;repeat ((first|refine cZ ?_|refine cW ?_);go_wp2_with fail));refine (HN.out _).mono ?_;rintro e w2 ⟨v1,rfl,hv1,hg2⟩;have HG2:=zH (ya HG1.out hg2);have HR2:=zH (HR1.out.grown hg2 zi);have HV1:=zH hv1;clear hv1 hg2;(go_wp2_with fail;repeat ((first|refine cZ ?_|refine cW ?_);go_wp2_with fail));refine (HB.out _).mono ?_;rintro e w7 ⟨rfl,rfl⟩;(go_wp2_with fail;repeat ((first|refine cZ ?_|refine cW ?_);go_wp2_with fail));refine (HSC.out _ _ HV1.out).mono ?_;rintro e w3 ⟨vn,vd,rfl,hvn,hvd,hg3⟩;have HG3:=zH (ya HG2.out hg3);have HR3:=zH (HR2.out.grown hg3 zi);obtain⟨an,cn,rfl⟩:=hvn.len;obtain⟨ad,cd,rfl⟩:=hvd.len;have HN3:=zH hvn;have HD3:=zH hvd;generalize (yf a).length=N1 at *
 generalize (yf b).length=N2 at *
 have r0:=HR3.out.cell 0;have r1:=HR3.out.cell 1;have r2:=HR3.out.cell 2;have z0:=HR3.out.frozen 0;have z1:=HR3.out.frozen 1;have z2:=HR3.out.frozen 2;unfold ratZ at r0 r1 r2;simp only[List.getElem?_cons_zero,List.getElem?_cons_succ]at r0 r1 r2;clear hvn hvd hg3;(go_wp2_with fail;repeat ((first|refine cZ ?_|refine cW ?_);go_wp2_with fail));obtain⟨ty,hrow⟩:=wp HR3.out (.bool false) (.slice an N1 cn) (.slice ad N2 cd);refine vj (B:=B) (.agg #[.bool false,.slice an N1 cn,.slice ad N2 cd]) rfl ze zb ?_ ⟨_,rfl,⟨_,_,rfl,yz HR3.out HN3.out _ _ _,yz HR3.out HD3.out _ _ _⟩,xk HG3.out (by have:=HBB.out;omega) _ _ _⟩;exact run_loadVar_row (P:=Tryz.prog) _ B ty 37 _ (0,0) _ hrow Tryz.underlying37 rfl zg
set_option maxRecDepth 100000 in
theorem zpp (size:Int) (inf n a b:Nat) (w:World) (hne:n≠inf)
  (hI:∀ W,Calls Tryz.prog 37 #[.int .i64 size] W fun e w'=>e=.returned (.int .u64 (inf:Int))/\W=w')
  (hV:∀ W,Calls Tryz.prog 61 #[.int .i64 size,.int .u64 (n:Int)] W fun x w'=>∃ vn vd,x=.returned (.tuple #[.agg #[.bool false,vn,vd],.bool true])/\NatV w' vn a/\NatV w' vd b/\W.grownBy w' none):
  Calls Tryz.prog 44 #[.int .i64 size,.int .u64 (n:Int)] w fun e w'=>∃ v,e=.returned v/\zpu w' v false a b/\w.grownBy w' none:=by
 have HI:=zH hI;have HV:=zH hV;clear hI hV;refine ye Tryz.func44 rfl (by rw[Tryz.ntmps44];simp) ?_;intro σ hσ;rw[Tryz.ntmps44];have s0:σ 0=.int .i64 size:=hσ 0 zi;have s1:σ 1=.int .u64 (n:Int):=hσ 1 zi;clear hσ;obtain⟨B,hB⟩:=zX w.heap.size;obtain⟨w1,hw1⟩:=zX (w.alloc (.cells ratZ.toArray 37));have HG1:=zH (show w.grownBy w1 none by rw[<-hw1];exact World.grownBy_alloc w _ none);have HR1:=zH (show Row w1 B ratZ by rw[<-hw1,<-hB];exact Row.new w _ _);have HBB:=zH hB;unfold ratZ at hw1;(go_wp2_with fail;repeat ((first|refine cZ ?_|refine cW ?_);go_wp2_with fail));clear hw1 hB;refine (HI.out _).mono ?_;rintro e w7 ⟨rfl,rfl⟩;have hee:((n:Int)==(inf:Int))=false:=zf;have hee2:(n==inf)=false:=by rw[beq_eq_false_iff_ne];exact hne
 have HNE:=zH hne;clear hne;(go_wp2_with fail;repeat ((first|refine cZ ?_|refine cW ?_);go_wp2_with fail));refine (HV.out _).mono ?_;rintro e w3 ⟨vn,vd,rfl,hvn,hvd,hg3⟩;have HG3:=zH (ya HG1.out hg3);have HR3:=zH (HR1.out.grown hg3 zi);obtain⟨an,cn,rfl⟩:=hvn.len;obtain⟨ad,cd,rfl⟩:=hvd.len;have HN3:=zH hvn;have HD3:=zH hvd;generalize (yf a).length=N1 at *
 generalize (yf b).length=N2 at *
 obtain⟨D,hD⟩:=zX w3.heap.size;obtain⟨w4,hw4⟩:=zX (w3.alloc (.cells #[.bool false,.slice an N1 cn,.slice ad N2 cd] 37));have g4:w3.grownBy w4 none:=by rw[<-hw4];exact World.grownBy_alloc w3 _ none
 have HG4:=zH (ya HG3.out g4);have HR4:=zH (HR3.out.grown g4 zi);have HN4:=zH (HN3.out.grown g4);have HD4:=zH (HD3.out.grown g4);have HO:=zH (show Row w4 D [.bool false,.slice an N1 cn,.slice ad N2 cd] by rw[<-hw4,<-hD];exact Row.new w3 _ _);have HW4:=zH hw4;have HDE:=zH hD;clear hvn hvd hg3 g4 hw4 hD;go_upto_region 4 with fail;rw[HW4.out,HDE.out];have o0:=HO.out.cell 0;have o1:=HO.out.cell 1;have o2:=HO.out.cell 2;have r0:=HR4.out.cell 0;have r1:=HR4.out.cell 1;have r2:=HR4.out.cell 2;have z0:=HR4.out.frozen 0;have z1:=HR4.out.frozen 1;have z2:=HR4.out.frozen 2;unfold ratZ at r0 r1 r2;simp only[List.getElem?_cons_zero,List.getElem?_cons_succ]at o0 o1 o2 r0 r1 r2;(go_wp2_with fail;repeat ((first|refine cZ ?_|refine cW ?_);go_wp2_with fail));obtain⟨ty,hrow⟩:=wp HR4.out (.bool false) (.slice an N1 cn) (.slice ad N2 cd);refine vj (B:=B) (.agg #[.bool false,.slice an N1 cn,.slice ad N2 cd]) rfl ze zb ?_ ⟨_,rfl,⟨_,_,rfl,yz HR4.out HN4.out _ _ _,yz HR4.out HD4.out _ _ _⟩,xk HG4.out (by have:=HBB.out;omega) _ _ _⟩;exact run_loadVar_row (P:=Tryz.prog) _ B ty 37 _ (0,0) _ hrow Tryz.underlying37 rfl zg 
end
section
attribute [local go_sem] undef
theorem zo8 (x y:Nat) (K:Nat) (hx:(yf x).length<=K) (hy:(yf y).length<=K):(yf (dfN x y)).length<=K:=by
 refine yv ?_;have h1:=Nat.lt_of_lt_of_le (wu x) (Nat.pow_le_pow_right ze hx);have h2:=Nat.lt_of_lt_of_le (wu y) (Nat.pow_le_pow_right ze hy);refine Nat.lt_of_le_of_lt ?_ (Nat.max_lt.2 ⟨h1,h2⟩);unfold dfN;split
 ·exact Nat.le_trans (Nat.sub_le _ _) (Nat.le_max_left _ _)
 ·exact Nat.le_trans (Nat.sub_le _ _) (Nat.le_max_right _ _)
theorem zuz (a b c d:Nat):zu6 false false a b c d=ko (a*d) (c*b):=by
 unfold zu6;simp
theorem zpg {x y:Nat} (h:ko x y=0):x=y:=by
 unfold ko at h;split at h
 ·cases h
 ·split at h
  ·cases h
  ·omega
set_option maxRecDepth 100000 in
theorem zix (size:Int) (inf Ln Ld In Id:Nat) (neg:Bool) (vn vd:Value) (n d:Nat) (w:World) (hn:NatV w vn n) (hd:NatV w vd d)
  (l1:(yf n).length<=600) (l2:(yf d).length<=600) (l3:(yf Ln).length<=600) (l4:(yf Ld).length<=600) (l5:(yf In).length<=600) (l6:(yf Id).length<=600)
  (hI:∀ W,Calls Tryz.prog 37 #[.int .i64 size] W fun e w'=>e=.returned (.int .u64 (inf:Int))/\W=w')
  (hLG:∀ W,Calls Tryz.prog 45 #[.int .i64 size] W fun e w'=>e=.returned (.int .u64 ((inf-1:Nat):Int))/\W=w')
  (hBF:∀ W,Calls Tryz.prog 44 #[.int .i64 size,.int .u64 ((inf-1:Nat):Int)] W fun e w'=>∃ v,e=.returned v/\zpu w' v false Ln Ld/\W.grownBy w' none)
  (hBI:∀ W,Calls Tryz.prog 44 #[.int .i64 size,.int .u64 (inf:Int)] W fun e w'=>∃ v,e=.returned v/\zpu w' v false In Id/\W.grownBy w' none):
  Calls Tryz.prog 29 #[.agg #[.bool neg,vn,vd],.int .i64 size] w fun e w'=>(∃ b:Bool,e=.returned (.bool b)/\(b=true->dfN (n*Ld) (Ln*d)*(Id*d)=dfN (In*d) (n*Id)*(d*Ld)))/\w.grownBy w' none:=by
 have m1:=ky n Ld zd zd;have m2:=ky Ln d zd zd;have m3:=ky In d zd zd;have m4:=ky n Id zd zd;have m5:=ky d Ld zd zd;have m6:=ky Id d zd zd;have d1:=zo8 _ _ _ m1 m2;have d2:=zo8 _ _ _ m3 m4;have HI:=zH hI;have HLG:=zH hLG;have HBF:=zH hBF;have HBI:=zH hBI;have HD1:=zH (fun (u3 u4:Value) (W:World) (hW:w.grownBy W none) (h3:NatV W u3 Ln) (h4:NatV W u4 Ld)=>zby vn vd u3 u4 n d Ln Ld W (hn.grown hW) (hd.grown hW) h3 h4 zd zd zd zd);have HD2:=zH (fun (u3 u4:Value) (W:World) (hW:w.grownBy W none) (h3:NatV W u3 In) (h4:NatV W u4 Id)=>zby u3 u4 vn vd In Id n d W h3 h4 (hn.grown hW) (hd.grown hW) zd zd zd zd);have HCM:=zH (fun (u1 u2 u3 u4:Value) (W:World) h1 h2 h3 h4=>zl7 false false u1 u2 u3 u4 (dfN (n*Ld) (Ln*d)) (d*Ld) (dfN (In*d) (n*Id)) (Id*d) W h1 h2 h3 h4 zd zd zd zd);simp only[zuz]at HCM;obtain⟨k,hk⟩:=zX (ko (dfN (n*Ld) (Ln*d)*(Id*d)) (dfN (In*d) (n*Id)*(d*Ld)));have HK:=zH (show k=0->dfN (n*Ld) (Ln*d)*(Id*d)=dfN (In*d) (n*Id)*(d*Ld) from fun e=>zpg (hk.trans e));simp only[hk]at HCM;clear hk hI hLG hBF hBI m1 m2 m3 m4 m5 m6 d1 d2 l1 l2 l3 l4 l5 l6;generalize dfN (n*Ld) (Ln*d)=X1 at *
 generalize dfN (In*d) (n*Id)=X2 at *
 generalize d*Ld=Y1 at *
 generalize Id*d=Y2 at *
 obtain⟨a1,c1,rfl⟩:=hn.len;obtain⟨a2,c2,rfl⟩:=hd.len;generalize (yf n).length=N1 at *
 generalize (yf d).length=N2 at *
 obtain⟨B,hB⟩:=zX w.heap.size;obtain⟨w1,hw1⟩:=zX (w.alloc (.cells #[.bool neg,.slice a1 N1 c1,.slice a2 N2 c2] 37));have g1:w.grownBy w1 none:=zαd;have hs1:w1.heap.size=B+1:=by rw[<-hw1,<-hB];show (w.heap.push _).size=_;rw[Array.size_push]
 have ra1:Row w1 B [.bool neg,.slice a1 N1 c1,.slice a2 N2 c2]:=zαn;obtain⟨w2,hw2⟩:=zX (w1.alloc (.cells #[.bool false,.slice a1 N1 c1,.slice a2 N2 c2] 37));have HG2:=zH (show w.grownBy w2 none by rw[<-hw2];exact ya g1 (World.grownBy_alloc w1 _ none));have HO:=zH (show Row w2 (B+1) [.bool false,.slice a1 N1 c1,.slice a2 N2 c2] by rw[<-hw2,<-hs1];exact Row.new w1 _ _);have HA:=zH ra1;have HW2:=zH hw2;have HS1:=zH hs1;clear g1 ra1 hn hd hw2 hs1;refine ye Tryz.func29 rfl (by rw[Tryz.ntmps29];simp) ?_;intro σ hσ;rw[Tryz.ntmps29];have s0:σ 0=.agg #[.bool neg,.slice a1 N1 c1,.slice a2 N2 c2]:=hσ 0 zi;have s1':σ 1=.int .i64 size:=hσ 1 zi;clear hσ;go_upto_region 1 with fail;clear hw1 hB;have k0:=HA.out.cell 0;have k1:=HA.out.cell 1;have k2:=HA.out.cell 2;simp only[List.getElem?_cons_zero,List.getElem?_cons_succ]at k0 k1 k2;go_upto_region 2 with fail;rw[HW2.out,HS1.out];clear HW2 HS1 HA k0 k1 k2;refine wp_region_noPanic ?_;refine wp_region_held_drew (S:=fun w'=>w2.grownBy w' none) zg (yh w2 1 none) (fun hHeld=>?_);(refine xg 0 11 (oi:=?_) (v:=?_) ?_ ?_ zg zg zg (fun _ _ _ _ _ h=>h) ?_ zq ?_ ?_;rotate_left 2;(focus ((simp only[List.getElem?_toArray,List.getElem?_cons_succ,List.getElem?_cons_zero]);rfl));(focus rfl);(focus (first | rfl | (simp only[Region.wanted,yielded,List.getElem?_toArray,List.getElem?_cons_succ,List.getElem?_cons_zero,Option.bind_some,Option.map_some,Fr_get?,yc,yd];rfl) | go_simp));(focus (intro W hS;have hc0:=(HO.out.grown hS zi).cell 0;have hc1:=(HO.out.grown hS zi).cell 1;have hc2:=(HO.out.grown hS zi).cell 2;simp only[List.getElem?_cons_zero,List.getElem?_cons_succ]at hc0 hc1 hc2;go_simp;try with_reducible rfl)));(refine yg 1 12 ?_);(refine yg 2 13 ?_);(refine yg 6 17 ?_);(refine yg 7 18 ?_);(refine xg 10 21 (oi:=?_) (v:=?_) ?_ ?_ zg zg zg (fun _ _ _ _ _ h=>h) ?_ zq ?_ ?_;rotate_left 2;(focus ((simp only[List.getElem?_toArray,List.getElem?_cons_succ,List.getElem?_cons_zero]);rfl));(focus rfl);(focus (first | rfl | (simp only[Region.wanted,yielded,List.getElem?_toArray,List.getElem?_cons_succ,List.getElem?_cons_zero,Option.bind_some,Option.map_some,Fr_get?,yc,yd];rfl) | go_simp));(focus (intro W hS;have hc0:=(HO.out.grown hS zi).cell 0;have hc1:=(HO.out.grown hS zi).cell 1;have hc2:=(HO.out.grown hS zi).cell 2;simp only[List.getElem?_cons_zero,List.getElem?_cons_succ]at hc0 hc1 hc2;go_simp;try with_reducible rfl)));(refine zO 3 ?_;intro K hK;go_simp;(refine (HLG.out _).mono ?_;rintro e w9 ⟨rfl,rfl⟩);go_wp2_with fail;replace hHeld:=hHeld;refine hK.out _ _ hHeld ?_;clear hK K);(refine zO 4 ?_;intro K hK;go_simp;(refine (HBF.out _).mono ?_;rintro e w10 ⟨v15,rfl,⟨q1,q2,rfl,hq1,hq2⟩,hg10⟩);go_wp2_with fail;replace hHeld:=ya hHeld hg10;refine hK.out _ _ hHeld ?_;clear hK K);clear hg10;(refine zO 5 ?_;intro K hK;go_simp;(refine (HD1.out _ _ _ (ya HG2.out hHeld) hq1 hq2).mono ?_;rintro e w11 ⟨v16,rfl,⟨q3,q4,rfl,hq3,hq4⟩,hg11⟩);go_wp2_with fail;replace hHeld:=ya hHeld hg11;refine hK.out _ _ hHeld ?_;clear hK K);clear hg11 hq1 hq2;(refine zO 8 ?_;intro K hK;go_simp;(refine (HI.out _).mono ?_;rintro e w9 ⟨rfl,rfl⟩);go_wp2_with fail;replace hHeld:=hHeld;refine hK.out _ _ hHeld ?_;clear hK K);(refine zO 9 ?_;intro K hK;go_simp;(refine (HBI.out _).mono ?_;rintro e w12 ⟨v20,rfl,⟨q5,q6,rfl,hq5,hq6⟩,hg12⟩;replace hq3:=hq3.grown hg12;replace hq4:=hq4.grown hg12);go_wp2_with fail;replace hHeld:=ya hHeld hg12;refine hK.out _ _ hHeld ?_;clear hK K);clear hg12;(refine zO 11 ?_;intro K hK;go_simp;(refine (HD2.out _ _ _ (ya HG2.out hHeld) hq5 hq6).mono ?_;rintro e w13 ⟨v22,rfl,⟨q7,q8,rfl,hq7,hq8⟩,hg13⟩;replace hq3:=hq3.grown hg13;replace hq4:=hq4.grown hg13);go_wp2_with fail;replace hHeld:=ya hHeld hg13;refine hK.out _ _ hHeld ?_;clear hK K);clear hg13 hq5 hq6;(refine zO 12 ?_;intro K hK;go_simp;(refine (HCM.out _ _ _ _ _ hq3 hq4 hq7 hq8).mono ?_;rintro e w14 ⟨rfl,hg14⟩);go_wp2_with fail;replace hHeld:=ya hHeld hg14;refine hK.out _ _ hHeld ?_;clear hK K);clear hg14 hq3 hq4 hq7 hq8;(refine yg 13 24 ?_);(refine yg 14 4 ?_);refine wpAnyH_done zg ?_ _;refine NoPanic.normal ?_;have HGF:=zH (ya HG2.out hHeld);clear hHeld;(go_wp2_with fail;repeat ((first|refine cZ ?_|refine cW ?_);go_wp2_with fail));exact yl (.bool (k==0)) rfl ze zb ⟨⟨_,rfl,fun h=>HK.out zI⟩,HGF.out⟩
end
section
attribute [local go_sem] undef
def zzx (Ln Ld In Id n d:Nat):Prop:=dfN (n*Ld) (Ln*d)*(Id*d)=dfN (In*d) (n*Id)*(d*Ld)
theorem zqr {s:List UInt8} (hs:s.length<=800) {ng:Bool} {n d:Nat} (h:zjy s=some (ng,n,d)):(yf n).length<=600/\(yf d).length<=600:=by
 unfold zjy at h;split at h
 ·cases h
 ·rename_i r hr;have hok:=ze9 hr;split at h
  ·cases h
  ·rename_i hk;obtain⟨hb,hd,hl,-,-⟩:=hok.2 (by simpa using hk);split at h
   ·cases h;exact⟨qo 0 0 ze zd,qo 1 0 ze zd⟩
   ·split at h
    ·cases h
    ·rename_i ho;cases h;obtain⟨h1,h2,-,-⟩:=ybv hb (by simpa using ho) hd zd;exact⟨h1,h2⟩
set_option maxRecDepth 100000 in
theorem zoc (size:Int) (Ln Ld In Id:Nat) (s:List UInt8) (w:World) (hs:s.length<=800)
  (hH:∀ (neg:Bool) (vn vd:Value) (n d:Nat) (W:World),NatV W vn n->NatV W vd d->(yf n).length<=600->(yf d).length<=600 ->
   Calls Tryz.prog 29 #[.agg #[.bool neg,vn,vd],.int .i64 size] W fun e w'=>(∃ b:Bool,e=.returned (.bool b)/\(b=true->zzx Ln Ld In Id n d))/\W.grownBy w' none):
  Calls Tryz.prog 12 #[.string ⟨s.toArray⟩,.int .i64 size] w fun e w'=>(∃ b:Bool,e=.returned (.bool b)/\(b=true->∃ ng n d,zjy s=some (ng,n,d)/\zzx Ln Ld In Id n d))/\w.grownBy w' none:=by
 have HRO:=zH (fun W=>zdx s W zd);have HH:=zH hH;have HLN:=zH (fun ng n d (h:zjy s=some (ng,n,d))=>zqr hs h);clear hH;refine ye Tryz.func12 rfl (by rw[Tryz.ntmps12];simp) ?_;intro σ hσ;rw[Tryz.ntmps12];have s0:σ 0=.string ⟨s.toArray⟩:=hσ 0 zi;have s1:σ 1=.int .i64 size:=hσ 1 zi;clear hσ;go_wp2_with fail;refine (HRO.out _).mono ?_;rintro e w2 ⟨hg2,hp⟩;obtain⟨D,hD⟩:=zX w2.heap.size;clear HRO;cases hr:zjy s with
 | none=>
  rw[hr]at hp;dsimp only at hp;subst hp;obtain⟨w3,hw3⟩:=zX (w2.alloc (.cells ratZ.toArray 37));have HG3:=zH (show w.grownBy w3 none by rw[<-hw3];exact ya hg2 (World.grownBy_alloc w2 _ none));have HW3:=zH hw3;unfold ratZ at HW3 ⊢;clear hw3 hg2 hr;go_upto_region 2 with fail;rw[HW3.out];(go_wp2_with fail;repeat ((first|refine cZ ?_|refine cW ?_);go_wp2_with fail));exact yl (.bool false) rfl ze zb ⟨⟨false,rfl,fun h=>zF⟩,HG3.out⟩
 | some x=>
  obtain⟨ng,n,d⟩:=x;rw[hr]at hp;dsimp only at hp;obtain⟨vr,rfl,vn,vd,rfl,hvn,hvd⟩:=hp;obtain⟨l1,l2⟩:=HLN.out ng n d hr;have HR:=zH hr;obtain⟨a1,c1,rfl⟩:=hvn.len;obtain⟨a2,c2,rfl⟩:=hvd.len;have hNN:∀ (N1 N2:Nat),True:=fun _ _=>trivial
  obtain⟨N1,hN1⟩:=zX ((yf n).length);obtain⟨N2,hN2⟩:=zX ((yf d).length);simp only[hN1,hN2]at hvn hvd ⊢;have HL:=zH (And.intro (show (yf n).length<=600 from l1) (show (yf d).length<=600 from l2));obtain⟨w3,hw3⟩:=zX (w2.alloc (.cells #[.bool ng,.slice a1 N1 c1,.slice a2 N2 c2] 37));have g3:w2.grownBy w3 none:=zαR;have HG3:=zH (ya hg2 g3);have HO:=zH (show Row w3 D [.bool ng,.slice a1 N1 c1,.slice a2 N2 c2] by rw[<-hw3,<-hD];exact Row.new w2 _ _);have HC:=zH (HH.out ng _ _ n d w3 (hvn.grown g3) (hvd.grown g3) l1 l2);have HW3:=zH hw3;have HDD:=zH hD;clear hw3 hg2 g3 hr hvn hvd hD HH l1 l2 hN1 hN2 hNN;go_upto_region 2 with fail;rw[HW3.out,HDD.out];have o0:=HO.out.cell 0;have o1:=HO.out.cell 1;have o2:=HO.out.cell 2;simp only[List.getElem?_cons_zero,List.getElem?_cons_succ]at o0 o1 o2;(go_wp2_with fail;repeat ((first|refine cZ ?_|refine cW ?_);go_wp2_with fail));refine HC.out.mono ?_;rintro e w4 ⟨⟨b,rfl,hb⟩,hg4⟩;have HB:=zH hb;have HG4:=zH (ya HG3.out hg4);clear hb hg4;(go_wp2_with fail;repeat ((first|refine cZ ?_|refine cW ?_);go_wp2_with fail));exact yl (.bool b) rfl ze zb ⟨⟨b,rfl,fun h=>⟨ng,n,d,HR.out,HB.out h⟩⟩,HG4.out⟩
theorem zit (e1 e2:Int) (he1:e1=971) (he2:e2=1024) (s:List UInt8) (w:World) (hs:s.length<=800):
  Calls Tryz.prog 12 #[.string ⟨s.toArray⟩,.int .i64 64] w fun e w'=>(∃ b:Bool,e=.returned (.bool b)/\(b=true->∃ ng n d,zjy s=some (ng,n,d)/\zzx (9007199254740991*2^e1.toNat) (2^(-e1).toNat) (1*2^e2.toNat) (2^(-e2).toNat) n d))/\w.grownBy w' none:=by
 refine zoc 64 _ _ _ _ s w hs (fun neg vn vd n d W h1 h2 l1 l2=>zix 64 9218868437227405312 _ _ _ _ neg vn vd n d W h1 h2 l1 l2 ?_ ?_ ?_ ?_ wy (fun W=>zio 64 9218868437227405312 W ze ze wy) ?_ ?_)
 ·exact qo _ (53+e1.toNat) (by rw[Nat.pow_add];exact Nat.mul_le_mul_right _ ze) zd
 ·exact qo _ ((-e1).toNat) (Nat.le_refl _) zd
 ·exact qo _ e2.toNat (by rw[Nat.one_mul];exact Nat.le_refl _) zd
 ·exact qo _ ((-e2).toNat) (Nat.le_refl _) zd
 ·intro W;refine zpp 64 9218868437227405312 9218868437227405311 _ _ W ze wy (fun W=>?_);exact zeu 9218868437227405311 9007199254740991 e1 W ze ze ze (by rw[he1];decide)
 ·intro W;have:=zpo 64 1023 9218868437227405312 W ze ze wy qz;rw[show (1023:Int)+1=e2 by omega]at this;exact this
theorem zx5 (e1 e2:Int) (he1:e1=104) (he2:e2=128) (s:List UInt8) (w:World) (hs:s.length<=800):
  Calls Tryz.prog 12 #[.string ⟨s.toArray⟩,.int .i64 32] w fun e w'=>(∃ b:Bool,e=.returned (.bool b)/\(b=true->∃ ng n d,zjy s=some (ng,n,d)/\zzx (16777215*2^e1.toNat) (2^(-e1).toNat) (1*2^e2.toNat) (2^(-e2).toNat) n d))/\w.grownBy w' none:=by
 refine zoc 32 _ _ _ _ s w hs (fun neg vn vd n d W h1 h2 l1 l2=>zix 32 2139095040 _ _ _ _ neg vn vd n d W h1 h2 l1 l2 ?_ ?_ ?_ ?_ zdg (fun W=>zio 32 2139095040 W ze ze zdg) ?_ ?_)
 ·exact qo _ (24+e1.toNat) (by rw[Nat.pow_add];exact Nat.mul_le_mul_right _ ze) zd
 ·exact qo _ ((-e1).toNat) (Nat.le_refl _) zd
 ·exact qo _ e2.toNat (by rw[Nat.one_mul];exact Nat.le_refl _) zd
 ·exact qo _ ((-e2).toNat) (Nat.le_refl _) zd
 ·intro W;refine zpp 32 2139095040 2139095039 _ _ W ze zdg (fun W=>?_);exact zev 2139095039 16777215 e1 W ze ze ze (by rw[he1];decide)
 ·intro W;have:=zpo 32 127 2139095040 W ze ze zdg zbd;rw[show (127:Int)+1=e2 by omega]at this;exact this
end
end Go.Proofs.YtoacbkokkkpofaaGreatDoor
