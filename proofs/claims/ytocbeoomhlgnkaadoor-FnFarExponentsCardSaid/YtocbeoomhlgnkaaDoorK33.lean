/- Lemmas that the claim's top text leans on. No condition of their own. -/
import Derived.Test.YtocbeoomhlgnkaaDoorK31
import Derived.Test.YtocbeoomhlgnkaaDoorK32
import Derived.Test.YtocbeoomhlgnkaaDoorK30
import Derived.Test.YtocbeoomhlgnkaaDoorK34
namespace Go.Proofs.YtocbeoomhlgnkaaDoor
open Go.RowKit
set_option linter.unusedSimpArgs false
set_option linter.unusedVariables false
set_option maxHeartbeats 16000000
section
attribute [local go_sem] undef
theorem ze7 {fn:Func} {p:Tmp} {ty:TypeId} (h:fn.results=#[.cell p ty]) (tmps:Array Value) (P:Program) (w:World):
  (results fn tmps).run P w=((asAddr (tmps.getD p undef)).run P w).andThen fun a w₁=>(loadVar ty a).run P w₁:=by
 simp only[results,h];simp[Sem.run_bind,Result.andThen]
theorem vj {P:Program} {fn:Func} {R:Ending->World->Prop} {n:Nat} {env:List (Nat×Value)} {s:Nat->Value} {w:World} {p:Nat} {ty:TypeId} {B:Nat} (v:Value) (hr:fn.results=#[.cell p ty]) (hp:p<n) (hpv:over env s p=.pointer (Option.some ⟨B,0,Option.none⟩))
  (hl:(loadVar ty ⟨B,0,Option.none⟩).run P w=.ok v w) (hR:R (.returned v) w):bodyPost P fn R .ret (Fr n env s) w:=by
 refine bodyPost_ret (v:=v) ?_ (vz ..) hR;rw[ze7 hr,wa n env s p hp,hpv];simp[asAddr,hl,Result.andThen]
def zp1 (s:List UInt8) (k:Nat):List Value:=if k=0 then [.int .i64 0,.string ⟨#[]⟩,.string ⟨#[]⟩] else [.int .i64 (k:Int),.string wn,.string ⟨s.toArray⟩]
def yfw (nm:ByteArray) (s:List UInt8) (k:Nat):List Value:=if k=0 then [.int .i64 0,.string ⟨#[]⟩,.string ⟨#[]⟩] else [.int .i64 (k:Int),.string nm,.string ⟨s.toArray⟩]
def fauZ:List Value:=[.int .i64 0,.string ⟨#[]⟩,.string ⟨#[]⟩]
theorem zsz (v:Value) (xT:TypeId) (w:World):(Instr.typeAssert (.iface 44 v) xT 44 true).run Tryd.prog w=.ok (.tuple #[v,.bool true]) w:=by kernel_rfl
set_option maxRecDepth 100000 in
theorem zos (w:World):Calls Tryd.prog 12 #[.nilIface] w fun e w'=>e=.returned (.agg fauZ.toArray)/\w.grownBy w' none:=by
 refine ye Tryd.func12 rfl (by rw[Tryd.ntmps12];simp) ?_;intro σ hσ;rw[Tryd.ntmps12];have s0:σ 0=.nilIface:=hσ 0 zi;clear hσ;obtain⟨w1,hw1⟩:=zX (w.alloc (.cells fauZ.toArray 26));have hrB:=Row.new w fauZ 26;have hgB:=World.grownBy_alloc w (.cells fauZ.toArray 26) none;rw[hw1]at hrB hgB;unfold fauZ at hw1;have HRB:=zH hrB;have HGB:=zH hgB;clear hrB hgB;obtain⟨B,hB⟩:=zX w.heap.size;rw[hB]at HRB;have k0:=HRB.out.cell 0;have k1:=HRB.out.cell 1;have k2:=HRB.out.cell 2;have t0:=HRB.out.frozen 0;have t1:=HRB.out.frozen 1;have t2:=HRB.out.frozen 2;unfold fauZ at k0 k1 k2;simp only[List.getElem?_cons_zero,List.getElem?_cons_succ]at k0 k1 k2;have HB:=zH hB;go_upto_region 1 with fail;clear hw1 hB;(go_wp2_with fail;repeat ((first|refine cZ ?_|refine cW ?_);go_wp2_with fail));obtain⟨ty,hrow⟩:=((HRB.out.setCell 0 (.int .i64 0)).setCell 1 (.string ⟨#[]⟩)).setCell 2 (.string ⟨#[]⟩);have hBw:w.heap.size<=B:=by have:=HB.out;omega
 refine vj (B:=B) (.agg fauZ.toArray) rfl ze zb ?_ ⟨rfl,yb (yb (yb HGB.out _ hBw) _ hBw) _ hBw⟩;exact run_loadVar_row (P:=Tryd.prog) _ B ty 26 _ (0,0) _ hrow Tryd.underlying26 rfl zg 
end
section
attribute [local go_sem] undef
theorem ErrNf.grown {nm:ByteArray} {w w':World} {s:List UInt8} {k N:Nat} (h:ErrNf nm w s k N) (hg:w.grownBy w' none):ErrNf nm w' s k N:=by
 obtain⟨x,h1,h2⟩:=h;exact⟨x,hg.cell h1 zi,(hg.block N (by obtain⟨hlt,-⟩:=Array.getElem?_eq_some_iff.1 h2;exact hlt) zi).trans h2⟩
theorem zbb {w:World} {N:Nat} {xs:List Value} {t:TypeId} (h:w.heap[N]?=some (.cells xs.toArray t (0,0))) (i:Nat):w.cell? ⟨N,i,none⟩=xs[i]?:=
 Row.cell (xs:=xs) ⟨t,h⟩ i
theorem is_S {nm:ByteArray} {T:Nat} {s:List UInt8} {k N:Nat} {w:World} (he:EnvP T w) (hn:ErrNf nm w s k N) (hk:k=1\/k=2):∃ a:Addr,w.cell? ⟨1,0,none⟩=some (.iface 103 (.pointer (some a)))/\
  Calls Tryd.prog 17 #[.iface 44 (.pointer (some ⟨N,0,none⟩)),.iface 103 (.pointer (some a))] w fun e w'=>e=.returned (.bool (decide (k=1)))/\w'=w:=by
 obtain⟨aS,aR,cS,cR,tS,tR,h1,h2,h3,h4,h5,h6,h7⟩:=he.errs;obtain⟨x,hx,hN⟩:=hn;have hc:=zbb (xs:=[.string nm,.string ⟨s.toArray⟩,x]) hN 2;simp only[List.getElem?_cons_zero,List.getElem?_cons_succ]at hc;refine⟨aS,h4,?_⟩;rcases hk with rfl | rfl
 ·rw[if_pos rfl,h4]at hx;cases hx;exact zdf N aS w hc
 ·rw[if_neg ze,h5]at hx;cases hx;exact zbv N aR aS cR cS tR tS w hc h3.symm h7 h6
theorem is_R {nm:ByteArray} {T:Nat} {s:List UInt8} {k N:Nat} {w:World} (he:EnvP T w) (hn:ErrNf nm w s k N) (hk:k=1\/k=2):∃ a:Addr,w.cell? ⟨2,0,none⟩=some (.iface 103 (.pointer (some a)))/\
  Calls Tryd.prog 17 #[.iface 44 (.pointer (some ⟨N,0,none⟩)),.iface 103 (.pointer (some a))] w fun e w'=>e=.returned (.bool (decide (k=2)))/\w'=w:=by
 obtain⟨aS,aR,cS,cR,tS,tR,h1,h2,h3,h4,h5,h6,h7⟩:=he.errs;obtain⟨x,hx,hN⟩:=hn;have hc:=zbb (xs:=[.string nm,.string ⟨s.toArray⟩,x]) hN 2;simp only[List.getElem?_cons_zero,List.getElem?_cons_succ]at hc;refine⟨aR,h5,?_⟩;rcases hk with rfl | rfl
 ·rw[if_pos rfl,h4]at hx;cases hx;exact zbv N aS aR cS cR tS tR w hc h3 h6 h7
 ·rw[if_neg ze,h5]at hx;cases hx;exact zdf N aR w hc
set_option maxRecDepth 100000 in
theorem zlz {nm:ByteArray} (T N:Nat) (s:List UInt8) (w:World) (he:EnvP T w) (hn:ErrNf nm w s 1 N):Calls Tryd.prog 12 #[.iface 44 (.pointer (some ⟨N,0,none⟩))] w fun e w'=>e=.returned (.agg (yfw nm s 1).toArray)/\w.grownBy w' none:=by
 refine ye Tryd.func12 rfl (by rw[Tryd.ntmps12];simp) ?_;intro σ hσ;rw[Tryd.ntmps12];have s0:σ 0=.iface 44 (.pointer (some ⟨N,0,none⟩)):=hσ 0 zi;clear hσ;have has:=zsz;obtain⟨B,hB⟩:=zX w.heap.size;obtain⟨W1,hW1⟩:=zX (w.alloc (.cells fauZ.toArray 26));have g1:w.grownBy W1 none:=zαe;have r1:Row W1 B fauZ:=zβx;obtain⟨B2,hB2⟩:=zX W1.heap.size;have hlt:B<B2:=by rw[<-hB2];exact r1.lt
 obtain⟨W2,hW2⟩:=zX (W1.alloc (.cells fauZ.toArray 26));have g2:w.grownBy W2 none:=by rw[<-hW2];exact ym g1 (World.grownBy_alloc W1 _ none)
 have r2:Row W2 B fauZ:=by rw[<-hW2];exact r1.alloc _
 have q2:Row W2 B2 fauZ:=by rw[<-hW2,<-hB2];exact Row.new W1 fauZ 26
 obtain⟨W3,hW3⟩:=zX (((W2.setCell ⟨B2,0,none⟩ (.int .i64 3)).setCell ⟨B2,1,none⟩ (.string ⟨#[]⟩)).setCell ⟨B2,2,none⟩ (.string ⟨#[]⟩));have hs1:w.heap.size<=B:=zd;have hs2:w.heap.size<=B2:=zd;have g3:w.grownBy W3 none:=zZ;have hne:B≠B2:=zd;have hne2:B2≠B:=zd;have r3:Row W3 B fauZ:=zP;have q3:Row W3 B2 [.int .i64 3,.string ⟨#[]⟩,.string ⟨#[]⟩]:=zB;obtain⟨W4,hW4⟩:=zX (W3.setCell ⟨B2,0,none⟩ (.int .i64 1));have g4:w.grownBy W4 none:=by rw[<-hW4];exact yb g3 _ hs2
 have r4:Row W4 B fauZ:=by rw[<-hW4];exact r3.setCell_other hne _
 have q4:Row W4 B2 [.int .i64 1,.string ⟨#[]⟩,.string ⟨#[]⟩]:=by rw[<-hW4];exact q3.setCell 0 (.int .i64 1)
 obtain⟨W5,hW5⟩:=zX (W4.setCell ⟨B2,1,none⟩ (.string nm));have g5:w.grownBy W5 none:=by rw[<-hW5];exact yb g4 _ hs2
 have r5:Row W5 B fauZ:=by rw[<-hW5];exact r4.setCell_other hne _
 have q5:Row W5 B2 [.int .i64 1,.string nm,.string ⟨#[]⟩]:=by rw[<-hW5];exact q4.setCell 1 (.string nm)
 obtain⟨W6,hW6⟩:=zX (W5.setCell ⟨B2,2,none⟩ (.string ⟨s.toArray⟩));have g6:w.grownBy W6 none:=by rw[<-hW6];exact yb g5 _ hs2
 have r6:Row W6 B fauZ:=by rw[<-hW6];exact r5.setCell_other hne _
 have q6:Row W6 B2 [.int .i64 1,.string nm,.string ⟨s.toArray⟩]:=by rw[<-hW6];exact q5.setCell 2 (.string ⟨s.toArray⟩)
 have hl6:(loadVar 26 ⟨B2,0,none⟩).run Tryd.prog W6=.ok (.agg #[.int .i64 1,.string nm,.string ⟨s.toArray⟩]) W6:=by
  obtain⟨ty,hrow⟩:=q6;exact run_loadVar_row (P:=Tryd.prog) _ B2 ty 26 _ (0,0) _ hrow Tryd.underlying26 rfl zg
 have n4:W4.cell? ⟨N,0,none⟩=some (.string nm):=by
  obtain⟨x,-,h⟩:=hn.grown g4;exact zbb (xs:=[.string nm,.string ⟨s.toArray⟩,x]) h 0
 have n5:W5.cell? ⟨N,1,none⟩=some (.string ⟨s.toArray⟩):=by
  obtain⟨x,-,h⟩:=hn.grown g5;exact zbb (xs:=[.string nm,.string ⟨s.toArray⟩,x]) h 1
 obtain⟨aS,hcS,hIS⟩:=is_S (he.grown g3 (fun _ e=>zL)) (hn.grown g3) ze;obtain⟨aR,hcR,hIR⟩:=is_R (he.grown g4 (fun _ e=>zL)) (hn.grown g4) ze;have HIS:=zH hIS;have HIR:=zH hIR;have G6:=zH g6;have R6:=zH r6;have HS1:=zH hs1;have HN:=zH hne;have k0:=q2.cell 0;have k1:=q2.cell 1;have k2:=q2.cell 2;have t0:=q2.frozen 0;have t1:=q2.frozen 1;have t2:=q2.frozen 2;have c3:=q3.cell 0;have f3:=q3.frozen 0;have c4:=q4.cell 1;have f4:=q4.frozen 1;have c5:=q5.cell 2;have f5:=q5.frozen 2;have d0:=q6.cell 0;have d1:=q6.cell 1;have d2:=q6.cell 2;have j0:=r6.cell 0;have j1:=r6.cell 1;have j2:=r6.cell 2;have u0:=r6.frozen 0;have u1:=r6.frozen 1;have u2:=r6.frozen 2;unfold fauZ at k0 k1 k2 j0 j1 j2 hW1 hW2;simp only[List.getElem?_cons_zero,List.getElem?_cons_succ]at k0 k1 k2 c3 c4 c5 d0 d1 d2 j0 j1 j2;clear he hn g1 g2 g3 g4 g5 g6 r1 r2 r3 r4 r5 r6 q2 q3 q4 q5 q6 hIS hIR hs1 hs2 hne hne2 hlt;(go_wp2_with fail;repeat ((first|refine cZ ?_|refine cW ?_);go_wp2_with fail));refine HIS.out.mono ?_;rintro e w9 ⟨rfl,hw9⟩;subst w9;(go_wp2_with fail;repeat ((first|refine cZ ?_|refine cW ?_);go_wp2_with fail));refine HIR.out.mono ?_;rintro e w9 ⟨rfl,hw9⟩;subst w9;(go_wp2_with fail;repeat ((first|refine cZ ?_|refine cW ?_);go_wp2_with fail));obtain⟨ty,hrow⟩:=((R6.out.setCell 0 (.int .i64 1)).setCell 1 (.string nm)).setCell 2 (.string ⟨s.toArray⟩);refine vj (B:=B) (.agg (yfw nm s 1).toArray) rfl ze zb ?_ ⟨rfl,yb (yb (yb G6.out _ HS1.out) _ HS1.out) _ HS1.out⟩;exact run_loadVar_row (P:=Tryd.prog) _ B ty 26 _ (0,0) _ hrow Tryd.underlying26 rfl zg
set_option maxRecDepth 100000 in
theorem zly {nm:ByteArray} (T N:Nat) (s:List UInt8) (w:World) (he:EnvP T w) (hn:ErrNf nm w s 2 N):Calls Tryd.prog 12 #[.iface 44 (.pointer (some ⟨N,0,none⟩))] w fun e w'=>e=.returned (.agg (yfw nm s 2).toArray)/\w.grownBy w' none:=by
 refine ye Tryd.func12 rfl (by rw[Tryd.ntmps12];simp) ?_;intro σ hσ;rw[Tryd.ntmps12];have s0:σ 0=.iface 44 (.pointer (some ⟨N,0,none⟩)):=hσ 0 zi;clear hσ;have has:=zsz;obtain⟨B,hB⟩:=zX w.heap.size;obtain⟨W1,hW1⟩:=zX (w.alloc (.cells fauZ.toArray 26));have g1:w.grownBy W1 none:=zαe;have r1:Row W1 B fauZ:=zβx;obtain⟨B2,hB2⟩:=zX W1.heap.size;have hlt:B<B2:=by rw[<-hB2];exact r1.lt
 obtain⟨W2,hW2⟩:=zX (W1.alloc (.cells fauZ.toArray 26));have g2:w.grownBy W2 none:=by rw[<-hW2];exact ym g1 (World.grownBy_alloc W1 _ none)
 have r2:Row W2 B fauZ:=by rw[<-hW2];exact r1.alloc _
 have q2:Row W2 B2 fauZ:=by rw[<-hW2,<-hB2];exact Row.new W1 fauZ 26
 obtain⟨W3,hW3⟩:=zX (((W2.setCell ⟨B2,0,none⟩ (.int .i64 3)).setCell ⟨B2,1,none⟩ (.string ⟨#[]⟩)).setCell ⟨B2,2,none⟩ (.string ⟨#[]⟩));have hs1:w.heap.size<=B:=zd;have hs2:w.heap.size<=B2:=zd;have g3:w.grownBy W3 none:=zZ;have hne:B≠B2:=zd;have hne2:B2≠B:=zd;have r3:Row W3 B fauZ:=zP;have q3:Row W3 B2 [.int .i64 3,.string ⟨#[]⟩,.string ⟨#[]⟩]:=zB;obtain⟨W4,hW4⟩:=zX (W3.setCell ⟨B2,0,none⟩ (.int .i64 2));have g4:w.grownBy W4 none:=by rw[<-hW4];exact yb g3 _ hs2
 have r4:Row W4 B fauZ:=by rw[<-hW4];exact r3.setCell_other hne _
 have q4:Row W4 B2 [.int .i64 2,.string ⟨#[]⟩,.string ⟨#[]⟩]:=by rw[<-hW4];exact q3.setCell 0 (.int .i64 2)
 obtain⟨W5,hW5⟩:=zX (W4.setCell ⟨B2,1,none⟩ (.string nm));have g5:w.grownBy W5 none:=by rw[<-hW5];exact yb g4 _ hs2
 have r5:Row W5 B fauZ:=by rw[<-hW5];exact r4.setCell_other hne _
 have q5:Row W5 B2 [.int .i64 2,.string nm,.string ⟨#[]⟩]:=by rw[<-hW5];exact q4.setCell 1 (.string nm)
 obtain⟨W6,hW6⟩:=zX (W5.setCell ⟨B2,2,none⟩ (.string ⟨s.toArray⟩));have g6:w.grownBy W6 none:=by rw[<-hW6];exact yb g5 _ hs2
 have r6:Row W6 B fauZ:=by rw[<-hW6];exact r5.setCell_other hne _
 have q6:Row W6 B2 [.int .i64 2,.string nm,.string ⟨s.toArray⟩]:=by rw[<-hW6];exact q5.setCell 2 (.string ⟨s.toArray⟩)
 have hl6:(loadVar 26 ⟨B2,0,none⟩).run Tryd.prog W6=.ok (.agg #[.int .i64 2,.string nm,.string ⟨s.toArray⟩]) W6:=by
  obtain⟨ty,hrow⟩:=q6;exact run_loadVar_row (P:=Tryd.prog) _ B2 ty 26 _ (0,0) _ hrow Tryd.underlying26 rfl zg
 have n4:W4.cell? ⟨N,0,none⟩=some (.string nm):=by
  obtain⟨x,-,h⟩:=hn.grown g4;exact zbb (xs:=[.string nm,.string ⟨s.toArray⟩,x]) h 0
 have n5:W5.cell? ⟨N,1,none⟩=some (.string ⟨s.toArray⟩):=by
  obtain⟨x,-,h⟩:=hn.grown g5;exact zbb (xs:=[.string nm,.string ⟨s.toArray⟩,x]) h 1
 obtain⟨aS,hcS,hIS⟩:=is_S (he.grown g3 (fun _ e=>zL)) (hn.grown g3) ze;obtain⟨aR,hcR,hIR⟩:=is_R (he.grown g3 (fun _ e=>zL)) (hn.grown g3) ze;have HIS:=zH hIS;have HIR:=zH hIR;have G6:=zH g6;have R6:=zH r6;have HS1:=zH hs1;have HN:=zH hne;have k0:=q2.cell 0;have k1:=q2.cell 1;have k2:=q2.cell 2;have t0:=q2.frozen 0;have t1:=q2.frozen 1;have t2:=q2.frozen 2;have c3:=q3.cell 0;have f3:=q3.frozen 0;have c4:=q4.cell 1;have f4:=q4.frozen 1;have c5:=q5.cell 2;have f5:=q5.frozen 2;have d0:=q6.cell 0;have d1:=q6.cell 1;have d2:=q6.cell 2;have j0:=r6.cell 0;have j1:=r6.cell 1;have j2:=r6.cell 2;have u0:=r6.frozen 0;have u1:=r6.frozen 1;have u2:=r6.frozen 2;unfold fauZ at k0 k1 k2 j0 j1 j2 hW1 hW2;simp only[List.getElem?_cons_zero,List.getElem?_cons_succ]at k0 k1 k2 c3 c4 c5 d0 d1 d2 j0 j1 j2;clear he hn g1 g2 g3 g4 g5 g6 r1 r2 r3 r4 r5 r6 q2 q3 q4 q5 q6 hIS hIR hs1 hs2 hne hne2 hlt;(go_wp2_with fail;repeat ((first|refine cZ ?_|refine cW ?_);go_wp2_with fail));refine HIS.out.mono ?_;rintro e w9 ⟨rfl,hw9⟩;subst w9;(go_wp2_with fail;repeat ((first|refine cZ ?_|refine cW ?_);go_wp2_with fail));refine HIR.out.mono ?_;rintro e w9 ⟨rfl,hw9⟩;subst w9;(go_wp2_with fail;repeat ((first|refine cZ ?_|refine cW ?_);go_wp2_with fail));obtain⟨ty,hrow⟩:=((R6.out.setCell 0 (.int .i64 2)).setCell 1 (.string nm)).setCell 2 (.string ⟨s.toArray⟩);refine vj (B:=B) (.agg (yfw nm s 2).toArray) rfl ze zb ?_ ⟨rfl,yb (yb (yb G6.out _ HS1.out) _ HS1.out) _ HS1.out⟩;exact run_loadVar_row (P:=Tryd.prog) _ B ty 26 _ (0,0) _ hrow Tryd.underlying26 rfl zg
theorem yfv {nm:ByteArray} (T:Nat) (s:List UInt8) (k:Nat) (ev:Value) (w:World) (he:EnvP T w) (hq:yfx nm w s k ev):
  Calls Tryd.prog 12 #[ev] w fun e w'=>e=.returned (.agg (yfw nm s k).toArray)/\w.grownBy w' none:=by
 rcases hq with⟨rfl,rfl⟩ | ⟨hk,N,rfl,hn⟩
 ·exact zos w
 ·rcases hk with rfl | rfl
  ·exact zlz T N s w he hn
  ·exact zly T N s w he hn
theorem ziz (T:Nat) (s:List UInt8) (k:Nat) (ev:Value) (w:World) (he:EnvP T w) (hq:yfx wn w s k ev):
  Calls Tryd.prog 12 #[ev] w fun e w'=>e=.returned (.agg (zp1 s k).toArray)/\w.grownBy w' none:=yfv (nm:=wn) T s k ev w he hq
end
section
attribute [local go_sem] undef
theorem zot (b:Nat) (hb:b<18446744073709551616) (w:World):(callFunc 11 #[.float .f64 b]).run Tryd.prog w=.ok (.value (.int .u64 (b:Int))) w:=by kernel_rfl
theorem zb4 {fn:Func} {p u:Tmp} {ty:TypeId} (h:fn.results=#[.tmp u,.cell p ty]) (tmps:Array Value) (P:Program) (w:World):
  (results fn tmps).run P w=((asAddr (tmps.getD p undef)).run P w).andThen fun a w₁=>((loadVar ty a).run P w₁).andThen fun v w₂=>.ok (.tuple #[tmps.getD u undef,v]) w₂:=by
 simp only[results,h];simp[Sem.run_bind,Result.andThen]
theorem zqm {P:Program} {fn:Func} {R:Ending->World->Prop} {n:Nat} {env:List (Nat×Value)} {s:Nat->Value} {w:World} {p u:Nat} {ty:TypeId} {B:Nat} (x v:Value) (hr:fn.results=#[.tmp u,.cell p ty]) (hu:u<n) (hp:p<n) (hx:over env s u=x) (hpv:over env s p=.pointer (Option.some ⟨B,0,Option.none⟩))
  (hl:(loadVar ty ⟨B,0,Option.none⟩).run P w=.ok v w) (hR:R (.returned (.tuple #[x,v])) w):bodyPost P fn R .ret (Fr n env s) w:=by
 refine bodyPost_ret (v:=.tuple #[x,v]) ?_ (vz ..) hR;rw[zb4 hr,wa n env s p hp,wa n env s u hu,hpv,hx];simp[asAddr,hl,Result.andThen]
theorem zwh (s:List UInt8) (k:Nat):∃ (a:Int) (b c:ByteArray),zp1 s k=[.int .i64 a,.string b,.string c]:=by unfold zp1;split <;> exact⟨_,_,_,rfl⟩
theorem zvp (F:Nat) (bias:Int) (inf b:Nat) (l:List Nat) (x:Int) (hbias:1<=bias) (hinf:inf=(2*bias+1).toNat*2^F):spN F bias inf b l x<=inf:=by
 unfold spN;split
 ·omega
 ·split
  ·exact Nat.le_refl _
  ·exact ud F bias inf _ _ (qg _ (by unfold yfj;split <;> decide)) hbias hinf
theorem zjr (t:Txt):spB 52 1023 9218868437227405312 t<=9218868437227405312:=zvp 52 1023 _ _ _ _ ze rfl
theorem PaQ64.lt {s:List UInt8} {v k:Nat} (h:PaQ64 s v k):v<18446744073709551616:=by
 unfold PaQ64 at h;split at h
 ·omega
 ·rename_i t ht;obtain⟨h0,h1,h2⟩:=h;rcases za0 ht with e | e | e
  ·have:=(h2 e).1;have h3:=zjr t;have h4:sgB t.neg<=9223372036854775808:=by unfold sgB;split <;> omega
   omega
  ·rw[(h1 e).1];cases t.neg <;> decide
  ·exact (h0 e).1.2
theorem PaQw.lt {s:List UInt8} {v k:Nat} (h:PaQw s v k):v<18446744073709551616:=by
 obtain⟨v,-,⟨-,h⟩ | ⟨-,-,h,-⟩⟩:=h
 ·exact h.1
 ·exact h
set_option maxRecDepth 100000 in
theorem zhd (T:Nat) (s:List UInt8) (w:World) (he:EnvP T w) (hs:s.length<=800):
  Calls Tryd.prog 6 #[.string ⟨s.toArray⟩] w fun e w'=>(∃ v k:Nat,e=.returned (.tuple #[.int .u64 (v:Int),.agg (zp1 s k).toArray])/\PaQ64 s v k)/\w.grownBy w' none:=by
 refine ye Tryd.func6 rfl (by rw[Tryd.ntmps6];simp) ?_;intro σ hσ;rw[Tryd.ntmps6];have s0:σ 0=.string ⟨s.toArray⟩:=hσ 0 zi;clear hσ;obtain⟨B,hB⟩:=zX w.heap.size;obtain⟨W1,hW1⟩:=zX (w.alloc (.cells fauZ.toArray 26));have g1:w.grownBy W1 none:=zαe;have r1:Row W1 B fauZ:=zβx;have HAT:=zH (zgr T s W1 (he.grown g1 (fun _ e=>zL)) hs);have hs1:w.heap.size<=B:=zd;have HB:=zH hs1;have G1:=zH g1;have R1:=zH r1;have HE:=zH he;unfold fauZ at hW1;clear hs1 g1 r1 he;(go_wp2_with fail;repeat ((first|refine cZ ?_|refine cW ?_);go_wp2_with fail));refine HAT.out.mono ?_;rintro e w2 ⟨⟨v,k,ev,rfl,hp,hq⟩,hg2⟩;clear hW1;have hv:v<18446744073709551616:=hp.lt;have hf:=fun W=>zot v hv W
 have HFO:=zH (ziz T s k ev w2 (HE.out.grown (ym G1.out hg2) (fun _ e=>zL)) hq);have G2:=zH (ym G1.out hg2);have R2:=zH (R1.out.grown hg2 zi);have HP:=zH hp;clear hp hq hg2 hv HAT HE R1 G1;(go_wp2_with fail;repeat ((first|refine cZ ?_|refine cW ?_);go_wp2_with fail));refine HFO.out.mono ?_;rintro e w3 ⟨rfl,hg3⟩;have G3:=zH (ym G2.out hg3);have R3:=zH (R2.out.grown hg3 zi);obtain⟨fa,fb,fc,hfa⟩:=zwh s k;have HF:=zH hfa;rw[hfa];have k0:=R3.out.cell 0;have k1:=R3.out.cell 1;have k2:=R3.out.cell 2;have u0:=R3.out.frozen 0;have u1:=R3.out.frozen 1;have u2:=R3.out.frozen 2;unfold fauZ at k0 k1 k2;simp only[List.getElem?_cons_zero,List.getElem?_cons_succ]at k0 k1 k2;clear hg3 hfa;(go_wp2_with fail;repeat ((first|refine cZ ?_|refine cW ?_);go_wp2_with fail));obtain⟨ty,hrow⟩:=((R3.out.setCell 0 (.int .i64 fa)).setCell 1 (.string fb)).setCell 2 (.string fc);refine zqm (B:=B) (.int .u64 (v:Int)) (.agg #[.int .i64 fa,.string fb,.string fc]) rfl ze ze zb zb ?_ ⟨⟨v,k,by rw[HF.out],HP.out⟩,yb (yb (yb G3.out _ HB.out) _ HB.out) _ HB.out⟩;exact run_loadVar_row (P:=Tryd.prog) _ B ty 26 _ (0,0) _ hrow Tryd.underlying26 rfl zg
set_option maxRecDepth 100000 in
theorem zxw (T:Nat) (s:List UInt8) (w:World) (he:EnvP T w) (hs:s.length<=800):
  Calls Tryd.prog 8 #[.string ⟨s.toArray⟩] w fun e w'=>(∃ v k:Nat,e=.returned (.tuple #[.int .u64 (v:Int),.agg (zp1 s k).toArray])/\PaQw s v k)/\w.grownBy w' none:=by
 refine ye Tryd.func8 rfl (by rw[Tryd.ntmps8];simp) ?_;intro σ hσ;rw[Tryd.ntmps8];have s0:σ 0=.string ⟨s.toArray⟩:=hσ 0 zi;clear hσ;obtain⟨B,hB⟩:=zX w.heap.size;obtain⟨W1,hW1⟩:=zX (w.alloc (.cells fauZ.toArray 26));have g1:w.grownBy W1 none:=zαe;have r1:Row W1 B fauZ:=zβx;have HAT:=zH (zyq T s W1 (he.grown g1 (fun _ e=>zL)) hs);have hs1:w.heap.size<=B:=zd;have HB:=zH hs1;have G1:=zH g1;have R1:=zH r1;have HE:=zH he;unfold fauZ at hW1;clear hs1 g1 r1 he;(go_wp2_with fail;repeat ((first|refine cZ ?_|refine cW ?_);go_wp2_with fail));refine HAT.out.mono ?_;rintro e w2 ⟨⟨v,k,ev,rfl,hp,hq⟩,hg2⟩;clear hW1;have hv:v<18446744073709551616:=hp.lt;have hf:=fun W=>zot v hv W
 have HFO:=zH (ziz T s k ev w2 (HE.out.grown (ym G1.out hg2) (fun _ e=>zL)) hq);have G2:=zH (ym G1.out hg2);have R2:=zH (R1.out.grown hg2 zi);have HP:=zH hp;clear hp hq hg2 hv HAT HE R1 G1;(go_wp2_with fail;repeat ((first|refine cZ ?_|refine cW ?_);go_wp2_with fail));refine HFO.out.mono ?_;rintro e w3 ⟨rfl,hg3⟩;have G3:=zH (ym G2.out hg3);have R3:=zH (R2.out.grown hg3 zi);obtain⟨fa,fb,fc,hfa⟩:=zwh s k;have HF:=zH hfa;rw[hfa];have k0:=R3.out.cell 0;have k1:=R3.out.cell 1;have k2:=R3.out.cell 2;have u0:=R3.out.frozen 0;have u1:=R3.out.frozen 1;have u2:=R3.out.frozen 2;unfold fauZ at k0 k1 k2;simp only[List.getElem?_cons_zero,List.getElem?_cons_succ]at k0 k1 k2;clear hg3 hfa;(go_wp2_with fail;repeat ((first|refine cZ ?_|refine cW ?_);go_wp2_with fail));obtain⟨ty,hrow⟩:=((R3.out.setCell 0 (.int .i64 fa)).setCell 1 (.string fb)).setCell 2 (.string fc);refine zqm (B:=B) (.int .u64 (v:Int)) (.agg #[.int .i64 fa,.string fb,.string fc]) rfl ze ze zb zb ?_ ⟨⟨v,k,by rw[HF.out],HP.out⟩,yb (yb (yb G3.out _ HB.out) _ HB.out) _ HB.out⟩;exact run_loadVar_row (P:=Tryd.prog) _ B ty 26 _ (0,0) _ hrow Tryd.underlying26 rfl zg 
end
theorem zyg {v r:Nat} (h:yak v r) (hn:¬zxp v):r=zyo v:=by
 rcases h with⟨h,-⟩ | ⟨h1,-,-,h4⟩
 ·exact absurd h hn
 ·unfold zyo;by_cases hf:v%2147483648<2139095040
  ·rw[if_pos hf];rw[yaf v h1 hf]at h4;exact (Option.some.inj h4).symm
  ·have h5:¬2139095040<v%2147483648:=fun h=>hn ⟨h1,h⟩
   have h6:v=2139095040\/v=4286578688:=zd;rw[if_neg hf];rcases h6 with rfl | rfl
   ·have:floatToFloatBits .f32 2139095040 .f64=some 9218868437227405312:=zp;rw[this]at h4;exact (Option.some.inj h4).symm
   ·have:floatToFloatBits .f32 4286578688 .f64=some 18442240474082181120:=zp;rw[this]at h4;exact (Option.some.inj h4).symm
section
attribute [local go_sem] undef
theorem ya2 (s:List UInt8) (k:Nat):∃ fb fc:ByteArray,zp1 s k=[.int .i64 (k:Int),.string fb,.string fc]:=by
 unfold zp1;by_cases h:k=0
 ·subst h;exact⟨_,_,by rw[if_pos rfl];rfl⟩
 ·exact⟨_,_,by rw[if_neg h]⟩
end
def RdNum (s:List UInt8) (neg:Bool) (a b:Nat):Prop:=b≠0/\∃ t,ul s=some t/\t.kind=0/\t.neg=neg/\∀ (F:Nat) (bias:Int) (inf:Nat),1<=bias->bias<=1023->1<=F->bias+F<=1075->spB F bias inf t=xh F bias inf a b
theorem RdNum.pa64 {s:List UInt8} {n:Bool} {a b v k:Nat} (h:RdNum s n a b) (hp:PaQ64 s v k):v=sgB n+xd a b/\k=if xd a b=9218868437227405312 then 2 else 0:=by
 obtain⟨hb,t,h1,h2,h3,h4⟩:=h;unfold PaQ64 at hp;rw[h1]at hp;obtain⟨e1,e2⟩:=hp.2.2 h2;rw[h4 52 1023 9218868437227405312 ze ze ze ze]at e1 e2;rw[h3]at e1;exact⟨e1,e2⟩
theorem RdNum.paw {s:List UInt8} {n:Bool} {a b v k:Nat} (h:RdNum s n a b) (hp:PaQw s v k):v=zyo (sgC n+zxq a b)/\k=if zxq a b=2139095040 then 2 else 0:=by
 obtain⟨hb,t,h1,h2,h3,h4⟩:=h;obtain⟨u,hp,hw⟩:=hp;unfold PaQ32 at hp;rw[h1]at hp;obtain⟨e1,e2⟩:=hp.2.2 h2;rw[h4 23 127 2139095040 ze ze ze ze]at e1 e2;rw[h3]at e1;have hle:=ud 23 127 2139095040 a b hb ze ze;have e3:u=sgC n+zxq a b:=e1;refine⟨?_,e2⟩;rw[<-e3];refine zyg hw ?_;rintro⟨-,h⟩;have:zxq a b<=2139095040:=hle;cases n
 ·rw[show sgC false=0 from rfl]at e3;omega
 ·rw[show sgC true=2147483648 from rfl]at e3;omega
theorem ye7 (neg:Bool) (A:List UInt8) (P:Option (List UInt8)) (x:Int) (hA0:A≠[]) (hA:allD 10 A) (hF:allD 10 (pF P)) (h1:-1000000000000000<x) (h2:x<1000000000000000):
  RdNum (ycv neg++(A++(pT P++101::ycd x))) neg (zd5 (A++pF P)*10^(x-(((pF P).length:Nat):Int)).toNat) (10^(-(x-(((pF P).length:Nat):Int))).toNat):=by
 obtain⟨t,h3,h4,h5,h6⟩:=ydc neg A P x hA0 hA hF h1 h2;exact⟨qg _ ze,t,h3,h4,h5,h6⟩
theorem ybf (x:Nat) (hx:x<=2139095040):zyo (2147483648+x)=9223372036854775808+zyo x:=by
 unfold zyo;rw[show (2147483648+x)%2147483648=x by omega,show x%2147483648=x by omega];by_cases h:x<2139095040
 ·rw[if_pos h,if_pos h];have hm:m32 (2147483648+x)=m32 x:=by
   rw[<-zv8,<-zv8,show (2147483648+x)%2147483648=x by omega,show x%2147483648=x by omega]
  have he:e32 (2147483648+x)=e32 x:=by
   rw[<-zwp,<-zwp,show (2147483648+x)%2147483648=x by omega,show x%2147483648=x by omega]
  unfold zma;rw[hm,he,if_pos zd,if_neg zd];omega
 ·rw[if_neg h,if_neg h];have:x=2139095040:=zd;subst this;decide
theorem ybr:zyo 0=0/\zyo 2147483648=9223372036854775808/\zyo 4286578688=18442240474082181120:=by
 have h0:zyo 0=0:=by
  unfold zyo;rw[if_pos ze];unfold zma;rw[if_neg ze,Nat.add_zero];have hm:m32 0=0:=by rw[<-zv8];decide
  unfold vN;rw[hm,Nat.zero_mul];exact zai 52 1023 _ _ (Nat.ne_of_gt (zjf _)) ze ze
 refine⟨h0,?_,?_⟩
 ·have:=ybf 0 ze;rw[h0]at this;exact this
 ·unfold zyo;rw[if_neg ze];decide
theorem vq:∀ (l:List UInt8),allD 10 l->(zd5 l=0↔l=List.replicate l.length 48)
 | [],_=>⟨fun _=>rfl,fun _=>rfl⟩
 | c::l,h=>by
  have hc:=yde h.cons.1
  have ih:=vq l h.cons.2
  rw[zd5,List.length_cons,List.replicate_succ]
  have hp:0<10^l.length:=Nat.pow_pos ze
  constructor
  ·intro h0
   have h1:(c.toNat-48)*10^l.length=0:=zd
   have h2:zd5 l=0:=zd
   have h3:c.toNat-48=0:=by
    rcases Nat.mul_eq_zero.1 h1 with h | h
    ·exact h
    ·omega
   have h4:c=48:=by
    apply UInt8.toNat_inj.1;show c.toNat=48;omega
   rw[h4];congr 1;exact ih.1 h2
  ·intro e;obtain⟨e1,e2⟩:=List.cons.inj e;rw[ih.2 e2,e1];simp
theorem kd (F:Nat) (bias:Int) (inf N:Nat) (x:Int) (hN:N≠0) (h1:5000<=x) (hb:bias<=1023) (hb1:1<=bias):xh F bias inf (N*10^x.toNat) (10^(-x).toNat)=inf:=by
 show nvT F bias inf 10 N x=inf;refine znp F bias inf 10 _ 0 400 (bias+1).toNat x zd (by rw[Nat.pow_zero];omega) ?_ zd zd;exact Nat.le_trans (Nat.pow_le_pow_right zd (show (bias+1).toNat<=1024 by omega)) zqc
theorem vr (F:Nat) (bias:Int) (inf N:Nat) (x:Int) (hN:N<10^300) (h1:x<=-5000) (hb1:1<=bias) (hF:1<=F) (hb:bias+F<=1075):xh F bias inf (N*10^x.toNat) (10^(-x).toNat)=0:=by
 show nvT F bias inf 10 N x=0;refine zno F bias inf 10 _ 300 400 (bias+F).toNat x zd hN ?_ zd zd hb1 hF;exact Nat.le_trans (Nat.pow_le_pow_right zd (show (bias+F).toNat<=1075 by omega)) zqb
theorem vn (F:Nat) (bias:Int) (inf:Nat) (x:Int) (hb1:1<=bias) (hF:1<=F):xh F bias inf (0*10^x.toNat) (10^(-x).toNat)=0:=by
 rw[Nat.zero_mul];exact zai F bias inf _ (qg _ ze) hb1 hF
theorem kq (neg:Bool) (D:List UInt8) (x:Int) (hD0:D≠[]) (hD:allD 10 D) (h1:-1000000000000000<x) (h2:x<1000000000000000):
  RdNum (ycv neg++(D++101::ycd x)) neg (zd5 D*10^x.toNat) (10^(-x).toNat):=by
 have h:=ye7 neg D none x hD0 hD (fun c hc=>by cases hc) h1 h2;rw[show D++pF none=D from List.append_nil D,show x-(((pF none).length:Nat):Int)=x from Int.sub_zero x]at h;exact h
theorem zf2 (D:List UInt8) (n:Nat) (hD0:D≠[]) (hD:allD 10 D) (hl:D.length<=300) (h1:5000<=n) (h2:n<=999999999) {x y u v f g h k:Nat}
  (p1:PaQ64 (D++101::ycd n) x f) (p2:PaQw (45::(D++101::ycd n)) y g) (p3:PaQ64 (D++101::45::ycd n) u h) (p4:PaQw (D++101::45::ycd n) v k):
  (D=List.replicate D.length 48->x=0/\y=9223372036854775808/\u=0/\v=0/\f=0/\g=0/\h=0/\k=0)/\
  (D≠List.replicate D.length 48->x=9218868437227405312/\y=18442240474082181120/\u=0/\v=0/\f=2/\g=2/\h=0/\k=0):=by
 obtain⟨w0,w1,w2⟩:=ybr;have hneg:(45:UInt8)::ycd n=ycd (-(n:Int)):=by
  unfold ycd;rw[if_neg zd,if_pos zd,Int.natAbs_neg]
 rw[hneg]at p3 p4;have r1:=kq false D n hD0 hD zd zd;have r2:=kq true D n hD0 hD zd zd;have r3:=kq false D (-(n:Int)) hD0 hD zd zd;obtain⟨x1,x2⟩:=r1.pa64 p1;obtain⟨y1,y2⟩:=r2.paw p2;obtain⟨u1,u2⟩:=r3.pa64 p3;obtain⟨v1,v2⟩:=r3.paw p4;have hlt:zd5 D<10^300:=by
  obtain⟨K,hK⟩:∃ K,K=300:=⟨_,rfl⟩;rw[<-hK]at hl ⊢;exact Nat.lt_of_lt_of_le (zo2 D (fun c hc=>yde (hD c hc))) (Nat.pow_le_pow_right ze hl)
 have e3:xd (zd5 D*10^(-(n:Int)).toNat) (10^(- -(n:Int)).toNat)=0:=vr 52 1023 _ _ _ hlt zd ze ze ze;have e4:zxq (zd5 D*10^(-(n:Int)).toNat) (10^(- -(n:Int)).toNat)=0:=vr 23 127 _ _ _ hlt zd ze ze ze;rw[e3]at u1 u2;rw[e4]at v1 v2;have hz:=vq D hD;constructor
 ·intro h0;have hd:=hz.2 h0;rw[hd]at x1 x2 y1 y2;have e1:xd (0*10^(n:Int).toNat) (10^(-(n:Int)).toNat)=0:=vn 52 1023 _ _ ze ze;have e2:zxq (0*10^(n:Int).toNat) (10^(-(n:Int)).toNat)=0:=vn 23 127 _ _ ze ze;rw[e1]at x1 x2;rw[e2]at y1 y2;exact⟨x1,y1.trans w1,u1,v1.trans w0,x2,y2,u2,v2⟩
 ·intro h0;have hd:zd5 D≠0:=fun e=>h0 (hz.1 e)
  have e1:xd (zd5 D*10^(n:Int).toNat) (10^(-(n:Int)).toNat)=9218868437227405312:=kd 52 1023 _ _ _ hd zd ze ze;have e2:zxq (zd5 D*10^(n:Int).toNat) (10^(-(n:Int)).toNat)=2139095040:=kd 23 127 _ _ _ hd zd ze ze;rw[e1]at x1 x2;rw[e2]at y1 y2;exact⟨x1.trans (Nat.zero_add _),y1.trans w2,u1,v1.trans w0,x2,y2,u2,v2⟩
section
attribute [local go_sem] undef
theorem yfu (w:World):Calls Tryd.prog 9 #[.int .u64 0] w fun e w'=>e=.returned (.bool true)/\w=w':=zxv 0 w ze 
theorem zb_s (w:World):Calls Tryd.prog 9 #[.int .u64 9223372036854775808] w fun e w'=>e=.returned (.bool true)/\w=w':=zxv 9223372036854775808 w ze
set_option maxRecDepth 100000 in
theorem vd (T:Nat) (D:List UInt8) (x:Int) (hD:D.length<9223372036854775808) (hx1:-9223372036854775808<=x) (hx2:x<9223372036854775808) (w:World) (he:EnvP T w):
  Calls Tryd.prog 3 #[.string ⟨D.toArray⟩,.int .i64 x] w fun e w'=>e=.returned (.bool true)/\w.grownBy w' none:=by
 have HE:=zH he;clear he;refine ye Tryd.func3 rfl (by rw[Tryd.ntmps3];simp) ?_;intro σ hσ;rw[Tryd.ntmps3];have s0:σ 0=.string ⟨D.toArray⟩:=hσ 0 zi;have s1:σ 1=.int .i64 x:=hσ 1 zi;clear hσ;have HG0:=zH (World.grownBy.refl w none);have HDO:=zH (fun W=>ycf D 300 W hD);(go_wp2_with fail;repeat ((first|refine cZ ?_|refine cW ?_);go_wp2_with fail));refine (HDO.out _).mono ?_;rintro e w1 ⟨⟨b,rfl,hb⟩,rfl⟩;cases b
 case false=>
  (go_wp2_with fail;repeat ((first|refine cZ ?_|refine cW ?_);go_wp2_with fail));exact yl (.bool true) rfl ze zb ⟨rfl,HG0.out⟩
 obtain⟨ne_D,l_D,al_D⟩:=hb rfl;clear hb;by_cases hq:x<5000
 ·have q1:x<5000:=hq;have q2:decide (x<5000)=true:=zh;(go_wp2_with fail;repeat ((first|refine cZ ?_|refine cW ?_);go_wp2_with fail));exact yl (.bool true) rfl ze zb ⟨rfl,HG0.out⟩
 have n1:¬x<5000:=hq;have d1:decide (x<5000)=false:=zh;clear hq;by_cases hq:999999999<x
 ·have q1:999999999<x:=hq;have q2:decide (999999999<x)=true:=zh;(go_wp2_with fail;repeat ((first|refine cZ ?_|refine cW ?_);go_wp2_with fail));exact yl (.bool true) rfl ze zb ⟨rfl,HG0.out⟩
 have n2:¬999999999<x:=hq;have d2:decide (999999999<x)=false:=zh;clear hq;obtain⟨n,rfl⟩:∃ n:Nat,x=(n:Int):=⟨x.toNat,zd⟩;have HN:=zH (fun W=>yb8 (n:Int) W zd zd);have HFA:=zH (fun (x y u v f g h k:Nat) p1 p2 p3 p4=>zf2 D n ne_D al_D l_D zd zd (x:=x) (y:=y) (u:=u) (v:=v) (f:=f) (g:=g) (h:=h) (k:=k) p1 p2 p3 p4);have HZ:=zH (fun W=>ycb D.length W zd);have y1:=yca (n:Int) zd zd;obtain⟨L,hL⟩:=zX D.length;have zl_D:(⟨D.toArray⟩:ByteArray).size=L:=by rw[<-hL];simp[ByteArray.size]
 rw[hL]at HZ HFA;obtain⟨N,h_N⟩:∃ t:List UInt8,ycd (n:Int)=t:=⟨_,rfl⟩;have l_N:N.length<=20:=by rw[<-h_N];omega
 have z_N:(⟨N.toArray⟩:ByteArray).size=N.length:=zm;obtain⟨Z,h_Z⟩:∃ t:List UInt8,List.replicate L (48:UInt8)=t:=⟨_,rfl⟩;have z_Z:(⟨Z.toArray⟩:ByteArray).size=Z.length:=zm;rw[h_N]at HN HFA;rw[h_Z]at HZ HFA;have l_D2:D.length<=300:=zd;have l_L:L<=300:=zd;obtain⟨t1,h_t1⟩:∃ t:List UInt8,D++[101]=t:=⟨_,rfl⟩;have l_t1:t1.length<=301:=by rw[<-h_t1];simp only[List.length_append,List.length_cons,List.length_nil];omega
 have z_t1:(⟨t1.toArray⟩:ByteArray).size=t1.length:=zm;have c_1:(⟨D.toArray⟩:ByteArray)++⟨#[101]⟩=⟨t1.toArray⟩:=by rw[<-h_t1];exact yb0 D [101]
 obtain⟨A,h_A⟩:∃ t:List UInt8,t1++N=t:=⟨_,rfl⟩;have l_A:A.length<=321:=by rw[<-h_A];simp only[List.length_append,List.length_cons,List.length_nil];omega
 have z_A:(⟨A.toArray⟩:ByteArray).size=A.length:=zm;have c_2:(⟨t1.toArray⟩:ByteArray)++⟨N.toArray⟩=⟨A.toArray⟩:=by rw[<-h_A];exact yb0 t1 N
 obtain⟨t2,h_t2⟩:∃ t:List UInt8,[45]++D=t:=⟨_,rfl⟩;have l_t2:t2.length<=301:=by rw[<-h_t2];simp only[List.length_append,List.length_cons,List.length_nil];omega
 have z_t2:(⟨t2.toArray⟩:ByteArray).size=t2.length:=zm;have c_3:(⟨#[45]⟩:ByteArray)++⟨D.toArray⟩=⟨t2.toArray⟩:=by rw[<-h_t2];exact yb0 [45] D
 obtain⟨t3,h_t3⟩:∃ t:List UInt8,t2++[101]=t:=⟨_,rfl⟩;have l_t3:t3.length<=302:=by rw[<-h_t3];simp only[List.length_append,List.length_cons,List.length_nil];omega
 have z_t3:(⟨t3.toArray⟩:ByteArray).size=t3.length:=zm;have c_4:(⟨t2.toArray⟩:ByteArray)++⟨#[101]⟩=⟨t3.toArray⟩:=by rw[<-h_t3];exact yb0 t2 [101]
 obtain⟨B,h_B⟩:∃ t:List UInt8,t3++N=t:=⟨_,rfl⟩;have l_B:B.length<=322:=by rw[<-h_B];simp only[List.length_append,List.length_cons,List.length_nil];omega
 have z_B:(⟨B.toArray⟩:ByteArray).size=B.length:=zm;have c_5:(⟨t3.toArray⟩:ByteArray)++⟨N.toArray⟩=⟨B.toArray⟩:=by rw[<-h_B];exact yb0 t3 N
 obtain⟨t4,h_t4⟩:∃ t:List UInt8,D++[101,45]=t:=⟨_,rfl⟩;have l_t4:t4.length<=302:=by rw[<-h_t4];simp only[List.length_append,List.length_cons,List.length_nil];omega
 have z_t4:(⟨t4.toArray⟩:ByteArray).size=t4.length:=zm;have c_6:(⟨D.toArray⟩:ByteArray)++⟨#[101,45]⟩=⟨t4.toArray⟩:=by rw[<-h_t4];exact yb0 D [101,45]
 obtain⟨C,h_C⟩:∃ t:List UInt8,t4++N=t:=⟨_,rfl⟩;have l_C:C.length<=322:=by rw[<-h_C];simp only[List.length_append,List.length_cons,List.length_nil];omega
 have z_C:(⟨C.toArray⟩:ByteArray).size=C.length:=zm;have c_7:(⟨t4.toArray⟩:ByteArray)++⟨N.toArray⟩=⟨C.toArray⟩:=by rw[<-h_C];exact yb0 t4 N
 rw[show D++101::N=A by rw[<-h_A,<-h_t1];simp,show 45::A=B by rw[<-h_B,<-h_t3,<-h_t2,<-h_A,<-h_t1];simp,show D++101::45::N=C by rw[<-h_C,<-h_t4];simp]at HFA;have HP0:=zH (fun W (h:EnvP T W)=>zhd T A W h zd);have HP1:=zH (fun W (h:EnvP T W)=>zxw T B W h zd);have HP2:=zH (fun W (h:EnvP T W)=>zhd T C W h zd);have HP3:=zH (fun W (h:EnvP T W)=>zxw T C W h zd);clear h_N h_Z h_A h_B h_C h_t1 h_t2 h_t3 h_t4 y1 hL ne_D al_D hD hx1 hx2 HDO;(go_wp2_with fail;repeat ((first|refine cZ ?_|refine cW ?_);go_wp2_with fail));refine (HZ.out _).mono ?_;rintro e w1 ⟨rfl,hg⟩;have HG1:=zH (ym HG0.out hg);clear hg;(go_wp2_with fail;repeat ((first|refine cZ ?_|refine cW ?_);go_wp2_with fail));refine (HN.out _).mono ?_;rintro e w2 ⟨rfl,hg⟩;have HG2:=zH (ym HG1.out hg);have HM0:=zH hg;clear hg;(go_wp2_with fail;repeat ((first|refine cZ ?_|refine cW ?_);go_wp2_with fail));refine (HP0.out _ (HE.out.grown HG2.out (fun _ e=>zL))).mono ?_;rintro e w3 ⟨⟨v0,k0,rfl,hp0⟩,hg3⟩;have HQ0:=zH hp0;obtain⟨fb0,fc0,hfa⟩:=ya2 A k0;rw[hfa];have HG3:=zH (ym HG2.out hg3);obtain⟨B0,hB0⟩:=zX w3.heap.size;obtain⟨w4,hw4⟩:∃ w',w3.alloc (.cells #[.int .i64 (k0:Int),.string fb0,.string fc0] 26)=w':=⟨_,rfl⟩;have g4:w3.grownBy w4 none:=by rw[<-hw4];exact World.grownBy_alloc w3 _ none
 have HG4:=zH (ym HG3.out g4);have HO0:=zH (show Row w4 B0 [.int .i64 (k0:Int),.string fb0,.string fc0] by rw[<-hw4,<-hB0];exact Row.new w3 _ _);have HW4:=zH hw4;have HBE0:=zH hB0;clear hw4 hB0 hg3 g4 hfa hp0 HP0;go_upto_region 5 with fail;rw[HW4.out,HBE0.out];clear HW4 HBE0;(go_wp2_with fail;repeat ((first|refine cZ ?_|refine cW ?_);go_wp2_with fail));refine (HN.out _).mono ?_;rintro e w5 ⟨rfl,hg⟩;have HG5:=zH (ym HG4.out hg);have HM1:=zH hg;clear hg;(go_wp2_with fail;repeat ((first|refine cZ ?_|refine cW ?_);go_wp2_with fail));refine (HP1.out _ (HE.out.grown HG5.out (fun _ e=>zL))).mono ?_;rintro e w6 ⟨⟨v1,k1,rfl,hp1⟩,hg6⟩;have HQ1:=zH hp1;obtain⟨fb1,fc1,hfa⟩:=ya2 B k1;rw[hfa];have HG6:=zH (ym HG5.out hg6);obtain⟨B1,hB1⟩:=zX w6.heap.size;obtain⟨w7,hw7⟩:∃ w',w6.alloc (.cells #[.int .i64 (k1:Int),.string fb1,.string fc1] 26)=w':=⟨_,rfl⟩;have g7:w6.grownBy w7 none:=by rw[<-hw7];exact World.grownBy_alloc w6 _ none
 have HG7:=zH (ym HG6.out g7);have HO1:=zH (show Row w7 B1 [.int .i64 (k1:Int),.string fb1,.string fc1] by rw[<-hw7,<-hB1];exact Row.new w6 _ _);have HO0:=zH (HO0.out.grown (ym (ym HM1.out hg6) g7) zi);have HW7:=zH hw7;have HBE1:=zH hB1;clear hw7 hB1 hg6 g7 hfa hp1 HP1;go_upto_region 6 with fail;rw[HW7.out,HBE1.out];clear HW7 HBE1;(go_wp2_with fail;repeat ((first|refine cZ ?_|refine cW ?_);go_wp2_with fail));refine (HN.out _).mono ?_;rintro e w8 ⟨rfl,hg⟩;have HG8:=zH (ym HG7.out hg);have HM2:=zH hg;clear hg;(go_wp2_with fail;repeat ((first|refine cZ ?_|refine cW ?_);go_wp2_with fail));refine (HP2.out _ (HE.out.grown HG8.out (fun _ e=>zL))).mono ?_;rintro e w9 ⟨⟨v2,k2,rfl,hp2⟩,hg9⟩;have HQ2:=zH hp2;obtain⟨fb2,fc2,hfa⟩:=ya2 C k2;rw[hfa];have HG9:=zH (ym HG8.out hg9);obtain⟨B2,hB2⟩:=zX w9.heap.size;obtain⟨w10,hw10⟩:∃ w',w9.alloc (.cells #[.int .i64 (k2:Int),.string fb2,.string fc2] 26)=w':=⟨_,rfl⟩;have g10:w9.grownBy w10 none:=by rw[<-hw10];exact World.grownBy_alloc w9 _ none
 have HG10:=zH (ym HG9.out g10);have HO2:=zH (show Row w10 B2 [.int .i64 (k2:Int),.string fb2,.string fc2] by rw[<-hw10,<-hB2];exact Row.new w9 _ _);have HO0:=zH (HO0.out.grown (ym (ym HM2.out hg9) g10) zi);have HO1:=zH (HO1.out.grown (ym (ym HM2.out hg9) g10) zi);have HW10:=zH hw10;have HBE2:=zH hB2;clear hw10 hB2 hg9 g10 hfa hp2 HP2;go_upto_region 7 with fail;rw[HW10.out,HBE2.out];clear HW10 HBE2;(go_wp2_with fail;repeat ((first|refine cZ ?_|refine cW ?_);go_wp2_with fail));refine (HN.out _).mono ?_;rintro e w11 ⟨rfl,hg⟩;have HG11:=zH (ym HG10.out hg);have HM3:=zH hg;clear hg;(go_wp2_with fail;repeat ((first|refine cZ ?_|refine cW ?_);go_wp2_with fail));refine (HP3.out _ (HE.out.grown HG11.out (fun _ e=>zL))).mono ?_;rintro e w12 ⟨⟨v3,k3,rfl,hp3⟩,hg12⟩;have HQ3:=zH hp3;obtain⟨fb3,fc3,hfa⟩:=ya2 C k3;rw[hfa];have HG12:=zH (ym HG11.out hg12);obtain⟨B3,hB3⟩:=zX w12.heap.size;obtain⟨w13,hw13⟩:∃ w',w12.alloc (.cells #[.int .i64 (k3:Int),.string fb3,.string fc3] 26)=w':=⟨_,rfl⟩;have g13:w12.grownBy w13 none:=by rw[<-hw13];exact World.grownBy_alloc w12 _ none
 have HG13:=zH (ym HG12.out g13);have HO3:=zH (show Row w13 B3 [.int .i64 (k3:Int),.string fb3,.string fc3] by rw[<-hw13,<-hB3];exact Row.new w12 _ _);have HO0:=zH (HO0.out.grown (ym (ym HM3.out hg12) g13) zi);have HO1:=zH (HO1.out.grown (ym (ym HM3.out hg12) g13) zi);have HO2:=zH (HO2.out.grown (ym (ym HM3.out hg12) g13) zi);have HW13:=zH hw13;have HBE3:=zH hB3;clear hw13 hB3 hg12 g13 hfa hp3 HP3;go_upto_region 8 with fail;rw[HW13.out,HBE3.out];clear HW13 HBE3;obtain⟨f1,f2⟩:=HFA.out _ _ _ _ _ _ _ _ HQ0.out HQ1.out HQ2.out HQ3.out;clear HQ0 HQ1 HQ2 HQ3 HFA;by_cases hz:D=Z
 ·obtain⟨rfl,rfl,rfl,rfl,rfl,rfl,rfl,rfl⟩:=f1 hz;subst hz;clear f1 f2;have o0:w13.cell? ⟨B0,0,none⟩=some (.int .i64 0):=HO0.out.cell 0;have o1:w13.cell? ⟨B1,0,none⟩=some (.int .i64 0):=HO1.out.cell 0;have o2:w13.cell? ⟨B2,0,none⟩=some (.int .i64 0):=HO2.out.cell 0;have o3:w13.cell? ⟨B3,0,none⟩=some (.int .i64 0):=HO3.out.cell 0;(go_wp2_with fail;repeat ((first|refine cZ ?_|refine cW ?_);go_wp2_with fail));refine (yfu _).mono ?_;rintro e w' ⟨rfl,rfl⟩;(go_wp2_with fail;repeat ((first|refine cZ ?_|refine cW ?_);go_wp2_with fail));refine (zb_s _).mono ?_;rintro e w' ⟨rfl,rfl⟩;(go_wp2_with fail;repeat ((first|refine cZ ?_|refine cW ?_);go_wp2_with fail));refine (yfu _).mono ?_;rintro e w' ⟨rfl,rfl⟩;(go_wp2_with fail;repeat ((first|refine cZ ?_|refine cW ?_);go_wp2_with fail));refine (yfu _).mono ?_;rintro e w' ⟨rfl,rfl⟩;(go_wp2_with fail;repeat ((first|refine cZ ?_|refine cW ?_);go_wp2_with fail));exact yl (.bool true) rfl ze zb ⟨rfl,HG13.out⟩
 ·obtain⟨rfl,rfl,rfl,rfl,rfl,rfl,rfl,rfl⟩:=f2 hz;have hz1:(D==Z)=false:=by rw[beq_eq_false_iff_ne];exact hz
  clear f1 f2;have o0:w13.cell? ⟨B0,0,none⟩=some (.int .i64 2):=HO0.out.cell 0;have o1:w13.cell? ⟨B1,0,none⟩=some (.int .i64 2):=HO1.out.cell 0;have o2:w13.cell? ⟨B2,0,none⟩=some (.int .i64 0):=HO2.out.cell 0;have o3:w13.cell? ⟨B3,0,none⟩=some (.int .i64 0):=HO3.out.cell 0;(go_wp2_with fail;repeat ((first|refine cZ ?_|refine cW ?_);go_wp2_with fail));refine (yfu _).mono ?_;rintro e w' ⟨rfl,rfl⟩;(go_wp2_with fail;repeat ((first|refine cZ ?_|refine cW ?_);go_wp2_with fail));refine (yfu _).mono ?_;rintro e w' ⟨rfl,rfl⟩;(go_wp2_with fail;repeat ((first|refine cZ ?_|refine cW ?_);go_wp2_with fail));exact yl (.bool true) rfl ze zb ⟨rfl,HG13.out⟩
end
end Go.Proofs.YtocbeoomhlgnkaaDoor
