/- Lemmas that the claim's top text leans on. No condition of their own. -/
import Derived.Test.YtnifedmhgncioaaGreatDoorJ30
import Derived.Test.YtnifedmhgncioaaGreatDoorJ31
import Derived.Test.YtnifedmhgncioaaGreatDoorJ35
namespace Go.Proofs.YtnifedmhgncioaaGreatDoor
open Go.RowKit
set_option linter.unusedSimpArgs false
set_option linter.unusedVariables false
set_option maxHeartbeats 16000000
section
attribute [local go_sem] undef
theorem ze7 {fn:Func} {p:Tmp} {ty:TypeId} (h:fn.results=#[.cell p ty]) (tmps:Array Value) (P:Program) (w:World):
  (results fn tmps).run P w=((asAddr (tmps.getD p undef)).run P w).andThen fun a w₁=>(loadVar ty a).run P w₁:=by
 simp only[results,h];simp[Sem.run_bind,Result.andThen]
theorem vj {P:Program} {fn:Func} {R:Ending->World->Prop} {n:Nat} {env:List (Nat×Value)} {s:Nat->Value} {w:World} {p:Nat} {ty:TypeId} {B:Nat} (v:Value) (hr:fn.results=#[.cell p ty]) (hp:p<n) (hpv:over env s p=.pointer (Option.some ⟨B,0,Option.none⟩))
  (hl:(loadVar ty ⟨B,0,Option.none⟩).run P w=.ok v w) (hR:R (.returned v) w):bodyPost P fn R .ret (Fr n env s) w:=by
 refine bodyPost_ret (v:=v) ?_ (vz ..) hR;rw[ze7 hr,wa n env s p hp,hpv];simp[asAddr,hl,Result.andThen]
def yfw (nm:ByteArray) (s:List UInt8) (k:Nat):List Value:=if k=0 then [.int .i64 0,.string ⟨#[]⟩,.string ⟨#[]⟩] else [.int .i64 (k:Int),.string nm,.string ⟨s.toArray⟩]
def fauZ:List Value:=[.int .i64 0,.string ⟨#[]⟩,.string ⟨#[]⟩]
theorem zsz (v:Value) (xT:TypeId) (w:World):(Instr.typeAssert (.iface 86 v) xT 86 true).run Tryz.prog w=.ok (.tuple #[v,.bool true]) w:=by kernel_rfl
set_option maxRecDepth 100000 in
theorem zos (w:World):Calls Tryz.prog 27 #[.nilIface] w fun e w'=>e=.returned (.agg fauZ.toArray)/\w.grownBy w' none:=by
 refine ye Tryz.func27 rfl (by rw[Tryz.ntmps27];simp) ?_;intro σ hσ;rw[Tryz.ntmps27];have s0:σ 0=.nilIface:=hσ 0 zi;clear hσ;obtain⟨w1,hw1⟩:=zX (w.alloc (.cells fauZ.toArray 25));have hrB:=Row.new w fauZ 25;have hgB:=World.grownBy_alloc w (.cells fauZ.toArray 25) none;rw[hw1]at hrB hgB;unfold fauZ at hw1;have HRB:=zH hrB;have HGB:=zH hgB;clear hrB hgB;obtain⟨B,hB⟩:=zX w.heap.size;rw[hB]at HRB;have k0:=HRB.out.cell 0;have k1:=HRB.out.cell 1;have k2:=HRB.out.cell 2;have t0:=HRB.out.frozen 0;have t1:=HRB.out.frozen 1;have t2:=HRB.out.frozen 2;unfold fauZ at k0 k1 k2;simp only[List.getElem?_cons_zero,List.getElem?_cons_succ]at k0 k1 k2;have HB:=zH hB;go_upto_region 1 with fail;clear hw1 hB;(go_wp2_with fail;repeat ((first|refine cZ ?_|refine cW ?_);go_wp2_with fail));obtain⟨ty,hrow⟩:=((HRB.out.setCell 0 (.int .i64 0)).setCell 1 (.string ⟨#[]⟩)).setCell 2 (.string ⟨#[]⟩);have hBw:w.heap.size<=B:=by have:=HB.out;omega
 refine vj (B:=B) (.agg fauZ.toArray) rfl ze zb ?_ ⟨rfl,yb (yb (yb HGB.out _ hBw) _ hBw) _ hBw⟩;exact run_loadVar_row (P:=Tryz.prog) _ B ty 25 _ (0,0) _ hrow Tryz.underlying25 rfl zg 
end
section
attribute [local go_sem] undef
theorem ErrNf.grown {nm:ByteArray} {w w':World} {s:List UInt8} {k N:Nat} (h:ErrNf nm w s k N) (hg:w.grownBy w' none):ErrNf nm w' s k N:=by
 obtain⟨x,h1,h2⟩:=h;exact⟨x,hg.cell h1 zi,(hg.block N (by obtain⟨hlt,-⟩:=Array.getElem?_eq_some_iff.1 h2;exact hlt) zi).trans h2⟩
theorem zbb {w:World} {N:Nat} {xs:List Value} {t:TypeId} (h:w.heap[N]?=some (.cells xs.toArray t (0,0))) (i:Nat):w.cell? ⟨N,i,none⟩=xs[i]?:=
 Row.cell (xs:=xs) ⟨t,h⟩ i
theorem is_S {nm:ByteArray} {T:Nat} {s:List UInt8} {k N:Nat} {w:World} (he:EnvP T w) (hn:ErrNf nm w s k N) (hk:k=1\/k=2):∃ a:Addr,w.cell? ⟨1,0,none⟩=some (.iface 176 (.pointer (some a)))/\
  Calls Tryz.prog 48 #[.iface 86 (.pointer (some ⟨N,0,none⟩)),.iface 176 (.pointer (some a))] w fun e w'=>e=.returned (.bool (decide (k=1)))/\w'=w:=by
 obtain⟨aS,aR,cS,cR,tS,tR,h1,h2,h3,h4,h5,h6,h7⟩:=he.errs;obtain⟨x,hx,hN⟩:=hn;have hc:=zbb (xs:=[.string nm,.string ⟨s.toArray⟩,x]) hN 2;simp only[List.getElem?_cons_zero,List.getElem?_cons_succ]at hc;refine⟨aS,h4,?_⟩;rcases hk with rfl | rfl
 ·rw[if_pos rfl,h4]at hx;cases hx;exact zdf N aS w hc
 ·rw[if_neg ze,h5]at hx;cases hx;exact zbv N aR aS cR cS tR tS w hc h3.symm h7 h6
theorem is_R {nm:ByteArray} {T:Nat} {s:List UInt8} {k N:Nat} {w:World} (he:EnvP T w) (hn:ErrNf nm w s k N) (hk:k=1\/k=2):∃ a:Addr,w.cell? ⟨2,0,none⟩=some (.iface 176 (.pointer (some a)))/\
  Calls Tryz.prog 48 #[.iface 86 (.pointer (some ⟨N,0,none⟩)),.iface 176 (.pointer (some a))] w fun e w'=>e=.returned (.bool (decide (k=2)))/\w'=w:=by
 obtain⟨aS,aR,cS,cR,tS,tR,h1,h2,h3,h4,h5,h6,h7⟩:=he.errs;obtain⟨x,hx,hN⟩:=hn;have hc:=zbb (xs:=[.string nm,.string ⟨s.toArray⟩,x]) hN 2;simp only[List.getElem?_cons_zero,List.getElem?_cons_succ]at hc;refine⟨aR,h5,?_⟩;rcases hk with rfl | rfl
 ·rw[if_pos rfl,h4]at hx;cases hx;exact zbv N aS aR cS cR tS tR w hc h3 h6 h7
 ·rw[if_neg ze,h5]at hx;cases hx;exact zdf N aR w hc
set_option maxRecDepth 100000 in
theorem zlz {nm:ByteArray} (T N:Nat) (s:List UInt8) (w:World) (he:EnvP T w) (hn:ErrNf nm w s 1 N):Calls Tryz.prog 27 #[.iface 86 (.pointer (some ⟨N,0,none⟩))] w fun e w'=>e=.returned (.agg (yfw nm s 1).toArray)/\w.grownBy w' none:=by
 refine ye Tryz.func27 rfl (by rw[Tryz.ntmps27];simp) ?_;intro σ hσ;rw[Tryz.ntmps27];have s0:σ 0=.iface 86 (.pointer (some ⟨N,0,none⟩)):=hσ 0 zi;clear hσ;have has:=zsz;obtain⟨B,hB⟩:=zX w.heap.size;obtain⟨W1,hW1⟩:=zX (w.alloc (.cells fauZ.toArray 25));have g1:w.grownBy W1 none:=zαe;have r1:Row W1 B fauZ:=zβN;obtain⟨B2,hB2⟩:=zX W1.heap.size;have hlt:B<B2:=by rw[<-hB2];exact r1.lt
 obtain⟨W2,hW2⟩:=zX (W1.alloc (.cells fauZ.toArray 25));have g2:w.grownBy W2 none:=by rw[<-hW2];exact ym g1 (World.grownBy_alloc W1 _ none)
 have r2:Row W2 B fauZ:=by rw[<-hW2];exact r1.alloc _
 have q2:Row W2 B2 fauZ:=by rw[<-hW2,<-hB2];exact Row.new W1 fauZ 25
 obtain⟨W3,hW3⟩:=zX (((W2.setCell ⟨B2,0,none⟩ (.int .i64 3)).setCell ⟨B2,1,none⟩ (.string ⟨#[]⟩)).setCell ⟨B2,2,none⟩ (.string ⟨#[]⟩));have hs1:w.heap.size<=B:=zd;have hs2:w.heap.size<=B2:=zd;have g3:w.grownBy W3 none:=zZ;have hne:B≠B2:=zd;have hne2:B2≠B:=zd;have r3:Row W3 B fauZ:=zP;have q3:Row W3 B2 [.int .i64 3,.string ⟨#[]⟩,.string ⟨#[]⟩]:=zB;obtain⟨W4,hW4⟩:=zX (W3.setCell ⟨B2,0,none⟩ (.int .i64 1));have g4:w.grownBy W4 none:=by rw[<-hW4];exact yb g3 _ hs2
 have r4:Row W4 B fauZ:=by rw[<-hW4];exact r3.setCell_other hne _
 have q4:Row W4 B2 [.int .i64 1,.string ⟨#[]⟩,.string ⟨#[]⟩]:=by rw[<-hW4];exact q3.setCell 0 (.int .i64 1)
 obtain⟨W5,hW5⟩:=zX (W4.setCell ⟨B2,1,none⟩ (.string nm));have g5:w.grownBy W5 none:=by rw[<-hW5];exact yb g4 _ hs2
 have r5:Row W5 B fauZ:=by rw[<-hW5];exact r4.setCell_other hne _
 have q5:Row W5 B2 [.int .i64 1,.string nm,.string ⟨#[]⟩]:=by rw[<-hW5];exact q4.setCell 1 (.string nm)
 obtain⟨W6,hW6⟩:=zX (W5.setCell ⟨B2,2,none⟩ (.string ⟨s.toArray⟩));have g6:w.grownBy W6 none:=by rw[<-hW6];exact yb g5 _ hs2
 have r6:Row W6 B fauZ:=by rw[<-hW6];exact r5.setCell_other hne _
 have q6:Row W6 B2 [.int .i64 1,.string nm,.string ⟨s.toArray⟩]:=by rw[<-hW6];exact q5.setCell 2 (.string ⟨s.toArray⟩)
 have hl6:(loadVar 25 ⟨B2,0,none⟩).run Tryz.prog W6=.ok (.agg #[.int .i64 1,.string nm,.string ⟨s.toArray⟩]) W6:=by
  obtain⟨ty,hrow⟩:=q6;exact run_loadVar_row (P:=Tryz.prog) _ B2 ty 25 _ (0,0) _ hrow Tryz.underlying25 rfl zg
 have n4:W4.cell? ⟨N,0,none⟩=some (.string nm):=by
  obtain⟨x,-,h⟩:=hn.grown g4;exact zbb (xs:=[.string nm,.string ⟨s.toArray⟩,x]) h 0
 have n5:W5.cell? ⟨N,1,none⟩=some (.string ⟨s.toArray⟩):=by
  obtain⟨x,-,h⟩:=hn.grown g5;exact zbb (xs:=[.string nm,.string ⟨s.toArray⟩,x]) h 1
 obtain⟨aS,hcS,hIS⟩:=is_S (he.grown g3 (fun _ e=>zL)) (hn.grown g3) ze;obtain⟨aR,hcR,hIR⟩:=is_R (he.grown g4 (fun _ e=>zL)) (hn.grown g4) ze;have HIS:=zH hIS;have HIR:=zH hIR;have G6:=zH g6;have R6:=zH r6;have HS1:=zH hs1;have HN:=zH hne;have k0:=q2.cell 0;have k1:=q2.cell 1;have k2:=q2.cell 2;have t0:=q2.frozen 0;have t1:=q2.frozen 1;have t2:=q2.frozen 2;have c3:=q3.cell 0;have f3:=q3.frozen 0;have c4:=q4.cell 1;have f4:=q4.frozen 1;have c5:=q5.cell 2;have f5:=q5.frozen 2;have d0:=q6.cell 0;have d1:=q6.cell 1;have d2:=q6.cell 2;have j0:=r6.cell 0;have j1:=r6.cell 1;have j2:=r6.cell 2;have u0:=r6.frozen 0;have u1:=r6.frozen 1;have u2:=r6.frozen 2;unfold fauZ at k0 k1 k2 j0 j1 j2 hW1 hW2;simp only[List.getElem?_cons_zero,List.getElem?_cons_succ]at k0 k1 k2 c3 c4 c5 d0 d1 d2 j0 j1 j2;clear he hn g1 g2 g3 g4 g5 g6 r1 r2 r3 r4 r5 r6 q2 q3 q4 q5 q6 hIS hIR hs1 hs2 hne hne2 hlt;(go_wp2_with fail;repeat ((first|refine cZ ?_|refine cW ?_);go_wp2_with fail));refine HIS.out.mono ?_;rintro e w9 ⟨rfl,hw9⟩;subst w9;(go_wp2_with fail;repeat ((first|refine cZ ?_|refine cW ?_);go_wp2_with fail));refine HIR.out.mono ?_;rintro e w9 ⟨rfl,hw9⟩;subst w9;(go_wp2_with fail;repeat ((first|refine cZ ?_|refine cW ?_);go_wp2_with fail));obtain⟨ty,hrow⟩:=((R6.out.setCell 0 (.int .i64 1)).setCell 1 (.string nm)).setCell 2 (.string ⟨s.toArray⟩);refine vj (B:=B) (.agg (yfw nm s 1).toArray) rfl ze zb ?_ ⟨rfl,yb (yb (yb G6.out _ HS1.out) _ HS1.out) _ HS1.out⟩;exact run_loadVar_row (P:=Tryz.prog) _ B ty 25 _ (0,0) _ hrow Tryz.underlying25 rfl zg
set_option maxRecDepth 100000 in
theorem zly {nm:ByteArray} (T N:Nat) (s:List UInt8) (w:World) (he:EnvP T w) (hn:ErrNf nm w s 2 N):Calls Tryz.prog 27 #[.iface 86 (.pointer (some ⟨N,0,none⟩))] w fun e w'=>e=.returned (.agg (yfw nm s 2).toArray)/\w.grownBy w' none:=by
 refine ye Tryz.func27 rfl (by rw[Tryz.ntmps27];simp) ?_;intro σ hσ;rw[Tryz.ntmps27];have s0:σ 0=.iface 86 (.pointer (some ⟨N,0,none⟩)):=hσ 0 zi;clear hσ;have has:=zsz;obtain⟨B,hB⟩:=zX w.heap.size;obtain⟨W1,hW1⟩:=zX (w.alloc (.cells fauZ.toArray 25));have g1:w.grownBy W1 none:=zαe;have r1:Row W1 B fauZ:=zβN;obtain⟨B2,hB2⟩:=zX W1.heap.size;have hlt:B<B2:=by rw[<-hB2];exact r1.lt
 obtain⟨W2,hW2⟩:=zX (W1.alloc (.cells fauZ.toArray 25));have g2:w.grownBy W2 none:=by rw[<-hW2];exact ym g1 (World.grownBy_alloc W1 _ none)
 have r2:Row W2 B fauZ:=by rw[<-hW2];exact r1.alloc _
 have q2:Row W2 B2 fauZ:=by rw[<-hW2,<-hB2];exact Row.new W1 fauZ 25
 obtain⟨W3,hW3⟩:=zX (((W2.setCell ⟨B2,0,none⟩ (.int .i64 3)).setCell ⟨B2,1,none⟩ (.string ⟨#[]⟩)).setCell ⟨B2,2,none⟩ (.string ⟨#[]⟩));have hs1:w.heap.size<=B:=zd;have hs2:w.heap.size<=B2:=zd;have g3:w.grownBy W3 none:=zZ;have hne:B≠B2:=zd;have hne2:B2≠B:=zd;have r3:Row W3 B fauZ:=zP;have q3:Row W3 B2 [.int .i64 3,.string ⟨#[]⟩,.string ⟨#[]⟩]:=zB;obtain⟨W4,hW4⟩:=zX (W3.setCell ⟨B2,0,none⟩ (.int .i64 2));have g4:w.grownBy W4 none:=by rw[<-hW4];exact yb g3 _ hs2
 have r4:Row W4 B fauZ:=by rw[<-hW4];exact r3.setCell_other hne _
 have q4:Row W4 B2 [.int .i64 2,.string ⟨#[]⟩,.string ⟨#[]⟩]:=by rw[<-hW4];exact q3.setCell 0 (.int .i64 2)
 obtain⟨W5,hW5⟩:=zX (W4.setCell ⟨B2,1,none⟩ (.string nm));have g5:w.grownBy W5 none:=by rw[<-hW5];exact yb g4 _ hs2
 have r5:Row W5 B fauZ:=by rw[<-hW5];exact r4.setCell_other hne _
 have q5:Row W5 B2 [.int .i64 2,.string nm,.string ⟨#[]⟩]:=by rw[<-hW5];exact q4.setCell 1 (.string nm)
 obtain⟨W6,hW6⟩:=zX (W5.setCell ⟨B2,2,none⟩ (.string ⟨s.toArray⟩));have g6:w.grownBy W6 none:=by rw[<-hW6];exact yb g5 _ hs2
 have r6:Row W6 B fauZ:=by rw[<-hW6];exact r5.setCell_other hne _
 have q6:Row W6 B2 [.int .i64 2,.string nm,.string ⟨s.toArray⟩]:=by rw[<-hW6];exact q5.setCell 2 (.string ⟨s.toArray⟩)
 have hl6:(loadVar 25 ⟨B2,0,none⟩).run Tryz.prog W6=.ok (.agg #[.int .i64 2,.string nm,.string ⟨s.toArray⟩]) W6:=by
  obtain⟨ty,hrow⟩:=q6;exact run_loadVar_row (P:=Tryz.prog) _ B2 ty 25 _ (0,0) _ hrow Tryz.underlying25 rfl zg
 have n4:W4.cell? ⟨N,0,none⟩=some (.string nm):=by
  obtain⟨x,-,h⟩:=hn.grown g4;exact zbb (xs:=[.string nm,.string ⟨s.toArray⟩,x]) h 0
 have n5:W5.cell? ⟨N,1,none⟩=some (.string ⟨s.toArray⟩):=by
  obtain⟨x,-,h⟩:=hn.grown g5;exact zbb (xs:=[.string nm,.string ⟨s.toArray⟩,x]) h 1
 obtain⟨aS,hcS,hIS⟩:=is_S (he.grown g3 (fun _ e=>zL)) (hn.grown g3) ze;obtain⟨aR,hcR,hIR⟩:=is_R (he.grown g3 (fun _ e=>zL)) (hn.grown g3) ze;have HIS:=zH hIS;have HIR:=zH hIR;have G6:=zH g6;have R6:=zH r6;have HS1:=zH hs1;have HN:=zH hne;have k0:=q2.cell 0;have k1:=q2.cell 1;have k2:=q2.cell 2;have t0:=q2.frozen 0;have t1:=q2.frozen 1;have t2:=q2.frozen 2;have c3:=q3.cell 0;have f3:=q3.frozen 0;have c4:=q4.cell 1;have f4:=q4.frozen 1;have c5:=q5.cell 2;have f5:=q5.frozen 2;have d0:=q6.cell 0;have d1:=q6.cell 1;have d2:=q6.cell 2;have j0:=r6.cell 0;have j1:=r6.cell 1;have j2:=r6.cell 2;have u0:=r6.frozen 0;have u1:=r6.frozen 1;have u2:=r6.frozen 2;unfold fauZ at k0 k1 k2 j0 j1 j2 hW1 hW2;simp only[List.getElem?_cons_zero,List.getElem?_cons_succ]at k0 k1 k2 c3 c4 c5 d0 d1 d2 j0 j1 j2;clear he hn g1 g2 g3 g4 g5 g6 r1 r2 r3 r4 r5 r6 q2 q3 q4 q5 q6 hIS hIR hs1 hs2 hne hne2 hlt;(go_wp2_with fail;repeat ((first|refine cZ ?_|refine cW ?_);go_wp2_with fail));refine HIS.out.mono ?_;rintro e w9 ⟨rfl,hw9⟩;subst w9;(go_wp2_with fail;repeat ((first|refine cZ ?_|refine cW ?_);go_wp2_with fail));refine HIR.out.mono ?_;rintro e w9 ⟨rfl,hw9⟩;subst w9;(go_wp2_with fail;repeat ((first|refine cZ ?_|refine cW ?_);go_wp2_with fail));obtain⟨ty,hrow⟩:=((R6.out.setCell 0 (.int .i64 2)).setCell 1 (.string nm)).setCell 2 (.string ⟨s.toArray⟩);refine vj (B:=B) (.agg (yfw nm s 2).toArray) rfl ze zb ?_ ⟨rfl,yb (yb (yb G6.out _ HS1.out) _ HS1.out) _ HS1.out⟩;exact run_loadVar_row (P:=Tryz.prog) _ B ty 25 _ (0,0) _ hrow Tryz.underlying25 rfl zg
theorem yfv {nm:ByteArray} (T:Nat) (s:List UInt8) (k:Nat) (ev:Value) (w:World) (he:EnvP T w) (hq:yfx nm w s k ev):
  Calls Tryz.prog 27 #[ev] w fun e w'=>e=.returned (.agg (yfw nm s k).toArray)/\w.grownBy w' none:=by
 rcases hq with⟨rfl,rfl⟩ | ⟨hk,N,rfl,hn⟩
 ·exact zos w
 ·rcases hk with rfl | rfl
  ·exact zlz T N s w he hn
  ·exact zly T N s w he hn
end
section
attribute [local go_sem] undef
theorem zot (b:Nat) (hb:b<18446744073709551616) (w:World):(callFunc 26 #[.float .f64 b]).run Tryz.prog w=.ok (.value (.int .u64 (b:Int))) w:=by kernel_rfl
end
theorem zyg {v r:Nat} (h:yak v r) (hn:¬zxp v):r=zyo v:=by
 rcases h with⟨h,-⟩ | ⟨h1,-,-,h4⟩
 ·exact absurd h hn
 ·unfold zyo;by_cases hf:v%2147483648<2139095040
  ·rw[if_pos hf];rw[yaf v h1 hf]at h4;exact (Option.some.inj h4).symm
  ·have h5:¬2139095040<v%2147483648:=fun h=>hn ⟨h1,h⟩
   have h6:v=2139095040\/v=4286578688:=zd;rw[if_neg hf];rcases h6 with rfl | rfl
   ·have:floatToFloatBits .f32 2139095040 .f64=some 9218868437227405312:=zp;rw[this]at h4;exact (Option.some.inj h4).symm
   ·have:floatToFloatBits .f32 4286578688 .f64=some 18442240474082181120:=zp;rw[this]at h4;exact (Option.some.inj h4).symm
theorem zzf (v:Nat) (hv:v<4294967296):zyo v<18446744073709551616:=by
 unfold zyo;by_cases hf:v%2147483648<2139095040
 ·rw[if_pos hf];exact (zxi v hv hf).1
 ·rw[if_neg hf];unfold sgW zs5;split <;> split <;> omega
def RdNum (s:List UInt8) (neg:Bool) (a b:Nat):Prop:=b≠0/\∃ t,ul s=some t/\t.kind=0/\t.neg=neg/\∀ (F:Nat) (bias:Int) (inf:Nat),1<=bias->bias<=1023->1<=F->bias+F<=1075->spB F bias inf t=xh F bias inf a b
theorem RdNum.cross {s:List UInt8} {n:Bool} {a b c d:Nat} (h:RdNum s n a b) (hd:d≠0) (hx:a*d=c*b):RdNum s n c d:=by
 obtain⟨hb,t,h1,h2,h3,h4⟩:=h;exact⟨hd,t,h1,h2,h3,fun F bias inf b1 b2 f1 f2=>(h4 F bias inf b1 b2 f1 f2).trans (ue F bias inf hb hd hx)⟩
theorem RdNum.paw {s:List UInt8} {n:Bool} {a b v k:Nat} (h:RdNum s n a b) (hp:yxs s v k):v=zyo (sgC n+zxq a b)/\k=if zxq a b=2139095040 then 2 else 0:=by
 obtain⟨hb,t,h1,h2,h3,h4⟩:=h;obtain⟨u,hp,hw⟩:=hp;unfold PaQ32 at hp;rw[h1]at hp;obtain⟨e1,e2⟩:=hp.2.2 h2;rw[h4 23 127 2139095040 ze ze ze ze]at e1 e2;rw[h3]at e1;have hle:=ud 23 127 2139095040 a b hb ze ze;have e3:u=sgC n+zxq a b:=e1;refine⟨?_,e2⟩;rw[<-e3];refine zyg hw ?_;rintro⟨-,h⟩;have:zxq a b<=2139095040:=hle;cases n
 ·rw[show sgC false=0 from rfl]at e3;omega
 ·rw[show sgC true=2147483648 from rfl]at e3;omega
theorem ybl {s:List UInt8} {x:Bool×Nat×Nat} (h:zjy s=some x):∃ t,ul s=some t/\t.kind=0:=by
 unfold zjy at h;cases hr:ul s with
 | none=>rw[hr]at h;cases h
 | some t=>
  rw[hr]at h;dsimp only at h;by_cases hk:t.kind=0
  ·exact⟨t,rfl,hk⟩
  ·rw[if_pos hk]at h;cases h
theorem ybe {s:List UInt8} {ng:Bool} {n d:Nat} (h:zjy s=some (ng,n,d)):RdNum s ng n d:=by
 obtain⟨t,hr,hk⟩:=ybl h;have hok:=(ze9 hr).2 hk;unfold zjy at h;rw[hr]at h;dsimp only at h;rw[if_neg (by rw[hk];decide)]at h;by_cases h0:t.digits=[]
 ·rw[if_pos h0]at h;cases h;refine⟨ze,t,hr,hk,rfl,fun F bias inf b1 b2 f1 f2=>?_⟩;rw[zai F bias inf 1 ze b1 f1];unfold spB spN;rw[if_pos (by unfold zq0;rw[if_pos h0])]
 ·rw[if_neg h0]at h;by_cases ho:zb8 t.base t.digits t.exp=0
  ·rw[if_neg (by rw[ho];decide)]at h;cases h;refine⟨qg _ (by rcases hok.1 with e | e <;> rw[e] <;> decide),t,hr,hk,rfl,fun F bias inf b1 b2 f1 f2=>?_⟩;have hop:zq0 t.base t.digits t.exp=0:=ho;unfold spB spN;rw[hop,if_neg ze,if_neg ze];rfl
  ·rw[if_pos ho]at h;cases h
theorem ypk {s:List UInt8} {ng:Bool} {V:Nat} {x:Int} (h:zjy s=some (rdV ng V x)):RdNum s ng (V*10^x.toNat) (10^(-x).toNat):=by
 unfold rdV at h;by_cases h0:V=0
 ·rw[if_pos h0]at h;exact (ybe h).cross (qg _ ze) (by rw[h0,Nat.zero_mul,Nat.zero_mul,Nat.zero_mul])
 ·rw[if_neg h0]at h;exact ybe h
theorem RdNum.shiftk {s:List UInt8} {n:Bool} {V:Nat} {E:Int} (k j:Nat) (h:RdNum s n (V*10^k*10^(E-(k:Int)).toNat) (10^(-(E-(k:Int))).toNat)):RdNum s n (V*10^j*10^(E-(j:Int)).toNat) (10^(-(E-(j:Int))).toNat):=
 h.cross (qg _ ze) (yet V E k j)
theorem ynh (d:Nat) (h0:d≠0):∃ j:Nat,zd5 (yko d)*10^j=d/\(yi d:Int)=(yko d).length+j:=by
 have h1:=zk3 (digs d (yi d)) d h0 zβL;have:yko d=digs (zga d) (yi (zga d)):=by unfold yko;rw[h1.1];exact h1.2
 rw[this,zhi,va,Nat.mod_eq_of_lt (xi (zga d))];have h2:=znx d h0;exact⟨tz d,(zar d h0).1,zd⟩
theorem ys3 (neg:Bool) (ds:List UInt8) (dp prg:Int) (hl:ds.length<=20) (hd1:-390<=dp) (hg:prg=ds.length\/(ds=[]/\dp=0/\prg<=20)):
  (∃ pr:Int,ylb neg 103 ⟨ds,dp,prg,true⟩=ymm neg ds dp pr 101/\(ds.length:Int)-1<=pr/\pr<=30)\/(∃ pr:Int,ylb neg 103 ⟨ds,dp,prg,true⟩=yn1 neg ds dp pr/\(ds.length:Int)-dp<=max pr 0/\pr<=max (20-dp) 0):=by
 have hn0:ds=[]->ds.length=0:=fun h=>by rw[h];rfl
 unfold ylb ykz;dsimp only;rw[if_pos (Or.inl rfl)];by_cases hc:dp-1 < -4\/gEp dp ds.length prg true<=dp-1
 ·rw[if_pos hc];dsimp only;left;unfold ymh;refine⟨_,by rw[if_pos zd];rfl,?_,?_⟩
  ·unfold gEp at hc;rcases hg with h | ⟨h,h1,h2⟩
   ·split <;> omega
   ·rw[if_pos rfl]at hc;omega
  ·rcases hg with h | ⟨h,h1,h2⟩ <;> split <;> omega
 ·rw[if_neg hc];dsimp only;right;unfold ymh;refine⟨_,by rw[if_neg zd,if_pos rfl],?_,?_⟩
  ·rcases hg with h | ⟨h,h1,h2⟩
   ·split <;> omega
   ·have:=hn0 h;split <;> omega
  ·rcases hg with h | ⟨h,h1,h2⟩ <;> split <;> omega
theorem yn7 (eb mb:Nat) (bias:Int) (Z:Nat) (ME:Int) (b:Nat) (hE:flE eb mb b≠2^eb-1) (hz:Kd Z ME mb (zen eb mb b) (zor eb mb bias b)) (f:Int) (hf:f=101\/f=102\/f=103):
  ∃ ds dp,(∃ k:Nat,zjy (yj5 eb mb bias Z ME b f (-1))=some (rdV (yta eb mb b) (zd5 ds*10^k) (dxv ds dp-(k:Int))))/\(yj5 eb mb bias Z ME b f (-1)).length<=395/\
   ((zen eb mb b=0/\ds=[])\/(zen eb mb b≠0/\ds=yko (kg Z ME (zen eb mb b*2^shS (zen eb mb b)) (zor eb mb bias b-(mb:Nat)-(shS (zen eb mb b):Nat))).1/\
    dp=yi (kg Z ME (zen eb mb b*2^shS (zen eb mb b)) (zor eb mb bias b-(mb:Nat)-(shS (zen eb mb b):Nat))).1+(kg Z ME (zen eb mb b*2^shS (zen eb mb b)) (zor eb mb bias b-(mb:Nat)-(shS (zen eb mb b):Nat))).2)):=by
 obtain⟨ds,dp,hok,hl,hdp1,hdp2,hp⟩:=yms Z ME mb (zen eb mb b) (zor eb mb bias b) hz;refine⟨ds,dp,?_⟩;have hds:(zen eb mb b=0/\ds=[])\/(zen eb mb b≠0/\ds=yko (kg Z ME (zen eb mb b*2^shS (zen eb mb b)) (zor eb mb bias b-(mb:Nat)-(shS (zen eb mb b):Nat))).1/\
    dp=yi (kg Z ME (zen eb mb b*2^shS (zen eb mb b)) (zor eb mb bias b-(mb:Nat)-(shS (zen eb mb b):Nat))).1+(kg Z ME (zen eb mb b*2^shS (zen eb mb b)) (zor eb mb bias b-(mb:Nat)-(shS (zen eb mb b):Nat))).2):=by
  obtain⟨pe,hpe,-⟩:=hp 101 zd;unfold ykq at hpe;by_cases h0:zen eb mb b=0
  ·rw[if_pos h0]at hpe;injection hpe with q1 q2 q3 q4;exact Or.inl ⟨h0,q1.symm⟩
  ·rw[if_neg h0,if_pos ze]at hpe;unfold ykg at hpe;dsimp only at hpe;injection hpe with q1 q2 q3 q4;exact Or.inr ⟨h0,q1.symm,q2.symm⟩
 have hdpb:-350<=dp/\dp<=350:=by
  rcases hds with⟨h0,-⟩ | ⟨h0,-,hdp⟩
  ·obtain⟨pe,hpe,-⟩:=hp 101 zd;unfold ykq at hpe;rw[if_pos h0]at hpe;injection hpe with q1 q2 q3 q4;omega
  ·have hm53:zen eb mb b<2^53:=zβH;obtain⟨hb1,hb2,hb3,hb4⟩:=zdq (zen eb mb b) zd h0;have hS:11<=shS (zen eb mb b)/\shS (zen eb mb b)<=63/\(Z=40->40<=shS (zen eb mb b)):=by
    have:=Lib.bitLen_le (zen eb mb b) 53 zd hm53;refine⟨zγb,zγb,fun h=>?_⟩;have h2:=Lib.bitLen_le (zen eb mb b) 24 zd zβH;unfold shS;omega
   have hmm:zen eb mb b*2^shS (zen eb mb b)<18446744073709551616:=by
    rw[show (18446744073709551616:Nat)=2^Lib.bitLen (zen eb mb b)*2^shS (zen eb mb b) by rw[<-Nat.pow_add,show Lib.bitLen (zen eb mb b)+shS (zen eb mb b)=64 by unfold shS;omega]];exact Nat.mul_lt_mul_of_pos_right hb3 (Nat.pow_pos zd)
   have hz2:Z=11/\ME=-1085/\-1137<=zor eb mb bias b-mb-shS (zen eb mb b)/\zor eb mb bias b-mb-shS (zen eb mb b)<=960\/Z=40/\ME=-189/\-212<=zor eb mb bias b-mb-shS (zen eb mb b)/\zor eb mb bias b-mb-shS (zen eb mb b)<=64:=by
    rcases hz with⟨a,b,c,d,e,_⟩ | ⟨a,b,c,d,e,_⟩
    ·exact Or.inl ⟨a,b,zd,zd⟩
    ·exact Or.inr ⟨a,b,by have:=hS.2.2 a;omega,by have:=hS.2.2 a;omega⟩
   have h1:=ylm Z ME _ _ hz2 hmm;have h2:=ymr Z ME (zen eb mb b*2^shS (zen eb mb b)) _ hz2;have h5:=yks _ h1.1;omega
 have hT:yj5 eb mb bias Z ME b f (-1)=ylb (yta eb mb b) f (ykq Z ME mb (zen eb mb b) (zor eb mb bias b) (-1) f):=by
  unfold yj5;rw[if_neg hE,if_neg zd,if_neg zd]
 rw[hT];obtain⟨pr,hpk,h1,h2,h3⟩:=hp f hf;rw[hpk];have hx:f=102->pr<=max (20-dp) 0:=by
  rintro rfl;have hq:=hpk;unfold ykq at hq;by_cases h0:zen eb mb b=0
  ·rw[if_pos h0]at hq;injection hq with q1 q2 q3 q4;omega
  ·rw[if_neg h0,if_pos ze]at hq;unfold ykg at hq;dsimp only at hq;injection hq with q1 q2 q3 q4;rw[<-q3,q1,q2];unfold yj9;rw[if_neg ze,if_pos rfl];omega
 have hx3:f=103->pr=ds.length\/(ds=[]/\dp=0/\pr<=20):=by
  rintro rfl;rcases h3 rfl with h | ⟨g1,g2⟩
  ·exact Or.inl h
  ·refine Or.inr ⟨g1,g2,?_⟩;have hq:=hpk;unfold ykq at hq;by_cases h0:zen eb mb b=0
   ·rw[if_pos h0]at hq;injection hq with q1 q2 q3 q4;omega
   ·rw[if_neg h0,if_pos ze]at hq;unfold ykg at hq;dsimp only at hq;injection hq with q1 q2 q3 q4;rw[<-q3,q1,g1];unfold yj9;rw[if_neg ze,if_neg ze,if_pos (Or.inl rfl)];decide
 have finE:∀ pr:Int,(ds.length:Int)-1<=pr->pr<=30->(∃ k:Nat,zjy (ymm (yta eb mb b) ds dp pr 101)=some (rdV (yta eb mb b) (zd5 ds*10^k) (dxv ds dp-(k:Int))))/\(ymm (yta eb mb b) ds dp pr 101).length<=395:=by
  intro pr a1 a2;obtain⟨k,-,r⟩:=ypl (yta eb mb b) ds dp pr hok.dig a1 hdp1 hdp2 hok.lead zd zd;have l:=yng (yta eb mb b) ds dp pr 101;exact⟨⟨k,r⟩,zd⟩
 have finF:∀ pr:Int,(ds.length:Int)-dp<=max pr 0->pr<=max (20-dp) 0->(∃ k:Nat,zjy (yn1 (yta eb mb b) ds dp pr)=some (rdV (yta eb mb b) (zd5 ds*10^k) (dxv ds dp-(k:Int))))/\(yn1 (yta eb mb b) ds dp pr).length<=395:=by
  intro pr a1 a2;obtain⟨k,-,r⟩:=ysx (yta eb mb b) ds dp pr hok.dig a1 hdp1 hdp2 hok.lead;have l:=yra (yta eb mb b) ds dp pr (ykv hok.dig) a1;exact⟨⟨k,r⟩,zd⟩
 rcases hf with rfl | rfl | rfl
 ·obtain⟨a1,a2⟩:=h1 rfl;obtain⟨g1,g2⟩:=finE pr a1 zd;exact⟨g1,g2,hds⟩
 ·obtain⟨a1,-⟩:=h2 rfl;obtain⟨g1,g2⟩:=finF pr a1 (hx rfl);exact⟨g1,g2,hds⟩
 ·rcases ys3 (yta eb mb b) ds dp pr hl hdp1 (hx3 rfl) with⟨pr',e,a1,a2⟩ | ⟨pr',e,a1,a2⟩
  ·rw[e];obtain⟨g1,g2⟩:=finE pr' a1 a2;exact⟨g1,g2,hds⟩
  ·rw[e];obtain⟨g1,g2⟩:=finF pr' a1 a2;exact⟨g1,g2,hds⟩
theorem yqm (eb mb:Nat) (bias:Int) (Z:Nat) (ME:Int) (b:Nat) (B:Int) (inf:Nat) (hE:flE eb mb b≠2^eb-1) (hz:Kd Z ME mb (zen eb mb b) (zor eb mb bias b)) (hn:2^mb<=zen eb mb b\/zor eb mb bias b-(mb:Nat)=ME+Z) (hB:B=1-(ME+Z)-mb) (hinf:inf=(2*B+1).toNat*2^mb) (f:Int) (hf:f=101\/f=102\/f=103):
  (yj5 eb mb bias Z ME b f (-1)).length<=395/\∃ N D,RdNum (yj5 eb mb bias Z ME b f (-1)) (yta eb mb b) N D/\(zen eb mb b=0->N=0)/\(zen eb mb b≠0->xh (mb:Nat) B inf N D=(zor eb mb bias b-(mb:Nat)-(ME+Z)).toNat*2^mb+zen eb mb b):=by
 obtain⟨ds,dp,⟨k,hr⟩,hl,hd⟩:=yn7 eb mb bias Z ME b hE hz f hf;refine⟨hl,?_⟩;have h1:=ypk hr;rcases hd with⟨h0,rfl⟩ | ⟨h0,hds,hdp⟩
 ·refine⟨_,_,h1,fun _=>?_,fun h=>absurd h0 h⟩;rw[show zd5 []=0 from rfl,Nat.zero_mul,Nat.zero_mul]
 ·obtain⟨r1,r2⟩:=ym1 Z ME mb (zen eb mb b) (zor eb mb bias b) B inf hz hn h0 hB hinf;generalize kg Z ME (zen eb mb b*2^shS (zen eb mb b)) (zor eb mb bias b-(mb:Nat)-(shS (zen eb mb b):Nat))=r at *
  obtain⟨j,j1,j2⟩:=ynh r.1 r1;have h2:=h1.shiftk k j;rw[hds,j1]at h2;have e:dxv (yko r.1) dp-(j:Int)=r.2:=by unfold dxv;omega
  rw[e]at h2;exact⟨_,_,h2,fun h=>absurd h h0,fun _=>r2⟩
def hval (l:List UInt8):Nat:=l.foldl (fun n c=>n*16+(dig 16 c).getD 0) 0
theorem yd6 {s s':List UInt8} (h:xf s=xf s'):ul s=ul s':=by unfold ul;rw[h]
theorem RdNum.low {s s':List UInt8} {n:Bool} {a b:Nat} (h:RdNum s n a b) (e:xf s'=xf s):RdNum s' n a b:=by
 obtain⟨hb,t,h1,h2⟩:=h;exact⟨hb,t,by rw[yd6 e];exact h1,h2⟩
theorem yqv (f:Nat) (F bias:Int) (inf a b s:Nat) (E:Int) (hF:F=f) (hb:b≠0) (hE:1-bias-F<=E) (hEb:E<=bias-F) (hs0:s≠0) (hs:s<2^(f+1)) (hn:E=1-bias-F\/2^f<=s) (hinf:inf=(2*bias+1).toNat*2^f) (hbias:1<=bias) (hf:1<=f)
  (h:a*2^(-E).toNat=s*2^E.toNat*b):xh F bias inf a b=(E-(1-bias-F)).toNat*2^f+s:=by
 have ha:a≠0:=by
  rintro rfl;rw[Nat.zero_mul]at h;exact Nat.mul_ne_zero (Nat.mul_ne_zero hs0 (Nat.ne_of_gt (p2 _))) hb h.symm
 rw[zz3 f F bias inf a b s E hF hb ha hE hEb hs hn hinf hbias hf];have e:a*2^(-E).toNat=s*(b*2^E.toNat):=by rw[h];ac_rfl
 have hY:0<b*2^E.toNat:=Nat.mul_pos zd (p2 _);unfold inI;rw[e];generalize s*(b*2^E.toNat)=Q at *
 generalize b*2^E.toNat=Y at *
 refine⟨?_,zd,fun _=>⟨zd,zd⟩⟩;split <;> omega
def okF (f:Int):Prop:=f=101\/f=69\/f=102\/f=103\/f=71\/f=120\/f=88
theorem ys0 (c:UInt8):vb (upB c)=vb c:=by
 have:∀ n:Fin 256,vb (upB (UInt8.ofNat n.val))=vb (UInt8.ofNat n.val):=zp;have:=this ⟨c.toNat,c.toNat_lt⟩;simp only[UInt8.ofNat_toNat]at this;exact this
theorem yr8 (l:List UInt8):xf (upL l)=xf l:=by
 unfold xf upL;rw[List.map_map];exact List.map_congr_left (fun c _=>ys0 c)
theorem ypv (m:Nat) (e:Int) (hm:m<2^53) (he1:-2000<=e) (he2:e<=2000):(yma false m e (-1)).length<=200:=by
 have hpt:∀ l:List UInt8,(ptL l).length<=l.length+1:=fun l=>by unfold ptL;split <;> simp;omega
 have hex:∀ (lt:UInt8) (x:Int),-9999<=x->x<=9999->(ys5 lt x false).length<=100:=fun lt x h1 h2=>by
  rw[yk5 lt x h1 h2,List.length_cons];unfold xExp;rw[List.length_cons];split
  ·simp
  ·split <;> simp
 unfold yma;rw[List.length_append];by_cases h0:m=0
 ·rw[if_pos h0,List.length_append];have h1:=hpt (48::List.replicate (-1:Int).toNat 48);have h2:=hex (if false then 80 else 112) 0 zd zd;have h3:(48::List.replicate (-1:Int).toNat (48:UInt8)).length=1:=rfl;rw[h3]at h1;simp only[List.length_cons,List.length_nil]at *
  omega
 ·rw[if_neg h0,List.length_append];have hl:m.log2<53:=(Nat.log2_lt h0).2 hm;have hc:ykj m (-1)<=14:=by unfold ykj;rw[if_pos zd];omega
  have h1:=hpt (hxT false (hxF m (ykj m (-1))) (ykj m (-1)+1));rw[yoa]at h1;have h3:hxE m (ykj m (-1))<=1:=by unfold hxE;split <;> omega
  have h2:=hex (if false then 80 else 112) (e+m.log2+hxE m (ykj m (-1))) zd zd;simp only[List.length_cons,List.length_nil]at *
  omega
theorem ytx (eb mb:Nat) (bias:Int) (Z:Nat) (ME:Int) (b:Nat) (B:Int) (inf:Nat) (hE:flE eb mb b≠2^eb-1) (hz:Kd Z ME mb (zen eb mb b) (zor eb mb bias b)) (hn:2^mb<=zen eb mb b\/zor eb mb bias b-(mb:Nat)=ME+Z) (hB:B=1-(ME+Z)-mb) (hinf:inf=(2*B+1).toNat*2^mb)
  (hup:∀ f F:Int,(f=101/\F=69\/f=103/\F=71\/f=120/\F=88)->yj5 eb mb bias Z ME b F (-1)=upL (yj5 eb mb bias Z ME b f (-1))) (f:Int) (hf:okF f):
  (yj5 eb mb bias Z ME b f (-1)).length<=395/\∃ N D,RdNum (yj5 eb mb bias Z ME b f (-1)) (yta eb mb b) N D/\xh (mb:Nat) B inf N D=(zor eb mb bias b-(mb:Nat)-(ME+Z)).toNat*2^mb+zen eb mb b:=by
 have hB1:1<=B:=zβH;have hmb:1<=mb/\mb<=52:=zβH;have hx1:ME+Z<=zor eb mb bias b-(mb:Nat)/\zor eb mb bias b-(mb:Nat)<=B-mb/\-1074<=ME+Z/\B-mb<=971:=zβH;have hm:zen eb mb b<2^(mb+1):=by
  rcases hz with⟨_,_,h,_,_,h2⟩ | ⟨_,_,h,_,_,h2⟩
  ·rw[show mb+1=53 by omega];exact h2
  ·rw[show mb+1=24 by omega];exact h2
 have hm53:zen eb mb b<2^53:=Nat.lt_of_lt_of_le hm (Nat.pow_le_pow_right ze zd);have h0:zen eb mb b=0->(zor eb mb bias b-(mb:Nat)-(ME+Z)).toNat*2^mb+zen eb mb b=0:=by
  intro h;have h2:zor eb mb bias b-(mb:Nat)-(ME+Z)=0:=by
   rcases hn with h3 | h3
   ·have:=Nat.pow_pos (n:=mb) (show 0<2 by decide);omega
   ·omega
  rw[h,h2];simp
 have efg:∀ f:Int,(f=101\/f=102\/f=103)->(yj5 eb mb bias Z ME b f (-1)).length<=395/\∃ N D,RdNum (yj5 eb mb bias Z ME b f (-1)) (yta eb mb b) N D/\xh (mb:Nat) B inf N D=(zor eb mb bias b-(mb:Nat)-(ME+Z)).toNat*2^mb+zen eb mb b:=by
  intro f hf;obtain⟨h1,N,D,h2,h3,h4⟩:=yqm eb mb bias Z ME b B inf hE hz hn hB hinf f hf;refine⟨h1,N,D,h2,?_⟩;by_cases hz0:zen eb mb b=0
  ·rw[h0 hz0,h3 hz0];exact zai mb B inf D h2.1 hB1 hmb.1
  ·exact h4 hz0
 have hx:(yj5 eb mb bias Z ME b 120 (-1)).length<=395/\∃ N D,RdNum (yj5 eb mb bias Z ME b 120 (-1)) (yta eb mb b) N D/\xh (mb:Nat) B inf N D=(zor eb mb bias b-(mb:Nat)-(ME+Z)).toNat*2^mb+zen eb mb b:=by
  have hT:yj5 eb mb bias Z ME b 120 (-1)=eSign (yta eb mb b)++yma false (zen eb mb b) (zor eb mb bias b-(mb:Nat)) (-1):=by
   unfold yj5;rw[if_neg hE,if_neg ze,if_pos ze];exact yqi _ (-1) 120 _ mb _ (Or.inl rfl) ze hmb.2 hm zd zd
  rw[hT];have hl:=ypv (zen eb mb b) (zor eb mb bias b-(mb:Nat)) hm53 zd zd;have hs:=yk6 (yta eb mb b);refine⟨by rw[List.length_append];omega,?_⟩;obtain⟨n,d,h1,h2,h3,-,-⟩:=ysw (yta eb mb b) (zen eb mb b) (zor eb mb bias b-(mb:Nat)) hm53 zd zd;have hr:=ybe h1;refine⟨n,d,hr,?_⟩;by_cases hz0:zen eb mb b=0
  ·rw[h0 hz0,h3.2 hz0];exact zai mb B inf d hr.1 hB1 hmb.1
  ·have hL:1-B-((mb:Nat):Int)=ME+Z:=zd;have:=yqv mb (mb:Nat) B inf n d (zen eb mb b) (zor eb mb bias b-(mb:Nat)) rfl hr.1 zd hx1.2.1 hz0 hm (by rw[hL];exact hn.symm) hinf hB1 hmb.1 h2;rw[hL]at this;exact this
 have caps:∀ f F:Int,(f=101/\F=69\/f=103/\F=71\/f=120/\F=88)->((yj5 eb mb bias Z ME b f (-1)).length<=395/\∃ N D,RdNum (yj5 eb mb bias Z ME b f (-1)) (yta eb mb b) N D/\xh (mb:Nat) B inf N D=(zor eb mb bias b-(mb:Nat)-(ME+Z)).toNat*2^mb+zen eb mb b) ->
   (yj5 eb mb bias Z ME b F (-1)).length<=395/\∃ N D,RdNum (yj5 eb mb bias Z ME b F (-1)) (yta eb mb b) N D/\xh (mb:Nat) B inf N D=(zor eb mb bias b-(mb:Nat)-(ME+Z)).toNat*2^mb+zen eb mb b:=by
  intro f F hfF h;obtain⟨h1,N,D,h2,h3⟩:=h;rw[hup f F hfF];exact⟨by unfold upL;rw[List.length_map];exact h1,N,D,h2.low (yr8 _),h3⟩
 rcases hf with rfl | rfl | rfl | rfl | rfl | rfl | rfl
 ·exact efg 101 ze
 ·exact caps 101 69 ze (efg 101 ze)
 ·exact efg 102 ze
 ·exact efg 103 ze
 ·exact caps 103 71 ze (efg 103 ze)
 ·exact hx
 ·exact caps 120 88 ze hx
theorem ytl (b:Nat) (hb:b<4294967296) (hE:b / 2^23%2^8≠2^8-1):(zor 8 23 (-127) b-((23:Nat):Int)-(-189+((40:Nat):Int))).toNat*2^23+zen 8 23 b=b%2147483648/\Kd 40 (-189) 23 (zen 8 23 b) (zor 8 23 (-127) b)/\(2^23<=zen 8 23 b\/zor 8 23 (-127) b-((23:Nat):Int)=-189+((40:Nat):Int))/\sgC (yta 8 23 b)+b%2147483648=b/\b%2147483648<2139095040:=by
 unfold Kd zen zor flE flF yta sgC;rw[show (2:Nat)^(8+23)=2147483648 by decide,show (2:Nat)^24=16777216 by decide]at *
 rw[show (2:Nat)^23=8388608 by decide,show (2:Nat)^8=256 by decide]at *
 have hd:=Nat.div_add_mod b 8388608;have hd2:=Nat.div_add_mod (b / 8388608) 256;have hq:b / 8388608 / 256=b / 2147483648:=by rw[Nat.div_div_eq_div_mul]
 have hm:b%2147483648=b / 8388608%256*8388608+b%8388608:=zd;have hr:=Nat.mod_lt b (show 0<8388608 by decide);have hr2:=Nat.mod_lt (b / 8388608) (show 0<256 by decide);have hs:b / 2147483648=0\/b / 2147483648=1:=zd;generalize b / 8388608%256=e at *
 generalize b%8388608=m at *
 generalize b / 2147483648=q at *
 generalize b%2147483648=y at *
 refine⟨?_,?_,?_,?_,?_⟩
 ·split <;> omega
 ·right;refine⟨rfl,rfl,rfl,?_,?_,?_⟩ <;> split <;> omega
 ·split <;> omega
 ·rcases hs with rfl | rfl
  ·simp;omega
  ·simp;omega
 ·omega
theorem rt32 (b:Nat) (hb:b<4294967296) (hfin:b / 2^23%2^8≠2^8-1) (f:Int) (hf:okF f):
  (wi b f (-1)).length<=395/\∀ v k,yxs (wi b f (-1)) v k->k=0/\v=zyo b:=by
 obtain⟨e1,e2,e3,e4,e5⟩:=ytl b hb hfin;obtain⟨h1,N,D,h2,h3⟩:=ytx 8 23 (-127) 40 (-189) b 127 2139095040 hfin e2 e3 ze ze (fun f F h=>ytn b f F (-1) hb hfin ze h) f hf;refine⟨h1,fun v k hp=>?_⟩;obtain⟨g1,g2⟩:=h2.paw hp;have h4:zxq N D=b%2147483648:=h3.trans e1;rw[h4]at g1 g2;rw[if_neg zd]at g2;rw[e4]at g1;exact⟨g2,g1⟩
theorem yk4 {inf s b:Nat} (h:¬b%s<inf):(kn inf s b != 0)=true:=by
 unfold kn;rw[if_neg h];split <;> rfl
theorem yrk {f:Int} (h:ylg f=true):okF f:=by
 unfold ylg at h;unfold okF;simp only[Bool.or_eq_true,beq_iff_eq]at h;omega
end Go.Proofs.YtnifedmhgncioaaGreatDoor
