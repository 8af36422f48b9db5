/- Lemmas that the claim's top text leans on. No condition of their own. -/
import Derived.Test.YtocbeoomhlgnkaaGreatDoorJ36
import Derived.Test.YtocbeoomhlgnkaaGreatDoorJ37
import Derived.Test.YtocbeoomhlgnkaaGreatDoorJ35
namespace Go.Proofs.YtocbeoomhlgnkaaGreatDoor
open Go.RowKit
set_option linter.unusedSimpArgs false
set_option linter.unusedVariables false
set_option maxHeartbeats 16000000
section
attribute [local go_sem] undef
theorem ze7 {fn:Func} {p:Tmp} {ty:TypeId} (h:fn.results=#[.cell p ty]) (tmps:Array Value) (P:Program) (w:World):
  (results fn tmps).run P w=((asAddr (tmps.getD p undef)).run P w).andThen fun a w₁=>(loadVar ty a).run P w₁:=by
 simp only[results,h];simp[Sem.run_bind,Result.andThen]
theorem vj {P:Program} {fn:Func} {R:Ending->World->Prop} {n:Nat} {env:List (Nat×Value)} {s:Nat->Value} {w:World} {p:Nat} {ty:TypeId} {B:Nat} (v:Value) (hr:fn.results=#[.cell p ty]) (hp:p<n) (hpv:over env s p=.pointer (Option.some ⟨B,0,Option.none⟩))
  (hl:(loadVar ty ⟨B,0,Option.none⟩).run P w=.ok v w) (hR:R (.returned v) w):bodyPost P fn R .ret (Fr n env s) w:=by
 refine bodyPost_ret (v:=v) ?_ (vz ..) hR;rw[ze7 hr,wa n env s p hp,hpv];simp[asAddr,hl,Result.andThen]
def zp1 (s:List UInt8) (k:Nat):List Value:=if k=0 then [.int .i64 0,.string ⟨#[]⟩,.string ⟨#[]⟩] else [.int .i64 (k:Int),.string wn,.string ⟨s.toArray⟩]
def fauZ:List Value:=[.int .i64 0,.string ⟨#[]⟩,.string ⟨#[]⟩]
theorem zsz (v:Value) (xT:TypeId) (w:World):(Instr.typeAssert (.iface 82 v) xT 82 true).run Tryz.prog w=.ok (.tuple #[v,.bool true]) w:=by kernel_rfl
set_option maxRecDepth 100000 in
theorem zos (w:World):Calls Tryz.prog 38 #[.nilIface] w fun e w'=>e=.returned (.agg fauZ.toArray)/\w.grownBy w' none:=by
 refine ye Tryz.func38 rfl (by rw[Tryz.ntmps38];simp) ?_;intro σ hσ;rw[Tryz.ntmps38];have s0:σ 0=.nilIface:=hσ 0 zi;clear hσ;obtain⟨w1,hw1⟩:=zX (w.alloc (.cells fauZ.toArray 30));have hrB:=Row.new w fauZ 30;have hgB:=World.grownBy_alloc w (.cells fauZ.toArray 30) none;rw[hw1]at hrB hgB;unfold fauZ at hw1;have HRB:=zH hrB;have HGB:=zH hgB;clear hrB hgB;obtain⟨B,hB⟩:=zX w.heap.size;rw[hB]at HRB;have k0:=HRB.out.cell 0;have k1:=HRB.out.cell 1;have k2:=HRB.out.cell 2;have t0:=HRB.out.frozen 0;have t1:=HRB.out.frozen 1;have t2:=HRB.out.frozen 2;unfold fauZ at k0 k1 k2;simp only[List.getElem?_cons_zero,List.getElem?_cons_succ]at k0 k1 k2;have HB:=zH hB;go_upto_region 1 with fail;clear hw1 hB;(go_wp2_with fail;repeat ((first|refine cZ ?_|refine cW ?_);go_wp2_with fail));obtain⟨ty,hrow⟩:=((HRB.out.setCell 0 (.int .i64 0)).setCell 1 (.string ⟨#[]⟩)).setCell 2 (.string ⟨#[]⟩);have hBw:w.heap.size<=B:=by have:=HB.out;omega
 refine vj (B:=B) (.agg fauZ.toArray) rfl ze zb ?_ ⟨rfl,yb (yb (yb HGB.out _ hBw) _ hBw) _ hBw⟩;exact run_loadVar_row (P:=Tryz.prog) _ B ty 30 _ (0,0) _ hrow Tryz.underlying30 rfl zg 
end
section
attribute [local go_sem] undef
theorem ErrN.grown {w w':World} {s:List UInt8} {k N:Nat} (h:ErrN w s k N) (hg:w.grownBy w' none):ErrN w' s k N:=by
 obtain⟨x,h1,h2⟩:=h;exact⟨x,hg.cell h1 zi,(hg.block N (by obtain⟨hlt,-⟩:=Array.getElem?_eq_some_iff.1 h2;exact hlt) zi).trans h2⟩
theorem zbb {w:World} {N:Nat} {xs:List Value} {t:TypeId} (h:w.heap[N]?=some (.cells xs.toArray t (0,0))) (i:Nat):w.cell? ⟨N,i,none⟩=xs[i]?:=
 Row.cell (xs:=xs) ⟨t,h⟩ i
theorem is_S {T:Nat} {s:List UInt8} {k N:Nat} {w:World} (he:EnvP T w) (hn:ErrN w s k N) (hk:k=1\/k=2):∃ a:Addr,w.cell? ⟨1,0,none⟩=some (.iface 155 (.pointer (some a)))/\
  Calls Tryz.prog 58 #[.iface 82 (.pointer (some ⟨N,0,none⟩)),.iface 155 (.pointer (some a))] w fun e w'=>e=.returned (.bool (decide (k=1)))/\w'=w:=by
 obtain⟨aS,aR,cS,cR,tS,tR,h1,h2,h3,h4,h5,h6,h7⟩:=he.errs;obtain⟨x,hx,hN⟩:=hn;have hc:=zbb (xs:=[.string wn,.string ⟨s.toArray⟩,x]) hN 2;simp only[List.getElem?_cons_zero,List.getElem?_cons_succ]at hc;refine⟨aS,h4,?_⟩;rcases hk with rfl | rfl
 ·rw[if_pos rfl,h4]at hx;cases hx;exact zdf N aS w hc
 ·rw[if_neg ze,h5]at hx;cases hx;exact zbv N aR aS cR cS tR tS w hc h3.symm h7 h6
theorem is_R {T:Nat} {s:List UInt8} {k N:Nat} {w:World} (he:EnvP T w) (hn:ErrN w s k N) (hk:k=1\/k=2):∃ a:Addr,w.cell? ⟨2,0,none⟩=some (.iface 155 (.pointer (some a)))/\
  Calls Tryz.prog 58 #[.iface 82 (.pointer (some ⟨N,0,none⟩)),.iface 155 (.pointer (some a))] w fun e w'=>e=.returned (.bool (decide (k=2)))/\w'=w:=by
 obtain⟨aS,aR,cS,cR,tS,tR,h1,h2,h3,h4,h5,h6,h7⟩:=he.errs;obtain⟨x,hx,hN⟩:=hn;have hc:=zbb (xs:=[.string wn,.string ⟨s.toArray⟩,x]) hN 2;simp only[List.getElem?_cons_zero,List.getElem?_cons_succ]at hc;refine⟨aR,h5,?_⟩;rcases hk with rfl | rfl
 ·rw[if_pos rfl,h4]at hx;cases hx;exact zbv N aS aR cS cR tS tR w hc h3 h6 h7
 ·rw[if_neg ze,h5]at hx;cases hx;exact zdf N aR w hc
set_option maxRecDepth 100000 in
theorem zlz (T N:Nat) (s:List UInt8) (w:World) (he:EnvP T w) (hn:ErrN w s 1 N):Calls Tryz.prog 38 #[.iface 82 (.pointer (some ⟨N,0,none⟩))] w fun e w'=>e=.returned (.agg (zp1 s 1).toArray)/\w.grownBy w' none:=by
 refine ye Tryz.func38 rfl (by rw[Tryz.ntmps38];simp) ?_;intro σ hσ;rw[Tryz.ntmps38];have s0:σ 0=.iface 82 (.pointer (some ⟨N,0,none⟩)):=hσ 0 zi;clear hσ;have has:=zsz;obtain⟨B,hB⟩:=zX w.heap.size;obtain⟨W1,hW1⟩:=zX (w.alloc (.cells fauZ.toArray 30));have g1:w.grownBy W1 none:=zαe;have r1:Row W1 B fauZ:=zβi;obtain⟨B2,hB2⟩:=zX W1.heap.size;have hlt:B<B2:=by rw[<-hB2];exact r1.lt
 obtain⟨W2,hW2⟩:=zX (W1.alloc (.cells fauZ.toArray 30));have g2:w.grownBy W2 none:=by rw[<-hW2];exact ym g1 (World.grownBy_alloc W1 _ none)
 have r2:Row W2 B fauZ:=by rw[<-hW2];exact r1.alloc _
 have q2:Row W2 B2 fauZ:=by rw[<-hW2,<-hB2];exact Row.new W1 fauZ 30
 obtain⟨W3,hW3⟩:=zX (((W2.setCell ⟨B2,0,none⟩ (.int .i64 3)).setCell ⟨B2,1,none⟩ (.string ⟨#[]⟩)).setCell ⟨B2,2,none⟩ (.string ⟨#[]⟩));have hs1:w.heap.size<=B:=zd;have hs2:w.heap.size<=B2:=zd;have g3:w.grownBy W3 none:=zZ;have hne:B≠B2:=zd;have hne2:B2≠B:=zd;have r3:Row W3 B fauZ:=zP;have q3:Row W3 B2 [.int .i64 3,.string ⟨#[]⟩,.string ⟨#[]⟩]:=zB;obtain⟨W4,hW4⟩:=zX (W3.setCell ⟨B2,0,none⟩ (.int .i64 1));have g4:w.grownBy W4 none:=by rw[<-hW4];exact yb g3 _ hs2
 have r4:Row W4 B fauZ:=by rw[<-hW4];exact r3.setCell_other hne _
 have q4:Row W4 B2 [.int .i64 1,.string ⟨#[]⟩,.string ⟨#[]⟩]:=by rw[<-hW4];exact q3.setCell 0 (.int .i64 1)
 obtain⟨W5,hW5⟩:=zX (W4.setCell ⟨B2,1,none⟩ (.string wn));have g5:w.grownBy W5 none:=by rw[<-hW5];exact yb g4 _ hs2
 have r5:Row W5 B fauZ:=by rw[<-hW5];exact r4.setCell_other hne _
 have q5:Row W5 B2 [.int .i64 1,.string wn,.string ⟨#[]⟩]:=by rw[<-hW5];exact q4.setCell 1 (.string wn)
 obtain⟨W6,hW6⟩:=zX (W5.setCell ⟨B2,2,none⟩ (.string ⟨s.toArray⟩));have g6:w.grownBy W6 none:=by rw[<-hW6];exact yb g5 _ hs2
 have r6:Row W6 B fauZ:=by rw[<-hW6];exact r5.setCell_other hne _
 have q6:Row W6 B2 [.int .i64 1,.string wn,.string ⟨s.toArray⟩]:=by rw[<-hW6];exact q5.setCell 2 (.string ⟨s.toArray⟩)
 have hl6:(loadVar 30 ⟨B2,0,none⟩).run Tryz.prog W6=.ok (.agg #[.int .i64 1,.string wn,.string ⟨s.toArray⟩]) W6:=by
  obtain⟨ty,hrow⟩:=q6;exact run_loadVar_row (P:=Tryz.prog) _ B2 ty 30 _ (0,0) _ hrow Tryz.underlying30 rfl zg
 have n4:W4.cell? ⟨N,0,none⟩=some (.string wn):=by
  obtain⟨x,-,h⟩:=hn.grown g4;exact zbb (xs:=[.string wn,.string ⟨s.toArray⟩,x]) h 0
 have n5:W5.cell? ⟨N,1,none⟩=some (.string ⟨s.toArray⟩):=by
  obtain⟨x,-,h⟩:=hn.grown g5;exact zbb (xs:=[.string wn,.string ⟨s.toArray⟩,x]) h 1
 obtain⟨aS,hcS,hIS⟩:=is_S (he.grown g3 (fun _ e=>zL)) (hn.grown g3) ze;obtain⟨aR,hcR,hIR⟩:=is_R (he.grown g4 (fun _ e=>zL)) (hn.grown g4) ze;have HIS:=zH hIS;have HIR:=zH hIR;have G6:=zH g6;have R6:=zH r6;have HS1:=zH hs1;have HN:=zH hne;have k0:=q2.cell 0;have k1:=q2.cell 1;have k2:=q2.cell 2;have t0:=q2.frozen 0;have t1:=q2.frozen 1;have t2:=q2.frozen 2;have c3:=q3.cell 0;have f3:=q3.frozen 0;have c4:=q4.cell 1;have f4:=q4.frozen 1;have c5:=q5.cell 2;have f5:=q5.frozen 2;have d0:=q6.cell 0;have d1:=q6.cell 1;have d2:=q6.cell 2;have j0:=r6.cell 0;have j1:=r6.cell 1;have j2:=r6.cell 2;have u0:=r6.frozen 0;have u1:=r6.frozen 1;have u2:=r6.frozen 2;unfold fauZ at k0 k1 k2 j0 j1 j2 hW1 hW2;simp only[List.getElem?_cons_zero,List.getElem?_cons_succ]at k0 k1 k2 c3 c4 c5 d0 d1 d2 j0 j1 j2;clear he hn g1 g2 g3 g4 g5 g6 r1 r2 r3 r4 r5 r6 q2 q3 q4 q5 q6 hIS hIR hs1 hs2 hne hne2 hlt;(go_wp2_with fail;repeat ((first|refine cZ ?_|refine cW ?_);go_wp2_with fail));refine HIS.out.mono ?_;rintro e w9 ⟨rfl,hw9⟩;subst w9;(go_wp2_with fail;repeat ((first|refine cZ ?_|refine cW ?_);go_wp2_with fail));refine HIR.out.mono ?_;rintro e w9 ⟨rfl,hw9⟩;subst w9;(go_wp2_with fail;repeat ((first|refine cZ ?_|refine cW ?_);go_wp2_with fail));obtain⟨ty,hrow⟩:=((R6.out.setCell 0 (.int .i64 1)).setCell 1 (.string wn)).setCell 2 (.string ⟨s.toArray⟩);refine vj (B:=B) (.agg (zp1 s 1).toArray) rfl ze zb ?_ ⟨rfl,yb (yb (yb G6.out _ HS1.out) _ HS1.out) _ HS1.out⟩;exact run_loadVar_row (P:=Tryz.prog) _ B ty 30 _ (0,0) _ hrow Tryz.underlying30 rfl zg
set_option maxRecDepth 100000 in
theorem zly (T N:Nat) (s:List UInt8) (w:World) (he:EnvP T w) (hn:ErrN w s 2 N):Calls Tryz.prog 38 #[.iface 82 (.pointer (some ⟨N,0,none⟩))] w fun e w'=>e=.returned (.agg (zp1 s 2).toArray)/\w.grownBy w' none:=by
 refine ye Tryz.func38 rfl (by rw[Tryz.ntmps38];simp) ?_;intro σ hσ;rw[Tryz.ntmps38];have s0:σ 0=.iface 82 (.pointer (some ⟨N,0,none⟩)):=hσ 0 zi;clear hσ;have has:=zsz;obtain⟨B,hB⟩:=zX w.heap.size;obtain⟨W1,hW1⟩:=zX (w.alloc (.cells fauZ.toArray 30));have g1:w.grownBy W1 none:=zαe;have r1:Row W1 B fauZ:=zβi;obtain⟨B2,hB2⟩:=zX W1.heap.size;have hlt:B<B2:=by rw[<-hB2];exact r1.lt
 obtain⟨W2,hW2⟩:=zX (W1.alloc (.cells fauZ.toArray 30));have g2:w.grownBy W2 none:=by rw[<-hW2];exact ym g1 (World.grownBy_alloc W1 _ none)
 have r2:Row W2 B fauZ:=by rw[<-hW2];exact r1.alloc _
 have q2:Row W2 B2 fauZ:=by rw[<-hW2,<-hB2];exact Row.new W1 fauZ 30
 obtain⟨W3,hW3⟩:=zX (((W2.setCell ⟨B2,0,none⟩ (.int .i64 3)).setCell ⟨B2,1,none⟩ (.string ⟨#[]⟩)).setCell ⟨B2,2,none⟩ (.string ⟨#[]⟩));have hs1:w.heap.size<=B:=zd;have hs2:w.heap.size<=B2:=zd;have g3:w.grownBy W3 none:=zZ;have hne:B≠B2:=zd;have hne2:B2≠B:=zd;have r3:Row W3 B fauZ:=zP;have q3:Row W3 B2 [.int .i64 3,.string ⟨#[]⟩,.string ⟨#[]⟩]:=zB;obtain⟨W4,hW4⟩:=zX (W3.setCell ⟨B2,0,none⟩ (.int .i64 2));have g4:w.grownBy W4 none:=by rw[<-hW4];exact yb g3 _ hs2
 have r4:Row W4 B fauZ:=by rw[<-hW4];exact r3.setCell_other hne _
 have q4:Row W4 B2 [.int .i64 2,.string ⟨#[]⟩,.string ⟨#[]⟩]:=by rw[<-hW4];exact q3.setCell 0 (.int .i64 2)
 obtain⟨W5,hW5⟩:=zX (W4.setCell ⟨B2,1,none⟩ (.string wn));have g5:w.grownBy W5 none:=by rw[<-hW5];exact yb g4 _ hs2
 have r5:Row W5 B fauZ:=by rw[<-hW5];exact r4.setCell_other hne _
 have q5:Row W5 B2 [.int .i64 2,.string wn,.string ⟨#[]⟩]:=by rw[<-hW5];exact q4.setCell 1 (.string wn)
 obtain⟨W6,hW6⟩:=zX (W5.setCell ⟨B2,2,none⟩ (.string ⟨s.toArray⟩));have g6:w.grownBy W6 none:=by rw[<-hW6];exact yb g5 _ hs2
 have r6:Row W6 B fauZ:=by rw[<-hW6];exact r5.setCell_other hne _
 have q6:Row W6 B2 [.int .i64 2,.string wn,.string ⟨s.toArray⟩]:=by rw[<-hW6];exact q5.setCell 2 (.string ⟨s.toArray⟩)
 have hl6:(loadVar 30 ⟨B2,0,none⟩).run Tryz.prog W6=.ok (.agg #[.int .i64 2,.string wn,.string ⟨s.toArray⟩]) W6:=by
  obtain⟨ty,hrow⟩:=q6;exact run_loadVar_row (P:=Tryz.prog) _ B2 ty 30 _ (0,0) _ hrow Tryz.underlying30 rfl zg
 have n4:W4.cell? ⟨N,0,none⟩=some (.string wn):=by
  obtain⟨x,-,h⟩:=hn.grown g4;exact zbb (xs:=[.string wn,.string ⟨s.toArray⟩,x]) h 0
 have n5:W5.cell? ⟨N,1,none⟩=some (.string ⟨s.toArray⟩):=by
  obtain⟨x,-,h⟩:=hn.grown g5;exact zbb (xs:=[.string wn,.string ⟨s.toArray⟩,x]) h 1
 obtain⟨aS,hcS,hIS⟩:=is_S (he.grown g3 (fun _ e=>zL)) (hn.grown g3) ze;obtain⟨aR,hcR,hIR⟩:=is_R (he.grown g3 (fun _ e=>zL)) (hn.grown g3) ze;have HIS:=zH hIS;have HIR:=zH hIR;have G6:=zH g6;have R6:=zH r6;have HS1:=zH hs1;have HN:=zH hne;have k0:=q2.cell 0;have k1:=q2.cell 1;have k2:=q2.cell 2;have t0:=q2.frozen 0;have t1:=q2.frozen 1;have t2:=q2.frozen 2;have c3:=q3.cell 0;have f3:=q3.frozen 0;have c4:=q4.cell 1;have f4:=q4.frozen 1;have c5:=q5.cell 2;have f5:=q5.frozen 2;have d0:=q6.cell 0;have d1:=q6.cell 1;have d2:=q6.cell 2;have j0:=r6.cell 0;have j1:=r6.cell 1;have j2:=r6.cell 2;have u0:=r6.frozen 0;have u1:=r6.frozen 1;have u2:=r6.frozen 2;unfold fauZ at k0 k1 k2 j0 j1 j2 hW1 hW2;simp only[List.getElem?_cons_zero,List.getElem?_cons_succ]at k0 k1 k2 c3 c4 c5 d0 d1 d2 j0 j1 j2;clear he hn g1 g2 g3 g4 g5 g6 r1 r2 r3 r4 r5 r6 q2 q3 q4 q5 q6 hIS hIR hs1 hs2 hne hne2 hlt;(go_wp2_with fail;repeat ((first|refine cZ ?_|refine cW ?_);go_wp2_with fail));refine HIS.out.mono ?_;rintro e w9 ⟨rfl,hw9⟩;subst w9;(go_wp2_with fail;repeat ((first|refine cZ ?_|refine cW ?_);go_wp2_with fail));refine HIR.out.mono ?_;rintro e w9 ⟨rfl,hw9⟩;subst w9;(go_wp2_with fail;repeat ((first|refine cZ ?_|refine cW ?_);go_wp2_with fail));obtain⟨ty,hrow⟩:=((R6.out.setCell 0 (.int .i64 2)).setCell 1 (.string wn)).setCell 2 (.string ⟨s.toArray⟩);refine vj (B:=B) (.agg (zp1 s 2).toArray) rfl ze zb ?_ ⟨rfl,yb (yb (yb G6.out _ HS1.out) _ HS1.out) _ HS1.out⟩;exact run_loadVar_row (P:=Tryz.prog) _ B ty 30 _ (0,0) _ hrow Tryz.underlying30 rfl zg
theorem ziz (T:Nat) (s:List UInt8) (k:Nat) (ev:Value) (w:World) (he:EnvP T w) (hq:ya1 w s k ev):
  Calls Tryz.prog 38 #[ev] w fun e w'=>e=.returned (.agg (zp1 s k).toArray)/\w.grownBy w' none:=by
 rcases hq with⟨rfl,rfl⟩ | ⟨hk,N,rfl,hn⟩
 ·exact zos w
 ·rcases hk with rfl | rfl
  ·exact zlz T N s w he hn
  ·exact zly T N s w he hn
end
section
attribute [local go_sem] undef
theorem zot (b:Nat) (hb:b<18446744073709551616) (w:World):(callFunc 37 #[.float .f64 b]).run Tryz.prog w=.ok (.value (.int .u64 (b:Int))) w:=by kernel_rfl
theorem zb4 {fn:Func} {p u:Tmp} {ty:TypeId} (h:fn.results=#[.tmp u,.cell p ty]) (tmps:Array Value) (P:Program) (w:World):
  (results fn tmps).run P w=((asAddr (tmps.getD p undef)).run P w).andThen fun a w₁=>((loadVar ty a).run P w₁).andThen fun v w₂=>.ok (.tuple #[tmps.getD u undef,v]) w₂:=by
 simp only[results,h];simp[Sem.run_bind,Result.andThen]
theorem zqm {P:Program} {fn:Func} {R:Ending->World->Prop} {n:Nat} {env:List (Nat×Value)} {s:Nat->Value} {w:World} {p u:Nat} {ty:TypeId} {B:Nat} (x v:Value) (hr:fn.results=#[.tmp u,.cell p ty]) (hu:u<n) (hp:p<n) (hx:over env s u=x) (hpv:over env s p=.pointer (Option.some ⟨B,0,Option.none⟩))
  (hl:(loadVar ty ⟨B,0,Option.none⟩).run P w=.ok v w) (hR:R (.returned (.tuple #[x,v])) w):bodyPost P fn R .ret (Fr n env s) w:=by
 refine bodyPost_ret (v:=.tuple #[x,v]) ?_ (vz ..) hR;rw[zb4 hr,wa n env s p hp,wa n env s u hu,hpv,hx];simp[asAddr,hl,Result.andThen]
theorem zwh (s:List UInt8) (k:Nat):∃ (a:Int) (b c:ByteArray),zp1 s k=[.int .i64 a,.string b,.string c]:=by unfold zp1;split <;> exact⟨_,_,_,rfl⟩
theorem zvp (F:Nat) (bias:Int) (inf b:Nat) (l:List Nat) (x:Int) (hbias:1<=bias) (hinf:inf=(2*bias+1).toNat*2^F):spN F bias inf b l x<=inf:=by
 unfold spN;split
 ·omega
 ·split
  ·exact Nat.le_refl _
  ·exact ud F bias inf _ _ (qg _ (by unfold yfj;split <;> decide)) hbias hinf
theorem zjr (t:Txt):spB 52 1023 9218868437227405312 t<=9218868437227405312:=zvp 52 1023 _ _ _ _ ze rfl
theorem PaQ64.lt {s:List UInt8} {v k:Nat} (h:PaQ64 s v k):v<18446744073709551616:=by
 unfold PaQ64 at h;split at h
 ·omega
 ·rename_i t ht;obtain⟨h0,h1,h2⟩:=h;rcases za0 ht with e | e | e
  ·have:=(h2 e).1;have h3:=zjr t;have h4:sgB t.neg<=9223372036854775808:=by unfold sgB;split <;> omega
   omega
  ·rw[(h1 e).1];cases t.neg <;> decide
  ·exact (h0 e).1.2
theorem PaQw.lt {s:List UInt8} {v k:Nat} (h:PaQw s v k):v<18446744073709551616:=by
 obtain⟨v,-,⟨-,h⟩ | ⟨-,-,h,-⟩⟩:=h
 ·exact h.1
 ·exact h
set_option maxRecDepth 100000 in
theorem zhd (T:Nat) (s:List UInt8) (w:World) (he:EnvP T w) (hs:s.length<=800):
  Calls Tryz.prog 20 #[.string ⟨s.toArray⟩] w fun e w'=>(∃ v k:Nat,e=.returned (.tuple #[.int .u64 (v:Int),.agg (zp1 s k).toArray])/\PaQ64 s v k)/\w.grownBy w' none:=by
 refine ye Tryz.func20 rfl (by rw[Tryz.ntmps20];simp) ?_;intro σ hσ;rw[Tryz.ntmps20];have s0:σ 0=.string ⟨s.toArray⟩:=hσ 0 zi;clear hσ;obtain⟨B,hB⟩:=zX w.heap.size;obtain⟨W1,hW1⟩:=zX (w.alloc (.cells fauZ.toArray 30));have g1:w.grownBy W1 none:=zαe;have r1:Row W1 B fauZ:=zβi;have HAT:=zH (zgr T s W1 (he.grown g1 (fun _ e=>zL)) hs);have hs1:w.heap.size<=B:=zd;have HB:=zH hs1;have G1:=zH g1;have R1:=zH r1;have HE:=zH he;unfold fauZ at hW1;clear hs1 g1 r1 he;(go_wp2_with fail;repeat ((first|refine cZ ?_|refine cW ?_);go_wp2_with fail));refine HAT.out.mono ?_;rintro e w2 ⟨⟨v,k,ev,rfl,hp,hq⟩,hg2⟩;clear hW1;have hv:v<18446744073709551616:=hp.lt;have hf:=fun W=>zot v hv W
 have HFO:=zH (ziz T s k ev w2 (HE.out.grown (ym G1.out hg2) (fun _ e=>zL)) hq);have G2:=zH (ym G1.out hg2);have R2:=zH (R1.out.grown hg2 zi);have HP:=zH hp;clear hp hq hg2 hv HAT HE R1 G1;(go_wp2_with fail;repeat ((first|refine cZ ?_|refine cW ?_);go_wp2_with fail));refine HFO.out.mono ?_;rintro e w3 ⟨rfl,hg3⟩;have G3:=zH (ym G2.out hg3);have R3:=zH (R2.out.grown hg3 zi);obtain⟨fa,fb,fc,hfa⟩:=zwh s k;have HF:=zH hfa;rw[hfa];have k0:=R3.out.cell 0;have k1:=R3.out.cell 1;have k2:=R3.out.cell 2;have u0:=R3.out.frozen 0;have u1:=R3.out.frozen 1;have u2:=R3.out.frozen 2;unfold fauZ at k0 k1 k2;simp only[List.getElem?_cons_zero,List.getElem?_cons_succ]at k0 k1 k2;clear hg3 hfa;(go_wp2_with fail;repeat ((first|refine cZ ?_|refine cW ?_);go_wp2_with fail));obtain⟨ty,hrow⟩:=((R3.out.setCell 0 (.int .i64 fa)).setCell 1 (.string fb)).setCell 2 (.string fc);refine zqm (B:=B) (.int .u64 (v:Int)) (.agg #[.int .i64 fa,.string fb,.string fc]) rfl ze ze zb zb ?_ ⟨⟨v,k,by rw[HF.out],HP.out⟩,yb (yb (yb G3.out _ HB.out) _ HB.out) _ HB.out⟩;exact run_loadVar_row (P:=Tryz.prog) _ B ty 30 _ (0,0) _ hrow Tryz.underlying30 rfl zg
set_option maxRecDepth 100000 in
theorem zxw (T:Nat) (s:List UInt8) (w:World) (he:EnvP T w) (hs:s.length<=800):
  Calls Tryz.prog 17 #[.string ⟨s.toArray⟩] w fun e w'=>(∃ v k:Nat,e=.returned (.tuple #[.int .u64 (v:Int),.agg (zp1 s k).toArray])/\PaQw s v k)/\w.grownBy w' none:=by
 refine ye Tryz.func17 rfl (by rw[Tryz.ntmps17];simp) ?_;intro σ hσ;rw[Tryz.ntmps17];have s0:σ 0=.string ⟨s.toArray⟩:=hσ 0 zi;clear hσ;obtain⟨B,hB⟩:=zX w.heap.size;obtain⟨W1,hW1⟩:=zX (w.alloc (.cells fauZ.toArray 30));have g1:w.grownBy W1 none:=zαe;have r1:Row W1 B fauZ:=zβi;have HAT:=zH (zyq T s W1 (he.grown g1 (fun _ e=>zL)) hs);have hs1:w.heap.size<=B:=zd;have HB:=zH hs1;have G1:=zH g1;have R1:=zH r1;have HE:=zH he;unfold fauZ at hW1;clear hs1 g1 r1 he;(go_wp2_with fail;repeat ((first|refine cZ ?_|refine cW ?_);go_wp2_with fail));refine HAT.out.mono ?_;rintro e w2 ⟨⟨v,k,ev,rfl,hp,hq⟩,hg2⟩;clear hW1;have hv:v<18446744073709551616:=hp.lt;have hf:=fun W=>zot v hv W
 have HFO:=zH (ziz T s k ev w2 (HE.out.grown (ym G1.out hg2) (fun _ e=>zL)) hq);have G2:=zH (ym G1.out hg2);have R2:=zH (R1.out.grown hg2 zi);have HP:=zH hp;clear hp hq hg2 hv HAT HE R1 G1;(go_wp2_with fail;repeat ((first|refine cZ ?_|refine cW ?_);go_wp2_with fail));refine HFO.out.mono ?_;rintro e w3 ⟨rfl,hg3⟩;have G3:=zH (ym G2.out hg3);have R3:=zH (R2.out.grown hg3 zi);obtain⟨fa,fb,fc,hfa⟩:=zwh s k;have HF:=zH hfa;rw[hfa];have k0:=R3.out.cell 0;have k1:=R3.out.cell 1;have k2:=R3.out.cell 2;have u0:=R3.out.frozen 0;have u1:=R3.out.frozen 1;have u2:=R3.out.frozen 2;unfold fauZ at k0 k1 k2;simp only[List.getElem?_cons_zero,List.getElem?_cons_succ]at k0 k1 k2;clear hg3 hfa;(go_wp2_with fail;repeat ((first|refine cZ ?_|refine cW ?_);go_wp2_with fail));obtain⟨ty,hrow⟩:=((R3.out.setCell 0 (.int .i64 fa)).setCell 1 (.string fb)).setCell 2 (.string fc);refine zqm (B:=B) (.int .u64 (v:Int)) (.agg #[.int .i64 fa,.string fb,.string fc]) rfl ze ze zb zb ?_ ⟨⟨v,k,by rw[HF.out],HP.out⟩,yb (yb (yb G3.out _ HB.out) _ HB.out) _ HB.out⟩;exact run_loadVar_row (P:=Tryz.prog) _ B ty 30 _ (0,0) _ hrow Tryz.underlying30 rfl zg 
end
theorem zyg {v r:Nat} (h:yak v r) (hn:¬zxp v):r=zyo v:=by
 rcases h with⟨h,-⟩ | ⟨h1,-,-,h4⟩
 ·exact absurd h hn
 ·unfold zyo;by_cases hf:v%2147483648<2139095040
  ·rw[if_pos hf];rw[yaf v h1 hf]at h4;exact (Option.some.inj h4).symm
  ·have h5:¬2139095040<v%2147483648:=fun h=>hn ⟨h1,h⟩
   have h6:v=2139095040\/v=4286578688:=zd;rw[if_neg hf];rcases h6 with rfl | rfl
   ·have:floatToFloatBits .f32 2139095040 .f64=some 9218868437227405312:=zp;rw[this]at h4;exact (Option.some.inj h4).symm
   ·have:floatToFloatBits .f32 4286578688 .f64=some 18442240474082181120:=zp;rw[this]at h4;exact (Option.some.inj h4).symm
theorem yfc (f:Nat) (F bias:Int) (inf a b s:Nat) (E:Int) (hF:F=f) (hb:b≠0) (ha:a≠0) (hE:1-bias-F<=E) (hEb:E<=bias-F) (hs:s<2^(f+1)) (hn:E=1-bias-F\/2^f<=s) (hinf:inf=(2*bias+1).toNat*2^f) (hbias:1<=bias) (hf:1<=f)
  (hlo:2*(s*(b*2^E.toNat))<=2*(a*2^(-E).toNat)) (h:2*(a*2^(-E).toNat)<2*(s*(b*2^E.toNat))+b*2^E.toNat\/(2*(a*2^(-E).toNat)=2*(s*(b*2^E.toNat))+b*2^E.toNat/\s%2=0)):
  xh F bias inf a b=(E-(1-bias-F)).toNat*2^f+s:=by
 refine (zz3 f F bias inf a b s E hF hb ha hE hEb hs hn hinf hbias hf).2 ?_;have hY:0<b*2^E.toNat:=Nat.mul_pos zd (p2 _);unfold inI;generalize b*2^E.toNat=Y at *
 generalize a*2^(-E).toNat=X at *
 generalize s*Y=sY at *
 refine⟨?_,zd,fun _=>⟨zd,zd⟩⟩;split <;> omega
theorem yeb {X Y X' Y' c1 c2 c3:Nat} (hY:0<Y) (hk:X*Y'=2*X'*Y) (h:c1*(2*Y)≤c2*X+c3*(2*Y)):c1*Y'≤c2*X'+c3*Y':=by
 refine Nat.le_of_mul_le_mul_right (c:=2*Y) ?_ zd
 calc c1*Y'*(2*Y)=c1*(2*Y)*Y':=by ac_rfl
  _≤(c2*X+c3*(2*Y))*Y':=Nat.mul_le_mul_right _ h
  _=c2*(X*Y')+c3*Y'*(2*Y):=by rw[Nat.add_mul,Nat.mul_assoc c2];congr 1;ac_rfl
  _=(c2*X'+c3*Y')*(2*Y):=by rw[hk,Nat.add_mul];congr 1;ac_rfl
theorem ydz {X Y X' Y' c2 c3:Nat} (hY:0<Y) (hk:X*Y'=2*X'*Y) (h:c2*X≤c3*(2*Y)):c2*X'≤c3*Y':=by
 refine Nat.le_of_mul_le_mul_right (c:=2*Y) ?_ zd
 calc c2*X'*(2*Y)=c2*(2*X'*Y):=by ac_rfl
  _=c2*X*Y':=by rw[←hk,Nat.mul_assoc]
  _≤c3*(2*Y)*Y':=Nat.mul_le_mul_right _ h
  _=c3*Y'*(2*Y):=by ac_rfl
theorem yfd (f:Nat) (F bias:Int) (inf a b s:Nat) (E:Int) (hF:F=f) (hb:b≠0) (ha:a≠0) (hE:1-bias-F<=E) (hEb:E<=bias-F) (hs:s<2^(f+1)) (hn:E=1-bias-F\/2^f<=s) (hinf:inf=(2*bias+1).toNat*2^f) (hbias:1<=bias) (hf:1<=f)
  (htop:s+1<2^(f+1)\/E+1<=bias-F)
  (hhi:2*(a*2^(-E).toNat)<=2*(s*(b*2^E.toNat))+2*(b*2^E.toNat)) (h:2*(s*(b*2^E.toNat))+b*2^E.toNat<2*(a*2^(-E).toNat)\/(2*(a*2^(-E).toNat)=2*(s*(b*2^E.toNat))+b*2^E.toNat/\s%2=1)):
  xh F bias inf a b=(E-(1-bias-F)).toNat*2^f+s+1:=by
 have hY:0<b*2^E.toNat:=Nat.mul_pos zd (p2 _);by_cases hc:s+1<2^(f+1)
 ·have hlow:decide (s+1=2^f/\1-bias-F<E)=false:=by
   rw[decide_eq_false_iff_not];rintro⟨h1,h2⟩;omega
  refine (zz3 f F bias inf a b (s+1) E hF hb ha hE hEb hc zd hinf hbias hf).2 ?_;rw[hlow];generalize b*2^E.toNat=Y at *
  generalize a*2^(-E).toNat=X at *
  have hsY:(s+1)*Y=s*Y+Y:=zβv;generalize s*Y=sY at *
  unfold inI;rw[hsY,if_neg ze];refine⟨zd,zd,fun _=>⟨zd,zd⟩⟩
 ·have hf1:2^(f+1)=2*2^f:=zE;have hs1:s+1=2*2^f:=zd;have hk:=ztf (E+1) a b;rw[show E+1-1=E by omega]at hk;have hk2:a*2^(-E).toNat*(b*2^(E+1).toNat)=2*(a*2^(-(E+1)).toNat)*(b*2^E.toNat):=by
   calc _=a*2^(-E).toNat*2^(E+1).toNat*b:=by ac_rfl
    _=_:=by rw[hk];ac_rfl
  have hlow:decide (2^f=2^f/\1-bias-F<E+1)=true:=by rw[decide_eq_true_iff];exact⟨rfl,zd⟩
  have hres:(E-(1-bias-F)).toNat*2^f+s+1=(E+1-(1-bias-F)).toNat*2^f+2^f:=by
   rw[show (E+1-(1-bias-F)).toNat=(E-(1-bias-F)).toNat+1 by omega,Nat.add_mul,Nat.one_mul];omega
  rw[hres];refine (zz3 f F bias inf a b (2^f) (E+1) hF hb ha zd zd (by have:=p2 f;omega) (Or.inr (Nat.le_refl _)) hinf hbias hf).2 ?_;rw[hlow];have hev:2^f%2=0:=by
   obtain⟨g,rfl⟩:∃ g,f=g+1:=⟨f-1,zd⟩;rw[Nat.pow_succ];omega
  have hY':0<b*2^(E+1).toNat:=Nat.mul_pos zd (p2 _);generalize b*2^E.toNat=Y at *
  generalize a*2^(-E).toNat=X at *
  generalize b*2^(E+1).toNat=Y' at *
  generalize a*2^(-(E+1)).toNat=X' at *
  have hsY:s*Y+Y=2*(2^f*Y):=by
   calc s*Y+Y=(s+1)*Y:=by rw[Nat.add_mul,Nat.one_mul]
    _=_:=by rw[hs1,Nat.mul_assoc]
  generalize 2^f=q at *
  unfold inI;rw[if_pos rfl];refine⟨?_,?_,fun h=>zd⟩
  ·have:=yeb (c1:=4*q) (c2:=4) (c3:=1) hY hk2 (by rw[show 4*q*(2*Y)=8*(q*Y) by ac_rfl];omega);rw[Nat.mul_assoc,Nat.one_mul]at this;exact this
  ·have:=ydz (c2:=2) (c3:=2*q+1) hY hk2 (by rw[Nat.add_mul,show 2*q*(2*Y)=4*(q*Y) by ac_rfl];omega);rw[Nat.add_mul,Nat.one_mul,Nat.mul_assoc]at this;exact this
theorem ye4 (s:Nat) (E:Int):2*(ych (2*s+1) (E-1)*2^(-E).toNat)=(2*s+1)*(10^(-(min (E-1) 0-1)).toNat*2^E.toNat):=by
 unfold ych;by_cases h:1<=E
 ·rw[show (-E).toNat=0 by omega,show (-(E-1)).toNat=0 by omega,show (-(min (E-1) 0-1)).toNat=1 by omega];obtain⟨n,hn⟩:=zX ((E-1).toNat);rw[hn,show E.toNat=n+1 by omega,Nat.pow_succ 2 n];simp only[Nat.pow_zero,Nat.pow_one,Nat.mul_one];generalize 2^n=q;generalize 2*s+1=m;calc 2*(m*q*10)=m*q*20:=by omega
   _=m*(10*(q*2)):=by rw[Nat.mul_assoc];congr 1;omega
 ·obtain⟨n,hn⟩:=zX ((-E).toNat);rw[hn,show (E-1).toNat=0 by omega,show (-(E-1)).toNat=n+1 by omega,show (-(min (E-1) 0-1)).toNat=n+2 by omega,show E.toNat=0 by omega,Nat.pow_zero,Nat.mul_one,Nat.mul_one];rw[show (10:Nat)^(n+2)=5^(n+2)*2^(n+2) by rw[<-Nat.mul_pow],Nat.pow_succ 5 (n+1),Nat.pow_succ 2 (n+1),Nat.pow_succ 2 n];generalize 5^(n+1)=x;generalize 2^n=q;generalize 2*s+1=m;calc 2*(m*x*10*q)=m*x*q*20:=by rw[show 2*(m*x*10*q)=m*x*q*(2*10) by ac_rfl]
   _=m*(x*5*(q*2*2)):=by rw[show m*(x*5*(q*2*2))=m*x*q*(5*2*2) by ac_rfl]
theorem yd2 (E:Int):2*2^(-E).toNat<=10^(-(min (E-1) 0-1)).toNat*2^E.toNat:=by
 by_cases h:1<=E
 ·rw[show (-E).toNat=0 by omega,show (-(min (E-1) 0-1)).toNat=1 by omega];have:=p2 E.toNat;generalize 2^E.toNat=q at *
  omega
 ·obtain⟨n,hn⟩:=zX ((-E).toNat);rw[hn,show (-(min (E-1) 0-1)).toNat=n+2 by omega,show E.toNat=0 by omega,Nat.pow_zero,Nat.mul_one,Nat.pow_succ,Nat.pow_succ];have:2^n<=10^n:=Nat.pow_le_pow_left ze _;omega
theorem ydr (f:Nat) (F bias:Int) (inf s:Nat) (E p:Int) (hF:F=f) (hE:1-bias-F<=E) (hEb:E<=bias-F) (hs:s<2^(f+1)) (hn:E=1-bias-F\/2^f<=s) (hinf:inf=(2*bias+1).toNat*2^f) (hbias:1<=bias) (hf:1<=f)
  (htop:s+1<2^(f+1)\/E+1<=bias-F) (hp:p=0\/p=1\/p=-1):
  nvT f bias inf 10 ((ych (2*s+1) (E-1):Int)+p).toNat (min (E-1) 0-1)=(E-(1-bias-F)).toNat*2^f+s+(if p=1\/(p=0/\s%2=1) then 1 else 0):=by
 have h1:=ye4 s E;have h2:=yd2 E;have hM:1<ych (2*s+1) (E-1):=by
  unfold ych;have h2:=p2 (E-1).toNat;have h5:0<5^(-(E-1)).toNat:=Nat.pow_pos ze;have:=Nat.mul_pos (Nat.mul_pos (show 0<2*s+1 by omega) h2) h5;omega
 have hN:∀ p:Int,(p=0\/p=1\/p=-1)->((((ych (2*s+1) (E-1):Int)+p).toNat:Nat):Int)=(ych (2*s+1) (E-1):Int)+p:=fun p hp=>by omega
 have hN:=hN p hp;have hmul:((((ych (2*s+1) (E-1):Int)+p).toNat*2^(-E).toNat:Nat):Int)=((ych (2*s+1) (E-1)*2^(-E).toNat:Nat):Int)+p*((2^(-E).toNat:Nat):Int):=by
  rw[Int.natCast_mul,hN,Int.add_mul,Int.natCast_mul]
 have hb:10^(-(min (E-1) 0-1)).toNat≠0:=qg _ ze;have ha:((ych (2*s+1) (E-1):Int)+p).toNat≠0:=zd;have hq:=p2 (-E).toNat;have hexp:(2*s+1)*(10^(-(min (E-1) 0-1)).toNat*2^E.toNat)=2*(s*(10^(-(min (E-1) 0-1)).toNat*2^E.toNat))+10^(-(min (E-1) 0-1)).toNat*2^E.toNat:=zβu;rw[hexp]at h1;unfold nvT;rw[show (min (E-1) 0-1).toNat=0 by omega,Nat.pow_zero,Nat.mul_one];by_cases hc:p=1\/(p=0/\s%2=1)
 ·rw[if_pos hc,<-hF];refine yfd f F bias inf _ _ s E hF hb ha hE hEb hs hn hinf hbias hf htop ?_ ?_;all_goals
   generalize 10^(-(min (E-1) 0-1)).toNat*2^E.toNat=Y at *
   generalize s*Y=sY at *
   generalize ych (2*s+1) (E-1)*2^(-E).toNat=Z at *
   generalize ((ych (2*s+1) (E-1):Int)+p).toNat*2^(-E).toNat=Z2 at *
   generalize 2^(-E).toNat=q at *
   rcases hp with rfl | rfl | rfl <;> omega
 ·rw[if_neg hc,<-hF,Nat.add_zero];refine yfc f F bias inf _ _ s E hF hb ha hE hEb hs hn hinf hbias hf ?_ ?_;all_goals
   generalize 10^(-(min (E-1) 0-1)).toNat*2^E.toNat=Y at *
   generalize s*Y=sY at *
   generalize ych (2*s+1) (E-1)*2^(-E).toNat=Z at *
   generalize ((ych (2*s+1) (E-1):Int)+p).toNat*2^(-E).toNat=Z2 at *
   generalize 2^(-E).toNat=q at *
   rcases hp with rfl | rfl | rfl <;> omega
theorem yfa:5^1075<=10^752:=by decide +kernel
theorem yfo:2^971<=10^752:=by decide +kernel
theorem yfn (a:Nat) (e p:Int) (ha:a<=2^54) (h1:-1075<=e) (h2:e<=971) (hp:p<=1):((ych a e:Int)+p).toNat<10^771:=by
 have h4:(10:Nat)^17*10^752*10+1<10^771:=zp;have g1:=yfo;have g2:=yfa;generalize (10:Nat)^752=A at *
 generalize (10:Nat)^771=B at *
 have h:2^e.toNat*5^(-e).toNat<=A:=by
  by_cases h:0<=e
  ·rw[show (-e).toNat=0 by omega,Nat.pow_zero,Nat.mul_one];exact Nat.le_trans (Nat.pow_le_pow_right ze zd) g1
  ·rw[show e.toNat=0 by omega,Nat.pow_zero,Nat.one_mul];exact Nat.le_trans (Nat.pow_le_pow_right ze zd) g2
 have h3:ych a e<=10^17*A*10:=by
  unfold ych;rw[Nat.mul_assoc a];exact Nat.mul_le_mul_right _ (Nat.mul_le_mul (Nat.le_trans ha ze) h)
 generalize (10:Nat)^17*A*10=C at *
 omega
theorem ydo (a:Nat) (e p:Int) (ha:a<=2^54) (h1:-1075<=e) (h2:e<=971) (hp:p<=1):(ycp a e p).length<=800:=by
 have h:=yfn a e p ha h1 h2 hp;have hq:=yca (min e 0-1) zd zd;have hd:(ycg ((ych a e:Int)+p).toNat).length<=771:=by
  unfold ycg;split
  ·simp
  ·exact ycm _ 771 h
 unfold ycp;rw[List.length_append,List.length_cons];omega
theorem yc6 (a:Nat) (e p:Int) (h1:-2000<=e):∃ t,ul (ycp a e p)=some t/\t.kind=0/\t.neg=false/\
  ∀ (F:Nat) (bias:Int) (inf:Nat),1<=bias->bias<=1023->1<=F->bias+F<=1075->spB F bias inf t=nvT F bias inf 10 ((ych a e:Int)+p).toNat (min e 0-1):=by
 obtain⟨N,hN⟩:=zX (((ych a e:Int)+p).toNat);obtain⟨q,hq⟩:=zX (min e 0-1);obtain⟨d1,d2,d3⟩:=yds N;obtain⟨t,ht,hk,hn,hv⟩:=ydc false (ycg N) none q d3 d1 (fun c hc=>by cases hc) zd zd;have hs:ycp a e p=ycv false++(ycg N++(pT none++101::ycd q)):=by unfold ycp;rw[hN,hq];rfl
 have hpf:zd5 (ycg N++pF none)=N:=by show zd5 (ycg N++[])=N;rw[List.append_nil,d2]
 rw[hpf,show q-(((pF none).length:Nat):Int)=q from Int.sub_zero q]at hv;rw[hs,hN,hq];exact⟨t,ht,hk,hn,hv⟩
theorem mid64 (b:Nat) (p:Int) (hb:b<9218868437227405311) (hp:p=0\/p=1\/p=-1) {v k:Nat} (h:PaQ64 (ycp (2*m64 b+1) (e64 b-1) p) v k):k=0/\v=b+(if p=1\/(p=0/\b%2=1) then 1 else 0):=by
 have hx:=yay b zd;have hm:=yat b;have h1:=yau b;have h2:=yax b;obtain⟨t,ht,hk,hn,hv⟩:=yc6 (2*m64 b+1) (e64 b-1) p zd;have hv:=hv 52 1023 9218868437227405312 ze ze ze ze;unfold PaQ64 at h;rw[ht]at h;obtain⟨hv2,hk2⟩:=h.2.2 hk;rw[hv]at hv2 hk2;have hc1:e64 b=1-1023-52\/2^52<=m64 b:=by
  rw[show (2:Nat)^52=4503599627370496 by decide];split at h1
  ·rename_i h;rw[if_pos h]at h2;omega
  ·omega
 have hc2:m64 b+1<2^(52+1)\/e64 b+1<=1023-52:=by
  rw[show (2:Nat)^(52+1)=9007199254740992 by decide];split at h1
  ·rename_i h;rw[if_pos h]at h2;omega
  ·rename_i h;rw[if_neg h]at h2;omega
 rw[ydr 52 52 1023 9218868437227405312 (m64 b) (e64 b) p rfl zd zd hm hc1 ze ze ze hc2 hp]at hv2 hk2;have hpar:m64 b%2=b%2:=by split at h1 <;> omega
 have hres:(e64 b-(1-1023-52)).toNat*2^52+m64 b=b:=by
  rw[show (2:Nat)^52=4503599627370496 by decide];split at h1
  ·rename_i h;rw[if_pos h]at h2;omega
  ·rename_i h;rw[if_neg h]at h2;omega
 rw[hres,hpar]at hv2 hk2;generalize hj:(if p=1\/(p=0/\b%2=1) then 1 else 0)=j at *
 have hj1:j<=1:=by rw[<-hj];split <;> omega
 rw[if_neg zd]at hk2;rw[hn]at hv2;exact⟨hk2,by rw[hv2];exact Nat.zero_add _⟩
theorem mid32 (b:Nat) (p:Int) (hb:b<2139095039) (hp:p=0\/p=1\/p=-1) {v k:Nat} (h:PaQw (ycp (2*m32 b+1) (e32 b-1) p) v k):k=0/\v=zyo (b+(if p=1\/(p=0/\b%2=1) then 1 else 0)):=by
 have hx:=zsr b zd;have hm:=zsl b;have h1:=zv8 b;have h2:=zwp b;obtain⟨t,ht,hk,hn,hv⟩:=yc6 (2*m32 b+1) (e32 b-1) p zd;have hv:=hv 23 127 2139095040 ze ze ze ze;obtain⟨u,h,hw⟩:=h;unfold PaQ32 at h;rw[ht]at h;obtain⟨hv2,hk2⟩:=h.2.2 hk;rw[hv]at hv2 hk2;have hc1:e32 b=1-127-23\/2^23<=m32 b:=by
  rw[show (2:Nat)^23=8388608 by decide];split at h1
  ·rename_i h;rw[if_pos h]at h2;omega
  ·omega
 have hc2:m32 b+1<2^(23+1)\/e32 b+1<=127-23:=by
  rw[show (2:Nat)^(23+1)=16777216 by decide];split at h1
  ·rename_i h;rw[if_pos h]at h2;omega
  ·rename_i h;rw[if_neg h]at h2;omega
 rw[ydr 23 23 127 2139095040 (m32 b) (e32 b) p rfl zd zd hm hc1 ze ze ze hc2 hp]at hv2 hk2;have hpar:m32 b%2=b%2:=by split at h1 <;> omega
 have hres:(e32 b-(1-127-23)).toNat*2^23+m32 b=b:=by
  rw[show (2:Nat)^23=8388608 by decide];split at h1
  ·rename_i h;rw[if_pos h]at h2;omega
  ·rename_i h;rw[if_neg h]at h2;omega
 rw[hres,hpar]at hv2 hk2;generalize hj:(if p=1\/(p=0/\b%2=1) then 1 else 0)=j at *
 have hj1:j<=1:=by rw[<-hj];split <;> omega
 rw[if_neg zd]at hk2;rw[hn]at hv2;have hv3:u=b+j:=by rw[hv2];exact Nat.zero_add _
 refine⟨hk2,?_⟩;rw[<-hv3];exact zyg hw (by rintro⟨-,h⟩;omega)
section
attribute [local go_sem] undef
set_option maxRecDepth 100000 in
theorem zio (size:Int) (inf:Nat) (w:World) (h1:1<=inf) (h2:inf<18446744073709551616)
  (hI:∀ W,Calls Tryz.prog 35 #[.int .i64 size] W fun e w'=>e=.returned (.int .u64 (inf:Int))/\W=w'):
  Calls Tryz.prog 15 #[.int .i64 size] w fun e w'=>e=.returned (.int .u64 ((inf-1:Nat):Int))/\w=w':=by
 have HI:=zH hI;refine ye Tryz.func15 rfl (by rw[Tryz.ntmps15];simp) ?_;intro σ hσ;rw[Tryz.ntmps15];have s0:σ 0=.int .i64 size:=hσ 0 zi;clear hσ hI;(go_wp2_with fail;repeat ((first|refine cZ ?_|refine cW ?_);go_wp2_with fail));refine (HI.out _).mono ?_;rintro e w7 ⟨rfl,rfl⟩;have hwr:IntKind.u64.wrap ((inf:Int)-1)=((inf-1:Nat):Int):=by
  rw[show (inf:Int)-1=((inf-1:Nat):Int) by omega];exact zku _ zd
 (go_wp2_with fail;repeat ((first|refine cZ ?_|refine cW ?_);go_wp2_with fail));exact yl (.int .u64 ((inf-1:Nat):Int)) rfl ze zb ⟨rfl,rfl⟩
end
section
attribute [local go_sem] undef
set_option maxRecDepth 100000 in
theorem yct (T n:Nat) (w:World) (he:EnvP T w) (hn:n<18446744073709551616):
  Calls Tryz.prog 4 #[.int .u64 (n:Int)] w fun e w'=>e=.returned (.bool true)/\w.grownBy w' none:=by
 have HE:=zH he;clear he;obtain⟨b,hb⟩:=zX (n%9223372036854775808);have hb63:b<9223372036854775808:=by rw[<-hb];exact Nat.mod_lt _ zd
 have hand:bits .and .u64 (n:Int) 9223372036854775807=(b:Int):=by
  rw[<-hb];exact ybg n 63 9223372036854775807 ze zd hn
 clear hb;have hl1:(((9218868437227405312-1:Nat)):Int)=9218868437227405311:=ze;have HKD:=zH (fun W=>za7 b W zd);have HLG:=zH (fun W=>zio 64 9218868437227405312 W ze ze wy);rw[hl1]at HLG;clear hl1;refine ye Tryz.func4 rfl (by rw[Tryz.ntmps4];simp) ?_;intro σ hσ;rw[Tryz.ntmps4];have s0:σ 0=.int .u64 (n:Int):=hσ 0 zi;clear hσ;by_cases hk:b<9218868437227405312
 case neg=>
  obtain⟨k,hkk⟩:=zX (kn 9218868437227405312 9223372036854775808 b);have hk0:(k != 0)=true:=by rw[bne_iff_ne,<-hkk];exact fun h=>hk (by have:=zyu h;omega)
  rw[hkk]at HKD;clear hkk hk;(go_wp2_with fail;repeat ((first|refine cZ ?_|refine cW ?_);go_wp2_with fail));refine (HKD.out _).mono ?_;rintro e w1 ⟨rfl,rfl⟩;(go_wp2_with fail;repeat ((first|refine cZ ?_|refine cW ?_);go_wp2_with fail));exact yl (.bool true) rfl ze zb ⟨rfl,World.grownBy.refl w none⟩
 rw[zis (Nat.mod_eq_of_lt hb63) hk]at HKD;by_cases hL:b=9218868437227405311
 ·have eL:((b:Int)==9218868437227405311)=true:=zo;have eL2:(b==9218868437227405311)=true:=zo;clear hk hL;(go_wp2_with fail;repeat ((first|refine cZ ?_|refine cW ?_);go_wp2_with fail));refine (HKD.out _).mono ?_;rintro e w1 ⟨rfl,rfl⟩;(go_wp2_with fail;repeat ((first|refine cZ ?_|refine cW ?_);go_wp2_with fail));refine (HLG.out _).mono ?_;rintro e w1 ⟨rfl,rfl⟩;(go_wp2_with fail;repeat ((first|refine cZ ?_|refine cW ?_);go_wp2_with fail));exact yl (.bool true) rfl ze zb ⟨rfl,World.grownBy.refl w none⟩
 have eL:((b:Int)==9218868437227405311)=false:=zf;have eL2:(b==9218868437227405311)=false:=zf;have hbL:b<9218868437227405311:=zd;clear hk hL;have hm:=yau b;have hE:=yax b;rw[Nat.mod_eq_of_lt hb63]at hm hE;have hx:=yay b (by rw[Nat.mod_eq_of_lt hb63];omega);have hml:=yat b;have HMID:=zH (fun p v k (hp:p=0\/p=1\/p=-1) (h:PaQ64 (ycp (2*m64 b+1) (e64 b-1) p) v k)=>mid64 b p hbL hp h);have HLEN:=zH (fun p (hp:p<=1)=>ydo (2*m64 b+1) (e64 b-1) p zd zd zd hp);generalize m64 b=M at *
 generalize e64 b=E at *
 obtain⟨q,hq⟩:=zX (b / 4503599627370496);obtain⟨s,hs⟩:=zX (b%4503599627370496);rw[hq,hs]at hm;rw[hq]at hE;have hand2:bits .and .u64 (b:Int) 4503599627370495=(s:Int):=by rw[<-hs];exact ybg b 52 _ ze zd zd
 have hor:bits .or .u64 (s:Int) 4503599627370496=((s+4503599627370496:Nat):Int):=ydx s 52 zd zd;have hdv:∀ [Inhabited Nat],(b:Int) / 4503599627370496=(q:Int):=by intro _;omega
 have hdv2:∀ [Inhabited Nat],(b:Int) / 2^52=(q:Int):=by
  intro _;have h1:((2:Int)^52)=4503599627370496:=ze;rw[h1];omega
 have hcv:IntKind.i64.wrap (q:Int)=(q:Int):=IntWalk.i64_in _ zd;have hsb:IntKind.i64.wrap ((q:Int)-1075)=(q:Int)-1075:=IntWalk.i64_in _ zd;obtain⟨K,hK⟩:=zX (2*M+1);obtain⟨X,hX⟩:=zX (E-1);obtain⟨V,hV⟩:=zX (b+b%2);obtain⟨V1,hV1⟩:=zX (b+1);rw[hK,hX]at HMID HLEN;have k1:∀ [Inhabited Nat],IntKind.u64.wrap (2*(M:Int))=2*(M:Int):=by intro _;rw[IntKind.wrap_u64];omega
 have k2:∀ [Inhabited Nat],IntKind.u64.wrap (2*(M:Int)+1)=(K:Int):=by intro _;rw[IntKind.wrap_u64];omega
 have k3:∀ [Inhabited Nat],IntKind.i64.wrap (E-1)=X:=by intro _;rw[hX];exact IntWalk.i64_in _ zd
 have k4:∀ [Inhabited Nat],IntKind.u64.wrap ((b:Int)+(b:Int)%2)=(V:Int):=by intro _;rw[IntKind.wrap_u64];omega
 have k5:∀ [Inhabited Nat],IntKind.u64.wrap ((b:Int)+1)=(V1:Int):=by intro _;rw[IntKind.wrap_u64];omega
 have k6:∀ [Inhabited Nat],IntKind.u64.wrap ((b:Int)%2)=(b:Int)%2:=by intro _;rw[IntKind.wrap_u64];omega
 have HP0:=zH (show ∀ v k,PaQ64 (ycp K X 0) v k->k=0/\v=V from by
  intro v k h;obtain⟨e1,e2⟩:=HMID.out 0 v k (Or.inl rfl) h;refine⟨e1,?_⟩;rw[e2];by_cases h1:b%2=1
  ·rw[if_pos (Or.inr ⟨rfl,h1⟩)];omega
  ·rw[if_neg zd];omega)
 have HP1:=zH (show ∀ v k,PaQ64 (ycp K X (-1)) v k->k=0/\v=b from by
  intro v k h;obtain⟨e1,e2⟩:=HMID.out (-1) v k (Or.inr (Or.inr rfl)) h;refine⟨e1,?_⟩;rw[e2];rw[if_neg zd,Nat.add_zero])
 have HP2:=zH (show ∀ v k,PaQ64 (ycp K X 1) v k->k=0/\v=V1 from by
  intro v k h;obtain⟨e1,e2⟩:=HMID.out 1 v k (Or.inr (Or.inl rfl)) h;refine⟨e1,?_⟩;rw[e2];rw[if_pos (Or.inl rfl)];omega)
 have HNO:=zH (fun W=>ww K W zd);have HSC:=zH (fun v p W (hr:NatV W v K) (hp:p=0\/p=1\/p=-1)=>ycs v K X p W hr zd (Or.inl zd) zd zd hp);have HPF:=zH (fun S W (h:EnvP T W) (hs:S.length<=800)=>zhd T S W h hs);have HM:=zH hm;have HEE:=zH hE;have HV:=zH hV;have HV1:=zH hV1;clear hm hE hq hs hK hX hV hV1 hbL hx hml;(go_wp2_with fail;repeat ((first|refine cZ ?_|refine cW ?_);go_wp2_with fail));refine (HKD.out _).mono ?_;rintro e w1 ⟨rfl,rfl⟩;(go_wp2_with fail;repeat ((first|refine cZ ?_|refine cW ?_);go_wp2_with fail));refine (HLG.out _).mono ?_;rintro e w1 ⟨rfl,rfl⟩;(go_wp2_with fail;repeat ((first|refine cZ ?_|refine cW ?_);go_wp2_with fail));refine yr (fun s' w'=>s' 0=.int .u64 (b:Int)/\s' 3=.int .u64 (M:Int)/\s' 4=.int .i64 E/\w=w') ?_ ?_
 ·intro R' K' HR hK';by_cases hq0:q=0
  ·subst hq0;have h1:=HM.out;have h2:=HEE.out;rw[if_pos rfl]at h1 h2;subst h1;(go_wp2_with fail;repeat ((first|refine cZ ?_|refine cW ?_);go_wp2_with fail));exact got HR ⟨zb,zb,by rw[<-h2];simp[ov, *],rfl⟩
  ·have h1:=HM.out;have h2:=HEE.out;rw[if_neg hq0]at h1 h2;have e0:((q:Int)==0)=false:=zf;have e1:(q:Int)-1075=E:=zd;have e2:((s+4503599627370496:Nat):Int)=(M:Int):=zd;rw[e2]at hor;rw[e1]at hsb;clear hq0 h1 h2;(go_wp2_with fail;repeat ((first|refine cZ ?_|refine cW ?_);go_wp2_with fail));exact got HR ⟨zb,zb,zb,rfl⟩
 clear s0 hand hand2 hor hdv hdv2 hcv hsb eL eL2 HKD HLG HM HEE σ;rintro σ w1 ⟨s0,s3,s4,rfl⟩;(go_wp2_with fail;repeat ((first|refine cZ ?_|refine cW ?_);go_wp2_with fail));refine (HNO.out _).mono ?_;rintro e w1 ⟨v0,rfl,hv0,hg1⟩;have HV0:=zH hv0;have HG1:=zH hg1;clear hv0 hg1 HNO;(go_wp2_with fail;repeat ((first|refine cZ ?_|refine cW ?_);go_wp2_with fail));refine (HSC.out _ 0 _ (HV0.out.grown (World.grownBy.refl _ none)) (Or.inl rfl)).mono ?_;rintro e w2 ⟨rfl,hg2⟩;obtain⟨A0,hA0⟩:=zX (ycp K X 0);have hl0:=HLEN.out 0 zd;rw[hA0]at HP0 hl0 ⊢;have HG2:=zH (ym HG1.out hg2);have HC0:=zH (HPF.out A0 w2 (HE.out.grown HG2.out (fun _ e=>zL)) hl0);have HV0:=zH (HV0.out.grown hg2);have HS2:=zH hg2;clear hA0 hl0 hg2;(go_wp2_with fail;repeat ((first|refine cZ ?_|refine cW ?_);go_wp2_with fail));refine HC0.out.mono ?_;rintro e w3 ⟨⟨v,k,rfl,hp⟩,hg3⟩;obtain⟨rfl,hvv⟩:=HP0.out v k hp;rw[hvv];rw[show zp1 A0 0=[.int .i64 0,.string ⟨#[]⟩,.string ⟨#[]⟩] from rfl];clear hp hvv HC0 HP0;have HG3:=zH (ym HG2.out hg3);have HV0:=zH (HV0.out.grown hg3);have HS3:=zH hg3;obtain⟨B0,hB0⟩:=zX w3.heap.size;obtain⟨w4,hw4⟩:∃ w',w3.alloc (.cells #[.int .i64 0,.string ⟨#[]⟩,.string ⟨#[]⟩] 30)=w':=⟨_,rfl⟩;have g4:w3.grownBy w4 none:=zβg;have HG4:=zH (ym HG3.out g4);have HV0:=zH (HV0.out.grown g4);have HO0:=zH (show Row w4 B0 [.int .i64 0,.string ⟨#[]⟩,.string ⟨#[]⟩] by rw[<-hw4,<-hB0];exact Row.new w3 _ _);have HW4:=zH hw4;have HBE0:=zH hB0;clear hw4 hB0 hg3 g4;go_upto_region 12 with fail;rw[HW4.out,HBE0.out];clear HW4 HBE0;(go_wp2_with fail;repeat ((first|refine cZ ?_|refine cW ?_);go_wp2_with fail));refine (HSC.out _ (-1) _ HV0.out (Or.inr (Or.inr rfl))).mono ?_;rintro e w5 ⟨rfl,hg5⟩;obtain⟨A1,hA1⟩:=zX (ycp K X (-1));have hl1:=HLEN.out (-1) zd;rw[hA1]at HP1 hl1 ⊢;have HG5:=zH (ym HG4.out hg5);have HC1:=zH (HPF.out A1 w5 (HE.out.grown HG5.out (fun _ e=>zL)) hl1);have HV0:=zH (HV0.out.grown hg5);have HS5:=zH hg5;clear hA1 hl1 hg5;(go_wp2_with fail;repeat ((first|refine cZ ?_|refine cW ?_);go_wp2_with fail));refine HC1.out.mono ?_;rintro e w6 ⟨⟨v,k,rfl,hp⟩,hg6⟩;obtain⟨rfl,hvv⟩:=HP1.out v k hp;rw[hvv];rw[show zp1 A1 0=[.int .i64 0,.string ⟨#[]⟩,.string ⟨#[]⟩] from rfl];clear hp hvv HC1 HP1;have HG6:=zH (ym HG5.out hg6);have HV0:=zH (HV0.out.grown hg6);have HS6:=zH hg6;obtain⟨B1,hB1⟩:=zX w6.heap.size;obtain⟨w7,hw7⟩:∃ w',w6.alloc (.cells #[.int .i64 0,.string ⟨#[]⟩,.string ⟨#[]⟩] 30)=w':=⟨_,rfl⟩;have g7:w6.grownBy w7 none:=by rw[<-hw7];exact World.grownBy_alloc w6 _ none
 have HG7:=zH (ym HG6.out g7);have HV0:=zH (HV0.out.grown g7);have HO1:=zH (show Row w7 B1 [.int .i64 0,.string ⟨#[]⟩,.string ⟨#[]⟩] by rw[<-hw7,<-hB1];exact Row.new w6 _ _);have HO0:=zH (HO0.out.grown (ym (ym HS5.out HS6.out) g7) zi);have HW7:=zH hw7;have HBE1:=zH hB1;clear hw7 hB1 hg6 g7;go_upto_region 13 with fail;rw[HW7.out,HBE1.out];clear HW7 HBE1;(go_wp2_with fail;repeat ((first|refine cZ ?_|refine cW ?_);go_wp2_with fail));refine (HSC.out _ 1 _ HV0.out (Or.inr (Or.inl rfl))).mono ?_;rintro e w8 ⟨rfl,hg8⟩;obtain⟨A2,hA2⟩:=zX (ycp K X 1);have hl2:=HLEN.out 1 zd;rw[hA2]at HP2 hl2 ⊢;have HG8:=zH (ym HG7.out hg8);have HC2:=zH (HPF.out A2 w8 (HE.out.grown HG8.out (fun _ e=>zL)) hl2);have HV0:=zH (HV0.out.grown hg8);have HS8:=zH hg8;clear hA2 hl2 hg8;(go_wp2_with fail;repeat ((first|refine cZ ?_|refine cW ?_);go_wp2_with fail));refine HC2.out.mono ?_;rintro e w9 ⟨⟨v,k,rfl,hp⟩,hg9⟩;obtain⟨rfl,hvv⟩:=HP2.out v k hp;rw[hvv];rw[show zp1 A2 0=[.int .i64 0,.string ⟨#[]⟩,.string ⟨#[]⟩] from rfl];clear hp hvv HC2 HP2;have HG9:=zH (ym HG8.out hg9);have HV0:=zH (HV0.out.grown hg9);have HS9:=zH hg9;obtain⟨B2,hB2⟩:=zX w9.heap.size;obtain⟨w10,hw10⟩:∃ w',w9.alloc (.cells #[.int .i64 0,.string ⟨#[]⟩,.string ⟨#[]⟩] 30)=w':=⟨_,rfl⟩;have g10:w9.grownBy w10 none:=by rw[<-hw10];exact World.grownBy_alloc w9 _ none
 have HG10:=zH (ym HG9.out g10);have HV0:=zH (HV0.out.grown g10);have HO2:=zH (show Row w10 B2 [.int .i64 0,.string ⟨#[]⟩,.string ⟨#[]⟩] by rw[<-hw10,<-hB2];exact Row.new w9 _ _);have HO0:=zH (HO0.out.grown (ym (ym HS8.out HS9.out) g10) zi);have HO1:=zH (HO1.out.grown (ym (ym HS8.out HS9.out) g10) zi);have HW10:=zH hw10;have HBE2:=zH hB2;clear hw10 hB2 hg9 g10;go_upto_region 14 with fail;rw[HW10.out,HBE2.out];clear HW10 HBE2;have o0:=HO0.out.cell 0;simp only[List.getElem?_cons_zero,List.getElem?_cons_succ]at o0;have o1:=HO1.out.cell 0;simp only[List.getElem?_cons_zero,List.getElem?_cons_succ]at o1;have o2:=HO2.out.cell 0;simp only[List.getElem?_cons_zero,List.getElem?_cons_succ]at o2;(go_wp2_with fail;repeat ((first|refine cZ ?_|refine cW ?_);go_wp2_with fail));exact yl (.bool true) rfl ze zb ⟨rfl,HG10.out⟩
end
end Go.Proofs.YtocbeoomhlgnkaaGreatDoor
