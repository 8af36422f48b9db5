/- Lemmas that the claim's top text leans on. No condition of their own. -/
import Derived.Test.YtocbeoomhlgnkaaGreatDoorK40
import Derived.Test.YtocbeoomhlgnkaaGreatDoorK41
import Derived.Test.YtocbeoomhlgnkaaGreatDoorK39
import Derived.Test.YtocbeoomhlgnkaaGreatDoorK24
namespace Go.Proofs.YtocbeoomhlgnkaaGreatDoor
open Go.RowKit
set_option linter.unusedSimpArgs false
set_option linter.unusedVariables false
set_option maxHeartbeats 16000000
section
attribute [local go_sem] undef
theorem ze7 {fn:Func} {p:Tmp} {ty:TypeId} (h:fn.results=#[.cell p ty]) (tmps:Array Value) (P:Program) (w:World):
  (results fn tmps).run P w=((asAddr (tmps.getD p undef)).run P w).andThen fun a w₁=>(loadVar ty a).run P w₁:=by
 simp only[results,h];simp[Sem.run_bind,Result.andThen]
theorem vj {P:Program} {fn:Func} {R:Ending->World->Prop} {n:Nat} {env:List (Nat×Value)} {s:Nat->Value} {w:World} {p:Nat} {ty:TypeId} {B:Nat} (v:Value) (hr:fn.results=#[.cell p ty]) (hp:p<n) (hpv:over env s p=.pointer (Option.some ⟨B,0,Option.none⟩))
  (hl:(loadVar ty ⟨B,0,Option.none⟩).run P w=.ok v w) (hR:R (.returned v) w):bodyPost P fn R .ret (Fr n env s) w:=by
 refine bodyPost_ret (v:=v) ?_ (vz ..) hR;rw[ze7 hr,wa n env s p hp,hpv];simp[asAddr,hl,Result.andThen]
def zp1 (s:List UInt8) (k:Nat):List Value:=if k=0 then [.int .i64 0,.string ⟨#[]⟩,.string ⟨#[]⟩] else [.int .i64 (k:Int),.string wn,.string ⟨s.toArray⟩]
def fauZ:List Value:=[.int .i64 0,.string ⟨#[]⟩,.string ⟨#[]⟩]
theorem zsz (v:Value) (xT:TypeId) (w:World):(Instr.typeAssert (.iface 82 v) xT 82 true).run Tryz.prog w=.ok (.tuple #[v,.bool true]) w:=by kernel_rfl
set_option maxRecDepth 100000 in
theorem zos (w:World):Calls Tryz.prog 38 #[.nilIface] w fun e w'=>e=.returned (.agg fauZ.toArray)/\w.grownBy w' none:=by
 refine ye Tryz.func38 rfl (by rw[Tryz.ntmps38];simp) ?_;intro σ hσ;rw[Tryz.ntmps38];have s0:σ 0=.nilIface:=hσ 0 zi;clear hσ;obtain⟨w1,hw1⟩:=zX (w.alloc (.cells fauZ.toArray 30));have hrB:=Row.new w fauZ 30;have hgB:=World.grownBy_alloc w (.cells fauZ.toArray 30) none;rw[hw1]at hrB hgB;unfold fauZ at hw1;have HRB:=zH hrB;have HGB:=zH hgB;clear hrB hgB;obtain⟨B,hB⟩:=zX w.heap.size;rw[hB]at HRB;have k0:=HRB.out.cell 0;have k1:=HRB.out.cell 1;have k2:=HRB.out.cell 2;have t0:=HRB.out.frozen 0;have t1:=HRB.out.frozen 1;have t2:=HRB.out.frozen 2;unfold fauZ at k0 k1 k2;simp only[List.getElem?_cons_zero,List.getElem?_cons_succ]at k0 k1 k2;have HB:=zH hB;go_upto_region 1 with fail;clear hw1 hB;(go_wp2_with fail;repeat ((first|refine cZ ?_|refine cW ?_);go_wp2_with fail));obtain⟨ty,hrow⟩:=((HRB.out.setCell 0 (.int .i64 0)).setCell 1 (.string ⟨#[]⟩)).setCell 2 (.string ⟨#[]⟩);have hBw:w.heap.size<=B:=by have:=HB.out;omega
 refine vj (B:=B) (.agg fauZ.toArray) rfl ze zb ?_ ⟨rfl,yb (yb (yb HGB.out _ hBw) _ hBw) _ hBw⟩;exact run_loadVar_row (P:=Tryz.prog) _ B ty 30 _ (0,0) _ hrow Tryz.underlying30 rfl zg 
end
section
attribute [local go_sem] undef
theorem ErrN.grown {w w':World} {s:List UInt8} {k N:Nat} (h:ErrN w s k N) (hg:w.grownBy w' none):ErrN w' s k N:=by
 obtain⟨x,h1,h2⟩:=h;exact⟨x,hg.cell h1 zi,(hg.block N (by obtain⟨hlt,-⟩:=Array.getElem?_eq_some_iff.1 h2;exact hlt) zi).trans h2⟩
theorem zbb {w:World} {N:Nat} {xs:List Value} {t:TypeId} (h:w.heap[N]?=some (.cells xs.toArray t (0,0))) (i:Nat):w.cell? ⟨N,i,none⟩=xs[i]?:=
 Row.cell (xs:=xs) ⟨t,h⟩ i
theorem is_S {T:Nat} {s:List UInt8} {k N:Nat} {w:World} (he:EnvP T w) (hn:ErrN w s k N) (hk:k=1\/k=2):∃ a:Addr,w.cell? ⟨1,0,none⟩=some (.iface 155 (.pointer (some a)))/\
  Calls Tryz.prog 58 #[.iface 82 (.pointer (some ⟨N,0,none⟩)),.iface 155 (.pointer (some a))] w fun e w'=>e=.returned (.bool (decide (k=1)))/\w'=w:=by
 obtain⟨aS,aR,cS,cR,tS,tR,h1,h2,h3,h4,h5,h6,h7⟩:=he.errs;obtain⟨x,hx,hN⟩:=hn;have hc:=zbb (xs:=[.string wn,.string ⟨s.toArray⟩,x]) hN 2;simp only[List.getElem?_cons_zero,List.getElem?_cons_succ]at hc;refine⟨aS,h4,?_⟩;rcases hk with rfl | rfl
 ·rw[if_pos rfl,h4]at hx;cases hx;exact zdf N aS w hc
 ·rw[if_neg ze,h5]at hx;cases hx;exact zbv N aR aS cR cS tR tS w hc h3.symm h7 h6
theorem is_R {T:Nat} {s:List UInt8} {k N:Nat} {w:World} (he:EnvP T w) (hn:ErrN w s k N) (hk:k=1\/k=2):∃ a:Addr,w.cell? ⟨2,0,none⟩=some (.iface 155 (.pointer (some a)))/\
  Calls Tryz.prog 58 #[.iface 82 (.pointer (some ⟨N,0,none⟩)),.iface 155 (.pointer (some a))] w fun e w'=>e=.returned (.bool (decide (k=2)))/\w'=w:=by
 obtain⟨aS,aR,cS,cR,tS,tR,h1,h2,h3,h4,h5,h6,h7⟩:=he.errs;obtain⟨x,hx,hN⟩:=hn;have hc:=zbb (xs:=[.string wn,.string ⟨s.toArray⟩,x]) hN 2;simp only[List.getElem?_cons_zero,List.getElem?_cons_succ]at hc;refine⟨aR,h5,?_⟩;rcases hk with rfl | rfl
 ·rw[if_pos rfl,h4]at hx;cases hx;exact zbv N aS aR cS cR tS tR w hc h3 h6 h7
 ·rw[if_neg ze,h5]at hx;cases hx;exact zdf N aR w hc
set_option maxRecDepth 100000 in
theorem zlz (T N:Nat) (s:List UInt8) (w:World) (he:EnvP T w) (hn:ErrN w s 1 N):Calls Tryz.prog 38 #[.iface 82 (.pointer (some ⟨N,0,none⟩))] w fun e w'=>e=.returned (.agg (zp1 s 1).toArray)/\w.grownBy w' none:=by
 refine ye Tryz.func38 rfl (by rw[Tryz.ntmps38];simp) ?_;intro σ hσ;rw[Tryz.ntmps38];have s0:σ 0=.iface 82 (.pointer (some ⟨N,0,none⟩)):=hσ 0 zi;clear hσ;have has:=zsz;obtain⟨B,hB⟩:=zX w.heap.size;obtain⟨W1,hW1⟩:=zX (w.alloc (.cells fauZ.toArray 30));have g1:w.grownBy W1 none:=zαe;have r1:Row W1 B fauZ:=zβi;obtain⟨B2,hB2⟩:=zX W1.heap.size;have hlt:B<B2:=by rw[<-hB2];exact r1.lt
 obtain⟨W2,hW2⟩:=zX (W1.alloc (.cells fauZ.toArray 30));have g2:w.grownBy W2 none:=by rw[<-hW2];exact ym g1 (World.grownBy_alloc W1 _ none)
 have r2:Row W2 B fauZ:=by rw[<-hW2];exact r1.alloc _
 have q2:Row W2 B2 fauZ:=by rw[<-hW2,<-hB2];exact Row.new W1 fauZ 30
 obtain⟨W3,hW3⟩:=zX (((W2.setCell ⟨B2,0,none⟩ (.int .i64 3)).setCell ⟨B2,1,none⟩ (.string ⟨#[]⟩)).setCell ⟨B2,2,none⟩ (.string ⟨#[]⟩));have hs1:w.heap.size<=B:=zd;have hs2:w.heap.size<=B2:=zd;have g3:w.grownBy W3 none:=zZ;have hne:B≠B2:=zd;have hne2:B2≠B:=zd;have r3:Row W3 B fauZ:=zP;have q3:Row W3 B2 [.int .i64 3,.string ⟨#[]⟩,.string ⟨#[]⟩]:=zB;obtain⟨W4,hW4⟩:=zX (W3.setCell ⟨B2,0,none⟩ (.int .i64 1));have g4:w.grownBy W4 none:=by rw[<-hW4];exact yb g3 _ hs2
 have r4:Row W4 B fauZ:=by rw[<-hW4];exact r3.setCell_other hne _
 have q4:Row W4 B2 [.int .i64 1,.string ⟨#[]⟩,.string ⟨#[]⟩]:=by rw[<-hW4];exact q3.setCell 0 (.int .i64 1)
 obtain⟨W5,hW5⟩:=zX (W4.setCell ⟨B2,1,none⟩ (.string wn));have g5:w.grownBy W5 none:=by rw[<-hW5];exact yb g4 _ hs2
 have r5:Row W5 B fauZ:=by rw[<-hW5];exact r4.setCell_other hne _
 have q5:Row W5 B2 [.int .i64 1,.string wn,.string ⟨#[]⟩]:=by rw[<-hW5];exact q4.setCell 1 (.string wn)
 obtain⟨W6,hW6⟩:=zX (W5.setCell ⟨B2,2,none⟩ (.string ⟨s.toArray⟩));have g6:w.grownBy W6 none:=by rw[<-hW6];exact yb g5 _ hs2
 have r6:Row W6 B fauZ:=by rw[<-hW6];exact r5.setCell_other hne _
 have q6:Row W6 B2 [.int .i64 1,.string wn,.string ⟨s.toArray⟩]:=by rw[<-hW6];exact q5.setCell 2 (.string ⟨s.toArray⟩)
 have hl6:(loadVar 30 ⟨B2,0,none⟩).run Tryz.prog W6=.ok (.agg #[.int .i64 1,.string wn,.string ⟨s.toArray⟩]) W6:=by
  obtain⟨ty,hrow⟩:=q6;exact run_loadVar_row (P:=Tryz.prog) _ B2 ty 30 _ (0,0) _ hrow Tryz.underlying30 rfl zg
 have n4:W4.cell? ⟨N,0,none⟩=some (.string wn):=by
  obtain⟨x,-,h⟩:=hn.grown g4;exact zbb (xs:=[.string wn,.string ⟨s.toArray⟩,x]) h 0
 have n5:W5.cell? ⟨N,1,none⟩=some (.string ⟨s.toArray⟩):=by
  obtain⟨x,-,h⟩:=hn.grown g5;exact zbb (xs:=[.string wn,.string ⟨s.toArray⟩,x]) h 1
 obtain⟨aS,hcS,hIS⟩:=is_S (he.grown g3 (fun _ e=>zL)) (hn.grown g3) ze;obtain⟨aR,hcR,hIR⟩:=is_R (he.grown g4 (fun _ e=>zL)) (hn.grown g4) ze;have HIS:=zH hIS;have HIR:=zH hIR;have G6:=zH g6;have R6:=zH r6;have HS1:=zH hs1;have HN:=zH hne;have k0:=q2.cell 0;have k1:=q2.cell 1;have k2:=q2.cell 2;have t0:=q2.frozen 0;have t1:=q2.frozen 1;have t2:=q2.frozen 2;have c3:=q3.cell 0;have f3:=q3.frozen 0;have c4:=q4.cell 1;have f4:=q4.frozen 1;have c5:=q5.cell 2;have f5:=q5.frozen 2;have d0:=q6.cell 0;have d1:=q6.cell 1;have d2:=q6.cell 2;have j0:=r6.cell 0;have j1:=r6.cell 1;have j2:=r6.cell 2;have u0:=r6.frozen 0;have u1:=r6.frozen 1;have u2:=r6.frozen 2;unfold fauZ at k0 k1 k2 j0 j1 j2 hW1 hW2;simp only[List.getElem?_cons_zero,List.getElem?_cons_succ]at k0 k1 k2 c3 c4 c5 d0 d1 d2 j0 j1 j2;clear he hn g1 g2 g3 g4 g5 g6 r1 r2 r3 r4 r5 r6 q2 q3 q4 q5 q6 hIS hIR hs1 hs2 hne hne2 hlt;(go_wp2_with fail;repeat ((first|refine cZ ?_|refine cW ?_);go_wp2_with fail));refine HIS.out.mono ?_;rintro e w9 ⟨rfl,hw9⟩;subst w9;(go_wp2_with fail;repeat ((first|refine cZ ?_|refine cW ?_);go_wp2_with fail));refine HIR.out.mono ?_;rintro e w9 ⟨rfl,hw9⟩;subst w9;(go_wp2_with fail;repeat ((first|refine cZ ?_|refine cW ?_);go_wp2_with fail));obtain⟨ty,hrow⟩:=((R6.out.setCell 0 (.int .i64 1)).setCell 1 (.string wn)).setCell 2 (.string ⟨s.toArray⟩);refine vj (B:=B) (.agg (zp1 s 1).toArray) rfl ze zb ?_ ⟨rfl,yb (yb (yb G6.out _ HS1.out) _ HS1.out) _ HS1.out⟩;exact run_loadVar_row (P:=Tryz.prog) _ B ty 30 _ (0,0) _ hrow Tryz.underlying30 rfl zg
set_option maxRecDepth 100000 in
theorem zly (T N:Nat) (s:List UInt8) (w:World) (he:EnvP T w) (hn:ErrN w s 2 N):Calls Tryz.prog 38 #[.iface 82 (.pointer (some ⟨N,0,none⟩))] w fun e w'=>e=.returned (.agg (zp1 s 2).toArray)/\w.grownBy w' none:=by
 refine ye Tryz.func38 rfl (by rw[Tryz.ntmps38];simp) ?_;intro σ hσ;rw[Tryz.ntmps38];have s0:σ 0=.iface 82 (.pointer (some ⟨N,0,none⟩)):=hσ 0 zi;clear hσ;have has:=zsz;obtain⟨B,hB⟩:=zX w.heap.size;obtain⟨W1,hW1⟩:=zX (w.alloc (.cells fauZ.toArray 30));have g1:w.grownBy W1 none:=zαe;have r1:Row W1 B fauZ:=zβi;obtain⟨B2,hB2⟩:=zX W1.heap.size;have hlt:B<B2:=by rw[<-hB2];exact r1.lt
 obtain⟨W2,hW2⟩:=zX (W1.alloc (.cells fauZ.toArray 30));have g2:w.grownBy W2 none:=by rw[<-hW2];exact ym g1 (World.grownBy_alloc W1 _ none)
 have r2:Row W2 B fauZ:=by rw[<-hW2];exact r1.alloc _
 have q2:Row W2 B2 fauZ:=by rw[<-hW2,<-hB2];exact Row.new W1 fauZ 30
 obtain⟨W3,hW3⟩:=zX (((W2.setCell ⟨B2,0,none⟩ (.int .i64 3)).setCell ⟨B2,1,none⟩ (.string ⟨#[]⟩)).setCell ⟨B2,2,none⟩ (.string ⟨#[]⟩));have hs1:w.heap.size<=B:=zd;have hs2:w.heap.size<=B2:=zd;have g3:w.grownBy W3 none:=zZ;have hne:B≠B2:=zd;have hne2:B2≠B:=zd;have r3:Row W3 B fauZ:=zP;have q3:Row W3 B2 [.int .i64 3,.string ⟨#[]⟩,.string ⟨#[]⟩]:=zB;obtain⟨W4,hW4⟩:=zX (W3.setCell ⟨B2,0,none⟩ (.int .i64 2));have g4:w.grownBy W4 none:=by rw[<-hW4];exact yb g3 _ hs2
 have r4:Row W4 B fauZ:=by rw[<-hW4];exact r3.setCell_other hne _
 have q4:Row W4 B2 [.int .i64 2,.string ⟨#[]⟩,.string ⟨#[]⟩]:=by rw[<-hW4];exact q3.setCell 0 (.int .i64 2)
 obtain⟨W5,hW5⟩:=zX (W4.setCell ⟨B2,1,none⟩ (.string wn));have g5:w.grownBy W5 none:=by rw[<-hW5];exact yb g4 _ hs2
 have r5:Row W5 B fauZ:=by rw[<-hW5];exact r4.setCell_other hne _
 have q5:Row W5 B2 [.int .i64 2,.string wn,.string ⟨#[]⟩]:=by rw[<-hW5];exact q4.setCell 1 (.string wn)
 obtain⟨W6,hW6⟩:=zX (W5.setCell ⟨B2,2,none⟩ (.string ⟨s.toArray⟩));have g6:w.grownBy W6 none:=by rw[<-hW6];exact yb g5 _ hs2
 have r6:Row W6 B fauZ:=by rw[<-hW6];exact r5.setCell_other hne _
 have q6:Row W6 B2 [.int .i64 2,.string wn,.string ⟨s.toArray⟩]:=by rw[<-hW6];exact q5.setCell 2 (.string ⟨s.toArray⟩)
 have hl6:(loadVar 30 ⟨B2,0,none⟩).run Tryz.prog W6=.ok (.agg #[.int .i64 2,.string wn,.string ⟨s.toArray⟩]) W6:=by
  obtain⟨ty,hrow⟩:=q6;exact run_loadVar_row (P:=Tryz.prog) _ B2 ty 30 _ (0,0) _ hrow Tryz.underlying30 rfl zg
 have n4:W4.cell? ⟨N,0,none⟩=some (.string wn):=by
  obtain⟨x,-,h⟩:=hn.grown g4;exact zbb (xs:=[.string wn,.string ⟨s.toArray⟩,x]) h 0
 have n5:W5.cell? ⟨N,1,none⟩=some (.string ⟨s.toArray⟩):=by
  obtain⟨x,-,h⟩:=hn.grown g5;exact zbb (xs:=[.string wn,.string ⟨s.toArray⟩,x]) h 1
 obtain⟨aS,hcS,hIS⟩:=is_S (he.grown g3 (fun _ e=>zL)) (hn.grown g3) ze;obtain⟨aR,hcR,hIR⟩:=is_R (he.grown g3 (fun _ e=>zL)) (hn.grown g3) ze;have HIS:=zH hIS;have HIR:=zH hIR;have G6:=zH g6;have R6:=zH r6;have HS1:=zH hs1;have HN:=zH hne;have k0:=q2.cell 0;have k1:=q2.cell 1;have k2:=q2.cell 2;have t0:=q2.frozen 0;have t1:=q2.frozen 1;have t2:=q2.frozen 2;have c3:=q3.cell 0;have f3:=q3.frozen 0;have c4:=q4.cell 1;have f4:=q4.frozen 1;have c5:=q5.cell 2;have f5:=q5.frozen 2;have d0:=q6.cell 0;have d1:=q6.cell 1;have d2:=q6.cell 2;have j0:=r6.cell 0;have j1:=r6.cell 1;have j2:=r6.cell 2;have u0:=r6.frozen 0;have u1:=r6.frozen 1;have u2:=r6.frozen 2;unfold fauZ at k0 k1 k2 j0 j1 j2 hW1 hW2;simp only[List.getElem?_cons_zero,List.getElem?_cons_succ]at k0 k1 k2 c3 c4 c5 d0 d1 d2 j0 j1 j2;clear he hn g1 g2 g3 g4 g5 g6 r1 r2 r3 r4 r5 r6 q2 q3 q4 q5 q6 hIS hIR hs1 hs2 hne hne2 hlt;(go_wp2_with fail;repeat ((first|refine cZ ?_|refine cW ?_);go_wp2_with fail));refine HIS.out.mono ?_;rintro e w9 ⟨rfl,hw9⟩;subst w9;(go_wp2_with fail;repeat ((first|refine cZ ?_|refine cW ?_);go_wp2_with fail));refine HIR.out.mono ?_;rintro e w9 ⟨rfl,hw9⟩;subst w9;(go_wp2_with fail;repeat ((first|refine cZ ?_|refine cW ?_);go_wp2_with fail));obtain⟨ty,hrow⟩:=((R6.out.setCell 0 (.int .i64 2)).setCell 1 (.string wn)).setCell 2 (.string ⟨s.toArray⟩);refine vj (B:=B) (.agg (zp1 s 2).toArray) rfl ze zb ?_ ⟨rfl,yb (yb (yb G6.out _ HS1.out) _ HS1.out) _ HS1.out⟩;exact run_loadVar_row (P:=Tryz.prog) _ B ty 30 _ (0,0) _ hrow Tryz.underlying30 rfl zg
theorem ziz (T:Nat) (s:List UInt8) (k:Nat) (ev:Value) (w:World) (he:EnvP T w) (hq:ya1 w s k ev):
  Calls Tryz.prog 38 #[ev] w fun e w'=>e=.returned (.agg (zp1 s k).toArray)/\w.grownBy w' none:=by
 rcases hq with⟨rfl,rfl⟩ | ⟨hk,N,rfl,hn⟩
 ·exact zos w
 ·rcases hk with rfl | rfl
  ·exact zlz T N s w he hn
  ·exact zly T N s w he hn
end
section
attribute [local go_sem] undef
theorem zot (b:Nat) (hb:b<18446744073709551616) (w:World):(callFunc 37 #[.float .f64 b]).run Tryz.prog w=.ok (.value (.int .u64 (b:Int))) w:=by kernel_rfl
theorem zb4 {fn:Func} {p u:Tmp} {ty:TypeId} (h:fn.results=#[.tmp u,.cell p ty]) (tmps:Array Value) (P:Program) (w:World):
  (results fn tmps).run P w=((asAddr (tmps.getD p undef)).run P w).andThen fun a w₁=>((loadVar ty a).run P w₁).andThen fun v w₂=>.ok (.tuple #[tmps.getD u undef,v]) w₂:=by
 simp only[results,h];simp[Sem.run_bind,Result.andThen]
theorem zqm {P:Program} {fn:Func} {R:Ending->World->Prop} {n:Nat} {env:List (Nat×Value)} {s:Nat->Value} {w:World} {p u:Nat} {ty:TypeId} {B:Nat} (x v:Value) (hr:fn.results=#[.tmp u,.cell p ty]) (hu:u<n) (hp:p<n) (hx:over env s u=x) (hpv:over env s p=.pointer (Option.some ⟨B,0,Option.none⟩))
  (hl:(loadVar ty ⟨B,0,Option.none⟩).run P w=.ok v w) (hR:R (.returned (.tuple #[x,v])) w):bodyPost P fn R .ret (Fr n env s) w:=by
 refine bodyPost_ret (v:=.tuple #[x,v]) ?_ (vz ..) hR;rw[zb4 hr,wa n env s p hp,wa n env s u hu,hpv,hx];simp[asAddr,hl,Result.andThen]
theorem zwh (s:List UInt8) (k:Nat):∃ (a:Int) (b c:ByteArray),zp1 s k=[.int .i64 a,.string b,.string c]:=by unfold zp1;split <;> exact⟨_,_,_,rfl⟩
theorem zvp (F:Nat) (bias:Int) (inf b:Nat) (l:List Nat) (x:Int) (hbias:1<=bias) (hinf:inf=(2*bias+1).toNat*2^F):spN F bias inf b l x<=inf:=by
 unfold spN;split
 ·omega
 ·split
  ·exact Nat.le_refl _
  ·exact ud F bias inf _ _ (qg _ (by unfold yfj;split <;> decide)) hbias hinf
theorem zjr (t:Txt):spB 52 1023 9218868437227405312 t<=9218868437227405312:=zvp 52 1023 _ _ _ _ ze rfl
theorem zz1 (t:Txt):spB 23 127 2139095040 t<=2139095040:=zvp 23 127 _ _ _ _ ze rfl
theorem PaQ64.lt {s:List UInt8} {v k:Nat} (h:PaQ64 s v k):v<18446744073709551616:=by
 unfold PaQ64 at h;split at h
 ·omega
 ·rename_i t ht;obtain⟨h0,h1,h2⟩:=h;rcases za0 ht with e | e | e
  ·have:=(h2 e).1;have h3:=zjr t;have h4:sgB t.neg<=9223372036854775808:=by unfold sgB;split <;> omega
   omega
  ·rw[(h1 e).1];cases t.neg <;> decide
  ·exact (h0 e).1.2
theorem PaQw.lt {s:List UInt8} {v k:Nat} (h:PaQw s v k):v<18446744073709551616:=by
 obtain⟨v,-,⟨-,h⟩ | ⟨-,-,h,-⟩⟩:=h
 ·exact h.1
 ·exact h
set_option maxRecDepth 100000 in
theorem zhd (T:Nat) (s:List UInt8) (w:World) (he:EnvP T w) (hs:s.length<=800):
  Calls Tryz.prog 20 #[.string ⟨s.toArray⟩] w fun e w'=>(∃ v k:Nat,e=.returned (.tuple #[.int .u64 (v:Int),.agg (zp1 s k).toArray])/\PaQ64 s v k)/\w.grownBy w' none:=by
 refine ye Tryz.func20 rfl (by rw[Tryz.ntmps20];simp) ?_;intro σ hσ;rw[Tryz.ntmps20];have s0:σ 0=.string ⟨s.toArray⟩:=hσ 0 zi;clear hσ;obtain⟨B,hB⟩:=zX w.heap.size;obtain⟨W1,hW1⟩:=zX (w.alloc (.cells fauZ.toArray 30));have g1:w.grownBy W1 none:=zαe;have r1:Row W1 B fauZ:=zβi;have HAT:=zH (zgr T s W1 (he.grown g1 (fun _ e=>zL)) hs);have hs1:w.heap.size<=B:=zd;have HB:=zH hs1;have G1:=zH g1;have R1:=zH r1;have HE:=zH he;unfold fauZ at hW1;clear hs1 g1 r1 he;(go_wp2_with fail;repeat ((first|refine cZ ?_|refine cW ?_);go_wp2_with fail));refine HAT.out.mono ?_;rintro e w2 ⟨⟨v,k,ev,rfl,hp,hq⟩,hg2⟩;clear hW1;have hv:v<18446744073709551616:=hp.lt;have hf:=fun W=>zot v hv W
 have HFO:=zH (ziz T s k ev w2 (HE.out.grown (ym G1.out hg2) (fun _ e=>zL)) hq);have G2:=zH (ym G1.out hg2);have R2:=zH (R1.out.grown hg2 zi);have HP:=zH hp;clear hp hq hg2 hv HAT HE R1 G1;(go_wp2_with fail;repeat ((first|refine cZ ?_|refine cW ?_);go_wp2_with fail));refine HFO.out.mono ?_;rintro e w3 ⟨rfl,hg3⟩;have G3:=zH (ym G2.out hg3);have R3:=zH (R2.out.grown hg3 zi);obtain⟨fa,fb,fc,hfa⟩:=zwh s k;have HF:=zH hfa;rw[hfa];have k0:=R3.out.cell 0;have k1:=R3.out.cell 1;have k2:=R3.out.cell 2;have u0:=R3.out.frozen 0;have u1:=R3.out.frozen 1;have u2:=R3.out.frozen 2;unfold fauZ at k0 k1 k2;simp only[List.getElem?_cons_zero,List.getElem?_cons_succ]at k0 k1 k2;clear hg3 hfa;(go_wp2_with fail;repeat ((first|refine cZ ?_|refine cW ?_);go_wp2_with fail));obtain⟨ty,hrow⟩:=((R3.out.setCell 0 (.int .i64 fa)).setCell 1 (.string fb)).setCell 2 (.string fc);refine zqm (B:=B) (.int .u64 (v:Int)) (.agg #[.int .i64 fa,.string fb,.string fc]) rfl ze ze zb zb ?_ ⟨⟨v,k,by rw[HF.out],HP.out⟩,yb (yb (yb G3.out _ HB.out) _ HB.out) _ HB.out⟩;exact run_loadVar_row (P:=Tryz.prog) _ B ty 30 _ (0,0) _ hrow Tryz.underlying30 rfl zg
set_option maxRecDepth 100000 in
theorem zxw (T:Nat) (s:List UInt8) (w:World) (he:EnvP T w) (hs:s.length<=800):
  Calls Tryz.prog 17 #[.string ⟨s.toArray⟩] w fun e w'=>(∃ v k:Nat,e=.returned (.tuple #[.int .u64 (v:Int),.agg (zp1 s k).toArray])/\PaQw s v k)/\w.grownBy w' none:=by
 refine ye Tryz.func17 rfl (by rw[Tryz.ntmps17];simp) ?_;intro σ hσ;rw[Tryz.ntmps17];have s0:σ 0=.string ⟨s.toArray⟩:=hσ 0 zi;clear hσ;obtain⟨B,hB⟩:=zX w.heap.size;obtain⟨W1,hW1⟩:=zX (w.alloc (.cells fauZ.toArray 30));have g1:w.grownBy W1 none:=zαe;have r1:Row W1 B fauZ:=zβi;have HAT:=zH (zyq T s W1 (he.grown g1 (fun _ e=>zL)) hs);have hs1:w.heap.size<=B:=zd;have HB:=zH hs1;have G1:=zH g1;have R1:=zH r1;have HE:=zH he;unfold fauZ at hW1;clear hs1 g1 r1 he;(go_wp2_with fail;repeat ((first|refine cZ ?_|refine cW ?_);go_wp2_with fail));refine HAT.out.mono ?_;rintro e w2 ⟨⟨v,k,ev,rfl,hp,hq⟩,hg2⟩;clear hW1;have hv:v<18446744073709551616:=hp.lt;have hf:=fun W=>zot v hv W
 have HFO:=zH (ziz T s k ev w2 (HE.out.grown (ym G1.out hg2) (fun _ e=>zL)) hq);have G2:=zH (ym G1.out hg2);have R2:=zH (R1.out.grown hg2 zi);have HP:=zH hp;clear hp hq hg2 hv HAT HE R1 G1;(go_wp2_with fail;repeat ((first|refine cZ ?_|refine cW ?_);go_wp2_with fail));refine HFO.out.mono ?_;rintro e w3 ⟨rfl,hg3⟩;have G3:=zH (ym G2.out hg3);have R3:=zH (R2.out.grown hg3 zi);obtain⟨fa,fb,fc,hfa⟩:=zwh s k;have HF:=zH hfa;rw[hfa];have k0:=R3.out.cell 0;have k1:=R3.out.cell 1;have k2:=R3.out.cell 2;have u0:=R3.out.frozen 0;have u1:=R3.out.frozen 1;have u2:=R3.out.frozen 2;unfold fauZ at k0 k1 k2;simp only[List.getElem?_cons_zero,List.getElem?_cons_succ]at k0 k1 k2;clear hg3 hfa;(go_wp2_with fail;repeat ((first|refine cZ ?_|refine cW ?_);go_wp2_with fail));obtain⟨ty,hrow⟩:=((R3.out.setCell 0 (.int .i64 fa)).setCell 1 (.string fb)).setCell 2 (.string fc);refine zqm (B:=B) (.int .u64 (v:Int)) (.agg #[.int .i64 fa,.string fb,.string fc]) rfl ze ze zb zb ?_ ⟨⟨v,k,by rw[HF.out],HP.out⟩,yb (yb (yb G3.out _ HB.out) _ HB.out) _ HB.out⟩;exact run_loadVar_row (P:=Tryz.prog) _ B ty 30 _ (0,0) _ hrow Tryz.underlying30 rfl zg 
end
theorem ztp (t:Txt):spG 9218868437227405312 xd t=spB 52 1023 9218868437227405312 t:=rfl
theorem yag (t:Txt):spG 2139095040 zxq t=spB 23 127 2139095040 t:=rfl
theorem zv1 {inf sg:Nat} {nb:Nat->Nat->Nat} {r:Txt} (e:r.kind=0):zqq inf sg nb r=spG inf nb r+(if r.neg then sg else 0):=by
 unfold zqq;rw[if_neg zαW,if_neg zαW]
theorem zv0 {inf sg:Nat} {nb:Nat->Nat->Nat} {r:Txt} (e:r.kind=1):zqq inf sg nb r=inf+(if r.neg then sg else 0):=by
 unfold zqq;rw[if_pos e]
theorem zvz {inf sg:Nat} {nb:Nat->Nat->Nat} {r:Txt} (e:r.kind=2):zqq inf sg nb r=inf+1:=by
 unfold zqq;rw[if_neg zαW,if_pos e]
theorem yar {inf:Nat} {nb:Nat->Nat->Nat} {r:Txt} (e:r.kind=0):ovP inf nb r=(spG inf nb r==inf):=by
 unfold ovP;rw[e];simp
theorem zv2 {inf:Nat} {nb:Nat->Nat->Nat} {r:Txt} (e:r.kind≠0):ovP inf nb r=false:=by
 unfold ovP;simp[e]
theorem zrc {s:List UInt8} {v k:Nat} (h:PaQ64 s v k):k=zig s/\(k≠1->v=zdy s\/(kn 9218868437227405312 9223372036854775808 v=2/\kn 9218868437227405312 9223372036854775808 (zdy s)=2))/\zdy s<18446744073709551616:=by
 unfold PaQ64 at h;unfold zig zdy;cases hr:ul s with
 | none=>
  rw[hr]at h;obtain⟨rfl,rfl⟩:=h;exact⟨rfl,fun h=>absurd rfl h,ze⟩
 | some t=>
  rw[hr]at h;dsimp only at h ⊢;obtain⟨h2,h1,h0⟩:=h;have hle:=zjr t;have hl:(if t.neg=true then 9223372036854775808 else 0)<=9223372036854775808:=zαT;rcases za0 hr with e | e | e
  ·obtain⟨rfl,rfl⟩:=h0 e;rw[zv1 e,yar e,ztp];refine⟨?_,fun _=>Or.inl ?_,zd⟩
   ·by_cases hx:spB 52 1023 9218868437227405312 t=9218868437227405312
    ·simp[hx]
    ·simp[hx]
   ·unfold sgB;exact Nat.add_comm _ _
  ·obtain⟨rfl,rfl⟩:=h1 e;rw[zv0 e,zv2 zαW];refine⟨rfl,fun _=>Or.inl ?_,zd⟩;cases t.neg <;> rfl
  ·obtain⟨⟨h3,h4⟩,rfl⟩:=h2 e;rw[zvz e,zv2 zαW];exact⟨rfl,fun _=>Or.inr ⟨zde rfl h3,zde rfl ze⟩,ze⟩
theorem zyg {v r:Nat} (h:yak v r) (hn:¬zxp v):r=zyo v:=by
 rcases h with⟨h,-⟩ | ⟨h1,-,-,h4⟩
 ·exact absurd h hn
 ·unfold zyo;by_cases hf:v%2147483648<2139095040
  ·rw[if_pos hf];rw[yaf v h1 hf]at h4;exact (Option.some.inj h4).symm
  ·have h5:¬2139095040<v%2147483648:=fun h=>hn ⟨h1,h⟩
   have h6:v=2139095040\/v=4286578688:=zd;rw[if_neg hf];rcases h6 with rfl | rfl
   ·have:floatToFloatBits .f32 2139095040 .f64=some 9218868437227405312:=zp;rw[this]at h4;exact (Option.some.inj h4).symm
   ·have:floatToFloatBits .f32 4286578688 .f64=some 18442240474082181120:=zp;rw[this]at h4;exact (Option.some.inj h4).symm
theorem zzf (v:Nat) (hv:v<4294967296):zyo v<18446744073709551616:=by
 unfold zyo;by_cases hf:v%2147483648<2139095040
 ·rw[if_pos hf];exact (zxi v hv hf).1
 ·rw[if_neg hf];unfold sgW zs5;split <;> split <;> omega
theorem zyh {s:List UInt8} {v k:Nat} (h:PaQw s v k):k=zya s/\(k≠1->v=zxy s\/(kn 9218868437227405312 9223372036854775808 v=2/\kn 9218868437227405312 9223372036854775808 (zxy s)=2))/\zxy s<18446744073709551616:=by
 obtain⟨u,h,hw⟩:=h;unfold PaQ32 at h;unfold zya zxy;cases hr:ul s with
 | none=>
  rw[hr]at h;obtain⟨rfl,rfl⟩:=h;exact⟨rfl,fun h=>absurd rfl h,ze⟩
 | some t=>
  rw[hr]at h;dsimp only at h ⊢;obtain⟨h2,h1,h0⟩:=h;have hle:=zz1 t;have hl:(if t.neg=true then 2147483648 else 0)<=2147483648:=zαT;rcases za0 hr with e | e | e
  ·obtain⟨hu,rfl⟩:=h0 e;rw[zv1 e,yar e,yag];have hu2:u=spB 23 127 2139095040 t+if t.neg=true then 2147483648 else 0:=by rw[hu];unfold sgC;exact Nat.add_comm _ _
   rw[<-hu2];have hnn:¬zxp u:=by
    rintro⟨h3,h4⟩;revert h4;rw[hu2];split <;> omega
   refine⟨?_,fun _=>Or.inl (zyg hw hnn),zzf _ zd⟩;by_cases hx:spB 23 127 2139095040 t=2139095040
   ·simp[hx]
   ·simp[hx]
  ·obtain⟨hu,rfl⟩:=h1 e;rw[zv0 e,zv2 zαW];have hu2:u=2139095040+if t.neg=true then 2147483648 else 0:=by rw[hu];cases t.neg <;> rfl
   rw[<-hu2];have hnn:¬zxp u:=by
    rintro⟨h3,h4⟩;revert h4;rw[hu2];split <;> omega
   exact⟨rfl,fun _=>Or.inl (zyg hw hnn),zzf _ zd⟩
  ·obtain⟨h3,rfl⟩:=h2 e;rw[zvz e,zv2 zαW];have hw9:zyo (2139095040+1)=9223372036854775807:=by
    unfold zyo;rw[if_neg ze];rfl
   rw[hw9];refine⟨rfl,fun _=>Or.inr ⟨?_,zde rfl ze⟩,ze⟩;rcases hw with⟨-,h5⟩ | ⟨-,h5,-⟩
   ·exact zde rfl h5.2
   ·exact absurd h3 h5
section
attribute [local go_sem] undef
theorem ya2 (s:List UInt8) (k:Nat):∃ fb fc:ByteArray,zp1 s k=[.int .i64 (k:Int),.string fb,.string fc]:=by
 unfold zp1;by_cases h:k=0
 ·subst h;exact⟨_,_,by rw[if_pos rfl];rfl⟩
 ·exact⟨_,_,by rw[if_neg h]⟩
theorem ya3 {v:Nat} (h:kn 9218868437227405312 9223372036854775808 v=2):v*2%18446744073709551616≠0:=by
 unfold kn at h;split at h
 ·cases h
 ·split at h
  ·cases h
  ·omega
set_option maxRecDepth 100000 in
theorem ybb (T:Nat) (a b:List UInt8) (w:World) (he:EnvP T w) (ha:a.length<=800) (hb:b.length<=800)
  (h64:∀ v k v' k',PaQ64 a v k->PaQ64 b v' k'->v=v'/\k=k') (h32:∀ v k v' k',PaQw a v k->PaQw b v' k'->v=v'/\k=k'):
  Calls Tryz.prog 25 #[.string ⟨a.toArray⟩,.string ⟨b.toArray⟩] w fun e w'=>e=.returned (.bool true)/\w.grownBy w' none:=by
 have HE:=zH he;have H64:=zH h64;have H32:=zH h32;have HA64:=zH (fun W (h:EnvP T W)=>zhd T a W h ha);have HB64:=zH (fun W (h:EnvP T W)=>zhd T b W h hb);have HA32:=zH (fun W (h:EnvP T W)=>zxw T a W h ha);have HB32:=zH (fun W (h:EnvP T W)=>zxw T b W h hb);have HM64:=zH (fun v k (h:PaQ64 a v k) W=>zyt 64 a (zdy a) (zig a) v W h.lt (zrc h).2.2 (fun hk=>by
  obtain⟨h1,h2,-⟩:=zrc h;rcases h2 zd with h3 | ⟨h3,-⟩
  ·exact Or.inl h3
  ·exact Or.inr (ya3 h3)) (fun W=>zc0 a W zd))
 have HM32:=zH (fun v k (h:PaQw a v k) W=>zyt 32 a (zxy a) (zya a) v W h.lt (zyh h).2.2 (fun hk=>by
  obtain⟨h1,h2,-⟩:=zyh h;rcases h2 zd with h3 | ⟨h3,-⟩
  ·exact Or.inl h3
  ·exact Or.inr (ya3 h3)) (fun W=>zxu a W zd))
 clear he h64 h32 ha hb;refine ye Tryz.func25 rfl (by rw[Tryz.ntmps25];simp) ?_;intro σ hσ;rw[Tryz.ntmps25];have s0:σ 0=.string ⟨a.toArray⟩:=hσ 0 zi;have s1:σ 1=.string ⟨b.toArray⟩:=hσ 1 zi;clear hσ;have HG0:=zH (World.grownBy.refl w none);(go_wp2_with fail;repeat ((first|refine cZ ?_|refine cW ?_);go_wp2_with fail));refine (HA64.out _ (HE.out.grown HG0.out (fun _ e=>zL))).mono ?_;rintro e w1 ⟨⟨v0,k0,rfl,hp0⟩,hg1⟩;have HQ0:=zH hp0;obtain⟨fb0,fc0,hfa⟩:=ya2 a k0;rw[hfa];have HG1:=zH (ym HG0.out hg1);obtain⟨B0,hB0⟩:=zX w1.heap.size;obtain⟨w2,hw2⟩:∃ w',w1.alloc (.cells #[.int .i64 (k0:Int),.string fb0,.string fc0] 30)=w':=⟨_,rfl⟩;have g2:w1.grownBy w2 none:=by rw[<-hw2];exact World.grownBy_alloc w1 _ none
 have HG2:=zH (ym HG1.out g2);have HO0:=zH (show Row w2 B0 [.int .i64 (k0:Int),.string fb0,.string fc0] by rw[<-hw2,<-hB0];exact Row.new w1 _ _);have HW2:=zH hw2;have HBE0:=zH hB0;clear hw2 hB0 hg1 g2 hfa hp0 HA64;go_upto_region 2 with fail;rw[HW2.out,HBE0.out];clear HW2 HBE0;(go_wp2_with fail;repeat ((first|refine cZ ?_|refine cW ?_);go_wp2_with fail));refine (HB64.out _ (HE.out.grown HG2.out (fun _ e=>zL))).mono ?_;rintro e w3 ⟨⟨v1,k1,rfl,hp1⟩,hg3⟩;have HQ1:=zH hp1;obtain⟨fb1,fc1,hfa⟩:=ya2 b k1;rw[hfa];have HG3:=zH (ym HG2.out hg3);obtain⟨B1,hB1⟩:=zX w3.heap.size;obtain⟨w4,hw4⟩:∃ w',w3.alloc (.cells #[.int .i64 (k1:Int),.string fb1,.string fc1] 30)=w':=⟨_,rfl⟩;have g4:w3.grownBy w4 none:=by rw[<-hw4];exact World.grownBy_alloc w3 _ none
 have HG4:=zH (ym HG3.out g4);have HO1:=zH (show Row w4 B1 [.int .i64 (k1:Int),.string fb1,.string fc1] by rw[<-hw4,<-hB1];exact Row.new w3 _ _);have HO0:=zH (HO0.out.grown (ym hg3 g4) zi);have HW4:=zH hw4;have HBE1:=zH hB1;clear hw4 hB1 hg3 g4 hfa hp1 HB64;go_upto_region 3 with fail;rw[HW4.out,HBE1.out];clear HW4 HBE1;(go_wp2_with fail;repeat ((first|refine cZ ?_|refine cW ?_);go_wp2_with fail));refine (HA32.out _ (HE.out.grown HG4.out (fun _ e=>zL))).mono ?_;rintro e w5 ⟨⟨v2,k2,rfl,hp2⟩,hg5⟩;have HQ2:=zH hp2;obtain⟨fb2,fc2,hfa⟩:=ya2 a k2;rw[hfa];have HG5:=zH (ym HG4.out hg5);obtain⟨B2,hB2⟩:=zX w5.heap.size;obtain⟨w6,hw6⟩:∃ w',w5.alloc (.cells #[.int .i64 (k2:Int),.string fb2,.string fc2] 30)=w':=⟨_,rfl⟩;have g6:w5.grownBy w6 none:=by rw[<-hw6];exact World.grownBy_alloc w5 _ none
 have HG6:=zH (ym HG5.out g6);have HO2:=zH (show Row w6 B2 [.int .i64 (k2:Int),.string fb2,.string fc2] by rw[<-hw6,<-hB2];exact Row.new w5 _ _);have HO0:=zH (HO0.out.grown (ym hg5 g6) zi);have HO1:=zH (HO1.out.grown (ym hg5 g6) zi);have HW6:=zH hw6;have HBE2:=zH hB2;clear hw6 hB2 hg5 g6 hfa hp2 HA32;go_upto_region 4 with fail;rw[HW6.out,HBE2.out];clear HW6 HBE2;(go_wp2_with fail;repeat ((first|refine cZ ?_|refine cW ?_);go_wp2_with fail));refine (HB32.out _ (HE.out.grown HG6.out (fun _ e=>zL))).mono ?_;rintro e w7 ⟨⟨v3,k3,rfl,hp3⟩,hg7⟩;have HQ3:=zH hp3;obtain⟨fb3,fc3,hfa⟩:=ya2 b k3;rw[hfa];have HG7:=zH (ym HG6.out hg7);obtain⟨B3,hB3⟩:=zX w7.heap.size;obtain⟨w8,hw8⟩:∃ w',w7.alloc (.cells #[.int .i64 (k3:Int),.string fb3,.string fc3] 30)=w':=⟨_,rfl⟩;have g8:w7.grownBy w8 none:=by rw[<-hw8];exact World.grownBy_alloc w7 _ none
 have HG8:=zH (ym HG7.out g8);have HO3:=zH (show Row w8 B3 [.int .i64 (k3:Int),.string fb3,.string fc3] by rw[<-hw8,<-hB3];exact Row.new w7 _ _);have HO0:=zH (HO0.out.grown (ym hg7 g8) zi);have HO1:=zH (HO1.out.grown (ym hg7 g8) zi);have HO2:=zH (HO2.out.grown (ym hg7 g8) zi);have HW8:=zH hw8;have HBE3:=zH hB3;clear hw8 hB3 hg7 g8 hfa hp3 HB32;go_upto_region 5 with fail;rw[HW8.out,HBE3.out];clear HW8 HBE3;obtain⟨rfl,rfl⟩:=H64.out _ _ _ _ HQ0.out HQ1.out;obtain⟨rfl,rfl⟩:=H32.out _ _ _ _ HQ2.out HQ3.out;have HC0:=zH (HM64.out _ _ HQ0.out);have HC2:=zH (HM32.out _ _ HQ2.out);clear HQ0 HQ1 HQ2 HQ3 H64 H32 HM64 HM32;have o0:=HO0.out.cell 0;simp only[List.getElem?_cons_zero,List.getElem?_cons_succ]at o0;have o1:=HO1.out.cell 0;simp only[List.getElem?_cons_zero,List.getElem?_cons_succ]at o1;have o2:=HO2.out.cell 0;simp only[List.getElem?_cons_zero,List.getElem?_cons_succ]at o2;have o3:=HO3.out.cell 0;simp only[List.getElem?_cons_zero,List.getElem?_cons_succ]at o3;(go_wp2_with fail;repeat ((first|refine cZ ?_|refine cW ?_);go_wp2_with fail));refine (HC0.out _).mono ?_;rintro e w9 ⟨rfl,hg9⟩;have HG9:=zH (ym HG8.out hg9);clear hg9 o0 o1 o2 o3;(go_wp2_with fail;repeat ((first|refine cZ ?_|refine cW ?_);go_wp2_with fail));refine (HC2.out _).mono ?_;rintro e w10 ⟨rfl,hg10⟩;have HG10:=zH (ym HG9.out hg10);clear hg10;(go_wp2_with fail;repeat ((first|refine cZ ?_|refine cW ?_);go_wp2_with fail));exact yl (.bool true) rfl ze zb ⟨rfl,HG10.out⟩
end
def RdNum (s:List UInt8) (neg:Bool) (a b:Nat):Prop:=b≠0/\∃ t,ul s=some t/\t.kind=0/\t.neg=neg/\∀ (F:Nat) (bias:Int) (inf:Nat),1<=bias->bias<=1023->1<=F->bias+F<=1075->spB F bias inf t=xh F bias inf a b
theorem RdNum.cross {s:List UInt8} {n:Bool} {a b c d:Nat} (h:RdNum s n a b) (hd:d≠0) (hx:a*d=c*b):RdNum s n c d:=by
 obtain⟨hb,t,h1,h2,h3,h4⟩:=h;exact⟨hd,t,h1,h2,h3,fun F bias inf b1 b2 f1 f2=>(h4 F bias inf b1 b2 f1 f2).trans (ue F bias inf hb hd hx)⟩
theorem RdNum.pa64 {s:List UInt8} {n:Bool} {a b v k:Nat} (h:RdNum s n a b) (hp:PaQ64 s v k):v=sgB n+xd a b/\k=if xd a b=9218868437227405312 then 2 else 0:=by
 obtain⟨hb,t,h1,h2,h3,h4⟩:=h;unfold PaQ64 at hp;rw[h1]at hp;obtain⟨e1,e2⟩:=hp.2.2 h2;rw[h4 52 1023 9218868437227405312 ze ze ze ze]at e1 e2;rw[h3]at e1;exact⟨e1,e2⟩
theorem RdNum.paw {s:List UInt8} {n:Bool} {a b v k:Nat} (h:RdNum s n a b) (hp:PaQw s v k):v=zyo (sgC n+zxq a b)/\k=if zxq a b=2139095040 then 2 else 0:=by
 obtain⟨hb,t,h1,h2,h3,h4⟩:=h;obtain⟨u,hp,hw⟩:=hp;unfold PaQ32 at hp;rw[h1]at hp;obtain⟨e1,e2⟩:=hp.2.2 h2;rw[h4 23 127 2139095040 ze ze ze ze]at e1 e2;rw[h3]at e1;have hle:=ud 23 127 2139095040 a b hb ze ze;have e3:u=sgC n+zxq a b:=e1;refine⟨?_,e2⟩;rw[<-e3];refine zyg hw ?_;rintro⟨-,h⟩;have:zxq a b<=2139095040:=hle;cases n
 ·rw[show sgC false=0 from rfl]at e3;omega
 ·rw[show sgC true=2147483648 from rfl]at e3;omega
theorem RdNum.same64 {s s':List UInt8} {n:Bool} {a b v k v' k':Nat} (h1:RdNum s n a b) (h2:RdNum s' n a b) (p1:PaQ64 s v k) (p2:PaQ64 s' v' k'):v=v'/\k=k':=by
 obtain⟨e1,e2⟩:=h1.pa64 p1;obtain⟨e3,e4⟩:=h2.pa64 p2;exact⟨e1.trans e3.symm,e2.trans e4.symm⟩
theorem RdNum.samew {s s':List UInt8} {n:Bool} {a b v k v' k':Nat} (h1:RdNum s n a b) (h2:RdNum s' n a b) (p1:PaQw s v k) (p2:PaQw s' v' k'):v=v'/\k=k':=by
 obtain⟨e1,e2⟩:=h1.paw p1;obtain⟨e3,e4⟩:=h2.paw p2;exact⟨e1.trans e3.symm,e2.trans e4.symm⟩
theorem ye7 (neg:Bool) (A:List UInt8) (P:Option (List UInt8)) (x:Int) (hA0:A≠[]) (hA:allD 10 A) (hF:allD 10 (pF P)) (h1:-1000000000000000<x) (h2:x<1000000000000000):
  RdNum (ycv neg++(A++(pT P++101::ycd x))) neg (zd5 (A++pF P)*10^(x-(((pF P).length:Nat):Int)).toNat) (10^(-(x-(((pF P).length:Nat):Int))).toNat):=by
 obtain⟨t,h3,h4,h5,h6⟩:=ydc neg A P x hA0 hA hF h1 h2;exact⟨qg _ ze,t,h3,h4,h5,h6⟩
theorem ye8 (neg:Bool) (A:List UInt8) (P:Option (List UInt8)) (hA0:A≠[]) (hA:allD 10 A) (hF:allD 10 (pF P)):
  RdNum (ycv neg++(A++pT P)) neg (zd5 (A++pF P)*10^((0:Int)-(((pF P).length:Nat):Int)).toNat) (10^(-((0:Int)-(((pF P).length:Nat):Int))).toNat):=by
 obtain⟨h3,h4⟩:=ydm _ (A++pF P) rfl (hA.append hF);have:=ydd neg A P [] 0 hA0 hA hF (Or.inl ⟨rfl,rfl⟩) (fun c hc=>by cases hc);rw[List.append_nil]at this;exact⟨qg _ ze,_,this,rfl,rfl,fun F bias inf b1 b2 f1 f2=>ye1 F bias inf _ _ _ h3 h4 b1 b2 f1 f2⟩
theorem RdNum.shift {s:List UInt8} {n:Bool} {N:Nat} {e:Int} (k:Nat) (h:RdNum s n (N*10^k*10^(e-(k:Int)).toNat) (10^(-(e-(k:Int))).toNat)):RdNum s n (N*10^e.toNat) (10^(-e).toNat):=by
 refine h.cross (qg _ ze) ?_;have:=yet N e k 0;rw[show e-((0:Nat):Int)=e from Int.sub_zero e,Nat.pow_zero,Nat.mul_one]at this;exact this
def hval (l:List UInt8):Nat:=l.foldl (fun n c=>n*16+(dig 16 c).getD 0) 0
theorem yc8 (l:List UInt8) (c:UInt8):hval (l++[c])=hval l*16+(dig 16 c).getD 0:=by unfold hval;rw[List.foldl_append];rfl
theorem yc4 (l:List UInt8) (k:Nat):hval (l++List.replicate k 48)=hval l*16^k:=by
 induction k with
 | zero=>rw[List.replicate_zero,List.append_nil,Nat.pow_zero,Nat.mul_one]
 | succ k ih=>
  rw[List.replicate_succ',<-List.append_assoc,yc8,ih,Nat.pow_succ,show (dig 16 48).getD 0=0 by decide];rw[Nat.add_zero,Nat.mul_assoc]
theorem yed (k:Nat) (l:List UInt8):hval (List.replicate k 48++l)=hval l:=by
 induction k with
 | zero=>rfl
 | succ k ih=>
  rw[List.replicate_succ,List.cons_append];rw[<-ih];unfold hval;rw[List.foldl_cons,show 0*16+(dig 16 48).getD 0=0 by decide]
theorem yec {c:UInt8} (h:isD 16 c=true):∃ d,dig 16 c=some d/\d<16:=by
 unfold isD at h;cases hd:dig 16 c with
 | none=>rw[hd]at h;cases h
 | some d=>exact⟨d,rfl,zss hd⟩
theorem yck (n:Nat):allD 16 (List.replicate n 48):=fun c hc=>by rw[(List.mem_replicate.1 hc).2];decide
theorem yfi (n:Nat):∀ (l:List UInt8),l.length=n->allD 16 l->jy 16 (dgL 16 l)=hval l/\hval l<16^(dgL 16 l).length/\(dgL 16 l≠[]->16^((dgL 16 l).length-1)<=hval l):=by
 induction n with
 | zero=>
  intro l hl _;have:l=[]:=List.length_eq_zero_iff.1 hl;subst this;exact⟨rfl,ze,fun h=>absurd rfl h⟩
 | succ n ih=>
  intro l hl hA;have hne:l≠[]:=by intro h;rw[h]at hl;cases hl
  obtain⟨m,c,rfl⟩:∃ m c,l=m++[c]:=⟨l.dropLast,l.getLast hne,(List.dropLast_concat_getLast hne).symm⟩;have hm:m.length=n:=zβt;obtain⟨h1,h2,h3⟩:=ih m hm (fun x hx=>hA x (by simp[hx]));obtain⟨d,hd,hd16⟩:=yec (hA c zi);rw[yem,yc8,hd];unfold vp;rw[hd];dsimp only[Option.getD_some];by_cases h:0<d\/dgL 16 m≠[]
  ·rw[if_pos h,yco,h1,List.length_append,List.length_singleton];refine⟨rfl,?_,fun _=>?_⟩
   ·rw[Nat.pow_succ];omega
   ·rw[Nat.add_sub_cancel];by_cases h0:dgL 16 m=[]
    ·have hd0:0<d:=h.resolve_right (fun hh=>hh h0);rw[h0,List.length_nil,Nat.pow_zero];omega
    ·have h4:=h3 h0;have hl1:1<=(dgL 16 m).length:=by
      cases hq:dgL 16 m with
      | nil=>exact absurd hq h0
      | cons=>simp
     obtain⟨j,hj⟩:∃ j,(dgL 16 m).length=j+1:=⟨(dgL 16 m).length-1,zd⟩;rw[hj]at h4 ⊢;rw[Nat.add_sub_cancel]at h4;rw[Nat.pow_succ];omega
  ·rw[if_neg h];have h4:dgL 16 m=[]:=Classical.byContradiction (fun hh=>h (Or.inr hh));have h5:d=0:=by have:=fun hh=>h (Or.inl hh);omega
   have h6:hval m=0:=by rw[<-h1,h4];rfl
   rw[h4,h5,h6];exact⟨rfl,ze,fun h=>absurd rfl h⟩
theorem yfk (F:Nat) (bias:Int) (inf:Nat) (l:List Nat) (N:Nat) (x:Int) (hN:jy 16 l=N) (hlt:N<16^l.length) (hlow:l≠[]->16^(l.length-1)<=N) (hb1:1<=bias) (hb2:bias<=1023) (hF1:1<=F) (hF2:bias+F<=1075):
  spN F bias inf 16 l x=nvT F bias inf 2 N x:=by
 have hN':dgN 16 l=N:=hN;unfold spN;rw[hN',show yfj 16=2 from rfl];by_cases h0:l=[]
 ·subst h0;have:N=0:=by rw[<-hN];rfl
  subst this;rw[if_pos (by unfold zq0;rw[if_pos rfl])];exact (zca F bias inf _ _ zd hb1 hF1).symm
 have hl1:1<=l.length:=by
  cases l with
  | nil=>exact absurd rfl h0
  | cons=>simp
 have hj1:=hlow h0;rw[show (16:Nat)=2^4 by decide,<-Nat.pow_mul]at hlt hj1;rw[zt3 x h0];by_cases c1:1600<4*((l.length:Int)-1)+x
 ·rw[if_pos c1,if_neg ze,if_pos rfl];obtain⟨K,hK⟩:∃ K,K=1600:=⟨_,rfl⟩;refine (znp F bias inf 2 _ _ K (bias+1).toNat x zd hj1 ?_ ?_ zd).symm
  ·exact Nat.pow_le_pow_right zd zd
  ·omega
 ·rw[if_neg c1];by_cases c2:4*((l.length:Int)-1)+x < -1600
  ·rw[if_pos c2,if_pos rfl];obtain⟨K,hK⟩:∃ K,K=1596:=⟨_,rfl⟩;refine (zno F bias inf 2 _ _ K (bias+F).toNat x zd hlt ?_ ?_ zd hb1 hF1).symm
   ·exact Nat.pow_le_pow_right zd zd
   ·omega
  ·rw[if_neg c2,if_neg ze,if_neg ze]
theorem yd6 {s s':List UInt8} (h:xf s=xf s'):ul s=ul s':=by unfold ul;rw[h]
theorem RdNum.low {s s':List UInt8} {n:Bool} {a b:Nat} (h:RdNum s n a b) (e:xf s'=xf s):RdNum s' n a b:=by
 obtain⟨hb,t,h1,h2⟩:=h;exact⟨hb,t,by rw[yd6 e];exact h1,h2⟩
theorem ycj {c:UInt8} (h:isD 16 c=true):¬(65<=c.toNat/\c.toNat<=90)/\c≠95/\c≠46:=by
 unfold isD dig at h;refine⟨?_,?_,?_⟩
 ·intro hc;rw[if_neg zd,if_neg zd]at h;cases h
 ·rintro rfl;revert h;decide
 ·rintro rfl;revert h;decide
theorem ydi (A:List UInt8) (P:Option (List UInt8)) (x:Int) (hA0:A≠[]\/pF P≠[]) (hA:allD 16 A) (hF:allD 16 (pF P)) (h1:-1000000000000000<x) (h2:x<1000000000000000):
  RdNum (48::120::(A++(pT P++112::ycd x))) false (hval (A++pF P)*2^(x-((4*(pF P).length:Nat):Int)).toNat) (2^(-(x-((4*(pF P).length:Nat):Int))).toNat):=by
 obtain⟨e1,e2⟩:=ycq 112 x h1 h2;obtain⟨u,hu⟩:=zX (48::120::(A++(pT P++112::ycd x)));have hlow:xf u=u:=by
  refine yc7 u (fun c hc=>?_);rw[<-hu]at hc;rcases List.mem_cons.1 hc with h | hc
  ·rw[h];decide
  rcases List.mem_cons.1 hc with h | hc
  ·rw[h];decide
  rcases List.mem_append.1 hc with h | hc
  ·exact (ycj (hA c h)).1
  rcases List.mem_append.1 hc with h | hc
  ·cases P with
   | none=>cases h
   | some F=>
    rcases List.mem_cons.1 h with h | h
    ·rw[h];decide
    ·exact (ycj (hF c h)).1
  ·rcases List.mem_cons.1 hc with h | hc
   ·rw[h];decide
   ·rcases e2 c hc with h | h
    ·omega
    ·rw[h];decide
 have hh:zd4 u:=by rw[<-hu];exact⟨zi,rfl,rfl⟩
 have hun:¬zp5 u:=by
  rw[<-hu];rintro⟨_,h,_⟩;cases A with
  | cons c r=>exact (ycj (hA c zi)).2.1 h
  | nil=>
   cases P with
   | none=>exact hA0.elim (fun g=>g rfl) (fun g=>g rfl)
   | some F=>exact absurd h (by show ¬(46:UInt8)=95;decide)
 have hb:wb u=16:=by unfold wb;rw[if_pos hh]
 have hf2:vy u=2:=by unfold vy;rw[if_pos hh,if_neg hun]
 have hp:zpy u=4:=by unfold zpy;rw[hb];rfl
 have hl:za2 u=112:=by unfold za2;rw[hb];rfl
 obtain⟨h3,h4⟩:=yc3 u A P (112::ycd x) x 112 (by rw[hf2,<-hu];rfl) hl hA0 (by rw[hb];exact hA) (by rw[hb];exact hF) (Or.inr ⟨⟨_,rfl⟩,e1⟩) (by rw[hb];decide) ze ze (by rw[hb];decide) zi;rw[hp]at h3;rw[hb]at h4;have h5:=ydp false u 48 _ hu.symm ze hlow _ h3;rw[hb,h4]at h5;obtain⟨t1,t2,t3⟩:=yfi _ (A++pF P) rfl (hA.append hF);rw[hu];exact⟨qg _ ze,_,h5,rfl,rfl,fun F bias inf b1 b2 f1 f2=>yfk F bias inf _ _ _ t1 t2 t3 b1 b2 f1 f2⟩
theorem yfp:ycd 7=[55]:=by decide +kernel
theorem ydq (A P:List UInt8) (hA0:A≠[]) (hA:allD 10 A) (hP:allD 10 P):
  RdNum (A++46::P) false (zd5 (A++P)*10^((0:Int)-((P.length:Nat):Int)).toNat) (10^(-((0:Int)-((P.length:Nat):Int))).toNat):=by
 have:=ye8 false A (some P) hA0 hA hP;exact this
theorem yci (A P:List UInt8) (x:Int) (hA0:A≠[]) (hA:allD 10 A) (hP:allD 10 P) (h1:-1000000000000000<x) (h2:x<1000000000000000):
  RdNum (A++46::(P++101::ycd x)) false (zd5 (A++P)*10^(x-((P.length:Nat):Int)).toNat) (10^(-(x-((P.length:Nat):Int))).toNat):=by
 have:=ye7 false A (some P) x hA0 hA hP h1 h2;exact this
theorem ydb (A P:List UInt8) (m n:Nat) (x:Int) (s:List UInt8) (hA0:A≠[]) (hA:allD 10 A) (hP:allD 10 P)
  (h:RdNum s false (zd5 (List.replicate m 48++A++(P++List.replicate n 48))*10^(x-(((P++List.replicate n 48).length:Nat):Int)).toNat) (10^(-(x-(((P++List.replicate n 48).length:Nat):Int))).toNat)):
  RdNum s false (zd5 (A++P)*10^(x-((P.length:Nat):Int)).toNat) (10^(-(x-((P.length:Nat):Int))).toNat):=by
 refine RdNum.shift n ?_;rw[show x-((P.length:Nat):Int)-(n:Int)=x-(((P++List.replicate n 48).length:Nat):Int) by rw[List.length_append,List.length_replicate];omega];rw[show List.replicate m 48++A++(P++List.replicate n 48)=List.replicate m 48++((A++P)++List.replicate n 48) by simp only[List.append_assoc],ydg,ycw]at h;exact h
theorem ydu (A P:List UInt8) (m n:Nat) (hA0:A≠[]) (hA:allD 10 A) (hP:allD 10 P):
  ∃ a b,RdNum (A++46::P) false a b/\RdNum (List.replicate m 48++(A++46::P)++List.replicate n 48) false a b:=by
 refine⟨_,_,ydq A P hA0 hA hP,ydb A P m n 0 _ hA0 hA hP ?_⟩;have:=ydq (List.replicate m 48++A) (P++List.replicate n 48) (by simp[hA0]) ((allD.zeros m).append hA) (hP.append (allD.zeros n));rw[show List.replicate m 48++(A++46::P)++List.replicate n 48=List.replicate m 48++A++46::(P++List.replicate n 48) by simp];exact this
theorem ydh (A P:List UInt8) (m n:Nat) (hA0:A≠[]) (hA:allD 10 A) (hP:allD 10 P):
  ∃ a b,RdNum (A++46::P++[101,55]) false a b/\RdNum (List.replicate m 48++(A++46::P)++List.replicate n 48++[101,55]) false a b:=by
 have h1:=yci A P 7 hA0 hA hP ze ze;have h2:=yci (List.replicate m 48++A) (P++List.replicate n 48) 7 (by simp[hA0]) ((allD.zeros m).append hA) (hP.append (allD.zeros n)) ze ze;rw[yfp]at h1 h2;refine⟨_,_,?_,ydb A P m n 7 _ hA0 hA hP ?_⟩
 ·rw[show A++46::P++[101,55]=A++46::(P++[101,55]) by simp];exact h1
 ·rw[show List.replicate m 48++(A++46::P)++List.replicate n 48++[101,55]=List.replicate m 48++A++46::(P++List.replicate n 48++[101,55]) by simp];exact h2
theorem yd9 (D:List UInt8) (p:Nat) (x:Int) (hD0:D≠[]) (hD:allD 10 D) (hl:D.length<=300) (hp:p<=400) (h1:-5000<=x) (h2:x<=5000):
  RdNum (D++46::48::101::ycd x) false (zd5 D*10^x.toNat) (10^(-x).toNat)/\
  RdNum (D++List.replicate p 48++46::48::101::ycd (x-(p:Int))) false (zd5 D*10^x.toNat) (10^(-x).toNat)/\
  RdNum (48::46::(List.replicate p 48++D++101::ycd (x+(p:Int)+(D.length:Int)))) false (zd5 D*10^x.toNat) (10^(-x).toNat):=by
 have z1:∀ k,List.replicate k (48:UInt8)++[48]=List.replicate (k+1) 48:=fun k=>List.replicate_succ'.symm
 have d0:allD 10 [48]:=allD.zeros 1;refine⟨?_,?_,?_⟩
 ·have h:=yci D [48] x hD0 hD d0 zd zd;rw[show ([48]:List UInt8)=List.replicate 1 48 from rfl,ycw]at h;exact RdNum.shift 1 h
 ·have h:=yci (D++List.replicate p 48) [48] (x-(p:Int)) (by simp[hD0]) (hD.append (allD.zeros p)) d0 zd zd;rw[show zd5 (D++List.replicate p 48++[48])=zd5 D*10^(p+1) by rw[List.append_assoc D,z1,ycw]]at h;refine RdNum.shift (p+1) ?_;rw[show x-((p+1:Nat):Int)=x-(p:Int)-(([48]:List UInt8).length:Int) by simp only[List.length_singleton];omega];exact h
 ·have h:=yci [48] (List.replicate p 48++D) (x+(p:Int)+(D.length:Int)) zi d0 ((allD.zeros p).append hD) zd zd;rw[show [48]++(List.replicate p 48++D)=List.replicate (p+1) 48++D by rw[List.replicate_succ];rfl,ydg]at h;rw[show x+(p:Int)+(D.length:Int)-(((List.replicate p (48:UInt8)++D).length:Nat):Int)=x by rw[List.length_append,List.length_replicate];omega]at h;exact h
section
attribute [local go_sem] undef
set_option maxRecDepth 100000 in
theorem ydl (T:Nat) (D P:List UInt8) (m n:Int) (hD:D.length<9223372036854775808) (hP:P.length<9223372036854775808) (hm1:-9223372036854775808<=m) (hm2:m<9223372036854775808) (hn1:-9223372036854775808<=n) (hn2:n<9223372036854775808) (w:World) (he:EnvP T w):
  Calls Tryz.prog 13 #[.string ⟨D.toArray⟩,.string ⟨P.toArray⟩,.int .i64 m,.int .i64 n] w fun e w'=>e=.returned (.bool true)/\w.grownBy w' none:=by
 have HE:=zH he;clear he;refine ye Tryz.func13 rfl (by rw[Tryz.ntmps13];simp) ?_;intro σ hσ;rw[Tryz.ntmps13];have s0:σ 0=.string ⟨D.toArray⟩:=hσ 0 zi;have s1:σ 1=.string ⟨P.toArray⟩:=hσ 1 zi;have s2:σ 2=.int .i64 m:=hσ 2 zi;have s3:σ 3=.int .i64 n:=hσ 3 zi;clear hσ;have HG0:=zH (World.grownBy.refl w none);have HDO:=zH (fun W=>ycf D 200 W hD);have HPO:=zH (fun W=>ycf P 200 W hP);(go_wp2_with fail;repeat ((first|refine cZ ?_|refine cW ?_);go_wp2_with fail));refine (HDO.out _).mono ?_;rintro e w1 ⟨⟨b,rfl,hb⟩,rfl⟩;cases b
 case false=>
  (go_wp2_with fail;repeat ((first|refine cZ ?_|refine cW ?_);go_wp2_with fail));exact yl (.bool true) rfl ze zb ⟨rfl,HG0.out⟩
 obtain⟨ne_D,l_D,al_D⟩:=hb rfl;clear hb;(go_wp2_with fail;repeat ((first|refine cZ ?_|refine cW ?_);go_wp2_with fail));refine (HPO.out _).mono ?_;rintro e w1 ⟨⟨b,rfl,hb⟩,rfl⟩;cases b
 case false=>
  (go_wp2_with fail;repeat ((first|refine cZ ?_|refine cW ?_);go_wp2_with fail));exact yl (.bool true) rfl ze zb ⟨rfl,HG0.out⟩
 obtain⟨ne_P,l_P,al_P⟩:=hb rfl;clear hb;by_cases hq:m<0
 ·have q1:m<0:=hq;have q2:decide (m<0)=true:=zh;(go_wp2_with fail;repeat ((first|refine cZ ?_|refine cW ?_);go_wp2_with fail));exact yl (.bool true) rfl ze zb ⟨rfl,HG0.out⟩
 have n1:¬m<0:=hq;have d1:decide (m<0)=false:=zh;clear hq;by_cases hq:100<m
 ·have q1:100<m:=hq;have q2:decide (100<m)=true:=zh;(go_wp2_with fail;repeat ((first|refine cZ ?_|refine cW ?_);go_wp2_with fail));exact yl (.bool true) rfl ze zb ⟨rfl,HG0.out⟩
 have n2:¬100<m:=hq;have d2:decide (100<m)=false:=zh;clear hq;by_cases hq:n<0
 ·have q1:n<0:=hq;have q2:decide (n<0)=true:=zh;(go_wp2_with fail;repeat ((first|refine cZ ?_|refine cW ?_);go_wp2_with fail));exact yl (.bool true) rfl ze zb ⟨rfl,HG0.out⟩
 have n3:¬n<0:=hq;have d3:decide (n<0)=false:=zh;clear hq;by_cases hq:100<n
 ·have q1:100<n:=hq;have q2:decide (100<n)=true:=zh;(go_wp2_with fail;repeat ((first|refine cZ ?_|refine cW ?_);go_wp2_with fail));exact yl (.bool true) rfl ze zb ⟨rfl,HG0.out⟩
 have n4:¬100<n:=hq;have d4:decide (100<n)=false:=zh;clear hq;obtain⟨M,rfl⟩:∃ M:Nat,m=(M:Int):=⟨m.toNat,zd⟩;obtain⟨N,rfl⟩:∃ N:Nat,n=(N:Int):=⟨n.toNat,zd⟩;obtain⟨a1,b1,r1,r2⟩:=ydu D P M N ne_D al_D al_P;obtain⟨a2,b2,r3,r4⟩:=ydh D P M N ne_D al_D al_P;have HZ1:=zH (fun W=>ycb M W zd);have HZ2:=zH (fun W=>ycb N W zd);have z_D:(⟨D.toArray⟩:ByteArray).size=D.length:=zm;have z_P:(⟨P.toArray⟩:ByteArray).size=P.length:=zm;obtain⟨x,h_x⟩:∃ t:List UInt8,List.replicate M (48:UInt8)=t:=⟨_,rfl⟩;have l_x:x.length<=100:=by rw[<-h_x];rw[List.length_replicate];omega
 have z_x:(⟨x.toArray⟩:ByteArray).size=x.length:=zm;obtain⟨y,h_y⟩:∃ t:List UInt8,List.replicate N (48:UInt8)=t:=⟨_,rfl⟩;have l_y:y.length<=100:=by rw[<-h_y];rw[List.length_replicate];omega
 have z_y:(⟨y.toArray⟩:ByteArray).size=y.length:=zm;rw[h_x]at HZ1 r2 r4;rw[h_y]at HZ2 r2 r4;obtain⟨t1,h_t1⟩:∃ t:List UInt8,D++[46]=t:=⟨_,rfl⟩;have l_t1:t1.length<=201:=za;have z_t1:(⟨t1.toArray⟩:ByteArray).size=t1.length:=zm;have c_1:(⟨D.toArray⟩:ByteArray)++⟨#[46]⟩=⟨t1.toArray⟩:=by rw[<-h_t1];exact yb0 D [46]
 obtain⟨A,h_A⟩:∃ t:List UInt8,t1++P=t:=⟨_,rfl⟩;have l_A:A.length<=401:=zβl;have z_A:(⟨A.toArray⟩:ByteArray).size=A.length:=zm;have c_2:(⟨t1.toArray⟩:ByteArray)++⟨P.toArray⟩=⟨A.toArray⟩:=by rw[<-h_A];exact yb0 t1 P
 obtain⟨t2,h_t2⟩:∃ t:List UInt8,x++A=t:=⟨_,rfl⟩;have l_t2:t2.length<=501:=zc;have z_t2:(⟨t2.toArray⟩:ByteArray).size=t2.length:=zm;have c_3:(⟨x.toArray⟩:ByteArray)++⟨A.toArray⟩=⟨t2.toArray⟩:=by rw[<-h_t2];exact yb0 x A
 obtain⟨B,h_B⟩:∃ t:List UInt8,t2++y=t:=⟨_,rfl⟩;have l_B:B.length<=601:=zβo;have z_B:(⟨B.toArray⟩:ByteArray).size=B.length:=zm;have c_4:(⟨t2.toArray⟩:ByteArray)++⟨y.toArray⟩=⟨B.toArray⟩:=by rw[<-h_B];exact yb0 t2 y
 obtain⟨A7,h_A7⟩:∃ t:List UInt8,A++[101,55]=t:=⟨_,rfl⟩;have l_A7:A7.length<=403:=by rw[<-h_A7];simp only[List.length_append,List.length_cons,List.length_nil];omega
 have z_A7:(⟨A7.toArray⟩:ByteArray).size=A7.length:=zm;have c_5:(⟨A.toArray⟩:ByteArray)++⟨#[101,55]⟩=⟨A7.toArray⟩:=by rw[<-h_A7];exact yb0 A [101,55]
 obtain⟨B7,h_B7⟩:∃ t:List UInt8,B++[101,55]=t:=⟨_,rfl⟩;have l_B7:B7.length<=603:=by rw[<-h_B7];simp only[List.length_append,List.length_cons,List.length_nil];omega
 have z_B7:(⟨B7.toArray⟩:ByteArray).size=B7.length:=zm;have c_6:(⟨B.toArray⟩:ByteArray)++⟨#[101,55]⟩=⟨B7.toArray⟩:=by rw[<-h_B7];exact yb0 B [101,55]
 have eA:D++46::P=A:=by rw[<-h_A,<-h_t1];simp
 rw[eA]at r1 r2 r3 r4;rw[h_t2,h_B]at r2 r4;rw[h_A7]at r3;rw[h_B7]at r4;have HS1:=zH (fun W (h:EnvP T W)=>ybb T A B W h zd zd (fun _ _ _ _ p1 p2=>RdNum.same64 r1 r2 p1 p2) (fun _ _ _ _ p1 p2=>RdNum.samew r1 r2 p1 p2));have HS2:=zH (fun W (h:EnvP T W)=>ybb T A7 B7 W h zd zd (fun _ _ _ _ p1 p2=>RdNum.same64 r3 r4 p1 p2) (fun _ _ _ _ p1 p2=>RdNum.samew r3 r4 p1 p2));clear r1 r2 r3 r4 h_x h_y h_t1 h_t2 h_A h_B h_A7 h_B7 eA ne_D al_D ne_P al_P hD hP hm1 hm2 hn1 hn2 HDO HPO;(go_wp2_with fail;repeat ((first|refine cZ ?_|refine cW ?_);go_wp2_with fail));refine (HZ1.out _).mono ?_;rintro e w1 ⟨rfl,hg⟩;have HG1:=zH (ym HG0.out hg);clear hg;(go_wp2_with fail;repeat ((first|refine cZ ?_|refine cW ?_);go_wp2_with fail));refine (HZ2.out _).mono ?_;rintro e w2 ⟨rfl,hg⟩;have HG2:=zH (ym HG1.out hg);clear hg;(go_wp2_with fail;repeat ((first|refine cZ ?_|refine cW ?_);go_wp2_with fail));refine (HS1.out _ (HE.out.grown HG2.out (fun _ e=>zL))).mono ?_;rintro e w3 ⟨rfl,hg⟩;have HG3:=zH (ym HG2.out hg);clear hg;(go_wp2_with fail;repeat ((first|refine cZ ?_|refine cW ?_);go_wp2_with fail));refine (HZ1.out _).mono ?_;rintro e w4 ⟨rfl,hg⟩;have HG4:=zH (ym HG3.out hg);clear hg;(go_wp2_with fail;repeat ((first|refine cZ ?_|refine cW ?_);go_wp2_with fail));refine (HZ2.out _).mono ?_;rintro e w5 ⟨rfl,hg⟩;have HG5:=zH (ym HG4.out hg);clear hg;(go_wp2_with fail;repeat ((first|refine cZ ?_|refine cW ?_);go_wp2_with fail));refine (HS2.out _ (HE.out.grown HG5.out (fun _ e=>zL))).mono ?_;rintro e w6 ⟨rfl,hg⟩;have HG6:=zH (ym HG5.out hg);clear hg;(go_wp2_with fail;repeat ((first|refine cZ ?_|refine cW ?_);go_wp2_with fail));exact yl (.bool true) rfl ze zb ⟨rfl,HG6.out⟩
end
end Go.Proofs.YtocbeoomhlgnkaaGreatDoor
