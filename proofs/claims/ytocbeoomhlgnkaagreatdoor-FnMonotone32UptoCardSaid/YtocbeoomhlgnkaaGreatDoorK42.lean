/- Lemmas that the claim's top text leans on. No condition of their own. -/
import Derived.Test.YtocbeoomhlgnkaaGreatDoorK40
import Derived.Test.YtocbeoomhlgnkaaGreatDoorK41
import Derived.Test.YtocbeoomhlgnkaaGreatDoorK24
import Derived.Test.YtocbeoomhlgnkaaGreatDoorK39
namespace Go.Proofs.YtocbeoomhlgnkaaGreatDoor
open Go.RowKit
set_option linter.unusedSimpArgs false
set_option linter.unusedVariables false
set_option maxHeartbeats 16000000
section
attribute [local go_sem] undef
theorem ze7 {fn:Func} {p:Tmp} {ty:TypeId} (h:fn.results=#[.cell p ty]) (tmps:Array Value) (P:Program) (w:World):
  (results fn tmps).run P w=((asAddr (tmps.getD p undef)).run P w).andThen fun a w₁=>(loadVar ty a).run P w₁:=by
 simp only[results,h];simp[Sem.run_bind,Result.andThen]
theorem vj {P:Program} {fn:Func} {R:Ending->World->Prop} {n:Nat} {env:List (Nat×Value)} {s:Nat->Value} {w:World} {p:Nat} {ty:TypeId} {B:Nat} (v:Value) (hr:fn.results=#[.cell p ty]) (hp:p<n) (hpv:over env s p=.pointer (Option.some ⟨B,0,Option.none⟩))
  (hl:(loadVar ty ⟨B,0,Option.none⟩).run P w=.ok v w) (hR:R (.returned v) w):bodyPost P fn R .ret (Fr n env s) w:=by
 refine bodyPost_ret (v:=v) ?_ (vz ..) hR;rw[ze7 hr,wa n env s p hp,hpv];simp[asAddr,hl,Result.andThen]
def zp1 (s:List UInt8) (k:Nat):List Value:=if k=0 then [.int .i64 0,.string ⟨#[]⟩,.string ⟨#[]⟩] else [.int .i64 (k:Int),.string wn,.string ⟨s.toArray⟩]
def fauZ:List Value:=[.int .i64 0,.string ⟨#[]⟩,.string ⟨#[]⟩]
theorem zsz (v:Value) (xT:TypeId) (w:World):(Instr.typeAssert (.iface 82 v) xT 82 true).run Tryz.prog w=.ok (.tuple #[v,.bool true]) w:=by kernel_rfl
set_option maxRecDepth 100000 in
theorem zos (w:World):Calls Tryz.prog 38 #[.nilIface] w fun e w'=>e=.returned (.agg fauZ.toArray)/\w.grownBy w' none:=by
 refine ye Tryz.func38 rfl (by rw[Tryz.ntmps38];simp) ?_;intro σ hσ;rw[Tryz.ntmps38];have s0:σ 0=.nilIface:=hσ 0 zi;clear hσ;obtain⟨w1,hw1⟩:=zX (w.alloc (.cells fauZ.toArray 30));have hrB:=Row.new w fauZ 30;have hgB:=World.grownBy_alloc w (.cells fauZ.toArray 30) none;rw[hw1]at hrB hgB;unfold fauZ at hw1;have HRB:=zH hrB;have HGB:=zH hgB;clear hrB hgB;obtain⟨B,hB⟩:=zX w.heap.size;rw[hB]at HRB;have k0:=HRB.out.cell 0;have k1:=HRB.out.cell 1;have k2:=HRB.out.cell 2;have t0:=HRB.out.frozen 0;have t1:=HRB.out.frozen 1;have t2:=HRB.out.frozen 2;unfold fauZ at k0 k1 k2;simp only[List.getElem?_cons_zero,List.getElem?_cons_succ]at k0 k1 k2;have HB:=zH hB;go_upto_region 1 with fail;clear hw1 hB;(go_wp2_with fail;repeat ((first|refine cZ ?_|refine cW ?_);go_wp2_with fail));obtain⟨ty,hrow⟩:=((HRB.out.setCell 0 (.int .i64 0)).setCell 1 (.string ⟨#[]⟩)).setCell 2 (.string ⟨#[]⟩);have hBw:w.heap.size<=B:=by have:=HB.out;omega
 refine vj (B:=B) (.agg fauZ.toArray) rfl ze zb ?_ ⟨rfl,yb (yb (yb HGB.out _ hBw) _ hBw) _ hBw⟩;exact run_loadVar_row (P:=Tryz.prog) _ B ty 30 _ (0,0) _ hrow Tryz.underlying30 rfl zg 
end
section
attribute [local go_sem] undef
theorem ErrN.grown {w w':World} {s:List UInt8} {k N:Nat} (h:ErrN w s k N) (hg:w.grownBy w' none):ErrN w' s k N:=by
 obtain⟨x,h1,h2⟩:=h;exact⟨x,hg.cell h1 zi,(hg.block N (by obtain⟨hlt,-⟩:=Array.getElem?_eq_some_iff.1 h2;exact hlt) zi).trans h2⟩
theorem zbb {w:World} {N:Nat} {xs:List Value} {t:TypeId} (h:w.heap[N]?=some (.cells xs.toArray t (0,0))) (i:Nat):w.cell? ⟨N,i,none⟩=xs[i]?:=
 Row.cell (xs:=xs) ⟨t,h⟩ i
theorem is_S {T:Nat} {s:List UInt8} {k N:Nat} {w:World} (he:EnvP T w) (hn:ErrN w s k N) (hk:k=1\/k=2):∃ a:Addr,w.cell? ⟨1,0,none⟩=some (.iface 155 (.pointer (some a)))/\
  Calls Tryz.prog 58 #[.iface 82 (.pointer (some ⟨N,0,none⟩)),.iface 155 (.pointer (some a))] w fun e w'=>e=.returned (.bool (decide (k=1)))/\w'=w:=by
 obtain⟨aS,aR,cS,cR,tS,tR,h1,h2,h3,h4,h5,h6,h7⟩:=he.errs;obtain⟨x,hx,hN⟩:=hn;have hc:=zbb (xs:=[.string wn,.string ⟨s.toArray⟩,x]) hN 2;simp only[List.getElem?_cons_zero,List.getElem?_cons_succ]at hc;refine⟨aS,h4,?_⟩;rcases hk with rfl | rfl
 ·rw[if_pos rfl,h4]at hx;cases hx;exact zdf N aS w hc
 ·rw[if_neg ze,h5]at hx;cases hx;exact zbv N aR aS cR cS tR tS w hc h3.symm h7 h6
theorem is_R {T:Nat} {s:List UInt8} {k N:Nat} {w:World} (he:EnvP T w) (hn:ErrN w s k N) (hk:k=1\/k=2):∃ a:Addr,w.cell? ⟨2,0,none⟩=some (.iface 155 (.pointer (some a)))/\
  Calls Tryz.prog 58 #[.iface 82 (.pointer (some ⟨N,0,none⟩)),.iface 155 (.pointer (some a))] w fun e w'=>e=.returned (.bool (decide (k=2)))/\w'=w:=by
 obtain⟨aS,aR,cS,cR,tS,tR,h1,h2,h3,h4,h5,h6,h7⟩:=he.errs;obtain⟨x,hx,hN⟩:=hn;have hc:=zbb (xs:=[.string wn,.string ⟨s.toArray⟩,x]) hN 2;simp only[List.getElem?_cons_zero,List.getElem?_cons_succ]at hc;refine⟨aR,h5,?_⟩;rcases hk with rfl | rfl
 ·rw[if_pos rfl,h4]at hx;cases hx;exact zbv N aS aR cS cR tS tR w hc h3 h6 h7
 ·rw[if_neg ze,h5]at hx;cases hx;exact zdf N aR w hc
set_option maxRecDepth 100000 in
theorem zlz (T N:Nat) (s:List UInt8) (w:World) (he:EnvP T w) (hn:ErrN w s 1 N):Calls Tryz.prog 38 #[.iface 82 (.pointer (some ⟨N,0,none⟩))] w fun e w'=>e=.returned (.agg (zp1 s 1).toArray)/\w.grownBy w' none:=by
 refine ye Tryz.func38 rfl (by rw[Tryz.ntmps38];simp) ?_;intro σ hσ;rw[Tryz.ntmps38];have s0:σ 0=.iface 82 (.pointer (some ⟨N,0,none⟩)):=hσ 0 zi;clear hσ;have has:=zsz;obtain⟨B,hB⟩:=zX w.heap.size;obtain⟨W1,hW1⟩:=zX (w.alloc (.cells fauZ.toArray 30));have g1:w.grownBy W1 none:=zαe;have r1:Row W1 B fauZ:=zβi;obtain⟨B2,hB2⟩:=zX W1.heap.size;have hlt:B<B2:=by rw[<-hB2];exact r1.lt
 obtain⟨W2,hW2⟩:=zX (W1.alloc (.cells fauZ.toArray 30));have g2:w.grownBy W2 none:=by rw[<-hW2];exact ym g1 (World.grownBy_alloc W1 _ none)
 have r2:Row W2 B fauZ:=by rw[<-hW2];exact r1.alloc _
 have q2:Row W2 B2 fauZ:=by rw[<-hW2,<-hB2];exact Row.new W1 fauZ 30
 obtain⟨W3,hW3⟩:=zX (((W2.setCell ⟨B2,0,none⟩ (.int .i64 3)).setCell ⟨B2,1,none⟩ (.string ⟨#[]⟩)).setCell ⟨B2,2,none⟩ (.string ⟨#[]⟩));have hs1:w.heap.size<=B:=zd;have hs2:w.heap.size<=B2:=zd;have g3:w.grownBy W3 none:=zZ;have hne:B≠B2:=zd;have hne2:B2≠B:=zd;have r3:Row W3 B fauZ:=zP;have q3:Row W3 B2 [.int .i64 3,.string ⟨#[]⟩,.string ⟨#[]⟩]:=zB;obtain⟨W4,hW4⟩:=zX (W3.setCell ⟨B2,0,none⟩ (.int .i64 1));have g4:w.grownBy W4 none:=by rw[<-hW4];exact yb g3 _ hs2
 have r4:Row W4 B fauZ:=by rw[<-hW4];exact r3.setCell_other hne _
 have q4:Row W4 B2 [.int .i64 1,.string ⟨#[]⟩,.string ⟨#[]⟩]:=by rw[<-hW4];exact q3.setCell 0 (.int .i64 1)
 obtain⟨W5,hW5⟩:=zX (W4.setCell ⟨B2,1,none⟩ (.string wn));have g5:w.grownBy W5 none:=by rw[<-hW5];exact yb g4 _ hs2
 have r5:Row W5 B fauZ:=by rw[<-hW5];exact r4.setCell_other hne _
 have q5:Row W5 B2 [.int .i64 1,.string wn,.string ⟨#[]⟩]:=by rw[<-hW5];exact q4.setCell 1 (.string wn)
 obtain⟨W6,hW6⟩:=zX (W5.setCell ⟨B2,2,none⟩ (.string ⟨s.toArray⟩));have g6:w.grownBy W6 none:=by rw[<-hW6];exact yb g5 _ hs2
 have r6:Row W6 B fauZ:=by rw[<-hW6];exact r5.setCell_other hne _
 have q6:Row W6 B2 [.int .i64 1,.string wn,.string ⟨s.toArray⟩]:=by rw[<-hW6];exact q5.setCell 2 (.string ⟨s.toArray⟩)
 have hl6:(loadVar 30 ⟨B2,0,none⟩).run Tryz.prog W6=.ok (.agg #[.int .i64 1,.string wn,.string ⟨s.toArray⟩]) W6:=by
  obtain⟨ty,hrow⟩:=q6;exact run_loadVar_row (P:=Tryz.prog) _ B2 ty 30 _ (0,0) _ hrow Tryz.underlying30 rfl zg
 have n4:W4.cell? ⟨N,0,none⟩=some (.string wn):=by
  obtain⟨x,-,h⟩:=hn.grown g4;exact zbb (xs:=[.string wn,.string ⟨s.toArray⟩,x]) h 0
 have n5:W5.cell? ⟨N,1,none⟩=some (.string ⟨s.toArray⟩):=by
  obtain⟨x,-,h⟩:=hn.grown g5;exact zbb (xs:=[.string wn,.string ⟨s.toArray⟩,x]) h 1
 obtain⟨aS,hcS,hIS⟩:=is_S (he.grown g3 (fun _ e=>zL)) (hn.grown g3) ze;obtain⟨aR,hcR,hIR⟩:=is_R (he.grown g4 (fun _ e=>zL)) (hn.grown g4) ze;have HIS:=zH hIS;have HIR:=zH hIR;have G6:=zH g6;have R6:=zH r6;have HS1:=zH hs1;have HN:=zH hne;have k0:=q2.cell 0;have k1:=q2.cell 1;have k2:=q2.cell 2;have t0:=q2.frozen 0;have t1:=q2.frozen 1;have t2:=q2.frozen 2;have c3:=q3.cell 0;have f3:=q3.frozen 0;have c4:=q4.cell 1;have f4:=q4.frozen 1;have c5:=q5.cell 2;have f5:=q5.frozen 2;have d0:=q6.cell 0;have d1:=q6.cell 1;have d2:=q6.cell 2;have j0:=r6.cell 0;have j1:=r6.cell 1;have j2:=r6.cell 2;have u0:=r6.frozen 0;have u1:=r6.frozen 1;have u2:=r6.frozen 2;unfold fauZ at k0 k1 k2 j0 j1 j2 hW1 hW2;simp only[List.getElem?_cons_zero,List.getElem?_cons_succ]at k0 k1 k2 c3 c4 c5 d0 d1 d2 j0 j1 j2;clear he hn g1 g2 g3 g4 g5 g6 r1 r2 r3 r4 r5 r6 q2 q3 q4 q5 q6 hIS hIR hs1 hs2 hne hne2 hlt;(go_wp2_with fail;repeat ((first|refine cZ ?_|refine cW ?_);go_wp2_with fail));refine HIS.out.mono ?_;rintro e w9 ⟨rfl,hw9⟩;subst w9;(go_wp2_with fail;repeat ((first|refine cZ ?_|refine cW ?_);go_wp2_with fail));refine HIR.out.mono ?_;rintro e w9 ⟨rfl,hw9⟩;subst w9;(go_wp2_with fail;repeat ((first|refine cZ ?_|refine cW ?_);go_wp2_with fail));obtain⟨ty,hrow⟩:=((R6.out.setCell 0 (.int .i64 1)).setCell 1 (.string wn)).setCell 2 (.string ⟨s.toArray⟩);refine vj (B:=B) (.agg (zp1 s 1).toArray) rfl ze zb ?_ ⟨rfl,yb (yb (yb G6.out _ HS1.out) _ HS1.out) _ HS1.out⟩;exact run_loadVar_row (P:=Tryz.prog) _ B ty 30 _ (0,0) _ hrow Tryz.underlying30 rfl zg
set_option maxRecDepth 100000 in
theorem zly (T N:Nat) (s:List UInt8) (w:World) (he:EnvP T w) (hn:ErrN w s 2 N):Calls Tryz.prog 38 #[.iface 82 (.pointer (some ⟨N,0,none⟩))] w fun e w'=>e=.returned (.agg (zp1 s 2).toArray)/\w.grownBy w' none:=by
 refine ye Tryz.func38 rfl (by rw[Tryz.ntmps38];simp) ?_;intro σ hσ;rw[Tryz.ntmps38];have s0:σ 0=.iface 82 (.pointer (some ⟨N,0,none⟩)):=hσ 0 zi;clear hσ;have has:=zsz;obtain⟨B,hB⟩:=zX w.heap.size;obtain⟨W1,hW1⟩:=zX (w.alloc (.cells fauZ.toArray 30));have g1:w.grownBy W1 none:=zαe;have r1:Row W1 B fauZ:=zβi;obtain⟨B2,hB2⟩:=zX W1.heap.size;have hlt:B<B2:=by rw[<-hB2];exact r1.lt
 obtain⟨W2,hW2⟩:=zX (W1.alloc (.cells fauZ.toArray 30));have g2:w.grownBy W2 none:=by rw[<-hW2];exact ym g1 (World.grownBy_alloc W1 _ none)
 have r2:Row W2 B fauZ:=by rw[<-hW2];exact r1.alloc _
 have q2:Row W2 B2 fauZ:=by rw[<-hW2,<-hB2];exact Row.new W1 fauZ 30
 obtain⟨W3,hW3⟩:=zX (((W2.setCell ⟨B2,0,none⟩ (.int .i64 3)).setCell ⟨B2,1,none⟩ (.string ⟨#[]⟩)).setCell ⟨B2,2,none⟩ (.string ⟨#[]⟩));have hs1:w.heap.size<=B:=zd;have hs2:w.heap.size<=B2:=zd;have g3:w.grownBy W3 none:=zZ;have hne:B≠B2:=zd;have hne2:B2≠B:=zd;have r3:Row W3 B fauZ:=zP;have q3:Row W3 B2 [.int .i64 3,.string ⟨#[]⟩,.string ⟨#[]⟩]:=zB;obtain⟨W4,hW4⟩:=zX (W3.setCell ⟨B2,0,none⟩ (.int .i64 2));have g4:w.grownBy W4 none:=by rw[<-hW4];exact yb g3 _ hs2
 have r4:Row W4 B fauZ:=by rw[<-hW4];exact r3.setCell_other hne _
 have q4:Row W4 B2 [.int .i64 2,.string ⟨#[]⟩,.string ⟨#[]⟩]:=by rw[<-hW4];exact q3.setCell 0 (.int .i64 2)
 obtain⟨W5,hW5⟩:=zX (W4.setCell ⟨B2,1,none⟩ (.string wn));have g5:w.grownBy W5 none:=by rw[<-hW5];exact yb g4 _ hs2
 have r5:Row W5 B fauZ:=by rw[<-hW5];exact r4.setCell_other hne _
 have q5:Row W5 B2 [.int .i64 2,.string wn,.string ⟨#[]⟩]:=by rw[<-hW5];exact q4.setCell 1 (.string wn)
 obtain⟨W6,hW6⟩:=zX (W5.setCell ⟨B2,2,none⟩ (.string ⟨s.toArray⟩));have g6:w.grownBy W6 none:=by rw[<-hW6];exact yb g5 _ hs2
 have r6:Row W6 B fauZ:=by rw[<-hW6];exact r5.setCell_other hne _
 have q6:Row W6 B2 [.int .i64 2,.string wn,.string ⟨s.toArray⟩]:=by rw[<-hW6];exact q5.setCell 2 (.string ⟨s.toArray⟩)
 have hl6:(loadVar 30 ⟨B2,0,none⟩).run Tryz.prog W6=.ok (.agg #[.int .i64 2,.string wn,.string ⟨s.toArray⟩]) W6:=by
  obtain⟨ty,hrow⟩:=q6;exact run_loadVar_row (P:=Tryz.prog) _ B2 ty 30 _ (0,0) _ hrow Tryz.underlying30 rfl zg
 have n4:W4.cell? ⟨N,0,none⟩=some (.string wn):=by
  obtain⟨x,-,h⟩:=hn.grown g4;exact zbb (xs:=[.string wn,.string ⟨s.toArray⟩,x]) h 0
 have n5:W5.cell? ⟨N,1,none⟩=some (.string ⟨s.toArray⟩):=by
  obtain⟨x,-,h⟩:=hn.grown g5;exact zbb (xs:=[.string wn,.string ⟨s.toArray⟩,x]) h 1
 obtain⟨aS,hcS,hIS⟩:=is_S (he.grown g3 (fun _ e=>zL)) (hn.grown g3) ze;obtain⟨aR,hcR,hIR⟩:=is_R (he.grown g3 (fun _ e=>zL)) (hn.grown g3) ze;have HIS:=zH hIS;have HIR:=zH hIR;have G6:=zH g6;have R6:=zH r6;have HS1:=zH hs1;have HN:=zH hne;have k0:=q2.cell 0;have k1:=q2.cell 1;have k2:=q2.cell 2;have t0:=q2.frozen 0;have t1:=q2.frozen 1;have t2:=q2.frozen 2;have c3:=q3.cell 0;have f3:=q3.frozen 0;have c4:=q4.cell 1;have f4:=q4.frozen 1;have c5:=q5.cell 2;have f5:=q5.frozen 2;have d0:=q6.cell 0;have d1:=q6.cell 1;have d2:=q6.cell 2;have j0:=r6.cell 0;have j1:=r6.cell 1;have j2:=r6.cell 2;have u0:=r6.frozen 0;have u1:=r6.frozen 1;have u2:=r6.frozen 2;unfold fauZ at k0 k1 k2 j0 j1 j2 hW1 hW2;simp only[List.getElem?_cons_zero,List.getElem?_cons_succ]at k0 k1 k2 c3 c4 c5 d0 d1 d2 j0 j1 j2;clear he hn g1 g2 g3 g4 g5 g6 r1 r2 r3 r4 r5 r6 q2 q3 q4 q5 q6 hIS hIR hs1 hs2 hne hne2 hlt;(go_wp2_with fail;repeat ((first|refine cZ ?_|refine cW ?_);go_wp2_with fail));refine HIS.out.mono ?_;rintro e w9 ⟨rfl,hw9⟩;subst w9;(go_wp2_with fail;repeat ((first|refine cZ ?_|refine cW ?_);go_wp2_with fail));refine HIR.out.mono ?_;rintro e w9 ⟨rfl,hw9⟩;subst w9;(go_wp2_with fail;repeat ((first|refine cZ ?_|refine cW ?_);go_wp2_with fail));obtain⟨ty,hrow⟩:=((R6.out.setCell 0 (.int .i64 2)).setCell 1 (.string wn)).setCell 2 (.string ⟨s.toArray⟩);refine vj (B:=B) (.agg (zp1 s 2).toArray) rfl ze zb ?_ ⟨rfl,yb (yb (yb G6.out _ HS1.out) _ HS1.out) _ HS1.out⟩;exact run_loadVar_row (P:=Tryz.prog) _ B ty 30 _ (0,0) _ hrow Tryz.underlying30 rfl zg
theorem ziz (T:Nat) (s:List UInt8) (k:Nat) (ev:Value) (w:World) (he:EnvP T w) (hq:ya1 w s k ev):
  Calls Tryz.prog 38 #[ev] w fun e w'=>e=.returned (.agg (zp1 s k).toArray)/\w.grownBy w' none:=by
 rcases hq with⟨rfl,rfl⟩ | ⟨hk,N,rfl,hn⟩
 ·exact zos w
 ·rcases hk with rfl | rfl
  ·exact zlz T N s w he hn
  ·exact zly T N s w he hn
end
section
attribute [local go_sem] undef
theorem zot (b:Nat) (hb:b<18446744073709551616) (w:World):(callFunc 37 #[.float .f64 b]).run Tryz.prog w=.ok (.value (.int .u64 (b:Int))) w:=by kernel_rfl
theorem zb4 {fn:Func} {p u:Tmp} {ty:TypeId} (h:fn.results=#[.tmp u,.cell p ty]) (tmps:Array Value) (P:Program) (w:World):
  (results fn tmps).run P w=((asAddr (tmps.getD p undef)).run P w).andThen fun a w₁=>((loadVar ty a).run P w₁).andThen fun v w₂=>.ok (.tuple #[tmps.getD u undef,v]) w₂:=by
 simp only[results,h];simp[Sem.run_bind,Result.andThen]
theorem zqm {P:Program} {fn:Func} {R:Ending->World->Prop} {n:Nat} {env:List (Nat×Value)} {s:Nat->Value} {w:World} {p u:Nat} {ty:TypeId} {B:Nat} (x v:Value) (hr:fn.results=#[.tmp u,.cell p ty]) (hu:u<n) (hp:p<n) (hx:over env s u=x) (hpv:over env s p=.pointer (Option.some ⟨B,0,Option.none⟩))
  (hl:(loadVar ty ⟨B,0,Option.none⟩).run P w=.ok v w) (hR:R (.returned (.tuple #[x,v])) w):bodyPost P fn R .ret (Fr n env s) w:=by
 refine bodyPost_ret (v:=.tuple #[x,v]) ?_ (vz ..) hR;rw[zb4 hr,wa n env s p hp,wa n env s u hu,hpv,hx];simp[asAddr,hl,Result.andThen]
theorem zwh (s:List UInt8) (k:Nat):∃ (a:Int) (b c:ByteArray),zp1 s k=[.int .i64 a,.string b,.string c]:=by unfold zp1;split <;> exact⟨_,_,_,rfl⟩
theorem zvp (F:Nat) (bias:Int) (inf b:Nat) (l:List Nat) (x:Int) (hbias:1<=bias) (hinf:inf=(2*bias+1).toNat*2^F):spN F bias inf b l x<=inf:=by
 unfold spN;split
 ·omega
 ·split
  ·exact Nat.le_refl _
  ·exact ud F bias inf _ _ (qg _ (by unfold tenP;split <;> decide)) hbias hinf
theorem zjr (t:Txt):spB 52 1023 9218868437227405312 t<=9218868437227405312:=zvp 52 1023 _ _ _ _ ze rfl
theorem zz1 (t:Txt):spB 23 127 2139095040 t<=2139095040:=zvp 23 127 _ _ _ _ ze rfl
theorem PaQ64.lt {s:List UInt8} {v k:Nat} (h:PaQ64 s v k):v<18446744073709551616:=by
 unfold PaQ64 at h;split at h
 ·omega
 ·rename_i t ht;obtain⟨h0,h1,h2⟩:=h;rcases za0 ht with e | e | e
  ·have:=(h2 e).1;have h3:=zjr t;have h4:sgB t.neg<=9223372036854775808:=by unfold sgB;split <;> omega
   omega
  ·rw[(h1 e).1];cases t.neg <;> decide
  ·exact (h0 e).1.2
theorem PaQw.lt {s:List UInt8} {v k:Nat} (h:PaQw s v k):v<18446744073709551616:=by
 obtain⟨v,-,⟨-,h⟩ | ⟨-,-,h,-⟩⟩:=h
 ·exact h.1
 ·exact h
set_option maxRecDepth 100000 in
theorem zhd (T:Nat) (s:List UInt8) (w:World) (he:EnvP T w) (hs:s.length<=800):
  Calls Tryz.prog 20 #[.string ⟨s.toArray⟩] w fun e w'=>(∃ v k:Nat,e=.returned (.tuple #[.int .u64 (v:Int),.agg (zp1 s k).toArray])/\PaQ64 s v k)/\w.grownBy w' none:=by
 refine ye Tryz.func20 rfl (by rw[Tryz.ntmps20];simp) ?_;intro σ hσ;rw[Tryz.ntmps20];have s0:σ 0=.string ⟨s.toArray⟩:=hσ 0 zi;clear hσ;obtain⟨B,hB⟩:=zX w.heap.size;obtain⟨W1,hW1⟩:=zX (w.alloc (.cells fauZ.toArray 30));have g1:w.grownBy W1 none:=zαe;have r1:Row W1 B fauZ:=zβi;have HAT:=zH (zgr T s W1 (he.grown g1 (fun _ e=>zL)) hs);have hs1:w.heap.size<=B:=zd;have HB:=zH hs1;have G1:=zH g1;have R1:=zH r1;have HE:=zH he;unfold fauZ at hW1;clear hs1 g1 r1 he;(go_wp2_with fail;repeat ((first|refine cZ ?_|refine cW ?_);go_wp2_with fail));refine HAT.out.mono ?_;rintro e w2 ⟨⟨v,k,ev,rfl,hp,hq⟩,hg2⟩;clear hW1;have hv:v<18446744073709551616:=hp.lt;have hf:=fun W=>zot v hv W
 have HFO:=zH (ziz T s k ev w2 (HE.out.grown (ym G1.out hg2) (fun _ e=>zL)) hq);have G2:=zH (ym G1.out hg2);have R2:=zH (R1.out.grown hg2 zi);have HP:=zH hp;clear hp hq hg2 hv HAT HE R1 G1;(go_wp2_with fail;repeat ((first|refine cZ ?_|refine cW ?_);go_wp2_with fail));refine HFO.out.mono ?_;rintro e w3 ⟨rfl,hg3⟩;have G3:=zH (ym G2.out hg3);have R3:=zH (R2.out.grown hg3 zi);obtain⟨fa,fb,fc,hfa⟩:=zwh s k;have HF:=zH hfa;rw[hfa];have k0:=R3.out.cell 0;have k1:=R3.out.cell 1;have k2:=R3.out.cell 2;have u0:=R3.out.frozen 0;have u1:=R3.out.frozen 1;have u2:=R3.out.frozen 2;unfold fauZ at k0 k1 k2;simp only[List.getElem?_cons_zero,List.getElem?_cons_succ]at k0 k1 k2;clear hg3 hfa;(go_wp2_with fail;repeat ((first|refine cZ ?_|refine cW ?_);go_wp2_with fail));obtain⟨ty,hrow⟩:=((R3.out.setCell 0 (.int .i64 fa)).setCell 1 (.string fb)).setCell 2 (.string fc);refine zqm (B:=B) (.int .u64 (v:Int)) (.agg #[.int .i64 fa,.string fb,.string fc]) rfl ze ze zb zb ?_ ⟨⟨v,k,by rw[HF.out],HP.out⟩,yb (yb (yb G3.out _ HB.out) _ HB.out) _ HB.out⟩;exact run_loadVar_row (P:=Tryz.prog) _ B ty 30 _ (0,0) _ hrow Tryz.underlying30 rfl zg
set_option maxRecDepth 100000 in
theorem zxw (T:Nat) (s:List UInt8) (w:World) (he:EnvP T w) (hs:s.length<=800):
  Calls Tryz.prog 17 #[.string ⟨s.toArray⟩] w fun e w'=>(∃ v k:Nat,e=.returned (.tuple #[.int .u64 (v:Int),.agg (zp1 s k).toArray])/\PaQw s v k)/\w.grownBy w' none:=by
 refine ye Tryz.func17 rfl (by rw[Tryz.ntmps17];simp) ?_;intro σ hσ;rw[Tryz.ntmps17];have s0:σ 0=.string ⟨s.toArray⟩:=hσ 0 zi;clear hσ;obtain⟨B,hB⟩:=zX w.heap.size;obtain⟨W1,hW1⟩:=zX (w.alloc (.cells fauZ.toArray 30));have g1:w.grownBy W1 none:=zαe;have r1:Row W1 B fauZ:=zβi;have HAT:=zH (zyq T s W1 (he.grown g1 (fun _ e=>zL)) hs);have hs1:w.heap.size<=B:=zd;have HB:=zH hs1;have G1:=zH g1;have R1:=zH r1;have HE:=zH he;unfold fauZ at hW1;clear hs1 g1 r1 he;(go_wp2_with fail;repeat ((first|refine cZ ?_|refine cW ?_);go_wp2_with fail));refine HAT.out.mono ?_;rintro e w2 ⟨⟨v,k,ev,rfl,hp,hq⟩,hg2⟩;clear hW1;have hv:v<18446744073709551616:=hp.lt;have hf:=fun W=>zot v hv W
 have HFO:=zH (ziz T s k ev w2 (HE.out.grown (ym G1.out hg2) (fun _ e=>zL)) hq);have G2:=zH (ym G1.out hg2);have R2:=zH (R1.out.grown hg2 zi);have HP:=zH hp;clear hp hq hg2 hv HAT HE R1 G1;(go_wp2_with fail;repeat ((first|refine cZ ?_|refine cW ?_);go_wp2_with fail));refine HFO.out.mono ?_;rintro e w3 ⟨rfl,hg3⟩;have G3:=zH (ym G2.out hg3);have R3:=zH (R2.out.grown hg3 zi);obtain⟨fa,fb,fc,hfa⟩:=zwh s k;have HF:=zH hfa;rw[hfa];have k0:=R3.out.cell 0;have k1:=R3.out.cell 1;have k2:=R3.out.cell 2;have u0:=R3.out.frozen 0;have u1:=R3.out.frozen 1;have u2:=R3.out.frozen 2;unfold fauZ at k0 k1 k2;simp only[List.getElem?_cons_zero,List.getElem?_cons_succ]at k0 k1 k2;clear hg3 hfa;(go_wp2_with fail;repeat ((first|refine cZ ?_|refine cW ?_);go_wp2_with fail));obtain⟨ty,hrow⟩:=((R3.out.setCell 0 (.int .i64 fa)).setCell 1 (.string fb)).setCell 2 (.string fc);refine zqm (B:=B) (.int .u64 (v:Int)) (.agg #[.int .i64 fa,.string fb,.string fc]) rfl ze ze zb zb ?_ ⟨⟨v,k,by rw[HF.out],HP.out⟩,yb (yb (yb G3.out _ HB.out) _ HB.out) _ HB.out⟩;exact run_loadVar_row (P:=Tryz.prog) _ B ty 30 _ (0,0) _ hrow Tryz.underlying30 rfl zg 
end
theorem ztp (t:Txt):spG 9218868437227405312 xd t=spB 52 1023 9218868437227405312 t:=rfl
theorem yag (t:Txt):spG 2139095040 zxq t=spB 23 127 2139095040 t:=rfl
theorem zv1 {inf sg:Nat} {nb:Nat->Nat->Nat} {r:Txt} (e:r.kind=0):zqq inf sg nb r=spG inf nb r+(if r.neg then sg else 0):=by
 unfold zqq;rw[if_neg zαW,if_neg zαW]
theorem zv0 {inf sg:Nat} {nb:Nat->Nat->Nat} {r:Txt} (e:r.kind=1):zqq inf sg nb r=inf+(if r.neg then sg else 0):=by
 unfold zqq;rw[if_pos e]
theorem zvz {inf sg:Nat} {nb:Nat->Nat->Nat} {r:Txt} (e:r.kind=2):zqq inf sg nb r=inf+1:=by
 unfold zqq;rw[if_neg zαW,if_pos e]
theorem yar {inf:Nat} {nb:Nat->Nat->Nat} {r:Txt} (e:r.kind=0):ovP inf nb r=(spG inf nb r==inf):=by
 unfold ovP;rw[e];simp
theorem zv2 {inf:Nat} {nb:Nat->Nat->Nat} {r:Txt} (e:r.kind≠0):ovP inf nb r=false:=by
 unfold ovP;simp[e]
theorem zrc {s:List UInt8} {v k:Nat} (h:PaQ64 s v k):k=zig s/\(k≠1->v=zdy s\/(kn 9218868437227405312 9223372036854775808 v=2/\kn 9218868437227405312 9223372036854775808 (zdy s)=2))/\zdy s<18446744073709551616:=by
 unfold PaQ64 at h;unfold zig zdy;cases hr:ul s with
 | none=>
  rw[hr]at h;obtain⟨rfl,rfl⟩:=h;exact⟨rfl,fun h=>absurd rfl h,ze⟩
 | some t=>
  rw[hr]at h;dsimp only at h ⊢;obtain⟨h2,h1,h0⟩:=h;have hle:=zjr t;have hl:(if t.neg=true then 9223372036854775808 else 0)<=9223372036854775808:=zαT;rcases za0 hr with e | e | e
  ·obtain⟨rfl,rfl⟩:=h0 e;rw[zv1 e,yar e,ztp];refine⟨?_,fun _=>Or.inl ?_,zd⟩
   ·by_cases hx:spB 52 1023 9218868437227405312 t=9218868437227405312
    ·simp[hx]
    ·simp[hx]
   ·unfold sgB;exact Nat.add_comm _ _
  ·obtain⟨rfl,rfl⟩:=h1 e;rw[zv0 e,zv2 zαW];refine⟨rfl,fun _=>Or.inl ?_,zd⟩;cases t.neg <;> rfl
  ·obtain⟨⟨h3,h4⟩,rfl⟩:=h2 e;rw[zvz e,zv2 zαW];exact⟨rfl,fun _=>Or.inr ⟨zde rfl h3,zde rfl ze⟩,ze⟩
theorem zyg {v r:Nat} (h:yak v r) (hn:¬zxp v):r=zyo v:=by
 rcases h with⟨h,-⟩ | ⟨h1,-,-,h4⟩
 ·exact absurd h hn
 ·unfold zyo;by_cases hf:v%2147483648<2139095040
  ·rw[if_pos hf];rw[yaf v h1 hf]at h4;exact (Option.some.inj h4).symm
  ·have h5:¬2139095040<v%2147483648:=fun h=>hn ⟨h1,h⟩
   have h6:v=2139095040\/v=4286578688:=zd;rw[if_neg hf];rcases h6 with rfl | rfl
   ·have:floatToFloatBits .f32 2139095040 .f64=some 9218868437227405312:=zp;rw[this]at h4;exact (Option.some.inj h4).symm
   ·have:floatToFloatBits .f32 4286578688 .f64=some 18442240474082181120:=zp;rw[this]at h4;exact (Option.some.inj h4).symm
theorem zzf (v:Nat) (hv:v<4294967296):zyo v<18446744073709551616:=by
 unfold zyo;by_cases hf:v%2147483648<2139095040
 ·rw[if_pos hf];exact (zxi v hv hf).1
 ·rw[if_neg hf];unfold sgW zs5;split <;> split <;> omega
theorem zyh {s:List UInt8} {v k:Nat} (h:PaQw s v k):k=zya s/\(k≠1->v=zxy s\/(kn 9218868437227405312 9223372036854775808 v=2/\kn 9218868437227405312 9223372036854775808 (zxy s)=2))/\zxy s<18446744073709551616:=by
 obtain⟨u,h,hw⟩:=h;unfold PaQ32 at h;unfold zya zxy;cases hr:ul s with
 | none=>
  rw[hr]at h;obtain⟨rfl,rfl⟩:=h;exact⟨rfl,fun h=>absurd rfl h,ze⟩
 | some t=>
  rw[hr]at h;dsimp only at h ⊢;obtain⟨h2,h1,h0⟩:=h;have hle:=zz1 t;have hl:(if t.neg=true then 2147483648 else 0)<=2147483648:=zαT;rcases za0 hr with e | e | e
  ·obtain⟨hu,rfl⟩:=h0 e;rw[zv1 e,yar e,yag];have hu2:u=spB 23 127 2139095040 t+if t.neg=true then 2147483648 else 0:=by rw[hu];unfold sgC;exact Nat.add_comm _ _
   rw[<-hu2];have hnn:¬zxp u:=by
    rintro⟨h3,h4⟩;revert h4;rw[hu2];split <;> omega
   refine⟨?_,fun _=>Or.inl (zyg hw hnn),zzf _ zd⟩;by_cases hx:spB 23 127 2139095040 t=2139095040
   ·simp[hx]
   ·simp[hx]
  ·obtain⟨hu,rfl⟩:=h1 e;rw[zv0 e,zv2 zαW];have hu2:u=2139095040+if t.neg=true then 2147483648 else 0:=by rw[hu];cases t.neg <;> rfl
   rw[<-hu2];have hnn:¬zxp u:=by
    rintro⟨h3,h4⟩;revert h4;rw[hu2];split <;> omega
   exact⟨rfl,fun _=>Or.inl (zyg hw hnn),zzf _ zd⟩
  ·obtain⟨h3,rfl⟩:=h2 e;rw[zvz e,zv2 zαW];have hw9:zyo (2139095040+1)=9223372036854775807:=by
    unfold zyo;rw[if_neg ze];rfl
   rw[hw9];refine⟨rfl,fun _=>Or.inr ⟨?_,zde rfl ze⟩,ze⟩;rcases hw with⟨-,h5⟩ | ⟨-,h5,-⟩
   ·exact zde rfl h5.2
   ·exact absurd h3 h5
def RdNum (s:List UInt8) (neg:Bool) (a b:Nat):Prop:=b≠0/\∃ t,ul s=some t/\t.kind=0/\t.neg=neg/\∀ (F:Nat) (bias:Int) (inf:Nat),1<=bias->bias<=1023->1<=F->bias+F<=1075->spB F bias inf t=xh F bias inf a b
theorem RdNum.pa64 {s:List UInt8} {n:Bool} {a b v k:Nat} (h:RdNum s n a b) (hp:PaQ64 s v k):v=sgB n+xd a b/\k=if xd a b=9218868437227405312 then 2 else 0:=by
 obtain⟨hb,t,h1,h2,h3,h4⟩:=h;unfold PaQ64 at hp;rw[h1]at hp;obtain⟨e1,e2⟩:=hp.2.2 h2;rw[h4 52 1023 9218868437227405312 ze ze ze ze]at e1 e2;rw[h3]at e1;exact⟨e1,e2⟩
theorem RdNum.paw {s:List UInt8} {n:Bool} {a b v k:Nat} (h:RdNum s n a b) (hp:PaQw s v k):v=zyo (sgC n+zxq a b)/\k=if zxq a b=2139095040 then 2 else 0:=by
 obtain⟨hb,t,h1,h2,h3,h4⟩:=h;obtain⟨u,hp,hw⟩:=hp;unfold PaQ32 at hp;rw[h1]at hp;obtain⟨e1,e2⟩:=hp.2.2 h2;rw[h4 23 127 2139095040 ze ze ze ze]at e1 e2;rw[h3]at e1;have hle:=ud 23 127 2139095040 a b hb ze ze;have e3:u=sgC n+zxq a b:=e1;refine⟨?_,e2⟩;rw[<-e3];refine zyg hw ?_;rintro⟨-,h⟩;have:zxq a b<=2139095040:=hle;cases n
 ·rw[show sgC false=0 from rfl]at e3;omega
 ·rw[show sgC true=2147483648 from rfl]at e3;omega
theorem yb3 {a c b:Nat} {k:Int} (h:a<=c) (h1:le2 a b k):le2 c b k:=by
 unfold le2 at *
 exact Nat.le_trans h1 (Nat.mul_le_mul_right _ h)
theorem ybw {a c b:Nat} (ha:a≠0) (hb:b≠0) (h:a<=c):uo a b<=uo c b:=by
 have hc:c≠0:=zd;obtain⟨h1,-⟩:=wg a b ha hb;obtain⟨-,h4⟩:=wg c b hc hb;by_cases hlt:uo a b<=uo c b
 ·exact hlt
 ·exfalso;apply h4;have h5:=yb3 h h1;have:=(wg c b hc hb);exact wh zd h5
theorem ybo {a c b:Nat} (f bias:Int) (hb:b≠0) (h:a<=c):yt f bias a b<=yt f bias c b:=by
 unfold yt;by_cases ha:a=0
 ·rw[if_pos ha];split <;> omega
 ·have:=ybw ha hb h;rw[if_neg ha,if_neg zd];omega
theorem ybh (f:Nat) (bias:Int) (inf a c b:Nat) (hb:b≠0) (h:a<=c) (hbias:1<=bias) (hinf:inf=(2*bias+1).toNat*2^f):xh f bias inf a b<=xh f bias inf c b:=by
 have hle:=ud f bias inf a b hb hbias hinf;have hm:=ybo f bias hb h;unfold xh at *
 by_cases h1:yt f bias c b<=bias-f
 ·have h2:yt f bias a b<=bias-f:=zd;rw[if_pos h1,if_pos h2];have hlo:1-bias-f<=yt f bias a b:=zβk;by_cases he:yt f bias a b=yt f bias c b
  ·rw[he];have:rB a b (yt f bias c b)<=rB c b (yt f bias c b):=zcv (Nat.mul_pos zd (p2 _)) (Nat.mul_le_mul_right _ h);omega
  ·have hr1:=zld a b f bias hb zd;have hc0:c≠0:=by
    intro e0;have h1:yt f bias c b=1-bias-f:=by unfold yt;rw[if_pos e0]
    omega
   have hE2:yt f bias c b=uo c b-f:=by
    have:yt f bias c b=max (1-bias-f) (uo c b-f):=by unfold yt;rw[if_neg hc0]
    omega
   have hr2:2^f<=rB c b (yt f bias c b):=zgv hb (by rw[hE2,show uo c b-(f:Int)+(f:Int)=uo c b by omega];exact (wg c b hc0 hb).1);rw[Int.toNat_natCast]at *
   generalize rB a b (yt f bias a b)=x at *
   generalize rB c b (yt f bias c b)=y at *
   generalize yt f bias a b=E1 at *
   generalize yt f bias c b=E2 at *
   rw[Nat.pow_succ]at hr1;generalize 2^f=p at *
   obtain⟨m,hm⟩:=zX ((E1-(1-bias-f)).toNat);obtain⟨n,hn⟩:=zX ((E2-(1-bias-f)).toNat);rw[hm,hn];have hmn:m+1<=n:=zd;have:=Nat.mul_le_mul_right p hmn;rw[Nat.add_mul,Nat.one_mul]at this;omega
 ·rw[if_neg h1];exact hle
theorem ya5 (f:Nat) (bias:Int) (inf a b c d:Nat) (hb:b≠0) (hd:d≠0) (h:a*d<=c*b) (hbias:1<=bias) (hinf:inf=(2*bias+1).toNat*2^f):xh f bias inf a b<=xh f bias inf c d:=by
 have hbd:b*d≠0:=Nat.mul_ne_zero hb hd;rw[ue (f:Int) bias inf (a:=a) (b:=b) (c:=a*d) (d:=b*d) hb hbd (by ac_rfl),ue (f:Int) bias inf (a:=c) (b:=d) (c:=c*b) (d:=b*d) hd hbd (by ac_rfl)];exact ybh f bias inf _ _ _ hbd h hbias hinf
def ybc (s:Bool) (x:Nat):Int:=if s then -(x:Int) else (x:Int)
theorem yby (s1 s2:Bool) (a b c d X Y:Nat) (hX:a*d<=c*b->X<=Y) (hY:c*b<=a*d->Y<=X) (hX0:a=0->X=0) (hY0:c=0->Y=0):
  (zu6 s1 s2 a b c d<=0->ybc s1 X<=ybc s2 Y)/\(0<=zu6 s1 s2 a b c d->ybc s2 Y<=ybc s1 X):=by
 have hk:(ko (a*d) (c*b)=-1/\a*d<c*b)\/(ko (a*d) (c*b)=0/\a*d=c*b)\/(ko (a*d) (c*b)=1/\c*b<a*d):=by
  unfold ko;split
  ·rename_i h;exact Or.inl ⟨rfl,h⟩
  ·split
   ·rename_i h;exact Or.inr (Or.inr ⟨rfl,h⟩)
   ·exact Or.inr (Or.inl ⟨rfl,zd⟩)
 have hp0:a=0->a*d=0:=fun h=>by rw[h,Nat.zero_mul]
 have hq0:c=0->c*b=0:=fun h=>by rw[h,Nat.zero_mul]
 unfold zu6 ybc;generalize ko (a*d) (c*b)=k at *
 generalize a*d=p at *
 generalize c*b=q at *
 by_cases ha:a=0 <;> by_cases hc:c=0 <;> cases s1 <;> cases s2;all_goals
  simp only[ha,hc,ne_eq,not_true_eq_false,not_false_eq_true,decide_true,decide_false,Bool.and_true,Bool.and_false,Bool.true_and,Bool.false_and,Bool.false_eq_true,if_false,if_true];refine⟨fun h=>?_,fun h=>?_⟩ <;> omega
theorem ybl {s:List UInt8} {x:Bool×Nat×Nat} (h:zjy s=some x):∃ t,ul s=some t/\t.kind=0:=by
 unfold zjy at h;cases hr:ul s with
 | none=>rw[hr]at h;cases h
 | some t=>
  rw[hr]at h;dsimp only at h;by_cases hk:t.kind=0
  ·exact⟨t,rfl,hk⟩
  ·rw[if_pos hk]at h;cases h
theorem ybe {s:List UInt8} {ng:Bool} {n d:Nat} (h:zjy s=some (ng,n,d)):RdNum s ng n d:=by
 obtain⟨t,hr,hk⟩:=ybl h;have hok:=(ze9 hr).2 hk;unfold zjy at h;rw[hr]at h;dsimp only at h;rw[if_neg (by rw[hk];decide)]at h;by_cases h0:t.digits=[]
 ·rw[if_pos h0]at h;cases h;refine⟨ze,t,hr,hk,rfl,fun F bias inf b1 b2 f1 f2=>?_⟩;rw[zai F bias inf 1 ze b1 f1];unfold spB spN;rw[if_pos (by unfold zq0;rw[if_pos h0])]
 ·rw[if_neg h0]at h;by_cases ho:zb8 t.base t.digits t.exp=0
  ·rw[if_neg (by rw[ho];decide)]at h;cases h;refine⟨qg _ (by rcases hok.1 with e | e <;> rw[e] <;> decide),t,hr,hk,rfl,fun F bias inf b1 b2 f1 f2=>?_⟩;have hop:zq0 t.base t.digits t.exp=0:=ho;unfold spB spN;rw[hop,if_neg ze,if_neg ze];rfl
  ·rw[if_pos ho]at h;cases h
theorem ybx {c:UInt8} (h1:c≠43) (h2:c≠45):vb c≠43/\vb c≠45:=by
 unfold vb;split
 ·rename_i h;have e:(UInt8.ofNat (c.toNat+32)).toNat=c.toNat+32:=by rw[UInt8.toNat_ofNat'];exact Nat.mod_eq_of_lt zd
  constructor
  ·intro hh;rw[hh]at e;have:(43:UInt8).toNat=43:=rfl;omega
  ·intro hh;rw[hh]at e;have:(45:UInt8).toNat=45:=rfl;omega
 ·exact⟨h1,h2⟩
theorem ybd {c:UInt8} {r:List UInt8} {t:Txt} (h:ul (c::r)=some t) (hk:t.kind=0) (h1:c≠43) (h2:c≠45):
  t.neg=false/\ul (43::c::r)=some t/\ul (45::c::r)=some ⟨0,true,t.base,t.digits,t.exp⟩:=by
 obtain⟨e1,e2⟩:=ybx h1 h2;have hl:xf (c::r)=vb c::xf r:=rfl;have hl3:xf (43::c::r)=43::xf (c::r):=rfl;have hl5:xf (45::c::r)=45::xf (c::r):=rfl;have hs:sgL (xf (c::r))=(false,xf (c::r)):=by rw[hl];simp[sgL,e1,e2]
 unfold ul at h;rw[hs]at h;by_cases hn:xf (c::r)=[110,97,110]
 ·rw[if_pos hn]at h;cases h;cases hk
 ·rw[if_neg hn]at h;unfold zna at h;dsimp only at h;split at h
  ·cases h;cases hk
  ·rename_i hi;obtain⟨x,hx,rfl⟩:=Option.map_eq_some_iff.1 h;refine⟨rfl,?_,?_⟩
   ·unfold ul;rw[hl3,if_neg (by intro e;have:=(List.cons.inj e).1;revert this;decide),show sgL (43::xf (c::r))=(false,xf (c::r)) by simp[sgL]];unfold zna;dsimp only;rw[if_neg hi,hx];rfl
   ·unfold ul;rw[hl5,if_neg (by intro e;have:=(List.cons.inj e).1;revert this;decide),show sgL (45::xf (c::r))=(true,xf (c::r)) by simp[sgL]];unfold zna;dsimp only;rw[if_neg hi,hx];rfl
theorem ybf (x:Nat) (hx:x<=2139095040):zyo (2147483648+x)=9223372036854775808+zyo x:=by
 unfold zyo;rw[show (2147483648+x)%2147483648=x by omega,show x%2147483648=x by omega];by_cases h:x<2139095040
 ·rw[if_pos h,if_pos h];have hm:m32 (2147483648+x)=m32 x:=by
   rw[<-zv8,<-zv8,show (2147483648+x)%2147483648=x by omega,show x%2147483648=x by omega]
  have he:e32 (2147483648+x)=e32 x:=by
   rw[<-zwp,<-zwp,show (2147483648+x)%2147483648=x by omega,show x%2147483648=x by omega]
  unfold zma;rw[hm,he,if_pos zd,if_neg zd];omega
 ·rw[if_neg h,if_neg h];have:x=2139095040:=zd;subst this;decide
theorem ybq (x:Nat) (hx:x<=2139095040):zyo x<9223372036854775808:=by
 unfold zyo;by_cases h:x%2147483648<2139095040
 ·rw[if_pos h];obtain⟨h1,h2,h3,-⟩:=zxi x zd h;have h4:¬2147483648<=x:=zd;have h5:¬9223372036854775808<=zma x:=by
   intro hh;rw[decide_eq_true hh,decide_eq_false h4]at h3;cases h3
  omega
 ·rw[if_neg h];have:x=2139095040:=zd;subst this;decide
theorem ybr:zyo 0=0/\zyo 2147483648=9223372036854775808/\zyo 4286578688=18442240474082181120:=by
 have h0:zyo 0=0:=by
  unfold zyo;rw[if_pos ze];unfold zma;rw[if_neg ze,Nat.add_zero];have hm:m32 0=0:=by rw[<-zv8];decide
  unfold vN;rw[hm,Nat.zero_mul];exact zai 52 1023 _ _ (Nat.ne_of_gt (zjf _)) ze ze
 refine⟨h0,?_,?_⟩
 ·have:=ybf 0 ze;rw[h0]at this;exact this
 ·unfold zyo;rw[if_neg ze];decide
theorem ybk (x y:Nat) (h:x≤y) (hy:y≤2139095040):zyo x≤zyo y:=by
 unfold zyo
 by_cases hy2:y%2147483648<2139095040
 ·have hx2:x%2147483648<2139095040:=zd
  rw[if_pos hx2,if_pos hy2]
  unfold zma
  rw[if_neg zd,if_neg zd,Nat.add_zero,Nat.add_zero]
  refine ya5 52 1023 _ _ _ _ _ (Nat.ne_of_gt (zjf _)) (Nat.ne_of_gt (zjf _)) ?_ ze ze
  have hmx:=zv8 x
  have hex:=zwp x
  have hmy:=zv8 y
  have hey:=zwp y
  rw[show x%2147483648=x by omega]at hmx hex
  rw[show y%2147483648=y by omega]at hmy hey
  have hlx:=zsl x
  unfold vN vD
  generalize m32 x=a at *
  generalize m32 y=c at *
  generalize e32 x=E at *
  generalize e32 y=G at *
  have hEG:E≤G:=by
   have:x / 8388608≤y / 8388608:=Nat.div_le_div_right h
   split at hex <;> split at hey <;> omega
  by_cases he:E=G
  ·subst he
   have hac:a≤c:=by split at hmx <;> split at hmy <;> split at hex <;> split at hey <;> omega
   rw[Nat.mul_assoc,Nat.mul_assoc]
   exact Nat.mul_le_mul_right _ hac
  ·have hc:8388608≤c:=by split at hmy <;> split at hex <;> split at hey <;> omega
   have hac:a≤2*c:=by
    rw[show (2:Nat)^24=16777216 by decide]at hlx
    omega
   calc a*2^E.toNat*2^(-G).toNat≤2*c*2^E.toNat*2^(-G).toNat:=Nat.mul_le_mul_right _ (Nat.mul_le_mul_right _ hac)
    _=c*2^(E.toNat+1+(-G).toNat):=by rw[Nat.pow_add,Nat.pow_succ];ac_rfl
    _≤c*2^(G.toNat+(-E).toNat):=Nat.mul_le_mul_left _ (Nat.pow_le_pow_right ze zd)
    _=c*2^G.toNat*2^(-E).toNat:=by rw[Nat.pow_add];ac_rfl
 ·rw[if_neg hy2]
  have hy3:y=2139095040:=zd
  by_cases hx2:x%2147483648<2139095040
  ·rw[if_pos hx2]
   obtain⟨h1,h2,h3,-⟩:=zxi x zd hx2
   have h4:¬2147483648≤x:=zd
   have h5:¬9223372036854775808≤zma x:=by
    intro hh
    rw[decide_eq_true hh,decide_eq_false h4]at h3
    cases h3
   subst hy3
   have:sgW 2139095040+zs5 2139095040=9218868437227405312:=ze
   omega
  ·have:x=y:=zd
   rw[if_neg hx2,this]
   exact Nat.le_refl _
section
attribute [local go_sem] undef
theorem yb6 {s:List UInt8} (h:zig s=1):ul s=none:=by
 unfold zig at h;cases hr:ul s with
 | none=>rfl
 | some r=>
  rw[hr]at h;dsimp only at h;split at h <;> omega
set_option maxRecDepth 100000 in
theorem ya8 (T:Nat) (s:List UInt8) (w:World) (he:EnvP T w) (hs:s.length<=1048576):
  Calls Tryz.prog 12 #[.string ⟨s.toArray⟩] w fun e w'=>e=.returned (.bool true)/\w.grownBy w' none:=by
 have HE:=zH he;have HPB:=zH (fun W=>zc0 s W zd);have HCO:=zH (fun W=>zl6 s W zd);clear he;refine ye Tryz.func12 rfl (by rw[Tryz.ntmps12];simp) ?_;intro σ hσ;rw[Tryz.ntmps12];have s0:σ 0=.string ⟨s.toArray⟩:=hσ 0 zi;clear hσ;have hsz:(⟨s.toArray⟩:ByteArray).size=s.length:=zm;obtain⟨N,hN⟩:=zX s.length;have HN:=zH hN;rw[hN]at hsz hs;clear hN;(go_wp2_with fail;repeat ((first|refine cZ ?_|refine cW ?_);go_wp2_with fail));refine (HPB.out _).mono ?_;rintro e w1 ⟨rfl,hg1⟩;have HG1:=zH hg1;obtain⟨q,hq⟩:=zX (zdy s);obtain⟨k,hk⟩:=zX (zig s);rw[hq,hk];have HK:=zH hk;clear hg1 HPB hq hk;by_cases hl:800<N
 ·have h1:decide ((800:Int)<(N:Int))=true:=zh;have h2:decide (800<N)=true:=zh;have h3:(800:Int)<(N:Int):=zd;clear hl hs;(go_wp2_with fail;repeat ((first|refine cZ ?_|refine cW ?_);go_wp2_with fail));exact yl (.bool true) rfl ze zb ⟨rfl,HG1.out⟩
 have hs8:s.length<=800:=by have:=HN.out;omega
 have HPF64:=zH (fun W (h:EnvP T W)=>zhd T s W h hs8);have HPF32:=zH (fun W (h:EnvP T W)=>zxw T s W h hs8);have h1:decide ((800:Int)<(N:Int))=false:=zh;have h2:decide (800<N)=false:=zh;have h3:¬(800:Int)<(N:Int):=zd;clear hl hs hs8 HN;(go_wp2_with fail;repeat ((first|refine cZ ?_|refine cW ?_);go_wp2_with fail));refine (HCO.out _).mono ?_;rintro e w2 ⟨⟨c,rfl⟩,hg2⟩;have HG2:=zH (ym HG1.out hg2);clear hg2 HCO;cases c
 case true=>
  (go_wp2_with fail;repeat ((first|refine cZ ?_|refine cW ?_);go_wp2_with fail));exact yl (.bool true) rfl ze zb ⟨rfl,HG2.out⟩
 by_cases hk1:k=1
 case neg=>
  have e1:((k:Int)==1)=false:=zf;have e2:(k==1)=false:=by rw[beq_eq_false_iff_ne];exact hk1
  have e3:((k:Int) != 1)=true:=by rw[bne,e1];rfl
  clear hk1;(go_wp2_with fail;repeat ((first|refine cZ ?_|refine cW ?_);go_wp2_with fail));exact yl (.bool true) rfl ze zb ⟨rfl,HG2.out⟩
 subst hk1;have HB:=zH (yb6 HK.out);clear HK h1 h2 h3;(go_wp2_with fail;repeat ((first|refine cZ ?_|refine cW ?_);go_wp2_with fail));refine (HPF64.out _ (HE.out.grown HG2.out (fun _ e=>zL))).mono ?_;rintro e w3 ⟨⟨v,k,rfl,hp⟩,hg3⟩;obtain⟨rfl,rfl⟩:v=0/\k=1:=by
  unfold PaQ64 at hp;rw[HB.out]at hp;exact hp
 rw[show zp1 s 1=[.int .i64 1,.string wn,.string ⟨s.toArray⟩] from rfl];have HG3:=zH (ym HG2.out hg3);obtain⟨B0,hB0⟩:=zX w3.heap.size;obtain⟨w4,hw4⟩:∃ w',w3.alloc (.cells #[.int .i64 1,.string wn,.string ⟨s.toArray⟩] 30)=w':=⟨_,rfl⟩;have HG4:=zH (show w.grownBy w4 none by rw[<-hw4];exact ym HG3.out (World.grownBy_alloc w3 _ none));have HO0:=zH (show Row w4 B0 [.int .i64 1,.string wn,.string ⟨s.toArray⟩] by rw[<-hw4,<-hB0];exact Row.new w3 _ _);have HW4:=zH hw4;have HBE0:=zH hB0;clear hw4 hB0 hg3 hp HPF64;go_upto_region 5 with fail;rw[HW4.out,HBE0.out];clear HW4 HBE0;(go_wp2_with fail;repeat ((first|refine cZ ?_|refine cW ?_);go_wp2_with fail));refine (HPF32.out _ (HE.out.grown HG4.out (fun _ e=>zL))).mono ?_;rintro e w5 ⟨⟨v,k,rfl,hp⟩,hg5⟩;obtain⟨rfl,rfl⟩:v=0/\k=1:=by
  obtain⟨u,hp,hw⟩:=hp;unfold PaQ32 at hp;rw[HB.out]at hp;obtain⟨rfl,rfl⟩:=hp;have:=zyg hw (by rintro⟨-,h⟩;revert h;decide);rw[ybr.1]at this;exact⟨this,rfl⟩
 rw[show zp1 s 1=[.int .i64 1,.string wn,.string ⟨s.toArray⟩] from rfl];have HG5:=zH (ym HG4.out hg5);obtain⟨B1,hB1⟩:=zX w5.heap.size;obtain⟨w6,hw6⟩:∃ w',w5.alloc (.cells #[.int .i64 1,.string wn,.string ⟨s.toArray⟩] 30)=w':=⟨_,rfl⟩;have g6:w5.grownBy w6 none:=zβf;have HG6:=zH (ym HG5.out g6);have HO1:=zH (show Row w6 B1 [.int .i64 1,.string wn,.string ⟨s.toArray⟩] by rw[<-hw6,<-hB1];exact Row.new w5 _ _);have HO0:=zH (HO0.out.grown (ym hg5 g6) zi);have HW6:=zH hw6;have HBE1:=zH hB1;clear hw6 hB1 hg5 g6 hp HPF32;go_upto_region 6 with fail;rw[HW6.out,HBE1.out];clear HW6 HBE1;have o0:=HO0.out.cell 0;simp only[List.getElem?_cons_zero,List.getElem?_cons_succ]at o0;have o1:=HO1.out.cell 0;simp only[List.getElem?_cons_zero,List.getElem?_cons_succ]at o1;(go_wp2_with fail;repeat ((first|refine cZ ?_|refine cW ?_);go_wp2_with fail));exact yl (.bool true) rfl ze zb ⟨rfl,HG6.out⟩
end
section
attribute [local go_sem] undef
theorem ya2 (s:List UInt8) (k:Nat):∃ fb fc:ByteArray,zp1 s k=[.int .i64 (k:Int),.string fb,.string fc]:=by
 unfold zp1;by_cases h:k=0
 ·subst h;exact⟨_,_,by rw[if_pos rfl];rfl⟩
 ·exact⟨_,_,by rw[if_neg h]⟩
theorem ya3 {v:Nat} (h:kn 9218868437227405312 9223372036854775808 v=2):v*2%18446744073709551616≠0:=by
 unfold kn at h;split at h
 ·cases h
 ·split at h
  ·cases h
  ·omega
set_option maxRecDepth 100000 in
theorem ybb (T:Nat) (a b:List UInt8) (w:World) (he:EnvP T w) (ha:a.length<=800) (hb:b.length<=800)
  (h64:∀ v k v' k',PaQ64 a v k->PaQ64 b v' k'->v=v'/\k=k') (h32:∀ v k v' k',PaQw a v k->PaQw b v' k'->v=v'/\k=k'):
  Calls Tryz.prog 25 #[.string ⟨a.toArray⟩,.string ⟨b.toArray⟩] w fun e w'=>e=.returned (.bool true)/\w.grownBy w' none:=by
 have HE:=zH he;have H64:=zH h64;have H32:=zH h32;have HA64:=zH (fun W (h:EnvP T W)=>zhd T a W h ha);have HB64:=zH (fun W (h:EnvP T W)=>zhd T b W h hb);have HA32:=zH (fun W (h:EnvP T W)=>zxw T a W h ha);have HB32:=zH (fun W (h:EnvP T W)=>zxw T b W h hb);have HM64:=zH (fun v k (h:PaQ64 a v k) W=>zyt 64 a (zdy a) (zig a) v W h.lt (zrc h).2.2 (fun hk=>by
  obtain⟨h1,h2,-⟩:=zrc h;rcases h2 zd with h3 | ⟨h3,-⟩
  ·exact Or.inl h3
  ·exact Or.inr (ya3 h3)) (fun W=>zc0 a W zd))
 have HM32:=zH (fun v k (h:PaQw a v k) W=>zyt 32 a (zxy a) (zya a) v W h.lt (zyh h).2.2 (fun hk=>by
  obtain⟨h1,h2,-⟩:=zyh h;rcases h2 zd with h3 | ⟨h3,-⟩
  ·exact Or.inl h3
  ·exact Or.inr (ya3 h3)) (fun W=>zxu a W zd))
 clear he h64 h32 ha hb;refine ye Tryz.func25 rfl (by rw[Tryz.ntmps25];simp) ?_;intro σ hσ;rw[Tryz.ntmps25];have s0:σ 0=.string ⟨a.toArray⟩:=hσ 0 zi;have s1:σ 1=.string ⟨b.toArray⟩:=hσ 1 zi;clear hσ;have HG0:=zH (World.grownBy.refl w none);(go_wp2_with fail;repeat ((first|refine cZ ?_|refine cW ?_);go_wp2_with fail));refine (HA64.out _ (HE.out.grown HG0.out (fun _ e=>zL))).mono ?_;rintro e w1 ⟨⟨v0,k0,rfl,hp0⟩,hg1⟩;have HQ0:=zH hp0;obtain⟨fb0,fc0,hfa⟩:=ya2 a k0;rw[hfa];have HG1:=zH (ym HG0.out hg1);obtain⟨B0,hB0⟩:=zX w1.heap.size;obtain⟨w2,hw2⟩:∃ w',w1.alloc (.cells #[.int .i64 (k0:Int),.string fb0,.string fc0] 30)=w':=⟨_,rfl⟩;have g2:w1.grownBy w2 none:=zβj;have HG2:=zH (ym HG1.out g2);have HO0:=zH (show Row w2 B0 [.int .i64 (k0:Int),.string fb0,.string fc0] by rw[<-hw2,<-hB0];exact Row.new w1 _ _);have HW2:=zH hw2;have HBE0:=zH hB0;clear hw2 hB0 hg1 g2 hfa hp0 HA64;go_upto_region 2 with fail;rw[HW2.out,HBE0.out];clear HW2 HBE0;(go_wp2_with fail;repeat ((first|refine cZ ?_|refine cW ?_);go_wp2_with fail));refine (HB64.out _ (HE.out.grown HG2.out (fun _ e=>zL))).mono ?_;rintro e w3 ⟨⟨v1,k1,rfl,hp1⟩,hg3⟩;have HQ1:=zH hp1;obtain⟨fb1,fc1,hfa⟩:=ya2 b k1;rw[hfa];have HG3:=zH (ym HG2.out hg3);obtain⟨B1,hB1⟩:=zX w3.heap.size;obtain⟨w4,hw4⟩:∃ w',w3.alloc (.cells #[.int .i64 (k1:Int),.string fb1,.string fc1] 30)=w':=⟨_,rfl⟩;have g4:w3.grownBy w4 none:=zβg;have HG4:=zH (ym HG3.out g4);have HO1:=zH (show Row w4 B1 [.int .i64 (k1:Int),.string fb1,.string fc1] by rw[<-hw4,<-hB1];exact Row.new w3 _ _);have HO0:=zH (HO0.out.grown (ym hg3 g4) zi);have HW4:=zH hw4;have HBE1:=zH hB1;clear hw4 hB1 hg3 g4 hfa hp1 HB64;go_upto_region 3 with fail;rw[HW4.out,HBE1.out];clear HW4 HBE1;(go_wp2_with fail;repeat ((first|refine cZ ?_|refine cW ?_);go_wp2_with fail));refine (HA32.out _ (HE.out.grown HG4.out (fun _ e=>zL))).mono ?_;rintro e w5 ⟨⟨v2,k2,rfl,hp2⟩,hg5⟩;have HQ2:=zH hp2;obtain⟨fb2,fc2,hfa⟩:=ya2 a k2;rw[hfa];have HG5:=zH (ym HG4.out hg5);obtain⟨B2,hB2⟩:=zX w5.heap.size;obtain⟨w6,hw6⟩:∃ w',w5.alloc (.cells #[.int .i64 (k2:Int),.string fb2,.string fc2] 30)=w':=⟨_,rfl⟩;have g6:w5.grownBy w6 none:=zβf;have HG6:=zH (ym HG5.out g6);have HO2:=zH (show Row w6 B2 [.int .i64 (k2:Int),.string fb2,.string fc2] by rw[<-hw6,<-hB2];exact Row.new w5 _ _);have HO0:=zH (HO0.out.grown (ym hg5 g6) zi);have HO1:=zH (HO1.out.grown (ym hg5 g6) zi);have HW6:=zH hw6;have HBE2:=zH hB2;clear hw6 hB2 hg5 g6 hfa hp2 HA32;go_upto_region 4 with fail;rw[HW6.out,HBE2.out];clear HW6 HBE2;(go_wp2_with fail;repeat ((first|refine cZ ?_|refine cW ?_);go_wp2_with fail));refine (HB32.out _ (HE.out.grown HG6.out (fun _ e=>zL))).mono ?_;rintro e w7 ⟨⟨v3,k3,rfl,hp3⟩,hg7⟩;have HQ3:=zH hp3;obtain⟨fb3,fc3,hfa⟩:=ya2 b k3;rw[hfa];have HG7:=zH (ym HG6.out hg7);obtain⟨B3,hB3⟩:=zX w7.heap.size;obtain⟨w8,hw8⟩:∃ w',w7.alloc (.cells #[.int .i64 (k3:Int),.string fb3,.string fc3] 30)=w':=⟨_,rfl⟩;have g8:w7.grownBy w8 none:=zβh;have HG8:=zH (ym HG7.out g8);have HO3:=zH (show Row w8 B3 [.int .i64 (k3:Int),.string fb3,.string fc3] by rw[<-hw8,<-hB3];exact Row.new w7 _ _);have HO0:=zH (HO0.out.grown (ym hg7 g8) zi);have HO1:=zH (HO1.out.grown (ym hg7 g8) zi);have HO2:=zH (HO2.out.grown (ym hg7 g8) zi);have HW8:=zH hw8;have HBE3:=zH hB3;clear hw8 hB3 hg7 g8 hfa hp3 HB32;go_upto_region 5 with fail;rw[HW8.out,HBE3.out];clear HW8 HBE3;obtain⟨rfl,rfl⟩:=H64.out _ _ _ _ HQ0.out HQ1.out;obtain⟨rfl,rfl⟩:=H32.out _ _ _ _ HQ2.out HQ3.out;have HC0:=zH (HM64.out _ _ HQ0.out);have HC2:=zH (HM32.out _ _ HQ2.out);clear HQ0 HQ1 HQ2 HQ3 H64 H32 HM64 HM32;have o0:=HO0.out.cell 0;simp only[List.getElem?_cons_zero,List.getElem?_cons_succ]at o0;have o1:=HO1.out.cell 0;simp only[List.getElem?_cons_zero,List.getElem?_cons_succ]at o1;have o2:=HO2.out.cell 0;simp only[List.getElem?_cons_zero,List.getElem?_cons_succ]at o2;have o3:=HO3.out.cell 0;simp only[List.getElem?_cons_zero,List.getElem?_cons_succ]at o3;(go_wp2_with fail;repeat ((first|refine cZ ?_|refine cW ?_);go_wp2_with fail));refine (HC0.out _).mono ?_;rintro e w9 ⟨rfl,hg9⟩;have HG9:=zH (ym HG8.out hg9);clear hg9 o0 o1 o2 o3;(go_wp2_with fail;repeat ((first|refine cZ ?_|refine cW ?_);go_wp2_with fail));refine (HC2.out _).mono ?_;rintro e w10 ⟨rfl,hg10⟩;have HG10:=zH (ym HG9.out hg10);clear hg10;(go_wp2_with fail;repeat ((first|refine cZ ?_|refine cW ?_);go_wp2_with fail));exact yl (.bool true) rfl ze zb ⟨rfl,HG10.out⟩
end
section
attribute [local go_sem] undef
theorem ybu:ul []=none:=by rfl
set_option maxRecDepth 100000 in
theorem ybp (T:Nat) (s:List UInt8) (w:World) (he:EnvP T w) (hs:s.length<=1048576):
  Calls Tryz.prog 10 #[.string ⟨s.toArray⟩] w fun e w'=>e=.returned (.bool true)/\w.grownBy w' none:=by
 have HE:=zH he;have HPL:=zH (fun W=>ya4 s W zd);clear he;refine ye Tryz.func10 rfl (by rw[Tryz.ntmps10];simp) ?_;intro σ hσ;rw[Tryz.ntmps10];have s0:σ 0=.string ⟨s.toArray⟩:=hσ 0 zi;clear hσ;have HS:=zH hs;clear hs;(go_wp2_with fail;repeat ((first|refine cZ ?_|refine cW ?_);go_wp2_with fail));refine (HPL.out _).mono ?_;rintro e w1 ⟨hg1,g,a1,n1,c1,a2,n2,c2,b,rfl,hb⟩;obtain⟨w2,hw2⟩:∃ w',w1.alloc (.cells #[.bool g,.slice a1 n1 c1,.slice a2 n2 c2] 38)=w':=⟨_,rfl⟩;have HG2:=zH (show w.grownBy w2 none by rw[<-hw2];exact ym hg1 (World.grownBy_alloc w1 _ none));have HW2:=zH hw2;have HBB:=zH hb;clear hw2 hg1 hb HPL;go_upto_region 2 with fail;rw[HW2.out];clear HW2;cases b
 case false=>
  (go_wp2_with fail;repeat ((first|refine cZ ?_|refine cW ?_);go_wp2_with fail));exact yl (.bool true) rfl ze zb ⟨rfl,HG2.out⟩
 obtain⟨t,ht,htk⟩:∃ t,ul s=some t/\t.kind=0:=by
  obtain⟨ng,n,d,hr,-⟩:=HBB.out rfl;exact ybl hr
 cases s with
 | nil=>rw[ybu]at ht;cases ht
 | cons c r=>
 have HS2:=HS.out;rw[List.length_cons]at HS2;obtain⟨N,hN⟩:=zX r.length;have hsz:(⟨(c::r).toArray⟩:ByteArray).size=N+1:=by rw[<-hN];simp[ByteArray.size]
 obtain⟨q,hq⟩:=zX (c::r);have hidx:∀ h:0<(⟨q.toArray⟩:ByteArray).size,(⟨q.toArray⟩:ByteArray)[0]'h=c:=by subst hq;intro h;rfl
 have HQL:=zH (show q.length=N+1 by rw[<-hq,List.length_cons,hN]);rw[hq]at hsz s0;have HQQ:=zH hq;have HT:=zH ht;have HTK:=zH htk;have HN:=zH hN;rw[hN]at HS2;have HS3:=zH HS2;clear ht htk hN hq HBB HS HS2;by_cases h45:c=45
 ·have e45:(((c.toNat:Nat):Int)==45)=true:=by rw[h45];rfl
  clear h45;(go_wp2_with fail;repeat ((first|refine cZ ?_|refine cW ?_);go_wp2_with fail));exact yl (.bool true) rfl ze zb ⟨rfl,HG2.out⟩
 have e45:(((c.toNat:Nat):Int)==45)=false:=by
  rw[beq_eq_false_iff_ne];intro h;exact h45 (UInt8.toNat_inj.1 (by show c.toNat=45;omega))
 have H45:=zH h45;clear h45;by_cases h43:c=43
 ·have e43:(((c.toNat:Nat):Int)==43)=true:=by rw[h43];rfl
  clear h43;(go_wp2_with fail;repeat ((first|refine cZ ?_|refine cW ?_);go_wp2_with fail));exact yl (.bool true) rfl ze zb ⟨rfl,HG2.out⟩
 have e43:(((c.toNat:Nat):Int)==43)=false:=by
  rw[beq_eq_false_iff_ne];intro h;exact h43 (UInt8.toNat_inj.1 (by show c.toNat=43;omega))
 have H43:=zH h43;clear h43;by_cases hl:799<N+1
 ·have h1:(799:Int)<((N+1:Nat):Int):=zd;have h2:(799:Int)<(N:Int)+1:=zd;clear hl;(go_wp2_with fail;repeat ((first|refine cZ ?_|refine cW ?_);go_wp2_with fail));exact yl (.bool true) rfl ze zb ⟨rfl,HG2.out⟩
 have h1:¬(799:Int)<((N+1:Nat):Int):=zd;have h2:¬(799:Int)<(N:Int)+1:=zd;have cat:(⟨#[43]⟩:ByteArray)++⟨q.toArray⟩=⟨(43::q).toArray⟩:=yb0 [43] _;obtain⟨-,hp,-⟩:=ybd HT.out HTK.out H43.out H45.out;rw[HQQ.out]at hp;have HT2:=zH (show ul q=some t by rw[<-HQQ.out];exact HT.out);have HSM:=zH (fun W (h:EnvP T W)=>ybb T q (43::q) W h (by have:=HQL.out;omega) (by have:=HQL.out;simp only[List.length_cons];omega)
  (fun v k v' k' p1 p2=>by
   unfold PaQ64 at p1 p2;rw[HT2.out]at p1;rw[hp]at p2;obtain⟨a1,a2⟩:=p1.2.2 HTK.out;obtain⟨a3,a4⟩:=p2.2.2 HTK.out;exact⟨a1.trans a3.symm,a2.trans a4.symm⟩)
  (fun v k v' k' p1 p2=>by
   obtain⟨u1,p1,q1⟩:=p1;obtain⟨u2,p2,q2⟩:=p2;unfold PaQ32 at p1 p2;rw[HT2.out]at p1;rw[hp]at p2;obtain⟨a1,a2⟩:=p1.2.2 HTK.out;obtain⟨a3,a4⟩:=p2.2.2 HTK.out;have hle:=zz1 t;have hsg:=zye t.neg;have hne:¬zxp u1:=by
    rintro⟨-,h⟩;rw[a1]at h;unfold sgC at h;split at h <;> omega
   refine⟨?_,a2.trans a4.symm⟩;rw[a3,<-a1]at q2;exact (zyg q1 hne).trans (zyg q2 hne).symm))
 clear hp hl HT HT2 HTK HN HS3 HQQ HQL H43 H45;(go_wp2_with fail;repeat ((first|refine cZ ?_|refine cW ?_);go_wp2_with fail));refine (HSM.out _ (HE.out.grown HG2.out (fun _ e=>zL))).mono ?_;rintro e w3 ⟨rfl,hg3⟩;have HG3:=zH (ym HG2.out hg3);clear hg3;(go_wp2_with fail;repeat ((first|refine cZ ?_|refine cW ?_);go_wp2_with fail));exact yl (.bool true) rfl ze zb ⟨rfl,HG3.out⟩
end
theorem RdNum.signs {c:UInt8} {r:List UInt8} {n:Bool} {a b:Nat} (h:RdNum (c::r) n a b) (h1:c≠43) (h2:c≠45):
  n=false/\RdNum (43::c::r) false a b/\RdNum (45::c::r) true a b:=by
 obtain⟨hb,t,hr,hk,hn,hv⟩:=h;obtain⟨e1,e2,e3⟩:=ybd hr hk h1 h2;exact⟨hn.symm.trans e1,⟨hb,t,e2,hk,e1,hv⟩,⟨hb,_,e3,rfl,rfl,hv⟩⟩
theorem ybz {s s':List UInt8} {a b x y k k':Nat} (h1:RdNum s false a b) (h2:RdNum s' true a b) (p1:PaQ64 s x k) (p2:PaQ64 s' y k'):
  k=k'/\x<9223372036854775808/\y=9223372036854775808+x:=by
 obtain⟨e1,e2⟩:=h1.pa64 p1;obtain⟨e3,e4⟩:=h2.pa64 p2;have hle:xd a b<=9218868437227405312:=ud 52 1023 9218868437227405312 a b h1.1 ze ze;rw[show sgB false=0 from rfl,Nat.zero_add]at e1;rw[show sgB true=9223372036854775808 from rfl]at e3;exact⟨e2.trans e4.symm,zd,zd⟩
theorem yb2 {s s':List UInt8} {a b x y k k':Nat} (h1:RdNum s false a b) (h2:RdNum s' true a b) (p1:PaQw s x k) (p2:PaQw s' y k'):
  k=k'/\x<9223372036854775808/\y=9223372036854775808+x:=by
 obtain⟨e1,e2⟩:=h1.paw p1;obtain⟨e3,e4⟩:=h2.paw p2;have hle:zxq a b<=2139095040:=ud 23 127 2139095040 a b h1.1 ze ze;rw[show sgC false=0 from rfl,Nat.zero_add]at e1;rw[show sgC true=2147483648 from rfl,ybf _ hle]at e3;have:=ybq _ hle;exact⟨e2.trans e4.symm,zd,zd⟩
theorem ybj (x:Nat) (h:x<9223372036854775808):bits .xor .u64 (x:Int) 9223372036854775808=((9223372036854775808+x:Nat):Int):=by
 have:=bits_xor_u64_nat x 9223372036854775808 zd ze;rw[show x ^^^ 9223372036854775808=9223372036854775808+x from zs0 63 x h]at this;exact this
end Go.Proofs.YtocbeoomhlgnkaaGreatDoor
