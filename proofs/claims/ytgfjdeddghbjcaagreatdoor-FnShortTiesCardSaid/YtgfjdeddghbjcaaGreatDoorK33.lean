/- Lemmas that the claim's top text leans on. No condition of their own. -/
import Derived.Test.YtgfjdeddghbjcaaGreatDoorK32
import Derived.LaidEql
import Derived.Stop.Asserts
import Derived.RowKitTokens
import Derived.Test.YtgfjdeddghbjcaaGreatDoorK34
namespace Go.Proofs.YtgfjdeddghbjcaaGreatDoor
open Go.RowKit
set_option linter.unusedSimpArgs false
set_option linter.unusedVariables false
set_option maxHeartbeats 16000000
section
attribute [local go_sem] undef
theorem ze7 {fn:Func} {p:Tmp} {ty:TypeId} (h:fn.results=#[.cell p ty]) (tmps:Array Value) (P:Program) (w:World):
  (results fn tmps).run P w=((asAddr (tmps.getD p undef)).run P w).andThen fun a w₁=>(loadVar ty a).run P w₁:=by
 simp only[results,h];simp[Sem.run_bind,Result.andThen]
theorem vj {P:Program} {fn:Func} {R:Ending->World->Prop} {n:Nat} {env:List (Nat×Value)} {s:Nat->Value} {w:World} {p:Nat} {ty:TypeId} {B:Nat} (v:Value) (hr:fn.results=#[.cell p ty]) (hp:p<n) (hpv:over env s p=.pointer (Option.some ⟨B,0,Option.none⟩))
  (hl:(loadVar ty ⟨B,0,Option.none⟩).run P w=.ok v w) (hR:R (.returned v) w):bodyPost P fn R .ret (Fr n env s) w:=by
 refine bodyPost_ret (v:=v) ?_ (vz ..) hR;rw[ze7 hr,wa n env s p hp,hpv];simp[asAddr,hl,Result.andThen]
def fauZ:List Value:=[.int .i64 0,.string ⟨#[]⟩,.string ⟨#[]⟩]
set_option maxRecDepth 100000 in
theorem zos (w:World):Calls Tryz.prog 20 #[.nilIface] w fun e w'=>e=.returned (.agg fauZ.toArray)/\w.grownBy w' none:=by
 refine ye Tryz.func20 rfl (by rw[Tryz.ntmps20];simp) ?_;intro σ hσ;rw[Tryz.ntmps20];have s0:σ 0=.nilIface:=hσ 0 zi;clear hσ;obtain⟨w1,hw1⟩:=zX (w.alloc (.cells fauZ.toArray 27));have hrB:=Row.new w fauZ 27;have hgB:=World.grownBy_alloc w (.cells fauZ.toArray 27) none;rw[hw1]at hrB hgB;unfold fauZ at hw1;have HRB:=zH hrB;have HGB:=zH hgB;clear hrB hgB;obtain⟨B,hB⟩:=zX w.heap.size;rw[hB]at HRB;have k0:=HRB.out.cell 0;have k1:=HRB.out.cell 1;have k2:=HRB.out.cell 2;have t0:=HRB.out.frozen 0;have t1:=HRB.out.frozen 1;have t2:=HRB.out.frozen 2;unfold fauZ at k0 k1 k2;simp only[List.getElem?_cons_zero,List.getElem?_cons_succ]at k0 k1 k2;have HB:=zH hB;go_upto_region 1 with fail;clear hw1 hB;(go_wp2_with fail;repeat ((first|refine cZ ?_|refine cW ?_);go_wp2_with fail));obtain⟨ty,hrow⟩:=((HRB.out.setCell 0 (.int .i64 0)).setCell 1 (.string ⟨#[]⟩)).setCell 2 (.string ⟨#[]⟩);have hBw:w.heap.size<=B:=by have:=HB.out;omega
 refine vj (B:=B) (.agg fauZ.toArray) rfl ze zb ?_ ⟨rfl,yb (yb (yb HGB.out _ hBw) _ hBw) _ hBw⟩;exact run_loadVar_row (P:=Tryz.prog) _ B ty 27 _ (0,0) _ hrow Tryz.underlying27 rfl zg 
end
section
attribute [local go_sem] undef
def dfN (x y:Nat):Nat:=if y<=x then x-y else y-x
theorem ky (p q:Nat) (hp:(yf p).length<=2000) (hq:(yf q).length<=2000):(yf (p*q)).length<=4000:=by
 obtain⟨K,hK⟩:∃ K,K=2000:=⟨_,rfl⟩;rw[<-hK]at hp hq;rw[show 4000=K+K by omega];refine yv ?_;rw[Nat.pow_add];refine Nat.mul_lt_mul'' ?_ ?_
 ·exact Nat.lt_of_lt_of_le (wu p) (Nat.pow_le_pow_right ze hp)
 ·exact Nat.lt_of_lt_of_le (wu q) (Nat.pow_le_pow_right ze hq)
end
section
attribute [local go_sem] undef
set_option maxRecDepth 100000 in
theorem yux (ng:Bool) (u1 u2 u3 u4:Value) (a b c d:Nat) (w:World) (h1:NatV w u1 a) (h2:NatV w u2 b) (h3:NatV w u3 c) (h4:NatV w u4 d)
  (x1:(yf a).length<=2000) (x2:(yf b).length<=2000) (x3:(yf c).length<=2000) (x4:(yf d).length<=2000):
  Calls Tryz.prog 24 #[.agg #[.bool ng,u1,u2],.agg #[.bool ng,u3,u4]] w fun e w'=>∃ v,e=.returned v/\zpu w' v false (dfN (a*d) (c*b)) (b*d)/\w.grownBy w' none:=by
 unfold dfN;obtain⟨a1,c1,rfl⟩:=h1.len;obtain⟨a2,c2,rfl⟩:=h2.len;obtain⟨a3,c3,rfl⟩:=h3.len;obtain⟨a4,c4,rfl⟩:=h4.len;have l1:=ky a d x1 x4;have l2:=ky c b x3 x2;have HM1:=zH (fun (W:World) (hW:w.grownBy W none)=>vc _ _ a d W (h1.grown hW) (h4.grown hW) zd zd);have HM2:=zH (fun (W:World) (hW:w.grownBy W none)=>vc _ _ c b W (h3.grown hW) (h2.grown hW) zd zd);have HM3:=zH (fun (W:World) (hW:w.grownBy W none)=>vc _ _ b d W (h2.grown hW) (h4.grown hW) zd zd);have HCM:=zH (fun (V U:Value) (W:World) (g1:NatV W V (a*d)) (g2:NatV W U (c*b))=>qy V U (a*d) (c*b) W g1 g2 zd zd);have HSA:=zH (fun (V U:Value) (W:World) (g1:NatV W V (a*d)) (g2:NatV W U (c*b)) (h:c*b<=a*d)=>zaw V U (a*d) (c*b) W g1 g2 zd h);have HSC:=zH (fun (V U:Value) (W:World) (g1:NatV W V (c*b)) (g2:NatV W U (a*d)) (h:a*d<=c*b)=>zaw V U (c*b) (a*d) W g1 g2 zd h);clear h1 h2 h3 h4 l1 l2 x1 x2 x3 x4;generalize (yf a).length=N1 at *
 generalize (yf b).length=N2 at *
 generalize (yf c).length=N3 at *
 generalize (yf d).length=N4 at *
 obtain⟨B,hB⟩:=zX w.heap.size;obtain⟨w1,hw1⟩:=zX (w.alloc (.cells #[.bool ng,.slice a1 N1 c1,.slice a2 N2 c2] 38));have g1:w.grownBy w1 none:=by rw[<-hw1];exact World.grownBy_alloc w _ none
 have hs1:w1.heap.size=B+1:=by rw[<-hw1,<-hB];show (w.heap.push _).size=_;rw[Array.size_push]
 have ra1:Row w1 B [.bool ng,.slice a1 N1 c1,.slice a2 N2 c2]:=by rw[<-hw1,<-hB];exact Row.new w _ _
 obtain⟨w2,hw2⟩:=zX (w1.alloc (.cells #[.bool ng,.slice a3 N3 c3,.slice a4 N4 c4] 38));have g2:w.grownBy w2 none:=by rw[<-hw2];exact ya g1 (World.grownBy_alloc w1 _ none)
 have hs2:w2.heap.size=B+2:=by rw[<-hw2];show (w1.heap.push _).size=_;rw[Array.size_push,hs1]
 have ra2:Row w2 B [.bool ng,.slice a1 N1 c1,.slice a2 N2 c2]:=by rw[<-hw2];exact ra1.alloc _
 have rb2:Row w2 (B+1) [.bool ng,.slice a3 N3 c3,.slice a4 N4 c4]:=by rw[<-hw2,<-hs1];exact Row.new w1 _ _
 obtain⟨w3,hw3⟩:=zX (w2.alloc (.cells ratZ.toArray 38));have HG3:=zH (show w.grownBy w3 none by rw[<-hw3];exact ya g2 (World.grownBy_alloc w2 _ none));have hs3:w3.heap.size=B+3:=by rw[<-hw3];show (w2.heap.push _).size=_;rw[Array.size_push,hs2]
 have HA:=zH (show Row w3 B [.bool ng,.slice a1 N1 c1,.slice a2 N2 c2] by rw[<-hw3];exact ra2.alloc _);have HBr:=zH (show Row w3 (B+1) [.bool ng,.slice a3 N3 c3,.slice a4 N4 c4] by rw[<-hw3];exact rb2.alloc _);have HR:=zH (show Row w3 (B+2) ratZ by rw[<-hw3,<-hs2];exact Row.new w2 _ _);have HS3:=zH hs3;have HBB:=zH hB;unfold ratZ at hw3;clear g1 g2 ra1 ra2 rb2 hs3;refine ye Tryz.func24 rfl (by rw[Tryz.ntmps24];simp) ?_;intro σ hσ;rw[Tryz.ntmps24];have s0:σ 0=.agg #[.bool ng,.slice a1 N1 c1,.slice a2 N2 c2]:=hσ 0 zi;have s1':σ 1=.agg #[.bool ng,.slice a3 N3 c3,.slice a4 N4 c4]:=hσ 1 zi;clear hσ;go_upto_region 1 with fail;clear hw1 hw2 hw3 hs1 hs2 hB;have k0:=HA.out.cell 0;have k1:=HA.out.cell 1;have k2:=HA.out.cell 2;have m0:=HBr.out.cell 0;have m1:=HBr.out.cell 1;have m2:=HBr.out.cell 2;simp only[List.getElem?_cons_zero,List.getElem?_cons_succ]at k0 k1 k2 m0 m1 m2;(go_wp2_with fail;repeat ((first|refine cZ ?_|refine cW ?_);go_wp2_with fail));refine (HM1.out _ HG3.out).mono ?_;rintro e w4 ⟨v5,rfl,hn5,hg4⟩;have HG4:=zH (ya HG3.out hg4);have HA4:=zH (HA.out.grown hg4 zi);have HB4:=zH (HBr.out.grown hg4 zi);have HR4:=zH (HR.out.grown hg4 zi);have HSZ4:=zH hg4.size;have HX:=zH hn5;clear hn5 hg4 HA HBr HR k0 k1 k2 m0 m1 m2;have k0:=HA4.out.cell 0;have k1:=HA4.out.cell 1;have k2:=HA4.out.cell 2;have m0:=HB4.out.cell 0;have m1:=HB4.out.cell 1;have m2:=HB4.out.cell 2;simp only[List.getElem?_cons_zero,List.getElem?_cons_succ]at k0 k1 k2 m0 m1 m2;(go_wp2_with fail;repeat ((first|refine cZ ?_|refine cW ?_);go_wp2_with fail));refine (HM2.out _ HG4.out).mono ?_;rintro e w5 ⟨v6,rfl,hn6,hg5⟩;have HG5:=zH (ya HG4.out hg5);have HA5:=zH (HA4.out.grown hg5 zi);have HB5:=zH (HB4.out.grown hg5 zi);have HR5:=zH (HR4.out.grown hg5 zi);have HSZ5:=zH hg5.size;have HX5:=zH (HX.out.grown hg5);have HY:=zH hn6;clear hn6 hg5 HA4 HB4 HR4 HX k0 k1 k2 m0 m1 m2;have k0:=HA5.out.cell 0;have k1:=HA5.out.cell 1;have k2:=HA5.out.cell 2;have m0:=HB5.out.cell 0;have m1:=HB5.out.cell 1;have m2:=HB5.out.cell 2;simp only[List.getElem?_cons_zero,List.getElem?_cons_succ]at k0 k1 k2 m0 m1 m2;(go_wp2_with fail;repeat ((first|refine cZ ?_|refine cW ?_);go_wp2_with fail));refine (HM3.out _ HG5.out).mono ?_;rintro e w6 ⟨v22,rfl,hn22,hg6⟩;have HG6:=zH (ya HG5.out hg6);have HA6:=zH (HA5.out.grown hg6 zi);have HB6:=zH (HB5.out.grown hg6 zi);have HR6:=zH (HR5.out.grown hg6 zi);have HX6:=zH (HX5.out.grown hg6);have HY6:=zH (HY.out.grown hg6);have HSZ6:=zH hg6.size;have HL22:=zH hn22;clear hg6 HA5 HB5 HR5 HX5 HY k0 k1 k2 m0 m1 m2;obtain⟨a22,c22,rfl⟩:=hn22.len;clear hn22;generalize (yf (b*d)).length=N22 at *
 obtain⟨B7,hB7⟩:=zX w6.heap.size;have hlt:B+3<=B7:=by have:=HS3.out;have:=HSZ4.out;have:=HSZ5.out;have:=HSZ6.out;omega
 obtain⟨w7,hw7⟩:=zX (w6.alloc (.cells #[.bool false,.slice none 0 0,.slice a22 N22 c22] 38));have g7:w6.grownBy w7 none:=by rw[<-hw7];exact World.grownBy_alloc w6 _ none
 have HO7:=zH (show Row w7 B7 [.bool false,.slice none 0 0,.slice a22 N22 c22] by rw[<-hw7,<-hB7];exact Row.new w6 _ _);have HG7:=zH (ya HG6.out g7);have HA7:=zH (HA6.out.grown g7 zi);have HB7:=zH (HB6.out.grown g7 zi);have HR7:=zH (HR6.out.grown g7 zi);have HX7:=zH (HX6.out.grown g7);have HY7:=zH (HY6.out.grown g7);have HN22:=zH (HL22.out.grown g7);have HW7:=zH hw7;have HB7E:=zH hB7;clear g7 hw7 HA6 HB6 HR6 HX6 HY6 HL22 hB7 HSZ4 HSZ5 HSZ6 HS3;go_upto_block 0 with fail;rw[HW7.out,HB7E.out];clear HW7 HB7E;have k0:=HA7.out.cell 0;have k1:=HA7.out.cell 1;have k2:=HA7.out.cell 2;have m0:=HB7.out.cell 0;have m1:=HB7.out.cell 1;have m2:=HB7.out.cell 2;simp only[List.getElem?_cons_zero,List.getElem?_cons_succ]at k0 k1 k2 m0 m1 m2;obtain⟨a5,c5,rfl⟩:=HX7.out.len;obtain⟨a6,c6,rfl⟩:=HY7.out.len;have HCM':=zH (HCM.out _ _ _ HX7.out HY7.out);have hBw:w.heap.size=B:=HBB.out;clear HCM HM1 HM2 HM3;(go_wp2_with fail;repeat ((first|refine cZ ?_|refine cW ?_);go_wp2_with fail));refine HCM'.out.mono ?_;rintro e w8 ⟨rfl,hg8⟩;have HG8:=zH (ya HG7.out hg8);have HR8:=zH (HR7.out.grown hg8 zi);have HO8:=zH (HO7.out.grown hg8 zi);have HX8:=zH (HX7.out.grown hg8);have HY8:=zH (HY7.out.grown hg8);have HN22:=zH (HN22.out.grown hg8);clear hg8 HA7 HB7 HR7 HO7 HX7 HY7 k0 k1 k2 m0 m1 m2;by_cases hle:c*b<=a*d
 ·have hk:(0:Int)<=ko (a*d) (c*b):=by unfold ko;split <;> (try split) <;> omega
  have hk2:decide ((0:Int)<=ko (a*d) (c*b))=true:=by simpa using hk
  generalize ko (a*d) (c*b)=k at *
  (go_wp2_with fail;repeat ((first|refine cZ ?_|refine cW ?_);go_wp2_with fail));refine (HSA.out _ _ _ HX8.out HY8.out hle).mono ?_;rintro e w9 ⟨v9,rfl,hn9,hg9,-⟩;have HG9:=zH (ya HG8.out hg9);have HR9:=zH (HR8.out.grown hg9 zi);have HO9:=zH (HO8.out.grown hg9 zi);have HN22:=zH (HN22.out.grown hg9);have HL9:=zH hn9;obtain⟨a9,c9,rfl⟩:=hn9.len;generalize (yf (a*d-c*b)).length=N9 at *
  have o0:=HO9.out.cell 0;have o1:=HO9.out.cell 1;have o2:=HO9.out.cell 2;have p1:=HO9.out.frozen 1;simp only[List.getElem?_cons_zero,List.getElem?_cons_succ]at o0 o1 o2;obtain⟨w10,hw10⟩:=zX (w9.setCell ⟨B7,1,none⟩ (.slice a9 N9 c9));have HN10:=zH (show NatV w10 (.slice a9 N9 c9) (a*d-c*b) by rw[<-hw10];exact NatV.setB hn9 o0);have HN23:=zH (show NatV w10 (.slice a22 N22 c22) (b*d) by rw[<-hw10];exact NatV.setB HN22.out o0);have HO10:=zH (show Row w10 B7 [.bool false,.slice a9 N9 c9,.slice a22 N22 c22] by rw[<-hw10];exact HO9.out.setCell 1 (.slice a9 N9 c9));have HR10:=zH (show Row w10 (B+2) ratZ by rw[<-hw10];exact HR9.out.setCell_other (by show B+2≠B7;omega) _);have HG10:=zH (show w.grownBy w10 none by rw[<-hw10];exact yb HG9.out _ (by show w.heap.size<=B7;omega));clear hn9 hg9;go_upto_region 9 with fail;clear hw10 o0 o1 o2 p1;have o0:=HO10.out.cell 0;have o1:=HO10.out.cell 1;have o2:=HO10.out.cell 2;have r0:=HR10.out.cell 0;have r1:=HR10.out.cell 1;have r2:=HR10.out.cell 2;have z0:=HR10.out.frozen 0;have z1:=HR10.out.frozen 1;have z2:=HR10.out.frozen 2;unfold ratZ at r0 r1 r2;simp only[List.getElem?_cons_zero,List.getElem?_cons_succ]at o0 o1 o2 r0 r1 r2;(go_wp2_with fail;repeat ((first|refine cZ ?_|refine cW ?_);go_wp2_with fail));obtain⟨ty,hrow⟩:=wp HR10.out (.bool false) (.slice a9 N9 c9) (.slice a22 N22 c22);refine vj (B:=B+2) (.agg #[.bool false,.slice a9 N9 c9,.slice a22 N22 c22]) rfl ze zb ?_ ⟨_,rfl,⟨_,_,rfl,?_,yz HR10.out HN23.out _ _ _⟩,xk HG10.out zd _ _ _⟩
  ·exact run_loadVar_row (P:=Tryz.prog) _ (B+2) ty 38 _ (0,0) _ hrow Tryz.underlying38 rfl zg
  ·first
    | exact yz HR10.out HN10.out _ _ _
    | (rw[if_pos hle];exact yz HR10.out HN10.out _ _ _)
 ·have hk:¬(0:Int)<=ko (a*d) (c*b):=by unfold ko;rw[if_pos zd];omega
  have hk2:decide ((0:Int)<=ko (a*d) (c*b))=false:=by simpa using hk
  generalize ko (a*d) (c*b)=k at *
  (go_wp2_with fail;repeat ((first|refine cZ ?_|refine cW ?_);go_wp2_with fail));refine (HSC.out _ _ _ HY8.out HX8.out zd).mono ?_;rintro e w9 ⟨v9,rfl,hn9,hg9,-⟩;have HG9:=zH (ya HG8.out hg9);have HR9:=zH (HR8.out.grown hg9 zi);have HO9:=zH (HO8.out.grown hg9 zi);have HN22:=zH (HN22.out.grown hg9);have HL9:=zH hn9;obtain⟨a9,c9,rfl⟩:=hn9.len;generalize (yf (c*b-a*d)).length=N9 at *
  have o0:=HO9.out.cell 0;have o1:=HO9.out.cell 1;have o2:=HO9.out.cell 2;have p1:=HO9.out.frozen 1;simp only[List.getElem?_cons_zero,List.getElem?_cons_succ]at o0 o1 o2;obtain⟨w10,hw10⟩:=zX (w9.setCell ⟨B7,1,none⟩ (.slice a9 N9 c9));have HN10:=zH (show NatV w10 (.slice a9 N9 c9) (c*b-a*d) by rw[<-hw10];exact NatV.setB hn9 o0);have HN23:=zH (show NatV w10 (.slice a22 N22 c22) (b*d) by rw[<-hw10];exact NatV.setB HN22.out o0);have HO10:=zH (show Row w10 B7 [.bool false,.slice a9 N9 c9,.slice a22 N22 c22] by rw[<-hw10];exact HO9.out.setCell 1 (.slice a9 N9 c9));have HR10:=zH (show Row w10 (B+2) ratZ by rw[<-hw10];exact HR9.out.setCell_other (by show B+2≠B7;omega) _);have HG10:=zH (show w.grownBy w10 none by rw[<-hw10];exact yb HG9.out _ (by show w.heap.size<=B7;omega));clear hn9 hg9;go_upto_region 9 with fail;clear hw10 o0 o1 o2 p1;have o0:=HO10.out.cell 0;have o1:=HO10.out.cell 1;have o2:=HO10.out.cell 2;have r0:=HR10.out.cell 0;have r1:=HR10.out.cell 1;have r2:=HR10.out.cell 2;have z0:=HR10.out.frozen 0;have z1:=HR10.out.frozen 1;have z2:=HR10.out.frozen 2;unfold ratZ at r0 r1 r2;simp only[List.getElem?_cons_zero,List.getElem?_cons_succ]at o0 o1 o2 r0 r1 r2;(go_wp2_with fail;repeat ((first|refine cZ ?_|refine cW ?_);go_wp2_with fail));obtain⟨ty,hrow⟩:=wp HR10.out (.bool false) (.slice a9 N9 c9) (.slice a22 N22 c22);refine vj (B:=B+2) (.agg #[.bool false,.slice a9 N9 c9,.slice a22 N22 c22]) rfl ze zb ?_ ⟨_,rfl,⟨_,_,rfl,?_,yz HR10.out HN23.out _ _ _⟩,xk HG10.out zd _ _ _⟩
  ·exact run_loadVar_row (P:=Tryz.prog) _ (B+2) ty 38 _ (0,0) _ hrow Tryz.underlying38 rfl zg
  ·first
    | exact yz HR10.out HN10.out _ _ _
    | (rw[if_neg hle];exact yz HR10.out HN10.out _ _ _)
end
def txE (neg:Bool) (D k:Nat) (p:Int):List UInt8:=ymm neg (digs D k) ((k:Int)-p) ((k:Int)-1) 101
theorem yu0 {D k:Nat} (hk:1<=k):∃ c0 r,digs D k=c0::r/\r.length=k-1:=by
 have h:=va D k;cases hd:digs D k with
 | nil=>rw[hd]at h;simp at h;omega
 | cons c0 r=>rw[hd]at h;exact⟨c0,r,rfl,by simp at h;omega⟩
theorem yuz (neg:Bool) {D k:Nat} {p:Int} {c0:UInt8} {r:List UInt8} (hk:1<=k) (h:digs D k=c0::r):txE neg D k p=ymm neg (c0::r) ((k:Int)-p) (((c0::r).length:Int)-1) 101:=by
 unfold txE;rw[h,<-h,va]
theorem yvo (neg:Bool) (D k:Nat) (p:Int) (hk:1<=k) (hk2:k<=17) (hp1:-348<=p) (hp2:p<=347):qp (txE neg D k p)=none/\∃ R,rfP (txE neg D k p)=some R/\R.hex=false/\R.tr=false:=by
 obtain⟨c0,r,h,hr⟩:=yu0 (D:=D) hk;rw[yuz neg hk h];exact lit_e neg c0 r _ (by rw[<-h];exact zeh _ _) zd zd zd 
theorem ywf (neg:Bool) (D E k:Nat) (p:Int) (hk:1<=k):(txE neg D k p).length=(txE neg E k p).length:=by
 obtain⟨c0,r,h,hr⟩:=yu0 (D:=D) hk;obtain⟨c1,q,h2,hq⟩:=yu0 (D:=E) hk;rw[yuz neg hk h,yuz neg hk h2,yug,yug];have he:ynz (c0::r) ((k:Int)-p)=ynz (c1::q) ((k:Int)-p):=by unfold ynz;rw[if_neg zi,if_neg zi]
 rw[he];have hl:(if r=[] then [] else 46::r).length=(if q=[] then [] else 46::q).length:=by
  by_cases h0:r=[]
  ·have hq0:q=[]:=List.length_eq_zero_iff.1 (by rw[hq,<-hr,h0];rfl);rw[if_pos h0,if_pos hq0]
  ·have hq0:q≠[]:=fun e=>h0 (List.length_eq_zero_iff.1 (by rw[hr,<-hq,e];rfl))
   rw[if_neg h0,if_neg hq0,List.length_cons,List.length_cons,hr,hq]
 simp only[List.length_append,List.length_cons,hl]
theorem yuy (neg:Bool) (D k:Nat) (p:Int) (hk:1<=k) (hk2:k<=17) (h1:10^(k-1)<=D) (h2:D<10^k) (hp1:-348<=p) (hp2:p<=347):
  ∃ N M,zjy (txE neg D k p)=some (neg,N,M)/\M≠0/\N*10^p.toNat=D*10^(-p).toNat*M/\(yf N).length<=2000/\(yf M).length<=2000:=by
 have hdv:zd5 (digs D k)=D:=by rw[zhi,Nat.mod_eq_of_lt h2]
 have hp0:=p10 (k-1);have hnd:=ykm hk h1 h2;obtain⟨j,hj,hr⟩:=ypl neg (digs D k) ((k:Int)-p) ((k:Int)-1) (zeh _ _) (by rw[va];omega) zd zd (fun _=>by rw[hdv,va,hnd]) zd (by rw[va];omega);unfold txE;rw[hr,hdv];have hx:dxv (digs D k) ((k:Int)-p)=-p:=by unfold dxv;rw[va];omega
 rw[hx];have hD0:D≠0:=zd;have hpj:=p10 j;unfold rdV;rw[if_neg (Nat.mul_ne_zero hD0 zd)];have hjb:j<=416:=zd;obtain⟨K,hK⟩:∃ K,K=1000:=⟨_,rfl⟩;have hlim:∀ n:Nat,n<10^K->(yf n).length<=2000:=fun n hn=>by
  have:=yv (k:=K) (Nat.lt_of_lt_of_le hn (Nat.pow_le_pow_left ze K));omega
 refine⟨_,_,rfl,Nat.ne_of_gt (p10 _),?_,hlim _ ?_,hlim _ ?_⟩
 ·have e:10^j*10^(-p-(j:Int)).toNat*10^p.toNat=10^(-p).toNat*10^(-(-p-(j:Int))).toNat:=by
   rw[<-Nat.pow_add,<-Nat.pow_add,<-Nat.pow_add];congr 1;omega
  calc D*10^j*10^(-p-(j:Int)).toNat*10^p.toNat=D*(10^j*10^(-p-(j:Int)).toNat*10^p.toNat):=by ac_rfl
   _=D*10^(-p).toNat*10^(-(-p-(j:Int))).toNat:=by rw[e,Nat.mul_assoc]
 ·have hD:D<10^17:=Nat.lt_of_lt_of_le h2 (Nat.pow_le_pow_right ze hk2);have h3:D*10^j*10^(-p-(j:Int)).toNat<10^17*10^j*10^(-p-(j:Int)).toNat:=Nat.mul_lt_mul_of_pos_right (Nat.mul_lt_mul_of_pos_right hD (p10 _)) (p10 _);refine Nat.lt_of_lt_of_le h3 ?_;rw[<-Nat.pow_add,<-Nat.pow_add];exact Nat.pow_le_pow_right ze zd
 ·exact Nat.pow_lt_pow_right ze zd
theorem ywg (eb mb:Nat) (bias:Int) (Z:Nat) (ME:Int) (b:Nat) (hE:flE eb mb b≠2^eb-1) (near k d:Nat) (p:Int) (hm0:zen eb mb b≠0) (ht:TieN Z ME mb (zen eb mb b) (zor eb mb bias b) near k d p):
  yko (kg Z ME (zen eb mb b*2^shS (zen eb mb b)) (zor eb mb bias b-(mb:Nat)-(shS (zen eb mb b):Nat))).1≠[]/\yj5 eb mb bias Z ME b 101 (-1)=txE (yta eb mb b) d k p/\
  (∀ neg,eSign neg++eT 101 (yvy (ym6 (vN (zen eb mb b) (zor eb mb bias b-(mb:Nat))) (vD (zor eb mb bias b-(mb:Nat)))) near k).1 (yvy (ym6 (vN (zen eb mb b) (zor eb mb bias b-(mb:Nat))) (vD (zor eb mb bias b-(mb:Nat)))) near k).2=txE neg near k p):=by
 obtain⟨t1,t2,t3,t4,t5,t6,t7,t8,t9,t10,t11,t12⟩:=ht;have hp0:=p10 (k-1);have hd10:d%10≠0:=by rcases t2 with h | h <;> rw[h] <;> assumption
 have hd1:10^(k-1)<=d:=zd;have hd2:d<10^k:=zd;have hnd:=ykm t3 hd1 hd2;have hds:yko d=digs d k:=by rw[yni d zd];unfold dsC;rw[zi8 hd10,hnd]
 have hdl:=va d k;refine⟨?_,?_,fun neg=>?_⟩
 ·rw[t1];dsimp only;rw[hds];intro e;rw[e]at hdl;simp at hdl;omega
 ·unfold yj5;rw[if_neg hE,if_neg ze,if_neg ze];unfold ykq;rw[if_neg hm0,if_pos ze];unfold ykg ylb;rw[t1];dsimp only;rw[hds,hdl,hnd];unfold ykz;rw[if_neg ze];unfold ymh;rw[if_pos (Or.inl rfl)];dsimp only;unfold yj9 txE;rw[if_pos (Or.inl rfl)];congr 1;omega
 ·rw[yxg _ near k t3 t5 zd t7];dsimp only;have hnn:=ykm t3 t5 (by omega:near<10^k);have hdn:dsC near=digs near k:=by unfold dsC;rw[zi8 t7,hnn]
  have hln:=va near k;have hne:digs near k≠[]:=by intro e;rw[e]at hln;simp at hln;omega
  unfold txE;rw[hdn,yxe neg 101 101 (digs near k) ((k:Int)-p) (ym6 (vN (zen eb mb b) (zor eb mb bias b-(mb:Nat))) (vD (zor eb mb bias b-(mb:Nat)))) k (Or.inl ⟨rfl,rfl⟩) t3 (by rw[hln];exact Nat.le_refl _) (by rw[if_neg hne];omega) zd zd,hln,Nat.sub_self];unfold yqh;rw[List.replicate_zero,List.append_nil]
theorem ywq (c x y:Nat):dfN (c*x) (c*y)=c*dfN x y:=by
 unfold dfN;by_cases h:y<=x
 ·rw[if_pos h,if_pos (Nat.mul_le_mul_left c h),Nat.mul_sub]
 ·rw[if_neg h];by_cases h2:c*y<=c*x
  ·have h3:c*x<=c*y:=Nat.mul_le_mul_left c zd;rw[if_pos h2,Nat.mul_sub];omega
  ·rw[if_neg h2,Nat.mul_sub]
theorem ywy {d near:Nat} (h:d=near\/d=near+1):dfN (2*d) (2*near+1)=1:=by
 unfold dfN;rcases h with h | h <;> subst h <;> split <;> omega
theorem yu7 {N M d near P Q A B:Nat} (hN:N*P=d*Q*M) (hV:2*(A*P)=(2*near+1)*(B*Q)) (hd:d=near\/d=near+1):2*P*dfN (N*B) (A*M)=B*Q*M:=by
 rw[<-ywq];have e1:2*P*(N*B)=B*Q*M*(2*d):=by
  calc 2*P*(N*B)=2*B*(N*P):=by ac_rfl
   _=2*B*(d*Q*M):=by rw[hN]
   _=B*Q*M*(2*d):=by ac_rfl
 have e2:2*P*(A*M)=B*Q*M*(2*near+1):=by
  calc 2*P*(A*M)=2*(A*P)*M:=by ac_rfl
   _=(2*near+1)*(B*Q)*M:=by rw[hV]
   _=B*Q*M*(2*near+1):=by ac_rfl
 rw[e1,e2,ywq,ywy hd,Nat.mul_one]
theorem ywp {N M N2 M2 d near P Q A B:Nat} (hP:0<P) (hN:N*P=d*Q*M) (hN2:N2*P=near*Q*M2) (hV:2*(A*P)=(2*near+1)*(B*Q)) (hd:d=near\/d=near+1):
  dfN (N*B) (A*M)*(M2*B)=dfN (N2*B) (A*M2)*(M*B):=by
 have h1:=yu7 hN hV hd;have h2:=yu7 hN2 hV (Or.inl rfl);refine Nat.eq_of_mul_eq_mul_left (show 0<2*P by omega) ?_;calc 2*P*(dfN (N*B) (A*M)*(M2*B))=2*P*dfN (N*B) (A*M)*(M2*B):=by ac_rfl
  _=B*Q*M*(M2*B):=by rw[h1]
  _=B*Q*M2*(M*B):=by ac_rfl
  _=2*P*dfN (N2*B) (A*M2)*(M*B):=by rw[h2]
  _=2*P*(dfN (N2*B) (A*M2)*(M*B)):=by ac_rfl
theorem yw7 {a b c d:Nat} (h:a*d=c*b):zu6 false false a b c d=0:=by
 unfold zu6;rw[Bool.false_and,Bool.false_and,if_neg ze,if_neg ze,h];exact zph rfl
section
attribute [local go_sem] undef
theorem zo8 (x y:Nat) (K:Nat) (hx:(yf x).length<=K) (hy:(yf y).length<=K):(yf (dfN x y)).length<=K:=by
 refine yv ?_;have h1:=Nat.lt_of_lt_of_le (wu x) (Nat.pow_le_pow_right ze hx);have h2:=Nat.lt_of_lt_of_le (wu y) (Nat.pow_le_pow_right ze hy);refine Nat.lt_of_le_of_lt ?_ (Nat.max_lt.2 ⟨h1,h2⟩);unfold dfN;split
 ·exact Nat.le_trans (Nat.sub_le _ _) (Nat.le_max_left _ _)
 ·exact Nat.le_trans (Nat.sub_le _ _) (Nat.le_max_right _ _)
end
section
attribute [local go_sem] undef
theorem ywl {s:List UInt8} {ng:Bool} {n d:Nat} (h:zjy s=some (ng,n,d)) (hs:s.length<=1050000) (W:World):
  Calls Tryz.prog 22 #[.string ⟨s.toArray⟩] W fun e w'=>(∃ vr,e=.returned (.tuple #[vr,.bool true])/\zpu w' vr ng n d)/\W.grownBy w' none:=by
 refine (zdx s W hs).mono ?_;intro e w' h2;unfold zdt at h2;rw[h]at h2;exact⟨h2.2,h2.1⟩
set_option maxRecDepth 100000 in
theorem yut (size:Int) (n:Nat) (ng:Bool) (s tx:List UInt8) (a b N M N2 M2 L:Nat) (w:World) (hs:s.length=L) (ht:tx.length=L) (hL:L<=1000)
  (hF:∀ W,Calls Tryz.prog 21 #[.int .i64 size,.int .u64 (n:Int),.int .u8 101,.int .i64 (-1)] W fun e w'=>e=.returned (.string ⟨tx.toArray⟩)/\W.grownBy w' none)
  (hV:∀ W,Calls Tryz.prog 14 #[.int .i64 size,.int .u64 (n:Int)] W fun x w'=>∃ vn vd,x=.returned (.tuple #[.agg #[.bool ng,vn,vd],.bool true])/\NatV w' vn a/\NatV w' vd b/\W.grownBy w' none)
  (r1:zjy s=some (ng,N,M)) (r2:zjy tx=some (ng,N2,M2)) (x1:(yf N).length<=2000) (x2:(yf M).length<=2000) (x3:(yf N2).length<=2000) (x4:(yf M2).length<=2000) (x5:(yf a).length<=2000) (x6:(yf b).length<=2000)
  (heq:dfN (N*b) (a*M)*(M2*b)=dfN (N2*b) (a*M2)*(M*b)):
  Calls Tryz.prog 8 #[.int .i64 size,.int .u64 (n:Int),.string ⟨s.toArray⟩] w fun e w'=>e=.returned (.bool true)/\w.grownBy w' none:=by
 have HF:=zH hF;have HV:=zH hV;have HR1:=zH (fun W=>ywl r1 zd W);have HR2:=zH (fun W=>ywl r2 zd W);have HD1:=zH (fun (u1 u2 u3 u4:Value) (W:World) h1 h2 h3 h4=>yux ng u1 u2 u3 u4 N M a b W h1 h2 h3 h4 x1 x2 x5 x6);have HD2:=zH (fun (u1 u2 u3 u4:Value) (W:World) h1 h2 h3 h4=>yux ng u1 u2 u3 u4 N2 M2 a b W h1 h2 h3 h4 x3 x4 x5 x6);have l1:=zo8 _ _ _ (ky N b x1 x6) (ky a M x5 x2);have l2:=zo8 _ _ _ (ky N2 b x3 x6) (ky a M2 x5 x4);have l3:=ky M b x2 x6;have l4:=ky M2 b x4 x6;have hcm:=fun (u1 u2 u3 u4:Value) (W:World) h1 h2 h3 h4=>zl7 false false u1 u2 u3 u4 (dfN (N*b) (a*M)) (M*b) (dfN (N2*b) (a*M2)) (M2*b) W h1 h2 h3 h4 zd zd zd zd
 rw[yw7 heq]at hcm;have HCM:=zH hcm;have y1:(⟨s.toArray⟩:ByteArray).size=L:=by simp[ByteArray.size,hs]
 have y2:(⟨tx.toArray⟩:ByteArray).size=L:=by simp[ByteArray.size,ht]
 generalize dfN (N*b) (a*M)=X1 at *
 generalize dfN (N2*b) (a*M2)=X2 at *
 generalize M*b=Y1 at *
 generalize M2*b=Y2 at *
 clear hF hV r1 r2 x1 x2 x3 x4 x5 x6 l1 l2 l3 l4 hcm hs ht heq;refine ye Tryz.func8 rfl (by rw[Tryz.ntmps8];simp) ?_;intro σ hσ;rw[Tryz.ntmps8];have s0:σ 0=.int .i64 size:=hσ 0 zi;have s1:σ 1=.int .u64 (n:Int):=hσ 1 zi;have s2:σ 2=.string ⟨s.toArray⟩:=hσ 2 zi;clear hσ;(go_wp2_with fail;repeat ((first|refine cZ ?_|refine cW ?_);go_wp2_with fail));refine (HF.out _).mono ?_;rintro e w1 ⟨rfl,hg1⟩;have G1:=zH hg1;clear hg1 HF;(go_wp2_with fail;repeat ((first|refine cZ ?_|refine cW ?_);go_wp2_with fail));refine (HR1.out _).mono ?_;rintro e w2 ⟨⟨vr,rfl,⟨q1,q2,rfl,hq1,hq2⟩⟩,hg2⟩;obtain⟨a1,c1,rfl⟩:=hq1.len;obtain⟨a2,c2,rfl⟩:=hq2.len;have P1:=zH hq1;have P2:=zH hq2;generalize (yf N).length=N1 at *
 generalize (yf M).length=M1 at *
 have G2:=zH (ya G1.out hg2);obtain⟨B1,hB1⟩:=zX w2.heap.size;obtain⟨w3,hw3⟩:∃ w',w2.alloc (.cells #[.bool ng,.slice a1 N1 c1,.slice a2 M1 c2] 38)=w':=⟨_,rfl⟩;have g3:w2.grownBy w3 none:=by rw[<-hw3];exact World.grownBy_alloc w2 _ none
 have G3:=zH (ya G2.out g3);have HO1:=zH (show Row w3 B1 [.bool ng,.slice a1 N1 c1,.slice a2 M1 c2] by rw[<-hw3,<-hB1];exact Row.new w2 _ _);have P1:=zH (P1.out.grown g3);have P2:=zH (P2.out.grown g3);have HW3:=zH hw3;have HBE1:=zH hB1;clear hw3 hB1 hg2 g3 hq1 hq2 HR1;go_upto_region 3 with fail;rw[HW3.out,HBE1.out];clear HW3 HBE1;(go_wp2_with fail;repeat ((first|refine cZ ?_|refine cW ?_);go_wp2_with fail));refine (HR2.out _).mono ?_;rintro e w4 ⟨⟨vr,rfl,⟨q3,q4,rfl,hq3,hq4⟩⟩,hg4⟩;obtain⟨a3,c3,rfl⟩:=hq3.len;obtain⟨a4,c4,rfl⟩:=hq4.len;have P3:=zH hq3;have P4:=zH hq4;generalize (yf N2).length=N3 at *
 generalize (yf M2).length=M3 at *
 have G4:=zH (ya G3.out hg4);obtain⟨B2,hB2⟩:=zX w4.heap.size;obtain⟨w5,hw5⟩:∃ w',w4.alloc (.cells #[.bool ng,.slice a3 N3 c3,.slice a4 M3 c4] 38)=w':=⟨_,rfl⟩;have g5:w4.grownBy w5 none:=by rw[<-hw5];exact World.grownBy_alloc w4 _ none
 have G5:=zH (ya G4.out g5);have HO2:=zH (show Row w5 B2 [.bool ng,.slice a3 N3 c3,.slice a4 M3 c4] by rw[<-hw5,<-hB2];exact Row.new w4 _ _);have HO1:=zH ((HO1.out.grown hg4 zi).grown g5 zi);have P1:=zH ((P1.out.grown hg4).grown g5);have P2:=zH ((P2.out.grown hg4).grown g5);have P3:=zH (P3.out.grown g5);have P4:=zH (P4.out.grown g5);have HW5:=zH hw5;have HBE2:=zH hB2;clear hw5 hB2 hg4 g5 hq3 hq4 HR2;go_upto_region 4 with fail;rw[HW5.out,HBE2.out];clear HW5 HBE2;(go_wp2_with fail;repeat ((first|refine cZ ?_|refine cW ?_);go_wp2_with fail));refine (HV.out _).mono ?_;rintro e w6 ⟨q5,q6,rfl,hq5,hq6,hg6⟩;obtain⟨a5,c5,rfl⟩:=hq5.len;obtain⟨a6,c6,rfl⟩:=hq6.len;have P5:=zH hq5;have P6:=zH hq6;generalize (yf a).length=N5 at *
 generalize (yf b).length=M5 at *
 have G6:=zH (ya G5.out hg6);obtain⟨B3,hB3⟩:=zX w6.heap.size;obtain⟨w7,hw7⟩:∃ w',w6.alloc (.cells #[.bool ng,.slice a5 N5 c5,.slice a6 M5 c6] 38)=w':=⟨_,rfl⟩;have g7:w6.grownBy w7 none:=by rw[<-hw7];exact World.grownBy_alloc w6 _ none
 have G7:=zH (ya G6.out g7);have HO3:=zH (show Row w7 B3 [.bool ng,.slice a5 N5 c5,.slice a6 M5 c6] by rw[<-hw7,<-hB3];exact Row.new w6 _ _);have HO1:=zH ((HO1.out.grown hg6 zi).grown g7 zi);have HO2:=zH ((HO2.out.grown hg6 zi).grown g7 zi);have P1:=zH ((P1.out.grown hg6).grown g7);have P2:=zH ((P2.out.grown hg6).grown g7);have P3:=zH ((P3.out.grown hg6).grown g7);have P4:=zH ((P4.out.grown hg6).grown g7);have P5:=zH (P5.out.grown g7);have P6:=zH (P6.out.grown g7);have HW7:=zH hw7;have HBE3:=zH hB3;clear hw7 hB3 hg6 g7 hq5 hq6 HV;go_upto_region 5 with fail;rw[HW7.out,HBE3.out];clear HW7 HBE3;refine wp_region_noPanic ?_;refine wp_region_held_drew (S:=fun w'=>w7.grownBy w' none) zg (yh w7 1 none) (fun hHeld=>?_);(refine yg 0 33 ?_;refine yg 1 34 ?_;refine yg 2 35 ?_;refine yg 3 36 ?_;refine yg 4 37 ?_;refine yg 5 38 ?_;refine yg 6 39 ?_;refine yg 7 40 ?_;refine yg 8 41 ?_);(refine yg 9 42 ?_);(refine yg 10 43 ?_);(refine yg 11 44 ?_);(refine yg 12 45 ?_;refine yg 13 46 ?_;refine yg 14 47 ?_);(refine xg 15 48 (oi:=?_) (v:=?_) ?_ ?_ zg zg zg (fun _ _ _ _ _ h=>h) ?_ zq ?_ ?_;rotate_left 2;(focus ((simp only[List.getElem?_toArray,List.getElem?_cons_succ,List.getElem?_cons_zero]);rfl));(focus rfl);(focus (first | rfl | (simp only[Region.wanted,yielded,List.getElem?_toArray,List.getElem?_cons_succ,List.getElem?_cons_zero,Option.bind_some,Option.map_some,Fr_get?,yc,yd];rfl) | go_simp));(focus (intro W hS;have hc0:=(HO1.out.grown hS zi).cell 0;have hc1:=(HO1.out.grown hS zi).cell 1;have hc2:=(HO1.out.grown hS zi).cell 2;simp only[List.getElem?_cons_zero,List.getElem?_cons_succ]at hc0 hc1 hc2;go_simp;try with_reducible rfl)));(refine xg 16 49 (oi:=?_) (v:=?_) ?_ ?_ zg zg zg (fun _ _ _ _ _ h=>h) ?_ zq ?_ ?_;rotate_left 2;(focus ((simp only[List.getElem?_toArray,List.getElem?_cons_succ,List.getElem?_cons_zero]);rfl));(focus rfl);(focus (first | rfl | (simp only[Region.wanted,yielded,List.getElem?_toArray,List.getElem?_cons_succ,List.getElem?_cons_zero,Option.bind_some,Option.map_some,Fr_get?,yc,yd];rfl) | go_simp));(focus (intro W hS;have hc0:=(HO3.out.grown hS zi).cell 0;have hc1:=(HO3.out.grown hS zi).cell 1;have hc2:=(HO3.out.grown hS zi).cell 2;simp only[List.getElem?_cons_zero,List.getElem?_cons_succ]at hc0 hc1 hc2;go_simp;try with_reducible rfl)));(refine xg 18 51 (oi:=?_) (v:=?_) ?_ ?_ zg zg zg (fun _ _ _ _ _ h=>h) ?_ zq ?_ ?_;rotate_left 2;(focus ((simp only[List.getElem?_toArray,List.getElem?_cons_succ,List.getElem?_cons_zero]);rfl));(focus rfl);(focus (first | rfl | (simp only[Region.wanted,yielded,List.getElem?_toArray,List.getElem?_cons_succ,List.getElem?_cons_zero,Option.bind_some,Option.map_some,Fr_get?,yc,yd];rfl) | go_simp));(focus (intro W hS;have hc0:=(HO2.out.grown hS zi).cell 0;have hc1:=(HO2.out.grown hS zi).cell 1;have hc2:=(HO2.out.grown hS zi).cell 2;simp only[List.getElem?_cons_zero,List.getElem?_cons_succ]at hc0 hc1 hc2;go_simp;try with_reducible rfl)));(refine xg 19 52 (oi:=?_) (v:=?_) ?_ ?_ zg zg zg (fun _ _ _ _ _ h=>h) ?_ zq ?_ ?_;rotate_left 2;(focus ((simp only[List.getElem?_toArray,List.getElem?_cons_succ,List.getElem?_cons_zero]);rfl));(focus rfl);(focus (first | rfl | (simp only[Region.wanted,yielded,List.getElem?_toArray,List.getElem?_cons_succ,List.getElem?_cons_zero,Option.bind_some,Option.map_some,Fr_get?,yc,yd];rfl) | go_simp));(focus (intro W hS;have hc0:=(HO3.out.grown hS zi).cell 0;have hc1:=(HO3.out.grown hS zi).cell 1;have hc2:=(HO3.out.grown hS zi).cell 2;simp only[List.getElem?_cons_zero,List.getElem?_cons_succ]at hc0 hc1 hc2;go_simp;try with_reducible rfl)));(refine zO 17 ?_;intro K hK;go_simp;(refine (HD1.out _ _ _ _ _ (P1.out.grown hHeld) (P2.out.grown hHeld) (P5.out.grown hHeld) (P6.out.grown hHeld)).mono ?_;rintro e w8 ⟨v8,rfl,⟨z1,z2,rfl,hz1,hz2⟩,hg8⟩);go_wp2_with fail;replace hHeld:=ya hHeld hg8;refine hK.out _ _ hHeld ?_;clear hK K);clear hg8;(refine zO 20 ?_;intro K hK;go_simp;(refine (HD2.out _ _ _ _ _ (P3.out.grown hHeld) (P4.out.grown hHeld) (P5.out.grown hHeld) (P6.out.grown hHeld)).mono ?_;rintro e w9 ⟨v9,rfl,⟨z3,z4,rfl,hz3,hz4⟩,hg9⟩;replace hz1:=hz1.grown hg9;replace hz2:=hz2.grown hg9);go_wp2_with fail;replace hHeld:=ya hHeld hg9;refine hK.out _ _ hHeld ?_;clear hK K);clear hg9;(refine zO 21 ?_;intro K hK;go_simp;(refine (HCM.out _ _ _ _ _ hz1 hz2 hz3 hz4).mono ?_;rintro e w10 ⟨rfl,hg10⟩);go_wp2_with fail;replace hHeld:=ya hHeld hg10;refine hK.out _ _ hHeld ?_;clear hK K);clear hg10 hz1 hz2 hz3 hz4;(refine yg 22 55 ?_;refine yg 23 56 ?_;refine yg 24 6 ?_);refine wpAnyH_done zg ?_ _;refine NoPanic.normal ?_;have HGF:=zH (ya G7.out hHeld);clear hHeld;(go_wp2_with fail;repeat ((first|refine cZ ?_|refine cW ?_);go_wp2_with fail));exact yl (.bool true) rfl ze zb ⟨rfl,HGF.out⟩
end
section
attribute [local go_sem] undef
theorem zot (b:Nat) (hb:b<18446744073709551616) (w:World):(callFunc 19 #[.float .f64 b]).run Tryz.prog w=.ok (.value (.int .u64 (b:Int))) w:=by kernel_rfl
theorem zb4 {fn:Func} {p u:Tmp} {ty:TypeId} (h:fn.results=#[.tmp u,.cell p ty]) (tmps:Array Value) (P:Program) (w:World):
  (results fn tmps).run P w=((asAddr (tmps.getD p undef)).run P w).andThen fun a w₁=>((loadVar ty a).run P w₁).andThen fun v w₂=>.ok (.tuple #[tmps.getD u undef,v]) w₂:=by
 simp only[results,h];simp[Sem.run_bind,Result.andThen]
theorem zqm {P:Program} {fn:Func} {R:Ending->World->Prop} {n:Nat} {env:List (Nat×Value)} {s:Nat->Value} {w:World} {p u:Nat} {ty:TypeId} {B:Nat} (x v:Value) (hr:fn.results=#[.tmp u,.cell p ty]) (hu:u<n) (hp:p<n) (hx:over env s u=x) (hpv:over env s p=.pointer (Option.some ⟨B,0,Option.none⟩))
  (hl:(loadVar ty ⟨B,0,Option.none⟩).run P w=.ok v w) (hR:R (.returned (.tuple #[x,v])) w):bodyPost P fn R .ret (Fr n env s) w:=by
 refine bodyPost_ret (v:=.tuple #[x,v]) ?_ (vz ..) hR;rw[zb4 hr,wa n env s p hp,wa n env s u hu,hpv,hx];simp[asAddr,hl,Result.andThen]
theorem zvp (F:Nat) (bias:Int) (inf b:Nat) (l:List Nat) (x:Int) (hbias:1<=bias) (hinf:inf=(2*bias+1).toNat*2^F):spN F bias inf b l x<=inf:=by
 unfold spN;split
 ·omega
 ·split
  ·exact Nat.le_refl _
  ·exact ud F bias inf _ _ (qg _ (by unfold yfj;split <;> decide)) hbias hinf
theorem zjr (t:Txt):spB 52 1023 9218868437227405312 t<=9218868437227405312:=zvp 52 1023 _ _ _ _ ze rfl
theorem PaQ64.lt {s:List UInt8} {v k:Nat} (h:PaQ64 s v k):v<18446744073709551616:=by
 unfold PaQ64 at h;split at h
 ·omega
 ·rename_i t ht;obtain⟨h0,h1,h2⟩:=h;rcases za0 ht with e | e | e
  ·have:=(h2 e).1;have h3:=zjr t;have h4:sgB t.neg<=9223372036854775808:=by unfold sgB;split <;> omega
   omega
  ·rw[(h1 e).1];cases t.neg <;> decide
  ·exact (h0 e).1.2
theorem PaQw.lt {s:List UInt8} {v k:Nat} (h:PaQw s v k):v<18446744073709551616:=by
 obtain⟨v,-,⟨-,h⟩ | ⟨-,-,h,-⟩⟩:=h
 ·exact h.1
 ·exact h
end
section
attribute [local go_sem] undef
set_option maxRecDepth 100000 in
theorem yv8 (T:Nat) (s:List UInt8) (w:World) (he:EnvP T w) (hs:s.length<=800) (hsp:qp s=none) (R:RR) (hrf:rfP s=some R) (hx:R.hex=false) (htr:R.tr=false):
  Calls Tryz.prog 70 #[.string ⟨s.toArray⟩,.int .i64 64] w fun e w'=>(∃ (v n:Nat) (ev:Value),e=.returned (.tuple #[.float .f64 v,.int .i64 (n:Int),ev])/\AtQ64 s v n ev)/\w.grownBy w' none:=by
 have HAT:=zH (ywz T s w he hs hsp R hrf hx htr);clear hsp hrf hx htr;refine ye Tryz.func70 rfl (by rw[Tryz.ntmps70];simp) ?_;intro σ hσ;rw[Tryz.ntmps70];have s0:σ 0=.string ⟨s.toArray⟩:=hσ 0 zi;have s1:σ 1=.int .i64 64:=hσ 1 zi;clear hσ;(go_wp2_with fail;repeat ((first|refine cZ ?_|refine cW ?_);go_wp2_with fail));refine HAT.out.mono ?_;rintro e w1 ⟨⟨v,n,ev,rfl,hq⟩,hg⟩;have HQ:=zH hq;clear hq;(go_wp2_with fail;repeat ((first|refine cZ ?_|refine cW ?_);go_wp2_with fail));exact xy (.float .f64 v) (.int .i64 (n:Int)) ev rfl ze ze ze zb zb zb ⟨⟨v,n,ev,rfl,HQ.out⟩,hg⟩
set_option maxRecDepth 100000 in
theorem yv9 (T:Nat) (s:List UInt8) (w:World) (he:EnvP T w) (hs:s.length<=800) (hsp:qp s=none) (R:RR) (hrf:rfP s=some R) (hx:R.hex=false) (htr:R.tr=false):
  Calls Tryz.prog 70 #[.string ⟨s.toArray⟩,.int .i64 32] w fun e w'=>(∃ (v r n:Nat) (ev:Value),e=.returned (.tuple #[.float .f64 r,.int .i64 (n:Int),ev])/\AtQ32 s v n ev/\yak v r)/\w.grownBy w' none:=by
 have HAT:=zH (yw0 T s w he hs hsp R hrf hx htr);clear hsp hrf hx htr;refine ye Tryz.func70 rfl (by rw[Tryz.ntmps70];simp) ?_;intro σ hσ;rw[Tryz.ntmps70];have s0:σ 0=.string ⟨s.toArray⟩:=hσ 0 zi;have s1:σ 1=.int .i64 32:=hσ 1 zi;clear hσ;(go_wp2_with fail;repeat ((first|refine cZ ?_|refine cW ?_);go_wp2_with fail));refine HAT.out.mono ?_;rintro e w1 ⟨⟨v,n,ev,rfl,hq⟩,hg⟩;have hv:=hq.lt;have HQ:=zH hq;clear hq;by_cases hn:zxp v
 ·obtain⟨r,hr,hcv⟩:=zyz v hn w1;have HN:=zH (And.intro hn hr);clear hn hr hv;(go_wp2_with fail;repeat ((first|refine cZ ?_|refine cW ?_);go_wp2_with fail));exact xy (.float .f64 r) (.int .i64 (n:Int)) ev rfl ze ze ze zb zb zb ⟨⟨v,r,n,ev,rfl,HQ.out,Or.inl HN.out⟩,ym hg (yh w1 1 none)⟩
 ·obtain⟨r,hr,hf,-⟩:=zyp v hv hn;have hcv:=fun W=>run_convert_float_float (P:=Tryz.prog) W 56 44 .f32 .f64 v r (by rw[Tryz.underlying56];rfl) Tryz.underlying44 hf
  have HW:=zH (show yak v r from Or.inr ⟨hv,hn,hr,hf⟩);clear hn hr hv hf;(go_wp2_with fail;repeat ((first|refine cZ ?_|refine cW ?_);go_wp2_with fail));exact xy (.float .f64 r) (.int .i64 (n:Int)) ev rfl ze ze ze zb zb zb ⟨⟨v,r,n,ev,rfl,HQ.out,HW.out⟩,hg⟩
theorem yvg (T:Nat) (s:List UInt8) (w:World) (he:EnvP T w) (hs:s.length<=800) (hsp:qp s=none) (R:RR) (hrf:rfP s=some R) (hx:R.hex=false) (htr:R.tr=false):
  Calls Tryz.prog 40 #[.string ⟨s.toArray⟩,.int .i64 64] w fun e w'=>(∃ v k:Nat,e=.returned (.tuple #[.float .f64 v,erK k])/\PaQ64 s v k)/\w.grownBy w' none:=
 zlu s 64 w (PaQ64 s) (AtQ64 s) hs (yv8 T s w he hs hsp R hrf hx htr) (fun v n ev h hn=>(zpr h hs).1 hn) (fun v n ev h hn=>(zpr h hs).2 hn)
theorem yvh (T:Nat) (s:List UInt8) (w:World) (he:EnvP T w) (hs:s.length<=800) (hsp:qp s=none) (R:RR) (hrf:rfP s=some R) (hx:R.hex=false) (htr:R.tr=false):
  Calls Tryz.prog 40 #[.string ⟨s.toArray⟩,.int .i64 32] w fun e w'=>(∃ r k:Nat,e=.returned (.tuple #[.float .f64 r,erK k])/\PaQw s r k)/\w.grownBy w' none:=by
 refine zlu s 32 w (PaQw s) (fun r n ev=>∃ v,AtQ32 s v n ev/\yak v r) hs ?_ ?_ ?_
 ·refine (yv9 T s w he hs hsp R hrf hx htr).mono ?_;rintro e w1 ⟨⟨v,r,n,ev,rfl,h1,h2⟩,hg⟩;exact⟨⟨r,n,ev,rfl,v,h1,h2⟩,hg⟩
 ·rintro r n ev ⟨v,h,hw⟩ hn;obtain⟨k,h1,h2⟩:=(zzv h hs).1 hn;exact⟨k,h1,v,h2,hw⟩
 ·rintro r n ev ⟨v,h,hw⟩ hn;exact⟨0,(zzv h hs).2 hn,zze⟩
set_option maxRecDepth 100000 in
theorem yvt (s:List UInt8) (bs:Int) (w:World) (P:Nat->Nat->Prop) (hP:∀ v k,P v k->k=0)
  (HAT:Calls Tryz.prog 40 #[.string ⟨s.toArray⟩,.int .i64 bs] w fun e w'=>(∃ v k:Nat,e=.returned (.tuple #[.float .f64 v,erK k])/\P v k)/\w.grownBy w' none):
  Calls Tryz.prog 18 #[.string ⟨s.toArray⟩,.int .i64 bs] w fun e w'=>(∃ v:Nat,e=.returned (.tuple #[.float .f64 v,.nilIface])/\P v 0)/\w.grownBy w' none:=by
 have HAT:=zH HAT;refine ye Tryz.func18 rfl (by rw[Tryz.ntmps18];simp) ?_;intro σ hσ;rw[Tryz.ntmps18];have s0:σ 0=.string ⟨s.toArray⟩:=hσ 0 zi;have s1:σ 1=.int .i64 bs:=hσ 1 zi;clear hσ;(go_wp2_with fail;repeat ((first|refine cZ ?_|refine cW ?_);go_wp2_with fail));refine HAT.out.mono ?_;rintro e w1 ⟨⟨v,k,rfl,hp⟩,hg⟩;obtain rfl:=hP v k hp;have HP:=zH hp;have HG:=zH hg;clear hp hg hP;rw[show erK 0=.nilIface from rfl];(go_wp2_with fail;repeat ((first|refine cZ ?_|refine cW ?_);go_wp2_with fail));exact xc (.float .f64 v) .nilIface rfl ze ze zb zb ⟨⟨v,rfl,HP.out⟩,HG.out⟩
set_option maxRecDepth 100000 in
theorem ywa (T:Nat) (s:List UInt8) (w:World) (he:EnvP T w) (hs:s.length<=800) (hsp:qp s=none) (R:RR) (hrf:rfP s=some R) (hx:R.hex=false) (htr:R.tr=false) (hP:∀ v k,PaQ64 s v k->k=0):
  Calls Tryz.prog 7 #[.string ⟨s.toArray⟩] w fun e w'=>(∃ v:Nat,e=.returned (.tuple #[.int .u64 (v:Int),.agg fauZ.toArray])/\PaQ64 s v 0)/\w.grownBy w' none:=by
 refine ye Tryz.func7 rfl (by rw[Tryz.ntmps7];simp) ?_;intro σ hσ;rw[Tryz.ntmps7];have s0:σ 0=.string ⟨s.toArray⟩:=hσ 0 zi;clear hσ;obtain⟨B,hB⟩:=zX w.heap.size;obtain⟨W1,hW1⟩:=zX (w.alloc (.cells fauZ.toArray 27));have g1:w.grownBy W1 none:=zαe;have r1:Row W1 B fauZ:=by rw[<-hW1,<-hB];exact Row.new w fauZ 27
 have HAT:=zH (yvt s 64 W1 (PaQ64 s) hP (yvg T s W1 (he.grown g1 (fun _ e=>zL)) hs hsp R hrf hx htr));have hs1:w.heap.size<=B:=zd;have HB:=zH hs1;have G1:=zH g1;have R1:=zH r1;have HE:=zH he;unfold fauZ at hW1;clear hs1 g1 r1 he hsp hrf hx htr hP;(go_wp2_with fail;repeat ((first|refine cZ ?_|refine cW ?_);go_wp2_with fail));refine HAT.out.mono ?_;rintro e w2 ⟨⟨v,rfl,hp⟩,hg2⟩;clear hW1;have hv:v<18446744073709551616:=hp.lt;have hf:=fun W=>zot v hv W
 have HFO:=zH (zos w2);have G2:=zH (ym G1.out hg2);have R2:=zH (R1.out.grown hg2 zi);have HP:=zH hp;clear hp hg2 hv HAT HE R1 G1;(go_wp2_with fail;repeat ((first|refine cZ ?_|refine cW ?_);go_wp2_with fail));refine HFO.out.mono ?_;rintro e w3 ⟨rfl,hg3⟩;have G3:=zH (ym G2.out hg3);have R3:=zH (R2.out.grown hg3 zi);have k0:=R3.out.cell 0;have k1:=R3.out.cell 1;have k2:=R3.out.cell 2;have u0:=R3.out.frozen 0;have u1:=R3.out.frozen 1;have u2:=R3.out.frozen 2;unfold fauZ at k0 k1 k2;simp only[List.getElem?_cons_zero,List.getElem?_cons_succ]at k0 k1 k2;unfold fauZ;clear hg3;(go_wp2_with fail;repeat ((first|refine cZ ?_|refine cW ?_);go_wp2_with fail));obtain⟨ty,hrow⟩:=((R3.out.setCell 0 (.int .i64 0)).setCell 1 (.string ⟨#[]⟩)).setCell 2 (.string ⟨#[]⟩);refine zqm (B:=B) (.int .u64 (v:Int)) (.agg #[.int .i64 0,.string ⟨#[]⟩,.string ⟨#[]⟩]) rfl ze ze zb zb ?_ ⟨⟨v,rfl,HP.out⟩,yb (yb (yb G3.out _ HB.out) _ HB.out) _ HB.out⟩;exact run_loadVar_row (P:=Tryz.prog) _ B ty 27 _ (0,0) _ hrow Tryz.underlying27 rfl zg
set_option maxRecDepth 100000 in
theorem ywb (T:Nat) (s:List UInt8) (w:World) (he:EnvP T w) (hs:s.length<=800) (hsp:qp s=none) (R:RR) (hrf:rfP s=some R) (hx:R.hex=false) (htr:R.tr=false) (hP:∀ v k,PaQw s v k->k=0):
  Calls Tryz.prog 10 #[.string ⟨s.toArray⟩] w fun e w'=>(∃ v:Nat,e=.returned (.tuple #[.int .u64 (v:Int),.agg fauZ.toArray])/\PaQw s v 0)/\w.grownBy w' none:=by
 refine ye Tryz.func10 rfl (by rw[Tryz.ntmps10];simp) ?_;intro σ hσ;rw[Tryz.ntmps10];have s0:σ 0=.string ⟨s.toArray⟩:=hσ 0 zi;clear hσ;obtain⟨B,hB⟩:=zX w.heap.size;obtain⟨W1,hW1⟩:=zX (w.alloc (.cells fauZ.toArray 27));have g1:w.grownBy W1 none:=zαe;have r1:Row W1 B fauZ:=by rw[<-hW1,<-hB];exact Row.new w fauZ 27
 have HAT:=zH (yvt s 32 W1 (PaQw s) hP (yvh T s W1 (he.grown g1 (fun _ e=>zL)) hs hsp R hrf hx htr));have hs1:w.heap.size<=B:=zd;have HB:=zH hs1;have G1:=zH g1;have R1:=zH r1;have HE:=zH he;unfold fauZ at hW1;clear hs1 g1 r1 he hsp hrf hx htr hP;(go_wp2_with fail;repeat ((first|refine cZ ?_|refine cW ?_);go_wp2_with fail));refine HAT.out.mono ?_;rintro e w2 ⟨⟨v,rfl,hp⟩,hg2⟩;clear hW1;have hv:v<18446744073709551616:=hp.lt;have hf:=fun W=>zot v hv W
 have HFO:=zH (zos w2);have G2:=zH (ym G1.out hg2);have R2:=zH (R1.out.grown hg2 zi);have HP:=zH hp;clear hp hg2 hv HAT HE R1 G1;(go_wp2_with fail;repeat ((first|refine cZ ?_|refine cW ?_);go_wp2_with fail));refine HFO.out.mono ?_;rintro e w3 ⟨rfl,hg3⟩;have G3:=zH (ym G2.out hg3);have R3:=zH (R2.out.grown hg3 zi);have k0:=R3.out.cell 0;have k1:=R3.out.cell 1;have k2:=R3.out.cell 2;have u0:=R3.out.frozen 0;have u1:=R3.out.frozen 1;have u2:=R3.out.frozen 2;unfold fauZ at k0 k1 k2;simp only[List.getElem?_cons_zero,List.getElem?_cons_succ]at k0 k1 k2;unfold fauZ;clear hg3;(go_wp2_with fail;repeat ((first|refine cZ ?_|refine cW ?_);go_wp2_with fail));obtain⟨ty,hrow⟩:=((R3.out.setCell 0 (.int .i64 0)).setCell 1 (.string ⟨#[]⟩)).setCell 2 (.string ⟨#[]⟩);refine zqm (B:=B) (.int .u64 (v:Int)) (.agg #[.int .i64 0,.string ⟨#[]⟩,.string ⟨#[]⟩]) rfl ze ze zb zb ?_ ⟨⟨v,rfl,HP.out⟩,yb (yb (yb G3.out _ HB.out) _ HB.out) _ HB.out⟩;exact run_loadVar_row (P:=Tryz.prog) _ B ty 27 _ (0,0) _ hrow Tryz.underlying27 rfl zg
end
theorem zyg {v r:Nat} (h:yak v r) (hn:¬zxp v):r=zyo v:=by
 rcases h with⟨h,-⟩ | ⟨h1,-,-,h4⟩
 ·exact absurd h hn
 ·unfold zyo;by_cases hf:v%2147483648<2139095040
  ·rw[if_pos hf];rw[yaf v h1 hf]at h4;exact (Option.some.inj h4).symm
  ·have h5:¬2139095040<v%2147483648:=fun h=>hn ⟨h1,h⟩
   have h6:v=2139095040\/v=4286578688:=zd;rw[if_neg hf];rcases h6 with rfl | rfl
   ·have:floatToFloatBits .f32 2139095040 .f64=some 9218868437227405312:=zp;rw[this]at h4;exact (Option.some.inj h4).symm
   ·have:floatToFloatBits .f32 4286578688 .f64=some 18442240474082181120:=zp;rw[this]at h4;exact (Option.some.inj h4).symm
def RdNum (s:List UInt8) (neg:Bool) (a b:Nat):Prop:=b≠0/\∃ t,ul s=some t/\t.kind=0/\t.neg=neg/\∀ (F:Nat) (bias:Int) (inf:Nat),1<=bias->bias<=1023->1<=F->bias+F<=1075->spB F bias inf t=xh F bias inf a b
theorem RdNum.cross {s:List UInt8} {n:Bool} {a b c d:Nat} (h:RdNum s n a b) (hd:d≠0) (hx:a*d=c*b):RdNum s n c d:=by
 obtain⟨hb,t,h1,h2,h3,h4⟩:=h;exact⟨hd,t,h1,h2,h3,fun F bias inf b1 b2 f1 f2=>(h4 F bias inf b1 b2 f1 f2).trans (ue F bias inf hb hd hx)⟩
theorem RdNum.pa64 {s:List UInt8} {n:Bool} {a b v k:Nat} (h:RdNum s n a b) (hp:PaQ64 s v k):v=sgB n+xd a b/\k=if xd a b=9218868437227405312 then 2 else 0:=by
 obtain⟨hb,t,h1,h2,h3,h4⟩:=h;unfold PaQ64 at hp;rw[h1]at hp;obtain⟨e1,e2⟩:=hp.2.2 h2;rw[h4 52 1023 9218868437227405312 ze ze ze ze]at e1 e2;rw[h3]at e1;exact⟨e1,e2⟩
theorem RdNum.paw {s:List UInt8} {n:Bool} {a b v k:Nat} (h:RdNum s n a b) (hp:PaQw s v k):v=zyo (sgC n+zxq a b)/\k=if zxq a b=2139095040 then 2 else 0:=by
 obtain⟨hb,t,h1,h2,h3,h4⟩:=h;obtain⟨u,hp,hw⟩:=hp;unfold PaQ32 at hp;rw[h1]at hp;obtain⟨e1,e2⟩:=hp.2.2 h2;rw[h4 23 127 2139095040 ze ze ze ze]at e1 e2;rw[h3]at e1;have hle:=ud 23 127 2139095040 a b hb ze ze;have e3:u=sgC n+zxq a b:=e1;refine⟨?_,e2⟩;rw[<-e3];refine zyg hw ?_;rintro⟨-,h⟩;have:zxq a b<=2139095040:=hle;cases n
 ·rw[show sgC false=0 from rfl]at e3;omega
 ·rw[show sgC true=2147483648 from rfl]at e3;omega
theorem ybl {s:List UInt8} {x:Bool×Nat×Nat} (h:zjy s=some x):∃ t,ul s=some t/\t.kind=0:=by
 unfold zjy at h;cases hr:ul s with
 | none=>rw[hr]at h;cases h
 | some t=>
  rw[hr]at h;dsimp only at h;by_cases hk:t.kind=0
  ·exact⟨t,rfl,hk⟩
  ·rw[if_pos hk]at h;cases h
theorem ybe {s:List UInt8} {ng:Bool} {n d:Nat} (h:zjy s=some (ng,n,d)):RdNum s ng n d:=by
 obtain⟨t,hr,hk⟩:=ybl h;have hok:=(ze9 hr).2 hk;unfold zjy at h;rw[hr]at h;dsimp only at h;rw[if_neg (by rw[hk];decide)]at h;by_cases h0:t.digits=[]
 ·rw[if_pos h0]at h;cases h;refine⟨ze,t,hr,hk,rfl,fun F bias inf b1 b2 f1 f2=>?_⟩;rw[zai F bias inf 1 ze b1 f1];unfold spB spN;rw[if_pos (by unfold zq0;rw[if_pos h0])]
 ·rw[if_neg h0]at h;by_cases ho:zb8 t.base t.digits t.exp=0
  ·rw[if_neg (by rw[ho];decide)]at h;cases h;refine⟨qg _ (by rcases hok.1 with e | e <;> rw[e] <;> decide),t,hr,hk,rfl,fun F bias inf b1 b2 f1 f2=>?_⟩;have hop:zq0 t.base t.digits t.exp=0:=ho;unfold spB spN;rw[hop,if_neg ze,if_neg ze];rfl
  ·rw[if_pos ho]at h;cases h
theorem ypk {s:List UInt8} {ng:Bool} {V:Nat} {x:Int} (h:zjy s=some (rdV ng V x)):RdNum s ng (V*10^x.toNat) (10^(-x).toNat):=by
 unfold rdV at h;by_cases h0:V=0
 ·rw[if_pos h0]at h;exact (ybe h).cross (qg _ ze) (by rw[h0,Nat.zero_mul,Nat.zero_mul,Nat.zero_mul])
 ·rw[if_neg h0]at h;exact ybe h
theorem RdNum.shiftk {s:List UInt8} {n:Bool} {V:Nat} {E:Int} (k j:Nat) (h:RdNum s n (V*10^k*10^(E-(k:Int)).toNat) (10^(-(E-(k:Int))).toNat)):RdNum s n (V*10^j*10^(E-(j:Int)).toNat) (10^(-(E-(j:Int))).toNat):=
 h.cross (qg _ ze) (yet V E k j)
theorem ynh (d:Nat) (h0:d≠0):∃ j:Nat,zd5 (yko d)*10^j=d/\(yi d:Int)=(yko d).length+j:=by
 have h1:=zk3 (digs d (yi d)) d h0 zβL;have:yko d=digs (zga d) (yi (zga d)):=by unfold yko;rw[h1.1];exact h1.2
 rw[this,zhi,va,Nat.mod_eq_of_lt (xi (zga d))];have h2:=znx d h0;exact⟨tz d,(zar d h0).1,zd⟩
theorem ys3 (neg:Bool) (ds:List UInt8) (dp prg:Int) (hl:ds.length<=20) (hd1:-390<=dp) (hg:prg=ds.length\/(ds=[]/\dp=0/\prg<=20)):
  (∃ pr:Int,ylb neg 103 ⟨ds,dp,prg,true⟩=ymm neg ds dp pr 101/\(ds.length:Int)-1<=pr/\pr<=30)\/(∃ pr:Int,ylb neg 103 ⟨ds,dp,prg,true⟩=yn1 neg ds dp pr/\(ds.length:Int)-dp<=max pr 0/\pr<=max (20-dp) 0):=by
 have hn0:ds=[]->ds.length=0:=fun h=>by rw[h];rfl
 unfold ylb ykz;dsimp only;rw[if_pos (Or.inl rfl)];by_cases hc:dp-1 < -4\/gEp dp ds.length prg true<=dp-1
 ·rw[if_pos hc];dsimp only;left;unfold ymh;refine⟨_,by rw[if_pos zd];rfl,?_,?_⟩
  ·unfold gEp at hc;rcases hg with h | ⟨h,h1,h2⟩
   ·split <;> omega
   ·rw[if_pos rfl]at hc;omega
  ·rcases hg with h | ⟨h,h1,h2⟩ <;> split <;> omega
 ·rw[if_neg hc];dsimp only;right;unfold ymh;refine⟨_,by rw[if_neg zd,if_pos rfl],?_,?_⟩
  ·rcases hg with h | ⟨h,h1,h2⟩
   ·split <;> omega
   ·have:=hn0 h;split <;> omega
  ·rcases hg with h | ⟨h,h1,h2⟩ <;> split <;> omega
theorem yn7 (eb mb:Nat) (bias:Int) (Z:Nat) (ME:Int) (b:Nat) (hE:flE eb mb b≠2^eb-1) (hz:Kd Z ME mb (zen eb mb b) (zor eb mb bias b)) (f:Int) (hf:f=101\/f=102\/f=103):
  ∃ ds dp,(∃ k:Nat,zjy (yj5 eb mb bias Z ME b f (-1))=some (rdV (yta eb mb b) (zd5 ds*10^k) (dxv ds dp-(k:Int))))/\(yj5 eb mb bias Z ME b f (-1)).length<=395/\
   ((zen eb mb b=0/\ds=[])\/(zen eb mb b≠0/\ds=yko (kg Z ME (zen eb mb b*2^shS (zen eb mb b)) (zor eb mb bias b-(mb:Nat)-(shS (zen eb mb b):Nat))).1/\
    dp=yi (kg Z ME (zen eb mb b*2^shS (zen eb mb b)) (zor eb mb bias b-(mb:Nat)-(shS (zen eb mb b):Nat))).1+(kg Z ME (zen eb mb b*2^shS (zen eb mb b)) (zor eb mb bias b-(mb:Nat)-(shS (zen eb mb b):Nat))).2)):=by
 obtain⟨ds,dp,hok,hl,hdp1,hdp2,hp⟩:=yms Z ME mb (zen eb mb b) (zor eb mb bias b) hz;refine⟨ds,dp,?_⟩;have hds:(zen eb mb b=0/\ds=[])\/(zen eb mb b≠0/\ds=yko (kg Z ME (zen eb mb b*2^shS (zen eb mb b)) (zor eb mb bias b-(mb:Nat)-(shS (zen eb mb b):Nat))).1/\
    dp=yi (kg Z ME (zen eb mb b*2^shS (zen eb mb b)) (zor eb mb bias b-(mb:Nat)-(shS (zen eb mb b):Nat))).1+(kg Z ME (zen eb mb b*2^shS (zen eb mb b)) (zor eb mb bias b-(mb:Nat)-(shS (zen eb mb b):Nat))).2):=by
  obtain⟨pe,hpe,-⟩:=hp 101 zd;unfold ykq at hpe;by_cases h0:zen eb mb b=0
  ·rw[if_pos h0]at hpe;injection hpe with q1 q2 q3 q4;exact Or.inl ⟨h0,q1.symm⟩
  ·rw[if_neg h0,if_pos ze]at hpe;unfold ykg at hpe;dsimp only at hpe;injection hpe with q1 q2 q3 q4;exact Or.inr ⟨h0,q1.symm,q2.symm⟩
 have hdpb:-350<=dp/\dp<=350:=by
  rcases hds with⟨h0,-⟩ | ⟨h0,-,hdp⟩
  ·obtain⟨pe,hpe,-⟩:=hp 101 zd;unfold ykq at hpe;rw[if_pos h0]at hpe;injection hpe with q1 q2 q3 q4;omega
  ·have hm53:zen eb mb b<2^53:=zβH;obtain⟨hb1,hb2,hb3,hb4⟩:=zdq (zen eb mb b) zd h0;have hS:11<=shS (zen eb mb b)/\shS (zen eb mb b)<=63/\(Z=40->40<=shS (zen eb mb b)):=by
    have:=Lib.bitLen_le (zen eb mb b) 53 zd hm53;refine⟨zγb,zγb,fun h=>?_⟩;have h2:=Lib.bitLen_le (zen eb mb b) 24 zd zβH;unfold shS;omega
   have hmm:zen eb mb b*2^shS (zen eb mb b)<18446744073709551616:=by
    rw[show (18446744073709551616:Nat)=2^Lib.bitLen (zen eb mb b)*2^shS (zen eb mb b) by rw[<-Nat.pow_add,show Lib.bitLen (zen eb mb b)+shS (zen eb mb b)=64 by unfold shS;omega]];exact Nat.mul_lt_mul_of_pos_right hb3 (Nat.pow_pos zd)
   have hz2:Z=11/\ME=-1085/\-1137<=zor eb mb bias b-mb-shS (zen eb mb b)/\zor eb mb bias b-mb-shS (zen eb mb b)<=960\/Z=40/\ME=-189/\-212<=zor eb mb bias b-mb-shS (zen eb mb b)/\zor eb mb bias b-mb-shS (zen eb mb b)<=64:=by
    rcases hz with⟨a,b,c,d,e,_⟩ | ⟨a,b,c,d,e,_⟩
    ·exact Or.inl ⟨a,b,zd,zd⟩
    ·exact Or.inr ⟨a,b,by have:=hS.2.2 a;omega,by have:=hS.2.2 a;omega⟩
   have h1:=ylm Z ME _ _ hz2 hmm;have h2:=ymr Z ME (zen eb mb b*2^shS (zen eb mb b)) _ hz2;have h5:=yks _ h1.1;omega
 have hT:yj5 eb mb bias Z ME b f (-1)=ylb (yta eb mb b) f (ykq Z ME mb (zen eb mb b) (zor eb mb bias b) (-1) f):=by
  unfold yj5;rw[if_neg hE,if_neg zd,if_neg zd]
 rw[hT];obtain⟨pr,hpk,h1,h2,h3⟩:=hp f hf;rw[hpk];have hx:f=102->pr<=max (20-dp) 0:=by
  rintro rfl;have hq:=hpk;unfold ykq at hq;by_cases h0:zen eb mb b=0
  ·rw[if_pos h0]at hq;injection hq with q1 q2 q3 q4;omega
  ·rw[if_neg h0,if_pos ze]at hq;unfold ykg at hq;dsimp only at hq;injection hq with q1 q2 q3 q4;rw[<-q3,q1,q2];unfold yj9;rw[if_neg ze,if_pos rfl];omega
 have hx3:f=103->pr=ds.length\/(ds=[]/\dp=0/\pr<=20):=by
  rintro rfl;rcases h3 rfl with h | ⟨g1,g2⟩
  ·exact Or.inl h
  ·refine Or.inr ⟨g1,g2,?_⟩;have hq:=hpk;unfold ykq at hq;by_cases h0:zen eb mb b=0
   ·rw[if_pos h0]at hq;injection hq with q1 q2 q3 q4;omega
   ·rw[if_neg h0,if_pos ze]at hq;unfold ykg at hq;dsimp only at hq;injection hq with q1 q2 q3 q4;rw[<-q3,q1,g1];unfold yj9;rw[if_neg ze,if_neg ze,if_pos (Or.inl rfl)];decide
 have finE:∀ pr:Int,(ds.length:Int)-1<=pr->pr<=30->(∃ k:Nat,zjy (ymm (yta eb mb b) ds dp pr 101)=some (rdV (yta eb mb b) (zd5 ds*10^k) (dxv ds dp-(k:Int))))/\(ymm (yta eb mb b) ds dp pr 101).length<=395:=by
  intro pr a1 a2;obtain⟨k,-,r⟩:=ypl (yta eb mb b) ds dp pr hok.dig a1 hdp1 hdp2 hok.lead zd zd;have l:=yng (yta eb mb b) ds dp pr 101;exact⟨⟨k,r⟩,zd⟩
 have finF:∀ pr:Int,(ds.length:Int)-dp<=max pr 0->pr<=max (20-dp) 0->(∃ k:Nat,zjy (yn1 (yta eb mb b) ds dp pr)=some (rdV (yta eb mb b) (zd5 ds*10^k) (dxv ds dp-(k:Int))))/\(yn1 (yta eb mb b) ds dp pr).length<=395:=by
  intro pr a1 a2;obtain⟨k,-,r⟩:=ysx (yta eb mb b) ds dp pr hok.dig a1 hdp1 hdp2 hok.lead;have l:=yra (yta eb mb b) ds dp pr (ykv hok.dig) a1;exact⟨⟨k,r⟩,zd⟩
 rcases hf with rfl | rfl | rfl
 ·obtain⟨a1,a2⟩:=h1 rfl;obtain⟨g1,g2⟩:=finE pr a1 zd;exact⟨g1,g2,hds⟩
 ·obtain⟨a1,-⟩:=h2 rfl;obtain⟨g1,g2⟩:=finF pr a1 (hx rfl);exact⟨g1,g2,hds⟩
 ·rcases ys3 (yta eb mb b) ds dp pr hl hdp1 (hx3 rfl) with⟨pr',e,a1,a2⟩ | ⟨pr',e,a1,a2⟩
  ·rw[e];obtain⟨g1,g2⟩:=finE pr' a1 a2;exact⟨g1,g2,hds⟩
  ·rw[e];obtain⟨g1,g2⟩:=finF pr' a1 a2;exact⟨g1,g2,hds⟩
theorem yqm (eb mb:Nat) (bias:Int) (Z:Nat) (ME:Int) (b:Nat) (B:Int) (inf:Nat) (hE:flE eb mb b≠2^eb-1) (hz:Kd Z ME mb (zen eb mb b) (zor eb mb bias b)) (hn:2^mb<=zen eb mb b\/zor eb mb bias b-(mb:Nat)=ME+Z) (hB:B=1-(ME+Z)-mb) (hinf:inf=(2*B+1).toNat*2^mb) (f:Int) (hf:f=101\/f=102\/f=103):
  (yj5 eb mb bias Z ME b f (-1)).length<=395/\∃ N D,RdNum (yj5 eb mb bias Z ME b f (-1)) (yta eb mb b) N D/\(zen eb mb b=0->N=0)/\(zen eb mb b≠0->xh (mb:Nat) B inf N D=(zor eb mb bias b-(mb:Nat)-(ME+Z)).toNat*2^mb+zen eb mb b):=by
 obtain⟨ds,dp,⟨k,hr⟩,hl,hd⟩:=yn7 eb mb bias Z ME b hE hz f hf;refine⟨hl,?_⟩;have h1:=ypk hr;rcases hd with⟨h0,rfl⟩ | ⟨h0,hds,hdp⟩
 ·refine⟨_,_,h1,fun _=>?_,fun h=>absurd h0 h⟩;rw[show zd5 []=0 from rfl,Nat.zero_mul,Nat.zero_mul]
 ·obtain⟨r1,r2⟩:=ym1 Z ME mb (zen eb mb b) (zor eb mb bias b) B inf hz hn h0 hB hinf;generalize kg Z ME (zen eb mb b*2^shS (zen eb mb b)) (zor eb mb bias b-(mb:Nat)-(shS (zen eb mb b):Nat))=r at *
  obtain⟨j,j1,j2⟩:=ynh r.1 r1;have h2:=h1.shiftk k j;rw[hds,j1]at h2;have e:dxv (yko r.1) dp-(j:Int)=r.2:=by unfold dxv;omega
  rw[e]at h2;exact⟨_,_,h2,fun h=>absurd h h0,fun _=>r2⟩
def hval (l:List UInt8):Nat:=l.foldl (fun n c=>n*16+(dig 16 c).getD 0) 0
theorem yd6 {s s':List UInt8} (h:xf s=xf s'):ul s=ul s':=by unfold ul;rw[h]
theorem RdNum.low {s s':List UInt8} {n:Bool} {a b:Nat} (h:RdNum s n a b) (e:xf s'=xf s):RdNum s' n a b:=by
 obtain⟨hb,t,h1,h2⟩:=h;exact⟨hb,t,by rw[yd6 e];exact h1,h2⟩
theorem yqv (f:Nat) (F bias:Int) (inf a b s:Nat) (E:Int) (hF:F=f) (hb:b≠0) (hE:1-bias-F<=E) (hEb:E<=bias-F) (hs0:s≠0) (hs:s<2^(f+1)) (hn:E=1-bias-F\/2^f<=s) (hinf:inf=(2*bias+1).toNat*2^f) (hbias:1<=bias) (hf:1<=f)
  (h:a*2^(-E).toNat=s*2^E.toNat*b):xh F bias inf a b=(E-(1-bias-F)).toNat*2^f+s:=by
 have ha:a≠0:=by
  rintro rfl;rw[Nat.zero_mul]at h;exact Nat.mul_ne_zero (Nat.mul_ne_zero hs0 (Nat.ne_of_gt (p2 _))) hb h.symm
 rw[zz3 f F bias inf a b s E hF hb ha hE hEb hs hn hinf hbias hf];have e:a*2^(-E).toNat=s*(b*2^E.toNat):=by rw[h];ac_rfl
 have hY:0<b*2^E.toNat:=Nat.mul_pos zd (p2 _);unfold inI;rw[e];generalize s*(b*2^E.toNat)=Q at *
 generalize b*2^E.toNat=Y at *
 refine⟨?_,zd,fun _=>⟨zd,zd⟩⟩;split <;> omega
def okF (f:Int):Prop:=f=101\/f=69\/f=102\/f=103\/f=71\/f=120\/f=88
theorem yl2 (b:Nat) (hb:b<18446744073709551616) (hE:b / 2^52%2^11≠2^11-1):(zor 11 52 (-1023) b-((52:Nat):Int)-(-1085+((11:Nat):Int))).toNat*2^52+zen 11 52 b=b%9223372036854775808/\Kd 11 (-1085) 52 (zen 11 52 b) (zor 11 52 (-1023) b)/\(2^52<=zen 11 52 b\/zor 11 52 (-1023) b-((52:Nat):Int)=-1085+((11:Nat):Int))/\sgB (yta 11 52 b)+b%9223372036854775808=b/\b%9223372036854775808<9218868437227405312:=by
 unfold Kd zen zor flE flF yta sgB;rw[show (2:Nat)^(11+52)=9223372036854775808 by decide,show (2:Nat)^53=9007199254740992 by decide]at *
 rw[show (2:Nat)^52=4503599627370496 by decide,show (2:Nat)^11=2048 by decide]at *
 have hd:=Nat.div_add_mod b 4503599627370496;have hd2:=Nat.div_add_mod (b / 4503599627370496) 2048;have hq:b / 4503599627370496 / 2048=b / 9223372036854775808:=zγf;have hm:b%9223372036854775808=b / 4503599627370496%2048*4503599627370496+b%4503599627370496:=zd;have hr:=Nat.mod_lt b (show 0<4503599627370496 by decide);have hr2:=Nat.mod_lt (b / 4503599627370496) (show 0<2048 by decide);have hs:b / 9223372036854775808=0\/b / 9223372036854775808=1:=zd;generalize b / 4503599627370496%2048=e at *
 generalize b%4503599627370496=m at *
 generalize b / 9223372036854775808=q at *
 generalize b%9223372036854775808=y at *
 refine⟨?_,?_,?_,?_,?_⟩
 ·split <;> omega
 ·left;refine⟨rfl,rfl,rfl,?_,?_,?_⟩ <;> split <;> omega
 ·split <;> omega
 ·rcases hs with rfl | rfl
  ·simp;omega
  ·simp;omega
 ·omega
theorem ys0 (c:UInt8):vb (upB c)=vb c:=by
 have:∀ n:Fin 256,vb (upB (UInt8.ofNat n.val))=vb (UInt8.ofNat n.val):=zp;have:=this ⟨c.toNat,c.toNat_lt⟩;simp only[UInt8.ofNat_toNat]at this;exact this
theorem yr8 (l:List UInt8):xf (upL l)=xf l:=by
 unfold xf upL;rw[List.map_map];exact List.map_congr_left (fun c _=>ys0 c)
theorem ypv (m:Nat) (e:Int) (hm:m<2^53) (he1:-2000<=e) (he2:e<=2000):(yma false m e (-1)).length<=200:=by
 have hpt:∀ l:List UInt8,(ptL l).length<=l.length+1:=fun l=>by unfold ptL;split <;> simp;omega
 have hex:∀ (lt:UInt8) (x:Int),-9999<=x->x<=9999->(ys5 lt x false).length<=100:=fun lt x h1 h2=>by
  rw[yk5 lt x h1 h2,List.length_cons];unfold xExp;rw[List.length_cons];split
  ·simp
  ·split <;> simp
 unfold yma;rw[List.length_append];by_cases h0:m=0
 ·rw[if_pos h0,List.length_append];have h1:=hpt (48::List.replicate (-1:Int).toNat 48);have h2:=hex (if false then 80 else 112) 0 zd zd;have h3:(48::List.replicate (-1:Int).toNat (48:UInt8)).length=1:=rfl;rw[h3]at h1;simp only[List.length_cons,List.length_nil]at *
  omega
 ·rw[if_neg h0,List.length_append];have hl:m.log2<53:=(Nat.log2_lt h0).2 hm;have hc:ykj m (-1)<=14:=by unfold ykj;rw[if_pos zd];omega
  have h1:=hpt (hxT false (hxF m (ykj m (-1))) (ykj m (-1)+1));rw[yoa]at h1;have h3:hxE m (ykj m (-1))<=1:=by unfold hxE;split <;> omega
  have h2:=hex (if false then 80 else 112) (e+m.log2+hxE m (ykj m (-1))) zd zd;simp only[List.length_cons,List.length_nil]at *
  omega
theorem ytx (eb mb:Nat) (bias:Int) (Z:Nat) (ME:Int) (b:Nat) (B:Int) (inf:Nat) (hE:flE eb mb b≠2^eb-1) (hz:Kd Z ME mb (zen eb mb b) (zor eb mb bias b)) (hn:2^mb<=zen eb mb b\/zor eb mb bias b-(mb:Nat)=ME+Z) (hB:B=1-(ME+Z)-mb) (hinf:inf=(2*B+1).toNat*2^mb)
  (hup:∀ f F:Int,(f=101/\F=69\/f=103/\F=71\/f=120/\F=88)->yj5 eb mb bias Z ME b F (-1)=upL (yj5 eb mb bias Z ME b f (-1))) (f:Int) (hf:okF f):
  (yj5 eb mb bias Z ME b f (-1)).length<=395/\∃ N D,RdNum (yj5 eb mb bias Z ME b f (-1)) (yta eb mb b) N D/\xh (mb:Nat) B inf N D=(zor eb mb bias b-(mb:Nat)-(ME+Z)).toNat*2^mb+zen eb mb b:=by
 have hB1:1<=B:=zβH;have hmb:1<=mb/\mb<=52:=zβH;have hx1:ME+Z<=zor eb mb bias b-(mb:Nat)/\zor eb mb bias b-(mb:Nat)<=B-mb/\-1074<=ME+Z/\B-mb<=971:=zβH;have hm:zen eb mb b<2^(mb+1):=by
  rcases hz with⟨_,_,h,_,_,h2⟩ | ⟨_,_,h,_,_,h2⟩
  ·rw[show mb+1=53 by omega];exact h2
  ·rw[show mb+1=24 by omega];exact h2
 have hm53:zen eb mb b<2^53:=Nat.lt_of_lt_of_le hm (Nat.pow_le_pow_right ze zd);have h0:zen eb mb b=0->(zor eb mb bias b-(mb:Nat)-(ME+Z)).toNat*2^mb+zen eb mb b=0:=by
  intro h;have h2:zor eb mb bias b-(mb:Nat)-(ME+Z)=0:=by
   rcases hn with h3 | h3
   ·have:=Nat.pow_pos (n:=mb) (show 0<2 by decide);omega
   ·omega
  rw[h,h2];simp
 have efg:∀ f:Int,(f=101\/f=102\/f=103)->(yj5 eb mb bias Z ME b f (-1)).length<=395/\∃ N D,RdNum (yj5 eb mb bias Z ME b f (-1)) (yta eb mb b) N D/\xh (mb:Nat) B inf N D=(zor eb mb bias b-(mb:Nat)-(ME+Z)).toNat*2^mb+zen eb mb b:=by
  intro f hf;obtain⟨h1,N,D,h2,h3,h4⟩:=yqm eb mb bias Z ME b B inf hE hz hn hB hinf f hf;refine⟨h1,N,D,h2,?_⟩;by_cases hz0:zen eb mb b=0
  ·rw[h0 hz0,h3 hz0];exact zai mb B inf D h2.1 hB1 hmb.1
  ·exact h4 hz0
 have hx:(yj5 eb mb bias Z ME b 120 (-1)).length<=395/\∃ N D,RdNum (yj5 eb mb bias Z ME b 120 (-1)) (yta eb mb b) N D/\xh (mb:Nat) B inf N D=(zor eb mb bias b-(mb:Nat)-(ME+Z)).toNat*2^mb+zen eb mb b:=by
  have hT:yj5 eb mb bias Z ME b 120 (-1)=eSign (yta eb mb b)++yma false (zen eb mb b) (zor eb mb bias b-(mb:Nat)) (-1):=by
   unfold yj5;rw[if_neg hE,if_neg ze,if_pos ze];exact yqi _ (-1) 120 _ mb _ (Or.inl rfl) ze hmb.2 hm zd zd
  rw[hT];have hl:=ypv (zen eb mb b) (zor eb mb bias b-(mb:Nat)) hm53 zd zd;have hs:=yk6 (yta eb mb b);refine⟨by rw[List.length_append];omega,?_⟩;obtain⟨n,d,h1,h2,h3,-,-⟩:=ysw (yta eb mb b) (zen eb mb b) (zor eb mb bias b-(mb:Nat)) hm53 zd zd;have hr:=ybe h1;refine⟨n,d,hr,?_⟩;by_cases hz0:zen eb mb b=0
  ·rw[h0 hz0,h3.2 hz0];exact zai mb B inf d hr.1 hB1 hmb.1
  ·have hL:1-B-((mb:Nat):Int)=ME+Z:=zd;have:=yqv mb (mb:Nat) B inf n d (zen eb mb b) (zor eb mb bias b-(mb:Nat)) rfl hr.1 zd hx1.2.1 hz0 hm (by rw[hL];exact hn.symm) hinf hB1 hmb.1 h2;rw[hL]at this;exact this
 have caps:∀ f F:Int,(f=101/\F=69\/f=103/\F=71\/f=120/\F=88)->((yj5 eb mb bias Z ME b f (-1)).length<=395/\∃ N D,RdNum (yj5 eb mb bias Z ME b f (-1)) (yta eb mb b) N D/\xh (mb:Nat) B inf N D=(zor eb mb bias b-(mb:Nat)-(ME+Z)).toNat*2^mb+zen eb mb b) ->
   (yj5 eb mb bias Z ME b F (-1)).length<=395/\∃ N D,RdNum (yj5 eb mb bias Z ME b F (-1)) (yta eb mb b) N D/\xh (mb:Nat) B inf N D=(zor eb mb bias b-(mb:Nat)-(ME+Z)).toNat*2^mb+zen eb mb b:=by
  intro f F hfF h;obtain⟨h1,N,D,h2,h3⟩:=h;rw[hup f F hfF];exact⟨by unfold upL;rw[List.length_map];exact h1,N,D,h2.low (yr8 _),h3⟩
 rcases hf with rfl | rfl | rfl | rfl | rfl | rfl | rfl
 ·exact efg 101 ze
 ·exact caps 101 69 ze (efg 101 ze)
 ·exact efg 102 ze
 ·exact efg 103 ze
 ·exact caps 103 71 ze (efg 103 ze)
 ·exact hx
 ·exact caps 120 88 ze hx
theorem ys8 (b:Nat) (hb:b<18446744073709551616) (hfin:b / 2^52%2^11≠2^11-1) (f:Int) (hf:okF f):
  (xr b f (-1)).length<=395/\∀ v k,PaQ64 (xr b f (-1)) v k->k=0/\v=b:=by
 obtain⟨e1,e2,e3,e4,e5⟩:=yl2 b hb hfin;obtain⟨h1,N,D,h2,h3⟩:=ytx 11 52 (-1023) 11 (-1085) b 1023 9218868437227405312 hfin e2 e3 ze ze (fun f F h=>yo3 b f F (-1) hb hfin ze h) f hf;refine⟨h1,fun v k hp=>?_⟩;obtain⟨g1,g2⟩:=h2.pa64 hp;have h4:xd N D=b%9223372036854775808:=h3.trans e1;rw[h4]at g1 g2;rw[if_neg zd]at g2;exact⟨g2,g1.trans e4⟩
theorem ytl (b:Nat) (hb:b<4294967296) (hE:b / 2^23%2^8≠2^8-1):(zor 8 23 (-127) b-((23:Nat):Int)-(-189+((40:Nat):Int))).toNat*2^23+zen 8 23 b=b%2147483648/\Kd 40 (-189) 23 (zen 8 23 b) (zor 8 23 (-127) b)/\(2^23<=zen 8 23 b\/zor 8 23 (-127) b-((23:Nat):Int)=-189+((40:Nat):Int))/\sgC (yta 8 23 b)+b%2147483648=b/\b%2147483648<2139095040:=by
 unfold Kd zen zor flE flF yta sgC;rw[show (2:Nat)^(8+23)=2147483648 by decide,show (2:Nat)^24=16777216 by decide]at *
 rw[show (2:Nat)^23=8388608 by decide,show (2:Nat)^8=256 by decide]at *
 have hd:=Nat.div_add_mod b 8388608;have hd2:=Nat.div_add_mod (b / 8388608) 256;have hq:b / 8388608 / 256=b / 2147483648:=zγf;have hm:b%2147483648=b / 8388608%256*8388608+b%8388608:=zd;have hr:=Nat.mod_lt b (show 0<8388608 by decide);have hr2:=Nat.mod_lt (b / 8388608) (show 0<256 by decide);have hs:b / 2147483648=0\/b / 2147483648=1:=zd;generalize b / 8388608%256=e at *
 generalize b%8388608=m at *
 generalize b / 2147483648=q at *
 generalize b%2147483648=y at *
 refine⟨?_,?_,?_,?_,?_⟩
 ·split <;> omega
 ·right;refine⟨rfl,rfl,rfl,?_,?_,?_⟩ <;> split <;> omega
 ·split <;> omega
 ·rcases hs with rfl | rfl
  ·simp;omega
  ·simp;omega
 ·omega
theorem rt32 (b:Nat) (hb:b<4294967296) (hfin:b / 2^23%2^8≠2^8-1) (f:Int) (hf:okF f):
  (xb b f (-1)).length<=395/\∀ v k,PaQw (xb b f (-1)) v k->k=0/\v=zyo b:=by
 obtain⟨e1,e2,e3,e4,e5⟩:=ytl b hb hfin;obtain⟨h1,N,D,h2,h3⟩:=ytx 8 23 (-127) 40 (-189) b 127 2139095040 hfin e2 e3 ze ze (fun f F h=>ytn b f F (-1) hb hfin ze h) f hf;refine⟨h1,fun v k hp=>?_⟩;obtain⟨g1,g2⟩:=h2.paw hp;have h4:zxq N D=b%2147483648:=h3.trans e1;rw[h4]at g1 g2;rw[if_neg zd]at g2;rw[e4]at g1;exact⟨g2,g1⟩
theorem ynf (n:Nat) (h:n%9223372036854775808<9218868437227405312):n / 2^52%2^11≠2^11-1:=yai n h
theorem ytk (n:Nat) (h:n%2147483648<2139095040):n / 2^23%2^8≠2^8-1:=zun n h
theorem yxa (n:Nat) (hn:n<18446744073709551616):∃ (f t:Bool) (S:List UInt8),
  (∀ W,Calls Tryz.prog 4 #[.int .i64 64,.int .u64 (n:Int)] W fun e w'=>e=.returned (.bool f)/\W=w')/\
  (f=true->∀ W,Calls Tryz.prog 5 #[.int .i64 64,.int .u64 (n:Int)] W fun e w'=>e=.returned (.bool t)/\W.grownBy w' none)/\
  ((f&&t)=true->(∀ T W,EnvP T W->Calls Tryz.prog 6 #[.int .u64 (n:Int),.int .u8 101,.int .i64 (-1)] W fun e w'=>e=.returned (.string ⟨S.toArray⟩)/\W.grownBy w' none)/\
   (∀ T W,EnvP T W->Calls Tryz.prog 7 #[.string ⟨S.toArray⟩] W fun e w'=>e=.returned (.tuple #[.int .u64 (n:Int),.agg fauZ.toArray])/\W.grownBy w' none)/\
   (∀ W,Calls Tryz.prog 8 #[.int .i64 64,.int .u64 (n:Int),.string ⟨S.toArray⟩] W fun e w'=>e=.returned (.bool true)/\W.grownBy w' none)):=by
 by_cases hfin:n%9223372036854775808<9218868437227405312;rotate_left 1
 ·refine⟨false,false,[],fun W=>?_,(fun h=>zF),(fun h=>zF)⟩;have:=yuk n W hn;rw[decide_eq_false hfin]at this;exact this
 obtain⟨t,tx,h1,h2,h3⟩:=ywi n hn hfin;refine⟨true,t,xr n 101 (-1),fun W=>?_,fun _=>h1,fun ht=>?_⟩
 ·have:=yuk n W hn;rw[decide_eq_true hfin]at this;exact this
 rw[Bool.true_and]at ht;obtain⟨near,k,d,p,hm0,hT,htx⟩:=h3 ht;have hE:=yai n hfin;obtain⟨f1,f2,f3⟩:=ywg 11 52 (-1023) 11 (-1085) n hE near k d p hm0 hT;obtain⟨t1,t2,t3,t4,t5,t6,t7,t8,t9,t10,t11,t12⟩:=hT;have hS:xr n 101 (-1)=txE (yta 11 52 n) d k p:=f2;obtain⟨g1,R,g2,g3,g4⟩:=yvo (yta 11 52 n) d k p t3 t4 t9 t10;obtain⟨hl,hrt⟩:=ys8 n hn (ynf n hfin) 101 (by unfold okF;simp);have hE7:flE 11 52 n≠2047:=hE;have hD:yko (kg 11 (-1085) (zen 11 52 n*2^shS (zen 11 52 n)) (zor 11 52 (-1023) n-(shS (zen 11 52 n):Nat)-52)).1≠[]:=by
  rw[show zor 11 52 (-1023) n-(shS (zen 11 52 n):Nat)-52=zor 11 52 (-1023) n-((52:Nat):Int)-(shS (zen 11 52 n):Nat) by omega];exact f1
 have hx:=yay n hfin;obtain⟨v1,v2⟩:=yal (m64 n) (e64 n) (Nat.lt_of_lt_of_le (yat n) ze) zd zd;have hk:kn 9218868437227405312 9223372036854775808 n=0:=zis rfl hfin;have hng:yta 11 52 n=decide (9223372036854775808<=n):=ywu n hn;rw[hng]at hS g1 g2;have hp0:=p10 (k-1);obtain⟨N,M,q1,q2,q3,q4,q5⟩:=yuy (decide (9223372036854775808<=n)) d k p t3 t4 zd zd t9 t10;obtain⟨N2,M2,q6,q7,q8,q9,q10⟩:=yuy (decide (9223372036854775808<=n)) near k p t3 t4 t5 zd t9 t10;have htx2:tx=txE (decide (9223372036854775808<=n)) near k p:=htx.trans (f3 _);rw[htx2]at h2;refine⟨fun T W hE=>ywd T n W hE.env hn hE7 hm0 hD,fun T W hE=>?_,fun W=>?_⟩
 ·refine (ywa T _ W hE zd (by rw[hS];exact g1) R (by rw[hS];exact g2) g3 g4 (fun v k h=>(hrt v k h).1)).mono ?_;rintro e w' ⟨⟨v,rfl,hp⟩,hg⟩;rw[(hrt v 0 hp).2];exact⟨rfl,hg⟩
 ·rw[hS]at hl ⊢;exact yut 64 n (decide (9223372036854775808<=n)) _ _ (vN (m64 n) (e64 n)) (vD (e64 n)) N M N2 M2 _ W rfl (ywf _ near d k p t3) zd h2 (fun W=>zeu n (m64 n) (e64 n) W hn hk (yau n) (yax n)) q1 q6 q4 q5 q9 q10 zd zd
   (ywp (p10 p.toNat) q3 q8 t12 t2)
theorem yxb (n:Nat) (hn:n<4294967296):∃ (f t:Bool) (S:List UInt8),
  (∀ W,Calls Tryz.prog 4 #[.int .i64 32,.int .u64 (n:Int)] W fun e w'=>e=.returned (.bool f)/\W=w')/\
  (f=true->∀ W,Calls Tryz.prog 5 #[.int .i64 32,.int .u64 (n:Int)] W fun e w'=>e=.returned (.bool t)/\W.grownBy w' none)/\
  ((f&&t)=true->(∀ T W,EnvP T W->Calls Tryz.prog 9 #[.int .u32 (n:Int),.int .u8 101,.int .i64 (-1)] W fun e w'=>e=.returned (.string ⟨S.toArray⟩)/\W.grownBy w' none)/\
   (∀ T W,EnvP T W->Calls Tryz.prog 10 #[.string ⟨S.toArray⟩] W fun e w'=>e=.returned (.tuple #[.int .u64 ((zyo n:Nat):Int),.agg fauZ.toArray])/\W.grownBy w' none)/\
   (∀ W,Calls Tryz.prog 8 #[.int .i64 32,.int .u64 (n:Int),.string ⟨S.toArray⟩] W fun e w'=>e=.returned (.bool true)/\W.grownBy w' none)):=by
 by_cases hfin:n%2147483648<2139095040;rotate_left 1
 ·refine⟨false,false,[],fun W=>?_,(fun h=>zF),(fun h=>zF)⟩;have:=yul n W hn;rw[decide_eq_false hfin]at this;exact this
 obtain⟨t,tx,h1,h2,h3⟩:=ywj n hn hfin;refine⟨true,t,xb n 101 (-1),fun W=>?_,fun _=>h1,fun ht=>?_⟩
 ·have:=yul n W hn;rw[decide_eq_true hfin]at this;exact this
 rw[Bool.true_and]at ht;obtain⟨near,k,d,p,hm0,hT,htx⟩:=h3 ht;have hE:=zun n hfin;obtain⟨f1,f2,f3⟩:=ywg 8 23 (-127) 40 (-189) n hE near k d p hm0 hT;obtain⟨t1,t2,t3,t4,t5,t6,t7,t8,t9,t10,t11,t12⟩:=hT;have hS:xb n 101 (-1)=txE (yta 8 23 n) d k p:=f2;obtain⟨g1,R,g2,g3,g4⟩:=yvo (yta 8 23 n) d k p t3 t4 t9 t10;obtain⟨hl,hrt⟩:=rt32 n hn (ytk n hfin) 101 (by unfold okF;simp);have hE7:flE 8 23 n≠255:=hE;have hD:yko (kg 40 (-189) (zen 8 23 n*2^shS (zen 8 23 n)) (zor 8 23 (-127) n-(shS (zen 8 23 n):Nat)-23)).1≠[]:=by
  rw[show zor 8 23 (-127) n-(shS (zen 8 23 n):Nat)-23=zor 8 23 (-127) n-((23:Nat):Int)-(shS (zen 8 23 n):Nat) by omega];exact f1
 obtain⟨r,-,hr1,hr2⟩:=Wd.widen_back n hn hfin;have hx:=zsr n hfin;obtain⟨v1,v2⟩:=yal (m32 n) (e32 n) (Nat.lt_of_lt_of_le (zsl n) ze) zd zd;have hk:kn 2139095040 2147483648 n=0:=zis rfl hfin;have hng:yta 8 23 n=decide (2147483648<=n):=yt6 n hn;rw[hng]at hS g1 g2;have hp0:=p10 (k-1);obtain⟨N,M,q1,q2,q3,q4,q5⟩:=yuy (decide (2147483648<=n)) d k p t3 t4 zd zd t9 t10;obtain⟨N2,M2,q6,q7,q8,q9,q10⟩:=yuy (decide (2147483648<=n)) near k p t3 t4 t5 zd t9 t10;have htx2:tx=txE (decide (2147483648<=n)) near k p:=htx.trans (f3 _);rw[htx2]at h2;refine⟨fun T W hE=>ywe T n r W hE.env hn hr1 hr2 hE7 hm0 hD,fun T W hE=>?_,fun W=>?_⟩
 ·refine (ywb T _ W hE zd (by rw[hS];exact g1) R (by rw[hS];exact g2) g3 g4 (fun v k h=>(hrt v k h).1)).mono ?_;rintro e w' ⟨⟨v,rfl,hp⟩,hg⟩;rw[(hrt v 0 hp).2];exact⟨rfl,hg⟩
 ·rw[hS]at hl ⊢;exact yut 32 n (decide (2147483648<=n)) _ _ (vN (m32 n) (e32 n)) (vD (e32 n)) N M N2 M2 _ W rfl (ywf _ near d k p t3) zd h2 (fun W=>zev n (m32 n) (e32 n) W hn hk (zv8 n) (zwp n)) q1 q6 q4 q5 q9 q10 zd zd
   (ywp (p10 p.toNat) q3 q8 t12 t2)
section
attribute [local go_sem] undef
set_option maxRecDepth 100000 in
theorem yus (T:Nat) (n m:Nat) (hn:n<18446744073709551616) (hm:m<4294967296) (w:World) (he:EnvP T w):
  Calls Tryz.prog 3 #[.int .u64 (n:Int),.int .u32 (m:Int)] w fun e w'=>e=.returned (.bool true)/\w.grownBy w' none:=by
 have HE:=zH he;clear he;obtain⟨f1,t1,S1,a1,b1,c1⟩:=yxa n hn;obtain⟨f2,t2,S2,a2,b2,c2⟩:=yxb m hm;have HA1:=zH a1;have HB1:=zH b1;have HC1:=zH c1;have HA2:=zH a2;have HB2:=zH b2;have HC2:=zH c2;have HWI:=zH (fun W=>zkx m hm W);have hwr:IntKind.u64.wrap (m:Int)=(m:Int):=zl;obtain⟨x2,hx2⟩:=zX (zyo m);rw[hx2]at HWI HC2;clear a1 b1 c1 a2 b2 c2 hx2;refine ye Tryz.func3 rfl (by rw[Tryz.ntmps3];simp) ?_;intro σ hσ;rw[Tryz.ntmps3];have s0:σ 0=.int .u64 (n:Int):=hσ 0 zi;have s1:σ 1=.int .u32 (m:Int):=hσ 1 zi;clear hσ;have HG0:=zH (World.grownBy.refl w none);(go_upto_region 2 with fail;repeat ((first|refine cZ ?_|refine cW ?_);go_upto_region 2 with fail));refine yr (fun s' w'=>s' 0=.int .u64 (n:Int)/\s' 1=.int .u32 (m:Int)/\s' 5=.int .u64 (m:Int)/\s' 19=.bool (f1&&t1)/\w.grownBy w' none) ?_ ?_
 ·intro R' K' HR hK';cases f1
  ·(go_wp2_with fail;repeat ((first|refine cZ ?_|refine cW ?_);go_wp2_with fail));refine (HA1.out _).mono ?_;rintro e w7 ⟨rfl,rfl⟩;(go_wp2_with fail;repeat ((first|refine cZ ?_|refine cW ?_);go_wp2_with fail));exact got HR ⟨zb,zb,zb,zb,HG0.out⟩
  ·have HB:=zH (HB1.out rfl);(go_wp2_with fail;repeat ((first|refine cZ ?_|refine cW ?_);go_wp2_with fail));refine (HA1.out _).mono ?_;rintro e w7 ⟨rfl,rfl⟩;(go_wp2_with fail;repeat ((first|refine cZ ?_|refine cW ?_);go_wp2_with fail));refine (HB.out _).mono ?_;rintro e w8 ⟨rfl,hg⟩;have HG1:=zH (ym HG0.out hg);clear hg;(go_wp2_with fail;repeat ((first|refine cZ ?_|refine cW ?_);go_wp2_with fail));exact got HR ⟨zb,zb,zb,zb,HG1.out⟩
 clear s0 s1 σ;rintro σ w1 ⟨s0,s1,s5,s19,hg1⟩;have HG1:=zH hg1;clear hg1 HG0 HA1 HB1;obtain⟨q1,hq1⟩:=zX ((f1&&t1));rw[hq1]at s19 HC1;clear hq1;go_wp2_with fail;refine yr (fun s' w'=>s' 1=.int .u32 (m:Int)/\s' 5=.int .u64 (m:Int)/\w.grownBy w' none) ?_ ?_
 ·intro R' K' HR hK';cases q1
  ·(go_wp2_with fail;repeat ((first|refine cZ ?_|refine cW ?_);go_wp2_with fail));exact got HR ⟨zb,zb,HG1.out⟩
  ·obtain⟨hF,hP,hS⟩:=HC1.out rfl;have HF:=zH (hF T);have HP:=zH (hP T);have HS:=zH hS;clear hF hP hS HC1;(go_wp2_with fail;repeat ((first|refine cZ ?_|refine cW ?_);go_wp2_with fail));refine (HF.out _ (HE.out.grown HG1.out (fun _ e=>zL))).mono ?_;rintro e w2 ⟨rfl,hg⟩;have HG2:=zH (ym HG1.out hg);clear hg HF;(go_wp2_with fail;repeat ((first|refine cZ ?_|refine cW ?_);go_wp2_with fail));refine (HP.out _ (HE.out.grown HG2.out (fun _ e=>zL))).mono ?_;rintro e w3 ⟨rfl,hg⟩;unfold fauZ;have HG3:=zH (ym HG2.out hg);obtain⟨B0,hB0⟩:=zX w3.heap.size;obtain⟨w4,hw4⟩:∃ w',w3.alloc (.cells #[.int .i64 0,.string ⟨#[]⟩,.string ⟨#[]⟩] 27)=w':=⟨_,rfl⟩;have g4:w3.grownBy w4 none:=zβg;have HG4:=zH (ym HG3.out g4);have HO0:=zH (show Row w4 B0 [.int .i64 0,.string ⟨#[]⟩,.string ⟨#[]⟩] by rw[<-hw4,<-hB0];exact Row.new w3 _ _);have HW4:=zH hw4;have HBE0:=zH hB0;clear hw4 hB0 hg g4 HP;go_upto_region 5 with fail;rw[HW4.out,HBE0.out];clear HW4 HBE0;(go_wp2_with fail;repeat ((first|refine cZ ?_|refine cW ?_);go_wp2_with fail));refine (HS.out _).mono ?_;rintro e w9 ⟨rfl,hg⟩;have HG9:=zH (ym HG4.out hg);have o0:w9.cell? ⟨B0,0,none⟩=some (.int .i64 0):=(HO0.out.grown hg zi).cell 0;clear hg HS;(go_wp2_with fail;repeat ((first|refine cZ ?_|refine cW ?_);go_wp2_with fail));exact got HR ⟨zb,zb,HG9.out⟩
 clear s0 s1 s5 s19 σ HC1 HG1;rintro σ w1 ⟨s1,s5,hg1⟩;have HG0:=zH hg1;clear hg1;(go_upto_region 7 with fail;repeat ((first|refine cZ ?_|refine cW ?_);go_upto_region 7 with fail));refine yr (fun s' w'=>s' 1=.int .u32 (m:Int)/\s' 5=.int .u64 (m:Int)/\s' 46=.bool (f2&&t2)/\w.grownBy w' none) ?_ ?_
 ·intro R' K' HR hK';cases f2
  ·(go_wp2_with fail;repeat ((first|refine cZ ?_|refine cW ?_);go_wp2_with fail));refine (HA2.out _).mono ?_;rintro e w7 ⟨rfl,rfl⟩;(go_wp2_with fail;repeat ((first|refine cZ ?_|refine cW ?_);go_wp2_with fail));exact got HR ⟨zb,zb,zb,HG0.out⟩
  ·have HB:=zH (HB2.out rfl);(go_wp2_with fail;repeat ((first|refine cZ ?_|refine cW ?_);go_wp2_with fail));refine (HA2.out _).mono ?_;rintro e w7 ⟨rfl,rfl⟩;(go_wp2_with fail;repeat ((first|refine cZ ?_|refine cW ?_);go_wp2_with fail));refine (HB.out _).mono ?_;rintro e w8 ⟨rfl,hg⟩;have HG1:=zH (ym HG0.out hg);clear hg;(go_wp2_with fail;repeat ((first|refine cZ ?_|refine cW ?_);go_wp2_with fail));exact got HR ⟨zb,zb,zb,HG1.out⟩
 clear s1 s5 σ;rintro σ w2 ⟨s1,s5,s46,hg1⟩;have HG1:=zH hg1;clear hg1 HG0 HA2 HB2;obtain⟨q2,hq2⟩:=zX ((f2&&t2));rw[hq2]at s46 HC2;clear hq2;go_wp2_with fail;refine yr (fun s' w'=>w.grownBy w' none) ?_ ?_
 ·intro R' K' HR hK';cases q2
  ·(go_wp2_with fail;repeat ((first|refine cZ ?_|refine cW ?_);go_wp2_with fail));exact got HR HG1.out
  ·obtain⟨hF,hP,hS⟩:=HC2.out rfl;have HF:=zH (hF T);have HP:=zH (hP T);have HS:=zH hS;clear hF hP hS HC2;(go_wp2_with fail;repeat ((first|refine cZ ?_|refine cW ?_);go_wp2_with fail));refine (HF.out _ (HE.out.grown HG1.out (fun _ e=>zL))).mono ?_;rintro e w2 ⟨rfl,hg⟩;have HG2:=zH (ym HG1.out hg);clear hg HF;(go_wp2_with fail;repeat ((first|refine cZ ?_|refine cW ?_);go_wp2_with fail));refine (HP.out _ (HE.out.grown HG2.out (fun _ e=>zL))).mono ?_;rintro e w3 ⟨rfl,hg⟩;unfold fauZ;have HG3:=zH (ym HG2.out hg);obtain⟨B0,hB0⟩:=zX w3.heap.size;obtain⟨w4,hw4⟩:∃ w',w3.alloc (.cells #[.int .i64 0,.string ⟨#[]⟩,.string ⟨#[]⟩] 27)=w':=⟨_,rfl⟩;have g4:w3.grownBy w4 none:=zβg;have HG4:=zH (ym HG3.out g4);have HO0:=zH (show Row w4 B0 [.int .i64 0,.string ⟨#[]⟩,.string ⟨#[]⟩] by rw[<-hw4,<-hB0];exact Row.new w3 _ _);have HW4:=zH hw4;have HBE0:=zH hB0;clear hw4 hB0 hg g4 HP;go_upto_region 10 with fail;rw[HW4.out,HBE0.out];clear HW4 HBE0;(go_wp2_with fail;repeat ((first|refine cZ ?_|refine cW ?_);go_wp2_with fail));refine (HS.out _).mono ?_;rintro e w9 ⟨rfl,hg⟩;have HG9:=zH (ym HG4.out hg);have HO9:=zH (HO0.out.grown hg zi);clear hg HS HO0;(go_wp2_with fail;repeat ((first|refine cZ ?_|refine cW ?_);go_wp2_with fail));refine (HWI.out _).mono ?_;rintro e w10 ⟨rfl,hg⟩;have HG10:=zH (ym HG9.out hg);have o0:w10.cell? ⟨B0,0,none⟩=some (.int .i64 0):=(HO9.out.grown hg zi).cell 0;clear hg HO9;(go_wp2_with fail;repeat ((first|refine cZ ?_|refine cW ?_);go_wp2_with fail));exact got HR HG10.out
 clear s1 s5 s46 σ HC2 HG1;rintro σ w3 hg1;have HG3:=zH hg1;clear hg1;(go_wp2_with fail;repeat ((first|refine cZ ?_|refine cW ?_);go_wp2_with fail));exact yl (.bool true) rfl ze zb ⟨rfl,HG3.out⟩
end
end Go.Proofs.YtgfjdeddghbjcaaGreatDoor
