/- Lemmas that the claim's top text leans on. No condition of their own. -/
import Derived.Test.YtnifedmhgncioaaGreatDoorRows
import Derived.Test.YtnifedmhgncioaaGreatDoorJ10
import Derived.Test.YtnifedmhgncioaaGreatDoorJ11
import Derived.WalkLawsBesides
import Derived.BigQuiet
import Derived.StillTailTactics
import Derived.IntWalk
namespace Go.Proofs.YtnifedmhgncioaaGreatDoor
open Go.RowKit
set_option linter.unusedSimpArgs false
set_option linter.unusedVariables false
set_option maxHeartbeats 16000000
theorem zoe:(Tryz.prog.info? 3).map (fun i=>(i.zero,i.size,i.bytes))=some (some (.int .i64 0),1,8):=by kernel_rfl
theorem ug:zu5 Tryz.prog 39:=by
 obtain⟨i0,hi,hz0,hz1,hz2⟩:=info_parts zoe;exact⟨3,i0,_,Tryz.underlying39,hi,hz0,hz1,rfl,hz2⟩
theorem ya {w w1 w2:World} (h:w.grownBy w1 none) (k:w1.grownBy w2 none):w.grownBy w2 none:=yx h k (fun j e=>zL)
theorem zgi (v:Value) (xs:List Nat) (w:World) (hr:RdI w v xs) (hx:xs.length<=10000000):
  Calls Tryz.prog 62 #[v] w fun e w'=>∃ v',e=.returned v'/\OwnI w.heap.size w' v' (xs.take (zcn xs xs.length))/\w.grownBy w' none:=by
 have HO0:=zH (OwnI.fresh0 (T:=w.heap.size) (w:=w) (Nat.le_refl _) 3);have HG0:=zH (World.grownBy_alloc w (.cells #[] 3) none);rcases hr with⟨rfl,rfl⟩ | ⟨g,c,rfl,hc,hm,hcell⟩
 ·have HS:=zH (Src.ofNil (P:=Tryz.prog) (size:=1) (w.alloc (.cells #[] 3)) Tryz.underlying39 0);refine ye Tryz.func62 rfl (by rw[Tryz.ntmps62];simp) ?_;intro σ hσ;rw[Tryz.ntmps62];have s0:σ 0=.slice none 0 0:=hσ 0 zi;clear hσ;(go_wp2_with fail;repeat ((first|refine cZ ?_|refine cW ?_);go_wp2_with fail));refine xx (fun kk s' w'=>s' 0=.slice none 0 0/\s' 3=.int .i64 0/\w=w') 0 ⟨zb,zb,rfl⟩ ?_;clear s0 σ;rintro kk σ wk ⟨s0,s3,rfl⟩ RK KK HRK hKK;(go_wp2_with (first | (at_builtin;refine yk rfl _ _ _ _ rfl ze ze ug HO0.out zb _ zb [] HS.out zi ?_;intro v1 w1 ho1 hs1));repeat ((first|refine cZ ?_|refine cW ?_);go_wp2_with (first | (at_builtin;refine yk rfl _ _ _ _ rfl ze ze ug HO0.out zb _ zb [] HS.out zi ?_;intro v1 w1 ho1 hs1))));refine yl v1 rfl ze zb ⟨v1,rfl,?_,yxj (Nat.le_refl _) HG0.out HO0.out hs1⟩;exact ho1
 ·obtain⟨N,hN⟩:=zX xs.length;rw[hN]at hx hc;simp only[hN];have HC:=zH hcell;have HN:=zH hN;clear hcell hN;refine ye Tryz.func62 rfl (by rw[Tryz.ntmps62];simp) ?_;intro σ hσ;rw[Tryz.ntmps62];have s0:σ 0=.slice (some ⟨g,0,none⟩) N c:=hσ 0 zi;clear hσ;(go_wp2_with fail;repeat ((first|refine cZ ?_|refine cW ?_);go_wp2_with fail));refine xx (fun kk s' w'=>∃ i:Nat,i<=N/\kk=i/\s' 0=.slice (some ⟨g,0,none⟩) N c/\s' 3=.int .i64 (i:Int)/\w=w'/\zcn xs i=zcn xs N) N
   ⟨N,Nat.le_refl _,rfl,zb,zb,rfl,rfl⟩ ?_
  clear s0 σ;rintro kk σ wk ⟨i,hi,hkk,s0,s3,rfl,htr⟩ RK KK HRK hKK;have HKK:=zH hkk;clear hkk;have fin:∀ (htk:zcn xs N=i) (v1:Value) (w1:World) (ho1:OwnI w.heap.size w1 v1 ([]++xs.take i)),OwnI w.heap.size w1 v1 (xs.take (zcn xs N)):=by
   intro htk v1 w1 ho1;rw[htk];exact ho1
  have FIN:=zH fin;clear fin;have HSRC:=zH (RdI.head (P:=Tryz.prog) (w:=w.alloc (.cells #[] 3)) Tryz.underlying39 (fun j u hu=>ytb HG0.out (HC.out j u hu)) i c (by rw[HN.out];exact hi));have hlt:(xs.take i).length<=10000000:=zN;have hiN:(i:Int)<=(N:Int):=zd;have hic:(i:Int)<=(c:Int):=zd;have hge:(0:Int)<=(i:Int):=zd;by_cases h0:i=0
  ·subst h0;(go_wp2_with (first | (at_builtin;refine yk rfl _ _ _ _ rfl ze ze ug HO0.out zb _ zb (xs.take 0) HSRC.out zi ?_;intro v1 w1 ho1 hs1));repeat ((first|refine cZ ?_|refine cW ?_);go_wp2_with (first | (at_builtin;refine yk rfl _ _ _ _ rfl ze ze ug HO0.out zb _ zb (xs.take 0) HSRC.out zi ?_;intro v1 w1 ho1 hs1))));exact yl v1 rfl ze zb ⟨v1,rfl,FIN.out (by rw[<-htr];rfl) v1 w1 ho1,yxj (Nat.le_refl _) HG0.out HO0.out hs1⟩
  ·obtain⟨j,rfl⟩:∃ j,i=j+1:=⟨i-1,zd⟩;obtain⟨u,hu⟩:∃ u,xs[j]?=some u:=⟨xs[j]' zt,List.getElem?_eq_getElem _⟩;have hcj:=HC.out j u hu;have hgd:xs.getD j 0=u:=by rw[List.getD_eq_getElem?_getD,hu];rfl
   unfold qd at hcj;have e1:((j+1:Nat):Int)-1=(j:Int):=zd;have h1:(0:Int)<((j+1:Nat):Int):=zd;have h2:(j:Int)<(N:Int):=zd;have HGD:=zH hgd;have HTR:=zH htr;clear hu hgd htr h0;by_cases hu0:u=0
   ·subst hu0;(go_wp2_with fail;repeat ((first|refine cZ ?_|refine cW ?_);go_wp2_with fail));exact wo HRK j (by have:=HKK.out;omega) ⟨j,zd,rfl,zb,zj,rfl,by rw[<-HTR.out,zcn,if_pos HGD.out]⟩
   ·have hu1:((u:Int)==0)=false:=zf;((repeat (go_wp2_with (first | (at_builtin;refine yk rfl _ _ _ _ rfl ze ze ug HO0.out zb _ zb (xs.take (j+1)) HSRC.out zh ?_;intro v1 w1 ho1 hs1));first|refine cZ ?_|refine cW ?_));go_wp2_with (first | (at_builtin;refine yk rfl _ _ _ _ rfl ze ze ug HO0.out zb _ zb (xs.take (j+1)) HSRC.out zh ?_;intro v1 w1 ho1 hs1)));exact yl v1 rfl ze zb ⟨v1,rfl,FIN.out (by rw[<-HTR.out,zcn,if_neg (by rw[HGD.out];exact hu0)]) v1 w1 ho1,yxj (Nat.le_refl _) HG0.out HO0.out hs1⟩
def NatV (w:World) (v:Value) (n:Nat):Prop:=RdI w v (yf n)
theorem NatV.grown {w w':World} {v:Value} {n:Nat} (h:NatV w v n) (hg:w.grownBy w' none):NatV w' v n:=RdI.grown h hg
theorem yua (v:Value) (xs:List Nat) (w:World) (hr:RdI w v xs) (hx:xs.length<=10000000) (hl:Limbs xs):
  Calls Tryz.prog 62 #[v] w fun e w'=>∃ v',e=.returned v'/\NatV w' v' (xo xs)/\w.grownBy w' none:=by
 refine (zgi v xs w hr hx).mono ?_;rintro e w' ⟨v',rfl,ho,hg⟩;refine⟨v',rfl,?_,hg⟩;have:=zcm xs hl xs.length (Nat.le_refl _);rw[List.take_length]at this;rw[this]at ho;exact RdI.of_own ho
theorem zmo (v:Value) (xs:List Nat) (w:World) (hr:RdI w v xs) (hx:xs.length<=10000000) (hl:Limbs xs):
  Calls Tryz.prog 62 #[v] w fun e w'=>∃ v',e=.returned v'/\NatV w' v' (xo xs)/\w.grownBy w' none/\∀ k,v'.ownBlock=some k->w.heap.size<=k:=by
 refine (zgi v xs w hr hx).mono ?_;rintro e w' ⟨v',rfl,ho,hg⟩;refine⟨v',rfl,?_,hg,ho.2⟩;have:=zcm xs hl xs.length (Nat.le_refl _);rw[List.take_length]at this;rw[this]at ho;exact RdI.of_own ho
theorem NatV.set {w:World} {v:Value} {n:Nat} (h:NatV w v n) (a:Addr) (u:Value) (hne:∀ k,v.ownBlock=some k->k≠a.block):NatV (w.setCell a u) v n:=by
 rcases h with h | ⟨g,c,h1,h2,h3,h4⟩
 ·exact Or.inl h
 ·refine Or.inr ⟨g,c,h1,h2,h3,fun j x hx=>?_⟩;have hne':g≠a.block:=hne g (by rw[h1];rfl);have hb:(w.setCell a u).heap[(⟨g,j,none⟩:Addr).block]?=w.heap[(⟨g,j,none⟩:Addr).block]?:=Below.heap_setCell w a u g hne';rw[World.cell?_of_block hb];exact h4 j x hx
theorem zds (v:Value) (xs:List Nat) (i:Nat) (w:World) (hr:RdI w v xs) (hi:i<=100000000) (hx:xs.length<=100000000):
  Calls Tryz.prog 57 #[v,.int .i64 (i:Int)] w fun e w'=>e=.returned (.int .i64 ((xs.getD i 0:Nat):Int))/\w=w':=by
 obtain⟨a,c,rfl⟩:=hr.len;obtain⟨N,hN⟩:=zX xs.length;simp only[hN]at hr ⊢;rw[hN]at hx;by_cases hlt:i<N
 ·obtain⟨u,hu⟩:∃ u,xs[i]?=some u:=⟨xs[i]'(by rw[hN];exact hlt),List.getElem?_eq_getElem _⟩;obtain⟨g,rfl,_,hc,hm,hcell⟩:=hr.at (by intro h;rw[h]at hN;simp at hN;omega);have hcj:=hcell i u hu;unfold qd at hcj;have hgd:xs.getD i 0=u:=by rw[List.getD_eq_getElem?_getD,hu];rfl
  rw[hgd];have h1:(i:Int)<(N:Int):=zd;clear hu hgd hcell hr hN;go_enter Tryz.func57,Tryz.ntmps57;go_wp2;go_ret;exact⟨rfl,rfl⟩
 ·have hgd:xs.getD i 0=0:=by rw[List.getD_eq_getElem?_getD,List.getElem?_eq_none zd];rfl
  rw[hgd];have h1:decide ((i:Int)<(N:Int))=false:=zh;have h2:decide (i<N)=false:=zh;clear hgd hr hN;go_enter Tryz.func57,Tryz.ntmps57;go_wp2;go_ret;exact⟨rfl,rfl⟩
theorem xl {P:Program} {w:World} {tx e':TypeId} (hk:P.underlying tx=some (.slice e')) (z:Int) (x:Nat) (E:TypeId) (h:z=(x:Int)):
  Src P 1 tx (.slice (some ⟨w.heap.size,0,none⟩) 1 1) [x].length ([x].map qd) (w.alloc (.cells #[.int .i64 z] E)):=by
 subst h;exact ztn hk x E
theorem ww (n:Nat) (w:World) (hn:n<18446744073709551616):
  Calls Tryz.prog 39 #[.int .u64 (n:Int)] w fun e w'=>∃ v',e=.returned v'/\NatV w' v' n/\w.grownBy w' none:=by
 have HO0:=zH (OwnI.fresh0 (T:=w.heap.size) (w:=w) (Nat.le_refl _) 3);have HG0:=zH (World.grownBy_alloc w (.cells #[] 3) none);refine ye Tryz.func39 rfl (by rw[Tryz.ntmps39];simp) ?_;intro σ hσ;rw[Tryz.ntmps39];have s0:σ 0=.int .u64 (n:Int):=hσ 0 zi;clear hσ;(go_wp2_with fail;repeat ((first|refine cZ ?_|refine cW ?_);go_wp2_with fail));refine xx (fun kk s' w'=>∃ (m:Nat) (l:List Nat) (v:Value),m<18446744073709551616/\kk=m/\l++yf m=yf n/\s' 0=.int .u64 (m:Int)/\s' 3=v/\OwnI w.heap.size w' v l/\w.grownBy w' none) n
  ⟨n,[],_,hn,rfl,zi,zb,zb,HO0.out,HG0.out⟩ ?_
 clear s0 σ HO0 HG0;rintro kk σ wk ⟨m,l,v,hm,hkk,hl,s0,s3,hown,hg⟩ RK KK HRK hKK;have HKK:=zH hkk;have HL:=zH hl;have HO:=zH hown;have HG:=zH hg;have hl1:l.length<=3:=by
  have h1:=congrArg List.length hl;have h2:=yv (n:=n) (k:=3) zd;rw[List.length_append]at h1;omega
 clear hkk hl hown hg;by_cases h0:m=0
 ·subst h0;(go_wp2_with fail;repeat ((first|refine cZ ?_|refine cW ?_);go_wp2_with fail));refine yl v rfl ze zb ⟨v,rfl,?_,HG.out⟩;have e:=HL.out;rw[xm,List.append_nil]at e;unfold NatV;rw[<-e];exact RdI.of_own HO.out
 ·have h1:(0:Int)<(m:Int):=zd;have h2:0<m:=zd;((repeat (go_wp2_with (first | (at_builtin;refine yk rfl _ _ _ _ rfl ze ze ug (HO.out.alloc _) zb _ zb [m%1073741824] (xl Tryz.underlying39 _ (m%1073741824) _ zd) zh ?_;intro v1 w1 ho1 hs1));first|refine cZ ?_|refine cW ?_));go_wp2_with (first | (at_builtin;refine yk rfl _ _ _ _ rfl ze ze ug (HO.out.alloc _) zb _ zb [m%1073741824] (xl Tryz.underlying39 _ (m%1073741824) _ zd) zh ?_;intro v1 w1 ho1 hs1)));refine wo HRK (m / 1073741824) (by have:=HKK.out;omega) ⟨m / 1073741824,l++[m%1073741824],v1,zd,rfl,?_,zb,zb,ho1,yxj (Nat.le_refl _) (ya HG.out (World.grownBy_alloc wk _ none)) (HO.out.alloc _) hs1⟩;rw[List.append_assoc,<-HL.out,uj h0];rfl
theorem qy (v1 v2:Value) (a b:Nat) (w:World) (hr1:NatV w v1 a) (hr2:NatV w v2 b) (hx1:(yf a).length<=10000000) (hx2:(yf b).length<=10000000):
  Calls Tryz.prog 44 #[v1,v2] w fun e w'=>e=.returned (.int .i64 (ko a b))/\w.grownBy w' none:=by
 obtain⟨a1,c1,rfl⟩:=hr1.len;obtain⟨a2,c2,rfl⟩:=hr2.len;obtain⟨N1,hN1⟩:=zX ((yf a).length);obtain⟨N2,hN2⟩:=zX ((yf b).length);unfold NatV at hr1 hr2;simp only[hN1,hN2]at hr1 hr2 ⊢;rw[hN1]at hx1;rw[hN2]at hx2;have HN1:=zH hN1;have HN2:=zH hN2;have HR1:=zH hr1;have HR2:=zH hr2;clear hr1 hr2 hN1 hN2;refine ye Tryz.func44 rfl (by rw[Tryz.ntmps44];simp) ?_;intro σ hσ;rw[Tryz.ntmps44];have s0:σ 0=.slice a1 N1 c1:=hσ 0 zi;have s1:σ 1=.slice a2 N2 c2:=hσ 1 zi;clear hσ;by_cases hne:N1=N2
 case neg=>
  have hne1:((N1:Int) != (N2:Int))=true:=zQ;have hne2:(N1 != N2)=true:=zQ;by_cases hlt:N1<N2
  ·have hlt1:(N1:Int)<(N2:Int):=zd;(go_wp2_with fail;repeat ((first|refine cZ ?_|refine cW ?_);go_wp2_with fail));exact yl (.int .i64 (-1)) rfl ze zb ⟨by rw[zi9 (zha (by rw[HN1.out,HN2.out];exact hlt))],yy w none⟩
  ·have hlt1:decide ((N1:Int)<(N2:Int))=false:=zh;have hlt2:decide (N1<N2)=false:=zh;(go_wp2_with fail;repeat ((first|refine cZ ?_|refine cW ?_);go_wp2_with fail));exact yl (.int .i64 1) rfl ze zb ⟨by rw[zja (zha (by rw[HN1.out,HN2.out];omega))],yy w none⟩
 subst hne;(go_wp2_with fail;repeat ((first|refine cZ ?_|refine cW ?_);go_wp2_with fail));refine xx (fun kk s' w'=>∃ i:Nat,i<=N1/\kk=i/\s' 0=.slice a1 N1 c1/\s' 1=.slice a2 N1 c2/\s' 5=.int .i64 ((i:Int)-1)/\w.grownBy w' none/\a / 1073741824^i=b / 1073741824^i) N1
  ⟨N1,Nat.le_refl _,rfl,zb,zb,zb,yy w none,by have:=zpf (a:=a) (b:=b) (by rw[HN1.out,HN2.out]);rwa [HN1.out]at this⟩ ?_
 clear s0 s1 σ;rintro kk σ wk ⟨i,hi,hkk,s0,s1,s5,hg,hdv⟩ RK KK HRK hKK;have HKK:=zH hkk;have HG:=zH hg;have HDV:=zH hdv;clear hkk hg hdv;by_cases h0:i=0
 ·subst h0;(go_wp2_with fail;repeat ((first|refine cZ ?_|refine cW ?_);go_wp2_with fail));exact yl (.int .i64 0) rfl ze zb ⟨by rw[zph];have:=HDV.out;simpa using this,HG.out⟩
 ·obtain⟨j,rfl⟩:∃ j,i=j+1:=⟨i-1,zd⟩;have e1:((j+1:Nat):Int)-1=(j:Int):=zd;rw[e1]at s5;have hne:yf a≠[]:=by intro h;have:=HN1.out;rw[h]at this;simp at this;omega
  have hne2:yf b≠[]:=by intro h;have:=HN2.out;rw[h]at this;simp at this;omega
  obtain⟨g1,rfl,hLL1,hcc1,hm1,hcell1⟩:=(HR1.out.grown HG.out).at hne;obtain⟨g2,rfl,hLL2,hcc2,hm2,hcell2⟩:=(HR2.out.grown HG.out).at hne2;obtain⟨x,hx⟩:∃ u,(yf a)[j]?=some u:=⟨(yf a)[j]' zG,List.getElem?_eq_getElem _⟩;obtain⟨y,hy⟩:∃ u,(yf b)[j]?=some u:=⟨(yf b)[j]' zαs,List.getElem?_eq_getElem _⟩;have hc1:=hcell1 j x hx;have hc2:=hcell2 j y hy;unfold qd at hc1 hc2;have hgx:(yf a).getD j 0=x:=by rw[List.getD_eq_getElem?_getD,hx];rfl
  have hgy:(yf b).getD j 0=y:=by rw[List.getD_eq_getElem?_getD,hy];rfl
  have HGX:=zH hgx;have HGY:=zH hgy;have hjN:(j:Int)<(N1:Int):=zd;have hjN2:j<N1:=zd;have hjN3:(0:Int)<=(j:Int):=zd;clear hx hy hgx hgy hcell1 hcell2 hne hne2 e1 h0 hLL1 hLL2;by_cases hlt:x<y
  ·have hlt1:(x:Int)<(y:Int):=zd;(go_wp2_with fail;repeat ((first|refine cZ ?_|refine cW ?_);go_wp2_with fail));go_quiet (fail);(go_wp2_with fail;repeat ((first|refine cZ ?_|refine cW ?_);go_wp2_with fail));exact yl (.int .i64 (-1)) rfl ze zb ⟨by rw[zi9 (zsv HDV.out (by rw[HGX.out,HGY.out];exact hlt))],ya HG.out (yh wk _ none)⟩
  ·have hlt1:decide ((x:Int)<(y:Int))=false:=zh;have hlt2:decide (x<y)=false:=zh;by_cases hgt:y<x
   ·have hgt1:(y:Int)<(x:Int):=zd;(go_wp2_with fail;repeat ((first|refine cZ ?_|refine cW ?_);go_wp2_with fail));go_quiet (fail);(go_wp2_with fail;repeat ((first|refine cZ ?_|refine cW ?_);go_wp2_with fail));go_quiet (fail);(go_wp2_with fail;repeat ((first|refine cZ ?_|refine cW ?_);go_wp2_with fail));exact yl (.int .i64 1) rfl ze zb ⟨by rw[zja (zsv HDV.out.symm (by rw[HGX.out,HGY.out];exact hgt))],ya HG.out (yh wk _ none)⟩
   ·have hgt1:decide ((y:Int)<(x:Int))=false:=zh;have hgt2:decide (y<x)=false:=zh;have hxy:x=y:=zd;(go_wp2_with fail;repeat ((first|refine cZ ?_|refine cW ?_);go_wp2_with fail));go_quiet (fail);(go_wp2_with fail;repeat ((first|refine cZ ?_|refine cW ?_);go_wp2_with fail));go_quiet (fail);(go_wp2_with fail;repeat ((first|refine cZ ?_|refine cW ?_);go_wp2_with fail));exact wo HRK j (by have:=HKK.out;omega) ⟨j,zd,rfl,zb,zb,zj,ya HG.out (yh wk _ none),zw1 HDV.out (by rw[HGX.out,HGY.out,hxy])⟩
theorem yir (v:Value) (a:Nat) (w:World) (hr:NatV w v a) (hx:(yf a).length<=10000000):
  Calls Tryz.prog 73 #[v] w fun e w'=>e=.returned (.int .i64 (yu a:Nat))/\w=w':=by
 unfold NatV at hr;obtain⟨ad,c,rfl⟩:=hr.len;obtain⟨N,hN⟩:=zX ((yf a).length);simp only[hN]at hr ⊢;rw[hN]at hx;have HR:=zH hr;have HN:=zH hN;clear hr hN;refine ye Tryz.func73 rfl (by rw[Tryz.ntmps73];simp) ?_;intro σ hσ;rw[Tryz.ntmps73];have s0:σ 0=.slice ad N c:=hσ 0 zi;clear hσ;by_cases h0:a=0
 ·have hN0:N=0:=by have:=HN.out;rw[h0,xm]at this;simpa using this.symm
  subst hN0;(go_wp2_with fail;repeat ((first|refine cZ ?_|refine cW ?_);go_wp2_with fail));exact yl (.int .i64 0) rfl ze zb ⟨by rw[h0];rfl,rfl⟩
 ·obtain⟨M,rfl⟩:∃ M,N=M+1:=by
   have h1:=qn h0;have:=HN.out;cases hr:yf a with
   | nil=>exact absurd hr h1
   | cons y s=>rw[hr]at this;exact⟨s.length,by simpa using this.symm⟩
  have hne:yf a≠[]:=qn h0;obtain⟨g,rfl,hLL,hcc,hm,hcell⟩:=HR.out.at hne;obtain⟨t,ht⟩:∃ u,(yf a)[M]?=some u:=⟨(yf a)[M]' zt,List.getElem?_eq_getElem _⟩;have hcj:=hcell M t ht;unfold qd at hcj;have hgt:(yf a).getD M 0=t:=by rw[List.getD_eq_getElem?_getD,ht];rfl
  have hb:=zik h0;rw[HN.out,Nat.add_sub_cancel,hgt]at hb;have htl:t<1073741824:=by rw[<-hgt];exact (wt a).getD M
  have HB:=zH hb;have e3:((M:Int)+1==0)=false:=zf;clear hcell hLL ht hgt hb hne h0;(go_wp2_with fail;repeat ((first|refine cZ ?_|refine cW ?_);go_wp2_with fail));refine xx (fun kk s' w'=>∃ x k:Nat,x<1073741824/\kk=x/\yu t=k+yu x/\k<=100/\s' 4=.int .i64 (x:Int)/\s' 3=.int .i64 ((M*30+k:Nat):Int)/\w=w') t
   ⟨t,0,htl,rfl,zd,zd,zb,zb,rfl⟩ ?_
  clear s0 σ hcj;rintro kk σ wk ⟨x,k,hxl,hkk,hnb,hk,s4,s3,rfl⟩ RK KK HRK hKK;have HKK:=zH hkk;have HNB:=zH hnb;clear hkk hnb;by_cases hx0:x=0
  ·subst hx0;(go_wp2_with fail;repeat ((first|refine cZ ?_|refine cW ?_);go_wp2_with fail));refine yl (.int .i64 ((M*30+k:Nat):Int)) rfl ze zb ⟨?_,rfl⟩;rw[HB.out,HNB.out];rfl
  ·have hx1:0<x:=zd;have hx2:(0:Int)<(x:Int):=zd;have hk30:yu t<=30:=by
    by_cases ht:t=0
    ·rw[ht];simp[yu]
    ·have h1:=vw ht;have h2:2^(yu t-1)<2^30:=Nat.lt_of_le_of_lt h1 htl;have h3:=(Nat.pow_lt_pow_iff_right (a:=2) ze).1 h2;omega
   (go_wp2_with fail;repeat ((first|refine cZ ?_|refine cW ?_);go_wp2_with fail));exact wo HRK (x / 2) (by have:=HKK.out;omega) ⟨x / 2,k+1,zd,rfl,by rw[HNB.out,zlp hx0];omega,by have:=HNB.out;have:=un hx0;omega,zj,zγc,rfl⟩
theorem zoi (n:Nat) (hn:n<9223372036854775808):bits .and .i64 (n:Int) 1=((n%2:Nat):Int):=by
 have h0:(BitVec.ofInt 64 (n:Int)).toNat=n:=zU;have h1:(BitVec.ofInt 64 (1:Int)).toNat=2^1-1:=ze;have key:(BitVec.ofInt 64 (n:Int)&&&BitVec.ofInt 64 1).toNat=n%2^1:=by
  rw[BitVec.toNat_and,h0,h1,Nat.and_two_pow_sub_one_eq_mod]
 show IntKind.i64.wrap ((BitVec.ofInt 64 (n:Int)&&&BitVec.ofInt 64 1).toNat:Nat)=_;rw[key,IntKind.wrap_i64];omega
theorem zu2 (v:Value) (a n:Nat) (w:World) (hr:NatV w v a) (hx:(yf a).length<=10000000) (hn:n<=1000000000):
  Calls Tryz.prog 105 #[v,.int .i64 (n:Int)] w fun e w'=>e=.returned (.int .i64 (a / 2^n%2:Nat))/\w=w':=by
 have H:=zds v (yf a) (n / 30) w hr zd zd;have hl:(yf a).getD (n / 30) 0<1073741824:=(wt a).getD _;have hb:=zw4 a n;generalize (yf a).getD (n / 30) 0=x at H hl hb;have HH:=zH H;have HB:=zH hb;clear H hb hr;refine ye Tryz.func105 rfl (by rw[Tryz.ntmps105];simp) ?_;intro σ hσ;rw[Tryz.ntmps105];have s0:σ 0=v:=hσ 0 zi;have s1:σ 1=.int .i64 (n:Int):=hσ 1 zi;clear hσ;(go_wp2_with fail;repeat ((first|refine cZ ?_|refine cW ?_);go_wp2_with fail));refine HH.out.mono ?_;rintro e w1 ⟨rfl,rfl⟩;(go_wp2_with fail;repeat ((first|refine cZ ?_|refine cW ?_);go_wp2_with fail));refine yl (.int .i64 (a / 2^n%2:Nat)) rfl ze ?_ ⟨rfl,rfl⟩;simp only[yc,if_true];have e:((x:Int) / 2^(n%30))=((x / 2^(n%30):Nat):Int):=by push_cast;rfl
 have hle:x / 2^(n%30)<=x:=Nat.div_le_self _ _;rw[e,zoi _ zd,HB.out]
theorem zbe (v1 v2:Value) (a b:Nat) (w:World) (hr1:NatV w v1 a) (hr2:NatV w v2 b) (hx1:(yf a).length<=1000000) (hx2:(yf b).length<=1000000):
  Calls Tryz.prog 76 #[v1,v2] w fun e w'=>∃ v',e=.returned v'/\NatV w' v' (a+b)/\w.grownBy w' none:=by
 obtain⟨a1,c1,rfl⟩:=hr1.len;obtain⟨a2,c2,rfl⟩:=hr2.len;obtain⟨N1,hN1⟩:=zX ((yf a).length);obtain⟨N2,hN2⟩:=zX ((yf b).length);unfold NatV at hr1 hr2;simp only[hN1,hN2]at hr1 hr2 ⊢;rw[hN1]at hx1;rw[hN2]at hx2;have HN1:=zH hN1;have HN2:=zH hN2;have HR1:=zH hr1;have HR2:=zH hr2;have HO0:=zH (OwnI.fresh0 (T:=w.heap.size) (w:=w) (Nat.le_refl _) 3);have HG0:=zH (World.grownBy_alloc w (.cells #[] 3) none);clear hr1 hr2 hN1 hN2;refine ye Tryz.func76 rfl (by rw[Tryz.ntmps76];simp) ?_;intro σ hσ;rw[Tryz.ntmps76];have s0:σ 0=.slice a1 N1 c1:=hσ 0 zi;have s1:σ 1=.slice a2 N2 c2:=hσ 1 zi;clear hσ;(go_wp2_with fail;repeat ((first|refine cZ ?_|refine cW ?_);go_wp2_with fail));refine xx (fun kk s' w'=>∃ (i c:Nat) (l:List Nat) (v:Value),i<=1000001/\kk=2000000-i/\c<=1/\l.length=i/\Limbs l/\(i<=N1\/i<=N2\/c=0)/\xo l+1073741824^i*c=xo ((yf a).take i)+xo ((yf b).take i)/\s' 0=.slice a1 N1 c1/\s' 1=.slice a2 N2 c2/\s' 5=v/\s' 6=.int .i64 (c:Int)/\s' 7=.int .i64 (i:Int)/\OwnI w.heap.size w' v l/\w.grownBy w' none) 2000000
  ⟨0,0,[],_,zd,rfl,zd,rfl,Limbs.nil,zd,by simp[xo],zb,zb,zb,zb,zb,HO0.out,HG0.out⟩ ?_
 clear s0 s1 σ HO0 HG0;rintro kk σ wk ⟨i,c,l,v,hi,hkk,hc,hll,hlm,hor,hval,s0,s1,s5,s6,s7,hown,hg⟩ RK KK HRK hKK;have HKK:=zH hkk;have HLM:=zH hlm;have HV:=zH hval;have HO:=zH hown;have HG:=zH hg;have HOR:=zH hor;clear hkk hlm hval hown hg hor;have hA1:=zds (.slice a1 N1 c1) (yf a) i wk (HR1.out.grown HG.out) zd zG;have hA2:=zds (.slice a2 N2 c2) (yf b) i wk (HR2.out.grown HG.out) zd zαs;have hl1:=(wt a).getD i;have hl2:=(wt b).getD i;obtain⟨x,hx⟩:=zX ((yf a).getD i 0);obtain⟨y,hy⟩:=zX ((yf b).getD i 0);rw[hx]at hA1 hl1;rw[hy]at hA2 hl2;have HX:=zH hx;have HY:=zH hy;have HA1:=zH hA1;have HA2:=zH hA2;clear hx hy hA1 hA2;by_cases hend:N1<=i/\N2<=i/\c=0
 ·obtain⟨he1,he2,rfl⟩:=hend;have f1:decide ((i:Int)<(N1:Int))=false:=zh;have f2:decide ((i:Int)<(N2:Int))=false:=zh;have f3:decide (i<N1)=false:=zh;have f4:decide (i<N2)=false:=zh;have hT:=yua v l wk (RdI.of_own HO.out) zd HLM.out;have hlv:xo l=a+b:=by
   have h1:=HV.out;rw[xn _ _ (by rw[HN1.out];exact he1),xn _ _ (by rw[HN2.out];exact he2),yfs,yfs]at h1;omega
  rw[hlv]at hT;have HT:=zH hT;clear hT hlv;(go_wp2_with fail;repeat ((first|refine cZ ?_|refine cW ?_);go_wp2_with fail));refine HT.out.mono ?_;rintro e w5 ⟨v5,rfl,hn5,hg5⟩;have HN5:=zH hn5;have HG5:=zH (ya HG.out hg5);clear hn5 hg5;(go_wp2_with fail;repeat ((first|refine cZ ?_|refine cW ?_);go_wp2_with fail));exact yl v5 rfl ze zb ⟨v5,rfl,HN5.out,HG5.out⟩
 ·have hi2:i<=1000000:=by
   have:=HOR.out;omega
  have hE:i+1<=N1\/i+1<=N2\/(x+y+c) / 1073741824=0:=by
   by_cases h1:i<N1
   ·omega
   by_cases h2:i<N2
   ·omega
   have hx0:x=0:=by rw[<-HX.out,List.getD_eq_getElem?_getD,List.getElem?_eq_none zG];rfl
   have hy0:y=0:=by rw[<-HY.out,List.getD_eq_getElem?_getD,List.getElem?_eq_none zαs];rfl
   omega
  have HE:=zH hE;clear hE;by_cases h1:i<N1
  ·have f1:(i:Int)<(N1:Int):=zd;(go_wp2_with fail;repeat ((first|refine cZ ?_|refine cW ?_);go_wp2_with fail));refine HA1.out.mono ?_;rintro e w5 ⟨rfl,rfl⟩;(go_wp2_with fail;repeat ((first|refine cZ ?_|refine cW ?_);go_wp2_with fail));refine HA2.out.mono ?_;rintro e w5 ⟨rfl,rfl⟩;((repeat (go_wp2_with (first | (at_builtin;refine yk rfl _ _ _ _ rfl ze ze ug (HO.out.alloc _) zb _ zb [(x+y+c)%1073741824] (xl Tryz.underlying39 _ ((x+y+c)%1073741824) _ zd) zh ?_;intro v1 w1 ho1 hs1));first|refine cZ ?_|refine cW ?_));go_wp2_with (first | (at_builtin;refine yk rfl _ _ _ _ rfl ze ze ug (HO.out.alloc _) zb _ zb [(x+y+c)%1073741824] (xl Tryz.underlying39 _ ((x+y+c)%1073741824) _ zd) zh ?_;intro v1 w1 ho1 hs1)));exact wo HRK (2000000-(i+1)) (by have:=HKK.out;omega) ⟨i+1,(x+y+c) / 1073741824,l++[(x+y+c)%1073741824],v1,zd,rfl,zd,by simp[hll],HLM.out.append (Limbs.one (Nat.mod_lt _ ze)),HE.out,zf7 hll HV.out (by rw[HX.out,HY.out]),zb,zb,zb,zj,zj,ho1,yxj (Nat.le_refl _) (ya HG.out (World.grownBy_alloc wk _ none)) (HO.out.alloc _) hs1⟩
  have f1:decide ((i:Int)<(N1:Int))=false:=zh;have f1':decide (i<N1)=false:=zh;by_cases h2:i<N2
  ·have f2:(i:Int)<(N2:Int):=zd;(go_wp2_with fail;repeat ((first|refine cZ ?_|refine cW ?_);go_wp2_with fail));refine HA1.out.mono ?_;rintro e w5 ⟨rfl,rfl⟩;(go_wp2_with fail;repeat ((first|refine cZ ?_|refine cW ?_);go_wp2_with fail));refine HA2.out.mono ?_;rintro e w5 ⟨rfl,rfl⟩;((repeat (go_wp2_with (first | (at_builtin;refine yk rfl _ _ _ _ rfl ze ze ug (HO.out.alloc _) zb _ zb [(x+y+c)%1073741824] (xl Tryz.underlying39 _ ((x+y+c)%1073741824) _ zd) zh ?_;intro v1 w1 ho1 hs1));first|refine cZ ?_|refine cW ?_));go_wp2_with (first | (at_builtin;refine yk rfl _ _ _ _ rfl ze ze ug (HO.out.alloc _) zb _ zb [(x+y+c)%1073741824] (xl Tryz.underlying39 _ ((x+y+c)%1073741824) _ zd) zh ?_;intro v1 w1 ho1 hs1)));exact wo HRK (2000000-(i+1)) (by have:=HKK.out;omega) ⟨i+1,(x+y+c) / 1073741824,l++[(x+y+c)%1073741824],v1,zd,rfl,zd,by simp[hll],HLM.out.append (Limbs.one (Nat.mod_lt _ ze)),HE.out,zf7 hll HV.out (by rw[HX.out,HY.out]),zb,zb,zb,zj,zj,ho1,yxj (Nat.le_refl _) (ya HG.out (World.grownBy_alloc wk _ none)) (HO.out.alloc _) hs1⟩
  have f2:decide ((i:Int)<(N2:Int))=false:=zh;have f2':decide (i<N2)=false:=zh;have f3:0<c:=zd;have f4:(0:Int)<(c:Int):=by omega
  ·
   (go_wp2_with fail;repeat ((first|refine cZ ?_|refine cW ?_);go_wp2_with fail));refine HA1.out.mono ?_;rintro e w5 ⟨rfl,rfl⟩;(go_wp2_with fail;repeat ((first|refine cZ ?_|refine cW ?_);go_wp2_with fail));refine HA2.out.mono ?_;rintro e w5 ⟨rfl,rfl⟩;((repeat (go_wp2_with (first | (at_builtin;refine yk rfl _ _ _ _ rfl ze ze ug (HO.out.alloc _) zb _ zb [(x+y+c)%1073741824] (xl Tryz.underlying39 _ ((x+y+c)%1073741824) _ zd) zh ?_;intro v1 w1 ho1 hs1));first|refine cZ ?_|refine cW ?_));go_wp2_with (first | (at_builtin;refine yk rfl _ _ _ _ rfl ze ze ug (HO.out.alloc _) zb _ zb [(x+y+c)%1073741824] (xl Tryz.underlying39 _ ((x+y+c)%1073741824) _ zd) zh ?_;intro v1 w1 ho1 hs1)));exact wo HRK (2000000-(i+1)) (by have:=HKK.out;omega) ⟨i+1,(x+y+c) / 1073741824,l++[(x+y+c)%1073741824],v1,zd,rfl,zd,by simp[hll],HLM.out.append (Limbs.one (Nat.mod_lt _ ze)),HE.out,zf7 hll HV.out (by rw[HX.out,HY.out]),zb,zb,zb,zj,zj,ho1,yxj (Nat.le_refl _) (ya HG.out (World.grownBy_alloc wk _ none)) (HO.out.alloc _) hs1⟩
def kn (inf s b:Nat):Int:=if b%s<inf then 0 else if b%s=inf then 1 else 2
theorem zis {inf s b m:Nat} (hm:b%s=m) (h:m<inf):kn inf s b=0:=by unfold kn;rw[hm,if_pos h]
theorem zir {inf s b m:Nat} (hm:b%s=m) (h:m=inf):kn inf s b=1:=by unfold kn;rw[hm,if_neg zd,if_pos h]
theorem zde {inf s b m:Nat} (hm:b%s=m) (h:inf<m):kn inf s b=2:=by unfold kn;rw[hm,if_neg zd,if_neg zd]
theorem ui (n k:Nat) (hn:n<2^(k+1)) (hk:k<=63):bits .andNot .u64 (n:Int) ((2^k:Nat):Int)=((n%2^k:Nat):Int):=by
 have p:0<2^k:=Nat.pow_pos zd;have hk63:2^k<=2^63:=Nat.pow_le_pow_right zd hk;have hk64:2^(k+1)<=2^64:=Nat.pow_le_pow_right zd zd;have hn64:n<18446744073709551616:=zd;have h0:(BitVec.ofInt 64 (n:Int)).toNat=n:=zU;have h1:(BitVec.ofInt 64 ((2^k:Nat):Int)).toNat=2^k:=zU;have key:(BitVec.ofInt 64 (n:Int)&&&~~~ (BitVec.ofInt 64 ((2^k:Nat):Int))).toNat=n%2^k:=by
  apply Nat.eq_of_testBit_eq;intro i;rw[<-BitVec.getLsbD,BitVec.getLsbD_and,BitVec.getLsbD_not,BitVec.getLsbD,BitVec.getLsbD,h0,h1,Nat.testBit_mod_two_pow,Nat.testBit_two_pow];by_cases hik:i<k
  ·have h2:¬k=i:=zd;have h3:i<64:=zd;simp[hik,h2,h3]
  ·by_cases hie:k=i
   ·simp[hie]
   ·have h4:n.testBit i=false:=Nat.testBit_lt_two_pow (Nat.lt_of_lt_of_le hn (Nat.pow_le_pow_right zd zd));simp[hik,h4]
 have hmod:n%2^k<=n:=Nat.mod_le _ _;show IntKind.u64.wrap ((BitVec.ofInt 64 (n:Int)&&&~~~ (BitVec.ofInt 64 ((2^k:Nat):Int))).toNat:Nat)=_;rw[key,IntKind.wrap_u64];omega
theorem qz (w:World):Calls Tryz.prog 50 #[.int .i64 64] w fun e w'=>e=.returned (.int .i64 1023)/\w=w':=by
 go_enter Tryz.func50,Tryz.ntmps50;go_wp2;go_ret;exact⟨rfl,rfl⟩
theorem zbd (w:World):Calls Tryz.prog 50 #[.int .i64 32] w fun e w'=>e=.returned (.int .i64 127)/\w=w':=by
 go_enter Tryz.func50,Tryz.ntmps50;go_wp2;go_ret;exact⟨rfl,rfl⟩
theorem zba (w:World):Calls Tryz.prog 51 #[.int .i64 64] w fun e w'=>e=.returned (.int .i64 52)/\w=w':=by
 go_enter Tryz.func51,Tryz.ntmps51;go_wp2;go_ret;exact⟨rfl,rfl⟩
theorem zek (w:World):Calls Tryz.prog 51 #[.int .i64 32] w fun e w'=>e=.returned (.int .i64 23)/\w=w':=by
 go_enter Tryz.func51,Tryz.ntmps51;go_wp2;go_ret;exact⟨rfl,rfl⟩
theorem wm (w:World):Calls Tryz.prog 31 #[.int .i64 64] w fun e w'=>e=.returned (.int .u64 9223372036854775808)/\w=w':=by
 go_enter Tryz.func31,Tryz.ntmps31;go_wp2;go_ret;exact⟨rfl,rfl⟩
theorem ur (w:World):Calls Tryz.prog 31 #[.int .i64 32] w fun e w'=>e=.returned (.int .u64 2147483648)/\w=w':=by
 go_enter Tryz.func31,Tryz.ntmps31;go_wp2;go_ret;exact⟨rfl,rfl⟩
theorem wy (w:World):Calls Tryz.prog 32 #[.int .i64 64] w fun e w'=>e=.returned (.int .u64 9218868437227405312)/\w=w':=by
 go_enter Tryz.func32,Tryz.ntmps32;go_wp2_with (first | (go_at_call 50;refine (qz _).mono ?_;rintro e w' ⟨rfl,rfl⟩) | (go_at_call 51;refine (zba _).mono ?_;rintro e w' ⟨rfl,rfl⟩));go_ret;exact⟨rfl,rfl⟩
theorem zdg (w:World):Calls Tryz.prog 32 #[.int .i64 32] w fun e w'=>e=.returned (.int .u64 2139095040)/\w=w':=by
 go_enter Tryz.func32,Tryz.ntmps32;go_wp2_with (first | (go_at_call 50;refine (zbd _).mono ?_;rintro e w' ⟨rfl,rfl⟩) | (go_at_call 51;refine (zek _).mono ?_;rintro e w' ⟨rfl,rfl⟩));go_ret;exact⟨rfl,rfl⟩
theorem za8 (b:Nat) (w:World) (hb:b<4294967296):Calls Tryz.prog 15 #[.int .i64 32,.int .u64 (b:Int)] w fun e w'=>e=.returned (.int .i64 (kn 2139095040 2147483648 b))/\w=w':=by
 have hand:bits .andNot .u64 (b:Int) 2147483648=((b%2147483648:Nat):Int):=ui b 31 zd zd;obtain⟨m,hm⟩:=zX (b%2147483648);rw[hm]at hand;rcases Nat.lt_trichotomy m 2139095040 with h | h | h
 ·have hk:=zis (inf:=2139095040) hm h;have h1:(m:Int)<2139095040:=zd;have HK:=zH hk;clear hk h hm;go_enter Tryz.func15,Tryz.ntmps15;go_wp2_with (first | (go_at_call 31;refine (ur _).mono ?_;rintro e w' ⟨rfl,rfl⟩) | (go_at_call 32;refine (zdg _).mono ?_;rintro e w' ⟨rfl,rfl⟩));go_ret;exact⟨by rw[HK.out];rfl,rfl⟩
 ·have hk:=zir (inf:=2139095040) hm h;have h1:decide ((m:Int)<2139095040)=false:=zh;have h2:((m:Int)==2139095040)=true:=zo;have HK:=zH hk;clear hk h hm;go_enter Tryz.func15,Tryz.ntmps15;go_wp2_with (first | (go_at_call 31;refine (ur _).mono ?_;rintro e w' ⟨rfl,rfl⟩) | (go_at_call 32;refine (zdg _).mono ?_;rintro e w' ⟨rfl,rfl⟩));go_ret;exact⟨by rw[HK.out];rfl,rfl⟩
 ·have hk:=zde (inf:=2139095040) hm h;have h1:decide ((m:Int)<2139095040)=false:=zh;have h2:((m:Int)==2139095040)=false:=zf;have HK:=zH hk;clear hk h hm;go_enter Tryz.func15,Tryz.ntmps15;go_wp2_with (first | (go_at_call 31;refine (ur _).mono ?_;rintro e w' ⟨rfl,rfl⟩) | (go_at_call 32;refine (zdg _).mono ?_;rintro e w' ⟨rfl,rfl⟩));go_ret;exact⟨by rw[HK.out];rfl,rfl⟩
end Go.Proofs.YtnifedmhgncioaaGreatDoor
