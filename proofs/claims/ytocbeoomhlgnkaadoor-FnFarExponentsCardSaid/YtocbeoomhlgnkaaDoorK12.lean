/- Lemmas that the claim's top text leans on. No condition of their own. -/
import Derived.Test.YtocbeoomhlgnkaaDoorRows
import Derived.Test.YtocbeoomhlgnkaaDoorK11
import Derived.Deep.RegionHeld3
import Derived.WalkLawsBesides
import Derived.BigQuiet
import Derived.StillTailTactics
import Derived.IntWalk
namespace Go.Proofs.YtocbeoomhlgnkaaDoor
open Go.RowKit
set_option linter.unusedSimpArgs false
set_option linter.unusedVariables false
set_option maxHeartbeats 16000000
theorem zoe:(Tryd.prog.info? 3).map (fun i=>(i.zero,i.size,i.bytes))=some (some (.int .i64 0),1,8):=by kernel_rfl
theorem ug:zu5 Tryd.prog 39:=by
 obtain⟨i0,hi,hz0,hz1,hz2⟩:=info_parts zoe;exact⟨3,i0,_,Tryd.underlying39,hi,hz0,hz1,rfl,hz2⟩
theorem ya {w w1 w2:World} (h:w.grownBy w1 none) (k:w1.grownBy w2 none):w.grownBy w2 none:=yx h k (fun j e=>zL)
theorem zgi (v:Value) (xs:List Nat) (w:World) (hr:RdI w v xs) (hx:xs.length<=10000000):
  Calls Tryd.prog 18 #[v] w fun e w'=>∃ v',e=.returned v'/\OwnI w.heap.size w' v' (xs.take (zcn xs xs.length))/\w.grownBy w' none:=by
 have HO0:=zH (OwnI.fresh0 (T:=w.heap.size) (w:=w) (Nat.le_refl _) 3);have HG0:=zH (World.grownBy_alloc w (.cells #[] 3) none);rcases hr with⟨rfl,rfl⟩ | ⟨g,c,rfl,hc,hm,hcell⟩
 ·have HS:=zH (Src.ofNil (P:=Tryd.prog) (size:=1) (w.alloc (.cells #[] 3)) Tryd.underlying39 0);refine ye Tryd.func18 rfl (by rw[Tryd.ntmps18];simp) ?_;intro σ hσ;rw[Tryd.ntmps18];have s0:σ 0=.slice none 0 0:=hσ 0 zi;clear hσ;(go_wp2_with fail;repeat ((first|refine cZ ?_|refine cW ?_);go_wp2_with fail));refine xb (fun kk s' w'=>s' 0=.slice none 0 0/\s' 3=.int .i64 0/\w=w') 0 ⟨zb,zb,rfl⟩ ?_;clear s0 σ;rintro kk σ wk ⟨s0,s3,rfl⟩ RK KK HRK hKK;(go_wp2_with (first | (at_builtin;refine yk rfl _ _ _ _ rfl ze ze ug HO0.out zb _ zb [] HS.out zi ?_;intro v1 w1 ho1 hs1));repeat ((first|refine cZ ?_|refine cW ?_);go_wp2_with (first | (at_builtin;refine yk rfl _ _ _ _ rfl ze ze ug HO0.out zb _ zb [] HS.out zi ?_;intro v1 w1 ho1 hs1))));refine yl v1 rfl ze zb ⟨v1,rfl,?_,xt (Nat.le_refl _) HG0.out HO0.out hs1⟩;exact ho1
 ·obtain⟨N,hN⟩:=zX xs.length;rw[hN]at hx hc;simp only[hN];have HC:=zH hcell;have HN:=zH hN;clear hcell hN;refine ye Tryd.func18 rfl (by rw[Tryd.ntmps18];simp) ?_;intro σ hσ;rw[Tryd.ntmps18];have s0:σ 0=.slice (some ⟨g,0,none⟩) N c:=hσ 0 zi;clear hσ;(go_wp2_with fail;repeat ((first|refine cZ ?_|refine cW ?_);go_wp2_with fail));refine xb (fun kk s' w'=>∃ i:Nat,i<=N/\kk=i/\s' 0=.slice (some ⟨g,0,none⟩) N c/\s' 3=.int .i64 (i:Int)/\w=w'/\zcn xs i=zcn xs N) N
   ⟨N,Nat.le_refl _,rfl,zb,zb,rfl,rfl⟩ ?_
  clear s0 σ;rintro kk σ wk ⟨i,hi,hkk,s0,s3,rfl,htr⟩ RK KK HRK hKK;have HKK:=zH hkk;clear hkk;have fin:∀ (htk:zcn xs N=i) (v1:Value) (w1:World) (ho1:OwnI w.heap.size w1 v1 ([]++xs.take i)),OwnI w.heap.size w1 v1 (xs.take (zcn xs N)):=by
   intro htk v1 w1 ho1;rw[htk];exact ho1
  have FIN:=zH fin;clear fin;have HSRC:=zH (RdI.head (P:=Tryd.prog) (w:=w.alloc (.cells #[] 3)) Tryd.underlying39 (fun j u hu=>vl HG0.out (HC.out j u hu)) i c (by rw[HN.out];exact hi));have hlt:(xs.take i).length<=10000000:=zN;have hiN:(i:Int)<=(N:Int):=zd;have hic:(i:Int)<=(c:Int):=zd;have hge:(0:Int)<=(i:Int):=zd;by_cases h0:i=0
  ·subst h0;(go_wp2_with (first | (at_builtin;refine yk rfl _ _ _ _ rfl ze ze ug HO0.out zb _ zb (xs.take 0) HSRC.out zi ?_;intro v1 w1 ho1 hs1));repeat ((first|refine cZ ?_|refine cW ?_);go_wp2_with (first | (at_builtin;refine yk rfl _ _ _ _ rfl ze ze ug HO0.out zb _ zb (xs.take 0) HSRC.out zi ?_;intro v1 w1 ho1 hs1))));exact yl v1 rfl ze zb ⟨v1,rfl,FIN.out (by rw[<-htr];rfl) v1 w1 ho1,xt (Nat.le_refl _) HG0.out HO0.out hs1⟩
  ·obtain⟨j,rfl⟩:∃ j,i=j+1:=⟨i-1,zd⟩;obtain⟨u,hu⟩:∃ u,xs[j]?=some u:=⟨xs[j]' zt,List.getElem?_eq_getElem _⟩;have hcj:=HC.out j u hu;have hgd:xs.getD j 0=u:=by rw[List.getD_eq_getElem?_getD,hu];rfl
   unfold qd at hcj;have e1:((j+1:Nat):Int)-1=(j:Int):=zd;have h1:(0:Int)<((j+1:Nat):Int):=zd;have h2:(j:Int)<(N:Int):=zd;have HGD:=zH hgd;have HTR:=zH htr;clear hu hgd htr h0;by_cases hu0:u=0
   ·subst hu0;(go_wp2_with fail;repeat ((first|refine cZ ?_|refine cW ?_);go_wp2_with fail));exact wo HRK j (by have:=HKK.out;omega) ⟨j,zd,rfl,zb,zj,rfl,by rw[<-HTR.out,zcn,if_pos HGD.out]⟩
   ·have hu1:((u:Int)==0)=false:=zf;((repeat (go_wp2_with (first | (at_builtin;refine yk rfl _ _ _ _ rfl ze ze ug HO0.out zb _ zb (xs.take (j+1)) HSRC.out zh ?_;intro v1 w1 ho1 hs1));first|refine cZ ?_|refine cW ?_));go_wp2_with (first | (at_builtin;refine yk rfl _ _ _ _ rfl ze ze ug HO0.out zb _ zb (xs.take (j+1)) HSRC.out zh ?_;intro v1 w1 ho1 hs1)));exact yl v1 rfl ze zb ⟨v1,rfl,FIN.out (by rw[<-HTR.out,zcn,if_neg (by rw[HGD.out];exact hu0)]) v1 w1 ho1,xt (Nat.le_refl _) HG0.out HO0.out hs1⟩
def NatV (w:World) (v:Value) (n:Nat):Prop:=RdI w v (yf n)
theorem xl {P:Program} {w:World} {tx e':TypeId} (hk:P.underlying tx=some (.slice e')) (z:Int) (x:Nat) (E:TypeId) (h:z=(x:Int)):
  Src P 1 tx (.slice (some ⟨w.heap.size,0,none⟩) 1 1) [x].length ([x].map qd) (w.alloc (.cells #[.int .i64 z] E)):=by
 subst h;exact ztn hk x E
theorem ww (n:Nat) (w:World) (hn:n<18446744073709551616):
  Calls Tryd.prog 14 #[.int .u64 (n:Int)] w fun e w'=>∃ v',e=.returned v'/\NatV w' v' n/\w.grownBy w' none:=by
 have HO0:=zH (OwnI.fresh0 (T:=w.heap.size) (w:=w) (Nat.le_refl _) 3);have HG0:=zH (World.grownBy_alloc w (.cells #[] 3) none);refine ye Tryd.func14 rfl (by rw[Tryd.ntmps14];simp) ?_;intro σ hσ;rw[Tryd.ntmps14];have s0:σ 0=.int .u64 (n:Int):=hσ 0 zi;clear hσ;(go_wp2_with fail;repeat ((first|refine cZ ?_|refine cW ?_);go_wp2_with fail));refine xb (fun kk s' w'=>∃ (m:Nat) (l:List Nat) (v:Value),m<18446744073709551616/\kk=m/\l++yf m=yf n/\s' 0=.int .u64 (m:Int)/\s' 3=v/\OwnI w.heap.size w' v l/\w.grownBy w' none) n
  ⟨n,[],_,hn,rfl,zi,zb,zb,HO0.out,HG0.out⟩ ?_
 clear s0 σ HO0 HG0;rintro kk σ wk ⟨m,l,v,hm,hkk,hl,s0,s3,hown,hg⟩ RK KK HRK hKK;have HKK:=zH hkk;have HL:=zH hl;have HO:=zH hown;have HG:=zH hg;have hl1:l.length<=3:=by
  have h1:=congrArg List.length hl;have h2:=yv (n:=n) (k:=3) zd;rw[List.length_append]at h1;omega
 clear hkk hl hown hg;by_cases h0:m=0
 ·subst h0;(go_wp2_with fail;repeat ((first|refine cZ ?_|refine cW ?_);go_wp2_with fail));refine yl v rfl ze zb ⟨v,rfl,?_,HG.out⟩;have e:=HL.out;rw[xm,List.append_nil]at e;unfold NatV;rw[<-e];exact RdI.of_own HO.out
 ·have h1:(0:Int)<(m:Int):=zd;have h2:0<m:=zd;((repeat (go_wp2_with (first | (at_builtin;refine yk rfl _ _ _ _ rfl ze ze ug (HO.out.alloc _) zb _ zb [m%1073741824] (xl Tryd.underlying39 _ (m%1073741824) _ zd) zh ?_;intro v1 w1 ho1 hs1));first|refine cZ ?_|refine cW ?_));go_wp2_with (first | (at_builtin;refine yk rfl _ _ _ _ rfl ze ze ug (HO.out.alloc _) zb _ zb [m%1073741824] (xl Tryd.underlying39 _ (m%1073741824) _ zd) zh ?_;intro v1 w1 ho1 hs1)));refine wo HRK (m / 1073741824) (by have:=HKK.out;omega) ⟨m / 1073741824,l++[m%1073741824],v1,zd,rfl,?_,zb,zb,ho1,xt (Nat.le_refl _) (ya HG.out (World.grownBy_alloc wk _ none)) (HO.out.alloc _) hs1⟩;rw[List.append_assoc,<-HL.out,uj h0];rfl
end Go.Proofs.YtocbeoomhlgnkaaDoor
