/- Lemmas that the claim's top text leans on. No condition of their own. -/
import Derived.Test.YtoacbkokkkpofaaGreatDoorK16
namespace Go.Proofs.YtoacbkokkkpofaaGreatDoor
open Go.RowKit
set_option linter.unusedSimpArgs false
set_option linter.unusedVariables false
set_option maxHeartbeats 16000000
def vi (a b:Nat):Nat:=if b<2*(a%b)\/(2*(a%b)=b/\a / b%2=1) then a / b+1 else a / b
set_option maxRecDepth 10000 in
theorem zh6 (neg:Bool) (vn vd:Value) (a b:Nat) (w:World) (hr1:NatV w vn a) (hr2:NatV w vd b) (hb:0<b) (hx1:(yf a).length<=800000) (hx2:(yf b).length<=800000):
  Calls Tryz.prog 81 #[.agg #[.bool neg,vn,vd]] w fun e w'=>∃ v',e=.returned v'/\NatV w' v' (vi a b)/\w.grownBy w' none:=by
 obtain⟨a1,c1,rfl⟩:=hr1.len;obtain⟨a2,c2,rfl⟩:=hr2.len;obtain⟨N1,hN1⟩:=zX ((yf a).length);obtain⟨N2,hN2⟩:=zX ((yf b).length);simp only[hN1]at hr1 ⊢;simp only[hN2]at hr2 ⊢;have hlq:(yf (a / b)).length<=800000:=Nat.le_trans (qt (Nat.div_le_self _ _)) hx1;have hlr:(yf (a%b)).length<=800000:=Nat.le_trans (qt (Nat.le_of_lt (Nat.mod_lt _ hb))) hx2;have hrb:=Nat.mod_lt a hb;have hl2:(yf (a%b*2^1)).length<=800001:=by
  obtain⟨K,hK⟩:∃ K,K=800000:=⟨_,rfl⟩;rw[<-hK]at hx2;rw[show 800001=K+1 by omega];refine yv ?_;have h1:=wu b;have h2:1073741824^(yf b).length<=1073741824^K:=Nat.pow_le_pow_right ze hx2;generalize 1073741824^(yf b).length=Y at h1 h2;have e:1073741824^(K+1)=1073741824^K*1073741824:=Nat.pow_succ ..;rw[e];generalize 1073741824^K=Z at h2 ⊢;omega
 rw[hN1]at hx1;rw[hN2]at hx2;have HN1:=zH hN1;have HN2:=zH hN2;have HR1:=zH hr1;have HR2:=zH hr2;have HD:=zH (fun (W:World) (h:w.grownBy W none)=>zl3 (.slice a1 N1 c1) (.slice a2 N2 c2) a b W (hr1.grown h) (hr2.grown h) hb (by rw[hN1];omega) (by rw[hN2];omega));have HSH:=zH (fun (V:Value) (W:World) (h:NatV W V (a%b))=>qe V (a%b) 1 W h zd zd);have hcm:=fun (V:Value) (W:World) (h:NatV W V (a%b*2^1)) (hg:w.grownBy W none)=>qy V (.slice a2 N2 c2) (a%b*2^1) b W h (hr2.grown hg) zd (by rw[hN2];omega)
 have HON:=zH (fun W=>ww 1 W ze);have HAD:=zH (fun (V U:Value) (W:World) (h1:NatV W V (a / b)) (h2:NatV W U 1)=>zbe V U (a / b) 1 W h1 h2 zd (by rw[uj ze,zed];simp));have HCM:=zH hcm;have HG0:=zH (World.grownBy_alloc w (.cells #[.bool neg,.slice a1 N1 c1,.slice a2 N2 c2] 37) none);clear hr1 hr2 hN1 hN2 hcm;refine ye Tryz.func81 rfl (by rw[Tryz.ntmps81];simp) ?_;intro σ hσ;rw[Tryz.ntmps81];have s0:σ 0=.agg #[.bool neg,.slice a1 N1 c1,.slice a2 N2 c2]:=hσ 0 zi;clear hσ;(go_wp2_with fail;repeat ((first|refine cZ ?_|refine cW ?_);go_wp2_with fail));refine (HD.out _ HG0.out).mono ?_;rintro e w1 ⟨vq,vr,rfl,hnq,hnr,hg1⟩;have hc0:(w.alloc (.cells #[.bool neg,.slice a1 N1 c1,.slice a2 N2 c2] 37)).cell? ⟨w.heap.size,2,none⟩=some (.slice a2 N2 c2):=(Row.new w [.bool neg,.slice a1 N1 c1,.slice a2 N2 c2] 37).cell 2;have hc1:=vl hg1 hc0;obtain⟨aq,cq,rfl⟩:=hnq.len;obtain⟨M,hM⟩:=zX ((yf (a / b)).length);simp only[hM]at hnq ⊢;have HM:=zH hM;have HNQ:=zH hnq;have HNR:=zH hnr;have HG1:=zH (ya HG0.out hg1);have HC1:=zH hc1;generalize w.heap.size=B0 at *
 clear hnq hnr hg1 hc0 hc1 hM HD HG0;(go_wp2_with fail;repeat ((first|refine cZ ?_|refine cW ?_);go_wp2_with fail));refine (HSH.out _ _ HNR.out).mono ?_;rintro e w2 ⟨v2,rfl,hn2,hg2⟩;have hc2:=vl hg2 HC1.out;have HN2':=zH hn2;have HNQ2:=zH (HNQ.out.grown hg2);have HG2:=zH (ya HG1.out hg2);clear hn2 hg2;(go_wp2_with fail;repeat ((first|refine cZ ?_|refine cW ?_);go_wp2_with fail));have hcmp:=HCM.out _ _ HN2'.out HG2.out;obtain⟨κ,hκ⟩:=zX (ko (a%b*2^1) b);rw[hκ]at hcmp;have HK:=zH hκ;refine hcmp.mono ?_;rintro e w3 ⟨rfl,hg3⟩;have HNQ3:=zH (HNQ2.out.grown hg3);have HG3:=zH (ya HG2.out hg3);clear hκ hcmp hg3 hc2;obtain⟨q,hq⟩:=zX (a / b);obtain⟨r,hr⟩:=zX (a%b);have hrnd:vi a b=if b<2*r\/(2*r=b/\q%2=1) then q+1 else q:=by unfold vi;rw[hq,hr]
 rw[hq]at HNQ3 HAD HM;rw[hr]at HK;have HRND:=zH hrnd;clear hq hr hrnd hlq hlr hrb hl2;by_cases h1:b<2*r
 ·have hk:κ=1:=by rw[<-HK.out];exact zja zd
  subst hk;have hun:undef=Value.tuple #[]:=rfl;(go_wp2_with fail;repeat ((first|refine cZ ?_|refine cW ?_);go_wp2_with fail));refine (HON.out _).mono ?_;rintro e w4 ⟨v4,rfl,hn4,hg4⟩;have HN4:=zH hn4;have HG4:=zH hg4;clear hn4 hg4;(go_wp2_with fail;repeat ((first|refine cZ ?_|refine cW ?_);go_wp2_with fail));refine (HAD.out _ _ _ (HNQ3.out.grown HG4.out) HN4.out).mono ?_;rintro e w5 ⟨v5,rfl,hn5,hg5⟩;have HN5:=zH hn5;have HG5:=zH (ya HG3.out (ya HG4.out hg5));clear hn5 hg5;(go_wp2_with fail;repeat ((first|refine cZ ?_|refine cW ?_);go_wp2_with fail));refine yl v5 rfl ze zb ⟨v5,rfl,?_,HG5.out⟩;rw[HRND.out,if_pos zd];exact HN5.out
 by_cases h2:2*r=b
 ·have hk:κ=0:=by rw[<-HK.out];exact zph zd
  subst hk;by_cases hq0:q=0
  ·have hM0:M=0:=by have:=HM.out;rw[hq0,xm]at this;simpa using this.symm
   subst hM0;(go_wp2_with fail;repeat ((first|refine cZ ?_|refine cW ?_);go_wp2_with fail));refine yl (.slice aq 0 cq) rfl ze zb ⟨_,rfl,?_,HG3.out⟩;rw[HRND.out,if_neg zd];exact HNQ3.out
  ·have hMp:0<M:=by
    have:=qn hq0;have h5:=HM.out;cases hr:yf q with
    | nil=>exact absurd hr this
    | cons y s=>rw[hr]at h5;simp at h5;omega
   have hMp1:(0:Int)<(M:Int):=zd;obtain⟨g,rfl,hLL,hcc,hm,hcell⟩:=RdI.at HNQ3.out (qn hq0);have hx0:(yf q)[0]?=some (q%1073741824):=by rw[uj hq0];rfl
   have hcq:=hcell 0 _ hx0;unfold qd at hcq;obtain⟨x,hx⟩:=zX (q%1073741824);rw[hx]at hcq;have hxq:x%2=q%2:=zd;have hxl:x<1073741824:=zd;have HXQ:=zH hxq;clear hcell hx0 hx hxq hLL;by_cases hodd:x%2=1
   ·have f1:((x:Int)%2==1)=true:=zo;have hqo:q%2=1:=by rw[<-HXQ.out];exact hodd
    (go_wp2_with fail;repeat ((first|refine cZ ?_|refine cW ?_);go_wp2_with fail));refine (HON.out _).mono ?_;rintro e w4 ⟨v4,rfl,hn4,hg4⟩;have HN4:=zH hn4;have HG4:=zH hg4;clear hn4 hg4;(go_wp2_with fail;repeat ((first|refine cZ ?_|refine cW ?_);go_wp2_with fail));refine (HAD.out _ _ _ (HNQ3.out.grown HG4.out) HN4.out).mono ?_;rintro e w5 ⟨v5,rfl,hn5,hg5⟩;have HN5:=zH hn5;have HG5:=zH (ya HG3.out (ya HG4.out hg5));clear hn5 hg5;(go_wp2_with fail;repeat ((first|refine cZ ?_|refine cW ?_);go_wp2_with fail));refine yl v5 rfl ze zb ⟨v5,rfl,?_,HG5.out⟩;rw[HRND.out,if_pos zd];exact HN5.out
   ·have f1:((x:Int)%2==1)=false:=zf;(go_wp2_with fail;repeat ((first|refine cZ ?_|refine cW ?_);go_wp2_with fail));refine yl (.slice (some ⟨g,0,none⟩) M cq) rfl ze zb ⟨_,rfl,?_,HG3.out⟩;rw[HRND.out,if_neg (by have:=HXQ.out;omega)];exact HNQ3.out
 ·have hk:κ=-1:=by rw[<-HK.out];exact zi9 zd
  subst hk;(go_wp2_with fail;repeat ((first|refine cZ ?_|refine cW ?_);go_wp2_with fail));refine yl (.slice aq M cq) rfl ze zb ⟨_,rfl,?_,HG3.out⟩;rw[HRND.out,if_neg zd];exact HNQ3.out
end Go.Proofs.YtoacbkokkkpofaaGreatDoor
