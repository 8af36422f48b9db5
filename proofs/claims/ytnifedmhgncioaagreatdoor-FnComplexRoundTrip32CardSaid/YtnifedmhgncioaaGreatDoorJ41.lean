/- Lemmas that the claim's top text leans on. No condition of their own. -/
import Derived.Test.YtnifedmhgncioaaGreatDoorJ17
import Derived.Laws.IdiomCopy
import Derived.IntWalk
namespace Go.Proofs.YtnifedmhgncioaaGreatDoor
open Go.RowKit
set_option linter.unusedSimpArgs false
set_option linter.unusedVariables false
set_option maxHeartbeats 16000000
def yn0 (I:List UInt8):List UInt8:=if I.headD 0=43\/I.headD 0=45 then I else 43::I
def ylc (R I:List UInt8):List UInt8:=[40]++R++yn0 I++[105,41]
theorem OwnB.cell {T:Nat} {w:World} {g c L:Nat} {xs:List UInt8} (h:OwnB T w (.slice (some ⟨g,0,none⟩) L c) xs) (i:Nat) (u:UInt8) (hi:xs[i]?=some u):w.cell? ⟨g,i,none⟩=some (zkm u):=by
 obtain⟨⟨g',rest,hv,hr,hm⟩,_⟩:=h;simp only[Value.slice.injEq,Option.some.injEq,Addr.mk.injEq]at hv;obtain⟨⟨rfl,_⟩,_⟩:=hv;have hl:i<xs.length:=by
  rcases Nat.lt_or_ge i xs.length with h | h
  ·exact h
  ·rw[List.getElem?_eq_none h]at hi;cases hi
 rw[hr.cell,List.getElem?_append_left (by rw[List.length_map];exact hl),List.getElem?_map,hi];rfl
theorem OwnB.frozen {T:Nat} {w:World} {g c L:Nat} {xs:List UInt8} (h:OwnB T w (.slice (some ⟨g,0,none⟩) L c) xs) (i:Nat):w.frozen? ⟨g,i,none⟩=false:=by
 obtain⟨⟨g',rest,hv,hr,hm⟩,_⟩:=h;simp only[Value.slice.injEq,Option.some.injEq,Addr.mk.injEq]at hv;obtain⟨⟨rfl,_⟩,_⟩:=hv;exact hr.frozen i
theorem OwnB.moved {T:Nat} {w:World} {g c L:Nat} {A I:List UInt8} {z:UInt8} (h:OwnB T w (.slice (some ⟨g,0,none⟩) L c) (A++I++[z])):
  OwnB T (w.setCells g (A.length+1) (I.map zkm)) (.slice (some ⟨g,0,none⟩) L c) (A++((A++I++[z]).getD A.length 0::I))/\Stp w (.slice (some ⟨g,0,none⟩) L c) (w.setCells g (A.length+1) (I.map zkm)) (.slice (some ⟨g,0,none⟩) L c):=by
 obtain⟨⟨g',rest,hv,hr,hm⟩,hT⟩:=h;simp only[Value.slice.injEq,Option.some.injEq,Addr.mk.injEq]at hv;obtain⟨⟨rfl,_⟩,hL,hc⟩:=hv;constructor
 ·refine⟨⟨g,rest,?_,?_,?_⟩,hT⟩
  ·rw[hL,hc];simp
  ·obtain⟨u,us,hu⟩:∃ u us,I++[z]=u::us:=by
    cases I with
    | nil=>exact⟨z,[],rfl⟩
    | cons u us=>exact⟨u,us++[z],rfl⟩
   have hul:us.length=I.length:=by
    have:=congrArg List.length hu;simp at this;omega
   have e1:(A++I++[z]).getD A.length 0=u:=by
    rw[List.append_assoc,hu];simp[List.getD]
   rw[e1];have e2:(A++I++[z]).map zkm++rest=((A++[u]).map zkm)++(us.map zkm++rest):=by
    rw[List.append_assoc,hu];simp
   rw[e2]at hr;have h3:=hr.setCells (I.map zkm) (by simp[hul]);have e3:((A++[u]).map zkm).length=A.length+1:=zi;rw[e3]at h3;have e4:(A++u::I).map zkm++rest=(A++[u]).map zkm++(I.map zkm++rest):=zi;rw[e4];exact h3
  ·simp at hm ⊢;omega
 ·refine⟨⟨World.os_setCells ..,jz g _ _ w,World.output_setCells ..,by rw[zaa g];exact Nat.le_refl _,fun k hk hne=>World.heap_setCells_other w g _ _ hk (fun e=>hne (by simp[Value.ownBlock,e]))⟩,fun k hk _=>hk⟩
theorem OwnB.laid {T:Nat} {w:World} {g c L:Nat} {A B:List UInt8} {u:UInt8} (v:UInt8) (h:OwnB T w (.slice (some ⟨g,0,none⟩) L c) (A++(u::B))):
  OwnB T (w.setCell ⟨g,A.length,none⟩ (zkm v)) (.slice (some ⟨g,0,none⟩) L c) (A++(v::B))/\Stp w (.slice (some ⟨g,0,none⟩) L c) (w.setCell ⟨g,A.length,none⟩ (zkm v)) (.slice (some ⟨g,0,none⟩) L c):=by
 obtain⟨⟨g',rest,hv,hr,hm⟩,hT⟩:=h;simp only[Value.slice.injEq,Option.some.injEq,Addr.mk.injEq]at hv;obtain⟨⟨rfl,_⟩,hL,hc⟩:=hv;constructor
 ·refine⟨⟨g,rest,?_,?_,?_⟩,hT⟩
  ·rw[hL,hc];simp
  ·have e2:(A++u::B).map zkm++rest=(A.map zkm)++([zkm u]++(B.map zkm++rest)):=zi;rw[e2]at hr;have h3:=hr.setCells [zkm v] zi;have e3:(A.map zkm).length=A.length:=zi;rw[e3]at h3;have e4:(A++v::B).map zkm++rest=A.map zkm++([zkm v]++(B.map zkm++rest)):=zi;rw[e4];exact h3
  ·simp at hm ⊢;omega
 ·have hst:Stp w (.slice (some ⟨g,0,none⟩) L c) (w.setCells g A.length [zkm v]) (.slice (some ⟨g,0,none⟩) L c):=
   ⟨⟨World.os_setCells ..,jz g _ _ w,World.output_setCells ..,by rw[zaa g];exact Nat.le_refl _,fun k hk hne=>World.heap_setCells_other w g _ _ hk (fun e=>hne (by simp[Value.ownBlock,e]))⟩,fun k hk _=>hk⟩
  exact hst
set_option maxRecDepth 100000 in
theorem yo5 {T:Nat} {w:World} {g c L:Nat} {A I:List UInt8} {z:UInt8} (h:OwnB T w (.slice (some ⟨g,0,none⟩) L c) (A++I++[z])) (ty:TypeId) (c1 c2 n1 n2:Nat) (hn1:n1=I.length) (hn2:n2=I.length+1):
  (Builtin.copy_ #[83,83] ty #[.slice (some ⟨g,A.length+1,none⟩) n1 c1,.slice (some ⟨g,A.length,none⟩) n2 c2]).run Tryz.prog w=.ok (goInt I.length) (w.setCells g (A.length+1) (I.map zkm)):=by
 obtain⟨⟨g',rest,hv,hr,hm⟩,hT⟩:=h;simp only[Value.slice.injEq,Option.some.injEq,Addr.mk.injEq]at hv;obtain⟨⟨rfl,_⟩,hL,hc⟩:=hv;obtain⟨i,hi,hz0,hz1,hz2⟩:=info_parts zr3;have hh:=run_copy_cells (P:=Tryz.prog) w 83 83 ty 5 g (A.length+1) n1 c1 ⟨g,A.length,none⟩ n2 c2 (I.map zkm) Tryz.underlying83 (by rw[hi];simp[hz1]) (by rw[List.length_map,hn1,hn2];simp) ?_ ?_ ?_ ?_
 ·rw[List.length_map]at hh;exact hh
 ·intro j v hj;have e:((⟨g,A.length,none⟩:Addr).add j)=⟨g,A.length+j,none⟩:=by
   unfold Addr.add;split
   ·subst_vars;rfl
   ·rfl
  have hjl:j<I.length:=by
   rcases Nat.lt_or_ge j (I.map zkm).length with h | h
   ·rwa [List.length_map]at h
   ·rw[List.getElem?_eq_none h]at hj;cases hj
  rw[e,hr.cell,List.getElem?_append_left zh,List.append_assoc,List.map_append,List.getElem?_append_right zi,List.map_append,List.getElem?_append_left zh,List.length_map,Nat.add_sub_cancel_left,hj]
 ·intro j hj;rw[List.length_map]at hj;rw[hr.cell,List.getElem?_eq_getElem zh];rfl
 ·intro j hj;exact hr.frozen _
 ·intro v hv;obtain⟨b,_,rfl⟩:=List.mem_map.1 hv;rfl
theorem yrf:Tryz.prog.arrayLen 111=64:=by simp[Program.arrayLen,Program.elem,Tryz.underlying111]
theorem yrz (g n:Nat) (W:World) (hn:n<=64):(Instr.sliceAt 111 (.pointer (some ⟨g,0,none⟩)) none (some (.int .i64 (n:Int))) none).run Tryz.prog W=.ok (.slice (some ⟨g,0,none⟩) n 64) W:=by
 rw[run_sliceAt_array_h W 111 ⟨g,0,none⟩ (by simp[Program.arrayLen,Program.elem,Tryz.underlying111]) .i64 (n:Int) zd (by rw[yrf];omega)];go_simp
theorem OwnB.fresh {T:Nat} {w:World} (hT:T<=w.heap.size) (xs:List Value) (e:TypeId) (n:Nat) (hn:xs.length=n) (h:n<=1000):OwnB T (w.alloc (.cells xs.toArray e)) (.slice (some ⟨w.heap.size,0,none⟩) 0 n) []:=by
 refine⟨⟨w.heap.size,xs,?_,Row.new w xs e,?_⟩,fun k hk=>?_⟩
 ·simp[hn]
 ·simp[maxLen];omega
 ·simp[Value.ownBlock]at hk;omega
theorem yot (ds:List UInt8) (dp:Int):ylj ds dp≠[]:=by
 unfold ylj;split
 ·intro h;have:=congrArg List.length h;simp only[List.length_append,List.length_take,List.length_replicate,List.length_nil]at this;omega
 ·simp
theorem yq8 (neg:Bool) (ds:List UInt8) (dp pr f:Int):ymh neg ds dp pr f≠[]:=by
 unfold ymh;split
 ·unfold ymm;simp
 ·split
  ·unfold yn1;have:=yot ds dp;simp[this]
  ·simp
theorem yq1 (eb mb:Nat) (bias:Int) (Z:Nat) (ME:Int) (b:Nat) (f prec:Int):yj5 eb mb bias Z ME b f prec≠[]:=by
 unfold yj5;split
 ·(repeat' split) <;> simp
 ·split
  ·unfold yob;simp
  ·split
   ·unfold xL;simp
   ·unfold ylb;exact yq8 _ _ _ _ _
theorem yxn (b:Nat) (f prec:Int):wi b f prec≠[]:=yq1 _ _ _ _ _ _ _ _
set_option maxRecDepth 100000 in
theorem yxl (T re im:Nat) (dst:Value) (prec f:Int) (xs R I:List UInt8) (w:World) (he:Env T w) (hown:OwnB T w dst xs) (hx:xs.length<=1000)
  (hR:∀ (d:Value) (ys:List UInt8) (W:World),Env T W->OwnB T W d ys->ys.length<=140737488900000->Calls Tryz.prog 103 #[d,.float .f64 re,.int .u8 f,.int .i64 prec,.int .i64 32] W fun r w'=>∃ v',r=.returned v'/\OwnB T w' v' (ys++R)/\Stp W d w' v')
  (hI:∀ (d:Value) (ys:List UInt8) (W:World),Env T W->OwnB T W d ys->ys.length<=140737488900000->Calls Tryz.prog 103 #[d,.float .f64 im,.int .u8 f,.int .i64 prec,.int .i64 32] W fun r w'=>∃ v',r=.returned v'/\OwnB T w' v' (ys++I)/\Stp W d w' v')
  (hRl:R.length<=4000000) (hIl:I.length<=4000000) (hIn:I≠[]):
  Calls Tryz.prog 72 #[dst,.complex .f64 re im,.int .u8 f,.int .i64 prec,.int .i64 64] w fun r w'=>
   ∃ v',r=.returned v'/\OwnB T w' v' (xs++ylc R I)/\Stp w dst w' v':=by
 have hap:=Ap.start hown he (Or.inl rfl:Dig w dst dst []);have HR:=zH hR;have HI:=zH hI;clear hR hI he hown;refine ye Tryz.func72 rfl (by rw[Tryz.ntmps72];simp) ?_;intro σ hσ;rw[Tryz.ntmps72];have s0:σ 0=dst:=hσ 0 zi;have s1:σ 1=.complex .f64 re im:=hσ 1 zi;have s2:σ 2=.int .u8 f:=hσ 2 zi;have s3:σ 3=.int .i64 prec:=hσ 3 zi;have s4:σ 4=.int .i64 64:=hσ 4 zi;clear hσ;(go_wp2_with (first | (at_builtin;refine zch rfl _ _ _ _ rfl ze ze zsw (hap.own.alloc _) zb _ zb [40] (zmx Tryz.underlying83 [40] _) zD ?_;intro v w' ho1 hs1;replace hap:=hap.step ho1 hs1;clear ho1 hs1));repeat ((first|refine cZ ?_|refine cW ?_);go_wp2_with (first | (at_builtin;refine zch rfl _ _ _ _ rfl ze ze zsw (hap.own.alloc _) zb _ zb [40] (zmx Tryz.underlying83 [40] _) zD ?_;intro v w' ho1 hs1;replace hap:=hap.step ho1 hs1;clear ho1 hs1))));refine (HR.out _ _ _ hap.env hap.own zh).mono ?_;rintro e w2 ⟨v2,rfl,ho2,hs2⟩;replace hap:=hap.step0 ho2 hs2;clear ho2 hs2;obtain⟨A,hA⟩:=zX (xs++[40]++R);rw[hA]at hap;have hAl:A.length<=5000000:=by rw[<-hA];simp;omega
 obtain⟨g2,c2,rfl,hg2,_,hc2,hc2'⟩:=hap.own.block;have HA:=zH hA;clear hA;(go_wp2_with fail;repeat ((first|refine cZ ?_|refine cW ?_);go_wp2_with fail));refine (HI.out _ _ _ hap.env hap.own zd).mono ?_;rintro e w3 ⟨v3,rfl,ho3,hs3⟩;replace hap:=hap.step0 ho3 hs3;clear ho3 hs3;obtain⟨i0,It,rfl⟩:∃ u us,I=u::us:=by
  cases I with
  | nil=>exact absurd rfl hIn
  | cons u us=>exact⟨u,us,rfl⟩
 obtain⟨g3,c3,rfl,hg3,_,hc3,hc3'⟩:=hap.own.block;obtain⟨N,hN⟩:=zX A.length;obtain⟨L,hL⟩:=zX ((A++i0::It).length);have hNL:N+(It.length+1)=L:=by rw[<-hN,<-hL];simp
 have hcell:=hap.own.cell A.length i0 zi;have hAl2:=hAl;rw[hN]at hcell hAl;rw[hL]at hap hc3;simp only[hN,hL];have hi0:(N:Int)<(L:Int):=zd;have hi0':N<L:=zd;have hge:(0:Int)<=(N:Int):=zd;unfold zkm at hcell;have HNL:=zH hNL;have HN:=zH hN;have HL:=zH hL;clear hNL hN hL hIn;by_cases h43:i0=43
 ·subst h43;((repeat (go_wp2_with (first | (at_builtin;refine zhu rfl (.tmp 66) (.const (.string ⟨#[105,41]⟩)) _ _ rfl zsw hap.own ((jd _ _ _ 66 ze).trans zb) _ rfl [105,41] (ykh Tryz.underlying9 _ [105,41] rfl) zD ?_;intro v5 w5 ho5 hs5;replace hap:=hap.step0 ho5 hs5;clear ho5 hs5));first|refine cZ ?_|refine cW ?_));go_wp2_with (first | (at_builtin;refine zhu rfl (.tmp 66) (.const (.string ⟨#[105,41]⟩)) _ _ rfl zsw hap.own ((jd _ _ _ 66 ze).trans zb) _ rfl [105,41] (ykh Tryz.underlying9 _ [105,41] rfl) zD ?_;intro v5 w5 ho5 hs5;replace hap:=hap.step0 ho5 hs5;clear ho5 hs5)));refine yl v5 rfl ze zb ⟨v5,rfl,?_,hap.stp⟩;have e:xs++ylc R (43::It)=A++43::It++[105,41]:=by rw[<-HA.out];simp[ylc,yn0]
  rw[e];exact hap.own
 by_cases h45:i0=45
 ·subst h45;((repeat (go_wp2_with (first | (at_builtin;refine zhu rfl (.tmp 66) (.const (.string ⟨#[105,41]⟩)) _ _ rfl zsw hap.own ((jd _ _ _ 66 ze).trans zb) _ rfl [105,41] (ykh Tryz.underlying9 _ [105,41] rfl) zD ?_;intro v5 w5 ho5 hs5;replace hap:=hap.step0 ho5 hs5;clear ho5 hs5));first|refine cZ ?_|refine cW ?_));go_wp2_with (first | (at_builtin;refine zhu rfl (.tmp 66) (.const (.string ⟨#[105,41]⟩)) _ _ rfl zsw hap.own ((jd _ _ _ 66 ze).trans zb) _ rfl [105,41] (ykh Tryz.underlying9 _ [105,41] rfl) zD ?_;intro v5 w5 ho5 hs5;replace hap:=hap.step0 ho5 hs5;clear ho5 hs5)));refine yl v5 rfl ze zb ⟨v5,rfl,?_,hap.stp⟩;have e:xs++ylc R (45::It)=A++45::It++[105,41]:=by rw[<-HA.out];simp[ylc,yn0]
  rw[e];exact hap.own
 have h43':((i0.toNat:Int) != 43)=true:=by
  rw[bne_iff_ne];intro h;apply h43;apply UInt8.toNat_inj.1;exact Int.ofNat_inj.1 h
 have h45':((i0.toNat:Int) != 45)=true:=by
  rw[bne_iff_ne];intro h;apply h45;apply UInt8.toNat_inj.1;exact Int.ofNat_inj.1 h
 (go_wp2_with (first | (at_builtin;refine zch rfl _ _ _ _ rfl ze ze zsw (hap.own.alloc _) zb _ zb [0] (zmx Tryz.underlying83 [0] _) zD ?_;intro v w' ho1 hs1;replace hap:=hap.step ho1 hs1;clear ho1 hs1));repeat ((first|refine cZ ?_|refine cW ?_);go_wp2_with (first | (at_builtin;refine zch rfl _ _ _ _ rfl ze ze zsw (hap.own.alloc _) zb _ zb [0] (zmx Tryz.underlying83 [0] _) zD ?_;intro v w' ho1 hs1;replace hap:=hap.step ho1 hs1;clear ho1 hs1))));obtain⟨g4,c4,rfl,hg4,_,hc4,hc4'⟩:=hap.own.block;obtain⟨M,hM⟩:=zX ((A++i0::It++[0]).length);have hML:M=N+(It.length+2):=by
  have h1:=HNL.out;have h2:=HL.out;rw[<-hM,List.length_append,h2];simp;omega
 simp only[hM];rw[hM]at hc4 hap;have hm1:(N:Int)+1<=(M:Int):=zd;have hm2:(N:Int)<=(M:Int):=zd;have hm3:(M:Int)<=(c4:Int):=zd;have hm4:(0:Int)<=(N:Int)+1:=zd;have HML:=zH hML;have HM:=zH hM;have hw1:IntKind.i64.wrap ((N:Int)+1)=(N:Int)+1:=IntWalk.i64_in _ zd;have hw2:((N:Int)+1).toNat=N+1:=zd;have hq1:¬(c4=N+1):=zd;have hq2:¬(N+1=c4):=zd;have hq3:¬(c4=N):=zd;have hq4:¬(N=c4):=zd;have hq5:N+1<c4:=zd;have hq6:N<c4:=zd;have hown4:OwnB T w'.drew (.slice (some ⟨g4,0,none⟩) M c4) (A++i0::It++[0]):=hap.own.drewN 1;have hcp:=yo5 hown4 3 (c4-(N+1)) (c4-N) (M-(N+1)) (M-N) zh zh;have hmv:=OwnB.moved hown4;rw[HN.out]at hcp hmv;obtain⟨W5,hW5⟩:=zX (w'.drew.setCells g4 (N+1) ((i0::It).map zkm));rw[hW5]at hcp hmv;have hgd:(A++i0::It++[0]).getD N 0=i0:=by
  rw[<-HN.out,List.append_assoc];simp[List.getD]
 rw[hgd]at hmv;have hc5:=OwnB.cell hmv.1 A.length i0 zi;have hf5:=OwnB.frozen hmv.1 A.length;have hld:=OwnB.laid 43 hmv.1;rw[HN.out]at hc5 hf5 hld;have e43:zkm 43=.int .u8 43:=rfl;rw[e43]at hld;have hap5:Ap T w dst dst [] (W5.setCell ⟨g4,N,none⟩ (.int .u8 43)) (.slice (some ⟨g4,0,none⟩) M c4) (A++43::i0::It):=
  ⟨hld.1,(hap.stp.drewN 1).trans (hmv.2.trans hld.2),OwnB.env hmv.1 hld.2 (OwnB.env hown4 hmv.2 (hap.env.drewN 1)),Or.inl rfl⟩
 have HAP:=zH hap5;clear hML hM hcell hap hown4 hmv hld hap5 hgd hW5;go_still_tail 7,zg;((repeat (go_wp2_with (first | (at_builtin;refine zhu rfl (.tmp 66) (.const (.string ⟨#[105,41]⟩)) _ _ rfl zsw HAP.out.own ((jd _ _ _ 66 ze).trans zb) _ rfl [105,41] (ykh Tryz.underlying9 _ [105,41] rfl) zD ?_;intro v5 w5 ho5 hs5;have hap:=HAP.out.step0 ho5 hs5;clear ho5 hs5));first|refine cZ ?_|refine cW ?_));go_wp2_with (first | (at_builtin;refine zhu rfl (.tmp 66) (.const (.string ⟨#[105,41]⟩)) _ _ rfl zsw HAP.out.own ((jd _ _ _ 66 ze).trans zb) _ rfl [105,41] (ykh Tryz.underlying9 _ [105,41] rfl) zD ?_;intro v5 w5 ho5 hs5;have hap:=HAP.out.step0 ho5 hs5;clear ho5 hs5)));refine yl v5 rfl ze zb ⟨v5,rfl,?_,hap.stp⟩;have e:xs++ylc R (i0::It)=A++43::i0::It++[105,41]:=by rw[<-HA.out];simp[ylc,yn0,h43,h45]
 rw[e];exact hap.own
set_option maxRecDepth 100000 in
theorem yxq (T re im:Nat) (prec f:Int) (R I:List UInt8) (w:World) (he:Env T w)
  (hR:∀ (d:Value) (ys:List UInt8) (W:World),Env T W->OwnB T W d ys->ys.length<=140737488900000->Calls Tryz.prog 103 #[d,.float .f64 re,.int .u8 f,.int .i64 prec,.int .i64 32] W fun r w'=>∃ v',r=.returned v'/\OwnB T w' v' (ys++R)/\Stp W d w' v')
  (hI:∀ (d:Value) (ys:List UInt8) (W:World),Env T W->OwnB T W d ys->ys.length<=140737488900000->Calls Tryz.prog 103 #[d,.float .f64 im,.int .u8 f,.int .i64 prec,.int .i64 32] W fun r w'=>∃ v',r=.returned v'/\OwnB T w' v' (ys++I)/\Stp W d w' v')
  (hRl:R.length<=4000000) (hIl:I.length<=4000000) (hIn:I≠[]):
  Calls Tryz.prog 53 #[.complex .f64 re im,.int .u8 f,.int .i64 prec,.int .i64 64] w fun e w'=>
   e=.returned (.string ⟨(ylc R I).toArray⟩)/\w.grownBy w' none:=by
 have H:=fun (d:Value) (W:World) (hE:Env T W) (hO:OwnB T W d [])=>yxl T re im d prec f [] R I W hE hO zi hR hI hRl hIl hIn
 have H:=zH H;have hsl:=fun W=>yrz w.heap.size 0 W zd
 have HE:=zH he;clear he hR hI;refine ye Tryz.func53 rfl (by rw[Tryz.ntmps53];simp) ?_;intro σ hσ;rw[Tryz.ntmps53];have s0:σ 0=.complex .f64 re im:=hσ 0 zi;have s1:σ 1=.int .u8 f:=hσ 1 zi;have s2:σ 2=.int .i64 prec:=hσ 2 zi;have s3:σ 3=.int .i64 64:=hσ 3 zi;clear hσ;(go_wp2_with fail;repeat ((first|refine cZ ?_|refine cW ?_);go_wp2_with fail));refine (H.out _ _ (HE.out.alloc _) (OwnB.fresh HE.out.size _ _ 64 rfl zd)).mono ?_;rintro e w7 ⟨v,rfl,ho,hs⟩;rw[List.nil_append]at ho;have hcv:=zk5 ho;have hg:w.grownBy w7 none:=by
  have h1:=hs.1;refine yx (World.grownBy_alloc w _ none) h1 (fun j e hj=>?_);simp[Value.ownBlock]at e;omega
 have HG:=zH hg;clear ho hs hg hsl;(go_wp2_with fail;repeat ((first|refine cZ ?_|refine cW ?_);go_wp2_with fail));exact yl _ rfl ze zb ⟨rfl,HG.out⟩
theorem yxp (T re im:Nat) (prec f:Int) (R I:List UInt8) (w:World) (he:Env T w)
  (hR:∀ (d:Value) (ys:List UInt8) (W:World),Env T W->OwnB T W d ys->ys.length<=140737488900000->Calls Tryz.prog 103 #[d,.float .f64 re,.int .u8 f,.int .i64 prec,.int .i64 32] W fun r w'=>∃ v',r=.returned v'/\OwnB T w' v' (ys++R)/\Stp W d w' v')
  (hI:∀ (d:Value) (ys:List UInt8) (W:World),Env T W->OwnB T W d ys->ys.length<=140737488900000->Calls Tryz.prog 103 #[d,.float .f64 im,.int .u8 f,.int .i64 prec,.int .i64 32] W fun r w'=>∃ v',r=.returned v'/\OwnB T w' v' (ys++I)/\Stp W d w' v')
  (hRl:R.length<=4000000) (hIl:I.length<=4000000) (hIn:I≠[]):
  Calls Tryz.prog 34 #[.complex .f64 re im,.int .u8 f,.int .i64 prec,.int .i64 64] w fun e w'=>
   e=.returned (.string ⟨(ylc R I).toArray⟩)/\w.grownBy w' none:=by
 have H:=zH (yxq T re im prec f R I w he hR hI hRl hIl hIn);clear he hR hI;go_enter Tryz.func34,Tryz.ntmps34;go_wp2_with (go_at_call 53;refine H.out.mono ?_;rintro e w7 ⟨rfl,hg⟩);go_ret;exact⟨rfl,hg⟩
theorem yxr (T re im r q:Nat) (prec f:Int) (w:World) (he:Env T w) (hr:re<4294967296) (hi:im<4294967296) (hw1:floatToFloatBits .f32 re .f64=some r) (hr1:floatToFloatBits .f64 r .f32=some re) (hw2:floatToFloatBits .f32 im .f64=some q) (hr2:floatToFloatBits .f64 q .f32=some im) (hf1:0≤f) (hf2:f≤255) (hp1:-9223372036854775808≤prec) (hp2:prec≤5000):
  Calls Tryz.prog 17 #[.int .u32 (re:Int),.int .u32 (im:Int),.int .u8 f,.int .i64 prec] w fun e w'=>
   e=.returned (.string ⟨(ylc (wi re f prec) (wi im f prec)).toArray⟩)∧w.grownBy w' none:=by
 have H:=zH (yxp T r q prec f (wi re f prec) (wi im f prec) w he
  (fun d ys W hE hO hl=>yxm T re r d prec f ys W hE hO hl hr hr1 hf1 hf2 hp1 zd)
  (fun d ys W hE hO hl=>yxm T im q d prec f ys W hE hO hl hi hr2 hf1 hf2 hp1 zd)
  (yxo re f prec hr zd) (yxo im f prec hi zd) (yxn im f prec))
 have hext:=fun W=>yti re W
 have hext2:=fun W=>yti im W
 have hcv1:=fun W=>run_convert_float_float (P:=Tryz.prog) W 60 51 .f32 .f64 re r zγC Tryz.underlying51 hw1
 have hcv2:=fun W=>run_convert_float_float (P:=Tryz.prog) W 60 51 .f32 .f64 im q zγC Tryz.underlying51 hw2
 clear he hw1 hr1 hw2 hr2
 go_enter Tryz.func17,Tryz.ntmps17
 go_wp2_with (go_at_call 34;refine H.out.mono ?_;rintro e w7 ⟨rfl,hg⟩)
 go_ret
 exact⟨rfl,hg⟩
end Go.Proofs.YtnifedmhgncioaaGreatDoor
