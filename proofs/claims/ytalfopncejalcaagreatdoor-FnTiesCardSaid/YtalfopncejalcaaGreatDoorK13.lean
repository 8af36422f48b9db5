/- Lemmas that the claim's top text leans on. No condition of their own. -/
import Derived.Test.YtalfopncejalcaaGreatDoorK11
import Derived.Laws.MakeOwn
import Derived.Laws.OwnMore
namespace Go.Proofs.YtalfopncejalcaaGreatDoor
open Go.RowKit
set_option linter.unusedSimpArgs false
set_option linter.unusedVariables false
set_option maxHeartbeats 16000000
theorem zny (c:Nat) (hc:c≤1000000) (w:World):(Instr.makeSlice 35 (.int .i64 (c:Int)) (.int .i64 (c:Int))).run Tryz.prog w=.ok (.slice (some ⟨w.heap.size,0,none⟩) c c) (w.alloc (.cells (madeCells #[.int .i64 0] c) 3)):=by
 obtain⟨i,hi,hz0,hz1,hz2⟩:=info_parts zoe
 have h:=run_make (P:=Tryz.prog) w 35 3 i _ Tryz.underlying35 hi hz0 .i64 .i64 (c:Int) (c:Int) zd zd (by rw[hz2];omega) zd
 rw[hz1,Int.toNat_natCast,Nat.mul_one]at h
 exact h
theorem OwnI.made {T:Nat} {w:World} (hT:T≤w.heap.size) (c:Nat) (hc:c≤1000000):OwnI T (w.alloc (.cells (madeCells #[.int .i64 0] c) 3)) (.slice (some ⟨w.heap.size,0,none⟩) c c) (List.replicate c 0):=by
 refine⟨⟨w.heap.size,[],?_,?_,?_⟩,fun k hk=>?_⟩
 ·simp
 ·have:=Row.new w (madeCells #[Value.int .i64 0] c).toList 3
  rw[Array.toArray_toList,toList_madeCells_one]at this
  rw[List.append_nil,List.map_replicate]
  exact this
 ·simp[maxLen];omega
 ·simp[Value.ownBlock]at hk;omega
theorem vt (x:Nat) (h:x<9223372036854775808):IntKind.i64.wrap (x:Int)=(x:Int):=by rw[IntKind.wrap_i64];omega
theorem yb {w w1:World} (h:w.grownBy w1 none) {a:Addr} (u:Value) (ha:w.heap.size≤a.block):w.grownBy (w1.setCell a u) none:=
 yx h (⟨rfl,rfl,rfl,by simp[World.setCell],fun k hk hne=>Below.heap_setCell w1 a u k (fun e=>hne (by rw[e]))⟩:w1.grownBy (w1.setCell a u) (some a.block)) (fun j e hj=>by
  have:a.block=j:=by simpa using e
  omega)
theorem zqn (n k:Nat):(List.replicate n 0).getD k 0=0:=by
 rw[List.getD_eq_getElem?_getD,List.getElem?_replicate]
 split <;> rfl
theorem zgp (l:List Nat) (k x m:Nat) (h:k≠m):(l.set k x).getD m 0=l.getD m 0:=by
 rw[List.getD_eq_getElem?_getD,List.getElem?_set_ne h,List.getD_eq_getElem?_getD]
theorem vc (v1 v2:Value) (a b:Nat) (w:World) (hr1:NatV w v1 a) (hr2:NatV w v2 b) (hx1:(yf a).length≤100000) (hx2:(yf b).length≤100000):
  Calls Tryz.prog 55 #[v1,v2] w fun e w'=>∃ v',e=.returned v'∧NatV w' v' (a*b)∧w.grownBy w' none:=by
 obtain⟨a1,c1,rfl⟩:=hr1.len
 obtain⟨a2,c2,rfl⟩:=hr2.len
 obtain⟨N1,hN1⟩:=zX ((yf a).length)
 obtain⟨N2,hN2⟩:=zX ((yf b).length)
 unfold NatV at hr1 hr2
 simp only[hN1,hN2]at hr1 hr2 ⊢
 rw[hN1]at hx1
 rw[hN2]at hx2
 have HN1:=zH hN1
 have HN2:=zH hN2
 have HR1:=zH hr1
 have HR2:=zH hr2
 have hmk:=zny (N1+N2) zd
 have hmk2:∀ w:World,(Instr.makeSlice 35 (.int .i64 ((N1:Int)+(N2:Int))) (.int .i64 ((N1:Int)+(N2:Int)))).run Tryz.prog w=_:=fun w=>hmk w
 have HO0:=zH (OwnI.made (T:=w.heap.size) (w:=w) (Nat.le_refl _) (N1+N2) zd)
 have HG0:=zH (World.grownBy_alloc w (.cells (madeCells #[.int .i64 0] (N1+N2)) 3) none)
 clear hr1 hr2 hN1 hN2 hmk
 refine ye Tryz.func55 rfl (by rw[Tryz.ntmps55];simp) ?_
 intro σ hσ
 rw[Tryz.ntmps55]
 have s0:σ 0=.slice a1 N1 c1:=hσ 0 zi
 have s1:σ 1=.slice a2 N2 c2:=hσ 1 zi
 clear hσ
 (go_wp2_with fail;repeat ((first|refine cZ ?_|refine cW ?_);go_wp2_with fail))
 obtain⟨L,hL⟩:=zX (N1+N2)
 simp only[hL]at HO0 HG0 ⊢
 have HL:=zH hL
 have hL2:L≤200000:=zd
 clear hL
 generalize hB0:w.heap.size=B0 at *
 have hB0':=zH hB0
 clear hmk2 hB0
 refine xb (fun kk s' w'=>∃ (i:Nat) (l:List Nat),i≤N1∧kk=N1-i∧l.length=L∧Limbs l∧(∀ k,i+N2≤k→l.getD k 0=0)∧xo l=xo ((yf a).take i)*b∧s' 0=.slice a1 N1 c1∧s' 1=.slice a2 N2 c2∧s' 5=.slice (some ⟨B0,0,none⟩) L L∧s' 18=.slice a1 N1 c1∧s' 19=.int .i64 (N1:Int)∧s' 20=.int .i64 (i:Int)∧OwnI B0 w' (.slice (some ⟨B0,0,none⟩) L L) l∧w.grownBy w' none) N1
  ⟨0,List.replicate L 0,zd,rfl,zi,Limbs.rep _,fun k _=>zqn L k,by rw[zff];simp[xo],zb,zb,zb,zb,zb,zb,HO0.out,HG0.out⟩ ?_
 clear s0 s1 σ HO0 HG0
 rintro kk σ wk ⟨i,l,hi,hkk,hll,hlm,hzr,hval,s0,s1,s5,s18,s19,s20,hown,hg⟩ RK KK HRK hKK
 have HKK:=zH hkk
 have HLM:=zH hlm
 have HV:=zH hval
 have HO:=zH hown
 have HG:=zH hg
 have HLL:=zH hll
 have HZR:=zH hzr
 clear hkk hlm hval hown hg hll hzr
 by_cases hend:i=N1
 ·subst hend
  have hT:=kr _ l wk (RdI.of_own HO.out) (by rw[HLL.out];omega) HLM.out
  have hlv:xo l=a*b:=by
   rw[HV.out,xn _ _ (by rw[HN1.out];exact Nat.le_refl _),vg]
  rw[hlv]at hT
  have HT:=zH hT
  clear hT hlv
  (go_wp2_with fail;repeat ((first|refine cZ ?_|refine cW ?_);go_wp2_with fail))
  refine HT.out.mono ?_
  rintro e w5 ⟨v5,rfl,hn5,hg5⟩
  have HN5:=zH hn5
  have HG5:=zH (ya HG.out hg5)
  clear hn5 hg5
  (go_wp2_with fail;repeat ((first|refine cZ ?_|refine cW ?_);go_wp2_with fail))
  exact yl v5 rfl ze zb ⟨v5,rfl,HN5.out,HG5.out⟩
 ·have hlt:i<N1:=zd
  have hne:yf a≠[]:=by intro h;have:=HN1.out;rw[h]at this;simp at this;omega
  obtain⟨g1,rfl,hLL1,hcc1,hm1,hcell1⟩:=(HR1.out.grown HG.out).at hne
  obtain⟨x,hx⟩:∃ u,(yf a)[i]?=some u:=⟨(yf a)[i]' zG,List.getElem?_eq_getElem _⟩
  have hc1:=hcell1 i x hx
  unfold qd at hc1
  have hgx:(yf a).getD i 0=x:=by rw[List.getD_eq_getElem?_getD,hx];rfl
  have hxl:x<1073741824:=zαl
  have HGX:=zH hgx
  have hlt1:(i:Int)<(N1:Int):=zd
  clear hx hgx hcell1 hne hLL1
  have hjL:∀ j,j≤N2→i+j<L:=fun j hj=>by have:=HL.out;omega
  have HJL:=zH hjL
  clear hjL
  (go_wp2_with fail;repeat ((first|refine cZ ?_|refine cW ?_);go_wp2_with fail))
  refine xb (fun k2 s' w'=>∃ (j c:Nat) (l2:List Nat),j≤N2∧k2=N2-j∧c<1073741824∧l2.length=L∧Limbs l2∧(∀ k,i+N2≤k→l2.getD k 0=0)∧xo l2+1073741824^(i+j)*c=xo l+1073741824^i*(x*xo ((yf b).take j))∧s' 0=.slice (some ⟨g1,0,none⟩) N1 c1∧s' 1=.slice a2 N2 c2∧s' 5=.slice (some ⟨B0,0,none⟩) L L∧s' 6=.int .i64 (i:Int)∧s' 7=.int .i64 (x:Int)∧s' 8=.int .i64 (c:Int)∧s' 18=.slice (some ⟨g1,0,none⟩) N1 c1∧s' 19=.int .i64 (N1:Int)∧s' 20=.int .i64 (i:Int)∧s' 25=.slice a2 N2 c2∧s' 26=.int .i64 (N2:Int)∧s' 27=.int .i64 (j:Int)∧OwnI B0 w' (.slice (some ⟨B0,0,none⟩) L L) l2∧w.grownBy w' none) N2
   ⟨0,0,l,zd,rfl,zd,HLL.out,HLM.out,HZR.out,by simp[xo],zb,zb,zb,zb,zb,zb,zb,zb,zb,zb,zb,zb,HO.out,HG.out⟩ ?_
  clear s0 s1 s5 s18 s19 s20 σ hc1
  rintro k2 σ wj ⟨j,c,l2,hj,hk2,hcl,hll2,hlm2,hzr2,hval2,s0,s1,s5,s6,s7,s8,s18,s19,s20,s25,s26,s27,hown2,hg2⟩ RJ KJ HRJ hKJ
  have HK2:=zH hk2
  have HLM2:=zH hlm2
  have HV2:=zH hval2
  have HO2:=zH hown2
  have HG2:=zH hg2
  have HLL2:=zH hll2
  have HZR2:=zH hzr2
  clear hk2 hlm2 hval2 hown2 hg2 hll2 hzr2
  by_cases hje:j=N2
  ·subst hje
   have hij:(i:Int)+(j:Int)<(L:Int):=by have:=HJL.out j (Nat.le_refl _);omega
   obtain⟨o,ho⟩:∃ u,l2[i+j]?=some u:=⟨l2[i+j]' zαg,List.getElem?_eq_getElem _⟩
   have hco:=HO2.out.cell (i+j) o ho
   unfold qd at hco
   have hfo:=HO2.out.frozen (i+j)
   clear ho
   (go_wp2_with fail;repeat ((first|refine cZ ?_|refine cW ?_);go_wp2_with fail))
   have hlv:xo (l2.set (i+j) c)=xo ((yf a).take (i+1))*b:=by
    have h1:=zfe l2 (i+j) c zαg
    have h2:=HV2.out
    rw[HZR2.out (i+j) (Nat.le_refl _),Nat.mul_zero,Nat.add_zero,h2,xn _ _ (by rw[HN2.out];exact Nat.le_refl _),vg]at h1
    rw[h1,uy,HGX.out,HV.out,Nat.add_mul,Nat.mul_assoc]
   exact wo HRK (N1-(i+1)) (by have:=HKK.out;omega) ⟨i+1,l2.set (i+j) c,zd,rfl,by rw[List.length_set];exact HLL2.out,HLM2.out.set _ _ hcl,fun k hk=>by rw[zgp _ _ _ _ zd];exact HZR2.out k zd,hlv,zb,zb,zb,zb,zb,zj,HO2.out.laid (i+j) c zαg,yb HG2.out _ (by have:=hB0'.out;show w.heap.size≤B0;omega)⟩
  ·have hjl:j<N2:=zd
   have hjl1:(j:Int)<(N2:Int):=zd
   have hij:(i:Int)+(j:Int)<(L:Int):=by have:=HJL.out j zd;omega
   have hne:yf b≠[]:=by intro h;have:=HN2.out;rw[h]at this;simp at this;omega
   obtain⟨g2,rfl,hLL2,hcc2,hm2,hcell2⟩:=(HR2.out.grown HG2.out).at hne
   obtain⟨y,hy⟩:∃ u,(yf b)[j]?=some u:=⟨(yf b)[j]' zαs,List.getElem?_eq_getElem _⟩
   have hc2:=hcell2 j y hy
   obtain⟨o,ho⟩:∃ u,l2[i+j]?=some u:=⟨l2[i+j]'(by rw[HLL2.out];exact HJL.out j zd),List.getElem?_eq_getElem _⟩
   have hco:=HO2.out.cell (i+j) o ho
   have hfo:=HO2.out.frozen (i+j)
   unfold qd at hc2 hco
   have hgy:(yf b).getD j 0=y:=by rw[List.getD_eq_getElem?_getD,hy];rfl
   have hgo:l2.getD (i+j) 0=o:=by rw[List.getD_eq_getElem?_getD,ho];rfl
   have hyl:y<1073741824:=by rw[←hgy];exact (wt b).getD j
   have hol:o<1073741824:=by rw[←hgo];exact HLM2.out.getD _
   have HGY:=zH hgy
   have HGO:=zH hgo
   obtain⟨p,hp⟩:=zX (x*y)
   have hpl:p≤1152921502459363329:=by
    rw[←hp]
    have:=Nat.mul_le_mul (show x≤1073741823 by omega) (show y≤1073741823 by omega)
    omega
   have hw:IntKind.i64.wrap ((x:Int)*(y:Int))=(p:Int):=by
    rw[←Int.natCast_mul,hp]
    exact vt p zd
   have HP:=zH hp
   clear hy ho hgy hgo hcell2 hne hLL2 hp
   (go_wp2_with fail;repeat ((first|refine cZ ?_|refine cW ?_);go_wp2_with fail))
   have e:((o:Int)+(p:Int)+(c:Int))%1073741824=(((o+p+c)%1073741824:Nat):Int):=zd
   have e2:wj.setCell ⟨B0,i+j,none⟩ (.int .i64 (((o:Int)+(p:Int)+(c:Int))%1073741824))=wj.setCell ⟨B0,i+j,none⟩ (qd ((o+p+c)%1073741824)):=by unfold qd;rw[e]
   rw[e2]
   clear e e2 hw
   exact wo HRJ (N2-(j+1)) (by have:=HK2.out;omega) ⟨j+1,(o+p+c) / 1073741824,l2.set (i+j) ((o+p+c)%1073741824),zd,rfl,zd,by rw[List.length_set];exact HLL2.out,HLM2.out.set _ _ (Nat.mod_lt _ ze),fun k hk=>by rw[zgp _ _ _ _ zd];exact HZR2.out k zd,zq6 (by rw[HLL2.out];exact HJL.out j zd) HV2.out (by rw[HGO.out,HGY.out,HP.out]),zb,zb,zb,zb,zb,zj,zb,zb,zb,zb,zb,zj,HO2.out.laid (i+j) _ (by rw[HLL2.out];exact HJL.out j zd),yb HG2.out _ (by have:=hB0'.out;show w.heap.size≤B0;omega)⟩
theorem zj0 (base N y K:Nat) (hb:base<18446744073709551616) (hN:64*N<30*K) (hy:y≤base^N):(yf y).length≤K:=by
 refine yv ?_
 have h1:base^N≤(2^64)^N:=Nat.pow_le_pow_left zd N
 have h2:(2^64)^N=2^(64*N):=(Nat.pow_mul ..).symm
 have h3:2^(64*N)<2^(30*K):=Nat.pow_lt_pow_right ze hN
 rw[js]
 exact Nat.lt_of_le_of_lt (Nat.le_trans hy (h2 ▸ h1)) h3
theorem zic (base N y:Nat) (hb:base<18446744073709551616) (hN:N≤30000) (hy:y≤base^N):(yf y).length≤70000:=zj0 base N y 70000 hb zd hy
theorem zt1 (o x m:Nat):o*x*(x*x)^(m / 2)=o*x^(2*(m / 2)+1):=by
 rw[Nat.mul_assoc,Nat.pow_succ,Nat.pow_mul,Nat.pow_two,Nat.mul_comm x]
theorem zqs (o x m:Nat):o*(x*x)^(m / 2)=o*x^(2*(m / 2)):=by
 rw[Nat.pow_mul,Nat.pow_two]
theorem zea (base N:Nat) (w:World) (hb0:1≤base) (hb:base<18446744073709551616) (hN:N≤30000):
  Calls Tryz.prog 56 #[.int .u64 (base:Int),.int .i64 (N:Int)] w fun e w'=>∃ v',e=.returned v'∧NatV w' v' (base^N)∧w.grownBy w' none:=by
 have HO1:=zH (fun W=>ww 1 W ze)
 have HO2:=zH (fun W=>ww base W hb)
 refine ye Tryz.func56 rfl (by rw[Tryz.ntmps56];simp) ?_
 intro σ hσ
 rw[Tryz.ntmps56]
 have s0:σ 0=.int .u64 (base:Int):=hσ 0 zi
 have s1:σ 1=.int .i64 (N:Int):=hσ 1 zi
 clear hσ
 (go_wp2_with fail;repeat ((first|refine cZ ?_|refine cW ?_);go_wp2_with fail))
 refine (HO1.out _).mono ?_
 rintro e w1 ⟨v1,rfl,hn1,hg1⟩
 have HN1:=zH hn1
 have HG1:=zH hg1
 clear hn1 hg1
 (go_wp2_with fail;repeat ((first|refine cZ ?_|refine cW ?_);go_wp2_with fail))
 refine (HO2.out _).mono ?_
 rintro e w2 ⟨v2,rfl,hn2,hg2⟩
 have HN1':=zH (HN1.out.grown hg2)
 have HN2:=zH hn2
 have HG2:=zH (ya HG1.out hg2)
 clear hn2 hg2 HN1 HG1
 (go_wp2_with fail;repeat ((first|refine cZ ?_|refine cW ?_);go_wp2_with fail))
 refine xb (fun kk s' w'=>∃ (m o x:Nat) (vo vx:Value),m≤N∧kk=m∧1≤o∧1≤x∧o*x^m=base^N∧s' 1=.int .i64 (m:Int)∧s' 5=vo∧s' 6=vx∧NatV w' vo o∧NatV w' vx x∧w.grownBy w' none) N
  ⟨N,1,base,_,_,Nat.le_refl _,rfl,Nat.le_refl _,hb0,zi,zb,zb,zb,HN1'.out,HN2.out,HG2.out⟩ ?_
 clear s0 s1 σ HN1' HN2 HG2
 rintro kk σ wk ⟨m,o,x,vo,vx,hm,hkk,ho1,hx1,hval,s1,s5,s6,hno,hnx,hg⟩ RK KK HRK hKK
 have HKK:=zH hkk
 have HV:=zH hval
 have HNO:=zH hno
 have HNX:=zH hnx
 have HG:=zH hg
 clear hkk hval hno hnx hg
 by_cases hm0:m=0
 ·subst hm0
  (go_wp2_with fail;repeat ((first|refine cZ ?_|refine cW ?_);go_wp2_with fail))
  refine yl vo rfl ze zb ⟨vo,rfl,?_,HG.out⟩
  have h1:=HV.out
  rw[Nat.pow_zero,Nat.mul_one]at h1
  rw[←h1]
  exact HNO.out
 ·have hm1:0<m:=zd
  have hm1':(0:Int)<(m:Int):=zd
  have hxp:x≤x^m:=by
   have:=Nat.pow_le_pow_right hx1 (show 1≤m by omega)
   rwa [Nat.pow_one]at this
  have hp1:1≤x^m:=Nat.le_trans hx1 hxp
  have hox:o*x≤base^N:=by rw[←HV.out];exact Nat.mul_le_mul_left o hxp
  have hol:o≤base^N:=by have:=Nat.mul_le_mul_left o hx1;omega
  have hxl:x≤base^N:=by have:=Nat.mul_le_mul_right x ho1;omega
  have hlo:=zic base N o hb hN hol
  have hlx:=zic base N x hb hN hxl
  have HM1:=zH (fun (W:World) (h1:NatV W vo o) (h2:NatV W vx x)=>vc vo vx o x W h1 h2 zd zd)
  have HM2:=zH (fun (W:World) (h2:NatV W vx x)=>vc vx vx x x W h2 h2 zd zd)
  clear hxp hp1 hox hol hxl hlo hlx
  by_cases hodd:m%2=1
  ·have ho:((m:Int)%2==1)=true:=zo
   by_cases hm2:1<m
   ·have hm2':(1:Int)<(m:Int):=zd
    (go_wp2_with fail;repeat ((first|refine cZ ?_|refine cW ?_);go_wp2_with fail))
    refine (HM1.out _ HNO.out HNX.out).mono ?_
    rintro e w3 ⟨v3,rfl,hn3,hg3⟩
    have HN3:=zH hn3
    have HG3:=zH hg3
    clear hn3 hg3
    (go_wp2_with fail;repeat ((first|refine cZ ?_|refine cW ?_);go_wp2_with fail))
    refine (HM2.out _ (HNX.out.grown HG3.out)).mono ?_
    rintro e w4 ⟨v4,rfl,hn4,hg4⟩
    have HN4:=zH hn4
    have HG4:=zH hg4
    clear hn4 hg4
    (go_wp2_with fail;repeat ((first|refine cZ ?_|refine cW ?_);go_wp2_with fail))
    exact wo HRK (m / 2) (by have:=HKK.out;omega) ⟨m / 2,o*x,x*x,v3,v4,zd,rfl,Nat.mul_pos ho1 hx1,Nat.mul_pos hx1 hx1,by rw[zt1,show 2*(m / 2)+1=m by omega];exact HV.out,zj,zb,zb,HN3.out.grown HG4.out,HN4.out,ya HG.out (ya HG3.out HG4.out)⟩
   ·have hm3:m=1:=zd
    subst hm3
    (go_wp2_with fail;repeat ((first|refine cZ ?_|refine cW ?_);go_wp2_with fail))
    refine (HM1.out _ HNO.out HNX.out).mono ?_
    rintro e w3 ⟨v3,rfl,hn3,hg3⟩
    have HN3:=zH hn3
    have HG3:=zH hg3
    clear hn3 hg3
    (go_wp2_with fail;repeat ((first|refine cZ ?_|refine cW ?_);go_wp2_with fail))
    exact wo HRK 0 (by have:=HKK.out;omega) ⟨0,o*x,x,v3,vx,zd,rfl,Nat.mul_pos ho1 hx1,hx1,by rw[Nat.pow_zero,Nat.mul_one];have:=HV.out;rwa [Nat.pow_one]at this,zj,zb,zb,HN3.out,HNX.out.grown HG3.out,ya HG.out HG3.out⟩
  ·have ho:((m:Int)%2==1)=false:=zf
   have hm2:1<m:=zd
   have hm2':(1:Int)<(m:Int):=zd
   (go_wp2_with fail;repeat ((first|refine cZ ?_|refine cW ?_);go_wp2_with fail))
   refine (HM2.out _ HNX.out).mono ?_
   rintro e w4 ⟨v4,rfl,hn4,hg4⟩
   have HN4:=zH hn4
   have HG4:=zH hg4
   clear hn4 hg4
   (go_wp2_with fail;repeat ((first|refine cZ ?_|refine cW ?_);go_wp2_with fail))
   exact wo HRK (m / 2) (by have:=HKK.out;omega) ⟨m / 2,o,x*x,vo,v4,zd,rfl,ho1,Nat.mul_pos hx1 hx1,by rw[zqs,show 2*(m / 2)=m by omega];exact HV.out,zj,zb,zb,HNO.out.grown HG4.out,HN4.out,ya HG.out HG4.out⟩
set_option maxRecDepth 10000 in
theorem zaw (v1 v2:Value) (a b:Nat) (w:World) (hr1:NatV w v1 a) (hr2:NatV w v2 b) (hx1:(yf a).length≤100000) (hab:b≤a):
  Calls Tryz.prog 58 #[v1,v2] w fun e w'=>∃ v',e=.returned v'∧NatV w' v' (a-b)∧w.grownBy w' none∧∀ k,v'.ownBlock=some k→w.heap.size≤k:=by
 obtain⟨a1,c1,rfl⟩:=hr1.len
 obtain⟨a2,c2,rfl⟩:=hr2.len
 have hx2:=Nat.le_trans (qt hab) hx1
 have hN12:=qt hab
 obtain⟨N1,hN1⟩:=zX ((yf a).length)
 obtain⟨N2,hN2⟩:=zX ((yf b).length)
 unfold NatV at hr1 hr2
 simp only[hN1,hN2]at hr1 hr2 ⊢
 rw[hN1]at hx1 hN12
 rw[hN2]at hx2 hN12
 have HN1:=zH hN1
 have HN2:=zH hN2
 have HR1:=zH hr1
 have HR2:=zH hr2
 have HO0:=zH (OwnI.fresh0 (T:=w.heap.size) (w:=w) (Nat.le_refl _) 3)
 have HG0:=zH (World.grownBy_alloc w (.cells #[] 3) none)
 clear hr1 hr2 hN1 hN2
 refine ye Tryz.func58 rfl (by rw[Tryz.ntmps58];simp) ?_
 intro σ hσ
 rw[Tryz.ntmps58]
 have s0:σ 0=.slice a1 N1 c1:=hσ 0 zi
 have s1:σ 1=.slice a2 N2 c2:=hσ 1 zi
 clear hσ
 (go_wp2_with fail;repeat ((first|refine cZ ?_|refine cW ?_);go_wp2_with fail))
 refine xb (fun kk s' w'=>∃ (i br:Nat) (l:List Nat) (v:Value),i≤N1∧kk=N1-i∧br≤1∧l.length=i∧Limbs l∧xo l+xo ((yf b).take i)=xo ((yf a).take i)+1073741824^i*br∧s' 0=.slice a1 N1 c1∧s' 1=.slice a2 N2 c2∧s' 5=v∧s' 6=.int .i64 (br:Int)∧s' 11=.int .i64 (N1:Int)∧s' 12=.int .i64 (i:Int)∧OwnI w.heap.size w' v l∧w.grownBy w' none) N1
  ⟨0,0,[],_,zd,rfl,zd,rfl,Limbs.nil,by simp[xo],zb,zb,zb,zb,zb,zb,HO0.out,HG0.out⟩ ?_
 clear s0 s1 σ HO0 HG0
 rintro kk σ wk ⟨i,br,l,v,hi,hkk,hbr,hll,hlm,hval,s0,s1,s5,s6,s11,s12,hown,hg⟩ RK KK HRK hKK
 have HKK:=zH hkk
 have HLM:=zH hlm
 have HV:=zH hval
 have HO:=zH hown
 have HG:=zH hg
 clear hkk hlm hval hown hg
 by_cases hend:i=N1
 ·subst hend
  have hT:=zmo v l wk (RdI.of_own HO.out) zd HLM.out
  have hlv:xo l=a-b:=by
   have h1:=HV.out
   rw[xn (yf a) _ (by rw[HN1.out];exact Nat.le_refl _),xn (yf b) _ (by rw[HN2.out];exact hN12),vg,vg]at h1
   refine zti (br:=br) HLM.out ?_ hab
   rw[hll]
   exact h1
  rw[hlv]at hT
  have HT:=zH hT
  clear hT hlv
  (go_wp2_with fail;repeat ((first|refine cZ ?_|refine cW ?_);go_wp2_with fail))
  refine HT.out.mono ?_
  rintro e w5 ⟨v5,rfl,hn5,hg5,hf5⟩
  have HF5:=zH (fun (k:Nat) (hk:v5.ownBlock=some k)=>Nat.le_trans HG.out.size (hf5 k hk))
  have HN5:=zH hn5
  have HG5:=zH (ya HG.out hg5)
  clear hn5 hg5 hf5
  (go_wp2_with fail;repeat ((first|refine cZ ?_|refine cW ?_);go_wp2_with fail))
  exact yl v5 rfl ze zb ⟨v5,rfl,HN5.out,HG5.out,HF5.out⟩
 ·have hlt:i<N1:=zd
  have hlt1:(i:Int)<(N1:Int):=zd
  have hge:(0:Int)≤(i:Int):=zd
  have hne:yf a≠[]:=by intro h;have:=HN1.out;rw[h]at this;simp at this;omega
  obtain⟨g1,rfl,hLL1,hcc1,hm1,hcell1⟩:=(HR1.out.grown HG.out).at hne
  obtain⟨x,hx⟩:∃ u,(yf a)[i]?=some u:=⟨(yf a)[i]' zG,List.getElem?_eq_getElem _⟩
  have hc1:=hcell1 i x hx
  unfold qd at hc1
  have hgx:(yf a).getD i 0=x:=by rw[List.getD_eq_getElem?_getD,hx];rfl
  have hxl:x<1073741824:=zαl
  have hyl:=(wt b).getD i
  have hA:=fun (W:World) (hW:wk.grownBy W none)=>zds (.slice a2 N2 c2) (yf b) i W ((HR2.out.grown HG.out).grown hW) zd zαs
  obtain⟨y,hy⟩:=zX ((yf b).getD i 0)
  rw[hy]at hA hyl
  have HA:=zH hA
  have HC1:=zH hc1
  have HGX:=zH hgx
  have HGY:=zH hy
  have hw1:IntKind.i64.wrap ((x:Int)-(y:Int))=(x:Int)-(y:Int):=IntWalk.i64_in _ zd
  have hw2:IntKind.i64.wrap ((x:Int)-(y:Int)-(br:Int))=(x:Int)-(y:Int)-(br:Int):=IntWalk.i64_in _ zd
  clear hx hgx hy hcell1 hne hLL1 hA hc1
  (go_wp2_with fail;repeat ((first|refine cZ ?_|refine cW ?_);go_wp2_with fail))
  refine wp_region_noPanic ?_
  refine wp_region_held_drew (S:=fun w'=>wk.grownBy w' none) zg (yh wk 1 none) (fun hHeld=>?_)
  (refine yg 0 15 ?_;refine yg 1 16 ?_;refine yg 2 17 ?_)
  (refine xg 3 18 (oi:=?_) (v:=?_) ?_ ?_ zg zg zg (fun _ _ _ _ _ h=>h) ?_ zq ?_ ?_;rotate_left 2;(focus ((simp only[List.getElem?_toArray,List.getElem?_cons_succ,List.getElem?_cons_zero]);rfl));(focus rfl);(focus (first | rfl | (simp only[Region.wanted,yielded,List.getElem?_toArray,List.getElem?_cons_succ,List.getElem?_cons_zero,Option.bind_some,Option.map_some,Fr_get?,yc,yd];rfl) | go_simp));(focus (intro W hS;have hcw:=vl hS HC1.out;go_simp;try with_reducible rfl)))
  (refine yg 4 19 ?_;refine yg 5 20 ?_;refine yg 8 23 ?_)
  (refine zO 6 ?_;intro K hK;go_simp;(refine (HA.out _ hHeld).mono ?_;rintro e w9 ⟨rfl,rfl⟩);go_wp2_with fail;replace hHeld:=hHeld;refine hK.out _ _ hHeld ?_;clear hK K)
  (refine yg 7 22 ?_;refine yg 9 24 ?_;refine yg 10 8 ?_)
  refine wpAnyH_done zg ?_ _
  refine NoPanic.normal ?_
  clear hw1 hw2
  have hod:=HO.out.drew
  have hgd:=ya HG.out (yh wk 1 none)
  have hgd':w.grownBy wk.drew none:=hgd
  clear hgd hHeld
  generalize wk.drew=wd at *
  have HOD:=zH hod
  have HGD:=zH hgd'
  clear hod hgd'
  by_cases hneg:x<y+br
  ·have f1:(x:Int)-(y:Int)-(br:Int)<0:=zd
   obtain⟨z,hz⟩:∃ z:Nat,z+y+br=x+1073741824:=⟨x+1073741824-y-br,zd⟩
   (go_wp2_with (first | (at_builtin;refine yk rfl _ _ _ _ rfl ze ze ug (HOD.out.alloc _) zb _ zb [z] (xl Tryz.underlying35 _ z _ zd) zh ?_;intro v1 w1 ho1 hs1));repeat ((first|refine cZ ?_|refine cW ?_);go_wp2_with (first | (at_builtin;refine yk rfl _ _ _ _ rfl ze ze ug (HOD.out.alloc _) zb _ zb [z] (xl Tryz.underlying35 _ z _ zd) zh ?_;intro v1 w1 ho1 hs1))))
   exact wo HRK (N1-(i+1)) (by have:=HKK.out;omega) ⟨i+1,1,l++[z],v1,zd,rfl,zd,by simp[hll],HLM.out.append (Limbs.one zd),zjp hll HV.out (by rw[HGX.out,HGY.out];omega),zb,zb,zb,zj,zb,zj,ho1,xt (Nat.le_refl _) (ya HGD.out (World.grownBy_alloc _ _ none)) (HOD.out.alloc _) hs1⟩
  ·have f1:decide ((x:Int)-(y:Int)-(br:Int)<0)=false:=zh
   obtain⟨z,hz⟩:∃ z:Nat,z+y+br=x:=⟨x-y-br,zd⟩
   (go_wp2_with (first | (at_builtin;refine yk rfl _ _ _ _ rfl ze ze ug (HOD.out.alloc _) zb _ zb [z] (xl Tryz.underlying35 _ z _ zd) zh ?_;intro v1 w1 ho1 hs1));repeat ((first|refine cZ ?_|refine cW ?_);go_wp2_with (first | (at_builtin;refine yk rfl _ _ _ _ rfl ze ze ug (HOD.out.alloc _) zb _ zb [z] (xl Tryz.underlying35 _ z _ zd) zh ?_;intro v1 w1 ho1 hs1))))
   exact wo HRK (N1-(i+1)) (by have:=HKK.out;omega) ⟨i+1,0,l++[z],v1,zd,rfl,zd,by simp[hll],HLM.out.append (Limbs.one zd),zjp hll HV.out (by rw[HGX.out,HGY.out];omega),zb,zb,zb,zj,zb,zj,ho1,xt (Nat.le_refl _) (ya HGD.out (World.grownBy_alloc _ _ none)) (HOD.out.alloc _) hs1⟩
theorem zht (x:Nat) (h:x<9223372036854775808):wrap64 (x:Int)=(x:Int):=by unfold wrap64;omega
set_option maxRecDepth 10000 in
theorem qe (v1:Value) (a n:Nat) (w:World) (hr1:NatV w v1 a) (hx1:(yf a).length≤100000) (hn:n≤3000000):
  Calls Tryz.prog 54 #[v1,.int .i64 (n:Int)] w fun e w'=>∃ v',e=.returned v'∧NatV w' v' (a*2^n)∧w.grownBy w' none:=by
 obtain⟨a1,c1,rfl⟩:=hr1.len
 obtain⟨N1,hN1⟩:=zX ((yf a).length)
 unfold NatV at hr1
 simp only[hN1]at hr1 ⊢
 rw[hN1]at hx1
 have HN1:=zH hN1
 have HR1:=zH hr1
 obtain⟨K,hK⟩:=zX (n / 30)
 obtain⟨r,hr⟩:=zX (n%30)
 have hK2:K≤100000:=zd
 have hr2:r<30:=zd
 have hpr:2^r≤536870912:=by
  have:=Nat.pow_le_pow_right (n:=2) ze (show r≤29 by omega)
  omega
 have hpr0:0<2^r:=Nat.pow_pos ze
 have hmk:=zny K zd
 have hmk2:∀ w:World,(Instr.makeSlice 35 (.int .i64 ((n:Int) / 30)) (.int .i64 ((n:Int) / 30))).run Tryz.prog w=.ok (.slice (some ⟨w.heap.size,0,none⟩) K K) (w.alloc (.cells (madeCells #[.int .i64 0] K) 3)):=fun w=>by
  have e:(n:Int) / 30=(K:Int):=zd
  rw[e]
  exact hmk w
 have HO0:=zH (OwnI.made (T:=w.heap.size) (w:=w) (Nat.le_refl _) K zd)
 have HG0:=zH (World.grownBy_alloc w (.cells (madeCells #[.int .i64 0] K) 3) none)
 have HK:=zH hK
 have HRR:=zH hr
 clear hr1 hN1 hmk hK hr
 refine ye Tryz.func54 rfl (by rw[Tryz.ntmps54];simp) ?_
 intro σ hσ
 rw[Tryz.ntmps54]
 have s0:σ 0=.slice a1 N1 c1:=hσ 0 zi
 have s1:σ 1=.int .i64 (n:Int):=hσ 1 zi
 clear hσ
 (go_wp2_with fail;repeat ((first|refine cZ ?_|refine cW ?_);go_wp2_with fail))
 clear hmk2
 refine xb (fun kk s' w'=>∃ (i c:Nat) (l:List Nat) (v:Value),i≤N1∧kk=N1-i∧c<2^r∧l.length=K+i∧Limbs l∧xo l+1073741824^(K+i)*c=1073741824^K*(xo ((yf a).take i)*2^r)∧s' 1=.int .i64 (n:Int)∧s' 5=v∧s' 6=.int .i64 (c:Int)∧s' 13=.slice a1 N1 c1∧s' 14=.int .i64 (N1:Int)∧s' 15=.int .i64 (i:Int)∧OwnI w.heap.size w' v l∧w.grownBy w' none) N1
  ⟨0,0,List.replicate K 0,_,zd,rfl,hpr0,zi,Limbs.rep _,by rw[zff];simp[xo],zb,zb,zb,zb,zb,zb,HO0.out,HG0.out⟩ ?_
 clear s0 s1 σ HO0 HG0
 rintro kk σ wk ⟨i,c,l,v,hi,hkk,hcl,hll,hlm,hval,s1,s5,s6,s13,s14,s15,hown,hg⟩ RK KK HRK hKK
 have HKK:=zH hkk
 have HLM:=zH hlm
 have HV:=zH hval
 have HO:=zH hown
 have HG:=zH hg
 have hcl2:c<536870912:=zd
 have HCL:=zH hcl
 clear hkk hlm hval hown hg hcl
 by_cases hend:i=N1
 ·subst hend
  have hT:=fun (V:Value) (W:World) (h:OwnI w.heap.size W V (l++[c]))=>kr V (l++[c]) W (RdI.of_own h) zh (HLM.out.append (Limbs.one zd))
  have hlv:xo (l++[c])=a*2^n:=by
   rw[uz,zal,hll,HV.out,xn _ _ (by rw[HN1.out];exact Nat.le_refl _),vg,js,Nat.mul_left_comm,←Nat.pow_add]
   congr 2
   have:=HK.out
   have:=HRR.out
   omega
  rw[hlv]at hT
  have HT:=zH hT
  clear hT hlv
  (go_wp2_with (first | (at_builtin;refine yk rfl _ _ _ _ rfl ze ze ug (HO.out.alloc _) zb _ zb [c] (xl Tryz.underlying35 _ c _ zd) zh ?_;intro v3 w3 ho3 hs3));repeat ((first|refine cZ ?_|refine cW ?_);go_wp2_with (first | (at_builtin;refine yk rfl _ _ _ _ rfl ze ze ug (HO.out.alloc _) zb _ zb [c] (xl Tryz.underlying35 _ c _ zd) zh ?_;intro v3 w3 ho3 hs3))))
  have hg3:=xt (Nat.le_refl _) (ya HG.out (World.grownBy_alloc wk _ none)) (HO.out.alloc _) hs3
  refine (HT.out _ _ ho3).mono ?_
  rintro e w5 ⟨v5,rfl,hn5,hg5⟩
  have HN5:=zH hn5
  have HG5:=zH (ya hg3 hg5)
  clear hn5 hg5 ho3 hs3 hg3
  (go_wp2_with fail;repeat ((first|refine cZ ?_|refine cW ?_);go_wp2_with fail))
  exact yl v5 rfl ze zb ⟨v5,rfl,HN5.out,HG5.out⟩
 ·have hlt:i<N1:=zd
  have hlt1:(i:Int)<(N1:Int):=zd
  have hne:yf a≠[]:=by intro h;have:=HN1.out;rw[h]at this;simp at this;omega
  obtain⟨g1,rfl,hLL1,hcc1,hm1,hcell1⟩:=(HR1.out.grown HG.out).at hne
  obtain⟨x,hx⟩:∃ u,(yf a)[i]?=some u:=⟨(yf a)[i]' zG,List.getElem?_eq_getElem _⟩
  have hc1:=hcell1 i x hx
  unfold qd at hc1
  have hgx:(yf a).getD i 0=x:=by rw[List.getD_eq_getElem?_getD,hx];rfl
  have hxl:x<1073741824:=zαl
  have HGX:=zH hgx
  obtain⟨p,hp⟩:=zX (x*2^r)
  have hpl:p+2^r≤1073741824*2^r:=by
   rw[←hp]
   have:=Nat.mul_le_mul_right (2^r) (show x+1≤1073741824 by omega)
   rw[Nat.add_mul,Nat.one_mul]at this
   exact this
  have hpl2:p<1152921504606846976:=zd
  have hw:∀ [Inhabited Nat],wrap64 ((x:Int)*2^(n%30))=(p:Int):=by
   intro _
   have e:(x:Int)*2^(n%30)=((x*2^(n%30):Nat):Int):=by push_cast;rfl
   rw[e,HRR.out,hp]
   exact zht p zd
  have hcq:(p+c) / 1073741824<2^r:=by
   rw[Nat.div_lt_iff_lt_mul ze]
   have:=HCL.out
   omega
  have HP:=zH hp
  have HCQ:=zH hcq
  clear hx hgx hcell1 hne hLL1 hp hpl hcq
  ((repeat (go_wp2_with (first | (at_builtin;refine yk rfl _ _ _ _ rfl ze ze ug (HO.out.alloc _) zb _ zb [(p+c)%1073741824] (xl Tryz.underlying35 _ ((p+c)%1073741824) _ zd) zh ?_;intro v1 w1 ho1 hs1));first|refine cZ ?_|refine cW ?_));go_wp2_with (first | (at_builtin;refine yk rfl _ _ _ _ rfl ze ze ug (HO.out.alloc _) zb _ zb [(p+c)%1073741824] (xl Tryz.underlying35 _ ((p+c)%1073741824) _ zd) zh ?_;intro v1 w1 ho1 hs1)))
  clear hw
  exact wo HRK (N1-(i+1)) (by have:=HKK.out;omega) ⟨i+1,(p+c) / 1073741824,l++[(p+c)%1073741824],v1,zd,rfl,HCQ.out,by simp[hll];omega,HLM.out.append (Limbs.one (Nat.mod_lt _ ze)),zk8 hll HV.out (by rw[HGX.out,HP.out]),zb,zb,zj,zb,zb,zj,ho1,xt (Nat.le_refl _) (ya HG.out (World.grownBy_alloc wk _ none)) (HO.out.alloc _) hs1⟩
theorem zmq {P:Program} {o:Oper} {K:Act→World→Prop} {Q:Exit→Act→World→Prop} {w:World} {n:Nat} {env:List (Nat×Value)} {σ:Nat→Value} (ks kx d:Nat) (t tx:TypeId)
  (ho:o.op=.call { callee:=.builtin .append,args:=#[.tmp ks,.tmp kx],argTypes:=#[t,tx] }) (hd:o.dst=some d) (hks:ks<n) (hkx:kx<n) (hty:zu5 P t) {T:Nat} {v:Value} {xs:List Nat} (hown:OwnI T w v xs) (hs:over env σ ks=v)
  (xv:Value) (hx:over env σ kx=xv) (ys:List Nat) (hsrc:Src P 1 tx xv ys.length (ys.map qd) w) (hb:xs.length+ys.length≤10000000)
  (h:∀ v' w',OwnI T w' v' (xs++ys)→Stp w v w' v'→K (Fr n ((d,v')::env) σ) w'):Oper.wp P o (Fr n env σ) w K Q:=by
 obtain⟨e,i,z,h1,h2,h3,h4,h5,h6⟩:=hty
 have hlt:=hown.lt
 obtain⟨v',w',hrun,hown',hstp⟩:=ql (P:=P) w t tx o.type e i z h1 h2 h3 h4 h5 v (xs.map qd) hown.1 xv ys.length (ys.map qd) hsrc zαi zd
 have es:=(jd n env σ ks hks).trans hs
 have ex:=(jd n env σ kx hkx).trans hx
 unfold Oper.wp execOp
 simp only[ho,resolve,invoke,builtin,Sem.run_bind,Sem.run_pure,Result.andThen_ok,List.map_toArray,List.map_cons,List.map_nil,es,ex,hrun]
 show K ((Fr n env σ).put o.dst v') w'
 rw[hd,zkt]
 refine h v' w' ⟨by rw[List.map_append];exact hown',fun k hk=>?_⟩ hstp
 by_cases hkl:k<w.heap.size
 ·exact hown.2 k (hstp.2 k hk hkl)
 ·omega
theorem zfg (l:List Nat) (x:Nat) (hl:Limbs l) (h:∀ j,j<l.length→l.getD j 0=x / 1073741824^j%1073741824) (hx:x<1073741824^l.length):xo l=x:=by
 induction l generalizing x with
 | nil=>simp at hx;simp[xo,hx]
 | cons y r ih=>
  have h0:=h 0 zi
  simp[List.getD]at h0
  have h1:=ih (x / 1073741824) hl.cons.2 (fun j hj=>by
   have:=h (j+1) (by simpa using hj)
   rw[List.getD_cons_succ,Nat.pow_succ,Nat.mul_comm,←Nat.div_div_eq_div_mul]at this
   exact this) (by
   rw[List.length_cons,Nat.pow_succ]at hx
   exact (Nat.div_lt_iff_lt_mul ze).2 hx)
  rw[xo,h1,h0]
  omega
set_option maxRecDepth 10000 in
theorem ziw (v1:Value) (a n:Nat) (w:World) (hr1:NatV w v1 a) (hx1:(yf a).length≤100000) (hn:n≤3000000):
  Calls Tryz.prog 87 #[v1,.int .i64 (n:Int)] w fun e w'=>∃ v',e=.returned v'∧NatV w' v' (a / 2^n)∧w.grownBy w' none:=by
 obtain⟨a1,c1,rfl⟩:=hr1.len
 obtain⟨N1,hN1⟩:=zX ((yf a).length)
 unfold NatV at hr1
 simp only[hN1]at hr1 ⊢
 rw[hN1]at hx1
 have HN1:=zH hN1
 have HR1:=zH hr1
 obtain⟨q,hq⟩:=zX (n / 30)
 obtain⟨r,hr⟩:=zX (n%30)
 have hq2:q≤100000:=zd
 have hr2:r<30:=zd
 have hhi:∀ i,((yf a).getD (q+i) 0 / 2^r+(yf a).getD (q+i+1) 0*2^(30-r))%1073741824=a / 2^n / 1073741824^i%1073741824:=fun i=>by
  have:=zoj a n i
  rw[hq,hr]at this
  exact this
 have HHI:=zH hhi
 have HO0:=zH (OwnI.fresh0 (T:=w.heap.size) (w:=w) (Nat.le_refl _) 3)
 have HG0:=zH (World.grownBy_alloc w (.cells #[] 3) none)
 have hq3:(n:Int) / 30=(q:Int):=zd
 have hr3:(n:Int)%30=(r:Int):=zd
 have hr4:(n:Int).tmod 30=(r:Int):=by rw[Int.tmod_eq_emod_of_nonneg zd];exact hr3
 have hr5:IntKind.i64.wrap (30-(r:Int))=((30-r:Nat):Int):=by
  rw[show (30:Int)-(r:Int)=((30-r:Nat):Int) by omega]
  exact vt _ zd
 have HQ:=zH hq
 have HR4:=zH hr4
 have HR5:=zH hr5
 clear hr1 hN1 hq hr hhi hr3 hr4 hr5
 refine ye Tryz.func87 rfl (by rw[Tryz.ntmps87];simp) ?_
 intro σ hσ
 rw[Tryz.ntmps87]
 have s0:σ 0=.slice a1 N1 c1:=hσ 0 zi
 have s1:σ 1=.int .i64 (n:Int):=hσ 1 zi
 clear hσ
 (go_wp2_with fail;repeat ((first|refine cZ ?_|refine cW ?_);go_wp2_with fail))
 refine xb (fun kk s' w'=>∃ (k i:Nat) (l:List Nat) (v:Value),k=q+i∧kk=N1-k∧(i=0∨k≤N1)∧l.length=i∧Limbs l∧(∀ j,j<i→l.getD j 0=a / 2^n / 1073741824^j%1073741824)∧s' 0=.slice a1 N1 c1∧s' 1=.int .i64 (n:Int)∧s' 5=v∧s' 6=.int .i64 (k:Int)∧OwnI w.heap.size w' v l∧w.grownBy w' none) (N1-q)
  ⟨q,0,[],_,rfl,rfl,Or.inl rfl,rfl,Limbs.nil,fun j hj=>zd,zb,zb,zb,zb,HO0.out,HG0.out⟩ ?_
 clear s0 s1 σ HO0 HG0 hq3
 rintro kk σ wk ⟨k,i,l,v,hki,hkk,hor,hll,hlm,hval,s0,s1,s5,s6,hown,hg⟩ RK KK HRK hKK
 have HKK:=zH hkk
 have HLM:=zH hlm
 have HV:=zH hval
 have HO:=zH hown
 have HG:=zH hg
 have HOR:=zH hor
 have HKI:=zH hki
 have hk5:k≤200000:=zd
 have hi5:i≤200000:=zd
 clear hkk hlm hval hown hg hor hki
 by_cases hend:k<N1
 case neg=>
  have f1:decide ((k:Int)<(N1:Int))=false:=zh
  have f2:decide (k<N1)=false:=zh
  have hlv:xo l=a / 2^n:=by
   refine zfg l _ HLM.out (fun j hj=>HV.out j zd) ?_
   rw[hll]
   refine (Nat.div_lt_iff_lt_mul (Nat.pow_pos ze)).2 ?_
   have h1:=wu a
   rw[HN1.out]at h1
   refine Nat.lt_of_lt_of_le h1 ?_
   rw[js,js,←Nat.pow_add]
   refine Nat.pow_le_pow_right ze ?_
   have:=HKI.out
   have:=HQ.out
   omega
  have hT:=kr v l wk (RdI.of_own HO.out) (by have:=HOR.out;have:=HKI.out;omega) HLM.out
  rw[hlv]at hT
  have HT:=zH hT
  clear hT hlv
  (go_wp2_with fail;repeat ((first|refine cZ ?_|refine cW ?_);go_wp2_with fail))
  refine HT.out.mono ?_
  rintro e w5 ⟨v5,rfl,hn5,hg5⟩
  have HN5:=zH hn5
  have HG5:=zH (ya HG.out hg5)
  clear hn5 hg5
  (go_wp2_with fail;repeat ((first|refine cZ ?_|refine cW ?_);go_wp2_with fail))
  exact yl v5 rfl ze zb ⟨v5,rfl,HN5.out,HG5.out⟩
 case pos=>
  have f1:(k:Int)<(N1:Int):=zd
  have hne:yf a≠[]:=by intro h;have:=HN1.out;rw[h]at this;simp at this;omega
  obtain⟨g1,rfl,hLL1,hcc1,hm1,hcell1⟩:=HR1.out.at hne
  obtain⟨x,hx⟩:∃ u,(yf a)[k]?=some u:=⟨(yf a)[k]' zG,List.getElem?_eq_getElem _⟩
  have hc1:=hcell1 k x hx
  unfold qd at hc1
  have hgx:(yf a).getD k 0=x:=by rw[List.getD_eq_getElem?_getD,hx];rfl
  have hxl:x<1073741824:=by rw[←hgx];exact (wt a).getD _
  have hyl:=(wt a).getD (k+1)
  have hA:=fun (W:World) (hW:w.grownBy W none)=>zds (.slice (some ⟨g1,0,none⟩) N1 c1) (yf a) (k+1) W (HR1.out.grown hW) zd zG
  have hlimb:=HHI.out i
  rw[←HKI.out,hgx]at hlimb
  generalize (yf a).getD (k+1) 0=y at hA hyl hlimb
  have HA:=zH hA
  have HC1:=zH hc1
  have HLB:=zH hlimb
  clear hx hgx hcell1 hne hLL1 hA hc1 hlimb
  (go_wp2_with fail;repeat ((first|refine cZ ?_|refine cW ?_);go_wp2_with fail))
  refine wp_region_noPanic ?_
  refine wp_region_held_drew (S:=fun w'=>w.grownBy w' none) zg (ya HG.out (yh wk 1 none)) (fun hHeld=>?_)
  have hod:=HO.out.drew
  generalize wk.drew=wd at hHeld hod ⊢
  have HOD:=zH hod
  clear hod
  have hw1:IntKind.i64.wrap ((k:Int)+1)=((k+1:Nat):Int):=by
   rw[show (k:Int)+1=((k+1:Nat):Int) by omega]
   exact vt _ zd
  have HW1:=zH hw1
  clear hw1
  have hp1:2^(30-r)≤1073741824:=by
   have:=Nat.pow_le_pow_right (n:=2) ze (show 30-r≤30 by omega)
   omega
  obtain⟨p,hp⟩:=zX (y*2^(30-r))
  have hpl:p<1152921504606846976:=by
   rw[←hp]
   have h1:=Nat.mul_le_mul (show y≤1073741823 by omega) hp1
   omega
  have hd1:x / 2^r≤x:=Nat.div_le_self _ _
  obtain⟨u,hu⟩:=zX (x / 2^r)
  have HP:=zH hp
  have HU:=zH hu
  have hul:u<1073741824:=zd
  have e1:((x:Int) / 2^r)=(u:Int):=by rw[←hu];push_cast;rfl
  have e2:((y:Int)*2^(30-r))=(p:Int):=by rw[←hp];push_cast;rfl
  have hwp:IntKind.i64.wrap (p:Int)=(p:Int):=vt p zd
  have hws:IntKind.i64.wrap ((u:Int)+(p:Int))=((u+p:Nat):Int):=by
   rw[show (u:Int)+(p:Int)=((u+p:Nat):Int) by omega]
   exact vt _ zd
  have htm:((u+p:Nat):Int).tmod 1073741824=(((u+p)%1073741824:Nat):Int):=by rw[Int.tmod_eq_emod_of_nonneg zd];omega
  have E1:=zH e1
  have E2:=zH e2
  have HWP:=zH hwp
  have HWS:=zH hws
  have HTM:=zH htm
  clear hp hu hd1 hp1 e1 e2 hwp hws htm
  (refine yg 0 16 ?_;refine yg 1 17 ?_;refine yg 2 18 ?_;refine yg 3 19 ?_)
  (refine xg 4 20 (oi:=?_) (v:=?_) ?_ ?_ zg zg zg (fun _ _ _ _ _ h=>h) ?_ zq ?_ ?_;rotate_left 2;(focus ((simp only[List.getElem?_toArray,List.getElem?_cons_succ,List.getElem?_cons_zero]);rfl));(focus rfl);(focus (first | rfl | (simp only[Region.wanted,yielded,List.getElem?_toArray,List.getElem?_cons_succ,List.getElem?_cons_zero,Option.bind_some,Option.map_some,Fr_get?,yc,yd];rfl) | go_simp));(focus (intro W hS;have hcw:=vl hS HC1.out;go_simp;try with_reducible rfl)))
  (refine yg 5 21 ?_)
  (refine xg 6 22 (oi:=?_) (v:=?_) ?_ ?_ zg zg zg (fun _ _ _ _ _ h=>h) ?_ zq ?_ ?_;rotate_left 2;(focus ((simp only[List.getElem?_toArray,List.getElem?_cons_succ,List.getElem?_cons_zero]);rfl));(focus rfl);(focus (first | rfl | (simp only[Region.wanted,yielded,List.getElem?_toArray,List.getElem?_cons_succ,List.getElem?_cons_zero,Option.bind_some,Option.map_some,Fr_get?,yc,yd];rfl) | go_simp));(focus (intro W hS;have hr4:=HR4.out;go_simp;try with_reducible rfl)))
  (refine xg 7 23 (oi:=?_) (v:=?_) ?_ ?_ zg zg zg (fun _ _ _ _ _ h=>h) ?_ zq ?_ ?_;rotate_left 2;(focus ((simp only[List.getElem?_toArray,List.getElem?_cons_succ,List.getElem?_cons_zero]);rfl));(focus rfl);(focus (first | rfl | (simp only[Region.wanted,yielded,List.getElem?_toArray,List.getElem?_cons_succ,List.getElem?_cons_zero,Option.bind_some,Option.map_some,Fr_get?,yc,yd];rfl) | go_simp));(focus (intro W hS;have e1:=E1.out;go_simp;try with_reducible rfl)))
  (refine yg 8 24 ?_;refine yg 9 25 ?_)
  (refine xg 10 26 (oi:=?_) (v:=?_) ?_ ?_ zg zg zg (fun _ _ _ _ _ h=>h) ?_ zq ?_ ?_;rotate_left 2;(focus ((simp only[List.getElem?_toArray,List.getElem?_cons_succ,List.getElem?_cons_zero]);rfl));(focus rfl);(focus (first | rfl | (simp only[Region.wanted,yielded,List.getElem?_toArray,List.getElem?_cons_succ,List.getElem?_cons_zero,Option.bind_some,Option.map_some,Fr_get?,yc,yd];rfl) | go_simp));(focus (intro W hS;have hw1:=HW1.out;go_simp;try with_reducible rfl)))
  (refine yg 12 28 ?_)
  (refine xg 13 29 (oi:=?_) (v:=?_) ?_ ?_ zg zg zg (fun _ _ _ _ _ h=>h) ?_ zq ?_ ?_;rotate_left 2;(focus ((simp only[List.getElem?_toArray,List.getElem?_cons_succ,List.getElem?_cons_zero]);rfl));(focus rfl);(focus (first | rfl | (simp only[Region.wanted,yielded,List.getElem?_toArray,List.getElem?_cons_succ,List.getElem?_cons_zero,Option.bind_some,Option.map_some,Fr_get?,yc,yd];rfl) | go_simp));(focus (intro W hS;have hr4:=HR4.out;go_simp;try with_reducible rfl)))
  (refine xg 14 30 (oi:=?_) (v:=?_) ?_ ?_ zg zg zg (fun _ _ _ _ _ h=>h) ?_ zq ?_ ?_;rotate_left 2;(focus ((simp only[List.getElem?_toArray,List.getElem?_cons_succ,List.getElem?_cons_zero]);rfl));(focus rfl);(focus (first | rfl | (simp only[Region.wanted,yielded,List.getElem?_toArray,List.getElem?_cons_succ,List.getElem?_cons_zero,Option.bind_some,Option.map_some,Fr_get?,yc,yd];rfl) | go_simp));(focus (intro W hS;have hr5:=HR5.out;go_simp;try with_reducible rfl)))
  (refine zO 11 ?_;intro K hK;go_simp;(refine (HA.out _ hHeld).mono ?_;rintro e w9 ⟨rfl,rfl⟩);go_wp2_with fail;replace hHeld:=hHeld;refine hK.out _ _ hHeld ?_;clear hK K)
  (refine xg 15 31 (oi:=?_) (v:=?_) ?_ ?_ zg zg zg (fun _ _ _ _ _ h=>h) ?_ zq ?_ ?_;rotate_left 2;(focus ((simp only[List.getElem?_toArray,List.getElem?_cons_succ,List.getElem?_cons_zero]);rfl));(focus rfl);(focus (first | rfl | (simp only[Region.wanted,yielded,List.getElem?_toArray,List.getElem?_cons_succ,List.getElem?_cons_zero,Option.bind_some,Option.map_some,Fr_get?,yc,yd];rfl) | go_simp));(focus (intro W hS;have e2:=E2.out;have hwp:=HWP.out;go_simp;try with_reducible rfl)))
  (refine xg 16 32 (oi:=?_) (v:=?_) ?_ ?_ zg zg zg (fun _ _ _ _ _ h=>h) ?_ zq ?_ ?_;rotate_left 2;(focus ((simp only[List.getElem?_toArray,List.getElem?_cons_succ,List.getElem?_cons_zero]);rfl));(focus rfl);(focus (first | rfl | (simp only[Region.wanted,yielded,List.getElem?_toArray,List.getElem?_cons_succ,List.getElem?_cons_zero,Option.bind_some,Option.map_some,Fr_get?,yc,yd];rfl) | go_simp));(focus (intro W hS;have hws:=HWS.out;go_simp;try with_reducible rfl)))
  (refine xg 17 33 (oi:=?_) (v:=?_) ?_ ?_ zg zg zg (fun _ _ _ _ _ h=>h) ?_ zq ?_ ?_;rotate_left 2;(focus ((simp only[List.getElem?_toArray,List.getElem?_cons_succ,List.getElem?_cons_zero]);rfl));(focus rfl);(focus (first | rfl | (simp only[Region.wanted,yielded,List.getElem?_toArray,List.getElem?_cons_succ,List.getElem?_cons_zero,Option.bind_some,Option.map_some,Fr_get?,yc,yd];rfl) | go_simp));(focus (intro W hS;have htm:=HTM.out;go_simp;try with_reducible rfl)))
  (refine znk 18 (oi:=?_) ?_ zg ?_ ?_;rotate_left 1;(focus ((simp only[List.getElem?_toArray,List.getElem?_cons_succ,List.getElem?_cons_zero]);rfl));(focus rfl);intro K hK;go_simp;refine hK.out _ _ (ya hHeld (World.grownBy_alloc _ _ none)) ?_;clear hK K)
  (refine znk 19 (oi:=?_) ?_ zg ?_ ?_;rotate_left 1;(focus ((simp only[List.getElem?_toArray,List.getElem?_cons_succ,List.getElem?_cons_zero]);rfl));(focus rfl);intro K hK;refine zmq 16 34 35 _ _ rfl rfl ze ze ug (HOD.out.alloc _) zb _ zb [(u+p)%1073741824] (xl Tryz.underlying35 _ ((u+p)%1073741824) _ (by rw[Int.tmod_eq_emod_of_nonneg zd];omega)) zh ?_;intro v1 w1 ho1 hs1;have hH1:w.grownBy w1 none:=xt (Nat.le_refl _) (ya hHeld (World.grownBy_alloc _ _ none)) (HOD.out.alloc _) hs1;refine hK.out _ _ hH1 ?_;clear hK K hs1 hHeld)
  (refine yg 20 5 ?_)
  refine wpAnyH_done zg ?_ _
  refine NoPanic.normal ?_
  have HO1:=zH ho1
  have HH1:=zH hH1
  clear ho1 hH1
  (go_wp2_with fail;repeat ((first|refine cZ ?_|refine cW ?_);go_wp2_with fail))
  refine wo HRK (N1-(k+1)) (by have:=HKK.out;omega) ⟨k+1,i+1,l++[(u+p)%1073741824],v1,by have:=HKI.out;omega,rfl,Or.inr zd,by simp[hll],HLM.out.append (Limbs.one (Nat.mod_lt _ ze)),fun j hj=>?_,zb,zb,zb,zj,HO1.out,HH1.out⟩
  by_cases hji:j<i
  ·rw[List.getD_eq_getElem?_getD,List.getElem?_append_left zd,←List.getD_eq_getElem?_getD]
   exact HV.out j hji
  ·have hji2:j=i:=zd
   subst hji2
   rw[List.getD_eq_getElem?_getD,List.getElem?_append_right zd,hll,Nat.sub_self,←HLB.out,HU.out,HP.out]
   rfl
theorem zed:yf (1 / 1073741824)=[]:=by rw[Nat.div_eq_of_lt ze];exact xm
set_option maxRecDepth 10000 in
theorem zl3 (v1 v2:Value) (a b:Nat) (w:World) (hr1:NatV w v1 a) (hr2:NatV w v2 b) (hb:0<b) (hx1:(yf a).length≤90000) (hx2:(yf b).length≤90000):
  Calls Tryz.prog 72 #[v1,v2] w fun e w'=>∃ vq vr,e=.returned (.tuple #[vq,vr])∧NatV w' vq (a / b)∧NatV w' vr (a%b)∧w.grownBy w' none:=by
 obtain⟨a1,c1,rfl⟩:=hr1.len
 have hB1:=kf _ a w hr1 zd
 have hB2:=kf _ b w hr2 zd
 obtain⟨N1,hN1⟩:=zX ((yf a).length)
 simp only[hN1]at hr1 hB1 ⊢
 rw[hN1]at hx1
 have hnb:yu a≤30*N1:=by
  by_cases h0:a=0
  ·rw[h0];simp[yu]
  ·have h1:=vw h0
   have h2:=wu a
   rw[hN1,js]at h2
   have h3:=(Nat.pow_lt_pow_iff_right (a:=2) ze).1 (Nat.lt_of_le_of_lt h1 h2)
   omega
 have HN1:=zH hN1
 have HR1:=zH hr1
 have HR2:=zH hr2
 have hmk:=zny N1 zd
 have HO0:=zH (OwnI.made (T:=w.heap.size) (w:=w) (Nat.le_refl _) N1 zd)
 have HG0:=zH (World.grownBy_alloc w (.cells (madeCells #[.int .i64 0] N1) 3) none)
 obtain⟨m0,hm0,hm1,hm2,hm3⟩:∃ m0:Nat,m0≤30*N1∧(max 0 ((yu a:Int)-(yu b:Int)+1)=(m0:Int))∧(((yu a:Int)-(yu b:Int)<0∧m0=0)∨(yu a:Int)-(yu b:Int)=(m0:Int)-1)∧a / 2^m0<b:=by
  by_cases h:yu a<yu b
  ·exact⟨0,zd,zd,Or.inl ⟨zd,rfl⟩,by simpa using zo4 h⟩
  ·have hp:=un (show b≠0 by omega)
   exact⟨yu a-yu b+1,zd,zd,Or.inr zd,zo3 a b (yu a-yu b) zd zd⟩
 have hH:=fun (W:World) (z:Int) (hz:z=(m0:Int)) (h:NatV W (.slice a1 N1 c1) a)=>hz ▸ ziw (.slice a1 N1 c1) a m0 W h zd zd
 have HH:=zH hH
 have HM3:=zH hm3
 have hcs:((yu a:Int)-(yu b:Int)+1≤0)∨(0<(yu a:Int)-(yu b:Int)+1):=zd
 have HM1:=zH hm1
 have HM2:=zH hm2
 generalize hna:yu a=na at *
 generalize hnb2:yu b=nb at *
 have HB1:=zH hB1
 have HB2:=zH hB2
 have hnbb:nb≤3000000:=by
  have h0:b≠0:=zd
  have h1:=vw h0
  have h2:=wu b
  rw[js]at h2
  have h3:=(Nat.pow_lt_pow_iff_right (a:=2) ze).1 (Nat.lt_of_le_of_lt h1 h2)
  omega
 clear hr1 hr2 hN1 hH hm3 hm2 hm1 hB1 hB2 hna hnb2
 refine ye Tryz.func72 rfl (by rw[Tryz.ntmps72];simp) ?_
 intro σ hσ
 rw[Tryz.ntmps72]
 have s0:σ 0=.slice a1 N1 c1:=hσ 0 zi
 have s1:σ 1=v2:=hσ 1 zi
 clear hσ
 rcases hcs with hcs | hcs
 all_goals
  (go_wp2_with fail;repeat ((first|refine cZ ?_|refine cW ?_);go_wp2_with fail))
  refine HB1.out.mono ?_
  rintro e w1 ⟨rfl,rfl⟩
  (go_wp2_with fail;repeat ((first|refine cZ ?_|refine cW ?_);go_wp2_with fail))
  refine HB2.out.mono ?_
  rintro e w1 ⟨rfl,rfl⟩
  (go_wp2_with fail;repeat ((first|refine cZ ?_|refine cW ?_);go_wp2_with fail))
  refine (HH.out _ _ (by have:=HM1.out;omega) (HR1.out.grown HG0.out)).mono ?_
  rintro e wr ⟨vr,rfl,hnr,hgr⟩
  have HNR:=zH hnr
  have HGR:=zH (ya HG0.out hgr)
  have HOR:=zH (HO0.out.grown0 hgr)
  clear hnr hgr hmk
  (go_wp2_with fail;repeat ((first|refine cZ ?_|refine cW ?_);go_wp2_with fail))
  obtain⟨B0,hB0⟩:=zX w.heap.size
  simp only[hB0]at HOR ⊢
  have HB0:=zH hB0
  clear hB0
  refine xb (fun kk s' w'=>∃ (m:Nat) (d:Int) (vr:Value) (l:List Nat),kk=m∧m≤30*N1∧((d<0∧m=0)∨d=(m:Int)-1)∧l.length=N1∧Limbs l∧xo l=2^m*(a / 2^m / b)∧s' 0=.slice a1 N1 c1∧s' 1=v2∧s' 7=.slice (some ⟨B0,0,none⟩) N1 N1∧s' 8=vr∧s' 9=.int .i64 d∧NatV w' vr (a / 2^m%b)∧OwnI B0 w' (.slice (some ⟨B0,0,none⟩) N1 N1) l∧w.grownBy w' none) m0
   ⟨m0,_,vr,List.replicate N1 0,rfl,hm0,HM2.out,zi,Limbs.rep _,by rw[zff,Nat.div_eq_of_lt HM3.out,Nat.mul_zero],zb,zb,zb,zb,zb,by rw[Nat.mod_eq_of_lt HM3.out];exact HNR.out,HOR.out,HGR.out⟩ ?_
  clear s0 s1 σ HNR HGR HOR HO0 HG0 HH HB1 HB2 HM1 HM2 HM3 hcs
  rintro kk σ wk ⟨m,d,vr,l,hkk,hmN,hd,hll,hlm,hval,s0,s1,s7,s8,s9,hnr,hown,hg⟩ RK KK HRK hKK
  have HKK:=zH hkk
  have HLM:=zH hlm
  have HV:=zH hval
  have HO:=zH hown
  have HG:=zH hg
  have HNR:=zH hnr
  have HLL:=zH hll
  clear hkk hlm hval hown hg hnr hll
  by_cases hd0:d<0
  ·have hm00:m=0:=zd
   have hlv:xo l=a / b:=by
    rw[HV.out,hm00];simp
   have hT:=kr _ l wk (RdI.of_own HO.out) (by rw[HLL.out];omega) HLM.out
   rw[hlv]at hT
   have HT:=zH hT
   have hnr2:NatV wk vr (a%b):=by have:=HNR.out;rw[hm00]at this;simpa using this
   have HNR2:=zH hnr2
   clear hT hlv hd hnr2
   (go_wp2_with fail;repeat ((first|refine cZ ?_|refine cW ?_);go_wp2_with fail))
   refine HT.out.mono ?_
   rintro e w5 ⟨v5,rfl,hn5,hg5⟩
   have HN5:=zH hn5
   have HG5:=zH hg5
   clear hn5 hg5
   (go_wp2_with fail;repeat ((first|refine cZ ?_|refine cW ?_);go_wp2_with fail))
   exact xc v5 vr rfl ze ze zb zb ⟨v5,vr,rfl,HN5.out,HNR2.out.grown HG5.out,ya HG.out HG5.out⟩
  ·obtain⟨j,rfl⟩:∃ j,m=j+1:=⟨m-1,zd⟩
   have hdj:d=(j:Int):=zd
   subst hdj
   clear hd hd0
   obtain⟨R,hR⟩:=zX (a / 2^(j+1)%b)
   obtain⟨t,ht⟩:=zX (a / 2^j%2)
   have hst:=zrt a b j hb
   rw[hR,ht]at hst
   rw[hR]at HNR
   have hRb:R<b:=by rw[←hR];exact Nat.mod_lt _ hb
   have ht2:t<2:=by rw[←ht];exact Nat.mod_lt _ ze
   have hlR:(yf R).length≤90000:=Nat.le_trans (qt zd) hx2
   have hl2:∀ x,x≤2*b→(yf x).length≤90001:=fun x hx=>by
    have h3:=yv (n:=x) (k:=(yf b).length+1) (by
     have h1:=wu b
     rw[Nat.pow_succ]
     generalize 1073741824^(yf b).length=Y at h1 ⊢
     omega)
    omega
   have HSH:=zH (fun (W:World) (h:NatV W vr R)=>qe vr R 1 W h zd zd)
   have hbt:=fun (W:World) (h:w.grownBy W none)=>zu2 (.slice a1 N1 c1) a j W (HR1.out.grown h) zG zd
   rw[ht]at hbt
   have HBT:=zH hbt
   have HON:=zH (fun W=>ww 1 W ze)
   have HAD:=zH (fun (V U:Value) (W:World) (h1:NatV W V (R*2^1)) (h2:NatV W U 1)=>zbe V U (R*2^1) 1 W h1 h2 (by have:=hl2 (R*2^1) zd;omega) (by rw[uj ze,zed];simp))
   have HCM:=zH (fun (V:Value) (X:Nat) (W:World) (hX:X≤2*b) (h1:NatV W V X) (h2:w.grownBy W none)=>qy V v2 X b W h1 (HR2.out.grown h2) (by have:=hl2 X hX;omega) zd)
   have HSB:=zH (fun (V:Value) (X:Nat) (W:World) (hX:X≤2*b) (hXb:b≤X) (h1:NatV W V X) (h2:w.grownBy W none)=>zaw V v2 X b W h1 (HR2.out.grown h2) (by have:=hl2 X hX;omega) hXb)
   have HST:=zH hst
   clear hR ht hst hlR hl2 hbt
   by_cases ht1:t=1
   ·subst ht1
    by_cases hXb:b≤R*2^1+1
    ·
     (go_wp2_with fail;repeat ((first|refine cZ ?_|refine cW ?_);go_wp2_with fail))
     refine (HSH.out _ HNR.out).mono ?_
     rintro e w2 ⟨v3,rfl,hn2,hg2⟩
     have HN2:=zH hn2
     have HG2:=zH (ya HG.out hg2)
     have HO2:=zH (HO.out.grown0 hg2)
     clear hn2 hg2
     (go_wp2_with fail;repeat ((first|refine cZ ?_|refine cW ?_);go_wp2_with fail))
     refine (HBT.out _ HG2.out).mono ?_
     rintro e w3 ⟨rfl,rfl⟩
     (go_wp2_with fail;repeat ((first|refine cZ ?_|refine cW ?_);go_wp2_with fail))
     refine (HON.out _).mono ?_
     rintro e w4 ⟨v4,rfl,hn4,hg4⟩
     have HN4:=zH hn4
     have HN2':=zH (HN2.out.grown hg4)
     have HG4:=zH (ya HG2.out hg4)
     have HO4:=zH (HO2.out.grown0 hg4)
     clear hn4 hg4
     (go_wp2_with fail;repeat ((first|refine cZ ?_|refine cW ?_);go_wp2_with fail))
     refine (HAD.out _ _ _ HN2'.out HN4.out).mono ?_
     rintro e w5 ⟨v5,rfl,hn5,hg5⟩
     have HN5:=zH hn5
     have HG5:=zH (ya HG4.out hg5)
     have HO5:=zH (HO4.out.grown0 hg5)
     clear hn5 hg5
     (go_wp2_with fail;repeat ((first|refine cZ ?_|refine cW ?_);go_wp2_with fail))
     have hcmp:=HCM.out _ (R*2^1+1) _ zd HN5.out HG5.out
     have hge:b≤(R*2^1+1):=hXb
     obtain⟨κ,hκ,hκ0⟩:∃ κ:Int,ko (R*2^1+1) b=κ∧0≤κ:=⟨_,rfl,by unfold ko;rw[if_neg zd];split <;> omega⟩
     rw[hκ]at hcmp
     clear hκ hge
     refine hcmp.mono ?_
     rintro e w6 ⟨rfl,hg6⟩
     clear hcmp
     have HN6:=zH (HN5.out.grown hg6)
     have HG6:=zH (ya HG5.out hg6)
     have HO6:=zH (HO5.out.grown0 hg6)
     clear hg6
     (go_wp2_with fail;repeat ((first|refine cZ ?_|refine cW ?_);go_wp2_with fail))
     refine (HSB.out _ (R*2^1+1) _ zd hXb HN6.out HG6.out).mono ?_
     rintro e w7 ⟨v7,rfl,hn7,hg7,hf7⟩
     have HF7:=zH (fun (k:Nat) (hk:v7.ownBlock=some k)=>(show k≠B0 by have:=hf7 k hk;have:=HO6.out.lt;omega))
     have HN7:=zH hn7
     have HG7:=zH (ya HG6.out hg7)
     have HO7:=zH (HO6.out.grown0 hg7)
     clear hn7 hg7 hf7
     (go_wp2_with fail;repeat ((first|refine cZ ?_|refine cW ?_);go_wp2_with fail))
     obtain⟨kq,hkq⟩:=zX (j / 30)
     obtain⟨r,hr⟩:=zX (j%30)
     have hkN:kq<N1:=zd
     have hr30:r<30:=zd
     obtain⟨P,hP⟩:=zX (2^r)
     have hPl:P≤536870912:=by
      rw[←hP]
      have:=Nat.pow_le_pow_right (n:=2) ze (show r≤29 by omega)
      omega
     have hPI:((2:Int)^r)=(P:Int):=by rw[←hP];push_cast;rfl
     obtain⟨o,ho⟩:∃ u,l[kq]?=some u:=⟨l[kq]'(by rw[HLL.out];exact hkN),List.getElem?_eq_getElem _⟩
     have hco:=HO7.out.cell kq o ho
     unfold qd at hco
     have hfo:=HO7.out.frozen kq
     have hgo:l.getD kq 0=o:=by rw[List.getD_eq_getElem?_getD,ho];rfl
     have hql:=zgw HLM.out j _ HV.out
     have hqs:=zjz (l:=l) j (by rw[hkq,HLL.out];exact hkN)
     rw[hkq,hr,hgo,hP]at hql hqs
     have hol:o<1073741824:=zd
     have HQS:=zH hqs
     have HQL:=zH hql
     have q1:∀ [Inhabited Nat],(j:Int).tdiv 30=(kq:Int):=by intro _;rw[Int.tdiv_eq_ediv_of_nonneg zd];omega
     have q2:∀ [Inhabited Nat],(j:Int) / 30=(kq:Int):=by intro _;omega
     have r1:∀ [Inhabited Nat],(j:Int).tmod 30=(r:Int):=by intro _;rw[Int.tmod_eq_emod_of_nonneg zd];omega
     have r2:∀ [Inhabited Nat],(j:Int)%30=(r:Int):=by intro _;omega
     have p1:∀ [Inhabited Nat],wrap64 ((2:Int)^r)=(P:Int):=by intro _;rw[hPI];exact zht P zd
     have p2:∀ [Inhabited Nat],IntKind.i64.wrap ((2:Int)^r)=(P:Int):=by intro _;rw[hPI];exact vt P zd
     have p3:∀ [Inhabited Nat],IntKind.i64.wrap (1*(2:Int)^r)=(P:Int):=by intro _;rw[Int.one_mul,hPI];exact vt P zd
     have p4:∀ [Inhabited Nat],IntKind.i64.wrap ((o:Int)+(P:Int))=((o+P:Nat):Int):=by
      intro _
      rw[show (o:Int)+(P:Int)=((o+P:Nat):Int) by omega]
      exact vt _ zd
     have w1q:∀ [Inhabited Nat],IntKind.i64.wrap (kq:Int)=(kq:Int):=by intro _;exact vt kq zd
     have w1r:∀ [Inhabited Nat],IntKind.i64.wrap (r:Int)=(r:Int):=by intro _;exact vt r zd
     have w1P:∀ [Inhabited Nat],IntKind.i64.wrap (P:Int)=(P:Int):=by intro _;exact vt P zd
     have hkN1:(kq:Int)<(N1:Int):=zd
     have HKQ:=zH hkq
     have HRR:=zH hr
     have HPP:=zH hP
     clear hkq hr hP ho hgo hql hqs hPI
     go_still_tail 13,zg
     (go_wp2_with fail;repeat ((first|refine cZ ?_|refine cW ?_);go_wp2_with fail))
     clear q1 q2 r1 r2 p1 p2 p3 p4 w1q w1r w1P hco hfo
     have e2:w7.setCell ⟨B0,kq,none⟩ (.int .i64 ((o:Int)+(P:Int)))=w7.setCell ⟨B0,kq,none⟩ (qd (o+P)):=by
      unfold qd
      rw[show (o:Int)+(P:Int)=((o+P:Nat):Int) by omega]
     rw[e2]
     clear e2
     have hfin:=HST.out.1 zd
     have hown9:OwnI B0 (w7.setCell ⟨B0,kq,none⟩ (qd (o+P))).drew (.slice (some ⟨B0,0,none⟩) N1 N1) (l.set kq (o+P)):=(HO7.out.laid kq (o+P) (by rw[HLL.out];exact hkN)).drew
     have hg9:w.grownBy (w7.setCell ⟨B0,kq,none⟩ (qd (o+P))).drew none:=ya (yb HG7.out _ (by show w.heap.size≤B0;have:=HB0.out;omega)) (yh _ 1 none)
     have hn9:NatV (w7.setCell ⟨B0,kq,none⟩ (qd (o+P))).drew v7 (a / 2^j%b):=by
      refine NatV.grown ?_ (yh _ 1 none)
      rw[hfin.1]
      have:=NatV.set HN7.out ⟨B0,kq,none⟩ (qd (o+P)) HF7.out
      rwa [show (R*2^1+1)-b=2*R+1-b by omega]at this
     have hlv9:xo (l.set kq (o+P))=2^j*(a / 2^j / b):=by
      have h1:=HQS.out
      rw[h1,HV.out,hfin.2,Nat.mul_add,Nat.mul_one,Nat.pow_succ,Nat.mul_assoc]
     refine wo HRK j (by have:=HKK.out;omega) ⟨j,(j:Int)-1,v7,l.set kq (o+P),rfl,zd,Or.inr rfl,by rw[List.length_set];exact HLL.out,HLM.out.set _ _ HQL.out,hlv9,zb,zb,zb,zb,zj,hn9,hown9,hg9⟩
    ·
     (go_wp2_with fail;repeat ((first|refine cZ ?_|refine cW ?_);go_wp2_with fail))
     refine (HSH.out _ HNR.out).mono ?_
     rintro e w2 ⟨v3,rfl,hn2,hg2⟩
     have HN2:=zH hn2
     have HG2:=zH (ya HG.out hg2)
     have HO2:=zH (HO.out.grown0 hg2)
     clear hn2 hg2
     (go_wp2_with fail;repeat ((first|refine cZ ?_|refine cW ?_);go_wp2_with fail))
     refine (HBT.out _ HG2.out).mono ?_
     rintro e w3 ⟨rfl,rfl⟩
     (go_wp2_with fail;repeat ((first|refine cZ ?_|refine cW ?_);go_wp2_with fail))
     refine (HON.out _).mono ?_
     rintro e w4 ⟨v4,rfl,hn4,hg4⟩
     have HN4:=zH hn4
     have HN2':=zH (HN2.out.grown hg4)
     have HG4:=zH (ya HG2.out hg4)
     have HO4:=zH (HO2.out.grown0 hg4)
     clear hn4 hg4
     (go_wp2_with fail;repeat ((first|refine cZ ?_|refine cW ?_);go_wp2_with fail))
     refine (HAD.out _ _ _ HN2'.out HN4.out).mono ?_
     rintro e w5 ⟨v5,rfl,hn5,hg5⟩
     have HN5:=zH hn5
     have HG5:=zH (ya HG4.out hg5)
     have HO5:=zH (HO4.out.grown0 hg5)
     clear hn5 hg5
     (go_wp2_with fail;repeat ((first|refine cZ ?_|refine cW ?_);go_wp2_with fail))
     have hcmp:=HCM.out _ (R*2^1+1) _ zd HN5.out HG5.out
     obtain⟨κ,hκ,hκ0⟩:∃ κ:Int,ko (R*2^1+1) b=κ∧decide (0≤κ)=false:=⟨-1,by unfold ko;rw[if_pos zd],ze⟩
     rw[hκ]at hcmp
     clear hκ
     refine hcmp.mono ?_
     rintro e w6 ⟨rfl,hg6⟩
     clear hcmp
     have HN6:=zH (HN5.out.grown hg6)
     have HG6:=zH (ya HG5.out hg6)
     have HO6:=zH (HO5.out.grown0 hg6)
     clear hg6
     (go_wp2_with fail;repeat ((first|refine cZ ?_|refine cW ?_);go_wp2_with fail))
     have hfin:=HST.out.2 zd
     refine wo HRK j (by have:=HKK.out;omega) ⟨j,(j:Int)-1,v5,l,rfl,zd,Or.inr rfl,HLL.out,HLM.out,by rw[HV.out,hfin.2,Nat.pow_succ,Nat.mul_assoc],zb,zb,zb,zb,zj,?_,HO6.out,HG6.out⟩
     rw[hfin.1]
     have:=HN6.out
     rwa [show (R*2^1+1)=2*R+1 by omega]at this
   ·have ht0:t=0:=zd
    subst ht0
    clear ht1 ht2
    by_cases hXb:b≤R*2^1
    ·
     (go_wp2_with fail;repeat ((first|refine cZ ?_|refine cW ?_);go_wp2_with fail))
     refine (HSH.out _ HNR.out).mono ?_
     rintro e w2 ⟨v3,rfl,hn2,hg2⟩
     have HN2:=zH hn2
     have HG2:=zH (ya HG.out hg2)
     have HO2:=zH (HO.out.grown0 hg2)
     clear hn2 hg2
     (go_wp2_with fail;repeat ((first|refine cZ ?_|refine cW ?_);go_wp2_with fail))
     refine (HBT.out _ HG2.out).mono ?_
     rintro e w3 ⟨rfl,rfl⟩
     (go_wp2_with fail;repeat ((first|refine cZ ?_|refine cW ?_);go_wp2_with fail))
     have hcmp:=HCM.out _ (R*2^1) _ zd HN2.out HG2.out
     have hge:b≤(R*2^1):=hXb
     obtain⟨κ,hκ,hκ0⟩:∃ κ:Int,ko (R*2^1) b=κ∧0≤κ:=⟨_,rfl,by unfold ko;rw[if_neg zd];split <;> omega⟩
     rw[hκ]at hcmp
     clear hκ hge
     refine hcmp.mono ?_
     rintro e w6 ⟨rfl,hg6⟩
     clear hcmp
     have HN6:=zH (HN2.out.grown hg6)
     have HG6:=zH (ya HG2.out hg6)
     have HO6:=zH (HO2.out.grown0 hg6)
     clear hg6
     (go_wp2_with fail;repeat ((first|refine cZ ?_|refine cW ?_);go_wp2_with fail))
     refine (HSB.out _ (R*2^1) _ zd hXb HN6.out HG6.out).mono ?_
     rintro e w7 ⟨v7,rfl,hn7,hg7,hf7⟩
     have HF7:=zH (fun (k:Nat) (hk:v7.ownBlock=some k)=>(show k≠B0 by have:=hf7 k hk;have:=HO6.out.lt;omega))
     have HN7:=zH hn7
     have HG7:=zH (ya HG6.out hg7)
     have HO7:=zH (HO6.out.grown0 hg7)
     clear hn7 hg7 hf7
     (go_wp2_with fail;repeat ((first|refine cZ ?_|refine cW ?_);go_wp2_with fail))
     obtain⟨kq,hkq⟩:=zX (j / 30)
     obtain⟨r,hr⟩:=zX (j%30)
     have hkN:kq<N1:=zd
     have hr30:r<30:=zd
     obtain⟨P,hP⟩:=zX (2^r)
     have hPl:P≤536870912:=by
      rw[←hP]
      have:=Nat.pow_le_pow_right (n:=2) ze (show r≤29 by omega)
      omega
     have hPI:((2:Int)^r)=(P:Int):=by rw[←hP];push_cast;rfl
     obtain⟨o,ho⟩:∃ u,l[kq]?=some u:=⟨l[kq]'(by rw[HLL.out];exact hkN),List.getElem?_eq_getElem _⟩
     have hco:=HO7.out.cell kq o ho
     unfold qd at hco
     have hfo:=HO7.out.frozen kq
     have hgo:l.getD kq 0=o:=by rw[List.getD_eq_getElem?_getD,ho];rfl
     have hql:=zgw HLM.out j _ HV.out
     have hqs:=zjz (l:=l) j (by rw[hkq,HLL.out];exact hkN)
     rw[hkq,hr,hgo,hP]at hql hqs
     have hol:o<1073741824:=zd
     have HQS:=zH hqs
     have HQL:=zH hql
     have q1:∀ [Inhabited Nat],(j:Int).tdiv 30=(kq:Int):=by intro _;rw[Int.tdiv_eq_ediv_of_nonneg zd];omega
     have q2:∀ [Inhabited Nat],(j:Int) / 30=(kq:Int):=by intro _;omega
     have r1:∀ [Inhabited Nat],(j:Int).tmod 30=(r:Int):=by intro _;rw[Int.tmod_eq_emod_of_nonneg zd];omega
     have r2:∀ [Inhabited Nat],(j:Int)%30=(r:Int):=by intro _;omega
     have p1:∀ [Inhabited Nat],wrap64 ((2:Int)^r)=(P:Int):=by intro _;rw[hPI];exact zht P zd
     have p2:∀ [Inhabited Nat],IntKind.i64.wrap ((2:Int)^r)=(P:Int):=by intro _;rw[hPI];exact vt P zd
     have p3:∀ [Inhabited Nat],IntKind.i64.wrap (1*(2:Int)^r)=(P:Int):=by intro _;rw[Int.one_mul,hPI];exact vt P zd
     have p4:∀ [Inhabited Nat],IntKind.i64.wrap ((o:Int)+(P:Int))=((o+P:Nat):Int):=by
      intro _
      rw[show (o:Int)+(P:Int)=((o+P:Nat):Int) by omega]
      exact vt _ zd
     have w1q:∀ [Inhabited Nat],IntKind.i64.wrap (kq:Int)=(kq:Int):=by intro _;exact vt kq zd
     have w1r:∀ [Inhabited Nat],IntKind.i64.wrap (r:Int)=(r:Int):=by intro _;exact vt r zd
     have w1P:∀ [Inhabited Nat],IntKind.i64.wrap (P:Int)=(P:Int):=by intro _;exact vt P zd
     have hkN1:(kq:Int)<(N1:Int):=zd
     have HKQ:=zH hkq
     have HRR:=zH hr
     have HPP:=zH hP
     clear hkq hr hP ho hgo hql hqs hPI
     go_still_tail 13,zg
     (go_wp2_with fail;repeat ((first|refine cZ ?_|refine cW ?_);go_wp2_with fail))
     clear q1 q2 r1 r2 p1 p2 p3 p4 w1q w1r w1P hco hfo
     have e2:w7.setCell ⟨B0,kq,none⟩ (.int .i64 ((o:Int)+(P:Int)))=w7.setCell ⟨B0,kq,none⟩ (qd (o+P)):=by
      unfold qd
      rw[show (o:Int)+(P:Int)=((o+P:Nat):Int) by omega]
     rw[e2]
     clear e2
     have hfin:=HST.out.1 zd
     have hown9:OwnI B0 (w7.setCell ⟨B0,kq,none⟩ (qd (o+P))).drew (.slice (some ⟨B0,0,none⟩) N1 N1) (l.set kq (o+P)):=(HO7.out.laid kq (o+P) (by rw[HLL.out];exact hkN)).drew
     have hg9:w.grownBy (w7.setCell ⟨B0,kq,none⟩ (qd (o+P))).drew none:=ya (yb HG7.out _ (by show w.heap.size≤B0;have:=HB0.out;omega)) (yh _ 1 none)
     have hn9:NatV (w7.setCell ⟨B0,kq,none⟩ (qd (o+P))).drew v7 (a / 2^j%b):=by
      refine NatV.grown ?_ (yh _ 1 none)
      rw[hfin.1]
      have:=NatV.set HN7.out ⟨B0,kq,none⟩ (qd (o+P)) HF7.out
      rwa [show (R*2^1)-b=2*R+0-b by omega]at this
     have hlv9:xo (l.set kq (o+P))=2^j*(a / 2^j / b):=by
      have h1:=HQS.out
      rw[h1,HV.out,hfin.2,Nat.mul_add,Nat.mul_one,Nat.pow_succ,Nat.mul_assoc]
     refine wo HRK j (by have:=HKK.out;omega) ⟨j,(j:Int)-1,v7,l.set kq (o+P),rfl,zd,Or.inr rfl,by rw[List.length_set];exact HLL.out,HLM.out.set _ _ HQL.out,hlv9,zb,zb,zb,zb,zj,hn9,hown9,hg9⟩
    ·
     (go_wp2_with fail;repeat ((first|refine cZ ?_|refine cW ?_);go_wp2_with fail))
     refine (HSH.out _ HNR.out).mono ?_
     rintro e w2 ⟨v3,rfl,hn2,hg2⟩
     have HN2:=zH hn2
     have HG2:=zH (ya HG.out hg2)
     have HO2:=zH (HO.out.grown0 hg2)
     clear hn2 hg2
     (go_wp2_with fail;repeat ((first|refine cZ ?_|refine cW ?_);go_wp2_with fail))
     refine (HBT.out _ HG2.out).mono ?_
     rintro e w3 ⟨rfl,rfl⟩
     (go_wp2_with fail;repeat ((first|refine cZ ?_|refine cW ?_);go_wp2_with fail))
     have hcmp:=HCM.out _ (R*2^1) _ zd HN2.out HG2.out
     obtain⟨κ,hκ,hκ0⟩:∃ κ:Int,ko (R*2^1) b=κ∧decide (0≤κ)=false:=⟨-1,by unfold ko;rw[if_pos zd],ze⟩
     rw[hκ]at hcmp
     clear hκ
     refine hcmp.mono ?_
     rintro e w6 ⟨rfl,hg6⟩
     clear hcmp
     have HN6:=zH (HN2.out.grown hg6)
     have HG6:=zH (ya HG2.out hg6)
     have HO6:=zH (HO2.out.grown0 hg6)
     clear hg6
     (go_wp2_with fail;repeat ((first|refine cZ ?_|refine cW ?_);go_wp2_with fail))
     have hfin:=HST.out.2 zd
     refine wo HRK j (by have:=HKK.out;omega) ⟨j,(j:Int)-1,v3,l,rfl,zd,Or.inr rfl,HLL.out,HLM.out,by rw[HV.out,hfin.2,Nat.pow_succ,Nat.mul_assoc],zb,zb,zb,zb,zj,?_,HO6.out,HG6.out⟩
     rw[hfin.1]
     have:=HN6.out
     rwa [show (R*2^1)=2*R+0 by omega]at this
def vi (a b:Nat):Nat:=if b<2*(a%b)∨(2*(a%b)=b∧a / b%2=1) then a / b+1 else a / b
set_option maxRecDepth 10000 in
theorem zh6 (neg:Bool) (vn vd:Value) (a b:Nat) (w:World) (hr1:NatV w vn a) (hr2:NatV w vd b) (hb:0<b) (hx1:(yf a).length≤80000) (hx2:(yf b).length≤80000):
  Calls Tryz.prog 51 #[.agg #[.bool neg,vn,vd]] w fun e w'=>∃ v',e=.returned v'∧NatV w' v' (vi a b)∧w.grownBy w' none:=by
 obtain⟨a1,c1,rfl⟩:=hr1.len
 obtain⟨a2,c2,rfl⟩:=hr2.len
 obtain⟨N1,hN1⟩:=zX ((yf a).length)
 obtain⟨N2,hN2⟩:=zX ((yf b).length)
 simp only[hN1]at hr1 ⊢
 simp only[hN2]at hr2 ⊢
 have hlq:(yf (a / b)).length≤80000:=Nat.le_trans (qt (Nat.div_le_self _ _)) hx1
 have hlr:(yf (a%b)).length≤80000:=Nat.le_trans (qt (Nat.le_of_lt (Nat.mod_lt _ hb))) hx2
 have hrb:=Nat.mod_lt a hb
 have hl2:(yf (a%b*2^1)).length≤80001:=by
  obtain⟨K,hK⟩:∃ K,K=80000:=⟨_,rfl⟩
  rw[←hK]at hx2
  rw[show 80001=K+1 by omega]
  refine yv ?_
  have h1:=wu b
  have h2:1073741824^(yf b).length≤1073741824^K:=Nat.pow_le_pow_right ze hx2
  generalize 1073741824^(yf b).length=Y at h1 h2
  have e:1073741824^(K+1)=1073741824^K*1073741824:=Nat.pow_succ ..
  rw[e]
  generalize 1073741824^K=Z at h2 ⊢
  omega
 rw[hN1]at hx1
 rw[hN2]at hx2
 have HN1:=zH hN1
 have HN2:=zH hN2
 have HR1:=zH hr1
 have HR2:=zH hr2
 have HD:=zH (fun (W:World) (h:w.grownBy W none)=>zl3 (.slice a1 N1 c1) (.slice a2 N2 c2) a b W (hr1.grown h) (hr2.grown h) hb (by rw[hN1];omega) (by rw[hN2];omega))
 have HSH:=zH (fun (V:Value) (W:World) (h:NatV W V (a%b))=>qe V (a%b) 1 W h zd zd)
 have hcm:=fun (V:Value) (W:World) (h:NatV W V (a%b*2^1)) (hg:w.grownBy W none)=>qy V (.slice a2 N2 c2) (a%b*2^1) b W h (hr2.grown hg) zd (by rw[hN2];omega)
 have HON:=zH (fun W=>ww 1 W ze)
 have HAD:=zH (fun (V U:Value) (W:World) (h1:NatV W V (a / b)) (h2:NatV W U 1)=>zbe V U (a / b) 1 W h1 h2 zd (by rw[uj ze,zed];simp))
 have HCM:=zH hcm
 have HG0:=zH (World.grownBy_alloc w (.cells #[.bool neg,.slice a1 N1 c1,.slice a2 N2 c2] 37) none)
 clear hr1 hr2 hN1 hN2 hcm
 refine ye Tryz.func51 rfl (by rw[Tryz.ntmps51];simp) ?_
 intro σ hσ
 rw[Tryz.ntmps51]
 have s0:σ 0=.agg #[.bool neg,.slice a1 N1 c1,.slice a2 N2 c2]:=hσ 0 zi
 clear hσ
 (go_wp2_with fail;repeat ((first|refine cZ ?_|refine cW ?_);go_wp2_with fail))
 refine (HD.out _ HG0.out).mono ?_
 rintro e w1 ⟨vq,vr,rfl,hnq,hnr,hg1⟩
 have hc0:(w.alloc (.cells #[.bool neg,.slice a1 N1 c1,.slice a2 N2 c2] 37)).cell? ⟨w.heap.size,2,none⟩=some (.slice a2 N2 c2):=(Row.new w [.bool neg,.slice a1 N1 c1,.slice a2 N2 c2] 37).cell 2
 have hc1:=vl hg1 hc0
 obtain⟨aq,cq,rfl⟩:=hnq.len
 obtain⟨M,hM⟩:=zX ((yf (a / b)).length)
 simp only[hM]at hnq ⊢
 have HM:=zH hM
 have HNQ:=zH hnq
 have HNR:=zH hnr
 have HG1:=zH (ya HG0.out hg1)
 have HC1:=zH hc1
 generalize w.heap.size=B0 at *
 clear hnq hnr hg1 hc0 hc1 hM HD HG0
 (go_wp2_with fail;repeat ((first|refine cZ ?_|refine cW ?_);go_wp2_with fail))
 refine (HSH.out _ _ HNR.out).mono ?_
 rintro e w2 ⟨v2,rfl,hn2,hg2⟩
 have hc2:=vl hg2 HC1.out
 have HN2':=zH hn2
 have HNQ2:=zH (HNQ.out.grown hg2)
 have HG2:=zH (ya HG1.out hg2)
 clear hn2 hg2
 (go_wp2_with fail;repeat ((first|refine cZ ?_|refine cW ?_);go_wp2_with fail))
 have hcmp:=HCM.out _ _ HN2'.out HG2.out
 obtain⟨κ,hκ⟩:=zX (ko (a%b*2^1) b)
 rw[hκ]at hcmp
 have HK:=zH hκ
 refine hcmp.mono ?_
 rintro e w3 ⟨rfl,hg3⟩
 have HNQ3:=zH (HNQ2.out.grown hg3)
 have HG3:=zH (ya HG2.out hg3)
 clear hκ hcmp hg3 hc2
 obtain⟨q,hq⟩:=zX (a / b)
 obtain⟨r,hr⟩:=zX (a%b)
 have hrnd:vi a b=if b<2*r∨(2*r=b∧q%2=1) then q+1 else q:=by unfold vi;rw[hq,hr]
 rw[hq]at HNQ3 HAD HM
 rw[hr]at HK
 have HRND:=zH hrnd
 clear hq hr hrnd hlq hlr hrb hl2
 by_cases h1:b<2*r
 ·have hk:κ=1:=by rw[←HK.out];exact zja zd
  subst hk
  have hun:undef=Value.tuple #[]:=rfl
  (go_wp2_with fail;repeat ((first|refine cZ ?_|refine cW ?_);go_wp2_with fail))
  refine (HON.out _).mono ?_
  rintro e w4 ⟨v4,rfl,hn4,hg4⟩
  have HN4:=zH hn4
  have HG4:=zH hg4
  clear hn4 hg4
  (go_wp2_with fail;repeat ((first|refine cZ ?_|refine cW ?_);go_wp2_with fail))
  refine (HAD.out _ _ _ (HNQ3.out.grown HG4.out) HN4.out).mono ?_
  rintro e w5 ⟨v5,rfl,hn5,hg5⟩
  have HN5:=zH hn5
  have HG5:=zH (ya HG3.out (ya HG4.out hg5))
  clear hn5 hg5
  (go_wp2_with fail;repeat ((first|refine cZ ?_|refine cW ?_);go_wp2_with fail))
  refine yl v5 rfl ze zb ⟨v5,rfl,?_,HG5.out⟩
  rw[HRND.out,if_pos zd]
  exact HN5.out
 by_cases h2:2*r=b
 ·have hk:κ=0:=by rw[←HK.out];exact zph zd
  subst hk
  by_cases hq0:q=0
  ·have hM0:M=0:=by have:=HM.out;rw[hq0,xm]at this;simpa using this.symm
   subst hM0
   (go_wp2_with fail;repeat ((first|refine cZ ?_|refine cW ?_);go_wp2_with fail))
   refine yl (.slice aq 0 cq) rfl ze zb ⟨_,rfl,?_,HG3.out⟩
   rw[HRND.out,if_neg zd]
   exact HNQ3.out
  ·have hMp:0<M:=by
    have:=qn hq0
    have h5:=HM.out
    cases hr:yf q with
    | nil=>exact absurd hr this
    | cons y s=>rw[hr]at h5;simp at h5;omega
   have hMp1:(0:Int)<(M:Int):=zd
   obtain⟨g,rfl,hLL,hcc,hm,hcell⟩:=RdI.at HNQ3.out (qn hq0)
   have hx0:(yf q)[0]?=some (q%1073741824):=by rw[uj hq0];rfl
   have hcq:=hcell 0 _ hx0
   unfold qd at hcq
   obtain⟨x,hx⟩:=zX (q%1073741824)
   rw[hx]at hcq
   have hxq:x%2=q%2:=zd
   have hxl:x<1073741824:=zd
   have HXQ:=zH hxq
   clear hcell hx0 hx hxq hLL
   by_cases hodd:x%2=1
   ·have f1:((x:Int)%2==1)=true:=zo
    have hqo:q%2=1:=by rw[←HXQ.out];exact hodd
    (go_wp2_with fail;repeat ((first|refine cZ ?_|refine cW ?_);go_wp2_with fail))
    refine (HON.out _).mono ?_
    rintro e w4 ⟨v4,rfl,hn4,hg4⟩
    have HN4:=zH hn4
    have HG4:=zH hg4
    clear hn4 hg4
    (go_wp2_with fail;repeat ((first|refine cZ ?_|refine cW ?_);go_wp2_with fail))
    refine (HAD.out _ _ _ (HNQ3.out.grown HG4.out) HN4.out).mono ?_
    rintro e w5 ⟨v5,rfl,hn5,hg5⟩
    have HN5:=zH hn5
    have HG5:=zH (ya HG3.out (ya HG4.out hg5))
    clear hn5 hg5
    (go_wp2_with fail;repeat ((first|refine cZ ?_|refine cW ?_);go_wp2_with fail))
    refine yl v5 rfl ze zb ⟨v5,rfl,?_,HG5.out⟩
    rw[HRND.out,if_pos zd]
    exact HN5.out
   ·have f1:((x:Int)%2==1)=false:=zf
    (go_wp2_with fail;repeat ((first|refine cZ ?_|refine cW ?_);go_wp2_with fail))
    refine yl (.slice (some ⟨g,0,none⟩) M cq) rfl ze zb ⟨_,rfl,?_,HG3.out⟩
    rw[HRND.out,if_neg (by have:=HXQ.out;omega)]
    exact HNQ3.out
 ·have hk:κ=-1:=by rw[←HK.out];exact zi9 zd
  subst hk
  (go_wp2_with fail;repeat ((first|refine cZ ?_|refine cW ?_);go_wp2_with fail))
  refine yl (.slice aq M cq) rfl ze zb ⟨_,rfl,?_,HG3.out⟩
  rw[HRND.out,if_neg zd]
  exact HNQ3.out
end Go.Proofs.YtalfopncejalcaaGreatDoor
