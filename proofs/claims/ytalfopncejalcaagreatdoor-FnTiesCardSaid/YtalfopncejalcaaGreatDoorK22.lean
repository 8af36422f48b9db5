/- Lemmas that the claim's top text leans on. No condition of their own. -/
import Derived.Test.YtalfopncejalcaaGreatDoorK14
import Derived.Laws.ResultCell
namespace Go.Proofs.YtalfopncejalcaaGreatDoor
open Go.RowKit
set_option linter.unusedSimpArgs false
set_option linter.unusedVariables false
set_option maxHeartbeats 16000000
set_option maxRecDepth 10000 in
theorem zeu (n s:Nat) (e:Int) (w:World) (hn:n<18446744073709551616) (hk:kn 9218868437227405312 9223372036854775808 n=0)
  (hs:(if n%9223372036854775808 / 4503599627370496=0 then n%9223372036854775808%4503599627370496 else n%9223372036854775808%4503599627370496+4503599627370496)=s)
  (he:(if n%9223372036854775808 / 4503599627370496=0 then 1 else ((n%9223372036854775808 / 4503599627370496:Nat):Int))-1023-52=e):
  Calls Tryz.prog 23 #[.int .i64 64,.int .u64 (n:Int)] w fun x w'=>∃ vn vd,x=.returned (.tuple #[.agg #[.bool (decide (9223372036854775808≤n)),vn,vd],.bool true])∧NatV w' vn (s*2^e.toNat)∧NatV w' vd (2^(-e).toNat)∧w.grownBy w' none:=by
 have hK:=fun W=>za7 n W hn
 rw[hk]at hK
 have hP:=fun W=>zih n W hn
 rw[hs,he]at hP
 have hsl:s<18446744073709551616:=by rw[←hs];split <;> omega
 have hel:-1074≤e∧e≤1100:=by rw[←he];split <;> omega
 have HK:=zH hK
 have HP:=zH hP
 have HO:=zH (fun W=>ww s W hsl)
 have HS:=zH (fun (V:Value) (W:World) (h:NatV W V s)=>jg V s 2 e W h (Nat.le_trans (yv (k:=3) zd) zd) zd zd zd zd)
 have HI:=zH (fun W=>ziu n W hn)
 have HG0:=zH (fun o=>World.grownBy_alloc w o none)
 generalize decide (9223372036854775808≤n)=neg at HI ⊢
 clear hK hP hs he hk
 go_enter Tryz.func23,Tryz.ntmps23
 go_wp2_with fail
 refine (HK.out _).mono ?_
 rintro x w1 ⟨rfl,rfl⟩
 go_wp2_with fail
 refine (HP.out _).mono ?_
 rintro x w1 ⟨rfl,hg1⟩
 have HR1:=zH (Row.grown (Row.new w [Value.bool false,.slice none 0 0,.slice none 0 0] 37) hg1 zi)
 have HG1:=zH (ya (HG0.out _) hg1)
 clear hg1
 go_wp2_with fail
 refine (HO.out _).mono ?_
 rintro x w2 ⟨v2,rfl,hn2,hg2⟩
 have HN2:=zH hn2
 have HG2:=zH hg2
 clear hn2 hg2
 go_wp2_with fail
 refine (HS.out _ _ HN2.out).mono ?_
 rintro x w3 ⟨vn,vd,rfl,hnn,hnd,hg3⟩
 have HR3:=zH ((HR1.out.grown HG2.out zi).grown hg3 zi)
 have HNN:=zH hnn
 have HND:=zH hnd
 have HG3:=zH (ya HG1.out (ya HG2.out hg3))
 obtain⟨an,cn,rfl⟩:=hnn.len
 obtain⟨ad,cd,rfl⟩:=hnd.len
 clear hnn hnd hg3
 generalize (yf (s*2^e.toNat)).length=L2 at *
 generalize (yf (2^(-e).toNat)).length=L3 at *
 go_wp2_with fail
 refine (HI.out _).mono ?_
 rintro x w5 ⟨rfl,hw5⟩
 have hrA:=HR3.out.alloc (.cells #[Value.bool false,.slice an L2 cn,.slice ad L3 cd] 37)
 have hrB:=Row.new w3 [Value.bool false,.slice an L2 cn,.slice ad L3 cd] 37
 have hlt:=HR3.out.lt
 obtain⟨B,hB⟩:=zX w.heap.size
 obtain⟨D,hD⟩:=zX w3.heap.size
 rw[hB]at hrA hlt
 rw[hD]at hrB hlt
 simp only[hB,hD]
 have hg4:=World.grownBy_alloc w3 (.cells #[Value.bool false,.slice an L2 cn,.slice ad L3 cd] 37) none
 have hrB':Row (w3.alloc (.cells #[Value.bool false,.slice an L2 cn,.slice ad L3 cd] 37)) D [Value.bool false,.slice an L2 cn,.slice ad L3 cd]:=hrB
 rw[hw5]at hrA hrB' hg4
 clear hrB
 have k0:=hrA.cell 0
 have k1:=hrA.cell 1
 have k2:=hrA.cell 2
 have f0:=hrA.frozen 0
 have f1:=hrA.frozen 1
 have f2:=hrA.frozen 2
 have m0:=hrB'.cell 0
 have m1:=hrB'.cell 1
 have m2:=hrB'.cell 2
 have g0:=hrB'.frozen 0
 simp only[List.getElem?_cons_zero,List.getElem?_cons_succ]at k0 k1 k2 m0 m1 m2
 have hne:¬(B=D):=zd
 have hne2:¬(D=B):=zd
 have HRA:=zH hrA
 have HRB:=zH hrB'
 have HG5:=zH (ya HG3.out hg4)
 have HN5:=zH (HNN.out.grown hg4)
 have HD5:=zH (HND.out.grown hg4)
 have HB:=zH hB
 have HDD:=zH hD
 have HM0:=zH m0
 have HK0:=zH k0
 have HSZ:=zH HG3.out.size
 clear hrA hrB' hlt hg4 hw5 hB hD HR3 HR1 HG1 HG2 HN2 HNN HND
 go_wp2_with fail
 have hr0:=HRA.out.setCell_other (a:=⟨D,0,none⟩) hne (.bool neg)
 have hq0:=HK0.out
 have hrow3:=((hr0.setCell 0 (.bool neg)).setCell 1 (.slice an L2 cn)).setCell 2 (.slice ad L3 cd)
 obtain⟨ty,hrow⟩:=hrow3
 have hc1:(w5.setCell ⟨D,0,none⟩ (.bool neg)).cell? ⟨B,0,none⟩=some (.bool false):=hr0.cell 0
 have hc2:((w5.setCell ⟨D,0,none⟩ (.bool neg)).setCell ⟨B,0,none⟩ (.bool neg)).cell? ⟨B,0,none⟩=some (.bool neg):=(hr0.setCell 0 (.bool neg)).cell 0
 have hc3:(((w5.setCell ⟨D,0,none⟩ (.bool neg)).setCell ⟨B,0,none⟩ (.bool neg)).setCell ⟨B,1,none⟩ (.slice an L2 cn)).cell? ⟨B,0,none⟩=some (.bool neg):=((hr0.setCell 0 (.bool neg)).setCell 1 (.slice an L2 cn)).cell 0
 refine bodyPost_ret (v:=.tuple #[.agg #[.bool neg,.slice an L2 cn,.slice ad L3 cd],.bool true]) ?_ rfl ⟨_,_,rfl,?_,?_,?_⟩
 ·rw[results_cell_tmp (p:=4) (u:=5) (ty:=37) rfl]
  have hl:=run_loadVar_row (P:=Tryz.prog) _ B ty 37 _ (0,0) _ hrow Tryz.underlying37 rfl zg
  simp[asAddr,hl]
 ·exact NatV.setB (NatV.setB (NatV.setB (NatV.setB HN5.out HM0.out) hc1) hc2) hc3
 ·exact NatV.setB (NatV.setB (NatV.setB (NatV.setB HD5.out HM0.out) hc1) hc2) hc3
 ·have hBw:=HB.out
  have hDw:=HDD.out
  have hsz:=HSZ.out
  exact yb (yb (yb (yb HG5.out _ (by show w.heap.size≤D;omega)) _ (by show w.heap.size≤B;omega)) _ (by show w.heap.size≤B;omega)) _ (by show w.heap.size≤B;omega)
set_option maxRecDepth 10000 in
theorem zev (n s:Nat) (e:Int) (w:World) (hn:n<4294967296) (hk:kn 2139095040 2147483648 n=0)
  (hs:(if n%2147483648 / 8388608=0 then n%2147483648%8388608 else n%2147483648%8388608+8388608)=s)
  (he:(if n%2147483648 / 8388608=0 then 1 else ((n%2147483648 / 8388608:Nat):Int))-127-23=e):
  Calls Tryz.prog 23 #[.int .i64 32,.int .u64 (n:Int)] w fun x w'=>∃ vn vd,x=.returned (.tuple #[.agg #[.bool (decide (2147483648≤n)),vn,vd],.bool true])∧NatV w' vn (s*2^e.toNat)∧NatV w' vd (2^(-e).toNat)∧w.grownBy w' none:=by
 have hK:=fun W=>za8 n W hn
 rw[hk]at hK
 have hP:=fun W=>zii n W hn
 rw[hs,he]at hP
 have hsl:s<4294967296:=by rw[←hs];split <;> omega
 have hel:-1074≤e∧e≤1100:=by rw[←he];split <;> omega
 have HK:=zH hK
 have HP:=zH hP
 have HO:=zH (fun W=>ww s W zd)
 have HS:=zH (fun (V:Value) (W:World) (h:NatV W V s)=>jg V s 2 e W h (Nat.le_trans (yv (k:=3) zd) zd) zd zd zd zd)
 have HI:=zH (fun W=>jw n W hn)
 have HG0:=zH (fun o=>World.grownBy_alloc w o none)
 generalize decide (2147483648≤n)=neg at HI ⊢
 clear hK hP hs he hk
 go_enter Tryz.func23,Tryz.ntmps23
 go_wp2_with fail
 refine (HK.out _).mono ?_
 rintro x w1 ⟨rfl,rfl⟩
 go_wp2_with fail
 refine (HP.out _).mono ?_
 rintro x w1 ⟨rfl,hg1⟩
 have HR1:=zH (Row.grown (Row.new w [Value.bool false,.slice none 0 0,.slice none 0 0] 37) hg1 zi)
 have HG1:=zH (ya (HG0.out _) hg1)
 clear hg1
 go_wp2_with fail
 refine (HO.out _).mono ?_
 rintro x w2 ⟨v2,rfl,hn2,hg2⟩
 have HN2:=zH hn2
 have HG2:=zH hg2
 clear hn2 hg2
 go_wp2_with fail
 refine (HS.out _ _ HN2.out).mono ?_
 rintro x w3 ⟨vn,vd,rfl,hnn,hnd,hg3⟩
 have HR3:=zH ((HR1.out.grown HG2.out zi).grown hg3 zi)
 have HNN:=zH hnn
 have HND:=zH hnd
 have HG3:=zH (ya HG1.out (ya HG2.out hg3))
 obtain⟨an,cn,rfl⟩:=hnn.len
 obtain⟨ad,cd,rfl⟩:=hnd.len
 clear hnn hnd hg3
 generalize (yf (s*2^e.toNat)).length=L2 at *
 generalize (yf (2^(-e).toNat)).length=L3 at *
 go_wp2_with fail
 refine (HI.out _).mono ?_
 rintro x w5 ⟨rfl,hw5⟩
 have hrA:=HR3.out.alloc (.cells #[Value.bool false,.slice an L2 cn,.slice ad L3 cd] 37)
 have hrB:=Row.new w3 [Value.bool false,.slice an L2 cn,.slice ad L3 cd] 37
 have hlt:=HR3.out.lt
 obtain⟨B,hB⟩:=zX w.heap.size
 obtain⟨D,hD⟩:=zX w3.heap.size
 rw[hB]at hrA hlt
 rw[hD]at hrB hlt
 simp only[hB,hD]
 have hg4:=World.grownBy_alloc w3 (.cells #[Value.bool false,.slice an L2 cn,.slice ad L3 cd] 37) none
 have hrB':Row (w3.alloc (.cells #[Value.bool false,.slice an L2 cn,.slice ad L3 cd] 37)) D [Value.bool false,.slice an L2 cn,.slice ad L3 cd]:=hrB
 rw[hw5]at hrA hrB' hg4
 clear hrB
 have k0:=hrA.cell 0
 have k1:=hrA.cell 1
 have k2:=hrA.cell 2
 have f0:=hrA.frozen 0
 have f1:=hrA.frozen 1
 have f2:=hrA.frozen 2
 have m0:=hrB'.cell 0
 have m1:=hrB'.cell 1
 have m2:=hrB'.cell 2
 have g0:=hrB'.frozen 0
 simp only[List.getElem?_cons_zero,List.getElem?_cons_succ]at k0 k1 k2 m0 m1 m2
 have hne:¬(B=D):=zd
 have hne2:¬(D=B):=zd
 have HRA:=zH hrA
 have HRB:=zH hrB'
 have HG5:=zH (ya HG3.out hg4)
 have HN5:=zH (HNN.out.grown hg4)
 have HD5:=zH (HND.out.grown hg4)
 have HB:=zH hB
 have HDD:=zH hD
 have HM0:=zH m0
 have HK0:=zH k0
 have HSZ:=zH HG3.out.size
 clear hrA hrB' hlt hg4 hw5 hB hD HR3 HR1 HG1 HG2 HN2 HNN HND
 go_wp2_with fail
 have hr0:=HRA.out.setCell_other (a:=⟨D,0,none⟩) hne (.bool neg)
 have hq0:=HK0.out
 have hrow3:=((hr0.setCell 0 (.bool neg)).setCell 1 (.slice an L2 cn)).setCell 2 (.slice ad L3 cd)
 obtain⟨ty,hrow⟩:=hrow3
 have hc1:(w5.setCell ⟨D,0,none⟩ (.bool neg)).cell? ⟨B,0,none⟩=some (.bool false):=hr0.cell 0
 have hc2:((w5.setCell ⟨D,0,none⟩ (.bool neg)).setCell ⟨B,0,none⟩ (.bool neg)).cell? ⟨B,0,none⟩=some (.bool neg):=(hr0.setCell 0 (.bool neg)).cell 0
 have hc3:(((w5.setCell ⟨D,0,none⟩ (.bool neg)).setCell ⟨B,0,none⟩ (.bool neg)).setCell ⟨B,1,none⟩ (.slice an L2 cn)).cell? ⟨B,0,none⟩=some (.bool neg):=((hr0.setCell 0 (.bool neg)).setCell 1 (.slice an L2 cn)).cell 0
 refine bodyPost_ret (v:=.tuple #[.agg #[.bool neg,.slice an L2 cn,.slice ad L3 cd],.bool true]) ?_ rfl ⟨_,_,rfl,?_,?_,?_⟩
 ·rw[results_cell_tmp (p:=4) (u:=5) (ty:=37) rfl]
  have hl:=run_loadVar_row (P:=Tryz.prog) _ B ty 37 _ (0,0) _ hrow Tryz.underlying37 rfl zg
  simp[asAddr,hl]
 ·exact NatV.setB (NatV.setB (NatV.setB (NatV.setB HN5.out HM0.out) hc1) hc2) hc3
 ·exact NatV.setB (NatV.setB (NatV.setB (NatV.setB HD5.out HM0.out) hc1) hc2) hc3
 ·have hBw:=HB.out
  have hDw:=HDD.out
  have hsz:=HSZ.out
  exact yb (yb (yb (yb HG5.out _ (by show w.heap.size≤D;omega)) _ (by show w.heap.size≤B;omega)) _ (by show w.heap.size≤B;omega)) _ (by show w.heap.size≤B;omega)
def zu6 (s1 s2:Bool) (a b c d:Nat):Int:=
 if (s1&&decide (a≠0))=true then (if (s2&&decide (c≠0))=true then-ko (a*d) (c*b) else -1)
 else if (s2&&decide (c≠0))=true then 1 else ko (a*d) (c*b)
theorem zl8 (a b:Nat):ko a b=-1∨ko a b=0∨ko a b=1:=by
 unfold ko
 split
 ·exact Or.inl rfl
 ·split
  ·exact Or.inr (Or.inr rfl)
  ·exact Or.inr (Or.inl rfl)
set_option maxRecDepth 10000 in
theorem zl7 (s1 s2:Bool) (u1 u2 u3 u4:Value) (a b c d:Nat) (w:World) (h1:NatV w u1 a) (h2:NatV w u2 b) (h3:NatV w u3 c) (h4:NatV w u4 d)
  (x1:(yf a).length≤40000) (x2:(yf b).length≤40000) (x3:(yf c).length≤40000) (x4:(yf d).length≤40000):
  Calls Tryz.prog 31 #[.agg #[.bool s1,u1,u2],.agg #[.bool s2,u3,u4]] w fun e w'=>e=.returned (.int .i64 (zu6 s1 s2 a b c d))∧w.grownBy w' none:=by
 obtain⟨a1,c1,rfl⟩:=h1.len
 obtain⟨a2,c2,rfl⟩:=h2.len
 obtain⟨a3,c3,rfl⟩:=h3.len
 obtain⟨a4,c4,rfl⟩:=h4.len
 have hl:∀ p q:Nat,(yf p).length≤40000→(yf q).length≤40000→(yf (p*q)).length≤80000:=fun p q hp hq=>by
  obtain⟨K,hK⟩:∃ K,K=40000:=⟨_,rfl⟩
  rw[←hK]at hp hq
  rw[show 80000=K+K by omega]
  refine yv ?_
  rw[Nat.pow_add]
  refine Nat.mul_lt_mul'' ?_ ?_
  ·exact Nat.lt_of_lt_of_le (wu p) (Nat.pow_le_pow_right ze hp)
  ·exact Nat.lt_of_lt_of_le (wu q) (Nat.pow_le_pow_right ze hq)
 have HM1:=zH (fun (W:World) (hW:w.grownBy W none)=>vc _ _ a d W (h1.grown hW) (h4.grown hW) zd zd)
 have HM2:=zH (fun (W:World) (hW:w.grownBy W none)=>vc _ _ c b W (h3.grown hW) (h2.grown hW) zd zd)
 have hcm:=fun (V U:Value) (W:World) (g1:NatV W V (a*d)) (g2:NatV W U (c*b))=>qy V U (a*d) (c*b) W g1 g2 (by have:=hl a d x1 x4;omega) (by have:=hl c b x3 x2;omega)
 have hk3:=zl8 (a*d) (c*b)
 have hq:zu6 s1 s2 a b c d=_:=rfl
 unfold zu6 at hq
 obtain⟨Q,hQ⟩:=zX (zu6 s1 s2 a b c d)
 rw[hQ]
 replace hq:=hQ.symm.trans hq
 clear hQ
 generalize ko (a*d) (c*b)=k at *
 have HCM:=zH hcm
 have hza:(yf a).length=0↔a=0:=⟨fun h=>by by_cases h0:a=0;exact h0;exact absurd (List.length_eq_zero_iff.1 h) (qn h0),fun h=>by rw[h,xm];rfl⟩
 have hzc:(yf c).length=0↔c=0:=⟨fun h=>by by_cases h0:c=0;exact h0;exact absurd (List.length_eq_zero_iff.1 h) (qn h0),fun h=>by rw[h,xm];rfl⟩
 have hsg:((yf a).length=0∧decide (a≠0)=false)∨(0<(yf a).length∧decide (a≠0)=true):=by
  by_cases h0:a=0
  ·exact Or.inl ⟨hza.2 h0,by simp[h0]⟩
  ·exact Or.inr ⟨by have:(yf a).length≠0:=fun h=>h0 (hza.1 h);omega,by simp[h0]⟩
 have hsh:((yf c).length=0∧decide (c≠0)=false)∨(0<(yf c).length∧decide (c≠0)=true):=by
  by_cases h0:c=0
  ·exact Or.inl ⟨hzc.2 h0,by simp[h0]⟩
  ·exact Or.inr ⟨by have:(yf c).length≠0:=fun h=>h0 (hzc.1 h);omega,by simp[h0]⟩
 generalize decide (a≠0)=za at *
 generalize decide (c≠0)=zc at *
 have HQ:=zH hq
 clear hza hzc hcm hl h1 h2 h3 h4 x1 x2 x3 x4 hq
 generalize (yf a).length=N1 at *
 generalize (yf b).length=N2 at *
 generalize (yf c).length=N3 at *
 generalize (yf d).length=N4 at *
 obtain⟨B,hB⟩:=zX w.heap.size
 obtain⟨w2,hw2⟩:=zX ((w.alloc (.cells #[.bool s1,.slice a1 N1 c1,.slice a2 N2 c2] 37)).alloc (.cells #[.bool s2,.slice a3 N3 c3,.slice a4 N4 c4] 37))
 have hrA:=(Row.new w [.bool s1,.slice a1 N1 c1,.slice a2 N2 c2] 37).alloc (.cells #[.bool s2,.slice a3 N3 c3,.slice a4 N4 c4] 37)
 have hrB:=Row.new (w.alloc (.cells #[.bool s1,.slice a1 N1 c1,.slice a2 N2 c2] 37)) [.bool s2,.slice a3 N3 c3,.slice a4 N4 c4] 37
 have hg2:=ya (World.grownBy_alloc w (.cells #[.bool s1,.slice a1 N1 c1,.slice a2 N2 c2] 37) none) (World.grownBy_alloc _ (.cells #[.bool s2,.slice a3 N3 c3,.slice a4 N4 c4] 37) none)
 rw[hw2]at hrA hrB hg2
 have hsz:(w.alloc (.cells #[.bool s1,.slice a1 N1 c1,.slice a2 N2 c2] 37)).heap.size=B+1:=by rw[←hB];show (w.heap.push _).size=_;rw[Array.size_push]
 rw[hsz]at hrB
 rw[hB]at hrA
 have HRA:=zH hrA
 have HRB:=zH hrB
 have HG2:=zH hg2
 have HW2:=zH hw2
 clear hrA hrB hg2 hsz
 refine ye Tryz.func31 rfl (by rw[Tryz.ntmps31];simp) ?_
 intro σ hσ
 rw[Tryz.ntmps31]
 have s0:σ 0=.agg #[.bool s1,.slice a1 N1 c1,.slice a2 N2 c2]:=hσ 0 zi
 have s1':σ 1=.agg #[.bool s2,.slice a3 N3 c3,.slice a4 N4 c4]:=hσ 1 zi
 clear hσ
 (go_wp2_with fail;repeat ((first|refine cZ ?_|refine cW ?_);go_wp2_with fail))
 clear hw2 hB
 refine wp_region_noPanic ?_
 refine wp_region_held_drew (S:=fun w'=>w2.grownBy w' none) zg (yh w2 1 none) (fun hHeld=>?_)
 (refine yg 0 8 ?_)
 (refine xg 1 9 (oi:=?_) (v:=?_) ?_ ?_ zg zg zg (fun _ _ _ _ _ h=>h) ?_ zq ?_ ?_;rotate_left 2;(focus ((simp only[List.getElem?_toArray,List.getElem?_cons_succ,List.getElem?_cons_zero]);rfl));(focus rfl);(focus (first | rfl | (simp only[Region.wanted,yielded,List.getElem?_toArray,List.getElem?_cons_succ,List.getElem?_cons_zero,Option.bind_some,Option.map_some,Fr_get?,yc,yd];rfl) | go_simp));(focus (intro W hS;have hc:=(HRA.out.grown hS zi).cell 1;simp only[List.getElem?_cons_zero,List.getElem?_cons_succ]at hc;go_simp;try with_reducible rfl)))
 (refine yg 2 10 ?_)
 (refine xg 3 11 (oi:=?_) (v:=?_) ?_ ?_ zg zg zg (fun _ _ _ _ _ h=>h) ?_ zq ?_ ?_;rotate_left 2;(focus ((simp only[List.getElem?_toArray,List.getElem?_cons_succ,List.getElem?_cons_zero]);rfl));(focus rfl);(focus (first | rfl | (simp only[Region.wanted,yielded,List.getElem?_toArray,List.getElem?_cons_succ,List.getElem?_cons_zero,Option.bind_some,Option.map_some,Fr_get?,yc,yd];rfl) | go_simp));(focus (intro W hS;have hc:=(HRB.out.grown hS zi).cell 2;simp only[List.getElem?_cons_zero,List.getElem?_cons_succ]at hc;go_simp;try with_reducible rfl)))
 (refine yg 5 13 ?_)
 (refine xg 6 14 (oi:=?_) (v:=?_) ?_ ?_ zg zg zg (fun _ _ _ _ _ h=>h) ?_ zq ?_ ?_;rotate_left 2;(focus ((simp only[List.getElem?_toArray,List.getElem?_cons_succ,List.getElem?_cons_zero]);rfl));(focus rfl);(focus (first | rfl | (simp only[Region.wanted,yielded,List.getElem?_toArray,List.getElem?_cons_succ,List.getElem?_cons_zero,Option.bind_some,Option.map_some,Fr_get?,yc,yd];rfl) | go_simp));(focus (intro W hS;have hc:=(HRB.out.grown hS zi).cell 1;simp only[List.getElem?_cons_zero,List.getElem?_cons_succ]at hc;go_simp;try with_reducible rfl)))
 (refine yg 7 15 ?_)
 (refine xg 8 16 (oi:=?_) (v:=?_) ?_ ?_ zg zg zg (fun _ _ _ _ _ h=>h) ?_ zq ?_ ?_;rotate_left 2;(focus ((simp only[List.getElem?_toArray,List.getElem?_cons_succ,List.getElem?_cons_zero]);rfl));(focus rfl);(focus (first | rfl | (simp only[Region.wanted,yielded,List.getElem?_toArray,List.getElem?_cons_succ,List.getElem?_cons_zero,Option.bind_some,Option.map_some,Fr_get?,yc,yd];rfl) | go_simp));(focus (intro W hS;have hc:=(HRA.out.grown hS zi).cell 2;simp only[List.getElem?_cons_zero,List.getElem?_cons_succ]at hc;go_simp;try with_reducible rfl)))
 (refine zO 4 ?_;intro K hK;go_simp;(refine (HM1.out _ (ya HG2.out hHeld)).mono ?_;rintro e w9 ⟨v9,rfl,hn9,hg9⟩);go_wp2_with fail;replace hHeld:=ya hHeld hg9;refine hK.out _ _ hHeld ?_;clear hK K)
 clear hg9
 (refine zO 9 ?_;intro K hK;go_simp;(refine (HM2.out _ (ya HG2.out hHeld)).mono ?_;rintro e w10 ⟨v10,rfl,hn10,hg10⟩;replace hn9:=hn9.grown hg10);go_wp2_with fail;replace hHeld:=ya hHeld hg10;refine hK.out _ _ hHeld ?_;clear hK K)
 clear hg10
 (refine zO 10 ?_;intro K hK;go_simp;(refine (HCM.out _ _ _ hn9 hn10).mono ?_;rintro e w11 ⟨rfl,hg11⟩);go_wp2_with fail;replace hHeld:=ya hHeld hg11;refine hK.out _ _ hHeld ?_;clear hK K)
 clear hg11 hn9 hn10
 (refine yg 11 5 ?_)
 refine wpAnyH_done zg ?_ _
 refine NoPanic.normal ?_
 have hA:=HRA.out.grown hHeld zi
 have hBr:=HRB.out.grown hHeld zi
 have k0:=hA.cell 0
 have k1:=hA.cell 1
 have m0:=hBr.cell 0
 have m1:=hBr.cell 1
 simp only[List.getElem?_cons_zero,List.getElem?_cons_succ]at k0 k1 m0 m1
 have HGF:=zH (ya HG2.out hHeld)
 clear hA hBr hHeld
 have hneg:IntKind.i64.wrap (-k)=-k:=by rcases hk3 with rfl | rfl | rfl <;> decide
 clear hk3
 rcases hsg with⟨rfl,rfl⟩ | ⟨hp1,rfl⟩
 ·rcases hsh with⟨rfl,rfl⟩ | ⟨hp3,rfl⟩
  ·cases s1 <;> cases s2
   all_goals
    have hq:=HQ.out
    simp only[Bool.and_true,Bool.and_false,Bool.true_and,Bool.false_and,if_true,if_false,Bool.false_eq_true]at hq
    clear HQ
    subst hq
    (go_wp2_with fail;repeat ((first|refine cZ ?_|refine cW ?_);go_wp2_with fail))
    exact yl _ rfl ze zb ⟨rfl,HGF.out⟩
  ·have q3:(0:Int)<(N3:Int):=zd
   cases s1 <;> cases s2
   all_goals
    have hq:=HQ.out
    simp only[Bool.and_true,Bool.and_false,Bool.true_and,Bool.false_and,if_true,if_false,Bool.false_eq_true]at hq
    clear HQ
    subst hq
    (go_wp2_with fail;repeat ((first|refine cZ ?_|refine cW ?_);go_wp2_with fail))
    exact yl _ rfl ze zb ⟨rfl,HGF.out⟩
 ·have q1:(0:Int)<(N1:Int):=zd
  rcases hsh with⟨rfl,rfl⟩ | ⟨hp3,rfl⟩
  ·cases s1 <;> cases s2
   all_goals
    have hq:=HQ.out
    simp only[Bool.and_true,Bool.and_false,Bool.true_and,Bool.false_and,if_true,if_false,Bool.false_eq_true]at hq
    clear HQ
    subst hq
    (go_wp2_with fail;repeat ((first|refine cZ ?_|refine cW ?_);go_wp2_with fail))
    exact yl _ rfl ze zb ⟨rfl,HGF.out⟩
  ·have q3:(0:Int)<(N3:Int):=zd
   cases s1 <;> cases s2
   all_goals
    have hq:=HQ.out
    simp only[Bool.and_true,Bool.and_false,Bool.true_and,Bool.false_and,if_true,if_false,Bool.false_eq_true]at hq
    clear HQ
    subst hq
    (go_wp2_with fail;repeat ((first|refine cZ ?_|refine cW ?_);go_wp2_with fail))
    exact yl _ rfl ze zb ⟨rfl,HGF.out⟩
end Go.Proofs.YtalfopncejalcaaGreatDoor
