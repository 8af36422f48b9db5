/- Lemmas that the claim's top text leans on. No condition of their own. -/
import Derived.Test.YtnifedmhgncioaaGreatDoorJ21
import Derived.Laws.ResultCell
namespace Go.Proofs.YtnifedmhgncioaaGreatDoor
open Go.RowKit
set_option linter.unusedSimpArgs false
set_option linter.unusedVariables false
set_option maxHeartbeats 16000000
set_option maxRecDepth 10000 in
theorem zev (n s:Nat) (e:Int) (w:World) (hn:n<4294967296) (hk:kn 2139095040 2147483648 n=0)
  (hs:(if n%2147483648 / 8388608=0 then n%2147483648%8388608 else n%2147483648%8388608+8388608)=s)
  (he:(if n%2147483648 / 8388608=0 then 1 else ((n%2147483648 / 8388608:Nat):Int))-127-23=e):
  Calls Tryz.prog 21 #[.int .i64 32,.int .u64 (n:Int)] w fun x w'=>∃ vn vd,x=.returned (.tuple #[.agg #[.bool (decide (2147483648<=n)),vn,vd],.bool true])/\NatV w' vn (s*2^e.toNat)/\NatV w' vd (2^(-e).toNat)/\w.grownBy w' none:=by
 have hK:=fun W=>za8 n W hn
 rw[hk]at hK;have hP:=fun W=>zii n W hn
 rw[hs,he]at hP;have hsl:s<4294967296:=by rw[<-hs];split <;> omega
 have hel:-1074<=e/\e<=1100:=by rw[<-he];split <;> omega
 have HK:=zH hK;have HP:=zH hP;have HO:=zH (fun W=>ww s W zd);have HS:=zH (fun (V:Value) (W:World) (h:NatV W V s)=>jg V s 2 e W h (Nat.le_trans (yv (k:=3) zd) zd) zd zd zd zd);have HI:=zH (fun W=>jw n W hn);have HG0:=zH (fun o=>World.grownBy_alloc w o none);generalize decide (2147483648<=n)=neg at HI ⊢;clear hK hP hs he hk;go_enter Tryz.func21,Tryz.ntmps21;go_wp2_with fail;refine (HK.out _).mono ?_;rintro x w1 ⟨rfl,rfl⟩;go_wp2_with fail;refine (HP.out _).mono ?_;rintro x w1 ⟨rfl,hg1⟩;have HR1:=zH (Row.grown (Row.new w [Value.bool false,.slice none 0 0,.slice none 0 0] 41) hg1 zi);have HG1:=zH (ya (HG0.out _) hg1);clear hg1;go_wp2_with fail;refine (HO.out _).mono ?_;rintro x w2 ⟨v2,rfl,hn2,hg2⟩;have HN2:=zH hn2;have HG2:=zH hg2;clear hn2 hg2;go_wp2_with fail;refine (HS.out _ _ HN2.out).mono ?_;rintro x w3 ⟨vn,vd,rfl,hnn,hnd,hg3⟩;have HR3:=zH ((HR1.out.grown HG2.out zi).grown hg3 zi);have HNN:=zH hnn;have HND:=zH hnd;have HG3:=zH (ya HG1.out (ya HG2.out hg3));obtain⟨an,cn,rfl⟩:=hnn.len;obtain⟨ad,cd,rfl⟩:=hnd.len;clear hnn hnd hg3;generalize (yf (s*2^e.toNat)).length=L2 at *
 generalize (yf (2^(-e).toNat)).length=L3 at *
 go_wp2_with fail;refine (HI.out _).mono ?_;rintro x w5 ⟨rfl,hw5⟩;have hrA:=HR3.out.alloc (.cells #[Value.bool false,.slice an L2 cn,.slice ad L3 cd] 41);have hrB:=Row.new w3 [Value.bool false,.slice an L2 cn,.slice ad L3 cd] 41;have hlt:=HR3.out.lt;obtain⟨B,hB⟩:=zX w.heap.size;obtain⟨D,hD⟩:=zX w3.heap.size;rw[hB]at hrA hlt;rw[hD]at hrB hlt;simp only[hB,hD];have hg4:=World.grownBy_alloc w3 (.cells #[Value.bool false,.slice an L2 cn,.slice ad L3 cd] 41) none;have hrB':Row (w3.alloc (.cells #[Value.bool false,.slice an L2 cn,.slice ad L3 cd] 41)) D [Value.bool false,.slice an L2 cn,.slice ad L3 cd]:=hrB;rw[hw5]at hrA hrB' hg4;clear hrB;have k0:=hrA.cell 0;have k1:=hrA.cell 1;have k2:=hrA.cell 2;have f0:=hrA.frozen 0;have f1:=hrA.frozen 1;have f2:=hrA.frozen 2;have m0:=hrB'.cell 0;have m1:=hrB'.cell 1;have m2:=hrB'.cell 2;have g0:=hrB'.frozen 0;simp only[List.getElem?_cons_zero,List.getElem?_cons_succ]at k0 k1 k2 m0 m1 m2;have hne:¬(B=D):=zd;have hne2:¬(D=B):=zd;have HRA:=zH hrA;have HRB:=zH hrB';have HG5:=zH (ya HG3.out hg4);have HN5:=zH (HNN.out.grown hg4);have HD5:=zH (HND.out.grown hg4);have HB:=zH hB;have HDD:=zH hD;have HM0:=zH m0;have HK0:=zH k0;have HSZ:=zH HG3.out.size;clear hrA hrB' hlt hg4 hw5 hB hD HR3 HR1 HG1 HG2 HN2 HNN HND;go_wp2_with fail;have hr0:=HRA.out.setCell_other (a:=⟨D,0,none⟩) hne (.bool neg);have hq0:=HK0.out;have hrow3:=((hr0.setCell 0 (.bool neg)).setCell 1 (.slice an L2 cn)).setCell 2 (.slice ad L3 cd);obtain⟨ty,hrow⟩:=hrow3;have hc1:(w5.setCell ⟨D,0,none⟩ (.bool neg)).cell? ⟨B,0,none⟩=some (.bool false):=hr0.cell 0;have hc2:((w5.setCell ⟨D,0,none⟩ (.bool neg)).setCell ⟨B,0,none⟩ (.bool neg)).cell? ⟨B,0,none⟩=some (.bool neg):=(hr0.setCell 0 (.bool neg)).cell 0;have hc3:(((w5.setCell ⟨D,0,none⟩ (.bool neg)).setCell ⟨B,0,none⟩ (.bool neg)).setCell ⟨B,1,none⟩ (.slice an L2 cn)).cell? ⟨B,0,none⟩=some (.bool neg):=((hr0.setCell 0 (.bool neg)).setCell 1 (.slice an L2 cn)).cell 0;refine bodyPost_ret (v:=.tuple #[.agg #[.bool neg,.slice an L2 cn,.slice ad L3 cd],.bool true]) ?_ rfl ⟨_,_,rfl,?_,?_,?_⟩
 ·rw[results_cell_tmp (p:=4) (u:=5) (ty:=41) rfl];have hl:=run_loadVar_row (P:=Tryz.prog) _ B ty 41 _ (0,0) _ hrow Tryz.underlying41 rfl zg;simp[asAddr,hl]
 ·exact NatV.setB (NatV.setB (NatV.setB (NatV.setB HN5.out HM0.out) hc1) hc2) hc3
 ·exact NatV.setB (NatV.setB (NatV.setB (NatV.setB HD5.out HM0.out) hc1) hc2) hc3
 ·have hBw:=HB.out;have hDw:=HDD.out;have hsz:=HSZ.out;exact yb (yb (yb (yb HG5.out _ (by show w.heap.size<=D;omega)) _ (by show w.heap.size<=B;omega)) _ (by show w.heap.size<=B;omega)) _ (by show w.heap.size<=B;omega)
end Go.Proofs.YtnifedmhgncioaaGreatDoor
