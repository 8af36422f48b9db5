/- Lemmas that the claim's top text leans on. No condition of their own. -/
import Derived.Test.YtnifedmhgncioaaGreatDoorJ13
import Derived.Laws.Rows
namespace Go.Proofs.YtnifedmhgncioaaGreatDoor
open Go.RowKit
set_option linter.unusedSimpArgs false
set_option linter.unusedVariables false
set_option maxHeartbeats 16000000
theorem NatV.setB {w:World} {v:Value} {n B k:Nat} {f:Bool} {u:Value} (h:NatV w v n) (hc:w.cell? ⟨B,0,none⟩=some (.bool f)):NatV (w.setCell ⟨B,k,none⟩ u) v n:=by
 rcases h with h | ⟨g,c,h1,h2,h3,h4⟩
 ·exact Or.inl h
 ·refine Or.inr ⟨g,c,h1,h2,h3,fun j x hx=>?_⟩;have hne:g≠B:=by
   intro e;subst e;obtain⟨y,hy⟩:∃ y,(yf n)[0]?=some y:=by
    cases hl:yf n with
    | nil=>rw[hl]at hx;simp at hx
    | cons y s=>exact⟨y,rfl⟩
   have:=h4 0 y hy;rw[hc]at this;unfold qd at this;cases this
  have hb:(w.setCell ⟨B,k,none⟩ u).heap[(⟨g,j,none⟩:Addr).block]?=w.heap[(⟨g,j,none⟩:Addr).block]?:=Below.heap_setCell w ⟨B,k,none⟩ u g hne;rw[World.cell?_of_block hb];exact h4 j x hx
set_option maxRecDepth 10000 in
theorem zgq (v:Value) (n base E:Nat) (w:World) (hr:NatV w v n) (hn:(yf n).length<=200000) (hb0:1<=base) (hb:base<=16) (hE:E<=5000000):
  Calls Tryz.prog 43 #[v,.int .u64 (base:Int),.int .i64 (E:Int)] w fun e w'=>∃ vn vd,e=.returned (.agg #[.bool false,vn,vd])/\NatV w' vn (n*base^E)/\NatV w' vd 1/\w.grownBy w' none:=by
 have HP:=zH (fun W=>zea base E W hb0 hb hE);have hl:=zic base E (base^E) hb hE (Nat.le_refl _);have HM:=zH (fun (V:Value) (W:World) (hW:w.grownBy W none) (h:NatV W V (base^E))=>vc v V n (base^E) W (hr.grown hW) h zd zd);have HO:=zH (fun W=>ww 1 W ze);have HG0:=zH (fun o=>World.grownBy_alloc w o none);have hE0:(0:Int)<=(E:Int):=zd;clear hr hl;go_enter Tryz.func43,Tryz.ntmps43;go_wp2_with fail;refine (HP.out _).mono ?_;rintro e w1 ⟨v1,rfl,hn1,hg1⟩;have HR1:=zH (Row.grown (Row.new w [Value.bool false,.slice none 0 0,.slice none 0 0] 41) hg1 zi);have HN1:=zH hn1;have HG1:=zH (ya (HG0.out _) hg1);clear hn1 hg1;go_wp2_with fail;refine (HM.out _ _ HG1.out HN1.out).mono ?_;rintro e w2 ⟨v2,rfl,hn2,hg2⟩;have HN2:=zH hn2;have HG2:=zH hg2;clear hn2 hg2;go_wp2_with fail;refine (HO.out _).mono ?_;rintro e w3 ⟨v3,rfl,hn3,hg3⟩;have hr3:=(HR1.out.grown HG2.out zi).grown hg3 zi;have hn2:=HN2.out.grown hg3;obtain⟨B,hB⟩:=zX w.heap.size;rw[hB]at hr3;simp only[hB];have k0:=hr3.cell 0;have k1:=hr3.cell 1;have k2:=hr3.cell 2;have f0:=hr3.frozen 0;have f1:=hr3.frozen 1;have f2:=hr3.frozen 2;simp only[List.getElem?_cons_zero,List.getElem?_cons_succ]at k0 k1 k2;have HG3:=zH (ya HG1.out (ya HG2.out hg3));obtain⟨a2,c2,rfl⟩:=hn2.len;obtain⟨a3,c3,rfl⟩:=hn3.len;generalize (yf (n*base^E)).length=L2 at hn2 ⊢;generalize (yf 1).length=L3 at hn3 ⊢;have HN2':=zH hn2;have HN3:=zH hn3;have HB:=zH hB;have HK0:=zH k0;have HR3:=zH hr3;clear hn2 hn3 hg3 hr3 hB HN2 HG2 HR1 HN1 HG1;go_wp2_with fail;obtain⟨ty,hrow⟩:=((HR3.out.setCell 0 (.bool false)).setCell 1 (.slice a2 L2 c2)).setCell 2 (.slice a3 L3 c3);have HN2:=HN2'.out;have hk0:=HK0.out;refine bodyPost_ret (v:=.agg #[.bool false,.slice a2 L2 c2,.slice a3 L3 c3]) (results_cell_row rfl _ _ B ty _ (0,0) _ rfl hrow Tryz.underlying41 rfl zg) rfl ⟨_,_,rfl,?_,?_,?_⟩
 ·refine NatV.setB (f:=false) (NatV.setB (f:=false) (NatV.setB (f:=false) HN2 hk0) ?_) ?_
  ·exact (HR3.out.setCell 0 (.bool false)).cell 0
  ·exact ((HR3.out.setCell 0 (.bool false)).setCell 1 (.slice a2 L2 c2)).cell 0
 ·refine NatV.setB (f:=false) (NatV.setB (f:=false) (NatV.setB (f:=false) HN3.out hk0) ?_) ?_
  ·exact (HR3.out.setCell 0 (.bool false)).cell 0
  ·exact ((HR3.out.setCell 0 (.bool false)).setCell 1 (.slice a2 L2 c2)).cell 0
 ·exact yb (yb (yb HG3.out _ (Nat.le_of_eq HB.out)) _ (Nat.le_of_eq HB.out)) _ (Nat.le_of_eq HB.out)
set_option maxRecDepth 10000 in
theorem zdw (v:Value) (n base E:Nat) (w:World) (hr:NatV w v n) (hE1:1<=E) (hb0:1<=base) (hb:base<=16) (hE:E<=5000000):
  Calls Tryz.prog 43 #[v,.int .u64 (base:Int),.int .i64 (-(E:Int))] w fun e w'=>∃ vn vd,e=.returned (.agg #[.bool false,vn,vd])/\NatV w' vn n/\NatV w' vd (base^E)/\w.grownBy w' none:=by
 have HP:=zH (fun W=>zea base E W hb0 hb hE);have HG0:=zH (fun o=>World.grownBy_alloc w o none);have hE0:decide ((0:Int)<=-(E:Int))=false:=zh;have hE2:decide (E=0)=false:=zh;obtain⟨a2,c2,rfl⟩:=hr.len;generalize (yf n).length=L2 at hr ⊢;have HV:=zH hr;clear hr;go_enter Tryz.func43,Tryz.ntmps43;go_wp2_with fail;refine (HP.out _).mono ?_;rintro e w3 ⟨v3,rfl,hn3,hg3⟩;have hr3:=Row.grown (Row.new w [Value.bool false,.slice none 0 0,.slice none 0 0] 41) hg3 zi;obtain⟨B,hB⟩:=zX w.heap.size;rw[hB]at hr3;simp only[hB];have k0:=hr3.cell 0;have k1:=hr3.cell 1;have k2:=hr3.cell 2;have f0:=hr3.frozen 0;have f1:=hr3.frozen 1;have f2:=hr3.frozen 2;simp only[List.getElem?_cons_zero,List.getElem?_cons_succ]at k0 k1 k2;have HG3:=zH (ya (HG0.out _) hg3);have HN2':=zH (HV.out.grown HG3.out);obtain⟨a3,c3,rfl⟩:=hn3.len;generalize (yf (base^E)).length=L3 at hn3 ⊢;have HN3:=zH hn3;have HB:=zH hB;have HK0:=zH k0;have HR3:=zH hr3;clear hn3 hg3 hr3 hB;go_wp2_with fail;obtain⟨ty,hrow⟩:=((HR3.out.setCell 0 (.bool false)).setCell 1 (.slice a2 L2 c2)).setCell 2 (.slice a3 L3 c3);have HN2:=HN2'.out;have hk0:=HK0.out;refine bodyPost_ret (v:=.agg #[.bool false,.slice a2 L2 c2,.slice a3 L3 c3]) (results_cell_row rfl _ _ B ty _ (0,0) _ rfl hrow Tryz.underlying41 rfl zg) rfl ⟨_,_,rfl,?_,?_,?_⟩
 ·refine NatV.setB (f:=false) (NatV.setB (f:=false) (NatV.setB (f:=false) HN2 hk0) ?_) ?_
  ·exact (HR3.out.setCell 0 (.bool false)).cell 0
  ·exact ((HR3.out.setCell 0 (.bool false)).setCell 1 (.slice a2 L2 c2)).cell 0
 ·refine NatV.setB (f:=false) (NatV.setB (f:=false) (NatV.setB (f:=false) HN3.out hk0) ?_) ?_
  ·exact (HR3.out.setCell 0 (.bool false)).cell 0
  ·exact ((HR3.out.setCell 0 (.bool false)).setCell 1 (.slice a2 L2 c2)).cell 0
 ·exact yb (yb (yb HG3.out _ (Nat.le_of_eq HB.out)) _ (Nat.le_of_eq HB.out)) _ (Nat.le_of_eq HB.out)
theorem xu (s:List UInt8) (i:Nat) (hi:i<s.length):∀ h:i<(⟨s.toArray⟩:ByteArray).size,(⟨s.toArray⟩:ByteArray)[i]'h=s.getD i 0:=by
 intro h;rw[List.getD_eq_getElem?_getD,List.getElem?_eq_getElem hi];rfl
def zf1:List Value:=[.bool false,.slice none 0 0,.slice none 0 0]
def zpu (w:World) (v:Value) (neg:Bool) (n d:Nat):Prop:=∃ vn vd,v=.agg #[.bool neg,vn,vd]/\NatV w vn n/\NatV w vd d
theorem yz {w:World} {D:Nat} {v:Value} {n:Nat} {f:Bool} {x y:Value} (hr:Row w D [.bool f,x,y]) (h:NatV w v n) (u0:Bool) (u1 u2:Value):
  NatV (((w.setCell ⟨D,0,none⟩ (.bool u0)).setCell ⟨D,1,none⟩ u1).setCell ⟨D,2,none⟩ u2) v n:=by
 refine NatV.setB (f:=u0) (NatV.setB (f:=u0) (NatV.setB (f:=f) h ?_) ?_) ?_
 ·exact hr.cell 0
 ·exact (hr.setCell 0 (.bool u0)).cell 0
 ·exact ((hr.setCell 0 (.bool u0)).setCell 1 u1).cell 0
theorem wp {w:World} {D:Nat} {x y z:Value} (hr:Row w D [x,y,z]) (u0 u1 u2:Value):
  Row (((w.setCell ⟨D,0,none⟩ u0).setCell ⟨D,1,none⟩ u1).setCell ⟨D,2,none⟩ u2) D [u0,u1,u2]:=((hr.setCell 0 u0).setCell 1 u1).setCell 2 u2
theorem xk {w w1:World} (h:w.grownBy w1 none) {B:Nat} (hB:w.heap.size<=B) (u0 u1 u2:Value):
  w.grownBy (((w1.setCell ⟨B,0,none⟩ u0).setCell ⟨B,1,none⟩ u1).setCell ⟨B,2,none⟩ u2) none:=yb (yb (yb h _ hB) _ hB) _ hB
set_option maxRecDepth 10000 in
theorem zii (n:Nat) (w:World) (hn:n<4294967296):
  Calls Tryz.prog 42 #[.int .i64 32,.int .u64 (n:Int)] w fun e w'=>e=.returned (.tuple #[.int .u64 (if n%2147483648 / 8388608=0 then n%2147483648%8388608 else n%2147483648%8388608+8388608:Nat),.int .i64 ((if n%2147483648 / 8388608=0 then 1 else ((n%2147483648 / 8388608:Nat):Int))-127-23)])/\w.grownBy w' none:=by
 obtain⟨q,hq⟩:=zX (n%2147483648);have hand:bits .andNot .u64 (n:Int) 2147483648=(q:Int):=by rw[<-hq];exact ui n 31 zd zd
 rw[hq];obtain⟨e,he⟩:=zX (q / 8388608);obtain⟨s,hs⟩:=zX (q%8388608);rw[he,hs];have hql:q<2147483648:=by rw[<-hq];exact Nat.mod_lt _ ze
 have hes:s+e*8388608=q:=zd;have hel:e<256:=zd;have hsl:s<8388608:=zd;have hdv:∀ [Inhabited Nat],(q:Int) / 8388608=(e:Int):=by intro _;omega
 have hdv2:∀ [Inhabited Nat],(q:Int) / 2^23=(e:Int):=by
  intro _;have h1:((2:Int)^23)=8388608:=ze;rw[h1];omega
 have hml:∀ [Inhabited Nat],IntKind.u64.wrap ((e:Int)*2^23)=((e*8388608:Nat):Int):=by
  intro _;have h1:((2:Int)^23)=8388608:=ze;rw[h1,IntKind.wrap_u64];omega
 have hsub:∀ [Inhabited Nat],IntKind.u64.wrap ((q:Int)-(e:Int)*8388608)=(s:Int):=by intro _;rw[IntKind.wrap_u64];omega
 have hw0:∀ [Inhabited Nat],IntKind.u64.wrap 8388608=8388608:=by intro _;rw[IntKind.wrap_u64];omega
 have hadd:∀ [Inhabited Nat],IntKind.u64.wrap ((s:Int)+8388608)=(s:Int)+8388608:=by intro _;rw[IntKind.wrap_u64];omega
 have hex1:∀ [Inhabited Nat],IntKind.i64.wrap ((e:Int)-127)=(e:Int)-127:=by intro _;exact IntWalk.i64_in _ zd
 have hex2:∀ [Inhabited Nat],IntKind.i64.wrap ((e:Int)-127-23)=(e:Int)-127-23:=by intro _;exact IntWalk.i64_in _ zd
 have HES:=zH hes;clear hq he hs hes;refine ye Tryz.func42 rfl (by rw[Tryz.ntmps42];simp) ?_;intro σ hσ;rw[Tryz.ntmps42];have s0:σ 0=.int .i64 32:=hσ 0 zi;have s1:σ 1=.int .u64 (n:Int):=hσ 1 zi;clear hσ;(go_wp2_with fail;repeat ((first|refine cZ ?_|refine cW ?_);go_wp2_with fail));refine (zek _).mono ?_;rintro e1 w1 ⟨rfl,rfl⟩;(go_wp2_with fail;repeat ((first|refine cZ ?_|refine cW ?_);go_wp2_with fail));refine (ur _).mono ?_;rintro e1 w1 ⟨rfl,rfl⟩;by_cases he0:e=0
 ·subst he0;have hqs:q=s:=by have:=HES.out;omega
  subst hqs;(go_wp2_with fail;repeat ((first|refine cZ ?_|refine cW ?_);go_wp2_with fail));refine (zbd _).mono ?_;rintro e1 w1 ⟨rfl,rfl⟩;(go_wp2_with fail;repeat ((first|refine cZ ?_|refine cW ?_);go_wp2_with fail));exact xc (.int .u64 (q:Int)) (.int .i64 (-149)) rfl ze ze zb zb ⟨zi,yy w none⟩
 ·have f1:((e:Int)==0)=false:=zf;(go_wp2_with fail;repeat ((first|refine cZ ?_|refine cW ?_);go_wp2_with fail));refine wp_region_noPanic ?_;refine wp_region_held_drew (S:=fun w'=>w.grownBy w' none) zg (yh w 1 none) (fun hHeld=>?_);(refine yg 0 34 ?_;refine yg 1 35 ?_;refine yg 2 36 ?_;refine yg 3 37 ?_;refine yg 4 38 ?_;refine yg 5 39 ?_;refine yg 8 42 ?_);(refine zO 6 ?_;intro K hK;go_simp;(refine (zbd _).mono ?_;rintro e1 w9 ⟨rfl,rfl⟩);go_wp2_with fail;replace hHeld:=hHeld;refine hK.out _ _ hHeld ?_;clear hK K);(refine yg 7 41 ?_;refine yg 9 43 ?_;refine yg 10 4 ?_;refine yg 11 5 ?_);refine wpAnyH_done zg ?_ _;refine NoPanic.normal ?_;(go_wp2_with fail;repeat ((first|refine cZ ?_|refine cW ?_);go_wp2_with fail));exact xc (.int .u64 ((s:Int)+8388608)) (.int .i64 ((e:Int)-127-23)) rfl ze ze zb zb ⟨by simp[he0],hHeld⟩
theorem zcl (n k:Nat) (hn:n<2^(k+1)) (hk:k<=63):bits .and .u64 (n:Int) ((2^k:Nat):Int)=(((if n<2^k then 0 else 2^k):Nat):Int):=by
 have p:0<2^k:=Nat.pow_pos zd;have hk63:2^k<=2^63:=Nat.pow_le_pow_right zd hk;have hk64:2^(k+1)<=2^64:=Nat.pow_le_pow_right zd zd;have hn64:n<18446744073709551616:=zd;have h0:(BitVec.ofInt 64 (n:Int)).toNat=n:=zU;have h1:(BitVec.ofInt 64 ((2^k:Nat):Int)).toNat=2^k:=zU;have key:(BitVec.ofInt 64 (n:Int)&&&BitVec.ofInt 64 ((2^k:Nat):Int)).toNat=if n<2^k then 0 else 2^k:=by
  rw[BitVec.toNat_and,h0,h1];apply Nat.eq_of_testBit_eq;intro i;rw[Nat.testBit_and,Nat.testBit_two_pow];by_cases hik:k=i
  ·subst hik;by_cases h:n<2^k
   ·rw[if_pos h,Nat.testBit_lt_two_pow h];simp
   ·rw[if_neg h,Nat.testBit_two_pow_self];have:n.testBit k=true:=by
     rw[Nat.testBit_eq_decide_div_mod_eq,decide_eq_true_eq];have h2:n / 2^k=1:=by
      rw[Nat.pow_succ]at hn;exact Nat.div_eq_of_lt_le zd zd
     rw[h2]
    simp[this]
  ·by_cases h:n<2^k
   ·rw[if_pos h];simp[hik]
   ·rw[if_neg h,Nat.testBit_two_pow];simp[hik]
 show IntKind.u64.wrap ((BitVec.ofInt 64 (n:Int)&&&BitVec.ofInt 64 ((2^k:Nat):Int)).toNat:Nat)=_;rw[key,IntKind.wrap_u64];split <;> omega
theorem jw (n:Nat) (w:World) (hn:n<4294967296):
  Calls Tryz.prog 36 #[.int .i64 32,.int .u64 (n:Int)] w fun e w'=>e=.returned (.bool (decide (2147483648<=n)))/\w=w':=by
 have hand:bits .and .u64 (n:Int) 2147483648=(((if n<2^31 then 0 else 2^31):Nat):Int):=zcl n 31 hn zd;by_cases h:n<2147483648
 ·have e1:bits .and .u64 (n:Int) 2147483648=0:=by rw[hand,if_pos (show n<2^31 from h)];rfl
  have e2:decide (2147483648<=n)=false:=zh;rw[e2];clear hand;go_enter Tryz.func36,Tryz.ntmps36;go_wp2_with (go_at_call 31;refine (ur _).mono ?_;rintro e w' ⟨rfl,rfl⟩);go_ret;exact⟨rfl,rfl⟩
 ·have e1:bits .and .u64 (n:Int) 2147483648=2147483648:=by rw[hand,if_neg (show ¬n<2^31 from h)];rfl
  have e2:decide (2147483648<=n)=true:=zh;rw[e2];clear hand;go_enter Tryz.func36,Tryz.ntmps36;go_wp2_with (go_at_call 31;refine (ur _).mono ?_;rintro e w' ⟨rfl,rfl⟩);go_ret;exact⟨rfl,rfl⟩
theorem jg (v:Value) (n base:Nat) (e:Int) (w:World) (hr:NatV w v n) (hn:(yf n).length<=200000) (hb0:1<=base) (hb:base<=16) (he1:-5000000<=e) (he2:e<=5000000):
  Calls Tryz.prog 43 #[v,.int .u64 (base:Int),.int .i64 e] w fun x w'=>∃ vn vd,x=.returned (.agg #[.bool false,vn,vd])/\NatV w' vn (n*base^e.toNat)/\NatV w' vd (base^(-e).toNat)/\w.grownBy w' none:=by
 by_cases h:0<=e
 ·obtain⟨E,rfl⟩:∃ E:Nat,e=(E:Int):=⟨e.toNat,zd⟩;have h1:((E:Int)).toNat=E:=zd;have h2:(-(E:Int)).toNat=0:=zd;rw[h1,h2,Nat.pow_zero];exact zgq v n base E w hr hn hb0 hb zd
 ·obtain⟨E,rfl⟩:∃ E:Nat,e=-(E:Int):=⟨(-e).toNat,zd⟩;have h1:(-(E:Int)).toNat=0:=zd;have h2:(- -(E:Int)).toNat=E:=zd;rw[h1,h2,Nat.pow_zero,Nat.mul_one];exact zdw v n base E w hr zd hb0 hb zd
end Go.Proofs.YtnifedmhgncioaaGreatDoor
