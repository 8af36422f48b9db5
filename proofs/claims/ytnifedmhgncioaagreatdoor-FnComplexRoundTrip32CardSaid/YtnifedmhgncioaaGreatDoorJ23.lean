/- Lemmas that the claim's top text leans on. No condition of their own. -/
import Derived.Test.YtnifedmhgncioaaGreatDoorJ19
import Derived.Test.YtnifedmhgncioaaGreatDoorJ27
namespace Go.Proofs.YtnifedmhgncioaaGreatDoor
open Go.RowKit
set_option linter.unusedSimpArgs false
set_option linter.unusedVariables false
set_option maxHeartbeats 16000000
theorem zhk:∀ (k:Nat) (s p:List UInt8),k<=p.length->(k<=cpL s p↔k<=s.length/\xf (s.take k)=p.take k)
 | 0,s,p,_=>by simp[xf]
 | k+1,[],p,_=>by
  have:cpL [] p=0:=by cases p <;> rfl
  simp[this]
 | k+1,c::s,[],h=>by simp at h
 | k+1,c::s,q::p,h=>by
  have ih:=zhk k s p zI
  show k+1<=(if vb c=q then 1+cpL s p else 0)↔_
  by_cases hc:vb c=q
  ·rw[if_pos hc]
   have e:xf ((c::s).take (k+1))=vb c::xf (s.take k):=rfl
   rw[e,List.take_succ_cons,hc,List.length_cons]
   constructor
   ·intro h1
    obtain⟨h2,h3⟩:=ih.1 zd
    exact⟨zd,by rw[h3]⟩
   ·rintro⟨h1,h2⟩
    have:=ih.2 ⟨zd,(List.cons.inj h2).2⟩
    omega
  ·rw[if_neg hc]
   have e:xf ((c::s).take (k+1))=vb c::xf (s.take k):=rfl
   rw[e,List.take_succ_cons]
   constructor
   ·intro h1;omega
   ·rintro⟨h1,h2⟩
    exact absurd (List.cons.inj h2).1 hc
theorem ut (c:UInt8):∀ x:UInt8,(x=105\/x=110)->(vb c=x↔c=x\/c=x-32):=by
 intro x hx;rcases hx with rfl | rfl <;> revert c <;> refine vu _ ?_ <;> decide +kernel
theorem yiq {s:List UInt8} {c:UInt8} {r:List UInt8} (h:(sgn s).2=c::r) (hc:vb c=105\/vb c=110):zau s=none:=by
 have h4:c=105\/c=73\/c=110\/c=78:=by
  rcases hc with hc | hc
  ·rcases (ut c 105 (Or.inl rfl)).1 hc with h | h
   ·exact Or.inl h
   ·exact Or.inr (Or.inl h)
  ·rcases (ut c 110 (Or.inr rfl)).1 hc with h | h
   ·exact Or.inr (Or.inr (Or.inl h))
   ·exact Or.inr (Or.inr (Or.inr h))
 have hx:yo (sgn s).2=false:=by
  rw[h];match r with
  | []=>rfl
  | [_]=>rfl
  | x::y::r=>
   show decide (c=48/\wc x=120)=false;apply decide_eq_false;rintro⟨rfl,-⟩;revert h4;decide
 have hb:yj s=c::r:=by unfold yj;rw[hx,h];rfl
 have hd:xe false c=false:=by rcases h4 with rfl | rfl | rfl | rfl <;> decide
 have h46:c≠46:=by rintro rfl;revert h4;decide
 rw[jv,if_pos];rw[hx,hb];have e1:ve false (c::r)=[]:=by unfold ve;rw[List.takeWhile_cons_of_neg (by rw[hd];decide)]
 have e2:qi false (c::r)=c::r:=by unfold qi;rw[List.dropWhile_cons_of_neg (by rw[hd];decide)]
 have e3:yw false (c::r)=[]:=by
  unfold yw;rw[e2,if_neg];intro h;exact h46 zI
 rw[e1,e3];exact⟨rfl,rfl⟩
theorem zj8 (s:List UInt8):(xf s).length=s.length:=by unfold xf;simp
theorem ziv (neg:Bool) (k:Nat) (t:List UInt8):
  (xf t=[105,110,102]\/xf t=[105,110,102,105,110,105,116,121]->zd3 neg k t=some (kp neg,k+t.length))/\
  (¬(xf t=[105,110,102]\/xf t=[105,110,102,105,110,105,116,121])->zd3 neg k t=none\/∃ n,zd3 neg k t=some (kp neg,n)/\n≠k+t.length/\∃ c r,t=c::r/\vb c=105):=by
 have h8:=zhk 8 t infinityL ze;have h3:=zhk 3 t infinityL ze;have h4:=zhk 4 t infinityL ze;have hle:=zer t infinityL;change cpL t infinityL<=8 at hle;have hd8:xf (t.take 8)=(xf t).take 8:=zαk;have hd3:xf (t.take 3)=(xf t).take 3:=zαk;have hd4:xf (t.take 4)=(xf t).take 4:=zαk;rw[hd8]at h8;rw[hd3]at h3;rw[hd4]at h4;have hlen:=zj8 t;unfold zd3;constructor
 ·rintro (h | h)
  ·rw[h]at h8 h3 h4 hlen;have hl:t.length=3:=hlen.symm;have a3:3<=cpL t infinityL:=h3.2 ⟨zd,rfl⟩;have a8:¬8<=cpL t infinityL:=fun h=>by have:=(h8.1 h).1;omega
   rw[if_neg zd,if_pos a3,hl]
  ·rw[h]at h8 h3 h4 hlen;have hl:t.length=8:=hlen.symm;have a8:8<=cpL t infinityL:=h8.2 ⟨zd,rfl⟩;rw[if_pos zd,hl]
 ·intro hno;have hhead:3<=cpL t infinityL->∃ c r,t=c::r/\vb c=105:=by
   intro h;obtain⟨h1,h2⟩:=h3.1 h;cases t with
   | nil=>simp at h1
   | cons c r=>
    refine⟨c,r,rfl,?_⟩;have:=congrArg List.head? h2;simpa[xf,infinityL]using this
  by_cases a8:cpL t infinityL=8
  ·rw[if_pos a8];refine Or.inr ⟨_,rfl,?_,hhead zd⟩;intro hl;obtain⟨h1,h2⟩:=h8.1 zd;refine hno (Or.inr ?_);rw[List.take_of_length_le zd]at h2;exact h2
  ·rw[if_neg a8];by_cases a3:3<=cpL t infinityL
   ·rw[if_pos a3];refine Or.inr ⟨_,rfl,?_,hhead a3⟩;intro hl;obtain⟨h1,h2⟩:=h3.1 a3;refine hno (Or.inl ?_);rw[List.take_of_length_le zd]at h2;exact h2
   ·rw[if_neg a3];exact Or.inl rfl
theorem zvo (s:List UInt8):
  (xf s=[110,97,110]->qp s=some (zmd,s.length))/\
  (xf s≠[110,97,110]->((sgn (xf s)).2=[105,110,102]\/(sgn (xf s)).2=[105,110,102,105,110,105,116,121])->qp s=some (kp (sgn (xf s)).1,s.length))/\
  (xf s≠[110,97,110]->¬((sgn (xf s)).2=[105,110,102]\/(sgn (xf s)).2=[105,110,102,105,110,105,116,121])->qp s=none\/∃ v n,qp s=some (v,n)/\n≠s.length/\zau s=none):=by
 have hsl:=zct s;rw[hsl];simp only;have hlen:=zj8 s;cases s with
 | nil=>
  refine⟨fun h=>by simp[xf]at h,fun _ h=>by simp[xf,sgn]at h,fun _ _=>Or.inl rfl⟩
 | cons c r=>
  have hdef:qp (c::r)=if c=43 then zd3 false 1 r else if c=45 then zd3 true 1 r else if c=105\/c=73 then zd3 false 0 (c::r) else if c=110\/c=78 then (if cpL (c::r) [110,97,110]=3 then some (zmd,3) else none) else none:=rfl
  by_cases c1:c=43
  ·have hs:sgn (c::r)=(false,r):=by rw[xq,if_pos c1]
   have hn:xf (c::r)≠[110,97,110]:=by
    rw[c1];intro h;have:=congrArg List.head? h;revert this;simp[xf];decide
   rw[hdef,if_pos c1,hs];obtain⟨i1,i2⟩:=ziv false 1 r;refine⟨fun h=>absurd h hn,fun _ h=>by rw[i1 h,List.length_cons,Nat.add_comm],fun _ h=>?_⟩;rcases i2 h with h2 | ⟨n,h2,h3,x,y,h4,h5⟩
   ·exact Or.inl h2
   ·exact Or.inr ⟨_,n,h2,by rw[List.length_cons];omega,yiq (by rw[hs];exact h4) (Or.inl h5)⟩
  by_cases c2:c=45
  ·have hs:sgn (c::r)=(true,r):=by rw[xq,if_neg c1,if_pos c2]
   have hn:xf (c::r)≠[110,97,110]:=by
    rw[c2];intro h;have:=congrArg List.head? h;revert this;simp[xf];decide
   rw[hdef,if_neg c1,if_pos c2,hs];obtain⟨i1,i2⟩:=ziv true 1 r;refine⟨fun h=>absurd h hn,fun _ h=>by rw[i1 h,List.length_cons,Nat.add_comm],fun _ h=>?_⟩;rcases i2 h with h2 | ⟨n,h2,h3,x,y,h4,h5⟩
   ·exact Or.inl h2
   ·exact Or.inr ⟨_,n,h2,by rw[List.length_cons];omega,yiq (by rw[hs];exact h4) (Or.inl h5)⟩
  have hs:sgn (c::r)=(false,c::r):=by rw[xq,if_neg c1,if_neg c2]
  rw[hdef,if_neg c1,if_neg c2,hs];simp only;by_cases c3:c=105\/c=73
  ·have hl:vb c=105:=(ut c 105 (Or.inl rfl)).2 c3;have hn:xf (c::r)≠[110,97,110]:=by
    intro h;have:=congrArg List.head? h;simp[xf,hl]at this
   rw[if_pos c3];obtain⟨i1,i2⟩:=ziv false 0 (c::r);refine⟨fun h=>absurd h hn,fun _ h=>by rw[i1 h,Nat.zero_add],fun _ h=>?_⟩;rcases i2 h with h2 | ⟨n,h2,h3,x,y,h4,h5⟩
   ·exact Or.inl h2
   ·exact Or.inr ⟨_,n,h2,zd,yiq (by rw[hs]) (Or.inl hl)⟩
  ·have hl:vb c≠105:=fun h=>c3 ((ut c 105 (Or.inl rfl)).1 h)
   have hi:¬(xf (c::r)=[105,110,102]\/xf (c::r)=[105,110,102,105,110,105,116,121]):=by
    rintro (h | h) <;> · have:=congrArg List.head? h;simp[xf]at this;exact hl this
   rw[if_neg c3];have h3:=zhk 3 (c::r) [110,97,110] ze;have hd3:xf ((c::r).take 3)=(xf (c::r)).take 3:=zαk;rw[hd3]at h3;have hle:=zer (c::r) [110,97,110];change cpL (c::r) [110,97,110]<=3 at hle;by_cases c4:c=110\/c=78
   ·have hl4:vb c=110:=(ut c 110 (Or.inr rfl)).2 c4;rw[if_pos c4];refine⟨fun h=>?_,fun _ h=>absurd h hi,fun h _=>?_⟩
    ·rw[h]at h3 hlen;have a3:=h3.2 ⟨by rw[<-hlen];decide,rfl⟩;rw[if_pos zd,<-hlen];rfl
    ·by_cases a3:cpL (c::r) [110,97,110]=3
     ·rw[if_pos a3];refine Or.inr ⟨_,_,rfl,?_,yiq (by rw[hs]) (Or.inr hl4)⟩;intro hl3;obtain⟨-,h2⟩:=h3.1 zd;rw[List.take_of_length_le zd]at h2;exact h h2
     ·rw[if_neg a3];exact Or.inl rfl
   ·rw[if_neg c4];refine⟨fun h=>?_,fun _ h=>absurd h hi,fun _ _=>Or.inl rfl⟩;exfalso;have:=congrArg List.head? h;simp[xf]at this;exact c4 ((ut c 110 (Or.inr rfl)).1 this)
def erK (k:Nat):Value:=if k=0 then .nilIface else if k=1 then .iface 101 (.int .i64 2) else .iface 101 (.int .i64 1)
theorem zus (b:Bool):erV b=erK (if b=true then 2 else 0):=by cases b <;> rfl
def spB (F:Nat) (bias:Int) (inf:Nat) (t:Txt):Nat:=spN F bias inf t.base t.digits t.exp
theorem zib (s:List UInt8):
  (xf s=[110,97,110]->ul s=some ⟨2,false,0,[],0⟩)/\
  (xf s≠[110,97,110]->((sgn (xf s)).2=[105,110,102]\/(sgn (xf s)).2=[105,110,102,105,110,105,116,121])->ul s=some ⟨1,(sgn (xf s)).1,0,[],0⟩)/\
  (xf s≠[110,97,110]->¬((sgn (xf s)).2=[105,110,102]\/(sgn (xf s)).2=[105,110,102,105,110,105,116,121])->ul s=(zau s).map spT):=by
 rw[zqo];refine⟨fun h=>by rw[if_pos h],fun h h2=>by rw[if_neg h,if_pos h2],fun h h2=>by rw[if_neg h,if_neg h2]⟩
theorem zco (s:List UInt8) (P:Prop)
  (h1:qp s=some (zmd,s.length)->ul s=some ⟨2,false,0,[],0⟩->P)
  (h2:∀ ng,qp s=some (kp ng,s.length)->ul s=some ⟨1,ng,0,[],0⟩->P)
  (h3:(qp s=none\/∃ v n,qp s=some (v,n)/\n≠s.length/\zau s=none)->ul s=(zau s).map spT->P):P:=by
 obtain⟨a1,a2,a3⟩:=zvo s;obtain⟨b1,b2,b3⟩:=zib s;by_cases hn:xf s=[110,97,110]
 ·exact h1 (a1 hn) (b1 hn)
 ·by_cases hi:(sgn (xf s)).2=[105,110,102]\/(sgn (xf s)).2=[105,110,102,105,110,105,116,121]
  ·exact h2 _ (a2 hn hi) (b2 hn hi)
  ·exact h3 (a3 hn hi) (b3 hn hi)
theorem zto (F:Nat) (bias:Int) (inf:Nat) {s:List UInt8} {L:Lit} (h:zau s=some L) (hs:s.length<=1000) (hb1:1<=bias) (hb2:bias<=1023) (hF1:1<=F) (hF2:bias+F<=1075):spB F bias inf (spT L)=nvL F bias inf L:=by
 obtain⟨h1,h2,h3,-⟩:=zfk h;exact sp_eq F bias inf L h1 h3 zd hb1 hb2 hF1 hF2
theorem zql {s:List UInt8} {R:RR} (h:rfP s=some R):(R.n=s.length->∃ L,zau s=some L/\zau (s.take R.n)=some L)/\(R.n≠s.length->zau s=none):=by
 obtain⟨h1,L,hL,hR⟩:=zsf h;constructor
 ·intro e;have:s.take R.n=s:=by rw[e,List.take_length]
  exact⟨L,by rw[<-this];exact hL,hL⟩
 ·intro hne;cases hl:zau s with
  | none=>rfl
  | some L'=>
   have:=zm9 hl;rw[h]at this;cases this;exact absurd rfl hne
theorem zq7 {s:List UInt8} (h:rfP s=none):zau s=none:=by
 cases hl:zau s with
 | none=>rfl
 | some L=>rw[zm9 hl]at h;cases h
section
attribute [local go_sem] undef
theorem zdh (w:World) (B:Nat) (u0 u1 u2:Value):w.grownBy (((w.setCell ⟨B,0,none⟩ u0).setCell ⟨B,1,none⟩ u1).setCell ⟨B,2,none⟩ u2) (some B):=
 yx (yx (wq w ⟨B,0,none⟩ _) (wq _ ⟨B,1,none⟩ _) (fun _ h _=>h)) (wq _ ⟨B,2,none⟩ _) (fun _ h _=>h)
end
section
attribute [local go_sem] undef
theorem zr6 (j:Int) (h1:-9223372036854775808<=j) (h2:j<=9223372036854775807):IntKind.i64.wrap j=j:=by rw[IntKind.wrap_i64];omega
structure InBlk (w w1:World) (B:Nat) (neg:Bool) (vn vd:Value):Prop where
 row:Row w1 B [.bool neg,vn,vd]
 grown:w.grownBy w1 none
 size:w.heap.size=B
theorem InBlk.new (w:World) (neg:Bool) (vn vd:Value) (t:TypeId):InBlk w (w.alloc (.cells #[.bool neg,vn,vd] t)) w.heap.size neg vn vd:=⟨Row.new w _ _,World.grownBy_alloc w _ none,rfl⟩
end
section
attribute [local go_sem] undef
theorem zab (x K N:Nat) (h:(yf x).length<=K):(yf (x*2^N)).length<=K+N:=by
 refine yv ?_;rw[Nat.pow_add];refine Nat.mul_lt_mul_of_lt_of_le (Nat.lt_of_lt_of_le (wu x) (Nat.pow_le_pow_right ze h)) ?_ (Nat.pow_pos ze);exact Nat.pow_le_pow_left ze _
set_option maxRecDepth 100000 in
theorem zli (neg:Bool) (vn vd:Value) (a b N:Nat) (w:World) (hn:NatV w vn a) (hd:NatV w vd b) (hla:(yf a).length<=1000000) (hlb:(yf b).length<=1000000) (hN:N<=5000000):
  Calls Tryz.prog 56 #[.agg #[.bool neg,vn,vd],.int .i64 (N:Int)] w fun e w'=>∃ vr,e=.returned vr/\zpu w' vr neg (a) (b*2^N)/\w.grownBy w' none:=by
 have HM:=zH (fun W (hg:w.grownBy W none)=>qe vd b N W (hd.grown hg) hlb zd);have HNA:=zH hn;have HNB:=zH hd;obtain⟨an,cn,rfl⟩:=hn.len;obtain⟨ad,cd,rfl⟩:=hd.len;generalize (yf a).length=LN at *
 generalize (yf b).length=LD at *
 obtain⟨w1,hw1⟩:=zX ((w.alloc (.cells #[.bool neg,.slice an LN cn,.slice ad LD cd] 41)).alloc (.cells #[.bool false,.slice none 0 0,.slice none 0 0] 41));obtain⟨B,hB⟩:=zX w.heap.size;have hrT:Row w1 B [.bool neg,.slice an LN cn,.slice ad LD cd]:=zV;have hrR:Row w1 (B+1) zf1:=by
  rw[<-hw1,<-hB];have:=Row.new (w.alloc (.cells #[.bool neg,.slice an LN cn,.slice ad LD cd] 41)) zf1 41;have e:(w.alloc (.cells #[.bool neg,.slice an LN cn,.slice ad LD cd] 41)).heap.size=w.heap.size+1:=by show (w.heap.push _).size=_;simp
  rw[e]at this;exact this
 have hg1:w.grownBy w1 none:=zy;have HRT:=zH hrT;have HRR:=zH hrR;have HG1:=zH hg1;have HW1:=zH hw1;have HB:=zH hB;clear hrT hrR hg1 hw1 hn hd hla hlb;refine ye Tryz.func56 rfl (by rw[Tryz.ntmps56];simp) ?_;intro σ hσ;rw[Tryz.ntmps56];have s0:σ 0=.agg #[.bool neg,.slice an LN cn,.slice ad LD cd]:=hσ 0 zi;have s1:σ 1=.int .i64 (N:Int):=hσ 1 zi;clear hσ;go_upto_region 1 with fail;rw[HW1.out];clear HW1;have hcell0:∀ W,w1.grownBy W (some (B+1))->W.cell? ⟨B,0,none⟩=some (.bool neg):=fun W h=>(HRT.out.grown h zi).cell 0
 have hcell1:∀ W,w1.grownBy W (some (B+1))->W.cell? ⟨B,1,none⟩=some (.slice an LN cn):=fun W h=>(HRT.out.grown h zi).cell 1
 have hcell2:∀ W,w1.grownBy W (some (B+1))->W.cell? ⟨B,2,none⟩=some (.slice ad LD cd):=fun W h=>(HRT.out.grown h zi).cell 2
 have HC0:=zH hcell0;have HC1:=zH hcell1;have HC2:=zH hcell2;clear hcell0 hcell1 hcell2 hB;(go_wp2_with fail;repeat ((first|refine cZ ?_|refine cW ?_);go_wp2_with fail));refine wp_region_noPanic ?_;refine wp_region_held_drew (S:=fun W=>w1.grownBy W (some (B+1))) zg (yh w1 1 _) (fun hHeld=>?_);have hrD:=HRR.out.drew;have hG:=ya HG1.out (yh w1 1 none);replace hG:w.grownBy w1.drew none:=hG;(refine yg 0 7 ?_);(refine xg 1 8 (oi:=?_) (v:=?_) ?_ ?_ zg zg zg (fun _ _ _ _ _ h=>h) ?_ zq ?_ ?_;rotate_left 2;(focus ((simp only[List.getElem?_toArray,List.getElem?_cons_succ,List.getElem?_cons_zero]);rfl));(focus rfl);(focus (first | rfl | (simp only[Region.wanted,yielded,List.getElem?_toArray,List.getElem?_cons_succ,List.getElem?_cons_zero,Option.bind_some,Option.map_some,Fr_get?,yc,yd];rfl) | go_simp));(focus (intro W hS;have hc:=HC0.out W hS;go_simp;try with_reducible rfl)));(refine yg 2 9 ?_);(refine xg 3 10 (oi:=?_) (v:=?_) ?_ ?_ zg zg zg (fun _ _ _ _ _ h=>h) ?_ zq ?_ ?_;rotate_left 2;(focus ((simp only[List.getElem?_toArray,List.getElem?_cons_succ,List.getElem?_cons_zero]);rfl));(focus rfl);(focus (first | rfl | (simp only[Region.wanted,yielded,List.getElem?_toArray,List.getElem?_cons_succ,List.getElem?_cons_zero,Option.bind_some,Option.map_some,Fr_get?,yc,yd];rfl) | go_simp));(focus (intro W hS;have hc:=HC1.out W hS;go_simp;try with_reducible rfl)));(refine yg 4 11 ?_);(refine xg 5 12 (oi:=?_) (v:=?_) ?_ ?_ zg zg zg (fun _ _ _ _ _ h=>h) ?_ zq ?_ ?_;rotate_left 2;(focus ((simp only[List.getElem?_toArray,List.getElem?_cons_succ,List.getElem?_cons_zero]);rfl));(focus rfl);(focus (first | rfl | (simp only[Region.wanted,yielded,List.getElem?_toArray,List.getElem?_cons_succ,List.getElem?_cons_zero,Option.bind_some,Option.map_some,Fr_get?,yc,yd];rfl) | go_simp));(focus (intro W hS;have hc:=HC2.out W hS;go_simp;try with_reducible rfl)));(refine yg 6 13 ?_);(refine zO 7 ?_;intro K hK;go_simp;(refine (HM.out _ hG).mono ?_;rintro e wA ⟨vA,rfl,hvd,hgA⟩);go_wp2_with fail;replace hHeld:=yx hHeld hgA (fun j e=>zL);refine hK.out _ _ hHeld ?_;clear hK K);replace hrD:=hrD.grown hgA zi;replace hG:=ya hG hgA;clear hgA;have hvn:=HNA.out.grown hG;obtain⟨am,cm,rfl⟩:=hvd.len;generalize (yf (b*2^N)).length=LM at *
 (refine yg 8 15 ?_);have k0:=hrD.cell 0;have k1:=hrD.cell 1;have k2:=hrD.cell 2;have t0:=hrD.frozen 0;have t1:=hrD.frozen 1;have t2:=hrD.frozen 2;unfold zf1 at k0 k1 k2;simp only[List.getElem?_cons_zero,List.getElem?_cons_succ]at k0 k1 k2;have HG:=zH (xk hG (B:=B+1) (by have:=HB.out;omega) (.bool neg) (.slice an LN cn) (.slice am LM cm));have HVN:=zH (yz hrD hvn neg (.slice an LN cn) (.slice am LM cm));have HVD:=zH (yz hrD hvd neg (.slice an LN cn) (.slice am LM cm));have HROW:=zH (wp hrD (.bool neg) (.slice an LN cn) (.slice am LM cm));(refine zO 9 ?_;intro K hK;go_simp;(skip);go_wp2_with fail;replace hHeld:=yx hHeld (zdh _ _ (.bool neg) (.slice an LN cn) (.slice am LM cm)) (fun j e _=>e ▸ rfl);refine hK.out _ _ hHeld ?_;clear hK K);refine wpAnyH_done zg ?_ _;refine NoPanic.normal ?_;(go_wp2_with fail;repeat ((first|refine cZ ?_|refine cW ?_);go_wp2_with fail));obtain⟨ty,hrow⟩:=HROW.out;exact bodyPost_ret (v:=.agg #[.bool neg,.slice an LN cn,.slice am LM cm]) (results_cell_row rfl _ _ (B+1) ty _ (0,0) _ (by rw[wa 26 _ σ 4 ze];simp[ov, *]) hrow Tryz.underlying41 rfl zg) (vz ..) ⟨_,rfl,⟨_,_,rfl,HVN.out,HVD.out⟩,HG.out⟩
set_option maxRecDepth 100000 in
theorem zgz (neg:Bool) (vn vd:Value) (a b N:Nat) (w:World) (hn:NatV w vn a) (hd:NatV w vd b) (hla:(yf a).length<=1000000) (hlb:(yf b).length<=1000000) (hN:N<=5000000) (hN1:1<=N):
  Calls Tryz.prog 56 #[.agg #[.bool neg,vn,vd],.int .i64 (-(N:Int))] w fun e w'=>∃ vr,e=.returned vr/\zpu w' vr neg (a*2^N) (b)/\w.grownBy w' none:=by
 have HM:=zH (fun W (hg:w.grownBy W none)=>qe vn a N W (hn.grown hg) hla zd);have HNA:=zH hn;have HNB:=zH hd;obtain⟨an,cn,rfl⟩:=hn.len;obtain⟨ad,cd,rfl⟩:=hd.len;generalize (yf a).length=LN at *
 generalize (yf b).length=LD at *
 obtain⟨w1,hw1⟩:=zX ((w.alloc (.cells #[.bool neg,.slice an LN cn,.slice ad LD cd] 41)).alloc (.cells #[.bool false,.slice none 0 0,.slice none 0 0] 41));obtain⟨B,hB⟩:=zX w.heap.size;have hrT:Row w1 B [.bool neg,.slice an LN cn,.slice ad LD cd]:=zV;have hrR:Row w1 (B+1) zf1:=by
  rw[<-hw1,<-hB];have:=Row.new (w.alloc (.cells #[.bool neg,.slice an LN cn,.slice ad LD cd] 41)) zf1 41;have e:(w.alloc (.cells #[.bool neg,.slice an LN cn,.slice ad LD cd] 41)).heap.size=w.heap.size+1:=by show (w.heap.push _).size=_;simp
  rw[e]at this;exact this
 have hg1:w.grownBy w1 none:=zy;have HRT:=zH hrT;have HRR:=zH hrR;have HG1:=zH hg1;have HW1:=zH hw1;have HB:=zH hB;clear hrT hrR hg1 hw1 hn hd hla hlb;refine ye Tryz.func56 rfl (by rw[Tryz.ntmps56];simp) ?_;intro σ hσ;rw[Tryz.ntmps56];have s0:σ 0=.agg #[.bool neg,.slice an LN cn,.slice ad LD cd]:=hσ 0 zi;have s1:σ 1=.int .i64 (-(N:Int)):=hσ 1 zi;have f1:decide ((0:Int)<=-(N:Int))=false:=zh;have f2:decide (N=0)=false:=zh;clear hσ;go_upto_region 1 with fail;rw[HW1.out];clear HW1;have hcell0:∀ W,w1.grownBy W (some (B+1))->W.cell? ⟨B,0,none⟩=some (.bool neg):=fun W h=>(HRT.out.grown h zi).cell 0
 have hcell1:∀ W,w1.grownBy W (some (B+1))->W.cell? ⟨B,1,none⟩=some (.slice an LN cn):=fun W h=>(HRT.out.grown h zi).cell 1
 have hcell2:∀ W,w1.grownBy W (some (B+1))->W.cell? ⟨B,2,none⟩=some (.slice ad LD cd):=fun W h=>(HRT.out.grown h zi).cell 2
 have HC0:=zH hcell0;have HC1:=zH hcell1;have HC2:=zH hcell2;clear hcell0 hcell1 hcell2 hB;(go_wp2_with fail;repeat ((first|refine cZ ?_|refine cW ?_);go_wp2_with fail));refine wp_region_noPanic ?_;refine wp_region_held_drew (S:=fun W=>w1.grownBy W (some (B+1))) zg (yh w1 1 _) (fun hHeld=>?_);have hrD:=HRR.out.drew;have hG:=ya HG1.out (yh w1 1 none);replace hG:w.grownBy w1.drew none:=hG;(refine yg 0 16 ?_);(refine xg 1 17 (oi:=?_) (v:=?_) ?_ ?_ zg zg zg (fun _ _ _ _ _ h=>h) ?_ zq ?_ ?_;rotate_left 2;(focus ((simp only[List.getElem?_toArray,List.getElem?_cons_succ,List.getElem?_cons_zero]);rfl));(focus rfl);(focus (first | rfl | (simp only[Region.wanted,yielded,List.getElem?_toArray,List.getElem?_cons_succ,List.getElem?_cons_zero,Option.bind_some,Option.map_some,Fr_get?,yc,yd];rfl) | go_simp));(focus (intro W hS;have hc:=HC0.out W hS;go_simp;try with_reducible rfl)));(refine yg 2 18 ?_);(refine xg 3 19 (oi:=?_) (v:=?_) ?_ ?_ zg zg zg (fun _ _ _ _ _ h=>h) ?_ zq ?_ ?_;rotate_left 2;(focus ((simp only[List.getElem?_toArray,List.getElem?_cons_succ,List.getElem?_cons_zero]);rfl));(focus rfl);(focus (first | rfl | (simp only[Region.wanted,yielded,List.getElem?_toArray,List.getElem?_cons_succ,List.getElem?_cons_zero,Option.bind_some,Option.map_some,Fr_get?,yc,yd];rfl) | go_simp));(focus (intro W hS;have hc:=HC1.out W hS;go_simp;try with_reducible rfl)));(refine yg 4 20 ?_);(refine xg 5 21 (oi:=?_) (v:=?_) ?_ ?_ zg zg zg (fun _ _ _ _ _ h=>h) ?_ zq ?_ ?_;rotate_left 2;(focus ((simp only[List.getElem?_toArray,List.getElem?_cons_succ,List.getElem?_cons_zero]);rfl));(focus rfl);(focus (first | rfl | (simp only[Region.wanted,yielded,List.getElem?_toArray,List.getElem?_cons_succ,List.getElem?_cons_zero,Option.bind_some,Option.map_some,Fr_get?,yc,yd];rfl) | go_simp));(focus (intro W hS;go_simp;rw[vt N zd])));(refine yg 7 23 ?_);(refine xg 8 24 (oi:=?_) (v:=?_) ?_ ?_ zg zg zg (fun _ _ _ _ _ h=>h) ?_ zq ?_ ?_;rotate_left 2;(focus ((simp only[List.getElem?_toArray,List.getElem?_cons_succ,List.getElem?_cons_zero]);rfl));(focus rfl);(focus (first | rfl | (simp only[Region.wanted,yielded,List.getElem?_toArray,List.getElem?_cons_succ,List.getElem?_cons_zero,Option.bind_some,Option.map_some,Fr_get?,yc,yd];rfl) | go_simp));(focus (intro W hS;have hc:=HC2.out W hS;go_simp;try with_reducible rfl)));(refine zO 6 ?_;intro K hK;go_simp;(refine (HM.out _ hG).mono ?_;rintro e wA ⟨vA,rfl,hvn,hgA⟩);go_wp2_with fail;replace hHeld:=yx hHeld hgA (fun j e=>zL);refine hK.out _ _ hHeld ?_;clear hK K);replace hrD:=hrD.grown hgA zi;replace hG:=ya hG hgA;clear hgA;have hvd:=HNB.out.grown hG;obtain⟨am,cm,rfl⟩:=hvn.len;generalize (yf (a*2^N)).length=LM at *
 (refine yg 9 25 ?_);have k0:=hrD.cell 0;have k1:=hrD.cell 1;have k2:=hrD.cell 2;have t0:=hrD.frozen 0;have t1:=hrD.frozen 1;have t2:=hrD.frozen 2;unfold zf1 at k0 k1 k2;simp only[List.getElem?_cons_zero,List.getElem?_cons_succ]at k0 k1 k2;have HG:=zH (xk hG (B:=B+1) (by have:=HB.out;omega) (.bool neg) (.slice am LM cm) (.slice ad LD cd));have HVN:=zH (yz hrD hvn neg (.slice am LM cm) (.slice ad LD cd));have HVD:=zH (yz hrD hvd neg (.slice am LM cm) (.slice ad LD cd));have HROW:=zH (wp hrD (.bool neg) (.slice am LM cm) (.slice ad LD cd));(refine zO 10 ?_;intro K hK;go_simp;(skip);go_wp2_with fail;replace hHeld:=yx hHeld (zdh _ _ (.bool neg) (.slice am LM cm) (.slice ad LD cd)) (fun j e _=>e ▸ rfl);refine hK.out _ _ hHeld ?_;clear hK K);refine wpAnyH_done zg ?_ _;refine NoPanic.normal ?_;(go_wp2_with fail;repeat ((first|refine cZ ?_|refine cW ?_);go_wp2_with fail));obtain⟨ty,hrow⟩:=HROW.out;exact bodyPost_ret (v:=.agg #[.bool neg,.slice am LM cm,.slice ad LD cd]) (results_cell_row rfl _ _ (B+1) ty _ (0,0) _ (by rw[wa 26 _ σ 4 ze];simp[ov, *]) hrow Tryz.underlying41 rfl zg) (vz ..) ⟨_,rfl,⟨_,_,rfl,HVN.out,HVD.out⟩,HG.out⟩
theorem zc1 (neg:Bool) (vn vd:Value) (a b:Nat) (k:Int) (w:World) (hn:NatV w vn a) (hd:NatV w vd b) (hla:(yf a).length<=1000000) (hlb:(yf b).length<=1000000) (hk1:-5000000<=k) (hk2:k<=5000000):
  Calls Tryz.prog 56 #[.agg #[.bool neg,vn,vd],.int .i64 k] w fun e w'=>∃ vr,e=.returned vr/\zpu w' vr neg (a*2^(-k).toNat) (b*2^k.toNat)/\w.grownBy w' none:=by
 by_cases hk0:0<=k
 ·obtain⟨N,rfl⟩:∃ N:Nat,k=(N:Int):=⟨k.toNat,zd⟩;rw[Int.toNat_natCast,show (-(N:Int)).toNat=0 by omega,Nat.pow_zero,Nat.mul_one];exact zli neg vn vd a b N w hn hd hla hlb zd
 ·obtain⟨N,rfl⟩:∃ N:Nat,k=-(N:Int):=⟨(-k).toNat,zd⟩;rw[Int.neg_neg,Int.toNat_natCast,show (-(N:Int)).toNat=0 by omega,Nat.pow_zero,Nat.mul_one];exact zgz neg vn vd a b N w hn hd hla hlb zd zd 
end
section
attribute [local go_sem] undef
theorem jk (a K:Nat) (h:(yf a).length<=K):yu a<=30*K:=by
 by_cases h0:a=0
 ·subst h0;unfold yu;rw[if_pos rfl];omega
 ·have h1:=vw h0;have h2:=wu a;rw[js]at h2;have h3:=(Nat.pow_lt_pow_iff_right (by omega:1<2)).1 (Nat.lt_of_le_of_lt h1 h2);have:30*(yf a).length<=30*K:=Nat.mul_le_mul_left _ h;omega
set_option maxRecDepth 100000 in
theorem zdz (neg:Bool) (vn vd:Value) (a b:Nat) (w:World) (hn:NatV w vn a) (hd:NatV w vd b) (hla:(yf a).length<=150000) (hlb:(yf b).length<=150000):
  Calls Tryz.prog 54 #[.agg #[.bool neg,vn,vd]] w fun e w'=>e=.returned (.int .i64 (uo a b))/\w.grownBy w' none:=by
 have da:=jk a 150000 hla;have db:=jk b 150000 hlb;obtain⟨j,hj⟩:=zX ((yu a:Int)-yu b);have HTA:=zH (fun W h=>yir vn a W (hn.grown h) zd);have HTB:=zH (fun W h=>yir vd b W (hd.grown h) zd);have HTT:=zH (fun W h=>zc1 neg vn vd a b j W (hn.grown h) (hd.grown h) zd zd zd zd);obtain⟨κ,hκ⟩:=zX (ko (a*2^(-j).toNat) (b*2^j.toNat));have hcm:∀ V U W,NatV W V (a*2^(-j).toNat)->NatV W U (b*2^j.toNat)->Calls Tryz.prog 44 #[V,U] W fun e w'=>e=.returned (.int .i64 κ)/\W.grownBy w' none:=by
  intro V U W h1 h2;rw[<-hκ];exact qy V U _ _ W h1 h2 (by have:=zab a 150000 (-j).toNat hla;omega) (by have:=zab b 150000 j.toNat hlb;omega)
 have hκ2:le2 a b j↔¬κ<0:=by
  rw[<-hκ];unfold ko;show b*2^j.toNat<=a*2^(-j).toNat↔_;generalize b*2^j.toNat=y;generalize a*2^(-j).toNat=x;split
  ·constructor <;> intro h <;> omega
  ·split <;> (constructor <;> intro h <;> omega)
 have hj1:-4600000<=j:=zd;have hj2:j<=4600000:=zd;have hord:uo a b=if κ<0 then j-1 else j:=by
  unfold uo;rw[hj];by_cases h:κ<0
  ·rw[if_pos h,if_neg (fun hh=>hκ2.1 hh h)]
  ·rw[if_neg h,if_pos (hκ2.2 h)]
 obtain⟨res,hres⟩:=zX (uo a b);have HRES:=zH (hres.symm.trans hord);rw[hres];clear hres;have HCM:=zH hcm;generalize yu a=NA at *
 generalize yu b=NB at *
 clear hcm hord hκ hκ2 hla hlb;obtain⟨an,cn,rfl⟩:=hn.len;obtain⟨ad,cd,rfl⟩:=hd.len;generalize (yf a).length=LN at *
 generalize (yf b).length=LD at *
 obtain⟨w1,hw1⟩:=zX (w.alloc (.cells #[.bool neg,.slice an LN cn,.slice ad LD cd] 41));obtain⟨B,hB⟩:=zX w.heap.size;have hib:=InBlk.new w neg (.slice an LN cn) (.slice ad LD cd) 41;rw[hw1,hB]at hib;have HIB:=zH hib;have HW1:=zH hw1;clear hib hw1 hn hd;refine ye Tryz.func54 rfl (by rw[Tryz.ntmps54];simp) ?_;intro σ hσ;rw[Tryz.ntmps54];have s0:σ 0=.agg #[.bool neg,.slice an LN cn,.slice ad LD cd]:=hσ 0 zi;clear hσ;go_upto_region 1 with fail;rw[HW1.out];clear HW1 hB;have hcell0:∀ W,w1.grownBy W none->W.cell? ⟨B,0,none⟩=some (.bool neg):=fun W h=>(HIB.out.row.grown h zi).cell 0
 have hcell1:∀ W,w1.grownBy W none->W.cell? ⟨B,1,none⟩=some (.slice an LN cn):=fun W h=>(HIB.out.row.grown h zi).cell 1
 have hcell2:∀ W,w1.grownBy W none->W.cell? ⟨B,2,none⟩=some (.slice ad LD cd):=fun W h=>(HIB.out.row.grown h zi).cell 2
 have HC0:=zH hcell0;have HC1:=zH hcell1;have HC2:=zH hcell2;clear hcell0 hcell1 hcell2;have HJ:=zH hj;refine yr (fun s' w'=>s' 1=.pointer (some ⟨B,0,none⟩)/\s' 3=.int .i64 j/\w1.grownBy w' none) ?_ ?_
 ·intro R' K' HR hK';refine wp_region_noPanic ?_;refine wp_region_held_drew (S:=fun W=>w1.grownBy W none) zg (yh w1 1 none) (fun hHeld=>?_);(refine yg 0 5 ?_);(refine xg 1 6 (oi:=?_) (v:=?_) ?_ ?_ zg zg zg (fun _ _ _ _ _ h=>h) ?_ zq ?_ ?_;rotate_left 2;(focus ((simp only[List.getElem?_toArray,List.getElem?_cons_succ,List.getElem?_cons_zero]);rfl));(focus rfl);(focus (first | rfl | (simp only[Region.wanted,yielded,List.getElem?_toArray,List.getElem?_cons_succ,List.getElem?_cons_zero,Option.bind_some,Option.map_some,Fr_get?,yc,yd];rfl) | go_simp));(focus (intro W hS;have hc:=HC1.out W hS;go_simp;try with_reducible rfl)));(refine yg 3 8 ?_);(refine xg 4 9 (oi:=?_) (v:=?_) ?_ ?_ zg zg zg (fun _ _ _ _ _ h=>h) ?_ zq ?_ ?_;rotate_left 2;(focus ((simp only[List.getElem?_toArray,List.getElem?_cons_succ,List.getElem?_cons_zero]);rfl));(focus rfl);(focus (first | rfl | (simp only[Region.wanted,yielded,List.getElem?_toArray,List.getElem?_cons_succ,List.getElem?_cons_zero,Option.bind_some,Option.map_some,Fr_get?,yc,yd];rfl) | go_simp));(focus (intro W hS;have hc:=HC2.out W hS;go_simp;try with_reducible rfl)));(refine zO 2 ?_;intro K hK;go_simp;(refine (HTA.out _ (ya HIB.out.grown hHeld)).mono ?_;rintro e w9 ⟨rfl,rfl⟩);go_wp2_with fail;replace hHeld:=hHeld;refine hK.out _ _ hHeld ?_;clear hK K);(refine zO 5 ?_;intro K hK;go_simp;(refine (HTB.out _ (ya HIB.out.grown hHeld)).mono ?_;rintro e w10 ⟨rfl,rfl⟩);go_wp2_with fail;replace hHeld:=hHeld;refine hK.out _ _ hHeld ?_;clear hK K);(refine xg 6 11 (oi:=?_) (v:=?_) ?_ ?_ zg zg zg (fun _ _ _ _ _ h=>h) ?_ zq ?_ ?_;rotate_left 2;(focus ((simp only[List.getElem?_toArray,List.getElem?_cons_succ,List.getElem?_cons_zero]);rfl));(focus rfl);(focus (first | rfl | (simp only[Region.wanted,yielded,List.getElem?_toArray,List.getElem?_cons_succ,List.getElem?_cons_zero,Option.bind_some,Option.map_some,Fr_get?,yc,yd];rfl) | go_simp));(focus (intro W hS;go_simp;rw[zr6 _ zd zd])));(refine yg 7 3 ?_);refine wpAnyH_done zg ?_ _;refine NoPanic.normal ?_;exact hK' _ _ _ (got HR ⟨zb,zb,hHeld⟩)
 clear s0 σ HTA HTB;rintro σ w2 ⟨s1,s3,hg2⟩;have HG2:=zH (ya HIB.out.grown hg2);have c0:=HC0.out w2 hg2;have c1:=HC1.out w2 hg2;have c2:=HC2.out w2 hg2;clear hg2 hj HC0 HC1 HC2;(go_wp2_with fail;repeat ((first|refine cZ ?_|refine cW ?_);go_wp2_with fail));refine (HTT.out _ HG2.out).mono ?_;rintro e w3 ⟨v3,rfl,hv3,hg3⟩;obtain⟨n3,d3,rfl,hn3,hd3⟩:=hv3;obtain⟨a3,k3,rfl⟩:=hn3.len;obtain⟨b3,l3,rfl⟩:=hd3.len;generalize (yf (a*2^(-j).toNat)).length=LN3 at *
 generalize (yf (b*2^j.toNat)).length=LD3 at *
 have HN3:=zH hn3;have HD3:=zH hd3;have HG3:=zH (ya HG2.out hg3);clear hn3 hd3 hg3 c0 c1 c2;go_upto_region 3 with fail;obtain⟨w4,hw4⟩:∃ w',World.alloc w3 (.cells #[.bool neg,.slice a3 LN3 k3,.slice b3 LD3 l3] 41)=w':=⟨_,rfl⟩;obtain⟨D,hD⟩:=zX ((World.heap w3).size);have hib:=InBlk.new w3 neg (.slice a3 LN3 k3) (.slice b3 LD3 l3) 41;rw[hw4,hD]at hib;rw[hw4,hD];have c0:=hib.row.cell 0;have c1:=hib.row.cell 1;have c2:=hib.row.cell 2;simp only[List.getElem?_cons_zero,List.getElem?_cons_succ]at c0 c1 c2;have HN4:=zH (HN3.out.grown hib.grown);have HD4:=zH (HD3.out.grown hib.grown);have HG4:=zH (ya HG3.out hib.grown);clear hib hw4 hD;(go_wp2_with fail;repeat ((first|refine cZ ?_|refine cW ?_);go_wp2_with fail));refine (HCM.out _ _ _ HN4.out HD4.out).mono ?_;rintro e w5 ⟨rfl,hg5⟩;have HG5:=zH (ya HG4.out hg5);clear hg5 c0 c1 c2;by_cases h:κ<0
 ·have HH:=zH h;(go_wp2_with fail;repeat ((first|refine cZ ?_|refine cW ?_);go_wp2_with fail));exact yl (.int .i64 (j-1)) rfl ze zb ⟨by rw[HRES.out,if_pos HH.out],HG5.out⟩
 ·have f1:decide (κ<0)=false:=zh;have HH:=zH h;clear h;(go_wp2_with fail;repeat ((first|refine cZ ?_|refine cW ?_);go_wp2_with fail));exact yl (.int .i64 j) rfl ze zb ⟨by rw[HRES.out,if_neg (by have:=HH.out;omega)],HG5.out⟩
end
section
attribute [local go_sem] undef
theorem ya6 (x K N:Nat) (h:(yf x).length<=K):(yf (x*2^N)).length<=K+(N / 30+1):=by
 refine yv ?_;rw[Nat.pow_add];refine Nat.mul_lt_mul_of_lt_of_le (Nat.lt_of_lt_of_le (wu x) (Nat.pow_le_pow_right ze h)) ?_ (Nat.pow_pos ze);rw[js];exact Nat.pow_le_pow_right ze zd 
theorem zq5 (f bias:Int) (a b:Nat) (ha:(yf a).length<=150000) (hb:(yf b).length<=150000) (hf1:0<=f) (hf2:f<=52) (hb1:0<=bias) (hb2:bias<=1023):1-bias-f<=yt f bias a b/\yt f bias a b<=4500001/\-4500001<=uo a b/\uo a b<=4500001:=by
 have da:=jk a 150000 ha;have db:=jk b 150000 hb;have ho:-4500001<=uo a b/\uo a b<=4500001:=by unfold uo;split <;> omega
 unfold yt;split <;> omega
def xd (a b:Nat):Nat:=xh 52 1023 9218868437227405312 a b
set_option maxRecDepth 100000 in
theorem zah (neg:Bool) (vn vd:Value) (a b:Nat) (w:World) (hn:NatV w vn a) (hd:NatV w vd b) (hb:b≠0) (hla:(yf a).length<=150000) (hlb:(yf b).length<=150000):
  Calls Tryz.prog 37 #[.agg #[.bool neg,vn,vd],.int .i64 64] w fun e w'=>e=.returned (.tuple #[.int .u64 ((xd a b+if neg then 9223372036854775808 else 0:Nat):Int),.bool (xd a b==9218868437227405312)])/\w.grownBy w' none:=by
 obtain⟨e1,e2,o1,o2⟩:=zq5 52 1023 a b hla hlb zd zd zd zd;have hs:=zld a b 52 1023 hb zd;obtain⟨N,hN⟩:=zX (xd a b);have hnr:N=if yt 52 1023 a b<=1023-52 then (yt 52 1023 a b-(1-1023-52)).toNat*2^(52:Int).toNat+rB a b (yt 52 1023 a b) else 9218868437227405312:=by rw[<-hN];rfl
 have hen:yt 52 1023 a b=if a=0 then 1-1023-52 else max (1-1023-52) (uo a b-52):=rfl
 rw[hN];obtain⟨M,hM⟩:=zX (N+(if neg then 9223372036854775808 else 0));rw[hM];have HM:=zH hM;clear hN hM;have HOT:=zH (fun vn vd W (h1:NatV W vn a) (h2:NatV W vd b)=>zdz false vn vd a b W h1 h2 hla hlb);have HTT:=zH (fun vn vd W (h1:NatV W vn a) (h2:NatV W vd b)=>zc1 false vn vd a b (yt 52 1023 a b) W h1 h2 zd zd zd zd);have HRD:=zH (fun V U W (h1:NatV W V (a*2^(-yt 52 1023 a b).toNat)) (h2:NatV W U (b*2^(yt 52 1023 a b).toNat))=>zh6 false V U _ _ W h1 h2 (Nat.mul_pos zd (p2 _)) (by have:=ya6 a 150000 (-yt 52 1023 a b).toNat hla;omega) (by have:=ya6 b 150000 (yt 52 1023 a b).toNat hlb;omega));obtain⟨S,hS1,hS2⟩:∃ S,vi (a*2^(-yt 52 1023 a b).toNat) (b*2^(yt 52 1023 a b).toNat)=S/\rB a b (yt 52 1023 a b)=S:=⟨_,rfl,rfl⟩;simp only[hS1]at HRD;rw[hS2]at hs hnr;have hs2:S<=9007199254740992:=hs;generalize yt 52 1023 a b=E at *
 generalize uo a b=O at *
 have hSl:(yf S).length<=3:=yv zd;have g0:(yf S).getD 0 0=S%1073741824:=by rw[qu,Nat.pow_zero,Nat.div_one]
 have g1:(yf S).getD 1 0=S / 1073741824:=by rw[qu,Nat.pow_one,Nat.mod_eq_of_lt zd]
 have ha0:=fun V W (h:NatV W V S)=>zds V (yf S) 0 W h zd zd
 have ha1:=fun V W (h:NatV W V S)=>zds V (yf S) 1 W h zd zd
 obtain⟨x0,hx0⟩:=zX (S%1073741824);obtain⟨x1,hx1⟩:=zX (S / 1073741824);have hx0l:x0<1073741824:=zd;have hx1l:x1<16777216:=zd;have HXS:=zH (show S=x0+x1*1073741824 by omega);rw[g0,hx0]at ha0;rw[g1,hx1]at ha1;have HA0:=zH (show ∀ V W,NatV W V S->Calls Tryz.prog 57 #[V,.int .i64 0] W fun e w'=>e=.returned (.int .i64 (x0:Int))/\W=w' from ha0);have HA1:=zH (show ∀ V W,NatV W V S->Calls Tryz.prog 57 #[V,.int .i64 1] W fun e w'=>e=.returned (.int .i64 (x1:Int))/\W=w' from ha1);have HNR:=zH hnr;have HEN:=zH hen;have HFR:=zH zba;have HBI:=zH qz;have HIN:=zH wy;have HSB:=zH wm;have HNL:=zH (show (yf a).length=0↔a=0 from ⟨fun h=>by by_cases h0:a=0;exact h0;exact absurd (List.length_eq_zero_iff.1 h) (qn h0),fun h=>by rw[h,xm];rfl⟩);clear hnr hen hS1 hS2 hs ha0 ha1 g0 g1 hSl hx0 hx1;obtain⟨an,cn,rfl⟩:=hn.len;obtain⟨ad,cd,rfl⟩:=hd.len;obtain⟨LN,hLN⟩:=zX ((yf a).length);rw[hLN]at hn HNL hla;simp only[hLN];generalize (yf b).length=LD at *
 clear hLN;obtain⟨w1,hw1⟩:=zX (w.alloc (.cells #[.bool neg,.slice an LN cn,.slice ad LD cd] 41));obtain⟨B,hB⟩:=zX w.heap.size;have hib:=InBlk.new w neg (.slice an LN cn) (.slice ad LD cd) 41;rw[hw1,hB]at hib;obtain⟨w2,hw2⟩:∃ w',w1.alloc (.cells #[.bool false,.slice an LN cn,.slice ad LD cd] 41)=w':=⟨_,rfl⟩;obtain⟨D,hD⟩:=zX ((World.heap w1).size);have hid:=InBlk.new w1 false (.slice an LN cn) (.slice ad LD cd) 41;rw[hw2,hD]at hid;have HG2:=zH (ya hib.grown hid.grown);have HRB:=zH (hib.row.grown hid.grown zi);have HRD2:=zH hid.row;have HN2:=zH (hn.grown HG2.out);have HD2:=zH (hd.grown HG2.out);have k0:=hib.row.cell 0;have k1:=hib.row.cell 1;have k2:=hib.row.cell 2;simp only[List.getElem?_cons_zero,List.getElem?_cons_succ]at k0 k1 k2;have HW1:=zH hw1;have HW2:=zH hw2;have HBB:=zH hB;have HDD:=zH hD;clear hib hid hw1 hw2 hn hd hB hD;refine ye Tryz.func37 rfl (by rw[Tryz.ntmps37];simp) ?_;intro σ hσ;rw[Tryz.ntmps37];have s0:σ 0=.agg #[.bool neg,.slice an LN cn,.slice ad LD cd]:=hσ 0 zi;have s1:σ 1=.int .i64 64:=hσ 1 zi;clear hσ;go_upto_region 1 with fail;rw[HW1.out,HBB.out];go_upto_region 2 with fail;rw[HW2.out,HDD.out];clear HW1 HW2 k0 k1 k2;have k0:=HRD2.out.cell 0;have k1:=HRD2.out.cell 1;have k2:=HRD2.out.cell 2;have b0:=HRB.out.cell 0;simp only[List.getElem?_cons_zero,List.getElem?_cons_succ]at k0 k1 k2 b0;(go_wp2_with fail;repeat ((first|refine cZ ?_|refine cW ?_);go_wp2_with fail));refine (HFR.out _).mono ?_;rintro e w7 ⟨rfl,rfl⟩;(go_wp2_with fail;repeat ((first|refine cZ ?_|refine cW ?_);go_wp2_with fail));refine (HBI.out _).mono ?_;rintro e w7 ⟨rfl,rfl⟩;(go_wp2_with fail;repeat ((first|refine cZ ?_|refine cW ?_);go_wp2_with fail));refine yr (fun s' w'=>s' 1=.int .i64 64/\s' 2=.pointer (some ⟨B,0,none⟩)/\s' 6=.pointer (some ⟨D,0,none⟩)/\s' 7=.int .i64 52/\s' 8=.int .i64 (-1074)/\s' 9=.int .i64 E/\w2.grownBy w' none) ?_ ?_
 ·intro R' K' HR hK';by_cases h0:LN=0
  ·have hE:E=-1074:=by have:=HEN.out;rw[if_pos (HNL.out.1 h0)]at this;omega
   subst hE;subst h0;(go_wp2_with fail;repeat ((first|refine cZ ?_|refine cW ?_);go_wp2_with fail));exact got HR ⟨zb,zb,zb,zb,zb,zb,yy w2 none⟩
  ·have hE:E=max (-1074) (O-52):=by have:=HEN.out;rw[if_neg (fun h=>h0 (HNL.out.2 h))]at this;omega
   have hLN:0<LN:=zd;have HEE:=zH hE;clear hE;(go_wp2_with fail;repeat ((first|refine cZ ?_|refine cW ?_);go_wp2_with fail));refine (HOT.out _ _ _ HN2.out HD2.out).mono ?_;rintro e w3 ⟨rfl,hg3⟩;have HG3:=zH hg3;clear hg3;(go_wp2_with fail;repeat ((first|refine cZ ?_|refine cW ?_);go_wp2_with fail));refine got HR ⟨zb,zb,zb,zb,zb,?_,HG3.out⟩;simp[ov, *];rw[HEE.out]
 clear s0 s1 σ k0 k1 k2 b0;rintro σ w3 ⟨s1,s2,s6,s7,s8,s9,hg3⟩;have HRD3:=zH (HRD2.out.grown hg3 zi);have HRB3:=zH (HRB.out.grown hg3 zi);have HN3:=zH (HN2.out.grown hg3);have HD3:=zH (HD2.out.grown hg3);have HG3:=zH (ya HG2.out hg3);clear hg3 HOT;have k0:=HRD3.out.cell 0;have k1:=HRD3.out.cell 1;have k2:=HRD3.out.cell 2;simp only[List.getElem?_cons_zero,List.getElem?_cons_succ]at k0 k1 k2;(go_wp2_with fail;repeat ((first|refine cZ ?_|refine cW ?_);go_wp2_with fail));refine (HIN.out _).mono ?_;rintro e w7 ⟨rfl,rfl⟩;(go_wp2_with fail;repeat ((first|refine cZ ?_|refine cW ?_);go_wp2_with fail));refine (HBI.out _).mono ?_;rintro e w7 ⟨rfl,rfl⟩;go_wp2_with fail;refine yr (fun s' w'=>s' 1=.int .i64 64/\s' 2=.pointer (some ⟨B,0,none⟩)/\s' 4=.int .u64 (N:Int)/\w3.grownBy w' none) ?_ ?_
 ·intro R' K' HR hK';by_cases hc:E<=1023-52
  ·have hc2:E<=971:=zd;obtain⟨q,hq⟩:∃ q:Nat,E-(-1074)=(q:Int):=⟨(E-(-1074)).toNat,zd⟩;have hNv:N=q*4503599627370496+S:=by
    have:=HNR.out;rw[if_pos hc,show (E-(1-1023-52)).toNat=q by omega]at this;exact this
   have HQE:=zH hq;have hq9:q<=2100:=zd;have HNV:=zH hNv;clear hc hNv hq;(go_wp2_with fail;repeat ((first|refine cZ ?_|refine cW ?_);go_wp2_with fail));refine (HTT.out _ _ _ HN3.out HD3.out).mono ?_;rintro e w4 ⟨v4,rfl,hv4,hg4⟩;obtain⟨n4,d4,rfl,hn4,hd4⟩:=hv4;have HN4:=zH hn4;have HD4:=zH hd4;have HG4:=zH hg4;clear hn4 hd4 hg4 k0 k1 k2;(go_wp2_with fail;repeat ((first|refine cZ ?_|refine cW ?_);go_wp2_with fail));refine (HRD.out _ _ _ HN4.out HD4.out).mono ?_;rintro e w5 ⟨v5,rfl,hn5,hg5⟩;have HN5:=zH hn5;have HG5:=zH (ya HG4.out hg5);clear hn5 hg5;(go_wp2_with fail;repeat ((first|refine cZ ?_|refine cW ?_);go_wp2_with fail));refine wp_region_noPanic ?_;refine wp_region_held_drew (S:=fun W=>w5.grownBy W none) zg (yh w5 1 none) (fun hHeld=>?_);(refine yg 0 46 ?_;refine yg 1 47 ?_);(refine xg 2 48 (oi:=?_) (v:=?_) ?_ ?_ zg zg zg (fun _ _ _ _ _ h=>h) ?_ zq ?_ ?_;rotate_left 2;(focus ((simp only[List.getElem?_toArray,List.getElem?_cons_succ,List.getElem?_cons_zero]);rfl));(focus rfl);(focus (first | rfl | (simp only[Region.wanted,yielded,List.getElem?_toArray,List.getElem?_cons_succ,List.getElem?_cons_zero,Option.bind_some,Option.map_some,Fr_get?,yc,yd];rfl) | go_simp));(focus (intro W hS;go_simp;rw[zr6 _ zd zd,show E+1074=(q:Int) by have:=HQE.out;omega])));(refine xg 3 49 (oi:=?_) (v:=?_) ?_ ?_ zg zg zg (fun _ _ _ _ _ h=>h) ?_ zq ?_ ?_;rotate_left 2;(focus ((simp only[List.getElem?_toArray,List.getElem?_cons_succ,List.getElem?_cons_zero]);rfl));(focus rfl);(focus (first | rfl | (simp only[Region.wanted,yielded,List.getElem?_toArray,List.getElem?_cons_succ,List.getElem?_cons_zero,Option.bind_some,Option.map_some,Fr_get?,yc,yd];rfl) | go_simp));(focus (intro W hS;go_simp;rw[zku q zd])));(refine yg 4 50 ?_);(refine xg 5 51 (oi:=?_) (v:=?_) ?_ ?_ zg zg zg (fun _ _ _ _ _ h=>h) ?_ zq ?_ ?_;rotate_left 2;(focus ((simp only[List.getElem?_toArray,List.getElem?_cons_succ,List.getElem?_cons_zero]);rfl));(focus rfl);(focus (first | rfl | (simp only[Region.wanted,yielded,List.getElem?_toArray,List.getElem?_cons_succ,List.getElem?_cons_zero,Option.bind_some,Option.map_some,Fr_get?,yc,yd];rfl) | go_simp));(focus (intro W hS;go_simp;rw[show IntKind.u64.wrap ((q:Int)*4503599627370496)=((q*4503599627370496:Nat):Int) by rw[IntKind.wrap_u64];omega])));(refine yg 6 52 ?_;refine yg 10 56 ?_);(refine zO 7 ?_;intro K hK;go_simp;(refine (HA0.out _ _ (HN5.out.grown hHeld)).mono ?_;rintro e w6 ⟨rfl,rfl⟩);go_wp2_with fail;replace hHeld:=hHeld;refine hK.out _ _ hHeld ?_;clear hK K);(refine xg 8 54 (oi:=?_) (v:=?_) ?_ ?_ zg zg zg (fun _ _ _ _ _ h=>h) ?_ zq ?_ ?_;rotate_left 2;(focus ((simp only[List.getElem?_toArray,List.getElem?_cons_succ,List.getElem?_cons_zero]);rfl));(focus rfl);(focus (first | rfl | (simp only[Region.wanted,yielded,List.getElem?_toArray,List.getElem?_cons_succ,List.getElem?_cons_zero,Option.bind_some,Option.map_some,Fr_get?,yc,yd];rfl) | go_simp));(focus (intro W hS;go_simp;rw[zku x0 zd])));(refine xg 9 55 (oi:=?_) (v:=?_) ?_ ?_ zg zg zg (fun _ _ _ _ _ h=>h) ?_ zq ?_ ?_;rotate_left 2;(focus ((simp only[List.getElem?_toArray,List.getElem?_cons_succ,List.getElem?_cons_zero]);rfl));(focus rfl);(focus (first | rfl | (simp only[Region.wanted,yielded,List.getElem?_toArray,List.getElem?_cons_succ,List.getElem?_cons_zero,Option.bind_some,Option.map_some,Fr_get?,yc,yd];rfl) | go_simp));(focus (intro W hS;go_simp;rw[show IntKind.u64.wrap ((q:Int)*4503599627370496+(x0:Int))=((q*4503599627370496+x0:Nat):Int) by rw[IntKind.wrap_u64];omega])));(refine zO 11 ?_;intro K hK;go_simp;(refine (HA1.out _ _ (HN5.out.grown hHeld)).mono ?_;rintro e w8 ⟨rfl,rfl⟩);go_wp2_with fail;replace hHeld:=hHeld;refine hK.out _ _ hHeld ?_;clear hK K);(refine xg 12 58 (oi:=?_) (v:=?_) ?_ ?_ zg zg zg (fun _ _ _ _ _ h=>h) ?_ zq ?_ ?_;rotate_left 2;(focus ((simp only[List.getElem?_toArray,List.getElem?_cons_succ,List.getElem?_cons_zero]);rfl));(focus rfl);(focus (first | rfl | (simp only[Region.wanted,yielded,List.getElem?_toArray,List.getElem?_cons_succ,List.getElem?_cons_zero,Option.bind_some,Option.map_some,Fr_get?,yc,yd];rfl) | go_simp));(focus (intro W hS;go_simp;rw[zku x1 zd])));(refine xg 13 59 (oi:=?_) (v:=?_) ?_ ?_ zg zg zg (fun _ _ _ _ _ h=>h) ?_ zq ?_ ?_;rotate_left 2;(focus ((simp only[List.getElem?_toArray,List.getElem?_cons_succ,List.getElem?_cons_zero]);rfl));(focus rfl);(focus (first | rfl | (simp only[Region.wanted,yielded,List.getElem?_toArray,List.getElem?_cons_succ,List.getElem?_cons_zero,Option.bind_some,Option.map_some,Fr_get?,yc,yd];rfl) | go_simp));(focus (intro W hS;go_simp;rw[show IntKind.u64.wrap ((x1:Int)*1073741824)=((x1*1073741824:Nat):Int) by rw[IntKind.wrap_u64];omega])));(refine xg 14 60 (oi:=?_) (v:=?_) ?_ ?_ zg zg zg (fun _ _ _ _ _ h=>h) ?_ zq ?_ ?_;rotate_left 2;(focus ((simp only[List.getElem?_toArray,List.getElem?_cons_succ,List.getElem?_cons_zero]);rfl));(focus rfl);(focus (first | rfl | (simp only[Region.wanted,yielded,List.getElem?_toArray,List.getElem?_cons_succ,List.getElem?_cons_zero,Option.bind_some,Option.map_some,Fr_get?,yc,yd];rfl) | go_simp));(focus (intro W hS;go_simp;rw[show IntKind.u64.wrap ((q:Int)*4503599627370496+(x0:Int)+(x1:Int)*1073741824)=(N:Int) by rw[IntKind.wrap_u64];have h1:=HNV.out;have h2:=HXS.out;omega])));(refine yg 15 4 ?_);refine wpAnyH_done zg ?_ _;refine NoPanic.normal ?_;exact hK' _ _ _ (got HR ⟨zb,zb,zb,ya HG5.out hHeld⟩)
  ·have hNv:N=9218868437227405312:=by have:=HNR.out;rw[if_neg hc]at this;exact this
   have f1:decide (E<=971)=false:=zh;subst hNv;clear hc;(go_wp2_with fail;repeat ((first|refine cZ ?_|refine cW ?_);go_wp2_with fail));exact got HR ⟨zb,zb,zb,yy w3 none⟩
 clear s1 s2 s6 s7 s8 s9 σ k0 k1 k2;rintro σ w4 ⟨s1,s2,s4,hg4⟩;have HG4:=zH (ya HG3.out hg4);have hb4:=HRB3.out.grown hg4 zi;have b0:=hb4.cell 0;simp only[List.getElem?_cons_zero]at b0;have hNl:N<=9218868437227405312:=by
  have:=HNR.out;split at this
  ·next h=>
   rw[this];have hq:(E-(1-1023-52)).toNat<=2045:=zd;have h2:(E-(1-1023-52)).toNat*2^(52:Int).toNat<=2045*4503599627370496:=Nat.mul_le_mul_right _ hq;omega
  ·omega
 clear hg4 hb4;(go_wp2_with fail;repeat ((first|refine cZ ?_|refine cW ?_);go_wp2_with fail));refine (HIN.out _).mono ?_;rintro e w7 ⟨rfl,rfl⟩;go_wp2_with fail;have hbe:((N:Int)==9218868437227405312)=(N==9218868437227405312):=by
  rw[Bool.eq_iff_iff];simp only[beq_iff_eq];omega
 refine yr (fun s' w'=>s' 4=.int .u64 (M:Int)/\s' 5=.bool (N==9218868437227405312)/\w4=w') ?_ ?_
 ·intro R' K' HR hK';cases neg
  ·(go_wp2_with fail;repeat ((first|refine cZ ?_|refine cW ?_);go_wp2_with fail));exact got HR ⟨by have:=HM.out;simp only[Bool.false_eq_true,if_false,Nat.add_zero]at this;rw[<-this];simp[ov, *],by simp[yc,yd,hbe],rfl⟩
  ·(go_wp2_with fail;repeat ((first|refine cZ ?_|refine cW ?_);go_wp2_with fail));refine (HSB.out _).mono ?_;rintro e w8 ⟨rfl,rfl⟩;(go_wp2_with fail;repeat ((first|refine cZ ?_|refine cW ?_);go_wp2_with fail));exact got HR ⟨by have:=HM.out;simp only[if_true]at this;rw[<-this];simp only[yc,yd,if_true];congr 1,by simp[yc,yd,hbe],rfl⟩
 clear s1 s2 s4 b0 σ;rintro σ w5 ⟨s4,s5,rfl⟩;(go_wp2_with fail;repeat ((first|refine cZ ?_|refine cW ?_);go_wp2_with fail));exact xc (.int .u64 (M:Int)) (.bool (N==9218868437227405312)) rfl ze ze zb zb ⟨rfl,HG4.out⟩
def zxq (a b:Nat):Nat:=xh 23 127 2139095040 a b
end
section
theorem zxm (k:FloatKind) (b:Nat):Op.unary .neg (.float k b)=pure (.float k (Op.negFloat k b)):=rfl
def zkr (fmt:Ieee.Format) (x v:Nat):Bool:=match fmt.read x with | .number false n j=>decide (n≠0/\n*2^j.toNat=v*2^(-j).toNat) | _=>false
theorem zpm {fmt:Ieee.Format} {x v:Nat} (h:zkr fmt x v=true):RdV fmt x false v:=by
 unfold zkr at h;split at h
 ·rename_i n j e;have:=of_decide_eq_true h;exact⟨n,j,e,this.1,this.2⟩
 ·cases h
theorem zzu:∀ i,i<11->zkr Ieee.single (yad i) (10^i)=true:=by
 have h:(List.range 11).all (fun i=>zkr Ieee.single (yad i) (10^i))=true:=zp;intro i hi;exact (List.all_eq_true.1 h) i (List.mem_range.2 hi)
theorem zxr (neg:Bool) (r:Nat):Ieee.single.word neg r=sgC neg+r:=by
 cases neg
 ·show r=0+r;omega
 ·rfl
theorem zs0 (k r:Nat) (h:r<2^k):r ^^^ 2^k=2^k+r:=by
 apply Nat.eq_of_testBit_eq;intro i;rw[Nat.testBit_xor,Nat.testBit_two_pow];by_cases hi:k=i
 ·subst hi;rw[Nat.testBit_two_pow_add_eq,Nat.testBit_lt_two_pow h];simp
 ·rcases Nat.lt_or_gt_of_ne hi with h1 | h1
  ·have e:2^k+r<2^i:=by
    have:2^(k+1)<=2^i:=Nat.pow_le_pow_right zd h1;rw[Nat.pow_succ]at this;omega
   rw[Nat.testBit_lt_two_pow e,Nat.testBit_lt_two_pow (Nat.lt_of_lt_of_le h (Nat.pow_le_pow_right zd zd))];simp[hi]
  ·rw[Nat.testBit_two_pow_add_gt h1];simp[hi]
theorem neg32 (r:Nat) (h:r<2147483648):Op.negFloat .f32 r=sgC true+r:=by
 show r ^^^ 2^31=_;rw[zs0 31 r h];rfl
def RdO (fmt:Ieee.Format) (y:Nat) (t:Bool) (u:Nat):Prop:=∃ n j,fmt.read y=.number t n j/\j<=0/\n*2^j.toNat=u*2^(-j).toNat
theorem c7p:RdO Ieee.single 1259902592 false (10^7):=⟨10000000,0,zp,ze,zp⟩
theorem c7n:RdO Ieee.single 3407386240 true (10^7):=⟨10000000,0,zp,ze,zp⟩
theorem zv4 {fmt:Ieee.Format} {x y v u:Nat} {s:Bool} (hx:RdV fmt x s v) (hy:RdO fmt y false u) (hu:u≠0):(fmt.order x y==some Ordering.gt)=(!s&&decide (u<v)):=by
 rw[RdV.order hx hy];cases s
 ·simp only[Bool.false_eq_true,if_false,Bool.not_false,Bool.true_and];by_cases h:u<v
  ·rw[decide_eq_true h,Int.compare_eq_gt.2 zd];rfl
  ·rw[decide_eq_false h];rcases Nat.lt_or_ge v u with h1 | h1
   ·rw[Int.compare_eq_lt.2 zd];rfl
   ·rw[Int.compare_eq_eq.2 zd];rfl
 ·simp only[if_true,Bool.not_true,Bool.false_and,Bool.false_eq_true,if_false];rw[Int.compare_eq_lt.2 zd];rfl
theorem zv3 {fmt:Ieee.Format} {x y v u:Nat} {s:Bool} (hx:RdV fmt x s v) (hy:RdO fmt y true u) (hu:u≠0):(fmt.order x y==some Ordering.lt)=(s&&decide (u<v)):=by
 rw[RdV.order hx hy];cases s
 ·simp only[Bool.false_eq_true,if_false,Bool.false_and,if_true];rw[Int.compare_eq_gt.2 zd];rfl
 ·simp only[if_true,Bool.true_and];by_cases h:u<v
  ·rw[decide_eq_true h,Int.compare_eq_lt.2 zd];rfl
  ·rw[decide_eq_false h];rcases Nat.lt_or_ge v u with h1 | h1
   ·rw[Int.compare_eq_gt.2 zd];rfl
   ·rw[Int.compare_eq_eq.2 zd];rfl
section
variable {fmt : Ieee.Format} {f : Nat} {bias : Int} {inf : Nat}
theorem zt0 (h:FmtOK fmt f bias inf) (neg:Bool) (d u yp yn:Nat) (h0:d≠0) (hd:d<2^bias.toNat) (hu:u≠0) (hul:u<2^(f+1)) (hp:RdO fmt yp false u) (hn:RdO fmt yn true u):
  ((fmt.order (fmt.word neg (xh f bias inf d 1)) yp==some Ordering.gt) || (fmt.order (fmt.word neg (xh f bias inf d 1)) yn==some Ordering.lt))=decide (u<d):=by
 have key:∃ v,RdV fmt (fmt.word neg (xh f bias inf d 1)) neg v/\(u<v↔u<d):=by
  rcases Nat.lt_or_ge d (2^(f+1)) with h1 | h1
  ·exact⟨d,RdV.small h neg d h0 h1,Iff.rfl⟩
  ·obtain⟨v,hv,hv2⟩:=RdV.large h neg d h1 hd;exact⟨v,hv,⟨fun _=>zd,fun _=>zd⟩⟩
 obtain⟨v,hv,hiff⟩:=key;rw[zv4 hv hp hu,zv3 hv hn hu];cases neg <;> simp[hiff]
end
end
theorem zqy (F:Nat) (bias:Int) (d:Nat) (p e:Int) (hF1:23<=F) (hF2:F<=52) (hd0:d≠0) (hd:d<18446744073709551616) (hp1:-348<=p) (hp2:p<=347)
  (he:e=min (bias+F-1) (F+1-((Lib.bitLen d:Int)+lpT p))):
  (if 2^(F+1)*4-2<=usE (d*2^shS d) (e-(64-(Lib.bitLen d:Int))) p
   then (yj4 (usE (d*2^shS d) (e-(64-(Lib.bitLen d:Int))) p / 2|||usE (d*2^shS d) (e-(64-(Lib.bitLen d:Int))) p%2),e-1)
   else (yj4 (usE (d*2^shS d) (e-(64-(Lib.bitLen d:Int))) p|||usE (d*2^shS d) (e-(64-(Lib.bitLen d:Int))) p%2),e))=prG F (d*10^p.toNat) (10^(-p).toNat) e:=by
 obtain⟨hb1,hb2,hb3,hb4⟩:=zdq d hd hd0;obtain⟨t1,t2,t3⟩:=zcq d (Lib.bitLen d) p hp1 hp2 hb1 hb2 hb3;have hS:shS d=64-Lib.bitLen d:=rfl;rw[hS];generalize Lib.bitLen d=L at *
 have hx:d*2^(64-L)<18446744073709551616:=by
  rw[show (18446744073709551616:Nat)=2^L*2^(64-L) by rw[<-Nat.pow_add,show L+(64-L)=64 by omega]];exact Nat.mul_lt_mul_of_pos_right hb3 (p2 _)
 have hx0:9223372036854775808<=d*2^(64-L):=by
  rw[show (9223372036854775808:Nat)=2^(L-1)*2^(64-L) by rw[<-Nat.pow_add,show L-1+(64-L)=63 by omega]];exact Nat.mul_le_mul_right _ hb2
 have hlp:p*108853 / 32768=lpT p:=rfl;rw[usE_C _ _ p hp1 hp2 hx hx0 (by rw[hlp];omega)];have hT:0<10^(-p).toNat:=p10 _;have hB:0<10^(-p).toNat*2^(-e).toNat:=Nat.mul_pos hT (p2 _);have hu:zvm (d*2^(64-L)) (e-(64-(L:Int))) p=zcj (4*(d*10^p.toNat*2^e.toNat)) (10^(-p).toNat*2^(-e).toNat):=by
  unfold zvm;refine zd7 (Nat.mul_pos (p2 _) hT) hB ?_;have e1:2^(64-L)*2^(e-(64-(L:Int))).toNat*2^(-e).toNat=2^e.toNat*2^(-(e-(64-(L:Int)))).toNat:=by
   rw[<-Nat.pow_add,<-Nat.pow_add,<-Nat.pow_add];congr 1;omega
  calc 4*(d*2^(64-L))*2^(e-(64-(L:Int))).toNat*10^p.toNat*(10^(-p).toNat*2^(-e).toNat)=4*d*10^p.toNat*10^(-p).toNat*(2^(64-L)*2^(e-(64-(L:Int))).toNat*2^(-e).toNat):=by ac_rfl
   _=4*d*10^p.toNat*10^(-p).toNat*(2^e.toNat*2^(-(e-(64-(L:Int)))).toNat):=by rw[e1]
   _=_:=by ac_rfl
 rw[hu];clear hu hx hx0;generalize d*10^p.toNat=a at *
 generalize 10^(-p).toNat=b at *
 have hA:a*2^e.toNat<b*2^(-e).toNat*4000000000000000000:=by
  have h1:¬le2 a b (-e+((F+2:Nat):Int)):=fun h=>t2 (wh zd h)
  rw[zke,Nat.not_le,Int.neg_neg]at h1;have h2:2^(F+2)<=2^54:=Nat.pow_le_pow_right zd zd;have h3:=Nat.mul_le_mul_right (b*2^(-e).toNat) h2;generalize b*2^(-e).toNat=B at *
  generalize 2^(F+2)*B=z at *
  omega
 have r1:yj4 (zcj (4*(a*2^e.toNat)) (b*2^(-e).toNat))=rB a b (-e):=by
  rw[zck _ _ hB hA];unfold rB;rw[Int.neg_neg]
 have hB2:0<b*2^(-e).toNat*2:=Nat.mul_pos hB zd;have hA2:a*2^e.toNat<b*2^(-e).toNat*2*4000000000000000000:=by
  exact Nat.lt_of_lt_of_le hA (Nat.mul_le_mul_right _ (Nat.le_mul_of_pos_right _ zd))
 have r2:yj4 (zcj (4*(a*2^e.toNat)) (b*2^(-e).toNat*2))=rB a b (1-e):=by
  rw[zck _ _ hB2 hA2];unfold rB;refine yj7 zd (Nat.mul_pos zd (p2 _)) ?_;have e1:2^e.toNat*2^(1-e).toNat=2^(-(1-e)).toNat*2^(-e).toNat*2:=by
   rw[<-Nat.pow_add,<-Nat.pow_add,<-Nat.pow_succ];congr 1;omega
  calc a*2^e.toNat*(b*2^(1-e).toNat)=a*b*(2^e.toNat*2^(1-e).toNat):=by ac_rfl
   _=a*b*(2^(-(1-e)).toNat*2^(-e).toNat*2):=by rw[e1]
   _=_:=by ac_rfl
 have hlt:zcj (4*(a*2^e.toNat)) (b*2^(-e).toNat)<16000000000000000000:=by
  have:=(zta (a*2^e.toNat) (b*2^(-e).toNat) 4000000000000000000 hB).2 (by rw[Nat.mul_comm 4000000000000000000];exact hA);omega
 have hm:=zmg _ (2^(F+1)) (by rw[Nat.pow_succ];omega) (p2 _) hlt;rw[zmf _ _ hB,zt5,r1,r2];rw[r1]at hm;unfold prG;by_cases c:2^(F+1)<=rB a b (-e)
 ·rw[if_pos c,if_pos (hm.2 c)]
 ·rw[if_neg c,if_neg (fun h=>c (hm.1 h))]
theorem zzi (d:Nat) (p:Int) (hd0:d≠0) (hd:d<18446744073709551616) (hp1:-348<=p) (hp2:p<=347):
  (yac d p<64->(zy3 d p).1<16777216)/\zzy d p=(zxq (d*10^p.toNat) (10^(-p).toNat),decide (zxq (d*10^p.toNat) (10^(-p).toNat)=2139095040)):=by
 obtain⟨hb1,hb2,hb3,hb4⟩:=zdq d hd hd0;obtain⟨t1,t2,t3⟩:=zcq d (Lib.bitLen d) p hp1 hp2 hb1 hb2 hb3;have hT:0<10^(-p).toNat:=p10 _;have ha:d*10^p.toNat≠0:=Nat.mul_ne_zero hd0 (by have:=p10 p.toNat;omega);have he:zzb d p=min ((127:Int)+(23:Nat)-1) ((23:Nat)+1-((Lib.bitLen d:Int)+lpT p)):=by unfold zzb lpT;omega
 have hpr:=zqy 23 127 d p (zzb d p) zd zd hd0 hd hp1 hp2 he;have hU:yab d p=usE (d*2^shS d) (zzb d p-(64-(Lib.bitLen d:Int))) p:=rfl;have hR:zy3 d p=prG 23 (d*10^p.toNat) (10^(-p).toNat) (zzb d p):=by
  rw[<-hpr];unfold zy3;rw[hU]
 have hn:=zq2 23 127 2139095040 (d*10^p.toNat) (10^(-p).toNat) ((Lib.bitLen d:Int)+lpT p) (zzb d p) ha zd zd zd rfl t1 t2 (t3 23 zd) he;have hr:(zy3 d p).1<16777216:=by rw[hR];exact hn.2
 refine⟨fun _=>hr,?_⟩;have hle:zxq (d*10^p.toNat) (10^(-p).toNat)=xh (23:Nat) 127 2139095040 (d*10^p.toNat) (10^(-p).toNat):=rfl;unfold zzy;by_cases h64:64<=yac d p
 ·rw[if_pos h64];have hz:zxq (d*10^p.toNat) (10^(-p).toNat)=0:=by
   refine kv 23 127 _ _ _ zd zd zd (fun _ h=>t2 (wh ?_ h));unfold yac zzb at h64;unfold lpT;omega
  rw[hz];rfl
 ·rw[if_neg h64];have h1:=hn.1;rw[<-hR,<-hle]at h1;rw[<-h1];unfold pkG pkC;generalize zy3 d p=x at *
  obtain⟨m,e⟩:=x;have hm:m<16777216:=hr;have e52:(2:Nat)^23=8388608:=rfl;rw[e52];dsimp only;by_cases c1:m<8388608
  ·rw[if_pos c1,if_pos c1];congr 1;exact (decide_eq_false zd).symm
  ·rw[if_neg c1,if_neg c1];have c2:(105<=-e)↔((127:Int)+1-(23:Nat)<=-e):=zd;by_cases c3:105<=-e
   ·rw[if_pos c3,if_pos (c2.1 c3)];rfl
   ·rw[if_neg c3,if_neg (fun h=>c3 (c2.2 h)),show (150+-e).toNat=((127:Int)+(23:Nat)-e).toNat by omega];congr 1;refine (decide_eq_false ?_).symm;have:((127:Int)+(23:Nat)-e).toNat<=254:=zd;generalize ((127:Int)+(23:Nat)-e).toNat=t at *
    omega
section
attribute [local go_sem] zxm
theorem yaz (d:Nat):floatOfInt .f32 (d:Int)=sgC false+zxq d 1:=by
 show Ieee.single.nearest (decide ((d:Int)<0)) (d:Int).natAbs 0=_;rw[decide_eq_false zd,Int.natAbs_natCast,zyw,zxr];show sgC false+zxq (d*1) 1=_;rw[Nat.mul_one]
theorem zzh (op:BinOp) {x y r:Nat} (h:floatBits op .f32 x y=some r) (t:TypeId) (w:World):(binOp op t (.float .f32 x) (.float .f32 y)).run Tryz.prog w=.ok (.float .f32 r) w:=run_float_arith w op t .f32 x y r h
theorem zzr {neg:Bool} {N d:Nat} (i:Nat) (hi:i<11) (h:RdV Ieee.single N neg d):Ieee.single.mul N (yad i)=some (sgC neg+zxq (d*10^i) 1):=by
 rw[RdV.mul FmtOK.single h (zpm (zzu i hi)),zxr,Bool.xor_false];rfl
theorem yaj {neg:Bool} {N d:Nat} (i:Nat) (hi:i<11) (h:RdV Ieee.single N neg d):Ieee.single.div N (yad i)=some (sgC neg+zxq d (10^i)):=by
 rw[RdV.div FmtOK.single h (zpm (zzu i hi)) (by have:=p10 i;omega),zxr,Bool.xor_false];rfl
theorem zzs (neg:Bool) (d:Nat) (h0:d≠0) (hd:d<2^(127:Int).toNat):
  ((Ieee.single.order (sgC neg+zxq d 1) 1259902592==some Ordering.gt) || (Ieee.single.order (sgC neg+zxq d 1) 3407386240==some Ordering.lt))=decide (10^7<d):=by
 have h:=zt0 FmtOK.single neg d (10^7) 1259902592 3407386240 h0 hd ze ze c7p c7n;rw[zxr]at h;exact h
theorem zzq {d i:Nat} (hd:d<8388608) (hi:i<=7):d*10^i<2^(127:Int).toNat:=by
 have h1:d*10^i<8388608*10^i:=Nat.mul_lt_mul_of_pos_right hd (p10 i);have h2:8388608*10^i<=8388608*10^7:=Nat.mul_le_mul_left _ (Nat.pow_le_pow_right zd hi);exact Nat.lt_of_lt_of_le h1 (Nat.le_trans h2 zp)
set_option maxRecDepth 100000 in
theorem zx8 (T d:Nat) (p:Int) (neg:Bool) (w:World) (he:EnvP T w) (h0:d≠0) (hd:d<18446744073709551616) (hp1:-1000000<=p) (hp2:p<=1000000):
  Calls Tryz.prog 112 #[.int .u64 (d:Int),.int .i64 p,.bool neg] w fun e w'=>
   ∃ (v:Nat) (ok:Bool),e=.returned (.tuple #[.float .f32 v,.bool ok])/\(ok=true->v=sgC neg+zxq (d*10^p.toNat) (10^(-p).toNat)/\d<8388608/\p<=17)/\w=w':=by
 refine ye Tryz.func112 rfl (by rw[Tryz.ntmps112];simp) ?_;intro σ hσ;rw[Tryz.ntmps112];have s0:σ 0=.int .u64 (d:Int):=hσ 0 zi;have s1:σ 1=.int .i64 p:=hσ 1 zi;have s2:σ 2=.bool neg:=hσ 2 zi;clear hσ;have f1:=he.i64.1;obtain⟨tb,tof,tc,htT,htc,ht0,ht⟩:=he.t32;have HT:=zH ht;clear ht he;by_cases hb:d<8388608
 ·have g1:((d:Int) / 8388608 != 0)=false:=by
   rw[bne_eq_false_iff_eq];omega
  have hnl:zxq d 1<2147483648:=Nat.lt_of_le_of_lt (ud 23 127 2139095040 d 1 ze ze rfl) ze;obtain⟨n0,hn0⟩:=zX (floatOfInt .f32 (d:Int));obtain⟨n1,hn1⟩:=zX (Op.negFloat .f32 n0);obtain⟨N,hN⟩:=zX (sgC neg+zxq d 1);have HN0:=zH (hn0.symm.trans (yaz d));have HN1:=zH (show n1=sgC true+zxq d 1 by rw[<-hn1,HN0.out];show Op.negFloat .f32 (0+zxq d 1)=_;rw[Nat.zero_add];exact neg32 _ hnl);have HN:=zH hN;have HRD:=zH (show RdV Ieee.single N neg d by rw[<-hN,<-zxr];exact RdV.small FmtOK.single neg d h0 zd);have HB:=zH hb;clear hnl hN hb;(go_upto_block 0 with fail;repeat ((first|refine cZ ?_|refine cW ?_);go_upto_block 0 with fail));refine yr (fun s' w'=>s' 1=.int .i64 p/\s' 6=.float .f32 N/\s' 7=.bool false/\w=w') ?_ ?_
  ·intro R' K' HR hK';cases neg with
   | false=>
    have e:n0=N:=by rw[HN0.out,<-HN.out]
    subst e;(go_wp2_with fail;repeat ((first|refine cZ ?_|refine cW ?_);go_wp2_with fail));exact got HR ⟨zb,zb,zb,rfl⟩
   | true=>
    have e:n1=N:=by rw[HN1.out,<-HN.out]
    subst e;(go_wp2_with fail;repeat ((first|refine cZ ?_|refine cW ?_);go_wp2_with fail));exact got HR ⟨zb,zb,zb,rfl⟩
  clear s0 s1 s2 σ g1 hn0 hn1 HN0 HN1 n0 n1 f1 hd;rintro σ w1 ⟨s1,s6,s7,rfl⟩;by_cases z0:p=0
  ·subst z0;(go_wp2_with fail;repeat ((first|refine cZ ?_|refine cW ?_);go_wp2_with fail));exact xc (.float .f32 N) (.bool true) rfl ze ze zb zb ⟨N,true,rfl,(fun _=>⟨by rw[<-HN.out];show _=sgC neg+zxq (d*1) 1;rw[Nat.mul_one],HB.out,zd⟩),rfl⟩
  have z1:(p==0)=false:=by rw[beq_eq_false_iff_ne];exact z0
  (go_upto_region 7 with fail;repeat ((first|refine cZ ?_|refine cW ?_);go_upto_region 7 with fail));refine yr (fun s' w'=>s' 1=.int .i64 p/\s' 6=.float .f32 N/\s' 7=.bool false/\s' 20=.bool (decide (0<p/\p<=17))/\w=w') ?_ ?_
  ·intro R' K' HR hK';by_cases z2:0<p
   ·by_cases z3:p<=17
    ·have e:decide (0<p/\p<=17)=true:=decide_eq_true ⟨z2,z3⟩;go_wp2_with fail;all_goals exact got HR ⟨zb,zb,zb,zαj,rfl⟩
    ·have e:decide (0<p/\p<=17)=false:=decide_eq_false (fun h=>z3 h.2);have z3':decide (p<=17)=false:=decide_eq_false z3;go_wp2_with fail;all_goals exact got HR ⟨zb,zb,zb,zαj,rfl⟩
   ·have e:decide (0<p/\p<=17)=false:=decide_eq_false (fun h=>z2 h.1);have z2':decide (0<p)=false:=decide_eq_false z2;go_wp2_with fail;all_goals exact got HR ⟨zb,zb,zb,zαj,rfl⟩
  clear s1 s6 s7 σ;rintro σ w1 ⟨s1,s6,s7,s22,rfl⟩;by_cases z23:0<p/\p<=17
  ·rw[decide_eq_true z23]at s22;obtain⟨z2,z3⟩:=z23;(go_upto_region 11 with fail;repeat ((first|refine cZ ?_|refine cW ?_);go_upto_region 11 with fail));refine yr (fun s' w'=>∃ (d2 i N2:Nat),s' 1=.int .i64 (i:Int)/\i<=10/\s' 6=.float .f32 N2/\s' 7=.bool false/\d2≠0/\d2*10^i=d*10^p.toNat/\(d2<=10^7->RdV Ieee.single N2 neg d2)/\((Ieee.single.order N2 1259902592==some Ordering.gt) || (Ieee.single.order N2 3407386240==some Ordering.lt))=decide (10^7<d2)/\w=w') ?_ ?_
   ·intro R' K' HR hK';by_cases z4:10<p
    ·obtain⟨i,hi⟩:∃ i:Nat,p-10=i:=⟨(p-10).toNat,zd⟩;have hiK:i<=7:=zd;have c1:=HT.out i zd;have hm:=zzr i zd HRD.out;obtain⟨x,hx⟩:=zX (yad i);obtain⟨N2,hN2⟩:=zX (sgC neg+zxq (d*10^i) 1);rw[hx,hN2]at hm;rw[hx]at c1;have hm:=zzh .mul hm;have hprod0:d*10^i≠0:=by have:=Nat.mul_pos (Nat.pos_of_ne_zero h0) (p10 i);omega
     have hprodL:d*10^i<2^(127:Int).toNat:=zzq HB.out hiK;have hcmp:=zzs neg (d*10^i) hprod0 hprodL;rw[hN2]at hcmp;have hRD2:d*10^i<=10^7->RdV Ieee.single N2 neg (d*10^i):=fun hle=>by rw[<-hN2,<-zxr];exact RdV.small FmtOK.single neg _ hprod0 (Nat.lt_of_le_of_lt hle ze)
     have heq:d*10^i*10^10=d*10^p.toNat:=by rw[show p.toNat=i+10 by omega,Nat.pow_add,Nat.mul_assoc]
     have H1:=zH hcmp;have H2:=zH hRD2;have H3:=zH heq;have H4:=zH hprod0;have hicnt:i<11:=zd;clear hx hN2 hprod0 hprodL hcmp hRD2 heq;(go_upto_region 11 with fail;repeat ((first|refine cZ ?_|refine cW ?_);go_upto_region 11 with fail));exact got HR ⟨d*10^i,10,N2,zb,zd,zb,zb,H4.out,H3.out,H2.out,H1.out,rfl⟩
    ·obtain⟨i,hi⟩:∃ i:Nat,p=i:=⟨p.toNat,zd⟩;subst hi;have z4':decide (10<(i:Int))=false:=decide_eq_false z4;have hcmp:=zzs neg d h0 (Nat.lt_of_lt_of_le HB.out zp);rw[HN.out]at hcmp;have H1:=zH hcmp;clear hcmp;(go_upto_region 11 with fail;repeat ((first|refine cZ ?_|refine cW ?_);go_upto_region 11 with fail));exact got HR ⟨d,i,N,zb,zd,zb,zb,h0,by rw[Int.toNat_natCast],fun _=>HRD.out,H1.out,rfl⟩
   clear s1 s6 s7 s22 σ;rintro σ w1 ⟨d2,i,N2,s1,hiK,s6,s7,hd0,heq,hrd,hcmp,rfl⟩;have H1:=zH hcmp;have H2:=zH hrd;have H3:=zH heq;obtain⟨b1,hb1⟩:=zX ((Ieee.single.order N2 1259902592==some Ordering.gt));obtain⟨b2,hb2⟩:=zX ((Ieee.single.order N2 3407386240==some Ordering.lt));obtain⟨b3,hb3⟩:=zX (decide (10^7<d2));rw[hb1,hb2,hb3]at hcmp;have HC:=zH hcmp;have HB3:=zH hb3;replace hb1:(FloatKind.f32.format.order N2 1259902592==some Ordering.gt)=b1:=hb1;replace hb2:(FloatKind.f32.format.order N2 3407386240==some Ordering.lt)=b2:=hb2;clear hcmp hrd heq hb3;(go_upto_region 11 with fail;repeat ((first|refine cZ ?_|refine cW ?_);go_upto_region 11 with fail));refine yr (fun s' w'=>s' 1=.int .i64 (i:Int)/\s' 6=.float .f32 N2/\s' 7=.bool false/\s' 41=.bool b3/\w=w') ?_ ?_
   ·intro R' K' HR hK';have hC:=HC.out.symm;subst hC;clear HC HB3;cases b1
    ·cases b2
     ·go_wp2_with fail;all_goals exact got HR ⟨zb,zb,zb,zb,rfl⟩
     ·go_wp2_with fail;all_goals exact got HR ⟨zb,zb,zb,zb,rfl⟩
    ·go_wp2_with fail;all_goals exact got HR ⟨zb,zb,zb,zb,rfl⟩
   clear s1 s6 s7 σ HC hb1 hb2;rintro σ w1 ⟨s1,s6,s7,s43,rfl⟩;by_cases hle:d2<=10^7
   ·have e3:b3=false:=by rw[<-HB3.out];exact decide_eq_false zd
    subst e3;have c2:=HT.out i zd;have hm2:=zzr i zd (H2.out hle);obtain⟨x,hx⟩:=zX (yad i);obtain⟨N3,hN3⟩:=zX (sgC neg+zxq (d2*10^i) 1);rw[hx,hN3]at hm2;rw[hx]at c2;have hm2:=zzh .mul hm2;have HN3:=zH hN3;have hicnt:i<11:=zd;clear hle hN3 hx;(go_wp2_with fail;repeat ((first|refine cZ ?_|refine cW ?_);go_wp2_with fail));refine xc (.float .f32 N3) (.bool true) rfl ze ze zb zb ⟨N3,true,rfl,(fun _=>⟨?_,HB.out,z3⟩),rfl⟩;rw[<-HN3.out,H3.out,show (-p).toNat=0 by omega,Nat.pow_zero]
   ·have e3:b3=true:=by rw[<-HB3.out];exact decide_eq_true zd
    subst e3;clear hle;(go_wp2_with fail;repeat ((first|refine cZ ?_|refine cW ?_);go_wp2_with fail));exact xc (.float .f32 N2) (.bool false) rfl ze ze zb zb ⟨_,false,rfl,(fun h=>zF),rfl⟩
  ·rw[decide_eq_false z23]at s22;(go_upto_region 13 with fail;repeat ((first|refine cZ ?_|refine cW ?_);go_upto_region 13 with fail));refine yr (fun s' w'=>s' 1=.int .i64 p/\s' 6=.float .f32 N/\s' 7=.bool false/\s' 48=.bool (decide (p<0/\-10<=p))/\w=w') ?_ ?_
   ·intro R' K' HR hK';by_cases z2:p<0
    ·by_cases z3:-10<=p
     ·have e:decide (p<0/\-10<=p)=true:=decide_eq_true ⟨z2,z3⟩;go_wp2_with fail;all_goals exact got HR ⟨zb,zb,zb,zαj,rfl⟩
     ·have e:decide (p<0/\-10<=p)=false:=decide_eq_false (fun h=>z3 h.2);have z3':decide (-10<=p)=false:=decide_eq_false z3;go_wp2_with fail;all_goals exact got HR ⟨zb,zb,zb,zαj,rfl⟩
    ·have e:decide (p<0/\-10<=p)=false:=decide_eq_false (fun h=>z2 h.1);have z2':decide (p<0)=false:=decide_eq_false z2;go_wp2_with fail;all_goals exact got HR ⟨zb,zb,zb,zαj,rfl⟩
   clear s1 s6 s7 s22 σ;rintro σ w1 ⟨s1,s6,s7,s50,rfl⟩;by_cases z56:p<0/\-10<=p
   ·rw[decide_eq_true z56]at s50;obtain⟨i,hi⟩:∃ i:Nat,p=-(i:Int):=⟨(-p).toNat,zd⟩;subst hi;have c1:=HT.out i zd;have hm:=yaj i zd HRD.out;obtain⟨x,hx⟩:=zX (yad i);obtain⟨N2,hN2⟩:=zX (sgC neg+zxq d (10^i));rw[hx,hN2]at hm;rw[hx]at c1;have hm:=zzh .quo hm;have HN2:=zH hN2;have hicnt:i<11:=zd;have hwn:IntKind.i64.wrap (i:Int)=(i:Int):=zk;clear hN2 hx z56 z23;(go_wp2_with fail;repeat ((first|refine cZ ?_|refine cW ?_);go_wp2_with fail));refine xc (.float .f32 N2) (.bool true) rfl ze ze zb zb ⟨N2,true,rfl,(fun _=>⟨?_,HB.out,zd⟩),rfl⟩;rw[<-HN2.out,show (-(i:Int)).toNat=0 by omega,Int.neg_neg,Int.toNat_natCast,Nat.pow_zero,Nat.mul_one]
   ·rw[decide_eq_false z56]at s50;(go_wp2_with fail;repeat ((first|refine cZ ?_|refine cW ?_);go_wp2_with fail));exact xc (.float .f32 N) (.bool false) rfl ze ze zb zb ⟨_,false,rfl,(fun h=>zF),rfl⟩
 ·have g1:((d:Int) / 8388608 != 0)=true:=by
   rw[bne_iff_ne];omega
  (go_wp2_with fail;repeat ((first|refine cZ ?_|refine cW ?_);go_wp2_with fail));exact xc (.float .f32 0) (.bool false) rfl ze ze zb zb ⟨_,false,rfl,(fun h=>zF),rfl⟩
end
def yig (c:UInt8):Prop:=c=43\/c=45\/c=105
theorem yh9 (hex:Bool) {c:UInt8} (h:yig c):dgV hex c=none:=by
 rcases h with rfl | rfl | rfl <;> cases hex <;> decide
theorem yf7 {c:UInt8} (h:yig c):c≠95/\c≠46/\c≠48/\wc c≠101/\wc c≠112/\wc c≠120/\¬(48<=c.toNat/\c.toNat<=57):=by
 rcases h with rfl | rfl | rfl <;> decide
theorem ygo (hex:Bool) {c:UInt8} (r:List UInt8) (h:yig c):∀ (l:List UInt8) (st:RF),scF hex (l++c::r) st=((scF hex l st).1,(scF hex l st).2++c::r)
 | [],st=>by
  obtain⟨h1,h2,-⟩:=yf7 h
  show scF hex (c::r) st=(st,[]++c::r)
  rw[scF,if_neg h1,if_neg h2,yh9 hex h]
  rfl
 | x::l,st=>by
  rw[List.cons_append,scF,scF]
  by_cases h1:x=95
  ·rw[if_pos h1,if_pos h1];exact ygo hex r h l _
  ·rw[if_neg h1,if_neg h1]
   by_cases h2:x=46
   ·rw[if_pos h2,if_pos h2]
    by_cases h3:st.dot=true
    ·rw[if_pos h3,if_pos h3];rfl
    ·rw[if_neg h3,if_neg h3];exact ygo hex r h l _
   ·rw[if_neg h2,if_neg h2]
    cases dgV hex x with
    | none=>rfl
    | some d=>exact ygo hex r h l _
theorem yg8 {c:UInt8} (r:List UInt8) (h:yig c):∀ (l:List UInt8) (us:Bool) (e:Nat),scE (l++c::r) us e=((scE l us e).1,(scE l us e).2.1,(scE l us e).2.2++c::r)
 | [],us,e=>by
  obtain⟨h1,-,-,-,-,-,h2⟩:=yf7 h
  show scE (c::r) us e=(us,e,[]++c::r)
  rw[scE,if_neg h2,if_neg h1]
  rfl
 | x::l,us,e=>by
  rw[List.cons_append,scE,scE]
  by_cases h1:48<=x.toNat/\x.toNat<=57
  ·rw[if_pos h1,if_pos h1];exact yg8 r h l _ _
  ·rw[if_neg h1,if_neg h1]
   by_cases h2:x=95
   ·rw[if_pos h2,if_pos h2];exact yg8 r h l _ _
   ·rw[if_neg h2,if_neg h2];rfl
theorem yh7 {c:UInt8} (r:List UInt8) (h:yig c):∀ (u:List UInt8),(∀ x,u=[48,x]->wc x≠120)->yo (u++c::r)=yo u
 | [],_=>by
  obtain⟨-,-,h1,-⟩:=yf7 h
  cases r with
  | nil=>rfl
  | cons x r=>
   cases r with
   | nil=>rfl
   | cons y r=>exact decide_eq_false (fun e=>h1 e.1)
 | [a],_=>by
  obtain⟨-,-,-,-,-,h1,-⟩:=yf7 h
  cases r with
  | nil=>rfl
  | cons y r=>exact decide_eq_false (fun e=>h1 e.2)
 | [a,x],hx=>by
  show decide (a=48/\wc x=120)=false
  refine decide_eq_false ?_
  rintro⟨rfl,e⟩
  exact hx x rfl e
 | a::x::y::u,_=>rfl
theorem yhg (t y:List UInt8) (neg hex:Bool) (st:RF) (dp:Int) (nm:Nat) (us:Bool):zdv (t++y) neg hex st dp nm us y=zdv t neg hex st dp nm us []:=by
 unfold zdv;rw[List.length_append,Nat.add_sub_cancel,List.take_left',List.length_nil,Nat.sub_zero,List.take_length];rfl
theorem yha:∀ (l:List UInt8) (us:Bool) (e:Nat),(scE l us e).2.2.length<=l.length
 | [],us,e=>Nat.le_refl _
 | x::l,us,e=>by
  rw[scE]
  split
  ·exact Nat.le_succ_of_le (yha l _ _)
  ·split
   ·exact Nat.le_succ_of_le (yha l _ _)
   ·exact Nat.le_refl _
theorem ygs (hex:Bool):∀ (l:List UInt8) (st:RF),(scF hex l st).2.length<=l.length
 | [],st=>Nat.le_refl _
 | x::l,st=>by
  rw[scF]
  split
  ·exact Nat.le_succ_of_le (ygs hex l _)
  ·split
   ·split
    ·exact Nat.le_refl _
    ·exact Nat.le_succ_of_le (ygs hex l _)
   ·split
    ·exact Nat.le_succ_of_le (ygs hex l _)
    ·exact Nat.le_refl _
theorem yh8 {t:List UInt8} {c:UInt8} (r:List UInt8) (h:yig c) {neg hex:Bool} {st:RF} {dp:Int} {nm:Nat} {rest:List UInt8} {R:RR} (hr:rest.length<=t.length) (ht:t≠[]) (hR:zf9 t neg hex st dp nm rest=some R) (hn:R.n=t.length):
  zf9 (t++c::r) neg hex st dp nm (rest++c::r)=some R:=by
 obtain⟨-,-,-,n1,n2,-,-⟩:=yf7 h;cases rest with
 | nil=>
  unfold zf9 at hR ⊢;dsimp only[List.nil_append]at hR ⊢;cases hex
  case true=>rw[if_pos rfl]at hR;cases hR
  rw[if_neg ze]at hR;rw[if_neg (by rw[if_neg ze];exact n1),if_neg ze,yhg];exact hR
 | cons d r1=>
  rw[List.cons_append];unfold zf9 at hR ⊢;dsimp only at hR ⊢;by_cases hd:wc d=(if hex=true then 112 else 101)
  ·rw[if_pos hd]at hR ⊢;have h1:r1≠[]:=by
    intro e;subst e;cases hR
   rw[yg7 _ _ h1];dsimp only;have hlr:(sgn r1).2.length<=r1.length:=zfl r1;generalize (sgn r1).1=sg at *
   generalize (sgn r1).2=q at *
   cases q with
   | nil=>cases hR
   | cons e r2=>
    rw[List.cons_append];dsimp only at hR ⊢;by_cases he:48<=e.toNat/\e.toNat<=57
    ·rw[if_pos he]at hR ⊢;rw[<-List.cons_append,yg8 r h];dsimp only;have hl:=yha (e::r2) st.us 0;rw[List.length_cons]at hr;have h0:=zeo t _ _ _ _ _ _ _ R zd ht hR hn;rw[h0]at hR;rw[h0,List.nil_append,yhg];exact hR
    ·rw[if_neg he]at hR;cases hR
  ·rw[if_neg hd]at hR;cases hex
   case true=>rw[if_pos rfl]at hR;cases hR
   rw[if_neg ze]at hR;have h0:=zeo t _ _ _ _ _ _ _ R hr ht hR hn;cases h0
theorem yii {t:List UInt8} {c:UInt8} (r:List UInt8) (h:yig c) {R:RR} (hR:rfP t=some R) (hn:R.n=t.length):rfP (t++c::r)=some R:=by
 have ht:t≠[]:=by
  intro e;subst e;cases hR
 unfold rfP at hR ⊢;rw[if_neg ht]at hR;rw[if_neg zi,yg7 _ _ ht];dsimp only at hR ⊢;have hu:(sgn t).2.length<=t.length:=zfl t;have hx:∀ x,(sgn t).2=[48,x]->wc x≠120:=by
  intro x hx hc;rw[hx]at hR;rw[show yo [48,x]=false from rfl]at hR;simp only[Bool.false_eq_true,if_false]at hR;have hd:dgV false x=none:=by
   unfold dgV;rw[if_neg ?_,if_neg (by rintro⟨e,-⟩;cases e)];intro hh;have:∀ n:Fin 256,48<=n.val/\n.val<=57->n.val|||32≠120:=zp
   exact this ⟨x.toNat,x.toNat_lt⟩ hh hc
  have hx1:x≠95:=by rintro rfl;revert hc;decide
  have hx2:x≠46:=by rintro rfl;revert hc;decide
  have hs:scF false [48,x] RF.init=(dgS false RF.init 0,[x]):=by
   rw[scF,if_neg ze,if_neg ze,show dgV false 48=some 0 by decide];dsimp only;rw[scF,if_neg hx1,if_neg hx2,hd]
  rw[hs]at hR;dsimp only at hR;split at hR
  ·cases hR
  ·unfold zf9 at hR;dsimp only at hR;rw[if_neg (by rw[hc];decide),if_neg ze]at hR;have:=zeo t _ _ _ _ _ _ _ R (by rw[hx]at hu;simp at hu ⊢;omega) ht hR hn;cases this
 rw[yh7 r h _ hx];have hb:(if yo (sgn t).2=true then ((sgn t).2++c::r).drop 2 else (sgn t).2++c::r)=(if yo (sgn t).2=true then (sgn t).2.drop 2 else (sgn t).2)++c::r:=by
  cases hh:yo (sgn t).2
  ·rw[if_neg ze,if_neg ze]
  ·rw[if_pos rfl,if_pos rfl];cases hq:(sgn t).2 with
   | nil=>rw[hq]at hh;cases hh
   | cons a q=>
    cases q with
    | nil=>rw[hq]at hh;cases hh
    | cons b q=>rfl
 rw[hb,ygo _ r h];have hl:(if yo (sgn t).2=true then (sgn t).2.drop 2 else (sgn t).2).length<=t.length:=by
  split
  ·rw[List.length_drop];omega
  ·exact hu
 generalize (if yo (sgn t).2=true then (sgn t).2.drop 2 else (sgn t).2)=l at *
 dsimp only;have hsl:=ygs (yo (sgn t).2) l RF.init;by_cases hdg:(scF (yo (sgn t).2) l RF.init).1.dig=false
 ·rw[if_pos hdg]at hR;cases hR
 ·rw[if_neg hdg]at hR ⊢;exact yh8 r h zd ht hR hn
end Go.Proofs.YtnifedmhgncioaaGreatDoor
