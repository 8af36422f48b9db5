/- Lemmas that the claim's top text leans on. No condition of their own. -/
import Derived.Test.YtnifedmhgncioaaGreatDoorK21
import Derived.Test.YtnifedmhgncioaaGreatDoorK23
import Derived.Test.YtnifedmhgncioaaGreatDoorK24
namespace Go.Proofs.YtnifedmhgncioaaGreatDoor
open Go.RowKit
set_option linter.unusedSimpArgs false
set_option linter.unusedVariables false
set_option maxHeartbeats 16000000
section
attribute [local go_sem] undef
def zjy (s:List UInt8):Option (Bool×Nat×Nat):=match ul s with
 | none=>none
 | some r=>if r.kind≠0 then none else if r.digits=[] then some (r.neg,0,1) else if zb8 r.base r.digits r.exp≠0 then none
  else some (r.neg,jy r.base r.digits*qk r.base^r.exp.toNat,qk r.base^(-r.exp).toNat)
theorem zru {b:Nat} (hb:b=10\/b=16) {c:UInt8} {d:Nat} (h:dig b c=some d):d<b:=by
 unfold dig at h;split at h
 ·cases h;omega
 ·split at h
  ·rename_i h2;cases h;omega
  ·cases h
theorem zry (b:Nat) (hb:b=10\/b=16) (s:List UInt8):∀ d ∈ dgL b s,d<b:=by
 have key:∀ (l:List UInt8) (o:List Nat),(∀ d ∈ o,d<b)->∀ d ∈ l.foldl (vp b) o,d<b:=by
  intro l;induction l with
  | nil=>intro o h;exact h
  | cons c r ih=>
   intro o h;rw[List.foldl_cons];refine ih _ ?_;unfold vp;split
   ·rename_i d hd;split
    ·intro x hx;rcases List.mem_append.1 hx with hx | hx
     ·exact h x hx
     ·rw[List.mem_singleton.1 hx];exact zru hb hd
    ·exact h
   ·exact h
 exact key s [] (by intro d hd;cases hd)
theorem ze9 {s:List UInt8} {r:Txt} (h:ul s=some r):(r.kind≠0->r.digits=[])/\(r.kind=0->(r.base=10\/r.base=16)/\(∀ d ∈ r.digits,d<r.base)/\r.digits.length<=s.length/\-1000000000000000-4*(s.length:Int)<=r.exp/\r.exp<=1000000000000000):=by
 unfold ul at h;split at h
 ·cases h;exact⟨fun _=>rfl,fun h=>zF⟩
 ·unfold zna at h;split at h
  ·cases h;exact⟨fun _=>rfl,fun h=>zF⟩
  ·obtain⟨x,hx,rfl⟩:=Option.map_eq_some_iff.1 h;refine⟨fun h=>absurd rfl h,fun _=>?_⟩;dsimp only;generalize hu:(sgL (xf s)).2=u at *
   have hul:u.length<=s.length:=by
    rw[<-hu];have e:(xf s).length=s.length:=by unfold xf;rw[List.length_map]
    rw[<-e];cases xf s with
    | nil=>simp[sgL]
    | cons c r=>
     simp only[sgL];split
     ·simp
     ·split <;> simp
   have h1:(kl u).length<=u.length:=zJ;have h2:(xz u).length<=u.length:=zA;refine⟨zcc u,zry _ (zcc u) _,?_,?_⟩
   ·have:=zf0 (wb u) (kl u++xz u);unfold nDigits;rw[List.length_append]at this;have h12:(kl u).length+(xz u).length<=u.length:=by
     unfold kl xz;split
     ·rename_i hp;unfold nPt at hp;have:=hp.1;unfold nI1 at this ⊢;rw[List.length_take,List.length_take,List.length_drop,List.length_drop];omega
     ·simp only[List.length_nil,List.length_take,List.length_drop];omega
    omega
   ·unfold zf8 at hx;split at hx
    ·cases hx
    ·obtain⟨y,hy,rfl⟩:=Option.map_eq_some_iff.1 hx;have hyb:-1000000000000000<=y/\y<=1000000000000000:=by
      unfold zpz at hy;split at hy
      ·exact zkl _ _ _ hy
      ·have:=Option.some.inj hy;omega
     have h3:=zpe (wb u) (xz u);have h4:zpy u<=4:=by unfold zpy;split <;> omega
     have h5:zpy u*zkq (wb u) (xz u)<=4*s.length:=Nat.mul_le_mul h4 zd;generalize zpy u*zkq (wb u) (xz u)=q at h5 ⊢;omega
theorem zg1 {b:Nat} {l:List Nat} {x:Int} (h:zb8 b l x=0) (hl:l.length<=1100000):-5000000<=x/\x<=5000000:=by
 unfold zb8 at h;split at h
 ·cases h
 ·split at h
  ·split at h
   ·cases h
   ·split at h
    ·cases h
    ·omega
  ·split at h
   ·cases h
   ·split at h
    ·cases h
    ·omega
theorem zm1 {w:World} {B D i:Nat} {v:Value} (hne:D≠B) (h:w.cell? ⟨D,i,none⟩=some v) (u0 u1 u2:Value):
  (((w.setCell ⟨B,0,none⟩ u0).setCell ⟨B,1,none⟩ u1).setCell ⟨B,2,none⟩ u2).cell? ⟨D,i,none⟩=some v:=by
 have h1:(w.setCell ⟨B,0,none⟩ u0).cell? ⟨D,i,none⟩=some v:=by rw[World.cell?_of_block (Below.heap_setCell w ⟨B,0,none⟩ u0 D hne)];exact h
 have h2:((w.setCell ⟨B,0,none⟩ u0).setCell ⟨B,1,none⟩ u1).cell? ⟨D,i,none⟩=some v:=by rw[World.cell?_of_block (Below.heap_setCell _ ⟨B,1,none⟩ u1 D hne)];exact h1
 rw[World.cell?_of_block (Below.heap_setCell _ ⟨B,2,none⟩ u2 D hne)];exact h2
def zdt (s:List UInt8) (w:World) (e:Ending) (w':World):Prop:=w.grownBy w' none/\
 match zjy s with
 | none=>e=.returned (.tuple #[.agg ratZ.toArray,.bool false])
 | some (ng,n,d)=>∃ vr,e=.returned (.tuple #[vr,.bool true])/\zpu w' vr ng n d
theorem ku {s:List UInt8} {w w':World} (h:zjy s=none) (hg:w.grownBy w' none):zdt s w (.returned (.tuple #[.agg ratZ.toArray,.bool false])) w':=by
 unfold zdt;rw[h];exact⟨hg,rfl⟩
theorem zbq {s:List UInt8} {w w':World} {ng:Bool} {n d:Nat} {vr:Value} (h:zjy s=some (ng,n,d)) (hg:w.grownBy w' none) (hr:zpu w' vr ng n d):zdt s w (.returned (.tuple #[vr,.bool true])) w':=by
 unfold zdt;rw[h];exact⟨hg,vr,rfl,hr⟩
set_option maxRecDepth 100000 in
theorem zdx (s:List UInt8) (w:World) (hs:s.length<=1050000):
  Calls Tryz.prog 20 #[.string ⟨s.toArray⟩] w (zdt s w):=by
 have HRT:=zH (fun W=>zbo s W zd);refine ye Tryz.func20 rfl (by rw[Tryz.ntmps20];simp) ?_;intro σ hσ;rw[Tryz.ntmps20];have s0:σ 0=.string ⟨s.toArray⟩:=hσ 0 zi;clear hσ;obtain⟨w1,hw1⟩:=zX (w.alloc (.cells ratZ.toArray 41));have hrB:=Row.new w ratZ 41;have hgB:=World.grownBy_alloc w (.cells ratZ.toArray 41) none;rw[hw1]at hrB hgB;unfold ratZ at hw1;have HRB:=zH hrB;have HGB:=zH hgB;clear hrB hgB;obtain⟨B,hB⟩:=zX w.heap.size;go_wp2_with fail;clear hw1;rw[hB]at HRB;have hBw:w.heap.size<=B:=zd;clear hB;refine (HRT.out _).mono ?_;rintro e w2 ⟨hg2,hp⟩;have HRB2:=zH (HRB.out.grown hg2 zi);have HG2:=zH (ya HGB.out hg2);have hBlt:B<w1.heap.size:=HRB.out.lt;have hBlt2:B<w2.heap.size:=HRB2.out.lt;obtain⟨D,hD⟩:=zX w2.heap.size;have hDw:w.heap.size<=D:=zd;have hBD:B≠D:=zd;clear hg2 HRB HGB HRT;have none_end:∀ (env:List (Nat×Value)) (w':World),zjy s=none->Row w' B ratZ->w.grownBy w' none->True:=fun _ _ _ _ _=>trivial
 clear none_end;cases hrd:ul s with
 | none=>
  rw[hrd]at hp;dsimp only at hp;have hno:zjy s=none:=by unfold zjy;rw[hrd]
  have HNO:=zH hno;subst hp;have hgD:=World.grownBy_alloc w2 (.cells textZ.toArray 72) none;have HRB3:=zH (HRB2.out.grown hgD zi);have HG3:=zH (ya HG2.out hgD);obtain⟨w3,hw3⟩:=zX (w2.alloc (.cells textZ.toArray 72));rw[hw3]at HRB3 HG3;have HW3:=zH hw3;unfold textZ at HW3 ⊢;clear hno hrd hw3 hgD;go_upto_region 2 with fail;rw[HW3.out];have k0:=HRB3.out.cell 0;have k1:=HRB3.out.cell 1;have k2:=HRB3.out.cell 2;have t0:=HRB3.out.frozen 0;have t1:=HRB3.out.frozen 1;have t2:=HRB3.out.frozen 2;unfold ratZ at k0 k1 k2;simp only[List.getElem?_cons_zero,List.getElem?_cons_succ]at k0 k1 k2;(go_wp2_with fail;repeat ((first|refine cZ ?_|refine cW ?_);go_wp2_with fail));obtain⟨ty,hrow⟩:=wp HRB3.out (.bool false) (.slice none 0 0) (.slice none 0 0);refine we (B:=B) (.agg ratZ.toArray) (.bool false) rfl ze ze zb zb ?_ (ku HNO.out (xk HG3.out hBw _ _ _));exact run_loadVar_row (P:=Tryz.prog) _ B ty 41 _ (0,0) _ hrow Tryz.underlying41 rfl zg
 | some r=>
  rw[hrd]at hp;dsimp only at hp;obtain⟨v,rfl,hv⟩:=hp;have hok:=ze9 hrd;have hrat:zjy s=if r.kind≠0 then none else if r.digits=[] then some (r.neg,0,1) else if zb8 r.base r.digits r.exp≠0 then none
   else some (r.neg,jy r.base r.digits*qk r.base^r.exp.toNat,qk r.base^(-r.exp).toNat):=by unfold zjy;rw[hrd]
  clear hrd;obtain⟨kind,neg,b,l,x⟩:=r;dsimp only at hv hok hrat ⊢;have hOR:=fun (hb:b=10\/b=16) (hx1:-2000000000000000<=x) (hx2:x<=2000000000000000) (hl:l.length<=4000000) W (h:RdI W v l)=>zg0 ⟨kind,neg,b,l,x⟩ v W hb h hl hx1 hx2
  have hRA:=fun (hb:b=10\/b=16) (hd:∀ d ∈ l,d<b) (hl:l.length<=1200000) (hx1:-5000000<=x) (hx2:x<=5000000) W (h:RdI W v l)=>zbp ⟨kind,neg,b,l,x⟩ v W hb h hd hl hx1 hx2
  unfold zp9 at hOR hRA;dsimp only at hOR hRA;obtain⟨a,c,rfl⟩:=hv.1.len;obtain⟨N,hN⟩:=zX l.length;rw[hN]at hv hOR hRA hok;simp only[hN];have hgD:=World.grownBy_alloc w2 (.cells #[.int .i64 kind,.bool neg,.int .i64 (b:Int),.slice a N c,.int .i64 x] 72) none;have HRB3:=zH (HRB2.out.grown hgD zi);have HG3:=zH (ya HG2.out hgD);have HV3:=zH (hv.1.grown hgD);have hrD:Row (w2.alloc (.cells #[.int .i64 kind,.bool neg,.int .i64 (b:Int),.slice a N c,.int .i64 x] 72)) D [.int .i64 kind,.bool neg,.int .i64 (b:Int),.slice a N c,.int .i64 x]:=by rw[<-hD];exact Row.new w2 _ _
  obtain⟨w3,hw3⟩:=zX (w2.alloc (.cells #[.int .i64 kind,.bool neg,.int .i64 (b:Int),.slice a N c,.int .i64 x] 72));rw[hw3]at HRB3 HG3 HV3 hrD;have HRD:=zH hrD;have HW3:=zH hw3;have HDD:=zH hD;have HRAT:=zH hrat;have HOK:=zH hok;have HN:=zH hN;have HOR:=zH hOR;have HRA:=zH hRA;clear hv hok hrat hN hOR hRA hw3 hgD hrD hD;go_upto_region 2 with fail;rw[HW3.out,HDD.out];have k0:=HRB3.out.cell 0;have k1:=HRB3.out.cell 1;have k2:=HRB3.out.cell 2;have t0:=HRB3.out.frozen 0;have t1:=HRB3.out.frozen 1;have t2:=HRB3.out.frozen 2;have m0:=HRD.out.cell 0;have m1:=HRD.out.cell 1;have m2:=HRD.out.cell 2;have m3:=HRD.out.cell 3;have m4:=HRD.out.cell 4;unfold ratZ at k0 k1 k2;simp only[List.getElem?_cons_zero,List.getElem?_cons_succ]at k0 k1 k2 m0 m1 m2 m3 m4;by_cases hk:kind=0
  case neg=>
   have hk':(kind != 0)=true:=by rw[bne_iff_ne];exact hk
   have hno:=HRAT.out;rw[if_pos hk]at hno;have HNO:=zH hno;clear hno;(go_wp2_with fail;repeat ((first|refine cZ ?_|refine cW ?_);go_wp2_with fail));obtain⟨ty,hrow⟩:=wp HRB3.out (.bool false) (.slice none 0 0) (.slice none 0 0);refine we (B:=B) (.agg ratZ.toArray) (.bool false) rfl ze ze zb zb ?_ (ku HNO.out (xk HG3.out hBw _ _ _));exact run_loadVar_row (P:=Tryz.prog) _ B ty 41 _ (0,0) _ hrow Tryz.underlying41 rfl zg
  subst hk;have hrat:=HRAT.out;rw[if_neg zi]at hrat;obtain⟨hb,hdb,hlb,hx1,hx2⟩:=HOK.out.2 rfl;have hN5:N<=1100000:=zd;by_cases hl0:l=[]
  ·rw[if_pos hl0]at hrat;have hN0:N=0:=by rw[<-HN.out,hl0];rfl
   subst hN0;have HRAT2:=zH hrat;have HNO:=zH (fun W=>ww 1 W zd);clear hrat hl0 hb hdb hlb;(go_wp2_with fail;repeat ((first|refine cZ ?_|refine cW ?_);go_wp2_with fail));refine wp_region_noPanic ?_;refine wp_region_held_drew (S:=fun W=>w.grownBy W none/\W.cell? ⟨D,1,none⟩=some (.bool neg)) zg ⟨ya HG3.out (yh w3 1 none),m1⟩ (fun hHeld=>?_);(refine yg 0 23 ?_);(refine xg 1 24 (oi:=?_) (v:=?_) ?_ ?_ zg zg zg (fun _ _ _ _ _ h=>h) ?_ zq ?_ ?_;rotate_left 2;(focus ((simp only[List.getElem?_toArray,List.getElem?_cons_succ,List.getElem?_cons_zero]);rfl));(focus rfl);(focus (first | rfl | (simp only[Region.wanted,yielded,List.getElem?_toArray,List.getElem?_cons_succ,List.getElem?_cons_zero,Option.bind_some,Option.map_some,Fr_get?,yc,yd];rfl) | go_simp));(focus (intro W hS;have hc:=hS.2;go_simp;try with_reducible rfl)));(refine zO 2 ?_;intro K hK;go_simp;(refine (HNO.out _).mono ?_;rintro e w9 ⟨v9,rfl,hn9,hg9⟩);go_wp2_with fail;replace hHeld:=And.intro (ya hHeld.1 hg9) (ytb hg9 hHeld.2);refine hK.out _ _ hHeld ?_;clear hK K);have hrB9:=(HRB3.out.drew).grown hg9 zi;obtain⟨a9,c9,rfl⟩:=hn9.len;generalize (yf 1).length=L9 at *
   clear k0 k1 k2 t0 t1 t2 hg9;(refine yg 3 26 ?_);have k0:=hrB9.cell 0;have k1:=hrB9.cell 1;have k2:=hrB9.cell 2;have t0:=hrB9.frozen 0;have t1:=hrB9.frozen 1;have t2:=hrB9.frozen 2;unfold ratZ at k0 k1 k2;simp only[List.getElem?_cons_zero,List.getElem?_cons_succ]at k0 k1 k2;have hDB:D≠B:=fun e=>hBD e.symm
   (refine zO 4 ?_;intro K hK;go_simp;(skip);go_wp2_with fail;replace hHeld:=And.intro (xk hHeld.1 hBw (.bool neg) (.slice none 0 0) (.slice a9 L9 c9)) (zm1 hDB hHeld.2 (.bool neg) (.slice none 0 0) (.slice a9 L9 c9));refine hK.out _ _ hHeld ?_;clear hK K);(refine yg 5 3 ?_);refine wpAnyH_done zg ?_ _;refine NoPanic.normal ?_;have hn9':NatV w9 (.slice a9 L9 c9) 1:=hn9;have hz:NatV w9 (.slice none 0 0) 0:=by unfold NatV;rw[xm];exact Or.inl ⟨rfl,rfl⟩
   have HR9:=zH hrB9;have HN9:=zH (yz hrB9 hn9' neg (.slice none 0 0) (.slice a9 L9 c9));have HZ9:=zH (yz hrB9 hz neg (.slice none 0 0) (.slice a9 L9 c9));have HH:=zH hHeld.1;clear hrB9 hn9 hn9' hz hHeld k0 k1 k2 t0 t1 t2;(go_wp2_with fail;repeat ((first|refine cZ ?_|refine cW ?_);go_wp2_with fail));obtain⟨ty,hrow⟩:=wp HR9.out (.bool neg) (.slice none 0 0) (.slice a9 L9 c9);refine we (B:=B) (.agg #[.bool neg,.slice none 0 0,.slice a9 L9 c9]) (.bool true) rfl ze ze zb zb ?_ (zbq HRAT2.out HH.out ⟨_,_,rfl,HZ9.out,HN9.out⟩);exact run_loadVar_row (P:=Tryz.prog) _ B ty 41 _ (0,0) _ hrow Tryz.underlying41 rfl zg
  rw[if_neg hl0]at hrat;have hN0:N≠0:=by rw[<-HN.out];exact fun e=>hl0 (List.length_eq_zero_iff.1 e)
  have e1:((N:Int)==0)=false:=zf;have e2:(N==0)=false:=zf;have HO:=zH (HOR.out hb zd zd zd);have hRA2:zb8 b l x=0->_:=fun h=>HRA.out hb hdb zd (zg1 h (by rw[HN.out];exact hN5)).1 (zg1 h (by rw[HN.out];exact hN5)).2
  have HRA2:=zH hRA2;have HRAT2:=zH hrat;clear hRA2 hrat hl0 hb hdb HOR HRA HOK;(go_wp2_with fail;repeat ((first|refine cZ ?_|refine cW ?_);go_wp2_with fail));refine (HO.out _ HV3.out).mono ?_;rintro e w5 ⟨rfl,hg5⟩;have HRB5:=zH (HRB3.out.grown hg5 zi);have HRD5:=zH (HRD.out.grown hg5 zi);have HG5:=zH (ya HG3.out hg5);have HV5:=zH (HV3.out.grown hg5);clear hg5 k0 k1 k2 t0 t1 t2 m0 m1 m2 m3 m4;have m0:=HRD5.out.cell 0;have m1:=HRD5.out.cell 1;have m2:=HRD5.out.cell 2;have m3:=HRD5.out.cell 3;have m4:=HRD5.out.cell 4;simp only[List.getElem?_cons_zero,List.getElem?_cons_succ]at m0 m1 m2 m3 m4;by_cases ho:zb8 b l x=0
  case neg=>
   have hno:=HRAT2.out;rw[if_pos ho]at hno;have HNO:=zH hno;have ho':(zb8 b l x != 0)=true:=by rw[bne_iff_ne];exact ho
   have k0:=HRB5.out.cell 0;have k1:=HRB5.out.cell 1;have k2:=HRB5.out.cell 2;have t0:=HRB5.out.frozen 0;have t1:=HRB5.out.frozen 1;have t2:=HRB5.out.frozen 2;unfold ratZ at k0 k1 k2;simp only[List.getElem?_cons_zero,List.getElem?_cons_succ]at k0 k1 k2;clear hno ho;generalize zb8 b l x=o at *
   (go_wp2_with fail;repeat ((first|refine cZ ?_|refine cW ?_);go_wp2_with fail));obtain⟨ty,hrow⟩:=wp HRB5.out (.bool false) (.slice none 0 0) (.slice none 0 0);refine we (B:=B) (.agg ratZ.toArray) (.bool false) rfl ze ze zb zb ?_ (ku HNO.out (xk HG5.out hBw _ _ _));exact run_loadVar_row (P:=Tryz.prog) _ B ty 41 _ (0,0) _ hrow Tryz.underlying41 rfl zg
  have hyes:=HRAT2.out;rw[if_neg (fun h=>h ho)]at hyes;have HYES:=zH hyes;have HRL:=zH (HRA2.out ho w5 HV5.out);rw[ho];clear hyes ho HRA2 HRAT2;(go_wp2_with fail;repeat ((first|refine cZ ?_|refine cW ?_);go_wp2_with fail));refine HRL.out.mono ?_;rintro e w6 ⟨vr,rfl,⟨vn,vd,rfl,hvn,hvd⟩,hg6⟩;have HRB6:=zH (HRB5.out.grown hg6 zi);have HG6:=zH (ya HG5.out hg6);have HVN:=zH hvn;have HVD:=zH hvd;obtain⟨an,cn,rfl⟩:=hvn.len;obtain⟨ad,cd,rfl⟩:=hvd.len;generalize (yf (jy b l*qk b^x.toNat)).length=Ln at *
  generalize (yf (qk b^(-x).toNat)).length=Ld at *
  have k0:=HRB6.out.cell 0;have k1:=HRB6.out.cell 1;have k2:=HRB6.out.cell 2;have t0:=HRB6.out.frozen 0;have t1:=HRB6.out.frozen 1;have t2:=HRB6.out.frozen 2;unfold ratZ at k0 k1 k2;simp only[List.getElem?_cons_zero,List.getElem?_cons_succ]at k0 k1 k2;clear hvn hvd hg6;(go_wp2_with fail;repeat ((first|refine cZ ?_|refine cW ?_);go_wp2_with fail));obtain⟨ty,hrow⟩:=wp HRB6.out (.bool neg) (.slice an Ln cn) (.slice ad Ld cd);refine we (B:=B) (.agg #[.bool neg,.slice an Ln cn,.slice ad Ld cd]) (.bool true) rfl ze ze zb zb ?_ (zbq HYES.out (xk HG6.out hBw _ _ _) ⟨_,_,rfl,yz HRB6.out HVN.out _ _ _,yz HRB6.out HVD.out _ _ _⟩);exact run_loadVar_row (P:=Tryz.prog) _ B ty 41 _ (0,0) _ hrow Tryz.underlying41 rfl zg 
end
def allD (b:Nat) (l:List UInt8):Prop:=∀ c ∈ l,isD b c=true
theorem allD.cons {b:Nat} {c:UInt8} {l:List UInt8} (h:allD b (c::l)):isD b c=true/\allD b l:=⟨h c zi,fun x hx=>h x (by simp[hx])⟩
theorem allD.append {b:Nat} {l m:List UInt8} (h:allD b l) (k:allD b m):allD b (l++m):=fun c hc=>(List.mem_append.1 hc).elim (h c) (k c)
theorem allD.take {b:Nat} {l:List UInt8} (h:allD b l) (n:Nat):allD b (l.take n):=fun c hc=>h c (List.mem_of_mem_take hc)
theorem allD.drop {b:Nat} {l:List UInt8} (h:allD b l) (n:Nat):allD b (l.drop n):=fun c hc=>h c (List.mem_of_mem_drop hc)
theorem allD.zeros (n:Nat):allD 10 (List.replicate n 48):=fun c hc=>by rw[(List.mem_replicate.1 hc).2];decide
theorem ykv {l:List UInt8} (h:∀ c ∈ l,zd2 c):allD 10 l:=fun c hc=>by
 unfold isD dig
 rw[if_pos (show 48<=c.toNat/\c.toNat<=57 from h c hc)];rfl
theorem yde {c:UInt8} (h:isD 10 c=true):48<=c.toNat/\c.toNat<=57:=by
 unfold isD dig at h;split at h
 ·assumption
 ·split at h
  ·rename_i h2;exact absurd h2.2 ze
  ·cases h
theorem dig10 {c:UInt8} (h:isD 10 c=true):dig 10 c=some (c.toNat-48):=by unfold dig;rw[if_pos (yde h)]
def ydy (b:Nat) (R:List UInt8):Prop:=R=[]\/∃ c r,R=c::r/\isD b c=false/\c≠95
theorem yd4 {b:Nat} {R:List UInt8} (h:ydy b R):yft b R=0:=by
 rcases h with rfl | ⟨c,r,rfl,h1,h2⟩
 ·rfl
 ·exact zaz b c r h1 (fun d r' _ hh=>h2 hh.1)
theorem yd5 {b:Nat} {R:List UInt8} (h:ydy b R):jh b R=0:=by
 rcases h with rfl | ⟨c,r,rfl,h1,h2⟩
 ·rfl
 ·rw[jh,if_neg (by rw[h1];simp)]
theorem yes {b:Nat} {A R:List UInt8} (hA:allD b A) (hR:ydy b R):yft b (A++R)=A.length:=by
 induction A with
 | nil=>exact yd4 hR
 | cons c r ih=>rw[List.cons_append,zjt b c _ hA.cons.1,ih hA.cons.2,List.length_cons];omega
theorem yc5 {b:Nat} {A R:List UInt8} (hA:allD b A) (hR:ydy b R):jh b (A++R)=A.length:=by
 cases A with
 | nil=>exact yd5 hR
 | cons c r=>rw[List.cons_append,jh,if_pos hA.cons.1,yes hA.cons.2 hR,List.length_cons];omega
def pT:Option (List UInt8)->List UInt8
 | none=>[]
 | some F=>46::F
def pF:Option (List UInt8)->List UInt8
 | none=>[]
 | some F=>F
def xT (lt:UInt8):Option (UInt8×List UInt8)->List UInt8
 | none=>[]
 | some (sg,E)=>lt::sg::E
def xV:Option (UInt8×List UInt8)->Int
 | none=>0
 | some (sg,E)=>if sg=45 then -(ki (dgL 10 E):Int) else (ki (dgL 10 E):Int)
def okX:Option (UInt8×List UInt8)->Prop
 | none=>True
 | some (sg,E)=>(sg=43\/sg=45)/\allD 10 E/\E≠[]
theorem yri (b:Nat) (lt:UInt8) (h1:isD b lt=false) (h2:lt≠95) (X:Option (UInt8×List UInt8)):ydy b (xT lt X):=by
 cases X with
 | none=>exact Or.inl rfl
 | some p=>exact Or.inr ⟨lt,_,rfl,h1,h2⟩
theorem yrx (b:Nat) (lt:UInt8) (h1:isD b lt=false) (h2:lt≠95) (h3:isD b 46=false) (P:Option (List UInt8)) (X:Option (UInt8×List UInt8)):ydy b (pT P++xT lt X):=by
 cases P with
 | none=>exact yri b lt h1 h2 X
 | some F=>exact Or.inr ⟨46,_,rfl,h3,ze⟩
theorem ysm (lt:UInt8) (sg:UInt8) (E:List UInt8) (h:okX (some (sg,E))):jc lt (lt::sg::E)=some (xV (some (sg,E))):=by
 obtain⟨h1,h2,h3⟩:=h;have hrun:jh 10 E=E.length:=by have:=yc5 (R:=[]) h2 (Or.inl rfl);rwa [List.append_nil]at this
 simp only[jc];rw[if_neg zi];rcases h1 with rfl | rfl
 ·have e:sgL (43::E)=(false,E):=by simp[sgL]
  rw[e];unfold zft;rw[if_neg (by rw[hrun];simp[h3])];rfl
 ·have e:sgL (45::E)=(true,E):=by simp[sgL]
  rw[e];unfold zft;rw[if_neg (by rw[hrun];simp[h3])];rfl
theorem yez {b:Nat} {l:List UInt8} (h:allD b l):zkq b l=l.length:=by
 unfold zkq;rw[List.countP_eq_length];exact h
theorem yns (u A:List UInt8) (P:Option (List UInt8)) (X:Option (UInt8×List UInt8)) (lt:UInt8) (hu:u.drop (vy u)=A++(pT P++xT lt X)) (hlt:za2 u=lt) (hA0:A≠[]) (hA:allD (wb u) A) (hF:allD (wb u) (pF P)) (hX:okX X)
  (h1:isD (wb u) lt=false) (h2:lt≠95) (h2':lt≠46) (h3:isD (wb u) 46=false) (hx16:wb u=16->X≠none):
  zf8 u=some (xV X-((zpy u*(pF P).length:Nat):Int))/\nDigits u=dgL (wb u) (A++pF P):=by
 have hdl:u.length=vy u+(A++(pT P++xT lt X)).length:=by
  have:=congrArg List.length hu;rw[List.length_drop]at this;have h:=zcb u;omega
 have hdrop:∀ k,u.drop (vy u+k)=(A++(pT P++xT lt X)).drop k:=fun k=>by rw[<-hu,List.drop_drop]
 have hget:∀ k,u.getD (vy u+k) 0=(A++(pT P++xT lt X)).getD k 0:=fun k=>by
  rw[List.getD_eq_getElem?_getD,List.getD_eq_getElem?_getD,<-hu,List.getElem?_drop]
 have hr1:jh (wb u) (u.drop (vy u))=A.length:=by rw[hu];exact yc5 hA (yrx _ lt h1 h2 h3 P X)
 have hI1:nI1 u=vy u+A.length:=by unfold nI1;rw[hr1]
 have hfst:kl u=A:=by unfold kl;rw[hr1,hu,List.take_left'];rfl
 have hat:u.getD (nI1 u) 0=(pT P++xT lt X).getD 0 0:=by
  rw[hI1,hget,List.getD_eq_getElem?_getD,List.getD_eq_getElem?_getD,List.getElem?_append_right (Nat.le_refl _),Nat.sub_self]
 have hpt:nPt u↔P≠none:=by
  unfold nPt;rw[hat,hI1,hdl,List.length_append,List.length_append];cases P with
  | none=>
   simp only[pT,List.nil_append,ne_eq,not_true_eq_false,iff_false,not_and];intro _;cases X with
   | none=>simp[xT]
   | some p=>simp only[xT,List.getD_cons_zero];exact h2'
  | some F=>simp[pT];omega
 have hsnd:xz u=pF P/\nI2 u=vy u+(A++pT P).length:=by
  unfold xz nI2;cases P with
  | none=>rw[if_neg (by rw[hpt];simp),if_neg (by rw[hpt];simp),hI1];simp[pF,pT]
  | some F=>
   have hd2:u.drop (nI1 u+1)=F++xT lt X:=by
    rw[hI1,Nat.add_assoc,hdrop,List.drop_append,List.drop_of_length_le zd,Nat.add_sub_cancel_left];rfl
   have hr2:jh (wb u) (u.drop (nI1 u+1))=F.length:=by rw[hd2];exact yc5 hF (yri _ lt h1 h2 X)
   rw[if_pos (hpt.2 zi),if_pos (hpt.2 zi),hr2,hd2,List.take_left' rfl];refine⟨rfl,?_⟩;rw[hI1];simp only[pT,List.length_append,List.length_cons];omega
 have hdX:u.drop (nI2 u)=xT lt X:=by
  rw[hsnd.2,hdrop,<-List.append_assoc,List.drop_left' rfl]
 have hexp:zpz u=some (xV X):=by
  unfold zpz;rw[hlt,hdX];have hlen:nI2 u<u.length↔X≠none:=by
   rw[hsnd.2,hdl];simp only[List.length_append];cases X with
   | none=>simp[xT]
   | some p=>simp[xT]
  cases X with
  | none=>
   rw[if_neg]
   ·rfl
   ·rintro (h | h)
    ·exact absurd rfl (hlen.1 h)
    ·exact absurd rfl (hx16 h)
  | some p=>rw[if_pos (Or.inl (hlen.2 zi))];exact ysm lt p.1 p.2 hX
 refine⟨?_,by unfold nDigits;rw[hfst,hsnd.1]⟩;unfold zf8;rw[hfst,hsnd.1,if_neg (fun h=>hA0 h.1),hexp,yez hF];rfl
theorem yc7 (s:List UInt8) (h:∀ c ∈ s,¬(65<=c.toNat/\c.toNat<=90)):xf s=s:=by
 unfold xf;induction s with
 | nil=>rfl
 | cons c r ih=>
  rw[List.map_cons,ih (fun x hx=>h x (by simp[hx]))];unfold vb;rw[if_neg (h c zi)]
theorem ydp (neg:Bool) (u:List UInt8) (c:UInt8) (r:List UInt8) (hu:u=c::r) (hc:isD 10 c=true) (hl:xf u=u) (x:Int) (hx:zf8 u=some x):ul (ycv neg++u)=some ⟨0,neg,wb u,nDigits u,x⟩:=by
 have hcc:=yde hc;have ne:∀ k:UInt8,¬(48<=k.toNat/\k.toNat<=57)->c≠k:=fun k hk e=>hk (e ▸ hcc)
 have hlow:xf (ycv neg++u)=ycv neg++u:=by
  have:xf (ycv neg++u)=xf (ycv neg)++xf u:=by unfold xf;rw[List.map_append]
  rw[this,hl];cases neg <;> rfl
 have hsg:sgL (ycv neg++u)=(neg,u):=by
  rw[hu];cases neg
  ·simp only[ycv,Bool.false_eq_true,if_false,List.nil_append,sgL];rw[if_neg (ne 43 ze),if_neg (ne 45 ze)]
  ·simp[ycv,sgL]
 unfold ul;rw[hlow,hsg,if_neg]
 ·unfold zna;rw[if_neg,hx]
  ·rfl
  ·rw[hu];rintro (h | h)
   ·exact ne 105 ze (List.cons.inj h).1
   ·exact ne 105 ze (List.cons.inj h).1
 ·rw[hu];intro h;cases neg
  ·exact ne 110 ze (List.cons.inj h).1
  ·have:=(List.cons.inj h).1;revert this;decide
theorem ypj (neg:Bool) (A:List UInt8) (P:Option (List UInt8)) (X:Option (UInt8×List UInt8)) (hA0:A≠[]) (hA:allD 10 A) (hF:allD 10 (pF P)) (hX:okX X):
  ul (ycv neg++(A++(pT P++xT 101 X)))=some ⟨0,neg,10,dgL 10 (A++pF P),xV X-(((pF P).length:Nat):Int)⟩:=by
 obtain⟨u,hu⟩:=zX (A++(pT P++xT 101 X));rw[hu];have hmem:∀ c ∈ u,(48<=c.toNat/\c.toNat<=57)\/c=46\/c=101\/c=43\/c=45:=by
  intro c hc;rw[<-hu,List.mem_append,List.mem_append]at hc;rcases hc with hc | hc | hc
  ·exact Or.inl (yde (hA c hc))
  ·cases P with
   | none=>cases hc
   | some F=>
    rcases List.mem_cons.1 hc with h | h
    ·exact Or.inr (Or.inl h)
    ·exact Or.inl (yde (hF c h))
  ·cases X with
   | none=>cases hc
   | some p=>
    obtain⟨sg,E⟩:=p;obtain⟨h1,h2,h3⟩:=hX;simp only[xT,List.mem_cons]at hc;rcases hc with h | h | h
    ·exact Or.inr (Or.inr (Or.inl h))
    ·rcases h1 with rfl | rfl
     ·exact Or.inr (Or.inr (Or.inr (Or.inl h)))
     ·exact Or.inr (Or.inr (Or.inr (Or.inr h)))
    ·exact Or.inl (yde (h2 c h))
 have hnx:¬zd4 u:=by
  rintro⟨h1,_,h3⟩;have hm:u.getD 1 0 ∈ u:=by rw[List.getD_eq_getElem?_getD,List.getElem?_eq_getElem h1];exact List.getElem_mem _
  rw[h3]at hm;rcases hmem 120 hm with h | h | h | h | h <;> revert h <;> decide
 have hb:wb u=10:=by unfold wb;rw[if_neg hnx]
 have hf0:vy u=0:=by unfold vy;rw[if_neg hnx]
 have hp:zpy u=1:=by unfold zpy;rw[hb];rfl
 have hl:za2 u=101:=by unfold za2;rw[hb];rfl
 obtain⟨h1,h2⟩:=yns u A P X 101 (by rw[hf0,List.drop_zero,hu]) hl hA0 (by rw[hb];exact hA) (by rw[hb];exact hF) hX (by rw[hb];decide) ze ze (by rw[hb];decide) (by rw[hb];intro h;cases h);rw[hp,Nat.one_mul]at h1;rw[hb]at h2;obtain⟨c,r,hcr⟩:∃ c r,u=c::r:=by
  cases A with
  | nil=>exact absurd rfl hA0
  | cons c r=>exact⟨c,_,hu.symm⟩
 have hcd:isD 10 c=true:=by
  cases A with
  | nil=>exact absurd rfl hA0
  | cons c' r'=>
   have:=hu.trans hcr;rw[List.cons_append]at this;rw[<-(List.cons.inj this).1];exact hA.cons.1
 have:=ydp neg u c r hcr hcd (yc7 u (fun c hc=>by rcases hmem c hc with h | rfl | rfl | rfl | rfl <;> first | omega | decide)) _ h1;rw[this,hb,h2]
theorem yco (b:Nat) (l:List Nat) (d:Nat):jy b (l++[d])=jy b l*b+d:=by unfold jy;rw[List.foldl_append];rfl
theorem yd8 (v d:Nat) (hv:v≠0) (hd:d<=9):yi (v*10+d)=yi v+1:=by
 have h1:=qh hv;have h2:=xi v;have h3:=yfr hv;obtain⟨k,hk⟩:∃ k,yi v=k+1:=⟨yi v-1,zd⟩;rw[hk]at h1 h2 ⊢;rw[Nat.add_sub_cancel]at h1;refine xa (k+1) _ ?_ ?_
 ·rw[Nat.pow_succ];omega
 ·rw[Nat.pow_succ];omega
theorem yem (b:Nat) (l:List UInt8) (c:UInt8):dgL b (l++[c])=vp b (dgL b l) c:=by unfold dgL;rw[List.foldl_append];rfl
theorem ydm (n:Nat):∀ (l:List UInt8),l.length=n->allD 10 l->jy 10 (dgL 10 l)=zd5 l/\(dgL 10 l).length=yi (zd5 l):=by
 induction n with
 | zero=>
  intro l hl _;have:l=[]:=List.length_eq_zero_iff.1 hl;subst this;exact⟨rfl,rfl⟩
 | succ n ih=>
  intro l hl hA;have hne:l≠[]:=by intro h;rw[h]at hl;cases hl
  obtain⟨m,c,rfl⟩:∃ m c,l=m++[c]:=⟨l.dropLast,l.getLast hne,(List.dropLast_concat_getLast hne).symm⟩;have hm:m.length=n:=by rw[List.length_append]at hl;simpa using hl
  obtain⟨h1,h2⟩:=ih m hm (fun x hx=>hA x (by simp[hx]));have hc:=hA c zi;have hcc:=yde hc;rw[yem,zi3];unfold vp;rw[dig10 hc];dsimp only;by_cases h:0<c.toNat-48\/dgL 10 m≠[]
  ·rw[if_pos h,yco,h1,List.length_append,h2];refine⟨rfl,?_⟩;by_cases h0:zd5 m=0
   ·rw[h0,kw];have h3:dgL 10 m=[]:=by rw[h0,kw]at h2;exact List.length_eq_zero_iff.1 h2
    have h4:0<c.toNat-48:=h.resolve_right (fun hh=>hh h3);rw[Nat.zero_mul,Nat.zero_add];exact (xa 0 _ zd zd).symm
   ·exact (yd8 _ _ h0 zd).symm
  ·rw[if_neg h];have h3:dgL 10 m=[]:=Classical.byContradiction (fun hh=>h (Or.inr hh));have h4:c.toNat-48=0:=by have:=fun hh=>h (Or.inl hh);omega
   have h5:zd5 m=0:=by rw[<-h1,h3];rfl
   rw[h3,h4,h5];exact⟨rfl,rfl⟩
def rdV (neg:Bool) (v:Nat) (x:Int):Bool×Nat×Nat:=if v=0 then (neg,0,1) else (neg,v*10^x.toNat,10^(-x).toNat)
theorem yl1 (neg:Bool) (A:List UInt8) (P:Option (List UInt8)) (X:Option (UInt8×List UInt8)) (hA0:A≠[]) (hA:allD 10 A) (hF:allD 10 (pF P)) (hX:okX X)
  (h1:zd5 (A++pF P)≠0->(yi (zd5 (A++pF P)):Int)-1+(xV X-(((pF P).length:Nat):Int))<=400) (h2:zd5 (A++pF P)≠0->-400<=(yi (zd5 (A++pF P)):Int)-1+(xV X-(((pF P).length:Nat):Int))):
  zjy (ycv neg++(A++(pT P++xT 101 X)))=some (rdV neg (zd5 (A++pF P)) (xV X-(((pF P).length:Nat):Int))):=by
 unfold zjy;rw[ypj neg A P X hA0 hA hF hX];dsimp only;obtain⟨h3,h4⟩:=ydm _ (A++pF P) rfl (hA.append hF);rw[if_neg zi];unfold rdV;by_cases h0:zd5 (A++pF P)=0
 ·have h5:dgL 10 (A++pF P)=[]:=by rw[h0,kw]at h4;exact List.length_eq_zero_iff.1 h4
  rw[if_pos h5,if_pos h0]
 ·have h5:dgL 10 (A++pF P)≠[]:=by intro h;apply h0;rw[<-h3,h];rfl
  have hord:zb8 10 (dgL 10 (A++pF P)) (xV X-(((pF P).length:Nat):Int))=0:=by
   unfold zb8;rw[if_neg h5,if_neg ze,h4];have:=h1 h0;have:=h2 h0;rw[if_neg zd,if_neg zd]
  rw[if_neg h5,if_neg (fun h=>h hord),if_neg h0,h3];rfl
theorem ycw (l:List UInt8) (k:Nat):zd5 (l++List.replicate k 48)=zd5 l*10^k:=by
 induction k with
 | zero=>simp
 | succ k ih=>
  rw[List.replicate_succ',<-List.append_assoc,zi3,ih,Nat.pow_succ];show zd5 l*10^k*10+0=_;rw[Nat.add_zero,Nat.mul_assoc]
theorem ydg (k:Nat) (l:List UInt8):zd5 (List.replicate k 48++l)=zd5 l:=by
 induction k with
 | zero=>simp
 | succ k ih=>
  rw[List.replicate_succ,List.cons_append,zd5,ih];show 0*_+_=_;omega
def dxv (ds:List UInt8) (dp:Int):Int:=dp-(ds.length:Int)
theorem yp6 (ds:List UInt8) (dp pr:Int) (hA:allD 10 ds) (hpr:(ds.length:Int)-dp<=max pr 0):
  ∃ (P:Option (List UInt8)) (j:Nat),ymc ds dp pr=pT P/\allD 10 (pF P)/\allD 10 (ylj ds dp)/\ylj ds dp≠[]/\ylj ds dp++pF P=List.replicate j 48++(ds++List.replicate (dp-(ds.length:Int)+max pr 0).toNat 48)/\((pF P).length:Int)=max pr 0:=by
 have hI:allD 10 (ylj ds dp):=by
  unfold ylj;split
  ·exact (hA.take _).append (allD.zeros _)
  ·intro c hc;rw[List.mem_singleton.1 hc];decide
 have hI0:ylj ds dp≠[]:=by
  unfold ylj;split
  ·rename_i h;intro h2;have:=congrArg List.length h2;simp only[List.length_append,List.length_take,List.length_replicate,List.length_nil]at this;omega
  ·simp
 unfold ymc;by_cases h0:0<pr
 ·rw[if_pos h0];by_cases hdp:0<dp
  ·have hlz:fLz dp pr=0:=by unfold fLz;omega
   have hM:fM ds.length dp pr=max 0 ((ds.length:Int)-dp):=by unfold fM;rw[hlz];omega
   rw[hlz,hM,Int.add_zero];refine⟨some _,0,rfl,?_,hI,hI0,?_,?_⟩
   ·exact (allD.zeros _).append (((hA.drop _).take _).append (allD.zeros _))
   ·unfold ylj;rw[if_pos hdp];simp only[pF,List.replicate_zero,List.nil_append,Int.toNat_zero];by_cases h1:(ds.length:Int)<=dp
    ·rw[List.take_of_length_le zd,List.drop_of_length_le zd];simp only[List.take_nil,List.nil_append,List.append_assoc];rw[List.append_cancel_left_eq,List.replicate_append_replicate];congr 1;omega
    ·rw[show dp.toNat-ds.length=0 by omega,List.replicate_zero,List.append_nil,List.take_of_length_le (l:=ds.drop dp.toNat) (by rw[List.length_drop];omega),<-List.append_assoc,List.take_append_drop];congr 2;omega
   ·simp only[pF,List.length_append,List.length_replicate,List.length_take,List.length_drop];omega
  ·have hlz:fLz dp pr=-dp:=by unfold fLz;omega
   have hM:fM ds.length dp pr=ds.length:=by unfold fM;rw[hlz];omega
   rw[hlz,hM,show dp+-dp=0 by omega];refine⟨some _,(1-dp).toNat,rfl,?_,hI,hI0,?_,?_⟩
   ·exact (allD.zeros _).append (((hA.drop _).take _).append (allD.zeros _))
   ·unfold ylj;rw[if_neg hdp];simp only[pF,Int.toNat_zero,List.drop_zero];rw[List.take_of_length_le zd,show (1-dp).toNat=(-dp).toNat+1 by omega,List.replicate_succ,List.cons_append,List.cons_append,List.nil_append];congr 3;congr 1;omega
   ·simp only[pF,List.length_append,List.length_replicate,List.length_take,List.length_drop];omega
 ·rw[if_neg h0];have hmx:max pr 0=0:=zd;rw[hmx];by_cases hdp:0<dp
  ·refine⟨none,0,rfl,(by intro c hc;cases hc),hI,hI0,?_,rfl⟩;unfold ylj;rw[if_pos hdp,List.take_of_length_le zd];simp only[pF,List.append_nil,List.replicate_zero,List.nil_append];congr 2;omega
  ·have hn:ds=[]:=List.length_eq_zero_iff.1 zd;subst hn;refine⟨none,1,rfl,(by intro c hc;cases hc),hI,hI0,?_,rfl⟩;unfold ylj;rw[if_neg hdp];simp only[pF,List.length_nil,List.append_nil,List.nil_append]at *
   have:(dp-((0:Nat):Int)+0).toNat=0:=zd;rw[this];rfl
theorem ysx (neg:Bool) (ds:List UInt8) (dp pr:Int) (hd:∀ c ∈ ds,zd2 c) (hpr:(ds.length:Int)-dp<=max pr 0) (hdp1:-390<=dp) (hdp2:dp<=390) (hlead:ds≠[]->yi (zd5 ds)=ds.length):
  ∃ k:Nat,(k:Int)<=400+max pr 0/\zjy (yn1 neg ds dp pr)=some (rdV neg (zd5 ds*10^k) (dxv ds dp-(k:Int))):=by
 obtain⟨P,j,h1,h2,h3,h4,h5,h6⟩:=yp6 ds dp pr (ykv hd) hpr;have hv:zd5 (ylj ds dp++pF P)=zd5 ds*10^(dp-(ds.length:Int)+max pr 0).toNat:=by rw[h5,ydg,ycw]
 unfold yn1;rw[h1,show pT P=pT P++xT 101 none by simp[xT]];by_cases h0:zd5 ds=0
 ·have hz:zd5 (ylj ds dp++pF P)=0:=by rw[hv,h0,Nat.zero_mul]
  refine⟨0,zd,?_⟩;rw[yl1 neg _ P none h4 h3 h2 trivial (fun h=>absurd hz h) (fun h=>absurd hz h),hz,h0];simp[rdV]
 ·have hne:ds≠[]:=by intro h;rw[h]at h0;exact h0 rfl
  have hnd:=yqw (zd5 ds) (dp-(ds.length:Int)+max pr 0).toNat _ h0 (hlead hne);have hx:xV none-(((pF P).length:Nat):Int)=-max pr 0:=by show (0:Int)-_=_;omega
  refine⟨(dp-(ds.length:Int)+max pr 0).toNat,zd,?_⟩;rw[yl1 neg _ P none h4 h3 h2 trivial (fun _=>by rw[hv,hnd,hx];omega) (fun _=>by rw[hv,hnd,hx];omega),hv,hx];congr 2;unfold dxv;omega
structure DsOk (ds:List UInt8):Prop where
 dig:∀ c ∈ ds,zd2 c
 lead:ds≠[]->yi (zd5 ds)=ds.length
theorem DsOk.nil:DsOk []:=⟨(fun c hc=>by cases hc),fun h=>absurd rfl h⟩
theorem DsOk.digs (M:Nat) (h:M≠0):DsOk (digs M (yi M)):=by
 refine⟨zeh _ _,fun _=>?_⟩;rw[zhi,Nat.mod_eq_of_lt (xi M),va]
theorem DsOk.lt {ds:List UInt8} (h:DsOk ds):zd5 ds<10^ds.length:=zo2 ds h.dig
theorem yra (neg:Bool) (ds:List UInt8) (dp pr:Int) (hA:allD 10 ds) (hpr:(ds.length:Int)-dp<=max pr 0):((yn1 neg ds dp pr).length:Int)<=max dp 1+max pr 0+10:=by
 unfold yn1;obtain⟨P,j,h1,h2,h3,h4,h5,h6⟩:=yp6 ds dp pr hA hpr;have h7:=yk6 neg;have h8:((ylj ds dp).length:Int)=max dp 1:=by
  unfold ylj;split
  ·simp only[List.length_append,List.length_replicate,List.length_take];omega
  ·simp;omega
 have h9:(pT P).length<=(pF P).length+1:=by cases P <;> simp[pT,pF]
 rw[h1];simp only[List.length_append];omega
theorem yt4 (ds:List UInt8) (dp pr:Int) (more:Nat) (h0:0<pr) (hpr:(ds.length:Int)-dp<=pr) (hdp:-dp<=pr):ymc ds dp (pr+more)=ymc ds dp pr++List.replicate more 48:=by
 unfold ymc;rw[if_pos h0,if_pos zd];have h1:fLz dp (pr+more)=fLz dp pr:=by unfold fLz;omega
 have h2:fM ds.length dp (pr+more)=fM ds.length dp pr:=by unfold fM;rw[h1];unfold fLz;omega
 rw[h1,h2];have h3:(max 0 (pr+more-fLz dp pr-fM ds.length dp pr)).toNat=(max 0 (pr-fLz dp pr-fM ds.length dp pr)).toNat+more:=by
  unfold fM fLz;omega
 rw[h3,<-List.replicate_append_replicate];simp
theorem ytz (m:Nat) (x prec:Int) (hm:m<2^24) (hx1:-126<=x) (hx2:x<=127) (hp:149<=prec):
  ykq 40 (-189) 23 m x prec 102=if m=0 then ⟨[],0,prec,false⟩ else ⟨digs (kf m (x-23)).1 (yi (kf m (x-23)).1),(kf m (x-23)).2+yi (kf m (x-23)).1,prec,false⟩:=by
 unfold ykq;by_cases hm0:m=0
 ·rw[if_pos hm0,if_pos hm0];have:decide (prec<0)=false:=zh;rw[this]
 rw[if_neg hm0,if_neg hm0,if_neg zd];have hfp:xt prec 102=prec:=by unfold xt;rw[if_neg zd]
 have hfd:¬ykk x prec 102<=18:=by
  unfold ykk;rw[if_pos rfl];split <;> omega
 rw[if_neg hfd,hfp];have hm53:m<2^53:=zd;obtain⟨h1,h2,h3,h4,h5,h6⟩:=yl0 m (x-(23:Nat)) hm0 hm53 zd zd;have h9:-149<=(kf m (x-(23:Nat))).2:=by
  obtain⟨q1,q2⟩:=ynq m (x-(23:Nat)) hm0;by_cases h:0<=x-((23:Nat):Int)
  ·have:=(q1 h).1;omega
  ·have:=(q2 zd).1;omega
 have hr:ykl m (x-(23:Nat)) prec 102=kf m (x-(23:Nat)):=by
  unfold ykl;rw[if_neg (show ¬((102:Int)=101\/(102:Int)=69) by decide),if_pos rfl];unfold ymf;rw[if_neg zd]
 rw[hr];unfold ym4;have hN0:(kf m (x-(23:Nat))).1≠0:=by intro h;rw[h]at h1;simp at h1
 rw[if_neg hN0,zi8 h1,ztd h1];simp
theorem yt0 (b:Nat) (hfin:flE 8 23 b≠2^8-1) (hm:zen 8 23 b<2^24) (hx1:-126<=zor 8 23 (-127) b) (hx2:zor 8 23 (-127) b<=127):
  ∃ a d,zjy (xb b 102 149)=some (yta 8 23 b,a,d)/\a*2^(-(zor 8 23 (-127) b-23)).toNat=zen 8 23 b*2^(zor 8 23 (-127) b-23).toNat*d/\(a=0↔zen 8 23 b=0)/\(yf a).length<=40000/\(yf d).length<=40000/\(xb b 102 149).length<=800/\∀ more:Nat,xb b 102 (149+more)=xb b 102 149++List.replicate more 48:=by
 have htx:∀ prec:Int,149<=prec->xb b 102 prec=ylb (yta 8 23 b) 102 (ykq 40 (-189) 23 (zen 8 23 b) (zor 8 23 (-127) b) prec 102):=by
  intro prec h;unfold xb yj5;rw[if_neg hfin,if_neg zd,if_neg zd]
 generalize zen 8 23 b=m at *
 generalize zor 8 23 (-127) b=x at *
 generalize yta 8 23 b=neg at *
 obtain⟨ds,dp,hok,hlen,hd1,hd2,hsh,hpk⟩:∃ ds dp,DsOk ds/\ds.length<=800/\-390<=dp/\dp<=390/\(ds.length:Int)-dp<=149/\∀ prec:Int,149<=prec->ykq 40 (-189) 23 m x prec 102=⟨ds,dp,prec,false⟩:=by
  by_cases hm0:m=0
  ·exact⟨[],0,DsOk.nil,zi,zd,zd,zi,fun prec h=>by rw[ytz m x prec hm hx1 hx2 h,if_pos hm0]⟩
  ·obtain⟨h1,h2,h3,h4,h5,h6⟩:=yl0 m (x-23) hm0 zd zd zd;have h9:-149<=(kf m (x-23)).2:=by
    obtain⟨q1,q2⟩:=ynq m (x-23) hm0;by_cases h:0<=x-23
    ·have:=(q1 h).1;omega
    ·have:=(q2 zd).1;omega
   have h7:=yql m (x-23) hm0 zd zd zd;have hN0:(kf m (x-23)).1≠0:=by intro h;rw[h]at h1;simp at h1
   refine⟨digs (kf m (x-23)).1 (yi (kf m (x-23)).1),(kf m (x-23)).2+yi (kf m (x-23)).1,DsOk.digs _ hN0,by rw[va];omega,zd,zd,by rw[va];omega,fun prec h=>by rw[ytz m x prec hm hx1 hx2 h,if_neg hm0]⟩
 have htf:∀ prec:Int,149<=prec->xb b 102 prec=yn1 neg ds dp prec:=by
  intro prec h;rw[htx prec h,hpk prec h];rfl
 obtain⟨k,hk,hr⟩:=ysx neg ds dp 149 hok.dig zd hd1 hd2 hok.lead;have hlen2:=yra neg ds dp 149 (ykv hok.dig) zd;have hval:∃ a d,rdV neg (zd5 ds*10^k) (dxv ds dp-(k:Int))=(neg,a,d)/\a*2^(-(x-23)).toNat=m*2^(x-23).toNat*d/\(a=0↔m=0)/\(yf a).length<=40000/\(yf d).length<=40000:=by
  have hV:=hok.lt;by_cases hm0:m=0
  ·have h9:=hpk 149 zd;rw[ytz m x 149 hm hx1 hx2 zd,if_pos hm0]at h9;have hds:ds=[]:=by injection h9 with h _ _ _;exact h.symm
   refine⟨0,1,?_,by rw[hm0];simp,by simp[hm0],by rw[xm];simp,Nat.le_trans (yv (k:=1) ze) zd⟩;rw[hds];simp[rdV,zd5]
  ·have h9:=hpk 149 zd;rw[ytz m x 149 hm hx1 hx2 zd,if_neg hm0]at h9;obtain⟨hp,hn⟩:=ynq m (x-23) hm0;obtain⟨h1,h2,h3,h4,h5,h6⟩:=yl0 m (x-23) hm0 zd zd zd;generalize hNP:kf m (x-23)=NP at *
   obtain⟨N,P⟩:=NP;dsimp only at *
   have hds:ds=digs N (yi N):=by injection h9 with h _ _ _;exact h.symm
   have hdp:dp=P+yi N:=by injection h9 with _ h _ _;exact h.symm
   have hN0:N≠0:=by intro h;rw[h]at h1;simp at h1
   have hdv:zd5 ds=N:=by rw[hds,zhi,Nat.mod_eq_of_lt (xi N)]
   have hdx:dxv ds dp=P:=by unfold dxv;rw[hds,va,hdp];omega
   rw[hdv]at hV;have hle:ds.length<=800:=hlen;have hv0:N*10^k≠0:=Nat.mul_ne_zero hN0 (Nat.ne_of_gt (Nat.pow_pos zd));rw[hdv,hdx];refine⟨N*10^k*10^(P-(k:Int)).toNat,10^(-(P-(k:Int))).toNat,by unfold rdV;rw[if_neg hv0],?_,?_,?_,?_⟩
   ·by_cases he:0<=x-23
    ·obtain⟨g1,g2,_⟩:=hp he;rw[<-g2,show (-(x-23)).toNat=0 by omega,Nat.pow_zero,Nat.mul_one];simp only[Nat.mul_assoc,<-Nat.pow_add];congr 2;omega
    ·obtain⟨g1,g2,_⟩:=hn zd;obtain⟨q,hq⟩:=zX ((-(x-23)).toNat);rw[hq]at g2 ⊢;rw[show (x-23).toNat=0 by omega,Nat.pow_zero,Nat.mul_one];refine Nat.eq_of_mul_eq_mul_right (Nat.pow_pos (n:=q) (by omega:0<5)) ?_;have e1:N*10^k*10^(P-(k:Int)).toNat*2^q*5^q=N*10^k*10^(P-(k:Int)).toNat*10^q:=by rw[Nat.mul_assoc _ (2^q),<-Nat.mul_pow]
     have e2:m*10^(-(P-(k:Int))).toNat*5^q=m*5^q*10^(-(P-(k:Int))).toNat:=by rw[Nat.mul_assoc,Nat.mul_comm (10^_),<-Nat.mul_assoc]
     rw[e1,e2,<-g2];simp only[Nat.mul_assoc,<-Nat.pow_add];congr 2;omega
   ·exact⟨fun h=>absurd h (Nat.mul_ne_zero hv0 (Nat.ne_of_gt (Nat.pow_pos zd))),fun h=>absurd h hm0⟩
   ·have:N*10^k*10^(P-(k:Int)).toNat<10^(ds.length+k+(P-(k:Int)).toNat):=by
     rw[Nat.pow_add,Nat.pow_add];exact Nat.mul_lt_mul_of_pos_right (Nat.mul_lt_mul_of_pos_right hV (Nat.pow_pos zd)) (Nat.pow_pos zd)
    have:=yt3 this;omega
   ·have:10^(-(P-(k:Int))).toNat<10^((-(P-(k:Int))).toNat+1):=Nat.pow_lt_pow_right zd zd;have:=yt3 this;omega
 obtain⟨a,d,hv1,hv2,hv3,hv4,hv5⟩:=hval;refine⟨a,d,?_,hv2,hv3,hv4,hv5,?_,fun more=>?_⟩
 ·rw[htf 149 zd,hr,hv1]
 ·rw[htf 149 zd];omega
 ·rw[htf 149 zd,htf (149+more) zd];unfold yn1;rw[yt4 ds dp 149 more zd zd zd];simp
theorem yal (m:Nat) (e:Int) (hm:m<2^53) (h1:-1074<=e) (h2:e<=971):(yf (vN m e)).length<=100/\(yf (vD e)).length<=100:=by
 obtain⟨K,hK⟩:∃ K,K=100:=⟨_,rfl⟩;rw[<-hK];constructor
 ·refine yv ?_;unfold vN;refine Nat.lt_of_lt_of_le (Nat.mul_lt_mul_of_pos_right hm (Nat.two_pow_pos _)) ?_;rw[<-Nat.pow_add,js];exact Nat.pow_le_pow_right zd zd
 ·refine yv ?_;unfold vD;rw[js];exact Nat.pow_lt_pow_right zd zd
theorem zlo (s:Nat) (E:Int) (a b:Nat) (hb:b≠0) (hab:a*vD E=vN s E*b) (h1:4503599627370496<=s) (h2:s<9007199254740992) (hE1:-1074<=E) (hE2:E<=971):
  xh 52 1023 9218868437227405312 a b=(E+1074).toNat*4503599627370496+s:=by
 have hs0:s≠0:=zd;have hvn:=yam E hs0;have hvd:=zjf E;have ha:a≠0:=by
  intro h0;rw[h0,Nat.zero_mul]at hab;exact absurd hab.symm (Nat.mul_ne_zero hvn hb)
 have ho:uo a b=E+52:=by
  refine zfa ha hb ((zan zd hvd hab _).2 ?_) (fun hh=>?_)
  ·rw[ws (j:=-E) (n:=52) zd,Int.neg_neg];unfold vN vD;rw[Nat.mul_assoc s,Nat.mul_comm (2^(-E).toNat) (2^E.toNat)];exact Nat.mul_le_mul_right _ h1
  ·have:=(zan zd hvd hab _).1 hh;rw[ws (j:=-E) (n:=53) zd,Int.neg_neg]at this;unfold vN vD at this;rw[Nat.mul_assoc s,Nat.mul_comm (2^(-E).toNat) (2^E.toNat)]at this;have h3:=Nat.le_of_mul_le_mul_right this (Nat.mul_pos (p2 _) (p2 _));omega
 have hne:yt 52 1023 a b=E:=by
  unfold yt;rw[if_neg ha,ho];omega
 have hrb:rB a b E=s:=by
  unfold rB;have:vi (a*2^(-E).toNat) (b*2^E.toNat)=vi (s*1) 1:=by
   refine yj7 (Nat.mul_pos zd (p2 _)) zd ?_;rw[Nat.mul_one,Nat.mul_one];unfold vN vD at hab;rw[hab];ac_rfl
  rw[this];exact zad s 1 zd
 unfold xh;rw[hne,if_pos zd,hrb];congr 2
theorem zrj (s:Nat) (E:Int) (g:Nat) (h1:4503599627370496<=s) (h2:s<9007199254740992) (hE1:-1074<=E) (hE2:E<=971) (hg:g=0\/g=9223372036854775808):
  m64 ((E+1074).toNat*4503599627370496+s+g)=s/\e64 ((E+1074).toNat*4503599627370496+s+g)=E/\((E+1074).toNat*4503599627370496+s+g)%9223372036854775808<9218868437227405312/\(E+1074).toNat*4503599627370496+s+g<18446744073709551616/\decide (9223372036854775808<=(E+1074).toNat*4503599627370496+s+g)=decide (g=9223372036854775808):=by
 obtain⟨q,hq⟩:=zX ((E+1074).toNat);rw[hq];have hq2:q<=2045:=zd;have f1:flE 11 52 (q*4503599627370496+s+g)=q+1:=by unfold flE;omega
 have f2:flF 52 (q*4503599627370496+s+g)=s-4503599627370496:=by unfold flF;omega
 refine⟨?_,?_,zd,zd,?_⟩
 ·unfold m64 zen;rw[f1,if_neg zd,f2];omega
 ·unfold e64 zor;rw[f1,if_neg zd];omega
 ·rw[decide_eq_decide];omega
theorem zgd (m:Nat) (e:Int) (g:Nat) (hm:m<16777216) (he1:-149<=e) (he2:e<=104) (hg:g=0\/g=9223372036854775808):
  ∃ N,xh 52 1023 9218868437227405312 (vN m e) (vD e)+g=N/\N<18446744073709551616/\N%9223372036854775808<9218868437227405312/\decide (9223372036854775808<=N)=decide (g=9223372036854775808)/\vN m e*vD (e64 N)=vN (m64 N) (e64 N)*vD e:=by
 by_cases h0:m=0
 ·subst h0;have hV:vN 0 e=0:=by unfold vN;rw[Nat.zero_mul]
  have hn:xh 52 1023 9218868437227405312 (vN 0 e) (vD e)=0:=by
   rw[hV];unfold xh yt;rw[if_pos rfl,if_pos zd];unfold rB;rw[Nat.zero_mul];have:=zad 0 (vD e*2^((1:Int)-1023-52).toNat) (Nat.mul_pos (zjf e) (p2 _));rw[Nat.zero_mul]at this;rw[this];rfl
  rw[hn,hV];refine⟨g,zd,zd,zd,by rw[decide_eq_decide];omega,?_⟩;have:m64 g=0:=by
   rcases hg with rfl | rfl
   ·rfl
   ·unfold m64 zen flE flF;decide
  rw[this];unfold vN;rw[Nat.zero_mul,Nat.zero_mul,Nat.zero_mul]
 ·obtain⟨k,hk⟩:=zX m.log2;have hlo:2^k<=m:=by rw[<-hk];exact Nat.log2_self_le h0
  have hhi:m<2^(k+1):=by rw[<-hk];exact Nat.lt_log2_self
  have hk24:k<24:=(Nat.pow_lt_pow_iff_right (by omega:1<2)).1 (Nat.lt_of_le_of_lt hlo hm);have hs1:4503599627370496<=m*2^(52-k):=by
   have:=Nat.mul_le_mul_right (2^(52-k)) hlo;rw[<-Nat.pow_add,show k+(52-k)=52 by omega]at this;exact this
  have hs2:m*2^(52-k)<9007199254740992:=by
   have:=Nat.mul_lt_mul_of_pos_right hhi (p2 (52-k));rw[<-Nat.pow_add,show k+1+(52-k)=53 by omega]at this;exact this
  have hsh:=zs6 m (52-k) e;have hne:=zlo (m*2^(52-k)) (e-(52-k:Nat)) (vN m e) (vD e) (Nat.ne_of_gt (zjf e)) hsh.symm hs1 hs2 zd zd;obtain⟨f1,f2,f3,f4,f5⟩:=zrj (m*2^(52-k)) (e-(52-k:Nat)) g hs1 hs2 zd zd hg;refine⟨_,rfl,?_⟩;rw[hne];refine⟨f4,f3,f5,?_⟩;rw[f1,f2];exact hsh.symm
section
attribute [local go_sem] undef
def zma (n:Nat):Nat:=xd (vN (m32 n) (e32 n)) (vD (e32 n))+if 2147483648<=n then 9223372036854775808 else 0
theorem zxi (n:Nat) (hn:n<4294967296) (hfin:n%2147483648<2139095040):
  zma n<18446744073709551616/\zma n%9223372036854775808<9218868437227405312/\decide (9223372036854775808<=zma n)=decide (2147483648<=n)/\vN (m32 n) (e32 n)*vD (e64 (zma n))=vN (m64 (zma n)) (e64 (zma n))*vD (e32 n):=by
 have hx:=zsr n hfin;have hm:=zsl n;obtain⟨g,hg,hgn⟩:∃ g:Nat,(g=0\/g=9223372036854775808)/\g=if 2147483648<=n then 9223372036854775808 else 0:=by
  by_cases h:2147483648<=n
  ·exact⟨_,Or.inr rfl,by rw[if_pos h]⟩
  ·exact⟨_,Or.inl rfl,by rw[if_neg h]⟩
 obtain⟨N,hN,h1,h2,h3,h4⟩:=zgd (m32 n) (e32 n) g hm zd zd hg;have hw:zma n=N:=by unfold zma;rw[<-hgn];exact hN
 rw[hw];refine⟨h1,h2,?_,h4⟩;rw[h3,decide_eq_decide,hgn];constructor
 ·intro h;split at h
  ·assumption
  ·omega
 ·intro h;rw[if_pos h]
set_option maxRecDepth 100000 in
theorem zkw (n:Nat) (hn:n<4294967296) (hfin:n%2147483648<2139095040) (w:World):
  Calls Tryz.prog 19 #[.int .u32 (n:Int)] w fun e w'=>e=.returned (.int .u64 ((zma n:Nat):Int))/\w.grownBy w' none:=by
 have hx:=zsr n hfin;have hm:=zsl n;obtain⟨g,hg,hgn⟩:∃ g:Nat,(g=0\/g=9223372036854775808)/\g=if 2147483648<=n then 9223372036854775808 else 0:=by
  by_cases h:2147483648<=n
  ·exact⟨_,Or.inr rfl,by rw[if_pos h]⟩
  ·exact⟨_,Or.inl rfl,by rw[if_neg h]⟩
 obtain⟨N,hN,h1,h2,h3,h4⟩:=zgd (m32 n) (e32 n) g hm zd zd hg;have hw:zma n=N:=by unfold zma;rw[<-hgn];exact hN
 rw[hw];clear hw;have hk:kn 2139095040 2147483648 n=0:=zis rfl hfin;have hK:=fun W=>za8 n W hn
 rw[hk]at hK;have HK:=zH hK;have HI:=zH (fun W=>jw n W hn);have HS:=zH wm;have HV:=zH (fun W=>zev n (m32 n) (e32 n) W hn hk (zv8 n) (zwp n));obtain⟨v1,v2⟩:=yal (m32 n) (e32 n) (Nat.lt_of_lt_of_le hm ze) zd zd;have HNE:=zH (fun vn vd W (h1:NatV W vn (vN (m32 n) (e32 n))) (h2:NatV W vd (vD (e32 n)))=>zah false vn vd _ _ W h1 h2 (Nat.ne_of_gt (zjf _)) zd zd);have HNN:=zH (show xd (vN (m32 n) (e32 n)) (vD (e32 n))+g=N from hN);have HGN:=zH hgn;obtain⟨M,hM⟩:=zX (xd (vN (m32 n) (e32 n)) (vD (e32 n)));simp only[hM]at HNE HNN;have hM2:M<18446744073709551616:=by have:=HNN.out;omega
 have HV':=zH (show ∀ W,Calls Tryz.prog 21 #[.int .i64 32,.int .u64 (n:Int)] W fun x w'=>∃ vn vd,x=.returned (.tuple #[.agg #[.bool (decide (2147483648<=n)),vn,vd],.bool true])/\NatV w' vn (vN (m32 n) (e32 n))/\NatV w' vd (vD (e32 n))/\W.grownBy w' none from HV.out);generalize vN (m32 n) (e32 n)=a at *
 generalize vD (e32 n)=b at *
 have hN64:=h1;clear HV hM hN hK hk h1 h2 h3 h4 hgn v1 v2;refine ye Tryz.func19 rfl (by rw[Tryz.ntmps19];simp) ?_;intro σ hσ;rw[Tryz.ntmps19];have s0:σ 0=.int .u32 (n:Int):=hσ 0 zi;clear hσ;(go_wp2_with fail;repeat ((first|refine cZ ?_|refine cW ?_);go_wp2_with fail));refine (HI.out _).mono ?_;rintro e w7 ⟨rfl,rfl⟩;go_wp2_with fail;refine yr (fun s' w'=>s' 0=.int .u32 (n:Int)/\s' 3=.int .u64 (g:Int)/\w=w') ?_ ?_
 ·intro R' K' HR hK';by_cases hs:2147483648<=n
  ·have e:g=9223372036854775808:=by rw[HGN.out,if_pos hs]
   subst e;have f1:decide (2147483648<=n)=true:=by simpa using hs
   clear hs;(go_wp2_with fail;repeat ((first|refine cZ ?_|refine cW ?_);go_wp2_with fail));refine (HS.out _).mono ?_;rintro e w7 ⟨rfl,rfl⟩;(go_wp2_with fail;repeat ((first|refine cZ ?_|refine cW ?_);go_wp2_with fail));exact got HR ⟨zb,zj,rfl⟩
  ·have e:g=0:=by rw[HGN.out,if_neg hs]
   subst e;have f1:decide (2147483648<=n)=false:=by simpa using hs
   clear hs;(go_wp2_with fail;repeat ((first|refine cZ ?_|refine cW ?_);go_wp2_with fail));exact got HR ⟨zb,zj,rfl⟩
 clear s0 σ HI HS;rintro σ w' ⟨s0,s3,rfl⟩;(go_wp2_with fail;repeat ((first|refine cZ ?_|refine cW ?_);go_wp2_with fail));refine (HK.out _).mono ?_;rintro e w7 ⟨rfl,rfl⟩;(go_wp2_with fail;repeat ((first|refine cZ ?_|refine cW ?_);go_wp2_with fail));refine (HV'.out _).mono ?_;rintro e w2 ⟨vn,vd,rfl,hvn,hvd,hg2⟩;generalize decide (2147483648<=n)=neg at *
 obtain⟨an,cn,rfl⟩:=hvn.len;obtain⟨ad,cd,rfl⟩:=hvd.len;generalize (yf a).length=LN at *
 generalize (yf b).length=LD at *
 obtain⟨w3,hw3⟩:∃ w',World.alloc w2 (.cells #[.bool neg,.slice an LN cn,.slice ad LD cd] 41)=w':=⟨_,rfl⟩;obtain⟨B,hB⟩:=zX ((World.heap w2).size);have hib:=InBlk.new w2 neg (.slice an LN cn) (.slice ad LD cd) 41;rw[hw3,hB]at hib;have HIB:=zH hib;have HVN:=zH (hvn.grown hib.grown);have HVD:=zH (hvd.grown hib.grown);have HG3:=zH (ya hg2 hib.grown);have HW3:=zH hw3;have HB:=zH hB;have HSZ:=zH hg2.size;clear hvn hvd hg2 hib hw3 hB;go_upto_region 10 with fail;rw[HW3.out,HB.out];clear HW3;have c0:=HIB.out.row.cell 0;have c1:=HIB.out.row.cell 1;have c2:=HIB.out.row.cell 2;have t0:=HIB.out.row.frozen 0;simp only[List.getElem?_cons_zero,List.getElem?_cons_succ]at c0 c1 c2;go_upto_region 11 with fail;obtain⟨w4,hw4⟩:=zX (w3.setCell ⟨B,0,none⟩ (.bool false));have hr4:=HIB.out.row.setCell 0 (.bool false);simp only[List.set_cons_zero]at hr4;have hn4:=NatV.setB (u:=.bool false) (k:=0) HVN.out c0;have hd4:=NatV.setB (u:=.bool false) (k:=0) HVD.out c0;have hg4:=yb HG3.out (a:=⟨B,0,none⟩) (.bool false) (by show w.heap.size<=B;have:=HB.out;have:=HSZ.out;omega);rw[hw4]at hr4 hn4 hd4 hg4;rw[hw4];have HN4:=zH hn4;have HD4:=zH hd4;have HG4:=zH hg4;clear c0 c1 c2 t0 hn4 hd4 hg4 hw4;have c0:=hr4.cell 0;have c1:=hr4.cell 1;have c2:=hr4.cell 2;simp only[List.getElem?_cons_zero,List.getElem?_cons_succ]at c0 c1 c2;clear hr4;(go_wp2_with fail;repeat ((first|refine cZ ?_|refine cW ?_);go_wp2_with fail));refine (HNE.out _ _ _ HN4.out HD4.out).mono ?_;rintro e w5 ⟨rfl,hg5⟩;have HG5:=zH (ya HG4.out hg5);clear hg5 c0 c1 c2;simp only[Bool.false_eq_true,if_false,Nat.add_zero];have hwr:IntKind.u64.wrap (N:Int)=(N:Int):=zku N hN64;have hsum2:(g:Int)+(M:Int)=(N:Int):=by have:=HNN.out;omega
 (go_wp2_with fail;repeat ((first|refine cZ ?_|refine cW ?_);go_wp2_with fail));exact yl (.int .u64 (N:Int)) rfl ze zb ⟨rfl,HG5.out⟩
end
section
attribute [local go_sem] undef
def sgW (n:Nat):Nat:=if 2147483648<=n then 9223372036854775808 else 0
def zs5 (n:Nat):Nat:=if n%2147483648=2139095040 then 9218868437227405312 else 9223372036854775807
def zyo (n:Nat):Nat:=if n%2147483648<2139095040 then zma n else sgW n+zs5 n
set_option maxRecDepth 100000 in
theorem zkv (n:Nat) (hn:n<4294967296) (hfin:¬n%2147483648<2139095040) (w:World):
  Calls Tryz.prog 19 #[.int .u32 (n:Int)] w fun e w'=>e=.returned (.int .u64 ((sgW n+zs5 n:Nat):Int))/\w=w':=by
 obtain⟨g,hg,hgn⟩:∃ g:Nat,(g=0\/g=9223372036854775808)/\sgW n=g:=by
  by_cases h:2147483648<=n
  ·exact⟨_,Or.inr rfl,by unfold sgW;rw[if_pos h]⟩
  ·exact⟨_,Or.inl rfl,by unfold sgW;rw[if_neg h]⟩
 rw[hgn];have hK:=fun W=>za8 n W hn
 obtain⟨kd,hkd,hkk⟩:∃ kd:Int,kn 2139095040 2147483648 n=kd/\((kd=1/\zs5 n=9218868437227405312)\/(kd=2/\zs5 n=9223372036854775807)):=by
  by_cases h:n%2147483648=2139095040
  ·exact⟨1,zir rfl h,Or.inl ⟨rfl,by unfold zs5;rw[if_pos h]⟩⟩
  ·exact⟨2,zde rfl zd,Or.inr ⟨rfl,by unfold zs5;rw[if_neg h]⟩⟩
 rw[hkd]at hK;obtain⟨q,hq⟩:=zX (zs5 n);rw[hq]at hkk ⊢;have HK:=zH hK;have HI:=zH (fun W=>jw n W hn);have HS:=zH wm;have HF:=zH wy;have HGN:=zH hgn;clear hK hgn hkd hq hfin;refine ye Tryz.func19 rfl (by rw[Tryz.ntmps19];simp) ?_;intro σ hσ;rw[Tryz.ntmps19];have s0:σ 0=.int .u32 (n:Int):=hσ 0 zi;clear hσ;(go_wp2_with fail;repeat ((first|refine cZ ?_|refine cW ?_);go_wp2_with fail));refine (HI.out _).mono ?_;rintro e w7 ⟨rfl,rfl⟩;go_wp2_with fail;refine yr (fun s' w'=>s' 0=.int .u32 (n:Int)/\s' 3=.int .u64 (g:Int)/\w=w') ?_ ?_
 ·intro R' K' HR hK';by_cases hs:2147483648<=n
  ·have e:g=9223372036854775808:=by rw[<-HGN.out];unfold sgW;rw[if_pos hs]
   subst e;have f1:decide (2147483648<=n)=true:=by simpa using hs
   clear hs;(go_wp2_with fail;repeat ((first|refine cZ ?_|refine cW ?_);go_wp2_with fail));refine (HS.out _).mono ?_;rintro e w7 ⟨rfl,rfl⟩;(go_wp2_with fail;repeat ((first|refine cZ ?_|refine cW ?_);go_wp2_with fail));exact got HR ⟨zb,zj,rfl⟩
  ·have e:g=0:=by rw[<-HGN.out];unfold sgW;rw[if_neg hs]
   subst e;have f1:decide (2147483648<=n)=false:=by simpa using hs
   clear hs;(go_wp2_with fail;repeat ((first|refine cZ ?_|refine cW ?_);go_wp2_with fail));exact got HR ⟨zb,zj,rfl⟩
 clear s0 σ HI HGN;rintro σ w' ⟨s0,s3,rfl⟩;rcases hkk with⟨rfl,rfl⟩ | ⟨rfl,rfl⟩
 ·(go_wp2_with fail;repeat ((first|refine cZ ?_|refine cW ?_);go_wp2_with fail));refine (HK.out _).mono ?_;rintro e w7 ⟨rfl,rfl⟩;(go_wp2_with fail;repeat ((first|refine cZ ?_|refine cW ?_);go_wp2_with fail));refine (HF.out _).mono ?_;rintro e w7 ⟨rfl,rfl⟩;have hwr:IntKind.u64.wrap ((g:Int)+9218868437227405312)=((g+9218868437227405312:Nat):Int):=by rcases hg with rfl | rfl <;> decide
  (go_wp2_with fail;repeat ((first|refine cZ ?_|refine cW ?_);go_wp2_with fail));exact yl (.int .u64 ((g+9218868437227405312:Nat):Int)) rfl ze zb ⟨rfl,rfl⟩
 ·(go_wp2_with fail;repeat ((first|refine cZ ?_|refine cW ?_);go_wp2_with fail));refine (HK.out _).mono ?_;rintro e w7 ⟨rfl,rfl⟩;(go_wp2_with fail;repeat ((first|refine cZ ?_|refine cW ?_);go_wp2_with fail));refine (HS.out _).mono ?_;rintro e w7 ⟨rfl,rfl⟩;obtain⟨y,hy,hy2⟩:∃ y,IntKind.u64.wrap ((g:Int)+9223372036854775808)=y/\IntKind.u64.wrap (y-1)=((g+9223372036854775807:Nat):Int):=by
   rcases hg with rfl | rfl
   ·exact⟨_,rfl,ze⟩
   ·exact⟨_,rfl,ze⟩
  (go_wp2_with fail;repeat ((first|refine cZ ?_|refine cW ?_);go_wp2_with fail));exact yl (.int .u64 ((g+9223372036854775807:Nat):Int)) rfl ze zb ⟨rfl,rfl⟩
theorem zkx (n:Nat) (hn:n<4294967296) (w:World):
  Calls Tryz.prog 19 #[.int .u32 (n:Int)] w fun e w'=>e=.returned (.int .u64 ((zyo n:Nat):Int))/\w.grownBy w' none:=by
 unfold zyo;by_cases h:n%2147483648<2139095040
 ·rw[if_pos h];exact zkw n hn h w
 ·rw[if_neg h];refine (zkv n hn h w).mono ?_;rintro e w1 ⟨rfl,rfl⟩;exact⟨rfl,World.grownBy.refl w none⟩
end
section
attribute [local go_sem] undef
set_option maxRecDepth 100000 in
theorem zx9 (a b:Nat) (w:World) (ha:a<18446744073709551616) (hb:b<18446744073709551616) (h:a=b\/(a*2%18446744073709551616=0/\b*2%18446744073709551616=0)):
  Calls Tryz.prog 18 #[.int .u64 (a:Int),.int .u64 (b:Int)] w fun e w'=>e=.returned (.bool true)/\w=w':=by
 have HZ1:=zH (fun W=>zxv a W ha);have HZ2:=zH (fun W=>zxv b W hb);refine ye Tryz.func18 rfl (by rw[Tryz.ntmps18];simp) ?_;intro σ hσ;rw[Tryz.ntmps18];have s0:σ 0=.int .u64 (a:Int):=hσ 0 zi;have s1:σ 1=.int .u64 (b:Int):=hσ 1 zi;clear hσ ha hb;by_cases hab:a=b
 ·subst hab;have e1:((a:Int)==(a:Int))=true:=zi;clear h;(go_wp2_with fail;repeat ((first|refine cZ ?_|refine cW ?_);go_wp2_with fail));exact yl (.bool true) rfl ze zb ⟨rfl,rfl⟩
 ·obtain⟨h1,h2⟩:=h.resolve_left hab;have e1:((a:Int)==(b:Int))=false:=zf;have e2:(a==b)=false:=by rw[beq_eq_false_iff_ne];exact hab
  generalize a*2%18446744073709551616=za at *
  generalize b*2%18446744073709551616=zb at *
  subst h1 h2;clear h hab;(go_wp2_with fail;repeat ((first|refine cZ ?_|refine cW ?_);go_wp2_with fail));refine (HZ1.out _).mono ?_;rintro e w7 ⟨rfl,rfl⟩;(go_wp2_with fail;repeat ((first|refine cZ ?_|refine cW ?_);go_wp2_with fail));refine (HZ2.out _).mono ?_;rintro e w7 ⟨rfl,rfl⟩;(go_wp2_with fail;repeat ((first|refine cZ ?_|refine cW ?_);go_wp2_with fail));exact yl (.bool true) rfl ze zb ⟨rfl,rfl⟩
end
end Go.Proofs.YtnifedmhgncioaaGreatDoor
