/- Lemmas that the claim's top text leans on. No condition of their own. -/
import Derived.Test.YtoacbkokkkpofaaGreatDoorJ32
import Derived.Test.YtoacbkokkkpofaaGreatDoorJ35
namespace Go.Proofs.YtoacbkokkkpofaaGreatDoor
open Go.RowKit
set_option linter.unusedSimpArgs false
set_option linter.unusedVariables false
set_option maxHeartbeats 16000000
section
attribute [local go_sem] undef
def zjy (s:List UInt8):Option (Bool×Nat×Nat):=match ul s with
 | none=>none
 | some r=>if r.kind≠0 then none else if r.digits=[] then some (r.neg,0,1) else if zb8 r.base r.digits r.exp≠0 then none
  else some (r.neg,jy r.base r.digits*qk r.base^r.exp.toNat,qk r.base^(-r.exp).toNat)
theorem zru {b:Nat} (hb:b=10\/b=16) {c:UInt8} {d:Nat} (h:dig b c=some d):d<b:=by
 unfold dig at h;split at h
 ·cases h;omega
 ·split at h
  ·rename_i h2;cases h;omega
  ·cases h
theorem zry (b:Nat) (hb:b=10\/b=16) (s:List UInt8):∀ d ∈ dgL b s,d<b:=by
 have key:∀ (l:List UInt8) (o:List Nat),(∀ d ∈ o,d<b)->∀ d ∈ l.foldl (vp b) o,d<b:=by
  intro l;induction l with
  | nil=>intro o h;exact h
  | cons c r ih=>
   intro o h;rw[List.foldl_cons];refine ih _ ?_;unfold vp;split
   ·rename_i d hd;split
    ·intro x hx;rcases List.mem_append.1 hx with hx | hx
     ·exact h x hx
     ·rw[List.mem_singleton.1 hx];exact zru hb hd
    ·exact h
   ·exact h
 exact key s [] (by intro d hd;cases hd)
theorem ze9 {s:List UInt8} {r:Txt} (h:ul s=some r):(r.kind≠0->r.digits=[])/\(r.kind=0->(r.base=10\/r.base=16)/\(∀ d ∈ r.digits,d<r.base)/\r.digits.length<=s.length/\-1000000000000000-4*(s.length:Int)<=r.exp/\r.exp<=1000000000000000):=by
 unfold ul at h;split at h
 ·cases h;exact⟨fun _=>rfl,fun h=>zF⟩
 ·unfold zna at h;split at h
  ·cases h;exact⟨fun _=>rfl,fun h=>zF⟩
  ·obtain⟨x,hx,rfl⟩:=Option.map_eq_some_iff.1 h;refine⟨fun h=>absurd rfl h,fun _=>?_⟩;dsimp only;generalize hu:(sgL (xf s)).2=u at *
   have hul:u.length<=s.length:=by
    rw[<-hu];have e:(xf s).length=s.length:=by unfold xf;rw[List.length_map]
    rw[<-e];cases xf s with
    | nil=>simp[sgL]
    | cons c r=>
     simp only[sgL];split
     ·simp
     ·split <;> simp
   have h1:(kl u).length<=u.length:=zJ;have h2:(xz u).length<=u.length:=zA;refine⟨zcc u,zry _ (zcc u) _,?_,?_⟩
   ·have:=zf0 (wb u) (kl u++xz u);unfold nDigits;rw[List.length_append]at this;have h12:(kl u).length+(xz u).length<=u.length:=by
     unfold kl xz;split
     ·rename_i hp;unfold nPt at hp;have:=hp.1;unfold nI1 at this ⊢;rw[List.length_take,List.length_take,List.length_drop,List.length_drop];omega
     ·simp only[List.length_nil,List.length_take,List.length_drop];omega
    omega
   ·unfold zf8 at hx;split at hx
    ·cases hx
    ·obtain⟨y,hy,rfl⟩:=Option.map_eq_some_iff.1 hx;have hyb:-1000000000000000<=y/\y<=1000000000000000:=by
      unfold zpz at hy;split at hy
      ·exact zkl _ _ _ hy
      ·have:=Option.some.inj hy;omega
     have h3:=zpe (wb u) (xz u);have h4:zpy u<=4:=by unfold zpy;split <;> omega
     have h5:zpy u*zkq (wb u) (xz u)<=4*s.length:=Nat.mul_le_mul h4 zd;generalize zpy u*zkq (wb u) (xz u)=q at h5 ⊢;omega
theorem zg1 {b:Nat} {l:List Nat} {x:Int} (h:zb8 b l x=0) (hl:l.length<=1100000):-5000000<=x/\x<=5000000:=by
 unfold zb8 at h;split at h
 ·cases h
 ·split at h
  ·split at h
   ·cases h
   ·split at h
    ·cases h
    ·omega
  ·split at h
   ·cases h
   ·split at h
    ·cases h
    ·omega
theorem zm1 {w:World} {B D i:Nat} {v:Value} (hne:D≠B) (h:w.cell? ⟨D,i,none⟩=some v) (u0 u1 u2:Value):
  (((w.setCell ⟨B,0,none⟩ u0).setCell ⟨B,1,none⟩ u1).setCell ⟨B,2,none⟩ u2).cell? ⟨D,i,none⟩=some v:=by
 have h1:(w.setCell ⟨B,0,none⟩ u0).cell? ⟨D,i,none⟩=some v:=by rw[World.cell?_of_block (Below.heap_setCell w ⟨B,0,none⟩ u0 D hne)];exact h
 have h2:((w.setCell ⟨B,0,none⟩ u0).setCell ⟨B,1,none⟩ u1).cell? ⟨D,i,none⟩=some v:=by rw[World.cell?_of_block (Below.heap_setCell _ ⟨B,1,none⟩ u1 D hne)];exact h1
 rw[World.cell?_of_block (Below.heap_setCell _ ⟨B,2,none⟩ u2 D hne)];exact h2
def zdt (s:List UInt8) (w:World) (e:Ending) (w':World):Prop:=w.grownBy w' none/\
 match zjy s with
 | none=>e=.returned (.tuple #[.agg ratZ.toArray,.bool false])
 | some (ng,n,d)=>∃ vr,e=.returned (.tuple #[vr,.bool true])/\zpu w' vr ng n d
theorem ku {s:List UInt8} {w w':World} (h:zjy s=none) (hg:w.grownBy w' none):zdt s w (.returned (.tuple #[.agg ratZ.toArray,.bool false])) w':=by
 unfold zdt;rw[h];exact⟨hg,rfl⟩
theorem zbq {s:List UInt8} {w w':World} {ng:Bool} {n d:Nat} {vr:Value} (h:zjy s=some (ng,n,d)) (hg:w.grownBy w' none) (hr:zpu w' vr ng n d):zdt s w (.returned (.tuple #[vr,.bool true])) w':=by
 unfold zdt;rw[h];exact⟨hg,vr,rfl,hr⟩
set_option maxRecDepth 100000 in
theorem zdx (s:List UInt8) (w:World) (hs:s.length<=1050000):
  Calls Tryz.prog 28 #[.string ⟨s.toArray⟩] w (zdt s w):=by
 have HRT:=zH (fun W=>zbo s W zd);refine ye Tryz.func28 rfl (by rw[Tryz.ntmps28];simp) ?_;intro σ hσ;rw[Tryz.ntmps28];have s0:σ 0=.string ⟨s.toArray⟩:=hσ 0 zi;clear hσ;obtain⟨w1,hw1⟩:=zX (w.alloc (.cells ratZ.toArray 37));have hrB:=Row.new w ratZ 37;have hgB:=World.grownBy_alloc w (.cells ratZ.toArray 37) none;rw[hw1]at hrB hgB;unfold ratZ at hw1;have HRB:=zH hrB;have HGB:=zH hgB;clear hrB hgB;obtain⟨B,hB⟩:=zX w.heap.size;go_wp2_with fail;clear hw1;rw[hB]at HRB;have hBw:w.heap.size<=B:=zd;clear hB;refine (HRT.out _).mono ?_;rintro e w2 ⟨hg2,hp⟩;have HRB2:=zH (HRB.out.grown hg2 zi);have HG2:=zH (ya HGB.out hg2);have hBlt:B<w1.heap.size:=HRB.out.lt;have hBlt2:B<w2.heap.size:=HRB2.out.lt;obtain⟨D,hD⟩:=zX w2.heap.size;have hDw:w.heap.size<=D:=zd;have hBD:B≠D:=zd;clear hg2 HRB HGB HRT;have none_end:∀ (env:List (Nat×Value)) (w':World),zjy s=none->Row w' B ratZ->w.grownBy w' none->True:=fun _ _ _ _ _=>trivial
 clear none_end;cases hrd:ul s with
 | none=>
  rw[hrd]at hp;dsimp only at hp;have hno:zjy s=none:=by unfold zjy;rw[hrd]
  have HNO:=zH hno;subst hp;have hgD:=World.grownBy_alloc w2 (.cells textZ.toArray 62) none;have HRB3:=zH (HRB2.out.grown hgD zi);have HG3:=zH (ya HG2.out hgD);obtain⟨w3,hw3⟩:=zX (w2.alloc (.cells textZ.toArray 62));rw[hw3]at HRB3 HG3;have HW3:=zH hw3;unfold textZ at HW3 ⊢;clear hno hrd hw3 hgD;go_upto_region 2 with fail;rw[HW3.out];have k0:=HRB3.out.cell 0;have k1:=HRB3.out.cell 1;have k2:=HRB3.out.cell 2;have t0:=HRB3.out.frozen 0;have t1:=HRB3.out.frozen 1;have t2:=HRB3.out.frozen 2;unfold ratZ at k0 k1 k2;simp only[List.getElem?_cons_zero,List.getElem?_cons_succ]at k0 k1 k2;(go_wp2_with fail;repeat ((first|refine cZ ?_|refine cW ?_);go_wp2_with fail));obtain⟨ty,hrow⟩:=wp HRB3.out (.bool false) (.slice none 0 0) (.slice none 0 0);refine we (B:=B) (.agg ratZ.toArray) (.bool false) rfl ze ze zb zb ?_ (ku HNO.out (xk HG3.out hBw _ _ _));exact run_loadVar_row (P:=Tryz.prog) _ B ty 37 _ (0,0) _ hrow Tryz.underlying37 rfl zg
 | some r=>
  rw[hrd]at hp;dsimp only at hp;obtain⟨v,rfl,hv⟩:=hp;have hok:=ze9 hrd;have hrat:zjy s=if r.kind≠0 then none else if r.digits=[] then some (r.neg,0,1) else if zb8 r.base r.digits r.exp≠0 then none
   else some (r.neg,jy r.base r.digits*qk r.base^r.exp.toNat,qk r.base^(-r.exp).toNat):=by unfold zjy;rw[hrd]
  clear hrd;obtain⟨kind,neg,b,l,x⟩:=r;dsimp only at hv hok hrat ⊢;have hOR:=fun (hb:b=10\/b=16) (hx1:-2000000000000000<=x) (hx2:x<=2000000000000000) (hl:l.length<=4000000) W (h:RdI W v l)=>zg0 ⟨kind,neg,b,l,x⟩ v W hb h hl hx1 hx2
  have hRA:=fun (hb:b=10\/b=16) (hd:∀ d ∈ l,d<b) (hl:l.length<=1200000) (hx1:-5000000<=x) (hx2:x<=5000000) W (h:RdI W v l)=>zbp ⟨kind,neg,b,l,x⟩ v W hb h hd hl hx1 hx2
  unfold zp9 at hOR hRA;dsimp only at hOR hRA;obtain⟨a,c,rfl⟩:=hv.1.len;obtain⟨N,hN⟩:=zX l.length;rw[hN]at hv hOR hRA hok;simp only[hN];have hgD:=World.grownBy_alloc w2 (.cells #[.int .i64 kind,.bool neg,.int .i64 (b:Int),.slice a N c,.int .i64 x] 62) none;have HRB3:=zH (HRB2.out.grown hgD zi);have HG3:=zH (ya HG2.out hgD);have HV3:=zH (hv.1.grown hgD);have hrD:Row (w2.alloc (.cells #[.int .i64 kind,.bool neg,.int .i64 (b:Int),.slice a N c,.int .i64 x] 62)) D [.int .i64 kind,.bool neg,.int .i64 (b:Int),.slice a N c,.int .i64 x]:=by rw[<-hD];exact Row.new w2 _ _
  obtain⟨w3,hw3⟩:=zX (w2.alloc (.cells #[.int .i64 kind,.bool neg,.int .i64 (b:Int),.slice a N c,.int .i64 x] 62));rw[hw3]at HRB3 HG3 HV3 hrD;have HRD:=zH hrD;have HW3:=zH hw3;have HDD:=zH hD;have HRAT:=zH hrat;have HOK:=zH hok;have HN:=zH hN;have HOR:=zH hOR;have HRA:=zH hRA;clear hv hok hrat hN hOR hRA hw3 hgD hrD hD;go_upto_region 2 with fail;rw[HW3.out,HDD.out];have k0:=HRB3.out.cell 0;have k1:=HRB3.out.cell 1;have k2:=HRB3.out.cell 2;have t0:=HRB3.out.frozen 0;have t1:=HRB3.out.frozen 1;have t2:=HRB3.out.frozen 2;have m0:=HRD.out.cell 0;have m1:=HRD.out.cell 1;have m2:=HRD.out.cell 2;have m3:=HRD.out.cell 3;have m4:=HRD.out.cell 4;unfold ratZ at k0 k1 k2;simp only[List.getElem?_cons_zero,List.getElem?_cons_succ]at k0 k1 k2 m0 m1 m2 m3 m4;by_cases hk:kind=0
  case neg=>
   have hk':(kind != 0)=true:=by rw[bne_iff_ne];exact hk
   have hno:=HRAT.out;rw[if_pos hk]at hno;have HNO:=zH hno;clear hno;(go_wp2_with fail;repeat ((first|refine cZ ?_|refine cW ?_);go_wp2_with fail));obtain⟨ty,hrow⟩:=wp HRB3.out (.bool false) (.slice none 0 0) (.slice none 0 0);refine we (B:=B) (.agg ratZ.toArray) (.bool false) rfl ze ze zb zb ?_ (ku HNO.out (xk HG3.out hBw _ _ _));exact run_loadVar_row (P:=Tryz.prog) _ B ty 37 _ (0,0) _ hrow Tryz.underlying37 rfl zg
  subst hk;have hrat:=HRAT.out;rw[if_neg zi]at hrat;obtain⟨hb,hdb,hlb,hx1,hx2⟩:=HOK.out.2 rfl;have hN5:N<=1100000:=zd;by_cases hl0:l=[]
  ·rw[if_pos hl0]at hrat;have hN0:N=0:=by rw[<-HN.out,hl0];rfl
   subst hN0;have HRAT2:=zH hrat;have HNO:=zH (fun W=>ww 1 W zd);clear hrat hl0 hb hdb hlb;(go_wp2_with fail;repeat ((first|refine cZ ?_|refine cW ?_);go_wp2_with fail));refine wp_region_noPanic ?_;refine wp_region_held_drew (S:=fun W=>w.grownBy W none/\W.cell? ⟨D,1,none⟩=some (.bool neg)) zg ⟨ya HG3.out (yh w3 1 none),m1⟩ (fun hHeld=>?_);(refine yg 0 23 ?_);(refine xg 1 24 (oi:=?_) (v:=?_) ?_ ?_ zg zg zg (fun _ _ _ _ _ h=>h) ?_ zq ?_ ?_;rotate_left 2;(focus ((simp only[List.getElem?_toArray,List.getElem?_cons_succ,List.getElem?_cons_zero]);rfl));(focus rfl);(focus (first | rfl | (simp only[Region.wanted,yielded,List.getElem?_toArray,List.getElem?_cons_succ,List.getElem?_cons_zero,Option.bind_some,Option.map_some,Fr_get?,yc,yd];rfl) | go_simp));(focus (intro W hS;have hc:=hS.2;go_simp;try with_reducible rfl)));(refine zO 2 ?_;intro K hK;go_simp;(refine (HNO.out _).mono ?_;rintro e w9 ⟨v9,rfl,hn9,hg9⟩);go_wp2_with fail;replace hHeld:=And.intro (ya hHeld.1 hg9) (vl hg9 hHeld.2);refine hK.out _ _ hHeld ?_;clear hK K);have hrB9:=(HRB3.out.drew).grown hg9 zi;obtain⟨a9,c9,rfl⟩:=hn9.len;generalize (yf 1).length=L9 at *
   clear k0 k1 k2 t0 t1 t2 hg9;(refine yg 3 26 ?_);have k0:=hrB9.cell 0;have k1:=hrB9.cell 1;have k2:=hrB9.cell 2;have t0:=hrB9.frozen 0;have t1:=hrB9.frozen 1;have t2:=hrB9.frozen 2;unfold ratZ at k0 k1 k2;simp only[List.getElem?_cons_zero,List.getElem?_cons_succ]at k0 k1 k2;have hDB:D≠B:=fun e=>hBD e.symm
   (refine zO 4 ?_;intro K hK;go_simp;(skip);go_wp2_with fail;replace hHeld:=And.intro (xk hHeld.1 hBw (.bool neg) (.slice none 0 0) (.slice a9 L9 c9)) (zm1 hDB hHeld.2 (.bool neg) (.slice none 0 0) (.slice a9 L9 c9));refine hK.out _ _ hHeld ?_;clear hK K);(refine yg 5 3 ?_);refine wpAnyH_done zg ?_ _;refine NoPanic.normal ?_;have hn9':NatV w9 (.slice a9 L9 c9) 1:=hn9;have hz:NatV w9 (.slice none 0 0) 0:=by unfold NatV;rw[xm];exact Or.inl ⟨rfl,rfl⟩
   have HR9:=zH hrB9;have HN9:=zH (yz hrB9 hn9' neg (.slice none 0 0) (.slice a9 L9 c9));have HZ9:=zH (yz hrB9 hz neg (.slice none 0 0) (.slice a9 L9 c9));have HH:=zH hHeld.1;clear hrB9 hn9 hn9' hz hHeld k0 k1 k2 t0 t1 t2;(go_wp2_with fail;repeat ((first|refine cZ ?_|refine cW ?_);go_wp2_with fail));obtain⟨ty,hrow⟩:=wp HR9.out (.bool neg) (.slice none 0 0) (.slice a9 L9 c9);refine we (B:=B) (.agg #[.bool neg,.slice none 0 0,.slice a9 L9 c9]) (.bool true) rfl ze ze zb zb ?_ (zbq HRAT2.out HH.out ⟨_,_,rfl,HZ9.out,HN9.out⟩);exact run_loadVar_row (P:=Tryz.prog) _ B ty 37 _ (0,0) _ hrow Tryz.underlying37 rfl zg
  rw[if_neg hl0]at hrat;have hN0:N≠0:=by rw[<-HN.out];exact fun e=>hl0 (List.length_eq_zero_iff.1 e)
  have e1:((N:Int)==0)=false:=zf;have e2:(N==0)=false:=zf;have HO:=zH (HOR.out hb zd zd zd);have hRA2:zb8 b l x=0->_:=fun h=>HRA.out hb hdb zd (zg1 h (by rw[HN.out];exact hN5)).1 (zg1 h (by rw[HN.out];exact hN5)).2
  have HRA2:=zH hRA2;have HRAT2:=zH hrat;clear hRA2 hrat hl0 hb hdb HOR HRA HOK;(go_wp2_with fail;repeat ((first|refine cZ ?_|refine cW ?_);go_wp2_with fail));refine (HO.out _ HV3.out).mono ?_;rintro e w5 ⟨rfl,hg5⟩;have HRB5:=zH (HRB3.out.grown hg5 zi);have HRD5:=zH (HRD.out.grown hg5 zi);have HG5:=zH (ya HG3.out hg5);have HV5:=zH (HV3.out.grown hg5);clear hg5 k0 k1 k2 t0 t1 t2 m0 m1 m2 m3 m4;have m0:=HRD5.out.cell 0;have m1:=HRD5.out.cell 1;have m2:=HRD5.out.cell 2;have m3:=HRD5.out.cell 3;have m4:=HRD5.out.cell 4;simp only[List.getElem?_cons_zero,List.getElem?_cons_succ]at m0 m1 m2 m3 m4;by_cases ho:zb8 b l x=0
  case neg=>
   have hno:=HRAT2.out;rw[if_pos ho]at hno;have HNO:=zH hno;have ho':(zb8 b l x != 0)=true:=by rw[bne_iff_ne];exact ho
   have k0:=HRB5.out.cell 0;have k1:=HRB5.out.cell 1;have k2:=HRB5.out.cell 2;have t0:=HRB5.out.frozen 0;have t1:=HRB5.out.frozen 1;have t2:=HRB5.out.frozen 2;unfold ratZ at k0 k1 k2;simp only[List.getElem?_cons_zero,List.getElem?_cons_succ]at k0 k1 k2;clear hno ho;generalize zb8 b l x=o at *
   (go_wp2_with fail;repeat ((first|refine cZ ?_|refine cW ?_);go_wp2_with fail));obtain⟨ty,hrow⟩:=wp HRB5.out (.bool false) (.slice none 0 0) (.slice none 0 0);refine we (B:=B) (.agg ratZ.toArray) (.bool false) rfl ze ze zb zb ?_ (ku HNO.out (xk HG5.out hBw _ _ _));exact run_loadVar_row (P:=Tryz.prog) _ B ty 37 _ (0,0) _ hrow Tryz.underlying37 rfl zg
  have hyes:=HRAT2.out;rw[if_neg (fun h=>h ho)]at hyes;have HYES:=zH hyes;have HRL:=zH (HRA2.out ho w5 HV5.out);rw[ho];clear hyes ho HRA2 HRAT2;(go_wp2_with fail;repeat ((first|refine cZ ?_|refine cW ?_);go_wp2_with fail));refine HRL.out.mono ?_;rintro e w6 ⟨vr,rfl,⟨vn,vd,rfl,hvn,hvd⟩,hg6⟩;have HRB6:=zH (HRB5.out.grown hg6 zi);have HG6:=zH (ya HG5.out hg6);have HVN:=zH hvn;have HVD:=zH hvd;obtain⟨an,cn,rfl⟩:=hvn.len;obtain⟨ad,cd,rfl⟩:=hvd.len;generalize (yf (jy b l*qk b^x.toNat)).length=Ln at *
  generalize (yf (qk b^(-x).toNat)).length=Ld at *
  have k0:=HRB6.out.cell 0;have k1:=HRB6.out.cell 1;have k2:=HRB6.out.cell 2;have t0:=HRB6.out.frozen 0;have t1:=HRB6.out.frozen 1;have t2:=HRB6.out.frozen 2;unfold ratZ at k0 k1 k2;simp only[List.getElem?_cons_zero,List.getElem?_cons_succ]at k0 k1 k2;clear hvn hvd hg6;(go_wp2_with fail;repeat ((first|refine cZ ?_|refine cW ?_);go_wp2_with fail));obtain⟨ty,hrow⟩:=wp HRB6.out (.bool neg) (.slice an Ln cn) (.slice ad Ld cd);refine we (B:=B) (.agg #[.bool neg,.slice an Ln cn,.slice ad Ld cd]) (.bool true) rfl ze ze zb zb ?_ (zbq HYES.out (xk HG6.out hBw _ _ _) ⟨_,_,rfl,yz HRB6.out HVN.out _ _ _,yz HRB6.out HVD.out _ _ _⟩);exact run_loadVar_row (P:=Tryz.prog) _ B ty 37 _ (0,0) _ hrow Tryz.underlying37 rfl zg 
end
def xT (lt:UInt8):Option (UInt8×List UInt8)->List UInt8
 | none=>[]
 | some (sg,E)=>lt::sg::E
section
attribute [local go_sem] undef
theorem ybm (y k:Nat) (h:y<=2^k) (hk:k<=4499999):(yf y).length<=150000:=by
 obtain⟨K,hK⟩:=zX 150000;rw[hK];refine yv ?_;rw[js];exact Nat.lt_of_le_of_lt h (Nat.pow_lt_pow_right ze zd)
theorem zgg {b:Nat} (hb:b=10\/b=16) (l:List Nat) (h:∀ d ∈ l,d<b):jy b l<=2^(4*l.length):=by
 refine Nat.le_trans (Nat.le_of_lt (zmn b zd l h)) ?_;rw[Nat.pow_mul];exact Nat.pow_le_pow_left (by rcases hb with rfl | rfl <;> decide) _
theorem jf {b:Nat} (hb:b=10\/b=16) (n:Nat):qk b^n<=2^((if b=16 then 1 else 4)*n):=by
 rw[Nat.pow_mul];refine Nat.pow_le_pow_left ?_ _;rcases hb with rfl | rfl <;> decide
theorem zqz {b:Nat} (hb:b=10\/b=16) {l:List Nat} {x:Int} (h:zb8 b l x=0):((b=16->4*((l.length:Int)-1)+x<=1600/\-1600<=4*((l.length:Int)-1)+x)/\(b=10->(l.length:Int)-1+x<=400/\-400<=(l.length:Int)-1+x))/\1<=l.length:=by
 unfold zb8 at h;have hl:¬l=[]:=fun e=>by rw[if_pos e]at h;cases h
 rw[if_neg hl]at h;have h1:1<=l.length:=by
  cases l with
  | nil=>exact absurd rfl hl
  | cons a r=>simp
 refine⟨⟨fun e=>?_,fun e=>?_⟩,h1⟩
 ·rw[if_pos e]at h;split at h
  ·cases h
  ·split at h
   ·cases h
   ·omega
 ·rw[if_neg zd]at h;split at h
  ·cases h
  ·split at h
   ·cases h
   ·omega
theorem zjx {b:Nat} (hb:b=10\/b=16) {l:List Nat} {x:Int} (h:zb8 b l x=0) (hd:∀ d ∈ l,d<b) (hl:l.length<=1100000):
  (yf (jy b l*qk b^x.toNat)).length<=150000/\(yf (qk b^(-x).toNat)).length<=150000/\-5000000<=x/\x<=5000000:=by
 obtain⟨⟨o1,o2⟩,h1⟩:=zqz hb h;rcases hb with rfl | rfl
 ·have:=o2 rfl;refine⟨ybm _ (4*l.length+4*x.toNat) ?_ zd,ybm _ (4*(-x).toNat) (jf (Or.inl rfl) _) zd,zd,zd⟩;rw[Nat.pow_add];exact Nat.mul_le_mul (zgg (Or.inl rfl) l hd) (jf (Or.inl rfl) _)
 ·have:=o1 rfl;refine⟨ybm _ (4*l.length+1*x.toNat) ?_ zd,ybm _ (1*(-x).toNat) (jf (Or.inr rfl) _) zd,zd,zd⟩;rw[Nat.pow_add];exact Nat.mul_le_mul (zgg (Or.inr rfl) l hd) (jf (Or.inr rfl) _)
def spG (inf:Nat) (nb:Nat->Nat->Nat) (r:Txt):Nat:=
 if zb8 r.base r.digits r.exp=-1 then 0 else if zb8 r.base r.digits r.exp=1 then inf else nb (jy r.base r.digits*qk r.base^r.exp.toNat) (qk r.base^(-r.exp).toNat)
theorem zlj (b:Nat) (l:List Nat) (x:Int):zb8 b l x=-1\/zb8 b l x=1\/zb8 b l x=0:=by
 unfold zb8;split
 ·exact Or.inl rfl
 ·split
  ·split
   ·exact Or.inr (Or.inl rfl)
   ·split
    ·exact Or.inl rfl
    ·exact Or.inr (Or.inr rfl)
  ·split
   ·exact Or.inr (Or.inl rfl)
   ·split
    ·exact Or.inl rfl
    ·exact Or.inr (Or.inr rfl)
set_option maxRecDepth 100000 in
theorem zg6 (size:Int) (inf sg:Nat) (nb:Nat->Nat->Nat) (r:Txt) (v:Value) (w:World) (hinf:inf≠0) (hsg:inf+sg<18446744073709551616)
  (hb:r.base=10\/r.base=16) (hr:RdI w v r.digits) (hd:∀ d ∈ r.digits,d<r.base) (hl:r.digits.length<=1100000) (hx1:-2000000000000000<=r.exp) (hx2:r.exp<=2000000000000000)
  (hI:∀ W,Calls Tryz.prog 37 #[.int .i64 size] W fun e w'=>e=.returned (.int .u64 (inf:Int))/\W=w')
  (hS:∀ W,Calls Tryz.prog 36 #[.int .i64 size] W fun e w'=>e=.returned (.int .u64 (sg:Int))/\W=w')
  (hN:∀ (neg:Bool) (vn vd:Value) (a b:Nat) (W:World),NatV W vn a->NatV W vd b->b≠0->(yf a).length<=150000->(yf b).length<=150000 ->
   Calls Tryz.prog 62 #[.agg #[.bool neg,vn,vd],.int .i64 size] W fun e w'=>e=.returned (.tuple #[.int .u64 ((nb a b+if neg then sg else 0:Nat):Int),.bool (nb a b==inf)])/\W.grownBy w' none):
  Calls Tryz.prog 46 #[zp9 r v,.int .i64 size] w fun e w'=>e=.returned (.tuple #[.int .u64 ((spG inf nb r+if r.neg then sg else 0:Nat):Int),.bool (spG inf nb r==inf)])/\w.grownBy w' none:=by
 have hOR:=fun W (h:RdI W v r.digits)=>zg0 r v W hb h zd hx1 hx2
 have hRA:=fun (h1:-5000000<=r.exp) (h2:r.exp<=5000000) W (h:RdI W v r.digits)=>zbp r v W hb h hd zd h1 h2
 have hlen:=fun (h:zb8 r.base r.digits r.exp=0)=>zjx hb h hd hl
 have hpos:qk r.base^(-r.exp).toNat≠0:=by
  have:0<qk r.base^(-r.exp).toNat:=Nat.pow_pos (by rcases hb with h | h <;> rw[h] <;> decide);omega
 have hsp:spG inf nb r=if zb8 r.base r.digits r.exp=-1 then 0 else if zb8 r.base r.digits r.exp=1 then inf else nb (jy r.base r.digits*qk r.base^r.exp.toNat) (qk r.base^(-r.exp).toNat):=rfl
 have ho3:=zlj r.base r.digits r.exp;obtain⟨sp,hspv⟩:=zX (spG inf nb r);rw[hspv]at hsp ⊢;clear hspv hd hl hx1 hx2;obtain⟨kind,neg,b,l,x⟩:=r;dsimp only at hr hOR hRA hlen hpos hsp ho3 ⊢;unfold zp9 at hOR hRA ⊢;dsimp only at hOR hRA ⊢;generalize zb8 b l x=o at *
 generalize jy b l*qk b^x.toNat=A at *
 generalize qk b^(-x).toNat=D at *
 obtain⟨a,c,rfl⟩:=hr.len;have HR:=zH hr;obtain⟨N,hN2⟩:=zX l.length;simp only[hN2]at hOR hRA HR ⊢;have HOR:=zH hOR;have HRA:=zH hRA;have HNE:=zH hN;have HI:=zH hI;have HS:=zH hS;have HLN:=zH hlen;obtain⟨w1,hw1⟩:=zX (w.alloc (.cells #[.int .i64 kind,.bool neg,.int .i64 (b:Int),.slice a N c,.int .i64 x] 62));obtain⟨B,hB⟩:=zX w.heap.size;have hrT:Row w1 B [.int .i64 kind,.bool neg,.int .i64 (b:Int),.slice a N c,.int .i64 x]:=by rw[<-hw1,<-hB];exact Row.new w _ _
 have hg1:w.grownBy w1 none:=by rw[<-hw1];exact World.grownBy_alloc w _ none
 have HR1:=zH (HR.out.grown hg1);have HG1:=zH hg1;obtain⟨S,hSv,hSl⟩:∃ S:Nat,(if neg=true then sg else 0)=S/\S<=sg:=by
  cases neg
  ·exact⟨0,rfl,zd⟩
  ·exact⟨sg,rfl,zd⟩
 rw[hSv];have HSV:=zH hSv;have m0:=hrT.cell 0;have m1:=hrT.cell 1;have m2:=hrT.cell 2;have m3:=hrT.cell 3;have m4:=hrT.cell 4;simp only[List.getElem?_cons_zero,List.getElem?_cons_succ]at m0 m1 m2 m3 m4;clear hr hOR hRA hlen hN hI hS hrT hg1 HR hN2 hSv;refine ye Tryz.func46 rfl (by rw[Tryz.ntmps46];simp) ?_;intro σ hσ;rw[Tryz.ntmps46];have s0:σ 0=.agg #[.int .i64 kind,.bool neg,.int .i64 (b:Int),.slice a N c,.int .i64 x]:=hσ 0 zi;have s1:σ 1=.int .i64 size:=hσ 1 zi;clear hσ;go_wp2_with fail;clear hw1 hB;refine yr (fun s' w'=>s' 1=.int .i64 size/\s' 2=.pointer (some ⟨B,0,none⟩)/\s' 6=.int .u64 (S:Int)/\w1=w') ?_ ?_
 ·intro R' K' HRr hK';cases neg
  ·have e:S=0:=by rw[<-HSV.out];rfl
   subst e;(go_wp2_with fail;repeat ((first|refine cZ ?_|refine cW ?_);go_wp2_with fail));exact got HRr ⟨zb,zb,zj,rfl⟩
  ·have e:S=sg:=by rw[<-HSV.out];rfl
   subst e;(go_wp2_with fail;repeat ((first|refine cZ ?_|refine cW ?_);go_wp2_with fail));refine (HS.out _).mono ?_;rintro e w7 ⟨rfl,rfl⟩;(go_wp2_with fail;repeat ((first|refine cZ ?_|refine cW ?_);go_wp2_with fail));exact got HRr ⟨zb,zb,zj,rfl⟩
 clear s0 s1 σ HS;rintro σ w' ⟨s1,s2,s6,rfl⟩;(go_wp2_with fail;repeat ((first|refine cZ ?_|refine cW ?_);go_wp2_with fail));refine (HOR.out _ HR1.out).mono ?_;rintro e w2 ⟨rfl,hg2⟩;have HG2:=zH (ya HG1.out hg2);have HR2:=zH (HR1.out.grown hg2);have n0:=hg2.cell m0 zi;have n1:=hg2.cell m1 zi;have n2:=hg2.cell m2 zi;have n3:=hg2.cell m3 zi;have n4:=hg2.cell m4 zi;clear hg2 m0 m1 m2 m3 m4 HR1 HG1 HOR;rcases ho3 with rfl | rfl | rfl
 ·rw[if_pos rfl]at hsp;subst hsp;have e1:((0:Nat)==inf)=false:=by rw[beq_eq_false_iff_ne];exact fun e=>hinf e.symm
  have E1:=zH e1;clear e1;(go_wp2_with fail;repeat ((first|refine cZ ?_|refine cW ?_);go_wp2_with fail));exact xc (.int .u64 (S:Int)) (.bool false) rfl ze ze zb zb ⟨by rw[E1.out,Nat.zero_add],HG2.out⟩
 ·rw[if_neg ze,if_pos rfl]at hsp;subst hsp;have E1:=zH (show (sp==sp)=true by simp);have hwr:IntKind.u64.wrap ((S:Int)+(sp:Int))=((sp+S:Nat):Int):=by
   rw[show (S:Int)+(sp:Int)=((sp+S:Nat):Int) by omega];exact zku _ zd
  (go_wp2_with fail;repeat ((first|refine cZ ?_|refine cW ?_);go_wp2_with fail));refine (HI.out _).mono ?_;rintro e w7 ⟨rfl,rfl⟩;(go_wp2_with fail;repeat ((first|refine cZ ?_|refine cW ?_);go_wp2_with fail));exact xc (.int .u64 ((sp+S:Nat):Int)) (.bool true) rfl ze ze zb zb ⟨by rw[E1.out],HG2.out⟩
 ·rw[if_neg ze,if_neg ze]at hsp;obtain⟨l1,l2,x1,x2⟩:=HLN.out rfl;(go_wp2_with fail;repeat ((first|refine cZ ?_|refine cW ?_);go_wp2_with fail));refine (HRA.out x1 x2 _ HR2.out).mono ?_;rintro e w3 ⟨vr,rfl,⟨vn,vd,rfl,hvn,hvd⟩,hg3⟩;have HC:=zH (HNE.out neg vn vd A D w3 hvn hvd hpos l1 l2);rw[<-hsp,HSV.out]at HC;have HG3:=zH (ya HG2.out hg3);clear hg3 hvn hvd HNE HRA;(go_wp2_with fail;repeat ((first|refine cZ ?_|refine cW ?_);go_wp2_with fail));refine HC.out.mono ?_;rintro e w4 ⟨rfl,hg4⟩;have HG4:=zH (ya HG3.out hg4);generalize hq:(sp==inf)=q;generalize hy:sp+S=y;have HQ:=zH hq;have HY:=zH hy;clear hg4 hsp hq hy;(go_wp2_with fail;repeat ((first|refine cZ ?_|refine cW ?_);go_wp2_with fail));exact xc (.int .u64 (y:Int)) (.bool q) rfl ze ze zb zb ⟨by rw[HQ.out,HY.out],HG4.out⟩
theorem zd0 (r:Txt) (v:Value) (w:World) (hb:r.base=10\/r.base=16) (hr:RdI w v r.digits) (hd:∀ d ∈ r.digits,d<r.base) (hl:r.digits.length<=1100000) (hx1:-2000000000000000<=r.exp) (hx2:r.exp<=2000000000000000):
  Calls Tryz.prog 46 #[zp9 r v,.int .i64 64] w fun e w'=>e=.returned (.tuple #[.int .u64 ((spG 9218868437227405312 xd r+if r.neg then 9223372036854775808 else 0:Nat):Int),.bool (spG 9218868437227405312 xd r==9218868437227405312)])/\w.grownBy w' none:=
 zg6 64 9218868437227405312 9223372036854775808 xd r v w ze ze hb hr hd hl hx1 hx2 wy wm (fun neg vn vd a b W h1 h2 h3 h4 h5=>zah neg vn vd a b W h1 h2 h3 h4 h5)
theorem zyb (r:Txt) (v:Value) (w:World) (hb:r.base=10\/r.base=16) (hr:RdI w v r.digits) (hd:∀ d ∈ r.digits,d<r.base) (hl:r.digits.length<=1100000) (hx1:-2000000000000000<=r.exp) (hx2:r.exp<=2000000000000000):
  Calls Tryz.prog 46 #[zp9 r v,.int .i64 32] w fun e w'=>e=.returned (.tuple #[.int .u64 ((spG 2139095040 zxq r+if r.neg then 2147483648 else 0:Nat):Int),.bool (spG 2139095040 zxq r==2139095040)])/\w.grownBy w' none:=
 zg6 32 2139095040 2147483648 zxq r v w ze ze hb hr hd hl hx1 hx2 zdg ur (fun neg vn vd a b W h1 h2 h3 h4 h5=>zxz neg vn vd a b W h1 h2 h3 h4 h5)
end
theorem yal (m:Nat) (e:Int) (hm:m<2^53) (h1:-1074<=e) (h2:e<=971):(yf (vN m e)).length<=100/\(yf (vD e)).length<=100:=by
 obtain⟨K,hK⟩:∃ K,K=100:=⟨_,rfl⟩;rw[<-hK];constructor
 ·refine yv ?_;unfold vN;refine Nat.lt_of_lt_of_le (Nat.mul_lt_mul_of_pos_right hm (Nat.two_pow_pos _)) ?_;rw[<-Nat.pow_add,js];exact Nat.pow_le_pow_right zd zd
 ·refine yv ?_;unfold vD;rw[js];exact Nat.pow_lt_pow_right zd zd
theorem zlo (s:Nat) (E:Int) (a b:Nat) (hb:b≠0) (hab:a*vD E=vN s E*b) (h1:4503599627370496<=s) (h2:s<9007199254740992) (hE1:-1074<=E) (hE2:E<=971):
  xh 52 1023 9218868437227405312 a b=(E+1074).toNat*4503599627370496+s:=by
 have hs0:s≠0:=zd;have hvn:=yam E hs0;have hvd:=zjf E;have ha:a≠0:=by
  intro h0;rw[h0,Nat.zero_mul]at hab;exact absurd hab.symm (Nat.mul_ne_zero hvn hb)
 have ho:uo a b=E+52:=by
  refine zfa ha hb ((zan zd hvd hab _).2 ?_) (fun hh=>?_)
  ·rw[ws (j:=-E) (n:=52) zd,Int.neg_neg];unfold vN vD;rw[Nat.mul_assoc s,Nat.mul_comm (2^(-E).toNat) (2^E.toNat)];exact Nat.mul_le_mul_right _ h1
  ·have:=(zan zd hvd hab _).1 hh;rw[ws (j:=-E) (n:=53) zd,Int.neg_neg]at this;unfold vN vD at this;rw[Nat.mul_assoc s,Nat.mul_comm (2^(-E).toNat) (2^E.toNat)]at this;have h3:=Nat.le_of_mul_le_mul_right this (Nat.mul_pos (p2 _) (p2 _));omega
 have hne:yt 52 1023 a b=E:=by
  unfold yt;rw[if_neg ha,ho];omega
 have hrb:rB a b E=s:=by
  unfold rB;have:vi (a*2^(-E).toNat) (b*2^E.toNat)=vi (s*1) 1:=by
   refine vm (Nat.mul_pos zd (p2 _)) zd ?_;rw[Nat.mul_one,Nat.mul_one];unfold vN vD at hab;rw[hab];ac_rfl
  rw[this];exact zad s 1 zd
 unfold xh;rw[hne,if_pos zd,hrb];congr 2
theorem zrj (s:Nat) (E:Int) (g:Nat) (h1:4503599627370496<=s) (h2:s<9007199254740992) (hE1:-1074<=E) (hE2:E<=971) (hg:g=0\/g=9223372036854775808):
  m64 ((E+1074).toNat*4503599627370496+s+g)=s/\e64 ((E+1074).toNat*4503599627370496+s+g)=E/\((E+1074).toNat*4503599627370496+s+g)%9223372036854775808<9218868437227405312/\(E+1074).toNat*4503599627370496+s+g<18446744073709551616/\decide (9223372036854775808<=(E+1074).toNat*4503599627370496+s+g)=decide (g=9223372036854775808):=by
 obtain⟨q,hq⟩:=zX ((E+1074).toNat);rw[hq];have hq2:q<=2045:=zd;have f1:flE 11 52 (q*4503599627370496+s+g)=q+1:=by unfold flE;omega
 have f2:flF 52 (q*4503599627370496+s+g)=s-4503599627370496:=by unfold flF;omega
 refine⟨?_,?_,zd,zd,?_⟩
 ·unfold m64 zen;rw[f1,if_neg zd,f2];omega
 ·unfold e64 zor;rw[f1,if_neg zd];omega
 ·rw[decide_eq_decide];omega
theorem zgd (m:Nat) (e:Int) (g:Nat) (hm:m<16777216) (he1:-149<=e) (he2:e<=104) (hg:g=0\/g=9223372036854775808):
  ∃ N,xh 52 1023 9218868437227405312 (vN m e) (vD e)+g=N/\N<18446744073709551616/\N%9223372036854775808<9218868437227405312/\decide (9223372036854775808<=N)=decide (g=9223372036854775808)/\vN m e*vD (e64 N)=vN (m64 N) (e64 N)*vD e:=by
 by_cases h0:m=0
 ·subst h0;have hV:vN 0 e=0:=by unfold vN;rw[Nat.zero_mul]
  have hn:xh 52 1023 9218868437227405312 (vN 0 e) (vD e)=0:=by
   rw[hV];unfold xh yt;rw[if_pos rfl,if_pos zd];unfold rB;rw[Nat.zero_mul];have:=zad 0 (vD e*2^((1:Int)-1023-52).toNat) (Nat.mul_pos (zjf e) (p2 _));rw[Nat.zero_mul]at this;rw[this];rfl
  rw[hn,hV];refine⟨g,zd,zd,zd,by rw[decide_eq_decide];omega,?_⟩;have:m64 g=0:=by
   rcases hg with rfl | rfl
   ·rfl
   ·unfold m64 zen flE flF;decide
  rw[this];unfold vN;rw[Nat.zero_mul,Nat.zero_mul,Nat.zero_mul]
 ·obtain⟨k,hk⟩:=zX m.log2;have hlo:2^k<=m:=by rw[<-hk];exact Nat.log2_self_le h0
  have hhi:m<2^(k+1):=by rw[<-hk];exact Nat.lt_log2_self
  have hk24:k<24:=(Nat.pow_lt_pow_iff_right (by omega:1<2)).1 (Nat.lt_of_le_of_lt hlo hm);have hs1:4503599627370496<=m*2^(52-k):=by
   have:=Nat.mul_le_mul_right (2^(52-k)) hlo;rw[<-Nat.pow_add,show k+(52-k)=52 by omega]at this;exact this
  have hs2:m*2^(52-k)<9007199254740992:=by
   have:=Nat.mul_lt_mul_of_pos_right hhi (p2 (52-k));rw[<-Nat.pow_add,show k+1+(52-k)=53 by omega]at this;exact this
  have hsh:=zs6 m (52-k) e;have hne:=zlo (m*2^(52-k)) (e-(52-k:Nat)) (vN m e) (vD e) (Nat.ne_of_gt (zjf e)) hsh.symm hs1 hs2 zd zd;obtain⟨f1,f2,f3,f4,f5⟩:=zrj (m*2^(52-k)) (e-(52-k:Nat)) g hs1 hs2 zd zd hg;refine⟨_,rfl,?_⟩;rw[hne];refine⟨f4,f3,f5,?_⟩;rw[f1,f2];exact hsh.symm
section
attribute [local go_sem] undef
def zma (n:Nat):Nat:=xd (vN (m32 n) (e32 n)) (vD (e32 n))+if 2147483648<=n then 9223372036854775808 else 0
theorem zxi (n:Nat) (hn:n<4294967296) (hfin:n%2147483648<2139095040):
  zma n<18446744073709551616/\zma n%9223372036854775808<9218868437227405312/\decide (9223372036854775808<=zma n)=decide (2147483648<=n)/\vN (m32 n) (e32 n)*vD (e64 (zma n))=vN (m64 (zma n)) (e64 (zma n))*vD (e32 n):=by
 have hx:=zsr n hfin;have hm:=zsl n;obtain⟨g,hg,hgn⟩:∃ g:Nat,(g=0\/g=9223372036854775808)/\g=if 2147483648<=n then 9223372036854775808 else 0:=by
  by_cases h:2147483648<=n
  ·exact⟨_,Or.inr rfl,by rw[if_pos h]⟩
  ·exact⟨_,Or.inl rfl,by rw[if_neg h]⟩
 obtain⟨N,hN,h1,h2,h3,h4⟩:=zgd (m32 n) (e32 n) g hm zd zd hg;have hw:zma n=N:=by unfold zma;rw[<-hgn];exact hN
 rw[hw];refine⟨h1,h2,?_,h4⟩;rw[h3,decide_eq_decide,hgn];constructor
 ·intro h;split at h
  ·assumption
  ·omega
 ·intro h;rw[if_pos h]
set_option maxRecDepth 100000 in
theorem zkw (n:Nat) (hn:n<4294967296) (hfin:n%2147483648<2139095040) (w:World):
  Calls Tryz.prog 47 #[.int .u32 (n:Int)] w fun e w'=>e=.returned (.int .u64 ((zma n:Nat):Int))/\w.grownBy w' none:=by
 have hx:=zsr n hfin;have hm:=zsl n;obtain⟨g,hg,hgn⟩:∃ g:Nat,(g=0\/g=9223372036854775808)/\g=if 2147483648<=n then 9223372036854775808 else 0:=by
  by_cases h:2147483648<=n
  ·exact⟨_,Or.inr rfl,by rw[if_pos h]⟩
  ·exact⟨_,Or.inl rfl,by rw[if_neg h]⟩
 obtain⟨N,hN,h1,h2,h3,h4⟩:=zgd (m32 n) (e32 n) g hm zd zd hg;have hw:zma n=N:=by unfold zma;rw[<-hgn];exact hN
 rw[hw];clear hw;have hk:kn 2139095040 2147483648 n=0:=zis rfl hfin;have hK:=fun W=>za8 n W hn
 rw[hk]at hK;have HK:=zH hK;have HI:=zH (fun W=>jw n W hn);have HS:=zH wm;have HV:=zH (fun W=>zev n (m32 n) (e32 n) W hn hk (zv8 n) (zwp n));obtain⟨v1,v2⟩:=yal (m32 n) (e32 n) (Nat.lt_of_lt_of_le hm ze) zd zd;have HNE:=zH (fun vn vd W (h1:NatV W vn (vN (m32 n) (e32 n))) (h2:NatV W vd (vD (e32 n)))=>zah false vn vd _ _ W h1 h2 (Nat.ne_of_gt (zjf _)) zd zd);have HNN:=zH (show xd (vN (m32 n) (e32 n)) (vD (e32 n))+g=N from hN);have HGN:=zH hgn;obtain⟨M,hM⟩:=zX (xd (vN (m32 n) (e32 n)) (vD (e32 n)));simp only[hM]at HNE HNN;have hM2:M<18446744073709551616:=by have:=HNN.out;omega
 have HV':=zH (show ∀ W,Calls Tryz.prog 61 #[.int .i64 32,.int .u64 (n:Int)] W fun x w'=>∃ vn vd,x=.returned (.tuple #[.agg #[.bool (decide (2147483648<=n)),vn,vd],.bool true])/\NatV w' vn (vN (m32 n) (e32 n))/\NatV w' vd (vD (e32 n))/\W.grownBy w' none from HV.out);generalize vN (m32 n) (e32 n)=a at *
 generalize vD (e32 n)=b at *
 have hN64:=h1;clear HV hM hN hK hk h1 h2 h3 h4 hgn v1 v2;refine ye Tryz.func47 rfl (by rw[Tryz.ntmps47];simp) ?_;intro σ hσ;rw[Tryz.ntmps47];have s0:σ 0=.int .u32 (n:Int):=hσ 0 zi;clear hσ;(go_wp2_with fail;repeat ((first|refine cZ ?_|refine cW ?_);go_wp2_with fail));refine (HI.out _).mono ?_;rintro e w7 ⟨rfl,rfl⟩;go_wp2_with fail;refine yr (fun s' w'=>s' 0=.int .u32 (n:Int)/\s' 3=.int .u64 (g:Int)/\w=w') ?_ ?_
 ·intro R' K' HR hK';by_cases hs:2147483648<=n
  ·have e:g=9223372036854775808:=by rw[HGN.out,if_pos hs]
   subst e;have f1:decide (2147483648<=n)=true:=by simpa using hs
   clear hs;(go_wp2_with fail;repeat ((first|refine cZ ?_|refine cW ?_);go_wp2_with fail));refine (HS.out _).mono ?_;rintro e w7 ⟨rfl,rfl⟩;(go_wp2_with fail;repeat ((first|refine cZ ?_|refine cW ?_);go_wp2_with fail));exact got HR ⟨zb,zj,rfl⟩
  ·have e:g=0:=by rw[HGN.out,if_neg hs]
   subst e;have f1:decide (2147483648<=n)=false:=by simpa using hs
   clear hs;(go_wp2_with fail;repeat ((first|refine cZ ?_|refine cW ?_);go_wp2_with fail));exact got HR ⟨zb,zj,rfl⟩
 clear s0 σ HI HS;rintro σ w' ⟨s0,s3,rfl⟩;(go_wp2_with fail;repeat ((first|refine cZ ?_|refine cW ?_);go_wp2_with fail));refine (HK.out _).mono ?_;rintro e w7 ⟨rfl,rfl⟩;(go_wp2_with fail;repeat ((first|refine cZ ?_|refine cW ?_);go_wp2_with fail));refine (HV'.out _).mono ?_;rintro e w2 ⟨vn,vd,rfl,hvn,hvd,hg2⟩;generalize decide (2147483648<=n)=neg at *
 obtain⟨an,cn,rfl⟩:=hvn.len;obtain⟨ad,cd,rfl⟩:=hvd.len;generalize (yf a).length=LN at *
 generalize (yf b).length=LD at *
 obtain⟨w3,hw3⟩:∃ w',World.alloc w2 (.cells #[.bool neg,.slice an LN cn,.slice ad LD cd] 37)=w':=⟨_,rfl⟩;obtain⟨B,hB⟩:=zX ((World.heap w2).size);have hib:=InBlk.new w2 neg (.slice an LN cn) (.slice ad LD cd) 37;rw[hw3,hB]at hib;have HIB:=zH hib;have HVN:=zH (hvn.grown hib.grown);have HVD:=zH (hvd.grown hib.grown);have HG3:=zH (ya hg2 hib.grown);have HW3:=zH hw3;have HB:=zH hB;have HSZ:=zH hg2.size;clear hvn hvd hg2 hib hw3 hB;go_upto_region 10 with fail;rw[HW3.out,HB.out];clear HW3;have c0:=HIB.out.row.cell 0;have c1:=HIB.out.row.cell 1;have c2:=HIB.out.row.cell 2;have t0:=HIB.out.row.frozen 0;simp only[List.getElem?_cons_zero,List.getElem?_cons_succ]at c0 c1 c2;go_upto_region 11 with fail;obtain⟨w4,hw4⟩:=zX (w3.setCell ⟨B,0,none⟩ (.bool false));have hr4:=HIB.out.row.setCell 0 (.bool false);simp only[List.set_cons_zero]at hr4;have hn4:=NatV.setB (u:=.bool false) (k:=0) HVN.out c0;have hd4:=NatV.setB (u:=.bool false) (k:=0) HVD.out c0;have hg4:=yb HG3.out (a:=⟨B,0,none⟩) (.bool false) (by show w.heap.size<=B;have:=HB.out;have:=HSZ.out;omega);rw[hw4]at hr4 hn4 hd4 hg4;rw[hw4];have HN4:=zH hn4;have HD4:=zH hd4;have HG4:=zH hg4;clear c0 c1 c2 t0 hn4 hd4 hg4 hw4;have c0:=hr4.cell 0;have c1:=hr4.cell 1;have c2:=hr4.cell 2;simp only[List.getElem?_cons_zero,List.getElem?_cons_succ]at c0 c1 c2;clear hr4;(go_wp2_with fail;repeat ((first|refine cZ ?_|refine cW ?_);go_wp2_with fail));refine (HNE.out _ _ _ HN4.out HD4.out).mono ?_;rintro e w5 ⟨rfl,hg5⟩;have HG5:=zH (ya HG4.out hg5);clear hg5 c0 c1 c2;simp only[Bool.false_eq_true,if_false,Nat.add_zero];have hwr:IntKind.u64.wrap (N:Int)=(N:Int):=zku N hN64;have hsum2:(g:Int)+(M:Int)=(N:Int):=by have:=HNN.out;omega
 (go_wp2_with fail;repeat ((first|refine cZ ?_|refine cW ?_);go_wp2_with fail));exact yl (.int .u64 (N:Int)) rfl ze zb ⟨rfl,HG5.out⟩
end
section
attribute [local go_sem] undef
def sgW (n:Nat):Nat:=if 2147483648<=n then 9223372036854775808 else 0
def zs5 (n:Nat):Nat:=if n%2147483648=2139095040 then 9218868437227405312 else 9223372036854775807
def zyo (n:Nat):Nat:=if n%2147483648<2139095040 then zma n else sgW n+zs5 n
set_option maxRecDepth 100000 in
theorem zkv (n:Nat) (hn:n<4294967296) (hfin:¬n%2147483648<2139095040) (w:World):
  Calls Tryz.prog 47 #[.int .u32 (n:Int)] w fun e w'=>e=.returned (.int .u64 ((sgW n+zs5 n:Nat):Int))/\w=w':=by
 obtain⟨g,hg,hgn⟩:∃ g:Nat,(g=0\/g=9223372036854775808)/\sgW n=g:=by
  by_cases h:2147483648<=n
  ·exact⟨_,Or.inr rfl,by unfold sgW;rw[if_pos h]⟩
  ·exact⟨_,Or.inl rfl,by unfold sgW;rw[if_neg h]⟩
 rw[hgn];have hK:=fun W=>za8 n W hn
 obtain⟨kd,hkd,hkk⟩:∃ kd:Int,kn 2139095040 2147483648 n=kd/\((kd=1/\zs5 n=9218868437227405312)\/(kd=2/\zs5 n=9223372036854775807)):=by
  by_cases h:n%2147483648=2139095040
  ·exact⟨1,zir rfl h,Or.inl ⟨rfl,by unfold zs5;rw[if_pos h]⟩⟩
  ·exact⟨2,zde rfl zd,Or.inr ⟨rfl,by unfold zs5;rw[if_neg h]⟩⟩
 rw[hkd]at hK;obtain⟨q,hq⟩:=zX (zs5 n);rw[hq]at hkk ⊢;have HK:=zH hK;have HI:=zH (fun W=>jw n W hn);have HS:=zH wm;have HF:=zH wy;have HGN:=zH hgn;clear hK hgn hkd hq hfin;refine ye Tryz.func47 rfl (by rw[Tryz.ntmps47];simp) ?_;intro σ hσ;rw[Tryz.ntmps47];have s0:σ 0=.int .u32 (n:Int):=hσ 0 zi;clear hσ;(go_wp2_with fail;repeat ((first|refine cZ ?_|refine cW ?_);go_wp2_with fail));refine (HI.out _).mono ?_;rintro e w7 ⟨rfl,rfl⟩;go_wp2_with fail;refine yr (fun s' w'=>s' 0=.int .u32 (n:Int)/\s' 3=.int .u64 (g:Int)/\w=w') ?_ ?_
 ·intro R' K' HR hK';by_cases hs:2147483648<=n
  ·have e:g=9223372036854775808:=by rw[<-HGN.out];unfold sgW;rw[if_pos hs]
   subst e;have f1:decide (2147483648<=n)=true:=by simpa using hs
   clear hs;(go_wp2_with fail;repeat ((first|refine cZ ?_|refine cW ?_);go_wp2_with fail));refine (HS.out _).mono ?_;rintro e w7 ⟨rfl,rfl⟩;(go_wp2_with fail;repeat ((first|refine cZ ?_|refine cW ?_);go_wp2_with fail));exact got HR ⟨zb,zj,rfl⟩
  ·have e:g=0:=by rw[<-HGN.out];unfold sgW;rw[if_neg hs]
   subst e;have f1:decide (2147483648<=n)=false:=by simpa using hs
   clear hs;(go_wp2_with fail;repeat ((first|refine cZ ?_|refine cW ?_);go_wp2_with fail));exact got HR ⟨zb,zj,rfl⟩
 clear s0 σ HI HGN;rintro σ w' ⟨s0,s3,rfl⟩;rcases hkk with⟨rfl,rfl⟩ | ⟨rfl,rfl⟩
 ·(go_wp2_with fail;repeat ((first|refine cZ ?_|refine cW ?_);go_wp2_with fail));refine (HK.out _).mono ?_;rintro e w7 ⟨rfl,rfl⟩;(go_wp2_with fail;repeat ((first|refine cZ ?_|refine cW ?_);go_wp2_with fail));refine (HF.out _).mono ?_;rintro e w7 ⟨rfl,rfl⟩;have hwr:IntKind.u64.wrap ((g:Int)+9218868437227405312)=((g+9218868437227405312:Nat):Int):=by rcases hg with rfl | rfl <;> decide
  (go_wp2_with fail;repeat ((first|refine cZ ?_|refine cW ?_);go_wp2_with fail));exact yl (.int .u64 ((g+9218868437227405312:Nat):Int)) rfl ze zb ⟨rfl,rfl⟩
 ·(go_wp2_with fail;repeat ((first|refine cZ ?_|refine cW ?_);go_wp2_with fail));refine (HK.out _).mono ?_;rintro e w7 ⟨rfl,rfl⟩;(go_wp2_with fail;repeat ((first|refine cZ ?_|refine cW ?_);go_wp2_with fail));refine (HS.out _).mono ?_;rintro e w7 ⟨rfl,rfl⟩;obtain⟨y,hy,hy2⟩:∃ y,IntKind.u64.wrap ((g:Int)+9223372036854775808)=y/\IntKind.u64.wrap (y-1)=((g+9223372036854775807:Nat):Int):=by
   rcases hg with rfl | rfl
   ·exact⟨_,rfl,ze⟩
   ·exact⟨_,rfl,ze⟩
  (go_wp2_with fail;repeat ((first|refine cZ ?_|refine cW ?_);go_wp2_with fail));exact yl (.int .u64 ((g+9223372036854775807:Nat):Int)) rfl ze zb ⟨rfl,rfl⟩
theorem zkx (n:Nat) (hn:n<4294967296) (w:World):
  Calls Tryz.prog 47 #[.int .u32 (n:Int)] w fun e w'=>e=.returned (.int .u64 ((zyo n:Nat):Int))/\w.grownBy w' none:=by
 unfold zyo;by_cases h:n%2147483648<2139095040
 ·rw[if_pos h];exact zkw n hn h w
 ·rw[if_neg h];refine (zkv n hn h w).mono ?_;rintro e w1 ⟨rfl,rfl⟩;exact⟨rfl,World.grownBy.refl w none⟩
end
section
attribute [local go_sem] undef
def zqq (inf sg:Nat) (nb:Nat->Nat->Nat) (r:Txt):Nat:=if r.kind=1 then inf+(if r.neg then sg else 0) else if r.kind=2 then inf+1 else spG inf nb r+(if r.neg then sg else 0)
def ovP (inf:Nat) (nb:Nat->Nat->Nat) (r:Txt):Bool:=decide (r.kind=0)&&(spG inf nb r==inf)
theorem zvq (inf:Nat) (nb:Nat->Nat->Nat) (r:Txt) (hb:r.base=10\/r.base=16) (h:∀ a b,b≠0->nb a b<=inf):spG inf nb r<=inf:=by
 unfold spG;split
 ·omega
 ·split
  ·omega
  ·refine h _ _ ?_;have:0<qk r.base^(-r.exp).toNat:=Nat.pow_pos (by rcases hb with h | h <;> rw[h] <;> decide);omega
theorem znu (a b:Nat) (hb:b≠0):xd a b<=9218868437227405312:=ud 52 1023 _ a b hb ze rfl
theorem zzm (a b:Nat) (hb:b≠0):zxq a b<=2139095040:=ud 23 127 _ a b hb ze rfl
theorem zzc (n:Nat) (h:n<4294967296):IntKind.u32.wrap (n:Int)=(n:Int):=by
 show ((n:Int)%4294967296)=n;omega
def zdy (s:List UInt8):Nat:=match ul s with
 | none=>0
 | some r=>zqq 9218868437227405312 9223372036854775808 xd r
def zig (s:List UInt8):Nat:=match ul s with
 | none=>1
 | some r=>if ovP 9218868437227405312 xd r then 2 else 0
def zxy (s:List UInt8):Nat:=match ul s with
 | none=>0
 | some r=>zyo (zqq 2139095040 2147483648 zxq r)
def zya (s:List UInt8):Nat:=match ul s with
 | none=>1
 | some r=>if ovP 2139095040 zxq r then 2 else 0
theorem zqp {s:List UInt8} {t:Txt} (h:ul s=some t):t.kind=0\/t.kind=1\/t.kind=2:=by
 refine zco s _ (fun _ hr=>?_) (fun ng _ hr=>?_) (fun _ hr=>?_)
 ·rw[h]at hr;cases hr;exact Or.inr (Or.inr rfl)
 ·rw[h]at hr;cases hr;exact Or.inr (Or.inl rfl)
 ·rw[h]at hr;cases hl:zau s with
  | none=>rw[hl]at hr;cases hr
  | some L=>rw[hl]at hr;cases hr;exact Or.inl rfl
set_option maxRecDepth 100000 in
theorem zc0 (s:List UInt8) (w:World) (hs:s.length<=1050000):
  Calls Tryz.prog 30 #[.string ⟨s.toArray⟩,.int .i64 64] w fun e w'=>e=.returned (.tuple #[.int .u64 (zdy s:Int),.int .i64 (zig s:Int)])/\w.grownBy w' none:=by
 have HRT:=zH (fun W=>zbo s W zd);have hnt:=fun r v W hb hr hd hl hx1 hx2=>zd0 r v W hb hr hd hl hx1 hx2
 have HI:=zH wy;have HS:=zH wm;have HWI:=zH zkx;refine ye Tryz.func30 rfl (by rw[Tryz.ntmps30];simp) ?_;intro σ hσ;rw[Tryz.ntmps30];have s0:σ 0=.string ⟨s.toArray⟩:=hσ 0 zi;have s1:σ 1=.int .i64 64:=hσ 1 zi;clear hσ;go_wp2_with fail;refine (HRT.out _).mono ?_;rintro e w2 ⟨hg2,hp⟩;obtain⟨D,hD⟩:=zX w2.heap.size;clear HRT;cases hrd:ul s with
 | none=>
  rw[hrd]at hp;dsimp only at hp;have HP:=zH (show zdy s=0/\zig s=1 by unfold zdy zig;rw[hrd];exact⟨rfl,rfl⟩);subst hp;obtain⟨w3,hw3⟩:=zX (w2.alloc (.cells textZ.toArray 62));have HG3:=zH (show w.grownBy w3 none by rw[<-hw3];exact ya hg2 (World.grownBy_alloc w2 _ none));have HW3:=zH hw3;unfold textZ at HW3 ⊢;clear hrd hw3 hg2;go_upto_region 2 with fail;rw[HW3.out];(go_wp2_with fail;repeat ((first|refine cZ ?_|refine cW ?_);go_wp2_with fail));exact xc (.int .u64 0) (.int .i64 1) rfl ze ze zb zb ⟨zαo,HG3.out⟩
 | some r=>
  rw[hrd]at hp;dsimp only at hp;obtain⟨v,rfl,hv⟩:=hp;have hok:=ze9 hrd;have hkd:=zqp hrd;have hpv:zdy s=(zqq 9218868437227405312 9223372036854775808 xd r)/\zig s=if ovP 9218868437227405312 xd r then 2 else 0:=by unfold zdy zig;rw[hrd];exact⟨rfl,rfl⟩
  have hnt:=hnt r v;have hsl:=fun hb=>zvq 9218868437227405312 xd r hb znu
  clear hrd;unfold zqq ovP at hpv;obtain⟨sp,hsp⟩:=zX (spG 9218868437227405312 xd r);rw[hsp]at hpv hsl;simp only[hsp]at hnt;clear hsp;obtain⟨kind,neg,b,l,x⟩:=r;dsimp only at hv hok hkd hpv hnt hsl ⊢;obtain⟨a,c,rfl⟩:=hv.1.len;obtain⟨N,hN⟩:=zX l.length;unfold zp9 at hnt;dsimp only at hnt;simp only[hN]at hv hnt hok ⊢;obtain⟨w3,hw3⟩:=zX (w2.alloc (.cells #[.int .i64 kind,.bool neg,.int .i64 (b:Int),.slice a N c,.int .i64 x] 62));have hgD:w2.grownBy w3 none:=zαR;have HG3:=zH (ya hg2 hgD);have HV3:=zH (hv.1.grown hgD);have hrD:Row w3 D [.int .i64 kind,.bool neg,.int .i64 (b:Int),.slice a N c,.int .i64 x]:=by rw[<-hw3,<-hD];exact Row.new w2 _ _
  have HW3:=zH hw3;have HDD:=zH hD;have HNT:=zH hnt;have HPV:=zH hpv;have HSL:=zH hsl;have HOK:=zH hok;have m0:=hrD.cell 0;have m1:=hrD.cell 1;have m2:=hrD.cell 2;have m3:=hrD.cell 3;have m4:=hrD.cell 4;simp only[List.getElem?_cons_zero,List.getElem?_cons_succ]at m0 m1 m2 m3 m4;clear hv hok hnt hpv hsl hw3 hgD hrD hD hg2 hN;go_upto_region 2 with fail;rw[HW3.out,HDD.out];clear HW3 HDD;rcases hkd with rfl | rfl | rfl
  ·obtain⟨hb,hdb,hlb,hx1,hx2⟩:=HOK.out.2 rfl;have hs1:=HSL.out hb;have HC:=zH (HNT.out w3 hb HV3.out hdb zd zd zd);have hp:=HPV.out;rw[if_neg ze,if_neg ze]at hp;have HP':=zH hp;clear hp HNT HPV HOK HSL HV3 hdb hb hlb hx1 hx2;(go_wp2_with fail;repeat ((first|refine cZ ?_|refine cW ?_);go_wp2_with fail));refine HC.out.mono ?_;rintro e w4 ⟨rfl,hg4⟩;have HG3:=zH (ya HG3.out hg4);obtain⟨y,hy,hyl⟩:∃ y,sp+(if neg=true then 9223372036854775808 else 0)=y/\y<18446744073709551616:=⟨_,rfl,zαT⟩;have HP:=HP';rw[hy]at HP ⊢;clear hg4 HP' HC;obtain⟨q,hq⟩:=zX ((sp==9218868437227405312));rw[hq]at HP ⊢;clear hq;have hwr:IntKind.u32.wrap (y:Int)=(y:Int)\/True:=Or.inr trivial;cases q
   ·simp only[decide_true,Bool.and_false,Bool.and_true,if_true,if_false,Bool.false_eq_true]at HP;generalize hq:y=q;have HQ:=zH hq;clear hq;(go_wp2_with fail;repeat ((first|refine cZ ?_|refine cW ?_);go_wp2_with fail));exact xc (.int .u64 (q:Int)) (.int .i64 0) rfl ze ze zb zb ⟨zαP,HG3.out⟩
   ·simp only[decide_true,Bool.and_false,Bool.and_true,if_true,if_false,Bool.false_eq_true]at HP;generalize hq:y=q;have HQ:=zH hq;clear hq;(go_wp2_with fail;repeat ((first|refine cZ ?_|refine cW ?_);go_wp2_with fail));exact xc (.int .u64 (q:Int)) (.int .i64 2) rfl ze ze zb zb ⟨zαP,HG3.out⟩
  ·have hp:=HPV.out;rw[if_pos rfl]at hp;have HP:=zH hp;clear hp HNT HPV HOK HSL HV3;cases neg
   ·simp only[Bool.false_eq_true,if_false,Nat.add_zero,show decide ((1:Int)=0)=false from rfl,Bool.false_and]at HP;(go_wp2_with fail;repeat ((first|refine cZ ?_|refine cW ?_);go_wp2_with fail));refine (HI.out _).mono ?_;rintro e w7 ⟨rfl,rfl⟩;(go_wp2_with fail;repeat ((first|refine cZ ?_|refine cW ?_);go_wp2_with fail));exact xc (.int .u64 9218868437227405312) (.int .i64 0) rfl ze ze zb zb ⟨zαo,HG3.out⟩
   ·simp only[if_true,show decide ((1:Int)=0)=false from rfl,Bool.false_and,Bool.false_eq_true,if_false]at HP;(go_wp2_with fail;repeat ((first|refine cZ ?_|refine cW ?_);go_wp2_with fail));refine (HI.out _).mono ?_;rintro e w7 ⟨rfl,rfl⟩;(go_wp2_with fail;repeat ((first|refine cZ ?_|refine cW ?_);go_wp2_with fail));refine (HS.out _).mono ?_;rintro e w7 ⟨rfl,rfl⟩;have hwr:IntKind.u64.wrap (9218868437227405312+9223372036854775808)=18442240474082181120:=ze;(go_wp2_with fail;repeat ((first|refine cZ ?_|refine cW ?_);go_wp2_with fail));exact xc (.int .u64 18442240474082181120) (.int .i64 0) rfl ze ze zb zb ⟨zαo,HG3.out⟩
  ·have hp:=HPV.out;rw[if_neg ze,if_pos rfl]at hp;have HP:=zH hp;clear hp HNT HPV HOK HSL HV3;simp only[show decide ((2:Int)=0)=false from rfl,Bool.false_and,Bool.false_eq_true,if_false]at HP;(go_wp2_with fail;repeat ((first|refine cZ ?_|refine cW ?_);go_wp2_with fail));refine (HI.out _).mono ?_;rintro e w7 ⟨rfl,rfl⟩;have hwr:IntKind.u64.wrap (9218868437227405312+1)=9218868437227405313:=ze;(go_wp2_with fail;repeat ((first|refine cZ ?_|refine cW ?_);go_wp2_with fail));exact xc (.int .u64 9218868437227405313) (.int .i64 0) rfl ze ze zb zb ⟨zαo,HG3.out⟩
set_option maxRecDepth 100000 in
theorem zxu (s:List UInt8) (w:World) (hs:s.length<=1050000):
  Calls Tryz.prog 30 #[.string ⟨s.toArray⟩,.int .i64 32] w fun e w'=>e=.returned (.tuple #[.int .u64 (zxy s:Int),.int .i64 (zya s:Int)])/\w.grownBy w' none:=by
 have HRT:=zH (fun W=>zbo s W zd);have hnt:=fun r v W hb hr hd hl hx1 hx2=>zyb r v W hb hr hd hl hx1 hx2
 have HI:=zH zdg;have HS:=zH ur;have HWI:=zH zkx;refine ye Tryz.func30 rfl (by rw[Tryz.ntmps30];simp) ?_;intro σ hσ;rw[Tryz.ntmps30];have s0:σ 0=.string ⟨s.toArray⟩:=hσ 0 zi;have s1:σ 1=.int .i64 32:=hσ 1 zi;clear hσ;go_wp2_with fail;refine (HRT.out _).mono ?_;rintro e w2 ⟨hg2,hp⟩;obtain⟨D,hD⟩:=zX w2.heap.size;clear HRT;cases hrd:ul s with
 | none=>
  rw[hrd]at hp;dsimp only at hp;have HP:=zH (show zxy s=0/\zya s=1 by unfold zxy zya;rw[hrd];exact⟨rfl,rfl⟩);subst hp;obtain⟨w3,hw3⟩:=zX (w2.alloc (.cells textZ.toArray 62));have HG3:=zH (show w.grownBy w3 none by rw[<-hw3];exact ya hg2 (World.grownBy_alloc w2 _ none));have HW3:=zH hw3;unfold textZ at HW3 ⊢;clear hrd hw3 hg2;go_upto_region 2 with fail;rw[HW3.out];(go_wp2_with fail;repeat ((first|refine cZ ?_|refine cW ?_);go_wp2_with fail));exact xc (.int .u64 0) (.int .i64 1) rfl ze ze zb zb ⟨zαo,HG3.out⟩
 | some r=>
  rw[hrd]at hp;dsimp only at hp;obtain⟨v,rfl,hv⟩:=hp;have hok:=ze9 hrd;have hkd:=zqp hrd;have hpv:zxy s=zyo (zqq 2139095040 2147483648 zxq r)/\zya s=if ovP 2139095040 zxq r then 2 else 0:=by unfold zxy zya;rw[hrd];exact⟨rfl,rfl⟩
  have hnt:=hnt r v;have hsl:=fun hb=>zvq 2139095040 zxq r hb zzm
  clear hrd;unfold zqq ovP at hpv;obtain⟨sp,hsp⟩:=zX (spG 2139095040 zxq r);rw[hsp]at hpv hsl;simp only[hsp]at hnt;clear hsp;obtain⟨kind,neg,b,l,x⟩:=r;dsimp only at hv hok hkd hpv hnt hsl ⊢;obtain⟨a,c,rfl⟩:=hv.1.len;obtain⟨N,hN⟩:=zX l.length;unfold zp9 at hnt;dsimp only at hnt;simp only[hN]at hv hnt hok ⊢;obtain⟨w3,hw3⟩:=zX (w2.alloc (.cells #[.int .i64 kind,.bool neg,.int .i64 (b:Int),.slice a N c,.int .i64 x] 62));have hgD:w2.grownBy w3 none:=zαR;have HG3:=zH (ya hg2 hgD);have HV3:=zH (hv.1.grown hgD);have hrD:Row w3 D [.int .i64 kind,.bool neg,.int .i64 (b:Int),.slice a N c,.int .i64 x]:=by rw[<-hw3,<-hD];exact Row.new w2 _ _
  have HW3:=zH hw3;have HDD:=zH hD;have HNT:=zH hnt;have HPV:=zH hpv;have HSL:=zH hsl;have HOK:=zH hok;have m0:=hrD.cell 0;have m1:=hrD.cell 1;have m2:=hrD.cell 2;have m3:=hrD.cell 3;have m4:=hrD.cell 4;simp only[List.getElem?_cons_zero,List.getElem?_cons_succ]at m0 m1 m2 m3 m4;clear hv hok hnt hpv hsl hw3 hgD hrD hD hg2 hN;go_upto_region 2 with fail;rw[HW3.out,HDD.out];clear HW3 HDD;rcases hkd with rfl | rfl | rfl
  ·obtain⟨hb,hdb,hlb,hx1,hx2⟩:=HOK.out.2 rfl;have hs1:=HSL.out hb;have HC:=zH (HNT.out w3 hb HV3.out hdb zd zd zd);have hp:=HPV.out;rw[if_neg ze,if_neg ze]at hp;have HP':=zH hp;clear hp HNT HPV HOK HSL HV3 hdb hb hlb hx1 hx2;(go_wp2_with fail;repeat ((first|refine cZ ?_|refine cW ?_);go_wp2_with fail));refine HC.out.mono ?_;rintro e w4 ⟨rfl,hg4⟩;have HG3:=zH (ya HG3.out hg4);obtain⟨y,hy,hyl⟩:∃ y,sp+(if neg=true then 2147483648 else 0)=y/\y<4294967296:=⟨_,rfl,zαT⟩;have HP:=HP';rw[hy]at HP ⊢;clear hg4 HP' HC;obtain⟨q,hq⟩:=zX ((sp==2139095040));rw[hq]at HP ⊢;clear hq;have hwr:IntKind.u32.wrap (y:Int)=(y:Int)\/True:=Or.inr trivial;have hwr2:IntKind.u32.wrap (y:Int)=(y:Int):=zzc _ zd;cases q
   ·simp only[decide_true,Bool.and_false,Bool.and_true,if_true,if_false,Bool.false_eq_true]at HP;(go_wp2_with fail;repeat ((first|refine cZ ?_|refine cW ?_);go_wp2_with fail));refine (HWI.out y zd _).mono ?_;rintro e w8 ⟨rfl,hg8⟩;have HG8:=zH (ya HG3.out hg8);clear hg8;generalize hq:zyo y=q;have HQ:=zH hq;clear hq;(go_wp2_with fail;repeat ((first|refine cZ ?_|refine cW ?_);go_wp2_with fail));exact xc (.int .u64 (q:Int)) (.int .i64 0) rfl ze ze zb zb ⟨zαP,HG8.out⟩
   ·simp only[decide_true,Bool.and_false,Bool.and_true,if_true,if_false,Bool.false_eq_true]at HP;(go_wp2_with fail;repeat ((first|refine cZ ?_|refine cW ?_);go_wp2_with fail));refine (HWI.out y zd _).mono ?_;rintro e w8 ⟨rfl,hg8⟩;have HG8:=zH (ya HG3.out hg8);clear hg8;generalize hq:zyo y=q;have HQ:=zH hq;clear hq;(go_wp2_with fail;repeat ((first|refine cZ ?_|refine cW ?_);go_wp2_with fail));exact xc (.int .u64 (q:Int)) (.int .i64 2) rfl ze ze zb zb ⟨zαP,HG8.out⟩
  ·have hp:=HPV.out;rw[if_pos rfl]at hp;have HP:=zH hp;clear hp HNT HPV HOK HSL HV3;cases neg
   ·simp only[Bool.false_eq_true,if_false,Nat.add_zero,show decide ((1:Int)=0)=false from rfl,Bool.false_and]at HP;(go_wp2_with fail;repeat ((first|refine cZ ?_|refine cW ?_);go_wp2_with fail));refine (HI.out _).mono ?_;rintro e w7 ⟨rfl,rfl⟩;have hwr2:IntKind.u32.wrap 2139095040=2139095040:=ze;(go_wp2_with fail;repeat ((first|refine cZ ?_|refine cW ?_);go_wp2_with fail));refine (HWI.out 2139095040 zd _).mono ?_;rintro e w8 ⟨rfl,hg8⟩;have HG8:=zH (ya HG3.out hg8);clear hg8;generalize hq:zyo 2139095040=q;have HQ:=zH hq;clear hq;(go_wp2_with fail;repeat ((first|refine cZ ?_|refine cW ?_);go_wp2_with fail));exact xc (.int .u64 (q:Int)) (.int .i64 0) rfl ze ze zb zb ⟨zαP,HG8.out⟩
   ·simp only[if_true,show decide ((1:Int)=0)=false from rfl,Bool.false_and,Bool.false_eq_true,if_false]at HP;(go_wp2_with fail;repeat ((first|refine cZ ?_|refine cW ?_);go_wp2_with fail));refine (HI.out _).mono ?_;rintro e w7 ⟨rfl,rfl⟩;(go_wp2_with fail;repeat ((first|refine cZ ?_|refine cW ?_);go_wp2_with fail));refine (HS.out _).mono ?_;rintro e w7 ⟨rfl,rfl⟩;have hwr:IntKind.u64.wrap (2139095040+2147483648)=4286578688:=ze;have hwr2:IntKind.u32.wrap 4286578688=4286578688:=ze;(go_wp2_with fail;repeat ((first|refine cZ ?_|refine cW ?_);go_wp2_with fail));refine (HWI.out 4286578688 zd _).mono ?_;rintro e w8 ⟨rfl,hg8⟩;have HG8:=zH (ya HG3.out hg8);clear hg8;generalize hq:zyo 4286578688=q;have HQ:=zH hq;clear hq;(go_wp2_with fail;repeat ((first|refine cZ ?_|refine cW ?_);go_wp2_with fail));exact xc (.int .u64 (q:Int)) (.int .i64 0) rfl ze ze zb zb ⟨zαP,HG8.out⟩
  ·have hp:=HPV.out;rw[if_neg ze,if_pos rfl]at hp;have HP:=zH hp;clear hp HNT HPV HOK HSL HV3;simp only[show decide ((2:Int)=0)=false from rfl,Bool.false_and,Bool.false_eq_true,if_false]at HP;(go_wp2_with fail;repeat ((first|refine cZ ?_|refine cW ?_);go_wp2_with fail));refine (HI.out _).mono ?_;rintro e w7 ⟨rfl,rfl⟩;have hwr:IntKind.u64.wrap (2139095040+1)=2139095041:=ze;have hwr2:IntKind.u32.wrap 2139095041=2139095041:=ze;(go_wp2_with fail;repeat ((first|refine cZ ?_|refine cW ?_);go_wp2_with fail));refine (HWI.out 2139095041 zd _).mono ?_;rintro e w8 ⟨rfl,hg8⟩;have HG8:=zH (ya HG3.out hg8);clear hg8;generalize hq:zyo 2139095041=q;have HQ:=zH hq;clear hq;(go_wp2_with fail;repeat ((first|refine cZ ?_|refine cW ?_);go_wp2_with fail));exact xc (.int .u64 (q:Int)) (.int .i64 0) rfl ze ze zb zb ⟨zαP,HG8.out⟩
end
section
attribute [local go_sem] undef
set_option maxRecDepth 100000 in
theorem yiw (sz:Int) (s:List UInt8) (q k v:Nat) (w:World) (hv:v<18446744073709551616) (hq:q<18446744073709551616)
  (h:k≠1->q*2%18446744073709551616≠0->v*2%18446744073709551616≠0)
  (hPB:∀ W,Calls Tryz.prog 30 #[.string ⟨s.toArray⟩,.int .i64 sz] W fun e w'=>e=.returned (.tuple #[.int .u64 (q:Int),.int .i64 (k:Int)])/\W.grownBy w' none):
  Calls Tryz.prog 21 #[.string ⟨s.toArray⟩,.int .i64 sz,.int .u64 (v:Int)] w fun e w'=>e=.returned (.bool false)/\w.grownBy w' none:=by
 have HPB:=zH hPB;have HZ1:=zH (fun W=>zxv q W hq);have HZ2:=zH (fun W=>zxv v W hv);have HH:=zH h;clear hPB h hv hq;refine ye Tryz.func21 rfl (by rw[Tryz.ntmps21];simp) ?_;intro σ hσ;rw[Tryz.ntmps21];have s0:σ 0=.string ⟨s.toArray⟩:=hσ 0 zi;have s1:σ 1=.int .i64 sz:=hσ 1 zi;have s2:σ 2=.int .u64 (v:Int):=hσ 2 zi;clear hσ;(go_wp2_with fail;repeat ((first|refine cZ ?_|refine cW ?_);go_wp2_with fail));refine (HPB.out _).mono ?_;rintro e w1 ⟨rfl,hg1⟩;have HG1:=zH hg1;clear hg1 HPB;generalize q*2%18446744073709551616=zq at *
 generalize v*2%18446744073709551616=zv at *
 by_cases hk:k=1
 ·subst hk;(go_wp2_with fail;repeat ((first|refine cZ ?_|refine cW ?_);go_wp2_with fail));exact yl (.bool false) rfl ze zb ⟨rfl,HG1.out⟩
 ·have e1:((k:Int)==1)=false:=zf;have e2:(k==1)=false:=by rw[beq_eq_false_iff_ne];exact hk
  have e3:((k:Int) != 1)=true:=zh;have e4:(k != 1)=true:=by simp;exact hk
  have HK:=zH hk;clear hk;(go_wp2_with fail;repeat ((first|refine cZ ?_|refine cW ?_);go_wp2_with fail));refine (HZ1.out _).mono ?_;rintro e w2 ⟨rfl,rfl⟩;by_cases hz:zq=0
  ·have d1:decide (zq=0)=true:=decide_eq_true hz;clear hz;(go_wp2_with fail;repeat ((first|refine cZ ?_|refine cW ?_);go_wp2_with fail));exact yl (.bool false) rfl ze zb ⟨rfl,HG1.out⟩
  ·have d2:decide (zv=0)=false:=decide_eq_false (HH.out HK.out hz);have d1:decide (zq=0)=false:=decide_eq_false hz;clear hz;(go_wp2_with fail;repeat ((first|refine cZ ?_|refine cW ?_);go_wp2_with fail));refine (HZ2.out _).mono ?_;rintro e w2 ⟨rfl,rfl⟩;(go_wp2_with fail;repeat ((first|refine cZ ?_|refine cW ?_);go_wp2_with fail));exact yl (.bool false) rfl ze zb ⟨rfl,HG1.out⟩
theorem zyt (sz:Int) (s:List UInt8) (q k v:Nat) (w:World) (hv:v<18446744073709551616) (hq:q<18446744073709551616)
  (h:k≠1->v=q\/v*2%18446744073709551616≠0)
  (hPB:∀ W,Calls Tryz.prog 30 #[.string ⟨s.toArray⟩,.int .i64 sz] W fun e w'=>e=.returned (.tuple #[.int .u64 (q:Int),.int .i64 (k:Int)])/\W.grownBy w' none):
  Calls Tryz.prog 21 #[.string ⟨s.toArray⟩,.int .i64 sz,.int .u64 (v:Int)] w fun e w'=>e=.returned (.bool false)/\w.grownBy w' none:=
 yiw sz s q k v w hv hq (fun h1 h2=>(h h1).elim (fun e=>by rw[e];exact h2) id) hPB
set_option maxRecDepth 100000 in
theorem zx9 (a b:Nat) (w:World) (ha:a<18446744073709551616) (hb:b<18446744073709551616) (h:a=b\/(a*2%18446744073709551616=0/\b*2%18446744073709551616=0)):
  Calls Tryz.prog 20 #[.int .u64 (a:Int),.int .u64 (b:Int)] w fun e w'=>e=.returned (.bool true)/\w=w':=by
 have HZ1:=zH (fun W=>zxv a W ha);have HZ2:=zH (fun W=>zxv b W hb);refine ye Tryz.func20 rfl (by rw[Tryz.ntmps20];simp) ?_;intro σ hσ;rw[Tryz.ntmps20];have s0:σ 0=.int .u64 (a:Int):=hσ 0 zi;have s1:σ 1=.int .u64 (b:Int):=hσ 1 zi;clear hσ ha hb;by_cases hab:a=b
 ·subst hab;have e1:((a:Int)==(a:Int))=true:=zi;clear h;(go_wp2_with fail;repeat ((first|refine cZ ?_|refine cW ?_);go_wp2_with fail));exact yl (.bool true) rfl ze zb ⟨rfl,rfl⟩
 ·obtain⟨h1,h2⟩:=h.resolve_left hab;have e1:((a:Int)==(b:Int))=false:=zf;have e2:(a==b)=false:=by rw[beq_eq_false_iff_ne];exact hab
  generalize a*2%18446744073709551616=za at *
  generalize b*2%18446744073709551616=zb at *
  subst h1 h2;clear h hab;(go_wp2_with fail;repeat ((first|refine cZ ?_|refine cW ?_);go_wp2_with fail));refine (HZ1.out _).mono ?_;rintro e w7 ⟨rfl,rfl⟩;(go_wp2_with fail;repeat ((first|refine cZ ?_|refine cW ?_);go_wp2_with fail));refine (HZ2.out _).mono ?_;rintro e w7 ⟨rfl,rfl⟩;(go_wp2_with fail;repeat ((first|refine cZ ?_|refine cW ?_);go_wp2_with fail));exact yl (.bool true) rfl ze zb ⟨rfl,rfl⟩
end
section
attribute [local go_sem] undef
set_option maxRecDepth 100000 in
theorem zl6 (s:List UInt8) (w:World) (hs:s.length<=4000000):
  Calls Tryz.prog 24 #[.string ⟨s.toArray⟩] w fun e w'=>(∃ b:Bool,e=.returned (.bool b))/\w.grownBy w' none:=by
 have HLO:=zH (fun W=>zc8 s W hs);refine ye Tryz.func24 rfl (by rw[Tryz.ntmps24];simp) ?_;intro σ hσ;rw[Tryz.ntmps24];have s0:σ 0=.string ⟨s.toArray⟩:=hσ 0 zi;clear hσ;have hlen:(xf s).length<=4000000:=by unfold xf;rw[List.length_map];exact hs
 obtain⟨t,ht⟩:=zX (xf s);rw[ht]at HLO hlen;clear ht;have hsz:(⟨t.toArray⟩:ByteArray).size=t.length:=zm;obtain⟨N,hN⟩:=zX t.length;rw[hN]at hsz hlen;have HN:=zH hN;clear hN hs;(go_wp2_with fail;repeat ((first|refine cZ ?_|refine cW ?_);go_wp2_with fail));refine (HLO.out _).mono ?_;rintro e w1 ⟨rfl,hg1⟩;have HG:=zH hg1;clear hg1 HLO;(go_wp2_with fail;repeat ((first|refine cZ ?_|refine cW ?_);go_wp2_with fail));refine xx (fun kk s' w'=>∃ (i:Nat) (u m:Bool),i<=N/\kk=N-i/\s' 3=.bool u/\s' 4=.bool m/\s' 5=.string ⟨t.toArray⟩/\s' 6=.int .i64 (i:Int)/\w1=w') N
  ⟨0,false,false,Nat.zero_le _,rfl,zb,zb,zb,zb,rfl⟩ ?_
 clear s0 σ;rintro kk σ wk ⟨i,u,m,hi,hkk,s3,s4,s5,s6,rfl⟩ RK KK HRK hKK;have HKK:=zH hkk;clear hkk;by_cases hiN:i<N
 case neg=>
  have hiN':decide (i<N)=false:=zβw;have hiN2:decide ((i:Int)<(N:Int))=false:=zh;cases u
  ·(go_wp2_with fail;repeat ((first|refine cZ ?_|refine cW ?_);go_wp2_with fail));exact yl (.bool false) rfl ze zb ⟨⟨_,rfl⟩,HG.out⟩
  ·cases m
   ·(go_wp2_with fail;repeat ((first|refine cZ ?_|refine cW ?_);go_wp2_with fail));exact yl (.bool true) rfl ze zb ⟨⟨_,rfl⟩,HG.out⟩
   ·(go_wp2_with fail;repeat ((first|refine cZ ?_|refine cW ?_);go_wp2_with fail));exact yl (.bool false) rfl ze zb ⟨⟨_,rfl⟩,HG.out⟩
 have hidx:=xu t i zn;have hiN':(i:Int)<(N:Int):=zd;generalize t.getD i 0=c at *
 obtain⟨n,hn⟩:=zX c.toNat;(go_upto_region 7 with fail;repeat ((first|refine cZ ?_|refine cW ?_);go_upto_region 7 with fail));refine yr (fun s' w'=>∃ u2:Bool,s' 3=.bool u2/\s' 4=.bool m/\s' 5=.string ⟨t.toArray⟩/\s' 6=.int .i64 (i:Int)/\w1=w') ?_ ?_
 ·intro R' K' HR hK';cases u
  ·by_cases h:n=95
   ·have p1:((n:Int)==95)=true:=zo;have p2:(n==95)=true:=by rw[beq_iff_eq];exact h
    clear h;(go_wp2_with fail;repeat ((first|refine cZ ?_|refine cW ?_);go_wp2_with fail));exact got HR ⟨true,zb,zb,zb,zb,rfl⟩
   ·have p1:((n:Int)==95)=false:=zf;have p2:(n==95)=false:=zβE;clear h;(go_wp2_with fail;repeat ((first|refine cZ ?_|refine cW ?_);go_wp2_with fail));exact got HR ⟨false,zb,zb,zb,zb,rfl⟩
  ·(go_wp2_with fail;repeat ((first|refine cZ ?_|refine cW ?_);go_wp2_with fail));exact got HR ⟨true,zb,zb,zb,zb,rfl⟩
 clear s3 s4 s5 s6 σ;rintro σ w' ⟨u2,s3,s4,s5,s6,rfl⟩;go_upto_region 8 with fail;cases m
 case true=>
  (go_wp2_with fail;repeat ((first|refine cZ ?_|refine cW ?_);go_wp2_with fail));refine wo HRK (N-(i+1)) (by have:=HKK.out;omega) ⟨i+1,u2,true,zd,rfl,zb,zb,zb,zj,rfl⟩
 by_cases h46:n=46
 case pos=>
  have a46:((n:Int)==46)=true:=zo;have b46:(n==46)=true:=zo;clear h46;(go_wp2_with fail;repeat ((first|refine cZ ?_|refine cW ?_);go_wp2_with fail));refine wo HRK (N-(i+1)) (by have:=HKK.out;omega) ⟨i+1,u2,true,zd,rfl,zb,zb,zb,zj,rfl⟩
 by_cases h101:n=101
 case pos=>
  have a46:((n:Int)==46)=false:=zf;have b46:(n==46)=false:=zf;have a101:((n:Int)==101)=true:=zo;have b101:(n==101)=true:=zo;clear h46 h101;(go_wp2_with fail;repeat ((first|refine cZ ?_|refine cW ?_);go_wp2_with fail));refine wo HRK (N-(i+1)) (by have:=HKK.out;omega) ⟨i+1,u2,true,zd,rfl,zb,zb,zb,zj,rfl⟩
 by_cases h112:n=112
 case pos=>
  have a46:((n:Int)==46)=false:=zf;have b46:(n==46)=false:=zf;have a101:((n:Int)==101)=false:=zf;have b101:(n==101)=false:=zf;have a112:((n:Int)==112)=true:=zo;have b112:(n==112)=true:=zo;clear h46 h101 h112;(go_wp2_with fail;repeat ((first|refine cZ ?_|refine cW ?_);go_wp2_with fail));refine wo HRK (N-(i+1)) (by have:=HKK.out;omega) ⟨i+1,u2,true,zd,rfl,zb,zb,zb,zj,rfl⟩
 by_cases h120:n=120
 case pos=>
  have a46:((n:Int)==46)=false:=zf;have b46:(n==46)=false:=zf;have a101:((n:Int)==101)=false:=zf;have b101:(n==101)=false:=zf;have a112:((n:Int)==112)=false:=zf;have b112:(n==112)=false:=zf;have a120:((n:Int)==120)=true:=zo;have b120:(n==120)=true:=zo;clear h46 h101 h112 h120;(go_wp2_with fail;repeat ((first|refine cZ ?_|refine cW ?_);go_wp2_with fail));refine wo HRK (N-(i+1)) (by have:=HKK.out;omega) ⟨i+1,u2,true,zd,rfl,zb,zb,zb,zj,rfl⟩
 have a46:((n:Int)==46)=false:=zf;have b46:(n==46)=false:=zf;have a101:((n:Int)==101)=false:=zf;have b101:(n==101)=false:=zf;have a112:((n:Int)==112)=false:=zf;have b112:(n==112)=false:=zf;have a120:((n:Int)==120)=false:=zf;have b120:(n==120)=false:=zf;clear h46 h101 h112 h120;(go_wp2_with fail;repeat ((first|refine cZ ?_|refine cW ?_);go_wp2_with fail));refine wo HRK (N-(i+1)) (by have:=HKK.out;omega) ⟨i+1,u2,false,zd,rfl,zb,zb,zb,zj,rfl⟩
end
end Go.Proofs.YtoacbkokkkpofaaGreatDoor
