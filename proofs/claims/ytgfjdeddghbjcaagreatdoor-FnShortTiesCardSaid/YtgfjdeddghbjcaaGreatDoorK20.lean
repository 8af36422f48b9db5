/- Lemmas that the claim's top text leans on. No condition of their own. -/
import Derived.Test.YtgfjdeddghbjcaaGreatDoorK19
import Derived.Test.YtgfjdeddghbjcaaGreatDoorK17
import Derived.Test.YtgfjdeddghbjcaaGreatDoorK26
import Derived.Test.YtgfjdeddghbjcaaGreatDoorK27
namespace Go.Proofs.YtgfjdeddghbjcaaGreatDoor
open Go.RowKit
set_option linter.unusedSimpArgs false
set_option linter.unusedVariables false
set_option maxHeartbeats 16000000
section
attribute [local go_sem] undef
def zjy (s:List UInt8):Option (Bool×Nat×Nat):=match ul s with
 | none=>none
 | some r=>if r.kind≠0 then none else if r.digits=[] then some (r.neg,0,1) else if zb8 r.base r.digits r.exp≠0 then none
  else some (r.neg,jy r.base r.digits*qk r.base^r.exp.toNat,qk r.base^(-r.exp).toNat)
theorem zru {b:Nat} (hb:b=10\/b=16) {c:UInt8} {d:Nat} (h:dig b c=some d):d<b:=by
 unfold dig at h;split at h
 ·cases h;omega
 ·split at h
  ·rename_i h2;cases h;omega
  ·cases h
theorem zry (b:Nat) (hb:b=10\/b=16) (s:List UInt8):∀ d ∈ dgL b s,d<b:=by
 have key:∀ (l:List UInt8) (o:List Nat),(∀ d ∈ o,d<b)->∀ d ∈ l.foldl (vp b) o,d<b:=by
  intro l;induction l with
  | nil=>intro o h;exact h
  | cons c r ih=>
   intro o h;rw[List.foldl_cons];refine ih _ ?_;unfold vp;split
   ·rename_i d hd;split
    ·intro x hx;rcases List.mem_append.1 hx with hx | hx
     ·exact h x hx
     ·rw[List.mem_singleton.1 hx];exact zru hb hd
    ·exact h
   ·exact h
 exact key s [] (by intro d hd;cases hd)
theorem ze9 {s:List UInt8} {r:Txt} (h:ul s=some r):(r.kind≠0->r.digits=[])/\(r.kind=0->(r.base=10\/r.base=16)/\(∀ d ∈ r.digits,d<r.base)/\r.digits.length<=s.length/\-1000000000000000-4*(s.length:Int)<=r.exp/\r.exp<=1000000000000000):=by
 unfold ul at h;split at h
 ·cases h;exact⟨fun _=>rfl,fun h=>zF⟩
 ·unfold zna at h;split at h
  ·cases h;exact⟨fun _=>rfl,fun h=>zF⟩
  ·obtain⟨x,hx,rfl⟩:=Option.map_eq_some_iff.1 h;refine⟨fun h=>absurd rfl h,fun _=>?_⟩;dsimp only;generalize hu:(sgL (xf s)).2=u at *
   have hul:u.length<=s.length:=by
    rw[<-hu];have e:(xf s).length=s.length:=by unfold xf;rw[List.length_map]
    rw[<-e];cases xf s with
    | nil=>simp[sgL]
    | cons c r=>
     simp only[sgL];split
     ·simp
     ·split <;> simp
   have h1:(kl u).length<=u.length:=zJ;have h2:(xz u).length<=u.length:=zA;refine⟨zcc u,zry _ (zcc u) _,?_,?_⟩
   ·have:=zf0 (wb u) (kl u++xz u);unfold nDigits;rw[List.length_append]at this;have h12:(kl u).length+(xz u).length<=u.length:=by
     unfold kl xz;split
     ·rename_i hp;unfold nPt at hp;have:=hp.1;unfold nI1 at this ⊢;rw[List.length_take,List.length_take,List.length_drop,List.length_drop];omega
     ·simp only[List.length_nil,List.length_take,List.length_drop];omega
    omega
   ·unfold zf8 at hx;split at hx
    ·cases hx
    ·obtain⟨y,hy,rfl⟩:=Option.map_eq_some_iff.1 hx;have hyb:-1000000000000000<=y/\y<=1000000000000000:=by
      unfold zpz at hy;split at hy
      ·exact zkl _ _ _ hy
      ·have:=Option.some.inj hy;omega
     have h3:=zpe (wb u) (xz u);have h4:zpy u<=4:=by unfold zpy;split <;> omega
     have h5:zpy u*zkq (wb u) (xz u)<=4*s.length:=Nat.mul_le_mul h4 zd;generalize zpy u*zkq (wb u) (xz u)=q at h5 ⊢;omega
theorem zg1 {b:Nat} {l:List Nat} {x:Int} (h:zb8 b l x=0) (hl:l.length<=1100000):-5000000<=x/\x<=5000000:=by
 unfold zb8 at h;split at h
 ·cases h
 ·split at h
  ·split at h
   ·cases h
   ·split at h
    ·cases h
    ·omega
  ·split at h
   ·cases h
   ·split at h
    ·cases h
    ·omega
theorem zm1 {w:World} {B D i:Nat} {v:Value} (hne:D≠B) (h:w.cell? ⟨D,i,none⟩=some v) (u0 u1 u2:Value):
  (((w.setCell ⟨B,0,none⟩ u0).setCell ⟨B,1,none⟩ u1).setCell ⟨B,2,none⟩ u2).cell? ⟨D,i,none⟩=some v:=by
 have h1:(w.setCell ⟨B,0,none⟩ u0).cell? ⟨D,i,none⟩=some v:=by rw[World.cell?_of_block (Below.heap_setCell w ⟨B,0,none⟩ u0 D hne)];exact h
 have h2:((w.setCell ⟨B,0,none⟩ u0).setCell ⟨B,1,none⟩ u1).cell? ⟨D,i,none⟩=some v:=by rw[World.cell?_of_block (Below.heap_setCell _ ⟨B,1,none⟩ u1 D hne)];exact h1
 rw[World.cell?_of_block (Below.heap_setCell _ ⟨B,2,none⟩ u2 D hne)];exact h2
def zdt (s:List UInt8) (w:World) (e:Ending) (w':World):Prop:=w.grownBy w' none/\
 match zjy s with
 | none=>e=.returned (.tuple #[.agg ratZ.toArray,.bool false])
 | some (ng,n,d)=>∃ vr,e=.returned (.tuple #[vr,.bool true])/\zpu w' vr ng n d
theorem ku {s:List UInt8} {w w':World} (h:zjy s=none) (hg:w.grownBy w' none):zdt s w (.returned (.tuple #[.agg ratZ.toArray,.bool false])) w':=by
 unfold zdt;rw[h];exact⟨hg,rfl⟩
theorem zbq {s:List UInt8} {w w':World} {ng:Bool} {n d:Nat} {vr:Value} (h:zjy s=some (ng,n,d)) (hg:w.grownBy w' none) (hr:zpu w' vr ng n d):zdt s w (.returned (.tuple #[vr,.bool true])) w':=by
 unfold zdt;rw[h];exact⟨hg,vr,rfl,hr⟩
set_option maxRecDepth 100000 in
theorem zdx (s:List UInt8) (w:World) (hs:s.length<=1050000):
  Calls Tryz.prog 22 #[.string ⟨s.toArray⟩] w (zdt s w):=by
 have HRT:=zH (fun W=>zbo s W zd);refine ye Tryz.func22 rfl (by rw[Tryz.ntmps22];simp) ?_;intro σ hσ;rw[Tryz.ntmps22];have s0:σ 0=.string ⟨s.toArray⟩:=hσ 0 zi;clear hσ;obtain⟨w1,hw1⟩:=zX (w.alloc (.cells ratZ.toArray 38));have hrB:=Row.new w ratZ 38;have hgB:=World.grownBy_alloc w (.cells ratZ.toArray 38) none;rw[hw1]at hrB hgB;unfold ratZ at hw1;have HRB:=zH hrB;have HGB:=zH hgB;clear hrB hgB;obtain⟨B,hB⟩:=zX w.heap.size;go_wp2_with fail;clear hw1;rw[hB]at HRB;have hBw:w.heap.size<=B:=zd;clear hB;refine (HRT.out _).mono ?_;rintro e w2 ⟨hg2,hp⟩;have HRB2:=zH (HRB.out.grown hg2 zi);have HG2:=zH (ya HGB.out hg2);have hBlt:B<w1.heap.size:=HRB.out.lt;have hBlt2:B<w2.heap.size:=HRB2.out.lt;obtain⟨D,hD⟩:=zX w2.heap.size;have hDw:w.heap.size<=D:=zd;have hBD:B≠D:=zd;clear hg2 HRB HGB HRT;have none_end:∀ (env:List (Nat×Value)) (w':World),zjy s=none->Row w' B ratZ->w.grownBy w' none->True:=fun _ _ _ _ _=>trivial
 clear none_end;cases hrd:ul s with
 | none=>
  rw[hrd]at hp;dsimp only at hp;have hno:zjy s=none:=by unfold zjy;rw[hrd]
  have HNO:=zH hno;subst hp;have hgD:=World.grownBy_alloc w2 (.cells textZ.toArray 87) none;have HRB3:=zH (HRB2.out.grown hgD zi);have HG3:=zH (ya HG2.out hgD);obtain⟨w3,hw3⟩:=zX (w2.alloc (.cells textZ.toArray 87));rw[hw3]at HRB3 HG3;have HW3:=zH hw3;unfold textZ at HW3 ⊢;clear hno hrd hw3 hgD;go_upto_region 2 with fail;rw[HW3.out];have k0:=HRB3.out.cell 0;have k1:=HRB3.out.cell 1;have k2:=HRB3.out.cell 2;have t0:=HRB3.out.frozen 0;have t1:=HRB3.out.frozen 1;have t2:=HRB3.out.frozen 2;unfold ratZ at k0 k1 k2;simp only[List.getElem?_cons_zero,List.getElem?_cons_succ]at k0 k1 k2;(go_wp2_with fail;repeat ((first|refine cZ ?_|refine cW ?_);go_wp2_with fail));obtain⟨ty,hrow⟩:=wp HRB3.out (.bool false) (.slice none 0 0) (.slice none 0 0);refine we (B:=B) (.agg ratZ.toArray) (.bool false) rfl ze ze zb zb ?_ (ku HNO.out (xk HG3.out hBw _ _ _));exact run_loadVar_row (P:=Tryz.prog) _ B ty 38 _ (0,0) _ hrow Tryz.underlying38 rfl zg
 | some r=>
  rw[hrd]at hp;dsimp only at hp;obtain⟨v,rfl,hv⟩:=hp;have hok:=ze9 hrd;have hrat:zjy s=if r.kind≠0 then none else if r.digits=[] then some (r.neg,0,1) else if zb8 r.base r.digits r.exp≠0 then none
   else some (r.neg,jy r.base r.digits*qk r.base^r.exp.toNat,qk r.base^(-r.exp).toNat):=by unfold zjy;rw[hrd]
  clear hrd;obtain⟨kind,neg,b,l,x⟩:=r;dsimp only at hv hok hrat ⊢;have hOR:=fun (hb:b=10\/b=16) (hx1:-2000000000000000<=x) (hx2:x<=2000000000000000) (hl:l.length<=4000000) W (h:RdI W v l)=>zg0 ⟨kind,neg,b,l,x⟩ v W hb h hl hx1 hx2
  have hRA:=fun (hb:b=10\/b=16) (hd:∀ d ∈ l,d<b) (hl:l.length<=1200000) (hx1:-5000000<=x) (hx2:x<=5000000) W (h:RdI W v l)=>zbp ⟨kind,neg,b,l,x⟩ v W hb h hd hl hx1 hx2
  unfold zp9 at hOR hRA;dsimp only at hOR hRA;obtain⟨a,c,rfl⟩:=hv.1.len;obtain⟨N,hN⟩:=zX l.length;rw[hN]at hv hOR hRA hok;simp only[hN];have hgD:=World.grownBy_alloc w2 (.cells #[.int .i64 kind,.bool neg,.int .i64 (b:Int),.slice a N c,.int .i64 x] 87) none;have HRB3:=zH (HRB2.out.grown hgD zi);have HG3:=zH (ya HG2.out hgD);have HV3:=zH (hv.1.grown hgD);have hrD:Row (w2.alloc (.cells #[.int .i64 kind,.bool neg,.int .i64 (b:Int),.slice a N c,.int .i64 x] 87)) D [.int .i64 kind,.bool neg,.int .i64 (b:Int),.slice a N c,.int .i64 x]:=by rw[<-hD];exact Row.new w2 _ _
  obtain⟨w3,hw3⟩:=zX (w2.alloc (.cells #[.int .i64 kind,.bool neg,.int .i64 (b:Int),.slice a N c,.int .i64 x] 87));rw[hw3]at HRB3 HG3 HV3 hrD;have HRD:=zH hrD;have HW3:=zH hw3;have HDD:=zH hD;have HRAT:=zH hrat;have HOK:=zH hok;have HN:=zH hN;have HOR:=zH hOR;have HRA:=zH hRA;clear hv hok hrat hN hOR hRA hw3 hgD hrD hD;go_upto_region 2 with fail;rw[HW3.out,HDD.out];have k0:=HRB3.out.cell 0;have k1:=HRB3.out.cell 1;have k2:=HRB3.out.cell 2;have t0:=HRB3.out.frozen 0;have t1:=HRB3.out.frozen 1;have t2:=HRB3.out.frozen 2;have m0:=HRD.out.cell 0;have m1:=HRD.out.cell 1;have m2:=HRD.out.cell 2;have m3:=HRD.out.cell 3;have m4:=HRD.out.cell 4;unfold ratZ at k0 k1 k2;simp only[List.getElem?_cons_zero,List.getElem?_cons_succ]at k0 k1 k2 m0 m1 m2 m3 m4;by_cases hk:kind=0
  case neg=>
   have hk':(kind != 0)=true:=by rw[bne_iff_ne];exact hk
   have hno:=HRAT.out;rw[if_pos hk]at hno;have HNO:=zH hno;clear hno;(go_wp2_with fail;repeat ((first|refine cZ ?_|refine cW ?_);go_wp2_with fail));obtain⟨ty,hrow⟩:=wp HRB3.out (.bool false) (.slice none 0 0) (.slice none 0 0);refine we (B:=B) (.agg ratZ.toArray) (.bool false) rfl ze ze zb zb ?_ (ku HNO.out (xk HG3.out hBw _ _ _));exact run_loadVar_row (P:=Tryz.prog) _ B ty 38 _ (0,0) _ hrow Tryz.underlying38 rfl zg
  subst hk;have hrat:=HRAT.out;rw[if_neg zi]at hrat;obtain⟨hb,hdb,hlb,hx1,hx2⟩:=HOK.out.2 rfl;have hN5:N<=1100000:=zd;by_cases hl0:l=[]
  ·rw[if_pos hl0]at hrat;have hN0:N=0:=by rw[<-HN.out,hl0];rfl
   subst hN0;have HRAT2:=zH hrat;have HNO:=zH (fun W=>ww 1 W zd);clear hrat hl0 hb hdb hlb;(go_wp2_with fail;repeat ((first|refine cZ ?_|refine cW ?_);go_wp2_with fail));refine wp_region_noPanic ?_;refine wp_region_held_drew (S:=fun W=>w.grownBy W none/\W.cell? ⟨D,1,none⟩=some (.bool neg)) zg ⟨ya HG3.out (yh w3 1 none),m1⟩ (fun hHeld=>?_);(refine yg 0 23 ?_);(refine xg 1 24 (oi:=?_) (v:=?_) ?_ ?_ zg zg zg (fun _ _ _ _ _ h=>h) ?_ zq ?_ ?_;rotate_left 2;(focus ((simp only[List.getElem?_toArray,List.getElem?_cons_succ,List.getElem?_cons_zero]);rfl));(focus rfl);(focus (first | rfl | (simp only[Region.wanted,yielded,List.getElem?_toArray,List.getElem?_cons_succ,List.getElem?_cons_zero,Option.bind_some,Option.map_some,Fr_get?,yc,yd];rfl) | go_simp));(focus (intro W hS;have hc:=hS.2;go_simp;try with_reducible rfl)));(refine zO 2 ?_;intro K hK;go_simp;(refine (HNO.out _).mono ?_;rintro e w9 ⟨v9,rfl,hn9,hg9⟩);go_wp2_with fail;replace hHeld:=And.intro (ya hHeld.1 hg9) (ytb hg9 hHeld.2);refine hK.out _ _ hHeld ?_;clear hK K);have hrB9:=(HRB3.out.drew).grown hg9 zi;obtain⟨a9,c9,rfl⟩:=hn9.len;generalize (yf 1).length=L9 at *
   clear k0 k1 k2 t0 t1 t2 hg9;(refine yg 3 26 ?_);have k0:=hrB9.cell 0;have k1:=hrB9.cell 1;have k2:=hrB9.cell 2;have t0:=hrB9.frozen 0;have t1:=hrB9.frozen 1;have t2:=hrB9.frozen 2;unfold ratZ at k0 k1 k2;simp only[List.getElem?_cons_zero,List.getElem?_cons_succ]at k0 k1 k2;have hDB:D≠B:=fun e=>hBD e.symm
   (refine zO 4 ?_;intro K hK;go_simp;(skip);go_wp2_with fail;replace hHeld:=And.intro (xk hHeld.1 hBw (.bool neg) (.slice none 0 0) (.slice a9 L9 c9)) (zm1 hDB hHeld.2 (.bool neg) (.slice none 0 0) (.slice a9 L9 c9));refine hK.out _ _ hHeld ?_;clear hK K);(refine yg 5 3 ?_);refine wpAnyH_done zg ?_ _;refine NoPanic.normal ?_;have hn9':NatV w9 (.slice a9 L9 c9) 1:=hn9;have hz:NatV w9 (.slice none 0 0) 0:=by unfold NatV;rw[xm];exact Or.inl ⟨rfl,rfl⟩
   have HR9:=zH hrB9;have HN9:=zH (yz hrB9 hn9' neg (.slice none 0 0) (.slice a9 L9 c9));have HZ9:=zH (yz hrB9 hz neg (.slice none 0 0) (.slice a9 L9 c9));have HH:=zH hHeld.1;clear hrB9 hn9 hn9' hz hHeld k0 k1 k2 t0 t1 t2;(go_wp2_with fail;repeat ((first|refine cZ ?_|refine cW ?_);go_wp2_with fail));obtain⟨ty,hrow⟩:=wp HR9.out (.bool neg) (.slice none 0 0) (.slice a9 L9 c9);refine we (B:=B) (.agg #[.bool neg,.slice none 0 0,.slice a9 L9 c9]) (.bool true) rfl ze ze zb zb ?_ (zbq HRAT2.out HH.out ⟨_,_,rfl,HZ9.out,HN9.out⟩);exact run_loadVar_row (P:=Tryz.prog) _ B ty 38 _ (0,0) _ hrow Tryz.underlying38 rfl zg
  rw[if_neg hl0]at hrat;have hN0:N≠0:=by rw[<-HN.out];exact fun e=>hl0 (List.length_eq_zero_iff.1 e)
  have e1:((N:Int)==0)=false:=zf;have e2:(N==0)=false:=zf;have HO:=zH (HOR.out hb zd zd zd);have hRA2:zb8 b l x=0->_:=fun h=>HRA.out hb hdb zd (zg1 h (by rw[HN.out];exact hN5)).1 (zg1 h (by rw[HN.out];exact hN5)).2
  have HRA2:=zH hRA2;have HRAT2:=zH hrat;clear hRA2 hrat hl0 hb hdb HOR HRA HOK;(go_wp2_with fail;repeat ((first|refine cZ ?_|refine cW ?_);go_wp2_with fail));refine (HO.out _ HV3.out).mono ?_;rintro e w5 ⟨rfl,hg5⟩;have HRB5:=zH (HRB3.out.grown hg5 zi);have HRD5:=zH (HRD.out.grown hg5 zi);have HG5:=zH (ya HG3.out hg5);have HV5:=zH (HV3.out.grown hg5);clear hg5 k0 k1 k2 t0 t1 t2 m0 m1 m2 m3 m4;have m0:=HRD5.out.cell 0;have m1:=HRD5.out.cell 1;have m2:=HRD5.out.cell 2;have m3:=HRD5.out.cell 3;have m4:=HRD5.out.cell 4;simp only[List.getElem?_cons_zero,List.getElem?_cons_succ]at m0 m1 m2 m3 m4;by_cases ho:zb8 b l x=0
  case neg=>
   have hno:=HRAT2.out;rw[if_pos ho]at hno;have HNO:=zH hno;have ho':(zb8 b l x != 0)=true:=by rw[bne_iff_ne];exact ho
   have k0:=HRB5.out.cell 0;have k1:=HRB5.out.cell 1;have k2:=HRB5.out.cell 2;have t0:=HRB5.out.frozen 0;have t1:=HRB5.out.frozen 1;have t2:=HRB5.out.frozen 2;unfold ratZ at k0 k1 k2;simp only[List.getElem?_cons_zero,List.getElem?_cons_succ]at k0 k1 k2;clear hno ho;generalize zb8 b l x=o at *
   (go_wp2_with fail;repeat ((first|refine cZ ?_|refine cW ?_);go_wp2_with fail));obtain⟨ty,hrow⟩:=wp HRB5.out (.bool false) (.slice none 0 0) (.slice none 0 0);refine we (B:=B) (.agg ratZ.toArray) (.bool false) rfl ze ze zb zb ?_ (ku HNO.out (xk HG5.out hBw _ _ _));exact run_loadVar_row (P:=Tryz.prog) _ B ty 38 _ (0,0) _ hrow Tryz.underlying38 rfl zg
  have hyes:=HRAT2.out;rw[if_neg (fun h=>h ho)]at hyes;have HYES:=zH hyes;have HRL:=zH (HRA2.out ho w5 HV5.out);rw[ho];clear hyes ho HRA2 HRAT2;(go_wp2_with fail;repeat ((first|refine cZ ?_|refine cW ?_);go_wp2_with fail));refine HRL.out.mono ?_;rintro e w6 ⟨vr,rfl,⟨vn,vd,rfl,hvn,hvd⟩,hg6⟩;have HRB6:=zH (HRB5.out.grown hg6 zi);have HG6:=zH (ya HG5.out hg6);have HVN:=zH hvn;have HVD:=zH hvd;obtain⟨an,cn,rfl⟩:=hvn.len;obtain⟨ad,cd,rfl⟩:=hvd.len;generalize (yf (jy b l*qk b^x.toNat)).length=Ln at *
  generalize (yf (qk b^(-x).toNat)).length=Ld at *
  have k0:=HRB6.out.cell 0;have k1:=HRB6.out.cell 1;have k2:=HRB6.out.cell 2;have t0:=HRB6.out.frozen 0;have t1:=HRB6.out.frozen 1;have t2:=HRB6.out.frozen 2;unfold ratZ at k0 k1 k2;simp only[List.getElem?_cons_zero,List.getElem?_cons_succ]at k0 k1 k2;clear hvn hvd hg6;(go_wp2_with fail;repeat ((first|refine cZ ?_|refine cW ?_);go_wp2_with fail));obtain⟨ty,hrow⟩:=wp HRB6.out (.bool neg) (.slice an Ln cn) (.slice ad Ld cd);refine we (B:=B) (.agg #[.bool neg,.slice an Ln cn,.slice ad Ld cd]) (.bool true) rfl ze ze zb zb ?_ (zbq HYES.out (xk HG6.out hBw _ _ _) ⟨_,_,rfl,yz HRB6.out HVN.out _ _ _,yz HRB6.out HVD.out _ _ _⟩);exact run_loadVar_row (P:=Tryz.prog) _ B ty 38 _ (0,0) _ hrow Tryz.underlying38 rfl zg 
end
def allD (b:Nat) (l:List UInt8):Prop:=∀ c ∈ l,isD b c=true
theorem allD.cons {b:Nat} {c:UInt8} {l:List UInt8} (h:allD b (c::l)):isD b c=true/\allD b l:=⟨h c zi,fun x hx=>h x (by simp[hx])⟩
theorem allD.append {b:Nat} {l m:List UInt8} (h:allD b l) (k:allD b m):allD b (l++m):=fun c hc=>(List.mem_append.1 hc).elim (h c) (k c)
theorem allD.take {b:Nat} {l:List UInt8} (h:allD b l) (n:Nat):allD b (l.take n):=fun c hc=>h c (List.mem_of_mem_take hc)
theorem allD.drop {b:Nat} {l:List UInt8} (h:allD b l) (n:Nat):allD b (l.drop n):=fun c hc=>h c (List.mem_of_mem_drop hc)
theorem allD.zeros (n:Nat):allD 10 (List.replicate n 48):=fun c hc=>by rw[(List.mem_replicate.1 hc).2];decide
theorem ykv {l:List UInt8} (h:∀ c ∈ l,zd2 c):allD 10 l:=fun c hc=>by
 unfold isD dig
 rw[if_pos (show 48<=c.toNat/\c.toNat<=57 from h c hc)];rfl
theorem yde {c:UInt8} (h:isD 10 c=true):48<=c.toNat/\c.toNat<=57:=by
 unfold isD dig at h;split at h
 ·assumption
 ·split at h
  ·rename_i h2;exact absurd h2.2 ze
  ·cases h
theorem dig10 {c:UInt8} (h:isD 10 c=true):dig 10 c=some (c.toNat-48):=by unfold dig;rw[if_pos (yde h)]
def ydy (b:Nat) (R:List UInt8):Prop:=R=[]\/∃ c r,R=c::r/\isD b c=false/\c≠95
theorem yd4 {b:Nat} {R:List UInt8} (h:ydy b R):yft b R=0:=by
 rcases h with rfl | ⟨c,r,rfl,h1,h2⟩
 ·rfl
 ·exact zaz b c r h1 (fun d r' _ hh=>h2 hh.1)
theorem yd5 {b:Nat} {R:List UInt8} (h:ydy b R):jh b R=0:=by
 rcases h with rfl | ⟨c,r,rfl,h1,h2⟩
 ·rfl
 ·rw[jh,if_neg (by rw[h1];simp)]
theorem yes {b:Nat} {A R:List UInt8} (hA:allD b A) (hR:ydy b R):yft b (A++R)=A.length:=by
 induction A with
 | nil=>exact yd4 hR
 | cons c r ih=>rw[List.cons_append,zjt b c _ hA.cons.1,ih hA.cons.2,List.length_cons];omega
theorem yc5 {b:Nat} {A R:List UInt8} (hA:allD b A) (hR:ydy b R):jh b (A++R)=A.length:=by
 cases A with
 | nil=>exact yd5 hR
 | cons c r=>rw[List.cons_append,jh,if_pos hA.cons.1,yes hA.cons.2 hR,List.length_cons];omega
def pT:Option (List UInt8)->List UInt8
 | none=>[]
 | some F=>46::F
def pF:Option (List UInt8)->List UInt8
 | none=>[]
 | some F=>F
def xT (lt:UInt8):Option (UInt8×List UInt8)->List UInt8
 | none=>[]
 | some (sg,E)=>lt::sg::E
def xV:Option (UInt8×List UInt8)->Int
 | none=>0
 | some (sg,E)=>if sg=45 then -(ki (dgL 10 E):Int) else (ki (dgL 10 E):Int)
def okX:Option (UInt8×List UInt8)->Prop
 | none=>True
 | some (sg,E)=>(sg=43\/sg=45)/\allD 10 E/\E≠[]
theorem yri (b:Nat) (lt:UInt8) (h1:isD b lt=false) (h2:lt≠95) (X:Option (UInt8×List UInt8)):ydy b (xT lt X):=by
 cases X with
 | none=>exact Or.inl rfl
 | some p=>exact Or.inr ⟨lt,_,rfl,h1,h2⟩
theorem yrx (b:Nat) (lt:UInt8) (h1:isD b lt=false) (h2:lt≠95) (h3:isD b 46=false) (P:Option (List UInt8)) (X:Option (UInt8×List UInt8)):ydy b (pT P++xT lt X):=by
 cases P with
 | none=>exact yri b lt h1 h2 X
 | some F=>exact Or.inr ⟨46,_,rfl,h3,ze⟩
theorem ysm (lt:UInt8) (sg:UInt8) (E:List UInt8) (h:okX (some (sg,E))):jc lt (lt::sg::E)=some (xV (some (sg,E))):=by
 obtain⟨h1,h2,h3⟩:=h;have hrun:jh 10 E=E.length:=by have:=yc5 (R:=[]) h2 (Or.inl rfl);rwa [List.append_nil]at this
 simp only[jc];rw[if_neg zi];rcases h1 with rfl | rfl
 ·have e:sgL (43::E)=(false,E):=by simp[sgL]
  rw[e];unfold zft;rw[if_neg (by rw[hrun];simp[h3])];rfl
 ·have e:sgL (45::E)=(true,E):=by simp[sgL]
  rw[e];unfold zft;rw[if_neg (by rw[hrun];simp[h3])];rfl
theorem yez {b:Nat} {l:List UInt8} (h:allD b l):zkq b l=l.length:=by
 unfold zkq;rw[List.countP_eq_length];exact h
theorem yns (u A:List UInt8) (P:Option (List UInt8)) (X:Option (UInt8×List UInt8)) (lt:UInt8) (hu:u.drop (vy u)=A++(pT P++xT lt X)) (hlt:za2 u=lt) (hA0:A≠[]) (hA:allD (wb u) A) (hF:allD (wb u) (pF P)) (hX:okX X)
  (h1:isD (wb u) lt=false) (h2:lt≠95) (h2':lt≠46) (h3:isD (wb u) 46=false) (hx16:wb u=16->X≠none):
  zf8 u=some (xV X-((zpy u*(pF P).length:Nat):Int))/\nDigits u=dgL (wb u) (A++pF P):=by
 have hdl:u.length=vy u+(A++(pT P++xT lt X)).length:=by
  have:=congrArg List.length hu;rw[List.length_drop]at this;have h:=zcb u;omega
 have hdrop:∀ k,u.drop (vy u+k)=(A++(pT P++xT lt X)).drop k:=fun k=>by rw[<-hu,List.drop_drop]
 have hget:∀ k,u.getD (vy u+k) 0=(A++(pT P++xT lt X)).getD k 0:=fun k=>by
  rw[List.getD_eq_getElem?_getD,List.getD_eq_getElem?_getD,<-hu,List.getElem?_drop]
 have hr1:jh (wb u) (u.drop (vy u))=A.length:=by rw[hu];exact yc5 hA (yrx _ lt h1 h2 h3 P X)
 have hI1:nI1 u=vy u+A.length:=by unfold nI1;rw[hr1]
 have hfst:kl u=A:=by unfold kl;rw[hr1,hu,List.take_left'];rfl
 have hat:u.getD (nI1 u) 0=(pT P++xT lt X).getD 0 0:=by
  rw[hI1,hget,List.getD_eq_getElem?_getD,List.getD_eq_getElem?_getD,List.getElem?_append_right (Nat.le_refl _),Nat.sub_self]
 have hpt:nPt u↔P≠none:=by
  unfold nPt;rw[hat,hI1,hdl,List.length_append,List.length_append];cases P with
  | none=>
   simp only[pT,List.nil_append,ne_eq,not_true_eq_false,iff_false,not_and];intro _;cases X with
   | none=>simp[xT]
   | some p=>simp only[xT,List.getD_cons_zero];exact h2'
  | some F=>simp[pT];omega
 have hsnd:xz u=pF P/\nI2 u=vy u+(A++pT P).length:=by
  unfold xz nI2;cases P with
  | none=>rw[if_neg (by rw[hpt];simp),if_neg (by rw[hpt];simp),hI1];simp[pF,pT]
  | some F=>
   have hd2:u.drop (nI1 u+1)=F++xT lt X:=by
    rw[hI1,Nat.add_assoc,hdrop,List.drop_append,List.drop_of_length_le zd,Nat.add_sub_cancel_left];rfl
   have hr2:jh (wb u) (u.drop (nI1 u+1))=F.length:=by rw[hd2];exact yc5 hF (yri _ lt h1 h2 X)
   rw[if_pos (hpt.2 zi),if_pos (hpt.2 zi),hr2,hd2,List.take_left' rfl];refine⟨rfl,?_⟩;rw[hI1];simp only[pT,List.length_append,List.length_cons];omega
 have hdX:u.drop (nI2 u)=xT lt X:=by
  rw[hsnd.2,hdrop,<-List.append_assoc,List.drop_left' rfl]
 have hexp:zpz u=some (xV X):=by
  unfold zpz;rw[hlt,hdX];have hlen:nI2 u<u.length↔X≠none:=by
   rw[hsnd.2,hdl];simp only[List.length_append];cases X with
   | none=>simp[xT]
   | some p=>simp[xT]
  cases X with
  | none=>
   rw[if_neg]
   ·rfl
   ·rintro (h | h)
    ·exact absurd rfl (hlen.1 h)
    ·exact absurd rfl (hx16 h)
  | some p=>rw[if_pos (Or.inl (hlen.2 zi))];exact ysm lt p.1 p.2 hX
 refine⟨?_,by unfold nDigits;rw[hfst,hsnd.1]⟩;unfold zf8;rw[hfst,hsnd.1,if_neg (fun h=>hA0 h.1),hexp,yez hF];rfl
theorem yc7 (s:List UInt8) (h:∀ c ∈ s,¬(65<=c.toNat/\c.toNat<=90)):xf s=s:=by
 unfold xf;induction s with
 | nil=>rfl
 | cons c r ih=>
  rw[List.map_cons,ih (fun x hx=>h x (by simp[hx]))];unfold vb;rw[if_neg (h c zi)]
theorem ydp (neg:Bool) (u:List UInt8) (c:UInt8) (r:List UInt8) (hu:u=c::r) (hc:isD 10 c=true) (hl:xf u=u) (x:Int) (hx:zf8 u=some x):ul (eSign neg++u)=some ⟨0,neg,wb u,nDigits u,x⟩:=by
 have hcc:=yde hc;have ne:∀ k:UInt8,¬(48<=k.toNat/\k.toNat<=57)->c≠k:=fun k hk e=>hk (e ▸ hcc)
 have hlow:xf (eSign neg++u)=eSign neg++u:=by
  have:xf (eSign neg++u)=xf (eSign neg)++xf u:=by unfold xf;rw[List.map_append]
  rw[this,hl];cases neg <;> rfl
 have hsg:sgL (eSign neg++u)=(neg,u):=by
  rw[hu];cases neg
  ·simp only[eSign,Bool.false_eq_true,if_false,List.nil_append,sgL];rw[if_neg (ne 43 ze),if_neg (ne 45 ze)]
  ·simp[eSign,sgL]
 unfold ul;rw[hlow,hsg,if_neg]
 ·unfold zna;rw[if_neg,hx]
  ·rfl
  ·rw[hu];rintro (h | h)
   ·exact ne 105 ze (List.cons.inj h).1
   ·exact ne 105 ze (List.cons.inj h).1
 ·rw[hu];intro h;cases neg
  ·exact ne 110 ze (List.cons.inj h).1
  ·have:=(List.cons.inj h).1;revert this;decide
theorem ypj (neg:Bool) (A:List UInt8) (P:Option (List UInt8)) (X:Option (UInt8×List UInt8)) (hA0:A≠[]) (hA:allD 10 A) (hF:allD 10 (pF P)) (hX:okX X):
  ul (eSign neg++(A++(pT P++xT 101 X)))=some ⟨0,neg,10,dgL 10 (A++pF P),xV X-(((pF P).length:Nat):Int)⟩:=by
 obtain⟨u,hu⟩:=zX (A++(pT P++xT 101 X));rw[hu];have hmem:∀ c ∈ u,(48<=c.toNat/\c.toNat<=57)\/c=46\/c=101\/c=43\/c=45:=by
  intro c hc;rw[<-hu,List.mem_append,List.mem_append]at hc;rcases hc with hc | hc | hc
  ·exact Or.inl (yde (hA c hc))
  ·cases P with
   | none=>cases hc
   | some F=>
    rcases List.mem_cons.1 hc with h | h
    ·exact Or.inr (Or.inl h)
    ·exact Or.inl (yde (hF c h))
  ·cases X with
   | none=>cases hc
   | some p=>
    obtain⟨sg,E⟩:=p;obtain⟨h1,h2,h3⟩:=hX;simp only[xT,List.mem_cons]at hc;rcases hc with h | h | h
    ·exact Or.inr (Or.inr (Or.inl h))
    ·rcases h1 with rfl | rfl
     ·exact Or.inr (Or.inr (Or.inr (Or.inl h)))
     ·exact Or.inr (Or.inr (Or.inr (Or.inr h)))
    ·exact Or.inl (yde (h2 c h))
 have hnx:¬zd4 u:=by
  rintro⟨h1,_,h3⟩;have hm:u.getD 1 0 ∈ u:=by rw[List.getD_eq_getElem?_getD,List.getElem?_eq_getElem h1];exact List.getElem_mem _
  rw[h3]at hm;rcases hmem 120 hm with h | h | h | h | h <;> revert h <;> decide
 have hb:wb u=10:=by unfold wb;rw[if_neg hnx]
 have hf0:vy u=0:=by unfold vy;rw[if_neg hnx]
 have hp:zpy u=1:=by unfold zpy;rw[hb];rfl
 have hl:za2 u=101:=by unfold za2;rw[hb];rfl
 obtain⟨h1,h2⟩:=yns u A P X 101 (by rw[hf0,List.drop_zero,hu]) hl hA0 (by rw[hb];exact hA) (by rw[hb];exact hF) hX (by rw[hb];decide) ze ze (by rw[hb];decide) (by rw[hb];intro h;cases h);rw[hp,Nat.one_mul]at h1;rw[hb]at h2;obtain⟨c,r,hcr⟩:∃ c r,u=c::r:=by
  cases A with
  | nil=>exact absurd rfl hA0
  | cons c r=>exact⟨c,_,hu.symm⟩
 have hcd:isD 10 c=true:=by
  cases A with
  | nil=>exact absurd rfl hA0
  | cons c' r'=>
   have:=hu.trans hcr;rw[List.cons_append]at this;rw[<-(List.cons.inj this).1];exact hA.cons.1
 have:=ydp neg u c r hcr hcd (yc7 u (fun c hc=>by rcases hmem c hc with h | rfl | rfl | rfl | rfl <;> first | omega | decide)) _ h1;rw[this,hb,h2]
theorem yco (b:Nat) (l:List Nat) (d:Nat):jy b (l++[d])=jy b l*b+d:=by unfold jy;rw[List.foldl_append];rfl
theorem yd8 (v d:Nat) (hv:v≠0) (hd:d<=9):yi (v*10+d)=yi v+1:=by
 have h1:=qh hv;have h2:=xi v;have h3:=yfr hv;obtain⟨k,hk⟩:∃ k,yi v=k+1:=⟨yi v-1,zd⟩;rw[hk]at h1 h2 ⊢;rw[Nat.add_sub_cancel]at h1;refine xa (k+1) _ ?_ ?_
 ·rw[Nat.pow_succ];omega
 ·rw[Nat.pow_succ];omega
theorem yem (b:Nat) (l:List UInt8) (c:UInt8):dgL b (l++[c])=vp b (dgL b l) c:=by unfold dgL;rw[List.foldl_append];rfl
theorem ydm (n:Nat):∀ (l:List UInt8),l.length=n->allD 10 l->jy 10 (dgL 10 l)=zd5 l/\(dgL 10 l).length=yi (zd5 l):=by
 induction n with
 | zero=>
  intro l hl _;have:l=[]:=List.length_eq_zero_iff.1 hl;subst this;exact⟨rfl,rfl⟩
 | succ n ih=>
  intro l hl hA;have hne:l≠[]:=by intro h;rw[h]at hl;cases hl
  obtain⟨m,c,rfl⟩:∃ m c,l=m++[c]:=⟨l.dropLast,l.getLast hne,(List.dropLast_concat_getLast hne).symm⟩;have hm:m.length=n:=by rw[List.length_append]at hl;simpa using hl
  obtain⟨h1,h2⟩:=ih m hm (fun x hx=>hA x (by simp[hx]));have hc:=hA c zi;have hcc:=yde hc;rw[yem,zi3];unfold vp;rw[dig10 hc];dsimp only;by_cases h:0<c.toNat-48\/dgL 10 m≠[]
  ·rw[if_pos h,yco,h1,List.length_append,h2];refine⟨rfl,?_⟩;by_cases h0:zd5 m=0
   ·rw[h0,kw];have h3:dgL 10 m=[]:=by rw[h0,kw]at h2;exact List.length_eq_zero_iff.1 h2
    have h4:0<c.toNat-48:=h.resolve_right (fun hh=>hh h3);rw[Nat.zero_mul,Nat.zero_add];exact (xa 0 _ zd zd).symm
   ·exact (yd8 _ _ h0 zd).symm
  ·rw[if_neg h];have h3:dgL 10 m=[]:=Classical.byContradiction (fun hh=>h (Or.inr hh));have h4:c.toNat-48=0:=by have:=fun hh=>h (Or.inl hh);omega
   have h5:zd5 m=0:=by rw[<-h1,h3];rfl
   rw[h3,h4,h5];exact⟨rfl,rfl⟩
def rdV (neg:Bool) (v:Nat) (x:Int):Bool×Nat×Nat:=if v=0 then (neg,0,1) else (neg,v*10^x.toNat,10^(-x).toNat)
theorem yl1 (neg:Bool) (A:List UInt8) (P:Option (List UInt8)) (X:Option (UInt8×List UInt8)) (hA0:A≠[]) (hA:allD 10 A) (hF:allD 10 (pF P)) (hX:okX X)
  (h1:zd5 (A++pF P)≠0->(yi (zd5 (A++pF P)):Int)-1+(xV X-(((pF P).length:Nat):Int))<=400) (h2:zd5 (A++pF P)≠0->-400<=(yi (zd5 (A++pF P)):Int)-1+(xV X-(((pF P).length:Nat):Int))):
  zjy (eSign neg++(A++(pT P++xT 101 X)))=some (rdV neg (zd5 (A++pF P)) (xV X-(((pF P).length:Nat):Int))):=by
 unfold zjy;rw[ypj neg A P X hA0 hA hF hX];dsimp only;obtain⟨h3,h4⟩:=ydm _ (A++pF P) rfl (hA.append hF);rw[if_neg zi];unfold rdV;by_cases h0:zd5 (A++pF P)=0
 ·have h5:dgL 10 (A++pF P)=[]:=by rw[h0,kw]at h4;exact List.length_eq_zero_iff.1 h4
  rw[if_pos h5,if_pos h0]
 ·have h5:dgL 10 (A++pF P)≠[]:=by intro h;apply h0;rw[<-h3,h];rfl
  have hord:zb8 10 (dgL 10 (A++pF P)) (xV X-(((pF P).length:Nat):Int))=0:=by
   unfold zb8;rw[if_neg h5,if_neg ze,h4];have:=h1 h0;have:=h2 h0;rw[if_neg zd,if_neg zd]
  rw[if_neg h5,if_neg (fun h=>h hord),if_neg h0,h3];rfl
theorem yet (V:Nat) (E:Int) (k1 k2:Nat):(V*10^k1*10^(E-(k1:Int)).toNat)*10^(-(E-(k2:Int))).toNat=(V*10^k2*10^(E-(k2:Int)).toNat)*10^(-(E-(k1:Int))).toNat:=by
 simp only[Nat.mul_assoc,<-Nat.pow_add];congr 2;omega
theorem ycw (l:List UInt8) (k:Nat):zd5 (l++List.replicate k 48)=zd5 l*10^k:=by
 induction k with
 | zero=>simp
 | succ k ih=>
  rw[List.replicate_succ',<-List.append_assoc,zi3,ih,Nat.pow_succ];show zd5 l*10^k*10+0=_;rw[Nat.add_zero,Nat.mul_assoc]
theorem ydg (k:Nat) (l:List UInt8):zd5 (List.replicate k 48++l)=zd5 l:=by
 induction k with
 | zero=>simp
 | succ k ih=>
  rw[List.replicate_succ,List.cons_append,zd5,ih];show 0*_+_=_;omega
theorem yei (n:Nat):∀ l:List Nat,l.length=n->ki l=min (jy 10 l) 1000000000000000:=by
 induction n with
 | zero=>intro l hl;rw[List.length_eq_zero_iff.1 hl];rfl
 | succ n ih=>
  intro l hl;have hne:l≠[]:=by intro h;rw[h]at hl;cases hl
  obtain⟨m,c,rfl⟩:∃ m c,l=m++[c]:=⟨l.dropLast,l.getLast hne,(List.dropLast_concat_getLast hne).symm⟩;have hm:=ih m (by rw[List.length_append]at hl;simpa using hl);have e:ki (m++[c])=min (ki m*10+c) 1000000000000000:=by unfold ki;rw[List.foldl_append];rfl
  rw[e,hm,yco];omega
theorem yej (E:List UInt8) (h:allD 10 E) (hl:zd5 E<1000000000000000):ki (dgL 10 E)=zd5 E:=by
 rw[yei _ _ rfl,(ydm _ E rfl h).1];omega
theorem yeu (n:Nat) (h:n<=9):isD 10 (UInt8.ofNat (48+n))=true/\(UInt8.ofNat (48+n)).toNat=48+n:=by
 have e:(UInt8.ofNat (48+n)).toNat=48+n:=by rw[UInt8.toNat_ofNat'];omega
 refine⟨?_,e⟩;unfold isD dig;rw[e,if_pos zd];rfl
theorem ys6 (e:Int) (h1:-999<=e) (h2:e<=999):∃ sg E,expL e=sg::E/\okX (some (sg,E))/\xV (some (sg,E))=e:=by
 have key:∀ E:List UInt8,allD 10 E->E≠[]->zd5 E=e.natAbs->okX (some ((if e<0 then 45 else 43),E))/\xV (some ((if e<0 then 45 else 43),E))=e:=by
  intro E hE h0 hv;refine⟨⟨by split <;> simp,hE,h0⟩,?_⟩;dsimp only[xV];rw[yej E hE zd,hv];by_cases hn:e<0
  ·rw[if_pos hn,if_pos rfl];omega
  ·rw[if_neg hn,if_neg ze];omega
 unfold expL;by_cases h10:e.natAbs<10
 ·rw[if_pos h10];obtain⟨i1,i2⟩:=yeu e.natAbs zd;refine⟨_,_,rfl,key _ ?_ zi ?_⟩
  ·intro c hc;simp only[List.mem_cons,List.not_mem_nil,or_false]at hc;rcases hc with rfl | rfl
   ·decide
   ·exact i1
  ·simp only[zd5,i2,List.length_cons,List.length_nil];show 0*_+_=_;omega
 ·by_cases h100:e.natAbs<100
  ·rw[if_neg h10,if_pos h100];obtain⟨i1,i2⟩:=yeu (e.natAbs / 10) zd;obtain⟨j1,j2⟩:=yeu (e.natAbs%10) zd;refine⟨_,_,rfl,key _ ?_ zi ?_⟩
   ·intro c hc;simp only[List.mem_cons,List.not_mem_nil,or_false]at hc;rcases hc with rfl | rfl
    ·exact i1
    ·exact j1
   ·simp only[zd5,i2,j2,List.length_cons,List.length_nil];omega
  ·rw[if_neg h10,if_neg h100];obtain⟨i1,i2⟩:=yeu (e.natAbs / 100) zd;obtain⟨j1,j2⟩:=yeu (e.natAbs / 10%10) zd;obtain⟨k1,k2⟩:=yeu (e.natAbs%10) zd;refine⟨_,_,rfl,key _ ?_ zi ?_⟩
   ·intro c hc;simp only[List.mem_cons,List.not_mem_nil,or_false]at hc;rcases hc with rfl | rfl | rfl
    ·exact i1
    ·exact j1
    ·exact k1
   ·simp only[zd5,i2,j2,k2,List.length_cons,List.length_nil];omega
def dxv (ds:List UInt8) (dp:Int):Int:=dp-(ds.length:Int)
theorem ypl (neg:Bool) (ds:List UInt8) (dp pr:Int) (hd:∀ c ∈ ds,zd2 c) (hpr:(ds.length:Int)-1<=pr) (hdp1:-390<=dp) (hdp2:dp<=390) (hlead:ds≠[]->yi (zd5 ds)=ds.length) (hpr2:pr<=100000) (hl:ds.length<=1000):
  ∃ k:Nat,(k:Int)<=400+max pr 0/\zjy (ymm neg ds dp pr 101)=some (rdV neg (zd5 ds*10^k) (dxv ds dp-(k:Int))):=by
 have hA:=ykv hd;have hee:-999<=ynz ds dp/\ynz ds dp<=999:=zγA;obtain⟨sg,E,hE,hok,hxv⟩:=ys6 (ynz ds dp) hee.1 hee.2;unfold ymm;rw[hE];have hfr:∃ P:Option (List UInt8),ykt ds pr=pT P/\allD 10 (pF P)/\[ds.headD 48]++pF P=(if ds=[] then [48] else ds)++List.replicate ((if ds=[] then pr else pr-((ds.length:Int)-1))).toNat 48/\((pF P).length:Int)=max pr 0:=by
  unfold ykt;by_cases h0:0<pr
  ·rw[if_pos h0];refine⟨some _,rfl,?_,?_,?_⟩
   ·exact ((hA.drop 1).take _).append (allD.zeros _)
   ·cases ds with
    | nil=>simp[pF]
    | cons c r=>
     have hr:(r.length:Int)<=pr:=by simp only[List.length_cons]at hpr;omega
     simp only[pF,List.headD_cons,List.drop_succ_cons,List.drop_zero,reduceCtorEq,if_false,List.length_cons];rw[List.take_of_length_le zd];rw[<-List.append_assoc];congr 2;omega
   ·simp only[pF,List.length_append,List.length_replicate,List.length_take,List.length_drop];omega
  ·rw[if_neg h0];refine⟨none,rfl,?_,?_,?_⟩
   ·intro c hc;cases hc
   ·cases ds with
    | nil=>simp[pF];omega
    | cons c r=>
     simp only[List.length_cons]at hpr;have hr:r=[]:=List.length_eq_zero_iff.1 zd;subst hr;simp[pF];omega
   ·simp[pF];omega
 obtain⟨P,hP,hF,hAF,hFl⟩:=hfr;rw[hP];have hsh:eSign neg++([ds.headD 48]++(pT P++([UInt8.ofNat (101:Int).toNat]++sg::E)))=eSign neg++([ds.headD 48]++(pT P++xT 101 (some (sg,E)))):=rfl;rw[hsh];have hhd:allD 10 [ds.headD 48]:=by
  intro c hc;rw[List.mem_singleton.1 hc];cases ds with
  | nil=>decide
  | cons c r=>exact hA c zi
 by_cases h0:ds=[]
 ·subst h0;have hv:zd5 ([([]:List UInt8).headD 48]++pF P)=0:=by
   rw[hAF,if_pos rfl,ycw];have:zd5 [48]=0:=rfl;rw[this,Nat.zero_mul]
  refine⟨0,zd,?_⟩;rw[yl1 neg _ P (some (sg,E)) zi hhd hF hok (fun h=>absurd hv h) (fun h=>absurd hv h),hv];simp[rdV,zd5]
 ·have hv:zd5 ([ds.headD 48]++pF P)=zd5 ds*10^(pr-((ds.length:Int)-1)).toNat:=by
   rw[hAF,if_neg h0,if_neg h0,ycw]
  have hln:=hlead h0;have hlpos:1<=ds.length:=by cases ds with
   | nil=>exact absurd rfl h0
   | cons c r=>simp
  have hds0:zd5 ds≠0:=by intro h;rw[h,kw]at hln;omega
  have hnd:yi (zd5 ds*10^(pr-((ds.length:Int)-1)).toNat)=ds.length+(pr-((ds.length:Int)-1)).toNat:=by
   generalize (pr-((ds.length:Int)-1)).toNat=k;induction k with
   | zero=>simpa using hln
   | succ k ih=>
    rw[Nat.pow_succ,<-Nat.mul_assoc,za3 (Nat.mul_ne_zero hds0 (Nat.ne_of_gt (Nat.pow_pos zd))),ih];omega
  have hx:ynz ds dp=dp-1:=by unfold ynz;rw[if_neg h0]
  refine⟨(pr-((ds.length:Int)-1)).toNat,zd,?_⟩;rw[yl1 neg _ P (some (sg,E)) zi hhd hF hok (fun _=>by rw[hv,hnd,hxv,hx];omega) (fun _=>by rw[hv,hnd,hxv,hx];omega),hv,hxv,hx];congr 2;unfold dxv;omega
theorem yu8:∀ c:UInt8,48<=c.toNat/\c.toNat<=57->xe false c=true/\c≠95/\c≠43/\c≠45/\c≠105/\c≠73/\c≠110/\c≠78/\vb c≠105:=
 fun c=>vu (fun c=>48<=c.toNat/\c.toNat<=57->xe false c=true/\c≠95/\c≠43/\c≠45/\c≠105/\c≠73/\c≠110/\c≠78/\vb c≠105) zp c
theorem yvl {l:List UInt8} (h:∀ c ∈ l,zd2 c):(∀ c ∈ l,xe false c=true)/\l.contains 95=false/\(l.filterMap (dgV false)).length=l.length:=by
 induction l with
 | nil=>exact⟨fun c hc=>(by cases hc),rfl,rfl⟩
 | cons c r ih=>
  obtain⟨h1,h2,h3⟩:=ih (fun x hx=>h x (by simp[hx]));have hc:=h c zi;have hf:=yu8 c hc;have hs:=(zfy c).2 hc;obtain⟨d,hd⟩:=Option.isSome_iff_exists.1 hs;refine⟨fun x hx=>?_,?_,?_⟩
  ·rcases List.mem_cons.1 hx with rfl | hx
   ·exact hf.1
   ·exact h1 x hx
  ·rw[List.contains_cons,h2,Bool.or_false,beq_eq_false_iff_ne];exact fun e=>hf.2.1 e.symm
  ·rw[List.filterMap_cons,hd];simp[h3]
theorem yw6:∀ (l:List Nat) (st:RF),st.tr=false->st.nm+l.length<=19->(l.foldl (dgS false) st).tr=false/\(l.foldl (dgS false) st).nm<=st.nm+l.length
 | [],st,h,_=>⟨h,Nat.le_refl _⟩
 | d::l,st,h,hn=>by
  simp only[List.length_cons]at hn ⊢
  have hs:(dgS false st d).tr=false/\(dgS false st d).nm<=st.nm+1:=by
   unfold dgS ju;split
   ·exact⟨h,zw⟩
   ·rw[if_pos (by simp only[Bool.false_eq_true,if_false];omega)];exact⟨h,zw⟩
  have ih:=yw6 l (dgS false st d) hs.1 zd;rw[List.foldl_cons];exact⟨ih.1,zd⟩
theorem yxc (da db:List Nat) (h:da.length+db.length<=19):(stL false da db).tr=false:=by
 unfold stL;obtain⟨h1,h2⟩:=yw6 da RF.init rfl (by show 0+da.length<=19;omega);have h3:(da.foldl (dgS false) RF.init).nm<=0+da.length:=h2;exact (yw6 db { da.foldl (dgS false) RF.init with dp:=((da.foldl (dgS false) RF.init).nd:Nat) } h1 (by show (da.foldl (dgS false) RF.init).nm+db.length<=19;omega)).1
theorem yug (neg:Bool) (c0:UInt8) (r:List UInt8) (dp:Int):ymm neg (c0::r) dp (((c0::r).length:Int)-1) 101=eSign neg++(c0::((if r=[] then [] else 46::r)++(101::expL (ynz (c0::r) dp)))):=by
 unfold ymm ykt;have h1:((c0::r).length:Int)-1=(r.length:Int):=zi;rw[h1];cases r with
 | nil=>rfl
 | cons x t=>
  rw[if_pos zi,if_neg zi];simp only[List.drop_succ_cons,List.drop_zero,Int.toNat_natCast,List.take_length,Nat.sub_self,List.replicate_zero,List.append_nil,List.headD_cons,List.singleton_append];rfl
theorem lit_e (neg:Bool) (c0:UInt8) (r:List UInt8) (dp:Int) (hd:∀ c ∈ c0::r,zd2 c) (h19:r.length<=18) (hdp1:-900<=dp) (hdp2:dp<=900):
  qp (ymm neg (c0::r) dp (((c0::r).length:Int)-1) 101)=none/\∃ R,rfP (ymm neg (c0::r) dp (((c0::r).length:Int)-1) 101)=some R/\R.hex=false/\R.tr=false:=by
 rw[yug];have hee:-999<=ynz (c0::r) dp/\ynz (c0::r) dp<=999:=zγA;obtain⟨sg,E,hE,⟨hsg,hEd,hE0⟩,-⟩:=ys6 (ynz (c0::r) dp) hee.1 hee.2;rw[hE];have hc0:=yu8 c0 (hd c0 zi);have hrd:=yvl (l:=r) (fun c hc=>hd c (by simp[hc]));have hEg:=yvl (l:=E) (fun c hc=>yde (hEd c hc));obtain⟨F,hF⟩:=zX ((if r=[] then [] else 46::r));rw[hF];obtain⟨u,hu⟩:=zX (c0::(F++(101::sg::E)));rw[hu];have hs:sgn (eSign neg++u)=(neg,u):=by
  cases neg
  ·show sgn u=(false,u);rw[<-hu,xq,if_neg hc0.2.2.1,if_neg hc0.2.2.2.1]
  ·rfl
 constructor
 ·have hcp:cpL u infinityL=0:=by
   rw[<-hu];show (if vb c0=105 then _ else 0)=0;rw[if_neg hc0.2.2.2.2.2.2.2.2]
  cases neg
  ·show qp u=none;rw[<-hu,qp,if_neg hc0.2.2.1,if_neg hc0.2.2.2.1,if_neg (by rintro (h | h);exact hc0.2.2.2.2.1 h;exact hc0.2.2.2.2.2.1 h),if_neg (by rintro (h | h);exact hc0.2.2.2.2.2.2.1 h;exact hc0.2.2.2.2.2.2.2.1 h)]
  ·show zd3 true 1 u=none;unfold zd3;rw[hcp];rfl
 have h101:xe false 101=false:=ze;have h46:xe false 46=false:=ze;have hx:yo u=false:=by
  rw[<-hu,<-hF];cases r with
  | nil=>exact decide_eq_false (fun h=>absurd h.2 ze)
  | cons x t=>exact decide_eq_false (fun h=>absurd h.2 ze)
 have hb:yj (eSign neg++u)=u:=by unfold yj;rw[hs];dsimp only;rw[hx];rfl
 have hA:ve false u=[c0]/\qi false u=F++(101::sg::E):=by
  unfold ve qi;rw[<-hu,List.takeWhile_cons_of_pos hc0.1,List.dropWhile_cons_of_pos hc0.1,<-hF];by_cases h0:r=[]
  ·rw[if_pos h0,List.nil_append,List.takeWhile_cons_of_neg (by rw[h101];decide),List.dropWhile_cons_of_neg (by rw[h101];decide)];exact⟨rfl,rfl⟩
  ·rw[if_neg h0,List.cons_append,List.takeWhile_cons_of_neg (by rw[h46];decide),List.dropWhile_cons_of_neg (by rw[h46];decide)];exact⟨rfl,rfl⟩
 have hB:yw false u=r/\wx false u=101::sg::E:=by
  unfold yw wx;rw[hA.2,<-hF];by_cases h0:r=[]
  ·subst h0;rw[if_pos rfl,List.nil_append,if_neg zi,if_neg zi];exact⟨rfl,rfl⟩
  ·rw[if_neg h0,List.cons_append,if_pos (show (46::(r++101::sg::E)).head?=some 46 from rfl),if_pos (show (46::(r++101::sg::E)).head?=some 46 from rfl),List.tail_cons,List.takeWhile_append_of_pos hrd.1,List.dropWhile_append_of_pos hrd.1,List.takeWhile_cons_of_neg (by rw[h101];decide),List.dropWhile_cons_of_neg (by rw[h101];decide),List.append_nil];exact⟨rfl,rfl⟩
 have hE2:(sgn (sg::E)).2=E:=by
  rw[xq];rcases hsg with h | h
  ·rw[if_pos h]
  ·rw[h,if_neg ze,if_pos rfl]
 have hlE:zhr false (101::sg::E)=some ((sgn (sg::E)).1,E.filterMap (dgV false)):=by
  rw[zhr,hE2,if_pos ⟨ze,hE0,List.all_eq_true.2 hEg.1,znl false E 94 hEg.2.1 ze⟩]
 have hA1:[c0].contains 95=false:=by rw[List.contains_cons];simpa using fun e:95=c0=>hc0.2.1 e.symm
 have hl1:([c0].filterMap (dgV false)).length=1:=(yvl (l:=[c0]) (fun c hc=>hd c (by simp at hc;simp[hc]))).2.2;have hlit:zau (eSign neg++u)=some ⟨neg,false,[c0].filterMap (dgV false),r.filterMap (dgV false),(sgn (sg::E)).1,E.filterMap (dgV false)⟩:=by
  rw[jv];unfold zdb;rw[hb,hs];dsimp only;rw[hx,hA.1,hB.1,hB.2,if_neg (fun h=>by have:=h.1;rw[this]at hl1;cases hl1),if_pos ⟨znl false [c0] _ hA1 ze,znl false r 94 hrd.2.1 ze⟩,hlE];rfl
 refine⟨_,zm9 hlit,rfl,yxc _ _ ?_⟩;show ([c0].filterMap (dgV false)).length+(r.filterMap (dgV false)).length<=19;rw[hl1,hrd.2.2];omega
section
attribute [local go_sem] undef
set_option maxRecDepth 100000 in
theorem yvk (size:Int) (b:Nat) (neg:Bool) (N D:Nat) (f:Int) (c:UInt8) (prec:Int) (sx:List UInt8) (se:Int) (hf:f=101/\c=101\/f=69/\c=69) (hx1:1<=sx.length) (hx2:sx.length<=7000) (he1:-1000<=se) (he2:se<=1000) (w:World)
  (hI:∀ W,Calls Tryz.prog 26 #[.int .i64 size,.int .u64 (b:Int)] W fun e w'=>e=.returned (.bool neg)/\W=w')
  (hK:∀ W,Calls Tryz.prog 12 #[.int .i64 size,.int .u64 (b:Int)] W fun e w'=>e=.returned (.int .i64 0)/\W=w')
  (hV:∀ W,Calls Tryz.prog 14 #[.int .i64 size,.int .u64 (b:Int)] W fun x w'=>∃ vn vd,x=.returned (.tuple #[.agg #[.bool neg,vn,vd],.bool true])/\NatV w' vn N/\NatV w' vd D/\W.grownBy w' none)
  (hE:∀ W,Calls Tryz.prog 43 #[.int .i64 size,.int .u64 (b:Int),.int .i64 prec] W fun e w'=>e=.returned (.tuple #[.string ⟨sx.toArray⟩,.int .i64 se])/\W.grownBy w' none):
  Calls Tryz.prog 21 #[.int .i64 size,.int .u64 (b:Int),.int .u8 f,.int .i64 prec] w fun e w'=>e=.returned (.string ⟨(eSign neg++eT c sx se).toArray⟩)/\w.grownBy w' none:=by
 have HI:=zH hI;have HK:=zH hK;have HV:=zH hV;clear hI hK hV;have HE:=zH hE;have HPT:=zH (fun W=>yve sx W hx1 zd);have hx:∀ W,Calls Tryz.prog 45 #[.int .u8 f,.int .i64 se,.bool false] W fun r w'=>r=.returned (.string ⟨(ys5 c se false).toArray⟩)/\W.grownBy w' none:=by
  intro W;rcases hf with⟨rfl,rfl⟩ | ⟨rfl,rfl⟩
  ·exact yt9 101 se false W zd zd
  ·exact yt9 69 se false W zd zd
 have HXT:=zH hx;have hpl:(ptL sx).length<=8000:=by
  unfold ptL;split
  ·omega
  ·simp;omega
 have hxl:(ys5 c se false).length<=100:=by
  unfold ys5;have:=yvz se.natAbs zd;rw[List.length_cons,List.length_cons];split
  ·rw[List.length_cons];omega
  ·omega
 have hres:eT c sx se=ptL sx++ys5 c se false:=rfl;rw[hres];replace hf:f=101\/f=69:=by rcases hf with⟨h,-⟩ | ⟨h,-⟩ <;> simp[h]
 clear hE hx hres;generalize ptL sx=p at *
 generalize ys5 c se false=q at *
 refine ye Tryz.func21 rfl (by rw[Tryz.ntmps21];simp) ?_;intro σ hσ;rw[Tryz.ntmps21];have s0:σ 0=.int .i64 size:=hσ 0 zi;have s1:σ 1=.int .u64 (b:Int):=hσ 1 zi;have s2:σ 2=.int .u8 f:=hσ 2 zi;have s3:σ 3=.int .i64 prec:=hσ 3 zi;clear hσ;go_wp2_with fail;refine (HI.out _).mono ?_;rintro r w1 ⟨rfl,rfl⟩;go_wp2_with fail;refine yr (fun s' w'=>s' 0=.int .i64 size/\s' 1=.int .u64 (b:Int)/\s' 2=.int .u8 f/\s' 3=.int .i64 prec/\s' 9=.string ⟨(eSign neg).toArray⟩/\w=w') ?_ ?_
 ·intro R' K' HR hK';cases neg
  ·(go_wp2_with fail;repeat ((first|refine cZ ?_|refine cW ?_);go_wp2_with fail));exact got HR (by simp[yc,yd,eSign, *])
  ·(go_wp2_with fail;repeat ((first|refine cZ ?_|refine cW ?_);go_wp2_with fail));exact got HR (by simp[yc,yd,eSign, *])
 clear s0 s1 s2 s3 σ HI;rintro σ w' ⟨s0,s1,s2,s3,s9,rfl⟩;go_wp2_with fail;refine (HK.out _).mono ?_;rintro r w1 ⟨rfl,rfl⟩;(go_wp2_with fail;repeat ((first|refine cZ ?_|refine cW ?_);go_wp2_with fail));refine (HV.out _).mono ?_;rintro r w2 ⟨vn,vd,rfl,hvn,hvd,hg2⟩;have HG2:=zH hg2;obtain⟨an,cn,rfl⟩:=hvn.len;obtain⟨ad,cd,rfl⟩:=hvd.len;have HVN:=zH hvn;have HVD:=zH hvd;clear hvn hvd hg2;generalize (yf N).length=LN at *
 generalize (yf D).length=LD at *
 have HGA:=zH (fun o=>ya HG2.out (World.grownBy_alloc w2 o none));have hsl:(eSign neg).length<=1:=yk6 neg;obtain⟨sg,hsg⟩:=zX (eSign neg);rw[hsg]at s9 hsl;have HSG:=zH hsg;clear hsg;have z1:(⟨sg.toArray⟩:ByteArray).size=sg.length:=zm;have c1:=yb0 sg p;have c2:=yb0 (sg++p) q;rw[List.append_assoc]at c2;have z2:(⟨p.toArray⟩:ByteArray).size=p.length:=zm;have z3:(⟨q.toArray⟩:ByteArray).size=q.length:=zm;have z4:(⟨(sg++p).toArray⟩:ByteArray).size=sg.length+p.length:=zm;rcases hf with rfl | rfl;all_goals
  (go_wp2_with fail;repeat ((first|refine cZ ?_|refine cW ?_);go_wp2_with fail));refine (HE.out _).mono ?_;rintro r w3 ⟨rfl,hg3⟩;have HG3:=zH (ya (HGA.out _) hg3);clear hg3;(go_wp2_with fail;repeat ((first|refine cZ ?_|refine cW ?_);go_wp2_with fail));refine (HPT.out _).mono ?_;rintro r w4 ⟨rfl,hg4⟩;have HG4:=zH (ya HG3.out hg4);clear hg4;(go_wp2_with fail;repeat ((first|refine cZ ?_|refine cW ?_);go_wp2_with fail));refine (HXT.out _).mono ?_;rintro r w5 ⟨rfl,hg5⟩;have HG5:=zH (ya HG4.out hg5);clear hg5;(go_wp2_with fail;repeat ((first|refine cZ ?_|refine cW ?_);go_wp2_with fail));exact yl (.string ⟨(sg++(p++q)).toArray⟩) rfl ze zb ⟨by rw[HSG.out],HG5.out⟩
end
section
attribute [local go_sem] undef
set_option maxRecDepth 100000 in
theorem yum (size:Int) (n:Nat) (neg:Bool) (a b:Nat) (S:List UInt8×Int) (w:World) (hS0:a=0->S=([48],0))
  (hV:∀ W,Calls Tryz.prog 14 #[.int .i64 size,.int .u64 (n:Int)] W fun x w'=>∃ vn vd,x=.returned (.tuple #[.agg #[.bool neg,vn,vd],.bool true])/\NatV w' vn a/\NatV w' vd b/\W.grownBy w' none)
  (hSH:∀ W,Calls Tryz.prog 78 #[.int .i64 size,.int .u64 (n:Int)] W fun e w'=>e=.returned (.tuple #[.string ⟨S.1.toArray⟩,.int .i64 S.2])/\W.grownBy w' none):
  Calls Tryz.prog 43 #[.int .i64 size,.int .u64 (n:Int),.int .i64 (-1)] w fun e w'=>e=.returned (.tuple #[.string ⟨S.1.toArray⟩,.int .i64 S.2])/\w.grownBy w' none:=by
 have HV:=zH hV;have HZ:=zH (fun W=>yuu (-1) W zd zd);have HSH:=zH hSH;have HS0:=zH hS0;obtain⟨sx,se⟩:=S;have HNL:=zH (show (yf a).length=0↔a=0 from ⟨fun h=>by by_cases h0:a=0;exact h0;exact absurd (List.length_eq_zero_iff.1 h) (qn h0),fun h=>zγz⟩);have ct:=yb0 [48] (List.replicate (-1:Int).toNat 48);have ct2:=ct;simp only[List.toArray_replicate]at ct2;clear hV hSH hS0;refine ye Tryz.func43 rfl (by rw[Tryz.ntmps43];simp) ?_;intro σ hσ;rw[Tryz.ntmps43];have s0:σ 0=.int .i64 size:=hσ 0 zi;have s1:σ 1=.int .u64 (n:Int):=hσ 1 zi;have s2:σ 2=.int .i64 (-1):=hσ 2 zi;clear hσ;go_wp2_with fail;refine (HV.out _).mono ?_;rintro e w2 ⟨vn,vd,rfl,hvn,hvd,hg2⟩;obtain⟨an,cn,rfl⟩:=hvn.len;obtain⟨ad,cd,rfl⟩:=hvd.len;obtain⟨LN,hLN⟩:=zX ((yf a).length);rw[hLN]at hvn HNL;simp only[hLN];generalize (yf b).length=LD at *
 obtain⟨w3,hw3⟩:∃ w',World.alloc w2 (.cells #[.bool neg,.slice an LN cn,.slice ad LD cd] 38)=w':=⟨_,rfl⟩;obtain⟨B,hB⟩:=zX ((World.heap w2).size);have hib:=InBlk.new w2 neg (.slice an LN cn) (.slice ad LD cd) 38;rw[hw3,hB]at hib;have HIB:=zH hib;have HVN:=zH (hvn.grown hib.grown);have HVD:=zH (hvd.grown hib.grown);have HG3:=zH (ya hg2 hib.grown);have HW3:=zH hw3;have HB:=zH hB;have HSZ:=zH hg2.size;clear hvn hvd hg2 hib hw3 hB hLN;go_upto_region 2 with fail;rw[HW3.out,HB.out];clear HW3;have c0:=HIB.out.row.cell 0;have c1:=HIB.out.row.cell 1;have c2:=HIB.out.row.cell 2;have t0:=HIB.out.row.frozen 0;simp only[List.getElem?_cons_zero,List.getElem?_cons_succ]at c0 c1 c2;by_cases h0:LN=0
 ·have ha0:a=0:=HNL.out.1 h0;subst h0;have HR2:=zH (HS0.out ha0);(go_wp2_with fail;repeat ((first|refine cZ ?_|refine cW ?_);go_wp2_with fail));refine (HZ.out _).mono ?_;rintro e w4 ⟨rfl,hg4⟩;have HG4:=zH (ya HG3.out hg4);clear hg4;(go_wp2_with fail;repeat ((first|refine cZ ?_|refine cW ?_);go_wp2_with fail));exact xc (.string ⟨([48]:List UInt8).toArray⟩) (.int .i64 0) rfl ze ze (by simp only[yc,yd];exact congrArg Value.string ct) zb ⟨by rw[show sx=[48] from congrArg Prod.fst HR2.out,show se=0 from congrArg Prod.snd HR2.out],HG4.out⟩
 ·have ha0:a≠0:=fun h=>h0 (HNL.out.2 h)
  have f1:((LN:Int)==0)=false:=zf;have f2:(LN==0)=false:=zf;(go_wp2_with fail;repeat ((first|refine cZ ?_|refine cW ?_);go_wp2_with fail));refine (HSH.out _).mono ?_;rintro e w4 ⟨rfl,hg4⟩;have HG4:=zH (ya HG3.out hg4);clear hg4 c0 c1 c2;(go_wp2_with fail;repeat ((first|refine cZ ?_|refine cW ?_);go_wp2_with fail));exact xc (.string ⟨sx.toArray⟩) (.int .i64 se) rfl ze ze zb zb ⟨rfl,HG4.out⟩
end
theorem yal (m:Nat) (e:Int) (hm:m<2^53) (h1:-1074<=e) (h2:e<=971):(yf (vN m e)).length<=100/\(yf (vD e)).length<=100:=by
 obtain⟨K,hK⟩:∃ K,K=100:=⟨_,rfl⟩;rw[<-hK];constructor
 ·refine yv ?_;unfold vN;refine Nat.lt_of_lt_of_le (Nat.mul_lt_mul_of_pos_right hm (Nat.two_pow_pos _)) ?_;rw[<-Nat.pow_add,js];exact Nat.pow_le_pow_right zd zd
 ·refine yv ?_;unfold vD;rw[js];exact Nat.pow_lt_pow_right zd zd
theorem yvp (i:Nat):10^i<=2^(4*i):=by
 rw[Nat.pow_mul];exact Nat.pow_le_pow_left zd i
theorem lenG (a d i j K I:Nat) (h1:a<2^K) (hi:i<=I) (hj:j<=I) (hd:d<=a*10^i+1):d*10^j<=2^(K+4*I+4*I):=by
 have h2:10^i<=2^(4*I):=Nat.le_trans (yvp i) (Nat.pow_le_pow_right ze zd);have h3:10^j<=2^(4*I):=Nat.le_trans (yvp j) (Nat.pow_le_pow_right ze zd);have h4:a*10^i<2^(K+4*I):=by
  rw[Nat.pow_add];exact Nat.lt_of_lt_of_le (Nat.mul_lt_mul_of_pos_right h1 (p10 i)) (Nat.mul_le_mul_left _ h2)
 rw[Nat.pow_add 2 (K+4*I)];refine Nat.mul_le_mul ?_ h3;generalize 2^(K+4*I)=X at *
 omega
theorem yvx (a d i j:Nat) (ha:(yf a).length<=100) (hi:i<=1000) (hj:j<=1000) (hd:d<=a*10^i+1):(yf (d*10^j)).length<=600:=by
 obtain⟨M,hM⟩:∃ M,M=600:=⟨_,rfl⟩;obtain⟨I,hI⟩:∃ I,I=1000:=⟨_,rfl⟩;obtain⟨K,hK⟩:∃ K,K=3000:=⟨_,rfl⟩;rw[<-hM];have h1:a<2^K:=by
  refine Nat.lt_of_lt_of_le (wu a) ?_;rw[js];exact Nat.pow_le_pow_right ze zd
 refine yv (Nat.lt_of_le_of_lt (lenG a d i j K I h1 zd zd hd) ?_);rw[js];exact Nat.pow_lt_pow_right ze zd
theorem yub (a b:Nat) (hla:(yf a).length<=100) (hlb:(yf b).length<=100):-905<=ym6 a b/\ym6 a b<=905:=by
 have da:=yue a hla;have db:=yue b hlb;unfold ym6;split <;> omega
theorem yw5 (E:Int) (near k:Nat) (h1:1<=k) (h2:1<=(ycg near).length) (h3:(ycg near).length<=18):1<=(yvy E near k).1.length/\(yvy E near k).1.length<=18/\E<=(yvy E near k).2/\(yvy E near k).2<=E+1:=by
 unfold yvy;split
 ·refine⟨?_,?_,zw,zw⟩ <;> (dsimp only;rw[List.length_take];omega)
 ·exact⟨h2,h3,zw,zw⟩
theorem ywk (a b near k:Nat) (hla:(yf a).length<=100) (hlb:(yf b).length<=100) (h1:1<=k) (h2:1<=(ycg near).length) (h3:(ycg near).length<=18):1<=(yu4 a b near k).1.length/\(yu4 a b near k).1.length<=18/\-906<=(yu4 a b near k).2/\(yu4 a b near k).2<=906:=by
 have:=yub a b hla hlb;have:=yw5 (ym6 a b) near k h1 h2 h3;unfold yu4;split
 ·refine⟨zi,zi,zw,zw⟩
 ·omega
def yxh (q:Nat):Nat->Int->Bool:=fun d k=>decide (xh (52:Nat) 1023 9218868437227405312 (d*10^k.toNat) (10^(-k).toNat)=q)
theorem yuo (q a b:Nat) (v:Value) (d n:Nat) (w:World) (hla:(yf a).length<=100) (hlb:(yf b).length<=100) (hq:q<9218868437227405312) (hr:NatV w v d) (hd:d<=a*10^((n:Int)-1-ym6 a b).toNat+1) (hn1:1<=n) (hn2:n<=17):
  Calls Tryz.prog 36 #[.int .i64 64,.int .u64 (q:Int),v,.int .i64 (ym6 a b),.int .i64 (n:Int)] w fun x w'=>x=.returned (.bool (yxh q d (ym6 a b-n+1)))/\w.grownBy w' none:=by
 obtain⟨o1,o2⟩:=yub a b hla hlb;have h1:=fun j (hj:j<=1000)=>yvx a d ((n:Int)-1-ym6 a b).toNat j hla zd hj hd
 have h0:=h1 0 zd;rw[Nat.pow_zero,Nat.mul_one]at h0;have h2:(yf (10^(-(ym6 a b-n+1)).toNat)).length<=600:=by
  have:=yvx 0 1 0 (-(ym6 a b-n+1)).toNat (by rw[xm];simp) zd zd zd;rwa [Nat.one_mul]at this
 exact yuc 64 9218868437227405312 (xd (d*10^(ym6 a b-n+1).toNat) (10^(-(ym6 a b-n+1)).toNat)) v d q (ym6 a b) n w hr zd zd zd zd zd hq
  (fun vn vd W r1 r2=>zah false vn vd _ _ W r1 r2 (Nat.ne_of_gt (p10 _)) (by have:=h1 (ym6 a b-n+1).toNat zd;omega) zd)
def yxi (q:Nat):Nat->Int->Bool:=fun d k=>decide (xh (23:Nat) 127 2139095040 (d*10^k.toNat) (10^(-k).toNat)=q)
theorem yup (q a b:Nat) (v:Value) (d n:Nat) (w:World) (hla:(yf a).length<=100) (hlb:(yf b).length<=100) (hq:q<2139095040) (hr:NatV w v d) (hd:d<=a*10^((n:Int)-1-ym6 a b).toNat+1) (hn1:1<=n) (hn2:n<=17):
  Calls Tryz.prog 36 #[.int .i64 32,.int .u64 (q:Int),v,.int .i64 (ym6 a b),.int .i64 (n:Int)] w fun x w'=>x=.returned (.bool (yxi q d (ym6 a b-n+1)))/\w.grownBy w' none:=by
 obtain⟨o1,o2⟩:=yub a b hla hlb;have h1:=fun j (hj:j<=1000)=>yvx a d ((n:Int)-1-ym6 a b).toNat j hla zd hj hd
 have h0:=h1 0 zd;rw[Nat.pow_zero,Nat.mul_one]at h0;have h2:(yf (10^(-(ym6 a b-n+1)).toNat)).length<=600:=by
  have:=yvx 0 1 0 (-(ym6 a b-n+1)).toNat (by rw[xm];simp) zd zd zd;rwa [Nat.one_mul]at this
 exact yuc 32 2139095040 (zxq (d*10^(ym6 a b-n+1).toNat) (10^(-(ym6 a b-n+1)).toNat)) v d q (ym6 a b) n w hr zd zd zd zd zd hq
  (fun vn vd W r1 r2=>zxz false vn vd _ _ W r1 r2 (Nat.ne_of_gt (p10 _)) (by have:=h1 (ym6 a b-n+1).toNat zd;omega) zd)
section
attribute [local go_sem] undef
theorem yuw (size:Int) (n:Nat) (neg:Bool) (a b:Nat) (S:List UInt8×Int) (hS0:a=0->S=([48],0)) (hx1:1<=S.1.length) (hx2:S.1.length<=7000) (he1:-1000<=S.2) (he2:S.2<=1000)
  (hI:∀ W,Calls Tryz.prog 26 #[.int .i64 size,.int .u64 (n:Int)] W fun e w'=>e=.returned (.bool neg)/\W=w')
  (hK:∀ W,Calls Tryz.prog 12 #[.int .i64 size,.int .u64 (n:Int)] W fun e w'=>e=.returned (.int .i64 0)/\W=w')
  (hV:∀ W,Calls Tryz.prog 14 #[.int .i64 size,.int .u64 (n:Int)] W fun x w'=>∃ vn vd,x=.returned (.tuple #[.agg #[.bool neg,vn,vd],.bool true])/\NatV w' vn a/\NatV w' vd b/\W.grownBy w' none)
  (hSH:∀ W,Calls Tryz.prog 78 #[.int .i64 size,.int .u64 (n:Int)] W fun e w'=>e=.returned (.tuple #[.string ⟨S.1.toArray⟩,.int .i64 S.2])/\W.grownBy w' none) (w:World):
  Calls Tryz.prog 21 #[.int .i64 size,.int .u64 (n:Int),.int .u8 101,.int .i64 (-1)] w fun e w'=>e=.returned (.string ⟨(eSign neg++eT 101 S.1 S.2).toArray⟩)/\w.grownBy w' none:=by
 have hX:∀ W,Calls Tryz.prog 43 #[.int .i64 size,.int .u64 (n:Int),.int .i64 (-1)] W fun e w'=>e=.returned (.tuple #[.string ⟨S.1.toArray⟩,.int .i64 S.2])/\W.grownBy w' none:=
  fun W=>yum size n neg a b S W hS0 hV hSH
 exact yvk size n neg a b 101 101 (-1) S.1 S.2 (Or.inl ⟨rfl,rfl⟩) hx1 hx2 he1 he2 w hI hK hV hX
def TieN (Z:Nat) (ME:Int) (mb m:Nat) (x:Int) (near k d:Nat) (p:Int):Prop:=
 kg Z ME (m*2^shS m) (x-(mb:Nat)-(shS m:Nat))=(d,-p)/\(d=near\/d=near+1)/\1<=k/\k<=17/\10^(k-1)<=near/\near+1<10^k/\near%10≠0/\(near+1)%10≠0/\-348<=p/\p<=347/\p+1+ym6 (vN m (x-(mb:Nat))) (vD (x-(mb:Nat)))=k/\
   2*(vN m (x-(mb:Nat))*10^p.toNat)=(2*near+1)*(vD (x-(mb:Nat))*10^(-p).toNat)
theorem yv2 (n:Nat) (hn:n<18446744073709551616) (hfin:n%9223372036854775808<9218868437227405312):∃ (near k:Nat) (tie:Bool),1<=k/\k<=17/\1<=(ycg near).length/\(ycg near).length<=18/\(yf near).length<=10/\
  (m64 n≠0->jj (yxh (n%9223372036854775808)) (vN (m64 n) (e64 n)) (vD (e64 n)) (ym6 (vN (m64 n) (e64 n)) (vD (e64 n))) 16 1=(near,k,tie))/\
  (vN (m64 n) (e64 n)≠0->∀ vn vd W,NatV W vn (vN (m64 n) (e64 n))->NatV W vd (vD (e64 n))->Calls Tryz.prog 15 #[.int .i64 64,.int .u64 ((n%9223372036854775808:Nat):Int),.agg #[.bool false,vn,vd]] W fun x w'=>∃ V,x=.returned (.tuple #[V,.int .i64 (k:Int),.int .i64 (ym6 (vN (m64 n) (e64 n)) (vD (e64 n))),.bool tie])/\NatV w' V near/\W.grownBy w' none):=by
 have hx:=yay n hfin;have hm:m64 n<2^53:=Nat.lt_of_lt_of_le (yat n) ze;obtain⟨v1,v2⟩:=yal (m64 n) (e64 n) hm zd zd;have hB:=Nat.ne_of_gt (zjf (e64 n));have hE:=yai n hfin;have hbits:(e64 n-(-1085+((11:Nat):Int))).toNat*2^52+m64 n=n%9223372036854775808:=by
  rw[<-yau n,<-yax n];split <;> omega
 have hex:∃ (near k:Nat) (tie:Bool),(m64 n≠0->jj (yxh (n%9223372036854775808)) (vN (m64 n) (e64 n)) (vD (e64 n)) (ym6 (vN (m64 n) (e64 n)) (vD (e64 n))) 16 1=(near,k,tie))/\(m64 n=0->near=0/\k=1/\tie=false):=by
  by_cases h0:m64 n=0
  ·exact⟨0,1,false,fun h=>absurd h0 h,fun _=>⟨rfl,rfl,rfl⟩⟩
  ·exact⟨_,_,_,fun _=>rfl,fun h=>absurd h h0⟩
 obtain⟨near,k,tie,hs,hz⟩:=hex;have hnk:1<=k/\k<=17/\near<=10^k:=by
  by_cases h0:m64 n=0
  ·obtain⟨rfl,rfl,rfl⟩:=hz h0;omega
  ·have:=yvw _ _ _ (yam _ h0) hB 16 1 near k tie zd (hs h0);omega
 obtain⟨l1,l2,l3⟩:=yvv hnk.2.1 hnk.2.2;refine⟨near,k,tie,hnk.1,hnk.2.1,l3,l2,l1,hs,?_⟩
 ·intro hA vn vd W r1 r2;have hm0:m64 n≠0:=fun h=>hA zγy
  obtain⟨o1,o2⟩:=yub _ _ v1 v2;refine (yur 64 ((n%9223372036854775808:Nat):Int) vn vd _ _ (yxh (n%9223372036854775808)) W r1 r2 hA hB v1 v2 zd (fun V d j W' r hd h1 h2=>yuo (n%9223372036854775808) _ _ V d j W' v1 v2 hfin r hd h1 h2)).mono ?_;rintro x w' ⟨V,near',k',tie',rfl,hV,hN,hg⟩;rw[hs hm0]at hN;cases hN;exact⟨V,rfl,hV,hg⟩
theorem ywi (n:Nat) (hn:n<18446744073709551616) (hfin:n%9223372036854775808<9218868437227405312):∃ (t:Bool) (tx:List UInt8),
  (∀ W,Calls Tryz.prog 5 #[.int .i64 64,.int .u64 (n:Int)] W fun e w'=>e=.returned (.bool t)/\W.grownBy w' none)/\
  (∀ W,Calls Tryz.prog 21 #[.int .i64 64,.int .u64 (n:Int),.int .u8 101,.int .i64 (-1)] W fun e w'=>e=.returned (.string ⟨tx.toArray⟩)/\W.grownBy w' none)/\
  (t=true->∃ near k d p,m64 n≠0/\TieN 11 (-1085) 52 (m64 n) (zor 11 52 (-1023) n) near k d p/\tx=eSign (decide (9223372036854775808<=n))++eT 101 (yvy (ym6 (vN (m64 n) (e64 n)) (vD (e64 n))) near k).1 (yvy (ym6 (vN (m64 n) (e64 n)) (vD (e64 n))) near k).2):=by
 obtain⟨near,k,tie,k1,k2,d1,d2,l1,hs,hN⟩:=yv2 n hn hfin;have hx:=yay n hfin;have hm:m64 n<2^53:=Nat.lt_of_lt_of_le (yat n) ze;obtain⟨v1,v2⟩:=yal (m64 n) (e64 n) hm zd zd;have hq:n%9223372036854775808<18446744073709551616:=zd;have hqs:n%9223372036854775808%9223372036854775808=n%9223372036854775808:=Nat.mod_mod _ _;have hkq:kn 9218868437227405312 9223372036854775808 (n%9223372036854775808)=0:=zis rfl (by rw[hqs];exact hfin);have hk:kn 9218868437227405312 9223372036854775808 n=0:=zis rfl hfin;have hK:=fun W=>za7 n W hn
 rw[hk]at hK;have hVq:=fun W=>zeu (n%9223372036854775808) (m64 n) (e64 n) W hq hkq (by rw[hqs];exact yau n) (by rw[hqs];exact yax n)
 have hneg:decide (9223372036854775808<=n%9223372036854775808)=false:=by
  have:=Nat.mod_lt n (show 0<9223372036854775808 by decide);simp;omega
 rw[hneg]at hVq;have hand:bits .andNot .u64 (n:Int) ((9223372036854775808:Nat):Int)=((n%9223372036854775808:Nat):Int):=ui n 63 zd zd;obtain⟨o1,o2⟩:=yub _ _ v1 v2;obtain⟨b1,b2,b3,b4⟩:=ywk _ _ near k v1 v2 k1 d1 d2;have hS:=fun W=>yui 64 n (n%9223372036854775808) 9223372036854775808 near k tie (vN (m64 n) (e64 n)) (vD (e64 n)) W k1 k2 l1 d2 zd (fun W=>wm W) hand hVq hN
 refine⟨_,eSign (decide (9223372036854775808<=n))++eT 101 (yu4 (vN (m64 n) (e64 n)) (vD (e64 n)) near k).1 (yu4 (vN (m64 n) (e64 n)) (vD (e64 n)) near k).2,fun W=>yuj 64 n (n%9223372036854775808) 9223372036854775808 near k tie (vN (m64 n) (e64 n)) (vD (e64 n)) _ W (fun W=>wm W) hand hVq hN,?_,?_⟩
 ·intro W;exact yuw 64 n _ (vN (m64 n) (e64 n)) (vD (e64 n)) _ (fun h=>by unfold yu4;rw[if_pos h]) b1 zd zd zd (fun W=>ziu n W hn) hK (fun W=>zeu n (m64 n) (e64 n) W hn hk (yau n) (yax n)) hS W
 ·intro ht;rw[Bool.and_eq_true,decide_eq_true_eq]at ht;have hA:=ht.1;have hm0:m64 n≠0:=fun h=>hA zγy
  have h1:=hs hm0;rw[ht.2]at h1;have hbits:(e64 n-(-1085+((11:Nat):Int))).toNat*2^52+m64 n=n%9223372036854775808:=by
   rw[<-yau n,<-yax n];split <;> omega
  have hnorm:2^52<=m64 n\/zor 11 52 (-1023) n-((52:Nat):Int)=(-1085)+((11:Nat):Int):=by
   unfold m64 zen zor;by_cases h0:flE 11 52 n=0
   ·right;rw[if_pos h0];rfl
   ·left;rw[if_neg h0];omega
  obtain⟨d,p,h2⟩:=ywh 11 (-1085) 52 (m64 n) (zor 11 52 (-1023) n) 1023 9218868437227405312 (Or.inl ⟨rfl,rfl,rfl,by unfold e64 at hx;omega,by unfold e64 at hx;omega,yat n⟩) hnorm hm0 ze ze near k (by rw[show (zor 11 52 (-1023) n-((52:Nat):Int))=e64 n from rfl,hbits];exact h1);refine⟨near,k,d,p,hm0,h2,?_⟩;unfold yu4;rw[if_neg hA]
theorem yv3 (n:Nat) (hn:n<4294967296) (hfin:n%2147483648<2139095040):∃ (near k:Nat) (tie:Bool),1<=k/\k<=17/\1<=(ycg near).length/\(ycg near).length<=18/\(yf near).length<=10/\
  (m32 n≠0->jj (yxi (n%2147483648)) (vN (m32 n) (e32 n)) (vD (e32 n)) (ym6 (vN (m32 n) (e32 n)) (vD (e32 n))) 16 1=(near,k,tie))/\
  (vN (m32 n) (e32 n)≠0->∀ vn vd W,NatV W vn (vN (m32 n) (e32 n))->NatV W vd (vD (e32 n))->Calls Tryz.prog 15 #[.int .i64 32,.int .u64 ((n%2147483648:Nat):Int),.agg #[.bool false,vn,vd]] W fun x w'=>∃ V,x=.returned (.tuple #[V,.int .i64 (k:Int),.int .i64 (ym6 (vN (m32 n) (e32 n)) (vD (e32 n))),.bool tie])/\NatV w' V near/\W.grownBy w' none):=by
 have hx:=zsr n hfin;have hm:m32 n<2^53:=Nat.lt_of_lt_of_le (zsl n) ze;obtain⟨v1,v2⟩:=yal (m32 n) (e32 n) hm zd zd;have hB:=Nat.ne_of_gt (zjf (e32 n));have hE:=zun n hfin;have hbits:(e32 n-(-189+((40:Nat):Int))).toNat*2^23+m32 n=n%2147483648:=by
  rw[<-zv8 n,<-zwp n];split <;> omega
 have hex:∃ (near k:Nat) (tie:Bool),(m32 n≠0->jj (yxi (n%2147483648)) (vN (m32 n) (e32 n)) (vD (e32 n)) (ym6 (vN (m32 n) (e32 n)) (vD (e32 n))) 16 1=(near,k,tie))/\(m32 n=0->near=0/\k=1/\tie=false):=by
  by_cases h0:m32 n=0
  ·exact⟨0,1,false,fun h=>absurd h0 h,fun _=>⟨rfl,rfl,rfl⟩⟩
  ·exact⟨_,_,_,fun _=>rfl,fun h=>absurd h h0⟩
 obtain⟨near,k,tie,hs,hz⟩:=hex;have hnk:1<=k/\k<=17/\near<=10^k:=by
  by_cases h0:m32 n=0
  ·obtain⟨rfl,rfl,rfl⟩:=hz h0;omega
  ·have:=yvw _ _ _ (yam _ h0) hB 16 1 near k tie zd (hs h0);omega
 obtain⟨l1,l2,l3⟩:=yvv hnk.2.1 hnk.2.2;refine⟨near,k,tie,hnk.1,hnk.2.1,l3,l2,l1,hs,?_⟩
 ·intro hA vn vd W r1 r2;have hm0:m32 n≠0:=fun h=>hA zγy
  obtain⟨o1,o2⟩:=yub _ _ v1 v2;refine (yur 32 ((n%2147483648:Nat):Int) vn vd _ _ (yxi (n%2147483648)) W r1 r2 hA hB v1 v2 zd (fun V d j W' r hd h1 h2=>yup (n%2147483648) _ _ V d j W' v1 v2 hfin r hd h1 h2)).mono ?_;rintro x w' ⟨V,near',k',tie',rfl,hV,hN,hg⟩;rw[hs hm0]at hN;cases hN;exact⟨V,rfl,hV,hg⟩
theorem ywj (n:Nat) (hn:n<4294967296) (hfin:n%2147483648<2139095040):∃ (t:Bool) (tx:List UInt8),
  (∀ W,Calls Tryz.prog 5 #[.int .i64 32,.int .u64 (n:Int)] W fun e w'=>e=.returned (.bool t)/\W.grownBy w' none)/\
  (∀ W,Calls Tryz.prog 21 #[.int .i64 32,.int .u64 (n:Int),.int .u8 101,.int .i64 (-1)] W fun e w'=>e=.returned (.string ⟨tx.toArray⟩)/\W.grownBy w' none)/\
  (t=true->∃ near k d p,m32 n≠0/\TieN 40 (-189) 23 (m32 n) (zor 8 23 (-127) n) near k d p/\tx=eSign (decide (2147483648<=n))++eT 101 (yvy (ym6 (vN (m32 n) (e32 n)) (vD (e32 n))) near k).1 (yvy (ym6 (vN (m32 n) (e32 n)) (vD (e32 n))) near k).2):=by
 obtain⟨near,k,tie,k1,k2,d1,d2,l1,hs,hN⟩:=yv3 n hn hfin;have hx:=zsr n hfin;have hm:m32 n<2^53:=Nat.lt_of_lt_of_le (zsl n) ze;obtain⟨v1,v2⟩:=yal (m32 n) (e32 n) hm zd zd;have hq:n%2147483648<4294967296:=zd;have hqs:n%2147483648%2147483648=n%2147483648:=Nat.mod_mod _ _;have hkq:kn 2139095040 2147483648 (n%2147483648)=0:=zis rfl (by rw[hqs];exact hfin);have hk:kn 2139095040 2147483648 n=0:=zis rfl hfin;have hK:=fun W=>za8 n W hn
 rw[hk]at hK;have hVq:=fun W=>zev (n%2147483648) (m32 n) (e32 n) W hq hkq (by rw[hqs];exact zv8 n) (by rw[hqs];exact zwp n)
 have hneg:decide (2147483648<=n%2147483648)=false:=by
  have:=Nat.mod_lt n (show 0<2147483648 by decide);simp;omega
 rw[hneg]at hVq;have hand:bits .andNot .u64 (n:Int) ((2147483648:Nat):Int)=((n%2147483648:Nat):Int):=ui n 31 zd zd;obtain⟨o1,o2⟩:=yub _ _ v1 v2;obtain⟨b1,b2,b3,b4⟩:=ywk _ _ near k v1 v2 k1 d1 d2;have hS:=fun W=>yui 32 n (n%2147483648) 2147483648 near k tie (vN (m32 n) (e32 n)) (vD (e32 n)) W k1 k2 l1 d2 zd (fun W=>ur W) hand hVq hN
 refine⟨_,eSign (decide (2147483648<=n))++eT 101 (yu4 (vN (m32 n) (e32 n)) (vD (e32 n)) near k).1 (yu4 (vN (m32 n) (e32 n)) (vD (e32 n)) near k).2,fun W=>yuj 32 n (n%2147483648) 2147483648 near k tie (vN (m32 n) (e32 n)) (vD (e32 n)) _ W (fun W=>ur W) hand hVq hN,?_,?_⟩
 ·intro W;exact yuw 32 n _ (vN (m32 n) (e32 n)) (vD (e32 n)) _ (fun h=>by unfold yu4;rw[if_pos h]) b1 zd zd zd (fun W=>jw n W hn) hK (fun W=>zev n (m32 n) (e32 n) W hn hk (zv8 n) (zwp n)) hS W
 ·intro ht;rw[Bool.and_eq_true,decide_eq_true_eq]at ht;have hA:=ht.1;have hm0:m32 n≠0:=fun h=>hA zγy
  have h1:=hs hm0;rw[ht.2]at h1;have hbits:(e32 n-(-189+((40:Nat):Int))).toNat*2^23+m32 n=n%2147483648:=by
   rw[<-zv8 n,<-zwp n];split <;> omega
  have hnorm:2^23<=m32 n\/zor 8 23 (-127) n-((23:Nat):Int)=(-189)+((40:Nat):Int):=by
   unfold m32 zen zor;by_cases h0:flE 8 23 n=0
   ·right;rw[if_pos h0];rfl
   ·left;rw[if_neg h0];omega
  obtain⟨d,p,h2⟩:=ywh 40 (-189) 23 (m32 n) (zor 8 23 (-127) n) 127 2139095040 (Or.inr ⟨rfl,rfl,rfl,by unfold e32 at hx;omega,by unfold e32 at hx;omega,zsl n⟩) hnorm hm0 ze ze near k (by rw[show (zor 8 23 (-127) n-((23:Nat):Int))=e32 n from rfl,hbits];exact h1);refine⟨near,k,d,p,hm0,h2,?_⟩;unfold yu4;rw[if_neg hA]
end
theorem yp6 (ds:List UInt8) (dp pr:Int) (hA:allD 10 ds) (hpr:(ds.length:Int)-dp<=max pr 0):
  ∃ (P:Option (List UInt8)) (j:Nat),ymc ds dp pr=pT P/\allD 10 (pF P)/\allD 10 (ylj ds dp)/\ylj ds dp≠[]/\ylj ds dp++pF P=List.replicate j 48++(ds++List.replicate (dp-(ds.length:Int)+max pr 0).toNat 48)/\((pF P).length:Int)=max pr 0:=by
 have hI:allD 10 (ylj ds dp):=by
  unfold ylj;split
  ·exact (hA.take _).append (allD.zeros _)
  ·intro c hc;rw[List.mem_singleton.1 hc];decide
 have hI0:ylj ds dp≠[]:=by
  unfold ylj;split
  ·rename_i h;intro h2;have:=congrArg List.length h2;simp only[List.length_append,List.length_take,List.length_replicate,List.length_nil]at this;omega
  ·simp
 unfold ymc;by_cases h0:0<pr
 ·rw[if_pos h0];by_cases hdp:0<dp
  ·have hlz:fLz dp pr=0:=by unfold fLz;omega
   have hM:fM ds.length dp pr=max 0 ((ds.length:Int)-dp):=by unfold fM;rw[hlz];omega
   rw[hlz,hM,Int.add_zero];refine⟨some _,0,rfl,?_,hI,hI0,?_,?_⟩
   ·exact (allD.zeros _).append (((hA.drop _).take _).append (allD.zeros _))
   ·unfold ylj;rw[if_pos hdp];simp only[pF,List.replicate_zero,List.nil_append,Int.toNat_zero];by_cases h1:(ds.length:Int)<=dp
    ·rw[List.take_of_length_le zd,List.drop_of_length_le zd];simp only[List.take_nil,List.nil_append,List.append_assoc];rw[List.append_cancel_left_eq,List.replicate_append_replicate];congr 1;omega
    ·rw[show dp.toNat-ds.length=0 by omega,List.replicate_zero,List.append_nil,List.take_of_length_le (l:=ds.drop dp.toNat) (by rw[List.length_drop];omega),<-List.append_assoc,List.take_append_drop];congr 2;omega
   ·simp only[pF,List.length_append,List.length_replicate,List.length_take,List.length_drop];omega
  ·have hlz:fLz dp pr=-dp:=by unfold fLz;omega
   have hM:fM ds.length dp pr=ds.length:=by unfold fM;rw[hlz];omega
   rw[hlz,hM,show dp+-dp=0 by omega];refine⟨some _,(1-dp).toNat,rfl,?_,hI,hI0,?_,?_⟩
   ·exact (allD.zeros _).append (((hA.drop _).take _).append (allD.zeros _))
   ·unfold ylj;rw[if_neg hdp];simp only[pF,Int.toNat_zero,List.drop_zero];rw[List.take_of_length_le zd,show (1-dp).toNat=(-dp).toNat+1 by omega,List.replicate_succ,List.cons_append,List.cons_append,List.nil_append];congr 3;congr 1;omega
   ·simp only[pF,List.length_append,List.length_replicate,List.length_take,List.length_drop];omega
 ·rw[if_neg h0];have hmx:max pr 0=0:=zd;rw[hmx];by_cases hdp:0<dp
  ·refine⟨none,0,rfl,(by intro c hc;cases hc),hI,hI0,?_,rfl⟩;unfold ylj;rw[if_pos hdp,List.take_of_length_le zd];simp only[pF,List.append_nil,List.replicate_zero,List.nil_append];congr 2;omega
  ·have hn:ds=[]:=List.length_eq_zero_iff.1 zd;subst hn;refine⟨none,1,rfl,(by intro c hc;cases hc),hI,hI0,?_,rfl⟩;unfold ylj;rw[if_neg hdp];simp only[pF,List.length_nil,List.append_nil,List.nil_append]at *
   have:(dp-((0:Nat):Int)+0).toNat=0:=zd;rw[this];rfl
theorem ysx (neg:Bool) (ds:List UInt8) (dp pr:Int) (hd:∀ c ∈ ds,zd2 c) (hpr:(ds.length:Int)-dp<=max pr 0) (hdp1:-390<=dp) (hdp2:dp<=390) (hlead:ds≠[]->yi (zd5 ds)=ds.length):
  ∃ k:Nat,(k:Int)<=400+max pr 0/\zjy (yn1 neg ds dp pr)=some (rdV neg (zd5 ds*10^k) (dxv ds dp-(k:Int))):=by
 obtain⟨P,j,h1,h2,h3,h4,h5,h6⟩:=yp6 ds dp pr (ykv hd) hpr;have hv:zd5 (ylj ds dp++pF P)=zd5 ds*10^(dp-(ds.length:Int)+max pr 0).toNat:=by rw[h5,ydg,ycw]
 unfold yn1;rw[h1,show pT P=pT P++xT 101 none by simp[xT]];by_cases h0:zd5 ds=0
 ·have hz:zd5 (ylj ds dp++pF P)=0:=by rw[hv,h0,Nat.zero_mul]
  refine⟨0,zd,?_⟩;rw[yl1 neg _ P none h4 h3 h2 trivial (fun h=>absurd hz h) (fun h=>absurd hz h),hz,h0];simp[rdV]
 ·have hne:ds≠[]:=by intro h;rw[h]at h0;exact h0 rfl
  have hnd:=yqw (zd5 ds) (dp-(ds.length:Int)+max pr 0).toNat _ h0 (hlead hne);have hx:xV none-(((pF P).length:Nat):Int)=-max pr 0:=by show (0:Int)-_=_;omega
  refine⟨(dp-(ds.length:Int)+max pr 0).toNat,zd,?_⟩;rw[yl1 neg _ P none h4 h3 h2 trivial (fun _=>by rw[hv,hnd,hx];omega) (fun _=>by rw[hv,hnd,hx];omega),hv,hx];congr 2;unfold dxv;omega
structure DsOk (ds:List UInt8):Prop where
 dig:∀ c ∈ ds,zd2 c
 lead:ds≠[]->yi (zd5 ds)=ds.length
theorem DsOk.nil:DsOk []:=⟨(fun c hc=>by cases hc),fun h=>absurd rfl h⟩
theorem DsOk.digs (M:Nat) (h:M≠0):DsOk (digs M (yi M)):=by
 refine⟨zeh _ _,fun _=>?_⟩;rw[zhi,Nat.mod_eq_of_lt (xi M),va]
theorem DsOk.of (d:Nat):DsOk (yko d):=by
 by_cases h0:d=0
 ·subst h0;have:yko 0=[]:=by unfold yko;rw[kw];rfl
  rw[this];exact DsOk.nil
 ·have h1:=zk3 (Go.Proofs.YtgfjdeddghbjcaaGreatDoor.digs d (yi d)) d h0 zβL;have:yko d=Go.Proofs.YtgfjdeddghbjcaaGreatDoor.digs (zga d) (yi (zga d)):=by unfold yko;rw[h1.1];exact h1.2
  rw[this];exact DsOk.digs _ (zpc d h0)
theorem yng (neg:Bool) (ds:List UInt8) (dp pr f:Int):((ymm neg ds dp pr f).length:Int)<=max pr 0+10:=by
 unfold ymm;have h1:=you (ynz ds dp);have h2:=yk6 neg;have h3:((ykt ds pr).length:Int)<=max pr 0+1:=by
  unfold ykt;split
  ·simp only[List.length_cons,List.length_append,List.length_replicate,List.length_take,List.length_drop];omega
  ·simp;omega
 simp only[List.length_append,List.length_cons,List.length_nil];omega
theorem yra (neg:Bool) (ds:List UInt8) (dp pr:Int) (hA:allD 10 ds) (hpr:(ds.length:Int)-dp<=max pr 0):((yn1 neg ds dp pr).length:Int)<=max dp 1+max pr 0+10:=by
 unfold yn1;obtain⟨P,j,h1,h2,h3,h4,h5,h6⟩:=yp6 ds dp pr hA hpr;have h7:=yk6 neg;have h8:((ylj ds dp).length:Int)=max dp 1:=by
  unfold ylj;split
  ·simp only[List.length_append,List.length_replicate,List.length_take];omega
  ·simp;omega
 have h9:(pT P).length<=(pF P).length+1:=by cases P <;> simp[pT,pF]
 rw[h1];simp only[List.length_append];omega
theorem ymr (Z:Nat) (ME:Int) (m:Nat) (e:Int) (hZ:Z=11/\ME=-1085/\-1137<=e/\e<=960\/Z=40/\ME=-189/\-212<=e/\e<=64):-330<=(kg Z ME m e).2/\(kg Z ME m e).2<=330:=by
 have hc1:-300<=(shC Z ME m e).1/\(shC Z ME m e).1<=326:=by
  unfold shC;rcases hZ with⟨rfl,rfl,h1,h2⟩ | ⟨rfl,rfl,h1,h2⟩ <;> (repeat' split) <;> dsimp only <;> omega
 unfold kg;dsimp only;split
 ·dsimp only;omega
 ·split
  ·dsimp only;omega
  ·dsimp only;omega
theorem yms (Z:Nat) (ME:Int) (mb m:Nat) (x:Int) (hz:Z=11/\ME=-1085/\mb=52/\-1022<=x/\x<=1023/\m<2^53\/Z=40/\ME=-189/\mb=23/\-126<=x/\x<=127/\m<2^24):
  ∃ ds dp,DsOk ds/\ds.length<=20/\-390<=dp/\dp<=390/\∀ f:Int,(f=101\/f=102\/f=103)->∃ pr:Int,ykq Z ME mb m x (-1) f=⟨ds,dp,pr,true⟩/\(f=101->(ds.length:Int)-1<=pr/\pr<=20)/\(f=102->(ds.length:Int)-dp<=max pr 0/\pr<=500)/\(f=103->pr=ds.length\/(ds=[]/\dp=0)):=by
 have hm53:m<2^53:=zd;by_cases hm0:m=0
 ·refine⟨[],0,DsOk.nil,zi,zd,zd,fun f hf=>⟨-1,?_,fun _=>zi,fun h=>?_,fun _=>Or.inr ⟨rfl,rfl⟩⟩⟩
  ·unfold ykq;rw[if_pos hm0];rfl
  ·simp;omega
 ·obtain⟨hb1,hb2,hb3,hb4⟩:=zdq m zd hm0;have hS:11<=shS m/\shS m<=63/\(Z=40->40<=shS m):=by
   have:=Lib.bitLen_le m 53 zd hm53;refine⟨zγb,zγb,fun h=>?_⟩;have h2:=Lib.bitLen_le m 24 zd zd;unfold shS;omega
  have hmm:m*2^shS m<18446744073709551616:=by
   rw[show (18446744073709551616:Nat)=2^Lib.bitLen m*2^shS m by rw[<-Nat.pow_add,show Lib.bitLen m+shS m=64 by unfold shS;omega]];exact Nat.mul_lt_mul_of_pos_right hb3 (Nat.pow_pos zd)
  have hz2:Z=11/\ME=-1085/\-1137<=x-mb-shS m/\x-mb-shS m<=960\/Z=40/\ME=-189/\-212<=x-mb-shS m/\x-mb-shS m<=64:=by
   rcases hz with⟨a,b,c,d,e,_⟩ | ⟨a,b,c,d,e,_⟩
   ·exact Or.inl ⟨a,b,zd,zd⟩
   ·exact Or.inr ⟨a,b,by have:=hS.2.2 a;omega,by have:=hS.2.2 a;omega⟩
  have h1:=ylm Z ME (m*2^shS m) (x-mb-shS m) hz2 hmm;have h2:=ymr Z ME (m*2^shS m) (x-mb-shS m) hz2;obtain⟨r,hr⟩:=zX (kg Z ME (m*2^shS m) (x-mb-shS m));rw[hr]at h1 h2;have h3:=yku r.1;have h4:=zjj (digs r.1 (yi r.1)) (yi r.1);have h5:=yks r.1 h1.1;refine⟨yko r.1,yi r.1+r.2,DsOk.of _,zd,zd,zd,fun f hf=>⟨yj9 (yko r.1).length (yi r.1+r.2) (-1) f,?_,?_,?_,?_⟩⟩
  ·unfold ykq;rw[if_neg hm0,if_pos zd];unfold ykg;rw[hr]
  ·rintro rfl;unfold yj9;rw[if_pos (Or.inl rfl)];omega
  ·rintro rfl;unfold yj9;rw[if_neg zd,if_pos rfl];omega
  ·rintro rfl;unfold yj9;rw[if_neg zd,if_neg zd,if_pos (Or.inl rfl)];exact Or.inl rfl
theorem zlo (s:Nat) (E:Int) (a b:Nat) (hb:b≠0) (hab:a*vD E=vN s E*b) (h1:4503599627370496<=s) (h2:s<9007199254740992) (hE1:-1074<=E) (hE2:E<=971):
  xh 52 1023 9218868437227405312 a b=(E+1074).toNat*4503599627370496+s:=by
 have hs0:s≠0:=zd;have hvn:=yam E hs0;have hvd:=zjf E;have ha:a≠0:=by
  intro h0;rw[h0,Nat.zero_mul]at hab;exact absurd hab.symm (Nat.mul_ne_zero hvn hb)
 have ho:uo a b=E+52:=by
  refine zfa ha hb ((zan zd hvd hab _).2 ?_) (fun hh=>?_)
  ·rw[ws (j:=-E) (n:=52) zd,Int.neg_neg];unfold vN vD;rw[Nat.mul_assoc s,Nat.mul_comm (2^(-E).toNat) (2^E.toNat)];exact Nat.mul_le_mul_right _ h1
  ·have:=(zan zd hvd hab _).1 hh;rw[ws (j:=-E) (n:=53) zd,Int.neg_neg]at this;unfold vN vD at this;rw[Nat.mul_assoc s,Nat.mul_comm (2^(-E).toNat) (2^E.toNat)]at this;have h3:=Nat.le_of_mul_le_mul_right this (Nat.mul_pos (p2 _) (p2 _));omega
 have hne:yt 52 1023 a b=E:=by
  unfold yt;rw[if_neg ha,ho];omega
 have hrb:rB a b E=s:=by
  unfold rB;have:vi (a*2^(-E).toNat) (b*2^E.toNat)=vi (s*1) 1:=by
   refine yj7 (Nat.mul_pos zd (p2 _)) zd ?_;rw[Nat.mul_one,Nat.mul_one];unfold vN vD at hab;rw[hab];ac_rfl
  rw[this];exact zad s 1 zd
 unfold xh;rw[hne,if_pos zd,hrb];congr 2
theorem zrj (s:Nat) (E:Int) (g:Nat) (h1:4503599627370496<=s) (h2:s<9007199254740992) (hE1:-1074<=E) (hE2:E<=971) (hg:g=0\/g=9223372036854775808):
  m64 ((E+1074).toNat*4503599627370496+s+g)=s/\e64 ((E+1074).toNat*4503599627370496+s+g)=E/\((E+1074).toNat*4503599627370496+s+g)%9223372036854775808<9218868437227405312/\(E+1074).toNat*4503599627370496+s+g<18446744073709551616/\decide (9223372036854775808<=(E+1074).toNat*4503599627370496+s+g)=decide (g=9223372036854775808):=by
 obtain⟨q,hq⟩:=zX ((E+1074).toNat);rw[hq];have hq2:q<=2045:=zd;have f1:flE 11 52 (q*4503599627370496+s+g)=q+1:=by unfold flE;omega
 have f2:flF 52 (q*4503599627370496+s+g)=s-4503599627370496:=by unfold flF;omega
 refine⟨?_,?_,zd,zd,?_⟩
 ·unfold m64 zen;rw[f1,if_neg zd,f2];omega
 ·unfold e64 zor;rw[f1,if_neg zd];omega
 ·rw[decide_eq_decide];omega
theorem zgd (m:Nat) (e:Int) (g:Nat) (hm:m<16777216) (he1:-149<=e) (he2:e<=104) (hg:g=0\/g=9223372036854775808):
  ∃ N,xh 52 1023 9218868437227405312 (vN m e) (vD e)+g=N/\N<18446744073709551616/\N%9223372036854775808<9218868437227405312/\decide (9223372036854775808<=N)=decide (g=9223372036854775808)/\vN m e*vD (e64 N)=vN (m64 N) (e64 N)*vD e:=by
 by_cases h0:m=0
 ·subst h0;have hV:vN 0 e=0:=by unfold vN;rw[Nat.zero_mul]
  have hn:xh 52 1023 9218868437227405312 (vN 0 e) (vD e)=0:=by
   rw[hV];unfold xh yt;rw[if_pos rfl,if_pos zd];unfold rB;rw[Nat.zero_mul];have:=zad 0 (vD e*2^((1:Int)-1023-52).toNat) (Nat.mul_pos (zjf e) (p2 _));rw[Nat.zero_mul]at this;rw[this];rfl
  rw[hn,hV];refine⟨g,zd,zd,zd,by rw[decide_eq_decide];omega,?_⟩;have:m64 g=0:=by
   rcases hg with rfl | rfl
   ·rfl
   ·unfold m64 zen flE flF;decide
  rw[this];unfold vN;rw[Nat.zero_mul,Nat.zero_mul,Nat.zero_mul]
 ·obtain⟨k,hk⟩:=zX m.log2;have hlo:2^k<=m:=by rw[<-hk];exact Nat.log2_self_le h0
  have hhi:m<2^(k+1):=by rw[<-hk];exact Nat.lt_log2_self
  have hk24:k<24:=(Nat.pow_lt_pow_iff_right (by omega:1<2)).1 (Nat.lt_of_le_of_lt hlo hm);have hs1:4503599627370496<=m*2^(52-k):=by
   have:=Nat.mul_le_mul_right (2^(52-k)) hlo;rw[<-Nat.pow_add,show k+(52-k)=52 by omega]at this;exact this
  have hs2:m*2^(52-k)<9007199254740992:=by
   have:=Nat.mul_lt_mul_of_pos_right hhi (p2 (52-k));rw[<-Nat.pow_add,show k+1+(52-k)=53 by omega]at this;exact this
  have hsh:=zs6 m (52-k) e;have hne:=zlo (m*2^(52-k)) (e-(52-k:Nat)) (vN m e) (vD e) (Nat.ne_of_gt (zjf e)) hsh.symm hs1 hs2 zd zd;obtain⟨f1,f2,f3,f4,f5⟩:=zrj (m*2^(52-k)) (e-(52-k:Nat)) g hs1 hs2 zd zd hg;refine⟨_,rfl,?_⟩;rw[hne];refine⟨f4,f3,f5,?_⟩;rw[f1,f2];exact hsh.symm
end Go.Proofs.YtgfjdeddghbjcaaGreatDoor
