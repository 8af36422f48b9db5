/- Lemmas that the claim's top text leans on. No condition of their own. -/
import Derived.Test.YtoacbkokkkpofaaGreatDoorJ20
import Derived.Test.YtoacbkokkkpofaaGreatDoorJ16
import Derived.Test.YtoacbkokkkpofaaGreatDoorJ28
import Derived.Test.YtoacbkokkkpofaaGreatDoorJ31
namespace Go.Proofs.YtoacbkokkkpofaaGreatDoor
open Go.RowKit
set_option linter.unusedSimpArgs false
set_option linter.unusedVariables false
set_option maxHeartbeats 16000000
section
attribute [local go_sem] undef
theorem ya6 (x K N:Nat) (h:(yf x).length<=K):(yf (x*2^N)).length<=K+(N / 30+1):=by
 refine yv ?_;rw[Nat.pow_add];refine Nat.mul_lt_mul_of_lt_of_le (Nat.lt_of_lt_of_le (wu x) (Nat.pow_le_pow_right ze h)) ?_ (Nat.pow_pos ze);rw[js];exact Nat.pow_le_pow_right ze zd 
theorem zq5 (f bias:Int) (a b:Nat) (ha:(yf a).length<=150000) (hb:(yf b).length<=150000) (hf1:0<=f) (hf2:f<=52) (hb1:0<=bias) (hb2:bias<=1023):1-bias-f<=yt f bias a b/\yt f bias a b<=4500001/\-4500001<=uo a b/\uo a b<=4500001:=by
 have da:=jk a 150000 ha;have db:=jk b 150000 hb;have ho:-4500001<=uo a b/\uo a b<=4500001:=by unfold uo;split <;> omega
 unfold yt;split <;> omega
def xd (a b:Nat):Nat:=xh 52 1023 9218868437227405312 a b
set_option maxRecDepth 100000 in
theorem zah (neg:Bool) (vn vd:Value) (a b:Nat) (w:World) (hn:NatV w vn a) (hd:NatV w vd b) (hb:b≠0) (hla:(yf a).length<=150000) (hlb:(yf b).length<=150000):
  Calls Tryz.prog 62 #[.agg #[.bool neg,vn,vd],.int .i64 64] w fun e w'=>e=.returned (.tuple #[.int .u64 ((xd a b+if neg then 9223372036854775808 else 0:Nat):Int),.bool (xd a b==9218868437227405312)])/\w.grownBy w' none:=by
 obtain⟨e1,e2,o1,o2⟩:=zq5 52 1023 a b hla hlb zd zd zd zd;have hs:=zld a b 52 1023 hb zd;obtain⟨N,hN⟩:=zX (xd a b);have hnr:N=if yt 52 1023 a b<=1023-52 then (yt 52 1023 a b-(1-1023-52)).toNat*2^(52:Int).toNat+rB a b (yt 52 1023 a b) else 9218868437227405312:=by rw[<-hN];rfl
 have hen:yt 52 1023 a b=if a=0 then 1-1023-52 else max (1-1023-52) (uo a b-52):=rfl
 rw[hN];obtain⟨M,hM⟩:=zX (N+(if neg then 9223372036854775808 else 0));rw[hM];have HM:=zH hM;clear hN hM;have HOT:=zH (fun vn vd W (h1:NatV W vn a) (h2:NatV W vd b)=>zdz false vn vd a b W h1 h2 hla hlb);have HTT:=zH (fun vn vd W (h1:NatV W vn a) (h2:NatV W vd b)=>zc1 false vn vd a b (yt 52 1023 a b) W h1 h2 zd zd zd zd);have HRD:=zH (fun V U W (h1:NatV W V (a*2^(-yt 52 1023 a b).toNat)) (h2:NatV W U (b*2^(yt 52 1023 a b).toNat))=>zh6 false V U _ _ W h1 h2 (Nat.mul_pos zd (p2 _)) (by have:=ya6 a 150000 (-yt 52 1023 a b).toNat hla;omega) (by have:=ya6 b 150000 (yt 52 1023 a b).toNat hlb;omega));obtain⟨S,hS1,hS2⟩:∃ S,vi (a*2^(-yt 52 1023 a b).toNat) (b*2^(yt 52 1023 a b).toNat)=S/\rB a b (yt 52 1023 a b)=S:=⟨_,rfl,rfl⟩;simp only[hS1]at HRD;rw[hS2]at hs hnr;have hs2:S<=9007199254740992:=hs;generalize yt 52 1023 a b=E at *
 generalize uo a b=O at *
 have hSl:(yf S).length<=3:=yv zd;have g0:(yf S).getD 0 0=S%1073741824:=by rw[qu,Nat.pow_zero,Nat.div_one]
 have g1:(yf S).getD 1 0=S / 1073741824:=by rw[qu,Nat.pow_one,Nat.mod_eq_of_lt zd]
 have ha0:=fun V W (h:NatV W V S)=>zds V (yf S) 0 W h zd zd
 have ha1:=fun V W (h:NatV W V S)=>zds V (yf S) 1 W h zd zd
 obtain⟨x0,hx0⟩:=zX (S%1073741824);obtain⟨x1,hx1⟩:=zX (S / 1073741824);have hx0l:x0<1073741824:=zd;have hx1l:x1<16777216:=zd;have HXS:=zH (show S=x0+x1*1073741824 by omega);rw[g0,hx0]at ha0;rw[g1,hx1]at ha1;have HA0:=zH (show ∀ V W,NatV W V S->Calls Tryz.prog 78 #[V,.int .i64 0] W fun e w'=>e=.returned (.int .i64 (x0:Int))/\W=w' from ha0);have HA1:=zH (show ∀ V W,NatV W V S->Calls Tryz.prog 78 #[V,.int .i64 1] W fun e w'=>e=.returned (.int .i64 (x1:Int))/\W=w' from ha1);have HNR:=zH hnr;have HEN:=zH hen;have HFR:=zH zba;have HBI:=zH qz;have HIN:=zH wy;have HSB:=zH wm;have HNL:=zH (show (yf a).length=0↔a=0 from ⟨fun h=>by by_cases h0:a=0;exact h0;exact absurd (List.length_eq_zero_iff.1 h) (qn h0),fun h=>by rw[h,xm];rfl⟩);clear hnr hen hS1 hS2 hs ha0 ha1 g0 g1 hSl hx0 hx1;obtain⟨an,cn,rfl⟩:=hn.len;obtain⟨ad,cd,rfl⟩:=hd.len;obtain⟨LN,hLN⟩:=zX ((yf a).length);rw[hLN]at hn HNL hla;simp only[hLN];generalize (yf b).length=LD at *
 clear hLN;obtain⟨w1,hw1⟩:=zX (w.alloc (.cells #[.bool neg,.slice an LN cn,.slice ad LD cd] 37));obtain⟨B,hB⟩:=zX w.heap.size;have hib:=InBlk.new w neg (.slice an LN cn) (.slice ad LD cd) 37;rw[hw1,hB]at hib;obtain⟨w2,hw2⟩:∃ w',w1.alloc (.cells #[.bool false,.slice an LN cn,.slice ad LD cd] 37)=w':=⟨_,rfl⟩;obtain⟨D,hD⟩:=zX ((World.heap w1).size);have hid:=InBlk.new w1 false (.slice an LN cn) (.slice ad LD cd) 37;rw[hw2,hD]at hid;have HG2:=zH (ya hib.grown hid.grown);have HRB:=zH (hib.row.grown hid.grown zi);have HRD2:=zH hid.row;have HN2:=zH (hn.grown HG2.out);have HD2:=zH (hd.grown HG2.out);have k0:=hib.row.cell 0;have k1:=hib.row.cell 1;have k2:=hib.row.cell 2;simp only[List.getElem?_cons_zero,List.getElem?_cons_succ]at k0 k1 k2;have HW1:=zH hw1;have HW2:=zH hw2;have HBB:=zH hB;have HDD:=zH hD;clear hib hid hw1 hw2 hn hd hB hD;refine ye Tryz.func62 rfl (by rw[Tryz.ntmps62];simp) ?_;intro σ hσ;rw[Tryz.ntmps62];have s0:σ 0=.agg #[.bool neg,.slice an LN cn,.slice ad LD cd]:=hσ 0 zi;have s1:σ 1=.int .i64 64:=hσ 1 zi;clear hσ;go_upto_region 1 with fail;rw[HW1.out,HBB.out];go_upto_region 2 with fail;rw[HW2.out,HDD.out];clear HW1 HW2 k0 k1 k2;have k0:=HRD2.out.cell 0;have k1:=HRD2.out.cell 1;have k2:=HRD2.out.cell 2;have b0:=HRB.out.cell 0;simp only[List.getElem?_cons_zero,List.getElem?_cons_succ]at k0 k1 k2 b0;(go_wp2_with fail;repeat ((first|refine cZ ?_|refine cW ?_);go_wp2_with fail));refine (HFR.out _).mono ?_;rintro e w7 ⟨rfl,rfl⟩;(go_wp2_with fail;repeat ((first|refine cZ ?_|refine cW ?_);go_wp2_with fail));refine (HBI.out _).mono ?_;rintro e w7 ⟨rfl,rfl⟩;(go_wp2_with fail;repeat ((first|refine cZ ?_|refine cW ?_);go_wp2_with fail));refine yr (fun s' w'=>s' 1=.int .i64 64/\s' 2=.pointer (some ⟨B,0,none⟩)/\s' 6=.pointer (some ⟨D,0,none⟩)/\s' 7=.int .i64 52/\s' 8=.int .i64 (-1074)/\s' 9=.int .i64 E/\w2.grownBy w' none) ?_ ?_
 ·intro R' K' HR hK';by_cases h0:LN=0
  ·have hE:E=-1074:=by have:=HEN.out;rw[if_pos (HNL.out.1 h0)]at this;omega
   subst hE;subst h0;(go_wp2_with fail;repeat ((first|refine cZ ?_|refine cW ?_);go_wp2_with fail));exact got HR ⟨zb,zb,zb,zb,zb,zb,yy w2 none⟩
  ·have hE:E=max (-1074) (O-52):=by have:=HEN.out;rw[if_neg (fun h=>h0 (HNL.out.2 h))]at this;omega
   have hLN:0<LN:=zd;have HEE:=zH hE;clear hE;(go_wp2_with fail;repeat ((first|refine cZ ?_|refine cW ?_);go_wp2_with fail));refine (HOT.out _ _ _ HN2.out HD2.out).mono ?_;rintro e w3 ⟨rfl,hg3⟩;have HG3:=zH hg3;clear hg3;(go_wp2_with fail;repeat ((first|refine cZ ?_|refine cW ?_);go_wp2_with fail));refine got HR ⟨zb,zb,zb,zb,zb,?_,HG3.out⟩;simp[ov, *];rw[HEE.out]
 clear s0 s1 σ k0 k1 k2 b0;rintro σ w3 ⟨s1,s2,s6,s7,s8,s9,hg3⟩;have HRD3:=zH (HRD2.out.grown hg3 zi);have HRB3:=zH (HRB.out.grown hg3 zi);have HN3:=zH (HN2.out.grown hg3);have HD3:=zH (HD2.out.grown hg3);have HG3:=zH (ya HG2.out hg3);clear hg3 HOT;have k0:=HRD3.out.cell 0;have k1:=HRD3.out.cell 1;have k2:=HRD3.out.cell 2;simp only[List.getElem?_cons_zero,List.getElem?_cons_succ]at k0 k1 k2;(go_wp2_with fail;repeat ((first|refine cZ ?_|refine cW ?_);go_wp2_with fail));refine (HIN.out _).mono ?_;rintro e w7 ⟨rfl,rfl⟩;(go_wp2_with fail;repeat ((first|refine cZ ?_|refine cW ?_);go_wp2_with fail));refine (HBI.out _).mono ?_;rintro e w7 ⟨rfl,rfl⟩;go_wp2_with fail;refine yr (fun s' w'=>s' 1=.int .i64 64/\s' 2=.pointer (some ⟨B,0,none⟩)/\s' 4=.int .u64 (N:Int)/\w3.grownBy w' none) ?_ ?_
 ·intro R' K' HR hK';by_cases hc:E<=1023-52
  ·have hc2:E<=971:=zd;obtain⟨q,hq⟩:∃ q:Nat,E-(-1074)=(q:Int):=⟨(E-(-1074)).toNat,zd⟩;have hNv:N=q*4503599627370496+S:=by
    have:=HNR.out;rw[if_pos hc,show (E-(1-1023-52)).toNat=q by omega]at this;exact this
   have HQE:=zH hq;have hq9:q<=2100:=zd;have HNV:=zH hNv;clear hc hNv hq;(go_wp2_with fail;repeat ((first|refine cZ ?_|refine cW ?_);go_wp2_with fail));refine (HTT.out _ _ _ HN3.out HD3.out).mono ?_;rintro e w4 ⟨v4,rfl,hv4,hg4⟩;obtain⟨n4,d4,rfl,hn4,hd4⟩:=hv4;have HN4:=zH hn4;have HD4:=zH hd4;have HG4:=zH hg4;clear hn4 hd4 hg4 k0 k1 k2;(go_wp2_with fail;repeat ((first|refine cZ ?_|refine cW ?_);go_wp2_with fail));refine (HRD.out _ _ _ HN4.out HD4.out).mono ?_;rintro e w5 ⟨v5,rfl,hn5,hg5⟩;have HN5:=zH hn5;have HG5:=zH (ya HG4.out hg5);clear hn5 hg5;(go_wp2_with fail;repeat ((first|refine cZ ?_|refine cW ?_);go_wp2_with fail));refine wp_region_noPanic ?_;refine wp_region_held_drew (S:=fun W=>w5.grownBy W none) zg (yh w5 1 none) (fun hHeld=>?_);(refine yg 0 46 ?_;refine yg 1 47 ?_);(refine xg 2 48 (oi:=?_) (v:=?_) ?_ ?_ zg zg zg (fun _ _ _ _ _ h=>h) ?_ zq ?_ ?_;rotate_left 2;(focus ((simp only[List.getElem?_toArray,List.getElem?_cons_succ,List.getElem?_cons_zero]);rfl));(focus rfl);(focus (first | rfl | (simp only[Region.wanted,yielded,List.getElem?_toArray,List.getElem?_cons_succ,List.getElem?_cons_zero,Option.bind_some,Option.map_some,Fr_get?,yc,yd];rfl) | go_simp));(focus (intro W hS;go_simp;rw[zr6 _ zd zd,show E+1074=(q:Int) by have:=HQE.out;omega])));(refine xg 3 49 (oi:=?_) (v:=?_) ?_ ?_ zg zg zg (fun _ _ _ _ _ h=>h) ?_ zq ?_ ?_;rotate_left 2;(focus ((simp only[List.getElem?_toArray,List.getElem?_cons_succ,List.getElem?_cons_zero]);rfl));(focus rfl);(focus (first | rfl | (simp only[Region.wanted,yielded,List.getElem?_toArray,List.getElem?_cons_succ,List.getElem?_cons_zero,Option.bind_some,Option.map_some,Fr_get?,yc,yd];rfl) | go_simp));(focus (intro W hS;go_simp;rw[zku q zd])));(refine yg 4 50 ?_);(refine xg 5 51 (oi:=?_) (v:=?_) ?_ ?_ zg zg zg (fun _ _ _ _ _ h=>h) ?_ zq ?_ ?_;rotate_left 2;(focus ((simp only[List.getElem?_toArray,List.getElem?_cons_succ,List.getElem?_cons_zero]);rfl));(focus rfl);(focus (first | rfl | (simp only[Region.wanted,yielded,List.getElem?_toArray,List.getElem?_cons_succ,List.getElem?_cons_zero,Option.bind_some,Option.map_some,Fr_get?,yc,yd];rfl) | go_simp));(focus (intro W hS;go_simp;rw[show IntKind.u64.wrap ((q:Int)*4503599627370496)=((q*4503599627370496:Nat):Int) by rw[IntKind.wrap_u64];omega])));(refine yg 6 52 ?_;refine yg 10 56 ?_);(refine zO 7 ?_;intro K hK;go_simp;(refine (HA0.out _ _ (HN5.out.grown hHeld)).mono ?_;rintro e w6 ⟨rfl,rfl⟩);go_wp2_with fail;replace hHeld:=hHeld;refine hK.out _ _ hHeld ?_;clear hK K);(refine xg 8 54 (oi:=?_) (v:=?_) ?_ ?_ zg zg zg (fun _ _ _ _ _ h=>h) ?_ zq ?_ ?_;rotate_left 2;(focus ((simp only[List.getElem?_toArray,List.getElem?_cons_succ,List.getElem?_cons_zero]);rfl));(focus rfl);(focus (first | rfl | (simp only[Region.wanted,yielded,List.getElem?_toArray,List.getElem?_cons_succ,List.getElem?_cons_zero,Option.bind_some,Option.map_some,Fr_get?,yc,yd];rfl) | go_simp));(focus (intro W hS;go_simp;rw[zku x0 zd])));(refine xg 9 55 (oi:=?_) (v:=?_) ?_ ?_ zg zg zg (fun _ _ _ _ _ h=>h) ?_ zq ?_ ?_;rotate_left 2;(focus ((simp only[List.getElem?_toArray,List.getElem?_cons_succ,List.getElem?_cons_zero]);rfl));(focus rfl);(focus (first | rfl | (simp only[Region.wanted,yielded,List.getElem?_toArray,List.getElem?_cons_succ,List.getElem?_cons_zero,Option.bind_some,Option.map_some,Fr_get?,yc,yd];rfl) | go_simp));(focus (intro W hS;go_simp;rw[show IntKind.u64.wrap ((q:Int)*4503599627370496+(x0:Int))=((q*4503599627370496+x0:Nat):Int) by rw[IntKind.wrap_u64];omega])));(refine zO 11 ?_;intro K hK;go_simp;(refine (HA1.out _ _ (HN5.out.grown hHeld)).mono ?_;rintro e w8 ⟨rfl,rfl⟩);go_wp2_with fail;replace hHeld:=hHeld;refine hK.out _ _ hHeld ?_;clear hK K);(refine xg 12 58 (oi:=?_) (v:=?_) ?_ ?_ zg zg zg (fun _ _ _ _ _ h=>h) ?_ zq ?_ ?_;rotate_left 2;(focus ((simp only[List.getElem?_toArray,List.getElem?_cons_succ,List.getElem?_cons_zero]);rfl));(focus rfl);(focus (first | rfl | (simp only[Region.wanted,yielded,List.getElem?_toArray,List.getElem?_cons_succ,List.getElem?_cons_zero,Option.bind_some,Option.map_some,Fr_get?,yc,yd];rfl) | go_simp));(focus (intro W hS;go_simp;rw[zku x1 zd])));(refine xg 13 59 (oi:=?_) (v:=?_) ?_ ?_ zg zg zg (fun _ _ _ _ _ h=>h) ?_ zq ?_ ?_;rotate_left 2;(focus ((simp only[List.getElem?_toArray,List.getElem?_cons_succ,List.getElem?_cons_zero]);rfl));(focus rfl);(focus (first | rfl | (simp only[Region.wanted,yielded,List.getElem?_toArray,List.getElem?_cons_succ,List.getElem?_cons_zero,Option.bind_some,Option.map_some,Fr_get?,yc,yd];rfl) | go_simp));(focus (intro W hS;go_simp;rw[show IntKind.u64.wrap ((x1:Int)*1073741824)=((x1*1073741824:Nat):Int) by rw[IntKind.wrap_u64];omega])));(refine xg 14 60 (oi:=?_) (v:=?_) ?_ ?_ zg zg zg (fun _ _ _ _ _ h=>h) ?_ zq ?_ ?_;rotate_left 2;(focus ((simp only[List.getElem?_toArray,List.getElem?_cons_succ,List.getElem?_cons_zero]);rfl));(focus rfl);(focus (first | rfl | (simp only[Region.wanted,yielded,List.getElem?_toArray,List.getElem?_cons_succ,List.getElem?_cons_zero,Option.bind_some,Option.map_some,Fr_get?,yc,yd];rfl) | go_simp));(focus (intro W hS;go_simp;rw[show IntKind.u64.wrap ((q:Int)*4503599627370496+(x0:Int)+(x1:Int)*1073741824)=(N:Int) by rw[IntKind.wrap_u64];have h1:=HNV.out;have h2:=HXS.out;omega])));(refine yg 15 4 ?_);refine wpAnyH_done zg ?_ _;refine NoPanic.normal ?_;exact hK' _ _ _ (got HR ⟨zb,zb,zb,ya HG5.out hHeld⟩)
  ·have hNv:N=9218868437227405312:=by have:=HNR.out;rw[if_neg hc]at this;exact this
   have f1:decide (E<=971)=false:=zh;subst hNv;clear hc;(go_wp2_with fail;repeat ((first|refine cZ ?_|refine cW ?_);go_wp2_with fail));exact got HR ⟨zb,zb,zb,yy w3 none⟩
 clear s1 s2 s6 s7 s8 s9 σ k0 k1 k2;rintro σ w4 ⟨s1,s2,s4,hg4⟩;have HG4:=zH (ya HG3.out hg4);have hb4:=HRB3.out.grown hg4 zi;have b0:=hb4.cell 0;simp only[List.getElem?_cons_zero]at b0;have hNl:N<=9218868437227405312:=by
  have:=HNR.out;split at this
  ·next h=>
   rw[this];have hq:(E-(1-1023-52)).toNat<=2045:=zd;have h2:(E-(1-1023-52)).toNat*2^(52:Int).toNat<=2045*4503599627370496:=Nat.mul_le_mul_right _ hq;omega
  ·omega
 clear hg4 hb4;(go_wp2_with fail;repeat ((first|refine cZ ?_|refine cW ?_);go_wp2_with fail));refine (HIN.out _).mono ?_;rintro e w7 ⟨rfl,rfl⟩;go_wp2_with fail;have hbe:((N:Int)==9218868437227405312)=(N==9218868437227405312):=by
  rw[Bool.eq_iff_iff];simp only[beq_iff_eq];omega
 refine yr (fun s' w'=>s' 4=.int .u64 (M:Int)/\s' 5=.bool (N==9218868437227405312)/\w4=w') ?_ ?_
 ·intro R' K' HR hK';cases neg
  ·(go_wp2_with fail;repeat ((first|refine cZ ?_|refine cW ?_);go_wp2_with fail));exact got HR ⟨by have:=HM.out;simp only[Bool.false_eq_true,if_false,Nat.add_zero]at this;rw[<-this];simp[ov, *],zαS,rfl⟩
  ·(go_wp2_with fail;repeat ((first|refine cZ ?_|refine cW ?_);go_wp2_with fail));refine (HSB.out _).mono ?_;rintro e w8 ⟨rfl,rfl⟩;(go_wp2_with fail;repeat ((first|refine cZ ?_|refine cW ?_);go_wp2_with fail));exact got HR ⟨by have:=HM.out;simp only[if_true]at this;rw[<-this];simp only[yc,yd,if_true];congr 1,zαS,rfl⟩
 clear s1 s2 s4 b0 σ;rintro σ w5 ⟨s4,s5,rfl⟩;(go_wp2_with fail;repeat ((first|refine cZ ?_|refine cW ?_);go_wp2_with fail));exact xc (.int .u64 (M:Int)) (.bool (N==9218868437227405312)) rfl ze ze zb zb ⟨rfl,HG4.out⟩
def zxq (a b:Nat):Nat:=xh 23 127 2139095040 a b
set_option maxRecDepth 100000 in
theorem zxz (neg:Bool) (vn vd:Value) (a b:Nat) (w:World) (hn:NatV w vn a) (hd:NatV w vd b) (hb:b≠0) (hla:(yf a).length<=150000) (hlb:(yf b).length<=150000):
  Calls Tryz.prog 62 #[.agg #[.bool neg,vn,vd],.int .i64 32] w fun e w'=>e=.returned (.tuple #[.int .u64 ((zxq a b+if neg then 2147483648 else 0:Nat):Int),.bool (zxq a b==2139095040)])/\w.grownBy w' none:=by
 obtain⟨e1,e2,o1,o2⟩:=zq5 23 127 a b hla hlb zd zd zd zd;have hs:=zld a b 23 127 hb zd;obtain⟨N,hN⟩:=zX (zxq a b);have hnr:N=if yt 23 127 a b<=127-23 then (yt 23 127 a b-(1-127-23)).toNat*2^(23:Int).toNat+rB a b (yt 23 127 a b) else 2139095040:=by rw[<-hN];rfl
 have hen:yt 23 127 a b=if a=0 then 1-127-23 else max (1-127-23) (uo a b-23):=rfl
 rw[hN];obtain⟨M,hM⟩:=zX (N+(if neg then 2147483648 else 0));rw[hM];have HM:=zH hM;clear hN hM;have HOT:=zH (fun vn vd W (h1:NatV W vn a) (h2:NatV W vd b)=>zdz false vn vd a b W h1 h2 hla hlb);have HTT:=zH (fun vn vd W (h1:NatV W vn a) (h2:NatV W vd b)=>zc1 false vn vd a b (yt 23 127 a b) W h1 h2 zd zd zd zd);have HRD:=zH (fun V U W (h1:NatV W V (a*2^(-yt 23 127 a b).toNat)) (h2:NatV W U (b*2^(yt 23 127 a b).toNat))=>zh6 false V U _ _ W h1 h2 (Nat.mul_pos zd (p2 _)) (by have:=ya6 a 150000 (-yt 23 127 a b).toNat hla;omega) (by have:=ya6 b 150000 (yt 23 127 a b).toNat hlb;omega));obtain⟨S,hS1,hS2⟩:∃ S,vi (a*2^(-yt 23 127 a b).toNat) (b*2^(yt 23 127 a b).toNat)=S/\rB a b (yt 23 127 a b)=S:=⟨_,rfl,rfl⟩;simp only[hS1]at HRD;rw[hS2]at hs hnr;have hs2:S<=16777216:=hs;generalize yt 23 127 a b=E at *
 generalize uo a b=O at *
 have hSl:(yf S).length<=3:=yv zd;have g0:(yf S).getD 0 0=S%1073741824:=by rw[qu,Nat.pow_zero,Nat.div_one]
 have g1:(yf S).getD 1 0=S / 1073741824:=by rw[qu,Nat.pow_one,Nat.mod_eq_of_lt zd]
 have ha0:=fun V W (h:NatV W V S)=>zds V (yf S) 0 W h zd zd
 have ha1:=fun V W (h:NatV W V S)=>zds V (yf S) 1 W h zd zd
 obtain⟨x0,hx0⟩:=zX (S%1073741824);obtain⟨x1,hx1⟩:=zX (S / 1073741824);have hx0l:x0<1073741824:=zd;have hx1l:x1<16777216:=zd;have HXS:=zH (show S=x0+x1*1073741824 by omega);rw[g0,hx0]at ha0;rw[g1,hx1]at ha1;have HA0:=zH (show ∀ V W,NatV W V S->Calls Tryz.prog 78 #[V,.int .i64 0] W fun e w'=>e=.returned (.int .i64 (x0:Int))/\W=w' from ha0);have HA1:=zH (show ∀ V W,NatV W V S->Calls Tryz.prog 78 #[V,.int .i64 1] W fun e w'=>e=.returned (.int .i64 (x1:Int))/\W=w' from ha1);have HNR:=zH hnr;have HEN:=zH hen;have HFR:=zH zek;have HBI:=zH zbd;have HIN:=zH zdg;have HSB:=zH ur;have HNL:=zH (show (yf a).length=0↔a=0 from ⟨fun h=>by by_cases h0:a=0;exact h0;exact absurd (List.length_eq_zero_iff.1 h) (qn h0),fun h=>by rw[h,xm];rfl⟩);clear hnr hen hS1 hS2 hs ha0 ha1 g0 g1 hSl hx0 hx1;obtain⟨an,cn,rfl⟩:=hn.len;obtain⟨ad,cd,rfl⟩:=hd.len;obtain⟨LN,hLN⟩:=zX ((yf a).length);rw[hLN]at hn HNL hla;simp only[hLN];generalize (yf b).length=LD at *
 clear hLN;obtain⟨w1,hw1⟩:=zX (w.alloc (.cells #[.bool neg,.slice an LN cn,.slice ad LD cd] 37));obtain⟨B,hB⟩:=zX w.heap.size;have hib:=InBlk.new w neg (.slice an LN cn) (.slice ad LD cd) 37;rw[hw1,hB]at hib;obtain⟨w2,hw2⟩:∃ w',w1.alloc (.cells #[.bool false,.slice an LN cn,.slice ad LD cd] 37)=w':=⟨_,rfl⟩;obtain⟨D,hD⟩:=zX ((World.heap w1).size);have hid:=InBlk.new w1 false (.slice an LN cn) (.slice ad LD cd) 37;rw[hw2,hD]at hid;have HG2:=zH (ya hib.grown hid.grown);have HRB:=zH (hib.row.grown hid.grown zi);have HRD2:=zH hid.row;have HN2:=zH (hn.grown HG2.out);have HD2:=zH (hd.grown HG2.out);have k0:=hib.row.cell 0;have k1:=hib.row.cell 1;have k2:=hib.row.cell 2;simp only[List.getElem?_cons_zero,List.getElem?_cons_succ]at k0 k1 k2;have HW1:=zH hw1;have HW2:=zH hw2;have HBB:=zH hB;have HDD:=zH hD;clear hib hid hw1 hw2 hn hd hB hD;refine ye Tryz.func62 rfl (by rw[Tryz.ntmps62];simp) ?_;intro σ hσ;rw[Tryz.ntmps62];have s0:σ 0=.agg #[.bool neg,.slice an LN cn,.slice ad LD cd]:=hσ 0 zi;have s1:σ 1=.int .i64 32:=hσ 1 zi;clear hσ;go_upto_region 1 with fail;rw[HW1.out,HBB.out];go_upto_region 2 with fail;rw[HW2.out,HDD.out];clear HW1 HW2 k0 k1 k2;have k0:=HRD2.out.cell 0;have k1:=HRD2.out.cell 1;have k2:=HRD2.out.cell 2;have b0:=HRB.out.cell 0;simp only[List.getElem?_cons_zero,List.getElem?_cons_succ]at k0 k1 k2 b0;(go_wp2_with fail;repeat ((first|refine cZ ?_|refine cW ?_);go_wp2_with fail));refine (HFR.out _).mono ?_;rintro e w7 ⟨rfl,rfl⟩;(go_wp2_with fail;repeat ((first|refine cZ ?_|refine cW ?_);go_wp2_with fail));refine (HBI.out _).mono ?_;rintro e w7 ⟨rfl,rfl⟩;(go_wp2_with fail;repeat ((first|refine cZ ?_|refine cW ?_);go_wp2_with fail));refine yr (fun s' w'=>s' 1=.int .i64 32/\s' 2=.pointer (some ⟨B,0,none⟩)/\s' 6=.pointer (some ⟨D,0,none⟩)/\s' 7=.int .i64 23/\s' 8=.int .i64 (-149)/\s' 9=.int .i64 E/\w2.grownBy w' none) ?_ ?_
 ·intro R' K' HR hK';by_cases h0:LN=0
  ·have hE:E=-149:=by have:=HEN.out;rw[if_pos (HNL.out.1 h0)]at this;omega
   subst hE;subst h0;(go_wp2_with fail;repeat ((first|refine cZ ?_|refine cW ?_);go_wp2_with fail));exact got HR ⟨zb,zb,zb,zb,zb,zb,yy w2 none⟩
  ·have hE:E=max (-149) (O-23):=by have:=HEN.out;rw[if_neg (fun h=>h0 (HNL.out.2 h))]at this;omega
   have hLN:0<LN:=zd;have HEE:=zH hE;clear hE;(go_wp2_with fail;repeat ((first|refine cZ ?_|refine cW ?_);go_wp2_with fail));refine (HOT.out _ _ _ HN2.out HD2.out).mono ?_;rintro e w3 ⟨rfl,hg3⟩;have HG3:=zH hg3;clear hg3;(go_wp2_with fail;repeat ((first|refine cZ ?_|refine cW ?_);go_wp2_with fail));refine got HR ⟨zb,zb,zb,zb,zb,?_,HG3.out⟩;simp[ov, *];rw[HEE.out]
 clear s0 s1 σ k0 k1 k2 b0;rintro σ w3 ⟨s1,s2,s6,s7,s8,s9,hg3⟩;have HRD3:=zH (HRD2.out.grown hg3 zi);have HRB3:=zH (HRB.out.grown hg3 zi);have HN3:=zH (HN2.out.grown hg3);have HD3:=zH (HD2.out.grown hg3);have HG3:=zH (ya HG2.out hg3);clear hg3 HOT;have k0:=HRD3.out.cell 0;have k1:=HRD3.out.cell 1;have k2:=HRD3.out.cell 2;simp only[List.getElem?_cons_zero,List.getElem?_cons_succ]at k0 k1 k2;(go_wp2_with fail;repeat ((first|refine cZ ?_|refine cW ?_);go_wp2_with fail));refine (HIN.out _).mono ?_;rintro e w7 ⟨rfl,rfl⟩;(go_wp2_with fail;repeat ((first|refine cZ ?_|refine cW ?_);go_wp2_with fail));refine (HBI.out _).mono ?_;rintro e w7 ⟨rfl,rfl⟩;go_wp2_with fail;refine yr (fun s' w'=>s' 1=.int .i64 32/\s' 2=.pointer (some ⟨B,0,none⟩)/\s' 4=.int .u64 (N:Int)/\w3.grownBy w' none) ?_ ?_
 ·intro R' K' HR hK';by_cases hc:E<=127-23
  ·have hc2:E<=104:=zd;obtain⟨q,hq⟩:∃ q:Nat,E-(-149)=(q:Int):=⟨(E-(-149)).toNat,zd⟩;have hNv:N=q*8388608+S:=by
    have:=HNR.out;rw[if_pos hc,show (E-(1-127-23)).toNat=q by omega]at this;exact this
   have HQE:=zH hq;have hq9:q<=2100:=zd;have HNV:=zH hNv;clear hc hNv hq;(go_wp2_with fail;repeat ((first|refine cZ ?_|refine cW ?_);go_wp2_with fail));refine (HTT.out _ _ _ HN3.out HD3.out).mono ?_;rintro e w4 ⟨v4,rfl,hv4,hg4⟩;obtain⟨n4,d4,rfl,hn4,hd4⟩:=hv4;have HN4:=zH hn4;have HD4:=zH hd4;have HG4:=zH hg4;clear hn4 hd4 hg4 k0 k1 k2;(go_wp2_with fail;repeat ((first|refine cZ ?_|refine cW ?_);go_wp2_with fail));refine (HRD.out _ _ _ HN4.out HD4.out).mono ?_;rintro e w5 ⟨v5,rfl,hn5,hg5⟩;have HN5:=zH hn5;have HG5:=zH (ya HG4.out hg5);clear hn5 hg5;(go_wp2_with fail;repeat ((first|refine cZ ?_|refine cW ?_);go_wp2_with fail));refine wp_region_noPanic ?_;refine wp_region_held_drew (S:=fun W=>w5.grownBy W none) zg (yh w5 1 none) (fun hHeld=>?_);(refine yg 0 46 ?_;refine yg 1 47 ?_);(refine xg 2 48 (oi:=?_) (v:=?_) ?_ ?_ zg zg zg (fun _ _ _ _ _ h=>h) ?_ zq ?_ ?_;rotate_left 2;(focus ((simp only[List.getElem?_toArray,List.getElem?_cons_succ,List.getElem?_cons_zero]);rfl));(focus rfl);(focus (first | rfl | (simp only[Region.wanted,yielded,List.getElem?_toArray,List.getElem?_cons_succ,List.getElem?_cons_zero,Option.bind_some,Option.map_some,Fr_get?,yc,yd];rfl) | go_simp));(focus (intro W hS;go_simp;rw[zr6 _ zd zd,show E+149=(q:Int) by have:=HQE.out;omega])));(refine xg 3 49 (oi:=?_) (v:=?_) ?_ ?_ zg zg zg (fun _ _ _ _ _ h=>h) ?_ zq ?_ ?_;rotate_left 2;(focus ((simp only[List.getElem?_toArray,List.getElem?_cons_succ,List.getElem?_cons_zero]);rfl));(focus rfl);(focus (first | rfl | (simp only[Region.wanted,yielded,List.getElem?_toArray,List.getElem?_cons_succ,List.getElem?_cons_zero,Option.bind_some,Option.map_some,Fr_get?,yc,yd];rfl) | go_simp));(focus (intro W hS;go_simp;rw[zku q zd])));(refine yg 4 50 ?_);(refine xg 5 51 (oi:=?_) (v:=?_) ?_ ?_ zg zg zg (fun _ _ _ _ _ h=>h) ?_ zq ?_ ?_;rotate_left 2;(focus ((simp only[List.getElem?_toArray,List.getElem?_cons_succ,List.getElem?_cons_zero]);rfl));(focus rfl);(focus (first | rfl | (simp only[Region.wanted,yielded,List.getElem?_toArray,List.getElem?_cons_succ,List.getElem?_cons_zero,Option.bind_some,Option.map_some,Fr_get?,yc,yd];rfl) | go_simp));(focus (intro W hS;go_simp;rw[show IntKind.u64.wrap ((q:Int)*8388608)=((q*8388608:Nat):Int) by rw[IntKind.wrap_u64];omega])));(refine yg 6 52 ?_;refine yg 10 56 ?_);(refine zO 7 ?_;intro K hK;go_simp;(refine (HA0.out _ _ (HN5.out.grown hHeld)).mono ?_;rintro e w6 ⟨rfl,rfl⟩);go_wp2_with fail;replace hHeld:=hHeld;refine hK.out _ _ hHeld ?_;clear hK K);(refine xg 8 54 (oi:=?_) (v:=?_) ?_ ?_ zg zg zg (fun _ _ _ _ _ h=>h) ?_ zq ?_ ?_;rotate_left 2;(focus ((simp only[List.getElem?_toArray,List.getElem?_cons_succ,List.getElem?_cons_zero]);rfl));(focus rfl);(focus (first | rfl | (simp only[Region.wanted,yielded,List.getElem?_toArray,List.getElem?_cons_succ,List.getElem?_cons_zero,Option.bind_some,Option.map_some,Fr_get?,yc,yd];rfl) | go_simp));(focus (intro W hS;go_simp;rw[zku x0 zd])));(refine xg 9 55 (oi:=?_) (v:=?_) ?_ ?_ zg zg zg (fun _ _ _ _ _ h=>h) ?_ zq ?_ ?_;rotate_left 2;(focus ((simp only[List.getElem?_toArray,List.getElem?_cons_succ,List.getElem?_cons_zero]);rfl));(focus rfl);(focus (first | rfl | (simp only[Region.wanted,yielded,List.getElem?_toArray,List.getElem?_cons_succ,List.getElem?_cons_zero,Option.bind_some,Option.map_some,Fr_get?,yc,yd];rfl) | go_simp));(focus (intro W hS;go_simp;rw[show IntKind.u64.wrap ((q:Int)*8388608+(x0:Int))=((q*8388608+x0:Nat):Int) by rw[IntKind.wrap_u64];omega])));(refine zO 11 ?_;intro K hK;go_simp;(refine (HA1.out _ _ (HN5.out.grown hHeld)).mono ?_;rintro e w8 ⟨rfl,rfl⟩);go_wp2_with fail;replace hHeld:=hHeld;refine hK.out _ _ hHeld ?_;clear hK K);(refine xg 12 58 (oi:=?_) (v:=?_) ?_ ?_ zg zg zg (fun _ _ _ _ _ h=>h) ?_ zq ?_ ?_;rotate_left 2;(focus ((simp only[List.getElem?_toArray,List.getElem?_cons_succ,List.getElem?_cons_zero]);rfl));(focus rfl);(focus (first | rfl | (simp only[Region.wanted,yielded,List.getElem?_toArray,List.getElem?_cons_succ,List.getElem?_cons_zero,Option.bind_some,Option.map_some,Fr_get?,yc,yd];rfl) | go_simp));(focus (intro W hS;go_simp;rw[zku x1 zd])));(refine xg 13 59 (oi:=?_) (v:=?_) ?_ ?_ zg zg zg (fun _ _ _ _ _ h=>h) ?_ zq ?_ ?_;rotate_left 2;(focus ((simp only[List.getElem?_toArray,List.getElem?_cons_succ,List.getElem?_cons_zero]);rfl));(focus rfl);(focus (first | rfl | (simp only[Region.wanted,yielded,List.getElem?_toArray,List.getElem?_cons_succ,List.getElem?_cons_zero,Option.bind_some,Option.map_some,Fr_get?,yc,yd];rfl) | go_simp));(focus (intro W hS;go_simp;rw[show IntKind.u64.wrap ((x1:Int)*1073741824)=((x1*1073741824:Nat):Int) by rw[IntKind.wrap_u64];omega])));(refine xg 14 60 (oi:=?_) (v:=?_) ?_ ?_ zg zg zg (fun _ _ _ _ _ h=>h) ?_ zq ?_ ?_;rotate_left 2;(focus ((simp only[List.getElem?_toArray,List.getElem?_cons_succ,List.getElem?_cons_zero]);rfl));(focus rfl);(focus (first | rfl | (simp only[Region.wanted,yielded,List.getElem?_toArray,List.getElem?_cons_succ,List.getElem?_cons_zero,Option.bind_some,Option.map_some,Fr_get?,yc,yd];rfl) | go_simp));(focus (intro W hS;go_simp;rw[show IntKind.u64.wrap ((q:Int)*8388608+(x0:Int)+(x1:Int)*1073741824)=(N:Int) by rw[IntKind.wrap_u64];have h1:=HNV.out;have h2:=HXS.out;omega])));(refine yg 15 4 ?_);refine wpAnyH_done zg ?_ _;refine NoPanic.normal ?_;exact hK' _ _ _ (got HR ⟨zb,zb,zb,ya HG5.out hHeld⟩)
  ·have hNv:N=2139095040:=by have:=HNR.out;rw[if_neg hc]at this;exact this
   have f1:decide (E<=104)=false:=zh;subst hNv;clear hc;(go_wp2_with fail;repeat ((first|refine cZ ?_|refine cW ?_);go_wp2_with fail));exact got HR ⟨zb,zb,zb,yy w3 none⟩
 clear s1 s2 s6 s7 s8 s9 σ k0 k1 k2;rintro σ w4 ⟨s1,s2,s4,hg4⟩;have HG4:=zH (ya HG3.out hg4);have hb4:=HRB3.out.grown hg4 zi;have b0:=hb4.cell 0;simp only[List.getElem?_cons_zero]at b0;have hNl:N<=2139095040:=by
  have:=HNR.out;split at this
  ·next h=>
   rw[this];have hq:(E-(1-127-23)).toNat<=253:=zd;have h2:(E-(1-127-23)).toNat*2^(23:Int).toNat<=253*8388608:=Nat.mul_le_mul_right _ hq;omega
  ·omega
 clear hg4 hb4;(go_wp2_with fail;repeat ((first|refine cZ ?_|refine cW ?_);go_wp2_with fail));refine (HIN.out _).mono ?_;rintro e w7 ⟨rfl,rfl⟩;go_wp2_with fail;have hbe:((N:Int)==2139095040)=(N==2139095040):=by
  rw[Bool.eq_iff_iff];simp only[beq_iff_eq];omega
 refine yr (fun s' w'=>s' 4=.int .u64 (M:Int)/\s' 5=.bool (N==2139095040)/\w4=w') ?_ ?_
 ·intro R' K' HR hK';cases neg
  ·(go_wp2_with fail;repeat ((first|refine cZ ?_|refine cW ?_);go_wp2_with fail));exact got HR ⟨by have:=HM.out;simp only[Bool.false_eq_true,if_false,Nat.add_zero]at this;rw[<-this];simp[ov, *],zαS,rfl⟩
  ·(go_wp2_with fail;repeat ((first|refine cZ ?_|refine cW ?_);go_wp2_with fail));refine (HSB.out _).mono ?_;rintro e w8 ⟨rfl,rfl⟩;(go_wp2_with fail;repeat ((first|refine cZ ?_|refine cW ?_);go_wp2_with fail));exact got HR ⟨by have:=HM.out;simp only[if_true]at this;rw[<-this];simp only[yc,yd,if_true];congr 1,zαS,rfl⟩
 clear s1 s2 s4 b0 σ;rintro σ w5 ⟨s4,s5,rfl⟩;(go_wp2_with fail;repeat ((first|refine cZ ?_|refine cW ?_);go_wp2_with fail));exact xc (.int .u64 (M:Int)) (.bool (N==2139095040)) rfl ze ze zb zb ⟨rfl,HG4.out⟩
end
section
theorem zxm (k:FloatKind) (b:Nat):Op.unary .neg (.float k b)=pure (.float k (Op.negFloat k b)):=rfl
def zkr (fmt:Ieee.Format) (x v:Nat):Bool:=match fmt.read x with | .number false n j=>decide (n≠0/\n*2^j.toNat=v*2^(-j).toNat) | _=>false
theorem zpm {fmt:Ieee.Format} {x v:Nat} (h:zkr fmt x v=true):RdV fmt x false v:=by
 unfold zkr at h;split at h
 ·rename_i n j e;have:=of_decide_eq_true h;exact⟨n,j,e,this.1,this.2⟩
 ·cases h
theorem zpl:∀ i,i<23->zkr Ieee.double (zso i) (10^i)=true:=by
 have h:(List.range 23).all (fun i=>zkr Ieee.double (zso i) (10^i))=true:=zp;intro i hi;exact (List.all_eq_true.1 h) i (List.mem_range.2 hi)
theorem zzu:∀ i,i<11->zkr Ieee.single (yad i) (10^i)=true:=by
 have h:(List.range 11).all (fun i=>zkr Ieee.single (yad i) (10^i))=true:=zp;intro i hi;exact (List.all_eq_true.1 h) i (List.mem_range.2 hi)
theorem wv (neg:Bool) (r:Nat):Ieee.double.word neg r=sgB neg+r:=by
 cases neg
 ·show r=0+r;omega
 ·rfl
theorem zxr (neg:Bool) (r:Nat):Ieee.single.word neg r=sgC neg+r:=by
 cases neg
 ·show r=0+r;omega
 ·rfl
theorem zs0 (k r:Nat) (h:r<2^k):r ^^^ 2^k=2^k+r:=by
 apply Nat.eq_of_testBit_eq;intro i;rw[Nat.testBit_xor,Nat.testBit_two_pow];by_cases hi:k=i
 ·subst hi;rw[Nat.testBit_two_pow_add_eq,Nat.testBit_lt_two_pow h];simp
 ·rcases Nat.lt_or_gt_of_ne hi with h1 | h1
  ·have e:2^k+r<2^i:=by
    have:2^(k+1)<=2^i:=Nat.pow_le_pow_right zd h1;rw[Nat.pow_succ]at this;omega
   rw[Nat.testBit_lt_two_pow e,Nat.testBit_lt_two_pow (Nat.lt_of_lt_of_le h (Nat.pow_le_pow_right zd zd))];simp[hi]
  ·rw[Nat.testBit_two_pow_add_gt h1];simp[hi]
theorem neg64 (r:Nat) (h:r<9223372036854775808):Op.negFloat .f64 r=sgB true+r:=by
 show r ^^^ 2^63=_;rw[zs0 63 r h];rfl
theorem neg32 (r:Nat) (h:r<2147483648):Op.negFloat .f32 r=sgC true+r:=by
 show r ^^^ 2^31=_;rw[zs0 31 r h];rfl
def RdO (fmt:Ieee.Format) (y:Nat) (t:Bool) (u:Nat):Prop:=∃ n j,fmt.read y=.number t n j/\j<=0/\n*2^j.toNat=u*2^(-j).toNat
theorem c15p:RdO Ieee.double 4831355200913801216 false (10^15):=⟨8000000000000000,-3,zp,ze,zp⟩
theorem c15n:RdO Ieee.double 14054727237768577024 true (10^15):=⟨8000000000000000,-3,zp,ze,zp⟩
theorem c7p:RdO Ieee.single 1259902592 false (10^7):=⟨10000000,0,zp,ze,zp⟩
theorem c7n:RdO Ieee.single 3407386240 true (10^7):=⟨10000000,0,zp,ze,zp⟩
theorem zv4 {fmt:Ieee.Format} {x y v u:Nat} {s:Bool} (hx:RdV fmt x s v) (hy:RdO fmt y false u) (hu:u≠0):(fmt.order x y==some Ordering.gt)=(!s&&decide (u<v)):=by
 rw[RdV.order hx hy];cases s
 ·simp only[Bool.false_eq_true,if_false,Bool.not_false,Bool.true_and];by_cases h:u<v
  ·rw[decide_eq_true h,Int.compare_eq_gt.2 zd];rfl
  ·rw[decide_eq_false h];rcases Nat.lt_or_ge v u with h1 | h1
   ·rw[Int.compare_eq_lt.2 zd];rfl
   ·rw[Int.compare_eq_eq.2 zd];rfl
 ·simp only[if_true,Bool.not_true,Bool.false_and,Bool.false_eq_true,if_false];rw[Int.compare_eq_lt.2 zd];rfl
theorem zv3 {fmt:Ieee.Format} {x y v u:Nat} {s:Bool} (hx:RdV fmt x s v) (hy:RdO fmt y true u) (hu:u≠0):(fmt.order x y==some Ordering.lt)=(s&&decide (u<v)):=by
 rw[RdV.order hx hy];cases s
 ·simp only[Bool.false_eq_true,if_false,Bool.false_and,if_true];rw[Int.compare_eq_gt.2 zd];rfl
 ·simp only[if_true,Bool.true_and];by_cases h:u<v
  ·rw[decide_eq_true h,Int.compare_eq_lt.2 zd];rfl
  ·rw[decide_eq_false h];rcases Nat.lt_or_ge v u with h1 | h1
   ·rw[Int.compare_eq_gt.2 zd];rfl
   ·rw[Int.compare_eq_eq.2 zd];rfl
section
variable {fmt : Ieee.Format} {f : Nat} {bias : Int} {inf : Nat}
theorem zt0 (h:FmtOK fmt f bias inf) (neg:Bool) (d u yp yn:Nat) (h0:d≠0) (hd:d<2^bias.toNat) (hu:u≠0) (hul:u<2^(f+1)) (hp:RdO fmt yp false u) (hn:RdO fmt yn true u):
  ((fmt.order (fmt.word neg (xh f bias inf d 1)) yp==some Ordering.gt) || (fmt.order (fmt.word neg (xh f bias inf d 1)) yn==some Ordering.lt))=decide (u<d):=by
 have key:∃ v,RdV fmt (fmt.word neg (xh f bias inf d 1)) neg v/\(u<v↔u<d):=by
  rcases Nat.lt_or_ge d (2^(f+1)) with h1 | h1
  ·exact⟨d,RdV.small h neg d h0 h1,Iff.rfl⟩
  ·obtain⟨v,hv,hv2⟩:=RdV.large h neg d h1 hd;exact⟨v,hv,⟨fun _=>zd,fun _=>zd⟩⟩
 obtain⟨v,hv,hiff⟩:=key;rw[zv4 hv hp hu,zv3 hv hn hu];cases neg <;> simp[hiff]
end
end
section
attribute [local go_sem] zxm
theorem zw0 (d:Nat):floatOfInt .f64 (d:Int)=sgB false+xd d 1:=by
 show Ieee.double.nearest (decide ((d:Int)<0)) (d:Int).natAbs 0=_;rw[decide_eq_false zd,Int.natAbs_natCast,zij,wv];show sgB false+xd (d*1) 1=_;rw[Nat.mul_one]
theorem zm7 (op:BinOp) {x y r:Nat} (h:floatBits op .f64 x y=some r) (t:TypeId) (w:World):(binOp op t (.float .f64 x) (.float .f64 y)).run Tryz.prog w=.ok (.float .f64 r) w:=run_float_arith w op t .f64 x y r h
theorem zoz {neg:Bool} {N d:Nat} (i:Nat) (hi:i<23) (h:RdV Ieee.double N neg d):Ieee.double.mul N (zso i)=some (sgB neg+xd (d*10^i) 1):=by
 rw[RdV.mul FmtOK.double h (zpm (zpl i hi)),wv,Bool.xor_false];rfl
theorem zur {neg:Bool} {N d:Nat} (i:Nat) (hi:i<23) (h:RdV Ieee.double N neg d):Ieee.double.div N (zso i)=some (sgB neg+xd d (10^i)):=by
 rw[RdV.div FmtOK.double h (zpm (zpl i hi)) (by have:=p10 i;omega),wv,Bool.xor_false];rfl
theorem zo0 (neg:Bool) (d:Nat) (h0:d≠0) (hd:d<2^(1023:Int).toNat):
  ((Ieee.double.order (sgB neg+xd d 1) 4831355200913801216==some Ordering.gt) || (Ieee.double.order (sgB neg+xd d 1) 14054727237768577024==some Ordering.lt))=decide (10^15<d):=by
 have h:=zt0 FmtOK.double neg d (10^15) 4831355200913801216 14054727237768577024 h0 hd ze ze c15p c15n;rw[wv]at h;exact h
theorem zoy {d i:Nat} (hd:d<4503599627370496) (hi:i<=15):d*10^i<2^(1023:Int).toNat:=by
 have h1:d*10^i<4503599627370496*10^i:=Nat.mul_lt_mul_of_pos_right hd (p10 i);have h2:4503599627370496*10^i<=4503599627370496*10^15:=Nat.mul_le_mul_left _ (Nat.pow_le_pow_right zd hi);exact Nat.lt_of_lt_of_le h1 (Nat.le_trans h2 zp)
set_option maxRecDepth 100000 in
theorem zdr (T d:Nat) (p:Int) (neg:Bool) (w:World) (he:EnvP T w) (h0:d≠0) (hd:d<18446744073709551616) (hp1:-1000000<=p) (hp2:p<=1000000):
  Calls Tryz.prog 102 #[.int .u64 (d:Int),.int .i64 p,.bool neg] w fun e w'=>
   ∃ (v:Nat) (ok:Bool),e=.returned (.tuple #[.float .f64 v,.bool ok])/\(ok=true->v=sgB neg+xd (d*10^p.toNat) (10^(-p).toNat)/\d<4503599627370496/\p<=37)/\w=w':=by
 refine ye Tryz.func102 rfl (by rw[Tryz.ntmps102];simp) ?_;intro σ hσ;rw[Tryz.ntmps102];have s0:σ 0=.int .u64 (d:Int):=hσ 0 zi;have s1:σ 1=.int .i64 p:=hσ 1 zi;have s2:σ 2=.bool neg:=hσ 2 zi;clear hσ;have f1:=he.i64.1;obtain⟨tb,tof,tc,htT,htc,ht0,ht⟩:=he.t64;have HT:=zH ht;clear ht he;by_cases hb:d<4503599627370496
 ·have g1:((d:Int) / 4503599627370496 != 0)=false:=by
   rw[bne_eq_false_iff_eq];omega
  have hnl:xd d 1<9223372036854775808:=Nat.lt_of_le_of_lt (ud 52 1023 9218868437227405312 d 1 ze ze rfl) ze;obtain⟨n0,hn0⟩:=zX (floatOfInt .f64 (d:Int));obtain⟨n1,hn1⟩:=zX (Op.negFloat .f64 n0);obtain⟨N,hN⟩:=zX (sgB neg+xd d 1);have HN0:=zH (hn0.symm.trans (zw0 d));have HN1:=zH (show n1=sgB true+xd d 1 by rw[<-hn1,HN0.out];show Op.negFloat .f64 (0+xd d 1)=_;rw[Nat.zero_add];exact neg64 _ hnl);have HN:=zH hN;have HRD:=zH (show RdV Ieee.double N neg d by rw[<-hN,<-wv];exact RdV.small FmtOK.double neg d h0 zd);have HB:=zH hb;clear hnl hN hb;(go_upto_block 0 with fail;repeat ((first|refine cZ ?_|refine cW ?_);go_upto_block 0 with fail));refine yr (fun s' w'=>s' 1=.int .i64 p/\s' 6=.float .f64 N/\s' 7=.bool false/\w=w') ?_ ?_
  ·intro R' K' HR hK';cases neg with
   | false=>
    have e:n0=N:=by rw[HN0.out,<-HN.out]
    subst e;(go_wp2_with fail;repeat ((first|refine cZ ?_|refine cW ?_);go_wp2_with fail));exact got HR ⟨zb,zb,zb,rfl⟩
   | true=>
    have e:n1=N:=by rw[HN1.out,<-HN.out]
    subst e;(go_wp2_with fail;repeat ((first|refine cZ ?_|refine cW ?_);go_wp2_with fail));exact got HR ⟨zb,zb,zb,rfl⟩
  clear s0 s1 s2 σ g1 hn0 hn1 HN0 HN1 n0 n1 f1 hd;rintro σ w1 ⟨s1,s6,s7,rfl⟩;by_cases z0:p=0
  ·subst z0;(go_wp2_with fail;repeat ((first|refine cZ ?_|refine cW ?_);go_wp2_with fail));exact xc (.float .f64 N) (.bool true) rfl ze ze zb zb ⟨N,true,rfl,(fun _=>⟨by rw[<-HN.out];show _=sgB neg+xd (d*1) 1;rw[Nat.mul_one],HB.out,zd⟩),rfl⟩
  have z1:(p==0)=false:=by rw[beq_eq_false_iff_ne];exact z0
  (go_upto_region 7 with fail;repeat ((first|refine cZ ?_|refine cW ?_);go_upto_region 7 with fail));refine yr (fun s' w'=>s' 1=.int .i64 p/\s' 6=.float .f64 N/\s' 7=.bool false/\s' 22=.bool (decide (0<p/\p<=37))/\w=w') ?_ ?_
  ·intro R' K' HR hK';by_cases z2:0<p
   ·by_cases z3:p<=37
    ·have e:decide (0<p/\p<=37)=true:=decide_eq_true ⟨z2,z3⟩;go_wp2_with fail;all_goals exact got HR ⟨zb,zb,zb,zαj,rfl⟩
    ·have e:decide (0<p/\p<=37)=false:=decide_eq_false (fun h=>z3 h.2);have z3':decide (p<=37)=false:=decide_eq_false z3;go_wp2_with fail;all_goals exact got HR ⟨zb,zb,zb,zαj,rfl⟩
   ·have e:decide (0<p/\p<=37)=false:=decide_eq_false (fun h=>z2 h.1);have z2':decide (0<p)=false:=decide_eq_false z2;go_wp2_with fail;all_goals exact got HR ⟨zb,zb,zb,zαj,rfl⟩
  clear s1 s6 s7 σ;rintro σ w1 ⟨s1,s6,s7,s22,rfl⟩;by_cases z23:0<p/\p<=37
  ·rw[decide_eq_true z23]at s22;obtain⟨z2,z3⟩:=z23;(go_upto_region 11 with fail;repeat ((first|refine cZ ?_|refine cW ?_);go_upto_region 11 with fail));refine yr (fun s' w'=>∃ (d2 i N2:Nat),s' 1=.int .i64 (i:Int)/\i<=22/\s' 6=.float .f64 N2/\s' 7=.bool false/\d2≠0/\d2*10^i=d*10^p.toNat/\(d2<=10^15->RdV Ieee.double N2 neg d2)/\((Ieee.double.order N2 4831355200913801216==some Ordering.gt) || (Ieee.double.order N2 14054727237768577024==some Ordering.lt))=decide (10^15<d2)/\w=w') ?_ ?_
   ·intro R' K' HR hK';by_cases z4:22<p
    ·obtain⟨i,hi⟩:∃ i:Nat,p-22=i:=⟨(p-22).toNat,zd⟩;have hiK:i<=15:=zd;have c1:=HT.out i zd;have hm:=zoz i zd HRD.out;obtain⟨x,hx⟩:=zX (zso i);obtain⟨N2,hN2⟩:=zX (sgB neg+xd (d*10^i) 1);rw[hx,hN2]at hm;rw[hx]at c1;have hm:=zm7 .mul hm;have hprod0:d*10^i≠0:=by have:=Nat.mul_pos (Nat.pos_of_ne_zero h0) (p10 i);omega
     have hprodL:d*10^i<2^(1023:Int).toNat:=zoy HB.out hiK;have hcmp:=zo0 neg (d*10^i) hprod0 hprodL;rw[hN2]at hcmp;have hRD2:d*10^i<=10^15->RdV Ieee.double N2 neg (d*10^i):=fun hle=>by rw[<-hN2,<-wv];exact RdV.small FmtOK.double neg _ hprod0 (Nat.lt_of_le_of_lt hle ze)
     have heq:d*10^i*10^22=d*10^p.toNat:=by rw[show p.toNat=i+22 by omega,Nat.pow_add,Nat.mul_assoc]
     have H1:=zH hcmp;have H2:=zH hRD2;have H3:=zH heq;have H4:=zH hprod0;have hicnt:i<23:=zd;clear hx hN2 hprod0 hprodL hcmp hRD2 heq;(go_upto_region 11 with fail;repeat ((first|refine cZ ?_|refine cW ?_);go_upto_region 11 with fail));exact got HR ⟨d*10^i,22,N2,zb,zd,zb,zb,H4.out,H3.out,H2.out,H1.out,rfl⟩
    ·obtain⟨i,hi⟩:∃ i:Nat,p=i:=⟨p.toNat,zd⟩;subst hi;have z4':decide (22<(i:Int))=false:=decide_eq_false z4;have hcmp:=zo0 neg d h0 (Nat.lt_of_lt_of_le HB.out zp);rw[HN.out]at hcmp;have H1:=zH hcmp;clear hcmp;(go_upto_region 11 with fail;repeat ((first|refine cZ ?_|refine cW ?_);go_upto_region 11 with fail));exact got HR ⟨d,i,N,zb,zd,zb,zb,h0,by rw[Int.toNat_natCast],fun _=>HRD.out,H1.out,rfl⟩
   clear s1 s6 s7 s22 σ;rintro σ w1 ⟨d2,i,N2,s1,hiK,s6,s7,hd0,heq,hrd,hcmp,rfl⟩;have H1:=zH hcmp;have H2:=zH hrd;have H3:=zH heq;obtain⟨b1,hb1⟩:=zX ((Ieee.double.order N2 4831355200913801216==some Ordering.gt));obtain⟨b2,hb2⟩:=zX ((Ieee.double.order N2 14054727237768577024==some Ordering.lt));obtain⟨b3,hb3⟩:=zX (decide (10^15<d2));rw[hb1,hb2,hb3]at hcmp;have HC:=zH hcmp;have HB3:=zH hb3;replace hb1:(FloatKind.f64.format.order N2 4831355200913801216==some Ordering.gt)=b1:=hb1;replace hb2:(FloatKind.f64.format.order N2 14054727237768577024==some Ordering.lt)=b2:=hb2;clear hcmp hrd heq hb3;(go_upto_region 11 with fail;repeat ((first|refine cZ ?_|refine cW ?_);go_upto_region 11 with fail));refine yr (fun s' w'=>s' 1=.int .i64 (i:Int)/\s' 6=.float .f64 N2/\s' 7=.bool false/\s' 43=.bool b3/\w=w') ?_ ?_
   ·intro R' K' HR hK';have hC:=HC.out.symm;subst hC;clear HC HB3;cases b1
    ·cases b2
     ·go_wp2_with fail;all_goals exact got HR ⟨zb,zb,zb,zb,rfl⟩
     ·go_wp2_with fail;all_goals exact got HR ⟨zb,zb,zb,zb,rfl⟩
    ·go_wp2_with fail;all_goals exact got HR ⟨zb,zb,zb,zb,rfl⟩
   clear s1 s6 s7 σ HC hb1 hb2;rintro σ w1 ⟨s1,s6,s7,s43,rfl⟩;by_cases hle:d2<=10^15
   ·have e3:b3=false:=by rw[<-HB3.out];exact decide_eq_false zd
    subst e3;have c2:=HT.out i zd;have hm2:=zoz i zd (H2.out hle);obtain⟨x,hx⟩:=zX (zso i);obtain⟨N3,hN3⟩:=zX (sgB neg+xd (d2*10^i) 1);rw[hx,hN3]at hm2;rw[hx]at c2;have hm2:=zm7 .mul hm2;have HN3:=zH hN3;have hicnt:i<23:=zd;clear hle hN3 hx;(go_wp2_with fail;repeat ((first|refine cZ ?_|refine cW ?_);go_wp2_with fail));refine xc (.float .f64 N3) (.bool true) rfl ze ze zb zb ⟨N3,true,rfl,(fun _=>⟨?_,HB.out,z3⟩),rfl⟩;rw[<-HN3.out,H3.out,show (-p).toNat=0 by omega,Nat.pow_zero]
   ·have e3:b3=true:=by rw[<-HB3.out];exact decide_eq_true zd
    subst e3;clear hle;(go_wp2_with fail;repeat ((first|refine cZ ?_|refine cW ?_);go_wp2_with fail));exact xc (.float .f64 N2) (.bool false) rfl ze ze zb zb ⟨_,false,rfl,(fun h=>zF),rfl⟩
  ·rw[decide_eq_false z23]at s22;(go_upto_region 13 with fail;repeat ((first|refine cZ ?_|refine cW ?_);go_upto_region 13 with fail));refine yr (fun s' w'=>s' 1=.int .i64 p/\s' 6=.float .f64 N/\s' 7=.bool false/\s' 50=.bool (decide (p<0/\-22<=p))/\w=w') ?_ ?_
   ·intro R' K' HR hK';by_cases z2:p<0
    ·by_cases z3:-22<=p
     ·have e:decide (p<0/\-22<=p)=true:=decide_eq_true ⟨z2,z3⟩;go_wp2_with fail;all_goals exact got HR ⟨zb,zb,zb,zαj,rfl⟩
     ·have e:decide (p<0/\-22<=p)=false:=decide_eq_false (fun h=>z3 h.2);have z3':decide (-22<=p)=false:=decide_eq_false z3;go_wp2_with fail;all_goals exact got HR ⟨zb,zb,zb,zαj,rfl⟩
    ·have e:decide (p<0/\-22<=p)=false:=decide_eq_false (fun h=>z2 h.1);have z2':decide (p<0)=false:=decide_eq_false z2;go_wp2_with fail;all_goals exact got HR ⟨zb,zb,zb,zαj,rfl⟩
   clear s1 s6 s7 s22 σ;rintro σ w1 ⟨s1,s6,s7,s50,rfl⟩;by_cases z56:p<0/\-22<=p
   ·rw[decide_eq_true z56]at s50;obtain⟨i,hi⟩:∃ i:Nat,p=-(i:Int):=⟨(-p).toNat,zd⟩;subst hi;have c1:=HT.out i zd;have hm:=zur i zd HRD.out;obtain⟨x,hx⟩:=zX (zso i);obtain⟨N2,hN2⟩:=zX (sgB neg+xd d (10^i));rw[hx,hN2]at hm;rw[hx]at c1;have hm:=zm7 .quo hm;have HN2:=zH hN2;have hicnt:i<23:=zd;have hwn:IntKind.i64.wrap (i:Int)=(i:Int):=zk;clear hN2 hx z56 z23;(go_wp2_with fail;repeat ((first|refine cZ ?_|refine cW ?_);go_wp2_with fail));refine xc (.float .f64 N2) (.bool true) rfl ze ze zb zb ⟨N2,true,rfl,(fun _=>⟨?_,HB.out,zd⟩),rfl⟩;rw[<-HN2.out,show (-(i:Int)).toNat=0 by omega,Int.neg_neg,Int.toNat_natCast,Nat.pow_zero,Nat.mul_one]
   ·rw[decide_eq_false z56]at s50;(go_wp2_with fail;repeat ((first|refine cZ ?_|refine cW ?_);go_wp2_with fail));exact xc (.float .f64 N) (.bool false) rfl ze ze zb zb ⟨_,false,rfl,(fun h=>zF),rfl⟩
 ·have g1:((d:Int) / 4503599627370496 != 0)=true:=by
   rw[bne_iff_ne];omega
  (go_wp2_with fail;repeat ((first|refine cZ ?_|refine cW ?_);go_wp2_with fail));exact xc (.float .f64 0) (.bool false) rfl ze ze zb zb ⟨_,false,rfl,(fun h=>zF),rfl⟩
end
theorem zqy (F:Nat) (bias:Int) (d:Nat) (p e:Int) (hF1:23<=F) (hF2:F<=52) (hd0:d≠0) (hd:d<18446744073709551616) (hp1:-348<=p) (hp2:p<=347)
  (he:e=min (bias+F-1) (F+1-((Lib.bitLen d:Int)+lpT p))):
  (if 2^(F+1)*4-2<=usE (d*2^shS d) (e-(64-(Lib.bitLen d:Int))) p
   then (uv (usE (d*2^shS d) (e-(64-(Lib.bitLen d:Int))) p / 2|||usE (d*2^shS d) (e-(64-(Lib.bitLen d:Int))) p%2),e-1)
   else (uv (usE (d*2^shS d) (e-(64-(Lib.bitLen d:Int))) p|||usE (d*2^shS d) (e-(64-(Lib.bitLen d:Int))) p%2),e))=prG F (d*10^p.toNat) (10^(-p).toNat) e:=by
 obtain⟨hb1,hb2,hb3,hb4⟩:=zdq d hd hd0;obtain⟨t1,t2,t3⟩:=zcq d (Lib.bitLen d) p hp1 hp2 hb1 hb2 hb3;have hS:shS d=64-Lib.bitLen d:=rfl;rw[hS];generalize Lib.bitLen d=L at *
 have hx:d*2^(64-L)<18446744073709551616:=by
  rw[show (18446744073709551616:Nat)=2^L*2^(64-L) by rw[<-Nat.pow_add,show L+(64-L)=64 by omega]];exact Nat.mul_lt_mul_of_pos_right hb3 (p2 _)
 have hx0:9223372036854775808<=d*2^(64-L):=by
  rw[show (9223372036854775808:Nat)=2^(L-1)*2^(64-L) by rw[<-Nat.pow_add,show L-1+(64-L)=63 by omega]];exact Nat.mul_le_mul_right _ hb2
 have hlp:p*108853 / 32768=lpT p:=rfl;rw[usE_C _ _ p hp1 hp2 hx hx0 (by rw[hlp];omega)];have hT:0<10^(-p).toNat:=p10 _;have hB:0<10^(-p).toNat*2^(-e).toNat:=Nat.mul_pos hT (p2 _);have hu:zvm (d*2^(64-L)) (e-(64-(L:Int))) p=zcj (4*(d*10^p.toNat*2^e.toNat)) (10^(-p).toNat*2^(-e).toNat):=by
  unfold zvm;refine zd7 (Nat.mul_pos (p2 _) hT) hB ?_;have e1:2^(64-L)*2^(e-(64-(L:Int))).toNat*2^(-e).toNat=2^e.toNat*2^(-(e-(64-(L:Int)))).toNat:=by
   rw[<-Nat.pow_add,<-Nat.pow_add,<-Nat.pow_add];congr 1;omega
  calc 4*(d*2^(64-L))*2^(e-(64-(L:Int))).toNat*10^p.toNat*(10^(-p).toNat*2^(-e).toNat)=4*d*10^p.toNat*10^(-p).toNat*(2^(64-L)*2^(e-(64-(L:Int))).toNat*2^(-e).toNat):=by ac_rfl
   _=4*d*10^p.toNat*10^(-p).toNat*(2^e.toNat*2^(-(e-(64-(L:Int)))).toNat):=by rw[e1]
   _=_:=by ac_rfl
 rw[hu];clear hu hx hx0;generalize d*10^p.toNat=a at *
 generalize 10^(-p).toNat=b at *
 have hA:a*2^e.toNat<b*2^(-e).toNat*4000000000000000000:=by
  have h1:¬le2 a b (-e+((F+2:Nat):Int)):=fun h=>t2 (wh zd h)
  rw[zke,Nat.not_le,Int.neg_neg]at h1;have h2:2^(F+2)<=2^54:=Nat.pow_le_pow_right zd zd;have h3:=Nat.mul_le_mul_right (b*2^(-e).toNat) h2;generalize b*2^(-e).toNat=B at *
  generalize 2^(F+2)*B=z at *
  omega
 have r1:uv (zcj (4*(a*2^e.toNat)) (b*2^(-e).toNat))=rB a b (-e):=by
  rw[zck _ _ hB hA];unfold rB;rw[Int.neg_neg]
 have hB2:0<b*2^(-e).toNat*2:=Nat.mul_pos hB zd;have hA2:a*2^e.toNat<b*2^(-e).toNat*2*4000000000000000000:=by
  exact Nat.lt_of_lt_of_le hA (Nat.mul_le_mul_right _ (Nat.le_mul_of_pos_right _ zd))
 have r2:uv (zcj (4*(a*2^e.toNat)) (b*2^(-e).toNat*2))=rB a b (1-e):=by
  rw[zck _ _ hB2 hA2];unfold rB;refine vm zd (Nat.mul_pos zd (p2 _)) ?_;have e1:2^e.toNat*2^(1-e).toNat=2^(-(1-e)).toNat*2^(-e).toNat*2:=by
   rw[<-Nat.pow_add,<-Nat.pow_add,<-Nat.pow_succ];congr 1;omega
  calc a*2^e.toNat*(b*2^(1-e).toNat)=a*b*(2^e.toNat*2^(1-e).toNat):=by ac_rfl
   _=a*b*(2^(-(1-e)).toNat*2^(-e).toNat*2):=by rw[e1]
   _=_:=by ac_rfl
 have hlt:zcj (4*(a*2^e.toNat)) (b*2^(-e).toNat)<16000000000000000000:=by
  have:=(zta (a*2^e.toNat) (b*2^(-e).toNat) 4000000000000000000 hB).2 (by rw[Nat.mul_comm 4000000000000000000];exact hA);omega
 have hm:=zmg _ (2^(F+1)) (by rw[Nat.pow_succ];omega) (p2 _) hlt;rw[zmf _ _ hB,zt5,r1,r2];rw[r1]at hm;unfold prG;by_cases c:2^(F+1)<=rB a b (-e)
 ·rw[if_pos c,if_pos (hm.2 c)]
 ·rw[if_neg c,if_neg (fun h=>c (hm.1 h))]
theorem zng (d:Nat) (p:Int) (hd0:d≠0) (hd:d<18446744073709551616) (hp1:-348<=p) (hp2:p<=347):
  (pfS d p<64->(pfR d p).1<9007199254740992)/\zpx d p=(xd (d*10^p.toNat) (10^(-p).toNat),decide (xd (d*10^p.toNat) (10^(-p).toNat)=9218868437227405312)):=by
 obtain⟨hb1,hb2,hb3,hb4⟩:=zdq d hd hd0;obtain⟨t1,t2,t3⟩:=zcq d (Lib.bitLen d) p hp1 hp2 hb1 hb2 hb3;have hT:0<10^(-p).toNat:=p10 _;have ha:d*10^p.toNat≠0:=Nat.mul_ne_zero hd0 (by have:=p10 p.toNat;omega);have he:pfE d p=min ((1023:Int)+(52:Nat)-1) ((52:Nat)+1-((Lib.bitLen d:Int)+lpT p)):=by unfold pfE lpT;omega
 have hpr:=zqy 52 1023 d p (pfE d p) zd zd hd0 hd hp1 hp2 he;have hU:pfU d p=usE (d*2^shS d) (pfE d p-(64-(Lib.bitLen d:Int))) p:=rfl;have hR:pfR d p=prG 52 (d*10^p.toNat) (10^(-p).toNat) (pfE d p):=by
  rw[<-hpr];unfold pfR;rw[hU]
 have hn:=zq2 52 1023 9218868437227405312 (d*10^p.toNat) (10^(-p).toNat) ((Lib.bitLen d:Int)+lpT p) (pfE d p) ha zd zd zd rfl t1 t2 (t3 52 zd) he;have hr:(pfR d p).1<9007199254740992:=by rw[hR];exact hn.2
 refine⟨fun _=>hr,?_⟩;have hnear:xd (d*10^p.toNat) (10^(-p).toNat)=xh 52 1023 9218868437227405312 (d*10^p.toNat) (10^(-p).toNat):=rfl;have hle:xd (d*10^p.toNat) (10^(-p).toNat)=xh (52:Nat) 1023 9218868437227405312 (d*10^p.toNat) (10^(-p).toNat):=rfl;unfold zpx;by_cases h64:64<=pfS d p
 ·rw[if_pos h64];have hz:xd (d*10^p.toNat) (10^(-p).toNat)=0:=by
   refine kv 52 1023 _ _ _ zd zd zd (fun _ h=>t2 (wh ?_ h));unfold pfS pfE at h64;unfold lpT;omega
  rw[hz];rfl
 ·rw[if_neg h64];have h1:=hn.1;rw[<-hR,<-hle]at h1;rw[<-h1];unfold pkG pkB;generalize pfR d p=x at *
  obtain⟨m,e⟩:=x;have hm:m<9007199254740992:=hr;have e52:(2:Nat)^52=4503599627370496:=rfl;rw[e52];dsimp only;by_cases c1:m<4503599627370496
  ·rw[if_pos c1,if_pos c1];congr 1;exact (decide_eq_false zd).symm
  ·rw[if_neg c1,if_neg c1];have c2:(972<=-e)↔((1023:Int)+1-(52:Nat)<=-e):=zd;by_cases c3:972<=-e
   ·rw[if_pos c3,if_pos (c2.1 c3)];rfl
   ·rw[if_neg c3,if_neg (fun h=>c3 (c2.2 h)),show (1075+-e).toNat=((1023:Int)+(52:Nat)-e).toNat by omega];congr 1;refine (decide_eq_false ?_).symm;have:((1023:Int)+(52:Nat)-e).toNat<=2046:=zd;generalize ((1023:Int)+(52:Nat)-e).toNat=t at *
    omega
theorem zzi (d:Nat) (p:Int) (hd0:d≠0) (hd:d<18446744073709551616) (hp1:-348<=p) (hp2:p<=347):
  (yac d p<64->(zy3 d p).1<16777216)/\zzy d p=(zxq (d*10^p.toNat) (10^(-p).toNat),decide (zxq (d*10^p.toNat) (10^(-p).toNat)=2139095040)):=by
 obtain⟨hb1,hb2,hb3,hb4⟩:=zdq d hd hd0;obtain⟨t1,t2,t3⟩:=zcq d (Lib.bitLen d) p hp1 hp2 hb1 hb2 hb3;have hT:0<10^(-p).toNat:=p10 _;have ha:d*10^p.toNat≠0:=Nat.mul_ne_zero hd0 (by have:=p10 p.toNat;omega);have he:zzb d p=min ((127:Int)+(23:Nat)-1) ((23:Nat)+1-((Lib.bitLen d:Int)+lpT p)):=by unfold zzb lpT;omega
 have hpr:=zqy 23 127 d p (zzb d p) zd zd hd0 hd hp1 hp2 he;have hU:yab d p=usE (d*2^shS d) (zzb d p-(64-(Lib.bitLen d:Int))) p:=rfl;have hR:zy3 d p=prG 23 (d*10^p.toNat) (10^(-p).toNat) (zzb d p):=by
  rw[<-hpr];unfold zy3;rw[hU]
 have hn:=zq2 23 127 2139095040 (d*10^p.toNat) (10^(-p).toNat) ((Lib.bitLen d:Int)+lpT p) (zzb d p) ha zd zd zd rfl t1 t2 (t3 23 zd) he;have hr:(zy3 d p).1<16777216:=by rw[hR];exact hn.2
 refine⟨fun _=>hr,?_⟩;have hle:zxq (d*10^p.toNat) (10^(-p).toNat)=xh (23:Nat) 127 2139095040 (d*10^p.toNat) (10^(-p).toNat):=rfl;unfold zzy;by_cases h64:64<=yac d p
 ·rw[if_pos h64];have hz:zxq (d*10^p.toNat) (10^(-p).toNat)=0:=by
   refine kv 23 127 _ _ _ zd zd zd (fun _ h=>t2 (wh ?_ h));unfold yac zzb at h64;unfold lpT;omega
  rw[hz];rfl
 ·rw[if_neg h64];have h1:=hn.1;rw[<-hR,<-hle]at h1;rw[<-h1];unfold pkG pkC;generalize zy3 d p=x at *
  obtain⟨m,e⟩:=x;have hm:m<16777216:=hr;have e52:(2:Nat)^23=8388608:=rfl;rw[e52];dsimp only;by_cases c1:m<8388608
  ·rw[if_pos c1,if_pos c1];congr 1;exact (decide_eq_false zd).symm
  ·rw[if_neg c1,if_neg c1];have c2:(105<=-e)↔((127:Int)+1-(23:Nat)<=-e):=zd;by_cases c3:105<=-e
   ·rw[if_pos c3,if_pos (c2.1 c3)];rfl
   ·rw[if_neg c3,if_neg (fun h=>c3 (c2.2 h)),show (150+-e).toNat=((127:Int)+(23:Nat)-e).toNat by omega];congr 1;refine (decide_eq_false ?_).symm;have:((127:Int)+(23:Nat)-e).toNat<=254:=zd;generalize ((127:Int)+(23:Nat)-e).toNat=t at *
    omega
section
attribute [local go_sem] zxm
theorem yaz (d:Nat):floatOfInt .f32 (d:Int)=sgC false+zxq d 1:=by
 show Ieee.single.nearest (decide ((d:Int)<0)) (d:Int).natAbs 0=_;rw[decide_eq_false zd,Int.natAbs_natCast,zyw,zxr];show sgC false+zxq (d*1) 1=_;rw[Nat.mul_one]
theorem zzh (op:BinOp) {x y r:Nat} (h:floatBits op .f32 x y=some r) (t:TypeId) (w:World):(binOp op t (.float .f32 x) (.float .f32 y)).run Tryz.prog w=.ok (.float .f32 r) w:=run_float_arith w op t .f32 x y r h
theorem zzr {neg:Bool} {N d:Nat} (i:Nat) (hi:i<11) (h:RdV Ieee.single N neg d):Ieee.single.mul N (yad i)=some (sgC neg+zxq (d*10^i) 1):=by
 rw[RdV.mul FmtOK.single h (zpm (zzu i hi)),zxr,Bool.xor_false];rfl
theorem yaj {neg:Bool} {N d:Nat} (i:Nat) (hi:i<11) (h:RdV Ieee.single N neg d):Ieee.single.div N (yad i)=some (sgC neg+zxq d (10^i)):=by
 rw[RdV.div FmtOK.single h (zpm (zzu i hi)) (by have:=p10 i;omega),zxr,Bool.xor_false];rfl
theorem zzs (neg:Bool) (d:Nat) (h0:d≠0) (hd:d<2^(127:Int).toNat):
  ((Ieee.single.order (sgC neg+zxq d 1) 1259902592==some Ordering.gt) || (Ieee.single.order (sgC neg+zxq d 1) 3407386240==some Ordering.lt))=decide (10^7<d):=by
 have h:=zt0 FmtOK.single neg d (10^7) 1259902592 3407386240 h0 hd ze ze c7p c7n;rw[zxr]at h;exact h
theorem zzq {d i:Nat} (hd:d<8388608) (hi:i<=7):d*10^i<2^(127:Int).toNat:=by
 have h1:d*10^i<8388608*10^i:=Nat.mul_lt_mul_of_pos_right hd (p10 i);have h2:8388608*10^i<=8388608*10^7:=Nat.mul_le_mul_left _ (Nat.pow_le_pow_right zd hi);exact Nat.lt_of_lt_of_le h1 (Nat.le_trans h2 zp)
set_option maxRecDepth 100000 in
theorem zx8 (T d:Nat) (p:Int) (neg:Bool) (w:World) (he:EnvP T w) (h0:d≠0) (hd:d<18446744073709551616) (hp1:-1000000<=p) (hp2:p<=1000000):
  Calls Tryz.prog 96 #[.int .u64 (d:Int),.int .i64 p,.bool neg] w fun e w'=>
   ∃ (v:Nat) (ok:Bool),e=.returned (.tuple #[.float .f32 v,.bool ok])/\(ok=true->v=sgC neg+zxq (d*10^p.toNat) (10^(-p).toNat)/\d<8388608/\p<=17)/\w=w':=by
 refine ye Tryz.func96 rfl (by rw[Tryz.ntmps96];simp) ?_;intro σ hσ;rw[Tryz.ntmps96];have s0:σ 0=.int .u64 (d:Int):=hσ 0 zi;have s1:σ 1=.int .i64 p:=hσ 1 zi;have s2:σ 2=.bool neg:=hσ 2 zi;clear hσ;have f1:=he.i64.1;obtain⟨tb,tof,tc,htT,htc,ht0,ht⟩:=he.t32;have HT:=zH ht;clear ht he;by_cases hb:d<8388608
 ·have g1:((d:Int) / 8388608 != 0)=false:=by
   rw[bne_eq_false_iff_eq];omega
  have hnl:zxq d 1<2147483648:=Nat.lt_of_le_of_lt (ud 23 127 2139095040 d 1 ze ze rfl) ze;obtain⟨n0,hn0⟩:=zX (floatOfInt .f32 (d:Int));obtain⟨n1,hn1⟩:=zX (Op.negFloat .f32 n0);obtain⟨N,hN⟩:=zX (sgC neg+zxq d 1);have HN0:=zH (hn0.symm.trans (yaz d));have HN1:=zH (show n1=sgC true+zxq d 1 by rw[<-hn1,HN0.out];show Op.negFloat .f32 (0+zxq d 1)=_;rw[Nat.zero_add];exact neg32 _ hnl);have HN:=zH hN;have HRD:=zH (show RdV Ieee.single N neg d by rw[<-hN,<-zxr];exact RdV.small FmtOK.single neg d h0 zd);have HB:=zH hb;clear hnl hN hb;(go_upto_block 0 with fail;repeat ((first|refine cZ ?_|refine cW ?_);go_upto_block 0 with fail));refine yr (fun s' w'=>s' 1=.int .i64 p/\s' 6=.float .f32 N/\s' 7=.bool false/\w=w') ?_ ?_
  ·intro R' K' HR hK';cases neg with
   | false=>
    have e:n0=N:=by rw[HN0.out,<-HN.out]
    subst e;(go_wp2_with fail;repeat ((first|refine cZ ?_|refine cW ?_);go_wp2_with fail));exact got HR ⟨zb,zb,zb,rfl⟩
   | true=>
    have e:n1=N:=by rw[HN1.out,<-HN.out]
    subst e;(go_wp2_with fail;repeat ((first|refine cZ ?_|refine cW ?_);go_wp2_with fail));exact got HR ⟨zb,zb,zb,rfl⟩
  clear s0 s1 s2 σ g1 hn0 hn1 HN0 HN1 n0 n1 f1 hd;rintro σ w1 ⟨s1,s6,s7,rfl⟩;by_cases z0:p=0
  ·subst z0;(go_wp2_with fail;repeat ((first|refine cZ ?_|refine cW ?_);go_wp2_with fail));exact xc (.float .f32 N) (.bool true) rfl ze ze zb zb ⟨N,true,rfl,(fun _=>⟨by rw[<-HN.out];show _=sgC neg+zxq (d*1) 1;rw[Nat.mul_one],HB.out,zd⟩),rfl⟩
  have z1:(p==0)=false:=by rw[beq_eq_false_iff_ne];exact z0
  (go_upto_region 7 with fail;repeat ((first|refine cZ ?_|refine cW ?_);go_upto_region 7 with fail));refine yr (fun s' w'=>s' 1=.int .i64 p/\s' 6=.float .f32 N/\s' 7=.bool false/\s' 20=.bool (decide (0<p/\p<=17))/\w=w') ?_ ?_
  ·intro R' K' HR hK';by_cases z2:0<p
   ·by_cases z3:p<=17
    ·have e:decide (0<p/\p<=17)=true:=decide_eq_true ⟨z2,z3⟩;go_wp2_with fail;all_goals exact got HR ⟨zb,zb,zb,zαj,rfl⟩
    ·have e:decide (0<p/\p<=17)=false:=decide_eq_false (fun h=>z3 h.2);have z3':decide (p<=17)=false:=decide_eq_false z3;go_wp2_with fail;all_goals exact got HR ⟨zb,zb,zb,zαj,rfl⟩
   ·have e:decide (0<p/\p<=17)=false:=decide_eq_false (fun h=>z2 h.1);have z2':decide (0<p)=false:=decide_eq_false z2;go_wp2_with fail;all_goals exact got HR ⟨zb,zb,zb,zαj,rfl⟩
  clear s1 s6 s7 σ;rintro σ w1 ⟨s1,s6,s7,s22,rfl⟩;by_cases z23:0<p/\p<=17
  ·rw[decide_eq_true z23]at s22;obtain⟨z2,z3⟩:=z23;(go_upto_region 11 with fail;repeat ((first|refine cZ ?_|refine cW ?_);go_upto_region 11 with fail));refine yr (fun s' w'=>∃ (d2 i N2:Nat),s' 1=.int .i64 (i:Int)/\i<=10/\s' 6=.float .f32 N2/\s' 7=.bool false/\d2≠0/\d2*10^i=d*10^p.toNat/\(d2<=10^7->RdV Ieee.single N2 neg d2)/\((Ieee.single.order N2 1259902592==some Ordering.gt) || (Ieee.single.order N2 3407386240==some Ordering.lt))=decide (10^7<d2)/\w=w') ?_ ?_
   ·intro R' K' HR hK';by_cases z4:10<p
    ·obtain⟨i,hi⟩:∃ i:Nat,p-10=i:=⟨(p-10).toNat,zd⟩;have hiK:i<=7:=zd;have c1:=HT.out i zd;have hm:=zzr i zd HRD.out;obtain⟨x,hx⟩:=zX (yad i);obtain⟨N2,hN2⟩:=zX (sgC neg+zxq (d*10^i) 1);rw[hx,hN2]at hm;rw[hx]at c1;have hm:=zzh .mul hm;have hprod0:d*10^i≠0:=by have:=Nat.mul_pos (Nat.pos_of_ne_zero h0) (p10 i);omega
     have hprodL:d*10^i<2^(127:Int).toNat:=zzq HB.out hiK;have hcmp:=zzs neg (d*10^i) hprod0 hprodL;rw[hN2]at hcmp;have hRD2:d*10^i<=10^7->RdV Ieee.single N2 neg (d*10^i):=fun hle=>by rw[<-hN2,<-zxr];exact RdV.small FmtOK.single neg _ hprod0 (Nat.lt_of_le_of_lt hle ze)
     have heq:d*10^i*10^10=d*10^p.toNat:=by rw[show p.toNat=i+10 by omega,Nat.pow_add,Nat.mul_assoc]
     have H1:=zH hcmp;have H2:=zH hRD2;have H3:=zH heq;have H4:=zH hprod0;have hicnt:i<11:=zd;clear hx hN2 hprod0 hprodL hcmp hRD2 heq;(go_upto_region 11 with fail;repeat ((first|refine cZ ?_|refine cW ?_);go_upto_region 11 with fail));exact got HR ⟨d*10^i,10,N2,zb,zd,zb,zb,H4.out,H3.out,H2.out,H1.out,rfl⟩
    ·obtain⟨i,hi⟩:∃ i:Nat,p=i:=⟨p.toNat,zd⟩;subst hi;have z4':decide (10<(i:Int))=false:=decide_eq_false z4;have hcmp:=zzs neg d h0 (Nat.lt_of_lt_of_le HB.out zp);rw[HN.out]at hcmp;have H1:=zH hcmp;clear hcmp;(go_upto_region 11 with fail;repeat ((first|refine cZ ?_|refine cW ?_);go_upto_region 11 with fail));exact got HR ⟨d,i,N,zb,zd,zb,zb,h0,by rw[Int.toNat_natCast],fun _=>HRD.out,H1.out,rfl⟩
   clear s1 s6 s7 s22 σ;rintro σ w1 ⟨d2,i,N2,s1,hiK,s6,s7,hd0,heq,hrd,hcmp,rfl⟩;have H1:=zH hcmp;have H2:=zH hrd;have H3:=zH heq;obtain⟨b1,hb1⟩:=zX ((Ieee.single.order N2 1259902592==some Ordering.gt));obtain⟨b2,hb2⟩:=zX ((Ieee.single.order N2 3407386240==some Ordering.lt));obtain⟨b3,hb3⟩:=zX (decide (10^7<d2));rw[hb1,hb2,hb3]at hcmp;have HC:=zH hcmp;have HB3:=zH hb3;replace hb1:(FloatKind.f32.format.order N2 1259902592==some Ordering.gt)=b1:=hb1;replace hb2:(FloatKind.f32.format.order N2 3407386240==some Ordering.lt)=b2:=hb2;clear hcmp hrd heq hb3;(go_upto_region 11 with fail;repeat ((first|refine cZ ?_|refine cW ?_);go_upto_region 11 with fail));refine yr (fun s' w'=>s' 1=.int .i64 (i:Int)/\s' 6=.float .f32 N2/\s' 7=.bool false/\s' 41=.bool b3/\w=w') ?_ ?_
   ·intro R' K' HR hK';have hC:=HC.out.symm;subst hC;clear HC HB3;cases b1
    ·cases b2
     ·go_wp2_with fail;all_goals exact got HR ⟨zb,zb,zb,zb,rfl⟩
     ·go_wp2_with fail;all_goals exact got HR ⟨zb,zb,zb,zb,rfl⟩
    ·go_wp2_with fail;all_goals exact got HR ⟨zb,zb,zb,zb,rfl⟩
   clear s1 s6 s7 σ HC hb1 hb2;rintro σ w1 ⟨s1,s6,s7,s43,rfl⟩;by_cases hle:d2<=10^7
   ·have e3:b3=false:=by rw[<-HB3.out];exact decide_eq_false zd
    subst e3;have c2:=HT.out i zd;have hm2:=zzr i zd (H2.out hle);obtain⟨x,hx⟩:=zX (yad i);obtain⟨N3,hN3⟩:=zX (sgC neg+zxq (d2*10^i) 1);rw[hx,hN3]at hm2;rw[hx]at c2;have hm2:=zzh .mul hm2;have HN3:=zH hN3;have hicnt:i<11:=zd;clear hle hN3 hx;(go_wp2_with fail;repeat ((first|refine cZ ?_|refine cW ?_);go_wp2_with fail));refine xc (.float .f32 N3) (.bool true) rfl ze ze zb zb ⟨N3,true,rfl,(fun _=>⟨?_,HB.out,z3⟩),rfl⟩;rw[<-HN3.out,H3.out,show (-p).toNat=0 by omega,Nat.pow_zero]
   ·have e3:b3=true:=by rw[<-HB3.out];exact decide_eq_true zd
    subst e3;clear hle;(go_wp2_with fail;repeat ((first|refine cZ ?_|refine cW ?_);go_wp2_with fail));exact xc (.float .f32 N2) (.bool false) rfl ze ze zb zb ⟨_,false,rfl,(fun h=>zF),rfl⟩
  ·rw[decide_eq_false z23]at s22;(go_upto_region 13 with fail;repeat ((first|refine cZ ?_|refine cW ?_);go_upto_region 13 with fail));refine yr (fun s' w'=>s' 1=.int .i64 p/\s' 6=.float .f32 N/\s' 7=.bool false/\s' 48=.bool (decide (p<0/\-10<=p))/\w=w') ?_ ?_
   ·intro R' K' HR hK';by_cases z2:p<0
    ·by_cases z3:-10<=p
     ·have e:decide (p<0/\-10<=p)=true:=decide_eq_true ⟨z2,z3⟩;go_wp2_with fail;all_goals exact got HR ⟨zb,zb,zb,zαj,rfl⟩
     ·have e:decide (p<0/\-10<=p)=false:=decide_eq_false (fun h=>z3 h.2);have z3':decide (-10<=p)=false:=decide_eq_false z3;go_wp2_with fail;all_goals exact got HR ⟨zb,zb,zb,zαj,rfl⟩
    ·have e:decide (p<0/\-10<=p)=false:=decide_eq_false (fun h=>z2 h.1);have z2':decide (p<0)=false:=decide_eq_false z2;go_wp2_with fail;all_goals exact got HR ⟨zb,zb,zb,zαj,rfl⟩
   clear s1 s6 s7 s22 σ;rintro σ w1 ⟨s1,s6,s7,s50,rfl⟩;by_cases z56:p<0/\-10<=p
   ·rw[decide_eq_true z56]at s50;obtain⟨i,hi⟩:∃ i:Nat,p=-(i:Int):=⟨(-p).toNat,zd⟩;subst hi;have c1:=HT.out i zd;have hm:=yaj i zd HRD.out;obtain⟨x,hx⟩:=zX (yad i);obtain⟨N2,hN2⟩:=zX (sgC neg+zxq d (10^i));rw[hx,hN2]at hm;rw[hx]at c1;have hm:=zzh .quo hm;have HN2:=zH hN2;have hicnt:i<11:=zd;have hwn:IntKind.i64.wrap (i:Int)=(i:Int):=zk;clear hN2 hx z56 z23;(go_wp2_with fail;repeat ((first|refine cZ ?_|refine cW ?_);go_wp2_with fail));refine xc (.float .f32 N2) (.bool true) rfl ze ze zb zb ⟨N2,true,rfl,(fun _=>⟨?_,HB.out,zd⟩),rfl⟩;rw[<-HN2.out,show (-(i:Int)).toNat=0 by omega,Int.neg_neg,Int.toNat_natCast,Nat.pow_zero,Nat.mul_one]
   ·rw[decide_eq_false z56]at s50;(go_wp2_with fail;repeat ((first|refine cZ ?_|refine cW ?_);go_wp2_with fail));exact xc (.float .f32 N) (.bool false) rfl ze ze zb zb ⟨_,false,rfl,(fun h=>zF),rfl⟩
 ·have g1:((d:Int) / 8388608 != 0)=true:=by
   rw[bne_iff_ne];omega
  (go_wp2_with fail;repeat ((first|refine cZ ?_|refine cW ?_);go_wp2_with fail));exact xc (.float .f32 0) (.bool false) rfl ze ze zb zb ⟨_,false,rfl,(fun h=>zF),rfl⟩
end
section
attribute [local go_sem] undef
set_option maxRecDepth 100000 in
theorem zbz (b:Nat) (hb:b=10\/b=16) (s:List UInt8) (w:World) (hs:s.length<=4000000):
  Calls Tryz.prog 73 #[.string ⟨s.toArray⟩,.int .i64 (b:Int)] w fun e w'=>∃ v',e=.returned v'/\OwnI w.heap.size w' v' (dgL b s)/\w.grownBy w' none:=by
 have HD:=zH (fun c W=>zaq b hb c W);clear hb;have HO0:=zH (OwnI.fresh0 (T:=w.heap.size) (w:=w) (Nat.le_refl _) 3);have HG0:=zH (World.grownBy_alloc w (.cells #[] 3) none);refine ye Tryz.func73 rfl (by rw[Tryz.ntmps73];simp) ?_;intro σ hσ;rw[Tryz.ntmps73];have s0:σ 0=.string ⟨s.toArray⟩:=hσ 0 zi;have s1:σ 1=.int .i64 (b:Int):=hσ 1 zi;clear hσ;have hsz:(⟨s.toArray⟩:ByteArray).size=s.length:=zm;obtain⟨N,hN⟩:=zX s.length;rw[hN]at hsz hs;have HN:=zH hN;clear hN;(go_wp2_with fail;repeat ((first|refine cZ ?_|refine cW ?_);go_wp2_with fail));refine xx (fun kk s' w'=>∃ (i:Nat) (v:Value) (l:List Nat),i<=N/\kk=N-i/\l=dgL b (s.take i)/\s' 0=.string ⟨s.toArray⟩/\s' 1=.int .i64 (b:Int)/\s' 5=v/\s' 6=.int .i64 (i:Int)/\OwnI w.heap.size w' v l/\w.grownBy w' none) N
  ⟨0,_,[],Nat.zero_le _,rfl,by simp[dgL],zb,zb,zb,zb,HO0.out,HG0.out⟩ ?_
 clear s0 s1 σ HO0 HG0;rintro kk σ wk ⟨i,v,l,hi,hkk,hl,s0,s1,s5,s6,hown,hg⟩ RK KK HRK hKK;have HKK:=zH hkk;have HC:=zH hl;have HG:=zH hg;have hll:l.length<=4000000:=by have:=zf0 b (s.take i);rw[List.length_take]at this;rw[hl];omega
 clear hkk hl hg;by_cases hiN:i<N
 ·have hidx:=xu s i zn;have hts:=zrx b s i zn;rw[<-HC.out]at hts;have hiN':(i:Int)<(N:Int):=zd;generalize s.getD i 0=c at *
  have hL:=HD.out c;unfold vp at hts;unfold zfx at hL;cases hdc:dig b c with
  | none=>
   rw[hdc]at hts hL;have HTS:=zH hts;have HL:=zH hL;have HO:=zH hown;clear hts hL hown hdc;(go_wp2_with (first | (refine (HL.out _).mono ?_;rintro e w8 ⟨rfl,rfl⟩));repeat ((first|refine cZ ?_|refine cW ?_);go_wp2_with (first | (refine (HL.out _).mono ?_;rintro e w8 ⟨rfl,rfl⟩))));exact wo HRK (N-(i+1)) (by have:=HKK.out;omega) ⟨i+1,v,l,zd,rfl,HTS.out.symm,zb,zb,zb,zj,HO.out,HG.out⟩
  | some d=>
   have hd16:=zss hdc;rw[hdc]at hts hL;have hts':dgL b (s.take (i+1))=if 0<d\/l≠[] then l++[d] else l:=hts
   clear hts hdc;by_cases hd0:0<d
   ·rw[if_pos (Or.inl hd0)]at hts';have HTS:=zH hts';have HL:=zH hL;have HO:=zH hown;have hd1:(0:Int)<(d:Int):=zd;clear hts' hL hown;(go_wp2_with (first | (at_builtin;refine yk rfl _ _ _ _ rfl ze ze ug (HO.out.alloc _) zb _ zb [d] (xl Tryz.underlying35 _ d _ rfl) zh ?_;intro v1 w1 ho1 hs1) | (refine (HL.out _).mono ?_;rintro e w8 ⟨rfl,rfl⟩));repeat ((first|refine cZ ?_|refine cW ?_);go_wp2_with (first | (at_builtin;refine yk rfl _ _ _ _ rfl ze ze ug (HO.out.alloc _) zb _ zb [d] (xl Tryz.underlying35 _ d _ rfl) zh ?_;intro v1 w1 ho1 hs1) | (refine (HL.out _).mono ?_;rintro e w8 ⟨rfl,rfl⟩))));exact wo HRK (N-(i+1)) (by have:=HKK.out;omega) ⟨i+1,v1,l++[d],zd,rfl,HTS.out.symm,zb,zb,zb,zj,ho1,wi (Nat.le_refl _) (ya HG.out (World.grownBy_alloc wk _ none)) (HO.out.alloc _) hs1⟩
   ·have hd1:d=0:=zd;subst hd1;obtain⟨g,cc,rfl,hb1,hb2,hb3,hb4⟩:=hown.block;obtain⟨M,hM⟩:=zX l.length;rw[hM]at hown s5 hb3 hll;by_cases hlz:l=[]
    ·subst hlz;rw[if_neg zi]at hts';simp only[List.length_nil]at hM;subst hM;have HTS:=zH hts';have HL:=zH hL;have HO:=zH hown;clear hts' hL hown;(go_wp2_with (first | (refine (HL.out _).mono ?_;rintro e w8 ⟨rfl,rfl⟩));repeat ((first|refine cZ ?_|refine cW ?_);go_wp2_with (first | (refine (HL.out _).mono ?_;rintro e w8 ⟨rfl,rfl⟩))));exact wo HRK (N-(i+1)) (by have:=HKK.out;omega) ⟨i+1,_,[],zd,rfl,HTS.out.symm,zb,zb,zb,zj,HO.out,HG.out⟩
    ·rw[if_pos (Or.inr hlz)]at hts';have hM0:0<M:=by rw[<-hM];exact List.length_pos_iff.2 hlz
     have HTS:=zH hts';have HL:=zH hL;have HO:=zH hown;have HM:=zH hM;have hM1:(0:Int)<(M:Int):=zd;clear hts' hL hown hlz hM hb1 hb2 hb3 hb4;(go_wp2_with (first | (at_builtin;refine yk rfl _ _ _ _ rfl ze ze ug (HO.out.alloc _) zb _ zb [0] (xl Tryz.underlying35 _ 0 _ rfl) (by rw[HM.out];simp;omega) ?_;intro v1 w1 ho1 hs1) | (refine (HL.out _).mono ?_;rintro e w8 ⟨rfl,rfl⟩));repeat ((first|refine cZ ?_|refine cW ?_);go_wp2_with (first | (at_builtin;refine yk rfl _ _ _ _ rfl ze ze ug (HO.out.alloc _) zb _ zb [0] (xl Tryz.underlying35 _ 0 _ rfl) (by rw[HM.out];simp;omega) ?_;intro v1 w1 ho1 hs1) | (refine (HL.out _).mono ?_;rintro e w8 ⟨rfl,rfl⟩))));exact wo HRK (N-(i+1)) (by have:=HKK.out;omega) ⟨i+1,v1,l++[0],zd,rfl,HTS.out.symm,zb,zb,zb,zj,ho1,wi (Nat.le_refl _) (ya HG.out (World.grownBy_alloc wk _ none)) (HO.out.alloc _) hs1⟩
 ·have hiN':decide (i<N)=false:=zβw;have hall:s.take i=s:=List.take_of_length_le zt;rw[hall]at HC;have HO:=zH hown;clear hall hown;(go_wp2_with fail;repeat ((first|refine cZ ?_|refine cW ?_);go_wp2_with fail));exact yl v rfl ze zb ⟨v,rfl,by rw[<-HC.out];exact HO.out,HG.out⟩
end
end Go.Proofs.YtoacbkokkkpofaaGreatDoor
