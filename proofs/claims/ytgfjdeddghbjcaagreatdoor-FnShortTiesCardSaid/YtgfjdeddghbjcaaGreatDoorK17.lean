/- Lemmas that the claim's top text leans on. No condition of their own. -/
import Derived.Test.YtgfjdeddghbjcaaGreatDoorK16
namespace Go.Proofs.YtgfjdeddghbjcaaGreatDoor
open Go.RowKit
set_option linter.unusedSimpArgs false
set_option linter.unusedVariables false
set_option maxHeartbeats 16000000
section
attribute [local go_sem] undef
theorem ya6 (x K N:Nat) (h:(yf x).length<=K):(yf (x*2^N)).length<=K+(N / 30+1):=by
 refine yv ?_;rw[Nat.pow_add];refine Nat.mul_lt_mul_of_lt_of_le (Nat.lt_of_lt_of_le (wu x) (Nat.pow_le_pow_right ze h)) ?_ (Nat.pow_pos ze);rw[js];exact Nat.pow_le_pow_right ze zd 
theorem zq5 (f bias:Int) (a b:Nat) (ha:(yf a).length<=150000) (hb:(yf b).length<=150000) (hf1:0<=f) (hf2:f<=52) (hb1:0<=bias) (hb2:bias<=1023):1-bias-f<=yt f bias a b/\yt f bias a b<=4500001/\-4500001<=uo a b/\uo a b<=4500001:=by
 have da:=jk a 150000 ha;have db:=jk b 150000 hb;have ho:-4500001<=uo a b/\uo a b<=4500001:=by unfold uo;split <;> omega
 unfold yt;split <;> omega
def xd (a b:Nat):Nat:=xh 52 1023 9218868437227405312 a b
set_option maxRecDepth 100000 in
theorem zah (neg:Bool) (vn vd:Value) (a b:Nat) (w:World) (hn:NatV w vn a) (hd:NatV w vd b) (hb:b≠0) (hla:(yf a).length<=150000) (hlb:(yf b).length<=150000):
  Calls Tryz.prog 28 #[.agg #[.bool neg,vn,vd],.int .i64 64] w fun e w'=>e=.returned (.tuple #[.int .u64 ((xd a b+if neg then 9223372036854775808 else 0:Nat):Int),.bool (xd a b==9218868437227405312)])/\w.grownBy w' none:=by
 obtain⟨e1,e2,o1,o2⟩:=zq5 52 1023 a b hla hlb zd zd zd zd;have hs:=zld a b 52 1023 hb zd;obtain⟨N,hN⟩:=zX (xd a b);have hnr:N=if yt 52 1023 a b<=1023-52 then (yt 52 1023 a b-(1-1023-52)).toNat*2^(52:Int).toNat+rB a b (yt 52 1023 a b) else 9218868437227405312:=by rw[<-hN];rfl
 have hen:yt 52 1023 a b=if a=0 then 1-1023-52 else max (1-1023-52) (uo a b-52):=rfl
 rw[hN];obtain⟨M,hM⟩:=zX (N+(if neg then 9223372036854775808 else 0));rw[hM];have HM:=zH hM;clear hN hM;have HOT:=zH (fun vn vd W (h1:NatV W vn a) (h2:NatV W vd b)=>zdz false vn vd a b W h1 h2 hla hlb);have HTT:=zH (fun vn vd W (h1:NatV W vn a) (h2:NatV W vd b)=>zc1 false vn vd a b (yt 52 1023 a b) W h1 h2 zd zd zd zd);have HRD:=zH (fun V U W (h1:NatV W V (a*2^(-yt 52 1023 a b).toNat)) (h2:NatV W U (b*2^(yt 52 1023 a b).toNat))=>zh6 false V U _ _ W h1 h2 (Nat.mul_pos zd (p2 _)) (by have:=ya6 a 150000 (-yt 52 1023 a b).toNat hla;omega) (by have:=ya6 b 150000 (yt 52 1023 a b).toNat hlb;omega));obtain⟨S,hS1,hS2⟩:∃ S,vi (a*2^(-yt 52 1023 a b).toNat) (b*2^(yt 52 1023 a b).toNat)=S/\rB a b (yt 52 1023 a b)=S:=⟨_,rfl,rfl⟩;simp only[hS1]at HRD;rw[hS2]at hs hnr;have hs2:S<=9007199254740992:=hs;generalize yt 52 1023 a b=E at *
 generalize uo a b=O at *
 have hSl:(yf S).length<=3:=yv zd;have g0:(yf S).getD 0 0=S%1073741824:=by rw[qu,Nat.pow_zero,Nat.div_one]
 have g1:(yf S).getD 1 0=S / 1073741824:=by rw[qu,Nat.pow_one,Nat.mod_eq_of_lt zd]
 have ha0:=fun V W (h:NatV W V S)=>zds V (yf S) 0 W h zd zd
 have ha1:=fun V W (h:NatV W V S)=>zds V (yf S) 1 W h zd zd
 obtain⟨x0,hx0⟩:=zX (S%1073741824);obtain⟨x1,hx1⟩:=zX (S / 1073741824);have hx0l:x0<1073741824:=zd;have hx1l:x1<16777216:=zd;have HXS:=zH (show S=x0+x1*1073741824 by omega);rw[g0,hx0]at ha0;rw[g1,hx1]at ha1;have HA0:=zH (show ∀ V W,NatV W V S->Calls Tryz.prog 61 #[V,.int .i64 0] W fun e w'=>e=.returned (.int .i64 (x0:Int))/\W=w' from ha0);have HA1:=zH (show ∀ V W,NatV W V S->Calls Tryz.prog 61 #[V,.int .i64 1] W fun e w'=>e=.returned (.int .i64 (x1:Int))/\W=w' from ha1);have HNR:=zH hnr;have HEN:=zH hen;have HFR:=zH zba;have HBI:=zH qz;have HIN:=zH wy;have HSB:=zH wm;have HNL:=zH (show (yf a).length=0↔a=0 from ⟨fun h=>by by_cases h0:a=0;exact h0;exact absurd (List.length_eq_zero_iff.1 h) (qn h0),fun h=>zγz⟩);clear hnr hen hS1 hS2 hs ha0 ha1 g0 g1 hSl hx0 hx1;obtain⟨an,cn,rfl⟩:=hn.len;obtain⟨ad,cd,rfl⟩:=hd.len;obtain⟨LN,hLN⟩:=zX ((yf a).length);rw[hLN]at hn HNL hla;simp only[hLN];generalize (yf b).length=LD at *
 clear hLN;obtain⟨w1,hw1⟩:=zX (w.alloc (.cells #[.bool neg,.slice an LN cn,.slice ad LD cd] 38));obtain⟨B,hB⟩:=zX w.heap.size;have hib:=InBlk.new w neg (.slice an LN cn) (.slice ad LD cd) 38;rw[hw1,hB]at hib;obtain⟨w2,hw2⟩:∃ w',w1.alloc (.cells #[.bool false,.slice an LN cn,.slice ad LD cd] 38)=w':=⟨_,rfl⟩;obtain⟨D,hD⟩:=zX ((World.heap w1).size);have hid:=InBlk.new w1 false (.slice an LN cn) (.slice ad LD cd) 38;rw[hw2,hD]at hid;have HG2:=zH (ya hib.grown hid.grown);have HRB:=zH (hib.row.grown hid.grown zi);have HRD2:=zH hid.row;have HN2:=zH (hn.grown HG2.out);have HD2:=zH (hd.grown HG2.out);have k0:=hib.row.cell 0;have k1:=hib.row.cell 1;have k2:=hib.row.cell 2;simp only[List.getElem?_cons_zero,List.getElem?_cons_succ]at k0 k1 k2;have HW1:=zH hw1;have HW2:=zH hw2;have HBB:=zH hB;have HDD:=zH hD;clear hib hid hw1 hw2 hn hd hB hD;refine ye Tryz.func28 rfl (by rw[Tryz.ntmps28];simp) ?_;intro σ hσ;rw[Tryz.ntmps28];have s0:σ 0=.agg #[.bool neg,.slice an LN cn,.slice ad LD cd]:=hσ 0 zi;have s1:σ 1=.int .i64 64:=hσ 1 zi;clear hσ;go_upto_region 1 with fail;rw[HW1.out,HBB.out];go_upto_region 2 with fail;rw[HW2.out,HDD.out];clear HW1 HW2 k0 k1 k2;have k0:=HRD2.out.cell 0;have k1:=HRD2.out.cell 1;have k2:=HRD2.out.cell 2;have b0:=HRB.out.cell 0;simp only[List.getElem?_cons_zero,List.getElem?_cons_succ]at k0 k1 k2 b0;(go_wp2_with fail;repeat ((first|refine cZ ?_|refine cW ?_);go_wp2_with fail));refine (HFR.out _).mono ?_;rintro e w7 ⟨rfl,rfl⟩;(go_wp2_with fail;repeat ((first|refine cZ ?_|refine cW ?_);go_wp2_with fail));refine (HBI.out _).mono ?_;rintro e w7 ⟨rfl,rfl⟩;(go_wp2_with fail;repeat ((first|refine cZ ?_|refine cW ?_);go_wp2_with fail));refine yr (fun s' w'=>s' 1=.int .i64 64/\s' 2=.pointer (some ⟨B,0,none⟩)/\s' 6=.pointer (some ⟨D,0,none⟩)/\s' 7=.int .i64 52/\s' 8=.int .i64 (-1074)/\s' 9=.int .i64 E/\w2.grownBy w' none) ?_ ?_
 ·intro R' K' HR hK';by_cases h0:LN=0
  ·have hE:E=-1074:=by have:=HEN.out;rw[if_pos (HNL.out.1 h0)]at this;omega
   subst hE;subst h0;(go_wp2_with fail;repeat ((first|refine cZ ?_|refine cW ?_);go_wp2_with fail));exact got HR ⟨zb,zb,zb,zb,zb,zb,yy w2 none⟩
  ·have hE:E=max (-1074) (O-52):=by have:=HEN.out;rw[if_neg (fun h=>h0 (HNL.out.2 h))]at this;omega
   have hLN:0<LN:=zd;have HEE:=zH hE;clear hE;(go_wp2_with fail;repeat ((first|refine cZ ?_|refine cW ?_);go_wp2_with fail));refine (HOT.out _ _ _ HN2.out HD2.out).mono ?_;rintro e w3 ⟨rfl,hg3⟩;have HG3:=zH hg3;clear hg3;(go_wp2_with fail;repeat ((first|refine cZ ?_|refine cW ?_);go_wp2_with fail));refine got HR ⟨zb,zb,zb,zb,zb,?_,HG3.out⟩;simp[ov, *];rw[HEE.out]
 clear s0 s1 σ k0 k1 k2 b0;rintro σ w3 ⟨s1,s2,s6,s7,s8,s9,hg3⟩;have HRD3:=zH (HRD2.out.grown hg3 zi);have HRB3:=zH (HRB.out.grown hg3 zi);have HN3:=zH (HN2.out.grown hg3);have HD3:=zH (HD2.out.grown hg3);have HG3:=zH (ya HG2.out hg3);clear hg3 HOT;have k0:=HRD3.out.cell 0;have k1:=HRD3.out.cell 1;have k2:=HRD3.out.cell 2;simp only[List.getElem?_cons_zero,List.getElem?_cons_succ]at k0 k1 k2;(go_wp2_with fail;repeat ((first|refine cZ ?_|refine cW ?_);go_wp2_with fail));refine (HIN.out _).mono ?_;rintro e w7 ⟨rfl,rfl⟩;(go_wp2_with fail;repeat ((first|refine cZ ?_|refine cW ?_);go_wp2_with fail));refine (HBI.out _).mono ?_;rintro e w7 ⟨rfl,rfl⟩;go_wp2_with fail;refine yr (fun s' w'=>s' 1=.int .i64 64/\s' 2=.pointer (some ⟨B,0,none⟩)/\s' 4=.int .u64 (N:Int)/\w3.grownBy w' none) ?_ ?_
 ·intro R' K' HR hK';by_cases hc:E<=1023-52
  ·have hc2:E<=971:=zd;obtain⟨q,hq⟩:∃ q:Nat,E-(-1074)=(q:Int):=⟨(E-(-1074)).toNat,zd⟩;have hNv:N=q*4503599627370496+S:=by
    have:=HNR.out;rw[if_pos hc,show (E-(1-1023-52)).toNat=q by omega]at this;exact this
   have HQE:=zH hq;have hq9:q<=2100:=zd;have HNV:=zH hNv;clear hc hNv hq;(go_wp2_with fail;repeat ((first|refine cZ ?_|refine cW ?_);go_wp2_with fail));refine (HTT.out _ _ _ HN3.out HD3.out).mono ?_;rintro e w4 ⟨v4,rfl,hv4,hg4⟩;obtain⟨n4,d4,rfl,hn4,hd4⟩:=hv4;have HN4:=zH hn4;have HD4:=zH hd4;have HG4:=zH hg4;clear hn4 hd4 hg4 k0 k1 k2;(go_wp2_with fail;repeat ((first|refine cZ ?_|refine cW ?_);go_wp2_with fail));refine (HRD.out _ _ _ HN4.out HD4.out).mono ?_;rintro e w5 ⟨v5,rfl,hn5,hg5⟩;have HN5:=zH hn5;have HG5:=zH (ya HG4.out hg5);clear hn5 hg5;(go_wp2_with fail;repeat ((first|refine cZ ?_|refine cW ?_);go_wp2_with fail));refine wp_region_noPanic ?_;refine wp_region_held_drew (S:=fun W=>w5.grownBy W none) zg (yh w5 1 none) (fun hHeld=>?_);(refine yg 0 46 ?_;refine yg 1 47 ?_);(refine xg 2 48 (oi:=?_) (v:=?_) ?_ ?_ zg zg zg (fun _ _ _ _ _ h=>h) ?_ zq ?_ ?_;rotate_left 2;(focus ((simp only[List.getElem?_toArray,List.getElem?_cons_succ,List.getElem?_cons_zero]);rfl));(focus rfl);(focus (first | rfl | (simp only[Region.wanted,yielded,List.getElem?_toArray,List.getElem?_cons_succ,List.getElem?_cons_zero,Option.bind_some,Option.map_some,Fr_get?,yc,yd];rfl) | go_simp));(focus (intro W hS;go_simp;rw[zr6 _ zd zd,show E+1074=(q:Int) by have:=HQE.out;omega])));(refine xg 3 49 (oi:=?_) (v:=?_) ?_ ?_ zg zg zg (fun _ _ _ _ _ h=>h) ?_ zq ?_ ?_;rotate_left 2;(focus ((simp only[List.getElem?_toArray,List.getElem?_cons_succ,List.getElem?_cons_zero]);rfl));(focus rfl);(focus (first | rfl | (simp only[Region.wanted,yielded,List.getElem?_toArray,List.getElem?_cons_succ,List.getElem?_cons_zero,Option.bind_some,Option.map_some,Fr_get?,yc,yd];rfl) | go_simp));(focus (intro W hS;go_simp;rw[zku q zd])));(refine yg 4 50 ?_);(refine xg 5 51 (oi:=?_) (v:=?_) ?_ ?_ zg zg zg (fun _ _ _ _ _ h=>h) ?_ zq ?_ ?_;rotate_left 2;(focus ((simp only[List.getElem?_toArray,List.getElem?_cons_succ,List.getElem?_cons_zero]);rfl));(focus rfl);(focus (first | rfl | (simp only[Region.wanted,yielded,List.getElem?_toArray,List.getElem?_cons_succ,List.getElem?_cons_zero,Option.bind_some,Option.map_some,Fr_get?,yc,yd];rfl) | go_simp));(focus (intro W hS;go_simp;rw[show IntKind.u64.wrap ((q:Int)*4503599627370496)=((q*4503599627370496:Nat):Int) by rw[IntKind.wrap_u64];omega])));(refine yg 6 52 ?_;refine yg 10 56 ?_);(refine zO 7 ?_;intro K hK;go_simp;(refine (HA0.out _ _ (HN5.out.grown hHeld)).mono ?_;rintro e w6 ⟨rfl,rfl⟩);go_wp2_with fail;replace hHeld:=hHeld;refine hK.out _ _ hHeld ?_;clear hK K);(refine xg 8 54 (oi:=?_) (v:=?_) ?_ ?_ zg zg zg (fun _ _ _ _ _ h=>h) ?_ zq ?_ ?_;rotate_left 2;(focus ((simp only[List.getElem?_toArray,List.getElem?_cons_succ,List.getElem?_cons_zero]);rfl));(focus rfl);(focus (first | rfl | (simp only[Region.wanted,yielded,List.getElem?_toArray,List.getElem?_cons_succ,List.getElem?_cons_zero,Option.bind_some,Option.map_some,Fr_get?,yc,yd];rfl) | go_simp));(focus (intro W hS;go_simp;rw[zku x0 zd])));(refine xg 9 55 (oi:=?_) (v:=?_) ?_ ?_ zg zg zg (fun _ _ _ _ _ h=>h) ?_ zq ?_ ?_;rotate_left 2;(focus ((simp only[List.getElem?_toArray,List.getElem?_cons_succ,List.getElem?_cons_zero]);rfl));(focus rfl);(focus (first | rfl | (simp only[Region.wanted,yielded,List.getElem?_toArray,List.getElem?_cons_succ,List.getElem?_cons_zero,Option.bind_some,Option.map_some,Fr_get?,yc,yd];rfl) | go_simp));(focus (intro W hS;go_simp;rw[show IntKind.u64.wrap ((q:Int)*4503599627370496+(x0:Int))=((q*4503599627370496+x0:Nat):Int) by rw[IntKind.wrap_u64];omega])));(refine zO 11 ?_;intro K hK;go_simp;(refine (HA1.out _ _ (HN5.out.grown hHeld)).mono ?_;rintro e w8 ⟨rfl,rfl⟩);go_wp2_with fail;replace hHeld:=hHeld;refine hK.out _ _ hHeld ?_;clear hK K);(refine xg 12 58 (oi:=?_) (v:=?_) ?_ ?_ zg zg zg (fun _ _ _ _ _ h=>h) ?_ zq ?_ ?_;rotate_left 2;(focus ((simp only[List.getElem?_toArray,List.getElem?_cons_succ,List.getElem?_cons_zero]);rfl));(focus rfl);(focus (first | rfl | (simp only[Region.wanted,yielded,List.getElem?_toArray,List.getElem?_cons_succ,List.getElem?_cons_zero,Option.bind_some,Option.map_some,Fr_get?,yc,yd];rfl) | go_simp));(focus (intro W hS;go_simp;rw[zku x1 zd])));(refine xg 13 59 (oi:=?_) (v:=?_) ?_ ?_ zg zg zg (fun _ _ _ _ _ h=>h) ?_ zq ?_ ?_;rotate_left 2;(focus ((simp only[List.getElem?_toArray,List.getElem?_cons_succ,List.getElem?_cons_zero]);rfl));(focus rfl);(focus (first | rfl | (simp only[Region.wanted,yielded,List.getElem?_toArray,List.getElem?_cons_succ,List.getElem?_cons_zero,Option.bind_some,Option.map_some,Fr_get?,yc,yd];rfl) | go_simp));(focus (intro W hS;go_simp;rw[show IntKind.u64.wrap ((x1:Int)*1073741824)=((x1*1073741824:Nat):Int) by rw[IntKind.wrap_u64];omega])));(refine xg 14 60 (oi:=?_) (v:=?_) ?_ ?_ zg zg zg (fun _ _ _ _ _ h=>h) ?_ zq ?_ ?_;rotate_left 2;(focus ((simp only[List.getElem?_toArray,List.getElem?_cons_succ,List.getElem?_cons_zero]);rfl));(focus rfl);(focus (first | rfl | (simp only[Region.wanted,yielded,List.getElem?_toArray,List.getElem?_cons_succ,List.getElem?_cons_zero,Option.bind_some,Option.map_some,Fr_get?,yc,yd];rfl) | go_simp));(focus (intro W hS;go_simp;rw[show IntKind.u64.wrap ((q:Int)*4503599627370496+(x0:Int)+(x1:Int)*1073741824)=(N:Int) by rw[IntKind.wrap_u64];have h1:=HNV.out;have h2:=HXS.out;omega])));(refine yg 15 4 ?_);refine wpAnyH_done zg ?_ _;refine NoPanic.normal ?_;exact hK' _ _ _ (got HR ⟨zb,zb,zb,ya HG5.out hHeld⟩)
  ·have hNv:N=9218868437227405312:=by have:=HNR.out;rw[if_neg hc]at this;exact this
   have f1:decide (E<=971)=false:=zh;subst hNv;clear hc;(go_wp2_with fail;repeat ((first|refine cZ ?_|refine cW ?_);go_wp2_with fail));exact got HR ⟨zb,zb,zb,yy w3 none⟩
 clear s1 s2 s6 s7 s8 s9 σ k0 k1 k2;rintro σ w4 ⟨s1,s2,s4,hg4⟩;have HG4:=zH (ya HG3.out hg4);have hb4:=HRB3.out.grown hg4 zi;have b0:=hb4.cell 0;simp only[List.getElem?_cons_zero]at b0;have hNl:N<=9218868437227405312:=by
  have:=HNR.out;split at this
  ·next h=>
   rw[this];have hq:(E-(1-1023-52)).toNat<=2045:=zd;have h2:(E-(1-1023-52)).toNat*2^(52:Int).toNat<=2045*4503599627370496:=Nat.mul_le_mul_right _ hq;omega
  ·omega
 clear hg4 hb4;(go_wp2_with fail;repeat ((first|refine cZ ?_|refine cW ?_);go_wp2_with fail));refine (HIN.out _).mono ?_;rintro e w7 ⟨rfl,rfl⟩;go_wp2_with fail;have hbe:((N:Int)==9218868437227405312)=(N==9218868437227405312):=by
  rw[Bool.eq_iff_iff];simp only[beq_iff_eq];omega
 refine yr (fun s' w'=>s' 4=.int .u64 (M:Int)/\s' 5=.bool (N==9218868437227405312)/\w4=w') ?_ ?_
 ·intro R' K' HR hK';cases neg
  ·(go_wp2_with fail;repeat ((first|refine cZ ?_|refine cW ?_);go_wp2_with fail));exact got HR ⟨by have:=HM.out;simp only[Bool.false_eq_true,if_false,Nat.add_zero]at this;rw[<-this];simp[ov, *],zαS,rfl⟩
  ·(go_wp2_with fail;repeat ((first|refine cZ ?_|refine cW ?_);go_wp2_with fail));refine (HSB.out _).mono ?_;rintro e w8 ⟨rfl,rfl⟩;(go_wp2_with fail;repeat ((first|refine cZ ?_|refine cW ?_);go_wp2_with fail));exact got HR ⟨by have:=HM.out;simp only[if_true]at this;rw[<-this];simp only[yc,yd,if_true];congr 1,zαS,rfl⟩
 clear s1 s2 s4 b0 σ;rintro σ w5 ⟨s4,s5,rfl⟩;(go_wp2_with fail;repeat ((first|refine cZ ?_|refine cW ?_);go_wp2_with fail));exact xc (.int .u64 (M:Int)) (.bool (N==9218868437227405312)) rfl ze ze zb zb ⟨rfl,HG4.out⟩
def zxq (a b:Nat):Nat:=xh 23 127 2139095040 a b
set_option maxRecDepth 100000 in
theorem zxz (neg:Bool) (vn vd:Value) (a b:Nat) (w:World) (hn:NatV w vn a) (hd:NatV w vd b) (hb:b≠0) (hla:(yf a).length<=150000) (hlb:(yf b).length<=150000):
  Calls Tryz.prog 28 #[.agg #[.bool neg,vn,vd],.int .i64 32] w fun e w'=>e=.returned (.tuple #[.int .u64 ((zxq a b+if neg then 2147483648 else 0:Nat):Int),.bool (zxq a b==2139095040)])/\w.grownBy w' none:=by
 obtain⟨e1,e2,o1,o2⟩:=zq5 23 127 a b hla hlb zd zd zd zd;have hs:=zld a b 23 127 hb zd;obtain⟨N,hN⟩:=zX (zxq a b);have hnr:N=if yt 23 127 a b<=127-23 then (yt 23 127 a b-(1-127-23)).toNat*2^(23:Int).toNat+rB a b (yt 23 127 a b) else 2139095040:=by rw[<-hN];rfl
 have hen:yt 23 127 a b=if a=0 then 1-127-23 else max (1-127-23) (uo a b-23):=rfl
 rw[hN];obtain⟨M,hM⟩:=zX (N+(if neg then 2147483648 else 0));rw[hM];have HM:=zH hM;clear hN hM;have HOT:=zH (fun vn vd W (h1:NatV W vn a) (h2:NatV W vd b)=>zdz false vn vd a b W h1 h2 hla hlb);have HTT:=zH (fun vn vd W (h1:NatV W vn a) (h2:NatV W vd b)=>zc1 false vn vd a b (yt 23 127 a b) W h1 h2 zd zd zd zd);have HRD:=zH (fun V U W (h1:NatV W V (a*2^(-yt 23 127 a b).toNat)) (h2:NatV W U (b*2^(yt 23 127 a b).toNat))=>zh6 false V U _ _ W h1 h2 (Nat.mul_pos zd (p2 _)) (by have:=ya6 a 150000 (-yt 23 127 a b).toNat hla;omega) (by have:=ya6 b 150000 (yt 23 127 a b).toNat hlb;omega));obtain⟨S,hS1,hS2⟩:∃ S,vi (a*2^(-yt 23 127 a b).toNat) (b*2^(yt 23 127 a b).toNat)=S/\rB a b (yt 23 127 a b)=S:=⟨_,rfl,rfl⟩;simp only[hS1]at HRD;rw[hS2]at hs hnr;have hs2:S<=16777216:=hs;generalize yt 23 127 a b=E at *
 generalize uo a b=O at *
 have hSl:(yf S).length<=3:=yv zd;have g0:(yf S).getD 0 0=S%1073741824:=by rw[qu,Nat.pow_zero,Nat.div_one]
 have g1:(yf S).getD 1 0=S / 1073741824:=by rw[qu,Nat.pow_one,Nat.mod_eq_of_lt zd]
 have ha0:=fun V W (h:NatV W V S)=>zds V (yf S) 0 W h zd zd
 have ha1:=fun V W (h:NatV W V S)=>zds V (yf S) 1 W h zd zd
 obtain⟨x0,hx0⟩:=zX (S%1073741824);obtain⟨x1,hx1⟩:=zX (S / 1073741824);have hx0l:x0<1073741824:=zd;have hx1l:x1<16777216:=zd;have HXS:=zH (show S=x0+x1*1073741824 by omega);rw[g0,hx0]at ha0;rw[g1,hx1]at ha1;have HA0:=zH (show ∀ V W,NatV W V S->Calls Tryz.prog 61 #[V,.int .i64 0] W fun e w'=>e=.returned (.int .i64 (x0:Int))/\W=w' from ha0);have HA1:=zH (show ∀ V W,NatV W V S->Calls Tryz.prog 61 #[V,.int .i64 1] W fun e w'=>e=.returned (.int .i64 (x1:Int))/\W=w' from ha1);have HNR:=zH hnr;have HEN:=zH hen;have HFR:=zH zek;have HBI:=zH zbd;have HIN:=zH zdg;have HSB:=zH ur;have HNL:=zH (show (yf a).length=0↔a=0 from ⟨fun h=>by by_cases h0:a=0;exact h0;exact absurd (List.length_eq_zero_iff.1 h) (qn h0),fun h=>zγz⟩);clear hnr hen hS1 hS2 hs ha0 ha1 g0 g1 hSl hx0 hx1;obtain⟨an,cn,rfl⟩:=hn.len;obtain⟨ad,cd,rfl⟩:=hd.len;obtain⟨LN,hLN⟩:=zX ((yf a).length);rw[hLN]at hn HNL hla;simp only[hLN];generalize (yf b).length=LD at *
 clear hLN;obtain⟨w1,hw1⟩:=zX (w.alloc (.cells #[.bool neg,.slice an LN cn,.slice ad LD cd] 38));obtain⟨B,hB⟩:=zX w.heap.size;have hib:=InBlk.new w neg (.slice an LN cn) (.slice ad LD cd) 38;rw[hw1,hB]at hib;obtain⟨w2,hw2⟩:∃ w',w1.alloc (.cells #[.bool false,.slice an LN cn,.slice ad LD cd] 38)=w':=⟨_,rfl⟩;obtain⟨D,hD⟩:=zX ((World.heap w1).size);have hid:=InBlk.new w1 false (.slice an LN cn) (.slice ad LD cd) 38;rw[hw2,hD]at hid;have HG2:=zH (ya hib.grown hid.grown);have HRB:=zH (hib.row.grown hid.grown zi);have HRD2:=zH hid.row;have HN2:=zH (hn.grown HG2.out);have HD2:=zH (hd.grown HG2.out);have k0:=hib.row.cell 0;have k1:=hib.row.cell 1;have k2:=hib.row.cell 2;simp only[List.getElem?_cons_zero,List.getElem?_cons_succ]at k0 k1 k2;have HW1:=zH hw1;have HW2:=zH hw2;have HBB:=zH hB;have HDD:=zH hD;clear hib hid hw1 hw2 hn hd hB hD;refine ye Tryz.func28 rfl (by rw[Tryz.ntmps28];simp) ?_;intro σ hσ;rw[Tryz.ntmps28];have s0:σ 0=.agg #[.bool neg,.slice an LN cn,.slice ad LD cd]:=hσ 0 zi;have s1:σ 1=.int .i64 32:=hσ 1 zi;clear hσ;go_upto_region 1 with fail;rw[HW1.out,HBB.out];go_upto_region 2 with fail;rw[HW2.out,HDD.out];clear HW1 HW2 k0 k1 k2;have k0:=HRD2.out.cell 0;have k1:=HRD2.out.cell 1;have k2:=HRD2.out.cell 2;have b0:=HRB.out.cell 0;simp only[List.getElem?_cons_zero,List.getElem?_cons_succ]at k0 k1 k2 b0;(go_wp2_with fail;repeat ((first|refine cZ ?_|refine cW ?_);go_wp2_with fail));refine (HFR.out _).mono ?_;rintro e w7 ⟨rfl,rfl⟩;(go_wp2_with fail;repeat ((first|refine cZ ?_|refine cW ?_);go_wp2_with fail));refine (HBI.out _).mono ?_;rintro e w7 ⟨rfl,rfl⟩;(go_wp2_with fail;repeat ((first|refine cZ ?_|refine cW ?_);go_wp2_with fail));refine yr (fun s' w'=>s' 1=.int .i64 32/\s' 2=.pointer (some ⟨B,0,none⟩)/\s' 6=.pointer (some ⟨D,0,none⟩)/\s' 7=.int .i64 23/\s' 8=.int .i64 (-149)/\s' 9=.int .i64 E/\w2.grownBy w' none) ?_ ?_
 ·intro R' K' HR hK';by_cases h0:LN=0
  ·have hE:E=-149:=by have:=HEN.out;rw[if_pos (HNL.out.1 h0)]at this;omega
   subst hE;subst h0;(go_wp2_with fail;repeat ((first|refine cZ ?_|refine cW ?_);go_wp2_with fail));exact got HR ⟨zb,zb,zb,zb,zb,zb,yy w2 none⟩
  ·have hE:E=max (-149) (O-23):=by have:=HEN.out;rw[if_neg (fun h=>h0 (HNL.out.2 h))]at this;omega
   have hLN:0<LN:=zd;have HEE:=zH hE;clear hE;(go_wp2_with fail;repeat ((first|refine cZ ?_|refine cW ?_);go_wp2_with fail));refine (HOT.out _ _ _ HN2.out HD2.out).mono ?_;rintro e w3 ⟨rfl,hg3⟩;have HG3:=zH hg3;clear hg3;(go_wp2_with fail;repeat ((first|refine cZ ?_|refine cW ?_);go_wp2_with fail));refine got HR ⟨zb,zb,zb,zb,zb,?_,HG3.out⟩;simp[ov, *];rw[HEE.out]
 clear s0 s1 σ k0 k1 k2 b0;rintro σ w3 ⟨s1,s2,s6,s7,s8,s9,hg3⟩;have HRD3:=zH (HRD2.out.grown hg3 zi);have HRB3:=zH (HRB.out.grown hg3 zi);have HN3:=zH (HN2.out.grown hg3);have HD3:=zH (HD2.out.grown hg3);have HG3:=zH (ya HG2.out hg3);clear hg3 HOT;have k0:=HRD3.out.cell 0;have k1:=HRD3.out.cell 1;have k2:=HRD3.out.cell 2;simp only[List.getElem?_cons_zero,List.getElem?_cons_succ]at k0 k1 k2;(go_wp2_with fail;repeat ((first|refine cZ ?_|refine cW ?_);go_wp2_with fail));refine (HIN.out _).mono ?_;rintro e w7 ⟨rfl,rfl⟩;(go_wp2_with fail;repeat ((first|refine cZ ?_|refine cW ?_);go_wp2_with fail));refine (HBI.out _).mono ?_;rintro e w7 ⟨rfl,rfl⟩;go_wp2_with fail;refine yr (fun s' w'=>s' 1=.int .i64 32/\s' 2=.pointer (some ⟨B,0,none⟩)/\s' 4=.int .u64 (N:Int)/\w3.grownBy w' none) ?_ ?_
 ·intro R' K' HR hK';by_cases hc:E<=127-23
  ·have hc2:E<=104:=zd;obtain⟨q,hq⟩:∃ q:Nat,E-(-149)=(q:Int):=⟨(E-(-149)).toNat,zd⟩;have hNv:N=q*8388608+S:=by
    have:=HNR.out;rw[if_pos hc,show (E-(1-127-23)).toNat=q by omega]at this;exact this
   have HQE:=zH hq;have hq9:q<=2100:=zd;have HNV:=zH hNv;clear hc hNv hq;(go_wp2_with fail;repeat ((first|refine cZ ?_|refine cW ?_);go_wp2_with fail));refine (HTT.out _ _ _ HN3.out HD3.out).mono ?_;rintro e w4 ⟨v4,rfl,hv4,hg4⟩;obtain⟨n4,d4,rfl,hn4,hd4⟩:=hv4;have HN4:=zH hn4;have HD4:=zH hd4;have HG4:=zH hg4;clear hn4 hd4 hg4 k0 k1 k2;(go_wp2_with fail;repeat ((first|refine cZ ?_|refine cW ?_);go_wp2_with fail));refine (HRD.out _ _ _ HN4.out HD4.out).mono ?_;rintro e w5 ⟨v5,rfl,hn5,hg5⟩;have HN5:=zH hn5;have HG5:=zH (ya HG4.out hg5);clear hn5 hg5;(go_wp2_with fail;repeat ((first|refine cZ ?_|refine cW ?_);go_wp2_with fail));refine wp_region_noPanic ?_;refine wp_region_held_drew (S:=fun W=>w5.grownBy W none) zg (yh w5 1 none) (fun hHeld=>?_);(refine yg 0 46 ?_;refine yg 1 47 ?_);(refine xg 2 48 (oi:=?_) (v:=?_) ?_ ?_ zg zg zg (fun _ _ _ _ _ h=>h) ?_ zq ?_ ?_;rotate_left 2;(focus ((simp only[List.getElem?_toArray,List.getElem?_cons_succ,List.getElem?_cons_zero]);rfl));(focus rfl);(focus (first | rfl | (simp only[Region.wanted,yielded,List.getElem?_toArray,List.getElem?_cons_succ,List.getElem?_cons_zero,Option.bind_some,Option.map_some,Fr_get?,yc,yd];rfl) | go_simp));(focus (intro W hS;go_simp;rw[zr6 _ zd zd,show E+149=(q:Int) by have:=HQE.out;omega])));(refine xg 3 49 (oi:=?_) (v:=?_) ?_ ?_ zg zg zg (fun _ _ _ _ _ h=>h) ?_ zq ?_ ?_;rotate_left 2;(focus ((simp only[List.getElem?_toArray,List.getElem?_cons_succ,List.getElem?_cons_zero]);rfl));(focus rfl);(focus (first | rfl | (simp only[Region.wanted,yielded,List.getElem?_toArray,List.getElem?_cons_succ,List.getElem?_cons_zero,Option.bind_some,Option.map_some,Fr_get?,yc,yd];rfl) | go_simp));(focus (intro W hS;go_simp;rw[zku q zd])));(refine yg 4 50 ?_);(refine xg 5 51 (oi:=?_) (v:=?_) ?_ ?_ zg zg zg (fun _ _ _ _ _ h=>h) ?_ zq ?_ ?_;rotate_left 2;(focus ((simp only[List.getElem?_toArray,List.getElem?_cons_succ,List.getElem?_cons_zero]);rfl));(focus rfl);(focus (first | rfl | (simp only[Region.wanted,yielded,List.getElem?_toArray,List.getElem?_cons_succ,List.getElem?_cons_zero,Option.bind_some,Option.map_some,Fr_get?,yc,yd];rfl) | go_simp));(focus (intro W hS;go_simp;rw[show IntKind.u64.wrap ((q:Int)*8388608)=((q*8388608:Nat):Int) by rw[IntKind.wrap_u64];omega])));(refine yg 6 52 ?_;refine yg 10 56 ?_);(refine zO 7 ?_;intro K hK;go_simp;(refine (HA0.out _ _ (HN5.out.grown hHeld)).mono ?_;rintro e w6 ⟨rfl,rfl⟩);go_wp2_with fail;replace hHeld:=hHeld;refine hK.out _ _ hHeld ?_;clear hK K);(refine xg 8 54 (oi:=?_) (v:=?_) ?_ ?_ zg zg zg (fun _ _ _ _ _ h=>h) ?_ zq ?_ ?_;rotate_left 2;(focus ((simp only[List.getElem?_toArray,List.getElem?_cons_succ,List.getElem?_cons_zero]);rfl));(focus rfl);(focus (first | rfl | (simp only[Region.wanted,yielded,List.getElem?_toArray,List.getElem?_cons_succ,List.getElem?_cons_zero,Option.bind_some,Option.map_some,Fr_get?,yc,yd];rfl) | go_simp));(focus (intro W hS;go_simp;rw[zku x0 zd])));(refine xg 9 55 (oi:=?_) (v:=?_) ?_ ?_ zg zg zg (fun _ _ _ _ _ h=>h) ?_ zq ?_ ?_;rotate_left 2;(focus ((simp only[List.getElem?_toArray,List.getElem?_cons_succ,List.getElem?_cons_zero]);rfl));(focus rfl);(focus (first | rfl | (simp only[Region.wanted,yielded,List.getElem?_toArray,List.getElem?_cons_succ,List.getElem?_cons_zero,Option.bind_some,Option.map_some,Fr_get?,yc,yd];rfl) | go_simp));(focus (intro W hS;go_simp;rw[show IntKind.u64.wrap ((q:Int)*8388608+(x0:Int))=((q*8388608+x0:Nat):Int) by rw[IntKind.wrap_u64];omega])));(refine zO 11 ?_;intro K hK;go_simp;(refine (HA1.out _ _ (HN5.out.grown hHeld)).mono ?_;rintro e w8 ⟨rfl,rfl⟩);go_wp2_with fail;replace hHeld:=hHeld;refine hK.out _ _ hHeld ?_;clear hK K);(refine xg 12 58 (oi:=?_) (v:=?_) ?_ ?_ zg zg zg (fun _ _ _ _ _ h=>h) ?_ zq ?_ ?_;rotate_left 2;(focus ((simp only[List.getElem?_toArray,List.getElem?_cons_succ,List.getElem?_cons_zero]);rfl));(focus rfl);(focus (first | rfl | (simp only[Region.wanted,yielded,List.getElem?_toArray,List.getElem?_cons_succ,List.getElem?_cons_zero,Option.bind_some,Option.map_some,Fr_get?,yc,yd];rfl) | go_simp));(focus (intro W hS;go_simp;rw[zku x1 zd])));(refine xg 13 59 (oi:=?_) (v:=?_) ?_ ?_ zg zg zg (fun _ _ _ _ _ h=>h) ?_ zq ?_ ?_;rotate_left 2;(focus ((simp only[List.getElem?_toArray,List.getElem?_cons_succ,List.getElem?_cons_zero]);rfl));(focus rfl);(focus (first | rfl | (simp only[Region.wanted,yielded,List.getElem?_toArray,List.getElem?_cons_succ,List.getElem?_cons_zero,Option.bind_some,Option.map_some,Fr_get?,yc,yd];rfl) | go_simp));(focus (intro W hS;go_simp;rw[show IntKind.u64.wrap ((x1:Int)*1073741824)=((x1*1073741824:Nat):Int) by rw[IntKind.wrap_u64];omega])));(refine xg 14 60 (oi:=?_) (v:=?_) ?_ ?_ zg zg zg (fun _ _ _ _ _ h=>h) ?_ zq ?_ ?_;rotate_left 2;(focus ((simp only[List.getElem?_toArray,List.getElem?_cons_succ,List.getElem?_cons_zero]);rfl));(focus rfl);(focus (first | rfl | (simp only[Region.wanted,yielded,List.getElem?_toArray,List.getElem?_cons_succ,List.getElem?_cons_zero,Option.bind_some,Option.map_some,Fr_get?,yc,yd];rfl) | go_simp));(focus (intro W hS;go_simp;rw[show IntKind.u64.wrap ((q:Int)*8388608+(x0:Int)+(x1:Int)*1073741824)=(N:Int) by rw[IntKind.wrap_u64];have h1:=HNV.out;have h2:=HXS.out;omega])));(refine yg 15 4 ?_);refine wpAnyH_done zg ?_ _;refine NoPanic.normal ?_;exact hK' _ _ _ (got HR ⟨zb,zb,zb,ya HG5.out hHeld⟩)
  ·have hNv:N=2139095040:=by have:=HNR.out;rw[if_neg hc]at this;exact this
   have f1:decide (E<=104)=false:=zh;subst hNv;clear hc;(go_wp2_with fail;repeat ((first|refine cZ ?_|refine cW ?_);go_wp2_with fail));exact got HR ⟨zb,zb,zb,yy w3 none⟩
 clear s1 s2 s6 s7 s8 s9 σ k0 k1 k2;rintro σ w4 ⟨s1,s2,s4,hg4⟩;have HG4:=zH (ya HG3.out hg4);have hb4:=HRB3.out.grown hg4 zi;have b0:=hb4.cell 0;simp only[List.getElem?_cons_zero]at b0;have hNl:N<=2139095040:=by
  have:=HNR.out;split at this
  ·next h=>
   rw[this];have hq:(E-(1-127-23)).toNat<=253:=zd;have h2:(E-(1-127-23)).toNat*2^(23:Int).toNat<=253*8388608:=Nat.mul_le_mul_right _ hq;omega
  ·omega
 clear hg4 hb4;(go_wp2_with fail;repeat ((first|refine cZ ?_|refine cW ?_);go_wp2_with fail));refine (HIN.out _).mono ?_;rintro e w7 ⟨rfl,rfl⟩;go_wp2_with fail;have hbe:((N:Int)==2139095040)=(N==2139095040):=by
  rw[Bool.eq_iff_iff];simp only[beq_iff_eq];omega
 refine yr (fun s' w'=>s' 4=.int .u64 (M:Int)/\s' 5=.bool (N==2139095040)/\w4=w') ?_ ?_
 ·intro R' K' HR hK';cases neg
  ·(go_wp2_with fail;repeat ((first|refine cZ ?_|refine cW ?_);go_wp2_with fail));exact got HR ⟨by have:=HM.out;simp only[Bool.false_eq_true,if_false,Nat.add_zero]at this;rw[<-this];simp[ov, *],zαS,rfl⟩
  ·(go_wp2_with fail;repeat ((first|refine cZ ?_|refine cW ?_);go_wp2_with fail));refine (HSB.out _).mono ?_;rintro e w8 ⟨rfl,rfl⟩;(go_wp2_with fail;repeat ((first|refine cZ ?_|refine cW ?_);go_wp2_with fail));exact got HR ⟨by have:=HM.out;simp only[if_true]at this;rw[<-this];simp only[yc,yd,if_true];congr 1,zαS,rfl⟩
 clear s1 s2 s4 b0 σ;rintro σ w5 ⟨s4,s5,rfl⟩;(go_wp2_with fail;repeat ((first|refine cZ ?_|refine cW ?_);go_wp2_with fail));exact xc (.int .u64 (M:Int)) (.bool (N==2139095040)) rfl ze ze zb zb ⟨rfl,HG4.out⟩
end
section
attribute [local go_sem] undef
set_option maxRecDepth 100000 in
theorem yuc (sz:Int) (inf X:Nat) (v:Value) (d bits:Nat) (e n:Int) (w:World) (hr:NatV w v d) (hd:(yf d).length<=20000) (he1:-1000<=e) (he2:e<=1000) (hn1:1<=n) (hn2:n<=17) (hb:bits<inf)
  (hne:∀ vn vd W,NatV W vn (d*10^(e-n+1).toNat)->NatV W vd (10^(-(e-n+1)).toNat)->Calls Tryz.prog 28 #[.agg #[.bool false,vn,vd],.int .i64 sz] W fun x w'=>x=.returned (.tuple #[.int .u64 (X:Int),.bool (X==inf)])/\W.grownBy w' none):
  Calls Tryz.prog 36 #[.int .i64 sz,.int .u64 (bits:Int),v,.int .i64 e,.int .i64 n] w fun x w'=>x=.returned (.bool (decide (X=bits)))/\w.grownBy w' none:=by
 have HSC:=zH (fun W (hW:w.grownBy W none)=>jg v d 10 (e-n+1) W (hr.grown hW) (Nat.le_trans hd ze) zd zd zd zd);have HNE:=zH hne;have HRB:=zH hb;clear hne hr;generalize d*10^(e-n+1).toNat=A at *
 generalize 10^(-(e-n+1)).toNat=B at *
 obtain⟨o,ho⟩:=zX ((X==inf));simp only[ho]at HNE;have HO:=zH ho;clear ho hb;obtain⟨res,hres⟩:=zX (decide (X=bits));rw[hres];have HRS:=zH hres;clear hres;refine ye Tryz.func36 rfl (by rw[Tryz.ntmps36];simp) ?_;intro σ hσ;rw[Tryz.ntmps36];have s0:σ 0=.int .i64 sz:=hσ 0 zi;have s1:σ 1=.int .u64 (bits:Int):=hσ 1 zi;have s2:σ 2=v:=hσ 2 zi;have s3:σ 3=.int .i64 e:=hσ 3 zi;have s4:σ 4=.int .i64 n:=hσ 4 zi;clear hσ;have hw1:IntKind.i64.wrap (e-n)=e-n:=zr6 _ zd zd;have hw2:IntKind.i64.wrap (e-n+1)=e-n+1:=zr6 _ zd zd;(go_wp2_with fail;repeat ((first|refine cZ ?_|refine cW ?_);go_wp2_with fail));refine (HSC.out _ (yy w none)).mono ?_;rintro x9 w9 ⟨vn,vd,rfl,hvn,hvd,hg9⟩;(go_wp2_with fail;repeat ((first|refine cZ ?_|refine cW ?_);go_wp2_with fail));refine (HNE.out _ _ _ hvn hvd).mono ?_;rintro x10 w10 ⟨rfl,hg10⟩;have HG2:=zH (ya hg9 hg10);clear HSC HNE hvn hvd hg9 hg10;cases o
 ·by_cases hx:X=bits
  ·have e:res=true:=by rw[<-HRS.out,hx];simp
   subst e hx;clear HO HRS;(go_wp2_with fail;repeat ((first|refine cZ ?_|refine cW ?_);go_wp2_with fail));exact yl (.bool true) rfl ze zb ⟨rfl,HG2.out⟩
  ·have e:res=false:=by rw[<-HRS.out];simpa using hx
   subst e;have f4:((X:Int)==(bits:Int))=false:=zf;clear hx HO HRS;(go_wp2_with fail;repeat ((first|refine cZ ?_|refine cW ?_);go_wp2_with fail));exact yl (.bool false) rfl ze zb ⟨rfl,HG2.out⟩
 ·have hx:X≠bits:=by
   have h1:=HO.out;have h2:=HRB.out;simp at h1;omega
  have e:res=false:=by rw[<-HRS.out];simpa using hx
  subst e;clear hx HO HRS;(go_wp2_with fail;repeat ((first|refine cZ ?_|refine cW ?_);go_wp2_with fail));exact yl (.bool false) rfl ze zb ⟨rfl,HG2.out⟩
end
section
attribute [local go_sem] undef
theorem yw8 (rd:Nat->Int->Bool) (a b:Nat) (E:Int) (n:Nat):yv0 rd a b E n=(decide (0<yvf a b ((n:Int)-1-E))&&rd (yvf a b ((n:Int)-1-E)) (E-n+1)):=rfl
theorem yw9 (rd:Nat->Int->Bool) (a b:Nat) (E:Int) (n:Nat):yv1 rd a b E n=(decide (0<yvd a b ((n:Int)-1-E))&&rd (yvf a b ((n:Int)-1-E)+1) (E-n+1)):=rfl
theorem yvu {P:Program} {fn:Func} {R:Ending->World->Prop} {n:Nat} {env:List (Nat×Value)} {s:Nat->Value} {w:World} {t u p q:Nat} (v x y z:Value) (hr:fn.results=#[.tmp t,.tmp u,.tmp p,.tmp q]) (ht:t<n) (hu:u<n) (hp:p<n) (hq:q<n) (hv:over env s t=v) (hx:over env s u=x) (hy:over env s p=y) (hz:over env s q=z) (hR:R (.returned (.tuple #[v,x,y,z])) w):bodyPost P fn R .ret (Fr n env s) w:=by
 refine bodyPost_ret (v:=.tuple #[v,x,y,z]) ?_ (vz ..) hR;have:(results fn (Fr n env s).tmps).run P w=.ok (.tuple #[(Fr n env s).tmps.getD t undef,(Fr n env s).tmps.getD u undef,(Fr n env s).tmps.getD p undef,(Fr n env s).tmps.getD q undef]) w:=by simp[results,hr]
 rw[this,wa n env s t ht,wa n env s u hu,wa n env s p hp,wa n env s q hq,hv,hx,hy,hz]
theorem ywv {x y K:Nat} (hy:(yf y).length<=K) (h:x<=y):(yf x).length<=K:=
 yv (Nat.lt_of_le_of_lt h (Nat.lt_of_lt_of_le (wu y) (Nat.pow_le_pow_right zd hy)))
theorem yun (a:Nat):(yf a).length=0↔a=0:=⟨fun h=>by by_cases h0:a=0;exact h0;exact absurd (List.length_eq_zero_iff.1 h) (qn h0),fun h=>zγz⟩
theorem yu5:(yf 1).length<=1:=yv zd
set_option maxRecDepth 100000 in
theorem yur (sz bits:Int) (vn vd:Value) (a b:Nat) (rd:Nat->Int->Bool) (w:World) (hn:NatV w vn a) (hd:NatV w vd b) (ha:a≠0) (hb:b≠0) (hla:(yf a).length<=100) (hlb:(yf b).length<=100)
  (hord:-1000<=ym6 a b/\ym6 a b<=1000)
  (hrd:∀ (V:Value) (d n:Nat) W,NatV W V d->d<=a*10^((n:Int)-1-ym6 a b).toNat+1->1<=n->n<=17->Calls Tryz.prog 36 #[.int .i64 sz,.int .u64 bits,V,.int .i64 (ym6 a b),.int .i64 (n:Int)] W fun x w'=>x=.returned (.bool (rd d (ym6 a b-n+1)))/\W.grownBy w' none):
  Calls Tryz.prog 15 #[.int .i64 sz,.int .u64 bits,.agg #[.bool false,vn,vd]] w fun x w'=>∃ (V:Value) (near n:Nat) (tie:Bool),x=.returned (.tuple #[V,.int .i64 (n:Int),.int .i64 (ym6 a b),.bool tie])/\NatV w' V near/\jj rd a b (ym6 a b) 16 1=(near,n,tie)/\w.grownBy w' none:=by
 have HRD:=zH hrd;have HOT:=zH (fun vn vd W (h1:NatV W vn a) (h2:NatV W vd b)=>yuv false vn vd a b W h1 h2 ha hb hla hlb);have HLA:=zH hla;have HLB:=zH hlb;have HB0:=zH (show 0<b by omega);clear hrd ha hb;generalize ym6 a b=E at *
 have hln:=fun (k:Int) (hk:k<=2000)=>yud a 2000 k hla hk zd
 have hld:=fun (k:Int) (hk:k<=2000)=>yud b 2000 k hlb hk zd
 have HLL0:=zH (fun (k:Int) (hk:k<=2000) x (h:x<=a*10^k.toNat)=>ywv (hln k hk) h);have HL20:=zH hld;have HTT:=zH (fun vn vd W (k:Int) (h1:NatV W vn a) (h2:NatV W vd b) (k1:-2000<=k) (k2:k<=2000)=>yuh false vn vd a b k W h1 h2 zd zd zd zd);have HDV:=zH (fun vn vd W (k:Int) (h1:NatV W vn (a*10^k.toNat)) (h2:NatV W vd (b*10^(-k).toNat)) (k1:-2000<=k) (k2:k<=2000)=>zl3 vn vd _ _ W h1 h2 (Nat.mul_pos HB0.out (p10 _)) (by have:=hln k k2;omega) (by have:=hld (-k) zd;omega));have HRES:=zH (show ∀ x,jj rd a b E 16 1=x->jj rd a b E 16 1=x from fun _ h=>h);have HO1:=zH hord;have ho1:=hord.1;have ho2:=hord.2;clear hln hld hla hlb hord;have HNA:=zH hn;have HND:=zH hd;obtain⟨an,cn,rfl⟩:=hn.len;obtain⟨ad,cd,rfl⟩:=hd.len;generalize (yf a).length=LN at *
 generalize (yf b).length=LD at *
 obtain⟨w1,hw1⟩:=zX (w.alloc (.cells #[.bool false,.slice an LN cn,.slice ad LD cd] 38));obtain⟨B,hB⟩:=zX w.heap.size;have hib:=InBlk.new w false (.slice an LN cn) (.slice ad LD cd) 38;rw[hw1,hB]at hib;have HIB:=zH hib;have HW1:=zH hw1;clear hib hw1 hn hd;refine ye Tryz.func15 rfl (by rw[Tryz.ntmps15];simp) ?_;intro σ hσ;rw[Tryz.ntmps15];have s0:σ 0=.int .i64 sz:=hσ 0 zi;have s1:σ 1=.int .u64 bits:=hσ 1 zi;have s2:σ 2=.agg #[.bool false,.slice an LN cn,.slice ad LD cd]:=hσ 2 zi;clear hσ;go_upto_region 1 with fail;rw[HW1.out];clear HW1 hB;have hcell0:∀ W,w1.grownBy W none->W.cell? ⟨B,0,none⟩=some (.bool false):=fun W h=>(HIB.out.row.grown h zi).cell 0
 have hcell1:∀ W,w1.grownBy W none->W.cell? ⟨B,1,none⟩=some (.slice an LN cn):=fun W h=>(HIB.out.row.grown h zi).cell 1
 have hcell2:∀ W,w1.grownBy W none->W.cell? ⟨B,2,none⟩=some (.slice ad LD cd):=fun W h=>(HIB.out.row.grown h zi).cell 2
 have HC0:=zH hcell0;have HC1:=zH hcell1;have HC2:=zH hcell2;clear hcell0 hcell1 hcell2;have c0:=HC0.out w1 (yy w1 none);have c1:=HC1.out w1 (yy w1 none);have c2:=HC2.out w1 (yy w1 none);(go_wp2_with fail;repeat ((first|refine cZ ?_|refine cW ?_);go_wp2_with fail));refine (HOT.out _ _ _ (HNA.out.grown HIB.out.grown) (HND.out.grown HIB.out.grown)).mono ?_;rintro x w2 ⟨rfl,hg2⟩;have HG2:=zH hg2;clear c0 c1 c2 hg2 HOT;(go_wp2_with fail;repeat ((first|refine cZ ?_|refine cW ?_);go_wp2_with fail));refine xx (fun kk s' w'=>∃ n:Nat,1<=n/\n<=17/\kk=17-n/\s' 0=.int .i64 sz/\s' 1=.int .u64 bits/\s' 5=.pointer (some ⟨B,0,none⟩)/\s' 7=.int .i64 (n:Int)/\s' 8=.int .i64 E/\w1.grownBy w' none/\jj rd a b E (17-n) n=jj rd a b E 16 1) 16
  ⟨1,zd,zd,rfl,zb,zb,zb,zb,zb,HG2.out,rfl⟩ ?_
 clear s0 s1 s2 σ HG2;rintro kk σ w3 ⟨n,hn1,hn2,hkk,s0,s1,s5,s7,s8,hg3,hns⟩ RK KK HRK hKK;have HKK:=zH hkk;have HNS:=zH hns;have HG3:=zH hg3;have c0:=HC0.out w3 hg3;have c1:=HC1.out w3 hg3;have c2:=HC2.out w3 hg3;clear hkk hns hg3;have hw1:IntKind.i64.wrap ((n:Int)-1)=(n:Int)-1:=zr6 _ zd zd;have hw2:IntKind.i64.wrap ((n:Int)-1-E)=(n:Int)-1-E:=zr6 _ zd zd;(go_wp2_with fail;repeat ((first|refine cZ ?_|refine cW ?_);go_wp2_with fail));refine (HTT.out _ _ _ _ (HNA.out.grown (ya HIB.out.grown HG3.out)) (HND.out.grown (ya HIB.out.grown HG3.out)) zd zd).mono ?_;rintro x w4 ⟨v4,rfl,hv4,hg4⟩;obtain⟨n4,d4,rfl,hn4,hd4⟩:=hv4;obtain⟨a4,k4,rfl⟩:=hn4.len;obtain⟨b4,l4,rfl⟩:=hd4.len;obtain⟨LN4,hLN4⟩:=zX ((yf (a*10^((n:Int)-1-E).toNat)).length);obtain⟨LD4,hLD4⟩:=zX ((yf (b*10^(-((n:Int)-1-E)).toNat)).length);rw[hLN4]at hn4;rw[hLD4]at hd4;simp only[hLN4,hLD4];have HN4:=zH hn4;have HD4:=zH hd4;have HG4:=zH (ya HG3.out hg4);clear hn4 hd4 hg4 c0 c1 c2;have HT:=zH (show 0<b*10^(-((n:Int)-1-E)).toNat from Nat.mul_pos HB0.out (p10 _));have HLL:=zH (fun x (h:x<=a*10^((n:Int)-1-E).toNat)=>HLL0.out ((n:Int)-1-E) zd x h);have HL2:=zH (HL20.out (-((n:Int)-1-E)) zd);go_upto_region 5 with fail;obtain⟨w5,hw5⟩:∃ w',World.alloc w4 (.cells #[.bool false,.slice a4 LN4 k4,.slice b4 LD4 l4] 38)=w':=⟨_,rfl⟩;obtain⟨D,hD⟩:=zX ((World.heap w4).size);have hib:=InBlk.new w4 false (.slice a4 LN4 k4) (.slice b4 LD4 l4) 38;rw[hw5,hD]at hib;rw[hw5,hD];have HID:=zH hib;have c0:=hib.row.cell 0;have c1:=hib.row.cell 1;have c2:=hib.row.cell 2;simp only[List.getElem?_cons_zero,List.getElem?_cons_succ]at c0 c1 c2;have HN5:=zH (show NatV w5 (.slice a4 LN4 k4) (a*10^((n:Int)-1-E).toNat) from HN4.out.grown hib.grown);have HD5:=zH (show NatV w5 (.slice b4 LD4 l4) (b*10^(-((n:Int)-1-E)).toNat) from HD4.out.grown hib.grown);have HG5:=zH (ya HG4.out hib.grown);clear hib hw5 hD HN4 HD4 HG4;(go_wp2_with fail;repeat ((first|refine cZ ?_|refine cW ?_);go_wp2_with fail));refine (HDV.out _ _ _ _ HN5.out HD5.out zd zd).mono ?_;rintro x w6 ⟨vq,vr,rfl,hq,hr,hg6⟩;have hq2:NatV w6 vq (yvf a b ((n:Int)-1-E)):=hq;have hr2:NatV w6 vr (yvd a b ((n:Int)-1-E)):=hr;have hqb:yvf a b ((n:Int)-1-E)<=a*10^((n:Int)-1-E).toNat:=Nat.div_le_self _ _;have hrb:yvd a b ((n:Int)-1-E)<=a*10^((n:Int)-1-E).toNat:=Nat.mod_le _ _;have hqe:=HLL.out _ hqb;have hre:=HLL.out _ hrb;have hbel:=yw8 rd a b E n;have habo:=yw9 rd a b E n;obtain⟨L,hL⟩:=zX (yvf a b ((n:Int)-1-E));obtain⟨R,hR⟩:=zX (yvd a b ((n:Int)-1-E));rw[hL]at hq2 hqb hqe hbel habo;rw[hR]at hr2 hrb hre habo;have HL:=zH hL;have HR:=zH hR;have HQ6:=zH hq2;have HR6:=zH hr2;have HRB:=zH (fun (V:Value) (d:Nat) W (h1:NatV W V d) (h2:d<=a*10^((n:Int)-1-E).toNat+1)=>HRD.out V d n W h1 h2 hn1 hn2);have HQB:=zH hqb;have HG6:=zH (ya HG5.out hg6);have HD6:=zH (HD5.out.grown hg6);have HBL:=zH hbel;have HAB:=zH habo;have HIG:=zH hg6;clear hq hr hq2 hr2 hbel habo hL hR hqb hrb hg6 c0 c1 c2 HDV HTT;obtain⟨aq,kq,rfl⟩:=HQ6.out.len;obtain⟨ar,kr,rfl⟩:=HR6.out.len;have HNQ:=zH (show (yf L).length=0↔L=0 from yun L);have HNR:=zH (show (yf R).length=0↔R=0 from yun R);obtain⟨LQ,hLQ⟩:=zX ((yf L).length);obtain⟨LR,hLR⟩:=zX ((yf R).length);rw[hLQ]at HQ6 HNQ hqe;rw[hLR]at HR6 HNR hre;simp only[hLQ,hLR];have HLQ:=zH hLQ;have HLR:=zH hLR;clear hLQ hLR;(go_wp2_with fail;repeat ((first|refine cZ ?_|refine cW ?_);go_wp2_with fail));refine (ww 1 _ zd).mono ?_;rintro x w7 ⟨v7,rfl,hv7,hg7⟩;have HV7:=zH hv7;have HG7:=zH hg7;clear hv7 hg7;(go_wp2_with fail;repeat ((first|refine cZ ?_|refine cW ?_);go_wp2_with fail));refine (zbe _ _ L 1 _ (HQ6.out.grown HG7.out) HV7.out (by rw[HLQ.out];omega) (by have:=yu5;omega)).mono ?_;rintro x w8 ⟨v8,rfl,hv8,hg8⟩;have HV8:=zH hv8;have HG8:=zH (ya HG7.out hg8);clear hv8 hg8 HG7 HV7;obtain⟨bel,hbel⟩:=zX (yv0 rd a b E n);obtain⟨abo,habo⟩:=zX (yv1 rd a b E n);have HB1:=HBL.out;have HA1:=HAB.out;rw[hbel]at HB1;rw[habo]at HA1;have HBE:=zH hbel;have HAE:=zH habo;have HLR2:=zH hre;replace HBL:=zH HB1;replace HAB:=zH HA1;clear HB1 HA1 hbel habo hqe hre hw1 hw2;go_upto_region 7 with fail;refine yr (fun s' w'=>s' 0=.int .i64 sz/\s' 1=.int .u64 bits/\s' 5=.pointer (some ⟨B,0,none⟩)/\s' 7=.int .i64 (n:Int)/\s' 8=.int .i64 E/\s' 10=.pointer (some ⟨D,0,none⟩)/\s' 11=.slice aq LQ kq/\s' 12=.slice ar LR kr/\s' 13=v8/\s' 14=.bool bel/\w8.grownBy w' none) ?_ ?_
 ·intro R' K' HRR hK';by_cases hz:LQ=0
  ·have hb0:bel=false:=by rw[HBL.out,HNQ.out.1 hz];rfl
   subst hb0;have hzz:=zH hz;subst hz;(go_wp2_with fail;repeat ((first|refine cZ ?_|refine cW ?_);go_wp2_with fail));exact got HRR ⟨zb,zb,zb,zb,zb,zb,zb,zb,zb,zb,yy w8 none⟩
  ·have f1:decide (0<LQ)=true:=by rw[decide_eq_true_eq];omega
   have f2:0<LQ:=zd;have hb0:bel=rd L (E-n+1):=by rw[HBL.out,decide_eq_true (show 0<L by have:=HNQ.out;omega),Bool.true_and]
   have HB0':=zH hb0;clear hz hb0;(go_wp2_with fail;repeat ((first|refine cZ ?_|refine cW ?_);go_wp2_with fail));refine (HRB.out _ L _ (HQ6.out.grown HG8.out) (by have:=HQB.out;omega)).mono ?_;rintro x w9 ⟨rfl,hg9⟩;rw[<-HB0'.out];have HG9:=zH hg9;clear hg9;(go_wp2_with fail;repeat ((first|refine cZ ?_|refine cW ?_);go_wp2_with fail));exact got HRR ⟨zb,zb,zb,zb,zb,zb,zb,zb,zb,zb,HG9.out⟩
 clear s0 s1 s5 s7 s8 σ;rintro σ w9 ⟨s0,s1,s5,s7,s8,s10,s11,s12,s13,s14,hg9⟩;have HG9:=zH (ya HG8.out hg9);have HV9:=zH (HV8.out.grown hg9);clear hg9 HV8 HG8;go_upto_region 8 with fail;refine yr (fun s' w'=>s' 0=.int .i64 sz/\s' 1=.int .u64 bits/\s' 5=.pointer (some ⟨B,0,none⟩)/\s' 7=.int .i64 (n:Int)/\s' 8=.int .i64 E/\s' 10=.pointer (some ⟨D,0,none⟩)/\s' 11=.slice aq LQ kq/\s' 12=.slice ar LR kr/\s' 13=v8 /\   s' 14=.bool bel/\s' 15=.bool abo/\w9.grownBy w' none) ?_ ?_
 ·intro R' K' HRR hK';by_cases hz:LR=0
  ·have hb0:abo=false:=by rw[HAB.out,HNR.out.1 hz];rfl
   subst hb0;subst hz;(go_wp2_with fail;repeat ((first|refine cZ ?_|refine cW ?_);go_wp2_with fail));exact got HRR ⟨zb,zb,zb,zb,zb,zb,zb,zb,zb,zb,zb,yy w9 none⟩
  ·have f1:decide (0<LR)=true:=by rw[decide_eq_true_eq];omega
   have f2:0<LR:=zd;have hb0:abo=rd (L+1) (E-n+1):=by rw[HAB.out,decide_eq_true (show 0<R by have:=HNR.out;omega),Bool.true_and]
   have HB0':=zH hb0;clear hz hb0;(go_wp2_with fail;repeat ((first|refine cZ ?_|refine cW ?_);go_wp2_with fail));refine (HRB.out _ (L+1) _ HV9.out (by have:=HQB.out;omega)).mono ?_;rintro x wA ⟨rfl,hgA⟩;rw[<-HB0'.out];have HGA:=zH hgA;clear hgA;(go_wp2_with fail;repeat ((first|refine cZ ?_|refine cW ?_);go_wp2_with fail));exact got HRR ⟨zb,zb,zb,zb,zb,zb,zb,zb,zb,zb,zb,HGA.out⟩
 clear s0 s1 s5 s7 s8 s10 s11 s12 s13 s14 σ HRB;rintro σ wA ⟨s0,s1,s5,s7,s8,s10,s11,s12,s13,s14,s15,hgA⟩;have HGA:=zH (ya HG9.out hgA);have HVA:=zH (HV9.out.grown hgA);have HQA:=zH (HQ6.out.grown HGA.out);have HRA:=zH (HR6.out.grown HGA.out);have HDA:=zH (HD6.out.grown HGA.out);have HWA:=zH (ya HG6.out HGA.out);have HCD:=zH (fun W (h:wA.grownBy W none)=>(HID.out.row.grown (ya HIG.out (ya HGA.out h)) zi).cell 2);clear hgA HV9 HG9;obtain⟨κ,hκ⟩:=zX (ko (R*2^1) (b*10^(-((n:Int)-1-E)).toNat));have HSH:=zH (fun W (h:wA.grownBy W none)=>qe _ R 1 W (HRA.out.grown h) (by have:=HLR.out;have:=HLR2.out;omega) zd);have HCM:=zH (fun V W (h:wA.grownBy W none) (hv:NatV W V (R*2^1))=>qy V _ _ _ W hv (HDA.out.grown h) (by have:=zab R 20000 1 (by have:=HLR.out;have:=HLR2.out;omega);omega) (by have:=HL2.out;omega));simp only[hκ]at HCM;have HKA:=zH hκ;clear hκ;go_upto_region 10 with fail;refine yr (fun s' w'=>s' 0=.int .i64 sz/\s' 1=.int .u64 bits/\s' 5=.pointer (some ⟨B,0,none⟩)/\s' 7=.int .i64 (n:Int)/\s' 8=.int .i64 E/\s' 10=.pointer (some ⟨D,0,none⟩)/\s' 11=.slice aq LQ kq/\s' 12=.slice ar LR kr/\s' 13=v8 /\  s' 14=.bool bel/\s' 15=.bool abo/\s' 6=.slice aq LQ kq/\s' 72=.bool (abo&&(!bel || decide (0<κ)))/\wA.grownBy w' none) ?_ ?_
 ·intro R' K' HRR hK';refine wp_region_noPanic ?_;refine wp_region_held_drew (S:=fun W=>wA.grownBy W none) zg (yh wA 1 none) (fun hHeld=>?_);cases abo
  ·(refine yg 0 60 ?_;refine yg 1 61 ?_);(refine ybt 2 62 ?_;refine ybt 3 63 ?_;refine ybt 4 64 ?_;refine ybt 5 65 ?_;refine ybt 7 67 ?_;refine ybt 8 68 ?_;refine ybt 6 66 ?_;refine ybt 9 69 ?_;refine ybt 10 70 ?_;refine ybt 11 71 ?_);(refine yg 12 72 ?_);refine wpAnyH_done zg ?_ _;refine NoPanic.normal ?_;exact hK' _ _ _ (got HRR ⟨zb,zb,zb,zb,zb,zb,zb,zb,zb,zb,zb,zb,zb,hHeld⟩)
  ·cases bel
   ·(refine yg 0 60 ?_;refine yg 1 61 ?_;refine yg 2 62 ?_;refine yg 3 63 ?_;refine yg 4 64 ?_);(refine ybt 5 65 ?_;refine ybt 7 67 ?_;refine ybt 8 68 ?_;refine ybt 6 66 ?_;refine ybt 9 69 ?_;refine ybt 10 70 ?_);(refine yg 11 71 ?_;refine yg 12 72 ?_);refine wpAnyH_done zg ?_ _;refine NoPanic.normal ?_;exact hK' _ _ _ (got HRR ⟨zb,zb,zb,zb,zb,zb,zb,zb,zb,zb,zb,zb,zb,hHeld⟩)
   ·(refine yg 0 60 ?_;refine yg 1 61 ?_;refine yg 2 62 ?_;refine yg 3 63 ?_;refine yg 4 64 ?_;refine yg 5 65 ?_);(refine yg 7 67 ?_);(refine xg 8 68 (oi:=?_) (v:=?_) ?_ ?_ zg zg zg (fun _ _ _ _ _ h=>h) ?_ zq ?_ ?_;rotate_left 2;(focus ((simp only[List.getElem?_toArray,List.getElem?_cons_succ,List.getElem?_cons_zero]);rfl));(focus rfl);(focus (first | rfl | (simp only[Region.wanted,yielded,List.getElem?_toArray,List.getElem?_cons_succ,List.getElem?_cons_zero,Option.bind_some,Option.map_some,Fr_get?,yc,yd];rfl) | go_simp));(focus (intro W hS;have hc:=HCD.out W hS;go_simp;try with_reducible rfl)));(refine zO 6 ?_;intro K hK;go_simp;(refine (HSH.out _ hHeld).mono ?_;rintro x9 wB ⟨vB,rfl,hvB,hgB⟩);go_wp2_with fail;replace hHeld:=ya hHeld hgB;refine hK.out _ _ hHeld ?_;clear hK K);(refine zO 9 ?_;intro K hK;go_simp;(refine (HCM.out _ _ hHeld hvB).mono ?_;rintro x10 wC ⟨rfl,hgC⟩);go_wp2_with fail;replace hHeld:=ya hHeld hgC;refine hK.out _ _ hHeld ?_;clear hK K);(refine yg 10 70 ?_;refine yg 11 71 ?_;refine yg 12 72 ?_);refine wpAnyH_done zg ?_ _;refine NoPanic.normal ?_;exact hK' _ _ _ (got HRR ⟨zb,zb,zb,zb,zb,zb,zb,zb,zb,zb,zb,zb,zb,hHeld⟩)
 clear s0 s1 s5 s7 s8 s10 s11 s12 s13 s14 s15 σ;rintro σ wB ⟨s0,s1,s5,s7,s8,s10,s11,s12,s13,s14,s15,s6,s72,hgB⟩;have HGB:=zH hgB;have HWB:=zH (ya HWA.out hgB);clear hgB;obtain⟨res,hres⟩:=zX ((abo&&(!bel || decide (0<κ))));rw[hres]at s72;have hpk:yuq rd a b E n=if res then L+1 else L:=by
  have h1:=HKA.out;have h2:=HL.out;have h3:=HR.out;have h4:=HBE.out;have h5:=HAE.out;have e:decide (yu3 b ((n:Int)-1-E)<2*R)=decide (0<κ):=by
   rw[<-h1];unfold yu3 ko;rw[Nat.pow_one,decide_eq_decide];generalize b*10^(-((n:Int)-1-E)).toNat=den;split
   ·omega
   ·split <;> omega
  unfold yuq;rw[h2,h3,h4,h5,e,hres]
 have htie:yws rd a b E n=(bel&&abo&&decide (κ=0)):=by
  have h1:=HKA.out;have h3:=HR.out;have h4:=HBE.out;have h5:=HAE.out;have e:decide (2*R=yu3 b ((n:Int)-1-E))=decide (κ=0):=by
   rw[<-h1];unfold yu3 ko;rw[Nat.pow_one,decide_eq_decide];generalize b*10^(-((n:Int)-1-E)).toNat=den;split
   ·omega
   ·split <;> omega
  unfold yws;rw[h3,h4,h5,e]
 have hfin:(bel || abo)=true\/n=17->jj rd a b E 16 1=(yuq rd a b E n,n,yws rd a b E n):=by
  intro h;rw[<-HNS.out];have h4:=HBE.out;have h5:=HAE.out;by_cases h17:n=17
  ·rw[show 17-n=0 by omega];rfl
  ·obtain⟨k,hk⟩:∃ k,17-n=k+1:=⟨16-n,zd⟩;rw[hk];show (if yv0 rd a b E n || yv1 rd a b E n then _ else _)=_;rw[h4,h5,if_pos (by rcases h with h | h;exact h;exact absurd h h17)]
 have hnext:(bel || abo)=false->n≠17->jj rd a b E (17-(n+1)) (n+1)=jj rd a b E 16 1:=by
  intro h h17;rw[<-HNS.out];have h4:=HBE.out;have h5:=HAE.out;obtain⟨k,hk⟩:∃ k,17-n=k+1:=⟨16-n,zd⟩;rw[hk,show 17-(n+1)=k by omega];show _=(if yv0 rd a b E n || yv1 rd a b E n then _ else _);rw[h4,h5,if_neg (by rw[h];simp)]
 rw[hpk,htie]at hfin;have FIN:=zH hfin;have NXT:=zH hnext;clear hres hpk htie hfin hnext;obtain⟨V6,hV6⟩:=zX ((if res then v8 else .slice aq LQ kq));have HV6:Hid (NatV wB V6 (if res then L+1 else L)):=by
  subst hV6;cases res
  ·exact HQA.out.grown HGB.out
  ·exact HVA.out.grown HGB.out
 go_wp2_with fail;refine yr (fun s' w'=>s' 0=.int .i64 sz/\s' 1=.int .u64 bits/\s' 5=.pointer (some ⟨B,0,none⟩)/\s' 7=.int .i64 (n:Int)/\s' 8=.int .i64 E/\s' 10=.pointer (some ⟨D,0,none⟩)/\s' 12=.slice ar LR kr/\s' 14=.bool bel/\s' 15=.bool abo/\s' 6=V6/\wB=w') ?_ ?_
 ·intro R' K' HRR hK';cases res
  ·subst hV6;(go_wp2_with fail;repeat ((first|refine cZ ?_|refine cW ?_);go_wp2_with fail));exact got HRR ⟨zb,zb,zb,zb,zb,zb,zb,zb,zb,zb,rfl⟩
  ·subst hV6;(go_wp2_with fail;repeat ((first|refine cZ ?_|refine cW ?_);go_wp2_with fail));exact got HRR ⟨zb,zb,zb,zb,zb,zb,zb,zb,zb,zb,rfl⟩
 clear s0 s1 s5 s7 s8 s10 s11 s12 s13 s14 s15 s6 s72 σ hV6;rintro σ wB' ⟨s0,s1,s5,s7,s8,s10,s12,s14,s15,s6,rfl⟩;cases bel
 ·cases abo
  ·by_cases h17:n=17
   ·have FIN2:=FIN;subst h17;(go_wp2_with fail;repeat ((first|refine cZ ?_|refine cW ?_);go_wp2_with fail));refine wp_region_noPanic ?_;refine wp_region_held_drew (S:=fun W=>wB.grownBy W none) zg (yh wB 1 none) (fun hHeld=>?_);(refine yg 0 82 ?_;refine yg 1 83 ?_;refine yg 2 84 ?_;refine yg 3 85 ?_;refine yg 4 86 ?_);(refine ybt 5 87 ?_);(refine yg 6 88 ?_;refine yg 7 89 ?_);(refine ybt 8 90 ?_;refine ybt 10 92 ?_;refine ybt 11 93 ?_;refine ybt 9 91 ?_;refine ybt 12 94 ?_;refine ybt 13 95 ?_);(refine yg 14 96 ?_;refine yg 15 6 ?_;refine yg 16 7 ?_;refine yg 17 8 ?_;refine yg 18 9 ?_);refine wpAnyH_done zg ?_ _;refine NoPanic.normal ?_;(go_wp2_with fail;repeat ((first|refine cZ ?_|refine cW ?_);go_wp2_with fail));exact yvu V6 (.int .i64 (17:Int)) (.int .i64 E) (.bool false) rfl ze ze ze ze zb zb zb zb ⟨V6,_,17,_,rfl,HV6.out.grown hHeld,FIN.out (Or.inr (by trivial)),ya HIB.out.grown (ya HWB.out hHeld)⟩
   ·have f1:((n:Int)==17)=false:=zf;have f2:(n==17)=false:=zf;have hw3:IntKind.i64.wrap ((n:Int)+1)=(n:Int)+1:=zr6 _ zd zd;have NX:=zH (NXT.out rfl h17);clear NXT;(go_wp2_with fail;repeat ((first|refine cZ ?_|refine cW ?_);go_wp2_with fail));exact wo HRK (17-(n+1)) (by have:=HKK.out;omega) ⟨n+1,zd,zd,rfl,zb,zb,zb,zb,zb,HWB.out,NX.out⟩
  ·skip;(go_wp2_with fail;repeat ((first|refine cZ ?_|refine cW ?_);go_wp2_with fail));refine wp_region_noPanic ?_;refine wp_region_held_drew (S:=fun W=>wB.grownBy W none) zg (yh wB 1 none) (fun hHeld=>?_);(refine yg 0 82 ?_;refine yg 1 83 ?_;refine yg 2 84 ?_;refine yg 3 85 ?_;refine yg 4 86 ?_);(refine ybt 5 87 ?_);(refine yg 6 88 ?_;refine yg 7 89 ?_);(refine ybt 8 90 ?_;refine ybt 10 92 ?_;refine ybt 11 93 ?_;refine ybt 9 91 ?_;refine ybt 12 94 ?_;refine ybt 13 95 ?_);(refine yg 14 96 ?_;refine yg 15 6 ?_;refine yg 16 7 ?_;refine yg 17 8 ?_;refine yg 18 9 ?_);refine wpAnyH_done zg ?_ _;refine NoPanic.normal ?_;(go_wp2_with fail;repeat ((first|refine cZ ?_|refine cW ?_);go_wp2_with fail));exact yvu V6 (.int .i64 (n:Int)) (.int .i64 E) (.bool false) rfl ze ze ze ze zb zb zb zb ⟨V6,_,n,_,rfl,HV6.out.grown hHeld,FIN.out (Or.inl rfl),ya HIB.out.grown (ya HWB.out hHeld)⟩
 ·cases abo
  ·skip;(go_wp2_with fail;repeat ((first|refine cZ ?_|refine cW ?_);go_wp2_with fail));refine wp_region_noPanic ?_;refine wp_region_held_drew (S:=fun W=>wB.grownBy W none) zg (yh wB 1 none) (fun hHeld=>?_);(refine yg 0 82 ?_;refine yg 1 83 ?_;refine yg 2 84 ?_;refine yg 3 85 ?_;refine yg 4 86 ?_;refine yg 5 87 ?_;refine yg 6 88 ?_;refine yg 7 89 ?_);(refine ybt 8 90 ?_;refine ybt 10 92 ?_;refine ybt 11 93 ?_;refine ybt 9 91 ?_;refine ybt 12 94 ?_;refine ybt 13 95 ?_);(refine yg 14 96 ?_;refine yg 15 6 ?_;refine yg 16 7 ?_;refine yg 17 8 ?_;refine yg 18 9 ?_);refine wpAnyH_done zg ?_ _;refine NoPanic.normal ?_;(go_wp2_with fail;repeat ((first|refine cZ ?_|refine cW ?_);go_wp2_with fail));exact yvu V6 (.int .i64 (n:Int)) (.int .i64 E) (.bool false) rfl ze ze ze ze zb zb zb zb ⟨V6,_,n,_,rfl,HV6.out.grown hHeld,FIN.out (Or.inl rfl),ya HIB.out.grown (ya HWB.out hHeld)⟩
  ·skip;(go_wp2_with fail;repeat ((first|refine cZ ?_|refine cW ?_);go_wp2_with fail));refine wp_region_noPanic ?_;refine wp_region_held_drew (S:=fun W=>wB.grownBy W none) zg (yh wB 1 none) (fun hHeld=>?_);(refine yg 0 82 ?_;refine yg 1 83 ?_;refine yg 2 84 ?_;refine yg 3 85 ?_;refine yg 4 86 ?_;refine yg 5 87 ?_;refine yg 6 88 ?_;refine yg 7 89 ?_;refine yg 8 90 ?_);(refine yg 10 92 ?_);(refine xg 11 93 (oi:=?_) (v:=?_) ?_ ?_ zg zg zg (fun _ _ _ _ _ h=>h) ?_ zq ?_ ?_;rotate_left 2;(focus ((simp only[List.getElem?_toArray,List.getElem?_cons_succ,List.getElem?_cons_zero]);rfl));(focus rfl);(focus (first | rfl | (simp only[Region.wanted,yielded,List.getElem?_toArray,List.getElem?_cons_succ,List.getElem?_cons_zero,Option.bind_some,Option.map_some,Fr_get?,yc,yd];rfl) | go_simp));(focus (intro W hS;have hc:=HCD.out W (ya HGB.out hS);go_simp;try with_reducible rfl)));(refine zO 9 ?_;intro K hK;go_simp;(refine (HSH.out _ (ya HGB.out hHeld)).mono ?_;rintro x9 wC ⟨vC,rfl,hvC,hgC⟩);go_wp2_with fail;replace hHeld:=ya hHeld hgC;refine hK.out _ _ hHeld ?_;clear hK K);(refine zO 12 ?_;intro K hK;go_simp;(refine (HCM.out _ _ (ya HGB.out hHeld) hvC).mono ?_;rintro x10 wE ⟨rfl,hgE⟩);go_wp2_with fail;replace hHeld:=ya hHeld hgE;refine hK.out _ _ hHeld ?_;clear hK K);(refine yg 13 95 ?_;refine yg 14 96 ?_;refine yg 15 6 ?_;refine yg 16 7 ?_;refine yg 17 8 ?_;refine yg 18 9 ?_);refine wpAnyH_done zg ?_ _;refine NoPanic.normal ?_;(go_wp2_with fail;repeat ((first|refine cZ ?_|refine cW ?_);go_wp2_with fail));exact yvu V6 (.int .i64 (n:Int)) (.int .i64 E) (.bool (κ==0)) rfl ze ze ze ze zb zb zb zb ⟨V6,_,n,_,rfl,HV6.out.grown hHeld,FIN.out (Or.inl rfl),ya HIB.out.grown (ya HWB.out hHeld)⟩
end
section
attribute [local go_sem] undef
theorem yv4 (s:List UInt8) (n:Nat):(⟨s.toArray⟩:ByteArray).extract 0 n=⟨(s.take n).toArray⟩:=by
 apply ByteArray.ext;simp[ByteArray.data_extract]
end
def yu4 (a b near k:Nat):List UInt8×Int:=if a=0 then ([48],0) else yvy (ym6 a b) near k
theorem yw3 (a b n:Nat) (ha:a≠0) (hb:b≠0) (hn:1<=n):yvf a b ((n:Int)-1-ym6 a b)<10^n:=by
 have h:=(yk1 a b ha hb).2;rw[yj8 (k:=ym6 a b+1) (j:=(n:Int)-1-ym6 a b) (n:=n) zd]at h;exact (Nat.div_lt_iff_lt_mul (Nat.mul_pos zd (p10 _))).2 zd
theorem yvw (rd:Nat->Int->Bool) (a b:Nat) (ha:a≠0) (hb:b≠0):∀ (k n near m:Nat) (t:Bool),1<=n->jj rd a b (ym6 a b) k n=(near,m,t)->n<=m/\m<=n+k/\near<=10^m:=by
 have hp:∀ n:Nat,1<=n->yuq rd a b (ym6 a b) n<=10^n:=by
  intro n hn;have:=yw3 a b n ha hb hn;unfold yuq;split <;> omega
 intro k;induction k with
 | zero=>intro n near m t hn h;rw[jj]at h;cases h;exact⟨zd,zd,hp n hn⟩
 | succ k ih=>
  intro n near m t hn h;rw[jj]at h;split at h
  ·cases h;exact⟨zd,zd,hp n hn⟩
  ·obtain⟨h1,h2,h3⟩:=ih (n+1) near m t zd h;exact⟨zd,zd,h3⟩
theorem yvv {near m:Nat} (hm:m<=17) (h:near<=10^m):(yf near).length<=10/\(ycg near).length<=18/\1<=(ycg near).length:=by
 have h1:10^m<=10^17:=Nat.pow_le_pow_right zd hm;refine⟨yv zd,?_,?_⟩
 ·by_cases h0:near=0
  ·subst h0;show [48].length<=_;simp
  ·rw[yuf near h0];exact ym7 zd
 ·by_cases h0:near=0
  ·subst h0;show _<=[48].length;simp
  ·rw[yuf near h0];exact yfr h0
section
attribute [local go_sem] undef
set_option maxRecDepth 100000 in
theorem yui (size:Int) (n q sg near k:Nat) (tie:Bool) (a b:Nat) (w:World) (hk1:1<=k) (hk2:k<=17) (hnl:(yf near).length<=10) (hdl:(ycg near).length<=18) (hord:-1000<=ym6 a b/\ym6 a b<=1000)
  (hS:∀ W,Calls Tryz.prog 13 #[.int .i64 size] W fun e w'=>e=.returned (.int .u64 (sg:Int))/\W=w')
  (hand:bits .andNot .u64 (n:Int) (sg:Int)=(q:Int))
  (hV:∀ W,Calls Tryz.prog 14 #[.int .i64 size,.int .u64 (q:Int)] W fun x w'=>∃ vn vd,x=.returned (.tuple #[.agg #[.bool false,vn,vd],.bool true])/\NatV w' vn a/\NatV w' vd b/\W.grownBy w' none)
  (hN:a≠0->∀ vn vd W,NatV W vn a->NatV W vd b->Calls Tryz.prog 15 #[.int .i64 size,.int .u64 (q:Int),.agg #[.bool false,vn,vd]] W fun x w'=>∃ V,x=.returned (.tuple #[V,.int .i64 (k:Int),.int .i64 (ym6 a b),.bool tie])/\NatV w' V near/\W.grownBy w' none):
  Calls Tryz.prog 78 #[.int .i64 size,.int .u64 (n:Int)] w fun e w'=>e=.returned (.tuple #[.string ⟨(yu4 a b near k).1.toArray⟩,.int .i64 (yu4 a b near k).2])/\w.grownBy w' none:=by
 have HS:=zH hS;have HV:=zH hV;have HN:=zH hN;have HNT:=zH (fun V W (h:NatV W V near)=>yc0 V near W h zd);obtain⟨res,hres⟩:=zX (yu4 a b near k);have HRES:=zH (hres.symm.trans (show yu4 a b near k=if a=0 then ([48],0) else if k<(ycg near).length then ((ycg near).take k,ym6 a b+1) else (ycg near,ym6 a b) from rfl));rw[hres];have HNL:=zH (show (yf a).length=0↔a=0 from yun a);obtain⟨E,hE⟩:=zX (ym6 a b);rw[hE]at HN HRES hord;obtain⟨hE1,hE2⟩:=hord;have hsl:=yv4 (ycg near) k;have y1:(⟨(ycg near).toArray⟩:ByteArray).size=(ycg near).length:=zm;generalize ycg near=tx at *
 obtain⟨T,hT⟩:=zX tx.length;rw[hT]at y1 hdl HRES;clear hres hV hS hN hE hT hnl;refine ye Tryz.func78 rfl (by rw[Tryz.ntmps78];simp) ?_;intro σ hσ;rw[Tryz.ntmps78];have s0:σ 0=.int .i64 size:=hσ 0 zi;have s1:σ 1=.int .u64 (n:Int):=hσ 1 zi;clear hσ;(go_wp2_with fail;repeat ((first|refine cZ ?_|refine cW ?_);go_wp2_with fail));refine (HS.out _).mono ?_;rintro e w1 ⟨rfl,rfl⟩;(go_wp2_with fail;repeat ((first|refine cZ ?_|refine cW ?_);go_wp2_with fail));refine (HV.out _).mono ?_;rintro e w2 ⟨vn,vd,rfl,hvn,hvd,hg2⟩;obtain⟨an,cn,rfl⟩:=hvn.len;obtain⟨ad,cd,rfl⟩:=hvd.len;obtain⟨LN,hLN⟩:=zX ((yf a).length);rw[hLN]at hvn HNL;simp only[hLN];generalize (yf b).length=LD at *
 obtain⟨w3,hw3⟩:∃ w',World.alloc w2 (.cells #[.bool false,.slice an LN cn,.slice ad LD cd] 38)=w':=⟨_,rfl⟩;obtain⟨B,hB⟩:=zX ((World.heap w2).size);have hib:=InBlk.new w2 false (.slice an LN cn) (.slice ad LD cd) 38;rw[hw3,hB]at hib;have HIB:=zH hib;have HVN:=zH (hvn.grown hib.grown);have HVD:=zH (hvd.grown hib.grown);have HG3:=zH (ya hg2 hib.grown);have HW3:=zH hw3;have HB:=zH hB;clear hvn hvd hg2 hib hw3 hB hLN;go_upto_region 3 with fail;rw[HW3.out,HB.out];clear HW3;have c0:=HIB.out.row.cell 0;have c1:=HIB.out.row.cell 1;have c2:=HIB.out.row.cell 2;simp only[List.getElem?_cons_zero,List.getElem?_cons_succ]at c0 c1 c2;by_cases h0:LN=0
 ·have ha0:a=0:=HNL.out.1 h0;subst h0;have hr2:res=([48],0):=by rw[HRES.out,if_pos ha0]
  have HR2:=zH hr2;clear hr2;(go_wp2_with fail;repeat ((first|refine cZ ?_|refine cW ?_);go_wp2_with fail));exact xc (.string ⟨([48]:List UInt8).toArray⟩) (.int .i64 0) rfl ze ze zb zb ⟨by rw[HR2.out],HG3.out⟩
 ·have ha0:a≠0:=fun h=>h0 (HNL.out.2 h)
  have f1:((LN:Int)==0)=false:=zf;have f2:(LN==0)=false:=zf;have hr2:res=if k<T then (tx.take k,E+1) else (tx,E):=by rw[HRES.out,if_neg ha0]
  have HR2:=zH hr2;have HA0:=zH ha0;clear hr2 ha0;(go_wp2_with fail;repeat ((first|refine cZ ?_|refine cW ?_);go_wp2_with fail));refine (HN.out HA0.out _ _ _ HVN.out HVD.out).mono ?_;rintro e w4 ⟨V,rfl,hv4,hg4⟩;have HV4:=zH hv4;have HG4:=zH (ya HG3.out hg4);clear hv4 hg4 c0 c1 c2;(go_wp2_with fail;repeat ((first|refine cZ ?_|refine cW ?_);go_wp2_with fail));refine (HNT.out _ _ HV4.out).mono ?_;rintro e w5 ⟨rfl,hg5⟩;have HG5:=zH (ya HG4.out hg5);clear hg5;by_cases hc:k<T
  ·have g1:(k:Int)<(T:Int):=zd;have hres2:res=(tx.take k,E+1):=by rw[HR2.out,if_pos hc]
   have HRS:=zH hres2;clear hres2 hc;(go_wp2_with fail;repeat ((first|refine cZ ?_|refine cW ?_);go_wp2_with fail));exact xc (.string ⟨(tx.take k).toArray⟩) (.int .i64 (E+1)) rfl ze ze zb zb ⟨by rw[HRS.out],HG5.out⟩
  ·have g1:decide ((k:Int)<(T:Int))=false:=zh;have g2:decide (k<T)=false:=zh;have hres2:res=(tx,E):=by rw[HR2.out,if_neg hc]
   have HRS:=zH hres2;clear hres2 hc;(go_wp2_with fail;repeat ((first|refine cZ ?_|refine cW ?_);go_wp2_with fail));exact xc (.string ⟨tx.toArray⟩) (.int .i64 E) rfl ze ze zb zb ⟨by rw[HRS.out],HG5.out⟩
set_option maxRecDepth 100000 in
theorem yuj (size:Int) (n q sg near k:Nat) (tie:Bool) (a b:Nat) (E:Int) (w:World)
  (hS:∀ W,Calls Tryz.prog 13 #[.int .i64 size] W fun e w'=>e=.returned (.int .u64 (sg:Int))/\W=w')
  (hand:bits .andNot .u64 (n:Int) (sg:Int)=(q:Int))
  (hV:∀ W,Calls Tryz.prog 14 #[.int .i64 size,.int .u64 (q:Int)] W fun x w'=>∃ vn vd,x=.returned (.tuple #[.agg #[.bool false,vn,vd],.bool true])/\NatV w' vn a/\NatV w' vd b/\W.grownBy w' none)
  (hN:a≠0->∀ vn vd W,NatV W vn a->NatV W vd b->Calls Tryz.prog 15 #[.int .i64 size,.int .u64 (q:Int),.agg #[.bool false,vn,vd]] W fun x w'=>∃ V,x=.returned (.tuple #[V,.int .i64 (k:Int),.int .i64 E,.bool tie])/\NatV w' V near/\W.grownBy w' none):
  Calls Tryz.prog 5 #[.int .i64 size,.int .u64 (n:Int)] w fun e w'=>e=.returned (.bool (decide (a≠0)&&tie))/\w.grownBy w' none:=by
 have HS:=zH hS;have HV:=zH hV;have HN:=zH hN;obtain⟨res,hres⟩:=zX ((decide (a≠0)&&tie));have HRES:=zH hres;rw[hres];have HNL:=zH (show (yf a).length=0↔a=0 from yun a);clear hres hV hS hN;refine ye Tryz.func5 rfl (by rw[Tryz.ntmps5];simp) ?_;intro σ hσ;rw[Tryz.ntmps5];have s0:σ 0=.int .i64 size:=hσ 0 zi;have s1:σ 1=.int .u64 (n:Int):=hσ 1 zi;clear hσ;(go_wp2_with fail;repeat ((first|refine cZ ?_|refine cW ?_);go_wp2_with fail));refine (HS.out _).mono ?_;rintro e w1 ⟨rfl,rfl⟩;(go_wp2_with fail;repeat ((first|refine cZ ?_|refine cW ?_);go_wp2_with fail));refine (HV.out _).mono ?_;rintro e w2 ⟨vn,vd,rfl,hvn,hvd,hg2⟩;obtain⟨an,cn,rfl⟩:=hvn.len;obtain⟨ad,cd,rfl⟩:=hvd.len;obtain⟨LN,hLN⟩:=zX ((yf a).length);rw[hLN]at hvn HNL;simp only[hLN];generalize (yf b).length=LD at *
 obtain⟨w3,hw3⟩:∃ w',World.alloc w2 (.cells #[.bool false,.slice an LN cn,.slice ad LD cd] 38)=w':=⟨_,rfl⟩;obtain⟨B,hB⟩:=zX ((World.heap w2).size);have hib:=InBlk.new w2 false (.slice an LN cn) (.slice ad LD cd) 38;rw[hw3,hB]at hib;have HIB:=zH hib;have HVN:=zH (hvn.grown hib.grown);have HVD:=zH (hvd.grown hib.grown);have HG3:=zH (ya hg2 hib.grown);have HW3:=zH hw3;have HB:=zH hB;clear hvn hvd hg2 hib hw3 hB hLN;go_upto_region 3 with fail;rw[HW3.out,HB.out];clear HW3;have c0:=HIB.out.row.cell 0;have c1:=HIB.out.row.cell 1;have c2:=HIB.out.row.cell 2;simp only[List.getElem?_cons_zero,List.getElem?_cons_succ]at c0 c1 c2;by_cases h0:LN=0
 ·have ha0:a=0:=HNL.out.1 h0;subst h0;have hr2:res=false:=by rw[<-HRES.out,decide_eq_false (by simpa using ha0)];rfl
  subst hr2;(go_wp2_with fail;repeat ((first|refine cZ ?_|refine cW ?_);go_wp2_with fail));exact yl (.bool false) rfl ze zb ⟨rfl,HG3.out⟩
 ·have ha0:a≠0:=fun h=>h0 (HNL.out.2 h)
  have f1:((LN:Int)==0)=false:=zf;have f2:(LN==0)=false:=zf;have hr2:res=tie:=by rw[<-HRES.out,decide_eq_true ha0,Bool.true_and]
  subst hr2;have HA0:=zH ha0;clear ha0;(go_wp2_with fail;repeat ((first|refine cZ ?_|refine cW ?_);go_wp2_with fail));refine (HN.out HA0.out _ _ _ HVN.out HVD.out).mono ?_;rintro e w4 ⟨V,rfl,hv4,hg4⟩;have HV4:=zH hv4;have HG4:=zH (ya HG3.out hg4);clear hv4 hg4 c0 c1 c2;(go_wp2_with fail;repeat ((first|refine cZ ?_|refine cW ?_);go_wp2_with fail));exact yl (.bool res) rfl ze zb ⟨rfl,HG4.out⟩
end
theorem yuu (n:Int) (w:World) (h1:-100000<=n) (h2:n<=100000):
  Calls Tryz.prog 77 #[.int .i64 n] w fun e w'=>e=.returned (.string ⟨(List.replicate n.toNat (48:UInt8)).toArray⟩)/\w.grownBy w' none:=by
 by_cases h:0<=n
 ·obtain⟨k,rfl⟩:∃ k:Nat,n=(k:Int):=⟨n.toNat,zd⟩;exact yu2 k w zd
 ·have h0:n.toNat=0:=zd;rw[h0];refine ye Tryz.func77 rfl (by rw[Tryz.ntmps77];simp) ?_;intro σ hσ;rw[Tryz.ntmps77];have s0:σ 0=.int .i64 n:=hσ 0 zi;clear hσ;have hown0:OwnB w.heap.size (w.alloc (Obj.cells #[] 5)) (.slice (some ⟨w.heap.size,0,none⟩) 0 0) []:=by
   refine⟨⟨w.heap.size,[],rfl,Row.new w [] _,zγB⟩,fun k hk=>?_⟩;simp[Value.ownBlock]at hk;omega
  have HOWN:=zH hown0;have hcv:=zk5 hown0;have hd:decide (0<n)=false:=zh;clear hown0 h0;(go_wp2_with fail;repeat ((first|refine cZ ?_|refine cW ?_);go_wp2_with fail));refine xx (fun kk s' w'=>kk=0/\s' 0=.int .i64 n/\s' 3=.slice (some ⟨w.heap.size,0,none⟩) 0 0/\w'=w.alloc (Obj.cells #[] 5)) 0
   ⟨rfl,zb,zb,rfl⟩ ?_
  clear s0 σ;rintro kk σ wk ⟨_,s0,s3,rfl⟩ RK KK HRK hKK;(go_wp2_with fail;repeat ((first|refine cZ ?_|refine cW ?_);go_wp2_with fail));exact yl _ rfl ze zb ⟨rfl,World.grownBy_alloc w _ none⟩
def erK (k:Nat):Value:=if k=0 then .nilIface else if k=1 then .iface 105 (.int .i64 2) else .iface 105 (.int .i64 1)
theorem zus (b:Bool):erV b=erK (if b=true then 2 else 0):=by cases b <;> rfl
def spB (F:Nat) (bias:Int) (inf:Nat) (t:Txt):Nat:=spN F bias inf t.base t.digits t.exp
def PaQ64 (s:List UInt8) (v k:Nat):Prop:=match ul s with
 | none=>v=0/\k=1
 | some t=>(t.kind=2->(9218868437227405312<v%9223372036854775808/\v<18446744073709551616)/\k=0)/\(t.kind=1->v=kp t.neg/\k=0)/\
  (t.kind=0->v=sgB t.neg+spB 52 1023 9218868437227405312 t/\k=if spB 52 1023 9218868437227405312 t=9218868437227405312 then 2 else 0)
theorem zib (s:List UInt8):
  (xf s=[110,97,110]->ul s=some ⟨2,false,0,[],0⟩)/\
  (xf s≠[110,97,110]->((sgn (xf s)).2=[105,110,102]\/(sgn (xf s)).2=[105,110,102,105,110,105,116,121])->ul s=some ⟨1,(sgn (xf s)).1,0,[],0⟩)/\
  (xf s≠[110,97,110]->¬((sgn (xf s)).2=[105,110,102]\/(sgn (xf s)).2=[105,110,102,105,110,105,116,121])->ul s=(zau s).map spT):=by
 rw[zqo];refine⟨fun h=>by rw[if_pos h],fun h h2=>by rw[if_neg h,if_pos h2],fun h h2=>by rw[if_neg h,if_neg h2]⟩
theorem zco (s:List UInt8) (P:Prop)
  (h1:qp s=some (zmd,s.length)->ul s=some ⟨2,false,0,[],0⟩->P)
  (h2:∀ ng,qp s=some (kp ng,s.length)->ul s=some ⟨1,ng,0,[],0⟩->P)
  (h3:(qp s=none\/∃ v n,qp s=some (v,n)/\n≠s.length/\zau s=none)->ul s=(zau s).map spT->P):P:=by
 obtain⟨a1,a2,a3⟩:=zvo s;obtain⟨b1,b2,b3⟩:=zib s;by_cases hn:xf s=[110,97,110]
 ·exact h1 (a1 hn) (b1 hn)
 ·by_cases hi:(sgn (xf s)).2=[105,110,102]\/(sgn (xf s)).2=[105,110,102,105,110,105,116,121]
  ·exact h2 _ (a2 hn hi) (b2 hn hi)
  ·exact h3 (a3 hn hi) (b3 hn hi)
theorem zto (F:Nat) (bias:Int) (inf:Nat) {s:List UInt8} {L:Lit} (h:zau s=some L) (hs:s.length<=1000) (hb1:1<=bias) (hb2:bias<=1023) (hF1:1<=F) (hF2:bias+F<=1075):spB F bias inf (spT L)=nvL F bias inf L:=by
 obtain⟨h1,h2,h3,-⟩:=zfk h;exact sp_eq F bias inf L h1 h3 zd hb1 hb2 hF1 hF2
theorem zql {s:List UInt8} {R:RR} (h:rfP s=some R):(R.n=s.length->∃ L,zau s=some L/\zau (s.take R.n)=some L)/\(R.n≠s.length->zau s=none):=by
 obtain⟨h1,L,hL,hR⟩:=zsf h;constructor
 ·intro e;have:s.take R.n=s:=by rw[e,List.take_length]
  exact⟨L,by rw[<-this];exact hL,hL⟩
 ·intro hne;cases hl:zau s with
  | none=>rfl
  | some L'=>
   have:=zm9 hl;rw[h]at this;cases this;exact absurd rfl hne
theorem zq7 {s:List UInt8} (h:rfP s=none):zau s=none:=by
 cases hl:zau s with
 | none=>rfl
 | some L=>rw[zm9 hl]at h;cases h
theorem PaQ64.bad {s:List UInt8} (h:ul s=none):PaQ64 s 0 1:=by unfold PaQ64;rw[h];exact⟨rfl,rfl⟩
section
theorem zxm (k:FloatKind) (b:Nat):Op.unary .neg (.float k b)=pure (.float k (Op.negFloat k b)):=rfl
def zkr (fmt:Ieee.Format) (x v:Nat):Bool:=match fmt.read x with | .number false n j=>decide (n≠0/\n*2^j.toNat=v*2^(-j).toNat) | _=>false
theorem zpm {fmt:Ieee.Format} {x v:Nat} (h:zkr fmt x v=true):RdV fmt x false v:=by
 unfold zkr at h;split at h
 ·rename_i n j e;have:=of_decide_eq_true h;exact⟨n,j,e,this.1,this.2⟩
 ·cases h
theorem zpl:∀ i,i<23->zkr Ieee.double (zso i) (10^i)=true:=by
 have h:(List.range 23).all (fun i=>zkr Ieee.double (zso i) (10^i))=true:=zp;intro i hi;exact (List.all_eq_true.1 h) i (List.mem_range.2 hi)
theorem zzu:∀ i,i<11->zkr Ieee.single (yad i) (10^i)=true:=by
 have h:(List.range 11).all (fun i=>zkr Ieee.single (yad i) (10^i))=true:=zp;intro i hi;exact (List.all_eq_true.1 h) i (List.mem_range.2 hi)
theorem wv (neg:Bool) (r:Nat):Ieee.double.word neg r=sgB neg+r:=by
 cases neg
 ·show r=0+r;omega
 ·rfl
theorem zxr (neg:Bool) (r:Nat):Ieee.single.word neg r=sgC neg+r:=by
 cases neg
 ·show r=0+r;omega
 ·rfl
theorem zs0 (k r:Nat) (h:r<2^k):r ^^^ 2^k=2^k+r:=by
 apply Nat.eq_of_testBit_eq;intro i;rw[Nat.testBit_xor,Nat.testBit_two_pow];by_cases hi:k=i
 ·subst hi;rw[Nat.testBit_two_pow_add_eq,Nat.testBit_lt_two_pow h];simp
 ·rcases Nat.lt_or_gt_of_ne hi with h1 | h1
  ·have e:2^k+r<2^i:=by
    have:2^(k+1)<=2^i:=Nat.pow_le_pow_right zd h1;rw[Nat.pow_succ]at this;omega
   rw[Nat.testBit_lt_two_pow e,Nat.testBit_lt_two_pow (Nat.lt_of_lt_of_le h (Nat.pow_le_pow_right zd zd))];simp[hi]
  ·rw[Nat.testBit_two_pow_add_gt h1];simp[hi]
theorem neg64 (r:Nat) (h:r<9223372036854775808):Op.negFloat .f64 r=sgB true+r:=by
 show r ^^^ 2^63=_;rw[zs0 63 r h];rfl
theorem neg32 (r:Nat) (h:r<2147483648):Op.negFloat .f32 r=sgC true+r:=by
 show r ^^^ 2^31=_;rw[zs0 31 r h];rfl
def RdO (fmt:Ieee.Format) (y:Nat) (t:Bool) (u:Nat):Prop:=∃ n j,fmt.read y=.number t n j/\j<=0/\n*2^j.toNat=u*2^(-j).toNat
theorem c15p:RdO Ieee.double 4831355200913801216 false (10^15):=⟨8000000000000000,-3,zp,ze,zp⟩
theorem c15n:RdO Ieee.double 14054727237768577024 true (10^15):=⟨8000000000000000,-3,zp,ze,zp⟩
theorem c7p:RdO Ieee.single 1259902592 false (10^7):=⟨10000000,0,zp,ze,zp⟩
theorem c7n:RdO Ieee.single 3407386240 true (10^7):=⟨10000000,0,zp,ze,zp⟩
theorem zv4 {fmt:Ieee.Format} {x y v u:Nat} {s:Bool} (hx:RdV fmt x s v) (hy:RdO fmt y false u) (hu:u≠0):(fmt.order x y==some Ordering.gt)=(!s&&decide (u<v)):=by
 rw[RdV.order hx hy];cases s
 ·simp only[Bool.false_eq_true,if_false,Bool.not_false,Bool.true_and];by_cases h:u<v
  ·rw[decide_eq_true h,Int.compare_eq_gt.2 zd];rfl
  ·rw[decide_eq_false h];rcases Nat.lt_or_ge v u with h1 | h1
   ·rw[Int.compare_eq_lt.2 zd];rfl
   ·rw[Int.compare_eq_eq.2 zd];rfl
 ·simp only[if_true,Bool.not_true,Bool.false_and,Bool.false_eq_true,if_false];rw[Int.compare_eq_lt.2 zd];rfl
theorem zv3 {fmt:Ieee.Format} {x y v u:Nat} {s:Bool} (hx:RdV fmt x s v) (hy:RdO fmt y true u) (hu:u≠0):(fmt.order x y==some Ordering.lt)=(s&&decide (u<v)):=by
 rw[RdV.order hx hy];cases s
 ·simp only[Bool.false_eq_true,if_false,Bool.false_and,if_true];rw[Int.compare_eq_gt.2 zd];rfl
 ·simp only[if_true,Bool.true_and];by_cases h:u<v
  ·rw[decide_eq_true h,Int.compare_eq_lt.2 zd];rfl
  ·rw[decide_eq_false h];rcases Nat.lt_or_ge v u with h1 | h1
   ·rw[Int.compare_eq_gt.2 zd];rfl
   ·rw[Int.compare_eq_eq.2 zd];rfl
section
variable {fmt : Ieee.Format} {f : Nat} {bias : Int} {inf : Nat}
theorem zt0 (h:FmtOK fmt f bias inf) (neg:Bool) (d u yp yn:Nat) (h0:d≠0) (hd:d<2^bias.toNat) (hu:u≠0) (hul:u<2^(f+1)) (hp:RdO fmt yp false u) (hn:RdO fmt yn true u):
  ((fmt.order (fmt.word neg (xh f bias inf d 1)) yp==some Ordering.gt) || (fmt.order (fmt.word neg (xh f bias inf d 1)) yn==some Ordering.lt))=decide (u<d):=by
 have key:∃ v,RdV fmt (fmt.word neg (xh f bias inf d 1)) neg v/\(u<v↔u<d):=by
  rcases Nat.lt_or_ge d (2^(f+1)) with h1 | h1
  ·exact⟨d,RdV.small h neg d h0 h1,Iff.rfl⟩
  ·obtain⟨v,hv,hv2⟩:=RdV.large h neg d h1 hd;exact⟨v,hv,⟨fun _=>zd,fun _=>zd⟩⟩
 obtain⟨v,hv,hiff⟩:=key;rw[zv4 hv hp hu,zv3 hv hn hu];cases neg <;> simp[hiff]
end
end
end Go.Proofs.YtgfjdeddghbjcaaGreatDoor
