/- Lemmas that the claim's top text leans on. No condition of their own. -/
import Derived.Test.YtgfjdeddghbjcaaGreatDoorK20
namespace Go.Proofs.YtgfjdeddghbjcaaGreatDoor
open Go.RowKit
set_option linter.unusedSimpArgs false
set_option linter.unusedVariables false
set_option maxHeartbeats 16000000
section
attribute [local go_sem] undef
def zma (n:Nat):Nat:=xd (vN (m32 n) (e32 n)) (vD (e32 n))+if 2147483648<=n then 9223372036854775808 else 0
set_option maxRecDepth 100000 in
theorem zkw (n:Nat) (hn:n<4294967296) (hfin:n%2147483648<2139095040) (w:World):
  Calls Tryz.prog 11 #[.int .u32 (n:Int)] w fun e w'=>e=.returned (.int .u64 ((zma n:Nat):Int))/\w.grownBy w' none:=by
 have hx:=zsr n hfin;have hm:=zsl n;obtain⟨g,hg,hgn⟩:∃ g:Nat,(g=0\/g=9223372036854775808)/\g=if 2147483648<=n then 9223372036854775808 else 0:=by
  by_cases h:2147483648<=n
  ·exact⟨_,Or.inr rfl,by rw[if_pos h]⟩
  ·exact⟨_,Or.inl rfl,by rw[if_neg h]⟩
 obtain⟨N,hN,h1,h2,h3,h4⟩:=zgd (m32 n) (e32 n) g hm zd zd hg;have hw:zma n=N:=by unfold zma;rw[<-hgn];exact hN
 rw[hw];clear hw;have hk:kn 2139095040 2147483648 n=0:=zis rfl hfin;have hK:=fun W=>za8 n W hn
 rw[hk]at hK;have HK:=zH hK;have HI:=zH (fun W=>jw n W hn);have HS:=zH wm;have HV:=zH (fun W=>zev n (m32 n) (e32 n) W hn hk (zv8 n) (zwp n));obtain⟨v1,v2⟩:=yal (m32 n) (e32 n) (Nat.lt_of_lt_of_le hm ze) zd zd;have HNE:=zH (fun vn vd W (h1:NatV W vn (vN (m32 n) (e32 n))) (h2:NatV W vd (vD (e32 n)))=>zah false vn vd _ _ W h1 h2 (Nat.ne_of_gt (zjf _)) zd zd);have HNN:=zH (show xd (vN (m32 n) (e32 n)) (vD (e32 n))+g=N from hN);have HGN:=zH hgn;obtain⟨M,hM⟩:=zX (xd (vN (m32 n) (e32 n)) (vD (e32 n)));simp only[hM]at HNE HNN;have hM2:M<18446744073709551616:=by have:=HNN.out;omega
 have HV':=zH (show ∀ W,Calls Tryz.prog 14 #[.int .i64 32,.int .u64 (n:Int)] W fun x w'=>∃ vn vd,x=.returned (.tuple #[.agg #[.bool (decide (2147483648<=n)),vn,vd],.bool true])/\NatV w' vn (vN (m32 n) (e32 n))/\NatV w' vd (vD (e32 n))/\W.grownBy w' none from HV.out);generalize vN (m32 n) (e32 n)=a at *
 generalize vD (e32 n)=b at *
 have hN64:=h1;clear HV hM hN hK hk h1 h2 h3 h4 hgn v1 v2;refine ye Tryz.func11 rfl (by rw[Tryz.ntmps11];simp) ?_;intro σ hσ;rw[Tryz.ntmps11];have s0:σ 0=.int .u32 (n:Int):=hσ 0 zi;clear hσ;(go_wp2_with fail;repeat ((first|refine cZ ?_|refine cW ?_);go_wp2_with fail));refine (HI.out _).mono ?_;rintro e w7 ⟨rfl,rfl⟩;go_wp2_with fail;refine yr (fun s' w'=>s' 0=.int .u32 (n:Int)/\s' 3=.int .u64 (g:Int)/\w=w') ?_ ?_
 ·intro R' K' HR hK';by_cases hs:2147483648<=n
  ·have e:g=9223372036854775808:=by rw[HGN.out,if_pos hs]
   subst e;have f1:decide (2147483648<=n)=true:=by simpa using hs
   clear hs;(go_wp2_with fail;repeat ((first|refine cZ ?_|refine cW ?_);go_wp2_with fail));refine (HS.out _).mono ?_;rintro e w7 ⟨rfl,rfl⟩;(go_wp2_with fail;repeat ((first|refine cZ ?_|refine cW ?_);go_wp2_with fail));exact got HR ⟨zb,zj,rfl⟩
  ·have e:g=0:=by rw[HGN.out,if_neg hs]
   subst e;have f1:decide (2147483648<=n)=false:=by simpa using hs
   clear hs;(go_wp2_with fail;repeat ((first|refine cZ ?_|refine cW ?_);go_wp2_with fail));exact got HR ⟨zb,zj,rfl⟩
 clear s0 σ HI HS;rintro σ w' ⟨s0,s3,rfl⟩;(go_wp2_with fail;repeat ((first|refine cZ ?_|refine cW ?_);go_wp2_with fail));refine (HK.out _).mono ?_;rintro e w7 ⟨rfl,rfl⟩;(go_wp2_with fail;repeat ((first|refine cZ ?_|refine cW ?_);go_wp2_with fail));refine (HV'.out _).mono ?_;rintro e w2 ⟨vn,vd,rfl,hvn,hvd,hg2⟩;generalize decide (2147483648<=n)=neg at *
 obtain⟨an,cn,rfl⟩:=hvn.len;obtain⟨ad,cd,rfl⟩:=hvd.len;generalize (yf a).length=LN at *
 generalize (yf b).length=LD at *
 obtain⟨w3,hw3⟩:∃ w',World.alloc w2 (.cells #[.bool neg,.slice an LN cn,.slice ad LD cd] 38)=w':=⟨_,rfl⟩;obtain⟨B,hB⟩:=zX ((World.heap w2).size);have hib:=InBlk.new w2 neg (.slice an LN cn) (.slice ad LD cd) 38;rw[hw3,hB]at hib;have HIB:=zH hib;have HVN:=zH (hvn.grown hib.grown);have HVD:=zH (hvd.grown hib.grown);have HG3:=zH (ya hg2 hib.grown);have HW3:=zH hw3;have HB:=zH hB;have HSZ:=zH hg2.size;clear hvn hvd hg2 hib hw3 hB;go_upto_region 10 with fail;rw[HW3.out,HB.out];clear HW3;have c0:=HIB.out.row.cell 0;have c1:=HIB.out.row.cell 1;have c2:=HIB.out.row.cell 2;have t0:=HIB.out.row.frozen 0;simp only[List.getElem?_cons_zero,List.getElem?_cons_succ]at c0 c1 c2;go_upto_region 11 with fail;obtain⟨w4,hw4⟩:=zX (w3.setCell ⟨B,0,none⟩ (.bool false));have hr4:=HIB.out.row.setCell 0 (.bool false);simp only[List.set_cons_zero]at hr4;have hn4:=NatV.setB (u:=.bool false) (k:=0) HVN.out c0;have hd4:=NatV.setB (u:=.bool false) (k:=0) HVD.out c0;have hg4:=yb HG3.out (a:=⟨B,0,none⟩) (.bool false) (by show w.heap.size<=B;have:=HB.out;have:=HSZ.out;omega);rw[hw4]at hr4 hn4 hd4 hg4;rw[hw4];have HN4:=zH hn4;have HD4:=zH hd4;have HG4:=zH hg4;clear c0 c1 c2 t0 hn4 hd4 hg4 hw4;have c0:=hr4.cell 0;have c1:=hr4.cell 1;have c2:=hr4.cell 2;simp only[List.getElem?_cons_zero,List.getElem?_cons_succ]at c0 c1 c2;clear hr4;(go_wp2_with fail;repeat ((first|refine cZ ?_|refine cW ?_);go_wp2_with fail));refine (HNE.out _ _ _ HN4.out HD4.out).mono ?_;rintro e w5 ⟨rfl,hg5⟩;have HG5:=zH (ya HG4.out hg5);clear hg5 c0 c1 c2;simp only[Bool.false_eq_true,if_false,Nat.add_zero];have hwr:IntKind.u64.wrap (N:Int)=(N:Int):=zku N hN64;have hsum2:(g:Int)+(M:Int)=(N:Int):=by have:=HNN.out;omega
 (go_wp2_with fail;repeat ((first|refine cZ ?_|refine cW ?_);go_wp2_with fail));exact yl (.int .u64 (N:Int)) rfl ze zb ⟨rfl,HG5.out⟩
end
section
attribute [local go_sem] undef
def sgW (n:Nat):Nat:=if 2147483648<=n then 9223372036854775808 else 0
def zs5 (n:Nat):Nat:=if n%2147483648=2139095040 then 9218868437227405312 else 9223372036854775807
def zyo (n:Nat):Nat:=if n%2147483648<2139095040 then zma n else sgW n+zs5 n
set_option maxRecDepth 100000 in
theorem zkv (n:Nat) (hn:n<4294967296) (hfin:¬n%2147483648<2139095040) (w:World):
  Calls Tryz.prog 11 #[.int .u32 (n:Int)] w fun e w'=>e=.returned (.int .u64 ((sgW n+zs5 n:Nat):Int))/\w=w':=by
 obtain⟨g,hg,hgn⟩:∃ g:Nat,(g=0\/g=9223372036854775808)/\sgW n=g:=by
  by_cases h:2147483648<=n
  ·exact⟨_,Or.inr rfl,by unfold sgW;rw[if_pos h]⟩
  ·exact⟨_,Or.inl rfl,by unfold sgW;rw[if_neg h]⟩
 rw[hgn];have hK:=fun W=>za8 n W hn
 obtain⟨kd,hkd,hkk⟩:∃ kd:Int,kn 2139095040 2147483648 n=kd/\((kd=1/\zs5 n=9218868437227405312)\/(kd=2/\zs5 n=9223372036854775807)):=by
  by_cases h:n%2147483648=2139095040
  ·exact⟨1,zir rfl h,Or.inl ⟨rfl,by unfold zs5;rw[if_pos h]⟩⟩
  ·exact⟨2,zde rfl zd,Or.inr ⟨rfl,by unfold zs5;rw[if_neg h]⟩⟩
 rw[hkd]at hK;obtain⟨q,hq⟩:=zX (zs5 n);rw[hq]at hkk ⊢;have HK:=zH hK;have HI:=zH (fun W=>jw n W hn);have HS:=zH wm;have HF:=zH wy;have HGN:=zH hgn;clear hK hgn hkd hq hfin;refine ye Tryz.func11 rfl (by rw[Tryz.ntmps11];simp) ?_;intro σ hσ;rw[Tryz.ntmps11];have s0:σ 0=.int .u32 (n:Int):=hσ 0 zi;clear hσ;(go_wp2_with fail;repeat ((first|refine cZ ?_|refine cW ?_);go_wp2_with fail));refine (HI.out _).mono ?_;rintro e w7 ⟨rfl,rfl⟩;go_wp2_with fail;refine yr (fun s' w'=>s' 0=.int .u32 (n:Int)/\s' 3=.int .u64 (g:Int)/\w=w') ?_ ?_
 ·intro R' K' HR hK';by_cases hs:2147483648<=n
  ·have e:g=9223372036854775808:=by rw[<-HGN.out];unfold sgW;rw[if_pos hs]
   subst e;have f1:decide (2147483648<=n)=true:=by simpa using hs
   clear hs;(go_wp2_with fail;repeat ((first|refine cZ ?_|refine cW ?_);go_wp2_with fail));refine (HS.out _).mono ?_;rintro e w7 ⟨rfl,rfl⟩;(go_wp2_with fail;repeat ((first|refine cZ ?_|refine cW ?_);go_wp2_with fail));exact got HR ⟨zb,zj,rfl⟩
  ·have e:g=0:=by rw[<-HGN.out];unfold sgW;rw[if_neg hs]
   subst e;have f1:decide (2147483648<=n)=false:=by simpa using hs
   clear hs;(go_wp2_with fail;repeat ((first|refine cZ ?_|refine cW ?_);go_wp2_with fail));exact got HR ⟨zb,zj,rfl⟩
 clear s0 σ HI HGN;rintro σ w' ⟨s0,s3,rfl⟩;rcases hkk with⟨rfl,rfl⟩ | ⟨rfl,rfl⟩
 ·(go_wp2_with fail;repeat ((first|refine cZ ?_|refine cW ?_);go_wp2_with fail));refine (HK.out _).mono ?_;rintro e w7 ⟨rfl,rfl⟩;(go_wp2_with fail;repeat ((first|refine cZ ?_|refine cW ?_);go_wp2_with fail));refine (HF.out _).mono ?_;rintro e w7 ⟨rfl,rfl⟩;have hwr:IntKind.u64.wrap ((g:Int)+9218868437227405312)=((g+9218868437227405312:Nat):Int):=by rcases hg with rfl | rfl <;> decide
  (go_wp2_with fail;repeat ((first|refine cZ ?_|refine cW ?_);go_wp2_with fail));exact yl (.int .u64 ((g+9218868437227405312:Nat):Int)) rfl ze zb ⟨rfl,rfl⟩
 ·(go_wp2_with fail;repeat ((first|refine cZ ?_|refine cW ?_);go_wp2_with fail));refine (HK.out _).mono ?_;rintro e w7 ⟨rfl,rfl⟩;(go_wp2_with fail;repeat ((first|refine cZ ?_|refine cW ?_);go_wp2_with fail));refine (HS.out _).mono ?_;rintro e w7 ⟨rfl,rfl⟩;obtain⟨y,hy,hy2⟩:∃ y,IntKind.u64.wrap ((g:Int)+9223372036854775808)=y/\IntKind.u64.wrap (y-1)=((g+9223372036854775807:Nat):Int):=by
   rcases hg with rfl | rfl
   ·exact⟨_,rfl,ze⟩
   ·exact⟨_,rfl,ze⟩
  (go_wp2_with fail;repeat ((first|refine cZ ?_|refine cW ?_);go_wp2_with fail));exact yl (.int .u64 ((g+9223372036854775807:Nat):Int)) rfl ze zb ⟨rfl,rfl⟩
theorem zkx (n:Nat) (hn:n<4294967296) (w:World):
  Calls Tryz.prog 11 #[.int .u32 (n:Int)] w fun e w'=>e=.returned (.int .u64 ((zyo n:Nat):Int))/\w.grownBy w' none:=by
 unfold zyo;by_cases h:n%2147483648<2139095040
 ·rw[if_pos h];exact zkw n hn h w
 ·rw[if_neg h];refine (zkv n hn h w).mono ?_;rintro e w1 ⟨rfl,rfl⟩;exact⟨rfl,World.grownBy.refl w none⟩
end
theorem yne (d:Nat) (h:d<16):dig 16 (ymk false d)=some d/\isD 16 (ymk false d)=true/\¬(65<=(ymk false d).toNat/\(ymk false d).toNat<=90):=by
 have:∀ d:Fin 16,dig 16 (ymk false d.val)=some d.val/\isD 16 (ymk false d.val)=true/\¬(65<=(ymk false d.val).toNat/\(ymk false d.val).toNat<=90):=ze;exact this ⟨d,h⟩
theorem ysb (A c:Nat):allD 16 (hxT false A c):=by
 induction c with
 | zero=>intro x hx;cases hx
 | succ c ih=>
  intro x hx;rw[hxT]at hx;rcases List.mem_cons.1 hx with h | h
  ·rw[h];exact (yne _ (Nat.mod_lt _ zd)).2.1
  ·exact ih x h
theorem ysa (A c:Nat):∀ x ∈ hxT false A c,¬(65<=x.toNat/\x.toNat<=90):=by
 induction c with
 | zero=>intro x hx;cases hx
 | succ c ih=>
  intro x hx;rw[hxT]at hx;rcases List.mem_cons.1 hx with h | h
  ·rw[h];exact (yne _ (Nat.mod_lt _ zd)).2.2
  ·exact ih x h
theorem yrc (A:Nat):∀ (c:Nat) (o:List Nat),o≠[]->jy 16 ((hxT false A c).foldl (vp 16) o)=jy 16 o*16^c+A%16^c/\((hxT false A c).foldl (vp 16) o).length=o.length+c:=by
 intro c;induction c with
 | zero=>intro o _;simp[hxT,Nat.mod_one]
 | succ c ih=>
  intro o ho;have hd:=(yne (A / 16^c%16) (Nat.mod_lt _ zd)).1;have hs:vp 16 o (ymk false (A / 16^c%16))=o++[A / 16^c%16]:=by unfold vp;rw[hd];dsimp only;rw[if_pos (Or.inr ho)]
  rw[hxT,List.foldl_cons,hs];obtain⟨h1,h2⟩:=ih (o++[A / 16^c%16]) zi;rw[h1,h2,yco,List.length_append,List.length_singleton];refine⟨?_,zd⟩;have h3:A%16^(c+1)=16^c*(A / 16^c%16)+A%16^c:=by rw[Nat.pow_succ,Nat.mod_mul];omega
  rw[h3,Nat.pow_succ,Nat.add_mul,Nat.mul_assoc,Nat.mul_comm 16,Nat.mul_comm (16^c) (A / 16^c%16)];omega
theorem yrh (e:Int) (h1:-9999<=e) (h2:e<=9999):∃ sg E,xExp e=sg::E/\okX (some (sg,E))/\xV (some (sg,E))=e:=by
 have key:∀ E:List UInt8,allD 10 E->E≠[]->zd5 E=e.natAbs->okX (some ((if e<0 then 45 else 43),E))/\xV (some ((if e<0 then 45 else 43),E))=e:=by
  intro E hE h0 hv;refine⟨⟨by split <;> simp,hE,h0⟩,?_⟩;dsimp only[xV];rw[yej E hE zd,hv];by_cases hn:e<0
  ·rw[if_pos hn,if_pos rfl];omega
  ·rw[if_neg hn,if_neg ze];omega
 have al:∀ ns:List Nat,(∀ n ∈ ns,n<=9)->allD 10 (ns.map fun n=>UInt8.ofNat (48+n)):=by
  intro ns h c hc;obtain⟨n,hn,rfl⟩:=List.mem_map.1 hc;exact (yeu n (h n hn)).1
 have vl:∀ n r,n<=9->zd5 (UInt8.ofNat (48+n)::r)=n*10^r.length+zd5 r:=by
  intro n r h;rw[zd5,(yeu n h).2,Nat.add_sub_cancel_left]
 unfold xExp;by_cases h100:e.natAbs<100
 ·rw[if_pos h100];refine⟨_,_,rfl,key _ (al [e.natAbs / 10,e.natAbs%10] zh) zi ?_⟩;rw[vl _ _ zd,vl _ _ zd];simp only[List.length_cons,List.length_nil,zd5];omega
 ·by_cases h1000:e.natAbs<1000
  ·rw[if_neg h100,if_pos h1000];refine⟨_,_,rfl,key _ (al [e.natAbs / 100,e.natAbs / 10%10,e.natAbs%10] zh) zi ?_⟩;rw[vl _ _ zd,vl _ _ zd,vl _ _ zd];simp only[List.length_cons,List.length_nil,zd5];omega
  ·rw[if_neg h100,if_neg h1000];refine⟨_,_,rfl,key _ (al [e.natAbs / 1000,e.natAbs / 100%10,e.natAbs / 10%10,e.natAbs%10] zh) zi ?_⟩;rw[vl _ _ zd,vl _ _ zd,vl _ _ zd,vl _ _ zd];simp only[List.length_cons,List.length_nil,zd5];omega
theorem ynr (neg:Bool) (a:UInt8) (P:Option (List UInt8)) (sg:UInt8) (E:List UInt8) (ha:isD 16 a=true) (hal:¬(65<=a.toNat/\a.toNat<=90)) (hF:allD 16 (pF P)) (hFl:∀ c ∈ pF P,¬(65<=c.toNat/\c.toNat<=90)) (hX:okX (some (sg,E))):
  ul (eSign neg++(48::120::(a::(pT P++xT 112 (some (sg,E))))))=some ⟨0,neg,16,dgL 16 (a::pF P),xV (some (sg,E))-((4*(pF P).length:Nat):Int)⟩:=by
 obtain⟨u,hu⟩:=zX (48::120::(a::(pT P++xT 112 (some (sg,E)))));rw[hu];have hlow:xf u=u:=by
  refine yc7 u (fun c hc=>?_);rw[<-hu]at hc;obtain⟨h1,h2,h3⟩:=hX;rcases List.mem_cons.1 hc with h | hc
  ·rw[h];decide
  rcases List.mem_cons.1 hc with h | hc
  ·rw[h];decide
  rcases List.mem_cons.1 hc with h | hc
  ·rw[h];exact hal
  rcases List.mem_append.1 hc with h | hc
  ·cases P with
   | none=>cases h
   | some F=>
    rcases List.mem_cons.1 h with h | h
    ·rw[h];decide
    ·exact hFl c h
  ·simp only[xT,List.mem_cons]at hc;rcases hc with h | h | h
   ·rw[h];decide
   ·rcases h1 with rfl | rfl <;> (rw[h];decide)
   ·have:=yde (h2 c h);omega
 have hne95:a≠95:=by
  intro e;rw[e]at ha;revert ha;decide
 have hh:zd4 u:=by rw[<-hu];exact⟨zi,rfl,rfl⟩
 have hun:¬zp5 u:=by rw[<-hu];rintro⟨_,h,_⟩;exact hne95 h
 have hb:wb u=16:=by unfold wb;rw[if_pos hh]
 have hf2:vy u=2:=by unfold vy;rw[if_pos hh,if_neg hun]
 have hp:zpy u=4:=by unfold zpy;rw[hb];rfl
 have hl:za2 u=112:=by unfold za2;rw[hb];rfl
 obtain⟨h1,h2⟩:=yns u [a] P (some (sg,E)) 112 (by rw[hf2,<-hu];rfl) hl zi (by rw[hb];intro c hc;rw[List.mem_singleton.1 hc];exact ha) (by rw[hb];exact hF) hX (by rw[hb];decide) ze ze (by rw[hb];decide) zi;rw[hp]at h1;rw[hb]at h2;have:=ydp neg u 48 _ hu.symm ze hlow _ h1;rw[this,hb,h2];rfl
theorem yqx (m:Nat) (hm0:m≠0):hxF m (ykj m (-1))*2^m.log2=m*2^(4*ykj m (-1))/\hxE m (ykj m (-1))=0/\2^(4*ykj m (-1))<=hxF m (ykj m (-1))/\hxF m (ykj m (-1))<2^(4*ykj m (-1)+1):=by
 have hlo:=Nat.log2_self_le hm0;have hhi:=@Nat.lt_log2_self m;have htz:=ypc m hm0;obtain⟨a,ha,ho⟩:=ym0 m hm0;have hc:ykj m (-1)=(m.log2-tz2 m+3) / 4:=by unfold ykj;rw[if_pos zd]
 obtain⟨c,hc'⟩:=zX (ykj m (-1));rw[hc']at hc ⊢;obtain⟨k,hk⟩:=zX m.log2;have hM:hxM m c*2^k=m*2^(4*c):=by
  unfold hxM;rw[hk];by_cases h:k<=4*c
  ·rw[if_pos h];unfold vi;rw[if_neg zd,Nat.div_one,Nat.mul_assoc,<-Nat.pow_add,show 4*c-k+k=4*c by omega]
  ·rw[if_neg h];have hdv:2^(k-4*c)∣m:=by rw[ha];exact Nat.dvd_trans (Nat.pow_dvd_pow 2 zd) (Nat.dvd_mul_right _ _)
   unfold vi;rw[Nat.mod_eq_zero_of_dvd hdv,if_neg (by have:=Nat.two_pow_pos (k-4*c);omega)];have:(2:Nat)^k=2^(k-4*c)*2^(4*c):=zαa;rw[this,<-Nat.mul_assoc,Nat.div_mul_cancel hdv]
 rw[hk]at hlo hhi ⊢;have h1:2^(4*c)<=hxM m c:=by
  refine Nat.le_of_mul_le_mul_right ?_ (Nat.two_pow_pos k);rw[hM,Nat.mul_comm];exact Nat.mul_le_mul_right _ hlo
 have h2:hxM m c<2^(4*c+1):=by
  refine Nat.lt_of_mul_lt_mul_right (a:=2^k) ?_;rw[hM,Nat.pow_succ,Nat.mul_assoc,Nat.mul_comm];refine Nat.mul_lt_mul_of_pos_left ?_ (Nat.two_pow_pos _);rw[Nat.pow_succ]at hhi;omega
 have hb:yu (hxM m c)=4*c+1:=zj4 h1 h2;have hF:hxF m c=hxM m c:=by unfold hxF;rw[if_neg zd]
 have hE:hxE m c=0:=by unfold hxE;rw[if_neg zd]
 rw[hF,hE];exact⟨hM,rfl,h1,h2⟩
theorem ysw (neg:Bool) (m:Nat) (e:Int) (hm:m<2^53) (he1:-1074<=e) (he2:e<=971):
  ∃ n d,zjy (eSign neg++yma false m e (-1))=some (neg,n,d)/\n*2^(-e).toNat=m*2^e.toNat*d/\(n=0↔m=0)/\(yf n).length<=40000/\(yf d).length<=40000:=by
 have hlen2:∀ (x j:Nat),x<2^j->j<=40000->(yf x).length<=40000:=fun x j h hj=>Nat.le_trans (yv (Nat.lt_of_lt_of_le h (Nat.pow_le_pow_left ze _))) hj
 unfold yma;by_cases hm0:m=0
 ·subst hm0;rw[if_pos rfl];obtain⟨sg,E,hE,hok,hxv⟩:=yrh 0 zd zd;rw[yk5 _ _ zd zd,hE];refine⟨0,1,?_,zi,zi,hlen2 0 1 ze zd,hlen2 1 1 ze zd⟩;have hr:=ynr neg 48 none sg E ze ze (by intro c hc;cases hc) (by intro c hc;cases hc) hok;unfold zjy;have ht:eSign neg++([48,if false=true then 88 else 120]++(ptL (48::List.replicate (-1:Int).toNat 48)++(if false=true then 80 else 112)::sg::E))=eSign neg++(48::120::(48::(pT none++xT 112 (some (sg,E))))):=rfl;rw[ht,hr];dsimp only;rw[if_neg zi,if_pos (by rfl)]
 ·rw[if_neg hm0];obtain⟨h1,h2,h3,h4⟩:=yqx m hm0;have hk52:m.log2<=52:=by have:=(Nat.log2_lt hm0).2 hm;omega
  have hc13:ykj m (-1)<=13:=by
   unfold ykj;rw[if_pos zd];have:=ypc m hm0;omega
  generalize hcc:ykj m (-1)=c at *
  generalize hFF:hxF m c=F at *
  generalize hkk:m.log2=k at *
  rw[h2];obtain⟨sg,E,hE,hok,hxv⟩:=yrh (e+(k:Int)+((0:Nat):Int)) zd zd;rw[yk5 _ _ zd zd,hE,hxT,ym3];have d1:F / 16^c=1:=by
   rw[show (16:Nat)=2^4 by decide,<-Nat.pow_mul];refine Nat.div_eq_of_lt_le zd (by rw[Nat.pow_succ]at h4;omega)
  rw[d1];obtain⟨P,hP,hPF⟩:∃ P,(if hxT false F c=[] then [] else 46::hxT false F c)=pT P/\pF P=hxT false F c:=by
   by_cases h:hxT false F c=[]
   ·exact⟨none,by rw[if_pos h];rfl,h.symm⟩
   ·exact⟨some _,by rw[if_neg h];rfl,rfl⟩
  rw[hP];have hr:=ynr neg 49 P sg E ze ze (by rw[hPF];exact ysb F c) (by rw[hPF];exact ysa F c) hok;have ht:eSign neg++([48,if false=true then 88 else 120]++(ymk false (1%16)::pT P++(if false=true then 80 else 112)::sg::E))=eSign neg++(48::120::(49::(pT P++xT 112 (some (sg,E))))):=rfl;rw[ht];have hdg:dgL 16 (49::pF P)=(hxT false F c).foldl (vp 16) [1]:=by
   rw[hPF];unfold dgL;rw[List.foldl_cons];rfl
  obtain⟨v1,v2⟩:=yrc F c [1] zi;have hv:jy 16 (dgL 16 (49::pF P))=F:=by
   rw[hdg,v1];show 1*16^c+F%16^c=F;have:=Nat.div_add_mod F (16^c);rw[d1]at this;omega
  have hlen:(dgL 16 (49::pF P)).length=c+1:=by rw[hdg,v2];simp;omega
  have hpl:(pF P).length=c:=by rw[hPF,yoa]
  have hne:dgL 16 (49::pF P)≠[]:=by intro h;rw[h]at hlen;simp at hlen
  have hx:xV (some (sg,E))-((4*(pF P).length:Nat):Int)=e+k-4*c:=by rw[hxv,hpl];omega
  have hord:zb8 16 (dgL 16 (49::pF P)) (e+k-4*c)=0:=by
   unfold zb8;rw[if_neg hne,if_pos rfl,hlen,if_neg zd,if_neg zd]
  refine⟨F*2^(e+k-4*c).toNat,2^(-(e+k-4*c)).toNat,?_,?_,?_,?_,?_⟩
  ·unfold zjy;rw[hr];dsimp only;rw[hx,if_neg zi,if_neg hne,if_neg (fun h=>h hord),hv];rfl
  ·refine Nat.eq_of_mul_eq_mul_right (Nat.two_pow_pos k) ?_;have e1:F*2^(e+k-4*c).toNat*2^(-e).toNat*2^k=(F*2^k)*(2^(e+k-4*c).toNat*2^(-e).toNat):=by simp[Nat.mul_assoc,Nat.mul_comm,Nat.mul_left_comm]
   rw[e1,h1];simp only[Nat.mul_assoc,<-Nat.pow_add];congr 2;omega
  ·have:F≠0:=by have:=Nat.two_pow_pos (4*c);omega
   constructor
   ·intro h;rcases Nat.mul_eq_zero.1 h with h | h
    ·exact absurd h this
    ·exact absurd h (Nat.ne_of_gt (Nat.two_pow_pos _))
   ·intro h;exact absurd h hm0
  ·have h9:F*2^(e+k-4*c).toNat<2^(4*c+1)*2^(e+k-4*c).toNat:=Nat.mul_lt_mul_of_pos_right h4 (Nat.two_pow_pos _);rw[<-Nat.pow_add]at h9;exact hlen2 _ _ h9 zd
  ·exact hlen2 _ ((-(e+k-4*c)).toNat+1) (Nat.pow_lt_pow_right zd zd) zd
end Go.Proofs.YtgfjdeddghbjcaaGreatDoor
