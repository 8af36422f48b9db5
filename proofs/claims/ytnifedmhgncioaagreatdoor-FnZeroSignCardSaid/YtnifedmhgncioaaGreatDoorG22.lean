/- Lemmas that the claim's top text leans on. No condition of their own. -/
import Derived.Test.YtnifedmhgncioaaGreatDoorG21
namespace Go.Proofs.YtnifedmhgncioaaGreatDoor
open Go.RowKit
set_option linter.unusedSimpArgs false
set_option linter.unusedVariables false
set_option maxHeartbeats 16000000
def sgN (sg:Bool):Nat:=if sg then 2147483648 else 0
theorem zx3 (mant:Nat) (E:Nat) (hE:E<=255):bits .or .u64 (((mant%8388608:Nat):Int)) ((E*8388608:Nat):Int)=((mant%8388608+E*8388608:Nat):Int):=by
 have h1:mant%8388608<8388608:=Nat.mod_lt _ zd;generalize mant%8388608=x at *
 have h2:E*8388608<9223372036854775808:=zd;rw[u64_or_nat x (E*8388608) zd zd];congr 1;have h3:=Nat.two_pow_add_eq_or_of_lt (i:=23) (show x<2^23 by omega) E;rw[Nat.or_comm,Nat.mul_comm E];rw[Nat.add_comm];exact h3.symm
theorem zx0 (x:Nat) (hx:x<2147483648):bits .or .u64 (x:Int) 2147483648=((x+2147483648:Nat):Int):=by
 rw[show (2147483648:Int)=((2147483648:Nat):Int) by rfl,u64_or_nat x 2147483648 zd zd];congr 1;have h2:=Nat.two_pow_add_eq_or_of_lt (i:=31) (show x<2^31 by omega) 1;rw[Nat.or_comm,Nat.add_comm];exact h2.symm
theorem zx4 (mant:Nat) (h:mant<18446744073709551616):bits .and .u64 (mant:Int) 8388607=((mant%8388608:Nat):Int):=by
 have h:=u64_and_nat mant 8388607 h zd;have h2:=Nat.and_two_pow_sub_one_eq_mod mant 23;rw[show (2^23-1:Nat)=8388607 by rfl,show (2^23:Nat)=8388608 by rfl]at h2;rw[h2]at h;exact h
theorem zx7 (E:Nat) (hE:E<=255):bits .and .i64 (E:Int) 255=(E:Int):=by
 have h0:(BitVec.ofInt 64 (E:Int)&&&BitVec.ofInt 64 255).toNat=E:=by
  rw[BitVec.toNat_and,BitVec.toNat_ofInt];have h1:(((E:Int))%((2^64:Nat):Int)).toNat=E:=zd;have h2:(BitVec.ofInt 64 255).toNat=2^8-1:=ze;rw[h1,h2,Nat.and_two_pow_sub_one_eq_mod];exact Nat.mod_eq_of_lt zd
 show IntKind.i64.wrap ((BitVec.ofInt 64 (E:Int)&&&BitVec.ofInt 64 255).toNat:Nat)=(E:Int);rw[h0,IntKind.wrap_i64];omega
theorem zy1 (m:Nat) (hm:m<16777216):bits .and .u64 (m:Int) 8388608=if m<8388608 then 0 else 8388608:=by
 rw[show (8388608:Int)=((8388608:Nat):Int) by rfl,u64_and_nat m 8388608 zd zd];have h:=zaj m 23;rw[show (2^23:Nat)=8388608 by rfl]at h;rw[h,Nat.testBit_eq_decide_div_mod_eq,show (2^23:Nat)=8388608 by rfl];by_cases c:m<8388608
 ·rw[if_pos c,if_neg zh];rfl
 ·rw[if_neg c,if_pos zh]
set_option maxRecDepth 100000 in
theorem zx6 (T g A:Nat) (P:Int) (ng:Bool) (w:World) (he:EnvP T w) (hgT:T≤g) (hd:DecT w g A P ng false) (hp1:-1400≤P+yi A) (hp2:P+yi A≤1900):
  Calls Tryz.prog 115 #[.pointer (some ⟨g,0,none⟩),.pointer (some ⟨4,0,none⟩)] w fun r w'=>
   r=.returned (.tuple #[.int .u64 ((sgN ng+zxq (A*10^P.toNat) (10^(-P).toNat):Nat):Int),.bool (decide (zxq (A*10^P.toNat) (10^(-P).toNat)=2139095040))])∧Gr w w' g:=by
 have hA0:=hd.ne0
 have h8:=hd.le
 have hLp:=yfr hA0
 have hb0:10^(-P).toNat≠0:=by have:=p10 (-P).toNat;omega
 obtain⟨nb,hnb⟩:=zX (zxq (A*10^P.toNat) (10^(-P).toNat))
 have hnb2:xh (23:Nat) 127 2139095040 (A*10^P.toNat) (10^(-P).toNat)=nb:=hnb
 have hnbl:nb≤2139095040:=by rw[←hnb2];exact ud 23 127 2139095040 _ _ hb0 zd rfl
 rw[hnb]
 have HNB:=zH hnb2
 have HE:=zH he
 have HD:=zH hd
 have hlt:g<w.heap.size:=by obtain⟨_,_,bs,_,hd⟩:=hd;exact hd.lt
 have d1:w.cell? ⟨g,800,none⟩=some (.int .i64 (yi A:Nat)):=by obtain⟨_,_,bs,_,hd⟩:=hd;exact hd.cnd
 have d2:w.cell? ⟨g,801,none⟩=some (.int .i64 (P+yi A)):=by obtain⟨_,_,bs,_,hd⟩:=hd;exact hd.cdp
 have d4:w.cell? ⟨g,802,none⟩=some (.bool ng):=by obtain⟨_,_,bs,_,hd⟩:=hd;exact hd.cng
 have f1:=he.i32.1
 have f2:=he.i32.2.1
 have f3:=he.i32.2.2
 obtain⟨L,hL⟩:=zX (yi A)
 rw[hL]at d1 d2 hLp hp1 hp2 h8
 have hLz:((L:Int)==0)=false:=zf
 have hLz2:(L==0)=false:=zf
 have HL:=zH hL
 obtain⟨dp,hdp⟩:=zX (P+(L:Int))
 rw[hdp]at d2 hp1 hp2
 have HDP:=zH hdp
 have HA0:=zH hA0
 have HB0:=zH hb0
 clear hd hnb hnb2 he hL hdp hA0 hb0
 refine ye Tryz.func115 rfl (by rw[Tryz.ntmps115];simp) ?_
 intro σ hσ
 rw[Tryz.ntmps115]
 have s0:σ 0=.pointer (some ⟨g,0,none⟩):=hσ 0 zi
 have s1:σ 1=.pointer (some ⟨4,0,none⟩):=hσ 1 zi
 clear hσ
 go_wp2_with fail
 refine zhx 0 1 ze
  (fun s' w'=>∃ (mant:Nat) (E:Nat) (ov:Bool),s' 0=.pointer (some ⟨g,0,none⟩)∧s' 1=.pointer (some ⟨4,0,none⟩)∧s' 5=.bool ov∧s' 6=.int .i64 ((E:Int)-127)∧s' 7=.int .u64 (mant:Int)∧w'.cell? ⟨g,802,none⟩=some (.bool ng)∧Gr w w' g∧mant<16777216∧E≤255∧mant%8388608+E*8388608=nb∧ov=decide (nb=2139095040))
  (fun s' w'=>s' 0=.pointer (some ⟨g,0,none⟩)∧s' 1=.pointer (some ⟨4,0,none⟩)∧w'.cell? ⟨g,802,none⟩=some (.bool ng)∧Gr w w' g∧nb=2139095040)
  rfl rfl ?_ ?_ ?_
 ·intro Q' H0 H1
  by_cases hov:310<dp
  ·have hnear:=zH (show nb=2139095040 by rw[←HNB.out];exact zns 23 127 2139095040 A P HA0.out (by have:=HDP.out;omega) zr zr zd zd)
   (go_wp2_with fail;repeat ((first|refine cZ ?_|refine cW ?_);go_wp2_with fail))
   refine wp_goto ?_
   exact H1.out.out _ _ _ ⟨zb,zb,d4,Gr.refl w g,hnear.out⟩
  have hov2:decide (310<dp)=false:=decide_eq_false hov
  by_cases hun:dp < -330
  ·have hnear:=zH (show nb=0 by rw[←HNB.out];exact zlm 23 127 2139095040 A P HA0.out (by have:=HDP.out;omega) zr zr zd zd zd)
   (go_wp2_with fail;repeat ((first|refine cZ ?_|refine cW ?_);go_wp2_with fail))
   refine wp_goto ?_
   exact H0.out.out _ _ _ ⟨0,0,false,zb,zb,zb,zb,zb,d4,Gr.refl w g,zd,zd,hnear.out.symm,by rw[hnear.out];rfl⟩
  have hun2:decide (dp < -330)=false:=decide_eq_false hun
  have HDPB:=zH (show -330≤dp∧dp≤310 by omega)
  obtain⟨o,ho⟩:=zX (uo (A*10^P.toNat) (10^(-P).toNat))
  obtain⟨E,hE⟩:=zX (yt (23:Nat) 127 (A*10^P.toNat) (10^(-P).toNat))
  obtain⟨ho1,ho2,hEm,hl1,hl2,J,hfb,hJ⟩:=zrk 23 127 P o E A HA0.out (by have:=HDP.out;omega) zr zr zd zd zd ho hE
  have hob:=zj2 A P HA0.out (by have:=HDP.out;omega) zr zr o ho
  have HL1:=zH hl1
  have HL2:=zH hl2
  have HFB0:=zH hfb
  have HJ:=zH hJ
  have HOB:=zH hob.2
  have HEE:=zH hE
  have hEm2:E=max (-149) (o-23):=zd
  clear ho hE hl1 hl2 hfb hJ hob hEm
  (go_upto_block 0 with fail;repeat ((first|refine cZ ?_|refine cW ?_);go_upto_block 0 with fail))
  refine yr (fun s' w'=>∃ (N:Nat) (p:Int) (tr:Bool) (e:Int),s' 0=.pointer (some ⟨g,0,none⟩)∧s' 1=.pointer (some ⟨4,0,none⟩)∧s' 5=.bool false∧s' 6=.int .i64 e∧DecT w' g N p ng tr∧FB A P o J (E-1) e N p tr∧Gr w w' g∧-330≤p+yi N∧p+yi N≤0∧0≤e∧e≤max 0 (o+27)) ?_ ?_
  ·intro R2 K2 HR hK2
   go_wp2_with fail
   refine xx (fun kk s' w'=>∃ (N:Nat) (p:Int) (tr:Bool) (e:Int),kk=(o+1-e).toNat∧s' 0=.pointer (some ⟨g,0,none⟩)∧s' 1=.pointer (some ⟨4,0,none⟩)∧s' 5=.bool false∧s' 6=.int .i64 e∧DecT w' g N p ng tr∧FB A P o J (E-1) e N p tr∧Gr w w' g∧-330≤p+yi N∧p+yi N≤310∧0≤e∧e≤max 0 (o+27)) (o+1-0).toNat
    ⟨A,P,false,0,rfl,zb,zb,zb,zb,HD.out,HFB0.out,Gr.refl w g,zr,zr,zd,zd⟩ ?_
   clear s0 s1 σ d1 d2 d4 f1 f2 f3 hlt HD HFB0 hov2 hun2 hov hun hp1 hp2
   rintro kk σ wk ⟨N,p,tr,e,hkk,s0,s1,s5,s6,hdec,hfb,hgr,hb1,hb2,he1,he2⟩ RK KK HRK hKK
   have HKK:=zH hkk
   have HDEC:=zH hdec
   have HFB:=zH hfb
   have HGR:=zH hgr
   have hN0:=hdec.ne0
   have hN8:=hdec.le
   have hpos:=zwf hfb HOB.out hN0 zd zd zd zd zd
   have hlt:g<wk.heap.size:=by obtain⟨_,_,bs,_,hd⟩:=hdec;exact hd.lt
   have d2:wk.cell? ⟨g,801,none⟩=some (.int .i64 (p+yi N)):=by obtain⟨_,_,bs,_,hd⟩:=hdec;exact hd.cdp
   have henv:=HE.out.grown hgr (fun k e=>zz)
   obtain⟨pb,po,pc,hpbT,hpc,hpt0,hpt⟩:=henv.ptab
   have HENV:=zH henv.env
   obtain⟨dk,hdk⟩:=zX (p+(yi N:Int))
   rw[hdk]at d2 hb1 hb2 hpos
   have HDK:=zH hdk
   clear hkk hdec hfb hgr henv hdk hN0
   by_cases h0:0<dk
   ·have hpos':=hpos h0
    clear hpos
    by_cases h9:9≤dk
    ·clear hpt
     (go_upto_region 13 with fail;repeat ((first|refine cZ ?_|refine cW ?_);go_upto_region 13 with fail))
     go_quiet (fail)
     (go_wp2_with fail;repeat ((first|refine cZ ?_|refine cW ?_);go_wp2_with fail))
     refine (zbf T g N p (-27) ng tr _ (by first | exact HENV.out | exact HENV.out.drewN _ | exact (HENV.out.drewN _).drewN _) hgT (by first | exact HDEC.out | exact HDEC.out.drewN _ | exact (HDEC.out.drewN _).drewN _) zd zd zx zx zx).mono ?_
     rintro r7 w7 ⟨rfl,N7,p7,t7,hd7,hn7,hs7,hb7,hc7,hg7⟩
     have HD7:=zH hd7
     have hbb:=hc7 zd
     rw[HDK.out]at hbb
     have hfb7:FB A P o J (E-1) (e+27) N7 p7 t7:=by
      have b1:Bd o e:=zs
      have b2:Bd (E-1) e:=zs
      have b3:Bd o (e-(-(27))):=zs
      have b4:Bd (E-1) (e-(-(27))):=zs
      have x1:=hs7 A P 1 o e HL1.out b1 b3 HFB.out.a1
      have x2:=hs7 A P J (E-1) e HL2.out b2 b4 HFB.out.a2
      rw[show e-(-(27))=(e+27) by omega]at x1 x2
      exact⟨x1,x2⟩
     have HFB7:=zH hfb7
     clear hd7 hs7 hfb7 hn7
     (go_wp2_with fail;repeat ((first|refine cZ ?_|refine cW ?_);go_wp2_with fail))
     refine wo HRK (o+1-(e+27)).toNat (by have:=HKK.out;omega) ⟨N7,p7,t7,(e+27),rfl,zb,zb,zb,?_,HD7.out,HFB7.out,(by first | exact HGR.out.trans hg7 | exact (HGR.out.drewN _).trans hg7 | exact ((HGR.out.drewN _).drewN _).trans hg7),zd,zd,zd,zd⟩
     simp[yc,yd]
    ·obtain⟨i,hi⟩:∃ i:Nat,dk=i:=⟨dk.toNat,zd⟩
     subst hi
     have hi9:i<9:=zd
     have c1:=hpt i hi9
     have hpv:=zsj i hi9
     have h9':decide (9≤(i:Int))=false:=zh
     have hi9i:(i:Int)<9:=zd
     obtain⟨x,hx⟩:=zX (ptV i)
     rw[hx]at c1 hpv
     have h0n:0<i:=zd
     have h9n:¬9≤i:=zd
     clear hpt hx
     (go_upto_region 13 with fail;repeat ((first|refine cZ ?_|refine cW ?_);go_upto_region 13 with fail))
     go_quiet (fail)
     go_wp2_with fail
     (go_wp2_with fail;repeat ((first|refine cZ ?_|refine cW ?_);go_wp2_with fail))
     go_quiet (fail)
     (go_wp2_with fail;repeat ((first|refine cZ ?_|refine cW ?_);go_wp2_with fail))
     refine (zbf T g N p (-(x:Int)) ng tr _ (by first | exact HENV.out | exact HENV.out.drewN _ | exact (HENV.out.drewN _).drewN _) hgT (by first | exact HDEC.out | exact HDEC.out.drewN _ | exact (HDEC.out.drewN _).drewN _) zd zd zx zx zx).mono ?_
     rintro r7 w7 ⟨rfl,N7,p7,t7,hd7,hn7,hs7,hb7,hc7,hg7⟩
     have HD7:=zH hd7
     have hbb:=hc7 zd
     rw[HDK.out]at hbb
     have hfb7:FB A P o J (E-1) (e+(x:Int)) N7 p7 t7:=by
      have b1:Bd o e:=zs
      have b2:Bd (E-1) e:=zs
      have b3:Bd o (e-(-((x:Int)))):=zs
      have b4:Bd (E-1) (e-(-((x:Int)))):=zs
      have x1:=hs7 A P 1 o e HL1.out b1 b3 HFB.out.a1
      have x2:=hs7 A P J (E-1) e HL2.out b2 b4 HFB.out.a2
      rw[show e-(-((x:Int)))=(e+(x:Int)) by omega]at x1 x2
      exact⟨x1,x2⟩
     have HFB7:=zH hfb7
     clear hd7 hs7 hfb7 hn7
     (go_wp2_with fail;repeat ((first|refine cZ ?_|refine cW ?_);go_wp2_with fail))
     refine wo HRK (o+1-(e+(x:Int))).toNat (by have:=HKK.out;omega) ⟨N7,p7,t7,(e+(x:Int)),rfl,zb,zb,zb,?_,HD7.out,HFB7.out,(by first | exact HGR.out.trans hg7 | exact (HGR.out.drewN _).trans hg7 | exact ((HGR.out.drewN _).drewN _).trans hg7),zd,zd,zd,zd⟩
     simp[yc,yd]
   ·have h0':decide (0<dk)=false:=decide_eq_false h0
    clear hpt hpos
    (go_wp2_with fail;repeat ((first|refine cZ ?_|refine cW ?_);go_wp2_with fail))
    exact got HR ⟨N,p,tr,e,zb,zb,zb,zb,HDEC.out,HFB.out,HGR.out,zx,zx,zd,zd⟩
  clear s0 s1 σ d1 d2 d4 f1 f2 f3 hlt HD HFB0 hov2 hun2 hov hun hp1 hp2
  rintro σ w1 ⟨N,p,tr,e,s0,s1,s5,s6,hdec,hfb,hgr,hb1,hb2,he1,he2⟩
  have HDEC:=zH hdec
  have HFB:=zH hfb
  have HGR:=zH hgr
  clear hdec hfb hgr
  (go_upto_block 2 with fail;repeat ((first|refine cZ ?_|refine cW ?_);go_upto_block 2 with fail))
  refine yr (fun s' w'=>∃ (N:Nat) (p:Int) (tr:Bool),s' 0=.pointer (some ⟨g,0,none⟩)∧s' 1=.pointer (some ⟨4,0,none⟩)∧s' 5=.bool false∧s' 6=.int .i64 (o+1)∧DecT w' g N p ng tr∧FB A P o J (E-1) (o+1) N p tr∧Gr w w' g∧p+yi N=0) ?_ ?_
  ·intro R2 K2 HR hK2
   go_wp2_with fail
   refine xx (fun kk s' w'=>∃ (N:Nat) (p:Int) (tr:Bool) (e:Int),kk=(e-o).toNat∧s' 0=.pointer (some ⟨g,0,none⟩)∧s' 1=.pointer (some ⟨4,0,none⟩)∧s' 5=.bool false∧s' 6=.int .i64 e∧DecT w' g N p ng tr∧FB A P o J (E-1) e N p tr∧Gr w w' g∧-330≤p+yi N∧p+yi N≤0∧min 0 (o-25)≤e∧e≤max 0 (o+27)) (e-o).toNat
    ⟨N,p,tr,e,rfl,zb,zb,zb,zb,HDEC.out,HFB.out,HGR.out,zd,zd,zd,zd⟩ ?_
   clear s0 s1 s5 s6 σ HDEC HFB HGR he1 he2 hb1 hb2
   rintro kk σ wk ⟨N,p,tr,e,hkk,s0,s1,s5,s6,hdec,hfb,hgr,hb1,hb2,he1,he2⟩ RK KK HRK hKK
   have HKK:=zH hkk
   have HDEC:=zH hdec
   have HFB:=zH hfb
   have HGR:=zH hgr
   have hN0:=hdec.ne0
   have hN8:=hdec.le
   have hNp:=yfr hN0
   have hhd:=zlx N p hN0
   have hlt:g<wk.heap.size:=by obtain⟨_,_,bs,_,hd⟩:=hdec;exact hd.lt
   have d2:wk.cell? ⟨g,801,none⟩=some (.int .i64 (p+yi N)):=by obtain⟨_,_,bs,_,hd⟩:=hdec;exact hd.cdp
   have d0:wk.cell? ⟨g,0,none⟩=some (.int .u8 (48+((N / 10^(yi N-1):Nat):Int))):=by
    obtain⟨_,_,bs,hbs,hd⟩:=hdec
    rw[hd.digit 0 zd,uq bs N _ hbs 0 zd,vh,Nat.sub_zero]
    have h1:N / 10^(yi N-1)<10:=by
     rw[Nat.div_lt_iff_lt_mul (p10 _),Nat.mul_comm,←Nat.pow_succ,show (yi N-1).succ=yi N by omega]
     exact xi N
    rw[Nat.mod_eq_of_lt h1]
    rfl
   have henv:=HE.out.grown hgr (fun k e=>zz)
   obtain⟨pb,po,pc,hpbT,hpc,hpt0,hpt⟩:=henv.ptab
   have HENV:=zH henv.env
   have hdphi:=zrs N p (by have:=vs;omega)
   obtain⟨dk,hdk⟩:=zX (p+(yi N:Int))
   rw[hdk]at d2 hb1 hb2 hhd hdphi
   obtain⟨x0,hx0⟩:=zX (N / 10^(yi N-1))
   rw[hx0]at d0 hhd
   have HDK:=zH hdk
   have HHD:=zH hhd
   have HHI:=zH hdphi
   have HX0:=zH hx0
   clear hkk hdec hfb hgr henv hdk hx0 hhd hdphi hNp
   (go_upto_region 18 with fail;repeat ((first|refine cZ ?_|refine cW ?_);go_upto_region 18 with fail))
   refine yr (fun s' w'=>s' 80=.bool (decide (dk<0∨(dk=0∧x0<5)))∧s' 0=.pointer (some ⟨g,0,none⟩)∧s' 1=.pointer (some ⟨4,0,none⟩)∧s' 5=.bool false∧s' 6=.int .i64 e∧DecT w' g N p ng tr∧Gr w w' g) ?_ ?_
   ·intro R3 K3 HR3 hK3
    clear hpt
    by_cases h0:dk<0
    ·have hres:decide (dk<0∨(dk=0∧x0<5))=true:=decide_eq_true (Or.inl h0)
     have h0d:decide (dk<0)=true:=decide_eq_true h0
     go_wp2_with fail
     all_goals exact got HR3 ⟨zαc,zb,zb,zb,zb,HDEC.out,HGR.out⟩
    ·have hz:dk=0:=zd
     subst hz
     by_cases hx5:x0<5
     ·have hres:decide ((0:Int)<0∨((0:Int)=0∧x0<5))=true:=decide_eq_true (Or.inr ⟨rfl,hx5⟩)
      have hx5i:(48:Int)+(x0:Int)<53:=zd
      go_wp2_with fail
      all_goals exact got HR3 ⟨zαc,zb,zb,zb,zb,HDEC.out,HGR.out⟩
     ·have hres:decide ((0:Int)<0∨((0:Int)=0∧x0<5))=false:=decide_eq_false zd
      have hx5i:decide ((48:Int)+(x0:Int)<53)=false:=zh
      go_wp2_with fail
      all_goals exact got HR3 ⟨zαc,zb,zb,zb,zb,HDEC.out,HGR.out⟩
   clear s0 s1 s5 s6 σ HDEC HGR d2 d0 hlt HENV hpt0 hpt hpbT hpc
   rintro σ wk ⟨s80,s0,s1,s5,s6,hdec,hgr⟩
   have HDEC:=zH hdec
   have HGR:=zH hgr
   have hlt:g<wk.heap.size:=by obtain⟨_,_,bs,_,hd⟩:=hdec;exact hd.lt
   have d2:wk.cell? ⟨g,801,none⟩=some (.int .i64 dk):=by rw[←HDK.out];obtain⟨_,_,bs,_,hd⟩:=hdec;exact hd.cdp
   have henv:=HE.out.grown hgr (fun k e=>zz)
   obtain⟨pb,po,pc,hpbT,hpc,hpt0,hpt⟩:=henv.ptab
   have HENV:=zH henv.env
   clear hdec hgr henv
   by_cases hsm:dk<0∨(dk=0∧x0<5)
   ·rw[decide_eq_true hsm]at s80
    have hsmall:sc N p 0<sc 1 0 (-1):=by
     rcases hsm with h | ⟨h,h5⟩
     ·exact Nat.lt_of_lt_of_le HHI.out (Nat.le_trans (vf zd (by have:=vs;omega)) zk4)
     ·exact (HHD.out h (by have:=HDK.out;omega)).1 h5
    have hpos':=zrl HFB.out zd zd zd zd hsmall
    have HSM:=zH hsm
    clear hsm hsmall
    have hwn:IntKind.i64.wrap (-dk)=-dk:=zk
    by_cases h9:9≤-dk
    ·clear hpt
     have h9b:dk≤-9:=zd
     (go_upto_region 20 with fail;repeat ((first|refine cZ ?_|refine cW ?_);go_upto_region 20 with fail))
     go_quiet (fail)
     (go_wp2_with fail;repeat ((first|refine cZ ?_|refine cW ?_);go_wp2_with fail))
     refine (zbf T g N p 27 ng tr _ (by first | exact HENV.out | exact HENV.out.drewN _ | exact (HENV.out.drewN _).drewN _) hgT (by first | exact HDEC.out | exact HDEC.out.drewN _ | exact (HDEC.out.drewN _).drewN _) zd zd zx zx zx).mono ?_
     rintro r7 w7 ⟨rfl,N7,p7,t7,hd7,hn7,hs7,hb7,hc7,hg7⟩
     have HD7:=zH hd7
     have hbb:=hb7 zd
     rw[HDK.out]at hbb
     have hfb7:FB A P o J (E-1) (e-27) N7 p7 t7:=by
      have b1:Bd o e:=zs
      have b2:Bd (E-1) e:=zs
      have b3:Bd o (e-(27)):=zs
      have b4:Bd (E-1) (e-(27)):=zs
      have x1:=hs7 A P 1 o e HL1.out b1 b3 HFB.out.a1
      have x2:=hs7 A P J (E-1) e HL2.out b2 b4 HFB.out.a2
      rw[show e-(27)=(e-27) by omega]at x1 x2
      exact⟨x1,x2⟩
     have HFB7:=zH hfb7
     have htop:p7+yi N7≤0:=by
      have q8:=hd7.le
      have qs:Sh ((27:Nat):Int) N p tr N7 p7 t7:=hs7
      have q1:sc N p 0<sc 1 0 0:=Nat.lt_of_lt_of_le HHI.out (vf zd (by have:=vs;omega))
      have q2:=HDK.out
      exact zsc qs hd7.ne0 zd zd zd q1 (zmy (i:=(-dk).toNat) hN0 zd zd (yao zd))
     clear hd7 hs7 hfb7 hn7
     (go_wp2_with fail;repeat ((first|refine cZ ?_|refine cW ?_);go_wp2_with fail))
     refine wo HRK ((e-27)-o).toNat (by have:=HKK.out;omega) ⟨N7,p7,t7,(e-27),rfl,zb,zb,zb,?_,HD7.out,HFB7.out,(by first | exact HGR.out.trans hg7 | exact (HGR.out.drewN _).trans hg7 | exact ((HGR.out.drewN _).drewN _).trans hg7),zd,zd,zd,zd⟩
     simp[yc,yd]
    ·obtain⟨i,hi⟩:∃ i:Nat,-dk=i:=⟨(-dk).toNat,zd⟩
     have hdki:dk=-(i:Int):=zd
     subst hdki
     have hi9:i<9:=zd
     have c1:=hpt i hi9
     have hpt2:=ztz i hi9
     have hpv:=zsj i hi9
     have h9':decide (9≤(i:Int))=false:=zh
     have hi9i:(i:Int)<9:=zd
     obtain⟨x,hx⟩:=zX (ptV i)
     rw[hx]at c1 hpv hpt2
     have HPT:=zH hpt2
     have h9n:¬9≤i:=zd
     rw[Int.neg_neg]at hi h9 hwn
     clear hpt hx hi hpt2
     (go_upto_region 20 with fail;repeat ((first|refine cZ ?_|refine cW ?_);go_upto_region 20 with fail))
     go_quiet (fail)
     go_wp2_with fail
     (go_wp2_with fail;repeat ((first|refine cZ ?_|refine cW ?_);go_wp2_with fail))
     go_quiet (fail)
     (go_wp2_with fail;repeat ((first|refine cZ ?_|refine cW ?_);go_wp2_with fail))
     refine (zbf T g N p (x:Int) ng tr _ (by first | exact HENV.out | exact HENV.out.drewN _ | exact (HENV.out.drewN _).drewN _) hgT (by first | exact HDEC.out | exact HDEC.out.drewN _ | exact (HDEC.out.drewN _).drewN _) zd zd zx zx zx).mono ?_
     rintro r7 w7 ⟨rfl,N7,p7,t7,hd7,hn7,hs7,hb7,hc7,hg7⟩
     have HD7:=zH hd7
     have hbb:=hb7 zd
     rw[HDK.out]at hbb
     have hfb7:FB A P o J (E-1) (e-(x:Int)) N7 p7 t7:=by
      have b1:Bd o e:=zs
      have b2:Bd (E-1) e:=zs
      have b3:Bd o (e-((x:Int))):=zs
      have b4:Bd (E-1) (e-((x:Int))):=zs
      have x1:=hs7 A P 1 o e HL1.out b1 b3 HFB.out.a1
      have x2:=hs7 A P J (E-1) e HL2.out b2 b4 HFB.out.a2
      rw[show e-((x:Int))=(e-(x:Int)) by omega]at x1 x2
      exact⟨x1,x2⟩
     have HFB7:=zH hfb7
     have htop:p7+yi N7≤0:=by
      have q8:=hd7.le
      have qs:Sh ((x:Nat):Int) N p tr N7 p7 t7:=hs7
      have q1:sc N p 0<sc 1 0 0:=Nat.lt_of_lt_of_le HHI.out (vf zd (by have:=vs;omega))
      have q2:=HDK.out
      refine zsc qs hd7.ne0 zd zd zd q1 ?_
      rcases Nat.eq_zero_or_pos i with q5 | q5
      ·rw[HPT.out.2 q5]
       refine ztq hN0 zd zd ?_
       rw[HX0.out]
       have:=HSM.out
       omega
      ·exact zmy (i:=i) hN0 zd zd (HPT.out.1 q5)
     clear hd7 hs7 hfb7 hn7
     (go_wp2_with fail;repeat ((first|refine cZ ?_|refine cW ?_);go_wp2_with fail))
     refine wo HRK ((e-(x:Int))-o).toNat (by have:=HKK.out;omega) ⟨N7,p7,t7,(e-(x:Int)),rfl,zb,zb,zb,?_,HD7.out,HFB7.out,(by first | exact HGR.out.trans hg7 | exact (HGR.out.drewN _).trans hg7 | exact ((HGR.out.drewN _).drewN _).trans hg7),zd,zd,zd,zd⟩
     simp[yc,yd]
   ·rw[decide_eq_false hsm]at s80
    have hz:dk=0:=zd
    have hx5:5≤x0:=zd
    have h3:=HHD.out hz (by have:=HDK.out;omega)
    have heo:=zuo HFB.out HOB.out zd zd zd zd (h3.2.1 hx5) h3.2.2
    subst heo
    clear hpt
    (go_wp2_with fail;repeat ((first|refine cZ ?_|refine cW ?_);go_wp2_with fail))
    exact got HR ⟨N,p,tr,zb,zb,zb,zb,HDEC.out,HFB.out,HGR.out,by rw[HDK.out];exact hz⟩
  clear s0 s1 s5 s6 σ HDEC HFB HGR he1 he2 hb1 hb2
  rintro σ w2 ⟨N,p,tr,s0,s1,s5,s6,hdec,hfb,hgr,hb1⟩
  have HDEC:=zH hdec
  have HFB:=zH hfb
  have HGR:=zH hgr
  have henv:=HE.out.grown hgr (fun k e=>zz)
  have f1:=henv.i32.1
  have f2:=henv.i32.2.1
  have f3:=henv.i32.2.2
  have HENV:=zH henv
  clear hdec hfb hgr henv
  (go_upto_region 26 with fail;repeat ((first|refine cZ ?_|refine cW ?_);go_upto_region 26 with fail))
  go_wp2_with fail
  refine yr (fun s' w'=>∃ (N:Nat) (p:Int) (tr:Bool),s' 0=.pointer (some ⟨g,0,none⟩)∧s' 1=.pointer (some ⟨4,0,none⟩)∧s' 5=.bool false∧s' 6=.int .i64 (E+23)∧DecT w' g N p ng tr∧Apx A P J (E-1) (E+23+1) N p tr∧Gr w w' g∧-1000≤p+yi N∧p+yi N≤0) ?_ ?_
  ·intro R2 K2 HR hK2
   by_cases hden:o<(-126)
   ·refine jq zb ze ?_
    go_wp2_with fail
    refine (zbf T g N p _ ng tr _ HENV.out.env hgT HDEC.out zd zd zd zd zd).mono ?_
    rintro r7 w7 ⟨rfl,N7,p7,t7,hd7,hn7,hs7,hb7,hc7,hg7⟩
    have HD7:=zH hd7
    have hbb:=hc7 zd
    have hap7:Apx A P J (E-1) (E+23+1) N7 p7 t7:=by
     have x2:=hs7 A P J (E-1) (o+1) HL2.out zs zs HFB.out.a2
     first
      | (rw[show o+1 - -(-127+1-o)=E+23+1 by omega]at x2;exact x2)
      | (rw[show o+1 - -((-126)-o)=E+23+1 by omega]at x2;exact x2)
      | (rw[show o+1-(o-(-126))=E+23+1 by omega]at x2;exact x2)
      | (rw[show o+1-(o+- (-126))=E+23+1 by omega]at x2;exact x2)
    have HAP7:=zH hap7
    clear hd7 hs7 hap7 hn7
    (go_wp2_with fail;repeat ((first|refine cZ ?_|refine cW ?_);go_wp2_with fail))
    refine got HR ⟨N7,p7,t7,zb,zb,zb,?_,HD7.out,HAP7.out,HGR.out.trans hg7,zd,zd⟩
    simp[yc,yd]
    omega
   ·have hden2:decide (o<(-126))=false:=decide_eq_false hden
    refine kj zb ze ?_
    go_wp2_with fail
    refine got HR ⟨N,p,tr,zb,zb,zb,?_,HDEC.out,?_,HGR.out,zd,zd⟩
    ·simp[yc,yd]
     omega
    ·have:=HFB.out.a2
     rw[show o+1=E+23+1 by omega]at this
     exact this
  clear s0 s1 s5 s6 σ HDEC HFB HGR HENV f1 f2 f3 hb1
  rintro σ w3 ⟨N,p,tr,s0,s1,s5,s6,hdec,hap,hgr,hb1,hb2⟩
  have HDEC:=zH hdec
  have HAP:=zH hap
  have HGR:=zH hgr
  have henv:=HE.out.grown hgr (fun k e=>zz)
  have f1:=henv.i32.1
  have f2:=henv.i32.2.1
  have f3:=henv.i32.2.2
  have HENV:=zH henv
  have d4:w3.cell? ⟨g,802,none⟩=some (.bool ng):=by obtain⟨_,_,bs,_,hd⟩:=hdec;exact hd.cng
  clear hdec hap hgr henv
  obtain⟨X,hX⟩:=zX (E+23)
  have hwA:IntKind.i64.wrap 256=256:=ze
  have hwB:IntKind.i64.wrap 255=255:=ze
  rw[hX]at s6
  have hXb:1-127≤X:=zd
  have hXb2:X≤1100:=zd
  have hwC:IntKind.i64.wrap (X+127)=X+127:=zk
  have hwD:IntKind.i64.wrap (X+1+127)=X+1+127:=zk
  have hwE:IntKind.i64.wrap (X+1)=X+1:=zk
  (go_upto_region 30 with fail;repeat ((first|refine cZ ?_|refine cW ?_);go_upto_region 30 with fail))
  go_quiet (fail)
  by_cases hhi:127<X
  ·have hnear:=zH (show nb=2139095040 by rw[←HNB.out,qm 23 127 2139095040 _ _ E HEE.out,if_neg zd])
   have hx1:255≤X+127:=zd
   (go_wp2_with fail;repeat ((first|refine cZ ?_|refine cW ?_);go_wp2_with fail))
   refine wp_goto ?_
   exact H1.out.out _ _ _ ⟨zb,zb,by simpa using d4,HGR.out.drewN _,hnear.out⟩
  have hx1:decide (255≤X+127)=false:=zh
  have hx2:X+127<255:=zd
  (go_wp2_with fail;repeat ((first|refine cZ ?_|refine cW ?_);go_wp2_with fail))
  refine (zbf T g N p 24 ng tr _ (HENV.out.env.drewN _) hgT (HDEC.out.drewN _) zd zd zd zd zd).mono ?_
  rintro r7 w7 ⟨rfl,N7,p7,t7,hd7,hn7,hs7,hb7,hc7,hg7⟩
  have hbb:=hb7 zd
  have hap7:Apx A P J (E-1) E N7 p7 t7:=by
   have x2:=hs7 A P J (E-1) (E+23+1) HL2.out zs zs HAP.out
   first
    | (rw[show E+23+1-24=E by omega]at x2;exact x2)
    | (rw[show E+23+1-(1+23)=E by omega]at x2;exact x2)
  have hN70:=hd7.ne0
  have hN78:=hd7.le
  have hdp7:=yaw hap7 HL2.out hN70 zd zd zd zd zd
  have hrd:=zwg (o:=o) hap7 HJ.out zd zd (by have:=HDP.out;have:=HDPB.out;omega) zd
  have hasm:=zks 23 127 2139095040 _ _ _ E HB0.out zd rfl HEE.out hrd.symm
  rw[HNB.out]at hasm
  have hgr7:=(HGR.out.drewN _).trans hg7
  have henv:=HE.out.grown hgr7 (fun k e=>zz)
  have f1':=henv.i32.1
  have f2':=henv.i32.2.1
  have f3':=henv.i32.2.2
  have d4':w7.cell? ⟨g,802,none⟩=some (.bool ng):=by obtain⟨_,_,bs,_,hd⟩:=hd7;exact hd.cng
  have HRI:=zH (fun W (h:W=w7)=>h ▸ zb6 g N7 p7 ng t7 w7 hd7 (hn7 zd) zd zd)
  have HGR7:=zH hgr7
  obtain⟨R,hR⟩:=zX (rdI N7 p7 t7)
  rw[hR]at hasm HRI
  obtain⟨hnbR,hRle,hElo,hRden⟩:=hasm
  unfold zxg at hnbR
  have e53:(2:Nat)^(23+1)=16777216:=rfl
  have e52:(2:Nat)^23=8388608:=rfl
  rw[e53]at hRle hnbR
  rw[e52]at hRden hnbR
  clear hd7 hn7 hs7 hap7 hb7 hc7 hg7 hrd hR hgr7 henv f1 f2 f3 d4 e53 e52 hdp7 hN70 hN78 HNB
  go_wp2_with fail
  refine (HRI.out _ rfl).mono ?_
  rintro r8 w8 ⟨rfl,rfl⟩
  have hR64:R<18446744073709551616:=zd
  by_cases c1:R=16777216
  ·subst c1
   rw[if_pos rfl]at hnbR
   by_cases c2:127<X+1
   ·have hnear:=zH (show nb=2139095040 by rw[hnbR,if_pos zd])
    have hx3:255≤X+1+127:=zd
    clear hx1
    (go_upto_region 36 with fail;repeat ((first|refine cZ ?_|refine cW ?_);go_upto_region 36 with fail))
    go_quiet (fail)
    (go_wp2_with fail;repeat ((first|refine cZ ?_|refine cW ?_);go_wp2_with fail))
    refine wp_goto ?_
    exact H1.out.out _ _ _ ⟨zb,zb,by simpa using d4',HGR7.out.drewN _,hnear.out⟩
   ·have hx3:decide (255≤X+1+127)=false:=zh
    have htb:=zy1 8388608 zd
    rw[if_neg zd]at htb
    have htb2:bits .and .u64 8388608 8388608=8388608:=htb
    clear htb
    rw[if_neg zd]at hnbR
    have hnbR2:=zH hnbR
    have hnbf:=zH (show decide (nb=2139095040)=false by
     apply decide_eq_false
     have:(E+23+1+127).toNat≤254:=zd
     have:=Nat.mul_le_mul_right 8388608 this
     omega)
    clear hnbR
    (go_upto_region 36 with fail;repeat ((first|refine cZ ?_|refine cW ?_);go_upto_region 36 with fail))
    go_quiet (fail)
    (go_wp2_with fail;repeat ((first|refine cZ ?_|refine cW ?_);go_wp2_with fail))
    refine wp_goto ?_
    refine H0.out.out _ _ _ ⟨8388608,(X+1+127).toNat,false,zb,zb,zb,?_,zb,by simpa using d4',HGR7.out.drewN _,zd,zd,?_,hnbf.out.symm⟩
    ·rw[show (((X+1+127).toNat:Nat):Int)-127=X+1 by omega];simp[ov, *]
    ·rw[hnbR2.out,show E+((23:Nat):Int)+1+127=X+1+127 by omega,Nat.mod_self,Nat.zero_add]
  ·rw[if_neg c1]at hnbR
   have c1i:((R:Int)==16777216)=false:=zf
   have c1j:(R==16777216)=false:=by rw[beq_eq_false_iff_ne];exact c1
   have htb:=zy1 R zd
   by_cases c3:R<8388608
   ·rw[if_pos c3]at hnbR htb
    have hnbR2:=zH hnbR
    have hnbf:=zH (show decide (nb=2139095040)=false by apply decide_eq_false;omega)
    clear hnbR
    (go_wp2_with fail;repeat ((first|refine cZ ?_|refine cW ?_);go_wp2_with fail))
    refine wp_goto ?_
    refine H0.out.out _ _ _ ⟨R,0,false,zb,zb,zb,zb,zb,d4',HGR7.out,zd,zd,?_,hnbf.out.symm⟩
    rw[hnbR2.out,Nat.zero_mul,Nat.add_zero,Nat.mod_eq_of_lt c3]
   ·rw[if_neg c3]at hnbR htb
    rw[if_neg zd]at hnbR
    have hnbR2:=zH hnbR
    have hnbf:=zH (show decide (nb=2139095040)=false by
     apply decide_eq_false
     have:(E+23+127).toNat≤254:=zd
     have:=Nat.mul_le_mul_right 8388608 this
     omega)
    clear hnbR
    (go_wp2_with fail;repeat ((first|refine cZ ?_|refine cW ?_);go_wp2_with fail))
    refine wp_goto ?_
    refine H0.out.out _ _ _ ⟨R,(X+127).toNat,false,zb,zb,zb,?_,zb,d4',HGR7.out,zd,zd,?_,hnbf.out.symm⟩
    ·rw[show (((X+127).toNat:Nat):Int)-127=X by omega];simp[ov, *]
    ·rw[hnbR2.out,show E+((23:Nat):Int)+127=X+127 by omega];omega
 ·rintro σ w' ⟨mant,E,ov',s0,s1,s5,s6,s7,d4,hgr,hm,hE,hval,hov⟩
  have henv:=HE.out.grown hgr (fun k e=>zz)
  have f1:=henv.i32.1
  have f2:=henv.i32.2.1
  have f3:=henv.i32.2.2
  have hlt:g<w'.heap.size:=Nat.lt_of_lt_of_le hlt hgr.size
  have HGR:=zH hgr
  have HV:=zH hval
  have HOV:=zH hov
  clear hgr hval hov henv d1 d2
  have hlow:=zx4 mant zd
  have hexp:=zx7 E hE
  have hor:=zx3 mant E hE
  have hml:mant%8388608<8388608:=Nat.mod_lt _ zd
  obtain⟨lo,hlo⟩:=zX (mant%8388608)
  rw[hlo]at hlow hor hml HV
  have hEs:E*8388608<2147483648:=zd
  have hsh1:IntKind.u64.wrap ((E:Int)*8388608)=((E*8388608:Nat):Int):=zl
  have hsh2:(E:Int)*8388608=((E*8388608:Nat):Int):=zd
  obtain⟨hi',hhi'⟩:=zX (E*8388608)
  rw[hhi']at hor hsh1 hsh2 hEs HV
  have hsg:=zx0 (lo+hi') zd
  obtain⟨bb,hbb⟩:=zX (lo+hi')
  rw[hbb]at hor hsg HV
  have hbl:bb<2147483648:=zd
  have q1:(E:Int)-127 - -127=(E:Int):=zd
  have q2:(E:Int)-127+127=(E:Int):=zd
  have hw64:IntKind.u64.wrap (E:Int)=(E:Int):=zl
  clear hlo hhi' hbb
  (go_upto_region 43 with fail;repeat ((first|refine cZ ?_|refine cW ?_);go_upto_region 43 with fail))
  go_quiet (fail)
  cases ng with
  | false=>
   (go_wp2_with fail;repeat ((first|refine cZ ?_|refine cW ?_);go_wp2_with fail))
   rw[Exit.noGoto_ret]
   refine xc (.int .u64 (bb:Int)) (.bool ov') rfl ze ze zb zb ⟨?_,(by first | exact HGR.out | exact HGR.out.drewN _ | exact (HGR.out.drewN _).drewN _ | exact ((HGR.out.drewN _).drewN _).drewN _)⟩
   rw[←HOV.out,HV.out]
   show _=Ending.returned (.tuple #[.int .u64 ((0+nb:Nat):Int),_])
   rw[Nat.zero_add]
  | true=>
   (go_upto_region 45 with fail;repeat ((first|refine cZ ?_|refine cW ?_);go_upto_region 45 with fail))
   go_quiet (fail)
   (go_wp2_with fail;repeat ((first|refine cZ ?_|refine cW ?_);go_wp2_with fail))
   rw[Exit.noGoto_ret]
   refine xc (.int .u64 ((bb+2147483648:Nat):Int)) (.bool ov') rfl ze ze zb zb ⟨?_,(by first | exact HGR.out | exact HGR.out.drewN _ | exact (HGR.out.drewN _).drewN _ | exact ((HGR.out.drewN _).drewN _).drewN _)⟩
   rw[←HOV.out,HV.out]
   show _=Ending.returned (.tuple #[.int .u64 ((2147483648+nb:Nat):Int),_])
   rw[Nat.add_comm]
 ·rintro σ w' ⟨s0,s1,d4,hgr,hinf⟩
  have henv:=HE.out.grown hgr (fun k e=>zz)
  have f1:=henv.i32.1
  have f2:=henv.i32.2.1
  have f3:=henv.i32.2.2
  have hlt:g<w'.heap.size:=Nat.lt_of_lt_of_le hlt hgr.size
  have HGR:=zH hgr
  obtain⟨mant,hm0⟩:∃ mant:Nat,mant=0:=⟨0,rfl⟩
  obtain⟨E,hEq⟩:∃ E:Nat,E=255:=⟨_,rfl⟩
  have hm:mant<16777216:=zd
  have hE:E≤255:=zd
  have hval:mant%8388608+E*8388608=nb:=by rw[hm0,hEq,hinf]
  have hov:true=decide (nb=2139095040):=by rw[hinf];rfl
  have HV:=zH hval
  have HOV:=zH hov
  have HM0:=zH hm0
  have HEQ:=zH hEq
  clear hgr hval hov henv d1 d2 hinf hm0 hEq
  (go_upto_region 40 with fail;repeat ((first|refine cZ ?_|refine cW ?_);go_upto_region 40 with fail))
  go_quiet (fail)
  go_wp2_with fail
  go_step3
  (go_upto_region 42 with fail;repeat ((first|refine cZ ?_|refine cW ?_);go_upto_region 42 with fail))
  refine zjw (fun s'=>s' 0=.pointer (some ⟨g,0,none⟩)∧s' 1=.pointer (some ⟨4,0,none⟩)∧s' 5=.bool true∧s' 6=.int .i64 ((E:Int)-127)∧s' 7=.int .u64 (mant:Int)) ⟨zb,zb,zb,by rw[HEQ.out];simp[ov, *],by rw[HM0.out];simp[ov, *]⟩ ?_
  clear s0 s1 σ
  rintro σ ⟨s0,s1,s5,s6,s7⟩
  have hlow:=zx4 mant zd
  have hexp:=zx7 E hE
  have hor:=zx3 mant E hE
  have hml:mant%8388608<8388608:=Nat.mod_lt _ zd
  obtain⟨lo,hlo⟩:=zX (mant%8388608)
  rw[hlo]at hlow hor hml HV
  have hEs:E*8388608<2147483648:=zd
  have hsh1:IntKind.u64.wrap ((E:Int)*8388608)=((E*8388608:Nat):Int):=zl
  have hsh2:(E:Int)*8388608=((E*8388608:Nat):Int):=zd
  obtain⟨hi',hhi'⟩:=zX (E*8388608)
  rw[hhi']at hor hsh1 hsh2 hEs HV
  have hsg:=zx0 (lo+hi') zd
  obtain⟨bb,hbb⟩:=zX (lo+hi')
  rw[hbb]at hor hsg HV
  have hbl:bb<2147483648:=zd
  have q1:(E:Int)-127 - -127=(E:Int):=zd
  have q2:(E:Int)-127+127=(E:Int):=zd
  have hw64:IntKind.u64.wrap (E:Int)=(E:Int):=zl
  clear hlo hhi' hbb
  (go_upto_region 43 with fail;repeat ((first|refine cZ ?_|refine cW ?_);go_upto_region 43 with fail))
  go_quiet (fail)
  cases ng with
  | false=>
   (go_wp2_with fail;repeat ((first|refine cZ ?_|refine cW ?_);go_wp2_with fail))
   rw[Exit.noGoto_ret]
   refine xc (.int .u64 (bb:Int)) (.bool true) rfl ze ze zb zb ⟨?_,(by first | exact HGR.out | exact HGR.out.drewN _ | exact (HGR.out.drewN _).drewN _ | exact ((HGR.out.drewN _).drewN _).drewN _)⟩
   rw[←HOV.out,HV.out]
   show _=Ending.returned (.tuple #[.int .u64 ((0+nb:Nat):Int),_])
   rw[Nat.zero_add]
  | true=>
   (go_upto_region 45 with fail;repeat ((first|refine cZ ?_|refine cW ?_);go_upto_region 45 with fail))
   go_quiet (fail)
   (go_wp2_with fail;repeat ((first|refine cZ ?_|refine cW ?_);go_wp2_with fail))
   rw[Exit.noGoto_ret]
   refine xc (.int .u64 ((bb+2147483648:Nat):Int)) (.bool true) rfl ze ze zb zb ⟨?_,(by first | exact HGR.out | exact HGR.out.drewN _ | exact (HGR.out.drewN _).drewN _ | exact ((HGR.out.drewN _).drewN _).drewN _)⟩
   rw[←HOV.out,HV.out]
   show _=Ending.returned (.tuple #[.int .u64 ((2147483648+nb:Nat):Int),_])
   rw[Nat.add_comm]
end Go.Proofs.YtnifedmhgncioaaGreatDoor
