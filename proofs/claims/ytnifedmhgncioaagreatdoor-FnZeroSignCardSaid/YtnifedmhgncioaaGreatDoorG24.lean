/- Lemmas that the claim's top text leans on. No condition of their own. -/
import Derived.Test.YtnifedmhgncioaaGreatDoorG23
namespace Go.Proofs.YtnifedmhgncioaaGreatDoor
open Go.RowKit
set_option linter.unusedSimpArgs false
set_option linter.unusedVariables false
set_option maxHeartbeats 16000000
section
attribute [local go_sem] undef
def AtQ32 (s:List UInt8) (v n:Nat) (ev:Value):Prop:=match qp s with
 | some x=>n=x.2/\ev=.nilIface/\((x.1=zmd/\zxp v)\/(x.1=kp false/\v=2139095040)\/(x.1=kp true/\v=4286578688))
 | none=>match rfP s with
  | none=>v=0/\ev=.iface 101 (.int .i64 2)
  | some R=>n=R.n/\∃ L,zau (s.take R.n)=some L/\v=sgC L.neg+nvL 23 127 2139095040 L/\ev=erV (decide (nvL 23 127 2139095040 L=2139095040))
theorem AtQ32.no {s:List UInt8} (h:qp s=none) (h2:rfP s=none) (n:Nat):AtQ32 s 0 n (.iface 101 (.int .i64 2)):=by
 unfold AtQ32;rw[h,h2];exact⟨rfl,rfl⟩
theorem AtQ32.lit {s:List UInt8} {R:RR} {L:Lit} {v:Nat} {ev:Value} (h:qp s=none) (h2:rfP s=some R) (hL:zau (s.take R.n)=some L) (hv:v=sgC L.neg+nvL 23 127 2139095040 L) (he:ev=erV (decide (nvL 23 127 2139095040 L=2139095040))):AtQ32 s v R.n ev:=by
 unfold AtQ32;rw[h,h2];exact⟨rfl,L,hL,hv,he⟩
theorem zz2 (T d:Nat) (p:Int) (ng:Bool) (w:World) (he:Env T w) (hd0:d≠0) (hd:d<18446744073709551616) (hp1:-348<=p) (hp2:p<=347):
  Calls Tryz.prog 113 #[.int .u64 (d:Int),.int .i64 p,.int .u32 ((sgC ng:Nat):Int)] w fun r w'=>
   r=.returned (.tuple #[.float .f32 (sgC ng+nvT 23 127 2139095040 10 d p),erV (decide (nvT 23 127 2139095040 10 d p=2139095040))])/\w.grownBy w' none:=by
 obtain⟨h1,h2⟩:=zzi d p hd0 hd hp1 hp2;refine (zx2 T d p ng w he hd0 hd hp1 hp2 h1).mono ?_;rintro r w' ⟨rfl,hg⟩;rw[h2];exact⟨rfl,hg⟩
set_option maxRecDepth 100000 in
theorem zza (T:Nat) (s:List UInt8) (w:World) (he:EnvP T w) (hs:s.length<=800):
  Calls Tryz.prog 83 #[.string ⟨s.toArray⟩] w fun e w'=>(∃ (v n:Nat) (ev:Value),e=.returned (.tuple #[.float .f32 v,.int .i64 (n:Int),ev])/\AtQ32 s v n ev)/\w.grownBy w' none:=by
 have hsz:(⟨s.toArray⟩:ByteArray).size=s.length:=zm;have hs4:s.length<=4000000:=zd;refine ye Tryz.func83 rfl (by rw[Tryz.ntmps83];simp) ?_;intro σ hσ;rw[Tryz.ntmps83];have s0:σ 0=.string ⟨s.toArray⟩:=hσ 0 zi;clear hσ;cases hsp:qp s with
 | some x=>
  have HS:=zH (fun W=>zgm hs4 hsp W);have hx3:=zzg hsp;obtain⟨v,n⟩:=x;simp only at hx3 HS;rcases hx3 with hv | hv | hv
  ·have HQ:=zH (fun b (hb:zxp b)=>(show AtQ32 s b n .nilIface by unfold AtQ32;rw[hsp];exact⟨rfl,rfl,Or.inl ⟨hv,hb⟩⟩));obtain⟨b,hb,hcv⟩:=zym v (by rw[hv];exact⟨ze,ze⟩) w;clear hsp hv;(go_wp2_with fail;repeat ((first|refine cZ ?_|refine cW ?_);go_wp2_with fail));refine (HS.out _).mono ?_;rintro e w1 ⟨rfl,hw1⟩;subst w1;(go_wp2_with fail;repeat ((first|refine cZ ?_|refine cW ?_);go_wp2_with fail));exact xy (.float .f32 b) (.int .i64 (n:Int)) .nilIface rfl ze ze ze zb zb zb ⟨⟨b,n,_,rfl,HQ.out b hb⟩,yh w 1 _⟩
  ·have HQ:=zH (show AtQ32 s 2139095040 n .nilIface by unfold AtQ32;rw[hsp];exact⟨rfl,rfl,Or.inr (Or.inl ⟨hv,rfl⟩)⟩);have hcv:=fun W=>run_convert_float_float (P:=Tryz.prog) W 51 60 .f64 .f32 v 2139095040 zγg Tryz.underlying60 (by rw[hv];decide +kernel)
   clear hsp hv;(go_wp2_with fail;repeat ((first|refine cZ ?_|refine cW ?_);go_wp2_with fail));refine (HS.out _).mono ?_;rintro e w1 ⟨rfl,hw1⟩;subst w1;(go_wp2_with fail;repeat ((first|refine cZ ?_|refine cW ?_);go_wp2_with fail));exact xy (.float .f32 2139095040) (.int .i64 (n:Int)) .nilIface rfl ze ze ze zb zb zb ⟨⟨_,n,_,rfl,HQ.out⟩,yy _ _⟩
  ·have HQ:=zH (show AtQ32 s 4286578688 n .nilIface by unfold AtQ32;rw[hsp];exact⟨rfl,rfl,Or.inr (Or.inr ⟨hv,rfl⟩)⟩);have hcv:=fun W=>run_convert_float_float (P:=Tryz.prog) W 51 60 .f64 .f32 v 4286578688 zγg Tryz.underlying60 (by rw[hv];decide +kernel)
   clear hsp hv;(go_wp2_with fail;repeat ((first|refine cZ ?_|refine cW ?_);go_wp2_with fail));refine (HS.out _).mono ?_;rintro e w1 ⟨rfl,hw1⟩;subst w1;(go_wp2_with fail;repeat ((first|refine cZ ?_|refine cW ?_);go_wp2_with fail));exact xy (.float .f32 4286578688) (.int .i64 (n:Int)) .nilIface rfl ze ze ze zb zb zb ⟨⟨_,n,_,rfl,HQ.out⟩,yy _ _⟩
 | none=>
  have HS:=zH (fun W=>zgn hs4 hsp W);have HSP:=zH hsp;clear hsp;(go_wp2_with fail;repeat ((first|refine cZ ?_|refine cW ?_);go_wp2_with fail));refine (HS.out _).mono ?_;rintro e w1 ⟨rfl,rfl⟩;cases hrf:rfP s with
  | none=>
   have HR:=zH (fun W=>zlc hs4 hrf W);have HNO:=zH (fun n=>AtQ32.no HSP.out hrf n);clear hrf;(go_wp2_with fail;repeat ((first|refine cZ ?_|refine cW ?_);go_wp2_with fail));refine (HR.out _).mono ?_;rintro e w1 ⟨⟨a,p,b,c,d,n,rfl⟩,rfl⟩;(go_wp2_with fail;repeat ((first|refine cZ ?_|refine cW ?_);go_wp2_with fail));exact xy (.float .f32 0) (.int .i64 (n:Int)) (.iface 101 (.int .i64 2)) rfl ze ze ze zb zb zb ⟨⟨0,n,_,rfl,HNO.out n⟩,yy _ _⟩
  | some R=>
   have HR:=zH (fun W=>zlb hs4 hrf W);obtain⟨hRn,L,hL,hR⟩:=zsf hrf;have HLIT:=zH (fun v ev h1 h2=>AtQ32.lit (v:=v) (ev:=ev) HSP.out hrf hL h1 h2);have hok:=zfk hL;have hlen:(s.take R.n).length=R.n:=zN;have hexb:=zwn L R.n hok.1 (by have:=hok.2.1;omega) hok.2.2.1;have hnegR:R.neg=L.neg:=by rw[hR];rfl
   have hhexR:R.hex=L.hex:=by rw[hR];rfl
   have HHX:=zH (fun (h:L.hex=true)=>by have:=zok 23 127 2139095040 L R.n hok.1 h ze ze ze;rw[<-hR]at this;exact this);have HDC:=zH (fun (h:L.hex=false)=>by have:=zo9 23 127 2139095040 L R.n hok.1 h ze ze rfl;rw[<-hR]at this;exact this);rw[<-hR]at hexb;have hnl:nvL 23 127 2139095040 L<=2139095040:=ud 23 127 2139095040 _ _ (qg _ (by have:=zjl L.hex;omega)) ze rfl;have hdl:R.mant<18446744073709551616:=by
    cases hx:L.hex with
    | true=>exact (HHX.out hx).1
    | false=>exact Nat.lt_of_lt_of_le (HDC.out hx).lt ze
   have HL:=zH hL;clear hrf hL hok hR;rw[hnegR,hhexR]at HR;obtain⟨d,hd⟩:=zX R.mant;obtain⟨p,hp⟩:=zX R.exp;obtain⟨tr,htr⟩:=zX R.tr;obtain⟨n,hn⟩:=zX R.n;obtain⟨ng,hng⟩:=zX L.neg;obtain⟨nv,hnv⟩:=zX (nvL 23 127 2139095040 L);rw[hd,hp,htr,hn,hng]at HR;rw[hd,hp,htr,hnv]at HHX HDC;rw[hn,hng,hnv]at HLIT;rw[hn]at hRn hlen HL;rw[hp]at hexb;rw[hd]at hdl;rw[hnv]at hnl;have hcut:=zqe s n hRn;have hnN:(n:Int)<=(s.length:Int):=zd;have HNG:=zH hng;clear hd hp htr hn hng hnv hnegR hhexR;cases hx:L.hex with
   | true=>
    obtain⟨x1,x2,x3⟩:=HHX.out hx;rw[hx]at HR;clear HHX HDC hx;have hb32:sgN ng+nv<4294967296:=by cases ng <;> simp[sgN] <;> omega
    obtain⟨r,hr1,hr2,hr3⟩:=zyp (sgN ng+nv) hb32 (fun h=>by have h2:=h.2;cases ng <;> simp[sgN]at h2 <;> omega);have HH:=zH (fun sv W (hE:EnvP T W)=>zyn T d nv p ng tr sv W hE hdl zd zd x2 (fun h=>⟨by have:=(x3 h).1;omega,(x3 h).2⟩) hnl r hr2);have hcv:=fun W=>run_convert_float_float (P:=Tryz.prog) W 51 60 .f64 .f32 r (sgN ng+nv) zγg Tryz.underlying60 hr3
    clear x1 x2 x3 hr2 hr3;(go_wp2_with fail;repeat ((first|refine cZ ?_|refine cW ?_);go_wp2_with fail));refine (HR.out _).mono ?_;rintro e w1 ⟨rfl,hw1⟩;subst w1;(go_wp2_with fail;repeat ((first|refine cZ ?_|refine cW ?_);go_wp2_with fail));refine (HH.out _ _ he).mono ?_;rintro e w1 ⟨rfl,hg⟩;(go_wp2_with fail;repeat ((first|refine cZ ?_|refine cW ?_);go_wp2_with fail));exact xy (.float .f32 (sgN ng+nv)) (.int .i64 (n:Int)) (erV (decide (nv=2139095040))) rfl ze ze ze zb zb zb ⟨⟨_,n,_,rfl,HLIT.out _ _ rfl rfl⟩,hg⟩
   | false=>
    have hdc:=HDC.out hx;rw[hx]at HR;have HX:=zH hx;clear HHX HDC hx;have HDC:=zH hdc;have hopt:=he.env.opt;have HE:=zH he;have hlt:=he.env.size;clear hdc he;have hsgw:IntKind.u32.wrap (2147483648*(if ng then 1 else 0))=((sgC ng:Nat):Int):=zαQ;have hor0:bits .or .u32 ((sgC ng:Nat):Int) 0=((sgC ng:Nat):Int):=zαQ;have hsgw2:IntKind.u32.wrap (((b2n ng:Nat):Int)*2147483648)=((sgC ng:Nat):Int):=zαQ;have hsgw3:((if ng=true then 1 else 0:Int))*2147483648=((sgC ng:Nat):Int):=zαQ;have hori:bits .or .u32 ((sgC ng:Nat):Int) 2139095040=((sgC ng+2139095040:Nat):Int):=zzk ng;obtain⟨S,hS⟩:=zX (sgC ng);rw[hS]at hor0 hori hsgw hsgw2 hsgw3;obtain⟨S2,hS2⟩:=zX (S+2139095040);rw[hS2]at hori;have HS2:=zH hS2;clear hS2;have HS0:=zH hS;clear hS;(go_wp2_with fail;repeat ((first|refine cZ ?_|refine cW ?_);go_wp2_with fail));refine (HR.out _).mono ?_;rintro e w1 ⟨rfl,rfl⟩;(go_wp2_with fail;repeat ((first|refine cZ ?_|refine cW ?_);go_wp2_with fail));refine (zy9 ng _).mono ?_;rintro e w1 ⟨rfl,hw1⟩;subst w1;(go_upto_region 12 with fail;repeat ((first|refine cZ ?_|refine cW ?_);go_upto_region 12 with fail));refine zjw (fun s'=>s' 0=.string ⟨s.toArray⟩/\s' 3=.int .i64 (n:Int)/\s' 4=.nilIface/\s' 8=.int .u64 (d:Int)/\s' 9=.int .i64 p/\s' 10=.bool ng/\s' 11=.bool tr/\s' 16=.int .u32 (S:Int)) ⟨zb,zb,zb,zb,zb,zb,zb,zb⟩ ?_;clear s0 σ hsgw hsgw2 hsgw3 HR;rintro σ ⟨s0,s3,s4,s8,s9,s10,s11,s16⟩;have hext:=fun (W:World)=>zxs S W
    have hexti:=fun (W:World)=>zxs S2 W
    by_cases hd0:d=0
    ·have HF:=zH (HLIT.out S .nilIface (by rw[HS0.out,(HDC.out.zero hd0).1,Nat.add_zero]) (by rw[(HDC.out.zero hd0).1];rfl));subst hd0;(go_wp2_with fail;repeat ((first|refine cZ ?_|refine cW ?_);go_wp2_with fail));exact xy (.float .f32 S) (.int .i64 (n:Int)) .nilIface rfl ze ze ze zb zb zb ⟨⟨S,n,_,rfl,HF.out⟩,yy _ _⟩
    have g1:((d:Int)==0)=false:=zf;have g2:(d==0)=false:=by rw[beq_eq_false_iff_ne];exact hd0
    have HD0:=zH hd0;clear hd0;by_cases hp1:40<p
    ·have hn:=HDC.out.over 39 HD0.out zd zp ze;have HF:=zH (HLIT.out S2 (.iface 101 (.int .i64 1)) (by rw[HS0.out,hn];exact HS2.out.symm) (by rw[hn];rfl));clear hn;(go_wp2_with fail;repeat ((first|refine cZ ?_|refine cW ?_);go_wp2_with fail));exact xy (.float .f32 S2) (.int .i64 (n:Int)) (.iface 101 (.int .i64 1)) rfl ze ze ze zb zb zb ⟨⟨S2,n,_,rfl,HF.out⟩,yy _ _⟩
    have g3:decide (40<p)=false:=decide_eq_false hp1;by_cases hp2:p < -70
    ·have hn:=HDC.out.under 51 HD0.out zd zp ze ze;have HF:=zH (HLIT.out S .nilIface (by rw[HS0.out,hn,Nat.add_zero]) (by rw[hn];rfl));clear hn;(go_wp2_with fail;repeat ((first|refine cZ ?_|refine cW ?_);go_wp2_with fail));exact xy (.float .f32 S) (.int .i64 (n:Int)) .nilIface rfl ze ze ze zb zb zb ⟨⟨S,n,_,rfl,HF.out⟩,yy _ _⟩
    have g4:decide (p < -70)=false:=decide_eq_false hp2;clear hor0 hori hext hexti;(go_upto_region 18 with fail;repeat ((first|refine cZ ?_|refine cW ?_);go_upto_region 18 with fail));go_wp2_with fail;refine yr (fun s' w'=>s' 0=.string ⟨s.toArray⟩/\s' 3=.int .i64 (n:Int)/\s' 4=.nilIface/\s' 8=.int .u64 (d:Int)/\s' 9=.int .i64 p/\s' 10=.bool ng/\s' 11=.bool tr/\s' 16=.int .u32 (S:Int)/\w=w') ?_ ?_
    ·intro R' K' HR hK';cases tr
     ·have HEX:=zH (fun W (hE:EnvP T W)=>zx8 T d p ng W hE HD0.out hdl zd zd);have HSM:=zH (HDC.out.same rfl);have hgr1:=yy w none;(go_wp2_with fail;repeat ((first|refine cZ ?_|refine cW ?_);go_wp2_with fail));refine (HEX.out _ HE.out).mono ?_;rintro e w1 ⟨v,ok,rfl,hv,rfl⟩;have HV:=zH hv;clear hv;cases ok
      ·(go_wp2_with fail;repeat ((first|refine cZ ?_|refine cW ?_);go_wp2_with fail));exact got HR ⟨zb,zb,zb,zb,zb,zb,zb,zb,rfl⟩
      ·obtain⟨hv1,hv2,hv3⟩:=HV.out rfl;have hnf:nv≠2139095040:=by rw[HSM.out];exact zt9 23 127 2139095040 d 17 p (Nat.lt_of_lt_of_le hv2 zp) ze ze rfl zd zp
       have HF:=zH (HLIT.out v .nilIface (by rw[hv1,HSM.out];rfl) (by rw[decide_eq_false hnf];rfl));clear hv1 hv2 hv3 hnf;(go_wp2_with fail;repeat ((first|refine cZ ?_|refine cW ?_);go_wp2_with fail));exact xy (.float .f32 v) (.int .i64 (n:Int)) .nilIface rfl ze ze ze zb zb zb ⟨⟨v,n,_,rfl,HF.out⟩,hgr1⟩
     ·(go_wp2_with fail;repeat ((first|refine cZ ?_|refine cW ?_);go_wp2_with fail));exact got HR ⟨zb,zb,zb,zb,zb,zb,zb,zb,rfl⟩
    clear s0 s3 s4 s8 s9 s10 s11 s16 σ g1 g2 g3 g4;rintro σ w1 ⟨s0,s3,s4,s8,s9,s10,s11,s16,rfl⟩;have hp1':-348<=p:=zd;have hp2':p<=347:=zd;have HPF:=zH (fun d' (W:World) (hE:Env T W) (h0:d'≠0) (hd':d'<18446744073709551616)=>zz2 T d' p ng W hE h0 hd' hp1' hp2');rw[HS0.out]at HPF;have hd19:d+1<18446744073709551616:=Nat.lt_of_le_of_lt (Nat.succ_le_of_lt HDC.out.lt) ze;obtain⟨X1,hX1⟩:=zX (nvT 23 127 2139095040 10 d p);have HX1:=zH hX1;have HP1:=zH (fun W hE=>hX1 ▸ HPF.out d W hE HD0.out hdl);clear hX1;(go_wp2_with fail;repeat ((first|refine cZ ?_|refine cW ?_);go_wp2_with fail));refine (HP1.out _ HE.out.env).mono ?_;rintro e w2 ⟨rfl,hg2⟩;have HG2:=zH hg2;have hlt2:=hg2.size;clear hg2;cases tr
    ·have hsm:nv=X1:=by rw[HDC.out.same rfl];exact HX1.out
     have HF:=zH (HLIT.out (S+X1) (erV (decide (X1=2139095040))) (by rw[HS0.out,hsm]) (by rw[hsm]));clear hsm;(go_wp2_with fail;repeat ((first|refine cZ ?_|refine cW ?_);go_wp2_with fail));exact xy (.float .f32 (S+X1)) (.int .i64 (n:Int)) (erV (decide (X1=2139095040))) rfl ze ze ze zb zb zb ⟨⟨S+X1,n,_,rfl,HF.out⟩,HG2.out⟩
    obtain⟨X2,hX2⟩:=zX (nvT 23 127 2139095040 10 (d+1) p);have HX2:=zH hX2;have HP2:=zH (fun W hE=>hX2 ▸ HPF.out (d+1) W hE zd hd19);clear hX2 HP1 HPF;have q1:IntKind.u64.wrap ((d:Int)+1)=(((d+1:Nat):Nat):Int):=zl;(go_wp2_with fail;repeat ((first|refine cZ ?_|refine cW ?_);go_wp2_with fail));refine (HP2.out _ (HE.out.grown HG2.out (fun _ e=>zL)).env).mono ?_;rintro e w3 ⟨rfl,hg3⟩;have HG3:=zH (yx HG2.out hg3 (fun _ e _=>zL));have hlt3:=HG3.out.size;clear hg3 HG2 hlt2;obtain⟨b,hb⟩:=zX ((FloatKind.f32.format.order (S+X1) (S+X2)==some Ordering.eq));cases b;rotate_left 1
    ·have hsm:nv=X1:=by
      have h1:=zt2 FmtOK.single ng X1 X2 (by rw[<-HX1.out];exact zec 23 127 2139095040 _ _ ze rfl) (by rw[<-HX2.out];exact zec 23 127 2139095040 _ _ ze rfl) (by rw[zxr,zxr,HS0.out];exact eq_of_beq hb);have h2:=HDC.out.lo;have h3:=HDC.out.hi rfl;rw[HX1.out]at h2;rw[HX2.out]at h3;omega
     have HF:=zH (HLIT.out (S+X1) (erV (decide (X1=2139095040))) (by rw[HS0.out,hsm]) (by rw[hsm]));clear hsm;(go_wp2_with fail;repeat ((first|refine cZ ?_|refine cW ?_);go_wp2_with fail));exact xy (.float .f32 (S+X1)) (.int .i64 (n:Int)) (erV (decide (X1=2139095040))) rfl ze ze ze zb zb zb ⟨⟨S+X1,n,_,rfl,HF.out⟩,HG3.out⟩
    have HNS:=zH (Dec.new w3);have HE3:=zH ((HE.out.grown HG3.out (fun _ e=>zL)).alloc (Obj.cells Tryz.zeroCells152 152));have HN0:=zH (HDC.out.ne HD0.out);(go_wp2_with fail;repeat ((first|refine cZ ?_|refine cW ?_);go_wp2_with fail));refine (zts w3.heap.size (s.take n) L (List.replicate 800 0) false false _ HL.out HX.out HN0.out (by rw[hlen];omega) HNS.out).mono ?_;rintro e w4 ⟨rfl,hdt,hg4⟩;rw[HNG.out]at hdt;have HDT:=zH hdt;have HG4:=zH hg4;clear hdt hg4;have HE4:=zH (HE3.out.grown HG4.out (fun k e=>by cases e;exact Nat.le_trans hlt hlt3));have hdp1:=HDC.out.dp1 HD0.out;have hdp2:=HDC.out.dp2 HD0.out;have HFB:=zH (fun W (h:W=w4)=>h ▸ zx6 T w3.heap.size L.num L.ex ng w4 HE4.out zd HDT.out zd zd);have hnvis:zxq (L.num*10^L.ex.toNat) (10^(-L.ex).toNat)=nv:=HDC.out.nvis.symm;rw[hnvis]at HFB;obtain⟨S3,hS3⟩:=zX (sgN ng+nv);rw[hS3]at HFB;have HS3:=zH hS3;obtain⟨bo,hbo⟩:=zX (decide (nv=2139095040));rw[hbo]at HFB;have HF:=zH (HLIT.out S3 (erV bo) hS3.symm (by rw[hbo]));have HGW:=zH (fun w5 (hg5:Gr w4 w5 w3.heap.size)=>yx HG3.out (row1:=none) (zom (World.grownBy_alloc w3 (Obj.cells Tryz.zeroCells152 152) none) (HG4.out.trans hg5)) (fun _ e _=>zL));clear hnvis hdp1 hdp2 HX1 HX2 HP2 HDC hS3 hbo;(go_wp2_with fail;repeat ((first|refine cZ ?_|refine cW ?_);go_wp2_with fail));refine (HFB.out _ rfl).mono ?_;rintro e w5 ⟨rfl,hg5⟩;have HG5:=zH (HGW.out w5 hg5);clear hg5 HGW;have hext:=fun (W:World)=>zxs S3 W
    have hwS:IntKind.u32.wrap (S3:Int)=(S3:Int):=by
     have:S3<4294967296:=by rw[<-HS3.out];cases ng <;> simp[sgN] <;> omega
     rw[IntKind.wrap_u32];omega
    cases bo
    ·(go_wp2_with fail;repeat ((first|refine cZ ?_|refine cW ?_);go_wp2_with fail));exact xy (.float .f32 S3) (.int .i64 (n:Int)) .nilIface rfl ze ze ze zb zb zb ⟨⟨S3,n,_,rfl,HF.out⟩,HG5.out⟩
    ·(go_wp2_with fail;repeat ((first|refine cZ ?_|refine cW ?_);go_wp2_with fail));exact xy (.float .f32 S3) (.int .i64 (n:Int)) (.iface 101 (.int .i64 1)) rfl ze ze ze zb zb zb ⟨⟨S3,n,_,rfl,HF.out⟩,HG5.out⟩
end
def PaQ32 (s:List UInt8) (v k:Nat):Prop:=match ul s with
 | none=>v=0/\k=1
 | some t=>(t.kind=2->zxp v/\k=0)/\(t.kind=1->v=(if t.neg then 4286578688 else 2139095040)/\k=0)/\
  (t.kind=0->v=sgC t.neg+spB 23 127 2139095040 t/\k=if spB 23 127 2139095040 t=2139095040 then 2 else 0)
theorem PaQ32.bad {s:List UInt8} (h:ul s=none):PaQ32 s 0 1:=by unfold PaQ32;rw[h];exact⟨rfl,rfl⟩
theorem zx1 (b:Bool):zmd≠kp b:=by cases b <;> decide
theorem zzp:kp false≠kp true:=by decide
theorem zzv {s:List UInt8} {v n:Nat} {ev:Value} (h:AtQ32 s v n ev) (hs:s.length<=800):(n=s.length->∃ k,ev=erK k/\PaQ32 s v k)/\(n≠s.length->PaQ32 s 0 1):=by
 unfold AtQ32 at h;refine zco s _ (fun hsp hr=>?_) (fun ng hsp hr=>?_) (fun hsp hr=>?_)
 ·rw[hsp]at h;obtain⟨rfl,rfl,hx⟩:=h;refine⟨fun _=>⟨0,rfl,?_⟩,fun h=>absurd rfl h⟩;have hx2:zxp v:=by
   rcases hx with⟨-,h⟩ | ⟨h,-⟩ | ⟨h,-⟩
   ·exact h
   ·exact absurd h (zx1 _)
   ·exact absurd h (zx1 _)
  unfold PaQ32;rw[hr];exact⟨fun _=>⟨hx2,rfl⟩,fun h=>absurd h (by show ¬(2:Int)=1;decide),fun h=>absurd h (by show ¬(2:Int)=0;decide)⟩
 ·rw[hsp]at h;obtain⟨rfl,rfl,hx⟩:=h;refine⟨fun _=>⟨0,rfl,?_⟩,fun h=>absurd rfl h⟩;have hx2:v=if ng then 4286578688 else 2139095040:=by
   rcases hx with⟨h,-⟩ | ⟨h,h2⟩ | ⟨h,h2⟩
   ·exact absurd h.symm (zx1 _)
   ·cases ng
    ·exact h2
    ·exact absurd h.symm zzp
   ·cases ng
    ·exact absurd h zzp
    ·exact h2
  unfold PaQ32;rw[hr];exact⟨fun h=>absurd h (by show ¬(1:Int)=2;decide),fun _=>⟨hx2,rfl⟩,fun h=>absurd h (by show ¬(1:Int)=0;decide)⟩
 ·rcases hsp with hsp | ⟨v',n',hsp,hn',hl⟩
  ·rw[hsp]at h;simp only at h;cases hrf:rfP s with
   | none=>
    rw[hrf]at h;obtain⟨rfl,rfl⟩:=h;have hb:=PaQ32.bad (s:=s) (by rw[hr,zq7 hrf];rfl);exact⟨fun _=>⟨1,rfl,hb⟩,fun _=>hb⟩
   | some R=>
    rw[hrf]at h;obtain⟨rfl,L,hL,rfl,rfl⟩:=h;obtain⟨w1,w2⟩:=zql hrf;refine⟨fun hn=>?_,fun hn=>PaQ32.bad (by rw[hr,w2 hn];rfl)⟩;obtain⟨L',hL',hL2⟩:=w1 hn;rw[hL]at hL2;cases hL2;have hv:=zto 23 127 2139095040 hL' zd ze ze ze ze;refine⟨_,zus _,?_⟩;unfold PaQ32;rw[hr,hL'];refine⟨fun h=>absurd h (by show ¬(0:Int)=2;decide),fun h=>absurd h (by show ¬(0:Int)=1;decide),fun _=>?_⟩;rw[hv];exact⟨rfl,zi⟩
  ·rw[hsp]at h;obtain⟨rfl,rfl,-⟩:=h;exact⟨fun h=>absurd h hn',fun _=>PaQ32.bad (by rw[hr,hl];rfl)⟩
section
attribute [local go_sem] undef
def yak (v r:Nat):Prop:=(zxp v/\zzw r)\/(v<4294967296/\¬zxp v/\r<18446744073709551616/\floatToFloatBits .f32 v .f64=some r)
def PaQw (s:List UInt8) (r k:Nat):Prop:=∃ v,PaQ32 s v k/\yak v r
theorem zze:yak 0 0:=Or.inr ⟨ze,by rintro⟨-,h⟩;revert h;decide,ze,zp⟩
theorem zxo (L:Lit):nvL 23 127 2139095040 L<=2139095040:=by
 unfold nvL nvT;exact ud 23 127 2139095040 _ _ (qg _ zαO) ze ze 
theorem AtQ32.lt {s:List UInt8} {v n:Nat} {ev:Value} (h:AtQ32 s v n ev):v<4294967296:=by
 unfold AtQ32 at h;split at h
 ·obtain⟨-,-,h⟩:=h;rcases h with⟨-,h⟩ | ⟨-,h⟩ | ⟨-,h⟩
  ·exact h.1
  ·omega
  ·omega
 ·split at h
  ·omega
  ·obtain⟨-,L,-,hv,-⟩:=h;have:=zxo L;have h2:sgC L.neg<=2147483648:=by unfold sgC;split <;> omega
   omega
set_option maxRecDepth 100000 in
theorem zgy (T:Nat) (s:List UInt8) (w:World) (he:EnvP T w) (hs:s.length<=800):
  Calls Tryz.prog 63 #[.string ⟨s.toArray⟩,.int .i64 64] w fun e w'=>(∃ (v n:Nat) (ev:Value),e=.returned (.tuple #[.float .f64 v,.int .i64 (n:Int),ev])/\AtQ64 s v n ev)/\w.grownBy w' none:=by
 have HAT:=zH (zl9 T s w he hs);refine ye Tryz.func63 rfl (by rw[Tryz.ntmps63];simp) ?_;intro σ hσ;rw[Tryz.ntmps63];have s0:σ 0=.string ⟨s.toArray⟩:=hσ 0 zi;have s1:σ 1=.int .i64 64:=hσ 1 zi;clear hσ;(go_wp2_with fail;repeat ((first|refine cZ ?_|refine cW ?_);go_wp2_with fail));refine HAT.out.mono ?_;rintro e w1 ⟨⟨v,n,ev,rfl,hq⟩,hg⟩;have HQ:=zH hq;clear hq;(go_wp2_with fail;repeat ((first|refine cZ ?_|refine cW ?_);go_wp2_with fail));exact xy (.float .f64 v) (.int .i64 (n:Int)) ev rfl ze ze ze zb zb zb ⟨⟨v,n,ev,rfl,HQ.out⟩,hg⟩
set_option maxRecDepth 100000 in
theorem zys (T:Nat) (s:List UInt8) (w:World) (he:EnvP T w) (hs:s.length<=800):
  Calls Tryz.prog 63 #[.string ⟨s.toArray⟩,.int .i64 32] w fun e w'=>(∃ (v r n:Nat) (ev:Value),e=.returned (.tuple #[.float .f64 r,.int .i64 (n:Int),ev])/\AtQ32 s v n ev/\yak v r)/\w.grownBy w' none:=by
 have HAT:=zH (zza T s w he hs);refine ye Tryz.func63 rfl (by rw[Tryz.ntmps63];simp) ?_;intro σ hσ;rw[Tryz.ntmps63];have s0:σ 0=.string ⟨s.toArray⟩:=hσ 0 zi;have s1:σ 1=.int .i64 32:=hσ 1 zi;clear hσ;(go_wp2_with fail;repeat ((first|refine cZ ?_|refine cW ?_);go_wp2_with fail));refine HAT.out.mono ?_;rintro e w1 ⟨⟨v,n,ev,rfl,hq⟩,hg⟩;have hv:=hq.lt;have HQ:=zH hq;clear hq;by_cases hn:zxp v
 ·obtain⟨r,hr,hcv⟩:=zyz v hn w1;have HN:=zH (And.intro hn hr);clear hn hr hv;(go_wp2_with fail;repeat ((first|refine cZ ?_|refine cW ?_);go_wp2_with fail));exact xy (.float .f64 r) (.int .i64 (n:Int)) ev rfl ze ze ze zb zb zb ⟨⟨v,r,n,ev,rfl,HQ.out,Or.inl HN.out⟩,ym hg (yh w1 1 none)⟩
 ·obtain⟨r,hr,hf,-⟩:=zyp v hv hn;have hcv:=fun W=>run_convert_float_float (P:=Tryz.prog) W 60 51 .f32 .f64 v r (by rw[Tryz.underlying60];rfl) Tryz.underlying51 hf
  have HW:=zH (show yak v r from Or.inr ⟨hv,hn,hr,hf⟩);clear hn hr hv hf;(go_wp2_with fail;repeat ((first|refine cZ ?_|refine cW ?_);go_wp2_with fail));exact xy (.float .f64 r) (.int .i64 (n:Int)) ev rfl ze ze ze zb zb zb ⟨⟨v,r,n,ev,rfl,HQ.out,HW.out⟩,hg⟩
set_option maxRecDepth 100000 in
theorem zlu (s:List UInt8) (bs:Int) (w:World) (P:Nat->Nat->Prop) (Q:Nat->Nat->Value->Prop) (hs:s.length<=800)
  (HAT:Calls Tryz.prog 63 #[.string ⟨s.toArray⟩,.int .i64 bs] w fun e w'=>(∃ (v n:Nat) (ev:Value),e=.returned (.tuple #[.float .f64 v,.int .i64 (n:Int),ev])/\Q v n ev)/\w.grownBy w' none)
  (hq1:∀ v n ev,Q v n ev->n=s.length->∃ k,ev=erK k/\P v k) (hq2:∀ v n ev,Q v n ev->n≠s.length->P 0 1):
  Calls Tryz.prog 46 #[.string ⟨s.toArray⟩,.int .i64 bs] w fun e w'=>(∃ v k:Nat,e=.returned (.tuple #[.float .f64 v,erK k])/\P v k)/\w.grownBy w' none:=by
 have HAT:=zH HAT;have HQ:=zH (And.intro hq1 hq2);clear hq1 hq2;refine ye Tryz.func46 rfl (by rw[Tryz.ntmps46];simp) ?_;intro σ hσ;rw[Tryz.ntmps46];have s0:σ 0=.string ⟨s.toArray⟩:=hσ 0 zi;have s1:σ 1=.int .i64 bs:=hσ 1 zi;clear hσ;have hsz:(⟨s.toArray⟩:ByteArray).size=s.length:=zm;obtain⟨N,hN⟩:=zX s.length;rw[hN]at hsz hs HQ;clear hN;(go_wp2_with fail;repeat ((first|refine cZ ?_|refine cW ?_);go_wp2_with fail));refine HAT.out.mono ?_;rintro e w1 ⟨⟨v,n,ev,rfl,hq⟩,hg⟩;by_cases h:n=N
 ·subst h;obtain⟨k,rfl,hp⟩:=HQ.out.1 v n ev hq rfl;have HP:=zH hp;clear hp hq;generalize hE:erK k=E;(go_wp2_with fail;repeat ((first|refine cZ ?_|refine cW ?_);go_wp2_with fail));exact xc (.float .f64 v) E rfl ze ze zb zb ⟨⟨v,k,by rw[hE],HP.out⟩,hg⟩
 ·have HP:=zH (HQ.out.2 v n ev hq h);clear hq;obtain⟨a1,a2,a3⟩:((n:Int)==(N:Int))=false/\(n==N)=false/\¬((n:Int)=(N:Int)):=⟨zf,by rw[beq_eq_false_iff_ne];exact h,zd⟩;have a4:((n:Int) != (N:Int))=true:=by rw[bne,a1];rfl
  have H:=zH h;clear h;(go_wp2_with fail;repeat ((first|refine cZ ?_|refine cW ?_);go_wp2_with fail));exact xc (.float .f64 0) (.iface 101 (.int .i64 2)) rfl ze ze zb zb ⟨⟨0,1,rfl,HP.out⟩,hg⟩
theorem zfo (T:Nat) (s:List UInt8) (w:World) (he:EnvP T w) (hs:s.length<=800):
  Calls Tryz.prog 46 #[.string ⟨s.toArray⟩,.int .i64 64] w fun e w'=>(∃ v k:Nat,e=.returned (.tuple #[.float .f64 v,erK k])/\PaQ64 s v k)/\w.grownBy w' none:=
 zlu s 64 w (PaQ64 s) (AtQ64 s) hs (zgy T s w he hs) (fun v n ev h hn=>(zpr h hs).1 hn) (fun v n ev h hn=>(zpr h hs).2 hn)
theorem zyi (T:Nat) (s:List UInt8) (w:World) (he:EnvP T w) (hs:s.length<=800):
  Calls Tryz.prog 46 #[.string ⟨s.toArray⟩,.int .i64 32] w fun e w'=>(∃ r k:Nat,e=.returned (.tuple #[.float .f64 r,erK k])/\PaQw s r k)/\w.grownBy w' none:=by
 refine zlu s 32 w (PaQw s) (fun r n ev=>∃ v,AtQ32 s v n ev/\yak v r) hs ?_ ?_ ?_
 ·refine (zys T s w he hs).mono ?_;rintro e w1 ⟨⟨v,r,n,ev,rfl,h1,h2⟩,hg⟩;exact⟨⟨r,n,ev,rfl,v,h1,h2⟩,hg⟩
 ·rintro r n ev ⟨v,h,hw⟩ hn;obtain⟨k,h1,h2⟩:=(zzv h hs).1 hn;exact⟨k,h1,v,h2,hw⟩
 ·rintro r n ev ⟨v,h,hw⟩ hn;exact⟨0,(zzv h hs).2 hn,zze⟩
end
end Go.Proofs.YtnifedmhgncioaaGreatDoor
