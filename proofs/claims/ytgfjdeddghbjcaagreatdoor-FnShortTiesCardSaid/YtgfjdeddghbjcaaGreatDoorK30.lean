/- Lemmas that the claim's top text leans on. No condition of their own. -/
import Derived.LaidEqlPtr
import Derived.Test.YtgfjdeddghbjcaaGreatDoorK18
import Derived.Test.YtgfjdeddghbjcaaGreatDoorK29
namespace Go.Proofs.YtgfjdeddghbjcaaGreatDoor
open Go.RowKit
set_option linter.unusedSimpArgs false
set_option linter.unusedVariables false
set_option maxHeartbeats 16000000
section
attribute [local go_sem] undef
def AtQ64 (s:List UInt8) (v n:Nat) (ev:Value):Prop:=match qp s with
 | some x=>v=x.1/\n=x.2/\ev=.nilIface
 | none=>match rfP s with
  | none=>v=0/\ev=.iface 105 (.int .i64 2)
  | some R=>n=R.n/\∃ L,zau (s.take R.n)=some L/\v=sgB L.neg+nvL 52 1023 9218868437227405312 L/\ev=erV (decide (nvL 52 1023 9218868437227405312 L=9218868437227405312))
theorem AtQ64.lit {s:List UInt8} {R:RR} {L:Lit} {v:Nat} {ev:Value} (h:qp s=none) (h2:rfP s=some R) (hL:zau (s.take R.n)=some L) (hv:v=sgB L.neg+nvL 52 1023 9218868437227405312 L) (he:ev=erV (decide (nvL 52 1023 9218868437227405312 L=9218868437227405312))):AtQ64 s v R.n ev:=by
 unfold AtQ64;rw[h,h2];exact⟨rfl,L,hL,hv,he⟩
theorem zqx (T d:Nat) (p:Int) (ng:Bool) (w:World) (he:Env T w) (hd0:d≠0) (hd:d<18446744073709551616) (hp1:-348<=p) (hp2:p<=347):
  Calls Tryz.prog 143 #[.int .u64 (d:Int),.int .i64 p,.int .u64 ((sgB ng:Nat):Int)] w fun r w'=>
   r=.returned (.tuple #[.float .f64 (sgB ng+nvT 52 1023 9218868437227405312 10 d p),erV (decide (nvT 52 1023 9218868437227405312 10 d p=9218868437227405312))])/\w.grownBy w' none:=by
 obtain⟨h1,h2⟩:=zng d p hd0 hd hp1 hp2;refine (zb5 T d p ng w he hd0 hd hp1 hp2 h1).mono ?_;rintro r w' ⟨rfl,hg⟩;rw[h2];exact⟨rfl,hg⟩
end
theorem zpr {s:List UInt8} {v n:Nat} {ev:Value} (h:AtQ64 s v n ev) (hs:s.length<=800):(n=s.length->∃ k,ev=erK k/\PaQ64 s v k)/\(n≠s.length->PaQ64 s 0 1):=by
 unfold AtQ64 at h;refine zco s _ (fun hsp hr=>?_) (fun ng hsp hr=>?_) (fun hsp hr=>?_)
 ·rw[hsp]at h;obtain⟨rfl,rfl,rfl⟩:=h;refine⟨fun _=>⟨0,rfl,?_⟩,fun h=>absurd rfl h⟩;unfold PaQ64;rw[hr];exact⟨fun _=>⟨by show 9218868437227405312<zmd%9223372036854775808/\zmd<18446744073709551616;decide,rfl⟩,fun h=>absurd h (by show ¬(2:Int)=1;decide),fun h=>absurd h (by show ¬(2:Int)=0;decide)⟩
 ·rw[hsp]at h;obtain⟨rfl,rfl,rfl⟩:=h;refine⟨fun _=>⟨0,rfl,?_⟩,fun h=>absurd rfl h⟩;unfold PaQ64;rw[hr];exact⟨fun h=>absurd h (by show ¬(1:Int)=2;decide),fun _=>⟨rfl,rfl⟩,fun h=>absurd h (by show ¬(1:Int)=0;decide)⟩
 ·rcases hsp with hsp | ⟨v',n',hsp,hn',hl⟩
  ·rw[hsp]at h;simp only at h;cases hrf:rfP s with
   | none=>
    rw[hrf]at h;obtain⟨rfl,rfl⟩:=h;have hb:=PaQ64.bad (s:=s) (by rw[hr,zq7 hrf];rfl);exact⟨fun _=>⟨1,rfl,hb⟩,fun _=>hb⟩
   | some R=>
    rw[hrf]at h;obtain⟨rfl,L,hL,rfl,rfl⟩:=h;obtain⟨w1,w2⟩:=zql hrf;refine⟨fun hn=>?_,fun hn=>PaQ64.bad (by rw[hr,w2 hn];rfl)⟩;obtain⟨L',hL',hL2⟩:=w1 hn;rw[hL]at hL2;cases hL2;have hv:=zto 52 1023 9218868437227405312 hL' zd ze ze ze ze;refine⟨_,zus _,?_⟩;unfold PaQ64;rw[hr,hL'];refine⟨fun h=>absurd h (by show ¬(0:Int)=2;decide),fun h=>absurd h (by show ¬(0:Int)=1;decide),fun _=>?_⟩;rw[hv];exact⟨rfl,zi⟩
  ·rw[hsp]at h;obtain⟨rfl,rfl,rfl⟩:=h;exact⟨fun h=>absurd h hn',fun _=>PaQ64.bad (by rw[hr,hl];rfl)⟩
section
attribute [local go_sem] undef
def AtQ32 (s:List UInt8) (v n:Nat) (ev:Value):Prop:=match qp s with
 | some x=>n=x.2/\ev=.nilIface/\((x.1=zmd/\zxp v)\/(x.1=kp false/\v=2139095040)\/(x.1=kp true/\v=4286578688))
 | none=>match rfP s with
  | none=>v=0/\ev=.iface 105 (.int .i64 2)
  | some R=>n=R.n/\∃ L,zau (s.take R.n)=some L/\v=sgC L.neg+nvL 23 127 2139095040 L/\ev=erV (decide (nvL 23 127 2139095040 L=2139095040))
theorem AtQ32.lit {s:List UInt8} {R:RR} {L:Lit} {v:Nat} {ev:Value} (h:qp s=none) (h2:rfP s=some R) (hL:zau (s.take R.n)=some L) (hv:v=sgC L.neg+nvL 23 127 2139095040 L) (he:ev=erV (decide (nvL 23 127 2139095040 L=2139095040))):AtQ32 s v R.n ev:=by
 unfold AtQ32;rw[h,h2];exact⟨rfl,L,hL,hv,he⟩
theorem zz2 (T d:Nat) (p:Int) (ng:Bool) (w:World) (he:Env T w) (hd0:d≠0) (hd:d<18446744073709551616) (hp1:-348<=p) (hp2:p<=347):
  Calls Tryz.prog 137 #[.int .u64 (d:Int),.int .i64 p,.int .u32 ((sgC ng:Nat):Int)] w fun r w'=>
   r=.returned (.tuple #[.float .f32 (sgC ng+nvT 23 127 2139095040 10 d p),erV (decide (nvT 23 127 2139095040 10 d p=2139095040))])/\w.grownBy w' none:=by
 obtain⟨h1,h2⟩:=zzi d p hd0 hd hp1 hp2;refine (zx2 T d p ng w he hd0 hd hp1 hp2 h1).mono ?_;rintro r w' ⟨rfl,hg⟩;rw[h2];exact⟨rfl,hg⟩
end
def PaQ32 (s:List UInt8) (v k:Nat):Prop:=match ul s with
 | none=>v=0/\k=1
 | some t=>(t.kind=2->zxp v/\k=0)/\(t.kind=1->v=(if t.neg then 4286578688 else 2139095040)/\k=0)/\
  (t.kind=0->v=sgC t.neg+spB 23 127 2139095040 t/\k=if spB 23 127 2139095040 t=2139095040 then 2 else 0)
theorem PaQ32.bad {s:List UInt8} (h:ul s=none):PaQ32 s 0 1:=by unfold PaQ32;rw[h];exact⟨rfl,rfl⟩
theorem zx1 (b:Bool):zmd≠kp b:=by cases b <;> decide
theorem zzp:kp false≠kp true:=by decide
theorem zzv {s:List UInt8} {v n:Nat} {ev:Value} (h:AtQ32 s v n ev) (hs:s.length<=800):(n=s.length->∃ k,ev=erK k/\PaQ32 s v k)/\(n≠s.length->PaQ32 s 0 1):=by
 unfold AtQ32 at h;refine zco s _ (fun hsp hr=>?_) (fun ng hsp hr=>?_) (fun hsp hr=>?_)
 ·rw[hsp]at h;obtain⟨rfl,rfl,hx⟩:=h;refine⟨fun _=>⟨0,rfl,?_⟩,fun h=>absurd rfl h⟩;have hx2:zxp v:=by
   rcases hx with⟨-,h⟩ | ⟨h,-⟩ | ⟨h,-⟩
   ·exact h
   ·exact absurd h (zx1 _)
   ·exact absurd h (zx1 _)
  unfold PaQ32;rw[hr];exact⟨fun _=>⟨hx2,rfl⟩,fun h=>absurd h (by show ¬(2:Int)=1;decide),fun h=>absurd h (by show ¬(2:Int)=0;decide)⟩
 ·rw[hsp]at h;obtain⟨rfl,rfl,hx⟩:=h;refine⟨fun _=>⟨0,rfl,?_⟩,fun h=>absurd rfl h⟩;have hx2:v=if ng then 4286578688 else 2139095040:=by
   rcases hx with⟨h,-⟩ | ⟨h,h2⟩ | ⟨h,h2⟩
   ·exact absurd h.symm (zx1 _)
   ·cases ng
    ·exact h2
    ·exact absurd h.symm zzp
   ·cases ng
    ·exact absurd h zzp
    ·exact h2
  unfold PaQ32;rw[hr];exact⟨fun h=>absurd h (by show ¬(1:Int)=2;decide),fun _=>⟨hx2,rfl⟩,fun h=>absurd h (by show ¬(1:Int)=0;decide)⟩
 ·rcases hsp with hsp | ⟨v',n',hsp,hn',hl⟩
  ·rw[hsp]at h;simp only at h;cases hrf:rfP s with
   | none=>
    rw[hrf]at h;obtain⟨rfl,rfl⟩:=h;have hb:=PaQ32.bad (s:=s) (by rw[hr,zq7 hrf];rfl);exact⟨fun _=>⟨1,rfl,hb⟩,fun _=>hb⟩
   | some R=>
    rw[hrf]at h;obtain⟨rfl,L,hL,rfl,rfl⟩:=h;obtain⟨w1,w2⟩:=zql hrf;refine⟨fun hn=>?_,fun hn=>PaQ32.bad (by rw[hr,w2 hn];rfl)⟩;obtain⟨L',hL',hL2⟩:=w1 hn;rw[hL]at hL2;cases hL2;have hv:=zto 23 127 2139095040 hL' zd ze ze ze ze;refine⟨_,zus _,?_⟩;unfold PaQ32;rw[hr,hL'];refine⟨fun h=>absurd h (by show ¬(0:Int)=2;decide),fun h=>absurd h (by show ¬(0:Int)=1;decide),fun _=>?_⟩;rw[hv];exact⟨rfl,zi⟩
  ·rw[hsp]at h;obtain⟨rfl,rfl,-⟩:=h;exact⟨fun h=>absurd h hn',fun _=>PaQ32.bad (by rw[hr,hl];rfl)⟩
section
attribute [local go_sem] undef
def yak (v r:Nat):Prop:=(zxp v/\zzw r)\/(v<4294967296/\¬zxp v/\r<18446744073709551616/\floatToFloatBits .f32 v .f64=some r)
def PaQw (s:List UInt8) (r k:Nat):Prop:=∃ v,PaQ32 s v k/\yak v r
theorem zze:yak 0 0:=Or.inr ⟨ze,by rintro⟨-,h⟩;revert h;decide,ze,zp⟩
theorem zxo (L:Lit):nvL 23 127 2139095040 L<=2139095040:=by
 unfold nvL nvT;exact ud 23 127 2139095040 _ _ (qg _ zαO) ze ze 
theorem AtQ32.lt {s:List UInt8} {v n:Nat} {ev:Value} (h:AtQ32 s v n ev):v<4294967296:=by
 unfold AtQ32 at h;split at h
 ·obtain⟨-,-,h⟩:=h;rcases h with⟨-,h⟩ | ⟨-,h⟩ | ⟨-,h⟩
  ·exact h.1
  ·omega
  ·omega
 ·split at h
  ·omega
  ·obtain⟨-,L,-,hv,-⟩:=h;have:=zxo L;have h2:sgC L.neg<=2147483648:=by unfold sgC;split <;> omega
   omega
set_option maxRecDepth 100000 in
theorem zlu (s:List UInt8) (bs:Int) (w:World) (P:Nat->Nat->Prop) (Q:Nat->Nat->Value->Prop) (hs:s.length<=800)
  (HAT:Calls Tryz.prog 70 #[.string ⟨s.toArray⟩,.int .i64 bs] w fun e w'=>(∃ (v n:Nat) (ev:Value),e=.returned (.tuple #[.float .f64 v,.int .i64 (n:Int),ev])/\Q v n ev)/\w.grownBy w' none)
  (hq1:∀ v n ev,Q v n ev->n=s.length->∃ k,ev=erK k/\P v k) (hq2:∀ v n ev,Q v n ev->n≠s.length->P 0 1):
  Calls Tryz.prog 40 #[.string ⟨s.toArray⟩,.int .i64 bs] w fun e w'=>(∃ v k:Nat,e=.returned (.tuple #[.float .f64 v,erK k])/\P v k)/\w.grownBy w' none:=by
 have HAT:=zH HAT;have HQ:=zH (And.intro hq1 hq2);clear hq1 hq2;refine ye Tryz.func40 rfl (by rw[Tryz.ntmps40];simp) ?_;intro σ hσ;rw[Tryz.ntmps40];have s0:σ 0=.string ⟨s.toArray⟩:=hσ 0 zi;have s1:σ 1=.int .i64 bs:=hσ 1 zi;clear hσ;have hsz:(⟨s.toArray⟩:ByteArray).size=s.length:=zm;obtain⟨N,hN⟩:=zX s.length;rw[hN]at hsz hs HQ;clear hN;(go_wp2_with fail;repeat ((first|refine cZ ?_|refine cW ?_);go_wp2_with fail));refine HAT.out.mono ?_;rintro e w1 ⟨⟨v,n,ev,rfl,hq⟩,hg⟩;by_cases h:n=N
 ·subst h;obtain⟨k,rfl,hp⟩:=HQ.out.1 v n ev hq rfl;have HP:=zH hp;clear hp hq;generalize hE:erK k=E;(go_wp2_with fail;repeat ((first|refine cZ ?_|refine cW ?_);go_wp2_with fail));exact xc (.float .f64 v) E rfl ze ze zb zb ⟨⟨v,k,by rw[hE],HP.out⟩,hg⟩
 ·have HP:=zH (HQ.out.2 v n ev hq h);clear hq;obtain⟨a1,a2,a3⟩:((n:Int)==(N:Int))=false/\(n==N)=false/\¬((n:Int)=(N:Int)):=⟨zf,by rw[beq_eq_false_iff_ne];exact h,zd⟩;have a4:((n:Int) != (N:Int))=true:=by rw[bne,a1];rfl
  have H:=zH h;clear h;(go_wp2_with fail;repeat ((first|refine cZ ?_|refine cW ?_);go_wp2_with fail));exact xc (.float .f64 0) (.iface 105 (.int .i64 2)) rfl ze ze zb zb ⟨⟨0,1,rfl,HP.out⟩,hg⟩
end
section
attribute [local go_sem] undef
set_option maxRecDepth 100000 in
theorem ywz (T:Nat) (s:List UInt8) (w:World) (he:EnvP T w) (hs:s.length<=800) (hsp:qp s=none) (R:RR) (hrf:rfP s=some R) (hx:R.hex=false) (htr:R.tr=false):
  Calls Tryz.prog 100 #[.string ⟨s.toArray⟩] w fun e w'=>(∃ (v n:Nat) (ev:Value),e=.returned (.tuple #[.float .f64 v,.int .i64 (n:Int),ev])/\AtQ64 s v n ev)/\w.grownBy w' none:=by
 have hsz:(⟨s.toArray⟩:ByteArray).size=s.length:=zm;have hs4:s.length<=4000000:=zd;refine ye Tryz.func100 rfl (by rw[Tryz.ntmps100];simp) ?_;intro σ hσ;rw[Tryz.ntmps100];have s0:σ 0=.string ⟨s.toArray⟩:=hσ 0 zi;clear hσ;have HS:=zH (fun W=>zgn hs4 hsp W);have HSP:=zH hsp;clear hsp;(go_wp2_with fail;repeat ((first|refine cZ ?_|refine cW ?_);go_wp2_with fail));refine (HS.out _).mono ?_;rintro e w1 ⟨rfl,rfl⟩;have HR:=zH (fun W=>zlb hs4 hrf W);obtain⟨hRn,L,hL,hR⟩:=zsf hrf;have HLIT:=zH (fun v ev h1 h2=>AtQ64.lit (v:=v) (ev:=ev) HSP.out hrf hL h1 h2);have hok:=zfk hL;have hlen:(s.take R.n).length=R.n:=zN;have hexb:=zwn L R.n hok.1 (by have:=hok.2.1;omega) hok.2.2.1;have hnegR:R.neg=L.neg:=by rw[hR];rfl
 have hhexR:R.hex=L.hex:=by rw[hR];rfl
 have hxL:L.hex=false:=by rw[<-hhexR];exact hx
 have HDC:=zH (fun (h:L.hex=false)=>by have:=zo9 52 1023 9218868437227405312 L R.n hok.1 h ze ze rfl;rw[<-hR]at this;exact this);rw[<-hR]at hexb;have hnl:nvL 52 1023 9218868437227405312 L<=9218868437227405312:=ud 52 1023 9218868437227405312 _ _ (qg _ (by have:=zjl L.hex;omega)) ze rfl;have hdl:R.mant<18446744073709551616:=by
  exact Nat.lt_of_lt_of_le (HDC.out hxL).lt ze
 have HL:=zH hL;clear hrf hL hok hR hx;rw[hnegR,hhexR]at HR;obtain⟨d,hd⟩:=zX R.mant;obtain⟨p,hp⟩:=zX R.exp;obtain⟨n,hn⟩:=zX R.n;obtain⟨ng,hng⟩:=zX L.neg;obtain⟨nv,hnv⟩:=zX (nvL 52 1023 9218868437227405312 L);rw[hd,hp,htr,hn,hng]at HR;rw[hd,hp,htr,hnv]at HDC;rw[hn,hng,hnv]at HLIT;rw[hn]at hRn hlen HL;rw[hp]at hexb;rw[hd]at hdl;rw[hnv]at hnl;have hcut:=zqe s n hRn;have hnN:(n:Int)<=(s.length:Int):=zd;have HNG:=zH hng;clear hd hp htr hn hng hnv hnegR hhexR;have hdc:=HDC.out hxL;rw[hxL]at HR;clear HDC hxL;have HDC:=zH hdc;have hopt:=he.env.opt;have HE:=zH he;have hlt:=he.env.size;clear hdc he;have hsgw:IntKind.u64.wrap (9223372036854775808*(if ng then 1 else 0))=((sgB ng:Nat):Int):=zαQ;have hor0:bits .or .u64 ((sgB ng:Nat):Int) 0=((sgB ng:Nat):Int):=zαQ;have hsgw2:IntKind.u64.wrap (((b2n ng:Nat):Int)*9223372036854775808)=((sgB ng:Nat):Int):=zαQ;have hsgw3:((if ng=true then 1 else 0:Int))*9223372036854775808=((sgB ng:Nat):Int):=zαQ;have hori:bits .or .u64 ((sgB ng:Nat):Int) 9218868437227405312=((sgB ng+9218868437227405312:Nat):Int):=zv6 ng;obtain⟨S,hS⟩:=zX (sgB ng);rw[hS]at hor0 hori hsgw hsgw2 hsgw3;obtain⟨S2,hS2⟩:=zX (S+9218868437227405312);rw[hS2]at hori;have HS2:=zH hS2;clear hS2;have HS0:=zH hS;clear hS;(go_wp2_with fail;repeat ((first|refine cZ ?_|refine cW ?_);go_wp2_with fail));refine (HR.out _).mono ?_;rintro e w1 ⟨rfl,rfl⟩;(go_wp2_with fail;repeat ((first|refine cZ ?_|refine cW ?_);go_wp2_with fail));refine (zbc ng _).mono ?_;rintro e w1 ⟨rfl,hw1⟩;subst w1;(go_upto_region 12 with fail;repeat ((first|refine cZ ?_|refine cW ?_);go_upto_region 12 with fail));refine zjw (fun s'=>s' 0=.string ⟨s.toArray⟩/\s' 3=.int .i64 (n:Int)/\s' 4=.nilIface/\s' 8=.int .u64 (d:Int)/\s' 9=.int .i64 p/\s' 10=.bool ng/\s' 11=.bool false/\s' 16=.int .u64 (S:Int)) ⟨zb,zb,zb,zb,zb,zb,zb,zb⟩ ?_;clear s0 σ hsgw hsgw2 hsgw3 HR;rintro σ ⟨s0,s3,s4,s8,s9,s10,s11,s16⟩;have hext:=fun (W:World)=>wz S W
 have hexti:=fun (W:World)=>wz S2 W
 by_cases hd0:d=0
 ·have HF:=zH (HLIT.out S .nilIface (by rw[HS0.out,(HDC.out.zero hd0).1,Nat.add_zero]) (by rw[(HDC.out.zero hd0).1];rfl));subst hd0;(go_wp2_with fail;repeat ((first|refine cZ ?_|refine cW ?_);go_wp2_with fail));exact xy (.float .f64 S) (.int .i64 (n:Int)) .nilIface rfl ze ze ze zb zb zb ⟨⟨S,n,_,rfl,HF.out⟩,yy _ _⟩
 have g1:((d:Int)==0)=false:=zf;have g2:(d==0)=false:=by rw[beq_eq_false_iff_ne];exact hd0
 have HD0:=zH hd0;clear hd0;by_cases hp1:310<p
 ·have hn:=HDC.out.over 309 HD0.out zd zp ze;have HF:=zH (HLIT.out S2 (.iface 105 (.int .i64 1)) (by rw[HS0.out,hn];exact HS2.out.symm) (by rw[hn];rfl));clear hn;(go_wp2_with fail;repeat ((first|refine cZ ?_|refine cW ?_);go_wp2_with fail));exact xy (.float .f64 S2) (.int .i64 (n:Int)) (.iface 105 (.int .i64 1)) rfl ze ze ze zb zb zb ⟨⟨S2,n,_,rfl,HF.out⟩,yy _ _⟩
 have g3:decide (310<p)=false:=decide_eq_false hp1;by_cases hp2:p < -345
 ·have hn:=HDC.out.under 326 HD0.out zd zp ze ze;have HF:=zH (HLIT.out S .nilIface (by rw[HS0.out,hn,Nat.add_zero]) (by rw[hn];rfl));clear hn;(go_wp2_with fail;repeat ((first|refine cZ ?_|refine cW ?_);go_wp2_with fail));exact xy (.float .f64 S) (.int .i64 (n:Int)) .nilIface rfl ze ze ze zb zb zb ⟨⟨S,n,_,rfl,HF.out⟩,yy _ _⟩
 have g4:decide (p < -345)=false:=decide_eq_false hp2;clear hor0 hori hext hexti;(go_upto_region 18 with fail;repeat ((first|refine cZ ?_|refine cW ?_);go_upto_region 18 with fail));go_wp2_with fail;refine yr (fun s' w'=>s' 0=.string ⟨s.toArray⟩/\s' 3=.int .i64 (n:Int)/\s' 4=.nilIface/\s' 8=.int .u64 (d:Int)/\s' 9=.int .i64 p/\s' 10=.bool ng/\s' 11=.bool false/\s' 16=.int .u64 (S:Int)/\w=w') ?_ ?_
 ·intro R' K' HR hK';have HEX:=zH (fun W (hE:EnvP T W)=>zdr T d p ng W hE HD0.out hdl zd zd);have HSM:=zH (HDC.out.same rfl);have hgr1:=yy w none;(go_wp2_with fail;repeat ((first|refine cZ ?_|refine cW ?_);go_wp2_with fail));refine (HEX.out _ HE.out).mono ?_;rintro e w1 ⟨v,ok,rfl,hv,rfl⟩;have HV:=zH hv;clear hv;cases ok
  ·(go_wp2_with fail;repeat ((first|refine cZ ?_|refine cW ?_);go_wp2_with fail));exact got HR ⟨zb,zb,zb,zb,zb,zb,zb,zb,rfl⟩
  ·obtain⟨hv1,hv2,hv3⟩:=HV.out rfl;have hnf:nv≠9218868437227405312:=by rw[HSM.out];exact zt9 52 1023 9218868437227405312 d 37 p (Nat.lt_of_lt_of_le hv2 zp) ze ze rfl zd zp
   have HF:=zH (HLIT.out v .nilIface (by rw[hv1,HSM.out];rfl) (by rw[decide_eq_false hnf];rfl));clear hv1 hv2 hv3 hnf;(go_wp2_with fail;repeat ((first|refine cZ ?_|refine cW ?_);go_wp2_with fail));exact xy (.float .f64 v) (.int .i64 (n:Int)) .nilIface rfl ze ze ze zb zb zb ⟨⟨v,n,_,rfl,HF.out⟩,hgr1⟩
 clear s0 s3 s4 s8 s9 s10 s11 s16 σ g1 g2 g3 g4;rintro σ w1 ⟨s0,s3,s4,s8,s9,s10,s11,s16,rfl⟩;have hp1':-348<=p:=zd;have hp2':p<=347:=zd;have HPF:=zH (fun d' (W:World) (hE:Env T W) (h0:d'≠0) (hd':d'<18446744073709551616)=>zqx T d' p ng W hE h0 hd' hp1' hp2');rw[HS0.out]at HPF;have hd19:d+1<18446744073709551616:=Nat.lt_of_le_of_lt (Nat.succ_le_of_lt HDC.out.lt) ze;obtain⟨X1,hX1⟩:=zX (nvT 52 1023 9218868437227405312 10 d p);have HX1:=zH hX1;have HP1:=zH (fun W hE=>hX1 ▸ HPF.out d W hE HD0.out hdl);clear hX1;(go_wp2_with fail;repeat ((first|refine cZ ?_|refine cW ?_);go_wp2_with fail));refine (HP1.out _ HE.out.env).mono ?_;rintro e w2 ⟨rfl,hg2⟩;have HG2:=zH hg2;have hlt2:=hg2.size;clear hg2;have hsm:nv=X1:=by rw[HDC.out.same rfl];exact HX1.out
 have HF:=zH (HLIT.out (S+X1) (erV (decide (X1=9218868437227405312))) (by rw[HS0.out,hsm]) (by rw[hsm]));clear hsm;(go_wp2_with fail;repeat ((first|refine cZ ?_|refine cW ?_);go_wp2_with fail));exact xy (.float .f64 (S+X1)) (.int .i64 (n:Int)) (erV (decide (X1=9218868437227405312))) rfl ze ze ze zb zb zb ⟨⟨S+X1,n,_,rfl,HF.out⟩,HG2.out⟩
end
section
attribute [local go_sem] undef
set_option maxRecDepth 100000 in
theorem yw0 (T:Nat) (s:List UInt8) (w:World) (he:EnvP T w) (hs:s.length<=800) (hsp:qp s=none) (R:RR) (hrf:rfP s=some R) (hx:R.hex=false) (htr:R.tr=false):
  Calls Tryz.prog 99 #[.string ⟨s.toArray⟩] w fun e w'=>(∃ (v n:Nat) (ev:Value),e=.returned (.tuple #[.float .f32 v,.int .i64 (n:Int),ev])/\AtQ32 s v n ev)/\w.grownBy w' none:=by
 have hsz:(⟨s.toArray⟩:ByteArray).size=s.length:=zm;have hs4:s.length<=4000000:=zd;refine ye Tryz.func99 rfl (by rw[Tryz.ntmps99];simp) ?_;intro σ hσ;rw[Tryz.ntmps99];have s0:σ 0=.string ⟨s.toArray⟩:=hσ 0 zi;clear hσ;have HS:=zH (fun W=>zgn hs4 hsp W);have HSP:=zH hsp;clear hsp;(go_wp2_with fail;repeat ((first|refine cZ ?_|refine cW ?_);go_wp2_with fail));refine (HS.out _).mono ?_;rintro e w1 ⟨rfl,rfl⟩;have HR:=zH (fun W=>zlb hs4 hrf W);obtain⟨hRn,L,hL,hR⟩:=zsf hrf;have HLIT:=zH (fun v ev h1 h2=>AtQ32.lit (v:=v) (ev:=ev) HSP.out hrf hL h1 h2);have hok:=zfk hL;have hlen:(s.take R.n).length=R.n:=zN;have hexb:=zwn L R.n hok.1 (by have:=hok.2.1;omega) hok.2.2.1;have hnegR:R.neg=L.neg:=by rw[hR];rfl
 have hhexR:R.hex=L.hex:=by rw[hR];rfl
 have hxL:L.hex=false:=by rw[<-hhexR];exact hx
 have HDC:=zH (fun (h:L.hex=false)=>by have:=zo9 23 127 2139095040 L R.n hok.1 h ze ze rfl;rw[<-hR]at this;exact this);rw[<-hR]at hexb;have hnl:nvL 23 127 2139095040 L<=2139095040:=ud 23 127 2139095040 _ _ (qg _ (by have:=zjl L.hex;omega)) ze rfl;have hdl:R.mant<18446744073709551616:=by
  exact Nat.lt_of_lt_of_le (HDC.out hxL).lt ze
 have HL:=zH hL;clear hrf hL hok hR hx;rw[hnegR,hhexR]at HR;obtain⟨d,hd⟩:=zX R.mant;obtain⟨p,hp⟩:=zX R.exp;obtain⟨n,hn⟩:=zX R.n;obtain⟨ng,hng⟩:=zX L.neg;obtain⟨nv,hnv⟩:=zX (nvL 23 127 2139095040 L);rw[hd,hp,htr,hn,hng]at HR;rw[hd,hp,htr,hnv]at HDC;rw[hn,hng,hnv]at HLIT;rw[hn]at hRn hlen HL;rw[hp]at hexb;rw[hd]at hdl;rw[hnv]at hnl;have hcut:=zqe s n hRn;have hnN:(n:Int)<=(s.length:Int):=zd;have HNG:=zH hng;clear hd hp htr hn hng hnv hnegR hhexR;have hdc:=HDC.out hxL;rw[hxL]at HR;clear HDC hxL;have HDC:=zH hdc;have hopt:=he.env.opt;have HE:=zH he;have hlt:=he.env.size;clear hdc he;have hsgw:IntKind.u32.wrap (2147483648*(if ng then 1 else 0))=((sgC ng:Nat):Int):=zαQ;have hor0:bits .or .u32 ((sgC ng:Nat):Int) 0=((sgC ng:Nat):Int):=zαQ;have hsgw2:IntKind.u32.wrap (((b2n ng:Nat):Int)*2147483648)=((sgC ng:Nat):Int):=zαQ;have hsgw3:((if ng=true then 1 else 0:Int))*2147483648=((sgC ng:Nat):Int):=zαQ;have hori:bits .or .u32 ((sgC ng:Nat):Int) 2139095040=((sgC ng+2139095040:Nat):Int):=zzk ng;obtain⟨S,hS⟩:=zX (sgC ng);rw[hS]at hor0 hori hsgw hsgw2 hsgw3;obtain⟨S2,hS2⟩:=zX (S+2139095040);rw[hS2]at hori;have HS2:=zH hS2;clear hS2;have HS0:=zH hS;clear hS;(go_wp2_with fail;repeat ((first|refine cZ ?_|refine cW ?_);go_wp2_with fail));refine (HR.out _).mono ?_;rintro e w1 ⟨rfl,rfl⟩;(go_wp2_with fail;repeat ((first|refine cZ ?_|refine cW ?_);go_wp2_with fail));refine (zy9 ng _).mono ?_;rintro e w1 ⟨rfl,hw1⟩;subst w1;(go_upto_region 12 with fail;repeat ((first|refine cZ ?_|refine cW ?_);go_upto_region 12 with fail));refine zjw (fun s'=>s' 0=.string ⟨s.toArray⟩/\s' 3=.int .i64 (n:Int)/\s' 4=.nilIface/\s' 8=.int .u64 (d:Int)/\s' 9=.int .i64 p/\s' 10=.bool ng/\s' 11=.bool false/\s' 16=.int .u32 (S:Int)) ⟨zb,zb,zb,zb,zb,zb,zb,zb⟩ ?_;clear s0 σ hsgw hsgw2 hsgw3 HR;rintro σ ⟨s0,s3,s4,s8,s9,s10,s11,s16⟩;have hext:=fun (W:World)=>zxs S W
 have hexti:=fun (W:World)=>zxs S2 W
 by_cases hd0:d=0
 ·have HF:=zH (HLIT.out S .nilIface (by rw[HS0.out,(HDC.out.zero hd0).1,Nat.add_zero]) (by rw[(HDC.out.zero hd0).1];rfl));subst hd0;(go_wp2_with fail;repeat ((first|refine cZ ?_|refine cW ?_);go_wp2_with fail));exact xy (.float .f32 S) (.int .i64 (n:Int)) .nilIface rfl ze ze ze zb zb zb ⟨⟨S,n,_,rfl,HF.out⟩,yy _ _⟩
 have g1:((d:Int)==0)=false:=zf;have g2:(d==0)=false:=by rw[beq_eq_false_iff_ne];exact hd0
 have HD0:=zH hd0;clear hd0;by_cases hp1:40<p
 ·have hn:=HDC.out.over 39 HD0.out zd zp ze;have HF:=zH (HLIT.out S2 (.iface 105 (.int .i64 1)) (by rw[HS0.out,hn];exact HS2.out.symm) (by rw[hn];rfl));clear hn;(go_wp2_with fail;repeat ((first|refine cZ ?_|refine cW ?_);go_wp2_with fail));exact xy (.float .f32 S2) (.int .i64 (n:Int)) (.iface 105 (.int .i64 1)) rfl ze ze ze zb zb zb ⟨⟨S2,n,_,rfl,HF.out⟩,yy _ _⟩
 have g3:decide (40<p)=false:=decide_eq_false hp1;by_cases hp2:p < -70
 ·have hn:=HDC.out.under 51 HD0.out zd zp ze ze;have HF:=zH (HLIT.out S .nilIface (by rw[HS0.out,hn,Nat.add_zero]) (by rw[hn];rfl));clear hn;(go_wp2_with fail;repeat ((first|refine cZ ?_|refine cW ?_);go_wp2_with fail));exact xy (.float .f32 S) (.int .i64 (n:Int)) .nilIface rfl ze ze ze zb zb zb ⟨⟨S,n,_,rfl,HF.out⟩,yy _ _⟩
 have g4:decide (p < -70)=false:=decide_eq_false hp2;clear hor0 hori hext hexti;(go_upto_region 18 with fail;repeat ((first|refine cZ ?_|refine cW ?_);go_upto_region 18 with fail));go_wp2_with fail;refine yr (fun s' w'=>s' 0=.string ⟨s.toArray⟩/\s' 3=.int .i64 (n:Int)/\s' 4=.nilIface/\s' 8=.int .u64 (d:Int)/\s' 9=.int .i64 p/\s' 10=.bool ng/\s' 11=.bool false/\s' 16=.int .u32 (S:Int)/\w=w') ?_ ?_
 ·intro R' K' HR hK';have HEX:=zH (fun W (hE:EnvP T W)=>zx8 T d p ng W hE HD0.out hdl zd zd);have HSM:=zH (HDC.out.same rfl);have hgr1:=yy w none;(go_wp2_with fail;repeat ((first|refine cZ ?_|refine cW ?_);go_wp2_with fail));refine (HEX.out _ HE.out).mono ?_;rintro e w1 ⟨v,ok,rfl,hv,rfl⟩;have HV:=zH hv;clear hv;cases ok
  ·(go_wp2_with fail;repeat ((first|refine cZ ?_|refine cW ?_);go_wp2_with fail));exact got HR ⟨zb,zb,zb,zb,zb,zb,zb,zb,rfl⟩
  ·obtain⟨hv1,hv2,hv3⟩:=HV.out rfl;have hnf:nv≠2139095040:=by rw[HSM.out];exact zt9 23 127 2139095040 d 17 p (Nat.lt_of_lt_of_le hv2 zp) ze ze rfl zd zp
   have HF:=zH (HLIT.out v .nilIface (by rw[hv1,HSM.out];rfl) (by rw[decide_eq_false hnf];rfl));clear hv1 hv2 hv3 hnf;(go_wp2_with fail;repeat ((first|refine cZ ?_|refine cW ?_);go_wp2_with fail));exact xy (.float .f32 v) (.int .i64 (n:Int)) .nilIface rfl ze ze ze zb zb zb ⟨⟨v,n,_,rfl,HF.out⟩,hgr1⟩
 clear s0 s3 s4 s8 s9 s10 s11 s16 σ g1 g2 g3 g4;rintro σ w1 ⟨s0,s3,s4,s8,s9,s10,s11,s16,rfl⟩;have hp1':-348<=p:=zd;have hp2':p<=347:=zd;have HPF:=zH (fun d' (W:World) (hE:Env T W) (h0:d'≠0) (hd':d'<18446744073709551616)=>zz2 T d' p ng W hE h0 hd' hp1' hp2');rw[HS0.out]at HPF;have hd19:d+1<18446744073709551616:=Nat.lt_of_le_of_lt (Nat.succ_le_of_lt HDC.out.lt) ze;obtain⟨X1,hX1⟩:=zX (nvT 23 127 2139095040 10 d p);have HX1:=zH hX1;have HP1:=zH (fun W hE=>hX1 ▸ HPF.out d W hE HD0.out hdl);clear hX1;(go_wp2_with fail;repeat ((first|refine cZ ?_|refine cW ?_);go_wp2_with fail));refine (HP1.out _ HE.out.env).mono ?_;rintro e w2 ⟨rfl,hg2⟩;have HG2:=zH hg2;have hlt2:=hg2.size;clear hg2;have hsm:nv=X1:=by rw[HDC.out.same rfl];exact HX1.out
 have HF:=zH (HLIT.out (S+X1) (erV (decide (X1=2139095040))) (by rw[HS0.out,hsm]) (by rw[hsm]));clear hsm;(go_wp2_with fail;repeat ((first|refine cZ ?_|refine cW ?_);go_wp2_with fail));exact xy (.float .f32 (S+X1)) (.int .i64 (n:Int)) (erV (decide (X1=2139095040))) rfl ze ze ze zb zb zb ⟨⟨S+X1,n,_,rfl,HF.out⟩,HG2.out⟩
end
end Go.Proofs.YtgfjdeddghbjcaaGreatDoor
