/- Lemmas that the claim's top text leans on. No condition of their own. -/
import Derived.Test.YtocbeoomhlgnkaaGreatDoorK23
namespace Go.Proofs.YtocbeoomhlgnkaaGreatDoor
open Go.RowKit
set_option linter.unusedSimpArgs false
set_option linter.unusedVariables false
set_option maxHeartbeats 16000000
section
attribute [local go_sem] undef
def zqq (inf sg:Nat) (nb:Nat->Nat->Nat) (r:Txt):Nat:=if r.kind=1 then inf+(if r.neg then sg else 0) else if r.kind=2 then inf+1 else spG inf nb r+(if r.neg then sg else 0)
def ovP (inf:Nat) (nb:Nat->Nat->Nat) (r:Txt):Bool:=decide (r.kind=0)&&(spG inf nb r==inf)
theorem zvq (inf:Nat) (nb:Nat->Nat->Nat) (r:Txt) (hb:r.base=10\/r.base=16) (h:∀ a b,b≠0->nb a b<=inf):spG inf nb r<=inf:=by
 unfold spG;split
 ·omega
 ·split
  ·omega
  ·refine h _ _ ?_;have:0<qk r.base^(-r.exp).toNat:=Nat.pow_pos (by rcases hb with h | h <;> rw[h] <;> decide);omega
theorem znu (a b:Nat) (hb:b≠0):xd a b<=9218868437227405312:=ud 52 1023 _ a b hb ze rfl
theorem zzm (a b:Nat) (hb:b≠0):zxq a b<=2139095040:=ud 23 127 _ a b hb ze rfl
theorem zzc (n:Nat) (h:n<4294967296):IntKind.u32.wrap (n:Int)=(n:Int):=by
 show ((n:Int)%4294967296)=n;omega
def zdy (s:List UInt8):Nat:=match ul s with
 | none=>0
 | some r=>zqq 9218868437227405312 9223372036854775808 xd r
def zig (s:List UInt8):Nat:=match ul s with
 | none=>1
 | some r=>if ovP 9218868437227405312 xd r then 2 else 0
def zxy (s:List UInt8):Nat:=match ul s with
 | none=>0
 | some r=>zyo (zqq 2139095040 2147483648 zxq r)
def zya (s:List UInt8):Nat:=match ul s with
 | none=>1
 | some r=>if ovP 2139095040 zxq r then 2 else 0
theorem zqp {s:List UInt8} {t:Txt} (h:ul s=some t):t.kind=0\/t.kind=1\/t.kind=2:=by
 refine zco s _ (fun _ hr=>?_) (fun ng _ hr=>?_) (fun _ hr=>?_)
 ·rw[h]at hr;cases hr;exact Or.inr (Or.inr rfl)
 ·rw[h]at hr;cases hr;exact Or.inr (Or.inl rfl)
 ·rw[h]at hr;cases hl:zau s with
  | none=>rw[hl]at hr;cases hr
  | some L=>rw[hl]at hr;cases hr;exact Or.inl rfl
set_option maxRecDepth 100000 in
theorem zc0 (s:List UInt8) (w:World) (hs:s.length<=1050000):
  Calls Tryz.prog 32 #[.string ⟨s.toArray⟩,.int .i64 64] w fun e w'=>e=.returned (.tuple #[.int .u64 (zdy s:Int),.int .i64 (zig s:Int)])/\w.grownBy w' none:=by
 have HRT:=zH (fun W=>zbo s W zd);have hnt:=fun r v W hb hr hd hl hx1 hx2=>zd0 r v W hb hr hd hl hx1 hx2
 have HI:=zH wy;have HS:=zH wm;have HWI:=zH zkx;refine ye Tryz.func32 rfl (by rw[Tryz.ntmps32];simp) ?_;intro σ hσ;rw[Tryz.ntmps32];have s0:σ 0=.string ⟨s.toArray⟩:=hσ 0 zi;have s1:σ 1=.int .i64 64:=hσ 1 zi;clear hσ;go_wp2_with fail;refine (HRT.out _).mono ?_;rintro e w2 ⟨hg2,hp⟩;obtain⟨D,hD⟩:=zX w2.heap.size;clear HRT;cases hrd:ul s with
 | none=>
  rw[hrd]at hp;dsimp only at hp;have HP:=zH (show zdy s=0/\zig s=1 by unfold zdy zig;rw[hrd];exact⟨rfl,rfl⟩);subst hp;obtain⟨w3,hw3⟩:=zX (w2.alloc (.cells textZ.toArray 75));have HG3:=zH (show w.grownBy w3 none by rw[<-hw3];exact ya hg2 (World.grownBy_alloc w2 _ none));have HW3:=zH hw3;unfold textZ at HW3 ⊢;clear hrd hw3 hg2;go_upto_region 2 with fail;rw[HW3.out];(go_wp2_with fail;repeat ((first|refine cZ ?_|refine cW ?_);go_wp2_with fail));exact xc (.int .u64 0) (.int .i64 1) rfl ze ze zb zb ⟨zαo,HG3.out⟩
 | some r=>
  rw[hrd]at hp;dsimp only at hp;obtain⟨v,rfl,hv⟩:=hp;have hok:=ze9 hrd;have hkd:=zqp hrd;have hpv:zdy s=(zqq 9218868437227405312 9223372036854775808 xd r)/\zig s=if ovP 9218868437227405312 xd r then 2 else 0:=by unfold zdy zig;rw[hrd];exact⟨rfl,rfl⟩
  have hnt:=hnt r v;have hsl:=fun hb=>zvq 9218868437227405312 xd r hb znu
  clear hrd;unfold zqq ovP at hpv;obtain⟨sp,hsp⟩:=zX (spG 9218868437227405312 xd r);rw[hsp]at hpv hsl;simp only[hsp]at hnt;clear hsp;obtain⟨kind,neg,b,l,x⟩:=r;dsimp only at hv hok hkd hpv hnt hsl ⊢;obtain⟨a,c,rfl⟩:=hv.1.len;obtain⟨N,hN⟩:=zX l.length;unfold zp9 at hnt;dsimp only at hnt;simp only[hN]at hv hnt hok ⊢;obtain⟨w3,hw3⟩:=zX (w2.alloc (.cells #[.int .i64 kind,.bool neg,.int .i64 (b:Int),.slice a N c,.int .i64 x] 75));have hgD:w2.grownBy w3 none:=zαR;have HG3:=zH (ya hg2 hgD);have HV3:=zH (hv.1.grown hgD);have hrD:Row w3 D [.int .i64 kind,.bool neg,.int .i64 (b:Int),.slice a N c,.int .i64 x]:=by rw[<-hw3,<-hD];exact Row.new w2 _ _
  have HW3:=zH hw3;have HDD:=zH hD;have HNT:=zH hnt;have HPV:=zH hpv;have HSL:=zH hsl;have HOK:=zH hok;have m0:=hrD.cell 0;have m1:=hrD.cell 1;have m2:=hrD.cell 2;have m3:=hrD.cell 3;have m4:=hrD.cell 4;simp only[List.getElem?_cons_zero,List.getElem?_cons_succ]at m0 m1 m2 m3 m4;clear hv hok hnt hpv hsl hw3 hgD hrD hD hg2 hN;go_upto_region 2 with fail;rw[HW3.out,HDD.out];clear HW3 HDD;rcases hkd with rfl | rfl | rfl
  ·obtain⟨hb,hdb,hlb,hx1,hx2⟩:=HOK.out.2 rfl;have hs1:=HSL.out hb;have HC:=zH (HNT.out w3 hb HV3.out hdb zd zd zd);have hp:=HPV.out;rw[if_neg ze,if_neg ze]at hp;have HP':=zH hp;clear hp HNT HPV HOK HSL HV3 hdb hb hlb hx1 hx2;(go_wp2_with fail;repeat ((first|refine cZ ?_|refine cW ?_);go_wp2_with fail));refine HC.out.mono ?_;rintro e w4 ⟨rfl,hg4⟩;have HG3:=zH (ya HG3.out hg4);obtain⟨y,hy,hyl⟩:∃ y,sp+(if neg=true then 9223372036854775808 else 0)=y/\y<18446744073709551616:=⟨_,rfl,zαT⟩;have HP:=HP';rw[hy]at HP ⊢;clear hg4 HP' HC;obtain⟨q,hq⟩:=zX ((sp==9218868437227405312));rw[hq]at HP ⊢;clear hq;have hwr:IntKind.u32.wrap (y:Int)=(y:Int)\/True:=Or.inr trivial;cases q
   ·simp only[decide_true,Bool.and_false,Bool.and_true,if_true,if_false,Bool.false_eq_true]at HP;generalize hq:y=q;have HQ:=zH hq;clear hq;(go_wp2_with fail;repeat ((first|refine cZ ?_|refine cW ?_);go_wp2_with fail));exact xc (.int .u64 (q:Int)) (.int .i64 0) rfl ze ze zb zb ⟨zαP,HG3.out⟩
   ·simp only[decide_true,Bool.and_false,Bool.and_true,if_true,if_false,Bool.false_eq_true]at HP;generalize hq:y=q;have HQ:=zH hq;clear hq;(go_wp2_with fail;repeat ((first|refine cZ ?_|refine cW ?_);go_wp2_with fail));exact xc (.int .u64 (q:Int)) (.int .i64 2) rfl ze ze zb zb ⟨zαP,HG3.out⟩
  ·have hp:=HPV.out;rw[if_pos rfl]at hp;have HP:=zH hp;clear hp HNT HPV HOK HSL HV3;cases neg
   ·simp only[Bool.false_eq_true,if_false,Nat.add_zero,show decide ((1:Int)=0)=false from rfl,Bool.false_and]at HP;(go_wp2_with fail;repeat ((first|refine cZ ?_|refine cW ?_);go_wp2_with fail));refine (HI.out _).mono ?_;rintro e w7 ⟨rfl,rfl⟩;(go_wp2_with fail;repeat ((first|refine cZ ?_|refine cW ?_);go_wp2_with fail));exact xc (.int .u64 9218868437227405312) (.int .i64 0) rfl ze ze zb zb ⟨zαo,HG3.out⟩
   ·simp only[if_true,show decide ((1:Int)=0)=false from rfl,Bool.false_and,Bool.false_eq_true,if_false]at HP;(go_wp2_with fail;repeat ((first|refine cZ ?_|refine cW ?_);go_wp2_with fail));refine (HI.out _).mono ?_;rintro e w7 ⟨rfl,rfl⟩;(go_wp2_with fail;repeat ((first|refine cZ ?_|refine cW ?_);go_wp2_with fail));refine (HS.out _).mono ?_;rintro e w7 ⟨rfl,rfl⟩;have hwr:IntKind.u64.wrap (9218868437227405312+9223372036854775808)=18442240474082181120:=ze;(go_wp2_with fail;repeat ((first|refine cZ ?_|refine cW ?_);go_wp2_with fail));exact xc (.int .u64 18442240474082181120) (.int .i64 0) rfl ze ze zb zb ⟨zαo,HG3.out⟩
  ·have hp:=HPV.out;rw[if_neg ze,if_pos rfl]at hp;have HP:=zH hp;clear hp HNT HPV HOK HSL HV3;simp only[show decide ((2:Int)=0)=false from rfl,Bool.false_and,Bool.false_eq_true,if_false]at HP;(go_wp2_with fail;repeat ((first|refine cZ ?_|refine cW ?_);go_wp2_with fail));refine (HI.out _).mono ?_;rintro e w7 ⟨rfl,rfl⟩;have hwr:IntKind.u64.wrap (9218868437227405312+1)=9218868437227405313:=ze;(go_wp2_with fail;repeat ((first|refine cZ ?_|refine cW ?_);go_wp2_with fail));exact xc (.int .u64 9218868437227405313) (.int .i64 0) rfl ze ze zb zb ⟨zαo,HG3.out⟩
set_option maxRecDepth 100000 in
theorem zxu (s:List UInt8) (w:World) (hs:s.length<=1050000):
  Calls Tryz.prog 32 #[.string ⟨s.toArray⟩,.int .i64 32] w fun e w'=>e=.returned (.tuple #[.int .u64 (zxy s:Int),.int .i64 (zya s:Int)])/\w.grownBy w' none:=by
 have HRT:=zH (fun W=>zbo s W zd);have hnt:=fun r v W hb hr hd hl hx1 hx2=>zyb r v W hb hr hd hl hx1 hx2
 have HI:=zH zdg;have HS:=zH ur;have HWI:=zH zkx;refine ye Tryz.func32 rfl (by rw[Tryz.ntmps32];simp) ?_;intro σ hσ;rw[Tryz.ntmps32];have s0:σ 0=.string ⟨s.toArray⟩:=hσ 0 zi;have s1:σ 1=.int .i64 32:=hσ 1 zi;clear hσ;go_wp2_with fail;refine (HRT.out _).mono ?_;rintro e w2 ⟨hg2,hp⟩;obtain⟨D,hD⟩:=zX w2.heap.size;clear HRT;cases hrd:ul s with
 | none=>
  rw[hrd]at hp;dsimp only at hp;have HP:=zH (show zxy s=0/\zya s=1 by unfold zxy zya;rw[hrd];exact⟨rfl,rfl⟩);subst hp;obtain⟨w3,hw3⟩:=zX (w2.alloc (.cells textZ.toArray 75));have HG3:=zH (show w.grownBy w3 none by rw[<-hw3];exact ya hg2 (World.grownBy_alloc w2 _ none));have HW3:=zH hw3;unfold textZ at HW3 ⊢;clear hrd hw3 hg2;go_upto_region 2 with fail;rw[HW3.out];(go_wp2_with fail;repeat ((first|refine cZ ?_|refine cW ?_);go_wp2_with fail));exact xc (.int .u64 0) (.int .i64 1) rfl ze ze zb zb ⟨zαo,HG3.out⟩
 | some r=>
  rw[hrd]at hp;dsimp only at hp;obtain⟨v,rfl,hv⟩:=hp;have hok:=ze9 hrd;have hkd:=zqp hrd;have hpv:zxy s=zyo (zqq 2139095040 2147483648 zxq r)/\zya s=if ovP 2139095040 zxq r then 2 else 0:=by unfold zxy zya;rw[hrd];exact⟨rfl,rfl⟩
  have hnt:=hnt r v;have hsl:=fun hb=>zvq 2139095040 zxq r hb zzm
  clear hrd;unfold zqq ovP at hpv;obtain⟨sp,hsp⟩:=zX (spG 2139095040 zxq r);rw[hsp]at hpv hsl;simp only[hsp]at hnt;clear hsp;obtain⟨kind,neg,b,l,x⟩:=r;dsimp only at hv hok hkd hpv hnt hsl ⊢;obtain⟨a,c,rfl⟩:=hv.1.len;obtain⟨N,hN⟩:=zX l.length;unfold zp9 at hnt;dsimp only at hnt;simp only[hN]at hv hnt hok ⊢;obtain⟨w3,hw3⟩:=zX (w2.alloc (.cells #[.int .i64 kind,.bool neg,.int .i64 (b:Int),.slice a N c,.int .i64 x] 75));have hgD:w2.grownBy w3 none:=zαR;have HG3:=zH (ya hg2 hgD);have HV3:=zH (hv.1.grown hgD);have hrD:Row w3 D [.int .i64 kind,.bool neg,.int .i64 (b:Int),.slice a N c,.int .i64 x]:=by rw[<-hw3,<-hD];exact Row.new w2 _ _
  have HW3:=zH hw3;have HDD:=zH hD;have HNT:=zH hnt;have HPV:=zH hpv;have HSL:=zH hsl;have HOK:=zH hok;have m0:=hrD.cell 0;have m1:=hrD.cell 1;have m2:=hrD.cell 2;have m3:=hrD.cell 3;have m4:=hrD.cell 4;simp only[List.getElem?_cons_zero,List.getElem?_cons_succ]at m0 m1 m2 m3 m4;clear hv hok hnt hpv hsl hw3 hgD hrD hD hg2 hN;go_upto_region 2 with fail;rw[HW3.out,HDD.out];clear HW3 HDD;rcases hkd with rfl | rfl | rfl
  ·obtain⟨hb,hdb,hlb,hx1,hx2⟩:=HOK.out.2 rfl;have hs1:=HSL.out hb;have HC:=zH (HNT.out w3 hb HV3.out hdb zd zd zd);have hp:=HPV.out;rw[if_neg ze,if_neg ze]at hp;have HP':=zH hp;clear hp HNT HPV HOK HSL HV3 hdb hb hlb hx1 hx2;(go_wp2_with fail;repeat ((first|refine cZ ?_|refine cW ?_);go_wp2_with fail));refine HC.out.mono ?_;rintro e w4 ⟨rfl,hg4⟩;have HG3:=zH (ya HG3.out hg4);obtain⟨y,hy,hyl⟩:∃ y,sp+(if neg=true then 2147483648 else 0)=y/\y<4294967296:=⟨_,rfl,zαT⟩;have HP:=HP';rw[hy]at HP ⊢;clear hg4 HP' HC;obtain⟨q,hq⟩:=zX ((sp==2139095040));rw[hq]at HP ⊢;clear hq;have hwr:IntKind.u32.wrap (y:Int)=(y:Int)\/True:=Or.inr trivial;have hwr2:IntKind.u32.wrap (y:Int)=(y:Int):=zzc _ zd;cases q
   ·simp only[decide_true,Bool.and_false,Bool.and_true,if_true,if_false,Bool.false_eq_true]at HP;(go_wp2_with fail;repeat ((first|refine cZ ?_|refine cW ?_);go_wp2_with fail));refine (HWI.out y zd _).mono ?_;rintro e w8 ⟨rfl,hg8⟩;have HG8:=zH (ya HG3.out hg8);clear hg8;generalize hq:zyo y=q;have HQ:=zH hq;clear hq;(go_wp2_with fail;repeat ((first|refine cZ ?_|refine cW ?_);go_wp2_with fail));exact xc (.int .u64 (q:Int)) (.int .i64 0) rfl ze ze zb zb ⟨zαP,HG8.out⟩
   ·simp only[decide_true,Bool.and_false,Bool.and_true,if_true,if_false,Bool.false_eq_true]at HP;(go_wp2_with fail;repeat ((first|refine cZ ?_|refine cW ?_);go_wp2_with fail));refine (HWI.out y zd _).mono ?_;rintro e w8 ⟨rfl,hg8⟩;have HG8:=zH (ya HG3.out hg8);clear hg8;generalize hq:zyo y=q;have HQ:=zH hq;clear hq;(go_wp2_with fail;repeat ((first|refine cZ ?_|refine cW ?_);go_wp2_with fail));exact xc (.int .u64 (q:Int)) (.int .i64 2) rfl ze ze zb zb ⟨zαP,HG8.out⟩
  ·have hp:=HPV.out;rw[if_pos rfl]at hp;have HP:=zH hp;clear hp HNT HPV HOK HSL HV3;cases neg
   ·simp only[Bool.false_eq_true,if_false,Nat.add_zero,show decide ((1:Int)=0)=false from rfl,Bool.false_and]at HP;(go_wp2_with fail;repeat ((first|refine cZ ?_|refine cW ?_);go_wp2_with fail));refine (HI.out _).mono ?_;rintro e w7 ⟨rfl,rfl⟩;have hwr2:IntKind.u32.wrap 2139095040=2139095040:=ze;(go_wp2_with fail;repeat ((first|refine cZ ?_|refine cW ?_);go_wp2_with fail));refine (HWI.out 2139095040 zd _).mono ?_;rintro e w8 ⟨rfl,hg8⟩;have HG8:=zH (ya HG3.out hg8);clear hg8;generalize hq:zyo 2139095040=q;have HQ:=zH hq;clear hq;(go_wp2_with fail;repeat ((first|refine cZ ?_|refine cW ?_);go_wp2_with fail));exact xc (.int .u64 (q:Int)) (.int .i64 0) rfl ze ze zb zb ⟨zαP,HG8.out⟩
   ·simp only[if_true,show decide ((1:Int)=0)=false from rfl,Bool.false_and,Bool.false_eq_true,if_false]at HP;(go_wp2_with fail;repeat ((first|refine cZ ?_|refine cW ?_);go_wp2_with fail));refine (HI.out _).mono ?_;rintro e w7 ⟨rfl,rfl⟩;(go_wp2_with fail;repeat ((first|refine cZ ?_|refine cW ?_);go_wp2_with fail));refine (HS.out _).mono ?_;rintro e w7 ⟨rfl,rfl⟩;have hwr:IntKind.u64.wrap (2139095040+2147483648)=4286578688:=ze;have hwr2:IntKind.u32.wrap 4286578688=4286578688:=ze;(go_wp2_with fail;repeat ((first|refine cZ ?_|refine cW ?_);go_wp2_with fail));refine (HWI.out 4286578688 zd _).mono ?_;rintro e w8 ⟨rfl,hg8⟩;have HG8:=zH (ya HG3.out hg8);clear hg8;generalize hq:zyo 4286578688=q;have HQ:=zH hq;clear hq;(go_wp2_with fail;repeat ((first|refine cZ ?_|refine cW ?_);go_wp2_with fail));exact xc (.int .u64 (q:Int)) (.int .i64 0) rfl ze ze zb zb ⟨zαP,HG8.out⟩
  ·have hp:=HPV.out;rw[if_neg ze,if_pos rfl]at hp;have HP:=zH hp;clear hp HNT HPV HOK HSL HV3;simp only[show decide ((2:Int)=0)=false from rfl,Bool.false_and,Bool.false_eq_true,if_false]at HP;(go_wp2_with fail;repeat ((first|refine cZ ?_|refine cW ?_);go_wp2_with fail));refine (HI.out _).mono ?_;rintro e w7 ⟨rfl,rfl⟩;have hwr:IntKind.u64.wrap (2139095040+1)=2139095041:=ze;have hwr2:IntKind.u32.wrap 2139095041=2139095041:=ze;(go_wp2_with fail;repeat ((first|refine cZ ?_|refine cW ?_);go_wp2_with fail));refine (HWI.out 2139095041 zd _).mono ?_;rintro e w8 ⟨rfl,hg8⟩;have HG8:=zH (ya HG3.out hg8);clear hg8;generalize hq:zyo 2139095041=q;have HQ:=zH hq;clear hq;(go_wp2_with fail;repeat ((first|refine cZ ?_|refine cW ?_);go_wp2_with fail));exact xc (.int .u64 (q:Int)) (.int .i64 0) rfl ze ze zb zb ⟨zαP,HG8.out⟩
end
section
attribute [local go_sem] undef
set_option maxRecDepth 100000 in
theorem zyt (sz:Int) (s:List UInt8) (q k v:Nat) (w:World) (hv:v<18446744073709551616) (hq:q<18446744073709551616)
  (h:k≠1->v=q\/v*2%18446744073709551616≠0)
  (hPB:∀ W,Calls Tryz.prog 32 #[.string ⟨s.toArray⟩,.int .i64 sz] W fun e w'=>e=.returned (.tuple #[.int .u64 (q:Int),.int .i64 (k:Int)])/\W.grownBy w' none):
  Calls Tryz.prog 24 #[.string ⟨s.toArray⟩,.int .i64 sz,.int .u64 (v:Int)] w fun e w'=>e=.returned (.bool false)/\w.grownBy w' none:=by
 have HPB:=zH hPB;have HZ1:=zH (fun W=>zxv q W hq);have HZ2:=zH (fun W=>zxv v W hv);have HH:=zH (show k≠1->q*2%18446744073709551616≠0->v*2%18446744073709551616≠0 from fun h1 h2=>by
  rcases h h1 with rfl | h3
  ·exact h2
  ·exact h3)
 clear hPB h hv hq;refine ye Tryz.func24 rfl (by rw[Tryz.ntmps24];simp) ?_;intro σ hσ;rw[Tryz.ntmps24];have s0:σ 0=.string ⟨s.toArray⟩:=hσ 0 zi;have s1:σ 1=.int .i64 sz:=hσ 1 zi;have s2:σ 2=.int .u64 (v:Int):=hσ 2 zi;clear hσ;(go_wp2_with fail;repeat ((first|refine cZ ?_|refine cW ?_);go_wp2_with fail));refine (HPB.out _).mono ?_;rintro e w1 ⟨rfl,hg1⟩;have HG1:=zH hg1;clear hg1 HPB;generalize q*2%18446744073709551616=zq at *
 generalize v*2%18446744073709551616=zv at *
 by_cases hk:k=1
 ·subst hk;(go_wp2_with fail;repeat ((first|refine cZ ?_|refine cW ?_);go_wp2_with fail));exact yl (.bool false) rfl ze zb ⟨rfl,HG1.out⟩
 ·have e1:((k:Int)==1)=false:=zf;have e2:(k==1)=false:=by rw[beq_eq_false_iff_ne];exact hk
  have e3:((k:Int) != 1)=true:=zh;have e4:(k != 1)=true:=by simp;exact hk
  have HK:=zH hk;clear hk;(go_wp2_with fail;repeat ((first|refine cZ ?_|refine cW ?_);go_wp2_with fail));refine (HZ1.out _).mono ?_;rintro e w2 ⟨rfl,rfl⟩;by_cases hz:zq=0
  ·have d1:decide (zq=0)=true:=decide_eq_true hz;clear hz;(go_wp2_with fail;repeat ((first|refine cZ ?_|refine cW ?_);go_wp2_with fail));exact yl (.bool false) rfl ze zb ⟨rfl,HG1.out⟩
  ·have d2:decide (zv=0)=false:=decide_eq_false (HH.out HK.out hz);have d1:decide (zq=0)=false:=decide_eq_false hz;clear hz;(go_wp2_with fail;repeat ((first|refine cZ ?_|refine cW ?_);go_wp2_with fail));refine (HZ2.out _).mono ?_;rintro e w2 ⟨rfl,rfl⟩;(go_wp2_with fail;repeat ((first|refine cZ ?_|refine cW ?_);go_wp2_with fail));exact yl (.bool false) rfl ze zb ⟨rfl,HG1.out⟩
set_option maxRecDepth 100000 in
theorem zx9 (a b:Nat) (w:World) (ha:a<18446744073709551616) (hb:b<18446744073709551616) (h:a=b\/(a*2%18446744073709551616=0/\b*2%18446744073709551616=0)):
  Calls Tryz.prog 30 #[.int .u64 (a:Int),.int .u64 (b:Int)] w fun e w'=>e=.returned (.bool true)/\w=w':=by
 have HZ1:=zH (fun W=>zxv a W ha);have HZ2:=zH (fun W=>zxv b W hb);refine ye Tryz.func30 rfl (by rw[Tryz.ntmps30];simp) ?_;intro σ hσ;rw[Tryz.ntmps30];have s0:σ 0=.int .u64 (a:Int):=hσ 0 zi;have s1:σ 1=.int .u64 (b:Int):=hσ 1 zi;clear hσ ha hb;by_cases hab:a=b
 ·subst hab;have e1:((a:Int)==(a:Int))=true:=zi;clear h;(go_wp2_with fail;repeat ((first|refine cZ ?_|refine cW ?_);go_wp2_with fail));exact yl (.bool true) rfl ze zb ⟨rfl,rfl⟩
 ·obtain⟨h1,h2⟩:=h.resolve_left hab;have e1:((a:Int)==(b:Int))=false:=zf;have e2:(a==b)=false:=by rw[beq_eq_false_iff_ne];exact hab
  generalize a*2%18446744073709551616=za at *
  generalize b*2%18446744073709551616=zb at *
  subst h1 h2;clear h hab;(go_wp2_with fail;repeat ((first|refine cZ ?_|refine cW ?_);go_wp2_with fail));refine (HZ1.out _).mono ?_;rintro e w7 ⟨rfl,rfl⟩;(go_wp2_with fail;repeat ((first|refine cZ ?_|refine cW ?_);go_wp2_with fail));refine (HZ2.out _).mono ?_;rintro e w7 ⟨rfl,rfl⟩;(go_wp2_with fail;repeat ((first|refine cZ ?_|refine cW ?_);go_wp2_with fail));exact yl (.bool true) rfl ze zb ⟨rfl,rfl⟩
end
section
attribute [local go_sem] undef
def yb7 (s:List UInt8) (w:World) (e:Ending) (w':World):Prop:=w.grownBy w' none/\
 ∃ (g:Bool) (a1:Option Addr) (n1 c1:Nat) (a2:Option Addr) (n2 c2:Nat) (b:Bool),e=.returned (.tuple #[.agg #[.bool g,.slice a1 n1 c1,.slice a2 n2 c2],.bool b])/\
  (b=true->∃ ng n d,zjy s=some (ng,n,d)/\zpu w' (.agg #[.bool g,.slice a1 n1 c1,.slice a2 n2 c2]) ng n d)
set_option maxRecDepth 100000 in
theorem ya4 (s:List UInt8) (w:World) (hs:s.length<=1050000):
  Calls Tryz.prog 21 #[.string ⟨s.toArray⟩] w (yb7 s w):=by
 have HRO:=zH (fun W=>zdx s W hs);have HCO:=zH (fun W=>zl6 s W zd);clear hs;refine ye Tryz.func21 rfl (by rw[Tryz.ntmps21];simp) ?_;intro σ hσ;rw[Tryz.ntmps21];have s0:σ 0=.string ⟨s.toArray⟩:=hσ 0 zi;clear hσ;obtain⟨w1,hw1⟩:=zX (w.alloc (.cells ratZ.toArray 38));have hrB:=Row.new w ratZ 38;have hgB:=World.grownBy_alloc w (.cells ratZ.toArray 38) none;rw[hw1]at hrB hgB;unfold ratZ at hw1;have HRB:=zH hrB;have HGB:=zH hgB;clear hrB hgB;obtain⟨B,hB⟩:=zX w.heap.size;go_wp2_with fail;clear hw1;rw[hB]at HRB;have hBw:w.heap.size<=B:=zd;clear hB;refine (HRO.out _).mono ?_;rintro e w2 ⟨hg2,hp⟩;have HRB2:=zH (HRB.out.grown hg2 zi);have HG2:=zH (ya HGB.out hg2);have hBlt:B<w1.heap.size:=HRB.out.lt;have hBlt2:B<w2.heap.size:=HRB2.out.lt;obtain⟨D,hD⟩:=zX w2.heap.size;have hDw:w.heap.size<=D:=zd;have hBD:B≠D:=zd;have hDB:D≠B:=fun e=>hBD e.symm
 clear hg2 HRB HGB HRO;obtain⟨g,a1,n1,c1,a2,n2,c2,okb,rfl,hok⟩:∃ (g:Bool) (a1:Option Addr) (n1 c1:Nat) (a2:Option Addr) (n2 c2:Nat) (b:Bool),e=.returned (.tuple #[.agg #[.bool g,.slice a1 n1 c1,.slice a2 n2 c2],.bool b])/\
   (b=true->∃ ng n d,zjy s=some (ng,n,d)/\g=ng/\NatV w2 (.slice a1 n1 c1) n/\NatV w2 (.slice a2 n2 c2) d):=by
  cases hr:zjy s with
  | none=>
   rw[hr]at hp;exact⟨false,none,0,0,none,0,0,false,hp,fun h=>zF⟩
  | some x=>
   obtain⟨ng,n,d⟩:=x;rw[hr]at hp;obtain⟨vr,he,vn,vd,rfl,h1,h2⟩:=hp;obtain⟨a1,c1,rfl⟩:=h1.len;obtain⟨a2,c2,rfl⟩:=h2.len;exact⟨ng,a1,_,c1,a2,_,c2,true,he,fun _=>⟨ng,n,d,rfl,rfl,h1,h2⟩⟩
 clear hp;obtain⟨w3,hw3⟩:=zX (w2.alloc (.cells #[.bool g,.slice a1 n1 c1,.slice a2 n2 c2] 38));have hgD:w2.grownBy w3 none:=zαR;have HRB3:=zH (HRB2.out.grown hgD zi);have HG3:=zH (ya HG2.out hgD);have HRD:=zH (show Row w3 D [.bool g,.slice a1 n1 c1,.slice a2 n2 c2] by rw[<-hw3,<-hD];exact Row.new w2 _ _);have HOK:=zH (show okb=true->∃ ng n d,zjy s=some (ng,n,d)/\g=ng/\NatV w3 (.slice a1 n1 c1) n/\NatV w3 (.slice a2 n2 c2) d from fun h=>by
  obtain⟨ng,n,d,h1,h2,h3,h4⟩:=hok h;exact⟨ng,n,d,h1,h2,h3.grown hgD,h4.grown hgD⟩)
 have HW3:=zH hw3;have HDD:=zH hD;clear hw3 hD hgD hok HRB2 HG2;go_upto_region 2 with fail;rw[HW3.out,HDD.out];clear HW3 HDD;have HM:=zH (show w3.cell? ⟨D,0,none⟩=some (.bool g)/\w3.cell? ⟨D,1,none⟩=some (.slice a1 n1 c1)/\w3.cell? ⟨D,2,none⟩=some (.slice a2 n2 c2) from ⟨HRD.out.cell 0,HRD.out.cell 1,HRD.out.cell 2⟩);refine wp_region_noPanic ?_;refine wp_region_held_drew (S:=fun W=>w.grownBy W none/\(W.cell? ⟨D,0,none⟩=some (.bool g)/\W.cell? ⟨D,1,none⟩=some (.slice a1 n1 c1)/\W.cell? ⟨D,2,none⟩=some (.slice a2 n2 c2))) zg ⟨ya HG3.out (yh w3 1 none),HM.out⟩ (fun hHeld=>?_);(refine xg 0 11 (oi:=?_) (v:=?_) ?_ ?_ zg zg zg (fun _ _ _ _ _ h=>h) ?_ zq ?_ ?_;rotate_left 2;(focus ((simp only[List.getElem?_toArray,List.getElem?_cons_succ,List.getElem?_cons_zero]);rfl));(focus rfl);(focus (first | rfl | (simp only[Region.wanted,yielded,List.getElem?_toArray,List.getElem?_cons_succ,List.getElem?_cons_zero,Option.bind_some,Option.map_some,Fr_get?,yc,yd];rfl) | go_simp));(focus (intro W hS;have hc0:=hS.2.1;have hc1:=hS.2.2.1;have hc2:=hS.2.2.2;go_simp;try with_reducible rfl)));(refine yg 1 12 ?_;refine yg 2 13 ?_);cases okb
 case false=>
  (refine ybt 3 14 ?_;refine ybt 4 15 ?_;refine ybt 5 16 ?_);(refine yg 6 17 ?_);have hrB9:=HRB3.out.drew;obtain⟨wd,hwd⟩:=zX w3.drew;replace hHeld:w.grownBy wd none/\(wd.cell? ⟨D,0,none⟩=some (.bool g)/\wd.cell? ⟨D,1,none⟩=some (.slice a1 n1 c1)/\wd.cell? ⟨D,2,none⟩=some (.slice a2 n2 c2)):=by rw[<-hwd];exact hHeld
  rw[hwd]at hrB9 ⊢;clear hwd;have k0:=hrB9.cell 0;have k1:=hrB9.cell 1;have k2:=hrB9.cell 2;have t0:=hrB9.frozen 0;have t1:=hrB9.frozen 1;have t2:=hrB9.frozen 2;unfold ratZ at k0 k1 k2;simp only[List.getElem?_cons_zero,List.getElem?_cons_succ]at k0 k1 k2;have hh:=hHeld.1;(refine zO 7 ?_;intro K hK;go_simp;(skip);go_wp2_with fail;replace hHeld:=And.intro (xk hHeld.1 hBw (.bool g) (.slice a1 n1 c1) (.slice a2 n2 c2)) (And.intro (zm1 hDB hHeld.2.1 (.bool g) (.slice a1 n1 c1) (.slice a2 n2 c2)) (And.intro (zm1 hDB hHeld.2.2.1 (.bool g) (.slice a1 n1 c1) (.slice a2 n2 c2)) (zm1 hDB hHeld.2.2.2 (.bool g) (.slice a1 n1 c1) (.slice a2 n2 c2))));refine hK.out _ _ hHeld ?_;clear hK K);(refine yg 8 3 ?_);refine wpAnyH_done zg ?_ _;refine NoPanic.normal ?_;have HG9:=zH hh;have HR9:=zH hrB9;clear hh hrB9 k0 k1 k2 t0 t1 t2 hHeld;(go_wp2_with fail;repeat ((first|refine cZ ?_|refine cW ?_);go_wp2_with fail));obtain⟨ty,hrow⟩:=wp HR9.out (.bool g) (.slice a1 n1 c1) (.slice a2 n2 c2);refine we (B:=B) (.agg #[.bool g,.slice a1 n1 c1,.slice a2 n2 c2]) (.bool false) rfl ze ze zb zb ?_ ⟨xk HG9.out hBw _ _ _,g,a1,n1,c1,a2,n2,c2,false,rfl,fun h=>zF⟩;exact run_loadVar_row (P:=Tryz.prog) _ B ty 38 _ (0,0) _ hrow Tryz.underlying38 rfl zg
 (refine yg 3 14 ?_);(refine zO 4 ?_;intro K hK;go_simp;(refine (HCO.out _).mono ?_;rintro e w9 ⟨⟨c,rfl⟩,hg9⟩);go_wp2_with fail;replace hHeld:=And.intro (ya hHeld.1 hg9) (And.intro (vl hg9 hHeld.2.1) (And.intro (vl hg9 hHeld.2.2.1) (vl hg9 hHeld.2.2.2)));refine hK.out _ _ hHeld ?_;clear hK K);have hrB9:=(HRB3.out.drew).grown hg9 zi;have h39:w3.grownBy w9 none:=ya (yh w3 1 none) hg9;have H39:=zH h39;clear hg9 h39;(refine yg 5 16 ?_;refine yg 6 17 ?_);have k0:=hrB9.cell 0;have k1:=hrB9.cell 1;have k2:=hrB9.cell 2;have t0:=hrB9.frozen 0;have t1:=hrB9.frozen 1;have t2:=hrB9.frozen 2;unfold ratZ at k0 k1 k2;simp only[List.getElem?_cons_zero,List.getElem?_cons_succ]at k0 k1 k2;have hh:=hHeld.1;(refine zO 7 ?_;intro K hK;go_simp;(skip);go_wp2_with fail;replace hHeld:=And.intro (xk hHeld.1 hBw (.bool g) (.slice a1 n1 c1) (.slice a2 n2 c2)) (And.intro (zm1 hDB hHeld.2.1 (.bool g) (.slice a1 n1 c1) (.slice a2 n2 c2)) (And.intro (zm1 hDB hHeld.2.2.1 (.bool g) (.slice a1 n1 c1) (.slice a2 n2 c2)) (zm1 hDB hHeld.2.2.2 (.bool g) (.slice a1 n1 c1) (.slice a2 n2 c2))));refine hK.out _ _ hHeld ?_;clear hK K);(refine yg 8 3 ?_);refine wpAnyH_done zg ?_ _;refine NoPanic.normal ?_;have HG9:=zH hh;have HR9:=zH hrB9;clear hh hrB9 k0 k1 k2 t0 t1 t2 hHeld;(go_wp2_with fail;repeat ((first|refine cZ ?_|refine cW ?_);go_wp2_with fail));obtain⟨ty,hrow⟩:=wp HR9.out (.bool g) (.slice a1 n1 c1) (.slice a2 n2 c2);refine we (B:=B) (.agg #[.bool g,.slice a1 n1 c1,.slice a2 n2 c2]) (.bool (!c)) rfl ze ze zb zb ?_ ⟨xk HG9.out hBw _ _ _,g,a1,n1,c1,a2,n2,c2,!c,rfl,fun _=>?_⟩
 ·exact run_loadVar_row (P:=Tryz.prog) _ B ty 38 _ (0,0) _ hrow Tryz.underlying38 rfl zg
 ·obtain⟨ng,n,d,h1,h2,h3,h4⟩:=HOK.out zi;subst h2;exact⟨g,n,d,h1,_,_,rfl,yz HR9.out (h3.grown H39.out) _ _ _,yz HR9.out (h4.grown H39.out) _ _ _⟩
end
end Go.Proofs.YtocbeoomhlgnkaaGreatDoor
