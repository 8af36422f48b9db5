/- Lemmas that the claim's top text leans on. No condition of their own. -/
import Derived.Test.YtoacbkokkkpofaaGreatDoorK23
namespace Go.Proofs.YtoacbkokkkpofaaGreatDoor
open Go.RowKit
set_option linter.unusedSimpArgs false
set_option linter.unusedVariables false
set_option maxHeartbeats 16000000
section
attribute [local go_sem] undef
def zqq (inf sg:Nat) (nb:Nat->Nat->Nat) (r:Txt):Nat:=if r.kind=1 then inf+(if r.neg then sg else 0) else if r.kind=2 then inf+1 else spG inf nb r+(if r.neg then sg else 0)
def ovP (inf:Nat) (nb:Nat->Nat->Nat) (r:Txt):Bool:=decide (r.kind=0)&&(spG inf nb r==inf)
theorem zvq (inf:Nat) (nb:Nat->Nat->Nat) (r:Txt) (hb:r.base=10\/r.base=16) (h:∀ a b,b≠0->nb a b<=inf):spG inf nb r<=inf:=by
 unfold spG;split
 ·omega
 ·split
  ·omega
  ·refine h _ _ ?_;have:0<qk r.base^(-r.exp).toNat:=Nat.pow_pos (by rcases hb with h | h <;> rw[h] <;> decide);omega
theorem znu (a b:Nat) (hb:b≠0):xd a b<=9218868437227405312:=ud 52 1023 _ a b hb ze rfl
theorem zzm (a b:Nat) (hb:b≠0):zxq a b<=2139095040:=ud 23 127 _ a b hb ze rfl
theorem zzc (n:Nat) (h:n<4294967296):IntKind.u32.wrap (n:Int)=(n:Int):=by
 show ((n:Int)%4294967296)=n;omega
def zdy (s:List UInt8):Nat:=match ul s with
 | none=>0
 | some r=>zqq 9218868437227405312 9223372036854775808 xd r
def zig (s:List UInt8):Nat:=match ul s with
 | none=>1
 | some r=>if ovP 9218868437227405312 xd r then 2 else 0
def zxy (s:List UInt8):Nat:=match ul s with
 | none=>0
 | some r=>zyo (zqq 2139095040 2147483648 zxq r)
def zya (s:List UInt8):Nat:=match ul s with
 | none=>1
 | some r=>if ovP 2139095040 zxq r then 2 else 0
theorem zqp {s:List UInt8} {t:Txt} (h:ul s=some t):t.kind=0\/t.kind=1\/t.kind=2:=by
 refine zco s _ (fun _ hr=>?_) (fun ng _ hr=>?_) (fun _ hr=>?_)
 ·rw[h]at hr;cases hr;exact Or.inr (Or.inr rfl)
 ·rw[h]at hr;cases hr;exact Or.inr (Or.inl rfl)
 ·rw[h]at hr;cases hl:zau s with
  | none=>rw[hl]at hr;cases hr
  | some L=>rw[hl]at hr;cases hr;exact Or.inl rfl
set_option maxRecDepth 100000 in
theorem zc0 (s:List UInt8) (w:World) (hs:s.length<=1050000):
  Calls Tryz.prog 30 #[.string ⟨s.toArray⟩,.int .i64 64] w fun e w'=>e=.returned (.tuple #[.int .u64 (zdy s:Int),.int .i64 (zig s:Int)])/\w.grownBy w' none:=by
 have HRT:=zH (fun W=>zbo s W zd);have hnt:=fun r v W hb hr hd hl hx1 hx2=>zd0 r v W hb hr hd hl hx1 hx2
 have HI:=zH wy;have HS:=zH wm;have HWI:=zH zkx;refine ye Tryz.func30 rfl (by rw[Tryz.ntmps30];simp) ?_;intro σ hσ;rw[Tryz.ntmps30];have s0:σ 0=.string ⟨s.toArray⟩:=hσ 0 zi;have s1:σ 1=.int .i64 64:=hσ 1 zi;clear hσ;go_wp2_with fail;refine (HRT.out _).mono ?_;rintro e w2 ⟨hg2,hp⟩;obtain⟨D,hD⟩:=zX w2.heap.size;clear HRT;cases hrd:ul s with
 | none=>
  rw[hrd]at hp;dsimp only at hp;have HP:=zH (show zdy s=0/\zig s=1 by unfold zdy zig;rw[hrd];exact⟨rfl,rfl⟩);subst hp;obtain⟨w3,hw3⟩:=zX (w2.alloc (.cells textZ.toArray 62));have HG3:=zH (show w.grownBy w3 none by rw[<-hw3];exact ya hg2 (World.grownBy_alloc w2 _ none));have HW3:=zH hw3;unfold textZ at HW3 ⊢;clear hrd hw3 hg2;go_upto_region 2 with fail;rw[HW3.out];(go_wp2_with fail;repeat ((first|refine cZ ?_|refine cW ?_);go_wp2_with fail));exact xc (.int .u64 0) (.int .i64 1) rfl ze ze zb zb ⟨zαo,HG3.out⟩
 | some r=>
  rw[hrd]at hp;dsimp only at hp;obtain⟨v,rfl,hv⟩:=hp;have hok:=ze9 hrd;have hkd:=zqp hrd;have hpv:zdy s=(zqq 9218868437227405312 9223372036854775808 xd r)/\zig s=if ovP 9218868437227405312 xd r then 2 else 0:=by unfold zdy zig;rw[hrd];exact⟨rfl,rfl⟩
  have hnt:=hnt r v;have hsl:=fun hb=>zvq 9218868437227405312 xd r hb znu
  clear hrd;unfold zqq ovP at hpv;obtain⟨sp,hsp⟩:=zX (spG 9218868437227405312 xd r);rw[hsp]at hpv hsl;simp only[hsp]at hnt;clear hsp;obtain⟨kind,neg,b,l,x⟩:=r;dsimp only at hv hok hkd hpv hnt hsl ⊢;obtain⟨a,c,rfl⟩:=hv.1.len;obtain⟨N,hN⟩:=zX l.length;unfold zp9 at hnt;dsimp only at hnt;simp only[hN]at hv hnt hok ⊢;obtain⟨w3,hw3⟩:=zX (w2.alloc (.cells #[.int .i64 kind,.bool neg,.int .i64 (b:Int),.slice a N c,.int .i64 x] 62));have hgD:w2.grownBy w3 none:=zαR;have HG3:=zH (ya hg2 hgD);have HV3:=zH (hv.1.grown hgD);have hrD:Row w3 D [.int .i64 kind,.bool neg,.int .i64 (b:Int),.slice a N c,.int .i64 x]:=by rw[<-hw3,<-hD];exact Row.new w2 _ _
  have HW3:=zH hw3;have HDD:=zH hD;have HNT:=zH hnt;have HPV:=zH hpv;have HSL:=zH hsl;have HOK:=zH hok;have m0:=hrD.cell 0;have m1:=hrD.cell 1;have m2:=hrD.cell 2;have m3:=hrD.cell 3;have m4:=hrD.cell 4;simp only[List.getElem?_cons_zero,List.getElem?_cons_succ]at m0 m1 m2 m3 m4;clear hv hok hnt hpv hsl hw3 hgD hrD hD hg2 hN;go_upto_region 2 with fail;rw[HW3.out,HDD.out];clear HW3 HDD;rcases hkd with rfl | rfl | rfl
  ·obtain⟨hb,hdb,hlb,hx1,hx2⟩:=HOK.out.2 rfl;have hs1:=HSL.out hb;have HC:=zH (HNT.out w3 hb HV3.out hdb zd zd zd);have hp:=HPV.out;rw[if_neg ze,if_neg ze]at hp;have HP':=zH hp;clear hp HNT HPV HOK HSL HV3 hdb hb hlb hx1 hx2;(go_wp2_with fail;repeat ((first|refine cZ ?_|refine cW ?_);go_wp2_with fail));refine HC.out.mono ?_;rintro e w4 ⟨rfl,hg4⟩;have HG3:=zH (ya HG3.out hg4);obtain⟨y,hy,hyl⟩:∃ y,sp+(if neg=true then 9223372036854775808 else 0)=y/\y<18446744073709551616:=⟨_,rfl,zαT⟩;have HP:=HP';rw[hy]at HP ⊢;clear hg4 HP' HC;obtain⟨q,hq⟩:=zX ((sp==9218868437227405312));rw[hq]at HP ⊢;clear hq;have hwr:IntKind.u32.wrap (y:Int)=(y:Int)\/True:=Or.inr trivial;cases q
   ·simp only[decide_true,Bool.and_false,Bool.and_true,if_true,if_false,Bool.false_eq_true]at HP;generalize hq:y=q;have HQ:=zH hq;clear hq;(go_wp2_with fail;repeat ((first|refine cZ ?_|refine cW ?_);go_wp2_with fail));exact xc (.int .u64 (q:Int)) (.int .i64 0) rfl ze ze zb zb ⟨zαP,HG3.out⟩
   ·simp only[decide_true,Bool.and_false,Bool.and_true,if_true,if_false,Bool.false_eq_true]at HP;generalize hq:y=q;have HQ:=zH hq;clear hq;(go_wp2_with fail;repeat ((first|refine cZ ?_|refine cW ?_);go_wp2_with fail));exact xc (.int .u64 (q:Int)) (.int .i64 2) rfl ze ze zb zb ⟨zαP,HG3.out⟩
  ·have hp:=HPV.out;rw[if_pos rfl]at hp;have HP:=zH hp;clear hp HNT HPV HOK HSL HV3;cases neg
   ·simp only[Bool.false_eq_true,if_false,Nat.add_zero,show decide ((1:Int)=0)=false from rfl,Bool.false_and]at HP;(go_wp2_with fail;repeat ((first|refine cZ ?_|refine cW ?_);go_wp2_with fail));refine (HI.out _).mono ?_;rintro e w7 ⟨rfl,rfl⟩;(go_wp2_with fail;repeat ((first|refine cZ ?_|refine cW ?_);go_wp2_with fail));exact xc (.int .u64 9218868437227405312) (.int .i64 0) rfl ze ze zb zb ⟨zαo,HG3.out⟩
   ·simp only[if_true,show decide ((1:Int)=0)=false from rfl,Bool.false_and,Bool.false_eq_true,if_false]at HP;(go_wp2_with fail;repeat ((first|refine cZ ?_|refine cW ?_);go_wp2_with fail));refine (HI.out _).mono ?_;rintro e w7 ⟨rfl,rfl⟩;(go_wp2_with fail;repeat ((first|refine cZ ?_|refine cW ?_);go_wp2_with fail));refine (HS.out _).mono ?_;rintro e w7 ⟨rfl,rfl⟩;have hwr:IntKind.u64.wrap (9218868437227405312+9223372036854775808)=18442240474082181120:=ze;(go_wp2_with fail;repeat ((first|refine cZ ?_|refine cW ?_);go_wp2_with fail));exact xc (.int .u64 18442240474082181120) (.int .i64 0) rfl ze ze zb zb ⟨zαo,HG3.out⟩
  ·have hp:=HPV.out;rw[if_neg ze,if_pos rfl]at hp;have HP:=zH hp;clear hp HNT HPV HOK HSL HV3;simp only[show decide ((2:Int)=0)=false from rfl,Bool.false_and,Bool.false_eq_true,if_false]at HP;(go_wp2_with fail;repeat ((first|refine cZ ?_|refine cW ?_);go_wp2_with fail));refine (HI.out _).mono ?_;rintro e w7 ⟨rfl,rfl⟩;have hwr:IntKind.u64.wrap (9218868437227405312+1)=9218868437227405313:=ze;(go_wp2_with fail;repeat ((first|refine cZ ?_|refine cW ?_);go_wp2_with fail));exact xc (.int .u64 9218868437227405313) (.int .i64 0) rfl ze ze zb zb ⟨zαo,HG3.out⟩
set_option maxRecDepth 100000 in
theorem zxu (s:List UInt8) (w:World) (hs:s.length<=1050000):
  Calls Tryz.prog 30 #[.string ⟨s.toArray⟩,.int .i64 32] w fun e w'=>e=.returned (.tuple #[.int .u64 (zxy s:Int),.int .i64 (zya s:Int)])/\w.grownBy w' none:=by
 have HRT:=zH (fun W=>zbo s W zd);have hnt:=fun r v W hb hr hd hl hx1 hx2=>zyb r v W hb hr hd hl hx1 hx2
 have HI:=zH zdg;have HS:=zH ur;have HWI:=zH zkx;refine ye Tryz.func30 rfl (by rw[Tryz.ntmps30];simp) ?_;intro σ hσ;rw[Tryz.ntmps30];have s0:σ 0=.string ⟨s.toArray⟩:=hσ 0 zi;have s1:σ 1=.int .i64 32:=hσ 1 zi;clear hσ;go_wp2_with fail;refine (HRT.out _).mono ?_;rintro e w2 ⟨hg2,hp⟩;obtain⟨D,hD⟩:=zX w2.heap.size;clear HRT;cases hrd:ul s with
 | none=>
  rw[hrd]at hp;dsimp only at hp;have HP:=zH (show zxy s=0/\zya s=1 by unfold zxy zya;rw[hrd];exact⟨rfl,rfl⟩);subst hp;obtain⟨w3,hw3⟩:=zX (w2.alloc (.cells textZ.toArray 62));have HG3:=zH (show w.grownBy w3 none by rw[<-hw3];exact ya hg2 (World.grownBy_alloc w2 _ none));have HW3:=zH hw3;unfold textZ at HW3 ⊢;clear hrd hw3 hg2;go_upto_region 2 with fail;rw[HW3.out];(go_wp2_with fail;repeat ((first|refine cZ ?_|refine cW ?_);go_wp2_with fail));exact xc (.int .u64 0) (.int .i64 1) rfl ze ze zb zb ⟨zαo,HG3.out⟩
 | some r=>
  rw[hrd]at hp;dsimp only at hp;obtain⟨v,rfl,hv⟩:=hp;have hok:=ze9 hrd;have hkd:=zqp hrd;have hpv:zxy s=zyo (zqq 2139095040 2147483648 zxq r)/\zya s=if ovP 2139095040 zxq r then 2 else 0:=by unfold zxy zya;rw[hrd];exact⟨rfl,rfl⟩
  have hnt:=hnt r v;have hsl:=fun hb=>zvq 2139095040 zxq r hb zzm
  clear hrd;unfold zqq ovP at hpv;obtain⟨sp,hsp⟩:=zX (spG 2139095040 zxq r);rw[hsp]at hpv hsl;simp only[hsp]at hnt;clear hsp;obtain⟨kind,neg,b,l,x⟩:=r;dsimp only at hv hok hkd hpv hnt hsl ⊢;obtain⟨a,c,rfl⟩:=hv.1.len;obtain⟨N,hN⟩:=zX l.length;unfold zp9 at hnt;dsimp only at hnt;simp only[hN]at hv hnt hok ⊢;obtain⟨w3,hw3⟩:=zX (w2.alloc (.cells #[.int .i64 kind,.bool neg,.int .i64 (b:Int),.slice a N c,.int .i64 x] 62));have hgD:w2.grownBy w3 none:=zαR;have HG3:=zH (ya hg2 hgD);have HV3:=zH (hv.1.grown hgD);have hrD:Row w3 D [.int .i64 kind,.bool neg,.int .i64 (b:Int),.slice a N c,.int .i64 x]:=by rw[<-hw3,<-hD];exact Row.new w2 _ _
  have HW3:=zH hw3;have HDD:=zH hD;have HNT:=zH hnt;have HPV:=zH hpv;have HSL:=zH hsl;have HOK:=zH hok;have m0:=hrD.cell 0;have m1:=hrD.cell 1;have m2:=hrD.cell 2;have m3:=hrD.cell 3;have m4:=hrD.cell 4;simp only[List.getElem?_cons_zero,List.getElem?_cons_succ]at m0 m1 m2 m3 m4;clear hv hok hnt hpv hsl hw3 hgD hrD hD hg2 hN;go_upto_region 2 with fail;rw[HW3.out,HDD.out];clear HW3 HDD;rcases hkd with rfl | rfl | rfl
  ·obtain⟨hb,hdb,hlb,hx1,hx2⟩:=HOK.out.2 rfl;have hs1:=HSL.out hb;have HC:=zH (HNT.out w3 hb HV3.out hdb zd zd zd);have hp:=HPV.out;rw[if_neg ze,if_neg ze]at hp;have HP':=zH hp;clear hp HNT HPV HOK HSL HV3 hdb hb hlb hx1 hx2;(go_wp2_with fail;repeat ((first|refine cZ ?_|refine cW ?_);go_wp2_with fail));refine HC.out.mono ?_;rintro e w4 ⟨rfl,hg4⟩;have HG3:=zH (ya HG3.out hg4);obtain⟨y,hy,hyl⟩:∃ y,sp+(if neg=true then 2147483648 else 0)=y/\y<4294967296:=⟨_,rfl,zαT⟩;have HP:=HP';rw[hy]at HP ⊢;clear hg4 HP' HC;obtain⟨q,hq⟩:=zX ((sp==2139095040));rw[hq]at HP ⊢;clear hq;have hwr:IntKind.u32.wrap (y:Int)=(y:Int)\/True:=Or.inr trivial;have hwr2:IntKind.u32.wrap (y:Int)=(y:Int):=zzc _ zd;cases q
   ·simp only[decide_true,Bool.and_false,Bool.and_true,if_true,if_false,Bool.false_eq_true]at HP;(go_wp2_with fail;repeat ((first|refine cZ ?_|refine cW ?_);go_wp2_with fail));refine (HWI.out y zd _).mono ?_;rintro e w8 ⟨rfl,hg8⟩;have HG8:=zH (ya HG3.out hg8);clear hg8;generalize hq:zyo y=q;have HQ:=zH hq;clear hq;(go_wp2_with fail;repeat ((first|refine cZ ?_|refine cW ?_);go_wp2_with fail));exact xc (.int .u64 (q:Int)) (.int .i64 0) rfl ze ze zb zb ⟨zαP,HG8.out⟩
   ·simp only[decide_true,Bool.and_false,Bool.and_true,if_true,if_false,Bool.false_eq_true]at HP;(go_wp2_with fail;repeat ((first|refine cZ ?_|refine cW ?_);go_wp2_with fail));refine (HWI.out y zd _).mono ?_;rintro e w8 ⟨rfl,hg8⟩;have HG8:=zH (ya HG3.out hg8);clear hg8;generalize hq:zyo y=q;have HQ:=zH hq;clear hq;(go_wp2_with fail;repeat ((first|refine cZ ?_|refine cW ?_);go_wp2_with fail));exact xc (.int .u64 (q:Int)) (.int .i64 2) rfl ze ze zb zb ⟨zαP,HG8.out⟩
  ·have hp:=HPV.out;rw[if_pos rfl]at hp;have HP:=zH hp;clear hp HNT HPV HOK HSL HV3;cases neg
   ·simp only[Bool.false_eq_true,if_false,Nat.add_zero,show decide ((1:Int)=0)=false from rfl,Bool.false_and]at HP;(go_wp2_with fail;repeat ((first|refine cZ ?_|refine cW ?_);go_wp2_with fail));refine (HI.out _).mono ?_;rintro e w7 ⟨rfl,rfl⟩;have hwr2:IntKind.u32.wrap 2139095040=2139095040:=ze;(go_wp2_with fail;repeat ((first|refine cZ ?_|refine cW ?_);go_wp2_with fail));refine (HWI.out 2139095040 zd _).mono ?_;rintro e w8 ⟨rfl,hg8⟩;have HG8:=zH (ya HG3.out hg8);clear hg8;generalize hq:zyo 2139095040=q;have HQ:=zH hq;clear hq;(go_wp2_with fail;repeat ((first|refine cZ ?_|refine cW ?_);go_wp2_with fail));exact xc (.int .u64 (q:Int)) (.int .i64 0) rfl ze ze zb zb ⟨zαP,HG8.out⟩
   ·simp only[if_true,show decide ((1:Int)=0)=false from rfl,Bool.false_and,Bool.false_eq_true,if_false]at HP;(go_wp2_with fail;repeat ((first|refine cZ ?_|refine cW ?_);go_wp2_with fail));refine (HI.out _).mono ?_;rintro e w7 ⟨rfl,rfl⟩;(go_wp2_with fail;repeat ((first|refine cZ ?_|refine cW ?_);go_wp2_with fail));refine (HS.out _).mono ?_;rintro e w7 ⟨rfl,rfl⟩;have hwr:IntKind.u64.wrap (2139095040+2147483648)=4286578688:=ze;have hwr2:IntKind.u32.wrap 4286578688=4286578688:=ze;(go_wp2_with fail;repeat ((first|refine cZ ?_|refine cW ?_);go_wp2_with fail));refine (HWI.out 4286578688 zd _).mono ?_;rintro e w8 ⟨rfl,hg8⟩;have HG8:=zH (ya HG3.out hg8);clear hg8;generalize hq:zyo 4286578688=q;have HQ:=zH hq;clear hq;(go_wp2_with fail;repeat ((first|refine cZ ?_|refine cW ?_);go_wp2_with fail));exact xc (.int .u64 (q:Int)) (.int .i64 0) rfl ze ze zb zb ⟨zαP,HG8.out⟩
  ·have hp:=HPV.out;rw[if_neg ze,if_pos rfl]at hp;have HP:=zH hp;clear hp HNT HPV HOK HSL HV3;simp only[show decide ((2:Int)=0)=false from rfl,Bool.false_and,Bool.false_eq_true,if_false]at HP;(go_wp2_with fail;repeat ((first|refine cZ ?_|refine cW ?_);go_wp2_with fail));refine (HI.out _).mono ?_;rintro e w7 ⟨rfl,rfl⟩;have hwr:IntKind.u64.wrap (2139095040+1)=2139095041:=ze;have hwr2:IntKind.u32.wrap 2139095041=2139095041:=ze;(go_wp2_with fail;repeat ((first|refine cZ ?_|refine cW ?_);go_wp2_with fail));refine (HWI.out 2139095041 zd _).mono ?_;rintro e w8 ⟨rfl,hg8⟩;have HG8:=zH (ya HG3.out hg8);clear hg8;generalize hq:zyo 2139095041=q;have HQ:=zH hq;clear hq;(go_wp2_with fail;repeat ((first|refine cZ ?_|refine cW ?_);go_wp2_with fail));exact xc (.int .u64 (q:Int)) (.int .i64 0) rfl ze ze zb zb ⟨zαP,HG8.out⟩
end
end Go.Proofs.YtoacbkokkkpofaaGreatDoor
