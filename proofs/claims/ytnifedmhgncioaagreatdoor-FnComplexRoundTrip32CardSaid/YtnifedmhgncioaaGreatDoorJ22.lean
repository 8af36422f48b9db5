/- Lemmas that the claim's top text leans on. No condition of their own. -/
import Derived.Test.YtnifedmhgncioaaGreatDoorJ21
import Derived.Test.YtnifedmhgncioaaGreatDoorJ02
import Derived.Test.YtnifedmhgncioaaGreatDoorJS
namespace Go.Proofs.YtnifedmhgncioaaGreatDoor
open Go.RowKit
set_option linter.unusedSimpArgs false
set_option linter.unusedVariables false
set_option maxHeartbeats 16000000
section
attribute [local go_sem] undef
theorem xy {P:Program} {fn:Func} {R:Ending->World->Prop} {n:Nat} {env:List (Nat×Value)} {s:Nat->Value} {w:World} {t u p:Nat} (v x y:Value) (hr:fn.results=#[.tmp t,.tmp u,.tmp p]) (ht:t<n) (hu:u<n) (hp:p<n) (hv:over env s t=v) (hx:over env s u=x) (hy:over env s p=y) (hR:R (.returned (.tuple #[v,x,y])) w):bodyPost P fn R .ret (Fr n env s) w:=by
 refine bodyPost_ret (v:=.tuple #[v,x,y]) ?_ (vz ..) hR;have:(results fn (Fr n env s).tmps).run P w=.ok (.tuple #[(Fr n env s).tmps.getD t undef,(Fr n env s).tmps.getD u undef,(Fr n env s).tmps.getD p undef]) w:=by simp[results,hr]
 rw[this,wa n env s t ht,wa n env s u hu,wa n env s p hp,hv,hx,hy]
theorem or32 (c:UInt8):bits .or .u8 (c.toNat:Int) 32=((wc c:Nat):Int):=by
 refine vu (fun c=>bits .or .u8 (c.toNat:Int) 32=((wc c:Nat):Int)) ?_ c;decide +kernel
theorem za5 (c:UInt8) (w:World):Calls Tryz.prog 123 #[.int .u8 (c.toNat:Int)] w fun e w'=>e=.returned (.int .u8 ((wc c:Nat):Int))/\w=w':=by
 refine (Tryz.internal_strconv_lower (c.toNat:Int) w).mono ?_;rintro e w' ⟨rfl,rfl⟩;exact⟨by rw[or32],rfl⟩
theorem zxs (b:Nat) (w:World):(callFunc 111 #[.int .u32 (b:Int)]).run Tryz.prog w=.ok (.value (.float .f32 b)) w:=by kernel_rfl
def cpL:List UInt8->List UInt8->Nat
 | c::s,q::p=>if vb c=q then 1+cpL s p else 0
 | _,_=>0
theorem zrz (s p:List UInt8) (i:Nat) (h1:i<s.length) (h2:i<p.length):cpL (s.drop i) (p.drop i)=if vb (s.getD i 0)=p.getD i 0 then 1+cpL (s.drop (i+1)) (p.drop (i+1)) else 0:=by
 rw[ua s i h1,ua p i h2];rfl
theorem zuy (s p:List UInt8) (i:Nat) (h:i=min p.length s.length):cpL (s.drop i) (p.drop i)=0:=by
 rcases Nat.lt_or_ge i s.length with h1 | h1
 ·have h2:p.length<=i:=zd;rw[List.drop_eq_nil_of_le h2];cases s.drop i <;> rfl
 ·rw[List.drop_eq_nil_of_le h1];rfl
theorem zer (s p:List UInt8):cpL s p<=p.length:=by
 induction s generalizing p with
 | nil=>simp[cpL]
 | cons c s ih=>
  cases p with
  | nil=>simp[cpL]
  | cons q p=>
   show (if vb c=q then 1+cpL s p else 0)<=_;have:=ih p;simp only[List.length_cons];split <;> omega
set_option maxRecDepth 100000 in
theorem km (s p:List UInt8) (w:World) (hs:s.length<=4000000) (hp:p.length<=4000000):
  Calls Tryz.prog 142 #[.string ⟨s.toArray⟩,.string ⟨p.toArray⟩] w fun e w'=>e=.returned (.int .i64 (cpL s p:Int))/\w=w':=by
 refine ye Tryz.func142 rfl (by rw[Tryz.ntmps142];simp) ?_;intro σ hσ;rw[Tryz.ntmps142];have s0:σ 0=.string ⟨s.toArray⟩:=hσ 0 zi;have s1:σ 1=.string ⟨p.toArray⟩:=hσ 1 zi;clear hσ;have hsz:(⟨s.toArray⟩:ByteArray).size=s.length:=zm;have hpz:(⟨p.toArray⟩:ByteArray).size=p.length:=zm;have hcpl:=zrz s p;have hcpe:=zuy s p;obtain⟨N,hN⟩:=zX s.length;obtain⟨M,hM⟩:=zX p.length;rw[hN]at hsz hs hcpl hcpe;rw[hM]at hpz hp hcpl hcpe;obtain⟨K,hK⟩:=zX (min M N);rw[hK]at hcpe;have hmin:min (M:Int) (N:Int)=(K:Int):=zd;have hmin2:(if (N:Int)<(M:Int) then (N:Int) else (M:Int))=(K:Int):=by split <;> omega
 have hmin3:(if N<M then N else M)=K:=by split <;> omega
 have hKN:K<=N/\K<=M:=zd;obtain⟨hKN1,hKN2⟩:=hKN;have HN:=zH hN;have HM:=zH hM;have HC:=zH hcpl;have HE:=zH hcpe;have HK:=zH hK;clear hN hM hcpl hcpe hK;(go_wp2_with fail;repeat ((first|refine cZ ?_|refine cW ?_);go_wp2_with fail));refine xx (fun kk s' w'=>∃ i:Nat,i<=K/\kk=K-i/\cpL s p=i+cpL (s.drop i) (p.drop i)/\s' 0=.string ⟨s.toArray⟩/\s' 1=.string ⟨p.toArray⟩/\s' 5=.int .i64 (K:Int)/\s' 6=.int .i64 (i:Int)/\w=w') K
  ⟨0,Nat.zero_le _,rfl,zi,zb,zb,zb,zb,rfl⟩ ?_
 clear s0 s1 σ hmin hmin2 hmin3;rintro kk σ wk ⟨i,hi,hkk,hcp,s0,s1,s5,s6,rfl⟩ RK KK HRK hKK;have HKK:=zH hkk;have HCP:=zH hcp;clear hkk hcp;by_cases hiK:i<K
 ·have hidx:=xu s i zt;have hidp:=xu p i (by rw[HM.out];omega);have hstep:=HC.out i zd zd;have hiK':(i:Int)<(K:Int):=zd;have hiN:i<N:=zd;have hiM:i<M:=zd;have hiN':(i:Int)<(N:Int):=zd;have hiM':(i:Int)<(M:Int):=zd;have hw:IntKind.i64.wrap ((i:Int)+1)=(i:Int)+1:=zk;generalize s.getD i 0=c at *
  generalize p.getD i 0=q at *
  have hc:=c.toNat_lt;obtain⟨z,hz⟩:=zX ((vb c).toNat);obtain⟨m,hm⟩:=zX q.toNat;have hzq:vb c=q↔z=m:=by rw[<-hz,<-hm];exact⟨fun h=>by rw[h],fun h=>UInt8.toNat_inj.1 h⟩
  have hlow:z=if 65<=c.toNat/\c.toNat<=90 then c.toNat+32 else c.toNat:=by
   rw[<-hz];unfold vb;split
   ·rw[UInt8.toNat_ofNat'];omega
   ·rfl
  have HZ:=zH hlow;have HS:=zH hstep;have HQ:=zH hzq;clear hlow hz hstep hzq;obtain⟨n,hn⟩:=zX c.toNat;simp only[hn]at HZ;rw[hn]at hc;(go_upto_region 6 with fail;repeat ((first|refine cZ ?_|refine cW ?_);go_upto_region 6 with fail));refine yr (fun s' w'=>s' 0=.string ⟨s.toArray⟩/\s' 1=.string ⟨p.toArray⟩/\s' 5=.int .i64 (K:Int)/\s' 6=.int .i64 (i:Int)/\s' 7=.int .u8 (n:Int)/\s' 26=.bool (decide (65<=n)&&decide (n<=90))/\w=w') ?_ ?_
  ·intro R' K' HR hK';by_cases h1:65<=n
   ·by_cases h2:n<=90
    ·have e1:(65:Int)<=(n:Int):=zd;have e2:(n:Int)<=90:=zd;(go_wp2_with fail;repeat ((first|refine cZ ?_|refine cW ?_);go_wp2_with fail));exact got HR ⟨zb,zb,zb,zb,zb,zb,rfl⟩
    ·have e1:(65:Int)<=(n:Int):=zd;have e2:decide ((n:Int)<=90)=false:=zh;have e3:decide (n<=90)=false:=zh;(go_wp2_with fail;repeat ((first|refine cZ ?_|refine cW ?_);go_wp2_with fail));exact got HR ⟨zb,zb,zb,zb,zb,zb,rfl⟩
   ·have e1:decide ((65:Int)<=(n:Int))=false:=zh;have e2:decide (65<=n)=false:=zh;(go_wp2_with fail;repeat ((first|refine cZ ?_|refine cW ?_);go_wp2_with fail));exact got HR ⟨zb,zb,zb,zb,zb,zb,rfl⟩
  clear s0 s1 s5 s6 σ;rintro σ w1 ⟨s0,s1,s5,s6,s7,s26,rfl⟩;go_wp2_with fail;refine yr (fun s' w'=>s' 0=.string ⟨s.toArray⟩/\s' 1=.string ⟨p.toArray⟩/\s' 5=.int .i64 (K:Int)/\s' 6=.int .i64 (i:Int)/\s' 7=.int .u8 (z:Int)/\w=w') ?_ ?_
  ·intro R' K' HR hK';by_cases h1:65<=n/\n<=90
   ·have e:(decide (65<=n)&&decide (n<=90))=true:=by simp[h1]
    have ez:((n:Int)+32)=(z:Int):=by have:=HZ.out;rw[if_pos h1]at this;omega
    have hw2:IntKind.u8.wrap ((n:Int)+32)=(z:Int):=by rw[IntKind.wrap_u8,<-ez];omega
    rw[e]at s26;clear e;obtain⟨h1a,h1b⟩:=h1;(go_wp2_with fail;repeat ((first|refine cZ ?_|refine cW ?_);go_wp2_with fail));exact got HR ⟨zb,zb,zb,zb,zb,rfl⟩
   ·have e:(decide (65<=n)&&decide (n<=90))=false:=by
     cases h3:decide (65<=n)
     ·rfl
     ·cases h4:decide (n<=90)
      ·rfl
      ·exact absurd ⟨of_decide_eq_true h3,of_decide_eq_true h4⟩ h1
    have ez:z=n:=by have:=HZ.out;rw[if_neg h1]at this;exact this
    rw[e]at s26;subst ez;clear e h1;(go_wp2_with fail;repeat ((first|refine cZ ?_|refine cW ?_);go_wp2_with fail));exact got HR ⟨zb,zb,zb,zb,zb,rfl⟩
  clear s0 s1 s5 s6 s7 s26 σ;rintro σ w2 ⟨s0,s1,s5,s6,s7,rfl⟩;by_cases he:z=m
  ·subst he;have e1:((z:Int)==(z:Int))=true:=zi;have e2:((z:Int) != (z:Int))=false:=zi;(go_wp2_with fail;repeat ((first|refine cZ ?_|refine cW ?_);go_wp2_with fail));exact wo HRK (K-(i+1)) (by have:=HKK.out;omega) ⟨i+1,zd,rfl,by rw[HCP.out,HS.out,if_pos (HQ.out.2 (by trivial))];omega,zb,zb,zb,zb,rfl⟩
  ·have p5:¬((z:Int)=(m:Int)):=zd;have p1:((z:Int)==(m:Int))=false:=by rw[beq_eq_false_iff_ne];exact p5
   have p2:(z==m)=false:=by rw[beq_eq_false_iff_ne];exact he
   have p3:((z:Int) != (m:Int))=true:=by rw[bne,p1];rfl
   have p4:(z != m)=true:=by rw[bne,p2];rfl
   have HF:=zH (show cpL s p=i by rw[HCP.out,HS.out,if_neg (fun h=>he (HQ.out.1 h))];omega);clear he;(go_wp2_with fail;repeat ((first|refine cZ ?_|refine cW ?_);go_wp2_with fail));exact yl (.int .i64 (i:Int)) rfl ze zb ⟨zβG,rfl⟩
 ·have eK:i=K:=zd;subst eK;have HF:=zH (show cpL s p=i by rw[HCP.out,HE.out i rfl];omega);(go_wp2_with fail;repeat ((first|refine cZ ?_|refine cW ?_);go_wp2_with fail));exact yl (.int .i64 (i:Int)) rfl ze zb ⟨zβG,rfl⟩
def kp (neg:Bool):Nat:=if neg then 18442240474082181120 else 9218868437227405312
def zmd:Nat:=9221120237041090561
def infinityL:List UInt8:=[105,110,102,105,110,105,116,121]
def zd3 (neg:Bool) (k:Nat) (t:List UInt8):Option (Nat×Nat):=if cpL t infinityL=8 then some (kp neg,k+8) else if 3<=cpL t infinityL then some (kp neg,k+3) else none
def qp:List UInt8->Option (Nat×Nat)
 | []=>none
 | c::r=>if c=43 then zd3 false 1 r else if c=45 then zd3 true 1 r else if c=105\/c=73 then zd3 false 0 (c::r) else if c=110\/c=78 then (if cpL (c::r) [110,97,110]=3 then some (zmd,3) else none) else none
def jr:Option (Nat×Nat)->Value
 | none=>.tuple #[.float .f64 0,.int .i64 0,.bool false]
 | some x=>.tuple #[.float .f64 x.1,.int .i64 (x.2:Int),.bool true]
theorem zwm (w:World):(callFunc 117 #[.int .u64 9218868437227405312]).run Tryz.prog w=.ok (.value (.float .f64 9218868437227405312)) w:=by kernel_rfl
theorem zwl (w:World):(callFunc 117 #[.int .u64 18442240474082181120]).run Tryz.prog w=.ok (.value (.float .f64 18442240474082181120)) w:=by kernel_rfl
theorem zwk (w:World):(callFunc 117 #[.int .u64 9221120237041090561]).run Tryz.prog w=.ok (.value (.float .f64 9221120237041090561)) w:=by kernel_rfl
set_option maxRecDepth 100000 in
theorem zui (neg:Bool) (w:World):Calls Tryz.prog 143 #[.int .i64 (if neg then -1 else 1)] w fun e w'=>e=.returned (.float .f64 (kp neg))/\w=w':=by
 have he1:=zwm;have he2:=zwl;refine ye Tryz.func143 rfl (by rw[Tryz.ntmps143];simp) ?_;intro σ hσ;rw[Tryz.ntmps143];have s0:σ 0=.int .i64 (if neg then -1 else 1):=hσ 0 zi;clear hσ;cases neg
 ·simp only[Bool.false_eq_true,if_false]at s0;(go_wp2_with fail;repeat ((first|refine cZ ?_|refine cW ?_);go_wp2_with fail));exact yl (.float .f64 9218868437227405312) rfl ze zb ⟨rfl,rfl⟩
 ·simp only[if_true]at s0;(go_wp2_with fail;repeat ((first|refine cZ ?_|refine cW ?_);go_wp2_with fail));exact yl (.float .f64 18442240474082181120) rfl ze zb ⟨rfl,rfl⟩
set_option maxRecDepth 100000 in
theorem zud (w:World):Calls Tryz.prog 144 #[] w fun e w'=>e=.returned (.float .f64 zmd)/\w=w':=by
 have he1:=zwk;refine ye Tryz.func144 rfl (by rw[Tryz.ntmps144];simp) ?_;intro σ hσ;rw[Tryz.ntmps144];clear hσ;(go_wp2_with fail;repeat ((first|refine cZ ?_|refine cW ?_);go_wp2_with fail));exact yl (.float .f64 9221120237041090561) rfl ze zb ⟨rfl,rfl⟩
theorem zy9 (b:Bool) (w:World):Calls Tryz.prog 110 #[.bool b] w fun e w'=>e=.returned (.int .u32 (if b then 1 else 0))/\w=w':=by
 refine ye Tryz.func110 rfl (by rw[Tryz.ntmps110];simp) ?_;intro σ hσ;rw[Tryz.ntmps110];have s0:σ 0=.bool b:=hσ 0 zi;clear hσ;cases b
 ·(go_wp2_with fail;repeat ((first|refine cZ ?_|refine cW ?_);go_wp2_with fail));exact yl (.int .u32 0) rfl ze zb ⟨rfl,rfl⟩
 ·(go_wp2_with fail;repeat ((first|refine cZ ?_|refine cW ?_);go_wp2_with fail));exact yl (.int .u32 1) rfl ze zb ⟨rfl,rfl⟩
set_option maxRecDepth 100000 in
theorem zcs (s:List UInt8) (w:World) (hs:s.length<=4000000):
  Calls Tryz.prog 107 #[.string ⟨s.toArray⟩] w fun e w'=>e=.returned (jr (qp s))/\w=w':=by
 have HCI:Hid (∀ (t:List UInt8) W,t.length<=4000000->Calls Tryz.prog 142 #[.string ⟨t.toArray⟩,.string ⟨#[105,110,102,105,110,105,116,121]⟩] W fun e w'=>e=.returned (.int .i64 (cpL t infinityL:Int))/\W=w'):=fun t W h=>km t infinityL W h ze
 have HCN:Hid (∀ (t:List UInt8) W,t.length<=4000000->Calls Tryz.prog 142 #[.string ⟨t.toArray⟩,.string ⟨#[110,97,110]⟩] W fun e w'=>e=.returned (.int .i64 (cpL t [110,97,110]:Int))/\W=w'):=fun t W h=>km t [110,97,110] W h ze
 have HINF:=zH (fun neg W=>zui neg W);have HNAN:=zH (fun W=>zud W);refine ye Tryz.func107 rfl (by rw[Tryz.ntmps107];simp) ?_;intro σ hσ;rw[Tryz.ntmps107];have s0:σ 0=.string ⟨s.toArray⟩:=hσ 0 zi;clear hσ;cases s with
 | nil=>
  (go_wp2_with fail;repeat ((first|refine cZ ?_|refine cW ?_);go_wp2_with fail));exact xy (.float .f64 0) (.int .i64 0) (.bool false) rfl ze ze ze zb zb zb ⟨rfl,rfl⟩
 | cons c r=>
  have hsz:(⟨(c::r).toArray⟩:ByteArray).size=r.length+1:=zm;have hcut:(⟨(c::r).toArray⟩:ByteArray).extract 1 (r.length+1)=⟨r.toArray⟩:=by
   apply ByteArray.ext;simp[ByteArray.data_extract]
  have hidx:=xu (c::r) 0 zi;have hidx':(c::r).getD 0 0=c:=rfl;rw[hidx']at hidx;have hl1:r.length<=4000000:=by simp at hs;omega
  have hl2:(c::r).length<=4000000:=hs;obtain⟨N,hN⟩:=zX r.length;rw[hN]at hsz hcut;rw[hN]at hl1;have HN:=zH hN;have HL2:=zH hl2;clear hidx' hs hl2 hN;have l1:((N:Int)+1==0)=false:=zf;have l2:(N+1==0)=false:=zf;have l3:(1:Int)<=(N:Int)+1:=zd;have l4:(0:Int)<(N:Int)+1:=zd;obtain⟨n,hn⟩:=zX c.toNat;have hcn:=c.toNat_lt;rw[hn]at hcn;have hce:∀ x:UInt8,c=x↔n=x.toNat:=fun x=>by rw[<-hn];exact⟨fun h=>by rw[h],fun h=>UInt8.toNat_inj.1 h⟩
  have hsp:qp (c::r)=if n=43 then zd3 false 1 r else if n=45 then zd3 true 1 r else if n=105\/n=73 then zd3 false 0 (c::r) else if n=110\/n=78 then (if cpL (c::r) [110,97,110]=3 then some (zmd,3) else none) else none:=by
   show (if c=43 then _ else if c=45 then _ else if c=105\/c=73 then _ else if c=110\/c=78 then _ else _)=_;simp only[hce];rfl
  have HSP:=zH hsp;have HL3:=zH (show (c::r).length<=4000000 from HL2.out);clear hsp hce;by_cases h43:n=43
  ·subst h43;have HRES:=zH (show qp (c::r)=zd3 false 1 r by rw[HSP.out,if_pos rfl]);clear HSP;(go_wp2_with fail;repeat ((first|refine cZ ?_|refine cW ?_);go_wp2_with fail));refine (HCI.out r _ (by have:=HN.out;omega)).mono ?_;rintro e w1 ⟨rfl,rfl⟩;have hm8:=zer r infinityL;rw[show infinityL.length=8 from rfl]at hm8;obtain⟨m,hm⟩:=zX (cpL r infinityL);rw[hm]at hm8;simp only[hm];have HM:=zH hm;clear hm;have hval:jr (qp (c::r))=jr (if m=8 then some (kp false,1+8) else if 3<=m then some (kp false,1+3) else none):=by
    rw[HRES.out];unfold zd3;rw[HM.out]
   have HV:=zH hval;clear hval HRES HM;by_cases hm3:m<3
   ·have g1:decide ((3:Int)<(m:Int))=false:=zh;have g2:decide (3<m)=false:=zh;have g3:((m:Int)==3)=false:=zf;have g4:(m==3)=false:=zf;have g5:((m:Int)==8)=false:=zf;have g6:(m==8)=false:=zf;have HF:=zH (show jr (qp (c::r))=jr none by rw[HV.out,if_neg zd,if_neg zd]);(go_wp2_with fail;repeat ((first|refine cZ ?_|refine cW ?_);go_wp2_with fail));exact xy (.float .f64 0) (.int .i64 0) (.bool false) rfl ze ze ze zb zb zb ⟨zu,rfl⟩
   ·by_cases hm8':m=8
    ·subst hm8';have HF:=zH (show jr (qp (c::r))=jr (some (kp false,1+8)) by rw[HV.out,if_pos rfl]);(go_wp2_with fail;repeat ((first|refine cZ ?_|refine cW ?_);go_wp2_with fail));refine (HINF.out false _).mono ?_;rintro e w1 ⟨rfl,rfl⟩;(go_wp2_with fail;repeat ((first|refine cZ ?_|refine cW ?_);go_wp2_with fail));exact xy (.float .f64 (kp false)) (.int .i64 (1+8)) (.bool true) rfl ze ze ze zb zb zb ⟨zu,rfl⟩
    ·have HF:=zH (show jr (qp (c::r))=jr (some (kp false,1+3)) by rw[HV.out,if_neg hm8',if_pos zd]);by_cases hm3':m=3
     ·subst hm3';(go_wp2_with fail;repeat ((first|refine cZ ?_|refine cW ?_);go_wp2_with fail));refine (HINF.out false _).mono ?_;rintro e w1 ⟨rfl,rfl⟩;(go_wp2_with fail;repeat ((first|refine cZ ?_|refine cW ?_);go_wp2_with fail));exact xy (.float .f64 (kp false)) (.int .i64 (1+3)) (.bool true) rfl ze ze ze zb zb zb ⟨zu,rfl⟩
     ·have g1:(3:Int)<(m:Int):=zd;have g2:3<m:=zd;have g3:(m:Int)<8:=zd;have g4:m<8:=zd;(go_wp2_with fail;repeat ((first|refine cZ ?_|refine cW ?_);go_wp2_with fail));refine (HINF.out false _).mono ?_;rintro e w1 ⟨rfl,rfl⟩;(go_wp2_with fail;repeat ((first|refine cZ ?_|refine cW ?_);go_wp2_with fail));exact xy (.float .f64 (kp false)) (.int .i64 (1+3)) (.bool true) rfl ze ze ze zb zb zb ⟨zu,rfl⟩
  by_cases h45:n=45
  ·subst h45;have HRES:=zH (show qp (c::r)=zd3 true 1 r by rw[HSP.out,if_neg zd,if_pos rfl]);clear HSP h43;(go_wp2_with fail;repeat ((first|refine cZ ?_|refine cW ?_);go_wp2_with fail));refine (HCI.out r _ (by have:=HN.out;omega)).mono ?_;rintro e w1 ⟨rfl,rfl⟩;have hm8:=zer r infinityL;rw[show infinityL.length=8 from rfl]at hm8;obtain⟨m,hm⟩:=zX (cpL r infinityL);rw[hm]at hm8;simp only[hm];have HM:=zH hm;clear hm;have hval:jr (qp (c::r))=jr (if m=8 then some (kp true,1+8) else if 3<=m then some (kp true,1+3) else none):=by
    rw[HRES.out];unfold zd3;rw[HM.out]
   have HV:=zH hval;clear hval HRES HM;by_cases hm3:m<3
   ·have g1:decide ((3:Int)<(m:Int))=false:=zh;have g2:decide (3<m)=false:=zh;have g3:((m:Int)==3)=false:=zf;have g4:(m==3)=false:=zf;have g5:((m:Int)==8)=false:=zf;have g6:(m==8)=false:=zf;have HF:=zH (show jr (qp (c::r))=jr none by rw[HV.out,if_neg zd,if_neg zd]);(go_wp2_with fail;repeat ((first|refine cZ ?_|refine cW ?_);go_wp2_with fail));exact xy (.float .f64 0) (.int .i64 0) (.bool false) rfl ze ze ze zb zb zb ⟨zu,rfl⟩
   ·by_cases hm8':m=8
    ·subst hm8';have HF:=zH (show jr (qp (c::r))=jr (some (kp true,1+8)) by rw[HV.out,if_pos rfl]);(go_wp2_with fail;repeat ((first|refine cZ ?_|refine cW ?_);go_wp2_with fail));refine (HINF.out true _).mono ?_;rintro e w1 ⟨rfl,rfl⟩;(go_wp2_with fail;repeat ((first|refine cZ ?_|refine cW ?_);go_wp2_with fail));exact xy (.float .f64 (kp true)) (.int .i64 (1+8)) (.bool true) rfl ze ze ze zb zb zb ⟨zu,rfl⟩
    ·have HF:=zH (show jr (qp (c::r))=jr (some (kp true,1+3)) by rw[HV.out,if_neg hm8',if_pos zd]);by_cases hm3':m=3
     ·subst hm3';(go_wp2_with fail;repeat ((first|refine cZ ?_|refine cW ?_);go_wp2_with fail));refine (HINF.out true _).mono ?_;rintro e w1 ⟨rfl,rfl⟩;(go_wp2_with fail;repeat ((first|refine cZ ?_|refine cW ?_);go_wp2_with fail));exact xy (.float .f64 (kp true)) (.int .i64 (1+3)) (.bool true) rfl ze ze ze zb zb zb ⟨zu,rfl⟩
     ·have g1:(3:Int)<(m:Int):=zd;have g2:3<m:=zd;have g3:(m:Int)<8:=zd;have g4:m<8:=zd;(go_wp2_with fail;repeat ((first|refine cZ ?_|refine cW ?_);go_wp2_with fail));refine (HINF.out true _).mono ?_;rintro e w1 ⟨rfl,rfl⟩;(go_wp2_with fail;repeat ((first|refine cZ ?_|refine cW ?_);go_wp2_with fail));exact xy (.float .f64 (kp true)) (.int .i64 (1+3)) (.bool true) rfl ze ze ze zb zb zb ⟨zu,rfl⟩
  have a1:((n:Int)==43)=false:=zf;have a2:(n==43)=false:=by rw[beq_eq_false_iff_ne];exact h43
  have a3:((n:Int)==45)=false:=zf;have a4:(n==45)=false:=by rw[beq_eq_false_iff_ne];exact h45
  by_cases h105:n=105
  ·subst h105;have HRES:=zH (show qp (c::r)=zd3 false 0 (c::r) by rw[HSP.out,if_neg zd,if_neg zd,if_pos (Or.inl rfl)]);clear HSP h43 h45 a1 a2 a3 a4;(go_wp2_with fail;repeat ((first|refine cZ ?_|refine cW ?_);go_wp2_with fail));refine (HCI.out (c::r) _ (HL2.out)).mono ?_;rintro e w1 ⟨rfl,rfl⟩;have hm8:=zer (c::r) infinityL;rw[show infinityL.length=8 from rfl]at hm8;obtain⟨m,hm⟩:=zX (cpL (c::r) infinityL);rw[hm]at hm8;simp only[hm];have HM:=zH hm;clear hm;have hval:jr (qp (c::r))=jr (if m=8 then some (kp false,0+8) else if 3<=m then some (kp false,0+3) else none):=by
    rw[HRES.out];unfold zd3;rw[HM.out]
   have HV:=zH hval;clear hval HRES HM;by_cases hm3:m<3
   ·have g1:decide ((3:Int)<(m:Int))=false:=zh;have g2:decide (3<m)=false:=zh;have g3:((m:Int)==3)=false:=zf;have g4:(m==3)=false:=zf;have g5:((m:Int)==8)=false:=zf;have g6:(m==8)=false:=zf;have HF:=zH (show jr (qp (c::r))=jr none by rw[HV.out,if_neg zd,if_neg zd]);(go_wp2_with fail;repeat ((first|refine cZ ?_|refine cW ?_);go_wp2_with fail));exact xy (.float .f64 0) (.int .i64 0) (.bool false) rfl ze ze ze zb zb zb ⟨zu,rfl⟩
   ·by_cases hm8':m=8
    ·subst hm8';have HF:=zH (show jr (qp (c::r))=jr (some (kp false,0+8)) by rw[HV.out,if_pos rfl]);(go_wp2_with fail;repeat ((first|refine cZ ?_|refine cW ?_);go_wp2_with fail));refine (HINF.out false _).mono ?_;rintro e w1 ⟨rfl,rfl⟩;(go_wp2_with fail;repeat ((first|refine cZ ?_|refine cW ?_);go_wp2_with fail));exact xy (.float .f64 (kp false)) (.int .i64 (0+8)) (.bool true) rfl ze ze ze zb zb zb ⟨zu,rfl⟩
    ·have HF:=zH (show jr (qp (c::r))=jr (some (kp false,0+3)) by rw[HV.out,if_neg hm8',if_pos zd]);by_cases hm3':m=3
     ·subst hm3';(go_wp2_with fail;repeat ((first|refine cZ ?_|refine cW ?_);go_wp2_with fail));refine (HINF.out false _).mono ?_;rintro e w1 ⟨rfl,rfl⟩;(go_wp2_with fail;repeat ((first|refine cZ ?_|refine cW ?_);go_wp2_with fail));exact xy (.float .f64 (kp false)) (.int .i64 (0+3)) (.bool true) rfl ze ze ze zb zb zb ⟨zu,rfl⟩
     ·have g1:(3:Int)<(m:Int):=zd;have g2:3<m:=zd;have g3:(m:Int)<8:=zd;have g4:m<8:=zd;(go_wp2_with fail;repeat ((first|refine cZ ?_|refine cW ?_);go_wp2_with fail));refine (HINF.out false _).mono ?_;rintro e w1 ⟨rfl,rfl⟩;(go_wp2_with fail;repeat ((first|refine cZ ?_|refine cW ?_);go_wp2_with fail));exact xy (.float .f64 (kp false)) (.int .i64 (0+3)) (.bool true) rfl ze ze ze zb zb zb ⟨zu,rfl⟩
  by_cases h73:n=73
  ·subst h73;have HRES:=zH (show qp (c::r)=zd3 false 0 (c::r) by rw[HSP.out,if_neg zd,if_neg zd,if_pos (Or.inr rfl)]);clear HSP h43 h45 h105 a1 a2 a3 a4;(go_wp2_with fail;repeat ((first|refine cZ ?_|refine cW ?_);go_wp2_with fail));refine (HCI.out (c::r) _ (HL2.out)).mono ?_;rintro e w1 ⟨rfl,rfl⟩;have hm8:=zer (c::r) infinityL;rw[show infinityL.length=8 from rfl]at hm8;obtain⟨m,hm⟩:=zX (cpL (c::r) infinityL);rw[hm]at hm8;simp only[hm];have HM:=zH hm;clear hm;have hval:jr (qp (c::r))=jr (if m=8 then some (kp false,0+8) else if 3<=m then some (kp false,0+3) else none):=by
    rw[HRES.out];unfold zd3;rw[HM.out]
   have HV:=zH hval;clear hval HRES HM;by_cases hm3:m<3
   ·have g1:decide ((3:Int)<(m:Int))=false:=zh;have g2:decide (3<m)=false:=zh;have g3:((m:Int)==3)=false:=zf;have g4:(m==3)=false:=zf;have g5:((m:Int)==8)=false:=zf;have g6:(m==8)=false:=zf;have HF:=zH (show jr (qp (c::r))=jr none by rw[HV.out,if_neg zd,if_neg zd]);(go_wp2_with fail;repeat ((first|refine cZ ?_|refine cW ?_);go_wp2_with fail));exact xy (.float .f64 0) (.int .i64 0) (.bool false) rfl ze ze ze zb zb zb ⟨zu,rfl⟩
   ·by_cases hm8':m=8
    ·subst hm8';have HF:=zH (show jr (qp (c::r))=jr (some (kp false,0+8)) by rw[HV.out,if_pos rfl]);(go_wp2_with fail;repeat ((first|refine cZ ?_|refine cW ?_);go_wp2_with fail));refine (HINF.out false _).mono ?_;rintro e w1 ⟨rfl,rfl⟩;(go_wp2_with fail;repeat ((first|refine cZ ?_|refine cW ?_);go_wp2_with fail));exact xy (.float .f64 (kp false)) (.int .i64 (0+8)) (.bool true) rfl ze ze ze zb zb zb ⟨zu,rfl⟩
    ·have HF:=zH (show jr (qp (c::r))=jr (some (kp false,0+3)) by rw[HV.out,if_neg hm8',if_pos zd]);by_cases hm3':m=3
     ·subst hm3';(go_wp2_with fail;repeat ((first|refine cZ ?_|refine cW ?_);go_wp2_with fail));refine (HINF.out false _).mono ?_;rintro e w1 ⟨rfl,rfl⟩;(go_wp2_with fail;repeat ((first|refine cZ ?_|refine cW ?_);go_wp2_with fail));exact xy (.float .f64 (kp false)) (.int .i64 (0+3)) (.bool true) rfl ze ze ze zb zb zb ⟨zu,rfl⟩
     ·have g1:(3:Int)<(m:Int):=zd;have g2:3<m:=zd;have g3:(m:Int)<8:=zd;have g4:m<8:=zd;(go_wp2_with fail;repeat ((first|refine cZ ?_|refine cW ?_);go_wp2_with fail));refine (HINF.out false _).mono ?_;rintro e w1 ⟨rfl,rfl⟩;(go_wp2_with fail;repeat ((first|refine cZ ?_|refine cW ?_);go_wp2_with fail));exact xy (.float .f64 (kp false)) (.int .i64 (0+3)) (.bool true) rfl ze ze ze zb zb zb ⟨zu,rfl⟩
  have a5:((n:Int)==105)=false:=zf;have a6:(n==105)=false:=by rw[beq_eq_false_iff_ne];exact h105
  have a7:((n:Int)==73)=false:=zf;have a8:(n==73)=false:=by rw[beq_eq_false_iff_ne];exact h73
  have HRES:=zH (show qp (c::r)=if n=110\/n=78 then (if cpL (c::r) [110,97,110]=3 then some (zmd,3) else none) else none by rw[HSP.out,if_neg h43,if_neg h45,if_neg zd]);clear HSP h43 h45 h105 h73;by_cases hN:n=110\/n=78
  ·have HRS:=zH (show qp (c::r)=if cpL (c::r) [110,97,110]=3 then some (zmd,3) else none by rw[HRES.out,if_pos hN]);clear HRES;rcases hN with hN | hN;all_goals
    subst hN;(go_wp2_with fail;repeat ((first|refine cZ ?_|refine cW ?_);go_wp2_with fail));refine (HCN.out (c::r) _ HL2.out).mono ?_;rintro e w1 ⟨rfl,rfl⟩;obtain⟨m,hm⟩:=zX (cpL (c::r) [110,97,110]);simp only[hm];rw[hm]at HRS;clear hm;by_cases hm3:m=3
    ·subst hm3;have HF:=zH (show qp (c::r)=some (zmd,3) by rw[HRS.out,if_pos rfl]);(go_wp2_with fail;repeat ((first|refine cZ ?_|refine cW ?_);go_wp2_with fail));refine (HNAN.out _).mono ?_;rintro e w1 ⟨rfl,rfl⟩;(go_wp2_with fail;repeat ((first|refine cZ ?_|refine cW ?_);go_wp2_with fail));exact xy (.float .f64 zmd) (.int .i64 3) (.bool true) rfl ze ze ze zb zb zb ⟨zu,rfl⟩
    ·have g3:((m:Int)==3)=false:=zf;have g4:(m==3)=false:=by rw[beq_eq_false_iff_ne];exact hm3
     have HF:=zH (show qp (c::r)=none by rw[HRS.out,if_neg hm3]);clear hm3;(go_wp2_with fail;repeat ((first|refine cZ ?_|refine cW ?_);go_wp2_with fail));exact xy (.float .f64 0) (.int .i64 0) (.bool false) rfl ze ze ze zb zb zb ⟨zu,rfl⟩
  ·have HF:=zH (show qp (c::r)=none by rw[HRES.out,if_neg hN]);have b1:((n:Int)==110)=false:=zf;have b2:(n==110)=false:=zf;have b3:((n:Int)==78)=false:=zf;have b4:(n==78)=false:=zf;clear hN;(go_wp2_with fail;repeat ((first|refine cZ ?_|refine cW ?_);go_wp2_with fail));exact xy (.float .f64 0) (.int .i64 0) (.bool false) rfl ze ze ze zb zb zb ⟨zu,rfl⟩
end
section
attribute [local go_sem] undef
def erV (b:Bool):Value:=if b then .iface 101 (.int .i64 1) else .nilIface
theorem zaj (n k:Nat):n&&&2^k=if n.testBit k=true then 2^k else 0:=by
 apply Nat.eq_of_testBit_eq;intro j;rw[Nat.testBit_and,Nat.testBit_two_pow];by_cases hj:k=j
 ·subst hj;cases h:n.testBit k
  ·rw[if_neg zi];simp
  ·rw[if_pos rfl,Nat.testBit_two_pow];simp
 ·rw[decide_eq_false hj,Bool.and_false];split
  ·rw[Nat.testBit_two_pow,decide_eq_false hj]
  ·simp
end
section
attribute [local go_sem] undef
def pkC (m:Nat) (e:Int):Nat×Bool:=if m<8388608 then (m,false) else if 105<=e then (2139095040,true) else (m-8388608+(150+e).toNat*8388608,false)
def sgC (sg:Bool):Nat:=if sg then 2147483648 else 0
theorem zye (sg:Bool):sgC sg<=2147483648:=by cases sg <;> decide
theorem zy0 (Y B:BitVec 32) (h:Y&&&B=0#32):(Y+B)&&&~~~B=Y:=by
 rw[BitVec.add_eq_or_of_and_eq_zero _ _ h];apply BitVec.eq_of_getLsbD_eq;intro i hi;have h1:=congrArg (fun z=>z.getLsbD i) h;simp only[BitVec.getLsbD_and,BitVec.getLsbD_zero]at h1;rw[BitVec.getLsbD_and,BitVec.getLsbD_or,BitVec.getLsbD_not,decide_eq_true hi];revert h1;cases Y.getLsbD i <;> cases B.getLsbD i <;> simp
theorem zy4 (y k:Nat) (hy:y<4294967296) (hk:2^k<4294967296) (hs:y+2^k<4294967296) (h:y.testBit k=false):bits .andNot .u32 ((y+2^k:Nat):Int) ((2^k:Nat):Int)=(y:Int):=by
 have h1:BitVec.ofInt 32 ((y+2^k:Nat):Int)=BitVec.ofNat 32 y+BitVec.ofNat 32 (2^k):=by
  rw[BitVec.ofInt_natCast,BitVec.ofNat_add]
 have h2:BitVec.ofInt 32 ((2^k:Nat):Int)=BitVec.ofNat 32 (2^k):=by rw[BitVec.ofInt_natCast]
 have h3:BitVec.ofNat 32 y&&&BitVec.ofNat 32 (2^k)=0#32:=by
  apply BitVec.eq_of_toNat_eq;rw[BitVec.toNat_and,BitVec.toNat_ofNat,BitVec.toNat_ofNat,Nat.mod_eq_of_lt hy,Nat.mod_eq_of_lt hk,zaj,h,if_neg zi];rfl
 show IntKind.u32.wrap ((BitVec.ofInt 32 ((y+2^k:Nat):Int)&&&~~~BitVec.ofInt 32 ((2^k:Nat):Int)).toNat:Int)=_;rw[h1,h2,zy0 _ _ h3,BitVec.toNat_ofNat,Nat.mod_eq_of_lt hy,IntKind.wrap_u32];omega
theorem zz9 (sg:Bool) (m:Nat) (hm:m<8388608):bits .andNot .u32 ((sgC sg+(m+8388608):Nat):Int) 8388608=((sgC sg+m:Nat):Int):=by
 have:=zye sg;have h:=zy4 (sgC sg+m) 23 zd ze zd (by
  rw[Nat.testBit_eq_decide_div_mod_eq];have:(sgC sg+m) / 2^23%2=0:=by cases sg <;> simp[sgC] <;> omega
  rw[this];rfl)
 rw[Nat.add_assoc]at h;exact h
theorem and23 (sg:Bool) (m:Nat) (hm:m<16777216):bits .and .u32 ((sgC sg+m:Nat):Int) 8388608=if m<8388608 then 0 else 8388608:=by
 have h:=u32_and_nat (sgC sg+m) 8388608 (by have:=zye sg;omega) zd;have e:sgC sg+m&&&8388608=if m<8388608 then 0 else 8388608:=by
  rw[show (8388608:Nat)=2^23 from rfl,zaj,Nat.testBit_eq_decide_div_mod_eq];by_cases h:m<2^23
  ·have:(sgC sg+m) / 2^23%2=0:=by cases sg <;> simp[sgC] <;> omega
   rw[this,if_pos h];rfl
  ·have:(sgC sg+m) / 2^23%2=1:=by cases sg <;> simp[sgC] <;> omega
   rw[this,if_neg h];rfl
 rw[e]at h;split <;> rename_i h2
 ·rw[if_pos h2]at h;exact h
 ·rw[if_neg h2]at h;exact h
theorem and31 (sg:Bool) (m:Nat) (hm:m<16777216):bits .and .u32 ((sgC sg+m:Nat):Int) 2147483648=((sgC sg:Nat):Int):=by
 have h:=u32_and_nat (sgC sg+m) 2147483648 (by have:=zye sg;omega) zd;have e:sgC sg+m&&&2147483648=sgC sg:=by
  rw[show (2147483648:Nat)=2^31 from rfl,zaj,Nat.testBit_eq_decide_div_mod_eq];cases sg
  ·have:(sgC false+m) / 2^31%2=0:=by simp[sgC];omega
   rw[this];rfl
  ·have:(sgC true+m) / 2^31%2=1:=by simp[sgC];omega
   rw[this];rfl
 rw[e]at h;exact h
theorem zzk (sg:Bool):bits .or .u32 ((sgC sg:Nat):Int) 2139095040=((sgC sg+2139095040:Nat):Int):=by
 cases sg <;> rfl
theorem yah (sg:Bool) (x k:Nat) (hx:x<8388608) (hk:k<256):bits .or .u32 ((sgC sg+x:Nat):Int) ((k*8388608:Nat):Int)=((sgC sg+(x+k*8388608):Nat):Int):=by
 have hs:=zye sg;rw[u32_or_nat (sgC sg+x) (k*8388608) zd zd];congr 1;have h1:x|||k*8388608=x+k*8388608:=by
  have:=Nat.two_pow_add_eq_or_of_lt (i:=23) (show x<2^23 from hx) k;rw[Nat.or_comm,Nat.add_comm,Nat.mul_comm k];exact this.symm
 cases sg
 ·show 0+x|||_=0+_
  rw[Nat.zero_add,Nat.zero_add,h1]
 ·have h2:=Nat.two_pow_add_eq_or_of_lt (i:=31) (show x<2^31 by omega) 1;have h3:=Nat.two_pow_add_eq_or_of_lt (i:=31) (show x+k*8388608<2^31 by omega) 1;show 2^31*1+x|||_=2^31*1+_
  rw[h2,h3,Nat.or_assoc,h1]
set_option maxRecDepth 100000 in
theorem zyf (sg:Bool) (m:Nat) (e:Int) (w:World) (hm:m<16777216) (he:-149<=e) (he2:e<=1000000):
  Calls Tryz.prog 146 #[.int .u32 ((sgC sg+m:Nat):Int),.int .i64 e] w fun r w'=>r=.returned (.tuple #[.float .f32 (sgC sg+(pkC m e).1),erV (pkC m e).2])/\w=w':=by
 refine ye Tryz.func146 rfl (by rw[Tryz.ntmps146];simp) ?_;intro σ hσ;rw[Tryz.ntmps146];have s0:σ 0=.int .u32 ((sgC sg+m:Nat):Int):=hσ 0 zi;have s1:σ 1=.int .i64 e:=hσ 1 zi;clear hσ;have h52:=and23 sg m hm;have h63:=and31 sg m hm;have hoi:=zzk sg;have hsg:=zye sg;by_cases h1:m<8388608
 ·have HP:=zH (show pkC m e=(m,false) by unfold pkC;rw[if_pos h1]);rw[if_pos h1]at h52;obtain⟨n,hn⟩:=zX (sgC sg+m);rw[hn]at s0 h52 h63;have hext:=fun W=>zxs n W
  clear h63 hoi hsg;have HN:=zH hn;clear hn;(go_wp2_with fail;repeat ((first|refine cZ ?_|refine cW ?_);go_wp2_with fail));exact xc (.float .f32 n) .nilIface rfl ze ze zb zb ⟨by rw[HP.out,HN.out];rfl,rfl⟩
 ·by_cases h2:105<=e
  ·have HP:=zH (show pkC m e=(2139095040,true) by unfold pkC;rw[if_neg h1,if_pos h2]);rw[if_neg h1]at h52;obtain⟨n,hn⟩:=zX (sgC sg+m);obtain⟨b,hb⟩:=zX (sgC sg+2139095040);obtain⟨g,hg⟩:=zX (sgC sg);rw[hn]at s0 h52 h63;rw[hb]at hoi;rw[hg]at hoi h63;have hext:=fun W=>zxs b W
   have HB:=zH hb;have HG:=zH hg;clear hn hsg hb hg;(go_wp2_with fail;repeat ((first|refine cZ ?_|refine cW ?_);go_wp2_with fail));exact xc (.float .f32 b) (.iface 101 (.int .i64 1)) rfl ze ze zb zb ⟨by rw[HP.out,<-HB.out];rfl,rfl⟩
  ·have h3:¬(105<=e):=h2;obtain⟨x,hx⟩:=zX (m-8388608);obtain⟨k,hk⟩:=zX ((150+e).toNat);have HP:=zH (show pkC m e=(x+k*8388608,false) by unfold pkC;rw[if_neg h1,if_neg h2,hx,hk]);have em:m=x+8388608:=zd;have hx2:x<8388608:=zd;have hk2:(150+e:Int)=(k:Int):=zd;have hk3:k<256:=zd;rw[if_neg h1]at h52;have hor:=yah sg x k hx2 hk3;have han:=zz9 sg x hx2;rw[<-em]at han;obtain⟨n,hn⟩:=zX (sgC sg+m);obtain⟨b,hb⟩:=zX (sgC sg+(x+k*8388608));obtain⟨y,hy⟩:=zX (sgC sg+x);rw[hn]at s0 h52 h63 han;rw[hb]at hor;rw[hy]at hor han;have hext:=fun W=>zxs b W
   have HB:=zH hb;have hw1:IntKind.i64.wrap (150+e)=(k:Int):=zk;have hw2:IntKind.u32.wrap (k:Int)=(k:Int):=zαV;have hg1:decide (105<=e)=false:=zh;have hor2:bits .or .u32 (y:Int) ((k:Int)*8388608)=(b:Int):=by rw[<-hor,Int.natCast_mul];rfl
   clear hn hsg hb hy em hx hk hoi h63 h2 hor;(go_wp2_with fail;repeat ((first|refine cZ ?_|refine cW ?_);go_wp2_with fail));exact xc (.float .f32 b) .nilIface rfl ze ze zb zb ⟨by rw[HP.out,<-HB.out];rfl,rfl⟩
end
section
attribute [local go_sem] undef
theorem zu1 {n m:Nat} (h:n≠m):((n:Int)==(m:Int))=false/\(n==m)=false/\¬((n:Int)=(m:Int)):=
 ⟨zf,by rw[beq_eq_false_iff_ne];exact h,zd⟩
theorem yq {n m:Nat} {z:Int} (hz:(m:Int)=z) (h:n≠m):((n:Int)==z)=false/\(n==m)=false/\¬((n:Int)=z):=by subst hz;exact zu1 h
def preU:List UInt8->Bool
 | c::x::_=>decide (c=48/\(wc x=98\/wc x=111\/wc x=120))
 | _=>false
def preH:List UInt8->Bool
 | _::x::_=>decide (wc x=120)
 | _=>false
theorem zp6 (u:List UInt8):ztc u=if preU u=true then okU (preH u) (u.drop 2) 48 else okU false u 94:=by
 match u with
 | []=>rfl
 | [_]=>rfl
 | c::x::r=>
  show (if c=48/\(wc x=98\/wc x=111\/wc x=120) then _ else _)=if decide (c=48/\(wc x=98\/wc x=111\/wc x=120))=true then _ else _
  by_cases h:c=48/\(wc x=98\/wc x=111\/wc x=120)
  ·rw[if_pos h,if_pos zI];rfl
  ·rw[if_neg h,if_neg zI]
def zwc:List UInt8->Bool
 | c::_=>decide (c=43\/c=45)
 | []=>false
theorem zjs (s:List UInt8):(sgn s).2=if zwc s=true then s.drop 1 else s:=by
 cases s with
 | nil=>rfl
 | cons c r=>
  rw[xq];show _=if decide (c=43\/c=45)=true then r else c::r
  by_cases h1:c=43
  ·rw[if_pos h1,if_pos (by simp[h1])]
  ·rw[if_neg h1];by_cases h2:c=45
   ·rw[if_pos h2,if_pos (by simp[h2])]
   ·rw[if_neg h2,if_neg (by simp[h1,h2])]
theorem zlt (hex:Bool) (c:UInt8):(dgV hex c).isSome=(decide (48<=c.toNat/\c.toNat<=57) || (hex&&decide (97<=wc c/\wc c<=102))):=by
 unfold dgV;by_cases h1:48<=c.toNat/\c.toNat<=57
 ·rw[if_pos h1,decide_eq_true h1];rfl
 ·rw[if_neg h1,decide_eq_false h1,Bool.false_or];cases hex
  ·rw[if_neg zi];rfl
  ·by_cases h2:97<=wc c/\wc c<=102
   ·rw[if_pos ⟨rfl,h2⟩,decide_eq_true h2];rfl
   ·rw[if_neg (fun h=>h2 h.2),decide_eq_false h2];rfl
set_option maxRecDepth 100000 in
theorem zb3 (s:List UInt8) (w:World) (hs:s.length<=4000000):
  Calls Tryz.prog 145 #[.string ⟨s.toArray⟩] w fun e w'=>e=.returned (.bool (zk0 s))/\w=w':=by
 have HLOW:=zH (fun (c:UInt8) W=>za5 c W);obtain⟨res,hres⟩:=zX (zk0 s);have HRES:=zH (show ztc (sgn s).2=res from hres);rw[hres];clear hres;refine ye Tryz.func145 rfl (by rw[Tryz.ntmps145];simp) ?_;intro σ hσ;rw[Tryz.ntmps145];have s0:σ 0=.string ⟨s.toArray⟩:=hσ 0 zi;clear hσ;have hsz:(⟨s.toArray⟩:ByteArray).size=s.length:=zm;have hidx:=fun h=>xu s 0 h
 have hcut:(⟨s.toArray⟩:ByteArray).extract 1 s.length=⟨(s.drop 1).toArray⟩:=by
  apply ByteArray.ext;simp[ByteArray.data_extract];exact List.take_of_length_le (by rw[List.length_tail];exact Nat.le_refl _)
 obtain⟨N,hN⟩:=zX s.length;rw[hN]at hsz hs hidx hcut;have HN:=zH hN;clear hN;obtain⟨sg,hsg⟩:=zX (zwc s);have HSG:=zH hsg;clear hsg;go_upto_region 3 with fail;refine yr (fun s' w'=>s' 0=.string ⟨s.toArray⟩/\s' 3=.int .i32 94/\s' 4=.int .i64 0/\s' 18=.bool sg/\w=w') ?_ ?_
 ·intro R' K' HR hK';by_cases h0:N=0
  ·have e:sg=false:=by
    rw[<-HSG.out,List.length_eq_zero_iff.1 (show s.length=0 by rw[HN.out];exact h0)];rfl
   subst h0 e;(go_wp2_with fail;repeat ((first|refine cZ ?_|refine cW ?_);go_wp2_with fail));exact got HR ⟨zb,zb,zb,zb,rfl⟩
  ·have h1:(1:Int)<=(N:Int):=zd;have h1':1<=N:=zd;have h2:(0:Int)<(N:Int):=zd;have h2':0<N:=zd;have hidx0:=hidx zd;have HS2:=zH (show zwc s=decide (s.getD 0 0=43\/s.getD 0 0=45) by
    have:=HN.out;cases s with
    | nil=>simp at this;omega
    | cons c r=>rfl)
   generalize s.getD 0 0=c at *
   have hce:∀ x:UInt8,c=x↔c.toNat=x.toNat:=fun x=>⟨fun h=>by rw[h],fun h=>UInt8.toNat_inj.1 h⟩
   have HCE:=zH hce;clear hce hidx;obtain⟨n,hn⟩:=zX c.toNat;have HNN:=zH hn;by_cases h45:n=45
   ·have e:sg=true:=by
     rw[<-HSG.out,HS2.out,decide_eq_true];right;rw[HCE.out,HNN.out,h45];rfl
    subst h45 e;(go_wp2_with fail;repeat ((first|refine cZ ?_|refine cW ?_);go_wp2_with fail));exact got HR ⟨zb,zb,zb,zb,rfl⟩
   ·obtain⟨a1,a2,a3⟩:=yq (z:=45) rfl h45;by_cases h43:n=43
    ·have e:sg=true:=by
      rw[<-HSG.out,HS2.out,decide_eq_true];left;rw[HCE.out,HNN.out,h43];rfl
     subst h43 e;clear h45 a1 a2 a3;(go_wp2_with fail;repeat ((first|refine cZ ?_|refine cW ?_);go_wp2_with fail));exact got HR ⟨zb,zb,zb,zb,rfl⟩
    ·obtain⟨b1,b2,b3⟩:=yq (z:=43) rfl h43;have e:sg=false:=by
      rw[<-HSG.out,HS2.out,decide_eq_false];rw[HCE.out,HCE.out,HNN.out];rintro (h | h)
      ·exact h43 h
      ·exact h45 h
     subst e;clear h45 h43;(go_wp2_with fail;repeat ((first|refine cZ ?_|refine cW ?_);go_wp2_with fail));exact got HR ⟨zb,zb,zb,zb,rfl⟩
 clear s0 σ hidx;rintro σ w1 ⟨s0,s3,s4,s18,rfl⟩;obtain⟨u,hu⟩:=zX ((sgn s).2);rw[hu]at HRES;have HU:=zH ((zjs s).symm.trans hu);have hul:u.length<=4000000:=by rw[<-hu];have:=zfl s;have:=HN.out;omega
 clear hu;go_wp2_with fail;refine yr (fun s' w'=>s' 0=.string ⟨u.toArray⟩/\s' 3=.int .i32 94/\s' 4=.int .i64 0/\w=w') ?_ ?_
 ·intro R' K' HR hK';cases sg
  ·have e:u=s:=by rw[<-HU.out,HSG.out];rfl
   subst e;(go_wp2_with fail;repeat ((first|refine cZ ?_|refine cW ?_);go_wp2_with fail));exact got HR ⟨zb,zb,zb,rfl⟩
  ·have e:s.drop 1=u:=by rw[<-HU.out,HSG.out];rfl
   rw[e]at hcut;have h0:1<=N:=by
    rcases Nat.eq_zero_or_pos N with h | h
    ·have h1:=HSG.out;rw[List.length_eq_zero_iff.1 (show s.length=0 by rw[HN.out];exact h)]at h1;cases h1
    ·exact h
   have h1:(1:Int)<=(N:Int):=zd;(go_wp2_with fail;repeat ((first|refine cZ ?_|refine cW ?_);go_wp2_with fail));exact got HR ⟨zb,zb,zb,rfl⟩
 clear s0 s3 s4 s18 σ hcut hsz hs HN HSG HU;rintro σ w2 ⟨s0,s3,s4,rfl⟩;have hsz:(⟨u.toArray⟩:ByteArray).size=u.length:=zm;have hidx:=fun i h=>xu u i h
 obtain⟨N,hN⟩:=zX u.length;rw[hN]at hsz hul hidx;have HN:=zH hN;clear hN;have HPR:=zH ((zp6 u).symm.trans HRES.out);obtain⟨pre,hpre⟩:=zX (preU u);have HPU:=zH hpre;clear hpre HRES;go_upto_region 6 with fail;refine yr (fun s' w'=>s' 0=.string ⟨u.toArray⟩/\s' 3=.int .i32 94/\s' 4=.int .i64 0/\s' 5=.bool false/\s' 46=.bool pre/\w=w') ?_ ?_
 ·intro R' K' HR hK';by_cases h2:N<2
  ·have e:pre=false:=by
    rw[<-HPU.out];have:=HN.out;match u,this with
    | [],_=>rfl
    | [_],_=>rfl
    | _::_::_,h=>simp at h;omega
   subst e;have g1:decide ((2:Int)<=(N:Int))=false:=zh;have g2:decide (2<=N)=false:=zh;clear h2;(go_wp2_with fail;repeat ((first|refine cZ ?_|refine cW ?_);go_wp2_with fail));exact got HR ⟨zb,zb,zb,zb,zb,rfl⟩
  ·have g1:(2:Int)<=(N:Int):=zd;have g2:2<=N:=zd;have g3:(1:Int)<(N:Int):=zd;have g4:(0:Int)<(N:Int):=zd;have g5:1<N:=zd;have g6:0<N:=zd;have hidx0:=hidx 0 zd;have hidx1:=hidx 1 zd;have HP2:=zH (show preU u=decide (u.getD 0 0=48/\(wc (u.getD 1 0)=98\/wc (u.getD 1 0)=111\/wc (u.getD 1 0)=120)) by
    have:=HN.out;match u,this with
    | [],h=>simp at h;omega
    | [_],h=>simp at h;omega
    | _::_::_,_=>rfl)
   generalize u.getD 0 0=c at *
   generalize u.getD 1 0=x at *
   clear hidx h2;have hce:c=48↔c.toNat=48:=⟨fun h=>by rw[h];rfl,fun h=>UInt8.toNat_inj.1 h⟩;have HCE:=zH hce;clear hce;have HL:=zH (HLOW.out x);obtain⟨n,hn⟩:=zX c.toNat;have HNN:=zH hn;obtain⟨l,hl⟩:=zX (wc x);rw[hl]at HL;have HLL:=zH hl;clear hl;by_cases h48:n=48
   ·by_cases h98:l=98
    ·have e:pre=true:=by rw[<-HPU.out,HP2.out,decide_eq_true];exact⟨HCE.out.2 (HNN.out.trans h48),Or.inl (HLL.out.trans h98)⟩
     subst h48 h98 e;(go_wp2_with fail;repeat ((first|refine cZ ?_|refine cW ?_);go_wp2_with fail));refine (HL.out _).mono ?_;rintro e w1 ⟨rfl,rfl⟩;(go_wp2_with fail;repeat ((first|refine cZ ?_|refine cW ?_);go_wp2_with fail));exact got HR ⟨zb,zb,zb,zb,zb,rfl⟩
    ·obtain⟨a1,a2,a3⟩:=yq (z:=98) rfl h98;by_cases h111:l=111
     ·have e:pre=true:=by rw[<-HPU.out,HP2.out,decide_eq_true];exact⟨HCE.out.2 (HNN.out.trans h48),Or.inr (Or.inl (HLL.out.trans h111))⟩
      subst h48 h111 e;clear h98 a1 a2 a3;(go_wp2_with fail;repeat ((first|refine cZ ?_|refine cW ?_);go_wp2_with fail));refine (HL.out _).mono ?_;rintro e w1 ⟨rfl,rfl⟩;(go_wp2_with fail;repeat ((first|refine cZ ?_|refine cW ?_);go_wp2_with fail));refine (HL.out _).mono ?_;rintro e w1 ⟨rfl,rfl⟩;(go_wp2_with fail;repeat ((first|refine cZ ?_|refine cW ?_);go_wp2_with fail));exact got HR ⟨zb,zb,zb,zb,zb,rfl⟩
     ·obtain⟨b1,b2,b3⟩:=yq (z:=111) rfl h111;by_cases h120:l=120
      ·have e:pre=true:=by rw[<-HPU.out,HP2.out,decide_eq_true];exact⟨HCE.out.2 (HNN.out.trans h48),Or.inr (Or.inr (HLL.out.trans h120))⟩
       subst h48 h120 e;clear h98 h111 a1 a2 a3 b1 b2 b3;(go_wp2_with fail;repeat ((first|refine cZ ?_|refine cW ?_);go_wp2_with fail));refine (HL.out _).mono ?_;rintro e w1 ⟨rfl,rfl⟩;(go_wp2_with fail;repeat ((first|refine cZ ?_|refine cW ?_);go_wp2_with fail));refine (HL.out _).mono ?_;rintro e w1 ⟨rfl,rfl⟩;(go_wp2_with fail;repeat ((first|refine cZ ?_|refine cW ?_);go_wp2_with fail));refine (HL.out _).mono ?_;rintro e w1 ⟨rfl,rfl⟩;(go_wp2_with fail;repeat ((first|refine cZ ?_|refine cW ?_);go_wp2_with fail));exact got HR ⟨zb,zb,zb,zb,zb,rfl⟩
      ·obtain⟨c1,c2,c3⟩:=yq (z:=120) rfl h120;have e:pre=false:=by
        rw[<-HPU.out,HP2.out,decide_eq_false];rw[HLL.out];rintro⟨-,h | h | h⟩
        ·exact h98 h
        ·exact h111 h
        ·exact h120 h
       subst h48 e;clear h98 h111 h120;(go_wp2_with fail;repeat ((first|refine cZ ?_|refine cW ?_);go_wp2_with fail));refine (HL.out _).mono ?_;rintro e w1 ⟨rfl,rfl⟩;(go_wp2_with fail;repeat ((first|refine cZ ?_|refine cW ?_);go_wp2_with fail));refine (HL.out _).mono ?_;rintro e w1 ⟨rfl,rfl⟩;(go_wp2_with fail;repeat ((first|refine cZ ?_|refine cW ?_);go_wp2_with fail));refine (HL.out _).mono ?_;rintro e w1 ⟨rfl,rfl⟩;(go_wp2_with fail;repeat ((first|refine cZ ?_|refine cW ?_);go_wp2_with fail));exact got HR ⟨zb,zb,zb,zb,zb,rfl⟩
   ·obtain⟨a1,a2,a3⟩:=yq (z:=48) rfl h48;have e:pre=false:=by
     rw[<-HPU.out,HP2.out,decide_eq_false];rintro⟨h,-⟩;exact h48 (HNN.out.symm.trans (HCE.out.1 h))
    subst e;clear h48;(go_wp2_with fail;repeat ((first|refine cZ ?_|refine cW ?_);go_wp2_with fail));exact got HR ⟨zb,zb,zb,zb,zb,rfl⟩
 clear s0 s3 s4 σ;rintro σ w3 ⟨s0,s3,s4,s5,s46,rfl⟩;go_wp2_with fail;refine yr (fun s' w'=>∃ (i saw:Nat) (hex:Bool),s' 0=.string ⟨u.toArray⟩/\s' 3=.int .i32 (saw:Int)/\s' 4=.int .i64 (i:Int)/\s' 5=.bool hex/\i<=N/\okU hex (u.drop i) saw=res/\saw<=100/\w=w') ?_ ?_
 ·intro R' K' HR hK';cases pre
  ·have HF:=zH (show okU false u 94=res by have:=HPR.out;rw[HPU.out]at this;exact this);(go_wp2_with fail;repeat ((first|refine cZ ?_|refine cW ?_);go_wp2_with fail));exact got HR ⟨0,94,false,zb,zb,zb,zb,Nat.zero_le _,by rw[List.drop_zero];exact HF.out,zd,rfl⟩
  ·have HF:=zH (show okU (preH u) (u.drop 2) 48=res by have:=HPR.out;rw[HPU.out]at this;exact this);have hN2:2<=N:=by
    have h1:=HPU.out;have h2:=HN.out;match u,h1,h2 with
    | _::_::_,_,h=>simp at h;omega
   have g3:(1:Int)<(N:Int):=zd;have g5:1<N:=zd;have hidx1:=hidx 1 zd;have HPH:=zH (show preH u=decide (wc (u.getD 1 0)=120) by
    have:=HN.out;match u,this with
    | [],h=>simp at h;omega
    | [_],h=>simp at h;omega
    | _::_::_,_=>rfl)
   generalize u.getD 1 0=x at *
   have HL:=zH (HLOW.out x);obtain⟨l,hl⟩:=zX (wc x);rw[hl]at HL HPH;rw[HPH.out]at HF;clear hl hidx;(go_wp2_with fail;repeat ((first|refine cZ ?_|refine cW ?_);go_wp2_with fail));refine (HL.out _).mono ?_;rintro e w1 ⟨rfl,rfl⟩;by_cases h120:l=120
   ·subst h120;(go_wp2_with fail;repeat ((first|refine cZ ?_|refine cW ?_);go_wp2_with fail));exact got HR ⟨2,48,true,zb,zb,zb,zb,hN2,HF.out,zd,rfl⟩
   ·obtain⟨c1,c2,c3⟩:=yq (z:=120) rfl h120;rw[decide_eq_false h120]at HF;clear h120;(go_wp2_with fail;repeat ((first|refine cZ ?_|refine cW ?_);go_wp2_with fail));exact got HR ⟨2,48,false,zb,zb,zb,zb,hN2,HF.out,zd,rfl⟩
 clear s0 s3 s4 s5 s46 σ HPR HPU;rintro σ w4 ⟨i0,saw0,hex,s0,s3,s4,s5,hi0,hok0,hsaw0,rfl⟩;have HIDX:=zH hidx;clear hidx;(go_wp2_with fail;repeat ((first|refine cZ ?_|refine cW ?_);go_wp2_with fail));refine xx (fun kk s' w'=>∃ (i saw:Nat),i<=N/\kk=N-i/\okU hex (u.drop i) saw=res/\saw<=100/\s' 0=.string ⟨u.toArray⟩/\s' 3=.int .i32 (saw:Int)/\s' 4=.int .i64 (i:Int)/\s' 5=.bool hex/\w=w') (N-i0)
  ⟨i0,saw0,hi0,rfl,hok0,hsaw0,zb,zb,zb,zb,rfl⟩ ?_
 clear s0 s3 s4 s5 σ hi0 hok0 hsaw0 i0 saw0;rintro kk σ wk ⟨i,saw,hi,hkk,hok,hsaw,s0,s3,s4,s5,rfl⟩ RK KK HRK hKK;have HKK:=zH hkk;have HOK:=zH hok;clear hkk hok;by_cases hiN:i<N
 ·have hidx:=HIDX.out i hiN;have hiN':(i:Int)<(N:Int):=zd;have hw:IntKind.i64.wrap ((i:Int)+1)=(i:Int)+1:=zk;have hdr:=ua u i zn;have hok2:=HOK.out;rw[hdr,okU,zlt]at hok2;generalize u.getD i 0=c at *
  have HL:=zH (HLOW.out c);have hce:c=95↔c.toNat=95:=⟨fun h=>by rw[h];rfl,fun h=>UInt8.toNat_inj.1 h⟩;simp only[hce]at hok2;obtain⟨n,hn⟩:=zX c.toNat;obtain⟨l,hl⟩:=zX (wc c);rw[hl]at HL hok2;rw[hn]at hok2;simp only[hn]at HL;obtain⟨dg,hdg⟩:=zX ((decide (48<=n/\n<=57) || (hex&&decide (97<=l/\l<=102))));rw[hdg]at hok2;have HOK2:=zH hok2;have HDG:=zH hdg;clear hl hdr hok2 hce hdg HOK;(go_upto_region 12 with fail;repeat ((first|refine cZ ?_|refine cW ?_);go_upto_region 12 with fail));refine yr (fun s' w'=>s' 0=.string ⟨u.toArray⟩/\s' 3=.int .i32 (saw:Int)/\s' 4=.int .i64 (i:Int)/\s' 5=.bool hex/\s' 83=.bool dg/\w=w') ?_ ?_
  ·intro R' K' HR hK';by_cases h1:48<=n/\n<=57
   ·have e:dg=true:=by rw[<-HDG.out,decide_eq_true h1];rfl
    subst e;obtain⟨h1a,h1b⟩:=h1;have k1:(48:Int)<=(n:Int):=zd;have k2:(n:Int)<=57:=zd;(go_wp2_with fail;repeat ((first|refine cZ ?_|refine cW ?_);go_wp2_with fail));exact got HR ⟨zb,zb,zb,zb,zb,rfl⟩
   ·have HD2:=zH (show (hex&&decide (97<=l/\l<=102))=dg by rw[<-HDG.out,decide_eq_false h1];rfl);have hk:(decide ((48:Int)<=(n:Int))=true/\decide ((n:Int)<=57)=false/\decide (48<=n)=true/\decide (n<=57)=false)\/(decide ((48:Int)<=(n:Int))=false/\decide (48<=n)=false):=by
     by_cases h2:48<=n
     ·left;refine⟨zh,zh,zh,zh⟩
     ·right;refine⟨zh,zh⟩
    clear h1 HDG;cases hex
    ·have e:dg=false:=by rw[<-HD2.out];rfl
     subst e;rcases hk with⟨k1,k2,k3,k4⟩ | ⟨k1,k2⟩
     ·(go_wp2_with fail;repeat ((first|refine cZ ?_|refine cW ?_);go_wp2_with fail));exact got HR ⟨zb,zb,zb,zb,zb,rfl⟩
     ·(go_wp2_with fail;repeat ((first|refine cZ ?_|refine cW ?_);go_wp2_with fail));exact got HR ⟨zb,zb,zb,zb,zb,rfl⟩
    ·by_cases h97:97<=l
     ·have m1:(97:Int)<=(l:Int):=zd;by_cases h102:l<=102
      ·have e:dg=true:=by rw[<-HD2.out,decide_eq_true ⟨h97,h102⟩];rfl
       subst e;have m2:(l:Int)<=102:=zd;rcases hk with⟨k1,k2,k3,k4⟩ | ⟨k1,k2⟩;all_goals
        (go_wp2_with fail;repeat ((first|refine cZ ?_|refine cW ?_);go_wp2_with fail));refine (HL.out _).mono ?_;rintro e w1 ⟨rfl,rfl⟩;(go_wp2_with fail;repeat ((first|refine cZ ?_|refine cW ?_);go_wp2_with fail));refine (HL.out _).mono ?_;rintro e w1 ⟨rfl,rfl⟩;(go_wp2_with fail;repeat ((first|refine cZ ?_|refine cW ?_);go_wp2_with fail));exact got HR ⟨zb,zb,zb,zb,zb,rfl⟩
      ·have e:dg=false:=by rw[<-HD2.out,decide_eq_false (fun h=>h102 h.2)];rfl
       subst e;have m2:decide ((l:Int)<=102)=false:=zh;have m3:decide (l<=102)=false:=zh;rcases hk with⟨k1,k2,k3,k4⟩ | ⟨k1,k2⟩;all_goals
        (go_wp2_with fail;repeat ((first|refine cZ ?_|refine cW ?_);go_wp2_with fail));refine (HL.out _).mono ?_;rintro e w1 ⟨rfl,rfl⟩;(go_wp2_with fail;repeat ((first|refine cZ ?_|refine cW ?_);go_wp2_with fail));refine (HL.out _).mono ?_;rintro e w1 ⟨rfl,rfl⟩;(go_wp2_with fail;repeat ((first|refine cZ ?_|refine cW ?_);go_wp2_with fail));exact got HR ⟨zb,zb,zb,zb,zb,rfl⟩
     ·have e:dg=false:=by rw[<-HD2.out,decide_eq_false (fun h=>h97 h.1)];rfl
      subst e;have m2:decide ((97:Int)<=(l:Int))=false:=zh;have m3:decide (97<=l)=false:=zh;rcases hk with⟨k1,k2,k3,k4⟩ | ⟨k1,k2⟩;all_goals
       (go_wp2_with fail;repeat ((first|refine cZ ?_|refine cW ?_);go_wp2_with fail));refine (HL.out _).mono ?_;rintro e w1 ⟨rfl,rfl⟩;(go_wp2_with fail;repeat ((first|refine cZ ?_|refine cW ?_);go_wp2_with fail));exact got HR ⟨zb,zb,zb,zb,zb,rfl⟩
  clear s0 s3 s4 s5 σ HDG HL;rintro σ w5 ⟨s0,s3,s4,s5,s83,rfl⟩;cases dg
  ·by_cases h95:n=95
   ·subst h95;by_cases h48:saw=48
    ·subst h48;have HF:=zH (show okU hex (u.drop (i+1)) 95=res from HOK2.out);(go_wp2_with fail;repeat ((first|refine cZ ?_|refine cW ?_);go_wp2_with fail));exact wo HRK (N-(i+1)) (by have:=HKK.out;omega) ⟨i+1,95,zd,rfl,HF.out,zd,zb,zb,zb,zb,rfl⟩
    ·obtain⟨a1,a2,a3⟩:=yq (z:=48) rfl h48;have a4:((saw:Int) != 48)=true:=by rw[bne,show ((saw:Int)==48)=false from a1];rfl
     have HF:=zH (show false=res by have:=HOK2.out;rw[if_neg zi,if_pos rfl,if_neg h48]at this;exact this);clear h48;(go_wp2_with fail;repeat ((first|refine cZ ?_|refine cW ?_);go_wp2_with fail));exact yl (.bool false) rfl ze zb ⟨zβG,rfl⟩
   ·obtain⟨b1,b2,b3⟩:=yq (z:=95) rfl h95;by_cases h95':saw=95
    ·subst h95';have HF:=zH (show false=res by have:=HOK2.out;rw[if_neg zi,if_neg h95,if_pos rfl]at this;exact this);clear h95;(go_wp2_with fail;repeat ((first|refine cZ ?_|refine cW ?_);go_wp2_with fail));exact yl (.bool false) rfl ze zb ⟨zβG,rfl⟩
    ·obtain⟨c1,c2,c3⟩:=yq (z:=95) rfl h95';have HF:=zH (show okU hex (u.drop (i+1)) 33=res by have:=HOK2.out;rw[if_neg zi,if_neg h95,if_neg h95']at this;exact this);clear h95 h95';(go_wp2_with fail;repeat ((first|refine cZ ?_|refine cW ?_);go_wp2_with fail));exact wo HRK (N-(i+1)) (by have:=HKK.out;omega) ⟨i+1,33,zd,rfl,HF.out,zd,zb,zb,zb,zb,rfl⟩
  ·have HF:=zH (show okU hex (u.drop (i+1)) 48=res from HOK2.out);(go_wp2_with fail;repeat ((first|refine cZ ?_|refine cW ?_);go_wp2_with fail));exact wo HRK (N-(i+1)) (by have:=HKK.out;omega) ⟨i+1,48,zd,rfl,HF.out,zd,zb,zb,zb,zb,rfl⟩
 ·have eN:i=N:=zd;subst eN;have HF:=zH (show decide (saw≠95)=res by have:=HOK.out;rw[List.drop_eq_nil_of_le (by rw[HN.out];exact Nat.le_refl _)]at this;exact this);by_cases h95:saw=95
  ·subst h95;(go_wp2_with fail;repeat ((first|refine cZ ?_|refine cW ?_);go_wp2_with fail));exact yl (.bool false) rfl ze zb ⟨by rw[<-HF.out];rfl,rfl⟩
  ·obtain⟨c1,c2,c3⟩:=yq (z:=95) rfl h95;have c4:((saw:Int) != 95)=true:=by rw[bne,show ((saw:Int)==95)=false from c1];rfl
   have HF2:=zH (show true=res by rw[<-HF.out,decide_eq_true h95]);clear h95;(go_wp2_with fail;repeat ((first|refine cZ ?_|refine cW ?_);go_wp2_with fail));exact yl (.bool true) rfl ze zb ⟨by rw[HF2.out],rfl⟩
end
end Go.Proofs.YtnifedmhgncioaaGreatDoor
