/- Lemmas that the claim's top text leans on. No condition of their own. -/
import Derived.Test.YtnifedmhgncioaaGreatDoorK07
namespace Go.Proofs.YtnifedmhgncioaaGreatDoor
open Go.RowKit
set_option linter.unusedSimpArgs false
set_option linter.unusedVariables false
set_option maxHeartbeats 16000000
theorem yqe (a k:Nat):a&&&2^k=a / 2^k%2*2^k:=by
 apply Nat.eq_of_testBit_eq;intro i;rw[Nat.testBit_and,Nat.testBit_two_pow];have h:=Nat.testBit_eq_decide_div_mod_eq (x:=a) (i:=k);rcases Nat.mod_two_eq_zero_or_one (a / 2^k) with h2 | h2
 ·rw[h2]at h ⊢;by_cases e:k=i
  ·subst e;rw[h];simp
  ·simp[e]
 ·rw[h2]at h ⊢;by_cases e:k=i
  ·subst e;rw[h];simp
  ·simp[e]
theorem yl3 (a:Nat) (ha:a<18446744073709551616):bits .and .u64 (a:Int) 1152921504606846976=((a / 1152921504606846976%2*1152921504606846976:Nat):Int):=by
 have h:=u64_and_nat a 1152921504606846976 ha zd;rw[show (1152921504606846976:Nat)=2^60 by decide,yqe]at h;exact h
theorem yrv (a:Nat) (ha:a<18446744073709551616):bits .and .u64 (a:Int) 2305843009213693952=((a / 2305843009213693952%2*2305843009213693952:Nat):Int):=by
 have h:=u64_and_nat a 2305843009213693952 ha zd;rw[show (2305843009213693952:Nat)=2^61 by decide,yqe]at h;exact h
theorem yn5 (a:Nat) (ha:a<18446744073709551616):bits .and .u64 (a:Int) 1152921504606846975=((a%1152921504606846976:Nat):Int):=by
 have h:=u64_and_nat a 1152921504606846975 ha zd;rw[show (1152921504606846975:Nat)=2^60-1 by decide,Nat.and_two_pow_sub_one_eq_mod]at h;exact h
theorem ynp (a:Nat) (ha:a<18446744073709551616):bits .and .u64 (a:Int) 15=((a%16:Nat):Int):=by
 have h:=u64_and_nat a 15 ha zd;rw[show (15:Nat)=2^4-1 by decide,Nat.and_two_pow_sub_one_eq_mod]at h;exact h
def yly (m:Nat) (e:Int):Nat×Int:=if m=0 then (0,e) else (m*2^(60-m.log2),e-((60-m.log2:Nat):Int))
theorem yog {m j mj:Nat} {e:Int} (h:mj=m*2^j) (hj:j<=60) (h1:mj<2^61) (hz:mj=0\/1152921504606846976<=mj) (h0:m=0->j=0):yly m e=(mj,e-(j:Int)):=by
 unfold yly;by_cases hm:m=0
 ·rw[if_pos hm];rw[h0 hm,h,hm];simp
 ·rw[if_neg hm];have hp:0<2^j:=Nat.two_pow_pos j;have hmj:2^60<=mj:=by
   rcases hz with h2 | h2
   ·rw[h2]at h;have:=Nat.mul_eq_zero.1 h.symm;omega
   ·exact h2
  have hlog:m.log2=60-j:=by
   rw[Nat.log2_eq_iff hm];constructor
   ·refine Nat.le_of_mul_le_mul_right ?_ hp;rw[<-Nat.pow_add,<-h,show 60-j+j=60 by omega];exact hmj
   ·refine Nat.lt_of_mul_lt_mul_right (a:=2^j) ?_;rw[<-Nat.pow_add,<-h,show 60-j+1+j=61 by omega];exact h1
  rw[hlog,show 60-(60-j)=j by omega,h]
def ymp (prec:Int) (m:Nat) (e:Int):Nat×Int:=
 if 0<=prec/\prec<15 then
  let s:=prec.toNat*4
  let q:=m / 2^(60-s)
  let r:=(if 576460752303423488<(m*2^s%2^60|||q%2) then q+1 else q)*2^(60-s)
  if r / 2^61%2=0 then (r,e) else (r / 2,e+1)
 else (m,e)
theorem yo8 (prec:Int) (m:Nat) (e:Int) (hm:m<2305843009213693952):(ymp prec m e).1<4611686018427387904/\e<=(ymp prec m e).2/\(ymp prec m e).2<=e+1:=by
 unfold ymp;split
 ·dsimp only;have hpp:0<2^(60-prec.toNat*4):=Nat.two_pow_pos _;have h1:m / 2^(60-prec.toNat*4)*2^(60-prec.toNat*4)<=m:=Nat.div_mul_le_self _ _;have h2:2^(60-prec.toNat*4)<=2^60:=Nat.pow_le_pow_right zd zd;have h3:(if 576460752303423488<(m*2^(prec.toNat*4)%2^60|||m / 2^(60-prec.toNat*4)%2) then m / 2^(60-prec.toNat*4)+1 else m / 2^(60-prec.toNat*4))*2^(60-prec.toNat*4)<4611686018427387904:=by
   split
   ·rw[Nat.add_mul,Nat.one_mul];omega
   ·omega
  generalize (if 576460752303423488<(m*2^(prec.toNat*4)%2^60|||m / 2^(60-prec.toNat*4)%2) then m / 2^(60-prec.toNat*4)+1 else m / 2^(60-prec.toNat*4))*2^(60-prec.toNat*4)=r at h3 ⊢;split <;> (refine⟨?_,?_,?_⟩ <;> (try dsimp only) <;> omega)
 ·(try dsimp only);omega
def ymg (up:Bool):ByteArray:=if up then { data:=#[48,49,50,51,52,53,54,55,56,57,65,66,67,68,69,70] } else { data:=#[48,49,50,51,52,53,54,55,56,57,97,98,99,100,101,102] }
theorem ynw (up:Bool):(ymg up).size=16:=by cases up <;> rfl
def ymk (up:Bool) (d:Nat):UInt8:=if h:d<(ymg up).size then (ymg up)[d] else 0
theorem ypy (up:Bool) (d:Nat) (h:d<(ymg up).size):(ymg up)[d]=ymk up d:=by unfold ymk;rw[dif_pos h]
def ynd (up:Bool):Nat->Nat->List UInt8
 | 0,_=>[]
 | k+1,m=>if m=0 then [] else ymk up (m / 2^60%16)::ynd up k (m*16%2^64)
def ynv (up:Bool):Nat->Nat->List UInt8
 | 0,_=>[]
 | k+1,m=>ymk up (m / 2^60%16)::ynv up k (m*16%2^64)
theorem yoq (up:Bool) (k m:Nat):(ynd up k m).length<=k:=by
 induction k generalizing m with
 | zero=>simp[ynd]
 | succ k ih=>unfold ynd;split <;> simp;exact ih _
theorem yor (up:Bool) (k m:Nat):(ynv up k m).length=k:=by
 induction k generalizing m with
 | zero=>simp[ynv]
 | succ k ih=>unfold ynv;simp;exact ih _
def yt8 (e:Int):List UInt8:=
 (if e<0 then 45 else 43)::(if e.natAbs<100 then [UInt8.ofNat (48+e.natAbs / 10),UInt8.ofNat (48+e.natAbs%10)]
  else if e.natAbs<1000 then [UInt8.ofNat (48+e.natAbs / 100),UInt8.ofNat (48+e.natAbs / 10%10),UInt8.ofNat (48+e.natAbs%10)]
  else [UInt8.ofNat (48+e.natAbs / 1000),UInt8.ofNat (48+e.natAbs / 100%10),UInt8.ofNat (48+e.natAbs / 10%10),UInt8.ofNat (48+e.natAbs%10)])
def yky (up:Bool) (prec:Int) (m:Nat):List UInt8:=
 if prec<0/\m≠0 then 46::ynd up 16 m else if 0<prec then 46::ynv up prec.toNat m else []
def ymz (prec:Int) (m mb:Nat) (e:Int):Nat×Int:=ymp prec (yly (m*2^(60-mb)) (if m=0 then 0 else e)).1 (yly (m*2^(60-mb)) (if m=0 then 0 else e)).2
def xL (neg:Bool) (prec f:Int) (m mb:Nat) (e:Int):List UInt8:=
 ycv neg++([48,UInt8.ofNat f.toNat,UInt8.ofNat (48+(ymz prec m mb e).1 / 2^60%2)]++(yky (f==88) prec ((ymz prec m mb e).1*16%2^64)++([if f=88 then 80 else 112]++yt8 (ymz prec m mb e).2)))
set_option maxRecDepth 100000 in
theorem yq2 (T:Nat) (neg:Bool) (dst:Value) (prec f:Int) (m mb:Nat) (e:Int) (xs:List UInt8) (w:World) (he:Env T w) (hown:OwnB T w dst xs)
  (hx:xs.length≤140737489000000) (hf:f=120∨f=88) (hp1:-9223372036854775808≤prec) (hp2:prec≤100000) (he1:-2000≤e) (he2:e≤2000) (hmb:mb=52∨mb=23) (hm:m<2^(mb+1)):
  Calls Tryz.prog 91 #[dst,.int .i64 prec,.int .u8 f,.bool neg,.int .u64 (m:Int),.int .i64 e,.int .i64 (mb:Int)] w fun r w'=>
   ∃ v',r=.returned v'∧OwnB T w' v' (xs++xL neg prec f m mb e)∧Stp w dst w' v':=by
 have hf1:0≤f:=by omega
 have hf2:f≤255:=by omega
 have HF:=Lib.hid hf
 clear hf
 have hap:=Ap.start hown he (Or.inl rfl:Dig w dst dst [])
 clear hown he
 refine ye Tryz.func91 rfl (by rw[Tryz.ntmps91];simp) ?_
 intro σ hσ
 rw[Tryz.ntmps91]
 have s0:σ 0=dst:=hσ 0 (by simp)
 have s1:σ 1=.int .i64 prec:=hσ 1 (by simp)
 have s2:σ 2=.int .u8 f:=hσ 2 (by simp)
 have s3:σ 3=.bool neg:=hσ 3 (by simp)
 have s4:σ 4=.int .u64 (m:Int):=hσ 4 (by simp)
 have s5:σ 5=.int .i64 e:=hσ 5 (by simp)
 have s6:σ 6=.int .i64 (mb:Int):=hσ 6 (by simp)
 clear hσ
 have hmr:m<2^53:=by rcases hmb with rfl | rfl <;> omega
 go_wp2_with fail
 refine yr (fun s' w'=>s' 0=dst∧s' 1=.int .i64 prec∧s' 2=.int .u8 f∧s' 3=.bool neg∧s' 4=.int .u64 (m:Int)∧s' 5=.int .i64 (if m=0 then 0 else e)∧s' 6=.int .i64 (mb:Int)∧w=w') ?_ ?_
 ·intro R' K' HR hK'
  by_cases h:m=0
  ·subst h
   refine jq (by simp[ov, *]) (by decide) ?_
   go_wp2_with fail
   exact got HR (by simp[ov, *])
  ·refine kj (by simp[ov, *]) (by decide) ?_
   go_wp2_with fail
   exact got HR (by simp[ov, *])
 clear s0 s1 s2 s3 s4 s5 s6 σ
 rintro σ w' ⟨s0,s1,s2,s3,s4,s5,s6,rfl⟩
 obtain⟨e0,he0⟩:∃ e0:Int,(if m=0 then 0 else e)=e0:=⟨_,rfl⟩
 have hb1:-2000≤e0∧e0≤2000:=by rw[←he0];split <;> omega
 rw[he0]at s5
 obtain⟨m1,hm1⟩:∃ m1:Nat,m*2^(60-mb)=m1:=⟨_,rfl⟩
 have hm1b:m1<2^61:=by rw[←hm1];rcases hmb with rfl | rfl <;> omega
 have HM1:=Lib.hid hm1
 have HE0:=Lib.hid he0
 clear hm1 he0
 go_upto_region 3 with fail
 refine yr (fun s' w'=>s' 0=dst∧s' 1=.int .i64 prec∧s' 2=.int .u8 f∧s' 3=.bool neg∧s' 4=.int .u64 (m1:Int)∧s' 5=.int .i64 e0∧w=w') ?_ ?_
 ·intro R' K' HR hK'
  rcases hmb with rfl | rfl
  ·have hq:(m:Int)*256=(m1:Int):=by have:m*256=m1:=HM1.out;omega
   go_wp2_with fail
   exact got HR (by simp[ov, *])
  ·have hq:(m:Int)*137438953472=(m1:Int):=by have:m*137438953472=m1:=HM1.out;omega
   go_wp2_with fail
   exact got HR (by simp[ov, *])
 clear s0 s1 s2 s3 s4 s5 s6 σ
 rintro σ w' ⟨s0,s1,s2,s3,s4,s5,rfl⟩
 go_wp2_with fail
 refine xx (fun k s' w'=>∃ (j mj:Nat),mj<2^61∧j≤60∧(m1=0→j=0)∧k=2^61-mj∧mj=m1*2^j∧s' 0=dst∧s' 1=.int .i64 prec∧s' 2=.int .u8 f∧s' 3=.bool neg∧s' 4=.int .u64 (mj:Int)∧s' 5=.int .i64 (e0-(j:Int))∧w=w') (2^61-m1) ⟨0,m1,hm1b,by omega,fun _=>rfl,rfl,by simp,by simp[ov, *],by simp[ov, *],by simp[ov, *],by simp[ov, *],by simp[ov, *],by simp[ov, *],rfl⟩ ?_
 clear s0 s1 s2 s3 s4 s5 σ
 rintro k σ wk ⟨j,mj,hmj,hj,hj0,rfl,hmje,s0,s1,s2,s3,s4,s5,rfl⟩ RK KK HRK hKK
 have HMJ:=Lib.hid hmje
 have HJ0:=Lib.hid hj0
 clear hmje hj0
 have hm61:mj<2305843009213693952:=by omega
 go_upto_region 4 with fail
 refine yr (fun s' w'=>s' 32=.bool (decide (mj≠0∧mj<1152921504606846976))∧s' 0=dst∧s' 1=.int .i64 prec∧s' 2=.int .u8 f∧s' 3=.bool neg∧s' 4=.int .u64 (mj:Int)∧s' 5=.int .i64 (e0-(j:Int))∧w=w') ?_ ?_
 ·intro R2 K2 HR hK2
  by_cases hz0:mj=0
  ·go_wp2_with fail
   exact got HR (by simp[ov, *])
  ·by_cases hzl:mj<1152921504606846976
   ·have hb:bits .and .u64 (mj:Int) 1152921504606846976=(0:Int):=by rw[yl3 mj (by omega)];omega
    go_wp2_with fail
    exact got HR (by simp[ov, *])
   ·have hb:bits .and .u64 (mj:Int) 1152921504606846976=(1152921504606846976:Int):=by rw[yl3 mj (by omega)];omega
    go_wp2_with fail
    exact got HR (by simp[ov, *])
 clear s0 s1 s2 s3 s4 s5 σ
 rintro σ w' ⟨s32,s0,s1,s2,s3,s4,s5,rfl⟩
 go_wp2_with fail
 refine zb0 _ (by rw[yd,s32]) (by decide) (fun h=>?_) (fun h=>?_)
 ·have h':=of_decide_eq_true h
  have hz0:¬mj=0:=h'.1
  have hzl:mj<1152921504606846976:=h'.2
  clear h h'
  have hjl:j<60:=by
   have:=HMJ.out
   by_cases h:j<60
   ·exact h
   ·have hj60:j=60:=by omega
    rw[hj60]at this
    omega
  go_wp2_with fail
  exact wo HRK (2^61-mj*2) (by omega) ⟨j+1,mj*2,by omega,by omega,fun h=>absurd (by rw[HMJ.out,h];simp) hz0,rfl,by rw[HMJ.out,Nat.pow_succ,Nat.mul_assoc],by simp[ov, *],by simp[ov, *],by simp[ov, *],by simp[ov, *],by simp[ov, *],by simp[ov, *];omega,rfl⟩
 have hz:mj=0∨1152921504606846976≤mj:=by have:=of_decide_eq_false h;omega
 have hnorm:=yog (e:=e0) HMJ.out hj hmj hz HJ0.out
 have HNORM:=Lib.hid hnorm
 have hk1:-2060≤e0-(j:Int)∧e0-(j:Int)≤2000:=by omega
 obtain⟨e1,he1'⟩:∃ e1,e0-(j:Int)=e1:=⟨_,rfl⟩
 rw[he1']at hk1 s5 HNORM
 clear h s32 hnorm HJ0 HMJ hj hz hKK HRK he1'
 go_upto_region 7 with fail
 refine yr (fun s' w'=>s' 42=.bool (decide (0≤prec∧prec<15))∧s' 0=dst∧s' 1=.int .i64 prec∧s' 2=.int .u8 f∧s' 3=.bool neg∧s' 4=.int .u64 (mj:Int)∧s' 5=.int .i64 e1∧w=w') ?_ ?_
 ·intro R2 K2 HR hK2
  by_cases h1:0≤prec
  ·go_wp2_with fail
   exact got HR (by simp[ov, *])
  ·have h1':decide (0≤prec)=false:=by simpa using h1
   go_wp2_with fail
   exact got HR (by simp[ov, *])
 clear s0 s1 s2 s3 s4 s5 σ
 rintro σ w' ⟨s42,s0,s1,s2,s3,s4,s5,rfl⟩
 go_wp2_with fail
 refine yr (fun s' w'=>s' 0=dst∧s' 1=.int .i64 prec∧s' 2=.int .u8 f∧s' 3=.bool neg∧s' 4=.int .u64 ((ymp prec mj e1).1:Int)∧s' 5=.int .i64 (ymp prec mj e1).2∧w=w') ?_ ?_
 ·intro R2 K2 HR hK2
  refine zb0 _ (by rw[yd,s42]) (by decide) (fun h=>?_) (fun h=>?_)
  ·have h':=of_decide_eq_true h
   obtain⟨p,hp⟩:∃ p:Nat,prec=(p:Int):=⟨prec.toNat,by omega⟩
   have hp15:p<15:=by omega
   subst hp
   clear h h' s42
   obtain⟨q,hq⟩:∃ q:Nat,mj / 2^(60-p*4)=q:=⟨_,rfl⟩
   obtain⟨X,hX⟩:∃ X:Nat,(mj*2^(p*4)%2^60|||q%2)=X:=⟨_,rfl⟩
   have hp2':2^(60-p*4)*2^(p*4)=2^60:=by rw[←Nat.pow_add];congr 1;omega
   have hpp:0<2^(60-p*4):=Nat.two_pow_pos _
   have hq1:q*2^(60-p*4)≤mj:=by rw[←hq];exact Nat.div_mul_le_self _ _
   have hq2:q<2^61:=by
    refine Nat.lt_of_le_of_lt ?_ hm61
    rw[←hq];exact Nat.div_le_self _ _
   have hq3:(q+1)*2^(60-p*4)≤mj+2^60:=by
    rw[Nat.add_mul,Nat.one_mul]
    have:2^(60-p*4)≤2^60:=Nat.pow_le_pow_right (by omega) (by omega)
    omega
   have hqi:(mj:Int) / 2^(60-p*4)=(q:Int):=by rw[←hq];simp
   have hXi:bits .or .u64 (bits .and .u64 (IntKind.u64.wrap ((mj:Int)*2^(p*4))) 1152921504606846975) (bits .and .u64 (q:Int) 1)=(X:Int):=by
    have e1:IntKind.u64.wrap ((mj:Int)*2^(p*4))=((mj*2^(p*4)%18446744073709551616:Nat):Int):=by
     rw[IntKind.wrap_u64];simp
    rw[e1,yn5 _ (by omega),zjg _ (by omega)]
    have:=u64_or_nat (mj*2^(p*4)%18446744073709551616%1152921504606846976) (q%2) (by omega) (by omega)
    rw[this,show mj*2^(p*4)%18446744073709551616%1152921504606846976=mj*2^(p*4)%2^60 by omega,hX]
   have hxr:∀ r:Nat,(if 576460752303423488<X then q+1 else q)*2^(60-p*4)=r→ymp (p:Int) mj e1=if r / 2^61%2=0 then (r,e1) else (r / 2,e1+1):=by
    intro r hr
    unfold ymp
    rw[if_pos (by omega)]
    simp only[Int.toNat_natCast,hq,hX,hr]
   have HXR:=Lib.hid hxr
   clear hxr hX hq hp2' hpp
   by_cases hc:576460752303423488<X
   ·have hci:(576460752303423488:Int)<(X:Int):=by omega
    obtain⟨r,hr⟩:∃ r:Nat,(q+1)*2^(60-p*4)=r:=⟨_,rfl⟩
    have hxr:=HXR.out r (by rw[if_pos hc,hr])
    have hrb:r<18446744073709551616:=by omega
    have hri:IntKind.u64.wrap (((q:Int)+1)*2^(60-p*4))=(r:Int):=by
     have:((q:Int)+1)*2^(60-p*4)=(r:Int):=by rw[←hr];simp
     rw[this,IntKind.wrap_u64];omega
    have HXR2:=Lib.hid hxr
    clear hr hq1 hq3 hxr HXR
    by_cases hb:r / 2^61%2=0
    ·have hbi:bits .and .u64 (r:Int) 2305843009213693952=(0:Int):=by rw[yrv r hrb];omega
     have hxr:=HXR2.out
     rw[if_pos hb]at hxr
     clear hb
     ((repeat (go_wp2_with fail;first | (refine cdY ?_ ?_;focus (simp[ov, *];done)) | (refine cdN ?_ ?_;focus (simp[ov, *];done))));go_wp2_with fail)
     exact got HR (by rw[hxr];simp[ov, *])
    ·have hbi:bits .and .u64 (r:Int) 2305843009213693952=(2305843009213693952:Int):=by rw[yrv r hrb];omega
     have hxr:=HXR2.out
     rw[if_neg hb]at hxr
     clear hb
     ((repeat (go_wp2_with fail;first | (refine cdY ?_ ?_;focus (simp[ov, *];done)) | (refine cdN ?_ ?_;focus (simp[ov, *];done))));go_wp2_with fail)
     exact got HR (by rw[hxr];simp[ov, *])
   ·have hci:decide ((576460752303423488:Int)<(X:Int))=false:=by simp;omega
    obtain⟨r,hr⟩:∃ r:Nat,q*2^(60-p*4)=r:=⟨_,rfl⟩
    have hxr:=HXR.out r (by rw[if_neg hc,hr])
    have hrb:r<18446744073709551616:=by omega
    have hri:IntKind.u64.wrap ((q:Int)*2^(60-p*4))=(r:Int):=by
     have:(q:Int)*2^(60-p*4)=(r:Int):=by rw[←hr];simp
     rw[this,IntKind.wrap_u64];omega
    have HXR2:=Lib.hid hxr
    clear hr hq1 hq3 hxr HXR
    by_cases hb:r / 2^61%2=0
    ·have hbi:bits .and .u64 (r:Int) 2305843009213693952=(0:Int):=by rw[yrv r hrb];omega
     have hxr:=HXR2.out
     rw[if_pos hb]at hxr
     clear hb
     ((repeat (go_wp2_with fail;first | (refine cdY ?_ ?_;focus (simp[ov, *];done)) | (refine cdN ?_ ?_;focus (simp[ov, *];done))));go_wp2_with fail)
     exact got HR (by rw[hxr];simp[ov, *])
    ·have hbi:bits .and .u64 (r:Int) 2305843009213693952=(2305843009213693952:Int):=by rw[yrv r hrb];omega
     have hxr:=HXR2.out
     rw[if_neg hb]at hxr
     clear hb
     ((repeat (go_wp2_with fail;first | (refine cdY ?_ ?_;focus (simp[ov, *];done)) | (refine cdN ?_ ?_;focus (simp[ov, *];done))));go_wp2_with fail)
     exact got HR (by rw[hxr];simp[ov, *])
  ·have hx0:ymp prec mj e1=(mj,e1):=by unfold ymp;rw[if_neg (of_decide_eq_false h)]
   go_wp2_with fail
   exact got HR (by rw[hx0];simp[ov, *])
 clear s0 s1 s2 s3 s4 s5 s42 σ
 rintro σ w' ⟨s0,s1,s2,s3,s4,s5,rfl⟩
 have hrb:=yo8 prec mj e1 hm61
 obtain⟨mR,hmR⟩:∃ mR,(ymp prec mj e1).1=mR:=⟨_,rfl⟩
 obtain⟨eR,heR⟩:∃ eR,(ymp prec mj e1).2=eR:=⟨_,rfl⟩
 have HMR:=Lib.hid hmR
 have HER:=Lib.hid heR
 have hrb1:mR<4611686018427387904:=by rw[←hmR];exact hrb.1
 have hrb2:-2060≤eR∧eR≤2001:=by rw[←heR];omega
 rw[hmR]at s4
 rw[heR]at s5
 clear hmR heR hrb
 go_wp2_with fail
 refine yr (fun s' w'=>s' 17=.string (ymg (f==88))∧s' 0=dst∧s' 1=.int .i64 prec∧s' 2=.int .u8 f∧s' 3=.bool neg∧s' 4=.int .u64 (mR:Int)∧s' 5=.int .i64 eR∧w=w') ?_ ?_
 ·intro R2 K2 HR hK2
  refine zb0 (f==88) (by simp[ov, *]) (by decide) (fun h=>?_) (fun h=>?_)
  ·go_wp2_with fail
   exact got HR (by simp[yc,yd,ymg, *])
  ·go_wp2_with fail
   exact got HR (by simp[yc,yd,ymg, *])
 clear s0 s1 s2 s3 s4 s5 σ
 rintro σ w' ⟨s17,s0,s1,s2,s3,s4,s5,rfl⟩
 go_wp2_with fail
 refine yr (fun s' w'=>∃ v,s' 0=v∧Ap T w dst dst [] w' v (xs++ycv neg)∧s' 17=.string (ymg (f==88))∧s' 1=.int .i64 prec∧s' 2=.int .u8 f∧s' 4=.int .u64 (mR:Int)∧s' 5=.int .i64 eR) ?_ ?_
 ·intro R' K' HR hK'
  refine zb0 neg (by simp[ov, *]) (by decide) (fun h=>?_) (fun h=>?_)
  ·subst h
   go_wp2_with (at_builtin;refine zch rfl _ _ _ _ rfl (by decide) (by decide) zsw (hap.own.alloc _) (by simp[ov, *]) _ (by simp[ov, *]) [45] (zmx Tryz.underlying83 [45] _) (by simp only[List.length_append,List.length_cons,List.length_nil,List.length_replicate]at *;omega) ?_;intro v w' ho1 hs1;replace hap:=hap.step ho1 hs1;clear ho1 hs1)
   exact got HR ⟨v,by simp[ov, *],hap,by simp[ov, *],by simp[ov, *],by simp[ov, *],by simp[ov, *],by simp[ov, *]⟩
  ·subst h
   go_wp2_with fail
   exact got HR ⟨dst,by simp[ov, *],hap.to (by simp[ycv]),by simp[ov, *],by simp[ov, *],by simp[ov, *],by simp[ov, *],by simp[ov, *]⟩
 clear s0 s1 s2 s3 s4 s5 s17 σ hap
 rintro σ w1 ⟨v1,s0,hap,s17,s1,s2,s4,s5⟩
 have hsl:(ycv neg).length≤1:=by cases neg <;> simp[ycv]
 obtain⟨sg,hsg⟩:∃ sg,ycv neg=sg:=⟨_,rfl⟩
 rw[hsg]at hap hsl
 have HSG:=Lib.hid hsg
 clear hsg
 have hlb:bits .and .u64 ((mR:Int) / 1152921504606846976) 1=((mR / 1152921504606846976%2:Nat):Int):=by
  have:=zjg (mR / 1152921504606846976) (by omega)
  simpa using this
 have hld:mR / 1152921504606846976%2<2:=Nat.mod_lt _ (by omega)
 obtain⟨ld,hld'⟩:∃ ld,mR / 1152921504606846976%2=ld:=⟨_,rfl⟩
 rw[hld']at hlb hld
 have HLD:=Lib.hid hld'
 obtain⟨m2,hm2⟩:∃ m2,mR*16%18446744073709551616=m2:=⟨_,rfl⟩
 have hm2b:m2<18446744073709551616:=by rw[←hm2];exact Nat.mod_lt _ (by omega)
 have hm2i:IntKind.u64.wrap ((mR:Int)*16)=(m2:Int):=by rw[IntKind.wrap_u64,←hm2];simp
 have HM2:=Lib.hid hm2
 clear hld' hm2
 go_upto_region 24 with (at_builtin;refine zch rfl _ _ _ _ rfl (by decide) (by decide) zsw (hap.own.alloc _) (by simp[ov, *]) _ (by simp[ov, *]) [UInt8.ofNat ((48:Int)).toNat,UInt8.ofNat (f).toNat,UInt8.ofNat (48+(ld:Int)).toNat] (yki Tryz.underlying83 ((48:Int)) (f) (48+(ld:Int)) (by omega) (by omega) (by omega) (by omega) (by omega) (by omega) _) (by simp only[List.length_append,List.length_cons,List.length_nil,List.length_replicate]at *;omega) ?_;intro v w' ho1 hs1;replace hap:=hap.step ho1 hs1;clear ho1 hs1)
 refine yr (fun s' w''=>s' 94=.bool (decide (prec<0∧m2≠0))∧s' 0=v∧s' 17=.string (ymg (f==88))∧s' 1=.int .i64 prec∧s' 2=.int .u8 f∧s' 4=.int .u64 (m2:Int)∧s' 5=.int .i64 eR∧w'=w'') ?_ ?_
 ·intro R2 K2 HR hK2
  by_cases h1:prec<0
  ·by_cases h0:m2=0
   ·go_wp2_with fail
    exact got HR (by simp[ov, *])
   ·have h0':((m2:Int) != 0)=true:=by simp[h0]
    go_wp2_with fail
    exact got HR (by simp[ov, *])
  ·have h1':decide (prec<0)=false:=by simpa using h1
   go_wp2_with fail
   exact got HR (by simp[ov, *])
 clear s0 s1 s2 s4 s5 s17 σ
 rintro σ w3 ⟨s94,s0,s17,s1,s2,s4,s5,rfl⟩
 have hXs:(xs++sg++[UInt8.ofNat (Int.toNat 48),UInt8.ofNat f.toNat,UInt8.ofNat (48+(ld:Int)).toNat]).length≤xs.length+4:=by
  simp only[List.length_append,List.length_cons,List.length_nil];omega
 obtain⟨out,hout⟩:∃ out,xs++sg++[UInt8.ofNat (Int.toNat 48),UInt8.ofNat f.toNat,UInt8.ofNat (48+(ld:Int)).toNat]=out:=⟨_,rfl⟩
 rw[hout]at hap hXs
 have HOUT:=Lib.hid hout
 clear hout
 obtain⟨up,hup⟩:∃ up,(f==88)=up:=⟨_,rfl⟩
 rw[hup]at s17
 have HUP:=Lib.hid hup
 clear hup
 go_wp2_with fail
 refine yr (fun s' w'=>∃ v,s' 0=v∧Ap T w dst dst [] w' v (out++yky up prec m2)∧s' 2=.int .u8 f∧s' 5=.int .i64 eR) ?_ ?_
 ·intro R' K' HR hK'
  refine zb0 _ (by rw[yd,s94]) (by decide) (fun h=>?_) (fun h=>?_)
  ·have hfr:yky up prec m2=46::ynd up 16 m2:=by unfold yky;rw[if_pos (of_decide_eq_true h)]
   clear h s94
   have HFR:=Lib.hid hfr
   clear hfr
   go_wp2_with (at_builtin;refine zch rfl _ _ _ _ rfl (by decide) (by decide) zsw (hap.own.alloc _) (by simp[ov, *]) _ (by simp[ov, *]) [46] (zmx Tryz.underlying83 [46] _) (by simp only[List.length_append,List.length_cons,List.length_nil,List.length_replicate]at *;omega) ?_;intro v w' ho1 hs1;replace hap:=hap.step ho1 hs1;clear ho1 hs1)
   refine xx (fun k s' w'=>∃ (i mi:Nat) (v:Value) (l:List UInt8),i≤16∧k=16-i∧mi=m2*16^i%18446744073709551616∧l.length≤i∧l++ynd up (16-i) mi=ynd up 16 m2∧s' 0=v∧Ap T w dst dst [] w' v (out++[46]++l)∧s' 2=.int .u8 f∧s' 5=.int .i64 eR∧s' 4=.int .u64 (mi:Int)∧s' 17=.string (ymg up)) 16 ⟨0,m2,_,[],Nat.zero_le _,rfl,by omega,by simp,rfl,rfl,(hap.to (by simp)).at (by simp[ov, *]),by simp[ov, *],by simp[ov, *],by simp[ov, *],by simp[ov, *]⟩ ?_
   clear s0 s1 s2 s4 s5 s17 σ hap
   rintro k σ wk ⟨i,mi,vk,l,hi,rfl,hmi,hll,hlz,s0,hap,s2,s5,s4,s17⟩ RK KK HRK hKK
   have hmib:mi<18446744073709551616:=by rw[hmi];exact Nat.mod_lt _ (by omega)
   have HMI:=Lib.hid hmi
   have HLZ:=Lib.hid hlz
   clear hmi hlz
   by_cases hz:mi=0
   ·have hlz:=HLZ.out
    have e0:ynd up (16-i) mi=[]:=by
     rw[hz];cases h:16-i <;> simp[ynd]
    rw[e0,List.append_nil]at hlz
    have HLL:=Lib.hid hlz
    clear hlz e0
    subst hz
    ((repeat (go_wp2_with fail;first | (refine cdY ?_ ?_;focus (simp[ov, *];done)) | (refine cdN ?_ ?_;focus (simp[ov, *];done))));go_wp2_with fail)
    exact got HR ⟨vk,by simp[ov, *],hap.to (by rw[HFR.out,HLL.out];simp),by simp[ov, *],by simp[ov, *]⟩
   ·have hi16:i<16:=by
     by_cases h:i<16
     ·exact h
     ·have:i=16:=by omega
      have hm:=HMI.out
      rw[this]at hm
      omega
    have hsz:=ynw up
    have hdi:bits .and .u64 ((mi:Int) / 1152921504606846976) 15=((mi / 1152921504606846976%16:Nat):Int):=by
     have:=ynp (mi / 1152921504606846976) (by omega)
     simpa using this
    have hdb:mi / 1152921504606846976%16<16:=Nat.mod_lt _ (by omega)
    obtain⟨d,hd⟩:∃ d,mi / 1152921504606846976%16=d:=⟨_,rfl⟩
    rw[hd]at hdi hdb
    have HD:=Lib.hid hd
    clear hd
    have hzi:((mi:Int) != 0)=true:=by simp[hz]
    obtain⟨mn,hmn⟩:∃ mn,mi*16%18446744073709551616=mn:=⟨_,rfl⟩
    have hmni:IntKind.u64.wrap ((mi:Int)*16)=(mn:Int):=by rw[IntKind.wrap_u64,←hmn];simp
    have HMN:=Lib.hid hmn
    clear hmn
    ((repeat (go_wp2_with (first | (at_builtin;refine zch rfl _ _ _ _ rfl (by decide) (by decide) zsw (hap.own.alloc _) (by simp[ov, *]) _ (by simp[ov, *]) [(ymg up)[d]'(by omega)] (zmx Tryz.underlying83 [(ymg up)[d]'(by omega)] _) (by simp only[List.length_append,List.length_cons,List.length_nil,List.length_replicate]at *;omega) ?_;intro v w' ho1 hs1;replace hap:=hap.step ho1 hs1;clear ho1 hs1));first | (refine cdY ?_ ?_;focus (simp[ov, *];done)) | (refine cdN ?_ ?_;focus (simp[ov, *];done))));go_wp2_with (first | (at_builtin;refine zch rfl _ _ _ _ rfl (by decide) (by decide) zsw (hap.own.alloc _) (by simp[ov, *]) _ (by simp[ov, *]) [(ymg up)[d]'(by omega)] (zmx Tryz.underlying83 [(ymg up)[d]'(by omega)] _) (by simp only[List.length_append,List.length_cons,List.length_nil,List.length_replicate]at *;omega) ?_;intro v w' ho1 hs1;replace hap:=hap.step ho1 hs1;clear ho1 hs1)))
    exact wo HRK (16-(i+1)) (by omega) ⟨i+1,mn,v,l++[(ymg up)[d]'(by omega)],by omega,rfl,by rw[←HMN.out,HMI.out,Nat.pow_succ,←Nat.mul_assoc];generalize m2*16^i=z;omega,by simp;omega,by
     rw[←HLZ.out,show 16-i=(16-(i+1))+1 by omega]
     conv=>rhs;unfold ynd
     rw[if_neg hz,ypy,←HD.out,←HMN.out]
     simp,by simp[yc,yd],hap.to (by simp),by simp[ov, *],by simp[ov, *],by simp[ov, *],by simp[ov, *]⟩
  ·have hn:=of_decide_eq_false h
   clear s94
   by_cases hp:0<prec
   ·obtain⟨N,hN⟩:∃ N:Nat,prec=(N:Int):=⟨prec.toNat,by omega⟩
    subst hN
    have hfr:yky up (N:Int) m2=46::ynv up N m2:=by unfold yky;rw[if_neg hn,if_pos hp,Int.toNat_natCast]
    have HFR:=Lib.hid hfr
    have hNp:0<N:=by omega
    clear h hn hfr
    go_wp2_with fail
    refine jq (by simp[ov, *]) (by decide) ?_
    go_wp2_with (at_builtin;refine zch rfl _ _ _ _ rfl (by decide) (by decide) zsw (hap.own.alloc _) (by simp[ov, *]) _ (by simp[ov, *]) [46] (zmx Tryz.underlying83 [46] _) (by simp only[List.length_append,List.length_cons,List.length_nil,List.length_replicate]at *;omega) ?_;intro v w' ho1 hs1;replace hap:=hap.step ho1 hs1;clear ho1 hs1)
    refine xx (fun k s' w'=>∃ (i mi:Nat) (v:Value) (l:List UInt8),i≤N∧k=N-i∧mi<18446744073709551616∧l.length=i∧l++ynv up (N-i) mi=ynv up N m2∧s' 0=v∧Ap T w dst dst [] w' v (out++[46]++l)∧s' 1=.int .i64 (N:Int)∧s' 18=.int .i64 (i:Int)∧s' 2=.int .u8 f∧s' 5=.int .i64 eR∧s' 4=.int .u64 (mi:Int)∧s' 17=.string (ymg up)) N ⟨0,m2,_,[],Nat.zero_le _,rfl,by omega,by simp,rfl,rfl,(hap.to (by simp)).at (by simp[ov, *]),by simp[ov, *],by simp[ov, *],by simp[ov, *],by simp[ov, *],by simp[ov, *],by simp[ov, *]⟩ ?_
    clear s0 s1 s2 s4 s5 s17 σ hap
    rintro k σ wk ⟨i,mi,vk,l,hi,rfl,hmib,hll,hlz,s0,hap,s1,s18,s2,s5,s4,s17⟩ RK KK HRK hKK
    have HLZ:=Lib.hid hlz
    clear hlz
    by_cases hz:i<N
    ·have hsz:=ynw up
     have hdi:bits .and .u64 ((mi:Int) / 1152921504606846976) 15=((mi / 1152921504606846976%16:Nat):Int):=by
      have:=ynp (mi / 1152921504606846976) (by omega)
      simpa using this
     have hdb:mi / 1152921504606846976%16<16:=Nat.mod_lt _ (by omega)
     obtain⟨d,hd⟩:∃ d,mi / 1152921504606846976%16=d:=⟨_,rfl⟩
     rw[hd]at hdi hdb
     have HD:=Lib.hid hd
     clear hd
     obtain⟨mn,hmn⟩:∃ mn,mi*16%18446744073709551616=mn:=⟨_,rfl⟩
     have hmni:IntKind.u64.wrap ((mi:Int)*16)=(mn:Int):=by rw[IntKind.wrap_u64,←hmn];simp
     have hmnb:mn<18446744073709551616:=by rw[←hmn];exact Nat.mod_lt _ (by omega)
     have HMN:=Lib.hid hmn
     clear hmn
     ((repeat (go_wp2_with (first | (at_builtin;refine zch rfl _ _ _ _ rfl (by decide) (by decide) zsw (hap.own.alloc _) (by simp[ov, *]) _ (by simp[ov, *]) [(ymg up)[d]'(by omega)] (zmx Tryz.underlying83 [(ymg up)[d]'(by omega)] _) (by simp only[List.length_append,List.length_cons,List.length_nil,List.length_replicate]at *;omega) ?_;intro v w' ho1 hs1;replace hap:=hap.step ho1 hs1;clear ho1 hs1));first | (refine cdY ?_ ?_;focus (simp[ov, *];done)) | (refine cdN ?_ ?_;focus (simp[ov, *];done))));go_wp2_with (first | (at_builtin;refine zch rfl _ _ _ _ rfl (by decide) (by decide) zsw (hap.own.alloc _) (by simp[ov, *]) _ (by simp[ov, *]) [(ymg up)[d]'(by omega)] (zmx Tryz.underlying83 [(ymg up)[d]'(by omega)] _) (by simp only[List.length_append,List.length_cons,List.length_nil,List.length_replicate]at *;omega) ?_;intro v w' ho1 hs1;replace hap:=hap.step ho1 hs1;clear ho1 hs1)))
     exact wo HRK (N-(i+1)) (by omega) ⟨i+1,mn,v,l++[(ymg up)[d]'(by omega)],by omega,rfl,hmnb,by simp;omega,by
      rw[←HLZ.out,show N-i=(N-(i+1))+1 by omega]
      conv=>rhs;unfold ynv
      rw[ypy,←HD.out,←HMN.out]
      simp,by simp[yc,yd],hap.to (by simp),by simp[ov, *],by simp[ov, *],by simp[ov, *],by simp[ov, *],by simp[ov, *],by simp[ov, *]⟩
    have hiN:i=N:=by omega
    have hif:decide (i<N)=false:=by simpa using hz
    have hlz:=HLZ.out
    rw[hiN,Nat.sub_self,show ynv up 0 mi=[] from rfl,List.append_nil]at hlz
    have HLL:=Lib.hid hlz
    clear hlz
    ((repeat (go_wp2_with fail;first | (refine cdY ?_ ?_;focus (simp[ov, *];done)) | (refine cdN ?_ ?_;focus (simp[ov, *];done))));go_wp2_with fail)
    exact got HR ⟨vk,by simp[ov, *],hap.to (by rw[HFR.out,HLL.out];simp),by simp[ov, *],by simp[ov, *]⟩
   ·have hfr:yky up prec m2=[]:=by unfold yky;rw[if_neg hn,if_neg hp]
    have hpi:decide (0<prec)=false:=by simpa using hp
    clear h hn
    ((repeat (go_wp2_with fail;first | (refine cdY ?_ ?_;focus (simp[ov, *];done)) | (refine cdN ?_ ?_;focus (simp[ov, *];done))));go_wp2_with fail)
    exact got HR ⟨v,by simp[ov, *],hap.to (by rw[hfr];simp),by simp[ov, *],by simp[ov, *]⟩
 clear s0 s1 s2 s4 s5 s17 s94 σ hap
 rintro σ w3 ⟨v3,s0,hap,s2,s5⟩
 have hfl:(yky up prec m2).length≤100020:=by
  unfold yky
  split
  ·have:=yoq up 16 m2;simp;omega
  ·split
   ·simp[yor];omega
   ·simp
 obtain⟨fr,hfr⟩:∃ fr,yky up prec m2=fr:=⟨_,rfl⟩
 rw[hfr]at hap hfl
 have HFR:=Lib.hid hfr
 clear hfr
 go_wp2_with (first | (go_at_call 123;refine (Tryz.internal_strconv_lower _ _).mono ?_;rintro e w' ⟨rfl,rfl⟩))
 refine yr (fun s' w''=>s' 19=.int .u8 (if f=88 then 80 else 112)∧s' 0=v3∧s' 5=.int .i64 eR∧w'=w'') ?_ ?_
 ·intro R2 K2 HR hK2
  rcases HF.out with hf | hf
  ·have hl:bits .or .u8 120 32=(120:Int):=by decide
   subst hf
   ((repeat (go_wp2_with fail;first | (refine cdY ?_ ?_;focus (simp[ov, *];done)) | (refine cdN ?_ ?_;focus (simp[ov, *];done))));go_wp2_with fail)
   exact got HR (by simp[ov, *])
  ·have hl:bits .or .u8 88 32=(120:Int):=by decide
   subst hf
   ((repeat (go_wp2_with fail;first | (refine cdY ?_ ?_;focus (simp[ov, *];done)) | (refine cdN ?_ ?_;focus (simp[ov, *];done))));go_wp2_with fail)
   exact got HR (by simp[ov, *])
 clear s0 s2 s5 σ
 rintro σ w4 ⟨s19,s0,s5,rfl⟩
 obtain⟨pc,hpc⟩:∃ pc:Int,(if f=88 then 80 else 112)=pc:=⟨_,rfl⟩
 have hpcb:0≤pc∧pc<256:=by rw[←hpc];split <;> omega
 rw[hpc]at s19
 have HPC:=Lib.hid hpc
 clear hpc
 go_wp2_with (at_builtin;refine zch rfl _ _ _ _ rfl (by decide) (by decide) zsw (hap.own.alloc _) (by simp[ov, *]) _ (by simp[ov, *]) [UInt8.ofNat (pc).toNat] (ycc Tryz.underlying83 (pc) (by omega) (by omega) _) (by simp only[List.length_append,List.length_cons,List.length_nil,List.length_replicate]at *;omega) ?_;intro v w' ho1 hs1;replace hap:=hap.step ho1 hs1;clear ho1 hs1)
 refine yr (fun s' w''=>s' 19=.int .u8 (if eR<0 then 45 else 43)∧s' 0=v∧s' 5=.int .i64 (eR.natAbs:Int)∧w'=w'') ?_ ?_
 ·intro R2 K2 HR hK2
  by_cases h:eR<0
  ·have ha:-eR=(eR.natAbs:Int):=by omega
   ((repeat (go_wp2_with fail;first | (refine cdY ?_ ?_;focus (simp[ov, *];done)) | (refine cdN ?_ ?_;focus (simp[ov, *];done))));go_wp2_with fail)
   exact got HR (by simp[ov, *])
  ·have h':decide (eR<0)=false:=by simpa using h
   have ha:eR=(eR.natAbs:Int):=by omega
   have HA:=Lib.hid ha
   clear ha
   ((repeat (go_wp2_with fail;first | (refine cdY ?_ ?_;focus (simp[ov, *];done)) | (refine cdN ?_ ?_;focus (simp[ov, *];done))));go_wp2_with fail)
   exact got HR (by simp[ov, *];omega)
 clear s0 s19 s5 σ
 rintro σ w4 ⟨s19,s0,s5,rfl⟩
 obtain⟨sc,hsc⟩:∃ sc:Int,(if eR<0 then 45 else 43)=sc:=⟨_,rfl⟩
 have hscb:0≤sc∧sc<256:=by rw[←hsc];split <;> omega
 rw[hsc]at s19
 have HSC:=Lib.hid hsc
 clear hsc
 obtain⟨a,ha⟩:∃ a:Nat,eR.natAbs=a:=⟨_,rfl⟩
 have hab:a≤2060:=by omega
 rw[ha]at s5
 have HA:=Lib.hid ha
 clear ha
 have hfinal:∀ tl:List UInt8,UInt8.ofNat sc.toNat::tl=yt8 eR→out++fr++[UInt8.ofNat pc.toNat]++[UInt8.ofNat sc.toNat]++tl=xs++xL neg prec f m mb e:=by
  intro tl htl
  unfold xL ymz
  rw[HE0.out,HM1.out,HNORM.out]
  dsimp only
  rw[HMR.out,HER.out,←htl,HUP.out,HSG.out]
  rw[show mR*16%2^64=m2 from HM2.out,HFR.out,show mR / 2^60%2=ld from HLD.out,←HOUT.out]
  have:UInt8.ofNat pc.toNat=if f=88 then 80 else 112:=by rw[←HPC.out];split <;> rfl
  rw[this]
  have h2:(48+(ld:Int)).toNat=48+ld:=by omega
  rw[h2]
  simp
 have hexp:∀ tl:List UInt8,(if a<100 then [UInt8.ofNat (48+a / 10),UInt8.ofNat (48+a%10)]
  else if a<1000 then [UInt8.ofNat (48+a / 100),UInt8.ofNat (48+a / 10%10),UInt8.ofNat (48+a%10)]
  else [UInt8.ofNat (48+a / 1000),UInt8.ofNat (48+a / 100%10),UInt8.ofNat (48+a / 10%10),UInt8.ofNat (48+a%10)])=tl→UInt8.ofNat sc.toNat::tl=yt8 eR:=by
  intro tl htl
  unfold yt8
  rw[HA.out,htl,←HSC.out]
  split <;> rfl
 have HFINAL:=Lib.hid hfinal
 have HEXP:=Lib.hid hexp
 clear hfinal hexp
 by_cases h100:a<100
 ·have h100i:(a:Int)<100:=by omega
  ((repeat (go_wp2_with (first | (at_builtin;refine zch rfl _ _ _ _ rfl (by decide) (by decide) zsw (hap.own.alloc _) (by simp[ov, *]) _ (by simp[ov, *]) [UInt8.ofNat (sc).toNat] (ycc Tryz.underlying83 (sc) (by omega) (by omega) _) (by simp only[List.length_append,List.length_cons,List.length_nil,List.length_replicate]at *;omega) ?_;intro v w' ho1 hs1;replace hap:=hap.step ho1 hs1;clear ho1 hs1) | (at_builtin;refine zch rfl _ _ _ _ rfl (by decide) (by decide) zsw (hap.own.alloc _) (by simp[ov, *]) _ (by simp[ov, *]) [UInt8.ofNat ((a:Int) / 10+48).toNat,UInt8.ofNat ((a:Int)%10+48).toNat] (ykd Tryz.underlying83 ((a:Int) / 10+48) ((a:Int)%10+48) (by omega) (by omega) (by omega) (by omega) _) (by simp only[List.length_append,List.length_cons,List.length_nil,List.length_replicate]at *;omega) ?_;intro v w' ho1 hs1;replace hap:=hap.step ho1 hs1;clear ho1 hs1));first | (refine cdY ?_ ?_;focus (simp[ov, *];done)) | (refine cdN ?_ ?_;focus (simp[ov, *];done))));go_wp2_with (first | (at_builtin;refine zch rfl _ _ _ _ rfl (by decide) (by decide) zsw (hap.own.alloc _) (by simp[ov, *]) _ (by simp[ov, *]) [UInt8.ofNat (sc).toNat] (ycc Tryz.underlying83 (sc) (by omega) (by omega) _) (by simp only[List.length_append,List.length_cons,List.length_nil,List.length_replicate]at *;omega) ?_;intro v w' ho1 hs1;replace hap:=hap.step ho1 hs1;clear ho1 hs1) | (at_builtin;refine zch rfl _ _ _ _ rfl (by decide) (by decide) zsw (hap.own.alloc _) (by simp[ov, *]) _ (by simp[ov, *]) [UInt8.ofNat ((a:Int) / 10+48).toNat,UInt8.ofNat ((a:Int)%10+48).toNat] (ykd Tryz.underlying83 ((a:Int) / 10+48) ((a:Int)%10+48) (by omega) (by omega) (by omega) (by omega) _) (by simp only[List.length_append,List.length_cons,List.length_nil,List.length_replicate]at *;omega) ?_;intro v w' ho1 hs1;replace hap:=hap.step ho1 hs1;clear ho1 hs1)))
  refine yl v rfl (by decide) (by simp[yc]) ⟨v,rfl,?_,hap.stp⟩
  refine cast (congrArg (OwnB T w' v) (HFINAL.out _ (HEXP.out _ ?_))) hap.own
  rw[if_pos h100,show ((a:Int) / 10+48).toNat=48+a / 10 by omega,show ((a:Int)%10+48).toNat=48+a%10 by omega]
 ·have h100':decide ((a:Int)<100)=false:=by simp;omega
  by_cases h1000:a<1000
  ·have h1000i:(a:Int)<1000:=by omega
   ((repeat (go_wp2_with (first | (at_builtin;refine zch rfl _ _ _ _ rfl (by decide) (by decide) zsw (hap.own.alloc _) (by simp[ov, *]) _ (by simp[ov, *]) [UInt8.ofNat (sc).toNat] (ycc Tryz.underlying83 (sc) (by omega) (by omega) _) (by simp only[List.length_append,List.length_cons,List.length_nil,List.length_replicate]at *;omega) ?_;intro v w' ho1 hs1;replace hap:=hap.step ho1 hs1;clear ho1 hs1) | (at_builtin;refine zch rfl _ _ _ _ rfl (by decide) (by decide) zsw (hap.own.alloc _) (by simp[ov, *]) _ (by simp[ov, *]) [UInt8.ofNat ((a:Int) / 100+48).toNat,UInt8.ofNat ((a:Int) / 10%10+48).toNat,UInt8.ofNat ((a:Int)%10+48).toNat] (yki Tryz.underlying83 ((a:Int) / 100+48) ((a:Int) / 10%10+48) ((a:Int)%10+48) (by omega) (by omega) (by omega) (by omega) (by omega) (by omega) _) (by simp only[List.length_append,List.length_cons,List.length_nil,List.length_replicate]at *;omega) ?_;intro v w' ho1 hs1;replace hap:=hap.step ho1 hs1;clear ho1 hs1));first | (refine cdY ?_ ?_;focus (simp[ov, *];done)) | (refine cdN ?_ ?_;focus (simp[ov, *];done))));go_wp2_with (first | (at_builtin;refine zch rfl _ _ _ _ rfl (by decide) (by decide) zsw (hap.own.alloc _) (by simp[ov, *]) _ (by simp[ov, *]) [UInt8.ofNat (sc).toNat] (ycc Tryz.underlying83 (sc) (by omega) (by omega) _) (by simp only[List.length_append,List.length_cons,List.length_nil,List.length_replicate]at *;omega) ?_;intro v w' ho1 hs1;replace hap:=hap.step ho1 hs1;clear ho1 hs1) | (at_builtin;refine zch rfl _ _ _ _ rfl (by decide) (by decide) zsw (hap.own.alloc _) (by simp[ov, *]) _ (by simp[ov, *]) [UInt8.ofNat ((a:Int) / 100+48).toNat,UInt8.ofNat ((a:Int) / 10%10+48).toNat,UInt8.ofNat ((a:Int)%10+48).toNat] (yki Tryz.underlying83 ((a:Int) / 100+48) ((a:Int) / 10%10+48) ((a:Int)%10+48) (by omega) (by omega) (by omega) (by omega) (by omega) (by omega) _) (by simp only[List.length_append,List.length_cons,List.length_nil,List.length_replicate]at *;omega) ?_;intro v w' ho1 hs1;replace hap:=hap.step ho1 hs1;clear ho1 hs1)))
   refine yl v rfl (by decide) (by simp[yc]) ⟨v,rfl,?_,hap.stp⟩
   refine cast (congrArg (OwnB T w' v) (HFINAL.out _ (HEXP.out _ ?_))) hap.own
   rw[if_neg h100,if_pos h1000,show ((a:Int) / 100+48).toNat=48+a / 100 by omega,show ((a:Int) / 10%10+48).toNat=48+a / 10%10 by omega,show ((a:Int)%10+48).toNat=48+a%10 by omega]
  ·have h1000':decide ((a:Int)<1000)=false:=by simp;omega
   ((repeat (go_wp2_with (first | (at_builtin;refine zch rfl _ _ _ _ rfl (by decide) (by decide) zsw (hap.own.alloc _) (by simp[ov, *]) _ (by simp[ov, *]) [UInt8.ofNat (sc).toNat] (ycc Tryz.underlying83 (sc) (by omega) (by omega) _) (by simp only[List.length_append,List.length_cons,List.length_nil,List.length_replicate]at *;omega) ?_;intro v w' ho1 hs1;replace hap:=hap.step ho1 hs1;clear ho1 hs1) | (at_builtin;refine zch rfl _ _ _ _ rfl (by decide) (by decide) zsw (hap.own.alloc _) (by simp[ov, *]) _ (by simp[ov, *]) [UInt8.ofNat ((a:Int) / 1000+48).toNat,UInt8.ofNat ((a:Int) / 100%10+48).toNat,UInt8.ofNat ((a:Int) / 10%10+48).toNat,UInt8.ofNat ((a:Int)%10+48).toNat] (yl4 Tryz.underlying83 ((a:Int) / 1000+48) ((a:Int) / 100%10+48) ((a:Int) / 10%10+48) ((a:Int)%10+48) (by omega) (by omega) (by omega) (by omega) (by omega) (by omega) (by omega) (by omega) _) (by simp only[List.length_append,List.length_cons,List.length_nil,List.length_replicate]at *;omega) ?_;intro v w' ho1 hs1;replace hap:=hap.step ho1 hs1;clear ho1 hs1));first | (refine cdY ?_ ?_;focus (simp[ov, *];done)) | (refine cdN ?_ ?_;focus (simp[ov, *];done))));go_wp2_with (first | (at_builtin;refine zch rfl _ _ _ _ rfl (by decide) (by decide) zsw (hap.own.alloc _) (by simp[ov, *]) _ (by simp[ov, *]) [UInt8.ofNat (sc).toNat] (ycc Tryz.underlying83 (sc) (by omega) (by omega) _) (by simp only[List.length_append,List.length_cons,List.length_nil,List.length_replicate]at *;omega) ?_;intro v w' ho1 hs1;replace hap:=hap.step ho1 hs1;clear ho1 hs1) | (at_builtin;refine zch rfl _ _ _ _ rfl (by decide) (by decide) zsw (hap.own.alloc _) (by simp[ov, *]) _ (by simp[ov, *]) [UInt8.ofNat ((a:Int) / 1000+48).toNat,UInt8.ofNat ((a:Int) / 100%10+48).toNat,UInt8.ofNat ((a:Int) / 10%10+48).toNat,UInt8.ofNat ((a:Int)%10+48).toNat] (yl4 Tryz.underlying83 ((a:Int) / 1000+48) ((a:Int) / 100%10+48) ((a:Int) / 10%10+48) ((a:Int)%10+48) (by omega) (by omega) (by omega) (by omega) (by omega) (by omega) (by omega) (by omega) _) (by simp only[List.length_append,List.length_cons,List.length_nil,List.length_replicate]at *;omega) ?_;intro v w' ho1 hs1;replace hap:=hap.step ho1 hs1;clear ho1 hs1)))
   refine yl v rfl (by decide) (by simp[yc]) ⟨v,rfl,?_,hap.stp⟩
   refine cast (congrArg (OwnB T w' v) (HFINAL.out _ (HEXP.out _ ?_))) hap.own
   rw[if_neg h100,if_neg h1000,show ((a:Int) / 1000+48).toNat=48+a / 1000 by omega,show ((a:Int) / 100%10+48).toNat=48+a / 100%10 by omega,show ((a:Int) / 10%10+48).toNat=48+a / 10%10 by omega,show ((a:Int)%10+48).toNat=48+a%10 by omega]
theorem zg8 (N s:Nat):N%10^(s+1)=N / 10^s%10*10^s+N%10^s:=by
 rw[Nat.pow_succ,Nat.mod_mul,Nat.mul_comm (10^s),Nat.add_comm]
theorem zn2 (M q:Nat):decide (M%10^(q+1)≠0)=(decide (M%10^q≠0) || decide (M / 10^q%10≠0)):=by
 have e:=zg8 M q;have p:0<10^q:=Nat.pow_pos zd;by_cases h1:M%10^q=0
 ·by_cases h2:M / 10^q%10=0
  ·rw[h1,h2]at e;simp[e,h1,h2]
  ·have:0<M / 10^q%10*10^q:=Nat.mul_pos zd p;simp only[h1,h2,ne_eq,not_true_eq_false,decide_false,Bool.false_or,not_false_eq_true,decide_true,decide_eq_true_eq];omega
 ·simp only[h1,ne_eq,not_false_eq_true,decide_true,Bool.true_or,decide_eq_true_eq];omega
theorem zam (M:Nat):decide (M%10^0≠0)=false:=by simp[Nat.mod_one]
theorem zst (M Z j:Nat):Lib.dg (M / 10^Z) j=Lib.dg M (j+Z):=by
 unfold Lib.dg;rw[Nat.div_div_eq_div_mul,<-Nat.pow_add,Nat.add_comm Z]
set_option maxRecDepth 100000 in
theorem zd1 (T g N k:Nat) (bs:List UInt8) (dp:Int) (ng tr:Bool) (w:World) (he:Env T w) (hgT:T<=g) (hd:Dec w g bs (yi N:Nat) dp ng tr) (hbs:bs.take (yi N)=digs N (yi N))
  (hN:N≠0) (hk1:1<=k) (hk2:k<=60) (hM:yi N<=800) (hp1:-4000<=dp) (hp2:dp<=4000):
  Calls Tryz.prog 137 #[.pointer (some ⟨g,0,none⟩),.int .u64 (k:Int)] w fun r w'=>
   r=.returned (.tuple #[])/\∃ (bs':List UInt8) (n:Nat),n=min (yi (N*2^k)) 800/\bs'.take n=digs (N*2^k / 10^(yi (N*2^k)-800)) n/\
    Dec w' g bs' (uc bs' n:Nat) (zbi (uc bs' n) (dp+yi (N*2^k)-yi N)) ng (tr || decide (N*2^k%10^(yi (N*2^k)-800)≠0))/\yi N<=yi (N*2^k)/\yi (N*2^k)<=yi N+19/\Gr w w' g:=by
 have hch:=zho N k hN hk1 hk2;have hrow:=zhm k hk1 hk2;have hpos:=hrow.pos;have h19:=hrow.le19;obtain⟨cb,co,cc,hcbT,hcc,c0,hcells⟩:=he.cheats;have c1:=(hcells k zd).1;have c2:=(hcells k zd).2;have hsl:(chS k).length<=100:=by rw[hrow.str,va];omega
 have hlt:=hd.lt;have d1:=hd.cnd;have hTs:=he.size;have hg8:=he.glob;have hpre:=fun n:Nat=>zle g (yi N) bs (chS k) dp ng tr (yi N:Nat) (w.drewN n) (hd.drewN n) zd hsl
 rw[hbs]at hpre;have HPRE:=zH hpre;obtain⟨L,hL⟩:=zX (yi N);obtain⟨pb,hpb⟩:=zX (jt (digs N L) (chS k));rw[hL]at hM d1 hd HPRE hch hbs;rw[hpb]at hch;have hLp:1<=L:=by rw[<-hL];exact yfr hN
 have HD:=zH hd;have HBS:=zH hbs;have HCH:=zH hch;have HPB:=zH hpb;have HL:=zH hL;have hci:(k:Int)<61:=zd;clear hpre hcells hrow hd hbs hch hpb hL he;refine ye Tryz.func137 rfl (by rw[Tryz.ntmps137];simp) ?_;intro σ hσ;rw[Tryz.ntmps137];have s0:σ 0=.pointer (some ⟨g,0,none⟩):=hσ 0 zi;have s1:σ 1=.int .u64 (k:Int):=hσ 1 zi;clear hσ;have hslice:=fun W=>zqi g L W zd
 have hLi:(L:Int)<=800:=zd;go_wp2_with fail;go_quiet ((go_at_call 154;exact Calls.quiet_of (HPRE.out _)));go_wp2_with fail;obtain⟨D,hD⟩:=zX ((if pb=true then chN k-1 else chN k));have hnM:yi (N*2^k)=L+D:=by have:=HCH.out;rw[<-hD];split at this <;> simp_all <;> omega
 have hDb:D<=chN k:=by rw[<-hD];split <;> omega
 have HNM:=zH hnM;have HDD:=zH hD;clear hnM hD;refine yr (fun s' w'=>s' 4=.int .i64 (D:Int)/\s' 0=.pointer (some ⟨g,0,none⟩)/\s' 1=.int .u64 (k:Int)/\Dec w' g bs L dp ng tr/\Gr w w' g) ?_ ?_
 ·intro R2 K2 HR hK2;refine zb0 pb (by simp[yc,yd,HPB.out]) ze (fun h=>?_) (fun h=>?_)
  ·have hDi:((chN k:Nat):Int)-1=(D:Int):=by have:=HDD.out;rw[if_pos h]at this;omega
   go_wp2_with fail;exact got HR ⟨zb,zb,zb,HD.out.drewN _,(Gr.refl w g).drewN _⟩
  ·have hDi:(chN k:Int)=(D:Int):=by have:=HDD.out;rw[h]at this;simp at this;omega
   go_wp2_with fail;exact got HR ⟨zb,zb,zb,HD.out.drewN _,(Gr.refl w g).drewN _⟩
 clear s0 s1 σ HD hslice c0 c1 c2 d1 hlt hTs;rintro σ w1 ⟨s4,s0,s1,hd,hg⟩;have hlt:=hd.lt;have d1:=hd.cnd;have HD:=zH hd;have HG:=zH hg;clear hd hg;go_wp2_with fail;obtain⟨Z,hZ⟩:=zX (L+D-800);have HZ:=zH hZ;obtain⟨M,hMd⟩:=zX (N*2^k);have HMD:=zH hMd;clear hZ hMd;refine xx (fun kk s' w'=>∃ (r c:Nat) (bs':List UInt8) (tq:Bool),r<=L/\kk=r/\c=ziq N k (L-r)/\s' 5=.int .i64 ((r:Int)-1)/\s' 6=.int .i64 ((r:Int)+D)/\s' 7=.int .u64 (c:Int)/\s' 4=.int .i64 (D:Int)/\s' 0=.pointer (some ⟨g,0,none⟩)/\s' 1=.int .u64 (k:Int)/\Dec w' g bs' L dp ng tq/\Gr w w' g/\(∀ i,i<r->bs'.getD i 0=Lib.dg N (L-1-i))/\(∀ j,Z<=j->j<L-r->bs'.getD (L+D-1-j) 0=Lib.dg M j)/\tq=(tr || decide (M%10^(min (L-r) Z)≠0))) L
  ⟨L,0,bs,tr,Nat.le_refl _,rfl,by rw[Nat.sub_self,zn8],zb,zb,zb,zb,zb,zb,HD.out,HG.out,fun i hi=>uq bs N L HBS.out i hi,fun j _ hj=>absurd hj zd,by rw[Nat.sub_self,Nat.zero_min,zam,Bool.or_false]⟩ ?_
 clear s0 s1 s4 σ HD HG hlt d1;rintro r σ wk ⟨_,c,bs',tq,hr,rfl,hc,s5,s6,s7,s4,s0,s1,hd,hg,hun,hwr,htq⟩ RK KK HRK hKK;have HC:=zH hc;have HUN:=zH hun;have HWR:=zH hwr;have HTQ:=zH htq;have HD:=zH hd;have HG:=zH hg;have hlt:=hd.lt;have fz:=hd.frozen;have hcb:c<2^k:=by rw[hc];exact zuh _ _ _
 have hk60:2^k<=2^60:=Nat.pow_le_pow_right zd hk2;clear hc hun hwr hd hg htq;cases r with
 | zero=>
  rw[show ((0:Nat):Int)-1=-1 by omega]at s5;rw[show ((0:Nat):Int)+(D:Int)=(D:Int) by omega]at s6;have hfull:=zoa N k L (by have:=xi N;rw[HL.out]at this;exact this);have hc0:c=M / 10^L:=by rw[<-HMD.out,<-hfull];exact HC.out
  have hMlt:M<10^(L+D):=by have:=xi (N*2^k);rw[HNM.out,HMD.out]at this;exact this
  have HC0:=zH hc0;have HML:=zH hMlt;have hwr:∀ j,Z<=j->j<L->bs'.getD (L+D-1-j) 0=Lib.dg M j:=HWR.out;have HWR2:=zH hwr;have hZL:min (L-0) Z=Z:=by have:=HZ.out;omega
  have htz:tq=(tr || decide (M%10^Z≠0)):=by have:=HTQ.out;rw[hZL]at this;exact this
  have HTZ:=zH htz;have hZD:Z<=D:=by have:=HZ.out;omega
  clear hfull hc0 hMlt hwr htz hZL HC HWR HUN HTQ;(go_wp2_with fail;repeat ((first|refine cZ ?_|refine cW ?_);go_wp2_with fail));refine xx (fun kk s' w'=>∃ (t c:Nat) (bs':List UInt8),t<=D/\kk=c/\c=M / 10^(L+t)/\c<2^60/\s' 6=.int .i64 ((D:Int)-t)/\s' 7=.int .u64 (c:Int)/\s' 4=.int .i64 (D:Int)/\s' 0=.pointer (some ⟨g,0,none⟩)/\Dec w' g bs' L dp ng tq/\Gr w w' g/\(∀ j,Z<=j->j<L+t->bs'.getD (L+D-1-j) 0=Lib.dg M j)) c
   ⟨0,c,bs',Nat.zero_le _,rfl,HC0.out,zd,zb,zb,zb,zb,HD.out,HG.out,HWR2.out⟩ ?_
  clear s0 s1 s4 s5 s6 s7 σ HD HG HWR2 HC0 hlt fz hcb;rintro c' σ wl ⟨t,_,bs2,ht,rfl,hc,hcb,s6,s7,s4,s0,hd,hg,hwr⟩ RL KL HRL hKL;have HC:=zH hc;have HWR:=zH hwr;have HD:=zH hd;have HG:=zH hg;have hlt:=hd.lt;have fz:=hd.frozen;clear hc hwr hd hg;by_cases hz:c'=0
  ·have htD:t=D:=by
    have h1:M<10^(L+t):=by
     have:=HC.out;rw[hz]at this;have p:0<10^(L+t):=Nat.pow_pos zd;rcases Nat.lt_or_ge M (10^(L+t)) with h | h
     ·exact h
     ·have:=Nat.div_pos h p;omega
    have hM0:M≠0:=by
     rw[<-HMD.out];exact Nat.mul_ne_zero hN (Nat.ne_of_gt (Nat.pow_pos zd))
    have h2:=qh hM0;rw[<-HMD.out,HNM.out,HMD.out]at h2;have h3:10^(L+D-1)<10^(L+t):=Nat.lt_of_le_of_lt h2 h1;have h4:=(Nat.pow_lt_pow_iff_right (by omega:1<10)).1 h3;omega
   subst hz;obtain⟨n8,hn8⟩:=zX (min (L+D) 800);have htk:bs2.take n8=digs (M / 10^Z) n8:=zgk bs2 (M / 10^Z) n8 (by rw[HD.out.len];omega) (fun j hj=>by
    rw[zst,<-HWR.out (j+Z) zd (by have:=HZ.out;omega)];congr 1;have:=HZ.out;omega)
   have HTK:=zH htk;have HN8:=zH hn8;have d1:=HD.out.cnd;have d2:=HD.out.cdp;have htrim:=fun (n:Nat) (W:World) (dp':Int) (hdd:Dec W g bs2 n dp' ng tq) (hn:n<=800)=>zji g n bs2 dp' ng tq W hdd hn
   have HTR:=zH htrim;clear htk htrim HC hn8;go_wp2_with fail;refine kj zb ze ?_;go_wp2_with fail;have hd2:Dec (wl.setCell ⟨g,800,none⟩ (.int .i64 ((L:Int)+D))) g bs2 ((L+D:Nat):Int) dp ng tq:=by
    have:=HD.out.setNd ((L:Int)+D);rw[show ((L+D:Nat):Int)=(L:Int)+D by omega];exact this
   have hg2:=HG.out.set 800 (.int .i64 ((L:Int)+D));have HD2:=zH hd2;have HG2:=zH hg2;generalize wl.setCell ⟨g,800,none⟩ (.int .i64 ((L:Int)+D))=w5 at *
   have hlt5:=hd2.lt;have fz5:=hd2.frozen;have e1:=hd2.cnd;clear hd2 hg2 HD HG hlt fz d1 d2;refine yr (fun s' w'=>s' 0=.pointer (some ⟨g,0,none⟩)/\s' 4=.int .i64 (D:Int)/\Dec w' g bs2 ((n8:Nat):Int) dp ng tq/\Gr w w' g) ?_ ?_
   ·intro R2 K2 HR hK2;by_cases h8:800<=L+D
    ·have h8i:(800:Int)<=(L:Int)+D:=zd;refine jq zb ze ?_;go_wp2_with fail;refine got HR ⟨zb,zb,?_,HG2.out.set _ _⟩;have:=HD2.out.setNd 800;rw[show ((n8:Nat):Int)=800 by have:=HN8.out;omega];exact this
    ·have h8i:decide ((800:Int)<=(L:Int)+D)=false:=zh;refine kj zb ze ?_;go_wp2_with fail;refine got HR ⟨zb,zb,?_,HG2.out⟩;have:=HD2.out;rw[show L+D=n8 by have:=HN8.out;omega]at this;exact this
   clear s0 s4 s6 s7 σ HD2 HG2 hlt5 fz5 e1;rintro σ w6 ⟨s0,s4,hd,hg⟩;have hlt:=hd.lt;have fz:=hd.frozen;have d2:=hd.cdp;have hd3:=fun x=>hd.setDp x
   have HD3:=zH hd3;have HG3:=zH hg;have hn800:n8<=800:=by have:=HN8.out;omega
   clear hd hg hd3;go_wp2_with fail;refine (HTR.out n8 _ _ (HD3.out _) hn800).mono ?_;rintro e w7 ⟨rfl,hd7,hg7⟩;go_wp2_with fail;have hZ':L+D-800=Z:=HZ.out;refine zi2 rfl ⟨rfl,bs2,n8,?_,?_,?_,?_,?_,?_⟩
   ·rw[HNM.out];exact HN8.out.symm
   ·rw[HNM.out,HMD.out,hZ'];exact HTK.out
   ·rw[HNM.out,HMD.out,hZ',HL.out,<-HTZ.out];rw[show dp+((L+D:Nat):Int)-(L:Int)=dp+(D:Int) by omega];exact hd7
   ·rw[HNM.out,HL.out];omega
   ·rw[HNM.out,HL.out];omega
   ·exact (HG3.out.set _ _).trans hg7
  ·have htD:t<D:=by
    have hc:=HC.out;have h1:10^(L+t)<=M:=by
     rcases Nat.lt_or_ge M (10^(L+t)) with h | h
     ·rw[Nat.div_eq_of_lt h]at hc;omega
     ·exact h
    have h3:10^(L+t)<10^(L+D):=Nat.lt_of_le_of_lt h1 HML.out;have h4:=(Nat.pow_lt_pow_iff_right (by omega:1<10)).1 h3;omega
   obtain⟨W,hW⟩:=zX (D-t-1);have hWb:W<800:=zd;have hWi:(W:Int)<800:=zd;rw[show (D:Int)-(t:Int)=(W:Int)+1 by omega]at s6;have hdW:∃ v,wl.cell? ⟨g,W,none⟩=some v:=⟨_,HD.out.digit W hWb⟩;obtain⟨vW,hvW⟩:=hdW;have hzi:0<c':=zd;have hnn:IntKind.u64.wrap (c':Int)=(c':Int):=zl;have HW:=zH hW;clear hW;(go_wp2_with fail;repeat ((first|refine cZ ?_|refine cW ?_);go_wp2_with fail));have hlen:bs2.length=800:=HD.out.len;have hc:=HC.out;refine wo HRL (c' / 10) zd ⟨t+1,c' / 10,bs2.set W (UInt8.ofNat ((c':Int)-10*((c':Int) / 10)+48).toNat),zd,rfl,?_,zd,?_,zj,zb,zb,HD.out.setDigit W hWb _ zd zd,HG.out.set _ _,?_⟩
   ·rw[hc,Nat.div_div_eq_div_mul,<-Nat.pow_succ];rfl
   ·have:(D:Int)-((t+1:Nat):Int)=(W:Int):=by have:=HW.out;omega
    rw[this];simp[yc,yd]
   ·intro j hjZ hj;rw[jn _ _ _ _ zd];by_cases hjq:j=L+t
    ·rw[hjq,if_pos (by have:=HW.out;omega),show ((c':Int)-10*((c':Int) / 10)+48).toNat=48+c'%10 by omega];exact zut _ _ _ (by rw[<-hc])
    ·rw[if_neg (by have:=HW.out;omega)];exact HWR.out j hjZ zd
 | succ r=>
  obtain⟨q,hq⟩:=zX (L-(r+1));obtain⟨x,hx⟩:=zX (N / 10^q%10);have hx9:x<=9:=by rw[<-hx];have:N / 10^q%10<10:=Nat.mod_lt _ zd;omega
  have d1:=HD.out.digit r zd;rw[HUN.out r zd,show L-1-r=q by omega,vh,hx,show ((48+x:Nat):Int)=48+(x:Int) by omega]at d1;obtain⟨y,hy⟩:=zX (x*2^k);have hyb:y<=9*2^60:=by rw[<-hy];exact Nat.mul_le_mul hx9 hk60
  have hyi:IntKind.u64.wrap ((x:Int)*2^k)=(y:Int):=by
   have:(x:Int)*2^k=(y:Int):=by rw[<-hy];simp
   rw[this,IntKind.wrap_u64];omega
  obtain⟨n,hn⟩:=zX (c+y);have hnb:n<18446744073709551616:=zd;have hni:(c:Int)+(y:Int)=(n:Int):=zd;obtain⟨W,hW⟩:=zX (r+D);rw[show ((r+1:Nat):Int)-1=(r:Int) by omega]at s5;rw[show ((r+1:Nat):Int)+(D:Int)=(W:Int)+1 by omega]at s6;have hri:(r:Int)<800:=zd;have hWL:W<=1000:=zd;have HX:=zH hx;have HY:=zH hy;have HQ:=zH hq;have HN:=zH hn;have HW:=zH hW;clear hx hy hq hn hW;have h48:(48:Int)+(x:Int)-48=(x:Int):=zd;have hnn:IntKind.u64.wrap (n:Int)=(n:Int):=zl;have hcq:c=ziq N k q:=by have:=HC.out;rw[HQ.out]at this;exact this
  have hnq:ziq N k q+N / 10^q%10*2^k=n:=by rw[HX.out,HY.out,<-hcq,HN.out]
  have hLr:L-r=q+1:=by have:=HQ.out;omega
  have hWq:L+D-1-q=W:=by have:=HQ.out;have:=HW.out;omega
  have hdig:M / 10^q%10=n%10:=by rw[<-HMD.out,zls,hnq]
  have hcs:n / 10=ziq N k (q+1):=by rw[zn9,hnq]
  have htq2:(W<800->tq=(tr || decide (M%10^(min (q+1) Z)≠0)))/\(800<=W->(tr || decide (M%10^(min (q+1) Z)≠0))=(tq || decide (n%10≠0))):=by
   have h1:=HTQ.out;have h2:=HQ.out;have h3:=HW.out;have h4:=HZ.out;rw[h2]at h1;constructor
   ·intro h5;rw[h1,show min q Z=min (q+1) Z by omega]
   ·intro h5;rw[h1,show min (q+1) Z=q+1 by omega,show min q Z=q by omega,zn2,hdig,Bool.or_assoc]
  have HT2:=zH htq2;have HHC:=zH hcs;have HDG:=zH hdig;have HLR:=zH hLr;have HWQ:=zH hWq;clear hcq hnq hLr hWq hdig hcs htq2 HTQ;by_cases hWb:W<800
  ·have hWi:(W:Int)<800:=zd;have hdW:∃ v,wk.cell? ⟨g,W,none⟩=some v:=⟨_,HD.out.digit W hWb⟩;obtain⟨vW,hvW⟩:=hdW;(go_wp2_with fail;repeat ((first|refine cZ ?_|refine cW ?_);go_wp2_with fail));have hlen:bs'.length=800:=HD.out.len;have hLr:=HLR.out;refine wo HRK r zd ⟨r,n / 10,bs'.set W (UInt8.ofNat ((n:Int)-10*((n:Int) / 10)+48).toNat),tq,zd,rfl,by rw[hLr];exact HHC.out,zb,?_,zj,zb,zb,zb,HD.out.setDigit W hWb _ zd zd,HG.out.set _ _,?_,?_,by rw[hLr];exact HT2.out.1 hWb⟩
   ·have:(r:Int)+(D:Int)=(W:Int):=by have:=HW.out;omega
    rw[this];simp[yc,yd]
   ·intro i hi;rw[jn _ _ _ _ zd,if_neg (by have:=HW.out;omega)];exact HUN.out i zd
   ·intro j hjZ hj;rw[hLr]at hj;rw[jn _ _ _ _ zd];by_cases hjq:j=q
    ·rw[hjq,if_pos HWQ.out.symm,show ((n:Int)-10*((n:Int) / 10)+48).toNat=48+n%10 by omega];exact zut _ _ _ HDG.out
    ·rw[if_neg (by have:=HQ.out;have:=HW.out;omega)];exact HWR.out j hjZ (by rw[HQ.out];omega)
  ·have hWi:decide ((W:Int)<800)=false:=zh;have hWi2:decide (W<800)=false:=zh;by_cases hr0:n%10=0
   ·have hr1:((n:Int)-10*((n:Int) / 10)==0)=true:=zo;have hr2:((n:Int)-10*((n:Int) / 10) != 0)=false:=by rw[bne,hr1];rfl
    (go_wp2_with fail;repeat ((first|refine cZ ?_|refine cW ?_);go_wp2_with fail));have hLr:=HLR.out;refine wo HRK r zd ⟨r,n / 10,bs',tq,zd,rfl,by rw[hLr];exact HHC.out,zb,?_,zj,zb,zb,zb,HD.out,HG.out,?_,?_,?_⟩
    ·have:(r:Int)+(D:Int)=(W:Int):=by have:=HW.out;omega
     rw[this];simp[yc,yd]
    ·intro i hi;exact HUN.out i zd
    ·intro j hjZ hj;rw[hLr]at hj;exact HWR.out j hjZ (by have:=HQ.out;have:=HW.out;have:=HZ.out;omega)
    ·rw[hLr,HT2.out.2 zd,hr0];simp
   ·have hr1:((n:Int)-10*((n:Int) / 10)==0)=false:=zf;have hr2:((n:Int)-10*((n:Int) / 10) != 0)=true:=by rw[bne,hr1];rfl
    have d3:=HD.out.ctr;(go_wp2_with fail;repeat ((first|refine cZ ?_|refine cW ?_);go_wp2_with fail));have hLr:=HLR.out;refine wo HRK r zd ⟨r,n / 10,bs',true,zd,rfl,by rw[hLr];exact HHC.out,zb,?_,zj,zb,zb,zb,HD.out.setTr true,HG.out.set _ _,?_,?_,?_⟩
    ·have:(r:Int)+(D:Int)=(W:Int):=by have:=HW.out;omega
     rw[this];simp[yc,yd]
    ·intro i hi;exact HUN.out i zd
    ·intro j hjZ hj;rw[hLr]at hj;exact HWR.out j hjZ (by have:=HQ.out;have:=HW.out;have:=HZ.out;omega)
    ·rw[hLr,HT2.out.2 zd];simp[hr0]
end Go.Proofs.YtnifedmhgncioaaGreatDoor
