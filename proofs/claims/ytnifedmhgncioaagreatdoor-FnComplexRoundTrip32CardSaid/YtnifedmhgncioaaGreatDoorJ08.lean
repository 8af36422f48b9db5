/- Lemmas that the claim's top text leans on. No condition of their own. -/
import Derived.Test.YtnifedmhgncioaaGreatDoorJ07
namespace Go.Proofs.YtnifedmhgncioaaGreatDoor
open Go.RowKit
set_option linter.unusedSimpArgs false
set_option linter.unusedVariables false
set_option maxHeartbeats 16000000
theorem yqe (a k:Nat):a&&&2^k=a / 2^k%2*2^k:=by
 apply Nat.eq_of_testBit_eq;intro i;rw[Nat.testBit_and,Nat.testBit_two_pow];have h:=Nat.testBit_eq_decide_div_mod_eq (x:=a) (i:=k);rcases Nat.mod_two_eq_zero_or_one (a / 2^k) with h2 | h2
 ·rw[h2]at h ⊢;by_cases e:k=i
  ·subst e;rw[h];simp
  ·simp[e]
 ·rw[h2]at h ⊢;by_cases e:k=i
  ·subst e;rw[h];simp
  ·simp[e]
theorem yl3 (a:Nat) (ha:a<18446744073709551616):bits .and .u64 (a:Int) 1152921504606846976=((a / 1152921504606846976%2*1152921504606846976:Nat):Int):=by
 have h:=u64_and_nat a 1152921504606846976 ha zd;rw[show (1152921504606846976:Nat)=2^60 by decide,yqe]at h;exact h
theorem yrv (a:Nat) (ha:a<18446744073709551616):bits .and .u64 (a:Int) 2305843009213693952=((a / 2305843009213693952%2*2305843009213693952:Nat):Int):=by
 have h:=u64_and_nat a 2305843009213693952 ha zd;rw[show (2305843009213693952:Nat)=2^61 by decide,yqe]at h;exact h
theorem yn5 (a:Nat) (ha:a<18446744073709551616):bits .and .u64 (a:Int) 1152921504606846975=((a%1152921504606846976:Nat):Int):=by
 have h:=u64_and_nat a 1152921504606846975 ha zd;rw[show (1152921504606846975:Nat)=2^60-1 by decide,Nat.and_two_pow_sub_one_eq_mod]at h;exact h
theorem ynp (a:Nat) (ha:a<18446744073709551616):bits .and .u64 (a:Int) 15=((a%16:Nat):Int):=by
 have h:=u64_and_nat a 15 ha zd;rw[show (15:Nat)=2^4-1 by decide,Nat.and_two_pow_sub_one_eq_mod]at h;exact h
def yly (m:Nat) (e:Int):Nat×Int:=if m=0 then (0,e) else (m*2^(60-m.log2),e-((60-m.log2:Nat):Int))
theorem yog {m j mj:Nat} {e:Int} (h:mj=m*2^j) (hj:j<=60) (h1:mj<2^61) (hz:mj=0\/1152921504606846976<=mj) (h0:m=0->j=0):yly m e=(mj,e-(j:Int)):=by
 unfold yly;by_cases hm:m=0
 ·rw[if_pos hm];rw[h0 hm,h,hm];simp
 ·rw[if_neg hm];have hp:0<2^j:=Nat.two_pow_pos j;have hmj:2^60<=mj:=by
   rcases hz with h2 | h2
   ·rw[h2]at h;have:=Nat.mul_eq_zero.1 h.symm;omega
   ·exact h2
  have hlog:m.log2=60-j:=by
   rw[Nat.log2_eq_iff hm];constructor
   ·refine Nat.le_of_mul_le_mul_right ?_ hp;rw[<-Nat.pow_add,<-h,show 60-j+j=60 by omega];exact hmj
   ·refine Nat.lt_of_mul_lt_mul_right (a:=2^j) ?_;rw[<-Nat.pow_add,<-h,show 60-j+1+j=61 by omega];exact h1
  rw[hlog,show 60-(60-j)=j by omega,h]
def ymp (prec:Int) (m:Nat) (e:Int):Nat×Int:=
 if 0<=prec/\prec<15 then
  let s:=prec.toNat*4
  let q:=m / 2^(60-s)
  let r:=(if 576460752303423488<(m*2^s%2^60|||q%2) then q+1 else q)*2^(60-s)
  if r / 2^61%2=0 then (r,e) else (r / 2,e+1)
 else (m,e)
theorem yo8 (prec:Int) (m:Nat) (e:Int) (hm:m<2305843009213693952):(ymp prec m e).1<4611686018427387904/\e<=(ymp prec m e).2/\(ymp prec m e).2<=e+1:=by
 unfold ymp;split
 ·dsimp only;have hpp:0<2^(60-prec.toNat*4):=Nat.two_pow_pos _;have h1:m / 2^(60-prec.toNat*4)*2^(60-prec.toNat*4)<=m:=Nat.div_mul_le_self _ _;have h2:2^(60-prec.toNat*4)<=2^60:=Nat.pow_le_pow_right zd zd;have h3:(if 576460752303423488<(m*2^(prec.toNat*4)%2^60|||m / 2^(60-prec.toNat*4)%2) then m / 2^(60-prec.toNat*4)+1 else m / 2^(60-prec.toNat*4))*2^(60-prec.toNat*4)<4611686018427387904:=by
   split
   ·rw[Nat.add_mul,Nat.one_mul];omega
   ·omega
  generalize (if 576460752303423488<(m*2^(prec.toNat*4)%2^60|||m / 2^(60-prec.toNat*4)%2) then m / 2^(60-prec.toNat*4)+1 else m / 2^(60-prec.toNat*4))*2^(60-prec.toNat*4)=r at h3 ⊢;split <;> (refine⟨?_,?_,?_⟩ <;> (try dsimp only) <;> omega)
 ·(try dsimp only);omega
def ymg (up:Bool):ByteArray:=if up then { data:=#[48,49,50,51,52,53,54,55,56,57,65,66,67,68,69,70] } else { data:=#[48,49,50,51,52,53,54,55,56,57,97,98,99,100,101,102] }
theorem ynw (up:Bool):(ymg up).size=16:=by cases up <;> rfl
def ymk (up:Bool) (d:Nat):UInt8:=if h:d<(ymg up).size then (ymg up)[d] else 0
theorem ypy (up:Bool) (d:Nat) (h:d<(ymg up).size):(ymg up)[d]=ymk up d:=by unfold ymk;rw[dif_pos h]
def ynd (up:Bool):Nat->Nat->List UInt8
 | 0,_=>[]
 | k+1,m=>if m=0 then [] else ymk up (m / 2^60%16)::ynd up k (m*16%2^64)
def ynv (up:Bool):Nat->Nat->List UInt8
 | 0,_=>[]
 | k+1,m=>ymk up (m / 2^60%16)::ynv up k (m*16%2^64)
theorem yoq (up:Bool) (k m:Nat):(ynd up k m).length<=k:=by
 induction k generalizing m with
 | zero=>simp[ynd]
 | succ k ih=>unfold ynd;split <;> simp;exact ih _
theorem yor (up:Bool) (k m:Nat):(ynv up k m).length=k:=by
 induction k generalizing m with
 | zero=>simp[ynv]
 | succ k ih=>unfold ynv;simp;exact ih _
def xExp (e:Int):List UInt8:=
 (if e<0 then 45 else 43)::(if e.natAbs<100 then [UInt8.ofNat (48+e.natAbs / 10),UInt8.ofNat (48+e.natAbs%10)]
  else if e.natAbs<1000 then [UInt8.ofNat (48+e.natAbs / 100),UInt8.ofNat (48+e.natAbs / 10%10),UInt8.ofNat (48+e.natAbs%10)]
  else [UInt8.ofNat (48+e.natAbs / 1000),UInt8.ofNat (48+e.natAbs / 100%10),UInt8.ofNat (48+e.natAbs / 10%10),UInt8.ofNat (48+e.natAbs%10)])
def yky (up:Bool) (prec:Int) (m:Nat):List UInt8:=
 if prec<0/\m≠0 then 46::ynd up 16 m else if 0<prec then 46::ynv up prec.toNat m else []
def ymz (prec:Int) (m mb:Nat) (e:Int):Nat×Int:=ymp prec (yly (m*2^(60-mb)) (if m=0 then 0 else e)).1 (yly (m*2^(60-mb)) (if m=0 then 0 else e)).2
def xL (neg:Bool) (prec f:Int) (m mb:Nat) (e:Int):List UInt8:=
 eSign neg++([48,UInt8.ofNat f.toNat,UInt8.ofNat (48+(ymz prec m mb e).1 / 2^60%2)]++(yky (f==88) prec ((ymz prec m mb e).1*16%2^64)++([if f=88 then 80 else 112]++xExp (ymz prec m mb e).2)))
set_option maxRecDepth 100000 in
theorem yq2 (T:Nat) (neg:Bool) (dst:Value) (prec f:Int) (m mb:Nat) (e:Int) (xs:List UInt8) (w:World) (he:Env T w) (hown:OwnB T w dst xs)
  (hx:xs.length≤140737489000000) (hf:f=120∨f=88) (hp1:-9223372036854775808≤prec) (hp2:prec≤100000) (he1:-2000≤e) (he2:e≤2000) (hmb:mb=52∨mb=23) (hm:m<2^(mb+1)):
  Calls Tryz.prog 91 #[dst,.int .i64 prec,.int .u8 f,.bool neg,.int .u64 (m:Int),.int .i64 e,.int .i64 (mb:Int)] w fun r w'=>
   ∃ v',r=.returned v'∧OwnB T w' v' (xs++xL neg prec f m mb e)∧Stp w dst w' v':=by
 have hf1:0≤f:=by omega
 have hf2:f≤255:=by omega
 have HF:=Lib.hid hf
 clear hf
 have hap:=Ap.start hown he (Or.inl rfl:Dig w dst dst [])
 clear hown he
 refine ye Tryz.func91 rfl (by rw[Tryz.ntmps91];simp) ?_
 intro σ hσ
 rw[Tryz.ntmps91]
 have s0:σ 0=dst:=hσ 0 (by simp)
 have s1:σ 1=.int .i64 prec:=hσ 1 (by simp)
 have s2:σ 2=.int .u8 f:=hσ 2 (by simp)
 have s3:σ 3=.bool neg:=hσ 3 (by simp)
 have s4:σ 4=.int .u64 (m:Int):=hσ 4 (by simp)
 have s5:σ 5=.int .i64 e:=hσ 5 (by simp)
 have s6:σ 6=.int .i64 (mb:Int):=hσ 6 (by simp)
 clear hσ
 have hmr:m<2^53:=by rcases hmb with rfl | rfl <;> omega
 go_wp2_with fail
 refine yr (fun s' w'=>s' 0=dst∧s' 1=.int .i64 prec∧s' 2=.int .u8 f∧s' 3=.bool neg∧s' 4=.int .u64 (m:Int)∧s' 5=.int .i64 (if m=0 then 0 else e)∧s' 6=.int .i64 (mb:Int)∧w=w') ?_ ?_
 ·intro R' K' HR hK'
  by_cases h:m=0
  ·subst h
   refine jq (by simp[ov, *]) (by decide) ?_
   go_wp2_with fail
   exact got HR (by simp[ov, *])
  ·refine kj (by simp[ov, *]) (by decide) ?_
   go_wp2_with fail
   exact got HR (by simp[ov, *])
 clear s0 s1 s2 s3 s4 s5 s6 σ
 rintro σ w' ⟨s0,s1,s2,s3,s4,s5,s6,rfl⟩
 obtain⟨e0,he0⟩:∃ e0:Int,(if m=0 then 0 else e)=e0:=⟨_,rfl⟩
 have hb1:-2000≤e0∧e0≤2000:=by rw[←he0];split <;> omega
 rw[he0]at s5
 obtain⟨m1,hm1⟩:∃ m1:Nat,m*2^(60-mb)=m1:=⟨_,rfl⟩
 have hm1b:m1<2^61:=by rw[←hm1];rcases hmb with rfl | rfl <;> omega
 have HM1:=Lib.hid hm1
 have HE0:=Lib.hid he0
 clear hm1 he0
 go_upto_region 3 with fail
 refine yr (fun s' w'=>s' 0=dst∧s' 1=.int .i64 prec∧s' 2=.int .u8 f∧s' 3=.bool neg∧s' 4=.int .u64 (m1:Int)∧s' 5=.int .i64 e0∧w=w') ?_ ?_
 ·intro R' K' HR hK'
  rcases hmb with rfl | rfl
  ·have hq:(m:Int)*256=(m1:Int):=by have:m*256=m1:=HM1.out;omega
   go_wp2_with fail
   exact got HR (by simp[ov, *])
  ·have hq:(m:Int)*137438953472=(m1:Int):=by have:m*137438953472=m1:=HM1.out;omega
   go_wp2_with fail
   exact got HR (by simp[ov, *])
 clear s0 s1 s2 s3 s4 s5 s6 σ
 rintro σ w' ⟨s0,s1,s2,s3,s4,s5,rfl⟩
 go_wp2_with fail
 refine xx (fun k s' w'=>∃ (j mj:Nat),mj<2^61∧j≤60∧(m1=0→j=0)∧k=2^61-mj∧mj=m1*2^j∧s' 0=dst∧s' 1=.int .i64 prec∧s' 2=.int .u8 f∧s' 3=.bool neg∧s' 4=.int .u64 (mj:Int)∧s' 5=.int .i64 (e0-(j:Int))∧w=w') (2^61-m1) ⟨0,m1,hm1b,by omega,fun _=>rfl,rfl,by simp,by simp[ov, *],by simp[ov, *],by simp[ov, *],by simp[ov, *],by simp[ov, *],by simp[ov, *],rfl⟩ ?_
 clear s0 s1 s2 s3 s4 s5 σ
 rintro k σ wk ⟨j,mj,hmj,hj,hj0,rfl,hmje,s0,s1,s2,s3,s4,s5,rfl⟩ RK KK HRK hKK
 have HMJ:=Lib.hid hmje
 have HJ0:=Lib.hid hj0
 clear hmje hj0
 have hm61:mj<2305843009213693952:=by omega
 go_upto_region 4 with fail
 refine yr (fun s' w'=>s' 32=.bool (decide (mj≠0∧mj<1152921504606846976))∧s' 0=dst∧s' 1=.int .i64 prec∧s' 2=.int .u8 f∧s' 3=.bool neg∧s' 4=.int .u64 (mj:Int)∧s' 5=.int .i64 (e0-(j:Int))∧w=w') ?_ ?_
 ·intro R2 K2 HR hK2
  by_cases hz0:mj=0
  ·go_wp2_with fail
   exact got HR (by simp[ov, *])
  ·by_cases hzl:mj<1152921504606846976
   ·have hb:bits .and .u64 (mj:Int) 1152921504606846976=(0:Int):=by rw[yl3 mj (by omega)];omega
    go_wp2_with fail
    exact got HR (by simp[ov, *])
   ·have hb:bits .and .u64 (mj:Int) 1152921504606846976=(1152921504606846976:Int):=by rw[yl3 mj (by omega)];omega
    go_wp2_with fail
    exact got HR (by simp[ov, *])
 clear s0 s1 s2 s3 s4 s5 σ
 rintro σ w' ⟨s32,s0,s1,s2,s3,s4,s5,rfl⟩
 go_wp2_with fail
 refine zb0 _ (by rw[yd,s32]) (by decide) (fun h=>?_) (fun h=>?_)
 ·have h':=of_decide_eq_true h
  have hz0:¬mj=0:=h'.1
  have hzl:mj<1152921504606846976:=h'.2
  clear h h'
  have hjl:j<60:=by
   have:=HMJ.out
   by_cases h:j<60
   ·exact h
   ·have hj60:j=60:=by omega
    rw[hj60]at this
    omega
  go_wp2_with fail
  exact wo HRK (2^61-mj*2) (by omega) ⟨j+1,mj*2,by omega,by omega,fun h=>absurd (by rw[HMJ.out,h];simp) hz0,rfl,by rw[HMJ.out,Nat.pow_succ,Nat.mul_assoc],by simp[ov, *],by simp[ov, *],by simp[ov, *],by simp[ov, *],by simp[ov, *],by simp[ov, *];omega,rfl⟩
 have hz:mj=0∨1152921504606846976≤mj:=by have:=of_decide_eq_false h;omega
 have hnorm:=yog (e:=e0) HMJ.out hj hmj hz HJ0.out
 have HNORM:=Lib.hid hnorm
 have hk1:-2060≤e0-(j:Int)∧e0-(j:Int)≤2000:=by omega
 obtain⟨e1,he1'⟩:∃ e1,e0-(j:Int)=e1:=⟨_,rfl⟩
 rw[he1']at hk1 s5 HNORM
 clear h s32 hnorm HJ0 HMJ hj hz hKK HRK he1'
 go_upto_region 7 with fail
 refine yr (fun s' w'=>s' 42=.bool (decide (0≤prec∧prec<15))∧s' 0=dst∧s' 1=.int .i64 prec∧s' 2=.int .u8 f∧s' 3=.bool neg∧s' 4=.int .u64 (mj:Int)∧s' 5=.int .i64 e1∧w=w') ?_ ?_
 ·intro R2 K2 HR hK2
  by_cases h1:0≤prec
  ·go_wp2_with fail
   exact got HR (by simp[ov, *])
  ·have h1':decide (0≤prec)=false:=by simpa using h1
   go_wp2_with fail
   exact got HR (by simp[ov, *])
 clear s0 s1 s2 s3 s4 s5 σ
 rintro σ w' ⟨s42,s0,s1,s2,s3,s4,s5,rfl⟩
 go_wp2_with fail
 refine yr (fun s' w'=>s' 0=dst∧s' 1=.int .i64 prec∧s' 2=.int .u8 f∧s' 3=.bool neg∧s' 4=.int .u64 ((ymp prec mj e1).1:Int)∧s' 5=.int .i64 (ymp prec mj e1).2∧w=w') ?_ ?_
 ·intro R2 K2 HR hK2
  refine zb0 _ (by rw[yd,s42]) (by decide) (fun h=>?_) (fun h=>?_)
  ·have h':=of_decide_eq_true h
   obtain⟨p,hp⟩:∃ p:Nat,prec=(p:Int):=⟨prec.toNat,by omega⟩
   have hp15:p<15:=by omega
   subst hp
   clear h h' s42
   obtain⟨q,hq⟩:∃ q:Nat,mj / 2^(60-p*4)=q:=⟨_,rfl⟩
   obtain⟨X,hX⟩:∃ X:Nat,(mj*2^(p*4)%2^60|||q%2)=X:=⟨_,rfl⟩
   have hp2':2^(60-p*4)*2^(p*4)=2^60:=by rw[←Nat.pow_add];congr 1;omega
   have hpp:0<2^(60-p*4):=Nat.two_pow_pos _
   have hq1:q*2^(60-p*4)≤mj:=by rw[←hq];exact Nat.div_mul_le_self _ _
   have hq2:q<2^61:=by
    refine Nat.lt_of_le_of_lt ?_ hm61
    rw[←hq];exact Nat.div_le_self _ _
   have hq3:(q+1)*2^(60-p*4)≤mj+2^60:=by
    rw[Nat.add_mul,Nat.one_mul]
    have:2^(60-p*4)≤2^60:=Nat.pow_le_pow_right (by omega) (by omega)
    omega
   have hqi:(mj:Int) / 2^(60-p*4)=(q:Int):=by rw[←hq];simp
   have hXi:bits .or .u64 (bits .and .u64 (IntKind.u64.wrap ((mj:Int)*2^(p*4))) 1152921504606846975) (bits .and .u64 (q:Int) 1)=(X:Int):=by
    have e1:IntKind.u64.wrap ((mj:Int)*2^(p*4))=((mj*2^(p*4)%18446744073709551616:Nat):Int):=by
     rw[IntKind.wrap_u64];simp
    rw[e1,yn5 _ (by omega),zjg _ (by omega)]
    have:=u64_or_nat (mj*2^(p*4)%18446744073709551616%1152921504606846976) (q%2) (by omega) (by omega)
    rw[this,show mj*2^(p*4)%18446744073709551616%1152921504606846976=mj*2^(p*4)%2^60 by omega,hX]
   have hxr:∀ r:Nat,(if 576460752303423488<X then q+1 else q)*2^(60-p*4)=r→ymp (p:Int) mj e1=if r / 2^61%2=0 then (r,e1) else (r / 2,e1+1):=by
    intro r hr
    unfold ymp
    rw[if_pos (by omega)]
    simp only[Int.toNat_natCast,hq,hX,hr]
   have HXR:=Lib.hid hxr
   clear hxr hX hq hp2' hpp
   by_cases hc:576460752303423488<X
   ·have hci:(576460752303423488:Int)<(X:Int):=by omega
    obtain⟨r,hr⟩:∃ r:Nat,(q+1)*2^(60-p*4)=r:=⟨_,rfl⟩
    have hxr:=HXR.out r (by rw[if_pos hc,hr])
    have hrb:r<18446744073709551616:=by omega
    have hri:IntKind.u64.wrap (((q:Int)+1)*2^(60-p*4))=(r:Int):=by
     have:((q:Int)+1)*2^(60-p*4)=(r:Int):=by rw[←hr];simp
     rw[this,IntKind.wrap_u64];omega
    have HXR2:=Lib.hid hxr
    clear hr hq1 hq3 hxr HXR
    by_cases hb:r / 2^61%2=0
    ·have hbi:bits .and .u64 (r:Int) 2305843009213693952=(0:Int):=by rw[yrv r hrb];omega
     have hxr:=HXR2.out
     rw[if_pos hb]at hxr
     clear hb
     ((repeat (go_wp2_with fail;first | (refine cdY ?_ ?_;focus (simp[ov, *];done)) | (refine cdN ?_ ?_;focus (simp[ov, *];done))));go_wp2_with fail)
     exact got HR (by rw[hxr];simp[ov, *])
    ·have hbi:bits .and .u64 (r:Int) 2305843009213693952=(2305843009213693952:Int):=by rw[yrv r hrb];omega
     have hxr:=HXR2.out
     rw[if_neg hb]at hxr
     clear hb
     ((repeat (go_wp2_with fail;first | (refine cdY ?_ ?_;focus (simp[ov, *];done)) | (refine cdN ?_ ?_;focus (simp[ov, *];done))));go_wp2_with fail)
     exact got HR (by rw[hxr];simp[ov, *])
   ·have hci:decide ((576460752303423488:Int)<(X:Int))=false:=by simp;omega
    obtain⟨r,hr⟩:∃ r:Nat,q*2^(60-p*4)=r:=⟨_,rfl⟩
    have hxr:=HXR.out r (by rw[if_neg hc,hr])
    have hrb:r<18446744073709551616:=by omega
    have hri:IntKind.u64.wrap ((q:Int)*2^(60-p*4))=(r:Int):=by
     have:(q:Int)*2^(60-p*4)=(r:Int):=by rw[←hr];simp
     rw[this,IntKind.wrap_u64];omega
    have HXR2:=Lib.hid hxr
    clear hr hq1 hq3 hxr HXR
    by_cases hb:r / 2^61%2=0
    ·have hbi:bits .and .u64 (r:Int) 2305843009213693952=(0:Int):=by rw[yrv r hrb];omega
     have hxr:=HXR2.out
     rw[if_pos hb]at hxr
     clear hb
     ((repeat (go_wp2_with fail;first | (refine cdY ?_ ?_;focus (simp[ov, *];done)) | (refine cdN ?_ ?_;focus (simp[ov, *];done))));go_wp2_with fail)
     exact got HR (by rw[hxr];simp[ov, *])
    ·have hbi:bits .and .u64 (r:Int) 2305843009213693952=(2305843009213693952:Int):=by rw[yrv r hrb];omega
     have hxr:=HXR2.out
     rw[if_neg hb]at hxr
     clear hb
     ((repeat (go_wp2_with fail;first | (refine cdY ?_ ?_;focus (simp[ov, *];done)) | (refine cdN ?_ ?_;focus (simp[ov, *];done))));go_wp2_with fail)
     exact got HR (by rw[hxr];simp[ov, *])
  ·have hx0:ymp prec mj e1=(mj,e1):=by unfold ymp;rw[if_neg (of_decide_eq_false h)]
   go_wp2_with fail
   exact got HR (by rw[hx0];simp[ov, *])
 clear s0 s1 s2 s3 s4 s5 s42 σ
 rintro σ w' ⟨s0,s1,s2,s3,s4,s5,rfl⟩
 have hrb:=yo8 prec mj e1 hm61
 obtain⟨mR,hmR⟩:∃ mR,(ymp prec mj e1).1=mR:=⟨_,rfl⟩
 obtain⟨eR,heR⟩:∃ eR,(ymp prec mj e1).2=eR:=⟨_,rfl⟩
 have HMR:=Lib.hid hmR
 have HER:=Lib.hid heR
 have hrb1:mR<4611686018427387904:=by rw[←hmR];exact hrb.1
 have hrb2:-2060≤eR∧eR≤2001:=by rw[←heR];omega
 rw[hmR]at s4
 rw[heR]at s5
 clear hmR heR hrb
 go_wp2_with fail
 refine yr (fun s' w'=>s' 17=.string (ymg (f==88))∧s' 0=dst∧s' 1=.int .i64 prec∧s' 2=.int .u8 f∧s' 3=.bool neg∧s' 4=.int .u64 (mR:Int)∧s' 5=.int .i64 eR∧w=w') ?_ ?_
 ·intro R2 K2 HR hK2
  refine zb0 (f==88) (by simp[ov, *]) (by decide) (fun h=>?_) (fun h=>?_)
  ·go_wp2_with fail
   exact got HR (by simp[yc,yd,ymg, *])
  ·go_wp2_with fail
   exact got HR (by simp[yc,yd,ymg, *])
 clear s0 s1 s2 s3 s4 s5 σ
 rintro σ w' ⟨s17,s0,s1,s2,s3,s4,s5,rfl⟩
 go_wp2_with fail
 refine yr (fun s' w'=>∃ v,s' 0=v∧Ap T w dst dst [] w' v (xs++eSign neg)∧s' 17=.string (ymg (f==88))∧s' 1=.int .i64 prec∧s' 2=.int .u8 f∧s' 4=.int .u64 (mR:Int)∧s' 5=.int .i64 eR) ?_ ?_
 ·intro R' K' HR hK'
  refine zb0 neg (by simp[ov, *]) (by decide) (fun h=>?_) (fun h=>?_)
  ·subst h
   go_wp2_with (at_builtin;refine zch rfl _ _ _ _ rfl (by decide) (by decide) zsw (hap.own.alloc _) (by simp[ov, *]) _ (by simp[ov, *]) [45] (zmx Tryz.underlying83 [45] _) (by simp only[List.length_append,List.length_cons,List.length_nil,List.length_replicate]at *;omega) ?_;intro v w' ho1 hs1;replace hap:=hap.step ho1 hs1;clear ho1 hs1)
   exact got HR ⟨v,by simp[ov, *],hap,by simp[ov, *],by simp[ov, *],by simp[ov, *],by simp[ov, *],by simp[ov, *]⟩
  ·subst h
   go_wp2_with fail
   exact got HR ⟨dst,by simp[ov, *],hap.to (by simp[eSign]),by simp[ov, *],by simp[ov, *],by simp[ov, *],by simp[ov, *],by simp[ov, *]⟩
 clear s0 s1 s2 s3 s4 s5 s17 σ hap
 rintro σ w1 ⟨v1,s0,hap,s17,s1,s2,s4,s5⟩
 have hsl:(eSign neg).length≤1:=by cases neg <;> simp[eSign]
 obtain⟨sg,hsg⟩:∃ sg,eSign neg=sg:=⟨_,rfl⟩
 rw[hsg]at hap hsl
 have HSG:=Lib.hid hsg
 clear hsg
 have hlb:bits .and .u64 ((mR:Int) / 1152921504606846976) 1=((mR / 1152921504606846976%2:Nat):Int):=by
  have:=zjg (mR / 1152921504606846976) (by omega)
  simpa using this
 have hld:mR / 1152921504606846976%2<2:=Nat.mod_lt _ (by omega)
 obtain⟨ld,hld'⟩:∃ ld,mR / 1152921504606846976%2=ld:=⟨_,rfl⟩
 rw[hld']at hlb hld
 have HLD:=Lib.hid hld'
 obtain⟨m2,hm2⟩:∃ m2,mR*16%18446744073709551616=m2:=⟨_,rfl⟩
 have hm2b:m2<18446744073709551616:=by rw[←hm2];exact Nat.mod_lt _ (by omega)
 have hm2i:IntKind.u64.wrap ((mR:Int)*16)=(m2:Int):=by rw[IntKind.wrap_u64,←hm2];simp
 have HM2:=Lib.hid hm2
 clear hld' hm2
 go_upto_region 24 with (at_builtin;refine zch rfl _ _ _ _ rfl (by decide) (by decide) zsw (hap.own.alloc _) (by simp[ov, *]) _ (by simp[ov, *]) [UInt8.ofNat ((48:Int)).toNat,UInt8.ofNat (f).toNat,UInt8.ofNat (48+(ld:Int)).toNat] (yki Tryz.underlying83 ((48:Int)) (f) (48+(ld:Int)) (by omega) (by omega) (by omega) (by omega) (by omega) (by omega) _) (by simp only[List.length_append,List.length_cons,List.length_nil,List.length_replicate]at *;omega) ?_;intro v w' ho1 hs1;replace hap:=hap.step ho1 hs1;clear ho1 hs1)
 refine yr (fun s' w''=>s' 94=.bool (decide (prec<0∧m2≠0))∧s' 0=v∧s' 17=.string (ymg (f==88))∧s' 1=.int .i64 prec∧s' 2=.int .u8 f∧s' 4=.int .u64 (m2:Int)∧s' 5=.int .i64 eR∧w'=w'') ?_ ?_
 ·intro R2 K2 HR hK2
  by_cases h1:prec<0
  ·by_cases h0:m2=0
   ·go_wp2_with fail
    exact got HR (by simp[ov, *])
   ·have h0':((m2:Int) != 0)=true:=by simp[h0]
    go_wp2_with fail
    exact got HR (by simp[ov, *])
  ·have h1':decide (prec<0)=false:=by simpa using h1
   go_wp2_with fail
   exact got HR (by simp[ov, *])
 clear s0 s1 s2 s4 s5 s17 σ
 rintro σ w3 ⟨s94,s0,s17,s1,s2,s4,s5,rfl⟩
 have hXs:(xs++sg++[UInt8.ofNat (Int.toNat 48),UInt8.ofNat f.toNat,UInt8.ofNat (48+(ld:Int)).toNat]).length≤xs.length+4:=by
  simp only[List.length_append,List.length_cons,List.length_nil];omega
 obtain⟨out,hout⟩:∃ out,xs++sg++[UInt8.ofNat (Int.toNat 48),UInt8.ofNat f.toNat,UInt8.ofNat (48+(ld:Int)).toNat]=out:=⟨_,rfl⟩
 rw[hout]at hap hXs
 have HOUT:=Lib.hid hout
 clear hout
 obtain⟨up,hup⟩:∃ up,(f==88)=up:=⟨_,rfl⟩
 rw[hup]at s17
 have HUP:=Lib.hid hup
 clear hup
 go_wp2_with fail
 refine yr (fun s' w'=>∃ v,s' 0=v∧Ap T w dst dst [] w' v (out++yky up prec m2)∧s' 2=.int .u8 f∧s' 5=.int .i64 eR) ?_ ?_
 ·intro R' K' HR hK'
  refine zb0 _ (by rw[yd,s94]) (by decide) (fun h=>?_) (fun h=>?_)
  ·have hfr:yky up prec m2=46::ynd up 16 m2:=by unfold yky;rw[if_pos (of_decide_eq_true h)]
   clear h s94
   have HFR:=Lib.hid hfr
   clear hfr
   go_wp2_with (at_builtin;refine zch rfl _ _ _ _ rfl (by decide) (by decide) zsw (hap.own.alloc _) (by simp[ov, *]) _ (by simp[ov, *]) [46] (zmx Tryz.underlying83 [46] _) (by simp only[List.length_append,List.length_cons,List.length_nil,List.length_replicate]at *;omega) ?_;intro v w' ho1 hs1;replace hap:=hap.step ho1 hs1;clear ho1 hs1)
   refine xx (fun k s' w'=>∃ (i mi:Nat) (v:Value) (l:List UInt8),i≤16∧k=16-i∧mi=m2*16^i%18446744073709551616∧l.length≤i∧l++ynd up (16-i) mi=ynd up 16 m2∧s' 0=v∧Ap T w dst dst [] w' v (out++[46]++l)∧s' 2=.int .u8 f∧s' 5=.int .i64 eR∧s' 4=.int .u64 (mi:Int)∧s' 17=.string (ymg up)) 16 ⟨0,m2,_,[],Nat.zero_le _,rfl,by omega,by simp,rfl,rfl,(hap.to (by simp)).at (by simp[ov, *]),by simp[ov, *],by simp[ov, *],by simp[ov, *],by simp[ov, *]⟩ ?_
   clear s0 s1 s2 s4 s5 s17 σ hap
   rintro k σ wk ⟨i,mi,vk,l,hi,rfl,hmi,hll,hlz,s0,hap,s2,s5,s4,s17⟩ RK KK HRK hKK
   have hmib:mi<18446744073709551616:=by rw[hmi];exact Nat.mod_lt _ (by omega)
   have HMI:=Lib.hid hmi
   have HLZ:=Lib.hid hlz
   clear hmi hlz
   by_cases hz:mi=0
   ·have hlz:=HLZ.out
    have e0:ynd up (16-i) mi=[]:=by
     rw[hz];cases h:16-i <;> simp[ynd]
    rw[e0,List.append_nil]at hlz
    have HLL:=Lib.hid hlz
    clear hlz e0
    subst hz
    ((repeat (go_wp2_with fail;first | (refine cdY ?_ ?_;focus (simp[ov, *];done)) | (refine cdN ?_ ?_;focus (simp[ov, *];done))));go_wp2_with fail)
    exact got HR ⟨vk,by simp[ov, *],hap.to (by rw[HFR.out,HLL.out];simp),by simp[ov, *],by simp[ov, *]⟩
   ·have hi16:i<16:=by
     by_cases h:i<16
     ·exact h
     ·have:i=16:=by omega
      have hm:=HMI.out
      rw[this]at hm
      omega
    have hsz:=ynw up
    have hdi:bits .and .u64 ((mi:Int) / 1152921504606846976) 15=((mi / 1152921504606846976%16:Nat):Int):=by
     have:=ynp (mi / 1152921504606846976) (by omega)
     simpa using this
    have hdb:mi / 1152921504606846976%16<16:=Nat.mod_lt _ (by omega)
    obtain⟨d,hd⟩:∃ d,mi / 1152921504606846976%16=d:=⟨_,rfl⟩
    rw[hd]at hdi hdb
    have HD:=Lib.hid hd
    clear hd
    have hzi:((mi:Int) != 0)=true:=by simp[hz]
    obtain⟨mn,hmn⟩:∃ mn,mi*16%18446744073709551616=mn:=⟨_,rfl⟩
    have hmni:IntKind.u64.wrap ((mi:Int)*16)=(mn:Int):=by rw[IntKind.wrap_u64,←hmn];simp
    have HMN:=Lib.hid hmn
    clear hmn
    ((repeat (go_wp2_with (first | (at_builtin;refine zch rfl _ _ _ _ rfl (by decide) (by decide) zsw (hap.own.alloc _) (by simp[ov, *]) _ (by simp[ov, *]) [(ymg up)[d]'(by omega)] (zmx Tryz.underlying83 [(ymg up)[d]'(by omega)] _) (by simp only[List.length_append,List.length_cons,List.length_nil,List.length_replicate]at *;omega) ?_;intro v w' ho1 hs1;replace hap:=hap.step ho1 hs1;clear ho1 hs1));first | (refine cdY ?_ ?_;focus (simp[ov, *];done)) | (refine cdN ?_ ?_;focus (simp[ov, *];done))));go_wp2_with (first | (at_builtin;refine zch rfl _ _ _ _ rfl (by decide) (by decide) zsw (hap.own.alloc _) (by simp[ov, *]) _ (by simp[ov, *]) [(ymg up)[d]'(by omega)] (zmx Tryz.underlying83 [(ymg up)[d]'(by omega)] _) (by simp only[List.length_append,List.length_cons,List.length_nil,List.length_replicate]at *;omega) ?_;intro v w' ho1 hs1;replace hap:=hap.step ho1 hs1;clear ho1 hs1)))
    exact wo HRK (16-(i+1)) (by omega) ⟨i+1,mn,v,l++[(ymg up)[d]'(by omega)],by omega,rfl,by rw[←HMN.out,HMI.out,Nat.pow_succ,←Nat.mul_assoc];generalize m2*16^i=z;omega,by simp;omega,by
     rw[←HLZ.out,show 16-i=(16-(i+1))+1 by omega]
     conv=>rhs;unfold ynd
     rw[if_neg hz,ypy,←HD.out,←HMN.out]
     simp,by simp[yc,yd],hap.to (by simp),by simp[ov, *],by simp[ov, *],by simp[ov, *],by simp[ov, *]⟩
  ·have hn:=of_decide_eq_false h
   clear s94
   by_cases hp:0<prec
   ·obtain⟨N,hN⟩:∃ N:Nat,prec=(N:Int):=⟨prec.toNat,by omega⟩
    subst hN
    have hfr:yky up (N:Int) m2=46::ynv up N m2:=by unfold yky;rw[if_neg hn,if_pos hp,Int.toNat_natCast]
    have HFR:=Lib.hid hfr
    have hNp:0<N:=by omega
    clear h hn hfr
    go_wp2_with fail
    refine jq (by simp[ov, *]) (by decide) ?_
    go_wp2_with (at_builtin;refine zch rfl _ _ _ _ rfl (by decide) (by decide) zsw (hap.own.alloc _) (by simp[ov, *]) _ (by simp[ov, *]) [46] (zmx Tryz.underlying83 [46] _) (by simp only[List.length_append,List.length_cons,List.length_nil,List.length_replicate]at *;omega) ?_;intro v w' ho1 hs1;replace hap:=hap.step ho1 hs1;clear ho1 hs1)
    refine xx (fun k s' w'=>∃ (i mi:Nat) (v:Value) (l:List UInt8),i≤N∧k=N-i∧mi<18446744073709551616∧l.length=i∧l++ynv up (N-i) mi=ynv up N m2∧s' 0=v∧Ap T w dst dst [] w' v (out++[46]++l)∧s' 1=.int .i64 (N:Int)∧s' 18=.int .i64 (i:Int)∧s' 2=.int .u8 f∧s' 5=.int .i64 eR∧s' 4=.int .u64 (mi:Int)∧s' 17=.string (ymg up)) N ⟨0,m2,_,[],Nat.zero_le _,rfl,by omega,by simp,rfl,rfl,(hap.to (by simp)).at (by simp[ov, *]),by simp[ov, *],by simp[ov, *],by simp[ov, *],by simp[ov, *],by simp[ov, *],by simp[ov, *]⟩ ?_
    clear s0 s1 s2 s4 s5 s17 σ hap
    rintro k σ wk ⟨i,mi,vk,l,hi,rfl,hmib,hll,hlz,s0,hap,s1,s18,s2,s5,s4,s17⟩ RK KK HRK hKK
    have HLZ:=Lib.hid hlz
    clear hlz
    by_cases hz:i<N
    ·have hsz:=ynw up
     have hdi:bits .and .u64 ((mi:Int) / 1152921504606846976) 15=((mi / 1152921504606846976%16:Nat):Int):=by
      have:=ynp (mi / 1152921504606846976) (by omega)
      simpa using this
     have hdb:mi / 1152921504606846976%16<16:=Nat.mod_lt _ (by omega)
     obtain⟨d,hd⟩:∃ d,mi / 1152921504606846976%16=d:=⟨_,rfl⟩
     rw[hd]at hdi hdb
     have HD:=Lib.hid hd
     clear hd
     obtain⟨mn,hmn⟩:∃ mn,mi*16%18446744073709551616=mn:=⟨_,rfl⟩
     have hmni:IntKind.u64.wrap ((mi:Int)*16)=(mn:Int):=by rw[IntKind.wrap_u64,←hmn];simp
     have hmnb:mn<18446744073709551616:=by rw[←hmn];exact Nat.mod_lt _ (by omega)
     have HMN:=Lib.hid hmn
     clear hmn
     ((repeat (go_wp2_with (first | (at_builtin;refine zch rfl _ _ _ _ rfl (by decide) (by decide) zsw (hap.own.alloc _) (by simp[ov, *]) _ (by simp[ov, *]) [(ymg up)[d]'(by omega)] (zmx Tryz.underlying83 [(ymg up)[d]'(by omega)] _) (by simp only[List.length_append,List.length_cons,List.length_nil,List.length_replicate]at *;omega) ?_;intro v w' ho1 hs1;replace hap:=hap.step ho1 hs1;clear ho1 hs1));first | (refine cdY ?_ ?_;focus (simp[ov, *];done)) | (refine cdN ?_ ?_;focus (simp[ov, *];done))));go_wp2_with (first | (at_builtin;refine zch rfl _ _ _ _ rfl (by decide) (by decide) zsw (hap.own.alloc _) (by simp[ov, *]) _ (by simp[ov, *]) [(ymg up)[d]'(by omega)] (zmx Tryz.underlying83 [(ymg up)[d]'(by omega)] _) (by simp only[List.length_append,List.length_cons,List.length_nil,List.length_replicate]at *;omega) ?_;intro v w' ho1 hs1;replace hap:=hap.step ho1 hs1;clear ho1 hs1)))
     exact wo HRK (N-(i+1)) (by omega) ⟨i+1,mn,v,l++[(ymg up)[d]'(by omega)],by omega,rfl,hmnb,by simp;omega,by
      rw[←HLZ.out,show N-i=(N-(i+1))+1 by omega]
      conv=>rhs;unfold ynv
      rw[ypy,←HD.out,←HMN.out]
      simp,by simp[yc,yd],hap.to (by simp),by simp[ov, *],by simp[ov, *],by simp[ov, *],by simp[ov, *],by simp[ov, *],by simp[ov, *]⟩
    have hiN:i=N:=by omega
    have hif:decide (i<N)=false:=by simpa using hz
    have hlz:=HLZ.out
    rw[hiN,Nat.sub_self,show ynv up 0 mi=[] from rfl,List.append_nil]at hlz
    have HLL:=Lib.hid hlz
    clear hlz
    ((repeat (go_wp2_with fail;first | (refine cdY ?_ ?_;focus (simp[ov, *];done)) | (refine cdN ?_ ?_;focus (simp[ov, *];done))));go_wp2_with fail)
    exact got HR ⟨vk,by simp[ov, *],hap.to (by rw[HFR.out,HLL.out];simp),by simp[ov, *],by simp[ov, *]⟩
   ·have hfr:yky up prec m2=[]:=by unfold yky;rw[if_neg hn,if_neg hp]
    have hpi:decide (0<prec)=false:=by simpa using hp
    clear h hn
    ((repeat (go_wp2_with fail;first | (refine cdY ?_ ?_;focus (simp[ov, *];done)) | (refine cdN ?_ ?_;focus (simp[ov, *];done))));go_wp2_with fail)
    exact got HR ⟨v,by simp[ov, *],hap.to (by rw[hfr];simp),by simp[ov, *],by simp[ov, *]⟩
 clear s0 s1 s2 s4 s5 s17 s94 σ hap
 rintro σ w3 ⟨v3,s0,hap,s2,s5⟩
 have hfl:(yky up prec m2).length≤100020:=by
  unfold yky
  split
  ·have:=yoq up 16 m2;simp;omega
  ·split
   ·simp[yor];omega
   ·simp
 obtain⟨fr,hfr⟩:∃ fr,yky up prec m2=fr:=⟨_,rfl⟩
 rw[hfr]at hap hfl
 have HFR:=Lib.hid hfr
 clear hfr
 go_wp2_with (first | (go_at_call 123;refine (Tryz.internal_strconv_lower _ _).mono ?_;rintro e w' ⟨rfl,rfl⟩))
 refine yr (fun s' w''=>s' 19=.int .u8 (if f=88 then 80 else 112)∧s' 0=v3∧s' 5=.int .i64 eR∧w'=w'') ?_ ?_
 ·intro R2 K2 HR hK2
  rcases HF.out with hf | hf
  ·have hl:bits .or .u8 120 32=(120:Int):=by decide
   subst hf
   ((repeat (go_wp2_with fail;first | (refine cdY ?_ ?_;focus (simp[ov, *];done)) | (refine cdN ?_ ?_;focus (simp[ov, *];done))));go_wp2_with fail)
   exact got HR (by simp[ov, *])
  ·have hl:bits .or .u8 88 32=(120:Int):=by decide
   subst hf
   ((repeat (go_wp2_with fail;first | (refine cdY ?_ ?_;focus (simp[ov, *];done)) | (refine cdN ?_ ?_;focus (simp[ov, *];done))));go_wp2_with fail)
   exact got HR (by simp[ov, *])
 clear s0 s2 s5 σ
 rintro σ w4 ⟨s19,s0,s5,rfl⟩
 obtain⟨pc,hpc⟩:∃ pc:Int,(if f=88 then 80 else 112)=pc:=⟨_,rfl⟩
 have hpcb:0≤pc∧pc<256:=by rw[←hpc];split <;> omega
 rw[hpc]at s19
 have HPC:=Lib.hid hpc
 clear hpc
 go_wp2_with (at_builtin;refine zch rfl _ _ _ _ rfl (by decide) (by decide) zsw (hap.own.alloc _) (by simp[ov, *]) _ (by simp[ov, *]) [UInt8.ofNat (pc).toNat] (ycc Tryz.underlying83 (pc) (by omega) (by omega) _) (by simp only[List.length_append,List.length_cons,List.length_nil,List.length_replicate]at *;omega) ?_;intro v w' ho1 hs1;replace hap:=hap.step ho1 hs1;clear ho1 hs1)
 refine yr (fun s' w''=>s' 19=.int .u8 (if eR<0 then 45 else 43)∧s' 0=v∧s' 5=.int .i64 (eR.natAbs:Int)∧w'=w'') ?_ ?_
 ·intro R2 K2 HR hK2
  by_cases h:eR<0
  ·have ha:-eR=(eR.natAbs:Int):=by omega
   ((repeat (go_wp2_with fail;first | (refine cdY ?_ ?_;focus (simp[ov, *];done)) | (refine cdN ?_ ?_;focus (simp[ov, *];done))));go_wp2_with fail)
   exact got HR (by simp[ov, *])
  ·have h':decide (eR<0)=false:=by simpa using h
   have ha:eR=(eR.natAbs:Int):=by omega
   have HA:=Lib.hid ha
   clear ha
   ((repeat (go_wp2_with fail;first | (refine cdY ?_ ?_;focus (simp[ov, *];done)) | (refine cdN ?_ ?_;focus (simp[ov, *];done))));go_wp2_with fail)
   exact got HR (by simp[ov, *];omega)
 clear s0 s19 s5 σ
 rintro σ w4 ⟨s19,s0,s5,rfl⟩
 obtain⟨sc,hsc⟩:∃ sc:Int,(if eR<0 then 45 else 43)=sc:=⟨_,rfl⟩
 have hscb:0≤sc∧sc<256:=by rw[←hsc];split <;> omega
 rw[hsc]at s19
 have HSC:=Lib.hid hsc
 clear hsc
 obtain⟨a,ha⟩:∃ a:Nat,eR.natAbs=a:=⟨_,rfl⟩
 have hab:a≤2060:=by omega
 rw[ha]at s5
 have HA:=Lib.hid ha
 clear ha
 have hfinal:∀ tl:List UInt8,UInt8.ofNat sc.toNat::tl=xExp eR→out++fr++[UInt8.ofNat pc.toNat]++[UInt8.ofNat sc.toNat]++tl=xs++xL neg prec f m mb e:=by
  intro tl htl
  unfold xL ymz
  rw[HE0.out,HM1.out,HNORM.out]
  dsimp only
  rw[HMR.out,HER.out,←htl,HUP.out,HSG.out]
  rw[show mR*16%2^64=m2 from HM2.out,HFR.out,show mR / 2^60%2=ld from HLD.out,←HOUT.out]
  have:UInt8.ofNat pc.toNat=if f=88 then 80 else 112:=by rw[←HPC.out];split <;> rfl
  rw[this]
  have h2:(48+(ld:Int)).toNat=48+ld:=by omega
  rw[h2]
  simp
 have hexp:∀ tl:List UInt8,(if a<100 then [UInt8.ofNat (48+a / 10),UInt8.ofNat (48+a%10)]
  else if a<1000 then [UInt8.ofNat (48+a / 100),UInt8.ofNat (48+a / 10%10),UInt8.ofNat (48+a%10)]
  else [UInt8.ofNat (48+a / 1000),UInt8.ofNat (48+a / 100%10),UInt8.ofNat (48+a / 10%10),UInt8.ofNat (48+a%10)])=tl→UInt8.ofNat sc.toNat::tl=xExp eR:=by
  intro tl htl
  unfold xExp
  rw[HA.out,htl,←HSC.out]
  split <;> rfl
 have HFINAL:=Lib.hid hfinal
 have HEXP:=Lib.hid hexp
 clear hfinal hexp
 by_cases h100:a<100
 ·have h100i:(a:Int)<100:=by omega
  ((repeat (go_wp2_with (first | (at_builtin;refine zch rfl _ _ _ _ rfl (by decide) (by decide) zsw (hap.own.alloc _) (by simp[ov, *]) _ (by simp[ov, *]) [UInt8.ofNat (sc).toNat] (ycc Tryz.underlying83 (sc) (by omega) (by omega) _) (by simp only[List.length_append,List.length_cons,List.length_nil,List.length_replicate]at *;omega) ?_;intro v w' ho1 hs1;replace hap:=hap.step ho1 hs1;clear ho1 hs1) | (at_builtin;refine zch rfl _ _ _ _ rfl (by decide) (by decide) zsw (hap.own.alloc _) (by simp[ov, *]) _ (by simp[ov, *]) [UInt8.ofNat ((a:Int) / 10+48).toNat,UInt8.ofNat ((a:Int)%10+48).toNat] (ykd Tryz.underlying83 ((a:Int) / 10+48) ((a:Int)%10+48) (by omega) (by omega) (by omega) (by omega) _) (by simp only[List.length_append,List.length_cons,List.length_nil,List.length_replicate]at *;omega) ?_;intro v w' ho1 hs1;replace hap:=hap.step ho1 hs1;clear ho1 hs1));first | (refine cdY ?_ ?_;focus (simp[ov, *];done)) | (refine cdN ?_ ?_;focus (simp[ov, *];done))));go_wp2_with (first | (at_builtin;refine zch rfl _ _ _ _ rfl (by decide) (by decide) zsw (hap.own.alloc _) (by simp[ov, *]) _ (by simp[ov, *]) [UInt8.ofNat (sc).toNat] (ycc Tryz.underlying83 (sc) (by omega) (by omega) _) (by simp only[List.length_append,List.length_cons,List.length_nil,List.length_replicate]at *;omega) ?_;intro v w' ho1 hs1;replace hap:=hap.step ho1 hs1;clear ho1 hs1) | (at_builtin;refine zch rfl _ _ _ _ rfl (by decide) (by decide) zsw (hap.own.alloc _) (by simp[ov, *]) _ (by simp[ov, *]) [UInt8.ofNat ((a:Int) / 10+48).toNat,UInt8.ofNat ((a:Int)%10+48).toNat] (ykd Tryz.underlying83 ((a:Int) / 10+48) ((a:Int)%10+48) (by omega) (by omega) (by omega) (by omega) _) (by simp only[List.length_append,List.length_cons,List.length_nil,List.length_replicate]at *;omega) ?_;intro v w' ho1 hs1;replace hap:=hap.step ho1 hs1;clear ho1 hs1)))
  refine yl v rfl (by decide) (by simp[yc]) ⟨v,rfl,?_,hap.stp⟩
  refine cast (congrArg (OwnB T w' v) (HFINAL.out _ (HEXP.out _ ?_))) hap.own
  rw[if_pos h100,show ((a:Int) / 10+48).toNat=48+a / 10 by omega,show ((a:Int)%10+48).toNat=48+a%10 by omega]
 ·have h100':decide ((a:Int)<100)=false:=by simp;omega
  by_cases h1000:a<1000
  ·have h1000i:(a:Int)<1000:=by omega
   ((repeat (go_wp2_with (first | (at_builtin;refine zch rfl _ _ _ _ rfl (by decide) (by decide) zsw (hap.own.alloc _) (by simp[ov, *]) _ (by simp[ov, *]) [UInt8.ofNat (sc).toNat] (ycc Tryz.underlying83 (sc) (by omega) (by omega) _) (by simp only[List.length_append,List.length_cons,List.length_nil,List.length_replicate]at *;omega) ?_;intro v w' ho1 hs1;replace hap:=hap.step ho1 hs1;clear ho1 hs1) | (at_builtin;refine zch rfl _ _ _ _ rfl (by decide) (by decide) zsw (hap.own.alloc _) (by simp[ov, *]) _ (by simp[ov, *]) [UInt8.ofNat ((a:Int) / 100+48).toNat,UInt8.ofNat ((a:Int) / 10%10+48).toNat,UInt8.ofNat ((a:Int)%10+48).toNat] (yki Tryz.underlying83 ((a:Int) / 100+48) ((a:Int) / 10%10+48) ((a:Int)%10+48) (by omega) (by omega) (by omega) (by omega) (by omega) (by omega) _) (by simp only[List.length_append,List.length_cons,List.length_nil,List.length_replicate]at *;omega) ?_;intro v w' ho1 hs1;replace hap:=hap.step ho1 hs1;clear ho1 hs1));first | (refine cdY ?_ ?_;focus (simp[ov, *];done)) | (refine cdN ?_ ?_;focus (simp[ov, *];done))));go_wp2_with (first | (at_builtin;refine zch rfl _ _ _ _ rfl (by decide) (by decide) zsw (hap.own.alloc _) (by simp[ov, *]) _ (by simp[ov, *]) [UInt8.ofNat (sc).toNat] (ycc Tryz.underlying83 (sc) (by omega) (by omega) _) (by simp only[List.length_append,List.length_cons,List.length_nil,List.length_replicate]at *;omega) ?_;intro v w' ho1 hs1;replace hap:=hap.step ho1 hs1;clear ho1 hs1) | (at_builtin;refine zch rfl _ _ _ _ rfl (by decide) (by decide) zsw (hap.own.alloc _) (by simp[ov, *]) _ (by simp[ov, *]) [UInt8.ofNat ((a:Int) / 100+48).toNat,UInt8.ofNat ((a:Int) / 10%10+48).toNat,UInt8.ofNat ((a:Int)%10+48).toNat] (yki Tryz.underlying83 ((a:Int) / 100+48) ((a:Int) / 10%10+48) ((a:Int)%10+48) (by omega) (by omega) (by omega) (by omega) (by omega) (by omega) _) (by simp only[List.length_append,List.length_cons,List.length_nil,List.length_replicate]at *;omega) ?_;intro v w' ho1 hs1;replace hap:=hap.step ho1 hs1;clear ho1 hs1)))
   refine yl v rfl (by decide) (by simp[yc]) ⟨v,rfl,?_,hap.stp⟩
   refine cast (congrArg (OwnB T w' v) (HFINAL.out _ (HEXP.out _ ?_))) hap.own
   rw[if_neg h100,if_pos h1000,show ((a:Int) / 100+48).toNat=48+a / 100 by omega,show ((a:Int) / 10%10+48).toNat=48+a / 10%10 by omega,show ((a:Int)%10+48).toNat=48+a%10 by omega]
  ·have h1000':decide ((a:Int)<1000)=false:=by simp;omega
   ((repeat (go_wp2_with (first | (at_builtin;refine zch rfl _ _ _ _ rfl (by decide) (by decide) zsw (hap.own.alloc _) (by simp[ov, *]) _ (by simp[ov, *]) [UInt8.ofNat (sc).toNat] (ycc Tryz.underlying83 (sc) (by omega) (by omega) _) (by simp only[List.length_append,List.length_cons,List.length_nil,List.length_replicate]at *;omega) ?_;intro v w' ho1 hs1;replace hap:=hap.step ho1 hs1;clear ho1 hs1) | (at_builtin;refine zch rfl _ _ _ _ rfl (by decide) (by decide) zsw (hap.own.alloc _) (by simp[ov, *]) _ (by simp[ov, *]) [UInt8.ofNat ((a:Int) / 1000+48).toNat,UInt8.ofNat ((a:Int) / 100%10+48).toNat,UInt8.ofNat ((a:Int) / 10%10+48).toNat,UInt8.ofNat ((a:Int)%10+48).toNat] (yl4 Tryz.underlying83 ((a:Int) / 1000+48) ((a:Int) / 100%10+48) ((a:Int) / 10%10+48) ((a:Int)%10+48) (by omega) (by omega) (by omega) (by omega) (by omega) (by omega) (by omega) (by omega) _) (by simp only[List.length_append,List.length_cons,List.length_nil,List.length_replicate]at *;omega) ?_;intro v w' ho1 hs1;replace hap:=hap.step ho1 hs1;clear ho1 hs1));first | (refine cdY ?_ ?_;focus (simp[ov, *];done)) | (refine cdN ?_ ?_;focus (simp[ov, *];done))));go_wp2_with (first | (at_builtin;refine zch rfl _ _ _ _ rfl (by decide) (by decide) zsw (hap.own.alloc _) (by simp[ov, *]) _ (by simp[ov, *]) [UInt8.ofNat (sc).toNat] (ycc Tryz.underlying83 (sc) (by omega) (by omega) _) (by simp only[List.length_append,List.length_cons,List.length_nil,List.length_replicate]at *;omega) ?_;intro v w' ho1 hs1;replace hap:=hap.step ho1 hs1;clear ho1 hs1) | (at_builtin;refine zch rfl _ _ _ _ rfl (by decide) (by decide) zsw (hap.own.alloc _) (by simp[ov, *]) _ (by simp[ov, *]) [UInt8.ofNat ((a:Int) / 1000+48).toNat,UInt8.ofNat ((a:Int) / 100%10+48).toNat,UInt8.ofNat ((a:Int) / 10%10+48).toNat,UInt8.ofNat ((a:Int)%10+48).toNat] (yl4 Tryz.underlying83 ((a:Int) / 1000+48) ((a:Int) / 100%10+48) ((a:Int) / 10%10+48) ((a:Int)%10+48) (by omega) (by omega) (by omega) (by omega) (by omega) (by omega) (by omega) (by omega) _) (by simp only[List.length_append,List.length_cons,List.length_nil,List.length_replicate]at *;omega) ?_;intro v w' ho1 hs1;replace hap:=hap.step ho1 hs1;clear ho1 hs1)))
   refine yl v rfl (by decide) (by simp[yc]) ⟨v,rfl,?_,hap.stp⟩
   refine cast (congrArg (OwnB T w' v) (HFINAL.out _ (HEXP.out _ ?_))) hap.own
   rw[if_neg h100,if_neg h1000,show ((a:Int) / 1000+48).toNat=48+a / 1000 by omega,show ((a:Int) / 100%10+48).toNat=48+a / 100%10 by omega,show ((a:Int) / 10%10+48).toNat=48+a / 10%10 by omega,show ((a:Int)%10+48).toNat=48+a%10 by omega]
section
def Dec (w:World) (g:Nat) (bs:List UInt8) (nd dp:Int) (ng tr:Bool):Prop:=
 bs.length=800/\Row w g (bs.map zkm++[.int .i64 nd,.int .i64 dp,.bool ng,.bool tr])
section
variable {w : World} {g : Nat} {bs : List UInt8} {nd dp : Int} {ng tr : Bool}
theorem Dec.len (h:Dec w g bs nd dp ng tr):bs.length=800:=h.1
theorem Dec.lt (h:Dec w g bs nd dp ng tr):g<w.heap.size:=h.2.lt
theorem Dec.digit (h:Dec w g bs nd dp ng tr) (i:Nat) (hi:i<800):w.cell? ⟨g,i,none⟩=some (.int .u8 ((bs.getD i 0).toNat:Int)):=by
 rw[h.2.cell,List.getElem?_append_left zv,List.getElem?_map,List.getD_eq_getElem?_getD,List.getElem?_eq_getElem (by rw[h.1];omega)];rfl
theorem Dec.cnd (h:Dec w g bs nd dp ng tr):w.cell? ⟨g,800,none⟩=some (.int .i64 nd):=by
 rw[h.2.cell,List.getElem?_append_right zv,List.length_map,h.1];rfl
theorem Dec.cdp (h:Dec w g bs nd dp ng tr):w.cell? ⟨g,801,none⟩=some (.int .i64 dp):=by
 rw[h.2.cell,List.getElem?_append_right zv,List.length_map,h.1];rfl
theorem Dec.cng (h:Dec w g bs nd dp ng tr):w.cell? ⟨g,802,none⟩=some (.bool ng):=by
 rw[h.2.cell,List.getElem?_append_right zv,List.length_map,h.1];rfl
theorem Dec.ctr (h:Dec w g bs nd dp ng tr):w.cell? ⟨g,803,none⟩=some (.bool tr):=by
 rw[h.2.cell,List.getElem?_append_right zv,List.length_map,h.1];rfl
theorem Dec.frozen (h:Dec w g bs nd dp ng tr) (i:Nat):w.frozen? ⟨g,i,none⟩=false:=h.2.frozen i
theorem Dec.grown {w':World} {row:Option Nat} (h:Dec w g bs nd dp ng tr) (hg:w.grownBy w' row) (hne:some g≠row):Dec w' g bs nd dp ng tr:=⟨h.1,h.2.grown hg hne⟩
theorem Dec.drewN (h:Dec w g bs nd dp ng tr) (n:Nat):Dec (w.drewN n) g bs nd dp ng tr:=⟨h.1,h.2.drewN n⟩
theorem Dec.drew (h:Dec w g bs nd dp ng tr):Dec w.drew g bs nd dp ng tr:=⟨h.1,h.2.drew⟩
theorem Dec.setDigit (h:Dec w g bs nd dp ng tr) (i:Nat) (hi:i<800) (c:Int) (h1:0<=c) (h2:c<256):Dec (w.setCell ⟨g,i,none⟩ (.int .u8 c)) g (bs.set i (UInt8.ofNat c.toNat)) nd dp ng tr:=by
 refine⟨by rw[List.length_set,h.1],?_⟩;have:=h.2.setCell i (.int .u8 c);rw[List.set_append_left _ _ zv,<-zo1 c h1 h2,<-List.map_set]at this;rw[zo1 c h1 h2]at this;exact this
theorem Dec.setNd (h:Dec w g bs nd dp ng tr) (x:Int):Dec (w.setCell ⟨g,800,none⟩ (.int .i64 x)) g bs x dp ng tr:=by
 refine⟨h.1,?_⟩;have:=h.2.setCell 800 (.int .i64 x);rw[List.set_append_right _ _ zv,List.length_map,h.1]at this;exact this
theorem Dec.setDp (h:Dec w g bs nd dp ng tr) (x:Int):Dec (w.setCell ⟨g,801,none⟩ (.int .i64 x)) g bs nd x ng tr:=by
 refine⟨h.1,?_⟩;have:=h.2.setCell 801 (.int .i64 x);rw[List.set_append_right _ _ zv,List.length_map,h.1]at this;exact this
theorem Dec.setTr (h:Dec w g bs nd dp ng tr) (x:Bool):Dec (w.setCell ⟨g,803,none⟩ (.bool x)) g bs nd dp ng x:=by
 refine⟨h.1,?_⟩;have:=h.2.setCell 803 (.bool x);rw[List.set_append_right _ _ zv,List.length_map,h.1]at this;exact this
end
def zbi (t:Nat) (dp:Int):Int:=if t=0 then 0 else dp
def Gr (w w':World) (g:Nat):Prop:=w.grownBy w' (some g)
theorem Gr.refl (w:World) (g:Nat):Gr w w g:=yy w _
theorem Gr.trans {w w1 w2:World} {g:Nat} (h:Gr w w1 g) (k:Gr w1 w2 g):Gr w w2 g:=yx h k (fun _ e _=>e)
theorem Gr.drewN {w w1:World} {g:Nat} (h:Gr w w1 g) (n:Nat):Gr w (w1.drewN n) g:=h.trans (yh _ _ _)
theorem Gr.drew {w w1:World} {g:Nat} (h:Gr w w1 g):Gr w w1.drew g:=h.drewN 1
theorem Gr.set {w w1:World} {g:Nat} (h:Gr w w1 g) (i:Nat) (u:Value):Gr w (w1.setCell ⟨g,i,none⟩ u) g:=h.trans (wq w1 ⟨g,i,none⟩ u)
set_option maxRecDepth 100000 in
theorem zji (g nd:Nat) (bs:List UInt8) (dp:Int) (ng tr:Bool) (w:World) (hd:Dec w g bs nd dp ng tr) (hn:nd<=800):
  Calls Tryz.prog 136 #[.pointer (some ⟨g,0,none⟩)] w fun r w'=>
   r=.returned (.tuple #[])/\Dec w' g bs (uc bs nd:Nat) (zbi (uc bs nd) dp) ng tr/\Gr w w' g:=by
 refine ye Tryz.func136 rfl (by rw[Tryz.ntmps136];simp) ?_;intro σ hσ;rw[Tryz.ntmps136];have s0:σ 0=.pointer (some ⟨g,0,none⟩):=hσ 0 zi;clear hσ;go_wp2_with fail;refine xx (fun k s' w'=>∃ n:Nat,n<=nd/\k=n/\uc bs n=uc bs nd/\s' 0=.pointer (some ⟨g,0,none⟩)/\Dec w' g bs n dp ng tr/\Gr w w' g) nd ⟨nd,Nat.le_refl _,rfl,rfl,zb,hd,Gr.refl w g⟩ ?_;clear s0 σ hd;rintro n σ wk ⟨_,hnn,rfl,hz,s0,hd,hg⟩ RK KK HRK hKK;have HZ:=zH hz;clear hz;go_upto_region 0 with fail;refine yr (fun s' w'=>s' 19=.bool (decide (uc bs n<n))/\s' 0=.pointer (some ⟨g,0,none⟩)/\Dec w' g bs n dp ng tr/\Gr w w' g) ?_ ?_
 ·intro R2 K2 HR hK2;have hlt:=hd.lt;have c1:=hd.cnd;have HDec:=zH hd;have HG:=zH hg;clear hd hg;cases n with
  | zero=>
   go_quiet (fail);go_wp2_with fail;exact got HR ⟨by simp[yc,yd,uc],zb,HDec.out.drewN _,HG.out.drewN _⟩
  | succ j=>
   have hj8:j<800:=zd;have hji:(j:Int)<800:=zd;have hwj:IntKind.i64.wrap (j:Int)=(j:Int):=zk;have c3:=HDec.out.digit j zd;rw[show ((j+1:Nat):Int)=(j:Int)+1 by omega]at c1;by_cases h48:bs.getD j 0=48
   ·have hb1:(((bs.getD j 0).toNat:Int)==48)=true:=by rw[h48];decide
    have ht:decide (uc bs (j+1)<j+1)=true:=by
     rw[uc,if_pos h48];have:=zjj bs j;simp;omega
    clear h48;generalize bs.getD j 0=c at *
    go_quiet (fail);go_wp2_with fail;exact got HR ⟨by rw[ht];simp[ov, *],zb,HDec.out.drewN _,HG.out.drewN _⟩
   ·have hb1:(((bs.getD j 0).toNat:Int)==48)=false:=by
     rw[beq_eq_false_iff_ne];intro e;apply h48;apply UInt8.toNat_inj.1;have:(48:UInt8).toNat=48:=ze;omega
    have ht:decide (uc bs (j+1)<j+1)=false:=by
     rw[uc,if_neg h48];simp
    clear h48;generalize bs.getD j 0=c at *
    go_quiet (fail);go_wp2_with fail;exact got HR ⟨by rw[ht];simp[ov, *],zb,HDec.out.drewN _,HG.out.drewN _⟩
 clear s0 σ hd hg;rintro σ w1 ⟨s19,s0,hd,hg⟩;go_wp2_with fail;have hlt:=hd.lt;have c1:=hd.cnd;have fz:=hd.frozen;have c2:=hd.cdp;have HDec:=zH hd;have HG:=zH hg;clear hd hg;refine zb0 _ (by rw[yd,s19]) ze (fun h=>?_) (fun h=>?_)
 ·have h':=of_decide_eq_true h;clear h s19;cases n with
  | zero=>exact absurd h' zd
  | succ j=>
   have hz:uc bs j=uc bs nd:=by
    rw[<-HZ.out,uc];split
    ·rfl
    ·rename_i h;rw[uc,if_neg h]at h';omega
   clear h';rw[show ((j+1:Nat):Int)=(j:Int)+1 by omega]at c1;go_wp2_with fail;exact wo HRK j zd ⟨j,zd,rfl,hz,zb,by simpa using HDec.out.setNd _,HG.out.set _ _⟩
 ·have h':=of_decide_eq_false h;have hz:uc bs nd=n:=by rw[<-HZ.out];have:=zjj bs n;omega
  have HZ2:=zH hz;clear h s19 h' hz;by_cases h0:n=0
  ·subst h0;(go_wp2_with fail;repeat ((first|refine cZ ?_|refine cW ?_);go_wp2_with fail));refine zi2 rfl ⟨rfl,?_,HG.out.set _ _⟩;rw[HZ2.out,zbi,if_pos rfl];exact HDec.out.setDp _
  ·(go_wp2_with fail;repeat ((first|refine cZ ?_|refine cW ?_);go_wp2_with fail));refine zi2 rfl ⟨rfl,?_,HG.out⟩;rw[HZ2.out,zbi,if_neg h0];exact HDec.out
end
def jt:List UInt8->List UInt8->Bool
 | _,[]=>false
 | [],_::_=>true
 | b::bs,s::ss=>if b=s then jt bs ss else decide (b.toNat<s.toNat)
theorem zlh (bs ss:List UInt8) (i:Nat) (h1:i<bs.length) (h2:i<ss.length):
  jt (bs.drop i) (ss.drop i)=if bs.getD i 0=ss.getD i 0 then jt (bs.drop (i+1)) (ss.drop (i+1)) else decide ((bs.getD i 0).toNat<(ss.getD i 0).toNat):=by
 rw[List.drop_eq_getElem_cons h1,List.drop_eq_getElem_cons h2];rw[List.getD_eq_getElem?_getD,List.getD_eq_getElem?_getD,List.getElem?_eq_getElem h1,List.getElem?_eq_getElem h2];rfl
theorem zif (bs ss:List UInt8) (i:Nat) (h1:¬i<bs.length) (h2:i<ss.length):jt (bs.drop i) (ss.drop i)=true:=by
 rw[List.drop_eq_nil_of_le zd,List.drop_eq_getElem_cons h2];rfl
theorem znf (bs ss:List UInt8) (i:Nat) (h2:¬i<ss.length):jt (bs.drop i) (ss.drop i)=false:=by
 have e:ss.drop i=[]:=List.drop_eq_nil_of_le zd;rw[e];cases bs.drop i <;> rfl
set_option maxRecDepth 100000 in
theorem zle (g nd:Nat) (bs ss:List UInt8) (dp:Int) (ng tr:Bool) (x:Int) (w:World) (hd:Dec w g bs x dp ng tr) (hn:nd<=800) (hs:ss.length<=100):
  Calls Tryz.prog 154 #[.slice (some ⟨g,0,none⟩) nd 800,.string ⟨ss.toArray⟩] w fun r w'=>
   r=.returned (.bool (jt (bs.take nd) ss))/\∃ q,w'=w.drewN q:=by
 refine ye Tryz.func154 rfl (by rw[Tryz.ntmps154];simp) ?_;intro σ hσ;rw[Tryz.ntmps154];have s0:σ 0=.slice (some ⟨g,0,none⟩) nd 800:=hσ 0 zi;have s1:σ 1=.string ⟨ss.toArray⟩:=hσ 1 zi;clear hσ;have htl:(bs.take nd).length=nd:=by rw[List.length_take,hd.len];omega
 have hsz:(⟨ss.toArray⟩:ByteArray).size=ss.length:=zm;have HTL:=zH htl;have HD:=zH hd;clear htl hd;obtain⟨N,hN⟩:=zX ss.length;rw[hN]at hsz hs;have HN:=zH hN;clear hN;go_wp2_with fail;refine xx (fun k s' w'=>∃ i:Nat,i<=N/\k=N-i/\jt ((bs.take nd).drop i) (ss.drop i)=jt (bs.take nd) ss/\s' 0=.slice (some ⟨g,0,none⟩) nd 800/\s' 1=.string ⟨ss.toArray⟩/\s' 5=.int .i64 (i:Int)/\∃ q,w'=w.drewN q) N ⟨0,Nat.zero_le _,rfl,rfl,zb,zb,zb,0,rfl⟩ ?_;clear s0 s1 σ;rintro k σ wk ⟨i,hi,rfl,hp,s0,s1,s5,q,rfl⟩ RK KK HRK hKK;have HP:=zH hp;clear hp;by_cases hiN:i<N
 ·have hiN':(i:Int)<(N:Int):=zd;by_cases hin:i<nd
  ·have hin':decide (nd<=i)=false:=zh;have hstep:=zlh (bs.take nd) ss i (by rw[HTL.out];exact hin) zn;rw[HP.out]at hstep;have HST:=zH hstep;have c1:=HD.out.digit i zd;have hgd:(bs.take nd).getD i 0=bs.getD i 0:=by
    rw[List.getD_eq_getElem?_getD,List.getD_eq_getElem?_getD,List.getElem?_take,if_pos hin]
   rw[hgd]at HST;have hidx:∀ h:i<(⟨ss.toArray⟩:ByteArray).size,(⟨ss.toArray⟩:ByteArray)[i]'h=ss.getD i 0:=by
    intro h;rw[List.getD_eq_getElem?_getD,List.getElem?_eq_getElem zn];rfl
   clear hstep hgd;have hci:(i:Int)<(nd:Int):=zd;by_cases heq:bs.getD i 0=ss.getD i 0
   ·have hst:=HST.out;rw[if_pos heq]at hst;have HST2:=zH hst;clear hst HST;rw[heq]at c1;clear heq;generalize ss.getD i 0=c at *
    (go_wp2_with fail;repeat ((first|refine cZ ?_|refine cW ?_);go_wp2_with fail));go_quiet (fail);(go_wp2_with fail;repeat ((first|refine cZ ?_|refine cW ?_);go_wp2_with fail));exact wo HRK (N-(i+1)) zd ⟨i+1,zd,rfl,HST2.out.symm,zb,zb,zj,_,rfl⟩
   ·have hst:=HST.out;rw[if_neg heq]at hst;have HST2:=zH hst;clear hst HST;have hne:(((bs.getD i 0).toNat:Int) != ((ss.getD i 0).toNat:Int))=true:=by
     rw[bne_iff_ne];intro e;exact heq (UInt8.toNat_inj.1 zd)
    clear heq;generalize ss.getD i 0=c at *
    generalize bs.getD i 0=d at *
    (go_wp2_with fail;repeat ((first|refine cZ ?_|refine cW ?_);go_wp2_with fail));go_quiet (fail);(go_wp2_with fail;repeat ((first|refine cZ ?_|refine cW ?_);go_wp2_with fail));go_quiet (fail);(go_wp2_with fail;repeat ((first|refine cZ ?_|refine cW ?_);go_wp2_with fail));refine yl (.bool (decide (d.toNat<c.toNat))) rfl ze zj ⟨by rw[HST2.out],_,by rw[World.drewN_drewN,World.drewN_drewN]⟩
  ·have hin':nd<=i:=zd;have hres:=zif (bs.take nd) ss i (by rw[HTL.out];exact hin) zn;rw[HP.out]at hres;have HRES:=zH hres;clear hres;(go_wp2_with fail;repeat ((first|refine cZ ?_|refine cW ?_);go_wp2_with fail));refine yl (.bool true) rfl ze zb ⟨by rw[HRES.out],q,rfl⟩
 ·have hiN':decide (i<N)=false:=by simpa using hiN
  have hres:=znf (bs.take nd) ss i zn;rw[HP.out]at hres;have HRES:=zH hres;clear hres;(go_wp2_with fail;repeat ((first|refine cZ ?_|refine cW ?_);go_wp2_with fail));refine yl (.bool false) rfl ze zb ⟨by rw[HRES.out],q,rfl⟩
theorem kw:yi 0=0:=rfl
theorem zc4 {d:Nat} (h:d≠0):yi d=Lib.nDigits d:=by unfold yi;rw[if_neg h]
theorem yfr {d:Nat} (h:d≠0):1<=yi d:=by rw[zc4 h];exact Lib.nDigits_pos d
theorem vg (k d:Nat) (h1:10^k<=d) (h2:d<10^(k+1)):yi d=k+1:=by
 have:0<10^k:=Nat.pow_pos zd;rw[zc4 zd];exact Lib.nDigits_unique k d h1 h2
theorem zil (d:Nat) (h:d≠0):10^(Lib.nDigits d-1)<=d:=by
 induction d using Nat.strongRecOn with
 | _ d ih=>
  by_cases h10:d<10
  ·rw[Lib.nDigits_small h10];simp;omega
  ·have h1:=ih (d / 10) zd zd;have h2:=Lib.nDigits_pos (d / 10);rw[Lib.nDigits_big h10,Nat.add_sub_cancel,show Lib.nDigits (d / 10)=(Lib.nDigits (d / 10)-1)+1 by omega,Nat.pow_succ];omega
theorem qh {d:Nat} (h:d≠0):10^(yi d-1)<=d:=by
 rw[zc4 h];exact zil d h
theorem za3 {d:Nat} (h:d≠0):yi (d*10)=yi d+1:=by
 rw[zc4 h,zc4 zd,Lib.nDigits_big zd,Nat.mul_div_cancel _ zd]
theorem zap (d n:Nat):digs d (n+1)=digs (d / 10) n++[Lib.dg d 0]:=by
 unfold digs;rw[List.range_succ,List.map_append,List.map_cons,List.map_nil];congr 1
 ·apply List.map_congr_left;intro t ht;rw[List.mem_range]at ht;rw[show n+1-1-t=(n-1-t)+1 by omega,Lib.dg_succ]
 ·rw[show n+1-1-n=0 by omega]
def zd5:List UInt8->Nat
 | []=>0
 | c::l=>(c.toNat-48)*10^l.length+zd5 l
def zd2 (c:UInt8):Prop:=48<=c.toNat/\c.toNat<=57
theorem zi3 (l:List UInt8) (c:UInt8):zd5 (l++[c])=zd5 l*10+(c.toNat-48):=by
 induction l with
 | nil=>simp[zd5]
 | cons a l ih=>
  rw[List.cons_append,zd5,ih,zd5,List.length_append,List.length_cons,List.length_nil,Nat.pow_succ];rw[Nat.add_mul];simp only[Nat.mul_assoc,Nat.add_assoc]
theorem zo2 (l:List UInt8) (h:∀ c ∈ l,zd2 c):zd5 l<10^l.length:=by
 induction l with
 | nil=>simp[zd5]
 | cons a l ih=>
  have h1:=ih fun c hc=>h c (List.mem_cons_of_mem _ hc)
  have h2:a.toNat-48<=9:=by have:=(h a (List.mem_cons_self)).2;omega
  rw[zd5,List.length_cons,Nat.pow_succ];have:(a.toNat-48)*10^l.length<=9*10^l.length:=Nat.mul_le_mul_right _ h2;omega
theorem vh (d j:Nat):(Lib.dg d j).toNat=48+d / 10^j%10:=by
 unfold Lib.dg;have:d / 10^j%10<10:=Nat.mod_lt _ zd;rw[UInt8.toNat_ofNat'];omega
theorem zrd (d j:Nat):zd2 (Lib.dg d j):=by
 have:d / 10^j%10<10:=Nat.mod_lt _ zd;unfold zd2;rw[vh];omega
theorem zeh (d n:Nat):∀ c ∈ digs d n,zd2 c:=by
 intro c hc;unfold digs at hc;rw[List.mem_map]at hc;obtain⟨t,_,rfl⟩:=hc;exact zrd _ _
theorem zhi (n d:Nat):zd5 (digs d n)=d%10^n:=by
 induction n generalizing d with
 | zero=>simp[digs,zd5,Nat.mod_one]
 | succ n ih=>
  rw[zap,zi3,ih,vh,Nat.pow_zero,Nat.div_one];rw[Nat.pow_succ,Nat.mul_comm (10^n) 10,Nat.mod_mul];omega
theorem zrr (s:List UInt8) (hs:∀ c ∈ s,zd2 c) (h0:s≠[]) (hl:s.getLast?≠some 48):0<zd5 s:=by
 induction s with
 | nil=>exact absurd rfl h0
 | cons x ss ih=>
  by_cases hss:ss=[]
  ·subst hss;have h1:=(hs x (List.mem_cons_self)).1;have h2:x.toNat≠48:=by
    intro e;apply hl;rw[List.getLast?_singleton];congr 1;exact UInt8.toNat_inj.1 e
   simp[zd5];omega
  ·have h1:=ih (fun c hc=>hs c (List.mem_cons_of_mem _ hc)) hss (by
    rw[List.getLast?_cons]at hl;cases h:ss.getLast? with
    | none=>simp
    | some c=>rw[h]at hl;simpa using hl)
   rw[zd5];omega
theorem zne (s b:List UInt8) (hs:∀ c ∈ s,zd2 c) (hb:∀ c ∈ b,zd2 c) (hl:s=[]\/s.getLast?≠some 48):
  jt b s=true↔zd5 b*10^s.length<zd5 s*10^b.length:=by
 induction s generalizing b with
 | nil=>cases b <;> simp[jt,zd5]
 | cons x ss ih=>
  have hl':(x::ss).getLast?≠some 48:=by
   rcases hl with h | h
   ·cases h
   ·exact h
  have hss:∀ c ∈ ss,zd2 c:=fun c hc=>hs c (List.mem_cons_of_mem _ hc)
  have hx:=hs x (List.mem_cons_self);cases b with
  | nil=>
   have:=zrr (x::ss) hs zi hl';simp[jt,zd5]at this ⊢;exact this
  | cons d bs=>
   have hbs:∀ c ∈ bs,zd2 c:=fun c hc=>hb c (List.mem_cons_of_mem _ hc)
   have hd:=hb d (List.mem_cons_self);have hlss:ss=[]\/ss.getLast?≠some 48:=by
    by_cases h:ss=[]
    ·exact Or.inl h
    ·refine Or.inr ?_;rw[List.getLast?_cons]at hl';cases h2:ss.getLast? with
     | none=>simp
     | some c=>rw[h2]at hl';simpa using hl'
   have v1:=zo2 ss hss;have v2:=zo2 bs hbs;have ih':=ih bs hss hbs hlss;clear ih hs hb hl hl' hlss;unfold zd2 at hx hd;rw[jt];simp only[zd5,List.length_cons];generalize zd5 ss=S at *
   generalize zd5 bs=B at *
   have p1:0<10^ss.length:=Nat.pow_pos zd;have p2:0<10^bs.length:=Nat.pow_pos zd;generalize ss.length=c at *
   generalize bs.length=n at *
   rw[Nat.pow_succ,Nat.pow_succ];obtain⟨D,hD⟩:=zX (d.toNat-48);obtain⟨X,hX⟩:=zX (x.toNat-48);rw[hD,hX];generalize 10^c=C at *
   generalize 10^n=N at *
   have e1:(D*N+B)*(C*10)=10*(D*(N*C))+10*(B*C):=by
    rw[Nat.add_mul,<-Nat.mul_assoc,<-Nat.mul_assoc,Nat.mul_assoc D N C];omega
   have e2:(X*C+S)*(N*10)=10*(X*(N*C))+10*(S*N):=by
    rw[Nat.add_mul,<-Nat.mul_assoc,<-Nat.mul_assoc,Nat.mul_assoc X C N,Nat.mul_comm C N];omega
   rw[e1,e2];have b1:B*C<N*C:=Nat.mul_lt_mul_of_pos_right v2 p1;have b2:S*N<N*C:=by rw[Nat.mul_comm N C];exact Nat.mul_lt_mul_of_pos_right v1 p2
   split
   ·rename_i h;rw[ih'];have:D=X:=by rw[<-hD,<-hX,h]
    subst this;omega
   ·rename_i h;have hne:D≠X:=by
     intro e;apply h;apply UInt8.toNat_inj.1;omega
    rw[decide_eq_true_iff];have hq:d.toNat<x.toNat↔D<X:=zd;rw[hq];constructor
    ·intro hlt;have:(D+1)*(N*C)<=X*(N*C):=Nat.mul_le_mul_right _ hlt;rw[Nat.add_mul,Nat.one_mul]at this;omega
    ·intro hlt;by_cases h:D<X
     ·exact h
     ·have:(X+1)*(N*C)<=D*(N*C):=Nat.mul_le_mul_right _ zd;rw[Nat.add_mul,Nat.one_mul]at this;omega
def zjd (k:Nat):Bool:=
 chS k==digs (5^k) (k+1-chN k)&&decide (5^k<10^(k+1-chN k))&&decide (10^(k-chN k)<=5^k)&&decide (1<=chN k)&&decide (chN k<=k)&&decide (chN k<=19)&&decide (5^k%10=5)
theorem zpi:∀ k,1<=k->k<=60->zjd k=true:=by
 have h:(List.range 61).all (fun k=>k==0 || zjd k)=true:=zp;intro k h1 h2;rw[List.all_eq_true]at h;have:=h k (List.mem_range.2 zd);simp at this;rcases this with h | h
 ·omega
 ·exact h
structure Cheat (k:Nat):Prop where
 str:chS k=digs (5^k) (k+1-chN k)
 lt:5^k<10^(k+1-chN k)
 le:10^(k-chN k)<=5^k
 pos:1<=chN k
 le_k:chN k<=k
 le19:chN k<=19
 last:5^k%10=5
theorem zhm (k:Nat) (h1:1<=k) (h2:k<=60):Cheat k:=by
 have h:=zpi k h1 h2;unfold zjd at h;simp only[Bool.and_eq_true,decide_eq_true_eq,beq_iff_eq]at h;obtain⟨⟨⟨⟨⟨⟨a,b⟩,c⟩,d⟩,e⟩,f⟩,g⟩:=h;exact⟨a,b,c,d,e,f,g⟩
theorem zho (N k:Nat) (hN:N≠0) (h1:1<=k) (h2:k<=60):
  yi (N*2^k)+(if jt (digs N (yi N)) (chS k)=true then 1 else 0)=yi N+chN k:=by
 obtain⟨hs,hlt,hle,hp,hk,h19,hlast⟩:=zhm k h1 h2;obtain⟨c,hc⟩:=zX (k-chN k);have hc1:k+1-chN k=c+1:=zd;rw[hc1]at hs hlt;rw[hc]at hle;have hL:=yfr hN;have hlow:=qh hN;have hup:=xi N;have key:jt (digs N (yi N)) (chS k)=true↔N*10^(c+1)<5^k*10^yi N:=by
  rw[hs,zne _ _ (zeh _ _) (zeh _ _) (Or.inr ?_),zhi,zhi,va,va,Nat.mod_eq_of_lt hup,Nat.mod_eq_of_lt hlt];rw[zap,List.getLast?_concat];intro e;have e2:Lib.dg (5^k) 0=48:=by simpa using e
  have:=vh (5^k) 0;rw[e2,Nat.pow_zero,Nat.div_one,hlast]at this;exact absurd this ze
 generalize yi N=L at *
 have h10:2^k*5^k=10^k:=by rw[<-Nat.mul_pow]
 have p2:0<2^k:=Nat.pow_pos zd;have hk2:k=c+chN k:=zd;have pc:0<10^c:=Nat.pow_pos zd;have pc1:0<10^(c+1):=Nat.pow_pos zd;have hA:10^(chN k-1)<2^k:=by
  refine Nat.lt_of_mul_lt_mul_right (a:=10^(c+1)) ?_;rw[<-Nat.pow_add,show chN k-1+(c+1)=k by omega,<-h10];exact Nat.mul_lt_mul_of_pos_left hlt p2
 have hB:2^k<=10^chN k:=by
  refine Nat.le_of_mul_le_mul_right ?_ pc;rw[<-Nat.pow_add,show chN k+c=k by omega,<-h10];exact Nat.mul_le_mul_left _ hle
 have hUp:N*2^k<10^(L+chN k):=by
  rw[Nat.pow_add];exact Nat.lt_of_lt_of_le (Nat.mul_lt_mul_of_pos_right hup p2) (Nat.mul_le_mul_left _ hB)
 have hLow:10^(L+chN k-2)<=N*2^k:=by
  rw[show L+chN k-2=(L-1)+(chN k-1) by omega,Nat.pow_add];exact Nat.mul_le_mul hlow (Nat.le_of_lt hA)
 have hmid:N*10^(c+1)<5^k*10^L↔N*2^k<10^(L+chN k-1):=by
  have e1:N*10^(c+1)*2^k=N*2^k*10^(c+1):=Nat.mul_right_comm _ _ _;have e2:5^k*10^L*2^k=10^(L+chN k-1)*10^(c+1):=by
   rw[Nat.mul_right_comm,Nat.mul_comm (5^k),h10,<-Nat.pow_add,<-Nat.pow_add];congr 1;omega
  rw[<-Nat.mul_lt_mul_right p2,e1,e2,Nat.mul_lt_mul_right pc1]
 rw[hmid]at key;by_cases h:jt (digs N L) (chS k)=true
 ·rw[if_pos h];have hm:=key.1 h;have hh:=vg (L+chN k-2) (N*2^k) hLow (by rw[show L+chN k-2+1=L+chN k-1 by omega];exact hm);omega
 ·rw[if_neg h];have hm:10^(L+chN k-1)<=N*2^k:=by
   have:=mt key.2 h;omega
  have hh:=vg (L+chN k-1) (N*2^k) hm (by rw[show L+chN k-1+1=L+chN k by omega];exact hUp);omega
def ziq (N k q:Nat):Nat:=N%10^q*2^k / 10^q
theorem zn8 (N k:Nat):ziq N k 0=0:=by unfold ziq;simp[Nat.mod_one]
theorem zuh (N k q:Nat):ziq N k q<2^k:=by
 unfold ziq;have p:0<10^q:=Nat.pow_pos zd;have p2:0<2^k:=Nat.pow_pos zd;rw[Nat.div_lt_iff_lt_mul p,Nat.mul_comm (2^k)];exact Nat.mul_lt_mul_of_pos_right (Nat.mod_lt _ p) p2
theorem zkf (N k q:Nat):ziq N k q+N / 10^q%10*2^k=N%10^(q+1)*2^k / 10^q:=by
 have p:0<10^q:=Nat.pow_pos zd;unfold ziq;rw[Nat.pow_succ,Nat.mod_mul,Nat.add_mul,Nat.mul_assoc,Nat.add_mul_div_left _ _ p]
theorem zn9 (N k q:Nat):ziq N k (q+1)=(ziq N k q+N / 10^q%10*2^k) / 10:=by
 rw[zkf,Nat.div_div_eq_div_mul,<-Nat.pow_succ];rfl
theorem zls (N k q:Nat):N*2^k / 10^q%10=(ziq N k q+N / 10^q%10*2^k)%10:=by
 have p:0<10^q:=Nat.pow_pos zd;rw[zkf];have e:N*2^k=N%10^(q+1)*2^k+10^q*(10*(N / 10^(q+1)*2^k)):=by
  conv=>lhs;rw[<-Nat.mod_add_div N (10^(q+1)),Nat.add_mul]
  congr 1;rw[Nat.pow_succ];simp only[Nat.mul_assoc]
 rw[e,Nat.add_mul_div_left _ _ p];omega
theorem zoa (N k L:Nat) (h:N<10^L):ziq N k L=N*2^k / 10^L:=by
 unfold ziq;rw[Nat.mod_eq_of_lt h]
theorem zut (M j x:Nat) (h:M / 10^j%10=x):UInt8.ofNat (48+x)=Lib.dg M j:=by unfold Lib.dg;rw[h]
theorem jn (l:List UInt8) (i j:Nat) (c:UInt8) (hi:i<l.length):(l.set i c).getD j 0=if i=j then c else l.getD j 0:=by
 rw[List.getD_eq_getElem?_getD,List.getElem?_set,List.getD_eq_getElem?_getD];by_cases h:i=j
 ·subst h;simp[hi]
 ·simp[h]
theorem zgk (l:List UInt8) (M n:Nat) (hn:n<=l.length) (h:∀ j,j<n->l.getD (n-1-j) 0=Lib.dg M j):l.take n=digs M n:=by
 apply List.ext_getElem
 ·rw[List.length_take,va];omega
 ·intro i h1 h2;rw[va]at h2;have:=h (n-1-i) zd;rw[show n-1-(n-1-i)=i by omega,List.getD_eq_getElem?_getD,List.getElem?_eq_getElem zd]at this;rw[List.getElem_take];simpa[digs]using this
theorem uq (l:List UInt8) (N n:Nat) (h:l.take n=digs N n) (i:Nat) (hi:i<n):l.getD i 0=Lib.dg N (n-1-i):=by
 have h1:(l.take n).getD i 0=(digs N n).getD i 0:=by rw[h]
 have h2:(digs N n).getD i 0=Lib.dg N (n-1-i):=by
  rw[List.getD_eq_getElem?_getD,List.getElem?_eq_getElem (by rw[va];exact hi)];simp[digs]
 rw[<-h2,<-h1,List.getD_eq_getElem?_getD,List.getD_eq_getElem?_getD,List.getElem?_take,if_pos hi]
theorem zps:Tryz.prog.arrayLen 150=800:=by simp[Program.arrayLen,Program.elem,Tryz.underlying150]
theorem zqi (g n:Nat) (W:World) (hn:n<=800):(Instr.sliceAt 150 (.pointer (some ⟨g,0,none⟩)) (some (.int .i64 0)) (some (.int .i64 (n:Int))) none).run Tryz.prog W=.ok (.slice (some ⟨g,0,none⟩) n 800) W:=by
 rw[run_sliceAt_array_lh W 150 ⟨g,0,none⟩ (by simp[Program.arrayLen,Program.elem,Tryz.underlying150]) .i64 .i64 0 (n:Int) zd zd (by rw[zps];omega)];go_simp
set_option maxRecDepth 100000 in
theorem yna (T g N k:Nat) (bs:List UInt8) (dp:Int) (ng tr:Bool) (w:World) (he:Env T w) (hgT:T<=g) (hd:Dec w g bs (yi N:Nat) dp ng tr) (hbs:bs.take (yi N)=digs N (yi N))
  (hN:N≠0) (hk1:1<=k) (hk2:k<=60) (hM:yi N+chN k<=800) (hp1:-2000<=dp) (hp2:dp<=2000):
  Calls Tryz.prog 137 #[.pointer (some ⟨g,0,none⟩),.int .u64 (k:Int)] w fun r w'=>
   r=.returned (.tuple #[])/\∃ bs',bs'.take (yi (N*2^k))=digs (N*2^k) (yi (N*2^k))/\
    Dec w' g bs' (uc bs' (yi (N*2^k)):Nat) (zbi (uc bs' (yi (N*2^k))) (dp+yi (N*2^k)-yi N)) ng tr/\Gr w w' g:=by
 have hch:=zho N k hN hk1 hk2;have hrow:=zhm k hk1 hk2;have hpos:=hrow.pos;have h19:=hrow.le19;obtain⟨cb,co,cc,hcbT,hcc,c0,hcells⟩:=he.cheats;have c1:=(hcells k zd).1;have c2:=(hcells k zd).2;have hsl:(chS k).length<=100:=by rw[hrow.str,va];omega
 have hlt:=hd.lt;have d1:=hd.cnd;have hTs:=he.size;have hg8:=he.glob;have hpre:=fun n:Nat=>zle g (yi N) bs (chS k) dp ng tr (yi N:Nat) (w.drewN n) (hd.drewN n) zd hsl
 rw[hbs]at hpre;have HPRE:=zH hpre;obtain⟨L,hL⟩:=zX (yi N);obtain⟨pb,hpb⟩:=zX (jt (digs N L) (chS k));rw[hL]at hM d1 hd HPRE hch hbs;rw[hpb]at hch;have hLp:1<=L:=by rw[<-hL];exact yfr hN
 have HD:=zH hd;have HBS:=zH hbs;have HCH:=zH hch;have HPB:=zH hpb;have HL:=zH hL;have hci:(k:Int)<61:=zd;clear hpre hcells hrow hd hbs hch hpb hL he;refine ye Tryz.func137 rfl (by rw[Tryz.ntmps137];simp) ?_;intro σ hσ;rw[Tryz.ntmps137];have s0:σ 0=.pointer (some ⟨g,0,none⟩):=hσ 0 zi;have s1:σ 1=.int .u64 (k:Int):=hσ 1 zi;clear hσ;have hslice:=fun W=>zqi g L W zd
 have hLi:(L:Int)<=800:=zd;go_wp2_with fail;go_quiet ((go_at_call 154;exact Calls.quiet_of (HPRE.out _)));go_wp2_with fail;obtain⟨D,hD⟩:=zX ((if pb=true then chN k-1 else chN k));have hnM:yi (N*2^k)=L+D:=by have:=HCH.out;rw[<-hD];split at this <;> simp_all <;> omega
 have hDb:D<=chN k:=by rw[<-hD];split <;> omega
 have HNM:=zH hnM;have HDD:=zH hD;clear hnM hD;refine yr (fun s' w'=>s' 4=.int .i64 (D:Int)/\s' 0=.pointer (some ⟨g,0,none⟩)/\s' 1=.int .u64 (k:Int)/\Dec w' g bs L dp ng tr/\Gr w w' g) ?_ ?_
 ·intro R2 K2 HR hK2;refine zb0 pb (by simp[yc,yd,HPB.out]) ze (fun h=>?_) (fun h=>?_)
  ·have hDi:((chN k:Nat):Int)-1=(D:Int):=by have:=HDD.out;rw[if_pos h]at this;omega
   go_wp2_with fail;exact got HR ⟨zb,zb,zb,HD.out.drewN _,(Gr.refl w g).drewN _⟩
  ·have hDi:(chN k:Int)=(D:Int):=by have:=HDD.out;rw[h]at this;simp at this;omega
   go_wp2_with fail;exact got HR ⟨zb,zb,zb,HD.out.drewN _,(Gr.refl w g).drewN _⟩
 clear s0 s1 σ HD hslice c0 c1 c2 d1 hlt hTs;rintro σ w1 ⟨s4,s0,s1,hd,hg⟩;have hlt:=hd.lt;have d1:=hd.cnd;have HD:=zH hd;have HG:=zH hg;clear hd hg;go_wp2_with fail;refine xx (fun kk s' w'=>∃ (r c:Nat) (bs':List UInt8),r<=L/\kk=r/\c=ziq N k (L-r)/\s' 5=.int .i64 ((r:Int)-1)/\s' 6=.int .i64 ((r:Int)+D)/\s' 7=.int .u64 (c:Int)/\s' 4=.int .i64 (D:Int)/\s' 0=.pointer (some ⟨g,0,none⟩)/\s' 1=.int .u64 (k:Int)/\Dec w' g bs' L dp ng tr/\Gr w w' g/\(∀ i,i<r->bs'.getD i 0=Lib.dg N (L-1-i))/\(∀ j,j<L-r->bs'.getD (L+D-1-j) 0=Lib.dg (N*2^k) j)) L
  ⟨L,0,bs,Nat.le_refl _,rfl,by rw[Nat.sub_self,zn8],zb,zb,zb,zb,zb,zb,HD.out,HG.out,fun i hi=>uq bs N L HBS.out i hi,fun j hj=>absurd hj zd⟩ ?_
 clear s0 s1 s4 σ HD HG hlt d1;rintro r σ wk ⟨_,c,bs',hr,rfl,hc,s5,s6,s7,s4,s0,s1,hd,hg,hun,hwr⟩ RK KK HRK hKK;have HC:=zH hc;have HUN:=zH hun;have HWR:=zH hwr;have HD:=zH hd;have HG:=zH hg;have hlt:=hd.lt;have fz:=hd.frozen;have hcb:c<2^k:=by rw[hc];exact zuh _ _ _
 have hk60:2^k<=2^60:=Nat.pow_le_pow_right zd hk2;clear hc hun hwr hd hg;cases r with
 | zero=>
  rw[show ((0:Nat):Int)-1=-1 by omega]at s5;rw[show ((0:Nat):Int)+(D:Int)=(D:Int) by omega]at s6;have hfull:=zoa N k L (by have:=xi N;rw[HL.out]at this;exact this);have hc0:c=N*2^k / 10^L:=by rw[<-hfull];exact HC.out
  obtain⟨M,hMd⟩:=zX (N*2^k);have hMlt:M<10^(L+D):=by have:=xi (N*2^k);rw[HNM.out,hMd]at this;exact this
  rw[hMd]at hc0;have HMD:=zH hMd;have HC0:=zH hc0;have HML:=zH hMlt;have hwr:∀ j,j<L->bs'.getD (L+D-1-j) 0=Lib.dg M j:=by rw[<-hMd];exact HWR.out
  have HWR2:=zH hwr;clear hfull hc0 hMd hMlt hwr HC HWR HUN;(go_wp2_with fail;repeat ((first|refine cZ ?_|refine cW ?_);go_wp2_with fail));refine xx (fun kk s' w'=>∃ (t c:Nat) (bs':List UInt8),t<=D/\kk=c/\c=M / 10^(L+t)/\c<2^60/\s' 6=.int .i64 ((D:Int)-t)/\s' 7=.int .u64 (c:Int)/\s' 4=.int .i64 (D:Int)/\s' 0=.pointer (some ⟨g,0,none⟩)/\Dec w' g bs' L dp ng tr/\Gr w w' g/\(∀ j,j<L+t->bs'.getD (L+D-1-j) 0=Lib.dg M j)) c
   ⟨0,c,bs',Nat.zero_le _,rfl,HC0.out,zd,zb,zb,zb,zb,HD.out,HG.out,HWR2.out⟩ ?_
  clear s0 s1 s4 s5 s6 s7 σ HD HG HWR2 HC0 hlt fz hcb;rintro c' σ wl ⟨t,_,bs2,ht,rfl,hc,hcb,s6,s7,s4,s0,hd,hg,hwr⟩ RL KL HRL hKL;have HC:=zH hc;have HWR:=zH hwr;have HD:=zH hd;have HG:=zH hg;have hlt:=hd.lt;have fz:=hd.frozen;clear hc hwr hd hg;by_cases hz:c'=0
  ·have htD:t=D:=by
    have h1:M<10^(L+t):=by
     have:=HC.out;rw[hz]at this;have p:0<10^(L+t):=Nat.pow_pos zd;rcases Nat.lt_or_ge M (10^(L+t)) with h | h
     ·exact h
     ·have:=Nat.div_pos h p;omega
    have hM0:M≠0:=by
     rw[<-HMD.out];exact Nat.mul_ne_zero hN (Nat.ne_of_gt (Nat.pow_pos zd))
    have h2:=qh hM0;rw[<-HMD.out,HNM.out,HMD.out]at h2;have h3:10^(L+D-1)<10^(L+t):=Nat.lt_of_le_of_lt h2 h1;have h4:=(Nat.pow_lt_pow_iff_right (by omega:1<10)).1 h3;omega
   subst hz;have htk:bs2.take (L+D)=digs M (L+D):=zgk bs2 M (L+D) (by rw[HD.out.len];omega) (fun j hj=>HWR.out j zd);have HTK:=zH htk;have d1:=HD.out.cnd;have d2:=HD.out.cdp;have htrim:=fun (n:Nat) (W:World) (dp':Int) (hdd:Dec W g bs2 n dp' ng tr) (hn:n<=800)=>zji g n bs2 dp' ng tr W hdd hn
   have HTR:=zH htrim;clear htk htrim HC;go_wp2_with fail;refine kj zb ze ?_;go_wp2_with fail;have hd2:Dec (wl.setCell ⟨g,800,none⟩ (.int .i64 ((L:Int)+D))) g bs2 ((L+D:Nat):Int) dp ng tr:=by
    have:=HD.out.setNd ((L:Int)+D);rw[show ((L+D:Nat):Int)=(L:Int)+D by omega];exact this
   have hg2:=HG.out.set 800 (.int .i64 ((L:Int)+D));have HD2:=zH hd2;have HG2:=zH hg2;generalize wl.setCell ⟨g,800,none⟩ (.int .i64 ((L:Int)+D))=w5 at *
   have hlt5:=hd2.lt;have fz5:=hd2.frozen;have e1:=hd2.cnd;clear hd2 hg2 HD HG hlt fz d1 d2;refine yr (fun s' w'=>s' 0=.pointer (some ⟨g,0,none⟩)/\s' 4=.int .i64 (D:Int)/\Dec w' g bs2 ((L+D:Nat):Int) dp ng tr/\Gr w w' g) ?_ ?_
   ·intro R2 K2 HR hK2;by_cases h8:L+D=800
    ·have h8i:(800:Int)<=(L:Int)+D:=zd;refine jq zb ze ?_;go_wp2_with fail;refine got HR ⟨zb,zb,?_,HG2.out.set _ _⟩;have:=HD2.out.setNd 800;rw[show ((L+D:Nat):Int)=800 by omega];exact this
    ·have h8i:decide ((800:Int)<=(L:Int)+D)=false:=zh;refine kj zb ze ?_;go_wp2_with fail;exact got HR ⟨zb,zb,HD2.out,HG2.out⟩
   clear s0 s4 s6 s7 σ HD2 HG2 hlt5 fz5 e1;rintro σ w6 ⟨s0,s4,hd,hg⟩;have hlt:=hd.lt;have fz:=hd.frozen;have d2:=hd.cdp;have hd3:=fun x=>hd.setDp x
   have HD3:=zH hd3;have HG3:=zH hg;clear hd hg hd3;go_wp2_with fail;refine (HTR.out (L+D) _ _ (HD3.out _) zd).mono ?_;rintro e w7 ⟨rfl,hd7,hg7⟩;go_wp2_with fail;refine zi2 rfl ⟨rfl,bs2,?_,?_,?_⟩
   ·rw[HMD.out,<-HMD.out,HNM.out,HMD.out];exact HTK.out
   ·rw[HNM.out,HL.out];rw[show dp+((L+D:Nat):Int)-(L:Int)=dp+(D:Int) by omega];exact hd7
   ·exact (HG3.out.set _ _).trans hg7
  ·have htD:t<D:=by
    have hc:=HC.out;have h1:10^(L+t)<=M:=by
     rcases Nat.lt_or_ge M (10^(L+t)) with h | h
     ·rw[Nat.div_eq_of_lt h]at hc;omega
     ·exact h
    have h3:10^(L+t)<10^(L+D):=Nat.lt_of_le_of_lt h1 HML.out;have h4:=(Nat.pow_lt_pow_iff_right (by omega:1<10)).1 h3;omega
   obtain⟨W,hW⟩:=zX (D-t-1);have hWb:W<800:=zd;have hWi:(W:Int)<800:=zd;rw[show (D:Int)-(t:Int)=(W:Int)+1 by omega]at s6;have hdW:∃ v,wl.cell? ⟨g,W,none⟩=some v:=⟨_,HD.out.digit W hWb⟩;obtain⟨vW,hvW⟩:=hdW;have hzi:0<c':=zd;have hnn:IntKind.u64.wrap (c':Int)=(c':Int):=zl;have HW:=zH hW;clear hW;(go_wp2_with fail;repeat ((first|refine cZ ?_|refine cW ?_);go_wp2_with fail));have hlen:bs2.length=800:=HD.out.len;have hc:=HC.out;refine wo HRL (c' / 10) zd ⟨t+1,c' / 10,bs2.set W (UInt8.ofNat ((c':Int)-10*((c':Int) / 10)+48).toNat),zd,rfl,?_,zd,?_,zj,zb,zb,HD.out.setDigit W hWb _ zd zd,HG.out.set _ _,?_⟩
   ·rw[hc,Nat.div_div_eq_div_mul,<-Nat.pow_succ];rfl
   ·have:(D:Int)-((t+1:Nat):Int)=(W:Int):=by have:=HW.out;omega
    rw[this];simp[yc,yd]
   ·intro j hj;rw[jn _ _ _ _ zd];by_cases hjq:j=L+t
    ·rw[hjq,if_pos (by have:=HW.out;omega),show ((c':Int)-10*((c':Int) / 10)+48).toNat=48+c'%10 by omega];exact zut _ _ _ (by rw[<-hc])
    ·rw[if_neg (by have:=HW.out;omega)];exact HWR.out j zd
 | succ r=>
  obtain⟨q,hq⟩:=zX (L-(r+1));obtain⟨x,hx⟩:=zX (N / 10^q%10);have hx9:x<=9:=by rw[<-hx];have:N / 10^q%10<10:=Nat.mod_lt _ zd;omega
  have d1:=HD.out.digit r zd;rw[HUN.out r zd,show L-1-r=q by omega,vh,hx,show ((48+x:Nat):Int)=48+(x:Int) by omega]at d1;obtain⟨y,hy⟩:=zX (x*2^k);have hyb:y<=9*2^60:=by rw[<-hy];exact Nat.mul_le_mul hx9 hk60
  have hyi:IntKind.u64.wrap ((x:Int)*2^k)=(y:Int):=by
   have:(x:Int)*2^k=(y:Int):=by rw[<-hy];simp
   rw[this,IntKind.wrap_u64];omega
  obtain⟨n,hn⟩:=zX (c+y);have hnb:n<18446744073709551616:=zd;have hni:(c:Int)+(y:Int)=(n:Int):=zd;obtain⟨W,hW⟩:=zX (r+D);have hWb:W<800:=zd;have hWi:(W:Int)<800:=zd;rw[show ((r+1:Nat):Int)-1=(r:Int) by omega]at s5;rw[show ((r+1:Nat):Int)+(D:Int)=(W:Int)+1 by omega]at s6;have hri:(r:Int)<800:=zd;have HX:=zH hx;have HY:=zH hy;have HQ:=zH hq;have HN:=zH hn;have HW:=zH hW;clear hx hy hq hn hW;have hdW:∃ v,wk.cell? ⟨g,W,none⟩=some v:=⟨_,HD.out.digit W hWb⟩;obtain⟨vW,hvW⟩:=hdW;have h48:(48:Int)+(x:Int)-48=(x:Int):=zd;have hnn:IntKind.u64.wrap (n:Int)=(n:Int):=zl;(go_wp2_with fail;repeat ((first|refine cZ ?_|refine cW ?_);go_wp2_with fail));have hcq:c=ziq N k q:=by have:=HC.out;rw[HQ.out]at this;exact this
  have hnq:ziq N k q+N / 10^q%10*2^k=n:=by rw[HX.out,HY.out,<-hcq,HN.out]
  have hLr:L-r=q+1:=by have:=HQ.out;omega
  have hWq:L+D-1-q=W:=by have:=HQ.out;have:=HW.out;omega
  have hlen:bs'.length=800:=HD.out.len;refine wo HRK r zd ⟨r,n / 10,bs'.set W (UInt8.ofNat ((n:Int)-10*((n:Int) / 10)+48).toNat),zd,rfl,?_,zb,?_,zj,zb,zb,zb,HD.out.setDigit W hWb _ zd zd,HG.out.set _ _,?_,?_⟩
  ·rw[hLr,zn9,hnq]
  ·have:(r:Int)+(D:Int)=(W:Int):=by have:=HW.out;omega
   rw[this];simp[yc,yd]
  ·intro i hi;rw[jn _ _ _ _ zd,if_neg (by have:=HW.out;omega)];exact HUN.out i zd
  ·intro j hj;rw[hLr]at hj;rw[jn _ _ _ _ zd];by_cases hjq:j=q
   ·rw[hjq,if_pos hWq.symm,show ((n:Int)-10*((n:Int) / 10)+48).toNat=48+n%10 by omega];exact zut _ _ _ (by rw[zls,hnq])
   ·rw[if_neg (by have:=HQ.out;have:=HW.out;omega)];exact HWR.out j (by rw[HQ.out];omega)
def tz (M:Nat):Nat:=if M%10=0/\M≠0 then tz (M / 10)+1 else 0
termination_by M
decreasing_by omega
def zga (M:Nat):Nat:=M / 10^tz M
theorem zmi {M:Nat} (h:M%10=0) (h0:M≠0):tz M=tz (M / 10)+1:=by rw[tz,if_pos ⟨h,h0⟩]
theorem ztd {M:Nat} (h:M%10≠0):tz M=0:=by rw[tz,if_neg (fun e=>h e.1)]
theorem zf3 {M:Nat} (h:M%10=0) (h0:M≠0):zga M=zga (M / 10):=by
 unfold zga;rw[zmi h h0,Nat.pow_succ,Nat.mul_comm,Nat.div_div_eq_div_mul]
theorem zi8 {M:Nat} (h:M%10≠0):zga M=M:=by unfold zga;rw[ztd h];simp
theorem zar (M:Nat) (h0:M≠0):zga M*10^tz M=M/\zga M%10≠0:=by
 induction M using Nat.strongRecOn with
 | _ M ih=>
  by_cases h:M%10=0
  ·have h1:=ih (M / 10) zd zd;rw[zf3 h h0,zmi h h0,Nat.pow_succ,<-Nat.mul_assoc,h1.1];exact⟨zd,h1.2⟩
  ·rw[zi8 h,ztd h];simp;omega
theorem zpc (M:Nat) (h0:M≠0):zga M≠0:=by
 have:=(zar M h0).2;intro e;rw[e]at this;simp at this
theorem yod {A B a b:Nat} (h:A*10^a=B*10^b) (hA:A%10≠0) (hB:B%10≠0):A=B/\a=b:=by
 induction a generalizing b with
 | zero=>
  cases b with
  | zero=>simp at h;exact⟨h,rfl⟩
  | succ b=>rw[Nat.pow_zero,Nat.mul_one,Nat.pow_succ,<-Nat.mul_assoc]at h;omega
 | succ a ih=>
  cases b with
  | zero=>rw[Nat.pow_zero,Nat.mul_one,Nat.pow_succ,<-Nat.mul_assoc]at h;omega
  | succ b=>
   rw[Nat.pow_succ,Nat.pow_succ,<-Nat.mul_assoc,<-Nat.mul_assoc]at h;have:=ih (Nat.eq_of_mul_eq_mul_right zd h);exact⟨this.1,by rw[this.2]⟩
theorem yme {A a M:Nat} (h:A*10^a=M) (hA:A%10≠0):zga M=A/\tz M=a:=by
 have h0:M≠0:=by
  rw[<-h];exact Nat.mul_ne_zero (by intro e;rw[e]at hA;simp at hA) (Nat.ne_of_gt (Nat.pow_pos zd))
 have:=zar M h0;exact yod (this.1.trans h.symm) this.2 hA
theorem znx (M:Nat) (h0:M≠0):yi (zga M)+tz M=yi M:=by
 induction M using Nat.strongRecOn with
 | _ M ih=>
  by_cases h:M%10=0
  ·have h1:=ih (M / 10) zd zd;have h2:=za3 (d:=M / 10) zd;rw[show M / 10*10=M by omega]at h2;rw[zf3 h h0,zmi h h0];omega
  ·rw[zi8 h,ztd h,Nat.add_zero]
theorem zdo (M:Nat):Lib.dg M 0=48↔M%10=0:=by
 have:=vh M 0;rw[Nat.pow_zero,Nat.div_one]at this;constructor
 ·intro e;rw[e]at this;have h:(48:UInt8).toNat=48:=by decide
  omega
 ·intro e;apply UInt8.toNat_inj.1;rw[this,e];rfl
theorem zbj (l:List UInt8) (M n:Nat) (h:l.take (n+1)=digs M (n+1)):l.take n=digs (M / 10) n/\l.getD n 0=Lib.dg M 0:=by
 constructor
 ·have h1:(l.take (n+1)).take n=(digs M (n+1)).take n:=by rw[h]
  rw[List.take_take,Nat.min_eq_left zd,zap,List.take_append_of_le_length (by rw[va];omega),List.take_of_length_le (l:=digs (M / 10) n) (by rw[va];omega)]at h1;exact h1
 ·have:=uq l M (n+1) h n zd;rw[this];congr 1;omega
theorem zk3 (bs:List UInt8) (M:Nat) (h0:M≠0) (h:bs.take (yi M)=digs M (yi M)):
  uc bs (yi M)=yi (zga M)/\bs.take (yi (zga M))=digs (zga M) (yi (zga M)):=by
 induction M using Nat.strongRecOn with
 | _ M ih=>
  obtain⟨n,hn⟩:∃ n,yi M=n+1:=⟨yi M-1,by have:=yfr h0;omega⟩;by_cases hz:M%10=0
  ·have h2:=za3 (d:=M / 10) zd;rw[show M / 10*10=M by omega,hn]at h2;have h3:yi (M / 10)=n:=zd;rw[hn]at h;have h4:=zbj bs M n h;have h1:=ih (M / 10) zd zd (by rw[h3];exact h4.1);rw[zf3 hz h0,hn,uc,if_pos (by rw[h4.2,zdo];exact hz),<-h3];exact h1
  ·rw[zi8 hz];refine⟨?_,h⟩;rw[hn]at h ⊢;have h4:=zbj bs M n h;rw[uc,if_neg (by rw[h4.2,zdo];exact hz)]
theorem znw (a b:Nat) (h:a<=b):yi a<=yi b:=by
 by_cases h0:a=0
 ·subst h0;rw[kw];exact Nat.zero_le _
 ·have h1:=qh h0;have h2:=xi b;have h3:=(Nat.pow_lt_pow_iff_right (by omega:1<10)).1 (Nat.lt_of_le_of_lt h1 (Nat.lt_of_le_of_lt h h2));have:=yfr h0;omega
structure DecN (w:World) (g N:Nat) (p:Int) (ng:Bool):Prop where
 ne:N%10≠0
 dec:∃ bs,bs.take (yi N)=digs N (yi N)/\Dec w g bs (yi N:Nat) (p+yi N) ng false
theorem DecN.of_trim {w:World} {g M:Nat} {p:Int} {ng:Bool} {bs:List UInt8} {dp:Int} (h0:M≠0) (h:bs.take (yi M)=digs M (yi M))
  (hd:Dec w g bs (uc bs (yi M):Nat) (zbi (uc bs (yi M)) dp) ng false) (hp:dp=p+yi M):DecN w g (zga M) (p+tz M) ng:=by
 obtain⟨h1,h2⟩:=zk3 bs M h0 h;have h3:=znx M h0;refine⟨(zar M h0).2,bs,h2,?_⟩;rw[h1]at hd;have h4:zbi (yi (zga M)) dp=p+tz M+yi (zga M):=by
  have:=yfr (zpc M h0);unfold zbi;rw[if_neg zd,hp];omega
 rw[h4]at hd;exact hd
end Go.Proofs.YtnifedmhgncioaaGreatDoor
