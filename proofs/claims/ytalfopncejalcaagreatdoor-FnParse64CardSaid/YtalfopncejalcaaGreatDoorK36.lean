/- Lemmas that the claim's top text leans on. No condition of their own. -/
import Derived.Test.YtalfopncejalcaaGreatDoorK35
import Derived.Laws.StructEq
namespace Go.Proofs.YtalfopncejalcaaGreatDoor
open Go.RowKit
set_option linter.unusedSimpArgs false
set_option linter.unusedVariables false
set_option maxHeartbeats 16000000
section
attribute [local go_sem] undef
set_option maxRecDepth 100000 in
theorem zwo (a a':Int) (b c b' c':ByteArray) (w:World):(binOp .eql 28 (.agg #[.int .i64 a,.string b,.string c]) (.agg #[.int .i64 a',.string b',.string c'])).run Tryz.prog w=
  .ok (.bool (a==a'&&(b.toList==b'.toList&&c.toList==c'.toList))) w:=by
 have hp:Tryz.prog.stoodInHeld 28=false:=zg
 have hu:=Tryz.underlying28
 have hf:Tryz.prog.fieldsOf 28=(match Tryz.prog.underlying 28 with | some (.struct fs)=>fs | _=>#[]):=rfl
 rw[hu]at hf
 dsimp only at hf
 rw[run_eql_struct,run_equalIn_agg _ _ _ _ _ (by rw[hu,hf]) hp,hf]
 have hi:=Tryz.underlying3
 have hs:=Tryz.underlying9
 cases h1:(a==a') <;> cases h2:(b.toList==b'.toList) <;> cases h3:(c.toList==c'.toList) <;> simp[Op.eqFields,part,hi,hs,h1,h2,h3,run_equalIn_int,run_equalIn_string]
theorem zi0 (a:Int) (b c:ByteArray) (w:World):(binOp .eql 28 (.agg #[.int .i64 a,.string b,.string c]) (.agg #[.int .i64 a,.string b,.string c])).run Tryz.prog w=.ok (.bool true) w:=by
 rw[zwo]
 simp
set_option maxRecDepth 100000 in
theorem zje (k:Int) (b c:ByteArray) (w:World) (hk:(k=0∧b=⟨#[]⟩∧c=⟨#[]⟩)∨k≠0) (nm tx:ByteArray) (hn:k≠0→nm=b∧tx=c):
  Calls Tryz.prog 18 #[.agg #[.int .i64 k,.string b,.string c],.int .i64 k,.string nm,.string tx] w fun e w'=>e=.returned (.bool true)∧w.grownBy w' none:=by
 have hq:=fun W=>zi0 k b c W
 obtain⟨B,hB⟩:=zX w.heap.size
 obtain⟨w1,hw1⟩:=zX (w.alloc (.cells #[.int .i64 k,.string b,.string c] 28))
 have HG1:=zH (show w.grownBy w1 none by rw[←hw1];exact World.grownBy_alloc w _ none)
 have HO:=zH (show Row w1 B [.int .i64 k,.string b,.string c] by rw[←hw1,←hB];exact Row.new w _ _)
 have o0:=HO.out.cell 0
 have o1:=HO.out.cell 1
 have o2:=HO.out.cell 2
 simp only[List.getElem?_cons_zero,List.getElem?_cons_succ]at o0 o1 o2
 refine ye Tryz.func18 rfl (by rw[Tryz.ntmps18];simp) ?_
 intro σ hσ
 rw[Tryz.ntmps18]
 have s0:σ 0=.agg #[.int .i64 k,.string b,.string c]:=hσ 0 zi
 have s1:σ 1=.int .i64 k:=hσ 1 zi
 have s2:σ 2=.string nm:=hσ 2 zi
 have s3:σ 3=.string tx:=hσ 3 zi
 clear hσ
 go_upto_region 1 with fail
 clear hw1 hB
 rcases hk with⟨rfl,rfl,rfl⟩ | hk
 ·clear hn
  (go_wp2_with fail;repeat ((first|refine cZ ?_|refine cW ?_);go_wp2_with fail))
  exact yl (.bool true) rfl ze zb ⟨rfl,HG1.out⟩
 ·obtain⟨rfl,rfl⟩:=hn hk
  have hk':(k==0)=false:=by rw[beq_eq_false_iff_ne];exact hk
  clear hn hk
  (go_wp2_with fail;repeat ((first|refine cZ ?_|refine cW ?_);go_wp2_with fail))
  exact yl (.bool true) rfl ze zb ⟨rfl,HG1.out⟩
set_option maxRecDepth 100000 in
theorem ze6 (a b:Nat) (w:World) (ha:a<18446744073709551616) (hb:b<18446744073709551616)
  (h:a=b∨(kn 9218868437227405312 9223372036854775808 a=2∧kn 9218868437227405312 9223372036854775808 b=2)):
  Calls Tryz.prog 19 #[.int .u64 (a:Int),.int .u64 (b:Int)] w fun e w'=>e=.returned (.bool true)∧w=w':=by
 have HK1:=zH (fun W=>za7 a W ha)
 have HK2:=zH (fun W=>za7 b W hb)
 refine ye Tryz.func19 rfl (by rw[Tryz.ntmps19];simp) ?_
 intro σ hσ
 rw[Tryz.ntmps19]
 have s0:σ 0=.int .u64 (a:Int):=hσ 0 zi
 have s1:σ 1=.int .u64 (b:Int):=hσ 1 zi
 clear hσ ha hb
 by_cases hab:a=b
 ·subst hab
  have e1:((a:Int)==(a:Int))=true:=zi
  clear h
  (go_wp2_with fail;repeat ((first|refine cZ ?_|refine cW ?_);go_wp2_with fail))
  exact yl (.bool true) rfl ze zb ⟨rfl,rfl⟩
 ·obtain⟨h1,h2⟩:kn 9218868437227405312 9223372036854775808 a=2∧kn 9218868437227405312 9223372036854775808 b=2:=h.resolve_left hab
  rw[h1]at HK1
  rw[h2]at HK2
  have e1:((a:Int)==(b:Int))=false:=zf
  have e2:(a==b)=false:=by rw[beq_eq_false_iff_ne];exact hab
  have HAB:=zH hab
  clear h h1 h2 hab
  (go_wp2_with fail;repeat ((first|refine cZ ?_|refine cW ?_);go_wp2_with fail))
  refine (HK1.out _).mono ?_
  rintro e w7 ⟨rfl,rfl⟩
  (go_wp2_with fail;repeat ((first|refine cZ ?_|refine cW ?_);go_wp2_with fail))
  refine (HK2.out _).mono ?_
  rintro e w7 ⟨rfl,rfl⟩
  (go_wp2_with fail;repeat ((first|refine cZ ?_|refine cW ?_);go_wp2_with fail))
  exact yl (.bool true) rfl ze zb ⟨rfl,rfl⟩
end
section
attribute [local go_sem] undef
set_option maxRecDepth 100000 in
theorem zfs (T:Nat) (s:List UInt8) (w:World) (he:EnvP T w) (hbig:s.length<9223372036854775808):
  Calls Tryz.prog 3 #[.string ⟨s.toArray⟩] w fun e w'=>e=.returned (.bool true)∧w.grownBy w' none:=by
 have HE:=zH he
 clear he
 refine ye Tryz.func3 rfl (by rw[Tryz.ntmps3];simp) ?_
 intro σ hσ
 rw[Tryz.ntmps3]
 have s0:σ 0=.string ⟨s.toArray⟩:=hσ 0 zi
 clear hσ
 have hsz:(⟨s.toArray⟩:ByteArray).size=s.length:=zm
 by_cases hs:s.length≤800
 case neg=>
  obtain⟨N,hN⟩:=zX s.length
  rw[hN]at hsz hs hbig
  have h1:decide ((800:Int)<(N:Int))=true:=zh
  have h2:decide (800<N)=true:=zh
  have h3:(800:Int)<(N:Int):=zd
  clear hN hs
  (go_wp2_with fail;repeat ((first|refine cZ ?_|refine cW ?_);go_wp2_with fail))
  exact yl (.bool true) rfl ze zb ⟨rfl,World.grownBy.refl w none⟩
 have HCO:=zH (fun W=>zl6 s W zd)
 have HIT:=zH (fun W=>zit 971 1024 rfl rfl s W hs)
 have HPB:=zH (fun W=>zc0 s W hs)
 have HPF:=zH (fun W (h:EnvP T W)=>zhd T s W h hs)
 have HSL:=zH hs
 obtain⟨N,hN⟩:=zX s.length
 rw[hN]at hsz hs hbig
 have h1:decide ((800:Int)<(N:Int))=false:=zh
 have h2:decide (800<N)=false:=zh
 have h3:¬(800:Int)<(N:Int):=zd
 clear hN hs
 (go_wp2_with fail;repeat ((first|refine cZ ?_|refine cW ?_);go_wp2_with fail))
 refine (HCO.out _).mono ?_
 rintro e w1 ⟨⟨c,rfl⟩,hg1⟩
 have HG1:=zH hg1
 clear hg1 HCO
 cases c
 case true=>
  (go_wp2_with fail;repeat ((first|refine cZ ?_|refine cW ?_);go_wp2_with fail))
  exact yl (.bool true) rfl ze zb ⟨rfl,HG1.out⟩
 (go_wp2_with fail;repeat ((first|refine cZ ?_|refine cW ?_);go_wp2_with fail))
 refine (HIT.out _).mono ?_
 rintro e w2 ⟨⟨c,rfl,-⟩,hg2⟩
 have HG2:=zH (ym HG1.out hg2)
 clear hg2 HIT
 cases c
 case true=>
  (go_wp2_with fail;repeat ((first|refine cZ ?_|refine cW ?_);go_wp2_with fail))
  exact yl (.bool true) rfl ze zb ⟨rfl,HG2.out⟩
 (go_wp2_with fail;repeat ((first|refine cZ ?_|refine cW ?_);go_wp2_with fail))
 refine (HPB.out _).mono ?_
 rintro e w3 ⟨rfl,hg3⟩
 have HG3:=zH (ym HG2.out hg3)
 clear hg3 HPB h1 h2 h3
 (go_wp2_with fail;repeat ((first|refine cZ ?_|refine cW ?_);go_wp2_with fail))
 refine (HPF.out _ (HE.out.grown HG3.out (fun _ e=>zL))).mono ?_
 rintro e w4 ⟨⟨v,k,rfl,hp⟩,hg4⟩
 have HG4:=zH (ym HG3.out hg4)
 have hvl:v<18446744073709551616:=hp.lt
 have hkl:k≤2:=by exact hp.le
 obtain⟨hk,hv,hbl⟩:=zrc hp
 rw[←hk]
 obtain⟨q,hq⟩:=zX (zdy s)
 rw[hq]at hv hbl ⊢
 clear hg4 HPF hk hq hp
 obtain⟨fb,fc,hfa,hf0⟩:∃ fb fc:ByteArray,zp1 s k=[.int .i64 (k:Int),.string fb,.string fc]∧(((k:Int)=0∧fb=⟨#[]⟩∧fc=⟨#[]⟩)∨(k:Int)≠0)∧((k:Int)≠0→wn=fb∧(⟨s.toArray⟩:ByteArray)=fc):=by
  unfold zp1
  by_cases h:k=0
  ·subst h
   exact⟨_,_,by rw[if_pos rfl];rfl,Or.inl ⟨rfl,rfl,rfl⟩,fun h=>absurd rfl h⟩
  ·exact⟨_,_,by rw[if_neg h],Or.inr zd,fun _=>⟨rfl,rfl⟩⟩
 have HAG:=zH (fun W=>zje (k:Int) fb fc W hf0.1 wn ⟨s.toArray⟩ hf0.2)
 have HSB:=zH (fun (h:k≠1) W=>ze6 v q W hvl hbl (hv h))
 rw[hfa]
 obtain⟨B,hB⟩:=zX w4.heap.size
 obtain⟨w5,hw5⟩:=zX (w4.alloc (.cells #[.int .i64 (k:Int),.string fb,.string fc] 28))
 have HG5:=zH (show w.grownBy w5 none by rw[←hw5];exact ym HG4.out (World.grownBy_alloc w4 _ none))
 have HO:=zH (show Row w5 B [.int .i64 (k:Int),.string fb,.string fc] by rw[←hw5,←hB];exact Row.new w4 _ _)
 have HW5:=zH hw5
 have HBE:=zH hB
 clear hw5 hB hfa hf0 hv
 go_upto_region 5 with fail
 rw[HW5.out,HBE.out]
 have o0:=HO.out.cell 0
 have o1:=HO.out.cell 1
 have o2:=HO.out.cell 2
 simp only[List.getElem?_cons_zero,List.getElem?_cons_succ]at o0 o1 o2
 (go_wp2_with fail;repeat ((first|refine cZ ?_|refine cW ?_);go_wp2_with fail))
 refine (HAG.out _).mono ?_
 rintro e w6 ⟨rfl,hg6⟩
 have HG6:=zH (ym HG5.out hg6)
 clear hg6 HAG o0 o1 o2
 by_cases hk1:k=1
 ·subst hk1
  (go_wp2_with fail;repeat ((first|refine cZ ?_|refine cW ?_);go_wp2_with fail))
  exact yl (.bool true) rfl ze zb ⟨rfl,HG6.out⟩
 ·have HS:=zH (HSB.out hk1 w6)
  have e1:((k:Int)==1)=false:=zf
  have e2:(k==1)=false:=by rw[beq_eq_false_iff_ne];exact hk1
  clear hk1 HSB
  (go_wp2_with fail;repeat ((first|refine cZ ?_|refine cW ?_);go_wp2_with fail))
  refine HS.out.mono ?_
  rintro e w7 ⟨rfl,rfl⟩
  (go_wp2_with fail;repeat ((first|refine cZ ?_|refine cW ?_);go_wp2_with fail))
  exact yl (.bool true) rfl ze zb ⟨rfl,HG6.out⟩
end
section
attribute [local go_sem] undef
set_option maxRecDepth 100000 in
theorem zyl (T:Nat) (s:List UInt8) (w:World) (he:EnvP T w) (hbig:s.length<9223372036854775808):
  Calls Tryz.prog 4 #[.string ⟨s.toArray⟩] w fun e w'=>e=.returned (.bool true)∧w.grownBy w' none:=by
 have HE:=zH he
 clear he
 refine ye Tryz.func4 rfl (by rw[Tryz.ntmps4];simp) ?_
 intro σ hσ
 rw[Tryz.ntmps4]
 have s0:σ 0=.string ⟨s.toArray⟩:=hσ 0 zi
 clear hσ
 have hsz:(⟨s.toArray⟩:ByteArray).size=s.length:=zm
 by_cases hs:s.length≤800
 case neg=>
  obtain⟨N,hN⟩:=zX s.length
  rw[hN]at hsz hs hbig
  have h1:decide ((800:Int)<(N:Int))=true:=zh
  have h2:decide (800<N)=true:=zh
  have h3:(800:Int)<(N:Int):=zd
  clear hN hs
  (go_wp2_with fail;repeat ((first|refine cZ ?_|refine cW ?_);go_wp2_with fail))
  exact yl (.bool true) rfl ze zb ⟨rfl,World.grownBy.refl w none⟩
 have HCO:=zH (fun W=>zl6 s W zd)
 have HIT:=zH (fun W=>zx5 104 128 rfl rfl s W hs)
 have HPB:=zH (fun W=>zxu s W hs)
 have HPF:=zH (fun W (h:EnvP T W)=>zxw T s W h hs)
 have HSL:=zH hs
 obtain⟨N,hN⟩:=zX s.length
 rw[hN]at hsz hs hbig
 have h1:decide ((800:Int)<(N:Int))=false:=zh
 have h2:decide (800<N)=false:=zh
 have h3:¬(800:Int)<(N:Int):=zd
 clear hN hs
 (go_wp2_with fail;repeat ((first|refine cZ ?_|refine cW ?_);go_wp2_with fail))
 refine (HCO.out _).mono ?_
 rintro e w1 ⟨⟨c,rfl⟩,hg1⟩
 have HG1:=zH hg1
 clear hg1 HCO
 cases c
 case true=>
  (go_wp2_with fail;repeat ((first|refine cZ ?_|refine cW ?_);go_wp2_with fail))
  exact yl (.bool true) rfl ze zb ⟨rfl,HG1.out⟩
 (go_wp2_with fail;repeat ((first|refine cZ ?_|refine cW ?_);go_wp2_with fail))
 refine (HIT.out _).mono ?_
 rintro e w2 ⟨⟨c,rfl,-⟩,hg2⟩
 have HG2:=zH (ym HG1.out hg2)
 clear hg2 HIT
 cases c
 case true=>
  (go_wp2_with fail;repeat ((first|refine cZ ?_|refine cW ?_);go_wp2_with fail))
  exact yl (.bool true) rfl ze zb ⟨rfl,HG2.out⟩
 (go_wp2_with fail;repeat ((first|refine cZ ?_|refine cW ?_);go_wp2_with fail))
 refine (HPB.out _).mono ?_
 rintro e w3 ⟨rfl,hg3⟩
 have HG3:=zH (ym HG2.out hg3)
 clear hg3 HPB h1 h2 h3
 (go_wp2_with fail;repeat ((first|refine cZ ?_|refine cW ?_);go_wp2_with fail))
 refine (HPF.out _ (HE.out.grown HG3.out (fun _ e=>zL))).mono ?_
 rintro e w4 ⟨⟨v,k,rfl,hp⟩,hg4⟩
 have HG4:=zH (ym HG3.out hg4)
 have hvl:v<18446744073709551616:=hp.lt
 have hkl:k≤2:=by (obtain⟨u,hu,-⟩:=hp;exact hu.le)
 obtain⟨hk,hv,hbl⟩:=zyh hp
 rw[←hk]
 obtain⟨q,hq⟩:=zX (zxy s)
 rw[hq]at hv hbl ⊢
 clear hg4 HPF hk hq hp
 obtain⟨fb,fc,hfa,hf0⟩:∃ fb fc:ByteArray,zp1 s k=[.int .i64 (k:Int),.string fb,.string fc]∧(((k:Int)=0∧fb=⟨#[]⟩∧fc=⟨#[]⟩)∨(k:Int)≠0)∧((k:Int)≠0→wn=fb∧(⟨s.toArray⟩:ByteArray)=fc):=by
  unfold zp1
  by_cases h:k=0
  ·subst h
   exact⟨_,_,by rw[if_pos rfl];rfl,Or.inl ⟨rfl,rfl,rfl⟩,fun h=>absurd rfl h⟩
  ·exact⟨_,_,by rw[if_neg h],Or.inr zd,fun _=>⟨rfl,rfl⟩⟩
 have HAG:=zH (fun W=>zje (k:Int) fb fc W hf0.1 wn ⟨s.toArray⟩ hf0.2)
 have HSB:=zH (fun (h:k≠1) W=>ze6 v q W hvl hbl (hv h))
 rw[hfa]
 obtain⟨B,hB⟩:=zX w4.heap.size
 obtain⟨w5,hw5⟩:=zX (w4.alloc (.cells #[.int .i64 (k:Int),.string fb,.string fc] 28))
 have HG5:=zH (show w.grownBy w5 none by rw[←hw5];exact ym HG4.out (World.grownBy_alloc w4 _ none))
 have HO:=zH (show Row w5 B [.int .i64 (k:Int),.string fb,.string fc] by rw[←hw5,←hB];exact Row.new w4 _ _)
 have HW5:=zH hw5
 have HBE:=zH hB
 clear hw5 hB hfa hf0 hv
 go_upto_region 5 with fail
 rw[HW5.out,HBE.out]
 have o0:=HO.out.cell 0
 have o1:=HO.out.cell 1
 have o2:=HO.out.cell 2
 simp only[List.getElem?_cons_zero,List.getElem?_cons_succ]at o0 o1 o2
 (go_wp2_with fail;repeat ((first|refine cZ ?_|refine cW ?_);go_wp2_with fail))
 refine (HAG.out _).mono ?_
 rintro e w6 ⟨rfl,hg6⟩
 have HG6:=zH (ym HG5.out hg6)
 clear hg6 HAG o0 o1 o2
 by_cases hk1:k=1
 ·subst hk1
  (go_wp2_with fail;repeat ((first|refine cZ ?_|refine cW ?_);go_wp2_with fail))
  exact yl (.bool true) rfl ze zb ⟨rfl,HG6.out⟩
 ·have HS:=zH (HSB.out hk1 w6)
  have e1:((k:Int)==1)=false:=zf
  have e2:(k==1)=false:=by rw[beq_eq_false_iff_ne];exact hk1
  clear hk1 HSB
  (go_wp2_with fail;repeat ((first|refine cZ ?_|refine cW ?_);go_wp2_with fail))
  refine HS.out.mono ?_
  rintro e w7 ⟨rfl,rfl⟩
  (go_wp2_with fail;repeat ((first|refine cZ ?_|refine cW ?_);go_wp2_with fail))
  exact yl (.bool true) rfl ze zb ⟨rfl,HG6.out⟩
end
section
attribute [local go_sem] undef
set_option maxRecDepth 100000 in
theorem zy8 (T:Nat) (s:List UInt8) (w:World) (he:EnvP T w) (hbig:s.length<9223372036854775808):
  Calls Tryz.prog 6 #[.string ⟨s.toArray⟩] w fun e w'=>e=.returned (.bool true)∧w.grownBy w' none:=by
 have HE:=zH he
 clear he
 refine ye Tryz.func6 rfl (by rw[Tryz.ntmps6];simp) ?_
 intro σ hσ
 rw[Tryz.ntmps6]
 have s0:σ 0=.string ⟨s.toArray⟩:=hσ 0 zi
 clear hσ
 have hsz:(⟨s.toArray⟩:ByteArray).size=s.length:=zm
 by_cases hs:s.length≤800
 case neg=>
  obtain⟨N,hN⟩:=zX s.length
  rw[hN]at hsz hs hbig
  have h1:decide ((800:Int)<(N:Int))=true:=zh
  have h2:decide (800<N)=true:=zh
  have h3:(800:Int)<(N:Int):=zd
  clear hN hs
  (go_wp2_with fail;repeat ((first|refine cZ ?_|refine cW ?_);go_wp2_with fail))
  exact yl (.bool true) rfl ze zb ⟨rfl,World.grownBy.refl w none⟩
 have HIT64:=zH (fun W=>zit 971 1024 rfl rfl s W hs)
 have HIT32:=zH (fun W=>zx5 104 128 rfl rfl s W hs)
 have HPB64:=zH (fun W=>zc0 s W hs)
 have HPB32:=zH (fun W=>zxu s W hs)
 have HPF64:=zH (fun W (h:EnvP T W)=>zhd T s W h hs)
 have HPF32:=zH (fun W (h:EnvP T W)=>zxw T s W h hs)
 have HNX:=zH trivial
 obtain⟨N,hN⟩:=zX s.length
 rw[hN]at hsz hs hbig
 have h1:decide ((800:Int)<(N:Int))=false:=zh
 have h2:decide (800<N)=false:=zh
 have h3:¬(800:Int)<(N:Int):=zd
 clear hN hs
 (go_wp2_with fail;repeat ((first|refine cZ ?_|refine cW ?_);go_wp2_with fail))
 refine (HIT64.out _).mono ?_
 rintro e w2 ⟨⟨c,rfl,hc⟩,hg2⟩
 have HG2:=zH (hg2)
 have HC:=zH hc
 clear hg2 HIT64 hc
 cases c
 case true=>
  obtain⟨hk2,hkd⟩:=zzz rfl rfl (HC.out rfl)
  clear HC
  (go_wp2_with fail;repeat ((first|refine cZ ?_|refine cW ?_);go_wp2_with fail))
  refine (HPB64.out _).mono ?_
  rintro e w3 ⟨rfl,hg3⟩
  have HG3:=zH (ym HG2.out hg3)
  clear hg3 HPB64 HNX
  (go_wp2_with fail;repeat ((first|refine cZ ?_|refine cW ?_);go_wp2_with fail))
  refine (HPF64.out _ (HE.out.grown HG3.out (fun _ e=>zL))).mono ?_
  rintro e w4 ⟨⟨v,k,rfl,hp⟩,hg4⟩
  have HG4:=zH (ym HG3.out hg4)
  obtain⟨hk,hv,hbl⟩:=zrc hp
  rw[hk2]at hk
  subst hk
  have hvq:v=zdy s:=by
   rcases hv ze with h | ⟨-,h⟩
   ·exact h
   ·rw[hkd]at h;cases h
  rw[←hvq]at hkd hbl ⊢
  have hfa:zp1 s 2=[.int .i64 2,.string wn,.string ⟨s.toArray⟩]:=rfl
  have HAG:=zH (fun W=>zje 2 wn ⟨s.toArray⟩ W (Or.inr ze) wn ⟨s.toArray⟩ (fun _=>⟨rfl,rfl⟩))
  rw[hfa]
  clear hg4 HPF64 hp hv hvq hk2 hkd hfa
  obtain⟨B,hB⟩:=zX w4.heap.size
  obtain⟨w5,hw5⟩:=zX (w4.alloc (.cells #[.int .i64 2,.string wn,.string ⟨s.toArray⟩] 28))
  have HG5:=zH (show w.grownBy w5 none by rw[←hw5];exact ym HG4.out (World.grownBy_alloc w4 _ none))
  have HO:=zH (show Row w5 B [.int .i64 2,.string wn,.string ⟨s.toArray⟩] by rw[←hw5,←hB];exact Row.new w4 _ _)
  have HW5:=zH hw5
  have HBE:=zH hB
  clear hw5 hB
  go_upto_region 6 with fail
  rw[HW5.out,HBE.out]
  have o0:=HO.out.cell 0
  have o1:=HO.out.cell 1
  have o2:=HO.out.cell 2
  simp only[List.getElem?_cons_zero,List.getElem?_cons_succ]at o0 o1 o2
  have e1:((v:Int)==(v:Int))=true:=zi
  (go_wp2_with fail;repeat ((first|refine cZ ?_|refine cW ?_);go_wp2_with fail))
  refine (HAG.out _).mono ?_
  rintro e w6 ⟨rfl,hg6⟩
  have HG6:=zH (ym HG5.out hg6)
  clear hg6 HAG o0 o1 o2
  (go_wp2_with fail;repeat ((first|refine cZ ?_|refine cW ?_);go_wp2_with fail))
  exact yl (.bool true) rfl ze zb ⟨rfl,HG6.out⟩
 clear HC HPB64 HPF64
 have HGA:=HG2
 clear HG2
 (go_wp2_with fail;repeat ((first|refine cZ ?_|refine cW ?_);go_wp2_with fail))
 refine (HIT32.out _).mono ?_
 rintro e w2b ⟨⟨c,rfl,hc⟩,hg2⟩
 have HG2:=zH (ym HGA.out hg2)
 have HC:=zH hc
 clear hg2 HIT32 hc
 cases c
 case true=>
  obtain⟨hk2,hkd⟩:=zz0 rfl rfl (HC.out rfl)
  clear HC
  (go_wp2_with fail;repeat ((first|refine cZ ?_|refine cW ?_);go_wp2_with fail))
  refine (HPB32.out _).mono ?_
  rintro e w3 ⟨rfl,hg3⟩
  have HG3:=zH (ym HG2.out hg3)
  clear hg3 HPB32 HNX
  (go_wp2_with fail;repeat ((first|refine cZ ?_|refine cW ?_);go_wp2_with fail))
  refine (HPF32.out _ (HE.out.grown HG3.out (fun _ e=>zL))).mono ?_
  rintro e w4 ⟨⟨v,k,rfl,hp⟩,hg4⟩
  have HG4:=zH (ym HG3.out hg4)
  obtain⟨hk,hv,hbl⟩:=zyh hp
  rw[hk2]at hk
  subst hk
  have hvq:v=zxy s:=by
   rcases hv ze with h | ⟨-,h⟩
   ·exact h
   ·rw[hkd]at h;cases h
  rw[←hvq]at hkd hbl ⊢
  have hfa:zp1 s 2=[.int .i64 2,.string wn,.string ⟨s.toArray⟩]:=rfl
  have HAG:=zH (fun W=>zje 2 wn ⟨s.toArray⟩ W (Or.inr ze) wn ⟨s.toArray⟩ (fun _=>⟨rfl,rfl⟩))
  rw[hfa]
  clear hg4 HPF32 hp hv hvq hk2 hkd hfa
  obtain⟨B,hB⟩:=zX w4.heap.size
  obtain⟨w5,hw5⟩:=zX (w4.alloc (.cells #[.int .i64 2,.string wn,.string ⟨s.toArray⟩] 28))
  have HG5:=zH (show w.grownBy w5 none by rw[←hw5];exact ym HG4.out (World.grownBy_alloc w4 _ none))
  have HO:=zH (show Row w5 B [.int .i64 2,.string wn,.string ⟨s.toArray⟩] by rw[←hw5,←hB];exact Row.new w4 _ _)
  have HW5:=zH hw5
  have HBE:=zH hB
  clear hw5 hB
  go_upto_region 10 with fail
  rw[HW5.out,HBE.out]
  have o0:=HO.out.cell 0
  have o1:=HO.out.cell 1
  have o2:=HO.out.cell 2
  simp only[List.getElem?_cons_zero,List.getElem?_cons_succ]at o0 o1 o2
  have e1:((v:Int)==(v:Int))=true:=zi
  (go_wp2_with fail;repeat ((first|refine cZ ?_|refine cW ?_);go_wp2_with fail))
  refine (HAG.out _).mono ?_
  rintro e w6 ⟨rfl,hg6⟩
  have HG6:=zH (ym HG5.out hg6)
  clear hg6 HAG o0 o1 o2
  (go_wp2_with fail;repeat ((first|refine cZ ?_|refine cW ?_);go_wp2_with fail))
  exact yl (.bool true) rfl ze zb ⟨rfl,HG6.out⟩
 clear HC HPB32 HPF32
 (go_wp2_with fail;repeat ((first|refine cZ ?_|refine cW ?_);go_wp2_with fail))
 exact yl (.bool true) rfl ze zb ⟨rfl,HG2.out⟩
end
end Go.Proofs.YtalfopncejalcaaGreatDoor
