/- Lemmas that the claim's top text leans on. No condition of their own. -/
import Derived.Test.YtnifedmhgncioaaGreatDoorK12
import Derived.Test.YtnifedmhgncioaaGreatDoorK15
namespace Go.Proofs.YtnifedmhgncioaaGreatDoor
open Go.RowKit
set_option linter.unusedSimpArgs false
set_option linter.unusedVariables false
set_option maxHeartbeats 16000000
theorem zn0 (s:List UInt8) (i:Nat) (h:i<s.length):xf (s.take (i+1))=xf (s.take i)++[vb (s.getD i 0)]:=by
 unfold xf;rw[zmk s i h,List.map_append];rfl
set_option maxRecDepth 100000 in
theorem zc8 (s:List UInt8) (w:World) (hs:s.length<=4000000):
  Calls Tryz.prog 58 #[.string ⟨s.toArray⟩] w fun e w'=>e=.returned (.string ⟨(xf s).toArray⟩)/\w.grownBy w' none:=by
 refine ye Tryz.func58 rfl (by rw[Tryz.ntmps58];simp) ?_;intro σ hσ;rw[Tryz.ntmps58];have s0:σ 0=.string ⟨s.toArray⟩:=hσ 0 zi;clear hσ;have hsz:(⟨s.toArray⟩:ByteArray).size=s.length:=zm;obtain⟨N,hN⟩:=zX s.length;rw[hN]at hsz hs;have HN:=zH hN;clear hN;have hown0:OwnB w.heap.size (w.alloc (Obj.cells #[] 5)) (.slice (some ⟨w.heap.size,0,none⟩) 0 0) []:=by
  refine⟨⟨w.heap.size,[],rfl,Row.new w [] _,by simp[maxLen]⟩,fun k hk=>?_⟩;simp[Value.ownBlock]at hk;omega
 have HOWN:=zH hown0;clear hown0;(go_wp2_with fail;repeat ((first|refine cZ ?_|refine cW ?_);go_wp2_with fail));refine xx (fun kk s' w'=>∃ (i:Nat) (v:Value),i<=N/\kk=N-i/\s' 0=.string ⟨s.toArray⟩/\s' 4=.int .i64 (i:Int)/\s' 3=v/\OwnB w.heap.size w' v (xf (s.take i))/\w.grownBy w' none) N
  ⟨0,_,Nat.zero_le _,rfl,zb,zb,zb,HOWN.out,World.grownBy_alloc w _ none⟩ ?_
 clear s0 σ HOWN;rintro kk σ wk ⟨i,v,hi,hkk,s0,s4,s3,hown,hg⟩ RK KK HRK hKK;have HKK:=zH hkk;have HOWN:=zH hown;have HG:=zH hg;have hul:(xf (s.take i)).length<=4000000:=by unfold xf;rw[List.length_map,List.length_take];omega
 clear hkk hown hg;by_cases hiN:i<N
 ·have hidx:∀ h:i<(⟨s.toArray⟩:ByteArray).size,(⟨s.toArray⟩:ByteArray)[i]'h=s.getD i 0:=by
   intro h;rw[List.getD_eq_getElem?_getD,List.getElem?_eq_getElem zn];rfl
  have HTS:=zH (zn0 s i zn);have hiN':(i:Int)<(N:Int):=zd;generalize s.getD i 0=c at *
  have HL:=zH (fun W=>znz c W);(go_wp2_with (first | (at_builtin;refine zch rfl _ _ _ _ rfl ze ze zsw (HOWN.out.alloc _) zb _ zb [vb c] (zmx Tryz.underlying83 [vb c] _) zD ?_;intro v2 w2 ho1 hs1) | (refine (HL.out _).mono ?_;rintro e w8 ⟨rfl,rfl⟩));repeat ((first|refine cZ ?_|refine cW ?_);go_wp2_with (first | (at_builtin;refine zch rfl _ _ _ _ rfl ze ze zsw (HOWN.out.alloc _) zb _ zb [vb c] (zmx Tryz.underlying83 [vb c] _) zD ?_;intro v2 w2 ho1 hs1) | (refine (HL.out _).mono ?_;rintro e w8 ⟨rfl,rfl⟩))));refine wo HRK (N-(i+1)) (by have:=HKK.out;omega) ⟨i+1,v2,zd,rfl,zb,zj,zb,by rw[HTS.out];exact ho1,?_⟩;refine yx (ym HG.out (World.grownBy_alloc wk _ none)) hs1.1 (fun j e hj=>?_);have:=HOWN.out.2 j e;omega
 ·have hiN':decide (i<N)=false:=zβw;have hall:s.take i=s:=List.take_of_length_le zt;rw[hall]at HOWN;have hcv:=zk5 HOWN.out;clear hall;(go_wp2_with fail;repeat ((first|refine cZ ?_|refine cW ?_);go_wp2_with fail));exact yl _ rfl ze zb ⟨rfl,HG.out⟩
set_option maxRecDepth 100000 in
theorem zi7 (b:Nat) (hb:b=10\/b=16) (s:List UInt8) (w:World) (hs:s.length<=4000000):
  Calls Tryz.prog 82 #[.string ⟨s.toArray⟩,.int .i64 (b:Int)] w fun e w'=>e=.returned (.int .i64 (zkq b s:Int))/\w=w':=by
 have HD:=zH (fun c W=>zaq b hb c W);clear hb;refine ye Tryz.func82 rfl (by rw[Tryz.ntmps82];simp) ?_;intro σ hσ;rw[Tryz.ntmps82];have s0:σ 0=.string ⟨s.toArray⟩:=hσ 0 zi;have s1:σ 1=.int .i64 (b:Int):=hσ 1 zi;clear hσ;have hsz:(⟨s.toArray⟩:ByteArray).size=s.length:=zm;obtain⟨N,hN⟩:=zX s.length;rw[hN]at hsz hs;have HN:=zH hN;clear hN;(go_wp2_with fail;repeat ((first|refine cZ ?_|refine cW ?_);go_wp2_with fail));refine xx (fun kk s' w'=>∃ (i n:Nat),i<=N/\kk=N-i/\n=zkq b (s.take i)/\n<=i/\s' 0=.string ⟨s.toArray⟩/\s' 1=.int .i64 (b:Int)/\s' 5=.int .i64 (n:Int)/\s' 6=.int .i64 (i:Int)/\w=w') N
  ⟨0,0,Nat.zero_le _,rfl,by simp[zkq],Nat.le_refl _,zb,zb,zb,zb,rfl⟩ ?_
 clear s0 s1 σ;rintro kk σ wk ⟨i,n,hi,hkk,hn,hni,s0,s1,s5,s6,rfl⟩ RK KK HRK hKK;have HKK:=zH hkk;have HC:=zH hn;clear hkk hn;by_cases hiN:i<N
 ·have hidx:∀ h:i<(⟨s.toArray⟩:ByteArray).size,(⟨s.toArray⟩:ByteArray)[i]'h=s.getD i 0:=by
   intro h;rw[List.getD_eq_getElem?_getD,List.getElem?_eq_getElem zn];rfl
  have hts:=zpd b s i zn;have hiN':(i:Int)<(N:Int):=zd;generalize s.getD i 0=c at *
  have HL:=zH (HD.out c);by_cases hd:isD b c=true
  ·rw[if_pos hd]at hts;have hge:=zdn hd;have HTS:=zH hts;clear hts hd;generalize zfx b c=z at *
   (go_wp2_with (first | (refine (HL.out _).mono ?_;rintro e w8 ⟨rfl,rfl⟩));repeat ((first|refine cZ ?_|refine cW ?_);go_wp2_with (first | (refine (HL.out _).mono ?_;rintro e w8 ⟨rfl,rfl⟩))));exact wo HRK (N-(i+1)) (by have:=HKK.out;omega) ⟨i+1,n+1,zd,rfl,by rw[HTS.out,HC.out],zd,zb,zb,zj,zj,rfl⟩
  ·have hd':isD b c=false:=by simpa using hd
   rw[if_neg hd]at hts;have HTS:=zH hts;have hz:=zdm hd';clear hts hd hd';rw[hz]at HL;(go_wp2_with (first | (refine (HL.out _).mono ?_;rintro e w8 ⟨rfl,rfl⟩));repeat ((first|refine cZ ?_|refine cW ?_);go_wp2_with (first | (refine (HL.out _).mono ?_;rintro e w8 ⟨rfl,rfl⟩))));exact wo HRK (N-(i+1)) (by have:=HKK.out;omega) ⟨i+1,n,zd,rfl,by rw[HTS.out,HC.out];omega,zd,zb,zb,zb,zj,rfl⟩
 ·have hiN':decide (i<N)=false:=zβw;have hall:s.take i=s:=List.take_of_length_le zt;rw[hall]at HC;clear hall;(go_wp2_with fail;repeat ((first|refine cZ ?_|refine cW ?_);go_wp2_with fail));exact yl (.int .i64 (n:Int)) rfl ze zb ⟨by rw[HC.out],rfl⟩
theorem zxv (b:Nat) (w:World) (hb:b<18446744073709551616):Calls Tryz.prog 35 #[.int .u64 (b:Int)] w fun e w'=>e=.returned (.bool (decide (b*2%18446744073709551616=0)))/\w=w':=by
 have h:IntKind.u64.wrap ((b:Int)*2)=((b*2%18446744073709551616:Nat):Int):=zl;obtain⟨m,hm⟩:=zX (b*2%18446744073709551616);rw[hm]at h ⊢;have h2:((m:Int)==0)=decide (m=0):=by rw[Bool.eq_iff_iff];simp
 go_enter Tryz.func35,Tryz.ntmps35;go_wp2;go_ret;exact⟨rfl,rfl⟩
end Go.Proofs.YtnifedmhgncioaaGreatDoor
