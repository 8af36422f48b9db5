/- Lemmas that the claim's top text leans on. No condition of their own. -/
import Derived.Test.YtgfjdeddghbjcaaGreatDoorK08
import Derived.Laws.MakeOwn
import Derived.Laws.IdiomStrings
import Derived.Test.YtgfjdeddghbjcaaGreatDoorK11
import Derived.Test.YtgfjdeddghbjcaaGreatDoorK31
namespace Go.Proofs.YtgfjdeddghbjcaaGreatDoor
open Go.RowKit
set_option linter.unusedSimpArgs false
set_option linter.unusedVariables false
set_option maxHeartbeats 16000000
theorem yr6 (c:Nat) (hc:c<=1000000) (w:World):(Instr.makeSlice 100 (.int .i64 0) (.int .i64 (c:Int))).run Tryz.prog w=.ok (.slice (some ⟨w.heap.size,0,none⟩) 0 c) (w.alloc (.cells (madeCells #[.int .u8 0] c) 5)):=by
 obtain⟨i,hi,hz0,hz1,hz2⟩:=info_parts zr3;have h:=run_make (P:=Tryz.prog) w 100 5 i _ Tryz.underlying100 hi hz0 .i64 .i64 0 (c:Int) zd zd (by rw[hz2];omega) zd;rw[hz1,Int.toNat_natCast,Nat.mul_one]at h;exact h
theorem OwnB.made {T:Nat} {w:World} (hT:T<=w.heap.size) (c:Nat) (hc:c<=1000000):OwnB T (w.alloc (.cells (madeCells #[.int .u8 0] c) 5)) (.slice (some ⟨w.heap.size,0,none⟩) 0 c) []:=by
 have hs:(madeCells #[Value.int .u8 0] c).toList.length=c:=by rw[Array.length_toList,size_madeCells]
 refine⟨⟨w.heap.size,(madeCells #[Value.int .u8 0] c).toList,?_,?_,?_⟩,fun k hk=>?_⟩
 ·simp[hs]
 ·have:=Row.new w (madeCells #[Value.int .u8 0] c).toList 5;rw[Array.toArray_toList]at this;exact this
 ·rw[hs];simp[maxLen];omega
 ·simp[Value.ownBlock]at hk;omega
theorem zk5 {T:Nat} {w:World} {v:Value} {xs:List UInt8} (h:OwnB T w v xs):(convert 100 9 v).run Tryz.prog w=.ok (.string ⟨xs.toArray⟩) w:=by
 obtain⟨⟨g,rest,rfl,hr,hm⟩,_⟩:=h;rw[List.length_map];refine run_convert_bytes_back w 100 9 5 ⟨g,0,none⟩ _ xs Tryz.underlying100 Tryz.underlying5 Tryz.underlying9 (fun j hj=>?_);have e:((⟨g,0,none⟩:Addr).add j)=⟨g,j,none⟩:=by
  unfold Addr.add;split
  ·subst_vars;rfl
  ·simp
 rw[e,hr.cell,List.getElem?_append_left (by rw[List.length_map];exact hj),List.getElem?_map,List.getElem?_eq_getElem hj];rfl
theorem ylk (b:Nat) (w:World):(callFunc 17 #[.int .u64 (b:Int)]).run Tryz.prog w=.ok (.value (.float .f64 b)) w:=by kernel_rfl
theorem yti (b:Nat) (w:World):(callFunc 25 #[.int .u32 (b:Int)]).run Tryz.prog w=.ok (.value (.float .f32 b)) w:=by kernel_rfl
theorem znz (c:UInt8) (w:World):
  Calls Tryz.prog 104 #[.int .u8 (c.toNat:Int)] w fun e w'=>e=.returned (.int .u8 ((vb c).toNat:Int))/\w=w':=by
 have hc:=c.toNat_lt;refine ye Tryz.func104 rfl (by rw[Tryz.ntmps104];simp) ?_;intro σ hσ;rw[Tryz.ntmps104];have s0:σ 0=.int .u8 (c.toNat:Int):=hσ 0 zi;clear hσ;by_cases h1:65<=c.toNat/\c.toNat<=90
 ·obtain⟨h1a,h1b⟩:=h1;have e:((vb c).toNat:Int)=(c.toNat:Int)+32:=by
   unfold vb;rw[if_pos ⟨h1a,h1b⟩,UInt8.toNat_ofNat'];omega
  have HE:=zH e;clear e;have h1a':(65:Int)<=(c.toNat:Int):=zd;have h1b':(c.toNat:Int)<=90:=zd;generalize c.toNat=n at *
  (go_wp2_with fail;repeat ((first|refine cZ ?_|refine cW ?_);go_wp2_with fail));exact yl (.int .u8 ((n:Int)+32)) rfl ze zb ⟨by rw[HE.out],rfl⟩
 ·have e:vb c=c:=by unfold vb;rw[if_neg h1]
  rw[e];clear e;by_cases h2:65<=c.toNat
  ·have h2':(65:Int)<=(c.toNat:Int):=zd;have h3':decide ((c.toNat:Int)<=90)=false:=zh;have h3'':decide (c.toNat<=90)=false:=zh;clear h1;generalize c.toNat=n at *
   (go_wp2_with fail;repeat ((first|refine cZ ?_|refine cW ?_);go_wp2_with fail));exact yl (.int .u8 (n:Int)) rfl ze zb ⟨rfl,rfl⟩
  ·have h2':decide ((65:Int)<=(c.toNat:Int))=false:=zh;have h2'':decide (65<=c.toNat)=false:=zh;clear h1;generalize c.toNat=n at *
   (go_wp2_with fail;repeat ((first|refine cZ ?_|refine cW ?_);go_wp2_with fail));exact yl (.int .u8 (n:Int)) rfl ze zb ⟨rfl,rfl⟩
theorem zrw {b:Nat} {c:UInt8} (h1:48<=c.toNat) (h2:c.toNat<=57):zfx b c=(c.toNat:Int)-48:=by
 unfold zfx dig;rw[if_pos ⟨h1,h2⟩];simp;omega
theorem zrv {c:UInt8} (h1:97<=c.toNat) (h2:c.toNat<=102):zfx 16 c=(c.toNat:Int)-97+10:=by
 unfold zfx dig;rw[if_neg zd,if_pos ⟨⟨h1,h2⟩,rfl⟩];simp;omega
theorem zl4 {c:UInt8} (h1:97<=c.toNat) (h2:c.toNat<=102):zfx 10 c=-1:=by
 unfold zfx dig;rw[if_neg zd,if_neg zd]
theorem zi4 {b:Nat} {c:UInt8} (h1:¬(48<=c.toNat/\c.toNat<=57)) (h2:¬(97<=c.toNat/\c.toNat<=102)):zfx b c=-1:=by
 unfold zfx dig;rw[if_neg h1,if_neg (fun h=>h2 h.1)]
theorem zkj (a b n:Nat):(a<=n/\n<=b)\/(n<a)\/(b<n/\a<=n):=by omega
theorem zaq (b:Nat) (hb:b=10\/b=16) (c:UInt8) (w:World):
  Calls Tryz.prog 105 #[.int .u8 (c.toNat:Int),.int .i64 (b:Int)] w fun e w'=>e=.returned (.int .i64 (zfx b c))/\w=w':=by
 have hc:=c.toNat_lt;refine ye Tryz.func105 rfl (by rw[Tryz.ntmps105];simp) ?_;intro σ hσ;rw[Tryz.ntmps105];have s0:σ 0=.int .u8 (c.toNat:Int):=hσ 0 zi;have s1:σ 1=.int .i64 (b:Int):=hσ 1 zi;clear hσ;rcases zkj 48 57 c.toNat with⟨h1,h2⟩ | h1 | ⟨h1,h2⟩
 ·have HE:=zH (zrw (b:=b) h1 h2);have a1:(48:Int)<=(c.toNat:Int):=zd;have a2:(c.toNat:Int)<=57:=zd;have a3:decide ((97:Int)<=(c.toNat:Int))=false:=zh;have a4:decide (97<=c.toNat)=false:=zh;have a5:(c.toNat:Int)-48<(b:Int):=zd;clear hb;generalize c.toNat=n at *
  (go_wp2_with fail;repeat ((first|refine cZ ?_|refine cW ?_);go_wp2_with fail));exact yl (.int .i64 ((n:Int)-48)) rfl ze zb ⟨by rw[HE.out],rfl⟩
 ·have HE:=zH (zi4 (b:=b) (c:=c) zd zd);have a1:decide ((48:Int)<=(c.toNat:Int))=false:=zh;have a2:decide (48<=c.toNat)=false:=zh;have a3:decide ((97:Int)<=(c.toNat:Int))=false:=zh;have a4:decide (97<=c.toNat)=false:=zh;have a5:(-1:Int)<(b:Int):=zd;clear hb;generalize c.toNat=n at *
  (go_wp2_with fail;repeat ((first|refine cZ ?_|refine cW ?_);go_wp2_with fail));exact yl (.int .i64 (-1)) rfl ze zb ⟨by rw[HE.out],rfl⟩
 ·have a1:(48:Int)<=(c.toNat:Int):=zd;have a2:decide ((c.toNat:Int)<=57)=false:=zh;have a2':decide (c.toNat<=57)=false:=zh;rcases zkj 97 102 c.toNat with⟨h3,h4⟩ | h3 | ⟨h3,h4⟩
  ·have a3:(97:Int)<=(c.toNat:Int):=zd;have a4:(c.toNat:Int)<=102:=zd;rcases hb with rfl | rfl
   ·have HE:=zH (zl4 h3 h4);have a5:decide ((c.toNat:Int)-97+10<10)=false:=zh;have a6:decide ((c.toNat:Int)-97<0)=false:=zh;generalize c.toNat=n at *
    (go_wp2_with fail;repeat ((first|refine cZ ?_|refine cW ?_);go_wp2_with fail));exact yl (.int .i64 (-1)) rfl ze zb ⟨by rw[HE.out],rfl⟩
   ·have HE:=zH (zrv h3 h4);have a5:(c.toNat:Int)-97+10<16:=zd;generalize c.toNat=n at *
    (go_wp2_with fail;repeat ((first|refine cZ ?_|refine cW ?_);go_wp2_with fail));exact yl (.int .i64 ((n:Int)-97+10)) rfl ze zb ⟨by rw[HE.out],rfl⟩
  ·have HE:=zH (zi4 (b:=b) (c:=c) zd zd);have a3:decide ((97:Int)<=(c.toNat:Int))=false:=zh;have a4:decide (97<=c.toNat)=false:=zh;have a5:(-1:Int)<(b:Int):=zd;clear hb;generalize c.toNat=n at *
   (go_wp2_with fail;repeat ((first|refine cZ ?_|refine cW ?_);go_wp2_with fail));exact yl (.int .i64 (-1)) rfl ze zb ⟨by rw[HE.out],rfl⟩
  ·have HE:=zH (zi4 (b:=b) (c:=c) zd zd);have a3:(97:Int)<=(c.toNat:Int):=zd;have a4:decide ((c.toNat:Int)<=102)=false:=zh;have a4':decide (c.toNat<=102)=false:=zh;have a5:(-1:Int)<(b:Int):=zd;clear hb;generalize c.toNat=n at *
   (go_wp2_with fail;repeat ((first|refine cZ ?_|refine cW ?_);go_wp2_with fail));exact yl (.int .i64 (-1)) rfl ze zb ⟨by rw[HE.out],rfl⟩
theorem yu2 (n:Nat) (w:World) (hn:n<=100000):
  Calls Tryz.prog 77 #[.int .i64 (n:Int)] w fun e w'=>e=.returned (.string ⟨(List.replicate n (48:UInt8)).toArray⟩)/\w.grownBy w' none:=by
 refine ye Tryz.func77 rfl (by rw[Tryz.ntmps77];simp) ?_;intro σ hσ;rw[Tryz.ntmps77];have s0:σ 0=.int .i64 (n:Int):=hσ 0 zi;clear hσ;have hown0:OwnB w.heap.size (w.alloc (Obj.cells #[] 5)) (.slice (some ⟨w.heap.size,0,none⟩) 0 0) []:=by
  refine⟨⟨w.heap.size,[],rfl,Row.new w [] _,zγB⟩,fun k hk=>?_⟩;simp[Value.ownBlock]at hk;omega
 have HOWN:=zH hown0;clear hown0;(go_wp2_with fail;repeat ((first|refine cZ ?_|refine cW ?_);go_wp2_with fail));refine xx (fun kk s' w'=>∃ (m i:Nat) (v:Value),kk=m/\m+i=n/\s' 0=.int .i64 (m:Int)/\s' 3=v/\OwnB w.heap.size w' v (List.replicate i 48)/\w.grownBy w' none) n
  ⟨n,0,_,rfl,zd,zb,zb,HOWN.out,World.grownBy_alloc w _ none⟩ ?_
 clear s0 σ HOWN;rintro kk σ wk ⟨m,i,v,hkk,hmi,s0,s3,hown,hg⟩ RK KK HRK hKK;have HKK:=zH hkk;have HOWN:=zH hown;have HG:=zH hg;have HMI:=zH hmi;have hi:i<=100000:=zd;clear hkk hown hg hmi;by_cases hm0:m=0
 ·subst hm0;have hin:i=n:=by have:=HMI.out;omega
  subst hin;have hcv:=zk5 HOWN.out;(go_wp2_with fail;repeat ((first|refine cZ ?_|refine cW ?_);go_wp2_with fail));exact yl _ rfl ze zb ⟨rfl,HG.out⟩
 ·obtain⟨j,rfl⟩:∃ j,m=j+1:=⟨m-1,zd⟩;have hj:j<=100000:=by have:=HMI.out;omega
  have h1:(0:Int)<(j:Int)+1:=zd;have h2:0<j+1:=zd;(go_wp2_with (first | (at_builtin;refine zch rfl _ _ _ _ rfl ze ze zsw (HOWN.out.alloc _) zb _ zb [48] (zmx Tryz.underlying100 [48] _) zh ?_;intro v2 w2 ho1 hs1));repeat ((first|refine cZ ?_|refine cW ?_);go_wp2_with (first | (at_builtin;refine zch rfl _ _ _ _ rfl ze ze zsw (HOWN.out.alloc _) zb _ zb [48] (zmx Tryz.underlying100 [48] _) zh ?_;intro v2 w2 ho1 hs1))));refine wo HRK j (by have:=HKK.out;omega) ⟨j,i+1,v2,rfl,by have:=HMI.out;omega,zj,zb,by rw[List.replicate_succ'];exact ho1,?_⟩;refine yx (ym HG.out (World.grownBy_alloc wk _ none)) hs1.1 (fun j e hj=>?_);have:=HOWN.out.2 j e;omega
def ptL (s:List UInt8):List UInt8:=if s.length=1 then s else s.take 1++46::s.drop 1
set_option maxRecDepth 10000 in
theorem yve (s:List UInt8) (w:World) (h0:1<=s.length) (hs:s.length<=1000000):
  Calls Tryz.prog 44 #[.string ⟨s.toArray⟩] w fun e w'=>e=.returned (.string ⟨(ptL s).toArray⟩)/\w.grownBy w' none:=by
 have hsz:(⟨s.toArray⟩:ByteArray).size=s.length:=zm;obtain⟨N,hN⟩:=zX s.length;rw[hN]at hsz hs h0;have HN:=zH hN;clear hN;refine ye Tryz.func44 rfl (by rw[Tryz.ntmps44];simp) ?_;intro σ hσ;rw[Tryz.ntmps44];have s0:σ 0=.string ⟨s.toArray⟩:=hσ 0 zi;clear hσ;by_cases h1:N=1
 ·subst h1;(go_wp2_with fail;repeat ((first|refine cZ ?_|refine cW ?_);go_wp2_with fail));exact yl (.string ⟨s.toArray⟩) rfl ze zb ⟨by unfold ptL;rw[if_pos HN.out],yy w none⟩
 ·have f1:((N:Int)==1)=false:=zf;have f2:(N==1)=false:=zf;have f3:(1:Int)<=(N:Int):=zd;(go_wp2_with fail;repeat ((first|refine cZ ?_|refine cW ?_);go_wp2_with fail));refine wp_region_noPanic ?_;refine wp_region_held_drew (S:=fun w'=>w.grownBy w' none) zg (yh w 1 none) (fun hHeld=>?_);(refine yg 0 7 ?_;refine yg 1 8 ?_;refine yg 2 9 ?_;refine yg 3 10 ?_;refine yg 4 11 ?_);(refine xg 5 12 (oi:=?_) (v:=?_) ?_ ?_ zg zg zg (fun _ _ _ _ _ h=>h) ?_ zq ?_ ?_;rotate_left 2;(focus ((simp only[List.getElem?_toArray,List.getElem?_cons_succ,List.getElem?_cons_zero]);rfl));(focus rfl);(focus (first | rfl | (simp only[Region.wanted,yielded,List.getElem?_toArray,List.getElem?_cons_succ,List.getElem?_cons_zero,Option.bind_some,Option.map_some,Fr_get?,yc,yd];rfl) | go_simp));(focus (intro W hS;go_simp;rw[if_neg zd])));(refine yg 6 2 ?_);refine wpAnyH_done zg ?_ _;refine NoPanic.normal ?_;(go_wp2_with fail;repeat ((first|refine cZ ?_|refine cW ?_);go_wp2_with fail));have e:((⟨s.toArray⟩:ByteArray).extract 0 1++(⟨#[46]⟩:ByteArray)++(⟨s.toArray⟩:ByteArray).extract 1 N)=⟨(ptL s).toArray⟩:=by
   unfold ptL;rw[if_neg zS];apply ByteArray.ext;simp[ByteArray.data_append,ByteArray.data_extract,<-HN.out];exact List.take_of_length_le zi
  refine yl (.string ⟨(ptL s).toArray⟩) rfl ze ?_ ⟨rfl,hHeld⟩;simp only[yc,if_true];rw[e]
def zxp (n:Nat):Prop:=n<4294967296/\2139095040<n%2147483648
def zzw (n:Nat):Prop:=n<18446744073709551616/\9218868437227405312<n%9223372036854775808
theorem zy6 (n:Nat) (h:zxp n):∃ s p,FloatKind.decode .f32 n=.nan s p:=by
 have h2:=h.2;refine⟨n / 2147483648%2==1,n%2147483648-2139095040,?_⟩;show Ieee.single.read n=_;unfold Ieee.Format.read;have sw:Ieee.single.signWeight=2147483648:=rfl;have bn:Ieee.single.binade=8388608:=rfl;have inf:Ieee.single.infRung=2139095040:=rfl;simp only[sw,bn,inf];rw[if_neg zd,if_neg zd,if_neg zd]
theorem zzn (b t:Nat):zzw (Question.cut (.nanConv .f64 b) t):=by
 have e:Question.cut (.nanConv .f64 b) t=(t%2)*9223372036854775808+9218868437227405312+1+(t / 2)%4503599627370495:=rfl;rw[e];have h1:(t / 2)%4503599627370495<4503599627370495:=Nat.mod_lt _ ze;generalize (t / 2)%4503599627370495=x at h1;rcases (show t%2=0\/t%2=1 by omega) with h | h
 ·rw[h];exact⟨show 0*9223372036854775808+9218868437227405312+1+x<18446744073709551616 by omega,show 9218868437227405312<(0*9223372036854775808+9218868437227405312+1+x)%9223372036854775808 by rw[Nat.mod_eq_of_lt zd];omega⟩
 ·rw[h];have e2:1*9223372036854775808+9218868437227405312+1+x=(9218868437227405312+1+x)+9223372036854775808:=zd;exact⟨show 1*9223372036854775808+9218868437227405312+1+x<18446744073709551616 by omega,show 9218868437227405312<(1*9223372036854775808+9218868437227405312+1+x)%9223372036854775808 by rw[e2,Nat.add_mod_right,Nat.mod_eq_of_lt zd];omega⟩
set_option maxRecDepth 100000 in
theorem zyz (b:Nat) (hb:zxp b) (W:World):∃ n,zzw n/\(convert 56 44 (.float .f32 b)).run Tryz.prog W=.ok (.float .f64 n) W.drew:=by
 obtain⟨s,p,hd⟩:=zy6 b hb;refine⟨_,zzn b (W.tape W.drawn (.nanConv .f64 b)),?_⟩;have hne:¬(FloatKind.f32=FloatKind.f64):=ze;have hq:Question.forced (.nanConv .f64 b)=false:=rfl;have h1:(Conv.floatToFloat .f32 b .f64).run Tryz.prog W=.ok (.float .f64 (Question.cut (.nanConv .f64 b) (W.tape W.drawn (.nanConv .f64 b)))) W.drew:=by
  unfold Conv.floatToFloat;rw[if_neg hne,hd];simp only[Sem.run_bind,run_choose_drew,hq,Bool.false_eq_true,if_false,Result.andThen_ok,Sem.run_pure]
 simp only[convert,Sem.run_bind,run_underlying Tryz.underlying44,run_underlying Tryz.underlying56,Result.andThen_ok];exact h1
theorem zzd (b:Nat) (hb:b<4294967296) (h:b%2147483648=2139095040):∃ r,r<18446744073709551616/\floatToFloatBits .f32 b .f64=some r/\floatToFloatBits .f64 r .f32=some b:=by
 have:b=2139095040\/b=4286578688:=zd;rcases this with rfl | rfl
 ·exact⟨9218868437227405312,ze,zp,zp⟩
 ·exact⟨18442240474082181120,ze,zp,zp⟩
theorem zyp (b:Nat) (hb:b<4294967296) (h:¬zxp b):∃ r,r<18446744073709551616/\floatToFloatBits .f32 b .f64=some r/\floatToFloatBits .f64 r .f32=some b:=by
 by_cases h1:b%2147483648<2139095040
 ·exact Wd.widen_back b hb h1
 ·refine zzd b hb ?_;have:¬2139095040<b%2147483648:=fun h2=>h ⟨hb,h2⟩
  omega
set_option maxRecDepth 100000 in
theorem yvi (T b:Nat) (w:World) (he:Env T w) (hb:b<18446744073709551616) (hE7:flE 11 52 b≠2047) (hM0:zen 11 52 b≠0) (hD:yko (kg 11 (-1085) (zen 11 52 b*2^shS (zen 11 52 b)) (zor 11 52 (-1023) b-(shS (zen 11 52 b):Nat)-52)).1≠[]):
  Calls Tryz.prog 39 #[.float .f64 b,.int .u8 101,.int .i64 (-1),.int .i64 64] w fun e w'=>
   e=.returned (.string ⟨(xr b 101 (-1)).toArray⟩)/\w.grownBy w' none:=by
 obtain⟨c,hc⟩:∃ c:Nat,max (3:Int) 24=(c:Int):=⟨24,rfl⟩;have hc1:c<=1000000:=zd;have hmk:=yr6 c hc1;have HE:=zH he;have HX:=zH (And.intro hE7 (And.intro hM0 hD));clear he hE7 hM0 hD;refine ye Tryz.func39 rfl (by rw[Tryz.ntmps39];simp) ?_;intro σ hσ;rw[Tryz.ntmps39];have s0:σ 0=.float .f64 b:=hσ 0 zi;have s1:σ 1=.int .u8 101:=hσ 1 zi;have s2:σ 2=.int .i64 (-1):=hσ 2 zi;have s3:σ 3=.int .i64 64:=hσ 3 zi;clear hσ;(go_wp2_with fail;repeat ((first|refine cZ ?_|refine cW ?_);go_wp2_with fail));refine (yww T b _ [] _ (HE.out.alloc _) (OwnB.made HE.out.size c hc1) zi hb HX.out.1 HX.out.2.1 HX.out.2.2).mono ?_;rintro e w7 ⟨v,rfl,ho,hs⟩;rw[List.nil_append]at ho;have hcv:=zk5 ho;have hg:w.grownBy w7 none:=by
  have h1:=hs.1;refine yx (World.grownBy_alloc w _ none) h1 (fun j e hj=>?_);simp[Value.ownBlock]at e;omega
 have HG:=zH hg;clear ho hs hg hmk;(go_wp2_with fail;repeat ((first|refine cZ ?_|refine cW ?_);go_wp2_with fail));exact yl _ rfl ze zb ⟨rfl,HG.out⟩
theorem yvb (T b:Nat) (w:World) (he:Env T w) (hb:b<18446744073709551616) (hE7:flE 11 52 b≠2047) (hM0:zen 11 52 b≠0) (hD:yko (kg 11 (-1085) (zen 11 52 b*2^shS (zen 11 52 b)) (zor 11 52 (-1023) b-(shS (zen 11 52 b):Nat)-52)).1≠[]):
  Calls Tryz.prog 16 #[.float .f64 b,.int .u8 101,.int .i64 (-1),.int .i64 64] w fun e w'=>
   e=.returned (.string ⟨(xr b 101 (-1)).toArray⟩)/\w.grownBy w' none:=by
 have H:=zH (yvi T b w he hb hE7 hM0 hD);clear he hE7 hM0 hD;go_enter Tryz.func16,Tryz.ntmps16;go_wp2_with (go_at_call 39;refine H.out.mono ?_;rintro e w7 ⟨rfl,hg⟩);go_ret;exact⟨rfl,hg⟩
theorem ywd (T b:Nat) (w:World) (he:Env T w) (hb:b<18446744073709551616) (hE7:flE 11 52 b≠2047) (hM0:zen 11 52 b≠0) (hD:yko (kg 11 (-1085) (zen 11 52 b*2^shS (zen 11 52 b)) (zor 11 52 (-1023) b-(shS (zen 11 52 b):Nat)-52)).1≠[]):
  Calls Tryz.prog 6 #[.int .u64 (b:Int),.int .u8 101,.int .i64 (-1)] w fun e w'=>
   e=.returned (.string ⟨(xr b 101 (-1)).toArray⟩)/\w.grownBy w' none:=by
 have H:=zH (yvb T b w he hb hE7 hM0 hD);have hext:=fun W=>ylk b W
 clear he hE7 hM0 hD;go_enter Tryz.func6,Tryz.ntmps6;go_wp2_with (go_at_call 16;refine H.out.mono ?_;rintro e w7 ⟨rfl,hg⟩);go_ret;exact⟨rfl,hg⟩
set_option maxRecDepth 100000 in
theorem yvj (T b r:Nat) (w:World) (he:Env T w) (hb:b<4294967296) (hr:floatToFloatBits .f64 r .f32=some b) (hE7:flE 8 23 b≠255) (hM0:zen 8 23 b≠0) (hD:yko (kg 40 (-189) (zen 8 23 b*2^shS (zen 8 23 b)) (zor 8 23 (-127) b-(shS (zen 8 23 b):Nat)-23)).1≠[]):
  Calls Tryz.prog 39 #[.float .f64 r,.int .u8 101,.int .i64 (-1),.int .i64 32] w fun e w'=>
   e=.returned (.string ⟨(xb b 101 (-1)).toArray⟩)/\w.grownBy w' none:=by
 obtain⟨c,hc⟩:∃ c:Nat,max (3:Int) 24=(c:Int):=⟨24,rfl⟩;have hc1:c<=1000000:=zd;have hmk:=yr6 c hc1;have hcv0:=fun W=>run_convert_float_float (P:=Tryz.prog) W 44 56 .f64 .f32 r b (by rw[Tryz.underlying44];rfl) Tryz.underlying56 hr
 have HE:=zH he;have HX:=zH (And.intro hE7 (And.intro hM0 hD));clear he hr hE7 hM0 hD;refine ye Tryz.func39 rfl (by rw[Tryz.ntmps39];simp) ?_;intro σ hσ;rw[Tryz.ntmps39];have s0:σ 0=.float .f64 r:=hσ 0 zi;have s1:σ 1=.int .u8 101:=hσ 1 zi;have s2:σ 2=.int .i64 (-1):=hσ 2 zi;have s3:σ 3=.int .i64 32:=hσ 3 zi;clear hσ;(go_wp2_with fail;repeat ((first|refine cZ ?_|refine cW ?_);go_wp2_with fail));refine (ywx T b _ [] _ (HE.out.alloc _) (OwnB.made HE.out.size c hc1) zi hb HX.out.1 HX.out.2.1 HX.out.2.2).mono ?_;rintro e w7 ⟨v,rfl,ho,hs⟩;rw[List.nil_append]at ho;have hcv:=zk5 ho;have hg:w.grownBy w7 none:=by
  have h1:=hs.1;refine yx (World.grownBy_alloc w _ none) h1 (fun j e hj=>?_);simp[Value.ownBlock]at e;omega
 have HG:=zH hg;clear ho hs hg hmk hcv0;(go_wp2_with fail;repeat ((first|refine cZ ?_|refine cW ?_);go_wp2_with fail));exact yl _ rfl ze zb ⟨rfl,HG.out⟩
theorem yvc (T b r:Nat) (w:World) (he:Env T w) (hb:b<4294967296) (hr:floatToFloatBits .f64 r .f32=some b) (hE7:flE 8 23 b≠255) (hM0:zen 8 23 b≠0) (hD:yko (kg 40 (-189) (zen 8 23 b*2^shS (zen 8 23 b)) (zor 8 23 (-127) b-(shS (zen 8 23 b):Nat)-23)).1≠[]):
  Calls Tryz.prog 16 #[.float .f64 r,.int .u8 101,.int .i64 (-1),.int .i64 32] w fun e w'=>
   e=.returned (.string ⟨(xb b 101 (-1)).toArray⟩)/\w.grownBy w' none:=by
 have H:=zH (yvj T b r w he hb hr hE7 hM0 hD);clear he hr hE7 hM0 hD;go_enter Tryz.func16,Tryz.ntmps16;go_wp2_with (go_at_call 39;refine H.out.mono ?_;rintro e w7 ⟨rfl,hg⟩);go_ret;exact⟨rfl,hg⟩
theorem ywe (T b r:Nat) (w:World) (he:Env T w) (hb:b<4294967296) (hw:floatToFloatBits .f32 b .f64=some r) (hr:floatToFloatBits .f64 r .f32=some b) (hE7:flE 8 23 b≠255) (hM0:zen 8 23 b≠0) (hD:yko (kg 40 (-189) (zen 8 23 b*2^shS (zen 8 23 b)) (zor 8 23 (-127) b-(shS (zen 8 23 b):Nat)-23)).1≠[]):
  Calls Tryz.prog 9 #[.int .u32 (b:Int),.int .u8 101,.int .i64 (-1)] w fun e w'=>
   e=.returned (.string ⟨(xb b 101 (-1)).toArray⟩)/\w.grownBy w' none:=by
 have H:=zH (yvc T b r w he hb hr hE7 hM0 hD);have hext:=fun W=>yti b W
 have hcv0:=fun W=>run_convert_float_float (P:=Tryz.prog) W 56 44 .f32 .f64 b r (by rw[Tryz.underlying56];rfl) Tryz.underlying44 hw
 clear he hw hr hE7 hM0 hD;go_enter Tryz.func9,Tryz.ntmps9;go_wp2_with (first | (simp only[hcv0]) | (go_at_call 16;refine H.out.mono ?_;rintro e w7 ⟨rfl,hg⟩));go_ret;exact⟨rfl,hg⟩
end Go.Proofs.YtgfjdeddghbjcaaGreatDoor
