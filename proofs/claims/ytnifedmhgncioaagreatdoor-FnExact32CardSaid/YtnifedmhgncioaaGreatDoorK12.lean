/- Lemmas that the claim's top text leans on. No condition of their own. -/
import Derived.Test.YtnifedmhgncioaaGreatDoorK11
import Derived.Laws.MakeOwn
import Derived.Laws.IdiomStrings
import Derived.Laws.FloatArith
namespace Go.Proofs.YtnifedmhgncioaaGreatDoor
open Go.RowKit
set_option linter.unusedSimpArgs false
set_option linter.unusedVariables false
set_option maxHeartbeats 16000000
theorem yr6 (c:Nat) (hc:c<=1000000) (w:World):(Instr.makeSlice 83 (.int .i64 0) (.int .i64 (c:Int))).run Tryz.prog w=.ok (.slice (some ⟨w.heap.size,0,none⟩) 0 c) (w.alloc (.cells (madeCells #[.int .u8 0] c) 5)):=by
 obtain⟨i,hi,hz0,hz1,hz2⟩:=info_parts zr3;have h:=run_make (P:=Tryz.prog) w 83 5 i _ Tryz.underlying83 hi hz0 .i64 .i64 0 (c:Int) zd zd (by rw[hz2];omega) zd;rw[hz1,Int.toNat_natCast,Nat.mul_one]at h;exact h
theorem OwnB.made {T:Nat} {w:World} (hT:T<=w.heap.size) (c:Nat) (hc:c<=1000000):OwnB T (w.alloc (.cells (madeCells #[.int .u8 0] c) 5)) (.slice (some ⟨w.heap.size,0,none⟩) 0 c) []:=by
 have hs:(madeCells #[Value.int .u8 0] c).toList.length=c:=by rw[Array.length_toList,size_madeCells]
 refine⟨⟨w.heap.size,(madeCells #[Value.int .u8 0] c).toList,?_,?_,?_⟩,fun k hk=>?_⟩
 ·simp[hs]
 ·have:=Row.new w (madeCells #[Value.int .u8 0] c).toList 5;rw[Array.toArray_toList]at this;exact this
 ·rw[hs];simp[maxLen];omega
 ·simp[Value.ownBlock]at hk;omega
theorem zk5 {T:Nat} {w:World} {v:Value} {xs:List UInt8} (h:OwnB T w v xs):(convert 83 9 v).run Tryz.prog w=.ok (.string ⟨xs.toArray⟩) w:=by
 obtain⟨⟨g,rest,rfl,hr,hm⟩,_⟩:=h;rw[List.length_map];refine run_convert_bytes_back w 83 9 5 ⟨g,0,none⟩ _ xs Tryz.underlying83 Tryz.underlying5 Tryz.underlying9 (fun j hj=>?_);have e:((⟨g,0,none⟩:Addr).add j)=⟨g,j,none⟩:=by
  unfold Addr.add;split
  ·subst_vars;rfl
  ·simp
 rw[e,hr.cell,List.getElem?_append_left (by rw[List.length_map];exact hj),List.getElem?_map,List.getElem?_eq_getElem hj];rfl
theorem yti (b:Nat) (w:World):(callFunc 30 #[.int .u32 (b:Int)]).run Tryz.prog w=.ok (.value (.float .f32 b)) w:=by kernel_rfl
theorem znz (c:UInt8) (w:World):
  Calls Tryz.prog 77 #[.int .u8 (c.toNat:Int)] w fun e w'=>e=.returned (.int .u8 ((vb c).toNat:Int))/\w=w':=by
 have hc:=c.toNat_lt;refine ye Tryz.func77 rfl (by rw[Tryz.ntmps77];simp) ?_;intro σ hσ;rw[Tryz.ntmps77];have s0:σ 0=.int .u8 (c.toNat:Int):=hσ 0 zi;clear hσ;by_cases h1:65<=c.toNat/\c.toNat<=90
 ·obtain⟨h1a,h1b⟩:=h1;have e:((vb c).toNat:Int)=(c.toNat:Int)+32:=by
   unfold vb;rw[if_pos ⟨h1a,h1b⟩,UInt8.toNat_ofNat'];omega
  have HE:=zH e;clear e;have h1a':(65:Int)<=(c.toNat:Int):=zd;have h1b':(c.toNat:Int)<=90:=zd;generalize c.toNat=n at *
  (go_wp2_with fail;repeat ((first|refine cZ ?_|refine cW ?_);go_wp2_with fail));exact yl (.int .u8 ((n:Int)+32)) rfl ze zb ⟨by rw[HE.out],rfl⟩
 ·have e:vb c=c:=by unfold vb;rw[if_neg h1]
  rw[e];clear e;by_cases h2:65<=c.toNat
  ·have h2':(65:Int)<=(c.toNat:Int):=zd;have h3':decide ((c.toNat:Int)<=90)=false:=zh;have h3'':decide (c.toNat<=90)=false:=zh;clear h1;generalize c.toNat=n at *
   (go_wp2_with fail;repeat ((first|refine cZ ?_|refine cW ?_);go_wp2_with fail));exact yl (.int .u8 (n:Int)) rfl ze zb ⟨rfl,rfl⟩
  ·have h2':decide ((65:Int)<=(c.toNat:Int))=false:=zh;have h2'':decide (65<=c.toNat)=false:=zh;clear h1;generalize c.toNat=n at *
   (go_wp2_with fail;repeat ((first|refine cZ ?_|refine cW ?_);go_wp2_with fail));exact yl (.int .u8 (n:Int)) rfl ze zb ⟨rfl,rfl⟩
theorem zrw {b:Nat} {c:UInt8} (h1:48<=c.toNat) (h2:c.toNat<=57):zfx b c=(c.toNat:Int)-48:=by
 unfold zfx dig;rw[if_pos ⟨h1,h2⟩];simp;omega
theorem zrv {c:UInt8} (h1:97<=c.toNat) (h2:c.toNat<=102):zfx 16 c=(c.toNat:Int)-97+10:=by
 unfold zfx dig;rw[if_neg zd,if_pos ⟨⟨h1,h2⟩,rfl⟩];simp;omega
theorem zl4 {c:UInt8} (h1:97<=c.toNat) (h2:c.toNat<=102):zfx 10 c=-1:=by
 unfold zfx dig;rw[if_neg zd,if_neg zd]
theorem zi4 {b:Nat} {c:UInt8} (h1:¬(48<=c.toNat/\c.toNat<=57)) (h2:¬(97<=c.toNat/\c.toNat<=102)):zfx b c=-1:=by
 unfold zfx dig;rw[if_neg h1,if_neg (fun h=>h2 h.1)]
theorem zkj (a b n:Nat):(a<=n/\n<=b)\/(n<a)\/(b<n/\a<=n):=by omega
theorem zaq (b:Nat) (hb:b=10\/b=16) (c:UInt8) (w:World):
  Calls Tryz.prog 78 #[.int .u8 (c.toNat:Int),.int .i64 (b:Int)] w fun e w'=>e=.returned (.int .i64 (zfx b c))/\w=w':=by
 have hc:=c.toNat_lt;refine ye Tryz.func78 rfl (by rw[Tryz.ntmps78];simp) ?_;intro σ hσ;rw[Tryz.ntmps78];have s0:σ 0=.int .u8 (c.toNat:Int):=hσ 0 zi;have s1:σ 1=.int .i64 (b:Int):=hσ 1 zi;clear hσ;rcases zkj 48 57 c.toNat with⟨h1,h2⟩ | h1 | ⟨h1,h2⟩
 ·have HE:=zH (zrw (b:=b) h1 h2);have a1:(48:Int)<=(c.toNat:Int):=zd;have a2:(c.toNat:Int)<=57:=zd;have a3:decide ((97:Int)<=(c.toNat:Int))=false:=zh;have a4:decide (97<=c.toNat)=false:=zh;have a5:(c.toNat:Int)-48<(b:Int):=zd;clear hb;generalize c.toNat=n at *
  (go_wp2_with fail;repeat ((first|refine cZ ?_|refine cW ?_);go_wp2_with fail));exact yl (.int .i64 ((n:Int)-48)) rfl ze zb ⟨by rw[HE.out],rfl⟩
 ·have HE:=zH (zi4 (b:=b) (c:=c) zd zd);have a1:decide ((48:Int)<=(c.toNat:Int))=false:=zh;have a2:decide (48<=c.toNat)=false:=zh;have a3:decide ((97:Int)<=(c.toNat:Int))=false:=zh;have a4:decide (97<=c.toNat)=false:=zh;have a5:(-1:Int)<(b:Int):=zd;clear hb;generalize c.toNat=n at *
  (go_wp2_with fail;repeat ((first|refine cZ ?_|refine cW ?_);go_wp2_with fail));exact yl (.int .i64 (-1)) rfl ze zb ⟨by rw[HE.out],rfl⟩
 ·have a1:(48:Int)<=(c.toNat:Int):=zd;have a2:decide ((c.toNat:Int)<=57)=false:=zh;have a2':decide (c.toNat<=57)=false:=zh;rcases zkj 97 102 c.toNat with⟨h3,h4⟩ | h3 | ⟨h3,h4⟩
  ·have a3:(97:Int)<=(c.toNat:Int):=zd;have a4:(c.toNat:Int)<=102:=zd;rcases hb with rfl | rfl
   ·have HE:=zH (zl4 h3 h4);have a5:decide ((c.toNat:Int)-97+10<10)=false:=zh;have a6:decide ((c.toNat:Int)-97<0)=false:=zh;generalize c.toNat=n at *
    (go_wp2_with fail;repeat ((first|refine cZ ?_|refine cW ?_);go_wp2_with fail));exact yl (.int .i64 (-1)) rfl ze zb ⟨by rw[HE.out],rfl⟩
   ·have HE:=zH (zrv h3 h4);have a5:(c.toNat:Int)-97+10<16:=zd;generalize c.toNat=n at *
    (go_wp2_with fail;repeat ((first|refine cZ ?_|refine cW ?_);go_wp2_with fail));exact yl (.int .i64 ((n:Int)-97+10)) rfl ze zb ⟨by rw[HE.out],rfl⟩
  ·have HE:=zH (zi4 (b:=b) (c:=c) zd zd);have a3:decide ((97:Int)<=(c.toNat:Int))=false:=zh;have a4:decide (97<=c.toNat)=false:=zh;have a5:(-1:Int)<(b:Int):=zd;clear hb;generalize c.toNat=n at *
   (go_wp2_with fail;repeat ((first|refine cZ ?_|refine cW ?_);go_wp2_with fail));exact yl (.int .i64 (-1)) rfl ze zb ⟨by rw[HE.out],rfl⟩
  ·have HE:=zH (zi4 (b:=b) (c:=c) zd zd);have a3:(97:Int)<=(c.toNat:Int):=zd;have a4:decide ((c.toNat:Int)<=102)=false:=zh;have a4':decide (c.toNat<=102)=false:=zh;have a5:(-1:Int)<(b:Int):=zd;clear hb;generalize c.toNat=n at *
   (go_wp2_with fail;repeat ((first|refine cZ ?_|refine cW ?_);go_wp2_with fail));exact yl (.int .i64 (-1)) rfl ze zb ⟨by rw[HE.out],rfl⟩
theorem yth (T b r:Nat) (prec f:Int) (w:World) (he:Env T w) (hb:b<4294967296) (hr:floatToFloatBits .f64 r .f32=some b) (hf1:0<=f) (hf2:f<=255) (hp1:-9223372036854775808<=prec) (hp2:prec<=50000):
  Calls Tryz.prog 49 #[.float .f64 r,.int .u8 f,.int .i64 prec,.int .i64 32] w fun e w'=>
   e=.returned (.string ⟨(xb b f prec).toArray⟩)/\w.grownBy w' none:=by
 obtain⟨c,hc⟩:∃ c:Nat,max (prec+4) 24=(c:Int):=⟨(max (prec+4) 24).toNat,zd⟩;have hc1:c<=1000000:=zd;have hmk:=yr6 c hc1;have hcv0:=fun W=>run_convert_float_float (P:=Tryz.prog) W 51 60 .f64 .f32 r b (by rw[Tryz.underlying51];rfl) Tryz.underlying60 hr
 have HE:=zH he;clear he hr;refine ye Tryz.func49 rfl (by rw[Tryz.ntmps49];simp) ?_;intro σ hσ;rw[Tryz.ntmps49];have s0:σ 0=.float .f64 r:=hσ 0 zi;have s1:σ 1=.int .u8 f:=hσ 1 zi;have s2:σ 2=.int .i64 prec:=hσ 2 zi;have s3:σ 3=.int .i64 32:=hσ 3 zi;clear hσ;(go_wp2_with fail;repeat ((first|refine cZ ?_|refine cW ?_);go_wp2_with fail));refine (ytm T b _ prec f [] _ (HE.out.alloc _) (OwnB.made HE.out.size c hc1) zi hb hf1 hf2 hp1 hp2).mono ?_;rintro e w7 ⟨v,rfl,ho,hs⟩;rw[List.nil_append]at ho;have hcv:=zk5 ho;have hg:w.grownBy w7 none:=by
  have h1:=hs.1;refine yx (World.grownBy_alloc w _ none) h1 (fun j e hj=>?_);simp[Value.ownBlock]at e;omega
 have HG:=zH hg;clear ho hs hg hmk hcv0;(go_wp2_with fail;repeat ((first|refine cZ ?_|refine cW ?_);go_wp2_with fail));exact yl _ rfl ze zb ⟨rfl,HG.out⟩
theorem ytg (T b r:Nat) (prec f:Int) (w:World) (he:Env T w) (hb:b<4294967296) (hr:floatToFloatBits .f64 r .f32=some b) (hf1:0<=f) (hf2:f<=255) (hp1:-9223372036854775808<=prec) (hp2:prec<=50000):
  Calls Tryz.prog 28 #[.float .f64 r,.int .u8 f,.int .i64 prec,.int .i64 32] w fun e w'=>
   e=.returned (.string ⟨(xb b f prec).toArray⟩)/\w.grownBy w' none:=by
 have H:=zH (yth T b r prec f w he hb hr hf1 hf2 hp1 hp2);clear he hr;go_enter Tryz.func28,Tryz.ntmps28;go_wp2_with (go_at_call 49;refine H.out.mono ?_;rintro e w7 ⟨rfl,hg⟩);go_ret;exact⟨rfl,hg⟩
theorem ytd (T b r:Nat) (prec f:Int) (w:World) (he:Env T w) (hb:b<4294967296) (hw:floatToFloatBits .f32 b .f64=some r) (hr:floatToFloatBits .f64 r .f32=some b) (hf1:0<=f) (hf2:f<=255) (hp1:-9223372036854775808<=prec) (hp2:prec<=50000):
  Calls Tryz.prog 14 #[.int .u32 (b:Int),.int .u8 f,.int .i64 prec] w fun e w'=>
   e=.returned (.string ⟨(xb b f prec).toArray⟩)/\w.grownBy w' none:=by
 have H:=zH (ytg T b r prec f w he hb hr hf1 hf2 hp1 hp2);have hext:=fun W=>yti b W
 have hcv0:=fun W=>run_convert_float_float (P:=Tryz.prog) W 60 51 .f32 .f64 b r (by rw[Tryz.underlying60];rfl) Tryz.underlying51 hw
 clear he hw hr;go_enter Tryz.func14,Tryz.ntmps14;go_wp2_with (first | (simp only[hcv0]) | (go_at_call 28;refine H.out.mono ?_;rintro e w7 ⟨rfl,hg⟩));go_ret;exact⟨rfl,hg⟩
theorem ycb (n:Nat) (w:World) (hn:n<=100000):
  Calls Tryz.prog 23 #[.int .i64 (n:Int)] w fun e w'=>e=.returned (.string ⟨(List.replicate n (48:UInt8)).toArray⟩)/\w.grownBy w' none:=by
 refine ye Tryz.func23 rfl (by rw[Tryz.ntmps23];simp) ?_;intro σ hσ;rw[Tryz.ntmps23];have s0:σ 0=.int .i64 (n:Int):=hσ 0 zi;clear hσ;have hown0:OwnB w.heap.size (w.alloc (Obj.cells #[] 5)) (.slice (some ⟨w.heap.size,0,none⟩) 0 0) []:=by
  refine⟨⟨w.heap.size,[],rfl,Row.new w [] _,by simp[maxLen]⟩,fun k hk=>?_⟩;simp[Value.ownBlock]at hk;omega
 have HOWN:=zH hown0;clear hown0;(go_wp2_with fail;repeat ((first|refine cZ ?_|refine cW ?_);go_wp2_with fail));refine xx (fun kk s' w'=>∃ (i:Nat) (v:Value),i<=n/\kk=n-i/\s' 0=.int .i64 (n:Int)/\s' 4=.int .i64 (i:Int)/\s' 3=v/\OwnB w.heap.size w' v (List.replicate i 48)/\w.grownBy w' none) n
  ⟨0,_,zd,rfl,zb,zb,zb,HOWN.out,World.grownBy_alloc w _ none⟩ ?_
 clear s0 σ HOWN;rintro kk σ wk ⟨i,v,hi,hkk,s0,s4,s3,hown,hg⟩ RK KK HRK hKK;have HKK:=zH hkk;have HOWN:=zH hown;have HG:=zH hg;clear hkk hown hg;by_cases hin:i=n
 ·subst hin;have hcv:=zk5 HOWN.out;(go_wp2_with fail;repeat ((first|refine cZ ?_|refine cW ?_);go_wp2_with fail));exact yl _ rfl ze zb ⟨rfl,HG.out⟩
 ·have h1:(i:Int)<(n:Int):=zd;have h2:i<n:=zd;(go_wp2_with (first | (at_builtin;refine zch rfl _ _ _ _ rfl ze ze zsw (HOWN.out.alloc _) zb _ zb [48] (zmx Tryz.underlying83 [48] _) zh ?_;intro v2 w2 ho1 hs1));repeat ((first|refine cZ ?_|refine cW ?_);go_wp2_with (first | (at_builtin;refine zch rfl _ _ _ _ rfl ze ze zsw (HOWN.out.alloc _) zb _ zb [48] (zmx Tryz.underlying83 [48] _) zh ?_;intro v2 w2 ho1 hs1))));refine wo HRK (n-(i+1)) (by have:=HKK.out;omega) ⟨i+1,v2,zd,rfl,zb,zj,zb,by rw[List.replicate_succ'];exact ho1,?_⟩;refine yx (ym HG.out (World.grownBy_alloc wk _ none)) hs1.1 (fun j e hj=>?_);have:=HOWN.out.2 j e;omega
end Go.Proofs.YtnifedmhgncioaaGreatDoor
