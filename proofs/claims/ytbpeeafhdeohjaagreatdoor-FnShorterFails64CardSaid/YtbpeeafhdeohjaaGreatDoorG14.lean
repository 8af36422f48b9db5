/- Lemmas that the claim's top text leans on. No condition of their own. -/
import Derived.Test.YtbpeeafhdeohjaaGreatDoorG13
import Derived.Laws.MakeOwn
import Derived.Laws.IdiomStrings
import Derived.Laws.FloatArith
namespace Go.Proofs.YtbpeeafhdeohjaaGreatDoor
open Go.RowKit
set_option linter.unusedSimpArgs false
set_option linter.unusedVariables false
set_option maxHeartbeats 16000000
theorem yr6 (c:Nat) (hc:c<=1000000) (w:World):(Instr.makeSlice 89 (.int .i64 0) (.int .i64 (c:Int))).run Tryz.prog w=.ok (.slice (some ⟨w.heap.size,0,none⟩) 0 c) (w.alloc (.cells (madeCells #[.int .u8 0] c) 5)):=by
 obtain⟨i,hi,hz0,hz1,hz2⟩:=info_parts zr3;have h:=run_make (P:=Tryz.prog) w 89 5 i _ Tryz.underlying89 hi hz0 .i64 .i64 0 (c:Int) zd zd (by rw[hz2];omega) zd;rw[hz1,Int.toNat_natCast,Nat.mul_one]at h;exact h
theorem OwnB.made {T:Nat} {w:World} (hT:T<=w.heap.size) (c:Nat) (hc:c<=1000000):OwnB T (w.alloc (.cells (madeCells #[.int .u8 0] c) 5)) (.slice (some ⟨w.heap.size,0,none⟩) 0 c) []:=by
 have hs:(madeCells #[Value.int .u8 0] c).toList.length=c:=by rw[Array.length_toList,size_madeCells]
 refine⟨⟨w.heap.size,(madeCells #[Value.int .u8 0] c).toList,?_,?_,?_⟩,fun k hk=>?_⟩
 ·simp[hs]
 ·have:=Row.new w (madeCells #[Value.int .u8 0] c).toList 5;rw[Array.toArray_toList]at this;exact this
 ·rw[hs];simp[maxLen];omega
 ·simp[Value.ownBlock]at hk;omega
theorem zk5 {T:Nat} {w:World} {v:Value} {xs:List UInt8} (h:OwnB T w v xs):(convert 89 9 v).run Tryz.prog w=.ok (.string ⟨xs.toArray⟩) w:=by
 obtain⟨⟨g,rest,rfl,hr,hm⟩,_⟩:=h;rw[List.length_map];refine run_convert_bytes_back w 89 9 5 ⟨g,0,none⟩ _ xs Tryz.underlying89 Tryz.underlying5 Tryz.underlying9 (fun j hj=>?_);have e:((⟨g,0,none⟩:Addr).add j)=⟨g,j,none⟩:=by
  unfold Addr.add;split
  ·subst_vars;rfl
  ·simp
 rw[e,hr.cell,List.getElem?_append_left (by rw[List.length_map];exact hj),List.getElem?_map,List.getElem?_eq_getElem hj];rfl
theorem ylk (b:Nat) (w:World):(callFunc 40 #[.int .u64 (b:Int)]).run Tryz.prog w=.ok (.value (.float .f64 b)) w:=by kernel_rfl
def ptL (s:List UInt8):List UInt8:=if s.length=1 then s else s.take 1++46::s.drop 1
theorem ynb (T b:Nat) (prec f:Int) (w:World) (he:Env T w) (hb:b<18446744073709551616) (hf1:0<=f) (hf2:f<=255) (hp1:-9223372036854775808<=prec) (hp2:prec<=50000):
  Calls Tryz.prog 62 #[.float .f64 b,.int .u8 f,.int .i64 prec,.int .i64 64] w fun e w'=>
   e=.returned (.string ⟨(xr b f prec).toArray⟩)/\w.grownBy w' none:=by
 obtain⟨c,hc⟩:∃ c:Nat,max (prec+4) 24=(c:Int):=⟨(max (prec+4) 24).toNat,zd⟩;have hc1:c<=1000000:=zd;have hmk:=yr6 c hc1;have HE:=zH he;clear he;refine ye Tryz.func62 rfl (by rw[Tryz.ntmps62];simp) ?_;intro σ hσ;rw[Tryz.ntmps62];have s0:σ 0=.float .f64 b:=hσ 0 zi;have s1:σ 1=.int .u8 f:=hσ 1 zi;have s2:σ 2=.int .i64 prec:=hσ 2 zi;have s3:σ 3=.int .i64 64:=hσ 3 zi;clear hσ;(go_wp2_with fail;repeat ((first|refine cZ ?_|refine cW ?_);go_wp2_with fail));refine (ymw T b _ prec f [] _ (HE.out.alloc _) (OwnB.made HE.out.size c hc1) zi hb hf1 hf2 hp1 hp2).mono ?_;rintro e w7 ⟨v,rfl,ho,hs⟩;rw[List.nil_append]at ho;have hcv:=zk5 ho;have hg:w.grownBy w7 none:=by
  have h1:=hs.1;refine yx (World.grownBy_alloc w _ none) h1 (fun j e hj=>?_);simp[Value.ownBlock]at e;omega
 have HG:=zH hg;clear ho hs hg hmk;(go_wp2_with fail;repeat ((first|refine cZ ?_|refine cW ?_);go_wp2_with fail));exact yl _ rfl ze zb ⟨rfl,HG.out⟩
theorem ym2 (T b:Nat) (prec f:Int) (w:World) (he:Env T w) (hb:b<18446744073709551616) (hf1:0<=f) (hf2:f<=255) (hp1:-9223372036854775808<=prec) (hp2:prec<=50000):
  Calls Tryz.prog 39 #[.float .f64 b,.int .u8 f,.int .i64 prec,.int .i64 64] w fun e w'=>
   e=.returned (.string ⟨(xr b f prec).toArray⟩)/\w.grownBy w' none:=by
 have H:=zH (ynb T b prec f w he hb hf1 hf2 hp1 hp2);clear he;go_enter Tryz.func39,Tryz.ntmps39;go_wp2_with (go_at_call 62;refine H.out.mono ?_;rintro e w7 ⟨rfl,hg⟩);go_ret;exact⟨rfl,hg⟩
theorem yk7 (T b:Nat) (prec f:Int) (w:World) (he:Env T w) (hb:b<18446744073709551616) (hf1:0<=f) (hf2:f<=255) (hp1:-9223372036854775808<=prec) (hp2:prec<=50000):
  Calls Tryz.prog 17 #[.int .u64 (b:Int),.int .u8 f,.int .i64 prec] w fun e w'=>
   e=.returned (.string ⟨(xr b f prec).toArray⟩)/\w.grownBy w' none:=by
 have H:=zH (ym2 T b prec f w he hb hf1 hf2 hp1 hp2);have hext:=fun W=>ylk b W
 clear he;go_enter Tryz.func17,Tryz.ntmps17;go_wp2_with (go_at_call 39;refine H.out.mono ?_;rintro e w7 ⟨rfl,hg⟩);go_ret;exact⟨rfl,hg⟩
theorem ylq (T b:Nat) (dst:Value) (prec f:Int) (xs:List UInt8) (w:World) (he:Env T w) (hown:OwnB T w dst xs) (hx:xs.length<=140737488900000) (hb:b<18446744073709551616) (hf1:0<=f) (hf2:f<=255) (hp1:-9223372036854775808<=prec) (hp2:prec<=50000):
  Calls Tryz.prog 135 #[dst,.float .f64 b,.int .u8 f,.int .i64 prec,.int .i64 64] w fun r w'=>
   ∃ v',r=.returned v'/\OwnB T w' v' (xs++xr b f prec)/\Stp w dst w' v':=by
 have H:=zH (ymw T b dst prec f xs w he hown hx hb hf1 hf2 hp1 hp2);clear he hown;refine ye Tryz.func135 rfl (by rw[Tryz.ntmps135];simp) ?_;intro σ hσ;rw[Tryz.ntmps135];have s0:σ 0=dst:=hσ 0 zi;have s1:σ 1=.float .f64 b:=hσ 1 zi;have s2:σ 2=.int .u8 f:=hσ 2 zi;have s3:σ 3=.int .i64 prec:=hσ 3 zi;have s4:σ 4=.int .i64 64:=hσ 4 zi;clear hσ;(go_wp2_with fail;repeat ((first|refine cZ ?_|refine cW ?_);go_wp2_with fail));refine H.out.mono ?_;rintro e w7 ⟨v,rfl,ho,hs⟩;have HO:=zH ho;have HS:=zH hs;clear ho hs;(go_wp2_with fail;repeat ((first|refine cZ ?_|refine cW ?_);go_wp2_with fail));exact yl _ rfl ze zb ⟨_,rfl,HO.out,HS.out⟩
end Go.Proofs.YtbpeeafhdeohjaaGreatDoor
