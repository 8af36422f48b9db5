/- Lemmas that the claim's top text leans on. No condition of their own. -/
import Derived.Test.YtnifedmhgncioaaDoorK29
import Derived.Lib.ConvBytes
namespace Go.Proofs.YtnifedmhgncioaaDoor
open Go.RowKit
set_option linter.unusedSimpArgs false
set_option linter.unusedVariables false
set_option maxHeartbeats 16000000
def RowZ (w:World) (g:Nat) (xs:List Value):Prop:=∃ e,w.heap[g]?=some (.cells xs.toArray e (xs.length,xs.length+1))
def BZ (w:World) (g n:Nat) (L:List UInt8):Prop:=L.length=n/\∃ rest,RowZ w g (L.map zkm++rest)
theorem RowZ.lt {w:World} {g:Nat} {xs:List Value} (h:RowZ w g xs):g<w.heap.size:=by
 obtain⟨e,h⟩:=h;rcases Nat.lt_or_ge g w.heap.size with h' | h'
 ·exact h'
 ·simp[Array.getElem?_eq_none h']at h
theorem RowZ.cell {w:World} {g:Nat} {xs:List Value} (h:RowZ w g xs) (i:Nat):w.cell? ⟨g,i,none⟩=xs[i]?:=by
 obtain⟨e,h⟩:=h;simp[World.cell?,h]
theorem RowZ.frozen {w:World} {g:Nat} {xs:List Value} (h:RowZ w g xs) (i:Nat) (hi:i<xs.length):w.frozen? ⟨g,i,none⟩=false:=by
 obtain⟨e,h⟩:=h;simp[World.frozen?,h];omega
theorem RowZ.grown {w w':World} {g:Nat} {xs:List Value} (h:RowZ w g xs) (hg:w.grownBy w' none):RowZ w' g xs:=by
 have hl:=h.lt;obtain⟨e,h⟩:=h;exact⟨e,(hg.block g hl zi).trans h⟩
theorem RowZ.setCell {w:World} {g:Nat} {xs:List Value} (h:RowZ w g xs) (i:Nat) (u:Value):RowZ (w.setCell ⟨g,i,none⟩ u) g (xs.set i u):=by
 obtain⟨e,h⟩:=h;refine⟨e,?_⟩;simp only[World.setCell,Array.getElem?_modify,h];simp
theorem BZ.cell {w:World} {g n:Nat} {L:List UInt8} (h:BZ w g n L) (i:Nat) (hi:i<n):w.cell? ⟨g,i,none⟩=some (.int .u8 ((L.getD i 0).toNat:Int)):=by
 obtain⟨hl,rest,h⟩:=h;rw[h.cell,List.getElem?_append_left (by rw[List.length_map,hl];exact hi),List.getElem?_map,List.getD_eq_getElem?_getD,List.getElem?_eq_getElem (by rw[hl];exact hi)];rfl
theorem BZ.frozen {w:World} {g n:Nat} {L:List UInt8} (h:BZ w g n L) (i:Nat) (hi:i<n):w.frozen? ⟨g,i,none⟩=false:=by
 obtain⟨hl,rest,h⟩:=h;exact h.frozen i (by rw[List.length_append,List.length_map,hl];omega)
theorem BZ.grown {w w':World} {g n:Nat} {L:List UInt8} (h:BZ w g n L) (hg:w.grownBy w' none):BZ w' g n L:=by
 obtain⟨hl,rest,h⟩:=h;exact⟨hl,rest,h.grown hg⟩
theorem BZ.set {w:World} {g n:Nat} {L:List UInt8} (h:BZ w g n L) (i:Nat) (hi:i<n) (c:UInt8):BZ (w.setCell ⟨g,i,none⟩ (zkm c)) g n (L.set i c):=by
 obtain⟨hl,rest,h⟩:=h;refine⟨by rw[List.length_set];exact hl,rest,?_⟩;have h2:=h.setCell i (zkm c);rw[List.set_append_left _ _ (by rw[List.length_map,hl];exact hi),<-List.map_set]at h2;exact h2
theorem BZ.new (w:World) (e:TypeId) (s:List UInt8):BZ (Lib.bytesWorld w e ⟨s.toArray⟩) w.heap.size s.length s:=by
 refine⟨rfl,List.replicate (grownCap w (⟨s.toArray⟩:ByteArray).size 0 e-(⟨s.toArray⟩:ByteArray).size) (Value.int .u8 0),e,?_⟩;have h:=Lib.bytesWorld_at_new w e ⟨s.toArray⟩;have hc:(Lib.bytesCells w e ⟨s.toArray⟩)=(s.map zkm++List.replicate (grownCap w (⟨s.toArray⟩:ByteArray).size 0 e-(⟨s.toArray⟩:ByteArray).size) (Value.int .u8 0)).toArray:=by
  apply Array.toList_inj.1;unfold Lib.bytesCells;simp;exact fun _ _=>rfl
 rw[h,hc,List.size_toArray]
theorem BZ.back {w:World} {g n cap:Nat} {L:List UInt8} (h:BZ w g n L):(convert 23 9 (.slice (some ⟨g,0,none⟩) n cap)).run Tryd.prog w=.ok (.string ⟨L.toArray⟩) w:=by
 obtain⟨hl,rest,hr⟩:=h;subst hl;refine run_convert_bytes_back w 23 9 5 ⟨g,0,none⟩ _ L Tryd.underlying23 Tryd.underlying5 Tryd.underlying9 (fun j hj=>?_);have e:((⟨g,0,none⟩:Addr).add j)=⟨g,j,none⟩:=by
  unfold Addr.add;split
  ·subst_vars;rfl
  ·simp
 rw[e,hr.cell,List.getElem?_append_left (by rw[List.length_map];exact hj),List.getElem?_map,List.getElem?_eq_getElem hj];rfl
theorem vo (w:World) (e:TypeId) (s:ByteArray):w.grownBy (Lib.bytesWorld w e s) none:=
 ⟨rfl,rfl,rfl,by rw[Lib.bytesWorld_size];omega,fun k hk _=>Lib.bytesWorld_at_old w e s k hk⟩
theorem yto (w:World) (s:List UInt8) (n:Nat) (hn:s.length=n):(convert 9 23 (.string ⟨s.toArray⟩)).run Tryd.prog w=.ok (.slice (some ⟨w.heap.size,0,none⟩) n (grownCap w n 0 5)) (Lib.bytesWorld w 5 ⟨s.toArray⟩):=by
 have h:=Lib.run_convert_string_bytes (P:=Tryd.prog) w 9 23 5 ⟨s.toArray⟩ Tryd.underlying9 Tryd.underlying23 Tryd.underlying5;rw[show (⟨s.toArray⟩:ByteArray).size=n by rw[<-hn];simp[ByteArray.size]]at h;exact h
theorem vl {w w1:World} (h:w.grownBy w1 none) {a:Addr} (u:Value) (ha:w.heap.size<=a.block):w.grownBy (w1.setCell a u) none:=
 yx h (⟨rfl,rfl,rfl,by simp[World.setCell],fun k hk hne=>Below.heap_setCell w1 a u k (fun e=>hne (by rw[e]))⟩:w1.grownBy (w1.setCell a u) (some a.block)) (fun j e hj=>by
  have:a.block=j:=by simpa using e
  omega)
theorem kx {L nm:List UInt8} {i:Nat} (h:xf L=nm) (hi:i<L.length) (h1:97<=(L.getD i 0).toNat) (h2:(L.getD i 0).toNat<=122):xf (L.set i (UInt8.ofNat ((L.getD i 0).toNat-32)))=nm:=by
 rw[<-h];unfold xf;rw[List.map_set,uv h1 h2];have hg:L.getD i 0=L[i]:=by rw[List.getD_eq_getElem?_getD,List.getElem?_eq_getElem hi];rfl
 apply List.ext_getElem
 ·simp
 ·intro j hj1 hj2;rw[List.getElem_set];split
  ·rename_i e;subst e;rw[List.getElem_map,hg];unfold vb;rw[if_neg (by rw[hg]at h1;omega)]
  ·rfl
section
attribute [local go_sem] undef
def nmR:List Value:=[.string ⟨#[105,110,102]⟩,.string ⟨#[43,105,110,102]⟩,.string ⟨#[45,105,110,102]⟩,.string ⟨#[105,110,102,105,110,105,116,121]⟩,.string ⟨#[43,105,110,102,105,110,105,116,121]⟩,.string ⟨#[45,105,110,102,105,110,105,116,121]⟩,.string ⟨#[110,97,110]⟩]
theorem ks (p:Nat) (hp:p<=6):nmR[p]?=some (.string ⟨(vm p).toArray⟩):=by
 rcases (show p=0\/p=1\/p=2\/p=3\/p=4\/p=5\/p=6 by omega) with rfl | rfl | rfl | rfl | rfl | rfl | rfl <;> rfl
theorem vx (p:Nat) (hp:p<=6):∃ d r,vm p=d::r/\(((d.toNat:Nat):Int)==45)=xv p:=by
 rcases (show p=0\/p=1\/p=2\/p=3\/p=4\/p=5\/p=6 by omega) with rfl | rfl | rfl | rfl | rfl | rfl | rfl <;> exact⟨_,_,rfl,rfl⟩
set_option maxRecDepth 100000 in
theorem ys (T:Nat) (q m:Int) (hq1:-9223372036854775808<=q) (hq2:q<9223372036854775808) (hm1:-9223372036854775808<=m) (hm2:m<9223372036854775808) (w:World) (he:EnvP T w):
  Calls Tryd.prog 3 #[.int .i64 q,.int .i64 m] w fun e w'=>e=.returned (.bool true)/\w.grownBy w' none:=by
 have HE:=zH he;clear he;refine ye Tryd.func3 rfl (by rw[Tryd.ntmps3];simp) ?_;intro σ hσ;rw[Tryd.ntmps3];have s0:σ 0=.int .i64 q:=hσ 0 zi;have s1:σ 1=.int .i64 m:=hσ 1 zi;clear hσ;by_cases hq:q<0
 ·have d1:decide (q<0)=true:=zh;(go_wp2_with fail;repeat ((first|refine cZ ?_|refine cW ?_);go_wp2_with fail));exact yl (.bool true) rfl ze zb ⟨rfl,World.grownBy.refl w none⟩
 have d1:decide (q<0)=false:=zh;have n1:¬q<0:=hq;clear hq;by_cases hq:6<q
 ·have d2:decide (6<q)=true:=zh;(go_wp2_with fail;repeat ((first|refine cZ ?_|refine cW ?_);go_wp2_with fail));exact yl (.bool true) rfl ze zb ⟨rfl,World.grownBy.refl w none⟩
 have d2:decide (6<q)=false:=zh;have n2:¬6<q:=hq;clear hq;obtain⟨p,rfl⟩:∃ p:Nat,q=(p:Int):=⟨q.toNat,zd⟩;have hp6:p<=6:=zd;have HP6:=zH hp6;have hp7:p<7:=zd;have hp7':(p:Int)<7:=zd;obtain⟨nm,hnm⟩:=zX (vm p);obtain⟨hlow,hl3,hl9⟩:=wj p hp6;rw[hnm]at hlow hl3 hl9;obtain⟨n,hn⟩:=zX nm.length;rw[hn]at hl3 hl9;have HLW:=zH hlow;have HNM:=zH hnm;have hcv:=fun W=>yto W nm n hn
 obtain⟨A,hA⟩:=zX w.heap.size;obtain⟨w1,hw1⟩:=zX (w.alloc (.cells #[.string ⟨#[105,110,102]⟩,.string ⟨#[43,105,110,102]⟩,.string ⟨#[45,105,110,102]⟩,.string ⟨#[105,110,102,105,110,105,116,121]⟩,.string ⟨#[43,105,110,102,105,110,105,116,121]⟩,.string ⟨#[45,105,110,102,105,110,105,116,121]⟩,.string ⟨#[110,97,110]⟩] 9));have g1:w.grownBy w1 none:=by rw[<-hw1];exact World.grownBy_alloc w _ none
 have HG1:=zH g1;have HN:=zH (show Row w1 A nmR by rw[<-hw1,<-hA];exact Row.new w _ _);have HW1:=zH hw1;have HA:=zH hA;have HLN:=zH hn;clear hw1 hA g1 hlow hnm hn;(go_upto_region 4 with fail;repeat ((first|refine cZ ?_|refine cW ?_);go_upto_region 4 with fail));rw[HW1.out,HA.out];clear HW1 HA;have cn:=HN.out.cell p;rw[ks p hp6,HNM.out]at cn;obtain⟨C,hC⟩:=zX w1.heap.size;obtain⟨cap,hcap⟩:=zX (grownCap w1 n 0 5);obtain⟨w2,hw2⟩:=zX (Lib.bytesWorld w1 5 ⟨nm.toArray⟩);have HZ:=zH (show BZ w2 C n nm by rw[<-hw2,<-hC,<-HLN.out];exact BZ.new w1 _ nm);have g2:w1.grownBy w2 none:=by rw[<-hw2];exact vo w1 _ _
 have HW2:=zH hw2;have HC:=zH hC;have HCAP:=zH hcap;have HG12:=zH g2;clear hw2 hC hcap g2;go_upto_region 5 with fail;rw[HW2.out,HC.out,HCAP.out];clear HW2 cn hcv;have hCle:w1.heap.size<=C:=by rw[HC.out];exact Nat.le_refl _
 have HCL:=zH hCle;clear HC HCAP hCle;(go_wp2_with fail;repeat ((first|refine cZ ?_|refine cW ?_);go_wp2_with fail));refine xx (fun kk s' w'=>∃ (i:Nat) (L:List UInt8),i<=n/\kk=n-i/\xf L=nm/\BZ w' C n L/\w1.grownBy w' none/\s' 0=.int .i64 (p:Int)/\s' 1=.int .i64 m/\s' 5=.slice (some ⟨A,0,none⟩) 7 7/\s' 6=.slice (some ⟨C,0,none⟩) n cap/\s' 7=.int .i64 (i:Int)) n ⟨0,nm,zd,rfl,HLW.out,HZ.out,HG12.out,zb,zb,zb,zb,zb⟩ ?_;have HL39:=zH (And.intro hl3 hl9);clear s0 s1 σ HZ HG12 hl3 hl9;rintro kk σ wk ⟨i,L,hi,hkk,hlow,hbz,hgk,s0,s1,s5,s6,s7⟩ RK KK HRK hKK;have HKK:=zH hkk;have HLL:=zH (show xf L=vm p by rw[HNM.out];exact hlow);have HZ:=zH hbz;have HGK:=zH hgk;have HLO:=zH hlow;clear hkk hlow hbz hgk;by_cases hin:i<n
 ·have hin':(i:Int)<(n:Int):=zd;have hc:=HZ.out.cell i hin;have hfz:=HZ.out.frozen i hin;obtain⟨c,hce⟩:=zX (L.getD i 0);rw[hce]at hc;have HCE:=zH hce;clear hce;have HWR:Hid (∀ h:97<=c.toNat,c.toNat<=122->IntKind.u8.wrap ((c.toNat:Int)-32)=((UInt8.ofNat (c.toNat-32)).toNat:Int)):=zH (fun h1 h2=>by
   rw[IntKind.wrap_u8,UInt8.toNat_ofNat'];omega)
  obtain⟨X,hX⟩:=zX (m / 2^min ((i:Int).toNat) IntKind.i64.bits);have hsh:∀ yk,Op.shift .shr .i64 m yk (i:Int)=pure (.int .i64 X):=fun yk=>by rw[<-hX];exact shift_shr_any .i64 yk m (i:Int) zd
  obtain⟨Y,hY⟩:=zX (bits .and .i64 X 1);have hib:Op.intBits .and .i64 X 1=pure (.int .i64 Y):=by rw[<-hY];rfl
  clear hY;have hwu:IntKind.u64.wrap (i:Int)=(i:Int):=by have:=HL39.out.2;rw[IntKind.wrap_u64];omega
  have hwi:IntKind.i64.wrap ((i:Int)+1)=(i:Int)+1:=by have:=HL39.out.2;rw[IntKind.wrap_i64];omega
  clear hX;(go_upto_region 8 with fail;repeat ((first|refine cZ ?_|refine cW ?_);go_upto_region 8 with fail));refine yr (fun s' w'=>∃ b:Bool,s' 50=.bool b/\(b=true->97<=c.toNat/\c.toNat<=122)/\s' 0=.int .i64 (p:Int)/\s' 1=.int .i64 m/\s' 5=.slice (some ⟨A,0,none⟩) 7 7/\s' 6=.slice (some ⟨C,0,none⟩) n cap/\s' 7=.int .i64 (i:Int)/\wk=w') ?_ ?_
  ·intro R' K' HR hK';by_cases hY1:Y=1
   ·subst hY1;by_cases h1:97<=c.toNat
    ·have f1:(97:Int)<=(c.toNat:Int):=zd;by_cases h2:c.toNat<=122
     ·have f2:(c.toNat:Int)<=122:=zd;(go_wp2_with fail;repeat ((first|refine cZ ?_|refine cW ?_);go_wp2_with fail));exact got HR ⟨true,zb,fun _=>⟨h1,h2⟩,zb,zb,zb,zb,zb,rfl⟩
     ·have f2:decide ((c.toNat:Int)<=122)=false:=zh;have f3:decide (c.toNat<=122)=false:=zh;(go_wp2_with fail;repeat ((first|refine cZ ?_|refine cW ?_);go_wp2_with fail));exact got HR ⟨false,zb,(by intro h;cases h),zb,zb,zb,zb,zb,rfl⟩
    ·have f2:decide ((97:Int)<=(c.toNat:Int))=false:=zh;have f3:decide (97<=c.toNat)=false:=zh;(go_wp2_with fail;repeat ((first|refine cZ ?_|refine cW ?_);go_wp2_with fail));exact got HR ⟨false,zb,(by intro h;cases h),zb,zb,zb,zb,zb,rfl⟩
   ·have y1:(Y==1)=false:=by rw[beq_eq_false_iff_ne];exact hY1
    clear hY1;(go_wp2_with fail;repeat ((first|refine cZ ?_|refine cW ?_);go_wp2_with fail));exact got HR ⟨false,zb,(by intro h;cases h),zb,zb,zb,zb,zb,rfl⟩
  clear s0 s1 s5 s6 s7 σ hsh hib hwu;rintro σ w9 ⟨b,s50,hb,s0,s1,s5,s6,s7,rfl⟩;cases b
  case false=>
   (go_wp2_with fail;repeat ((first|refine cZ ?_|refine cW ?_);go_wp2_with fail));exact wo HRK (n-(i+1)) (by have:=HKK.out;omega) ⟨i+1,L,zd,rfl,HLO.out,HZ.out,HGK.out,zb,zb,zb,zb,by simp[yc,yd,hwi]⟩
  obtain⟨h1,h2⟩:=hb rfl;have hwr:=HWR.out h1 h2;obtain⟨v,hv⟩:=zX (UInt8.ofNat (c.toNat-32));rw[hv]at hwr;have HLW2:=zH (show xf (L.set i v)=nm by
   rw[<-hv,<-HCE.out];exact kx HLO.out (by rw[HZ.out.1];exact hin) (by rw[HCE.out];exact h1) (by rw[HCE.out];exact h2))
  clear hb hv h1 h2;(go_wp2_with fail;repeat ((first|refine cZ ?_|refine cW ?_);go_wp2_with fail));exact wo HRK (n-(i+1)) (by have:=HKK.out;omega) ⟨i+1,L.set i v,zd,rfl,HLW2.out,HZ.out.set i hin v,vl HGK.out _ HCL.out,zb,zb,zb,zb,by simp[yc,yd,hwi]⟩
 have hin':decide (i<n)=false:=by simpa using hin
 have hin2:decide ((i:Int)<(n:Int))=false:=zh;have hin3:¬(i:Int)<(n:Int):=zd;have HG2:=zH (ym HG1.out HGK.out);have HN:=zH (HN.out.grown HGK.out zi);have hLn:L.length=n:=HZ.out.1;obtain⟨hl3,hl9⟩:=HL39.out;have hL8:L.length<=800:=zd;have HFA:=zH (fun W (h:EnvP T W)=>zhd T L W h hL8);have HFB:=zH (fun W (h:EnvP T W)=>zxw T L W h hL8);have hback:=HZ.out.back (cap:=cap);have z1:0<n:=zd;have z2:(0:Int)<(n:Int):=zd;clear hL8 hLn hin HLO hl3 hl9;(go_wp2_with fail;repeat ((first|refine cZ ?_|refine cW ?_);go_wp2_with fail));refine (HFA.out _ (HE.out.grown HG2.out (fun _ e=>zL))).mono ?_;rintro e w10 ⟨⟨x0,k0,rfl,hp0⟩,hg10⟩;obtain⟨hk0,hv0,hn0,hx0⟩:=sp_64 HP6.out HLL.out hp0;subst hk0;rw[show zp1 L 0=[.int .i64 0,.string ⟨#[]⟩,.string ⟨#[]⟩] from rfl];have HG10:=zH (ym HG2.out hg10);obtain⟨B0,hB0⟩:=zX w10.heap.size;obtain⟨w11,hw11⟩:∃ w',w10.alloc (.cells #[.int .i64 0,.string ⟨#[]⟩,.string ⟨#[]⟩] 27)=w':=⟨_,rfl⟩;have g11:w10.grownBy w11 none:=by rw[<-hw11];exact World.grownBy_alloc w10 _ none
 have HG11:=zH (ym HG10.out g11);have HO0:=zH (show Row w11 B0 [.int .i64 0,.string ⟨#[]⟩,.string ⟨#[]⟩] by rw[<-hw11,<-hB0];exact Row.new w10 _ _);have HN:=zH (HN.out.grown (ym hg10 g11) zi);have HZ:=zH (HZ.out.grown (ym hg10 g11));have HW11:=zH hw11;have HBE0:=zH hB0;have HV0:=zH hv0;have HNN0:=zH hn0;have HX0:=zH hx0;clear hw11 hB0 hg10 g11 hp0 hv0 hn0 hx0 hback HFA;have hback:=HZ.out.back (cap:=cap);go_upto_region 11 with fail;rw[HW11.out,HBE0.out];clear HW11 HBE0;(go_wp2_with fail;repeat ((first|refine cZ ?_|refine cW ?_);go_wp2_with fail));refine (HFB.out _ (HE.out.grown HG11.out (fun _ e=>zL))).mono ?_;rintro e w12 ⟨⟨x1,k1,rfl,hp1⟩,hg12⟩;obtain⟨hk1,hv1,hn1,hx1⟩:=sp_w HP6.out HLL.out hp1;subst hk1;rw[show zp1 L 0=[.int .i64 0,.string ⟨#[]⟩,.string ⟨#[]⟩] from rfl];have HG12:=zH (ym HG11.out hg12);obtain⟨B1,hB1⟩:=zX w12.heap.size;obtain⟨w13,hw13⟩:∃ w',w12.alloc (.cells #[.int .i64 0,.string ⟨#[]⟩,.string ⟨#[]⟩] 27)=w':=⟨_,rfl⟩;have g13:w12.grownBy w13 none:=by rw[<-hw13];exact World.grownBy_alloc w12 _ none
 have HG13:=zH (ym HG12.out g13);have HO1:=zH (show Row w13 B1 [.int .i64 0,.string ⟨#[]⟩,.string ⟨#[]⟩] by rw[<-hw13,<-hB1];exact Row.new w12 _ _);have HN:=zH (HN.out.grown (ym hg12 g13) zi);have HZ:=zH (HZ.out.grown (ym hg12 g13));have HO0:=zH (HO0.out.grown (ym hg12 g13) zi);have HW13:=zH hw13;have HBE1:=zH hB1;have HV1:=zH hv1;have HNN1:=zH hn1;have HX1:=zH hx1;clear hw13 hB1 hg12 g13 hp1 hv1 hn1 hx1 hback HFB;have hback:=HZ.out.back (cap:=cap);go_upto_region 12 with fail;rw[HW13.out,HBE1.out];clear HW13 HBE1;have cn:=HN.out.cell p;rw[ks p hp6,HNM.out]at cn;have o0:=HO0.out.cell 0;have o1:=HO1.out.cell 0;simp only[List.getElem?_cons_zero,List.getElem?_cons_succ]at o0 o1;obtain⟨d,r,hdr,hd45⟩:=vx p hp6;rw[HNM.out]at hdr;have hidx:∀ h:0<(⟨nm.toArray⟩:ByteArray).size,(⟨nm.toArray⟩:ByteArray)[0]'h=d:=by subst hdr;intro h;rfl
 have hnz:(⟨nm.toArray⟩:ByteArray).size=n:=by rw[<-HLN.out];simp[ByteArray.size]
 have hor:bits .or .u64 (9218868437227405312:Int) 9223372036854775808=18442240474082181120:=zp;clear hdr hback;obtain⟨ng,hng⟩:=zX (xv p);rw[hng]at hd45;by_cases h6:p=6
 ·have hk0:=HNN0.out h6;have hk1:=HNN1.out h6;have e6:((p:Int)==6)=true:=by rw[h6];rfl
  have HKA:=zH (fun W=>za7 x0 W HX0.out);have HKB:=zH (fun W=>za7 x1 W HX1.out);rw[hk0]at HKA;rw[hk1]at HKB;clear hk0 hk1 HNN0 HNN1 HV0 HV1 h6;cases ng;all_goals
   (go_wp2_with fail;repeat ((first|refine cZ ?_|refine cW ?_);go_wp2_with fail));refine (HKA.out _).mono ?_;rintro e w70 ⟨rfl,rfl⟩;(go_wp2_with fail;repeat ((first|refine cZ ?_|refine cW ?_);go_wp2_with fail));refine (HKB.out _).mono ?_;rintro e w70 ⟨rfl,rfl⟩;(go_wp2_with fail;repeat ((first|refine cZ ?_|refine cW ?_);go_wp2_with fail));exact yl (.bool true) rfl ze zb ⟨rfl,HG13.out⟩
 ·have e6:((p:Int)==6)=false:=zf;have hv0:=HV0.out h6;have hv1:=HV1.out h6;rw[hng]at hv0 hv1;subst hv0 hv1;clear HNN0 HNN1 HV0 HV1 HX0 HX1 h6;cases ng;all_goals
   simp only[kp,if_true,if_false,Bool.false_eq_true]at *
   (go_wp2_with fail;repeat ((first|refine cZ ?_|refine cW ?_);go_wp2_with fail));exact yl (.bool true) rfl ze zb ⟨rfl,HG13.out⟩
end
end Go.Proofs.YtnifedmhgncioaaDoor
