/- Lemmas that the claim's top text leans on. No condition of their own. -/
import Derived.Test.YtnifedmhgncioaaGreatDoorJ02
import Derived.Test.YtnifedmhgncioaaGreatDoorCards
import Derived.ProofKit
import Derived.OpenShut
import Derived.Deep.DeepHandedRow
import Derived.Lib.LaidTab
namespace Go.Proofs.YtnifedmhgncioaaGreatDoor
open Go.RowKit
set_option linter.unusedSimpArgs false
set_option linter.unusedVariables false
set_option maxHeartbeats 16000000
section
open Go.ChangeShapes Go.WideShapes Go.ChangeAt Go.RowKit
def zn7 : List (String × DataW Unit) := [("math/bits.deBruijn32tab", Rows.laid_math_bits_deBruijn32tab), ("math/bits.deBruijn64tab", Rows.laid_math_bits_deBruijn64tab), ("internal/strconv.optimize", Rows.laid_internal_strconv_optimize), ("internal/strconv.uint64pow10", Rows.laid_internal_strconv_uint64pow10), ("internal/strconv.leftcheats", Rows.laid_internal_strconv_leftcheats), ("internal/strconv.pow10Tab", Rows.laid_internal_strconv_pow10Tab)]
theorem gOpt : Tryz.prog.globalNamed "internal/strconv.optimize" = some 3 := by kernel_rfl
theorem gP10 : Tryz.prog.globalNamed "internal/strconv.uint64pow10" = some 6 := by kernel_rfl
theorem gTab : Tryz.prog.globalNamed "internal/strconv.pow10Tab" = some 10 := by kernel_rfl
theorem gChe : Tryz.prog.globalNamed "internal/strconv.leftcheats" = some 11 := by kernel_rfl
theorem gDb : Tryz.prog.globalNamed "math/bits.deBruijn64tab" = some 13 := by kernel_rfl
theorem yOpt:(Tryz.prog.globals[3]?).map (·.type)=some 4:=by kernel_rfl
theorem yP10:(Tryz.prog.globals[6]?).map (·.type)=some 191:=by kernel_rfl
theorem yTab:(Tryz.prog.globals[10]?).map (·.type)=some 208:=by kernel_rfl
theorem yChe:(Tryz.prog.globals[11]?).map (·.type)=some 214:=by kernel_rfl
theorem zw3:Tryz.prog.cellsOf 23=1:=by kernel_rfl
theorem zxk:Tryz.prog.cellsOf 3=1:=by kernel_rfl
theorem zxj:Tryz.prog.cellsOf 9=1:=by kernel_rfl
theorem cP10:Tryz.prog.cellsOf 191=20:=by kernel_rfl
theorem cPm:Tryz.prog.cellsOf 207=2:=by kernel_rfl
theorem cTab:Tryz.prog.cellsOf 208=1392:=by kernel_rfl
theorem cChe:Tryz.prog.cellsOf 213=2:=by kernel_rfl
theorem uPm:∃ f0 f1:Field,Tryz.prog.underlying 207=some (.struct #[f0,f1])/\f0.type=23/\f0.offset=0/\f1.type=23/\f1.offset=1:=⟨_,_,Tryz.underlying207,rfl,rfl,rfl,rfl⟩
theorem uChe:∃ f0 f1:Field,Tryz.prog.underlying 213=some (.struct #[f0,f1])/\f0.type=3/\f0.offset=0/\f1.type=9/\f1.offset=1:=⟨_,_,Tryz.underlying213,rfl,rfl,rfl,rfl⟩
theorem zml {w:World} {a:Addr} {cs:List Value} (h:w.cells? 0 a 2=some cs):w.cell? a=cs[0]?/\w.cell? (a.add 1)=cs[1]?/\cs.length=2:=by
 have h3:=World.cells?_some h;have h0:=h3.2.2 0 zd;have h1:=h3.2.2 1 zd;refine⟨?_,?_,?_⟩
 ·simpa[Addr.add]using h0
 ·exact h1
 ·exact h3.2.1
theorem zf6 (b o k:Nat):(⟨b,o,none⟩:Addr).add k=⟨b,o+k,none⟩:=by
 unfold Addr.add;split
 ·subst_vars;rfl
 ·rfl
theorem zi1 {W:World} (h:laidMet Tryz.prog zn7 W):Env W.heap.size W:=by
 obtain⟨ps,⟨g0,t0,cs0,f0,p0,q0,hg0,ht0,hv0,hd0,⟨g1,t1,cs1,f1,p1,q1,hg1,ht1,hv1,hd1,⟨g2,t2,cs2,f2,p2,q2,hg2,ht2,hv2,hd2,⟨g3,t3,cs3,f3,p3,q3,hg3,ht3,hv3,hd3,⟨g4,t4,cs4,f4,p4,q4,hg4,ht4,hv4,hd4,⟨g5,t5,cs5,f5,p5,q5,hg5,ht5,hv5,hd5,_,_⟩,_⟩,_⟩,_⟩,_⟩,_⟩,_,_⟩:=h;obtain rfl:=Option.some.inj (gOpt.symm.trans hg2);obtain rfl:=Option.some.inj (gP10.symm.trans hg3);obtain rfl:=Option.some.inj (gChe.symm.trans hg4);obtain rfl:=Option.some.inj (gTab.symm.trans hg5);obtain rfl:=Option.some.inj (gDb.symm.trans hg1);obtain rfl:=Option.some.inj (yOpt.symm.trans ht2);obtain rfl:=Option.some.inj (yP10.symm.trans ht3);obtain rfl:=Option.some.inj (yChe.symm.trans ht4);obtain rfl:=Option.some.inj (yTab.symm.trans ht5);clear hd0 hd1;have hsz:3<W.heap.size/\6<W.heap.size/\10<W.heap.size/\11<W.heap.size/\13<W.heap.size:=by
  simp only[World.var?,hg1,Option.bind_some]at hv1;split at hv1
  ·rename_i hh;have:=(Array.getElem?_eq_some_iff.1 hh).1;omega
  ·cases hv1
 refine⟨Nat.le_refl _,hsz,?_,?_,?_,?_⟩
 ·-- powers of ten
  have e:(Rows.laid_internal_strconv_uint64pow10:DataW Unit)=Lib.tabData .u64 ((List.range 20).map fun i=>((10^i:Nat):Int)):=by rfl
  have hd3':DataW.trod (fun _=>()) Tryz.prog W 0 (fun _=>true) false f3 191 cs3.toList=some (Lib.tabData .u64 ((List.range 20).map fun i=>((10^i:Nat):Int)),p3):=by rw[<-e];exact hd3
  have hc:=Lib.cells_of_tab Tryz.underlying191 Tryz.underlying23 zw3 cP10 hd3';intro i hi;have h1:=World.var?_cell hg3 hv3 i;rw[h1,<-Array.getElem?_toList,hc,List.getElem?_map,List.getElem?_map,List.getElem?_range hi];rfl
 ·-- the powers in 128 bits
  obtain⟨xs,n,_,hx,hl,hn,hel⟩:=DataW.trod_array Tryz.underlying208 hd5;have hxs:xs.map (·.1)=Go.Pinned.pow10Rows.map fun x=>(.agg [.lit (.int .u64 x.1),.lit (.int .u64 x.2)]:DataW Unit):=by
   have:=congrArg Prod.fst hx;simp only[Rows.laid_internal_strconv_pow10Tab,Go.Pinned.pow10Tab,DataW.agg.injEq]at this;exact this.symm
  obtain⟨F0,F1,hu,hF0,hO0,hF1,hO1⟩:=uPm;intro i hi;have h1:=hel i hi;rw[cPm]at h1;have hxi:i<xs.length:=zd;rw[List.getElem?_eq_getElem hxi]at h1;obtain⟨y0,y1,n2,hy,hl2,hz0,hz1⟩:=trod_struct2 hu h1;rw[hF0,hO0,zw3]at hz0;rw[hF1,hO1,zw3]at hz1;obtain⟨a,ha,ha',_⟩:=DataW.trod_int Tryz.underlying23 hz0;obtain⟨b,hb,hb',_⟩:=DataW.trod_int Tryz.underlying23 hz1;have h2:=congrArg (fun l=>l[i]?) hxs;simp only[List.getElem?_map,List.getElem?_eq_getElem hxi,Option.map_some,hy,ha',hb']at h2;have hlr:i<Go.Pinned.pow10Rows.length:=by
   have:=congrArg List.length hxs;simp only[List.length_map]at this;omega
  rw[List.getElem?_eq_getElem hlr]at h2;simp only[Option.map_some,Option.some.injEq,DataW.agg.injEq,List.cons.injEq,DataW.lit.injEq,Lit.int.injEq,true_and,and_true]at h2;have hg:Go.Pinned.pow10Rows.getD i (0,0)=Go.Pinned.pow10Rows[i]:=by
   rw[List.getD_eq_getElem?_getD,List.getElem?_eq_getElem hlr];rfl
  have c0:cs5.toList[i*2]?=some (.int .u64 a):=by
   have:=congrArg (fun l=>l[0]?) ha;simpa[List.getElem?_take,List.getElem?_drop]using this
  have c1:cs5.toList[i*2+1]?=some (.int .u64 b):=by
   have:=congrArg (fun l=>l[0]?) hb;simpa[List.getElem?_take,List.getElem?_drop]using this
  refine⟨?_,?_⟩
  ·rw[World.var?_cell hg5 hv5,<-Array.getElem?_toList,c0,h2.1];unfold zmc;rw[hg]
  ·rw[World.var?_cell hg5 hv5,<-Array.getElem?_toList,c1,h2.2];unfold zmb;rw[hg]
 ·-- optimize
  obtain⟨b,hb,hb'⟩:=DataW.trod_bool Tryz.underlying4 hd2;have hbt:b=true:=by
   have:=congrArg Prod.fst hb';simp only[Rows.laid_internal_strconv_optimize,DataW.lit.injEq,Lit.bool.injEq]at this;exact this.symm
  rw[World.var?_cell hg2 hv2,<-Array.getElem?_toList,hb,hbt];rfl
 ·-- the cheat sheet
  rcases DataW.trod_slice Tryz.underlying214 hd4 with⟨_,hx⟩ | ⟨a,len,cap,elems,rest,n,_,hcs,hx,hbk,hlc,hm,hlen,hel,hsp,_⟩
  ·have:=congrArg Prod.fst hx;simp[Rows.laid_internal_strconv_leftcheats,Go.Pinned.leftcheats]at this
  have hx1:=congrArg Prod.fst hx;simp only[Rows.laid_internal_strconv_leftcheats,Go.Pinned.leftcheats,DataW.slice.injEq]at hx1;have hlr:Go.Pinned.cheatRows.length=61:=zp;have hlen61:len=61:=by
   have:=congrArg List.length hx1.1;simp only[List.length_map]at this;omega
  obtain⟨F0,F1,hu,hF0,hO0,hF1,hO1⟩:=uChe;have each:∀ i,i<61->W.cell? (a.add (i*2))=some (.int .i64 (chN i:Int))/\W.cell? ((a.add (i*2)).add 1)=some (.string ⟨(chS i).toArray⟩):=by
   intro i hi;have h1:=hel i zd;have hxi:i<elems.length:=zd;rw[cChe,List.getElem?_eq_getElem hxi,Option.bind_eq_some_iff]at h1;obtain⟨cs',hcs',hy'⟩:=h1;obtain⟨k0,k1,k2⟩:=zml hcs';obtain⟨y0,y1,n2,hy,hl2,hz0,hz1⟩:=trod_struct2 hu hy';rw[hF0,hO0,zxk]at hz0;rw[hF1,hO1,zxj]at hz1;obtain⟨x,hx0,hx0',_⟩:=DataW.trod_int Tryz.underlying3 hz0;obtain⟨s,hs0,hs0',_⟩:=DataW.trod_string Tryz.underlying9 hz1;have h2:=congrArg (fun l=>l[i]?) hx1.1;have hir:i<Go.Pinned.cheatRows.length:=zd;simp only[List.getElem?_map,List.getElem?_eq_getElem hxi,List.getElem?_eq_getElem hir,Option.map_some,hy,hx0',hs0',Option.some.injEq,DataW.agg.injEq,List.cons.injEq,DataW.lit.injEq,Lit.int.injEq,Lit.string.injEq,true_and,and_true]at h2;have hg:Go.Pinned.cheatRows.getD i (0,[])=Go.Pinned.cheatRows[i]:=by
    rw[List.getD_eq_getElem?_getD,List.getElem?_eq_getElem hir];rfl
   have e0:cs'[0]?=some (.int .i64 x):=by
    have:=congrArg (fun l=>l[0]?) hx0;simpa[List.getElem?_take,List.getElem?_drop]using this
   have e1:cs'[1]?=some (.string s):=by
    have:=congrArg (fun l=>l[0]?) hs0;simpa[List.getElem?_take,List.getElem?_drop]using this
   refine⟨?_,?_⟩
   ·rw[k0,e0];unfold chN;rw[hg,h2.1]
   ·rw[k1,e1];unfold chS;rw[hg,h2.2]
  obtain⟨b,o,sp⟩:=a;have h00:=(each 0 zd).1;have hspot:sp=none:=by simpa[Addr.add]using World.cell?_spot h00
  subst hspot;have hadd:=zf6 b o;have hbW:b<W.heap.size:=by
   have:=World.block_lt_of_cell? W _ h00;rw[hadd]at this;exact this
  have hcell:W.cell? ⟨11,0,none⟩=some (.slice (some ⟨b,o,none⟩) 61 cap):=by
   have h5:=World.var?_cell hg4 hv4 0;have h6:cs4[0]?=some (.slice (some ⟨b,o,none⟩) 61 cap):=by
    rw[<-Array.getElem?_toList,hcs,<-hlen61];rfl
   exact h5.trans h6
  refine⟨b,o,cap,hbW,zd,hcell,fun i hi=>?_⟩;have h3:=each i hi;have e2:((⟨b,o,none⟩:Addr).add (i*2)).add 1=⟨b,o+i*2+1,none⟩:=by
   rw[hadd];rfl
  rw[e2,hadd]at h3;exact h3
end
end Go.Proofs.YtnifedmhgncioaaGreatDoor
