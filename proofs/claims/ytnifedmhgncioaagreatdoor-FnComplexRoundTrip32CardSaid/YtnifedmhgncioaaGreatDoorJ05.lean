/- Lemmas that the claim's top text leans on. No condition of their own. -/
import Derived.Test.YtnifedmhgncioaaGreatDoorJ03
import Derived.Lib.ItoaNum
namespace Go.Proofs.YtnifedmhgncioaaGreatDoor
open Go.RowKit
set_option linter.unusedSimpArgs false
set_option linter.unusedVariables false
set_option maxHeartbeats 16000000
section
open Go.RowKit Go.Sort
def zkm (b:UInt8):Value:=Value.int .u8 (b.toNat:Int)
def BRow (w:World) (g:Nat) (bs:List UInt8):Prop:=Row w g (bs.map zkm)
theorem BRow.row {w:World} {g:Nat} {bs:List UInt8} (h:BRow w g bs):Row w g (bs.map zkm):=h
def yi (d:Nat):Nat:=if d=0 then 0 else Lib.nDigits d
theorem yoe:Lib.bitLen 0=0:=by decide
theorem ypp (d:Nat) (h:d<18446744073709551616):Lib.l10 (Lib.bitLen d)+b2n (decide (10^Lib.l10 (Lib.bitLen d)<=d))=yi d/\Lib.l10 (Lib.bitLen d)<=19:=by
 by_cases h0:d=0
 ·subst h0;rw[yoe];decide
 ·have h1:=Lib.numDigits_eq d zd h;unfold yi;rw[if_neg h0,<-h1.1];refine⟨?_,h1.2⟩;unfold b2n;simp
theorem ykr (T:Nat) (d:Nat) (w:World) (he:Env T w) (h:d<18446744073709551616):
  Calls Tryz.prog 96 #[.int .u64 d] w fun e w'=>e=.returned (.int .i64 (yi d:Nat))/\w'=w:=by
 obtain⟨h1,h2⟩:=ypp d h;obtain⟨k,hk⟩:=zX (Lib.l10 (Lib.bitLen d));have hL:Lib.bitLen d<=64:=Lib.bitLen_le d 64 (Nat.le_refl _) h;rw[hk]at h1 h2;have hp:=he.p10 k zd;obtain⟨t,ht⟩:=zX (10^k);rw[ht]at h1 hp;obtain⟨c,hc⟩:=zX (b2n (decide (t<=d)));have hcl:c<=1:=by rw[<-hc];exact zpq _
 rw[hc]at h1;have hl:(k:Int)=(Lib.bitLen d:Int)*78913 / 262144:=by rw[<-hk];unfold Lib.l10;omega
 generalize yi d=r at *
 have B:=zes (decide (t<=d));rw[hc]at B;have M:=Tryz.bits_Len64 (d:Int);have HB:=zH B;have HM:=zH M;have H1:=zH h1;have HL:=zH hl;rw[Int.toNat_natCast]at M;clear B M h1 hl ht hc hk he;generalize hbl:Lib.bitLen d=bl at *
 have Hbl:=zH hbl;clear hbl;go_enter Tryz.func96,Tryz.ntmps96;go_wp2_with fail;refine (HM.out _ zd zd).mono ?_;rintro e w1 ⟨rfl,rfl⟩;rw[Int.toNat_natCast,Hbl.out];go_wp2_with fail;refine (yke _ (k:Int) _ zd zd HL.out).mono ?_;rintro e w1 ⟨rfl,rfl⟩;go_wp2_with fail;refine (HB.out _).mono ?_;rintro e w1 ⟨rfl,rfl⟩;go_wp2_with fail;go_ret;refine⟨?_,rfl⟩;show Ending.returned (.int .i64 ((k:Int)+c))=_;rw[<-H1.out];go_num
def digs (d n:Nat):List UInt8:=(List.range n).map fun t=>Lib.dg d (n-1-t)
theorem va (d n:Nat):(digs d n).length=n:=by simp[digs]
theorem Row.put {w:World} {g:Nat} {xs:List Value} (h:Row w g xs) (dk:Array UInt8) (hl:dk.size<=xs.length):Row (putRow zkm w g 0 dk) g (dk.toList.map zkm++xs.drop dk.size):=by
 obtain⟨e,h⟩:=h;refine⟨e,?_⟩;simp only[putRow,mapBlock,Array.getElem?_modify,h];simp only[if_true,Option.map_some,onCells];congr 2;apply Array.ext';simp only[putCells];apply List.ext_getElem?;intro i;rw[Array.getElem?_toList,Array.getElem?_mapIdx];simp only[Nat.zero_le,Nat.zero_add,true_and,Nat.sub_zero,List.getElem?_toArray];rcases Nat.lt_or_ge i dk.size with hi | hi
 ·rw[List.getElem?_append_left (by simpa using hi),List.getElem?_eq_getElem zd];simp[hi]
 ·rw[List.getElem?_append_right (by simpa using hi)];simp only[List.length_map,Array.length_toList,List.getElem?_drop];rw[show dk.size+(i-dk.size)=i by omega];cases hx:xs[i]? with
  | none=>rfl
  | some y=>simp;intro h1;omega
theorem ypz (w:World) (g:Nat) (dk:Array UInt8):w.grownBy (putRow zkm w g 0 dk) (some g):=by
 refine⟨rfl,rfl,rfl,by simp[putRow,mapBlock],fun k _ hne=>?_⟩;simp only[putRow,mapBlock,Array.getElem?_modify];rw[if_neg (fun e=>hne (by rw[e]))]
theorem ykx (g n cap u:Nat) (bs:List UInt8) (w:World) (hr:BRow w g bs) (hn:n<=bs.length) (hu:u<10^n) (hu64:u<18446744073709551616) (hb:bs.length<=4096):
  Calls Tryz.prog 132 #[.slice (some ⟨g,0,none⟩) n cap,.int .u64 u] w fun e w'=>
   e=.returned (.tuple #[])/\BRow w' g (digs u n++bs.drop n)/\w.grownBy w' (some g):=by
 have hH:Holds zkm w g 0 (bs.take n).toArray:=fun j hj=>by
  have hj':j<n:=by simp at hj;omega
  refine⟨?_,hr.row.frozen _⟩;rw[hr.row.cell];rw[Nat.zero_add,List.getElem?_map,List.getElem?_eq_getElem zd,getElem!_pos _ j hj];simp
 have hsz:(bs.take n).toArray.size=n:=zh;have key:=Tryz.internal_strconv_formatBase10 g 0 cap u (bs.take n).toArray w hH (by rw[hsz];exact hu) hu64 (by rw[hsz];omega);rw[hsz]at key;refine key.mono ?_;rintro e w' ⟨rfl,k,v',dk,rfl,hinv⟩;have hds:=hinv.size;have hdk:dk.toList=digs u n:=by
  apply List.ext_getElem
  ·rw[va];simpa using hds
  ·intro i h1 h2;have hi:i<n:=by rw[va]at h2;exact h2
   have:=hinv.done i (Nat.zero_le _) hi;rw[getElem!_pos _ i zd]at this;simp only[Array.getElem_toList,this,digs,List.getElem_map,List.getElem_range]
 refine⟨rfl,?_,?_⟩
 ·have h1:=(hr.row.put dk zh).drewN k;rw[hdk,hds]at h1;have e:(digs u n++bs.drop n).map zkm=(digs u n).map zkm++(bs.map zkm).drop n:=zi;show Row _ g _;rw[e];exact h1
 ·exact yx (ypz w g dk) (yh _ k none) (fun _ h=>zF)
def uc (l:List UInt8):Nat->Nat
 | 0=>0
 | n+1=>if l.getD n 0=48 then uc l n else n+1
theorem zjj (l:List UInt8) (n:Nat):uc l n<=n:=by
 induction n with
 | zero=>exact Nat.le_refl _
 | succ n ih=>unfold uc;split <;> omega
theorem yks (d:Nat) (h:d<18446744073709551616):yi d<=20:=by
 obtain⟨h1,h2⟩:=ypp d h;have:=zpq (decide (10^Lib.l10 (Lib.bitLen d)<=d));omega
theorem xi (d:Nat):d<10^yi d:=by
 unfold yi;split
 ·subst_vars;decide
 ·exact Lib.lt_pow_nDigits d
theorem yln (g cap d:Nat) (p:Int) (bs:List UInt8) (w:World) (hr:BRow w g bs) (hb0:20<=bs.length) (hb:bs.length<=4096) (hc:bs.length<=cap) (hd:d<18446744073709551616) (hp1:-100000<=p) (hp2:p<=100000):
  Calls Tryz.prog 95 #[.slice (some ⟨g,0,none⟩) bs.length cap,.int .u64 d,.int .i64 p,.int .i64 (yi d:Nat)] w fun e w'=>
   e=.returned (.tuple #[.int .i64 ((yi d:Nat)+p),.int .i64 (uc (digs d (yi d)) (yi d):Nat)])/\BRow w' g (digs d (yi d)++bs.drop (yi d))/\w.grownBy w' (some g):=by
 have hn:=yks d hd;have hlt:=xi d;generalize yi d=n at *
 have hdl:=va d n;have hF:=ykx g n cap d bs w hr zd hlt hd hb;have HF:=zH hF;clear hF hr hlt;generalize digs d n=ds at *
 generalize hL:bs.length=L at *
 have Hdl:=zH hdl;have HL:=zH hL;clear hL hdl;have hnL:n<=L:=zd;have hdec:decide (n<=L)=true:=by simpa using hnL
 go_enter Tryz.func95,Tryz.ntmps95;go_wp2_with fail;refine HF.out.mono ?_;rintro e w1 ⟨rfl,hr1,hg1⟩;have HR:=zH hr1;clear hr1 HF;go_wp2_with fail;go_loop [3] (fun v=>∃ k:Nat,k<=n/\v=.int .i64 k/\uc ds k=uc ds n) (fun v=>(RowKit.intOf v).toNat)
 case atStart=>exact⟨n,Nat.le_refl _,rfl,rfl⟩
 case round=>
  obtain⟨k,hk,rfl,hz⟩:=hrel;have HZ:=zH hz;clear hz;cases k with
  | zero=>
   have h0:decide ((0:Int)<((0:Nat):Int))=false:=ze;have hfin:uc ds n=0:=HZ.out.symm;have HFin:=zH hfin;clear hfin;go_wp2_with fail;go_ret2;refine⟨?_,HR.out,hg1⟩;rw[HFin.out];rfl
  | succ j=>
   have hj:j<L:=zd;have hcell:w1.cell? ⟨g,j,none⟩=some (zkm (ds.getD j 0)):=by
    rw[HR.out.row.cell,List.getElem?_map,List.getElem?_append_left (by rw[Hdl.out];omega),List.getD_eq_getElem?_getD,List.getElem?_eq_getElem (by rw[Hdl.out];omega)];simp
   unfold zkm at hcell;by_cases h48:ds.getD j 0=48
   ·have hb1:(((ds.getD j 0).toNat:Int)==48)=true:=by rw[h48];decide
    have hz2:uc ds (j+1)=uc ds j:=by rw[uc,if_pos h48]
    have HZ2:=zH (HZ.out.symm.trans hz2);clear hz2 h48;generalize ds.getD j 0=c at *
    go_wp2_with fail;go_round
    case rel=>exact⟨j,zd,by go_num,HZ2.out.symm⟩
    case measure=>simp[RowKit.intOf]
   ·have hb1:(((ds.getD j 0).toNat:Int)==48)=false:=by
     rw[beq_eq_false_iff_ne];intro e;apply h48;apply UInt8.toNat_inj.1;have:(48:UInt8).toNat=48:=ze;omega
    have hz2:uc ds (j+1)=j+1:=by rw[uc,if_neg h48]
    have HZ2:=zH (HZ.out.symm.trans hz2);clear hz2 h48;generalize ds.getD j 0=c at *
    go_wp2_with fail;go_ret2;refine⟨?_,HR.out,hg1⟩;rw[HZ2.out];rfl
end
def OwnB (T:Nat) (w:World) (v:Value) (xs:List UInt8):Prop:=Own w v (xs.map zkm)/\∀ k,v.ownBlock=some k->T<=k
theorem OwnB.alloc {T:Nat} {w:World} {v:Value} {xs:List UInt8} (h:OwnB T w v xs) (o:Obj):OwnB T (w.alloc o) v xs:=⟨h.1.alloc o,h.2⟩
theorem OwnB.drewN {T:Nat} {w:World} {v:Value} {xs:List UInt8} (h:OwnB T w v xs) (n:Nat):OwnB T (w.drewN n) v xs:=⟨h.1.drewN n,h.2⟩
theorem OwnB.grown {T:Nat} {w w':World} {row:Option Nat} {v:Value} {xs:List UInt8} (h:OwnB T w v xs) (hg:w.grownBy w' row) (hne:v.ownBlock≠row):OwnB T w' v xs:=⟨h.1.grown hg hne,h.2⟩
theorem OwnB.grown0 {T:Nat} {w w':World} {v:Value} {xs:List UInt8} (h:OwnB T w v xs) (hg:w.grownBy w' none):OwnB T w' v xs:=by
 refine h.grown hg ?_;obtain⟨⟨g,rest,rfl,_⟩,_⟩:=h;simp[Value.ownBlock]
theorem OwnB.env {T:Nat} {w w':World} {v v':Value} {xs:List UInt8} (h:OwnB T w v xs) (hs:Stp w v w' v') (he:Env T w):Env T w':=he.grown hs.1 h.2
theorem OwnB.block {T:Nat} {w:World} {v:Value} {xs:List UInt8} (h:OwnB T w v xs):∃ g c,v=.slice (some ⟨g,0,none⟩) xs.length c/\T<=g/\g<w.heap.size/\xs.length<=c/\c<=maxLen:=by
 obtain⟨⟨g,rest,rfl,hr,hm⟩,hT⟩:=h;refine⟨g,_,zi,hT g rfl,hr.lt,zi,hm⟩
theorem OwnB.lt {T:Nat} {w:World} {v:Value} {xs:List UInt8} (h:OwnB T w v xs):T<w.heap.size:=by
 obtain⟨g,c,rfl,h1,h2,_⟩:=h.block;omega
def zpw (P:Program) (t:TypeId):Prop:=∃ e i z,P.underlying t=some (.slice e)/\P.info? e=some i/\i.zero=some z/\i.size=1/\z.cells.size=1/\i.bytes=1
theorem zhu {P:Program} {ops:Array Oper} {rest:List Oper} {o:Oper} {a:Act} {Q:Exit->Act->World->Prop} {w:World} (hgd:o.guard=none) (s x:Operand) (t tx:TypeId)
  (ho:o.op=.call { callee:=.builtin .append,args:=#[s,x],argTypes:=#[t,tx] }) (hty:zpw P t) {T:Nat} {v:Value} {xs:List UInt8} (hown:OwnB T w v xs) (hs:a.eval s=v)
  (xv:Value) (hx:a.eval x=xv) (ys:List UInt8) (hsrc:Src P 1 tx xv ys.length (ys.map zkm) w) (hb:xs.length+ys.length<=140737489400000)
  (h:∀ v' w',OwnB T w' v' (xs++ys)->Stp w v w' v'->wpList P ops Q rest (a.put o.dst v') w'):wpList P ops Q (o::rest) a w:=by
 obtain⟨e,i,z,h1,h2,h3,h4,h5,h6⟩:=hty;have hlt:=hown.lt;obtain⟨v',w',hrun,hown',hstp⟩:=ql (P:=P) w t tx o.type e i z h1 h2 h3 h4 h5 v (xs.map zkm) hown.1 xv ys.length (ys.map zkm) hsrc zαi zd;refine wpList_plain hgd fun K hK=>?_
 unfold Oper.wp execOp;simp only[ho,resolve,invoke,builtin,Sem.run_bind,Sem.run_pure,Result.andThen_ok,List.map_toArray,List.map_cons,List.map_nil,hs,hx,hrun];refine hK _ _ (h v' w' ⟨by rw[List.map_append];exact hown',fun k hk=>?_⟩ hstp);by_cases hkl:k<w.heap.size
 ·exact hown.2 k (hstp.2 k hk hkl)
 ·omega
theorem zmx {P:Program} {w:World} {tx e':TypeId} (hk:P.underlying tx=some (.slice e')) (us:List UInt8) (E:TypeId):Src P 1 tx (.slice (some ⟨w.heap.size,0,none⟩) us.length us.length) us.length (us.map zkm) (w.alloc (.cells (us.map zkm).toArray E)):=by
 have hr:=Row.new w (us.map zkm) E;refine Src.ofSlice _ hk ⟨w.heap.size,0,none⟩ us.length us.length (us.map zkm) zi (fun j v hj=>?_) (fun v hv=>?_)
 ·have e:((⟨w.heap.size,0,none⟩:Addr).add j)=⟨w.heap.size,j,none⟩:=by
   unfold Addr.add;split
   ·subst_vars;rfl
   ·simp
  rw[e,hr.cell];exact hj
 ·obtain⟨b,_,rfl⟩:=List.mem_map.1 hv;rfl
theorem yry {P:Program} {w:World} {tx e':TypeId} (hk:P.underlying tx=some (.slice e')) (g o n c:Nat) (bs:List UInt8) (hr:BRow w g bs) (hn:o+n<=bs.length):Src P 1 tx (.slice (some ⟨g,o,none⟩) n c) ((bs.drop o).take n).length (((bs.drop o).take n).map zkm) w:=by
 have hl:((bs.drop o).take n).length=n:=zh;rw[hl];refine Src.ofSlice _ hk ⟨g,o,none⟩ n c _ (by rw[List.length_map,hl];omega) (fun j v hj=>?_) (fun v hv=>?_)
 ·have e:((⟨g,o,none⟩:Addr).add j)=⟨g,o+j,none⟩:=by
   unfold Addr.add;split
   ·subst_vars;rfl
   ·rfl
  rw[e,hr.row.cell];rw[List.getElem?_map]at hj ⊢;rw[<-hj];congr 1;rcases Nat.lt_or_ge j n with h | h
  ·rw[List.getElem?_take_of_lt h,List.getElem?_drop]
  ·rw[List.getElem?_eq_none zd]at hj;simp at hj
 ·obtain⟨b,_,rfl⟩:=List.mem_map.1 hv;rfl
theorem ykh {P:Program} {w:World} {tx:TypeId} (hk:P.underlying tx=some .string) (s:ByteArray) (us:List UInt8) (hu:s.data.toList=us):Src P 1 tx (.string s) us.length (us.map zkm) w:=by
 have h:=Src.ofString w hk s;subst hu;have e:s.size=s.data.toList.length:=zi;rw[e]at h;exact h
theorem ykf (u:Nat) (hu:u<18446744073709551616):(Lib.decDigits u).length<=20:=by
 rw[Lib.decDigits_length];have:=yks u hu;unfold yi at this;split at this
 ·subst_vars;rw[Lib.nDigits_small zd];omega
 ·exact this
theorem ymn (u:Nat):digs u (Lib.nDigits u)=Lib.decDigits u:=by rw[Lib.decDigits_eq];rfl
theorem BRow.new (w:World) (bs:List UInt8) (E:TypeId):BRow (w.alloc (.cells (bs.map zkm).toArray E)) w.heap.size bs:=Row.new w (bs.map zkm) E
theorem BRow.grown {w w':World} {row:Option Nat} {g:Nat} {xs:List UInt8} (h:BRow w g xs) (hg:w.grownBy w' row) (hne:some g≠row):BRow w' g xs:=Row.grown h hg hne
theorem BRow.lt {w:World} {g:Nat} {xs:List UInt8} (h:BRow w g xs):g<w.heap.size:=Row.lt h
theorem OwnB.ne_new {T:Nat} {w:World} {v:Value} {xs:List UInt8} (h:OwnB T w v xs):v.ownBlock≠some w.heap.size:=h.1.ne_of_ge (Nat.le_refl _)
theorem Stp.alloc1 {w w':World} {v v':Value} {o:Obj} (h:Stp (w.alloc o) v w' v'):Stp w v w' v':=((Stp.refl w v).alloc o).trans h
theorem Stp.of0 {w w':World} (v:Value) (h:w.grownBy w' none):Stp w v w' v:=⟨zxn h,fun _ e _=>e⟩
theorem Stp.other {T:Nat} {w w1 w':World} {v:Value} {xs:List UInt8} (_ho:OwnB T w v xs) (h1:w.grownBy w1 none) {g:Nat} (hg:w.heap.size<=g) (h:w1.grownBy w' (some g)):Stp w v w' v:=
 ⟨zxn (zhe h1 h hg),fun _ e _=>e⟩
theorem yrg:Tryz.prog.arrayLen 147=24:=by simp[Program.arrayLen,Program.elem,Tryz.underlying147]
theorem yr0 (g n:Nat) (W:World) (hn:n<=24):(Instr.sliceAt 147 (.pointer (some ⟨g,0,none⟩)) none (some (.int .i64 (n:Int))) none).run Tryz.prog W=.ok (.slice (some ⟨g,0,none⟩) n 24) W:=by
 rw[run_sliceAt_array_h W 147 ⟨g,0,none⟩ (by simp[Program.arrayLen,Program.elem,Tryz.underlying147]) .i64 (n:Int) zd (by rw[yrg];omega)];go_simp
theorem zr3:(Tryz.prog.info? 5).map (fun i=>(i.zero,i.size,i.bytes))=some (some (.int .u8 0),1,1):=by kernel_rfl
theorem zsw:zpw Tryz.prog 83:=by
 obtain⟨i0,hi,hz0,hz1,hz2⟩:=info_parts zr3;exact⟨5,i0,_,Tryz.underlying83,hi,hz0,hz1,rfl,hz2⟩
set_option maxRecDepth 100000 in
theorem ykn (T u:Nat) (dst:Value) (xs:List UInt8) (w:World) (he:Env T w) (hown:OwnB T w dst xs) (hu:u<18446744073709551616) (hx:xs.length<=140737489300000):
  Calls Tryz.prog 121 #[dst,.int .u64 u,.int .i64 10] w fun e w'=>∃ v',e=.returned v'/\OwnB T w' v' (xs++Lib.decDigits u)/\Stp w dst w' v':=by
 by_cases h100:u<100
 ·have hS:=Tryz.internal_strconv_small u h100;have HS:=zH hS;have hl:=ykf u hu;clear hS;generalize Lib.decDigits u=ds at *
  go_enter Tryz.func121,Tryz.ntmps121;go_wp2_with fail;refine (HS.out _).mono ?_;rintro e w1 ⟨rfl,rfl⟩;go_wp2_with (at_builtin;refine zhu rfl _ _ _ _ rfl zsw hown rfl _ rfl ds (ykh Tryz.underlying9 _ _ rfl) zd ?_;intro v1 w2 hown1 hstp1);go_ret;exact⟨v1,rfl,hown1,hstp1⟩
 ·have hl:=ykf u hu;have hn:yi u=Lib.nDigits u:=by unfold yi;rw[if_neg zd]
  have hN:=ykr T u;have hlt:=xi u;have hnl:=yks u hu;have hdd:digs u (yi u)=Lib.decDigits u:=by rw[hn,ymn]
  have hdl:=va u (yi u);generalize yi u=n at *
  have HN:=zH hN;have Hdd:=zH hdd;have Hdl:=zH hdl;clear hN hdd hn hdl;have hsl:=fun W=>yr0 w.heap.size n W zd
  go_enter Tryz.func121,Tryz.ntmps121;go_wp2_with fail;refine (HN.out _ (he.alloc _) hu).mono ?_;rintro e w1 ⟨rfl,hw1⟩;subst hw1;go_wp2_with fail;refine (ykx w.heap.size n 24 u (List.replicate 24 0) _ (BRow.new w (List.replicate 24 0) _) zh hlt hu zi).mono ?_;rintro e w1 ⟨rfl,hr1,hg1⟩;have hst:=Stp.other hown (World.grownBy_alloc w _ none) (Nat.le_refl _) hg1;have hown2:OwnB T w1 dst xs:=(hown.alloc _).grown hg1 hown.ne_new;have hsrc:=yry (P:=Tryz.prog) Tryz.underlying83 w.heap.size 0 n 24 _ hr1 (by simp[Hdl.out]);rw[List.drop_zero,List.take_left' Hdl.out,Hdd.out]at hsrc;clear hr1 hg1;go_wp2_with (at_builtin;refine zhu rfl _ _ _ _ rfl zsw hown2 rfl _ rfl (Lib.decDigits u) hsrc zd ?_;intro v1 w2 hown1 hstp1);go_ret;exact⟨v1,rfl,hown1,hst.trans hstp1⟩
set_option maxRecDepth 100000 in
theorem ynm (T:Nat) (i:Int) (dst:Value) (xs:List UInt8) (w:World) (he:Env T w) (hown:OwnB T w dst xs) (h1:-100000<=i) (h2:i<=100000) (hx:xs.length<=140737489200000):
  Calls Tryz.prog 122 #[dst,.int .i64 i,.int .i64 10] w fun e w'=>∃ v',e=.returned v'/\OwnB T w' v' (xs++Lib.itoa i)/\Stp w dst w' v':=by
 by_cases hi:i<0
 ·obtain⟨n,hn⟩:∃ n:Nat,i=-(n:Int):=⟨i.natAbs,zd⟩;subst hn;have hit:Lib.itoa (-(n:Int))=[45]++Lib.decDigits n:=by
   unfold Lib.itoa;rw[if_pos hi];simp
  have hw1:IntKind.u64.wrap (-(n:Int))=18446744073709551616-n:=zl;have hw2:IntKind.u64.wrap (-(18446744073709551616-(n:Int)))=n:=zl;have Hit:=zH hit;clear hit;go_enter Tryz.func122,Tryz.ntmps122;go_wp2_with (at_builtin;refine zhu rfl _ _ _ _ rfl zsw (hown.alloc _) rfl _ rfl [45] (zmx Tryz.underlying83 [45] _) zh ?_;intro v1 w2 hown1 hstp1);refine (ykn T n v1 _ _ (OwnB.env (hown.alloc _) hstp1 (he.alloc _)) hown1 zd zh).mono ?_;rintro e w3 ⟨v2,rfl,hown2,hstp2⟩;go_wp2_with fail;go_ret;refine⟨v2,rfl,?_,hstp1.alloc1.trans hstp2⟩;rw[Hit.out,<-List.append_assoc];exact hown2
 ·obtain⟨n,hn⟩:∃ n:Nat,i=(n:Int):=⟨i.toNat,zd⟩;subst hn;have hit:Lib.itoa (n:Int)=Lib.decDigits n:=by
   unfold Lib.itoa;rw[if_neg hi];simp
  have hw1:IntKind.u64.wrap (n:Int)=n:=zl;have Hit:=zH hit;clear hit;go_enter Tryz.func122,Tryz.ntmps122;go_wp2_with fail;refine (ykn T n dst _ _ he hown zd zd).mono ?_;rintro e w3 ⟨v2,rfl,hown2,hstp2⟩;go_wp2_with fail;go_ret;refine⟨v2,rfl,?_,hstp2⟩;rw[Hit.out];exact hown2
def yob (neg:Bool) (mant:Nat) (exp:Int):List UInt8:=
 (if neg then [45] else [])++(Lib.decDigits mant++([112]++((if 0<=exp then [43] else [])++Lib.itoa exp)))
theorem yr9 (i:Int) (h1:-100000<=i) (h2:i<=100000):(Lib.itoa i).length<=21:=by
 unfold Lib.itoa;split
 ·have:=ykf i.natAbs zd;simp;omega
 ·have:=ykf i.toNat zd;omega
set_option maxRecDepth 100000 in
theorem yq3 (T mant:Nat) (neg:Bool) (exp:Int) (dst:Value) (xs:List UInt8) (w:World) (he:Env T w) (hown:OwnB T w dst xs) (hm:mant<18446744073709551616) (h1:-100000<=exp) (h2:exp<=100000) (hx:xs.length<=140737489100000):
  Calls Tryz.prog 90 #[dst,.bool neg,.int .u64 mant,.int .i64 exp] w fun e w'=>∃ v',e=.returned v'/\OwnB T w' v' (xs++yob neg mant exp)/\Stp w dst w' v':=by
 have hdl:=ykf mant hm;have hT:=hown.lt;cases neg
 case' true=>
  go_enter Tryz.func90,Tryz.ntmps90;go_wp2_with (at_builtin;refine zhu rfl _ _ _ _ rfl zsw (hown.alloc _) rfl _ rfl [45] (zmx Tryz.underlying83 [45] _) zh ?_;intro v1 w1 ho hs);have he1:=OwnB.env (hown.alloc _) hs (he.alloc _);replace hs:=hs.alloc1;have hl:(xs++[45]).length<=140737489100001:=zh
 case' false=>
  go_enter Tryz.func90,Tryz.ntmps90;go_wp2_with fail;obtain⟨v1,w1,h⟩:∃ v1 w1,v1=dst/\w1=w:=⟨_,_,rfl,rfl⟩;obtain⟨rfl,rfl⟩:=h;have ho:OwnB T w1 v1 (xs++[]):=by rw[List.append_nil];exact hown
  have hs:=Stp.refl w1 v1;have he1:=he;have hl:(xs++[]).length<=140737489100001:=zh
 all_goals
  clear hown he;refine (ykn T mant v1 _ _ he1 ho hm zd).mono ?_;rintro e w2 ⟨v2,rfl,ho2,hs2⟩;have he2:=OwnB.env ho hs2 he1;have hs:=hs.trans hs2;have hT2:=ho2.lt;clear hs2 ho he1;have he:=he2;have ho:=ho2;clear he2 ho2;by_cases he0:0<=exp
  case' pos=>
   go_wp2_with (first | (at_builtin;refine zhu rfl _ _ _ _ rfl zsw (ho.alloc _) rfl _ rfl [112] (zmx Tryz.underlying83 [112] _) zβI ?_;intro v w ho1 hs1;replace he:=OwnB.env (ho.alloc _) hs1 (he.alloc _);replace hs:=Stp.trans hs (Stp.alloc1 hs1);replace ho:=ho1;clear ho1 hs1) | (at_builtin;refine zhu rfl _ _ _ _ rfl zsw (ho.alloc _) rfl _ rfl [43] (zmx Tryz.underlying83 [43] _) zβI ?_;intro v w ho1 hs1;replace he:=OwnB.env (ho.alloc _) hs1 (he.alloc _);replace hs:=Stp.trans hs (Stp.alloc1 hs1);replace ho:=ho1;clear ho1 hs1))
  case' neg=>
   go_wp2_with (first | (at_builtin;refine zhu rfl _ _ _ _ rfl zsw (ho.alloc _) rfl _ rfl [112] (zmx Tryz.underlying83 [112] _) zβI ?_;intro v w ho1 hs1;replace he:=OwnB.env (ho.alloc _) hs1 (he.alloc _);replace hs:=Stp.trans hs (Stp.alloc1 hs1);replace ho:=ho1;clear ho1 hs1))
  all_goals
   refine (ynm T exp _ _ _ he ho h1 h2 zβI).mono ?_;rintro e w5 ⟨v5,rfl,ho5,hs5⟩;replace hs:=Stp.trans hs hs5;go_wp2_with fail;go_ret;refine⟨v5,rfl,?_,hs⟩;exact cast (congrArg (OwnB T w5 v5) (by simp[yob,he0])) ho5
end Go.Proofs.YtnifedmhgncioaaGreatDoor
