/- Lemmas that the claim's top text leans on. No condition of their own. -/
import Derived.Test.YtnifedmhgncioaaGreatDoorK04
import Derived.Test.YtnifedmhgncioaaGreatDoorK05
namespace Go.Proofs.YtnifedmhgncioaaGreatDoor
open Go.RowKit
set_option linter.unusedSimpArgs false
set_option linter.unusedVariables false
set_option maxHeartbeats 16000000
theorem zch {P:Program} {ops:Array Oper} {rest:List Oper} {o:Oper} {Q:Exit->Act->World->Prop} {w:World} {n:Nat} {env:List (Nat×Value)} {σ:Nat->Value} (hgd:o.guard=none) (ks kx:Nat) (t tx:TypeId)
  (ho:o.op=.call { callee:=.builtin .append,args:=#[.tmp ks,.tmp kx],argTypes:=#[t,tx] }) (hks:ks<n) (hkx:kx<n) (hty:zpw P t) {T:Nat} {v:Value} {xs:List UInt8} (hown:OwnB T w v xs) (hs:over env σ ks=v)
  (xv:Value) (hx:over env σ kx=xv) (ys:List UInt8) (hsrc:Src P 1 tx xv ys.length (ys.map zkm) w) (hb:xs.length+ys.length<=140737489400000)
  (h:∀ v' w',OwnB T w' v' (xs++ys)->Stp w v w' v'->wpList P ops Q rest ((Fr n env σ).put o.dst v') w'):wpList P ops Q (o::rest) (Fr n env σ) w:=
 zhu hgd (.tmp ks) (.tmp kx) t tx ho hty hown ((jd n env σ ks hks).trans hs) xv ((jd n env σ kx hkx).trans hx) ys hsrc hb h
def Dig (w:World) (v s:Value) (ds:List UInt8):Prop:=
 ds=[]\/∃ (g c:Nat) (bs:List UInt8),s=.slice (some ⟨g,0,none⟩) bs.length c/\bs.length<=c/\c<=100000/\(∃ rest,Row w g (bs.map zkm++rest))/\v.ownBlock≠some g/\bs.take ds.length=ds/\ds.length<=bs.length
theorem Dig.stp {w w':World} {v v' s:Value} {ds:List UInt8} (h:Dig w v s ds) (hs:Stp w v w' v'):Dig w' v' s ds:=by
 rcases h with h | ⟨g,c,bs,h1,h2,h2',h3,h4,h5,h6⟩
 ·exact .inl h
 ·obtain⟨rest,h3⟩:=h3;obtain⟨h7,h8⟩:=hs.row h3 h4;exact .inr ⟨g,c,bs,h1,h2,h2',⟨rest,h7⟩,h8,h5,h6⟩
theorem yqk {P:Program} {w:World} {tx e':TypeId} (hk:P.underlying tx=some (.slice e')) (g o n c:Nat) (bs:List UInt8) (rest:List Value) (hr:Row w g (bs.map zkm++rest)) (hn:o+n<=bs.length):Src P 1 tx (.slice (some ⟨g,o,none⟩) n c) ((bs.drop o).take n).length (((bs.drop o).take n).map zkm) w:=by
 have hl:((bs.drop o).take n).length=n:=zh;rw[hl];refine Src.ofSlice _ hk ⟨g,o,none⟩ n c _ (by rw[List.length_map,hl];omega) (fun j v hj=>?_) (fun v hv=>?_)
 ·have e:((⟨g,o,none⟩:Addr).add j)=⟨g,o+j,none⟩:=by
   unfold Addr.add;split
   ·subst_vars;rfl
   ·rfl
  rcases Nat.lt_or_ge j n with h | h
  ·rw[e,hr.cell,List.getElem?_append_left zβZ];rw[List.getElem?_map]at hj ⊢;rw[<-hj];congr 1;rw[List.getElem?_take_of_lt h,List.getElem?_drop]
  ·rw[List.getElem?_eq_none zβZ]at hj;cases hj
 ·obtain⟨b,_,rfl⟩:=List.mem_map.1 hv;rfl
theorem zo1 (i:Int) (h1:0<=i) (h2:i<256):zkm (UInt8.ofNat i.toNat)=.int .u8 i:=by
 unfold zkm;congr 1;simp;omega
theorem ycc {P:Program} {w:World} {tx e':TypeId} (hk:P.underlying tx=some (.slice e')) (i:Int) (h1:0<=i) (h2:i<256) (E:TypeId):
  Src P 1 tx (.slice (some ⟨w.heap.size,0,none⟩) 1 1) [UInt8.ofNat i.toNat].length ([UInt8.ofNat i.toNat].map zkm) (w.alloc (.cells #[.int .u8 i] E)):=by
 have h:=zmx (w:=w) hk [UInt8.ofNat i.toNat] E;simp only[List.map_cons,List.map_nil,zo1 i h1 h2]at h ⊢;exact h
theorem ykd {P:Program} {w:World} {tx e':TypeId} (hk:P.underlying tx=some (.slice e')) (i j:Int) (h1:0<=i) (h2:i<256) (h3:0<=j) (h4:j<256) (E:TypeId):
  Src P 1 tx (.slice (some ⟨w.heap.size,0,none⟩) 2 2) [UInt8.ofNat i.toNat,UInt8.ofNat j.toNat].length ([UInt8.ofNat i.toNat,UInt8.ofNat j.toNat].map zkm) (w.alloc (.cells #[.int .u8 i,.int .u8 j] E)):=by
 have h:=zmx (w:=w) hk [UInt8.ofNat i.toNat,UInt8.ofNat j.toNat] E;simp only[List.map_cons,List.map_nil,zo1 i h1 h2,zo1 j h3 h4]at h ⊢;exact h
theorem yki {P:Program} {w:World} {tx e':TypeId} (hk:P.underlying tx=some (.slice e')) (i j k:Int) (h1:0<=i) (h2:i<256) (h3:0<=j) (h4:j<256) (h5:0<=k) (h6:k<256) (E:TypeId):
  Src P 1 tx (.slice (some ⟨w.heap.size,0,none⟩) 3 3) [UInt8.ofNat i.toNat,UInt8.ofNat j.toNat,UInt8.ofNat k.toNat].length ([UInt8.ofNat i.toNat,UInt8.ofNat j.toNat,UInt8.ofNat k.toNat].map zkm) (w.alloc (.cells #[.int .u8 i,.int .u8 j,.int .u8 k] E)):=by
 have h:=zmx (w:=w) hk [UInt8.ofNat i.toNat,UInt8.ofNat j.toNat,UInt8.ofNat k.toNat] E;simp only[List.map_cons,List.map_nil,zo1 i h1 h2,zo1 j h3 h4,zo1 k h5 h6]at h ⊢;exact h
theorem yl4 {P:Program} {w:World} {tx e':TypeId} (hk:P.underlying tx=some (.slice e')) (i j k l:Int) (h1:0<=i) (h2:i<256) (h3:0<=j) (h4:j<256) (h5:0<=k) (h6:k<256) (h7:0<=l) (h8:l<256) (E:TypeId):
  Src P 1 tx (.slice (some ⟨w.heap.size,0,none⟩) 4 4) [UInt8.ofNat i.toNat,UInt8.ofNat j.toNat,UInt8.ofNat k.toNat,UInt8.ofNat l.toNat].length ([UInt8.ofNat i.toNat,UInt8.ofNat j.toNat,UInt8.ofNat k.toNat,UInt8.ofNat l.toNat].map zkm) (w.alloc (.cells #[.int .u8 i,.int .u8 j,.int .u8 k,.int .u8 l] E)):=by
 have h:=zmx (w:=w) hk [UInt8.ofNat i.toNat,UInt8.ofNat j.toNat,UInt8.ofNat k.toNat,UInt8.ofNat l.toNat] E;simp only[List.map_cons,List.map_nil,zo1 i h1 h2,zo1 j h3 h4,zo1 k h5 h6,zo1 l h7 h8]at h ⊢;exact h
structure Ap (T:Nat) (w:World) (dst s:Value) (ds:List UInt8) (w':World) (v:Value) (out:List UInt8):Prop where
 own:OwnB T w' v out
 stp:Stp w dst w' v
 env:Env T w'
 dig:Dig w' v s ds
theorem Ap.start {T:Nat} {w:World} {dst s:Value} {ds xs:List UInt8} (ho:OwnB T w dst xs) (he:Env T w) (hd:Dig w dst s ds):Ap T w dst s ds w dst xs:=⟨ho,Stp.refl w dst,he,hd⟩
theorem Ap.step {T:Nat} {w w1 w2:World} {dst s v1 v2:Value} {ds out ys:List UInt8} {o:Obj} (h:Ap T w dst s ds w1 v1 out) (ho:OwnB T w2 v2 (out++ys)) (hs:Stp (w1.alloc o) v1 w2 v2):Ap T w dst s ds w2 v2 (out++ys):=
 ⟨ho,h.stp.trans hs.alloc1,OwnB.env (h.own.alloc o) hs (h.env.alloc o),h.dig.stp hs.alloc1⟩
theorem Ap.step0 {T:Nat} {w w1 w2:World} {dst s v1 v2:Value} {ds out ys:List UInt8} (h:Ap T w dst s ds w1 v1 out) (ho:OwnB T w2 v2 (out++ys)) (hs:Stp w1 v1 w2 v2):Ap T w dst s ds w2 v2 (out++ys):=
 ⟨ho,h.stp.trans hs,OwnB.env h.own hs h.env,h.dig.stp hs⟩
theorem Ap.to {T:Nat} {w w1:World} {dst s v1:Value} {ds out out':List UInt8} (h:Ap T w dst s ds w1 v1 out) (e:out=out'):Ap T w dst s ds w1 v1 out':=e ▸ h
theorem Ap.at {T:Nat} {w w1:World} {dst s v1 v2:Value} {ds out:List UInt8} (h:Ap T w dst s ds w1 v1 out) (e:v2=v1):Ap T w dst s ds w1 v2 out:=e ▸ h
theorem Dig.piece {P:Program} {w:World} {v s:Value} {ds:List UInt8} {tx e':TypeId} (hk:P.underlying tx=some (.slice e')) (h:Dig w v s ds) (o m:Nat) (hm:o+m<=ds.length) (hne:ds≠[]):
  ∃ g L c,s=.slice (some ⟨g,0,none⟩) L c/\ds.length<=L/\L<=c/\c<=100000/\∀ c',Src P 1 tx (.slice (some ⟨g,o,none⟩) m c') ((ds.drop o).take m).length (((ds.drop o).take m).map zkm) w:=by
 rcases h with h | ⟨g,c,bs,h1,h2,h2',h3,h4,h5,h6⟩
 ·exact absurd h hne
 ·refine⟨g,bs.length,c,h1,h6,h2,h2',fun c'=>?_⟩;obtain⟨rest,h3⟩:=h3;have:=yqk (P:=P) hk g o m c' bs rest h3 zd;have e:(ds.drop o).take m=(bs.drop o).take m:=by
   rw[<-h5,List.drop_take,List.take_take,Nat.min_eq_left zd]
  rw[e];exact this
theorem Dig.cellAt {w:World} {v s:Value} {ds:List UInt8} (h:Dig w v s ds) {g L c:Nat} (hs:s=.slice (some ⟨g,0,none⟩) L c) (i:Nat) (hi:i<ds.length):w.cell? ⟨g,i,none⟩=some (.int .u8 ((ds.getD i 0).toNat:Int)):=by
 rcases h with h | ⟨g',c',bs,h1,h2,h2',h3,h4,h5,h6⟩
 ·subst h;simp at hi
 ·rw[hs]at h1;simp only[Value.slice.injEq,Option.some.injEq,Addr.mk.injEq,and_true]at h1;obtain⟨rfl,_,_⟩:=h1;obtain⟨rest,h3⟩:=h3;rw[h3.cell,List.getElem?_append_left zβZ,List.getElem?_map,List.getElem?_eq_getElem zd];have e:bs[i]' zd=ds.getD i 0:=by
   have:ds.getD i 0=(bs.take ds.length).getD i 0:=by rw[h5]
   rw[this,List.getD_eq_getElem?_getD,List.getElem?_take_of_lt hi,List.getElem?_eq_getElem zd];rfl
  rw[e];rfl
theorem ycn (l:List UInt8) (j:Nat) (h:j<l.length):l.take (j+1)=l.take j++[l.getD j 0]:=by
 rw[List.take_succ_eq_append_getElem h,List.getD_eq_getElem?_getD,List.getElem?_eq_getElem h];rfl
theorem Dig.at {w:World} {v s:Value} {ds:List UInt8} (h:Dig w v s ds) (i:Nat) (hi:i<ds.length):
  ∃ g L c,s=.slice (some ⟨g,0,none⟩) L c/\ds.length<=L/\L<=c/\c<=100000/\w.cell? ⟨g,i,none⟩=some (zkm (ds.getD i 0)):=by
 rcases h with h | ⟨g,c,bs,h1,h2,h2',h3,h4,h5,h6⟩
 ·subst h;simp at hi
 ·refine⟨g,bs.length,c,h1,h6,h2,h2',?_⟩;obtain⟨rest,h3⟩:=h3;rw[h3.cell,List.getElem?_append_left zβZ,List.getElem?_map,List.getElem?_eq_getElem zd];have e:bs[i]' zd=ds.getD i 0:=by
   have:ds.getD i 0=(bs.take ds.length).getD i 0:=by rw[h5]
   rw[this,List.getD_eq_getElem?_getD,List.getElem?_take_of_lt hi,List.getElem?_eq_getElem zd];rfl
  rw[e];rfl
section
def Dec (w:World) (g:Nat) (bs:List UInt8) (nd dp:Int) (ng tr:Bool):Prop:=
 bs.length=800/\Row w g (bs.map zkm++[.int .i64 nd,.int .i64 dp,.bool ng,.bool tr])
section
variable {w : World} {g : Nat} {bs : List UInt8} {nd dp : Int} {ng tr : Bool}
theorem Dec.len (h:Dec w g bs nd dp ng tr):bs.length=800:=h.1
theorem Dec.lt (h:Dec w g bs nd dp ng tr):g<w.heap.size:=h.2.lt
theorem Dec.digit (h:Dec w g bs nd dp ng tr) (i:Nat) (hi:i<800):w.cell? ⟨g,i,none⟩=some (.int .u8 ((bs.getD i 0).toNat:Int)):=by
 rw[h.2.cell,List.getElem?_append_left zv,List.getElem?_map,List.getD_eq_getElem?_getD,List.getElem?_eq_getElem (by rw[h.1];omega)];rfl
theorem Dec.cnd (h:Dec w g bs nd dp ng tr):w.cell? ⟨g,800,none⟩=some (.int .i64 nd):=by
 rw[h.2.cell,List.getElem?_append_right zv,List.length_map,h.1];rfl
theorem Dec.cdp (h:Dec w g bs nd dp ng tr):w.cell? ⟨g,801,none⟩=some (.int .i64 dp):=by
 rw[h.2.cell,List.getElem?_append_right zv,List.length_map,h.1];rfl
theorem Dec.cng (h:Dec w g bs nd dp ng tr):w.cell? ⟨g,802,none⟩=some (.bool ng):=by
 rw[h.2.cell,List.getElem?_append_right zv,List.length_map,h.1];rfl
theorem Dec.ctr (h:Dec w g bs nd dp ng tr):w.cell? ⟨g,803,none⟩=some (.bool tr):=by
 rw[h.2.cell,List.getElem?_append_right zv,List.length_map,h.1];rfl
theorem Dec.frozen (h:Dec w g bs nd dp ng tr) (i:Nat):w.frozen? ⟨g,i,none⟩=false:=h.2.frozen i
theorem Dec.grown {w':World} {row:Option Nat} (h:Dec w g bs nd dp ng tr) (hg:w.grownBy w' row) (hne:some g≠row):Dec w' g bs nd dp ng tr:=⟨h.1,h.2.grown hg hne⟩
theorem Dec.drewN (h:Dec w g bs nd dp ng tr) (n:Nat):Dec (w.drewN n) g bs nd dp ng tr:=⟨h.1,h.2.drewN n⟩
theorem Dec.drew (h:Dec w g bs nd dp ng tr):Dec w.drew g bs nd dp ng tr:=⟨h.1,h.2.drew⟩
theorem Dec.setDigit (h:Dec w g bs nd dp ng tr) (i:Nat) (hi:i<800) (c:Int) (h1:0<=c) (h2:c<256):Dec (w.setCell ⟨g,i,none⟩ (.int .u8 c)) g (bs.set i (UInt8.ofNat c.toNat)) nd dp ng tr:=by
 refine⟨by rw[List.length_set,h.1],?_⟩;have:=h.2.setCell i (.int .u8 c);rw[List.set_append_left _ _ zv,<-zo1 c h1 h2,<-List.map_set]at this;rw[zo1 c h1 h2]at this;exact this
theorem Dec.setNd (h:Dec w g bs nd dp ng tr) (x:Int):Dec (w.setCell ⟨g,800,none⟩ (.int .i64 x)) g bs x dp ng tr:=by
 refine⟨h.1,?_⟩;have:=h.2.setCell 800 (.int .i64 x);rw[List.set_append_right _ _ zv,List.length_map,h.1]at this;exact this
theorem Dec.setDp (h:Dec w g bs nd dp ng tr) (x:Int):Dec (w.setCell ⟨g,801,none⟩ (.int .i64 x)) g bs nd x ng tr:=by
 refine⟨h.1,?_⟩;have:=h.2.setCell 801 (.int .i64 x);rw[List.set_append_right _ _ zv,List.length_map,h.1]at this;exact this
theorem Dec.setTr (h:Dec w g bs nd dp ng tr) (x:Bool):Dec (w.setCell ⟨g,803,none⟩ (.bool x)) g bs nd dp ng x:=by
 refine⟨h.1,?_⟩;have:=h.2.setCell 803 (.bool x);rw[List.set_append_right _ _ zv,List.length_map,h.1]at this;exact this
end
def zbi (t:Nat) (dp:Int):Int:=if t=0 then 0 else dp
def Gr (w w':World) (g:Nat):Prop:=w.grownBy w' (some g)
theorem Gr.refl (w:World) (g:Nat):Gr w w g:=yy w _
theorem Gr.trans {w w1 w2:World} {g:Nat} (h:Gr w w1 g) (k:Gr w1 w2 g):Gr w w2 g:=yx h k (fun _ e _=>e)
theorem Gr.drewN {w w1:World} {g:Nat} (h:Gr w w1 g) (n:Nat):Gr w (w1.drewN n) g:=h.trans (yh _ _ _)
theorem Gr.drew {w w1:World} {g:Nat} (h:Gr w w1 g):Gr w w1.drew g:=h.drewN 1
theorem Gr.set {w w1:World} {g:Nat} (h:Gr w w1 g) (i:Nat) (u:Value):Gr w (w1.setCell ⟨g,i,none⟩ u) g:=h.trans (wq w1 ⟨g,i,none⟩ u)
set_option maxRecDepth 100000 in
theorem zji (g nd:Nat) (bs:List UInt8) (dp:Int) (ng tr:Bool) (w:World) (hd:Dec w g bs nd dp ng tr) (hn:nd<=800):
  Calls Tryz.prog 136 #[.pointer (some ⟨g,0,none⟩)] w fun r w'=>
   r=.returned (.tuple #[])/\Dec w' g bs (uc bs nd:Nat) (zbi (uc bs nd) dp) ng tr/\Gr w w' g:=by
 refine ye Tryz.func136 rfl (by rw[Tryz.ntmps136];simp) ?_;intro σ hσ;rw[Tryz.ntmps136];have s0:σ 0=.pointer (some ⟨g,0,none⟩):=hσ 0 zi;clear hσ;go_wp2_with fail;refine xx (fun k s' w'=>∃ n:Nat,n<=nd/\k=n/\uc bs n=uc bs nd/\s' 0=.pointer (some ⟨g,0,none⟩)/\Dec w' g bs n dp ng tr/\Gr w w' g) nd ⟨nd,Nat.le_refl _,rfl,rfl,zb,hd,Gr.refl w g⟩ ?_;clear s0 σ hd;rintro n σ wk ⟨_,hnn,rfl,hz,s0,hd,hg⟩ RK KK HRK hKK;have HZ:=zH hz;clear hz;go_upto_region 0 with fail;refine yr (fun s' w'=>s' 19=.bool (decide (uc bs n<n))/\s' 0=.pointer (some ⟨g,0,none⟩)/\Dec w' g bs n dp ng tr/\Gr w w' g) ?_ ?_
 ·intro R2 K2 HR hK2;have hlt:=hd.lt;have c1:=hd.cnd;have HDec:=zH hd;have HG:=zH hg;clear hd hg;cases n with
  | zero=>
   go_quiet (fail);go_wp2_with fail;exact got HR ⟨by simp[yc,yd,uc],zb,HDec.out.drewN _,HG.out.drewN _⟩
  | succ j=>
   have hj8:j<800:=zd;have hji:(j:Int)<800:=zd;have hwj:IntKind.i64.wrap (j:Int)=(j:Int):=zk;have c3:=HDec.out.digit j zd;rw[show ((j+1:Nat):Int)=(j:Int)+1 by omega]at c1;by_cases h48:bs.getD j 0=48
   ·have hb1:(((bs.getD j 0).toNat:Int)==48)=true:=by rw[h48];decide
    have ht:decide (uc bs (j+1)<j+1)=true:=by
     rw[uc,if_pos h48];have:=zjj bs j;simp;omega
    clear h48;generalize bs.getD j 0=c at *
    go_quiet (fail);go_wp2_with fail;exact got HR ⟨by rw[ht];simp[ov, *],zb,HDec.out.drewN _,HG.out.drewN _⟩
   ·have hb1:(((bs.getD j 0).toNat:Int)==48)=false:=by
     rw[beq_eq_false_iff_ne];intro e;apply h48;apply UInt8.toNat_inj.1;have:(48:UInt8).toNat=48:=ze;omega
    have ht:decide (uc bs (j+1)<j+1)=false:=by
     rw[uc,if_neg h48];simp
    clear h48;generalize bs.getD j 0=c at *
    go_quiet (fail);go_wp2_with fail;exact got HR ⟨by rw[ht];simp[ov, *],zb,HDec.out.drewN _,HG.out.drewN _⟩
 clear s0 σ hd hg;rintro σ w1 ⟨s19,s0,hd,hg⟩;go_wp2_with fail;have hlt:=hd.lt;have c1:=hd.cnd;have fz:=hd.frozen;have c2:=hd.cdp;have HDec:=zH hd;have HG:=zH hg;clear hd hg;refine zb0 _ (by rw[yd,s19]) ze (fun h=>?_) (fun h=>?_)
 ·have h':=of_decide_eq_true h;clear h s19;cases n with
  | zero=>exact absurd h' zd
  | succ j=>
   have hz:uc bs j=uc bs nd:=by
    rw[<-HZ.out,uc];split
    ·rfl
    ·rename_i h;rw[uc,if_neg h]at h';omega
   clear h';rw[show ((j+1:Nat):Int)=(j:Int)+1 by omega]at c1;go_wp2_with fail;exact wo HRK j zd ⟨j,zd,rfl,hz,zb,by simpa using HDec.out.setNd _,HG.out.set _ _⟩
 ·have h':=of_decide_eq_false h;have hz:uc bs nd=n:=by rw[<-HZ.out];have:=zjj bs n;omega
  have HZ2:=zH hz;clear h s19 h' hz;by_cases h0:n=0
  ·subst h0;(go_wp2_with fail;repeat ((first|refine cZ ?_|refine cW ?_);go_wp2_with fail));refine zi2 rfl ⟨rfl,?_,HG.out.set _ _⟩;rw[HZ2.out,zbi,if_pos rfl];exact HDec.out.setDp _
  ·(go_wp2_with fail;repeat ((first|refine cZ ?_|refine cW ?_);go_wp2_with fail));refine zi2 rfl ⟨rfl,?_,HG.out⟩;rw[HZ2.out,zbi,if_neg h0];exact HDec.out
end
def jt:List UInt8->List UInt8->Bool
 | _,[]=>false
 | [],_::_=>true
 | b::bs,s::ss=>if b=s then jt bs ss else decide (b.toNat<s.toNat)
theorem zlh (bs ss:List UInt8) (i:Nat) (h1:i<bs.length) (h2:i<ss.length):
  jt (bs.drop i) (ss.drop i)=if bs.getD i 0=ss.getD i 0 then jt (bs.drop (i+1)) (ss.drop (i+1)) else decide ((bs.getD i 0).toNat<(ss.getD i 0).toNat):=by
 rw[List.drop_eq_getElem_cons h1,List.drop_eq_getElem_cons h2];rw[List.getD_eq_getElem?_getD,List.getD_eq_getElem?_getD,List.getElem?_eq_getElem h1,List.getElem?_eq_getElem h2];rfl
theorem zif (bs ss:List UInt8) (i:Nat) (h1:¬i<bs.length) (h2:i<ss.length):jt (bs.drop i) (ss.drop i)=true:=by
 rw[List.drop_eq_nil_of_le zd,List.drop_eq_getElem_cons h2];rfl
theorem znf (bs ss:List UInt8) (i:Nat) (h2:¬i<ss.length):jt (bs.drop i) (ss.drop i)=false:=by
 have e:ss.drop i=[]:=List.drop_eq_nil_of_le zd;rw[e];cases bs.drop i <;> rfl
set_option maxRecDepth 100000 in
theorem zle (g nd:Nat) (bs ss:List UInt8) (dp:Int) (ng tr:Bool) (x:Int) (w:World) (hd:Dec w g bs x dp ng tr) (hn:nd<=800) (hs:ss.length<=100):
  Calls Tryz.prog 154 #[.slice (some ⟨g,0,none⟩) nd 800,.string ⟨ss.toArray⟩] w fun r w'=>
   r=.returned (.bool (jt (bs.take nd) ss))/\∃ q,w'=w.drewN q:=by
 refine ye Tryz.func154 rfl (by rw[Tryz.ntmps154];simp) ?_;intro σ hσ;rw[Tryz.ntmps154];have s0:σ 0=.slice (some ⟨g,0,none⟩) nd 800:=hσ 0 zi;have s1:σ 1=.string ⟨ss.toArray⟩:=hσ 1 zi;clear hσ;have htl:(bs.take nd).length=nd:=by rw[List.length_take,hd.len];omega
 have hsz:(⟨ss.toArray⟩:ByteArray).size=ss.length:=zm;have HTL:=zH htl;have HD:=zH hd;clear htl hd;obtain⟨N,hN⟩:=zX ss.length;rw[hN]at hsz hs;have HN:=zH hN;clear hN;go_wp2_with fail;refine xx (fun k s' w'=>∃ i:Nat,i<=N/\k=N-i/\jt ((bs.take nd).drop i) (ss.drop i)=jt (bs.take nd) ss/\s' 0=.slice (some ⟨g,0,none⟩) nd 800/\s' 1=.string ⟨ss.toArray⟩/\s' 5=.int .i64 (i:Int)/\∃ q,w'=w.drewN q) N ⟨0,Nat.zero_le _,rfl,rfl,zb,zb,zb,0,rfl⟩ ?_;clear s0 s1 σ;rintro k σ wk ⟨i,hi,rfl,hp,s0,s1,s5,q,rfl⟩ RK KK HRK hKK;have HP:=zH hp;clear hp;by_cases hiN:i<N
 ·have hiN':(i:Int)<(N:Int):=zd;by_cases hin:i<nd
  ·have hin':decide (nd<=i)=false:=zh;have hstep:=zlh (bs.take nd) ss i (by rw[HTL.out];exact hin) zn;rw[HP.out]at hstep;have HST:=zH hstep;have c1:=HD.out.digit i zd;have hgd:(bs.take nd).getD i 0=bs.getD i 0:=by
    rw[List.getD_eq_getElem?_getD,List.getD_eq_getElem?_getD,List.getElem?_take,if_pos hin]
   rw[hgd]at HST;have hidx:∀ h:i<(⟨ss.toArray⟩:ByteArray).size,(⟨ss.toArray⟩:ByteArray)[i]'h=ss.getD i 0:=by
    intro h;rw[List.getD_eq_getElem?_getD,List.getElem?_eq_getElem zn];rfl
   clear hstep hgd;have hci:(i:Int)<(nd:Int):=zd;by_cases heq:bs.getD i 0=ss.getD i 0
   ·have hst:=HST.out;rw[if_pos heq]at hst;have HST2:=zH hst;clear hst HST;rw[heq]at c1;clear heq;generalize ss.getD i 0=c at *
    (go_wp2_with fail;repeat ((first|refine cZ ?_|refine cW ?_);go_wp2_with fail));go_quiet (fail);(go_wp2_with fail;repeat ((first|refine cZ ?_|refine cW ?_);go_wp2_with fail));exact wo HRK (N-(i+1)) zd ⟨i+1,zd,rfl,HST2.out.symm,zb,zb,zj,_,rfl⟩
   ·have hst:=HST.out;rw[if_neg heq]at hst;have HST2:=zH hst;clear hst HST;have hne:(((bs.getD i 0).toNat:Int) != ((ss.getD i 0).toNat:Int))=true:=by
     rw[bne_iff_ne];intro e;exact heq (UInt8.toNat_inj.1 zd)
    clear heq;generalize ss.getD i 0=c at *
    generalize bs.getD i 0=d at *
    (go_wp2_with fail;repeat ((first|refine cZ ?_|refine cW ?_);go_wp2_with fail));go_quiet (fail);(go_wp2_with fail;repeat ((first|refine cZ ?_|refine cW ?_);go_wp2_with fail));go_quiet (fail);(go_wp2_with fail;repeat ((first|refine cZ ?_|refine cW ?_);go_wp2_with fail));refine yl (.bool (decide (d.toNat<c.toNat))) rfl ze zj ⟨by rw[HST2.out],_,by rw[World.drewN_drewN,World.drewN_drewN]⟩
  ·have hin':nd<=i:=zd;have hres:=zif (bs.take nd) ss i (by rw[HTL.out];exact hin) zn;rw[HP.out]at hres;have HRES:=zH hres;clear hres;(go_wp2_with fail;repeat ((first|refine cZ ?_|refine cW ?_);go_wp2_with fail));refine yl (.bool true) rfl ze zb ⟨by rw[HRES.out],q,rfl⟩
 ·have hiN':decide (i<N)=false:=zβw;have hres:=znf (bs.take nd) ss i zn;rw[HP.out]at hres;have HRES:=zH hres;clear hres;(go_wp2_with fail;repeat ((first|refine cZ ?_|refine cW ?_);go_wp2_with fail));refine yl (.bool false) rfl ze zb ⟨by rw[HRES.out],q,rfl⟩
theorem kw:yi 0=0:=rfl
theorem zc4 {d:Nat} (h:d≠0):yi d=Lib.nDigits d:=by unfold yi;rw[if_neg h]
theorem yfr {d:Nat} (h:d≠0):1<=yi d:=by rw[zc4 h];exact Lib.nDigits_pos d
theorem xa (k d:Nat) (h1:10^k<=d) (h2:d<10^(k+1)):yi d=k+1:=by
 have:0<10^k:=Nat.pow_pos zd;rw[zc4 zd];exact Lib.nDigits_unique k d h1 h2
theorem zil (d:Nat) (h:d≠0):10^(Lib.nDigits d-1)<=d:=by
 induction d using Nat.strongRecOn with
 | _ d ih=>
  by_cases h10:d<10
  ·rw[Lib.nDigits_small h10];simp;omega
  ·have h1:=ih (d / 10) zd zd;have h2:=Lib.nDigits_pos (d / 10);rw[Lib.nDigits_big h10,Nat.add_sub_cancel,show Lib.nDigits (d / 10)=(Lib.nDigits (d / 10)-1)+1 by omega,Nat.pow_succ];omega
theorem qh {d:Nat} (h:d≠0):10^(yi d-1)<=d:=by
 rw[zc4 h];exact zil d h
theorem za3 {d:Nat} (h:d≠0):yi (d*10)=yi d+1:=by
 rw[zc4 h,zc4 zd,Lib.nDigits_big zd,Nat.mul_div_cancel _ zd]
theorem zap (d n:Nat):digs d (n+1)=digs (d / 10) n++[Lib.dg d 0]:=by
 unfold digs;rw[List.range_succ,List.map_append,List.map_cons,List.map_nil];congr 1
 ·apply List.map_congr_left;intro t ht;rw[List.mem_range]at ht;rw[show n+1-1-t=(n-1-t)+1 by omega,Lib.dg_succ]
 ·rw[show n+1-1-n=0 by omega]
def zd5:List UInt8->Nat
 | []=>0
 | c::l=>(c.toNat-48)*10^l.length+zd5 l
def zd2 (c:UInt8):Prop:=48<=c.toNat/\c.toNat<=57
theorem zi3 (l:List UInt8) (c:UInt8):zd5 (l++[c])=zd5 l*10+(c.toNat-48):=by
 induction l with
 | nil=>simp[zd5]
 | cons a l ih=>
  rw[List.cons_append,zd5,ih,zd5,List.length_append,List.length_cons,List.length_nil,Nat.pow_succ];rw[Nat.add_mul];simp only[Nat.mul_assoc,Nat.add_assoc]
theorem zo2 (l:List UInt8) (h:∀ c ∈ l,zd2 c):zd5 l<10^l.length:=by
 induction l with
 | nil=>simp[zd5]
 | cons a l ih=>
  have h1:=ih fun c hc=>h c (List.mem_cons_of_mem _ hc)
  have h2:a.toNat-48<=9:=by have:=(h a (List.mem_cons_self)).2;omega
  rw[zd5,List.length_cons,Nat.pow_succ];have:(a.toNat-48)*10^l.length<=9*10^l.length:=Nat.mul_le_mul_right _ h2;omega
theorem vh (d j:Nat):(Lib.dg d j).toNat=48+d / 10^j%10:=by
 unfold Lib.dg;have:d / 10^j%10<10:=Nat.mod_lt _ zd;rw[UInt8.toNat_ofNat'];omega
theorem zrd (d j:Nat):zd2 (Lib.dg d j):=by
 have:d / 10^j%10<10:=Nat.mod_lt _ zd;unfold zd2;rw[vh];omega
theorem zeh (d n:Nat):∀ c ∈ digs d n,zd2 c:=by
 intro c hc;unfold digs at hc;rw[List.mem_map]at hc;obtain⟨t,_,rfl⟩:=hc;exact zrd _ _
theorem zhi (n d:Nat):zd5 (digs d n)=d%10^n:=by
 induction n generalizing d with
 | zero=>simp[digs,zd5,Nat.mod_one]
 | succ n ih=>
  rw[zap,zi3,ih,vh,Nat.pow_zero,Nat.div_one];rw[Nat.pow_succ,Nat.mul_comm (10^n) 10,Nat.mod_mul];omega
theorem zrr (s:List UInt8) (hs:∀ c ∈ s,zd2 c) (h0:s≠[]) (hl:s.getLast?≠some 48):0<zd5 s:=by
 induction s with
 | nil=>exact absurd rfl h0
 | cons x ss ih=>
  by_cases hss:ss=[]
  ·subst hss;have h1:=(hs x (List.mem_cons_self)).1;have h2:x.toNat≠48:=by
    intro e;apply hl;rw[List.getLast?_singleton];congr 1;exact UInt8.toNat_inj.1 e
   simp[zd5];omega
  ·have h1:=ih (fun c hc=>hs c (List.mem_cons_of_mem _ hc)) hss (by
    rw[List.getLast?_cons]at hl;cases h:ss.getLast? with
    | none=>simp
    | some c=>rw[h]at hl;simpa using hl)
   rw[zd5];omega
theorem zne (s b:List UInt8) (hs:∀ c ∈ s,zd2 c) (hb:∀ c ∈ b,zd2 c) (hl:s=[]\/s.getLast?≠some 48):
  jt b s=true↔zd5 b*10^s.length<zd5 s*10^b.length:=by
 induction s generalizing b with
 | nil=>cases b <;> simp[jt,zd5]
 | cons x ss ih=>
  have hl':(x::ss).getLast?≠some 48:=by
   rcases hl with h | h
   ·cases h
   ·exact h
  have hss:∀ c ∈ ss,zd2 c:=fun c hc=>hs c (List.mem_cons_of_mem _ hc)
  have hx:=hs x (List.mem_cons_self);cases b with
  | nil=>
   have:=zrr (x::ss) hs zi hl';simp[jt,zd5]at this ⊢;exact this
  | cons d bs=>
   have hbs:∀ c ∈ bs,zd2 c:=fun c hc=>hb c (List.mem_cons_of_mem _ hc)
   have hd:=hb d (List.mem_cons_self);have hlss:ss=[]\/ss.getLast?≠some 48:=by
    by_cases h:ss=[]
    ·exact Or.inl h
    ·refine Or.inr ?_;rw[List.getLast?_cons]at hl';cases h2:ss.getLast? with
     | none=>simp
     | some c=>rw[h2]at hl';simpa using hl'
   have v1:=zo2 ss hss;have v2:=zo2 bs hbs;have ih':=ih bs hss hbs hlss;clear ih hs hb hl hl' hlss;unfold zd2 at hx hd;rw[jt];simp only[zd5,List.length_cons];generalize zd5 ss=S at *
   generalize zd5 bs=B at *
   have p1:0<10^ss.length:=Nat.pow_pos zd;have p2:0<10^bs.length:=Nat.pow_pos zd;generalize ss.length=c at *
   generalize bs.length=n at *
   rw[Nat.pow_succ,Nat.pow_succ];obtain⟨D,hD⟩:=zX (d.toNat-48);obtain⟨X,hX⟩:=zX (x.toNat-48);rw[hD,hX];generalize 10^c=C at *
   generalize 10^n=N at *
   have e1:(D*N+B)*(C*10)=10*(D*(N*C))+10*(B*C):=by
    rw[Nat.add_mul,<-Nat.mul_assoc,<-Nat.mul_assoc,Nat.mul_assoc D N C];omega
   have e2:(X*C+S)*(N*10)=10*(X*(N*C))+10*(S*N):=by
    rw[Nat.add_mul,<-Nat.mul_assoc,<-Nat.mul_assoc,Nat.mul_assoc X C N,Nat.mul_comm C N];omega
   rw[e1,e2];have b1:B*C<N*C:=Nat.mul_lt_mul_of_pos_right v2 p1;have b2:S*N<N*C:=by rw[Nat.mul_comm N C];exact Nat.mul_lt_mul_of_pos_right v1 p2
   split
   ·rename_i h;rw[ih'];have:D=X:=by rw[<-hD,<-hX,h]
    subst this;omega
   ·rename_i h;have hne:D≠X:=by
     intro e;apply h;apply UInt8.toNat_inj.1;omega
    rw[decide_eq_true_iff];have hq:d.toNat<x.toNat↔D<X:=zd;rw[hq];constructor
    ·intro hlt;have:(D+1)*(N*C)<=X*(N*C):=Nat.mul_le_mul_right _ hlt;rw[Nat.add_mul,Nat.one_mul]at this;omega
    ·intro hlt;by_cases h:D<X
     ·exact h
     ·have:(X+1)*(N*C)<=D*(N*C):=Nat.mul_le_mul_right _ zd;rw[Nat.add_mul,Nat.one_mul]at this;omega
def zjd (k:Nat):Bool:=
 chS k==digs (5^k) (k+1-chN k)&&decide (5^k<10^(k+1-chN k))&&decide (10^(k-chN k)<=5^k)&&decide (1<=chN k)&&decide (chN k<=k)&&decide (chN k<=19)&&decide (5^k%10=5)
theorem zpi:∀ k,1<=k->k<=60->zjd k=true:=by
 have h:(List.range 61).all (fun k=>k==0 || zjd k)=true:=zp;intro k h1 h2;rw[List.all_eq_true]at h;have:=h k (List.mem_range.2 zd);simp at this;rcases this with h | h
 ·omega
 ·exact h
structure Cheat (k:Nat):Prop where
 str:chS k=digs (5^k) (k+1-chN k)
 lt:5^k<10^(k+1-chN k)
 le:10^(k-chN k)<=5^k
 pos:1<=chN k
 le_k:chN k<=k
 le19:chN k<=19
 last:5^k%10=5
theorem zhm (k:Nat) (h1:1<=k) (h2:k<=60):Cheat k:=by
 have h:=zpi k h1 h2;unfold zjd at h;simp only[Bool.and_eq_true,decide_eq_true_eq,beq_iff_eq]at h;obtain⟨⟨⟨⟨⟨⟨a,b⟩,c⟩,d⟩,e⟩,f⟩,g⟩:=h;exact⟨a,b,c,d,e,f,g⟩
theorem zho (N k:Nat) (hN:N≠0) (h1:1<=k) (h2:k<=60):
  yi (N*2^k)+(if jt (digs N (yi N)) (chS k)=true then 1 else 0)=yi N+chN k:=by
 obtain⟨hs,hlt,hle,hp,hk,h19,hlast⟩:=zhm k h1 h2;obtain⟨c,hc⟩:=zX (k-chN k);have hc1:k+1-chN k=c+1:=zd;rw[hc1]at hs hlt;rw[hc]at hle;have hL:=yfr hN;have hlow:=qh hN;have hup:=xi N;have key:jt (digs N (yi N)) (chS k)=true↔N*10^(c+1)<5^k*10^yi N:=by
  rw[hs,zne _ _ (zeh _ _) (zeh _ _) (Or.inr ?_),zhi,zhi,va,va,Nat.mod_eq_of_lt hup,Nat.mod_eq_of_lt hlt];rw[zap,List.getLast?_concat];intro e;have e2:Lib.dg (5^k) 0=48:=by simpa using e
  have:=vh (5^k) 0;rw[e2,Nat.pow_zero,Nat.div_one,hlast]at this;exact absurd this ze
 generalize yi N=L at *
 have h10:2^k*5^k=10^k:=by rw[<-Nat.mul_pow]
 have p2:0<2^k:=Nat.pow_pos zd;have hk2:k=c+chN k:=zd;have pc:0<10^c:=Nat.pow_pos zd;have pc1:0<10^(c+1):=Nat.pow_pos zd;have hA:10^(chN k-1)<2^k:=by
  refine Nat.lt_of_mul_lt_mul_right (a:=10^(c+1)) ?_;rw[<-Nat.pow_add,show chN k-1+(c+1)=k by omega,<-h10];exact Nat.mul_lt_mul_of_pos_left hlt p2
 have hB:2^k<=10^chN k:=by
  refine Nat.le_of_mul_le_mul_right ?_ pc;rw[<-Nat.pow_add,show chN k+c=k by omega,<-h10];exact Nat.mul_le_mul_left _ hle
 have hUp:N*2^k<10^(L+chN k):=by
  rw[Nat.pow_add];exact Nat.lt_of_lt_of_le (Nat.mul_lt_mul_of_pos_right hup p2) (Nat.mul_le_mul_left _ hB)
 have hLow:10^(L+chN k-2)<=N*2^k:=by
  rw[show L+chN k-2=(L-1)+(chN k-1) by omega,Nat.pow_add];exact Nat.mul_le_mul hlow (Nat.le_of_lt hA)
 have hmid:N*10^(c+1)<5^k*10^L↔N*2^k<10^(L+chN k-1):=by
  have e1:N*10^(c+1)*2^k=N*2^k*10^(c+1):=Nat.mul_right_comm _ _ _;have e2:5^k*10^L*2^k=10^(L+chN k-1)*10^(c+1):=by
   rw[Nat.mul_right_comm,Nat.mul_comm (5^k),h10,<-Nat.pow_add,<-Nat.pow_add];congr 1;omega
  rw[<-Nat.mul_lt_mul_right p2,e1,e2,Nat.mul_lt_mul_right pc1]
 rw[hmid]at key;by_cases h:jt (digs N L) (chS k)=true
 ·rw[if_pos h];have hm:=key.1 h;have hh:=xa (L+chN k-2) (N*2^k) hLow (by rw[show L+chN k-2+1=L+chN k-1 by omega];exact hm);omega
 ·rw[if_neg h];have hm:10^(L+chN k-1)<=N*2^k:=by
   have:=mt key.2 h;omega
  have hh:=xa (L+chN k-1) (N*2^k) hm (by rw[show L+chN k-1+1=L+chN k by omega];exact hUp);omega
def ziq (N k q:Nat):Nat:=N%10^q*2^k / 10^q
theorem zn8 (N k:Nat):ziq N k 0=0:=by unfold ziq;simp[Nat.mod_one]
theorem zuh (N k q:Nat):ziq N k q<2^k:=by
 unfold ziq;have p:0<10^q:=Nat.pow_pos zd;have p2:0<2^k:=Nat.pow_pos zd;rw[Nat.div_lt_iff_lt_mul p,Nat.mul_comm (2^k)];exact Nat.mul_lt_mul_of_pos_right (Nat.mod_lt _ p) p2
theorem zkf (N k q:Nat):ziq N k q+N / 10^q%10*2^k=N%10^(q+1)*2^k / 10^q:=by
 have p:0<10^q:=Nat.pow_pos zd;unfold ziq;rw[Nat.pow_succ,Nat.mod_mul,Nat.add_mul,Nat.mul_assoc,Nat.add_mul_div_left _ _ p]
theorem zn9 (N k q:Nat):ziq N k (q+1)=(ziq N k q+N / 10^q%10*2^k) / 10:=by
 rw[zkf,Nat.div_div_eq_div_mul,<-Nat.pow_succ];rfl
theorem zls (N k q:Nat):N*2^k / 10^q%10=(ziq N k q+N / 10^q%10*2^k)%10:=by
 have p:0<10^q:=Nat.pow_pos zd;rw[zkf];have e:N*2^k=N%10^(q+1)*2^k+10^q*(10*(N / 10^(q+1)*2^k)):=by
  conv=>lhs;rw[<-Nat.mod_add_div N (10^(q+1)),Nat.add_mul]
  congr 1;rw[Nat.pow_succ];simp only[Nat.mul_assoc]
 rw[e,Nat.add_mul_div_left _ _ p];omega
theorem zoa (N k L:Nat) (h:N<10^L):ziq N k L=N*2^k / 10^L:=by
 unfold ziq;rw[Nat.mod_eq_of_lt h]
theorem zut (M j x:Nat) (h:M / 10^j%10=x):UInt8.ofNat (48+x)=Lib.dg M j:=by unfold Lib.dg;rw[h]
theorem jn (l:List UInt8) (i j:Nat) (c:UInt8) (hi:i<l.length):(l.set i c).getD j 0=if i=j then c else l.getD j 0:=by
 rw[List.getD_eq_getElem?_getD,List.getElem?_set,List.getD_eq_getElem?_getD];by_cases h:i=j
 ·subst h;simp[hi]
 ·simp[h]
theorem zgk (l:List UInt8) (M n:Nat) (hn:n<=l.length) (h:∀ j,j<n->l.getD (n-1-j) 0=Lib.dg M j):l.take n=digs M n:=by
 apply List.ext_getElem
 ·rw[List.length_take,va];omega
 ·intro i h1 h2;rw[va]at h2;have:=h (n-1-i) zd;rw[show n-1-(n-1-i)=i by omega,List.getD_eq_getElem?_getD,List.getElem?_eq_getElem zd]at this;rw[List.getElem_take];simpa[digs]using this
theorem uq (l:List UInt8) (N n:Nat) (h:l.take n=digs N n) (i:Nat) (hi:i<n):l.getD i 0=Lib.dg N (n-1-i):=by
 have h1:(l.take n).getD i 0=(digs N n).getD i 0:=by rw[h]
 have h2:(digs N n).getD i 0=Lib.dg N (n-1-i):=by
  rw[List.getD_eq_getElem?_getD,List.getElem?_eq_getElem (by rw[va];exact hi)];simp[digs]
 rw[<-h2,<-h1,List.getD_eq_getElem?_getD,List.getD_eq_getElem?_getD,List.getElem?_take,if_pos hi]
theorem zps:Tryz.prog.arrayLen 150=800:=by simp[Program.arrayLen,Program.elem,Tryz.underlying150]
theorem zqi (g n:Nat) (W:World) (hn:n<=800):(Instr.sliceAt 150 (.pointer (some ⟨g,0,none⟩)) (some (.int .i64 0)) (some (.int .i64 (n:Int))) none).run Tryz.prog W=.ok (.slice (some ⟨g,0,none⟩) n 800) W:=by
 rw[run_sliceAt_array_lh W 150 ⟨g,0,none⟩ (by simp[Program.arrayLen,Program.elem,Tryz.underlying150]) .i64 .i64 0 (n:Int) zd zd (by rw[zps];omega)];go_simp
set_option maxRecDepth 100000 in
theorem yna (T g N k:Nat) (bs:List UInt8) (dp:Int) (ng tr:Bool) (w:World) (he:Env T w) (hgT:T<=g) (hd:Dec w g bs (yi N:Nat) dp ng tr) (hbs:bs.take (yi N)=digs N (yi N))
  (hN:N≠0) (hk1:1<=k) (hk2:k<=60) (hM:yi N+chN k<=800) (hp1:-2000<=dp) (hp2:dp<=2000):
  Calls Tryz.prog 137 #[.pointer (some ⟨g,0,none⟩),.int .u64 (k:Int)] w fun r w'=>
   r=.returned (.tuple #[])/\∃ bs',bs'.take (yi (N*2^k))=digs (N*2^k) (yi (N*2^k))/\
    Dec w' g bs' (uc bs' (yi (N*2^k)):Nat) (zbi (uc bs' (yi (N*2^k))) (dp+yi (N*2^k)-yi N)) ng tr/\Gr w w' g:=by
 have hch:=zho N k hN hk1 hk2;have hrow:=zhm k hk1 hk2;have hpos:=hrow.pos;have h19:=hrow.le19;obtain⟨cb,co,cc,hcbT,hcc,c0,hcells⟩:=he.cheats;have c1:=(hcells k zd).1;have c2:=(hcells k zd).2;have hsl:(chS k).length<=100:=by rw[hrow.str,va];omega
 have hlt:=hd.lt;have d1:=hd.cnd;have hTs:=he.size;have hg8:=he.glob;have hpre:=fun n:Nat=>zle g (yi N) bs (chS k) dp ng tr (yi N:Nat) (w.drewN n) (hd.drewN n) zd hsl
 rw[hbs]at hpre;have HPRE:=zH hpre;obtain⟨L,hL⟩:=zX (yi N);obtain⟨pb,hpb⟩:=zX (jt (digs N L) (chS k));rw[hL]at hM d1 hd HPRE hch hbs;rw[hpb]at hch;have hLp:1<=L:=by rw[<-hL];exact yfr hN
 have HD:=zH hd;have HBS:=zH hbs;have HCH:=zH hch;have HPB:=zH hpb;have HL:=zH hL;have hci:(k:Int)<61:=zd;clear hpre hcells hrow hd hbs hch hpb hL he;refine ye Tryz.func137 rfl (by rw[Tryz.ntmps137];simp) ?_;intro σ hσ;rw[Tryz.ntmps137];have s0:σ 0=.pointer (some ⟨g,0,none⟩):=hσ 0 zi;have s1:σ 1=.int .u64 (k:Int):=hσ 1 zi;clear hσ;have hslice:=fun W=>zqi g L W zd
 have hLi:(L:Int)<=800:=zd;go_wp2_with fail;go_quiet ((go_at_call 154;exact Calls.quiet_of (HPRE.out _)));go_wp2_with fail;obtain⟨D,hD⟩:=zX ((if pb=true then chN k-1 else chN k));have hnM:yi (N*2^k)=L+D:=by have:=HCH.out;rw[<-hD];split at this <;> simp_all <;> omega
 have hDb:D<=chN k:=by rw[<-hD];split <;> omega
 have HNM:=zH hnM;have HDD:=zH hD;clear hnM hD;refine yr (fun s' w'=>s' 4=.int .i64 (D:Int)/\s' 0=.pointer (some ⟨g,0,none⟩)/\s' 1=.int .u64 (k:Int)/\Dec w' g bs L dp ng tr/\Gr w w' g) ?_ ?_
 ·intro R2 K2 HR hK2;refine zb0 pb (by simp[yc,yd,HPB.out]) ze (fun h=>?_) (fun h=>?_)
  ·have hDi:((chN k:Nat):Int)-1=(D:Int):=by have:=HDD.out;rw[if_pos h]at this;omega
   go_wp2_with fail;exact got HR ⟨zb,zb,zb,HD.out.drewN _,(Gr.refl w g).drewN _⟩
  ·have hDi:(chN k:Int)=(D:Int):=by have:=HDD.out;rw[h]at this;simp at this;omega
   go_wp2_with fail;exact got HR ⟨zb,zb,zb,HD.out.drewN _,(Gr.refl w g).drewN _⟩
 clear s0 s1 σ HD hslice c0 c1 c2 d1 hlt hTs;rintro σ w1 ⟨s4,s0,s1,hd,hg⟩;have hlt:=hd.lt;have d1:=hd.cnd;have HD:=zH hd;have HG:=zH hg;clear hd hg;go_wp2_with fail;refine xx (fun kk s' w'=>∃ (r c:Nat) (bs':List UInt8),r<=L/\kk=r/\c=ziq N k (L-r)/\s' 5=.int .i64 ((r:Int)-1)/\s' 6=.int .i64 ((r:Int)+D)/\s' 7=.int .u64 (c:Int)/\s' 4=.int .i64 (D:Int)/\s' 0=.pointer (some ⟨g,0,none⟩)/\s' 1=.int .u64 (k:Int)/\Dec w' g bs' L dp ng tr/\Gr w w' g/\(∀ i,i<r->bs'.getD i 0=Lib.dg N (L-1-i))/\(∀ j,j<L-r->bs'.getD (L+D-1-j) 0=Lib.dg (N*2^k) j)) L
  ⟨L,0,bs,Nat.le_refl _,rfl,by rw[Nat.sub_self,zn8],zb,zb,zb,zb,zb,zb,HD.out,HG.out,fun i hi=>uq bs N L HBS.out i hi,fun j hj=>absurd hj zd⟩ ?_
 clear s0 s1 s4 σ HD HG hlt d1;rintro r σ wk ⟨_,c,bs',hr,rfl,hc,s5,s6,s7,s4,s0,s1,hd,hg,hun,hwr⟩ RK KK HRK hKK;have HC:=zH hc;have HUN:=zH hun;have HWR:=zH hwr;have HD:=zH hd;have HG:=zH hg;have hlt:=hd.lt;have fz:=hd.frozen;have hcb:c<2^k:=by rw[hc];exact zuh _ _ _
 have hk60:2^k<=2^60:=Nat.pow_le_pow_right zd hk2;clear hc hun hwr hd hg;cases r with
 | zero=>
  rw[show ((0:Nat):Int)-1=-1 by omega]at s5;rw[show ((0:Nat):Int)+(D:Int)=(D:Int) by omega]at s6;have hfull:=zoa N k L (by have:=xi N;rw[HL.out]at this;exact this);have hc0:c=N*2^k / 10^L:=by rw[<-hfull];exact HC.out
  obtain⟨M,hMd⟩:=zX (N*2^k);have hMlt:M<10^(L+D):=by have:=xi (N*2^k);rw[HNM.out,hMd]at this;exact this
  rw[hMd]at hc0;have HMD:=zH hMd;have HC0:=zH hc0;have HML:=zH hMlt;have hwr:∀ j,j<L->bs'.getD (L+D-1-j) 0=Lib.dg M j:=by rw[<-hMd];exact HWR.out
  have HWR2:=zH hwr;clear hfull hc0 hMd hMlt hwr HC HWR HUN;(go_wp2_with fail;repeat ((first|refine cZ ?_|refine cW ?_);go_wp2_with fail));refine xx (fun kk s' w'=>∃ (t c:Nat) (bs':List UInt8),t<=D/\kk=c/\c=M / 10^(L+t)/\c<2^60/\s' 6=.int .i64 ((D:Int)-t)/\s' 7=.int .u64 (c:Int)/\s' 4=.int .i64 (D:Int)/\s' 0=.pointer (some ⟨g,0,none⟩)/\Dec w' g bs' L dp ng tr/\Gr w w' g/\(∀ j,j<L+t->bs'.getD (L+D-1-j) 0=Lib.dg M j)) c
   ⟨0,c,bs',Nat.zero_le _,rfl,HC0.out,zd,zb,zb,zb,zb,HD.out,HG.out,HWR2.out⟩ ?_
  clear s0 s1 s4 s5 s6 s7 σ HD HG HWR2 HC0 hlt fz hcb;rintro c' σ wl ⟨t,_,bs2,ht,rfl,hc,hcb,s6,s7,s4,s0,hd,hg,hwr⟩ RL KL HRL hKL;have HC:=zH hc;have HWR:=zH hwr;have HD:=zH hd;have HG:=zH hg;have hlt:=hd.lt;have fz:=hd.frozen;clear hc hwr hd hg;by_cases hz:c'=0
  ·have htD:t=D:=by
    have h1:M<10^(L+t):=by
     have:=HC.out;rw[hz]at this;have p:0<10^(L+t):=Nat.pow_pos zd;rcases Nat.lt_or_ge M (10^(L+t)) with h | h
     ·exact h
     ·have:=Nat.div_pos h p;omega
    have hM0:M≠0:=by
     rw[<-HMD.out];exact Nat.mul_ne_zero hN (Nat.ne_of_gt (Nat.pow_pos zd))
    have h2:=qh hM0;rw[<-HMD.out,HNM.out,HMD.out]at h2;have h3:10^(L+D-1)<10^(L+t):=Nat.lt_of_le_of_lt h2 h1;have h4:=(Nat.pow_lt_pow_iff_right (by omega:1<10)).1 h3;omega
   subst hz;have htk:bs2.take (L+D)=digs M (L+D):=zgk bs2 M (L+D) (by rw[HD.out.len];omega) (fun j hj=>HWR.out j zd);have HTK:=zH htk;have d1:=HD.out.cnd;have d2:=HD.out.cdp;have htrim:=fun (n:Nat) (W:World) (dp':Int) (hdd:Dec W g bs2 n dp' ng tr) (hn:n<=800)=>zji g n bs2 dp' ng tr W hdd hn
   have HTR:=zH htrim;clear htk htrim HC;go_wp2_with fail;refine kj zb ze ?_;go_wp2_with fail;have hd2:Dec (wl.setCell ⟨g,800,none⟩ (.int .i64 ((L:Int)+D))) g bs2 ((L+D:Nat):Int) dp ng tr:=by
    have:=HD.out.setNd ((L:Int)+D);rw[show ((L+D:Nat):Int)=(L:Int)+D by omega];exact this
   have hg2:=HG.out.set 800 (.int .i64 ((L:Int)+D));have HD2:=zH hd2;have HG2:=zH hg2;generalize wl.setCell ⟨g,800,none⟩ (.int .i64 ((L:Int)+D))=w5 at *
   have hlt5:=hd2.lt;have fz5:=hd2.frozen;have e1:=hd2.cnd;clear hd2 hg2 HD HG hlt fz d1 d2;refine yr (fun s' w'=>s' 0=.pointer (some ⟨g,0,none⟩)/\s' 4=.int .i64 (D:Int)/\Dec w' g bs2 ((L+D:Nat):Int) dp ng tr/\Gr w w' g) ?_ ?_
   ·intro R2 K2 HR hK2;by_cases h8:L+D=800
    ·have h8i:(800:Int)<=(L:Int)+D:=zd;refine jq zb ze ?_;go_wp2_with fail;refine got HR ⟨zb,zb,?_,HG2.out.set _ _⟩;have:=HD2.out.setNd 800;rw[show ((L+D:Nat):Int)=800 by omega];exact this
    ·have h8i:decide ((800:Int)<=(L:Int)+D)=false:=zh;refine kj zb ze ?_;go_wp2_with fail;exact got HR ⟨zb,zb,HD2.out,HG2.out⟩
   clear s0 s4 s6 s7 σ HD2 HG2 hlt5 fz5 e1;rintro σ w6 ⟨s0,s4,hd,hg⟩;have hlt:=hd.lt;have fz:=hd.frozen;have d2:=hd.cdp;have hd3:=fun x=>hd.setDp x
   have HD3:=zH hd3;have HG3:=zH hg;clear hd hg hd3;go_wp2_with fail;refine (HTR.out (L+D) _ _ (HD3.out _) zd).mono ?_;rintro e w7 ⟨rfl,hd7,hg7⟩;go_wp2_with fail;refine zi2 rfl ⟨rfl,bs2,?_,?_,?_⟩
   ·rw[HMD.out,<-HMD.out,HNM.out,HMD.out];exact HTK.out
   ·rw[HNM.out,HL.out];rw[show dp+((L+D:Nat):Int)-(L:Int)=dp+(D:Int) by omega];exact hd7
   ·exact (HG3.out.set _ _).trans hg7
  ·have htD:t<D:=by
    have hc:=HC.out;have h1:10^(L+t)<=M:=by
     rcases Nat.lt_or_ge M (10^(L+t)) with h | h
     ·rw[Nat.div_eq_of_lt h]at hc;omega
     ·exact h
    have h3:10^(L+t)<10^(L+D):=Nat.lt_of_le_of_lt h1 HML.out;have h4:=(Nat.pow_lt_pow_iff_right (by omega:1<10)).1 h3;omega
   obtain⟨W,hW⟩:=zX (D-t-1);have hWb:W<800:=zd;have hWi:(W:Int)<800:=zd;rw[show (D:Int)-(t:Int)=(W:Int)+1 by omega]at s6;have hdW:∃ v,wl.cell? ⟨g,W,none⟩=some v:=⟨_,HD.out.digit W hWb⟩;obtain⟨vW,hvW⟩:=hdW;have hzi:0<c':=zd;have hnn:IntKind.u64.wrap (c':Int)=(c':Int):=zl;have HW:=zH hW;clear hW;(go_wp2_with fail;repeat ((first|refine cZ ?_|refine cW ?_);go_wp2_with fail));have hlen:bs2.length=800:=HD.out.len;have hc:=HC.out;refine wo HRL (c' / 10) zd ⟨t+1,c' / 10,bs2.set W (UInt8.ofNat ((c':Int)-10*((c':Int) / 10)+48).toNat),zd,rfl,?_,zd,?_,zj,zb,zb,HD.out.setDigit W hWb _ zd zd,HG.out.set _ _,?_⟩
   ·rw[hc,Nat.div_div_eq_div_mul,<-Nat.pow_succ];rfl
   ·have:(D:Int)-((t+1:Nat):Int)=(W:Int):=by have:=HW.out;omega
    rw[this];simp[yc,yd]
   ·intro j hj;rw[jn _ _ _ _ zd];by_cases hjq:j=L+t
    ·rw[hjq,if_pos (by have:=HW.out;omega),show ((c':Int)-10*((c':Int) / 10)+48).toNat=48+c'%10 by omega];exact zut _ _ _ (by rw[<-hc])
    ·rw[if_neg (by have:=HW.out;omega)];exact HWR.out j zd
 | succ r=>
  obtain⟨q,hq⟩:=zX (L-(r+1));obtain⟨x,hx⟩:=zX (N / 10^q%10);have hx9:x<=9:=by rw[<-hx];have:N / 10^q%10<10:=Nat.mod_lt _ zd;omega
  have d1:=HD.out.digit r zd;rw[HUN.out r zd,show L-1-r=q by omega,vh,hx,show ((48+x:Nat):Int)=48+(x:Int) by omega]at d1;obtain⟨y,hy⟩:=zX (x*2^k);have hyb:y<=9*2^60:=by rw[<-hy];exact Nat.mul_le_mul hx9 hk60
  have hyi:IntKind.u64.wrap ((x:Int)*2^k)=(y:Int):=by
   have:(x:Int)*2^k=(y:Int):=by rw[<-hy];simp
   rw[this,IntKind.wrap_u64];omega
  obtain⟨n,hn⟩:=zX (c+y);have hnb:n<18446744073709551616:=zd;have hni:(c:Int)+(y:Int)=(n:Int):=zd;obtain⟨W,hW⟩:=zX (r+D);have hWb:W<800:=zd;have hWi:(W:Int)<800:=zd;rw[show ((r+1:Nat):Int)-1=(r:Int) by omega]at s5;rw[show ((r+1:Nat):Int)+(D:Int)=(W:Int)+1 by omega]at s6;have hri:(r:Int)<800:=zd;have HX:=zH hx;have HY:=zH hy;have HQ:=zH hq;have HN:=zH hn;have HW:=zH hW;clear hx hy hq hn hW;have hdW:∃ v,wk.cell? ⟨g,W,none⟩=some v:=⟨_,HD.out.digit W hWb⟩;obtain⟨vW,hvW⟩:=hdW;have h48:(48:Int)+(x:Int)-48=(x:Int):=zd;have hnn:IntKind.u64.wrap (n:Int)=(n:Int):=zl;(go_wp2_with fail;repeat ((first|refine cZ ?_|refine cW ?_);go_wp2_with fail));have hcq:c=ziq N k q:=by have:=HC.out;rw[HQ.out]at this;exact this
  have hnq:ziq N k q+N / 10^q%10*2^k=n:=by rw[HX.out,HY.out,<-hcq,HN.out]
  have hLr:L-r=q+1:=by have:=HQ.out;omega
  have hWq:L+D-1-q=W:=by have:=HQ.out;have:=HW.out;omega
  have hlen:bs'.length=800:=HD.out.len;refine wo HRK r zd ⟨r,n / 10,bs'.set W (UInt8.ofNat ((n:Int)-10*((n:Int) / 10)+48).toNat),zd,rfl,?_,zb,?_,zj,zb,zb,zb,HD.out.setDigit W hWb _ zd zd,HG.out.set _ _,?_,?_⟩
  ·rw[hLr,zn9,hnq]
  ·have:(r:Int)+(D:Int)=(W:Int):=by have:=HW.out;omega
   rw[this];simp[yc,yd]
  ·intro i hi;rw[jn _ _ _ _ zd,if_neg (by have:=HW.out;omega)];exact HUN.out i zd
  ·intro j hj;rw[hLr]at hj;rw[jn _ _ _ _ zd];by_cases hjq:j=q
   ·rw[hjq,if_pos hWq.symm,show ((n:Int)-10*((n:Int) / 10)+48).toNat=48+n%10 by omega];exact zut _ _ _ (by rw[zls,hnq])
   ·rw[if_neg (by have:=HQ.out;have:=HW.out;omega)];exact HWR.out j (by rw[HQ.out];omega)
def tz (M:Nat):Nat:=if M%10=0/\M≠0 then tz (M / 10)+1 else 0
termination_by M
decreasing_by omega
def zga (M:Nat):Nat:=M / 10^tz M
theorem zmi {M:Nat} (h:M%10=0) (h0:M≠0):tz M=tz (M / 10)+1:=by rw[tz,if_pos ⟨h,h0⟩]
theorem ztd {M:Nat} (h:M%10≠0):tz M=0:=by rw[tz,if_neg (fun e=>h e.1)]
theorem zf3 {M:Nat} (h:M%10=0) (h0:M≠0):zga M=zga (M / 10):=by
 unfold zga;rw[zmi h h0,Nat.pow_succ,Nat.mul_comm,Nat.div_div_eq_div_mul]
theorem zi8 {M:Nat} (h:M%10≠0):zga M=M:=by unfold zga;rw[ztd h];simp
theorem zar (M:Nat) (h0:M≠0):zga M*10^tz M=M/\zga M%10≠0:=by
 induction M using Nat.strongRecOn with
 | _ M ih=>
  by_cases h:M%10=0
  ·have h1:=ih (M / 10) zd zd;rw[zf3 h h0,zmi h h0,Nat.pow_succ,<-Nat.mul_assoc,h1.1];exact⟨zd,h1.2⟩
  ·rw[zi8 h,ztd h];simp;omega
theorem zpc (M:Nat) (h0:M≠0):zga M≠0:=by
 have:=(zar M h0).2;intro e;rw[e]at this;simp at this
theorem yod {A B a b:Nat} (h:A*10^a=B*10^b) (hA:A%10≠0) (hB:B%10≠0):A=B/\a=b:=by
 induction a generalizing b with
 | zero=>
  cases b with
  | zero=>simp at h;exact⟨h,rfl⟩
  | succ b=>rw[Nat.pow_zero,Nat.mul_one,Nat.pow_succ,<-Nat.mul_assoc]at h;omega
 | succ a ih=>
  cases b with
  | zero=>rw[Nat.pow_zero,Nat.mul_one,Nat.pow_succ,<-Nat.mul_assoc]at h;omega
  | succ b=>
   rw[Nat.pow_succ,Nat.pow_succ,<-Nat.mul_assoc,<-Nat.mul_assoc]at h;have:=ih (Nat.eq_of_mul_eq_mul_right zd h);exact⟨this.1,by rw[this.2]⟩
theorem yme {A a M:Nat} (h:A*10^a=M) (hA:A%10≠0):zga M=A/\tz M=a:=by
 have h0:M≠0:=by
  rw[<-h];exact Nat.mul_ne_zero (by intro e;rw[e]at hA;simp at hA) (Nat.ne_of_gt (Nat.pow_pos zd))
 have:=zar M h0;exact yod (this.1.trans h.symm) this.2 hA
theorem znx (M:Nat) (h0:M≠0):yi (zga M)+tz M=yi M:=by
 induction M using Nat.strongRecOn with
 | _ M ih=>
  by_cases h:M%10=0
  ·have h1:=ih (M / 10) zd zd;have h2:=za3 (d:=M / 10) zd;rw[show M / 10*10=M by omega]at h2;rw[zf3 h h0,zmi h h0];omega
  ·rw[zi8 h,ztd h,Nat.add_zero]
theorem zdo (M:Nat):Lib.dg M 0=48↔M%10=0:=by
 have:=vh M 0;rw[Nat.pow_zero,Nat.div_one]at this;constructor
 ·intro e;rw[e]at this;have h:(48:UInt8).toNat=48:=by decide
  omega
 ·intro e;apply UInt8.toNat_inj.1;rw[this,e];rfl
theorem zbj (l:List UInt8) (M n:Nat) (h:l.take (n+1)=digs M (n+1)):l.take n=digs (M / 10) n/\l.getD n 0=Lib.dg M 0:=by
 constructor
 ·have h1:(l.take (n+1)).take n=(digs M (n+1)).take n:=by rw[h]
  rw[List.take_take,Nat.min_eq_left zd,zap,List.take_append_of_le_length (by rw[va];omega),List.take_of_length_le (l:=digs (M / 10) n) (by rw[va];omega)]at h1;exact h1
 ·have:=uq l M (n+1) h n zd;rw[this];congr 1;omega
theorem zk3 (bs:List UInt8) (M:Nat) (h0:M≠0) (h:bs.take (yi M)=digs M (yi M)):
  uc bs (yi M)=yi (zga M)/\bs.take (yi (zga M))=digs (zga M) (yi (zga M)):=by
 induction M using Nat.strongRecOn with
 | _ M ih=>
  obtain⟨n,hn⟩:∃ n,yi M=n+1:=⟨yi M-1,by have:=yfr h0;omega⟩;by_cases hz:M%10=0
  ·have h2:=za3 (d:=M / 10) zd;rw[show M / 10*10=M by omega,hn]at h2;have h3:yi (M / 10)=n:=zd;rw[hn]at h;have h4:=zbj bs M n h;have h1:=ih (M / 10) zd zd (by rw[h3];exact h4.1);rw[zf3 hz h0,hn,uc,if_pos (by rw[h4.2,zdo];exact hz),<-h3];exact h1
  ·rw[zi8 hz];refine⟨?_,h⟩;rw[hn]at h ⊢;have h4:=zbj bs M n h;rw[uc,if_neg (by rw[h4.2,zdo];exact hz)]
theorem znw (a b:Nat) (h:a<=b):yi a<=yi b:=by
 by_cases h0:a=0
 ·subst h0;rw[kw];exact Nat.zero_le _
 ·have h1:=qh h0;have h2:=xi b;have h3:=(Nat.pow_lt_pow_iff_right (by omega:1<10)).1 (Nat.lt_of_le_of_lt h1 (Nat.lt_of_le_of_lt h h2));have:=yfr h0;omega
structure DecN (w:World) (g N:Nat) (p:Int) (ng:Bool):Prop where
 ne:N%10≠0
 dec:∃ bs,bs.take (yi N)=digs N (yi N)/\Dec w g bs (yi N:Nat) (p+yi N) ng false
theorem DecN.of_trim {w:World} {g M:Nat} {p:Int} {ng:Bool} {bs:List UInt8} {dp:Int} (h0:M≠0) (h:bs.take (yi M)=digs M (yi M))
  (hd:Dec w g bs (uc bs (yi M):Nat) (zbi (uc bs (yi M)) dp) ng false) (hp:dp=p+yi M):DecN w g (zga M) (p+tz M) ng:=by
 obtain⟨h1,h2⟩:=zk3 bs M h0 h;have h3:=znx M h0;refine⟨(zar M h0).2,bs,h2,?_⟩;rw[h1]at hd;have h4:zbi (yi (zga M)) dp=p+tz M+yi (zga M):=by
  have:=yfr (zpc M h0);unfold zbi;rw[if_neg zd,hp];omega
 rw[h4]at hd;exact hd
end Go.Proofs.YtnifedmhgncioaaGreatDoor
