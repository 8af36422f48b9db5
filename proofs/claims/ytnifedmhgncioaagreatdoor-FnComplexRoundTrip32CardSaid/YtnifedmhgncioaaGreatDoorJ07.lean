/- Lemmas that the claim's top text leans on. No condition of their own. -/
import Derived.Test.YtnifedmhgncioaaGreatDoorJ05
import Derived.Test.YtnifedmhgncioaaGreatDoorJ06
namespace Go.Proofs.YtnifedmhgncioaaGreatDoor
open Go.RowKit
set_option linter.unusedSimpArgs false
set_option linter.unusedVariables false
set_option maxHeartbeats 16000000
theorem zch {P:Program} {ops:Array Oper} {rest:List Oper} {o:Oper} {Q:Exit->Act->World->Prop} {w:World} {n:Nat} {env:List (Nat×Value)} {σ:Nat->Value} (hgd:o.guard=none) (ks kx:Nat) (t tx:TypeId)
  (ho:o.op=.call { callee:=.builtin .append,args:=#[.tmp ks,.tmp kx],argTypes:=#[t,tx] }) (hks:ks<n) (hkx:kx<n) (hty:zpw P t) {T:Nat} {v:Value} {xs:List UInt8} (hown:OwnB T w v xs) (hs:over env σ ks=v)
  (xv:Value) (hx:over env σ kx=xv) (ys:List UInt8) (hsrc:Src P 1 tx xv ys.length (ys.map zkm) w) (hb:xs.length+ys.length<=140737489400000)
  (h:∀ v' w',OwnB T w' v' (xs++ys)->Stp w v w' v'->wpList P ops Q rest ((Fr n env σ).put o.dst v') w'):wpList P ops Q (o::rest) (Fr n env σ) w:=
 zhu hgd (.tmp ks) (.tmp kx) t tx ho hty hown ((jd n env σ ks hks).trans hs) xv ((jd n env σ kx hkx).trans hx) ys hsrc hb h
def Dig (w:World) (v s:Value) (ds:List UInt8):Prop:=
 ds=[]\/∃ (g c:Nat) (bs:List UInt8),s=.slice (some ⟨g,0,none⟩) bs.length c/\bs.length<=c/\c<=100000/\(∃ rest,Row w g (bs.map zkm++rest))/\v.ownBlock≠some g/\bs.take ds.length=ds/\ds.length<=bs.length
theorem Dig.stp {w w':World} {v v' s:Value} {ds:List UInt8} (h:Dig w v s ds) (hs:Stp w v w' v'):Dig w' v' s ds:=by
 rcases h with h | ⟨g,c,bs,h1,h2,h2',h3,h4,h5,h6⟩
 ·exact .inl h
 ·obtain⟨rest,h3⟩:=h3;obtain⟨h7,h8⟩:=hs.row h3 h4;exact .inr ⟨g,c,bs,h1,h2,h2',⟨rest,h7⟩,h8,h5,h6⟩
theorem yqk {P:Program} {w:World} {tx e':TypeId} (hk:P.underlying tx=some (.slice e')) (g o n c:Nat) (bs:List UInt8) (rest:List Value) (hr:Row w g (bs.map zkm++rest)) (hn:o+n<=bs.length):Src P 1 tx (.slice (some ⟨g,o,none⟩) n c) ((bs.drop o).take n).length (((bs.drop o).take n).map zkm) w:=by
 have hl:((bs.drop o).take n).length=n:=zh;rw[hl];refine Src.ofSlice _ hk ⟨g,o,none⟩ n c _ (by rw[List.length_map,hl];omega) (fun j v hj=>?_) (fun v hv=>?_)
 ·have e:((⟨g,o,none⟩:Addr).add j)=⟨g,o+j,none⟩:=by
   unfold Addr.add;split
   ·subst_vars;rfl
   ·rfl
  rcases Nat.lt_or_ge j n with h | h
  ·rw[e,hr.cell,List.getElem?_append_left zβZ];rw[List.getElem?_map]at hj ⊢;rw[<-hj];congr 1;rw[List.getElem?_take_of_lt h,List.getElem?_drop]
  ·rw[List.getElem?_eq_none zβZ]at hj;cases hj
 ·obtain⟨b,_,rfl⟩:=List.mem_map.1 hv;rfl
theorem zo1 (i:Int) (h1:0<=i) (h2:i<256):zkm (UInt8.ofNat i.toNat)=.int .u8 i:=by
 unfold zkm;congr 1;simp;omega
theorem ycc {P:Program} {w:World} {tx e':TypeId} (hk:P.underlying tx=some (.slice e')) (i:Int) (h1:0<=i) (h2:i<256) (E:TypeId):
  Src P 1 tx (.slice (some ⟨w.heap.size,0,none⟩) 1 1) [UInt8.ofNat i.toNat].length ([UInt8.ofNat i.toNat].map zkm) (w.alloc (.cells #[.int .u8 i] E)):=by
 have h:=zmx (w:=w) hk [UInt8.ofNat i.toNat] E;simp only[List.map_cons,List.map_nil,zo1 i h1 h2]at h ⊢;exact h
theorem ykd {P:Program} {w:World} {tx e':TypeId} (hk:P.underlying tx=some (.slice e')) (i j:Int) (h1:0<=i) (h2:i<256) (h3:0<=j) (h4:j<256) (E:TypeId):
  Src P 1 tx (.slice (some ⟨w.heap.size,0,none⟩) 2 2) [UInt8.ofNat i.toNat,UInt8.ofNat j.toNat].length ([UInt8.ofNat i.toNat,UInt8.ofNat j.toNat].map zkm) (w.alloc (.cells #[.int .u8 i,.int .u8 j] E)):=by
 have h:=zmx (w:=w) hk [UInt8.ofNat i.toNat,UInt8.ofNat j.toNat] E;simp only[List.map_cons,List.map_nil,zo1 i h1 h2,zo1 j h3 h4]at h ⊢;exact h
theorem yki {P:Program} {w:World} {tx e':TypeId} (hk:P.underlying tx=some (.slice e')) (i j k:Int) (h1:0<=i) (h2:i<256) (h3:0<=j) (h4:j<256) (h5:0<=k) (h6:k<256) (E:TypeId):
  Src P 1 tx (.slice (some ⟨w.heap.size,0,none⟩) 3 3) [UInt8.ofNat i.toNat,UInt8.ofNat j.toNat,UInt8.ofNat k.toNat].length ([UInt8.ofNat i.toNat,UInt8.ofNat j.toNat,UInt8.ofNat k.toNat].map zkm) (w.alloc (.cells #[.int .u8 i,.int .u8 j,.int .u8 k] E)):=by
 have h:=zmx (w:=w) hk [UInt8.ofNat i.toNat,UInt8.ofNat j.toNat,UInt8.ofNat k.toNat] E;simp only[List.map_cons,List.map_nil,zo1 i h1 h2,zo1 j h3 h4,zo1 k h5 h6]at h ⊢;exact h
theorem yl4 {P:Program} {w:World} {tx e':TypeId} (hk:P.underlying tx=some (.slice e')) (i j k l:Int) (h1:0<=i) (h2:i<256) (h3:0<=j) (h4:j<256) (h5:0<=k) (h6:k<256) (h7:0<=l) (h8:l<256) (E:TypeId):
  Src P 1 tx (.slice (some ⟨w.heap.size,0,none⟩) 4 4) [UInt8.ofNat i.toNat,UInt8.ofNat j.toNat,UInt8.ofNat k.toNat,UInt8.ofNat l.toNat].length ([UInt8.ofNat i.toNat,UInt8.ofNat j.toNat,UInt8.ofNat k.toNat,UInt8.ofNat l.toNat].map zkm) (w.alloc (.cells #[.int .u8 i,.int .u8 j,.int .u8 k,.int .u8 l] E)):=by
 have h:=zmx (w:=w) hk [UInt8.ofNat i.toNat,UInt8.ofNat j.toNat,UInt8.ofNat k.toNat,UInt8.ofNat l.toNat] E;simp only[List.map_cons,List.map_nil,zo1 i h1 h2,zo1 j h3 h4,zo1 k h5 h6,zo1 l h7 h8]at h ⊢;exact h
structure Ap (T:Nat) (w:World) (dst s:Value) (ds:List UInt8) (w':World) (v:Value) (out:List UInt8):Prop where
 own:OwnB T w' v out
 stp:Stp w dst w' v
 env:Env T w'
 dig:Dig w' v s ds
theorem Ap.start {T:Nat} {w:World} {dst s:Value} {ds xs:List UInt8} (ho:OwnB T w dst xs) (he:Env T w) (hd:Dig w dst s ds):Ap T w dst s ds w dst xs:=⟨ho,Stp.refl w dst,he,hd⟩
theorem Ap.step {T:Nat} {w w1 w2:World} {dst s v1 v2:Value} {ds out ys:List UInt8} {o:Obj} (h:Ap T w dst s ds w1 v1 out) (ho:OwnB T w2 v2 (out++ys)) (hs:Stp (w1.alloc o) v1 w2 v2):Ap T w dst s ds w2 v2 (out++ys):=
 ⟨ho,h.stp.trans hs.alloc1,OwnB.env (h.own.alloc o) hs (h.env.alloc o),h.dig.stp hs.alloc1⟩
theorem Ap.step0 {T:Nat} {w w1 w2:World} {dst s v1 v2:Value} {ds out ys:List UInt8} (h:Ap T w dst s ds w1 v1 out) (ho:OwnB T w2 v2 (out++ys)) (hs:Stp w1 v1 w2 v2):Ap T w dst s ds w2 v2 (out++ys):=
 ⟨ho,h.stp.trans hs,OwnB.env h.own hs h.env,h.dig.stp hs⟩
theorem Ap.to {T:Nat} {w w1:World} {dst s v1:Value} {ds out out':List UInt8} (h:Ap T w dst s ds w1 v1 out) (e:out=out'):Ap T w dst s ds w1 v1 out':=e ▸ h
theorem Ap.at {T:Nat} {w w1:World} {dst s v1 v2:Value} {ds out:List UInt8} (h:Ap T w dst s ds w1 v1 out) (e:v2=v1):Ap T w dst s ds w1 v2 out:=e ▸ h
theorem Dig.piece {P:Program} {w:World} {v s:Value} {ds:List UInt8} {tx e':TypeId} (hk:P.underlying tx=some (.slice e')) (h:Dig w v s ds) (o m:Nat) (hm:o+m<=ds.length) (hne:ds≠[]):
  ∃ g L c,s=.slice (some ⟨g,0,none⟩) L c/\ds.length<=L/\L<=c/\c<=100000/\∀ c',Src P 1 tx (.slice (some ⟨g,o,none⟩) m c') ((ds.drop o).take m).length (((ds.drop o).take m).map zkm) w:=by
 rcases h with h | ⟨g,c,bs,h1,h2,h2',h3,h4,h5,h6⟩
 ·exact absurd h hne
 ·refine⟨g,bs.length,c,h1,h6,h2,h2',fun c'=>?_⟩;obtain⟨rest,h3⟩:=h3;have:=yqk (P:=P) hk g o m c' bs rest h3 zd;have e:(ds.drop o).take m=(bs.drop o).take m:=by
   rw[<-h5,List.drop_take,List.take_take,Nat.min_eq_left zd]
  rw[e];exact this
theorem Dig.cellAt {w:World} {v s:Value} {ds:List UInt8} (h:Dig w v s ds) {g L c:Nat} (hs:s=.slice (some ⟨g,0,none⟩) L c) (i:Nat) (hi:i<ds.length):w.cell? ⟨g,i,none⟩=some (.int .u8 ((ds.getD i 0).toNat:Int)):=by
 rcases h with h | ⟨g',c',bs,h1,h2,h2',h3,h4,h5,h6⟩
 ·subst h;simp at hi
 ·rw[hs]at h1;simp only[Value.slice.injEq,Option.some.injEq,Addr.mk.injEq,and_true]at h1;obtain⟨rfl,_,_⟩:=h1;obtain⟨rest,h3⟩:=h3;rw[h3.cell,List.getElem?_append_left zβZ,List.getElem?_map,List.getElem?_eq_getElem zd];have e:bs[i]' zd=ds.getD i 0:=by
   have:ds.getD i 0=(bs.take ds.length).getD i 0:=by rw[h5]
   rw[this,List.getD_eq_getElem?_getD,List.getElem?_take_of_lt hi,List.getElem?_eq_getElem zd];rfl
  rw[e];rfl
theorem ycn (l:List UInt8) (j:Nat) (h:j<l.length):l.take (j+1)=l.take j++[l.getD j 0]:=by
 rw[List.take_succ_eq_append_getElem h,List.getD_eq_getElem?_getD,List.getElem?_eq_getElem h];rfl
theorem Dig.at {w:World} {v s:Value} {ds:List UInt8} (h:Dig w v s ds) (i:Nat) (hi:i<ds.length):
  ∃ g L c,s=.slice (some ⟨g,0,none⟩) L c/\ds.length<=L/\L<=c/\c<=100000/\w.cell? ⟨g,i,none⟩=some (zkm (ds.getD i 0)):=by
 rcases h with h | ⟨g,c,bs,h1,h2,h2',h3,h4,h5,h6⟩
 ·subst h;simp at hi
 ·refine⟨g,bs.length,c,h1,h6,h2,h2',?_⟩;obtain⟨rest,h3⟩:=h3;rw[h3.cell,List.getElem?_append_left zβZ,List.getElem?_map,List.getElem?_eq_getElem zd];have e:bs[i]' zd=ds.getD i 0:=by
   have:ds.getD i 0=(bs.take ds.length).getD i 0:=by rw[h5]
   rw[this,List.getD_eq_getElem?_getD,List.getElem?_take_of_lt hi,List.getElem?_eq_getElem zd];rfl
  rw[e];rfl
def gEp (dp nd prec:Int) (sh:Bool):Int:=if sh then 6 else if nd<prec/\dp<=nd then nd else prec
def ysr (f:Int):Bool:=f==103 || f==71
def ykz (dp nd prec f:Int) (sh:Bool):Int×Int:=
 if f=103\/f=71 then
  if dp-1 < -4\/gEp dp nd prec sh<=dp-1 then ((if nd<prec then nd else prec)-1,f-2)
  else (max ((if dp<prec then nd else prec)-dp) 0,102)
 else (prec,f)
theorem ysh (dp nd prec f:Int) (sh:Bool) (hd1:-900<=dp) (hd2:dp<=900) (hn1:0<=nd) (hn2:nd<=800) (hp1:-9223372036854775808<=prec) (hpw:-100000<=prec\/(f≠103/\f≠71)\/(dp=0/\sh=true)) (hp2:prec<=100000) (hf1:0<=f) (hf2:f<=255):
  -9223372036854775808<=(ykz dp nd prec f sh).1/\(ykz dp nd prec f sh).1<=100900/\0<=(ykz dp nd prec f sh).2/\(ykz dp nd prec f sh).2<=255:=by
 unfold ykz;by_cases hg:f=103\/f=71
 ·rw[if_pos hg];by_cases hc:dp-1 < -4\/gEp dp nd prec sh<=dp-1
  ·rw[if_pos hc];have hw:-100000<=prec:=by
    rcases hpw with h | h | h
    ·exact h
    ·omega
    ·rw[h.1,h.2]at hc;simp[gEp]at hc
   dsimp only;refine⟨?_,?_,?_,?_⟩ <;> (try split) <;> omega
  ·rw[if_neg hc];dsimp only;refine⟨?_,?_,?_,?_⟩ <;> (try split) <;> omega
 ·rw[if_neg hg];dsimp only;omega
def eSign (neg:Bool):List UInt8:=if neg then [45] else []
def ykt (ds:List UInt8) (pr:Int):List UInt8:=
 if 0<pr then 46::((ds.drop 1).take pr.toNat++List.replicate (pr.toNat-((ds.drop 1).take pr.toNat).length) 48) else []
def ynz (ds:List UInt8) (dp:Int):Int:=if ds=[] then 0 else dp-1
def expL (e:Int):List UInt8:=
 (if e<0 then 45 else 43)::(if e.natAbs<10 then [48,UInt8.ofNat (48+e.natAbs)] else if e.natAbs<100 then [UInt8.ofNat (48+e.natAbs / 10),UInt8.ofNat (48+e.natAbs%10)]
  else [UInt8.ofNat (48+e.natAbs / 100),UInt8.ofNat (48+e.natAbs / 10%10),UInt8.ofNat (48+e.natAbs%10)])
def ymm (neg:Bool) (ds:List UInt8) (dp pr f:Int):List UInt8:=eSign neg++([ds.headD 48]++(ykt ds pr++([UInt8.ofNat f.toNat]++expL (ynz ds dp))))
def ylj (ds:List UInt8) (dp:Int):List UInt8:=if 0<dp then ds.take dp.toNat++List.replicate (dp.toNat-ds.length) 48 else [48]
def fLz (dp pr:Int):Int:=min pr (max 0 (-dp))
def fM (nd dp pr:Int):Int:=min (pr-fLz dp pr) (max 0 (nd-(dp+fLz dp pr)))
def ymc (ds:List UInt8) (dp pr:Int):List UInt8:=
 if 0<pr then 46::(List.replicate (fLz dp pr).toNat 48++((ds.drop (dp+fLz dp pr).toNat).take (fM ds.length dp pr).toNat++List.replicate (max 0 (pr-fLz dp pr-fM ds.length dp pr)).toNat 48)) else []
def yn1 (neg:Bool) (ds:List UInt8) (dp pr:Int):List UInt8:=eSign neg++(ylj ds dp++ymc ds dp pr)
def ymh (neg:Bool) (ds:List UInt8) (dp pr f:Int):List UInt8:=
 if f=101\/f=69 then ymm neg ds dp pr f else if f=102 then yn1 neg ds dp pr else [37,UInt8.ofNat f.toNat]
set_option maxRecDepth 100000 in
theorem yk8 (T:Nat) (neg sh:Bool) (dst s:Value) (ds:List UInt8) (dp nd prec f:Int) (xs:List UInt8) (w:World) (he:Env T w) (hown:OwnB T w dst xs) (hdig:Dig w dst s ds) (hnd:nd=(ds.length:Int)) (hdp0:ds=[]→dp=0∨∃ g L c,s=.slice (some ⟨g,0,none⟩) L c∧L≤c∧c≤100000)
  (hx:xs.length≤140737489000000) (hf1:0≤f) (hf2:f≤255) (hd1:-900≤dp) (hd2:dp≤900) (hn1:0≤nd) (hn2:nd≤800) (hp1:-9223372036854775808≤prec) (hpw:-100000≤prec∨(f≠103∧f≠71)∨(dp=0∧sh=true)) (hp2:prec≤100000):
  Calls Tryz.prog 92 #[dst,.bool neg,s,.int .i64 dp,.int .i64 nd,.int .i64 prec,.int .u8 f,.bool sh] w fun e w'=>
   ∃ v',e=.returned v'∧OwnB T w' v' (xs++ymh neg ds dp (ykz dp nd prec f sh).1 (ykz dp nd prec f sh).2)∧Stp w dst w' v':=by
 have HND:=Lib.hid hnd
 have HDP:=Lib.hid hdp0
 have hap:=Ap.start hown he hdig
 clear hnd hdp0 hown he hdig
 refine ye Tryz.func92 rfl (by rw[Tryz.ntmps92];simp) ?_
 intro σ hσ
 rw[Tryz.ntmps92]
 have s0:σ 0=dst:=hσ 0 (by simp)
 have s1:σ 1=.bool neg:=hσ 1 (by simp)
 have s2:σ 2=s:=hσ 2 (by simp)
 have s3:σ 3=.int .i64 dp:=hσ 3 (by simp)
 have s4:σ 4=.int .i64 nd:=hσ 4 (by simp)
 have s5:σ 5=.int .i64 prec:=hσ 5 (by simp)
 have s6:σ 6=.int .u8 f:=hσ 6 (by simp)
 have s7:σ 7=.bool sh:=hσ 7 (by simp)
 clear hσ
 go_upto_region 1 with fail
 refine yr (fun s' w'=>s' 0=dst∧s' 1=.bool neg∧s' 2=s∧s' 3=.int .i64 dp∧s' 4=.int .i64 nd∧s' 5=.int .i64 prec∧s' 6=.int .u8 f∧s' 7=.bool sh∧s' 36=.bool (ysr f)∧w=w') ?_ ?_
 ·intro R' K' HR hK'
  by_cases h3:f=103
  ·subst h3
   go_wp2_with fail
   exact got HR (by simp[yc,yd,ysr, *])
  ·have h1:(f==103)=false:=by rw[beq_eq_false_iff_ne];omega
   go_wp2_with fail
   exact got HR (by simp[yc,yd,ysr, *])
 clear s0 s1 s2 s3 s4 s5 s6 s7 σ
 rintro σ w' ⟨s0,s1,s2,s3,s4,s5,s6,s7,s36,rfl⟩
 go_wp2_with fail
 refine yr (fun s' w'=>s' 0=dst∧s' 1=.bool neg∧s' 2=s∧s' 3=.int .i64 dp∧s' 4=.int .i64 nd∧s' 5=.int .i64 (ykz dp nd prec f sh).1∧s' 6=.int .u8 (ykz dp nd prec f sh).2∧s' 7=.bool sh∧w=w') ?_ ?_
 ·intro R' K' HR hK'
  refine zb0 (ysr f) (by simp[yd,s36]) (by decide) (fun hg=>?_) (fun hg=>?_)
  ·have hg':f=103∨f=71:=by simp only[ysr,Bool.or_eq_true,beq_iff_eq]at hg;exact hg
   have hfl:f≤103:=by omega
   have hfg:71≤f:=by omega
   have hge:ykz dp nd prec f sh=if dp-1 < -4∨gEp dp nd prec sh≤dp-1 then ((if nd<prec then nd else prec)-1,f-2) else (max ((if dp<prec then nd else prec)-dp) 0,102):=by
    unfold ykz;rw[if_pos hg']
   obtain⟨ep,hep⟩:∃ ep:Int,gEp dp nd prec sh=ep:=⟨_,rfl⟩
   rw[hep]at hge
   have hwg:-100000≤prec∨(dp=0∧sh=true):=by
    rcases hpw with h | h | h
    ·exact Or.inl h
    ·omega
    ·exact Or.inr h
   have hepb:-100000≤ep∧ep≤100000:=by
    rw[←hep];unfold gEp
    rcases hwg with h | ⟨_,h⟩
    ·constructor <;> (repeat' split) <;> omega
    ·rw[h];simp
   have hfit:-9223372036854775808≤prec-dp:=by omega
   have HWG:=Lib.hid hwg
   clear hwg hpw hg hg'
   have HGE:=Lib.hid hge
   have HEP:=Lib.hid hep
   clear hge hep
   go_upto_region 3 with fail
   refine yr (fun s' w'=>s' 0=dst∧s' 1=.bool neg∧s' 2=s∧s' 3=.int .i64 dp∧s' 4=.int .i64 nd∧s' 5=.int .i64 prec∧s' 6=.int .u8 f∧s' 7=.bool sh∧s' 17=.int .i64 prec∧s' 45=.bool (decide (nd<prec∧dp≤nd))∧w=w') ?_ ?_
   ·intro R2 K2 HR hK2
    by_cases h1:nd<prec
    ·go_wp2_with fail
     exact got HR (by simp[ov, *])
    ·have h1':decide (nd<prec)=false:=by simpa using h1
     go_wp2_with fail
     exact got HR (by simp[ov, *])
   clear s0 s1 s2 s3 s4 s5 s6 s7 s36 σ
   rintro σ w' ⟨s0,s1,s2,s3,s4,s5,s6,s7,s17,s45,rfl⟩
   go_wp2_with fail
   refine yr (fun s' w'=>s' 0=dst∧s' 1=.bool neg∧s' 2=s∧s' 3=.int .i64 dp∧s' 4=.int .i64 nd∧s' 5=.int .i64 prec∧s' 6=.int .u8 f∧s' 7=.bool sh∧s' 17=.int .i64 (if nd<prec∧dp≤nd then nd else prec)∧w=w') ?_ ?_
   ·intro R2 K2 HR hK2
    refine zb0 _ (by rw[yd,s45]) (by decide) (fun h=>?_) (fun h=>?_)
    ·have h':nd<prec∧dp≤nd:=by simpa using h
     go_wp2_with fail
     exact got HR (by simp[ov, *])
    ·have h':¬(nd<prec∧dp≤nd):=by simpa using h
     go_wp2_with fail
     exact got HR (by simp[yd,if_neg h', *])
   clear s0 s1 s2 s3 s4 s5 s6 s7 s17 s45 σ
   rintro σ w' ⟨s0,s1,s2,s3,s4,s5,s6,s7,s17,rfl⟩
   go_wp2_with fail
   refine yr (fun s' w'=>s' 0=dst∧s' 1=.bool neg∧s' 2=s∧s' 3=.int .i64 dp∧s' 4=.int .i64 nd∧s' 5=.int .i64 prec∧s' 6=.int .u8 f∧s' 7=.bool sh∧s' 17=.int .i64 ep∧w=w') ?_ ?_
   ·intro R2 K2 HR hK2
    refine zb0 sh (by simp[ov, *]) (by decide) (fun h=>?_) (fun h=>?_)
    ·subst h
     have h':ep=6:=by rw[←HEP.out];simp[gEp]
     go_wp2_with fail
     exact got HR (by simp[ov, *])
    ·subst h
     have h':ep=if nd<prec∧dp≤nd then nd else prec:=by rw[←HEP.out];simp[gEp]
     go_wp2_with fail
     exact got HR (by simp[ov, *])
   clear s0 s1 s2 s3 s4 s5 s6 s7 s17 σ
   rintro σ w' ⟨s0,s1,s2,s3,s4,s5,s6,s7,s17,rfl⟩
   go_upto_region 8 with fail
   refine yr (fun s' w'=>s' 0=dst∧s' 1=.bool neg∧s' 2=s∧s' 3=.int .i64 dp∧s' 4=.int .i64 nd∧s' 5=.int .i64 prec∧s' 6=.int .u8 f∧s' 7=.bool sh∧s' 56=.bool (decide (dp-1 < -4∨ep≤dp-1))∧w=w') ?_ ?_
   ·intro R2 K2 HR hK2
    by_cases h1:dp-1 < -4
    ·go_wp2_with fail
     exact got HR (by simp[ov, *])
    ·have h1':decide (dp-1 < -4)=false:=by simpa using h1
     go_wp2_with fail
     exact got HR (by simp[ov, *])
   clear s0 s1 s2 s3 s4 s5 s6 s7 s17 σ
   rintro σ w' ⟨s0,s1,s2,s3,s4,s5,s6,s7,s56,rfl⟩
   go_wp2_with fail
   refine zb0 _ (by rw[yd,s56]) (by decide) (fun h=>?_) (fun h=>?_)
   ·have h':dp-1 < -4∨ep≤dp-1:=by simpa using h
    have hw:-100000≤prec:=by
     rcases HWG.out with h | ⟨h1,h2⟩
     ·exact h
     ·have h3:=HEP.out
      rw[h2]at h3
      simp[gEp]at h3
      omega
    have hge:=HGE.out
    rw[if_pos h']at hge
    clear h h'
    by_cases h5:nd<prec
    all_goals
     first | rw[if_pos h5]at hge | rw[if_neg h5]at hge
     have HG2:=Lib.hid hge
     clear hge
     ((repeat (go_wp2_with fail;first | (refine jq ?hc (by decide) ?_;(case hc=>(simp[ov, *];done))) | (refine kj ?hc (by decide) ?_;(case hc=>(simp[ov, *];done)))));go_wp2_with fail)
     refine got HR ?_
     rw[HG2.out]
     simp[ov, *]
     omega
   ·have h':¬(dp-1 < -4∨ep≤dp-1):=by simpa using h
    have hge:=HGE.out
    rw[if_neg h']at hge
    clear h h'
    by_cases h5:dp<prec
    all_goals
     first | rw[if_pos h5]at hge | rw[if_neg h5]at hge
     have HG2:=Lib.hid hge
     clear hge
     ((repeat (go_wp2_with fail;first | (refine jq ?hc (by decide) ?_;(case hc=>(simp[ov, *];done))) | (refine kj ?hc (by decide) ?_;(case hc=>(simp[ov, *];done)))));go_wp2_with fail)
     refine got HR ?_
     rw[HG2.out]
     simp[ov, *]
  ·have hg':¬(f=103∨f=71):=by simp only[ysr,Bool.or_eq_false_iff,beq_eq_false_iff_ne]at hg;omega
   go_wp2_with fail
   refine got HR ?_
   simp[yd,ykz,hg', *]
 clear s0 s1 s2 s3 s4 s5 s6 s7 s36 σ
 rintro σ w' ⟨s0,s1,s2,s3,s4,s5,s6,s7,rfl⟩
 have hbd:=ysh dp nd prec f sh hd1 hd2 hn1 hn2 hp1 hpw hp2 hf1 hf2
 generalize hpr:(ykz dp nd prec f sh).1=pr at s5 hbd
 generalize hfc:(ykz dp nd prec f sh).2=fc at s6 hbd
 have HPR:=Lib.hid hpr
 have HFC:=Lib.hid hfc
 clear hpr hfc
 obtain⟨hq1,hq2,hc1,hc2⟩:=hbd
 clear hf1 hf2 hp1 hp2 hpw
 go_wp2_with fail
 refine yr (fun s' w'=>s' 0=dst∧s' 1=.bool neg∧s' 2=s∧s' 3=.int .i64 dp∧s' 4=.int .i64 nd∧s' 5=.int .i64 pr∧s' 6=.int .u8 fc∧s' 7=.bool sh∧s' 74=.int .u8 fc∧s' 75=.bool (decide (fc=101∨fc=69))∧w=w') ?_ ?_
 ·intro R' K' HR hK'
  by_cases h3:fc=101
  ·have h1:(fc==101)=true:=by rw[beq_iff_eq];exact h3
   ((repeat (go_wp2_with fail;first | (refine jq ?hc (by decide) ?_;(case hc=>(simp[ov, *];done))) | (refine kj ?hc (by decide) ?_;(case hc=>(simp[ov, *];done)))));go_wp2_with fail)
   exact got HR (by simp[yc,yd,h3, *])
  ·have h1:(fc==101)=false:=by rw[beq_eq_false_iff_ne];exact h3
   ((repeat (go_wp2_with fail;first | (refine jq ?hc (by decide) ?_;(case hc=>(simp[ov, *];done))) | (refine kj ?hc (by decide) ?_;(case hc=>(simp[ov, *];done)))));go_wp2_with fail)
   exact got HR (by simp[yc,yd,h3, *];rfl)
 clear s0 s1 s2 s3 s4 s5 s6 s7 σ
 rintro σ w' ⟨s0,s1,s2,s3,s4,s5,s6,s7,s74,s75,rfl⟩
 go_wp2_with fail
 refine zb0 _ (by rw[yd,s75]) (by decide) (fun h=>?_) (fun h=>?_)
 ·-- the format e
  have hE:fc=101∨fc=69:=by simpa using h
  have hfin:ymh neg ds dp pr fc=ymm neg ds dp pr fc:=by unfold ymh;rw[if_pos hE]
  have HFIN:=Lib.hid hfin
  clear h hE hfin s74 s75
  go_wp2_with fail
  refine yr (fun s' w'=>∃ v,s' 0=v∧Ap T w dst s ds w' v (xs++eSign neg)∧s' 2=s∧s' 3=.int .i64 dp∧s' 4=.int .i64 nd∧s' 5=.int .i64 pr∧s' 6=.int .u8 fc) ?_ ?_
  ·intro R' K' HR hK'
   refine zb0 neg (by simp[ov, *]) (by decide) (fun h=>?_) (fun h=>?_)
   ·subst h
    go_wp2_with (at_builtin;refine zch rfl _ _ _ _ rfl (by decide) (by decide) zsw (hap.own.alloc _) (by simp[ov, *]) _ (by simp[ov, *]) [45] (zmx Tryz.underlying83 [45] _) (by simp only[List.length_append,List.length_cons,List.length_nil,List.length_replicate]at *;omega) ?_;intro v w' ho1 hs1;replace hap:=hap.step ho1 hs1;clear ho1 hs1)
    exact got HR ⟨v,by simp[ov, *],hap,by simp[ov, *],by simp[ov, *],by simp[ov, *],by simp[ov, *],by simp[ov, *]⟩
   ·subst h
    go_wp2_with fail
    exact got HR ⟨dst,by simp[ov, *],hap.to (by simp[eSign]),by simp[ov, *],by simp[ov, *],by simp[ov, *],by simp[ov, *],by simp[ov, *]⟩
  clear s0 s1 s2 s3 s4 s5 s6 s7 σ hap
  rintro σ w1 ⟨v1,s0,hap,s2,s3,s4,s5,s6⟩
  have hsl:(eSign neg).length≤1:=by cases neg <;> simp[eSign]
  obtain⟨sg,hsg⟩:∃ sg,eSign neg=sg:=⟨_,rfl⟩
  rw[hsg]at hap hsl
  obtain⟨c0,hc0⟩:∃ c0,ds.headD 48=c0:=⟨_,rfl⟩
  have HSG:=Lib.hid hsg
  have HC0:=Lib.hid hc0
  clear hsg hc0
  go_wp2_with fail
  refine yr (fun s' w'=>s' 0=v1∧s' 2=s∧s' 3=.int .i64 dp∧s' 4=.int .i64 nd∧s' 5=.int .i64 pr∧s' 6=.int .u8 fc∧s' 19=.int .u8 (c0.toNat:Int)∧w1=w') ?_ ?_
  ·intro R' K' HR hK'
   by_cases hds:ds=[]
   ·have hn0:(nd != 0)=false:=by rw[HND.out,hds];decide
    have h48:(c0.toNat:Int)=48:=by rw[←HC0.out,hds];rfl
    ((repeat (go_wp2_with fail;first | (refine jq ?hc (by decide) ?_;(case hc=>(simp[ov, *];done))) | (refine kj ?hc (by decide) ?_;(case hc=>(simp[ov, *];done)))));go_wp2_with fail)
    exact got HR (by simp[ov, *])
   ·have hlp:0<ds.length:=List.length_pos_iff.2 hds
    have hn0:(nd != 0)=true:=by rw[HND.out,bne_iff_ne];omega
    obtain⟨g,L,c,hs,hL1,hL2,hL3,hcell⟩:=hap.dig.at 0 hlp
    have hc:ds.getD 0 0=c0:=by
     rw[←HC0.out];cases ds with
     | nil=>exact absurd rfl hds
     | cons a l=>rfl
    rw[hc]at hcell
    unfold zkm at hcell
    rw[hs]at s2
    have HS:=Lib.hid hs
    have hL0:0<L:=by omega
    clear hc hs hds
    ((repeat (go_wp2_with fail;first | (refine jq ?hc (by decide) ?_;(case hc=>(simp[ov, *];done))) | (refine kj ?hc (by decide) ?_;(case hc=>(simp[ov, *];done)))));go_wp2_with fail)
    exact got HR (by simp[yc,yd,HS.out, *])
  clear s0 s2 s3 s4 s5 s6 σ
  rintro σ w' ⟨s0,s2,s3,s4,s5,s6,s19,rfl⟩
  go_wp2_with (at_builtin;refine zch rfl _ _ _ _ rfl (by decide) (by decide) zsw (hap.own.alloc _) (by simp[ov, *]) _ (by simp[ov, *]) [c0] (zmx Tryz.underlying83 [c0] _) (by simp only[List.length_append,List.length_cons,List.length_nil,List.length_replicate]at *;omega) ?_;intro v w' ho1 hs1;replace hap:=hap.step ho1 hs1;clear ho1 hs1)
  refine yr (fun s' w'=>∃ v,s' 0=v∧Ap T w dst s ds w' v (xs++sg++[c0]++ykt ds pr)∧s' 3=.int .i64 dp∧s' 4=.int .i64 nd∧s' 6=.int .u8 fc) ?_ ?_
  ·intro R' K' HR hK'
   by_cases hp:0<pr
   ·obtain⟨tk,htk⟩:∃ tk,(ds.drop 1).take pr.toNat=tk:=⟨_,rfl⟩
    have htl:tk.length=min (ds.length-1) pr.toNat:=by rw[←htk,List.length_take,List.length_drop,Nat.min_comm]
    have hfr:ykt ds pr=[46]++(tk++List.replicate (pr.toNat-tk.length) 48):=by
     unfold ykt;rw[if_pos hp,htk];rfl
    have HFR:=Lib.hid hfr
    have HTK:=Lib.hid htk
    have HTL:=Lib.hid htl
    clear hfr htk htl
    refine jq (by simp[ov, *]) (by decide) ?_
    go_wp2_with (at_builtin;refine zch rfl _ _ _ _ rfl (by decide) (by decide) zsw (hap.own.alloc _) (by simp[ov, *]) _ (by simp[ov, *]) [46] (zmx Tryz.underlying83 [46] _) (by simp only[List.length_append,List.length_cons,List.length_nil,List.length_replicate]at *;omega) ?_;intro v w' ho1 hs1;replace hap:=hap.step ho1 hs1;clear ho1 hs1)
    refine yr (fun s' w'=>∃ v,s' 0=v∧Ap T w dst s ds w' v (xs++sg++[c0]++[46]++tk)∧s' 3=.int .i64 dp∧s' 4=.int .i64 nd∧s' 5=.int .i64 pr∧s' 6=.int .u8 fc∧s' 20=.int .i64 (1+(tk.length:Int))) ?_ ?_
    ·intro R2 K2 HR2 hK2
     by_cases hm:1<min nd (pr+1)
     ·have hnm:min nd (pr+1)=1+(tk.length:Int):=by rw[HTL.out,HND.out];rw[HND.out]at hm;omega
      have hlen:1+tk.length≤ds.length:=by rw[HTL.out];rw[HND.out]at hm;omega
      have hne:ds≠[]:=by intro e;rw[e]at hlen;simp at hlen
      obtain⟨g,L,c,hs,hL1,hL2,hL3,hsrc⟩:=hap.dig.piece (P:=Tryz.prog) (tx:=83) Tryz.underlying83 1 tk.length hlen hne
      have htk2:(ds.drop 1).take tk.length=tk:=by
       have:=HTK.out
       rw[←this,List.length_take,←List.take_take,List.take_length] <;> simp
      have hsrc2:=hsrc (c-1)
      rw[htk2]at hsrc2
      have HSRC:=Lib.hid hsrc2
      rw[hs]at s2
      have HS:=Lib.hid hs
      have htb:tk.length≤800:=by omega
      have hmc:(1:Int)+tk.length≤c:=by omega
      have hcne:¬c=1:=by omega
      have hm1:(1:Int)<1+tk.length:=by omega
      clear hsrc hsrc2 htk2 hs hne
      refine jq (by simp[ov, *]) (by decide) ?_
      go_wp2_with (at_builtin;refine zch rfl _ _ _ _ rfl (by decide) (by decide) zsw hap.own (by simp[ov, *]) _ (by simp[ov, *]) tk HSRC.out (by simp only[List.length_append,List.length_cons,List.length_nil,List.length_replicate]at *;omega) ?_;intro v w' ho1 hs1;replace hap:=hap.step0 ho1 hs1;clear ho1 hs1)
      exact got HR2 ⟨v,by simp[ov, *],hap,by simp[ov, *],by simp[ov, *],by simp[ov, *],by simp[ov, *],by simp[ov, *]⟩
     ·have hlen0:tk.length=0:=by rw[HTL.out];rw[HND.out]at hm;omega
      have htk0:tk=[]:=List.length_eq_zero_iff.1 hlen0
      have hm':decide (1<min nd (pr+1))=false:=by simpa using hm
      refine kj (by simp[ov, *]) (by decide) ?_
      go_wp2_with fail
      exact got HR2 ⟨v,by simp[ov, *],hap.to (by simp[htk0]),by simp[ov, *],by simp[ov, *],by simp[ov, *],by simp[ov, *],by simp[yc,yd,htk0]⟩
    clear s0 s2 s3 s4 s5 s6 s19 σ hap
    rintro σ w2 ⟨v2,s0,hap,s3,s4,s5,s6,s20⟩
    have htb:tk.length≤800:=by have:=HTL.out;rw[HND.out]at hn2;omega
    have htp:(tk.length:Int)≤pr:=by have:=HTL.out;omega
    obtain⟨N,hN⟩:∃ N:Nat,pr.toNat-tk.length=N:=⟨_,rfl⟩
    have hNi:pr+1-(1+(tk.length:Int))=(N:Int):=by omega
    have hNb:N≤100900:=by omega
    have HN:=Lib.hid hN
    clear hN
    go_wp2_with fail
    refine xx (fun k s' w'=>∃ (j:Nat) (v:Value),j≤N∧k=N-j∧s' 114=.int .i64 (j:Int)∧s' 113=.int .i64 (N:Int)∧s' 0=v∧Ap T w dst s ds w' v (xs++sg++[c0]++[46]++tk++List.replicate j 48)∧s' 3=.int .i64 dp∧s' 4=.int .i64 nd∧s' 6=.int .u8 fc) N ⟨0,_,Nat.zero_le _,rfl,by simp[yc,yd],by simp[ov, *],rfl,(hap.to (by simp)).at (by simp[ov, *]),by simp[ov, *],by simp[ov, *],by simp[ov, *]⟩ ?_
    ((try clear s0);(try clear s1);(try clear s2);(try clear s3);(try clear s4);(try clear s5);(try clear s6);(try clear s7);(try clear s16);(try clear s17);(try clear s18);(try clear s19);(try clear s20);(try clear s21);(try clear s22);(try clear s23);(try clear s24);(try clear s25);(try clear s26);(try clear s27);(try clear s28);(try clear s29);(try clear s30);(try clear s36);(try clear s45);(try clear s56);(try clear s74);(try clear s75);(try clear hap);(try clear σ))
    rintro k σ wk ⟨j,vk,hj,rfl,sc,sl,s0,hap,s3,s4,s6⟩ RK KK HRK hKK
    by_cases hjl:j<N
    ·((repeat (go_wp2_with (at_builtin;refine zch rfl _ _ _ _ rfl (by decide) (by decide) zsw (hap.own.alloc _) (by simp[ov, *]) _ (by simp[ov, *]) [48] (zmx Tryz.underlying83 [48] _) (by simp only[List.length_append,List.length_cons,List.length_nil,List.length_replicate]at *;omega) ?_;intro v w' ho1 hs1;replace hap:=hap.step ho1 hs1;clear ho1 hs1);first | (refine jq ?hc (by decide) ?_;(case hc=>(simp[ov, *];done))) | (refine kj ?hc (by decide) ?_;(case hc=>(simp[ov, *];done)))));go_wp2_with (at_builtin;refine zch rfl _ _ _ _ rfl (by decide) (by decide) zsw (hap.own.alloc _) (by simp[ov, *]) _ (by simp[ov, *]) [48] (zmx Tryz.underlying83 [48] _) (by simp only[List.length_append,List.length_cons,List.length_nil,List.length_replicate]at *;omega) ?_;intro v w' ho1 hs1;replace hap:=hap.step ho1 hs1;clear ho1 hs1))
     exact wo HRK (N-(j+1)) (by omega) ⟨j+1,v,by omega,rfl,by simp[yc,yd],by simp[ov, *],by simp[yc,yd],hap.to (by simp[List.replicate_succ']),by simp[ov, *],by simp[ov, *],by simp[ov, *]⟩
    have hjN:j=N:=by omega
    have hjf:decide (j<N)=false:=by simpa using hjl
    ((repeat (go_wp2_with fail;first | (refine jq ?hc (by decide) ?_;(case hc=>(simp[ov, *];done))) | (refine kj ?hc (by decide) ?_;(case hc=>(simp[ov, *];done)))));go_wp2_with fail)
    obtain⟨v,hv⟩:∃ v,v=vk:=⟨_,rfl⟩
    subst hv
    exact got HR ⟨v,by simp[ov, *],hap.to (by rw[HFR.out,HN.out,←hjN];simp),by simp[ov, *],by simp[ov, *],by simp[ov, *]⟩
   ·have hfr:ykt ds pr=[]:=by unfold ykt;rw[if_neg hp]
    have hp':decide (0<pr)=false:=by simpa using hp
    refine kj (by simp[ov, *]) (by decide) ?_
    go_wp2_with fail
    exact got HR ⟨v,by simp[ov, *],hap.to (by simp[hfr]),by simp[ov, *],by simp[ov, *],by simp[ov, *]⟩
  clear s0 s2 s3 s4 s5 s6 s19 σ hap
  rintro σ w2 ⟨v2,s0,hap,s3,s4,s6⟩
  have hfl:(ykt ds pr).length≤201900:=by
   unfold ykt;split
   ·simp only[List.length_cons,List.length_append,List.length_replicate,List.length_take,List.length_drop];omega
   ·simp
  obtain⟨fr,hfr⟩:∃ fr,ykt ds pr=fr:=⟨_,rfl⟩
  rw[hfr]at hap hfl
  have HFR:=Lib.hid hfr
  obtain⟨ex,hex⟩:∃ ex,ynz ds dp=ex:=⟨_,rfl⟩
  have hexb:-901≤ex∧ex≤899:=by rw[←hex];unfold ynz;split <;> omega
  have HEX:=Lib.hid hex
  clear hfr hex
  go_wp2_with (at_builtin;refine zch rfl _ _ _ _ rfl (by decide) (by decide) zsw (hap.own.alloc _) (by simp[ov, *]) _ (by simp[ov, *]) [UInt8.ofNat (fc).toNat] (ycc Tryz.underlying83 (fc) hc1 (by omega) _) (by simp only[List.length_append,List.length_cons,List.length_nil,List.length_replicate]at *;omega) ?_;intro v w' ho1 hs1;replace hap:=hap.step ho1 hs1;clear ho1 hs1)
  refine yr (fun s' w2=>s' 0=v∧s' 22=.int .i64 ex∧w'=w2) ?_ ?_
  ·intro R' K' HR hK'
   by_cases hds:ds=[]
   ·have hn0:(nd==0)=true:=by rw[HND.out,hds];decide
    have he0:ex=0:=by rw[←HEX.out];unfold ynz;rw[if_pos hds]
    ((repeat (go_wp2_with fail;first | (refine jq ?hc (by decide) ?_;(case hc=>(simp[ov, *];done))) | (refine kj ?hc (by decide) ?_;(case hc=>(simp[ov, *];done)))));go_wp2_with fail)
    exact got HR (by simp[ov, *])
   ·have hlp:0<ds.length:=List.length_pos_iff.2 hds
    have hn0:(nd==0)=false:=by rw[HND.out,beq_eq_false_iff_ne];omega
    have he0:ex=dp-1:=by rw[←HEX.out];unfold ynz;rw[if_neg hds]
    ((repeat (go_wp2_with fail;first | (refine jq ?hc (by decide) ?_;(case hc=>(simp[ov, *];done))) | (refine kj ?hc (by decide) ?_;(case hc=>(simp[ov, *];done)))));go_wp2_with fail)
    exact got HR (by simp[ov, *])
  ((try clear s0);(try clear s1);(try clear s2);(try clear s3);(try clear s4);(try clear s5);(try clear s6);(try clear s7);(try clear s16);(try clear s17);(try clear s18);(try clear s19);(try clear s20);(try clear s21);(try clear s22);(try clear s23);(try clear s24);(try clear s25);(try clear s26);(try clear s27);(try clear s28);(try clear s29);(try clear s30);(try clear s36);(try clear s45);(try clear s56);(try clear s74);(try clear s75);(try clear σ))
  rintro σ w3 ⟨s0,s22,rfl⟩
  go_wp2_with fail
  obtain⟨a,ha⟩:∃ a:Nat,ex.natAbs=a:=⟨_,rfl⟩
  have hab:a≤901:=by omega
  obtain⟨sc,hsc⟩:∃ sc:Int,(if ex<0 then 45 else 43)=sc:=⟨_,rfl⟩
  have hsb:43≤sc∧sc≤45:=by rw[←hsc];split <;> omega
  have HA:=Lib.hid ha
  have HSC:=Lib.hid hsc
  clear ha hsc
  refine yr (fun s' w2=>s' 0=v∧s' 22=.int .i64 (a:Int)∧s' 19=.int .u8 sc∧w'=w2) ?_ ?_
  ·intro R' K' HR hK'
   by_cases hneg:ex<0
   ·have e1:-ex=(a:Int):=by have:=HA.out;omega
    have e2:sc=45:=by rw[←HSC.out,if_pos hneg]
    ((repeat (go_wp2_with fail;first | (refine jq ?hc (by decide) ?_;(case hc=>(simp[ov, *];done))) | (refine kj ?hc (by decide) ?_;(case hc=>(simp[ov, *];done)))));go_wp2_with fail)
    exact got HR (by simp[ov, *])
   ·have e1:ex=(a:Int):=by have:=HA.out;omega
    have e2:sc=43:=by rw[←HSC.out,if_neg hneg]
    have e3:decide (ex<0)=false:=by simpa using hneg
    ((repeat (go_wp2_with fail;first | (refine jq ?hc (by decide) ?_;(case hc=>(simp[ov, *];done))) | (refine kj ?hc (by decide) ?_;(case hc=>(simp[ov, *];done)))));go_wp2_with fail)
    exact got HR (by simp[ov, *])
  ((try clear s0);(try clear s1);(try clear s2);(try clear s3);(try clear s4);(try clear s5);(try clear s6);(try clear s7);(try clear s16);(try clear s17);(try clear s18);(try clear s19);(try clear s20);(try clear s21);(try clear s22);(try clear s23);(try clear s24);(try clear s25);(try clear s26);(try clear s27);(try clear s28);(try clear s29);(try clear s30);(try clear s36);(try clear s45);(try clear s56);(try clear s74);(try clear s75);(try clear σ))
  rintro σ w3 ⟨s0,s22,s19,rfl⟩
  have hsc2:sc=((if ex<0 then (45:UInt8) else 43).toNat:Int):=by rw[←HSC.out];split <;> rfl
  have HSC2:=Lib.hid hsc2
  clear hsc2
  have hfinal:∀ tl:List UInt8,(a<10→tl=[48,UInt8.ofNat (48+a)])→(¬a<10→a<100→tl=[UInt8.ofNat (48+a / 10),UInt8.ofNat (48+a%10)])→(¬a<100→tl=[UInt8.ofNat (48+a / 100),UInt8.ofNat (48+a / 10%10),UInt8.ofNat (48+a%10)]) →
    xs++sg++[c0]++fr++[UInt8.ofNat fc.toNat]++[UInt8.ofNat sc.toNat]++tl=xs++ymh neg ds dp (ykz dp nd prec f sh).1 (ykz dp nd prec f sh).2:=by
   intro tl h1 h2 h3
   rw[HPR.out,HFC.out,HFIN.out]
   unfold ymm expL
   rw[HSG.out,HC0.out,HFR.out,HEX.out,HA.out]
   have:UInt8.ofNat sc.toNat=if ex<0 then 45 else 43:=by rw[HSC2.out];simp
   rw[this]
   by_cases g1:a<10
   ·rw[if_pos g1,h1 g1];simp
   ·rw[if_neg g1]
    by_cases g2:a<100
    ·rw[if_pos g2,h2 g1 g2];simp
    ·rw[if_neg g2,h3 g2];simp
  have HFINAL:=Lib.hid hfinal
  clear hfinal
  by_cases h10:a<10
  ·have h10i:(a:Int)<10:=by omega
   ((repeat (go_wp2_with (first | (at_builtin;refine zch rfl _ _ _ _ rfl (by decide) (by decide) zsw (hap.own.alloc _) (by simp[ov, *]) _ (by simp[ov, *]) [UInt8.ofNat (sc).toNat] (ycc Tryz.underlying83 (sc) (by omega) (by omega) _) (by simp only[List.length_append,List.length_cons,List.length_nil,List.length_replicate]at *;omega) ?_;intro v w' ho1 hs1;replace hap:=hap.step ho1 hs1;clear ho1 hs1) | (at_builtin;refine zch rfl _ _ _ _ rfl (by decide) (by decide) zsw (hap.own.alloc _) (by simp[ov, *]) _ (by simp[ov, *]) [UInt8.ofNat ((48:Int)).toNat,UInt8.ofNat ((a:Int)+48).toNat] (ykd Tryz.underlying83 ((48:Int)) ((a:Int)+48) (by omega) (by omega) (by omega) (by omega) _) (by simp only[List.length_append,List.length_cons,List.length_nil,List.length_replicate]at *;omega) ?_;intro v w' ho1 hs1;replace hap:=hap.step ho1 hs1;clear ho1 hs1));first | (refine jq ?hc (by decide) ?_;(case hc=>(simp[ov, *];done))) | (refine kj ?hc (by decide) ?_;(case hc=>(simp[ov, *];done)))));go_wp2_with (first | (at_builtin;refine zch rfl _ _ _ _ rfl (by decide) (by decide) zsw (hap.own.alloc _) (by simp[ov, *]) _ (by simp[ov, *]) [UInt8.ofNat (sc).toNat] (ycc Tryz.underlying83 (sc) (by omega) (by omega) _) (by simp only[List.length_append,List.length_cons,List.length_nil,List.length_replicate]at *;omega) ?_;intro v w' ho1 hs1;replace hap:=hap.step ho1 hs1;clear ho1 hs1) | (at_builtin;refine zch rfl _ _ _ _ rfl (by decide) (by decide) zsw (hap.own.alloc _) (by simp[ov, *]) _ (by simp[ov, *]) [UInt8.ofNat ((48:Int)).toNat,UInt8.ofNat ((a:Int)+48).toNat] (ykd Tryz.underlying83 ((48:Int)) ((a:Int)+48) (by omega) (by omega) (by omega) (by omega) _) (by simp only[List.length_append,List.length_cons,List.length_nil,List.length_replicate]at *;omega) ?_;intro v w' ho1 hs1;replace hap:=hap.step ho1 hs1;clear ho1 hs1)))
   refine yl v rfl (by decide) (by simp[yc]) ⟨v,rfl,?_,hap.stp⟩
   exact cast (congrArg (OwnB T w' v) (HFINAL.out _ (fun _=>by rw[show ((48:Int)).toNat=48 from rfl,show ((a:Int)+48).toNat=48+a by omega];rfl) (fun h=>absurd h10 h) (fun h=>absurd (by omega) h))) hap.own
  ·have h10':decide ((a:Int)<10)=false:=by simp;omega
   by_cases h100:a<100
   ·have h100i:(a:Int)<100:=by omega
    ((repeat (go_wp2_with (first | (at_builtin;refine zch rfl _ _ _ _ rfl (by decide) (by decide) zsw (hap.own.alloc _) (by simp[ov, *]) _ (by simp[ov, *]) [UInt8.ofNat (sc).toNat] (ycc Tryz.underlying83 (sc) (by omega) (by omega) _) (by simp only[List.length_append,List.length_cons,List.length_nil,List.length_replicate]at *;omega) ?_;intro v w' ho1 hs1;replace hap:=hap.step ho1 hs1;clear ho1 hs1) | (at_builtin;refine zch rfl _ _ _ _ rfl (by decide) (by decide) zsw (hap.own.alloc _) (by simp[ov, *]) _ (by simp[ov, *]) [UInt8.ofNat ((a:Int) / 10+48).toNat,UInt8.ofNat ((a:Int)%10+48).toNat] (ykd Tryz.underlying83 ((a:Int) / 10+48) ((a:Int)%10+48) (by omega) (by omega) (by omega) (by omega) _) (by simp only[List.length_append,List.length_cons,List.length_nil,List.length_replicate]at *;omega) ?_;intro v w' ho1 hs1;replace hap:=hap.step ho1 hs1;clear ho1 hs1));first | (refine jq ?hc (by decide) ?_;(case hc=>(simp[ov, *];done))) | (refine kj ?hc (by decide) ?_;(case hc=>(simp[ov, *];done)))));go_wp2_with (first | (at_builtin;refine zch rfl _ _ _ _ rfl (by decide) (by decide) zsw (hap.own.alloc _) (by simp[ov, *]) _ (by simp[ov, *]) [UInt8.ofNat (sc).toNat] (ycc Tryz.underlying83 (sc) (by omega) (by omega) _) (by simp only[List.length_append,List.length_cons,List.length_nil,List.length_replicate]at *;omega) ?_;intro v w' ho1 hs1;replace hap:=hap.step ho1 hs1;clear ho1 hs1) | (at_builtin;refine zch rfl _ _ _ _ rfl (by decide) (by decide) zsw (hap.own.alloc _) (by simp[ov, *]) _ (by simp[ov, *]) [UInt8.ofNat ((a:Int) / 10+48).toNat,UInt8.ofNat ((a:Int)%10+48).toNat] (ykd Tryz.underlying83 ((a:Int) / 10+48) ((a:Int)%10+48) (by omega) (by omega) (by omega) (by omega) _) (by simp only[List.length_append,List.length_cons,List.length_nil,List.length_replicate]at *;omega) ?_;intro v w' ho1 hs1;replace hap:=hap.step ho1 hs1;clear ho1 hs1)))
    refine yl v rfl (by decide) (by simp[yc]) ⟨v,rfl,?_,hap.stp⟩
    exact cast (congrArg (OwnB T w' v) (HFINAL.out _ (fun h=>absurd h h10) (fun _ _=>by rw[show ((a:Int) / 10+48).toNat=48+a / 10 by omega,show ((a:Int)%10+48).toNat=48+a%10 by omega]) (fun h=>absurd h100 h))) hap.own
   ·have h100':decide ((a:Int)<100)=false:=by simp;omega
    ((repeat (go_wp2_with (first | (at_builtin;refine zch rfl _ _ _ _ rfl (by decide) (by decide) zsw (hap.own.alloc _) (by simp[ov, *]) _ (by simp[ov, *]) [UInt8.ofNat (sc).toNat] (ycc Tryz.underlying83 (sc) (by omega) (by omega) _) (by simp only[List.length_append,List.length_cons,List.length_nil,List.length_replicate]at *;omega) ?_;intro v w' ho1 hs1;replace hap:=hap.step ho1 hs1;clear ho1 hs1) | (at_builtin;refine zch rfl _ _ _ _ rfl (by decide) (by decide) zsw (hap.own.alloc _) (by simp[ov, *]) _ (by simp[ov, *]) [UInt8.ofNat ((a:Int) / 100+48).toNat,UInt8.ofNat ((a:Int) / 10%10+48).toNat,UInt8.ofNat ((a:Int)%10+48).toNat] (yki Tryz.underlying83 ((a:Int) / 100+48) ((a:Int) / 10%10+48) ((a:Int)%10+48) (by omega) (by omega) (by omega) (by omega) (by omega) (by omega) _) (by simp only[List.length_append,List.length_cons,List.length_nil,List.length_replicate]at *;omega) ?_;intro v w' ho1 hs1;replace hap:=hap.step ho1 hs1;clear ho1 hs1));first | (refine jq ?hc (by decide) ?_;(case hc=>(simp[ov, *];done))) | (refine kj ?hc (by decide) ?_;(case hc=>(simp[ov, *];done)))));go_wp2_with (first | (at_builtin;refine zch rfl _ _ _ _ rfl (by decide) (by decide) zsw (hap.own.alloc _) (by simp[ov, *]) _ (by simp[ov, *]) [UInt8.ofNat (sc).toNat] (ycc Tryz.underlying83 (sc) (by omega) (by omega) _) (by simp only[List.length_append,List.length_cons,List.length_nil,List.length_replicate]at *;omega) ?_;intro v w' ho1 hs1;replace hap:=hap.step ho1 hs1;clear ho1 hs1) | (at_builtin;refine zch rfl _ _ _ _ rfl (by decide) (by decide) zsw (hap.own.alloc _) (by simp[ov, *]) _ (by simp[ov, *]) [UInt8.ofNat ((a:Int) / 100+48).toNat,UInt8.ofNat ((a:Int) / 10%10+48).toNat,UInt8.ofNat ((a:Int)%10+48).toNat] (yki Tryz.underlying83 ((a:Int) / 100+48) ((a:Int) / 10%10+48) ((a:Int)%10+48) (by omega) (by omega) (by omega) (by omega) (by omega) (by omega) _) (by simp only[List.length_append,List.length_cons,List.length_nil,List.length_replicate]at *;omega) ?_;intro v w' ho1 hs1;replace hap:=hap.step ho1 hs1;clear ho1 hs1)))
    refine yl v rfl (by decide) (by simp[yc]) ⟨v,rfl,?_,hap.stp⟩
    exact cast (congrArg (OwnB T w' v) (HFINAL.out _ (fun h=>absurd h h10) (fun _ h=>absurd h h100) (fun _=>by rw[show ((a:Int) / 100+48).toNat=48+a / 100 by omega,show ((a:Int) / 10%10+48).toNat=48+a / 10%10 by omega,show ((a:Int)%10+48).toNat=48+a%10 by omega]))) hap.own
 ·-- the format f, or none
  have hE:¬(fc=101∨fc=69):=by simpa using h
  by_cases hF:fc=102
  ·subst hF
   have hfin:ymh neg ds dp pr 102=yn1 neg ds dp pr:=by unfold ymh;rw[if_neg (by decide),if_pos rfl]
   have HFIN:=Lib.hid hfin
   clear h hE hfin s75
   ((repeat (go_wp2_with fail;first | (refine jq ?hc (by decide) ?_;(case hc=>(simp[ov, *];done))) | (refine kj ?hc (by decide) ?_;(case hc=>(simp[ov, *];done)))));go_wp2_with fail)
   refine yr (fun s' w'=>∃ v,s' 0=v∧Ap T w dst s ds w' v (xs++eSign neg)∧s' 2=s∧s' 3=.int .i64 dp∧s' 4=.int .i64 nd∧s' 5=.int .i64 pr) ?_ ?_
   ·intro R' K' HR hK'
    refine zb0 neg (by simp[ov, *]) (by decide) (fun h=>?_) (fun h=>?_)
    ·subst h
     go_wp2_with (at_builtin;refine zch rfl _ _ _ _ rfl (by decide) (by decide) zsw (hap.own.alloc _) (by simp[ov, *]) _ (by simp[ov, *]) [45] (zmx Tryz.underlying83 [45] _) (by simp only[List.length_append,List.length_cons,List.length_nil,List.length_replicate]at *;omega) ?_;intro v w' ho1 hs1;replace hap:=hap.step ho1 hs1;clear ho1 hs1)
     exact got HR ⟨v,by simp[ov, *],hap,by simp[ov, *],by simp[ov, *],by simp[ov, *],by simp[ov, *]⟩
    ·subst h
     go_wp2_with fail
     exact got HR ⟨dst,by simp[ov, *],hap.to (by simp[eSign]),by simp[ov, *],by simp[ov, *],by simp[ov, *],by simp[ov, *]⟩
   ((try clear s0);(try clear s1);(try clear s2);(try clear s3);(try clear s4);(try clear s5);(try clear s6);(try clear s7);(try clear s16);(try clear s17);(try clear s18);(try clear s19);(try clear s20);(try clear s21);(try clear s22);(try clear s23);(try clear s24);(try clear s25);(try clear s26);(try clear s27);(try clear s28);(try clear s29);(try clear s30);(try clear s36);(try clear s45);(try clear s56);(try clear s74);(try clear s75);(try clear σ))
   clear hap
   rintro σ w1 ⟨v1,s0,hap,s2,s3,s4,s5⟩
   have hsl:(eSign neg).length≤1:=by cases neg <;> simp[eSign]
   obtain⟨sg,hsg⟩:∃ sg,eSign neg=sg:=⟨_,rfl⟩
   rw[hsg]at hap hsl
   have HSG:=Lib.hid hsg
   clear hsg
   go_wp2_with fail
   refine yr (fun s' w'=>∃ v,s' 0=v∧Ap T w dst s ds w' v (xs++sg++ylj ds dp)∧s' 2=s∧s' 3=.int .i64 dp∧s' 4=.int .i64 nd∧s' 5=.int .i64 pr) ?_ ?_
   ·intro R' K' HR hK'
    by_cases hdp:0<dp
    ·have hex:∃ g L c,s=.slice (some ⟨g,0,none⟩) L c∧ds.length≤L∧L≤c∧c≤100000:=by
      by_cases hne:ds=[]
      ·rcases HDP.out hne with h0 | ⟨g,L,c,h1,h2,h3⟩
       ·omega
       ·exact⟨g,L,c,h1,by rw[hne];simp,h2,h3⟩
      ·have hlp:0<ds.length:=List.length_pos_iff.2 hne
       obtain⟨g,L,c,hs,hL1,hL2,hL3,_⟩:=hap.dig.at 0 hlp
       exact⟨g,L,c,hs,hL1,hL2,hL3⟩
     obtain⟨g,L,c,hs,hL1,hL2,hL3⟩:=hex
     obtain⟨D,hD⟩:∃ D:Nat,dp=(D:Int):=⟨dp.toNat,by omega⟩
     obtain⟨M,hM⟩:∃ M:Nat,min nd dp=(M:Int):=⟨(min nd dp).toNat,by omega⟩
     have hM1:M≤ds.length:=by have:=HND.out;omega
     have hM2:M≤D:=by omega
     have hMc:(M:Int)≤c:=by omega
     have hMz:D-ds.length=D-M:=by have:=HND.out;omega
     have htk:ds.take dp.toNat=ds.take M:=by
      rw[hD,Int.toNat_natCast]
      by_cases h:D≤ds.length
      ·rw[show M=D by have:=HND.out;omega]
      ·rw[List.take_of_length_le (by omega),List.take_of_length_le (by have:=HND.out;omega)]
     have hfi:ylj ds dp=ds.take M++List.replicate (D-M) 48:=by
      unfold ylj;rw[if_pos hdp,htk,hD,Int.toNat_natCast,hMz]
     have HFI:=Lib.hid hfi
     rw[hs]at s2
     have HS:=Lib.hid hs
     have HD:=Lib.hid hD
     have hDb:D≤900:=by omega
     clear hfi htk hMz hs hD
     refine jq (by simp[ov, *]) (by decide) ?_
     go_wp2_with fail
     refine xx (fun k s' w'=>∃ (j:Nat) (v:Value),j≤M∧k=M-j∧s' 191=.int .i64 (j:Int)∧s' 190=.int .i64 (M:Int)∧s' 189=.slice (some ⟨g,0,none⟩) M c∧s' 0=v∧Ap T w dst s ds w' v (xs++sg++ds.take j)∧s' 2=.slice (some ⟨g,0,none⟩) L c∧s' 3=.int .i64 dp∧s' 4=.int .i64 nd∧s' 5=.int .i64 pr∧s' 23=.int .i64 (M:Int)) M ⟨0,_,Nat.zero_le _,rfl,by simp[ov, *],by simp[ov, *],by simp[ov, *],rfl,(hap.to (by simp)).at (by simp[ov, *]),by simp[ov, *],by simp[ov, *],by simp[ov, *],by simp[ov, *],by simp[ov, *]⟩ ?_
     ((try clear s0);(try clear s1);(try clear s2);(try clear s3);(try clear s4);(try clear s5);(try clear s6);(try clear s7);(try clear s16);(try clear s17);(try clear s18);(try clear s19);(try clear s20);(try clear s21);(try clear s22);(try clear s23);(try clear s24);(try clear s25);(try clear s26);(try clear s27);(try clear s28);(try clear s29);(try clear s30);(try clear s36);(try clear s45);(try clear s56);(try clear s74);(try clear s75);(try clear σ))
     clear hap
     rintro k σ wk ⟨j,vk,hj,rfl,sc,sl,sx,s0,hap,s2,s3,s4,s5,s23⟩ RK KK HRK hKK
     by_cases hjl:j<M
     ·have hcell:=hap.dig.cellAt HS.out j (by omega)
      have hts:=ycn ds j (by omega)
      have HTS:=Lib.hid hts
      have htl:(ds.take j).length≤800:=by rw[List.length_take];omega
      clear hts
      generalize ds.getD j 0=cj at *
      ((repeat (go_wp2_with (first | (at_builtin;refine zch rfl _ _ _ _ rfl (by decide) (by decide) zsw (hap.own.alloc _) (by simp[ov, *]) _ (by simp[ov, *]) [cj] (zmx Tryz.underlying83 [cj] _) (by simp only[List.length_append,List.length_cons,List.length_nil,List.length_replicate]at *;omega) ?_;intro v w' ho1 hs1;replace hap:=hap.step ho1 hs1;clear ho1 hs1));first | (refine jq ?hc (by decide) ?_;(case hc=>(simp[ov, *];done))) | (refine kj ?hc (by decide) ?_;(case hc=>(simp[ov, *];done)))));go_wp2_with (first | (at_builtin;refine zch rfl _ _ _ _ rfl (by decide) (by decide) zsw (hap.own.alloc _) (by simp[ov, *]) _ (by simp[ov, *]) [cj] (zmx Tryz.underlying83 [cj] _) (by simp only[List.length_append,List.length_cons,List.length_nil,List.length_replicate]at *;omega) ?_;intro v w' ho1 hs1;replace hap:=hap.step ho1 hs1;clear ho1 hs1)))
      exact wo HRK (M-(j+1)) (by omega) ⟨j+1,v,by omega,rfl,by simp[ov, *],by simp[ov, *],by simp[ov, *],by simp[ov, *],hap.to (by rw[HTS.out];simp),by simp[ov, *],by simp[ov, *],by simp[ov, *],by simp[ov, *],by simp[ov, *]⟩
     have hjN:j=M:=by omega
     have hjf:decide (j<M)=false:=by simpa using hjl
     subst hjN
     obtain⟨N,hN⟩:∃ N:Nat,D-j=N:=⟨_,rfl⟩
     have hNi:dp-(j:Int)=(N:Int):=by have:=HD.out;omega
     have hNb:N≤900:=by omega
     have htl:(ds.take j).length≤800:=by rw[List.length_take];omega
     have HN:=Lib.hid hN
     clear hN hjl
     ((repeat (go_wp2_with fail;first | (refine jq ?hc (by decide) ?_;(case hc=>(simp[ov, *];done))) | (refine kj ?hc (by decide) ?_;(case hc=>(simp[ov, *];done)))));go_wp2_with fail)
     obtain⟨tk,htk⟩:∃ tk,ds.take j=tk:=⟨_,rfl⟩
     rw[htk]at hap htl
     have HTK:=Lib.hid htk
     clear htk
     refine xx (fun k s' w'=>∃ (j:Nat) (v:Value),j≤N∧k=N-j∧s' 203=.int .i64 (j:Int)∧s' 202=.int .i64 (N:Int)∧s' 0=v∧Ap T w dst s ds w' v (xs++sg++tk++List.replicate j 48)∧s' 2=.slice (some ⟨g,0,none⟩) L c∧s' 3=.int .i64 dp∧s' 4=.int .i64 nd∧s' 5=.int .i64 pr) N ⟨0,_,Nat.zero_le _,rfl,by simp[yc,yd],by simp[ov, *],rfl,(hap.to (by simp)).at (by simp[ov, *]),by simp[ov, *],by simp[ov, *],by simp[ov, *],by simp[ov, *]⟩ ?_
     ((try clear s0);(try clear s1);(try clear s2);(try clear s3);(try clear s4);(try clear s5);(try clear s6);(try clear s7);(try clear s16);(try clear s17);(try clear s18);(try clear s19);(try clear s20);(try clear s21);(try clear s22);(try clear s23);(try clear s24);(try clear s25);(try clear s26);(try clear s27);(try clear s28);(try clear s29);(try clear s30);(try clear s36);(try clear s45);(try clear s56);(try clear s74);(try clear s75);(try clear hap);(try clear σ))
     rintro k σ wk ⟨j,vk,hj,rfl,sc,sl,s0,hap,s2,s3,s4,s5⟩ RK KK HRK hKK
     by_cases hjl:j<N
     ·((repeat (go_wp2_with (at_builtin;refine zch rfl _ _ _ _ rfl (by decide) (by decide) zsw (hap.own.alloc _) (by simp[ov, *]) _ (by simp[ov, *]) [48] (zmx Tryz.underlying83 [48] _) (by simp only[List.length_append,List.length_cons,List.length_nil,List.length_replicate]at *;omega) ?_;intro v w' ho1 hs1;replace hap:=hap.step ho1 hs1;clear ho1 hs1);first | (refine jq ?hc (by decide) ?_;(case hc=>(simp[ov, *];done))) | (refine kj ?hc (by decide) ?_;(case hc=>(simp[ov, *];done)))));go_wp2_with (at_builtin;refine zch rfl _ _ _ _ rfl (by decide) (by decide) zsw (hap.own.alloc _) (by simp[ov, *]) _ (by simp[ov, *]) [48] (zmx Tryz.underlying83 [48] _) (by simp only[List.length_append,List.length_cons,List.length_nil,List.length_replicate]at *;omega) ?_;intro v w' ho1 hs1;replace hap:=hap.step ho1 hs1;clear ho1 hs1))
      exact wo HRK (N-(j+1)) (by omega) ⟨j+1,v,by omega,rfl,by simp[yc,yd],by simp[ov, *],by simp[yc,yd],hap.to (by simp[List.replicate_succ']),by simp[ov, *],by simp[ov, *],by simp[ov, *],by simp[ov, *]⟩
     have hjN:j=N:=by omega
     have hjf:decide (j<N)=false:=by simpa using hjl
     ((repeat (go_wp2_with fail;first | (refine jq ?hc (by decide) ?_;(case hc=>(simp[ov, *];done))) | (refine kj ?hc (by decide) ?_;(case hc=>(simp[ov, *];done)))));go_wp2_with fail)
     obtain⟨v,hv⟩:∃ v,v=vk:=⟨_,rfl⟩
     subst hv
     exact got HR ⟨v,by simp[ov, *],hap.to (by rw[HFI.out,HN.out,HTK.out,←hjN];simp),by simp[yc,yd,HS.out, *],by simp[ov, *],by simp[ov, *],by simp[ov, *]⟩
    ·have hfi:ylj ds dp=[48]:=by unfold ylj;rw[if_neg hdp]
     have hdp':decide (0<dp)=false:=by simpa using hdp
     refine kj (by simp[ov, *]) (by decide) ?_
     go_wp2_with (at_builtin;refine zch rfl _ _ _ _ rfl (by decide) (by decide) zsw (hap.own.alloc _) (by simp[ov, *]) _ (by simp[ov, *]) [48] (zmx Tryz.underlying83 [48] _) (by simp only[List.length_append,List.length_cons,List.length_nil,List.length_replicate]at *;omega) ?_;intro v w' ho1 hs1;replace hap:=hap.step ho1 hs1;clear ho1 hs1)
     exact got HR ⟨v,by simp[ov, *],hap.to (by rw[hfi]),by simp[ov, *],by simp[ov, *],by simp[ov, *],by simp[ov, *]⟩
   ((try clear s0);(try clear s1);(try clear s2);(try clear s3);(try clear s4);(try clear s5);(try clear s6);(try clear s7);(try clear s16);(try clear s17);(try clear s18);(try clear s19);(try clear s20);(try clear s21);(try clear s22);(try clear s23);(try clear s24);(try clear s25);(try clear s26);(try clear s27);(try clear s28);(try clear s29);(try clear s30);(try clear s36);(try clear s45);(try clear s56);(try clear s74);(try clear s75);(try clear σ))
   clear hap
   rintro σ w2 ⟨v2,s0,hap,s2,s3,s4,s5⟩
   have hil:(ylj ds dp).length≤2000:=by
    have:=HND.out
    unfold ylj;split
    ·simp only[List.length_append,List.length_replicate,List.length_take];omega
    ·simp
   obtain⟨fi,hfi⟩:∃ fi,ylj ds dp=fi:=⟨_,rfl⟩
   rw[hfi]at hap hil
   have HFI:=Lib.hid hfi
   clear hfi
   have hfinal:∀ tl:List UInt8,tl=ymc ds dp pr→xs++sg++fi++tl=xs++ymh neg ds dp (ykz dp nd prec f sh).1 (ykz dp nd prec f sh).2:=by
    intro tl htl
    rw[HPR.out,HFC.out,HFIN.out,htl]
    unfold yn1
    rw[HSG.out,HFI.out]
    simp
   have HFINAL:=Lib.hid hfinal
   clear hfinal
   by_cases hp:0<pr
   ·obtain⟨lz,hlz⟩:∃ lz:Nat,fLz dp pr=(lz:Int):=⟨(fLz dp pr).toNat,by unfold fLz;omega⟩
    obtain⟨M,hM⟩:∃ M:Nat,fM nd dp pr=(M:Int):=⟨(fM nd dp pr).toNat,by unfold fM;rw[hlz];unfold fLz at hlz;omega⟩
    obtain⟨tz,htz⟩:∃ tz:Nat,max 0 (pr-lz-M)=(tz:Int):=⟨(max 0 (pr-(lz:Int)-M)).toNat,by omega⟩
    obtain⟨off,hoff⟩:∃ off:Nat,(dp+lz).toNat=off:=⟨_,rfl⟩
    have hlzb:lz≤900:=by unfold fLz at hlz;omega
    have hMb:M≤800:=by unfold fM at hM;rw[hlz]at hM;unfold fLz at hlz;omega
    have htzb:tz≤100900:=by omega
    have hoffi:0<M→dp+(lz:Int)=(off:Int):=by
     intro h;unfold fM at hM;rw[hlz]at hM;unfold fLz at hlz;omega
    have hoM:off+M≤ds.length∨M=0:=by
     have:=HND.out
     unfold fM at hM;rw[hlz]at hM;omega
    have hfr:ymc ds dp pr=[46]++(List.replicate lz 48++((ds.drop off).take M++List.replicate tz 48)):=by
     unfold ymc
     rw[if_pos hp,←HND.out,hM,hlz,htz,hoff]
     rfl
    have HFR:=Lib.hid hfr
    have e1:min pr (max 0 (-dp))=(lz:Int):=hlz
    have e2:min (pr-(lz:Int)) (max 0 (nd-(dp+lz)))=(M:Int):=by rw[←hM];unfold fM;rw[hlz]
    have HO:=Lib.hid hoffi
    have HO2:=Lib.hid hoM
    clear hfr hoff hoffi hoM hlz hM
    go_wp2_with fail
    refine jq (by simp[ov, *]) (by decide) ?_
    go_wp2_with (at_builtin;refine zch rfl _ _ _ _ rfl (by decide) (by decide) zsw (hap.own.alloc _) (by simp[ov, *]) _ (by simp[ov, *]) [46] (zmx Tryz.underlying83 [46] _) (by simp only[List.length_append,List.length_cons,List.length_nil,List.length_replicate]at *;omega) ?_;intro v w' ho1 hs1;replace hap:=hap.step ho1 hs1;clear ho1 hs1)
    refine xx (fun k s' w'=>∃ (j:Nat) (v:Value),j≤lz∧k=lz-j∧s' 240=.int .i64 (j:Int)∧s' 239=.int .i64 (lz:Int)∧s' 0=v∧Ap T w dst s ds w' v (xs++sg++fi++[46]++List.replicate j 48)∧s' 2=s∧s' 27=.int .i64 (dp+(lz:Int))∧s' 28=.int .i64 (M:Int)∧s' 29=.int .i64 (tz:Int)) lz ⟨0,_,Nat.zero_le _,rfl,by simp[yc,yd],by simp[ov, *],rfl,(hap.to (by simp)).at (by simp[ov, *]),by simp[ov, *],by simp[ov, *],by simp[ov, *],by simp[ov, *]⟩ ?_
    ((try clear s0);(try clear s1);(try clear s2);(try clear s3);(try clear s4);(try clear s5);(try clear s6);(try clear s7);(try clear s16);(try clear s17);(try clear s18);(try clear s19);(try clear s20);(try clear s21);(try clear s22);(try clear s23);(try clear s24);(try clear s25);(try clear s26);(try clear s27);(try clear s28);(try clear s29);(try clear s30);(try clear s36);(try clear s45);(try clear s56);(try clear s74);(try clear s75);(try clear hap);(try clear σ))
    rintro k σ wk ⟨j,vk,hj,rfl,sc,sl,s0,hap,s2,s27,s28,s29⟩ RK KK HRK hKK
    by_cases hjl:j<lz
    ·((repeat (go_wp2_with (at_builtin;refine zch rfl _ _ _ _ rfl (by decide) (by decide) zsw (hap.own.alloc _) (by simp[ov, *]) _ (by simp[ov, *]) [48] (zmx Tryz.underlying83 [48] _) (by simp only[List.length_append,List.length_cons,List.length_nil,List.length_replicate]at *;omega) ?_;intro v w' ho1 hs1;replace hap:=hap.step ho1 hs1;clear ho1 hs1);first | (refine jq ?hc (by decide) ?_;(case hc=>(simp[ov, *];done))) | (refine kj ?hc (by decide) ?_;(case hc=>(simp[ov, *];done)))));go_wp2_with (at_builtin;refine zch rfl _ _ _ _ rfl (by decide) (by decide) zsw (hap.own.alloc _) (by simp[ov, *]) _ (by simp[ov, *]) [48] (zmx Tryz.underlying83 [48] _) (by simp only[List.length_append,List.length_cons,List.length_nil,List.length_replicate]at *;omega) ?_;intro v w' ho1 hs1;replace hap:=hap.step ho1 hs1;clear ho1 hs1))
     exact wo HRK (lz-(j+1)) (by omega) ⟨j+1,v,by omega,rfl,by simp[yc,yd],by simp[ov, *],by simp[yc,yd],hap.to (by simp[List.replicate_succ']),by simp[ov, *],by simp[ov, *],by simp[ov, *],by simp[ov, *]⟩
    have hjN:j=lz:=by omega
    have hjf:decide (j<lz)=false:=by simpa using hjl
    ((repeat (go_wp2_with fail;first | (refine jq ?hc (by decide) ?_;(case hc=>(simp[ov, *];done))) | (refine kj ?hc (by decide) ?_;(case hc=>(simp[ov, *];done)))));go_wp2_with fail)
    obtain⟨v,hv⟩:∃ v,v=vk:=⟨_,rfl⟩
    subst hv
    (try clear sc);(try clear sl)
    obtain⟨o1,ho1⟩:∃ o1,xs++sg++fi++[46]++List.replicate j 48=o1:=⟨_,rfl⟩
    rw[ho1]at hap
    have hol:o1.length≤xs.length+10000:=by rw[←ho1];simp only[List.length_append,List.length_cons,List.length_nil,List.length_replicate];omega
    have HO1:=Lib.hid ho1
    clear ho1
    refine xx (fun k s' w'=>∃ (i:Nat) (v:Value),i≤M∧k=M-i∧s' 247=.int .i64 (i:Int)∧s' 246=.int .i64 (M:Int)∧s' 0=v∧Ap T w dst s ds w' v (o1++(ds.drop off).take i)∧s' 2=s∧s' 27=.int .i64 (dp+(lz:Int))∧s' 28=.int .i64 (M:Int)∧s' 29=.int .i64 (tz:Int)) M ⟨0,_,Nat.zero_le _,rfl,by simp[ov, *],by simp[ov, *],rfl,(hap.to (by simp)).at (by simp[ov, *]),by simp[ov, *],by simp[ov, *],by simp[ov, *],by simp[ov, *]⟩ ?_
    ((try clear s0);(try clear s1);(try clear s2);(try clear s3);(try clear s4);(try clear s5);(try clear s6);(try clear s7);(try clear s16);(try clear s17);(try clear s18);(try clear s19);(try clear s20);(try clear s21);(try clear s22);(try clear s23);(try clear s24);(try clear s25);(try clear s26);(try clear s27);(try clear s28);(try clear s29);(try clear s30);(try clear s36);(try clear s45);(try clear s56);(try clear s74);(try clear s75);(try clear hap);(try clear σ))
    rintro k σ wk ⟨i,vk,hi,rfl,sc,sl,s0,hap,s2,s27,s28,s29⟩ RK KK HRK hKK
    by_cases hil2:i<M
    ·have hof:off+M≤ds.length:=by rcases HO2.out with h | h <;> omega
     obtain⟨g,L,c,hs,hL1,hL2,hL3,hcx⟩:=hap.dig.at (off+i) (by omega)
     clear hcx
     have hcell:=hap.dig.cellAt hs (off+i) (by omega)
     have hts:=ycn (ds.drop off) i (by rw[List.length_drop];omega)
     rw[show (ds.drop off).getD i 0=ds.getD (off+i) 0 by simp[List.getD_eq_getElem?_getD]]at hts
     have HTS:=Lib.hid hts
     have HS:=Lib.hid hs
     rw[HO.out (by omega)]at s27
     rw[hs]at s2
     have htl:((ds.drop off).take i).length≤800:=by rw[List.length_take];omega
     have hol2:off≤800:=by have:=HND.out;omega
     clear hts hs
     generalize ds.getD (off+i) 0=cj at *
     ((repeat (go_wp2_with (first | (at_builtin;refine zch rfl _ _ _ _ rfl (by decide) (by decide) zsw (hap.own.alloc _) (by simp[ov, *]) _ (by simp[ov, *]) [cj] (zmx Tryz.underlying83 [cj] _) (by simp only[List.length_append,List.length_cons,List.length_nil,List.length_replicate]at *;omega) ?_;intro v w' ho1 hs1;replace hap:=hap.step ho1 hs1;clear ho1 hs1));first | (refine jq ?hc (by decide) ?_;(case hc=>(simp[ov, *];done))) | (refine kj ?hc (by decide) ?_;(case hc=>(simp[ov, *];done)))));go_wp2_with (first | (at_builtin;refine zch rfl _ _ _ _ rfl (by decide) (by decide) zsw (hap.own.alloc _) (by simp[ov, *]) _ (by simp[ov, *]) [cj] (zmx Tryz.underlying83 [cj] _) (by simp only[List.length_append,List.length_cons,List.length_nil,List.length_replicate]at *;omega) ?_;intro v w' ho1 hs1;replace hap:=hap.step ho1 hs1;clear ho1 hs1)))
     exact wo HRK (M-(i+1)) (by omega) ⟨i+1,v,by omega,rfl,by simp[ov, *],by simp[ov, *],by simp[ov, *],hap.to (by rw[HTS.out];simp),by simp[yc,yd,HS.out, *],by rw[HO.out (by omega)];simp[ov, *],by simp[ov, *],by simp[ov, *]⟩
    have hiN:i=M:=by omega
    have hif:decide (i<M)=false:=by simpa using hil2
    ((repeat (go_wp2_with fail;first | (refine jq ?hc (by decide) ?_;(case hc=>(simp[ov, *];done))) | (refine kj ?hc (by decide) ?_;(case hc=>(simp[ov, *];done)))));go_wp2_with fail)
    obtain⟨tk,htk⟩:∃ tk,(ds.drop off).take i=tk:=⟨_,rfl⟩
    have htl:((ds.drop off).take i).length≤800:=by rw[List.length_take];omega
    rw[htk]at hap htl
    rw[hiN]at htk
    have HTK:=Lib.hid htk
    rw[hjN]at HO1
    clear htk hjN hil2 hif
    (try clear sc);(try clear sl)
    refine xx (fun k s' w'=>∃ (j:Nat) (v:Value),j≤tz∧k=tz-j∧s' 261=.int .i64 (j:Int)∧s' 260=.int .i64 (tz:Int)∧s' 0=v∧Ap T w dst s ds w' v (o1++tk++List.replicate j 48)∧s' 2=s) tz ⟨0,_,Nat.zero_le _,rfl,by simp[yc,yd],by simp[ov, *],rfl,(hap.to (by simp)).at (by simp[ov, *]),by simp[ov, *]⟩ ?_
    ((try clear s0);(try clear s1);(try clear s2);(try clear s3);(try clear s4);(try clear s5);(try clear s6);(try clear s7);(try clear s16);(try clear s17);(try clear s18);(try clear s19);(try clear s20);(try clear s21);(try clear s22);(try clear s23);(try clear s24);(try clear s25);(try clear s26);(try clear s27);(try clear s28);(try clear s29);(try clear s30);(try clear s36);(try clear s45);(try clear s56);(try clear s74);(try clear s75);(try clear hap);(try clear σ))
    rintro k σ wk ⟨j,vk,hj,rfl,sc,sl,s0,hap,s2⟩ RK KK HRK hKK
    by_cases hjl:j<tz
    ·((repeat (go_wp2_with (at_builtin;refine zch rfl _ _ _ _ rfl (by decide) (by decide) zsw (hap.own.alloc _) (by simp[ov, *]) _ (by simp[ov, *]) [48] (zmx Tryz.underlying83 [48] _) (by simp only[List.length_append,List.length_cons,List.length_nil,List.length_replicate]at *;omega) ?_;intro v w' ho1 hs1;replace hap:=hap.step ho1 hs1;clear ho1 hs1);first | (refine jq ?hc (by decide) ?_;(case hc=>(simp[ov, *];done))) | (refine kj ?hc (by decide) ?_;(case hc=>(simp[ov, *];done)))));go_wp2_with (at_builtin;refine zch rfl _ _ _ _ rfl (by decide) (by decide) zsw (hap.own.alloc _) (by simp[ov, *]) _ (by simp[ov, *]) [48] (zmx Tryz.underlying83 [48] _) (by simp only[List.length_append,List.length_cons,List.length_nil,List.length_replicate]at *;omega) ?_;intro v w' ho1 hs1;replace hap:=hap.step ho1 hs1;clear ho1 hs1))
     exact wo HRK (tz-(j+1)) (by omega) ⟨j+1,v,by omega,rfl,by simp[yc,yd],by simp[ov, *],by simp[yc,yd],hap.to (by simp[List.replicate_succ']),by simp[ov, *]⟩
    have hjN:j=tz:=by omega
    have hjf:decide (j<tz)=false:=by simpa using hjl
    ((repeat (go_wp2_with fail;first | (refine jq ?hc (by decide) ?_;(case hc=>(simp[ov, *];done))) | (refine kj ?hc (by decide) ?_;(case hc=>(simp[ov, *];done)))));go_wp2_with fail)
    obtain⟨v,hv⟩:∃ v,v=vk:=⟨_,rfl⟩
    subst hv
    refine yl v rfl (by decide) (by simp[ov, *]) ⟨v,rfl,?_,hap.stp⟩
    refine cast (congrArg (OwnB T wk v) ?_) hap.own
    rw[←HFINAL.out _ rfl,HFR.out,←HO1.out,←HTK.out,hjN]
    simp
   ·have hfr:ymc ds dp pr=[]:=by unfold ymc;rw[if_neg hp]
    have hp':decide (0<pr)=false:=by simpa using hp
    ((repeat (go_wp2_with fail;first | (refine jq ?hc (by decide) ?_;(case hc=>(simp[ov, *];done))) | (refine kj ?hc (by decide) ?_;(case hc=>(simp[ov, *];done)))));go_wp2_with fail)
    refine yl v2 rfl (by decide) (by simp[ov, *]) ⟨v2,rfl,?_,hap.stp⟩
    exact cast (congrArg (OwnB T w2 v2) ((by simp:xs++sg++fi=xs++sg++fi++[]).trans (HFINAL.out [] hfr.symm))) hap.own
  ·have hfin:ymh neg ds dp pr fc=[37,UInt8.ofNat fc.toNat]:=by unfold ymh;rw[if_neg hE,if_neg hF]
   have HFIN:=Lib.hid hfin
   have hb:(fc==102)=false:=by rw[beq_eq_false_iff_ne];exact hF
   clear hfin hE hF h
   ((repeat (go_wp2_with (first | (at_builtin;refine zch rfl _ _ _ _ rfl (by decide) (by decide) zsw (hap.own.alloc _) (by simp[ov, *]) _ (by simp[ov, *]) [UInt8.ofNat ((37:Int)).toNat,UInt8.ofNat (fc).toNat] (ykd Tryz.underlying83 ((37:Int)) (fc) (by omega) (by omega) (by omega) (by omega) _) (by simp only[List.length_append,List.length_cons,List.length_nil,List.length_replicate]at *;omega) ?_;intro v w' ho1 hs1;replace hap:=hap.step ho1 hs1;clear ho1 hs1));first | (refine jq ?hc (by decide) ?_;(case hc=>(simp[ov, *];done))) | (refine kj ?hc (by decide) ?_;(case hc=>(simp[ov, *];done)))));go_wp2_with (first | (at_builtin;refine zch rfl _ _ _ _ rfl (by decide) (by decide) zsw (hap.own.alloc _) (by simp[ov, *]) _ (by simp[ov, *]) [UInt8.ofNat ((37:Int)).toNat,UInt8.ofNat (fc).toNat] (ykd Tryz.underlying83 ((37:Int)) (fc) (by omega) (by omega) (by omega) (by omega) _) (by simp only[List.length_append,List.length_cons,List.length_nil,List.length_replicate]at *;omega) ?_;intro v w' ho1 hs1;replace hap:=hap.step ho1 hs1;clear ho1 hs1)))
   refine yl v rfl (by decide) (by simp[yc]) ⟨v,rfl,?_,hap.stp⟩
   refine cast (congrArg (OwnB T w' v) ?_) hap.own
   rw[HPR.out,HFC.out,HFIN.out]
   rfl
end Go.Proofs.YtnifedmhgncioaaGreatDoor
