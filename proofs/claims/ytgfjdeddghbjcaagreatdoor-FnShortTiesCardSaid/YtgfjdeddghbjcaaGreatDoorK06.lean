/- Lemmas that the claim's top text leans on. No condition of their own. -/
import Derived.Test.YtgfjdeddghbjcaaGreatDoorK04
import Derived.Test.YtgfjdeddghbjcaaGreatDoorK05
namespace Go.Proofs.YtgfjdeddghbjcaaGreatDoor
open Go.RowKit
set_option linter.unusedSimpArgs false
set_option linter.unusedVariables false
set_option maxHeartbeats 16000000
theorem zch {P:Program} {ops:Array Oper} {rest:List Oper} {o:Oper} {Q:Exit->Act->World->Prop} {w:World} {n:Nat} {env:List (Nat×Value)} {σ:Nat->Value} (hgd:o.guard=none) (ks kx:Nat) (t tx:TypeId)
  (ho:o.op=.call { callee:=.builtin .append,args:=#[.tmp ks,.tmp kx],argTypes:=#[t,tx] }) (hks:ks<n) (hkx:kx<n) (hty:zpw P t) {T:Nat} {v:Value} {xs:List UInt8} (hown:OwnB T w v xs) (hs:over env σ ks=v)
  (xv:Value) (hx:over env σ kx=xv) (ys:List UInt8) (hsrc:Src P 1 tx xv ys.length (ys.map zkm) w) (hb:xs.length+ys.length<=140737489400000)
  (h:∀ v' w',OwnB T w' v' (xs++ys)->Stp w v w' v'->wpList P ops Q rest ((Fr n env σ).put o.dst v') w'):wpList P ops Q (o::rest) (Fr n env σ) w:=
 zhu hgd (.tmp ks) (.tmp kx) t tx ho hty hown ((jd n env σ ks hks).trans hs) xv ((jd n env σ kx hkx).trans hx) ys hsrc hb h
def Dig (w:World) (v s:Value) (ds:List UInt8):Prop:=
 ds=[]\/∃ (g c:Nat) (bs:List UInt8),s=.slice (some ⟨g,0,none⟩) bs.length c/\bs.length<=c/\c<=100000/\(∃ rest,Row w g (bs.map zkm++rest))/\v.ownBlock≠some g/\bs.take ds.length=ds/\ds.length<=bs.length
theorem Dig.stp {w w':World} {v v' s:Value} {ds:List UInt8} (h:Dig w v s ds) (hs:Stp w v w' v'):Dig w' v' s ds:=by
 rcases h with h | ⟨g,c,bs,h1,h2,h2',h3,h4,h5,h6⟩
 ·exact .inl h
 ·obtain⟨rest,h3⟩:=h3;obtain⟨h7,h8⟩:=hs.row h3 h4;exact .inr ⟨g,c,bs,h1,h2,h2',⟨rest,h7⟩,h8,h5,h6⟩
theorem yqk {P:Program} {w:World} {tx e':TypeId} (hk:P.underlying tx=some (.slice e')) (g o n c:Nat) (bs:List UInt8) (rest:List Value) (hr:Row w g (bs.map zkm++rest)) (hn:o+n<=bs.length):Src P 1 tx (.slice (some ⟨g,o,none⟩) n c) ((bs.drop o).take n).length (((bs.drop o).take n).map zkm) w:=by
 have hl:((bs.drop o).take n).length=n:=zh;rw[hl];refine Src.ofSlice _ hk ⟨g,o,none⟩ n c _ (by rw[List.length_map,hl];omega) (fun j v hj=>?_) (fun v hv=>?_)
 ·have e:((⟨g,o,none⟩:Addr).add j)=⟨g,o+j,none⟩:=by
   unfold Addr.add;split
   ·subst_vars;rfl
   ·rfl
  rcases Nat.lt_or_ge j n with h | h
  ·rw[e,hr.cell,List.getElem?_append_left zβZ];rw[List.getElem?_map]at hj ⊢;rw[<-hj];congr 1;rw[List.getElem?_take_of_lt h,List.getElem?_drop]
  ·rw[List.getElem?_eq_none zβZ]at hj;cases hj
 ·obtain⟨b,_,rfl⟩:=List.mem_map.1 hv;rfl
theorem zo1 (i:Int) (h1:0<=i) (h2:i<256):zkm (UInt8.ofNat i.toNat)=.int .u8 i:=by
 unfold zkm;congr 1;simp;omega
theorem ycc {P:Program} {w:World} {tx e':TypeId} (hk:P.underlying tx=some (.slice e')) (i:Int) (h1:0<=i) (h2:i<256) (E:TypeId):
  Src P 1 tx (.slice (some ⟨w.heap.size,0,none⟩) 1 1) [UInt8.ofNat i.toNat].length ([UInt8.ofNat i.toNat].map zkm) (w.alloc (.cells #[.int .u8 i] E)):=by
 have h:=zmx (w:=w) hk [UInt8.ofNat i.toNat] E;simp only[List.map_cons,List.map_nil,zo1 i h1 h2]at h ⊢;exact h
theorem ykd {P:Program} {w:World} {tx e':TypeId} (hk:P.underlying tx=some (.slice e')) (i j:Int) (h1:0<=i) (h2:i<256) (h3:0<=j) (h4:j<256) (E:TypeId):
  Src P 1 tx (.slice (some ⟨w.heap.size,0,none⟩) 2 2) [UInt8.ofNat i.toNat,UInt8.ofNat j.toNat].length ([UInt8.ofNat i.toNat,UInt8.ofNat j.toNat].map zkm) (w.alloc (.cells #[.int .u8 i,.int .u8 j] E)):=by
 have h:=zmx (w:=w) hk [UInt8.ofNat i.toNat,UInt8.ofNat j.toNat] E;simp only[List.map_cons,List.map_nil,zo1 i h1 h2,zo1 j h3 h4]at h ⊢;exact h
theorem yki {P:Program} {w:World} {tx e':TypeId} (hk:P.underlying tx=some (.slice e')) (i j k:Int) (h1:0<=i) (h2:i<256) (h3:0<=j) (h4:j<256) (h5:0<=k) (h6:k<256) (E:TypeId):
  Src P 1 tx (.slice (some ⟨w.heap.size,0,none⟩) 3 3) [UInt8.ofNat i.toNat,UInt8.ofNat j.toNat,UInt8.ofNat k.toNat].length ([UInt8.ofNat i.toNat,UInt8.ofNat j.toNat,UInt8.ofNat k.toNat].map zkm) (w.alloc (.cells #[.int .u8 i,.int .u8 j,.int .u8 k] E)):=by
 have h:=zmx (w:=w) hk [UInt8.ofNat i.toNat,UInt8.ofNat j.toNat,UInt8.ofNat k.toNat] E;simp only[List.map_cons,List.map_nil,zo1 i h1 h2,zo1 j h3 h4,zo1 k h5 h6]at h ⊢;exact h
structure Ap (T:Nat) (w:World) (dst s:Value) (ds:List UInt8) (w':World) (v:Value) (out:List UInt8):Prop where
 own:OwnB T w' v out
 stp:Stp w dst w' v
 env:Env T w'
 dig:Dig w' v s ds
theorem Ap.start {T:Nat} {w:World} {dst s:Value} {ds xs:List UInt8} (ho:OwnB T w dst xs) (he:Env T w) (hd:Dig w dst s ds):Ap T w dst s ds w dst xs:=⟨ho,Stp.refl w dst,he,hd⟩
theorem Ap.step {T:Nat} {w w1 w2:World} {dst s v1 v2:Value} {ds out ys:List UInt8} {o:Obj} (h:Ap T w dst s ds w1 v1 out) (ho:OwnB T w2 v2 (out++ys)) (hs:Stp (w1.alloc o) v1 w2 v2):Ap T w dst s ds w2 v2 (out++ys):=
 ⟨ho,h.stp.trans hs.alloc1,OwnB.env (h.own.alloc o) hs (h.env.alloc o),h.dig.stp hs.alloc1⟩
theorem Ap.step0 {T:Nat} {w w1 w2:World} {dst s v1 v2:Value} {ds out ys:List UInt8} (h:Ap T w dst s ds w1 v1 out) (ho:OwnB T w2 v2 (out++ys)) (hs:Stp w1 v1 w2 v2):Ap T w dst s ds w2 v2 (out++ys):=
 ⟨ho,h.stp.trans hs,OwnB.env h.own hs h.env,h.dig.stp hs⟩
theorem Ap.to {T:Nat} {w w1:World} {dst s v1:Value} {ds out out':List UInt8} (h:Ap T w dst s ds w1 v1 out) (e:out=out'):Ap T w dst s ds w1 v1 out':=e ▸ h
theorem Dig.piece {P:Program} {w:World} {v s:Value} {ds:List UInt8} {tx e':TypeId} (hk:P.underlying tx=some (.slice e')) (h:Dig w v s ds) (o m:Nat) (hm:o+m<=ds.length) (hne:ds≠[]):
  ∃ g L c,s=.slice (some ⟨g,0,none⟩) L c/\ds.length<=L/\L<=c/\c<=100000/\∀ c',Src P 1 tx (.slice (some ⟨g,o,none⟩) m c') ((ds.drop o).take m).length (((ds.drop o).take m).map zkm) w:=by
 rcases h with h | ⟨g,c,bs,h1,h2,h2',h3,h4,h5,h6⟩
 ·exact absurd h hne
 ·refine⟨g,bs.length,c,h1,h6,h2,h2',fun c'=>?_⟩;obtain⟨rest,h3⟩:=h3;have:=yqk (P:=P) hk g o m c' bs rest h3 zd;have e:(ds.drop o).take m=(bs.drop o).take m:=by
   rw[<-h5,List.drop_take,List.take_take,Nat.min_eq_left zd]
  rw[e];exact this
theorem Dig.at {w:World} {v s:Value} {ds:List UInt8} (h:Dig w v s ds) (i:Nat) (hi:i<ds.length):
  ∃ g L c,s=.slice (some ⟨g,0,none⟩) L c/\ds.length<=L/\L<=c/\c<=100000/\w.cell? ⟨g,i,none⟩=some (zkm (ds.getD i 0)):=by
 rcases h with h | ⟨g,c,bs,h1,h2,h2',h3,h4,h5,h6⟩
 ·subst h;simp at hi
 ·refine⟨g,bs.length,c,h1,h6,h2,h2',?_⟩;obtain⟨rest,h3⟩:=h3;rw[h3.cell,List.getElem?_append_left zβZ,List.getElem?_map,List.getElem?_eq_getElem zd];have e:bs[i]' zd=ds.getD i 0:=by
   have:ds.getD i 0=(bs.take ds.length).getD i 0:=by rw[h5]
   rw[this,List.getD_eq_getElem?_getD,List.getElem?_take_of_lt hi,List.getElem?_eq_getElem zd];rfl
  rw[e];rfl
section
def Dec (w:World) (g:Nat) (bs:List UInt8) (nd dp:Int) (ng tr:Bool):Prop:=
 bs.length=800/\Row w g (bs.map zkm++[.int .i64 nd,.int .i64 dp,.bool ng,.bool tr])
section
variable {w : World} {g : Nat} {bs : List UInt8} {nd dp : Int} {ng tr : Bool}
end
end
theorem kw:yi 0=0:=rfl
theorem zc4 {d:Nat} (h:d≠0):yi d=Lib.nDigits d:=by unfold yi;rw[if_neg h]
theorem yfr {d:Nat} (h:d≠0):1<=yi d:=by rw[zc4 h];exact Lib.nDigits_pos d
theorem xa (k d:Nat) (h1:10^k<=d) (h2:d<10^(k+1)):yi d=k+1:=by
 have:0<10^k:=Nat.pow_pos zd;rw[zc4 zd];exact Lib.nDigits_unique k d h1 h2
theorem zil (d:Nat) (h:d≠0):10^(Lib.nDigits d-1)<=d:=by
 induction d using Nat.strongRecOn with
 | _ d ih=>
  by_cases h10:d<10
  ·rw[Lib.nDigits_small h10];simp;omega
  ·have h1:=ih (d / 10) zd zd;have h2:=Lib.nDigits_pos (d / 10);rw[Lib.nDigits_big h10,Nat.add_sub_cancel,show Lib.nDigits (d / 10)=(Lib.nDigits (d / 10)-1)+1 by omega,Nat.pow_succ];omega
theorem qh {d:Nat} (h:d≠0):10^(yi d-1)<=d:=by
 rw[zc4 h];exact zil d h
theorem za3 {d:Nat} (h:d≠0):yi (d*10)=yi d+1:=by
 rw[zc4 h,zc4 zd,Lib.nDigits_big zd,Nat.mul_div_cancel _ zd]
theorem zap (d n:Nat):digs d (n+1)=digs (d / 10) n++[Lib.dg d 0]:=by
 unfold digs;rw[List.range_succ,List.map_append,List.map_cons,List.map_nil];congr 1
 ·apply List.map_congr_left;intro t ht;rw[List.mem_range]at ht;rw[show n+1-1-t=(n-1-t)+1 by omega,Lib.dg_succ]
 ·rw[show n+1-1-n=0 by omega]
def zd5:List UInt8->Nat
 | []=>0
 | c::l=>(c.toNat-48)*10^l.length+zd5 l
def zd2 (c:UInt8):Prop:=48<=c.toNat/\c.toNat<=57
theorem zi3 (l:List UInt8) (c:UInt8):zd5 (l++[c])=zd5 l*10+(c.toNat-48):=by
 induction l with
 | nil=>simp[zd5]
 | cons a l ih=>
  rw[List.cons_append,zd5,ih,zd5,List.length_append,List.length_cons,List.length_nil,Nat.pow_succ];rw[Nat.add_mul];simp only[Nat.mul_assoc,Nat.add_assoc]
theorem vh (d j:Nat):(Lib.dg d j).toNat=48+d / 10^j%10:=by
 unfold Lib.dg;have:d / 10^j%10<10:=Nat.mod_lt _ zd;rw[UInt8.toNat_ofNat'];omega
theorem zrd (d j:Nat):zd2 (Lib.dg d j):=by
 have:d / 10^j%10<10:=Nat.mod_lt _ zd;unfold zd2;rw[vh];omega
theorem zeh (d n:Nat):∀ c ∈ digs d n,zd2 c:=by
 intro c hc;unfold digs at hc;rw[List.mem_map]at hc;obtain⟨t,_,rfl⟩:=hc;exact zrd _ _
theorem zhi (n d:Nat):zd5 (digs d n)=d%10^n:=by
 induction n generalizing d with
 | zero=>simp[digs,zd5,Nat.mod_one]
 | succ n ih=>
  rw[zap,zi3,ih,vh,Nat.pow_zero,Nat.div_one];rw[Nat.pow_succ,Nat.mul_comm (10^n) 10,Nat.mod_mul];omega
theorem uq (l:List UInt8) (N n:Nat) (h:l.take n=digs N n) (i:Nat) (hi:i<n):l.getD i 0=Lib.dg N (n-1-i):=by
 have h1:(l.take n).getD i 0=(digs N n).getD i 0:=by rw[h]
 have h2:(digs N n).getD i 0=Lib.dg N (n-1-i):=by
  rw[List.getD_eq_getElem?_getD,List.getElem?_eq_getElem (by rw[va];exact hi)];simp[digs]
 rw[<-h2,<-h1,List.getD_eq_getElem?_getD,List.getD_eq_getElem?_getD,List.getElem?_take,if_pos hi]
def tz (M:Nat):Nat:=if M%10=0/\M≠0 then tz (M / 10)+1 else 0
termination_by M
decreasing_by omega
def zga (M:Nat):Nat:=M / 10^tz M
theorem zmi {M:Nat} (h:M%10=0) (h0:M≠0):tz M=tz (M / 10)+1:=by rw[tz,if_pos ⟨h,h0⟩]
theorem ztd {M:Nat} (h:M%10≠0):tz M=0:=by rw[tz,if_neg (fun e=>h e.1)]
theorem zf3 {M:Nat} (h:M%10=0) (h0:M≠0):zga M=zga (M / 10):=by
 unfold zga;rw[zmi h h0,Nat.pow_succ,Nat.mul_comm,Nat.div_div_eq_div_mul]
theorem zi8 {M:Nat} (h:M%10≠0):zga M=M:=by unfold zga;rw[ztd h];simp
theorem zar (M:Nat) (h0:M≠0):zga M*10^tz M=M/\zga M%10≠0:=by
 induction M using Nat.strongRecOn with
 | _ M ih=>
  by_cases h:M%10=0
  ·have h1:=ih (M / 10) zd zd;rw[zf3 h h0,zmi h h0,Nat.pow_succ,<-Nat.mul_assoc,h1.1];exact⟨zd,h1.2⟩
  ·rw[zi8 h,ztd h];simp;omega
theorem zpc (M:Nat) (h0:M≠0):zga M≠0:=by
 have:=(zar M h0).2;intro e;rw[e]at this;simp at this
theorem yod {A B a b:Nat} (h:A*10^a=B*10^b) (hA:A%10≠0) (hB:B%10≠0):A=B/\a=b:=by
 induction a generalizing b with
 | zero=>
  cases b with
  | zero=>simp at h;exact⟨h,rfl⟩
  | succ b=>rw[Nat.pow_zero,Nat.mul_one,Nat.pow_succ,<-Nat.mul_assoc]at h;omega
 | succ a ih=>
  cases b with
  | zero=>rw[Nat.pow_zero,Nat.mul_one,Nat.pow_succ,<-Nat.mul_assoc]at h;omega
  | succ b=>
   rw[Nat.pow_succ,Nat.pow_succ,<-Nat.mul_assoc,<-Nat.mul_assoc]at h;have:=ih (Nat.eq_of_mul_eq_mul_right zd h);exact⟨this.1,by rw[this.2]⟩
theorem yme {A a M:Nat} (h:A*10^a=M) (hA:A%10≠0):zga M=A/\tz M=a:=by
 have h0:M≠0:=by
  rw[<-h];exact Nat.mul_ne_zero (by intro e;rw[e]at hA;simp at hA) (Nat.ne_of_gt (Nat.pow_pos zd))
 have:=zar M h0;exact yod (this.1.trans h.symm) this.2 hA
theorem znx (M:Nat) (h0:M≠0):yi (zga M)+tz M=yi M:=by
 induction M using Nat.strongRecOn with
 | _ M ih=>
  by_cases h:M%10=0
  ·have h1:=ih (M / 10) zd zd;have h2:=za3 (d:=M / 10) zd;rw[show M / 10*10=M by omega]at h2;rw[zf3 h h0,zmi h h0];omega
  ·rw[zi8 h,ztd h,Nat.add_zero]
theorem zdo (M:Nat):Lib.dg M 0=48↔M%10=0:=by
 have:=vh M 0;rw[Nat.pow_zero,Nat.div_one]at this;constructor
 ·intro e;rw[e]at this;have h:(48:UInt8).toNat=48:=by decide
  omega
 ·intro e;apply UInt8.toNat_inj.1;rw[this,e];rfl
theorem zbj (l:List UInt8) (M n:Nat) (h:l.take (n+1)=digs M (n+1)):l.take n=digs (M / 10) n/\l.getD n 0=Lib.dg M 0:=by
 constructor
 ·have h1:(l.take (n+1)).take n=(digs M (n+1)).take n:=by rw[h]
  rw[List.take_take,Nat.min_eq_left zd,zap,List.take_append_of_le_length (by rw[va];omega),List.take_of_length_le (l:=digs (M / 10) n) (by rw[va];omega)]at h1;exact h1
 ·have:=uq l M (n+1) h n zd;rw[this];congr 1;omega
theorem zk3 (bs:List UInt8) (M:Nat) (h0:M≠0) (h:bs.take (yi M)=digs M (yi M)):
  uc bs (yi M)=yi (zga M)/\bs.take (yi (zga M))=digs (zga M) (yi (zga M)):=by
 induction M using Nat.strongRecOn with
 | _ M ih=>
  obtain⟨n,hn⟩:∃ n,yi M=n+1:=⟨yi M-1,by have:=yfr h0;omega⟩;by_cases hz:M%10=0
  ·have h2:=za3 (d:=M / 10) zd;rw[show M / 10*10=M by omega,hn]at h2;have h3:yi (M / 10)=n:=zd;rw[hn]at h;have h4:=zbj bs M n h;have h1:=ih (M / 10) zd zd (by rw[h3];exact h4.1);rw[zf3 hz h0,hn,uc,if_pos (by rw[h4.2,zdo];exact hz),<-h3];exact h1
  ·rw[zi8 hz];refine⟨?_,h⟩;rw[hn]at h ⊢;have h4:=zbj bs M n h;rw[uc,if_neg (by rw[h4.2,zdo];exact hz)]
structure DecN (w:World) (g N:Nat) (p:Int) (ng:Bool):Prop where
 ne:N%10≠0
 dec:∃ bs,bs.take (yi N)=digs N (yi N)/\Dec w g bs (yi N:Nat) (p+yi N) ng false
def gEp (dp nd prec:Int) (sh:Bool):Int:=if sh then 6 else if nd<prec/\dp<=nd then nd else prec
def ykz (dp nd prec f:Int) (sh:Bool):Int×Int:=
 if f=103\/f=71 then
  if dp-1 < -4\/gEp dp nd prec sh<=dp-1 then ((if nd<prec then nd else prec)-1,f-2)
  else (max ((if dp<prec then nd else prec)-dp) 0,102)
 else (prec,f)
def eSign (neg:Bool):List UInt8:=if neg then [45] else []
def ykt (ds:List UInt8) (pr:Int):List UInt8:=
 if 0<pr then 46::((ds.drop 1).take pr.toNat++List.replicate (pr.toNat-((ds.drop 1).take pr.toNat).length) 48) else []
def ynz (ds:List UInt8) (dp:Int):Int:=if ds=[] then 0 else dp-1
def expL (e:Int):List UInt8:=
 (if e<0 then 45 else 43)::(if e.natAbs<10 then [48,UInt8.ofNat (48+e.natAbs)] else if e.natAbs<100 then [UInt8.ofNat (48+e.natAbs / 10),UInt8.ofNat (48+e.natAbs%10)]
  else [UInt8.ofNat (48+e.natAbs / 100),UInt8.ofNat (48+e.natAbs / 10%10),UInt8.ofNat (48+e.natAbs%10)])
def ymm (neg:Bool) (ds:List UInt8) (dp pr f:Int):List UInt8:=eSign neg++([ds.headD 48]++(ykt ds pr++([UInt8.ofNat f.toNat]++expL (ynz ds dp))))
def ylj (ds:List UInt8) (dp:Int):List UInt8:=if 0<dp then ds.take dp.toNat++List.replicate (dp.toNat-ds.length) 48 else [48]
def fLz (dp pr:Int):Int:=min pr (max 0 (-dp))
def fM (nd dp pr:Int):Int:=min (pr-fLz dp pr) (max 0 (nd-(dp+fLz dp pr)))
def ymc (ds:List UInt8) (dp pr:Int):List UInt8:=
 if 0<pr then 46::(List.replicate (fLz dp pr).toNat 48++((ds.drop (dp+fLz dp pr).toNat).take (fM ds.length dp pr).toNat++List.replicate (max 0 (pr-fLz dp pr-fM ds.length dp pr)).toNat 48)) else []
def yn1 (neg:Bool) (ds:List UInt8) (dp pr:Int):List UInt8:=eSign neg++(ylj ds dp++ymc ds dp pr)
def ymh (neg:Bool) (ds:List UInt8) (dp pr f:Int):List UInt8:=
 if f=101\/f=69 then ymm neg ds dp pr f else if f=102 then yn1 neg ds dp pr else [37,UInt8.ofNat f.toNat]
def yly (m:Nat) (e:Int):Nat×Int:=if m=0 then (0,e) else (m*2^(60-m.log2),e-((60-m.log2:Nat):Int))
theorem yog {m j mj:Nat} {e:Int} (h:mj=m*2^j) (hj:j<=60) (h1:mj<2^61) (hz:mj=0\/1152921504606846976<=mj) (h0:m=0->j=0):yly m e=(mj,e-(j:Int)):=by
 unfold yly;by_cases hm:m=0
 ·rw[if_pos hm];rw[h0 hm,h,hm];simp
 ·rw[if_neg hm];have hp:0<2^j:=Nat.two_pow_pos j;have hmj:2^60<=mj:=by
   rcases hz with h2 | h2
   ·rw[h2]at h;have:=Nat.mul_eq_zero.1 h.symm;omega
   ·exact h2
  have hlog:m.log2=60-j:=by
   rw[Nat.log2_eq_iff hm];constructor
   ·refine Nat.le_of_mul_le_mul_right ?_ hp;rw[<-Nat.pow_add,<-h,show 60-j+j=60 by omega];exact hmj
   ·refine Nat.lt_of_mul_lt_mul_right (a:=2^j) ?_;rw[<-Nat.pow_add,<-h,show 60-j+1+j=61 by omega];exact h1
  rw[hlog,show 60-(60-j)=j by omega,h]
def ymp (prec:Int) (m:Nat) (e:Int):Nat×Int:=
 if 0<=prec/\prec<15 then
  let s:=prec.toNat*4
  let q:=m / 2^(60-s)
  let r:=(if 576460752303423488<(m*2^s%2^60|||q%2) then q+1 else q)*2^(60-s)
  if r / 2^61%2=0 then (r,e) else (r / 2,e+1)
 else (m,e)
theorem yo8 (prec:Int) (m:Nat) (e:Int) (hm:m<2305843009213693952):(ymp prec m e).1<4611686018427387904/\e<=(ymp prec m e).2/\(ymp prec m e).2<=e+1:=by
 unfold ymp;split
 ·dsimp only;have hpp:0<2^(60-prec.toNat*4):=Nat.two_pow_pos _;have h1:m / 2^(60-prec.toNat*4)*2^(60-prec.toNat*4)<=m:=Nat.div_mul_le_self _ _;have h2:2^(60-prec.toNat*4)<=2^60:=Nat.pow_le_pow_right zd zd;have h3:(if 576460752303423488<(m*2^(prec.toNat*4)%2^60|||m / 2^(60-prec.toNat*4)%2) then m / 2^(60-prec.toNat*4)+1 else m / 2^(60-prec.toNat*4))*2^(60-prec.toNat*4)<4611686018427387904:=by
   split
   ·rw[Nat.add_mul,Nat.one_mul];omega
   ·omega
  generalize (if 576460752303423488<(m*2^(prec.toNat*4)%2^60|||m / 2^(60-prec.toNat*4)%2) then m / 2^(60-prec.toNat*4)+1 else m / 2^(60-prec.toNat*4))*2^(60-prec.toNat*4)=r at h3 ⊢;split <;> (refine⟨?_,?_,?_⟩ <;> (try dsimp only) <;> omega)
 ·(try dsimp only);omega
def ymg (up:Bool):ByteArray:=if up then { data:=#[48,49,50,51,52,53,54,55,56,57,65,66,67,68,69,70] } else { data:=#[48,49,50,51,52,53,54,55,56,57,97,98,99,100,101,102] }
def ymk (up:Bool) (d:Nat):UInt8:=if h:d<(ymg up).size then (ymg up)[d] else 0
def ynd (up:Bool):Nat->Nat->List UInt8
 | 0,_=>[]
 | k+1,m=>if m=0 then [] else ymk up (m / 2^60%16)::ynd up k (m*16%2^64)
def ynv (up:Bool):Nat->Nat->List UInt8
 | 0,_=>[]
 | k+1,m=>ymk up (m / 2^60%16)::ynv up k (m*16%2^64)
def xExp (e:Int):List UInt8:=
 (if e<0 then 45 else 43)::(if e.natAbs<100 then [UInt8.ofNat (48+e.natAbs / 10),UInt8.ofNat (48+e.natAbs%10)]
  else if e.natAbs<1000 then [UInt8.ofNat (48+e.natAbs / 100),UInt8.ofNat (48+e.natAbs / 10%10),UInt8.ofNat (48+e.natAbs%10)]
  else [UInt8.ofNat (48+e.natAbs / 1000),UInt8.ofNat (48+e.natAbs / 100%10),UInt8.ofNat (48+e.natAbs / 10%10),UInt8.ofNat (48+e.natAbs%10)])
def yky (up:Bool) (prec:Int) (m:Nat):List UInt8:=
 if prec<0/\m≠0 then 46::ynd up 16 m else if 0<prec then 46::ynv up prec.toNat m else []
def ymz (prec:Int) (m mb:Nat) (e:Int):Nat×Int:=ymp prec (yly (m*2^(60-mb)) (if m=0 then 0 else e)).1 (yly (m*2^(60-mb)) (if m=0 then 0 else e)).2
def xL (neg:Bool) (prec f:Int) (m mb:Nat) (e:Int):List UInt8:=
 eSign neg++([48,UInt8.ofNat f.toNat,UInt8.ofNat (48+(ymz prec m mb e).1 / 2^60%2)]++(yky (f==88) prec ((ymz prec m mb e).1*16%2^64)++([if f=88 then 80 else 112]++xExp (ymz prec m mb e).2)))
set_option maxRecDepth 100000 in
theorem yw1 (T:Nat) (neg sh:Bool) (dst s:Value) (ds:List UInt8) (dp nd pr:Int) (xs:List UInt8) (w:World) (he:Env T w) (hown:OwnB T w dst xs) (hdig:Dig w dst s ds) (hnd:nd=(ds.length:Int)) (hds:ds≠[]) (hpr:pr=nd-1)
  (hx:xs.length≤140737489000000) (hd1:-900≤dp) (hd2:dp≤900) (hn2:nd≤800):
  Calls Tryz.prog 88 #[dst,.bool neg,s,.int .i64 dp,.int .i64 nd,.int .i64 pr,.int .u8 101,.bool sh] w fun e w'=>
   ∃ v',e=.returned v'∧OwnB T w' v' (xs++ymm neg ds dp pr 101)∧Stp w dst w' v':=by
 have hlp:0<ds.length:=List.length_pos_iff.2 hds
 have hn1:1≤nd:=by omega
 have HND:=Lib.hid hnd
 have HNE:=Lib.hid hds
 have HPR:=Lib.hid hpr
 have hap:=Ap.start hown he hdig
 have hpr0:0≤pr:=by omega
 have hpr2:pr≤800:=by omega
 clear hnd hown he hdig hds hpr
 refine ye Tryz.func88 rfl (by rw[Tryz.ntmps88];simp) ?_
 intro σ hσ
 rw[Tryz.ntmps88]
 have s0:σ 0=dst:=hσ 0 (by simp)
 have s1:σ 1=.bool neg:=hσ 1 (by simp)
 have s2:σ 2=s:=hσ 2 (by simp)
 have s3:σ 3=.int .i64 dp:=hσ 3 (by simp)
 have s4:σ 4=.int .i64 nd:=hσ 4 (by simp)
 have s5:σ 5=.int .i64 pr:=hσ 5 (by simp)
 have s6:σ 6=.int .u8 101:=hσ 6 (by simp)
 have s7:σ 7=.bool sh:=hσ 7 (by simp)
 clear hσ
 ((repeat (go_wp2_with fail;first | (refine jq ?hc (by decide) ?_;(case hc=>(simp[ov, *];done))) | (refine kj ?hc (by decide) ?_;(case hc=>(simp[ov, *];done)))));go_wp2_with fail)
 refine yr (fun s' w'=>∃ v,s' 0=v∧Ap T w dst s ds w' v (xs++eSign neg)∧s' 2=s∧s' 3=.int .i64 dp∧s' 4=.int .i64 nd∧s' 5=.int .i64 pr∧s' 6=.int .u8 101) ?_ ?_
 ·intro R' K' HR hK'
  refine zb0 neg (by simp[ov, *]) (by decide) (fun h=>?_) (fun h=>?_)
  ·subst h
   go_wp2_with (at_builtin;refine zch rfl _ _ _ _ rfl (by decide) (by decide) zsw (hap.own.alloc _) (by simp[ov, *]) _ (by simp[ov, *]) [45] (zmx Tryz.underlying100 [45] _) (by simp only[List.length_append,List.length_cons,List.length_nil,List.length_replicate]at *;omega) ?_;intro v w' ho1 hs1;replace hap:=hap.step ho1 hs1;clear ho1 hs1)
   exact got HR ⟨v,by simp[ov, *],hap,by simp[ov, *],by simp[ov, *],by simp[ov, *],by simp[ov, *],by simp[ov, *]⟩
  ·subst h
   go_wp2_with fail
   exact got HR ⟨dst,by simp[ov, *],hap.to (by simp[eSign]),by simp[ov, *],by simp[ov, *],by simp[ov, *],by simp[ov, *],by simp[ov, *]⟩
 clear s0 s1 s2 s3 s4 s5 s6 s7 σ hap
 rintro σ w1 ⟨v1,s0,hap,s2,s3,s4,s5,s6⟩
 have hsl:(eSign neg).length≤1:=by cases neg <;> simp[eSign]
 obtain⟨sg,hsg⟩:∃ sg,eSign neg=sg:=⟨_,rfl⟩
 rw[hsg]at hap hsl
 obtain⟨c0,hc0⟩:∃ c0,ds.headD 48=c0:=⟨_,rfl⟩
 have HSG:=Lib.hid hsg
 have HC0:=Lib.hid hc0
 clear hsg hc0
 go_wp2_with fail
 refine yr (fun s' w'=>s' 0=v1∧s' 2=s∧s' 3=.int .i64 dp∧s' 4=.int .i64 nd∧s' 5=.int .i64 pr∧s' 6=.int .u8 101∧s' 19=.int .u8 (c0.toNat:Int)∧w1=w') ?_ ?_
 ·intro R' K' HR hK'
  have hn0:(nd != 0)=true:=by rw[HND.out,bne_iff_ne];omega
  obtain⟨g,L,c,hs,hL1,hL2,hL3,hcell⟩:=hap.dig.at 0 hlp
  have hc:ds.getD 0 0=c0:=by
   rw[←HC0.out];cases ds with
   | nil=>exact absurd rfl HNE.out
   | cons a l=>rfl
  rw[hc]at hcell
  unfold zkm at hcell
  rw[hs]at s2
  have HS:=Lib.hid hs
  have hL0:0<L:=by omega
  clear hc hs
  ((repeat (go_wp2_with fail;first | (refine jq ?hc (by decide) ?_;(case hc=>(simp[ov, *];done))) | (refine kj ?hc (by decide) ?_;(case hc=>(simp[ov, *];done)))));go_wp2_with fail)
  exact got HR (by simp[yc,yd,HS.out, *])
 clear s0 s2 s3 s4 s5 s6 σ
 rintro σ w' ⟨s0,s2,s3,s4,s5,s6,s19,rfl⟩
 go_wp2_with (at_builtin;refine zch rfl _ _ _ _ rfl (by decide) (by decide) zsw (hap.own.alloc _) (by simp[ov, *]) _ (by simp[ov, *]) [c0] (zmx Tryz.underlying100 [c0] _) (by simp only[List.length_append,List.length_cons,List.length_nil,List.length_replicate]at *;omega) ?_;intro v w' ho1 hs1;replace hap:=hap.step ho1 hs1;clear ho1 hs1)
 refine yr (fun s' w'=>∃ v,s' 0=v∧Ap T w dst s ds w' v (xs++sg++[c0]++ykt ds pr)∧s' 3=.int .i64 dp∧s' 4=.int .i64 nd∧s' 6=.int .u8 101) ?_ ?_
 ·intro R' K' HR hK'
  by_cases hp:0<pr
  ·obtain⟨tk,htk⟩:∃ tk,(ds.drop 1).take pr.toNat=tk:=⟨_,rfl⟩
   have htl:tk.length=min (ds.length-1) pr.toNat:=by rw[←htk,List.length_take,List.length_drop,Nat.min_comm]
   have hfr:ykt ds pr=[46]++(tk++List.replicate (pr.toNat-tk.length) 48):=by
    unfold ykt;rw[if_pos hp,htk];rfl
   have HFR:=Lib.hid hfr
   have HTK:=Lib.hid htk
   have HTL:=Lib.hid htl
   clear hfr htk htl
   refine jq (by simp[ov, *]) (by decide) ?_
   go_wp2_with (at_builtin;refine zch rfl _ _ _ _ rfl (by decide) (by decide) zsw (hap.own.alloc _) (by simp[ov, *]) _ (by simp[ov, *]) [46] (zmx Tryz.underlying100 [46] _) (by simp only[List.length_append,List.length_cons,List.length_nil,List.length_replicate]at *;omega) ?_;intro v w' ho1 hs1;replace hap:=hap.step ho1 hs1;clear ho1 hs1)
   refine yr (fun s' w'=>∃ v,s' 0=v∧Ap T w dst s ds w' v (xs++sg++[c0]++[46]++tk)∧s' 3=.int .i64 dp∧s' 4=.int .i64 nd∧s' 5=.int .i64 pr∧s' 6=.int .u8 101∧s' 20=.int .i64 (1+(tk.length:Int))) ?_ ?_
   ·intro R2 K2 HR2 hK2
    by_cases hm:1<min nd (pr+1)
    ·have hnm:min nd (pr+1)=1+(tk.length:Int):=by rw[HTL.out,HND.out];rw[HND.out]at hm;omega
     have hlen:1+tk.length≤ds.length:=by rw[HTL.out];rw[HND.out]at hm;omega
     have hne:ds≠[]:=by intro e;rw[e]at hlen;simp at hlen
     obtain⟨g,L,c,hs,hL1,hL2,hL3,hsrc⟩:=hap.dig.piece (P:=Tryz.prog) (tx:=100) Tryz.underlying100 1 tk.length hlen hne
     have htk2:(ds.drop 1).take tk.length=tk:=by
      have:=HTK.out
      rw[←this,List.length_take,←List.take_take,List.take_length] <;> simp
     have hsrc2:=hsrc (c-1)
     rw[htk2]at hsrc2
     have HSRC:=Lib.hid hsrc2
     rw[hs]at s2
     have HS:=Lib.hid hs
     have htb:tk.length≤800:=by omega
     have hmc:(1:Int)+tk.length≤c:=by omega
     have hcne:¬c=1:=by omega
     have hm1:(1:Int)<1+tk.length:=by omega
     clear hsrc hsrc2 htk2 hs hne
     refine jq (by simp[ov, *]) (by decide) ?_
     go_wp2_with (at_builtin;refine zch rfl _ _ _ _ rfl (by decide) (by decide) zsw hap.own (by simp[ov, *]) _ (by simp[ov, *]) tk HSRC.out (by simp only[List.length_append,List.length_cons,List.length_nil,List.length_replicate]at *;omega) ?_;intro v w' ho1 hs1;replace hap:=hap.step0 ho1 hs1;clear ho1 hs1)
     exact got HR2 ⟨v,by simp[ov, *],hap,by simp[ov, *],by simp[ov, *],by simp[ov, *],by simp[ov, *],by simp[ov, *]⟩
    ·have hlen0:tk.length=0:=by rw[HTL.out];rw[HND.out]at hm;omega
     have htk0:tk=[]:=List.length_eq_zero_iff.1 hlen0
     have hm':decide (1<min nd (pr+1))=false:=by simpa using hm
     refine kj (by simp[ov, *]) (by decide) ?_
     go_wp2_with fail
     exact got HR2 ⟨v,by simp[ov, *],hap.to (by simp[htk0]),by simp[ov, *],by simp[ov, *],by simp[ov, *],by simp[ov, *],by simp[yc,yd,htk0]⟩
   clear s0 s2 s3 s4 s5 s6 s19 σ hap
   rintro σ w2 ⟨v2,s0,hap,s3,s4,s5,s6,s20⟩
   have htb:tk.length≤800:=by have:=HTL.out;rw[HND.out]at hn2;omega
   have htp:(tk.length:Int)≤pr:=by have:=HTL.out;omega
   obtain⟨N,hN⟩:∃ N:Nat,pr.toNat-tk.length=N:=⟨_,rfl⟩
   have hNi:pr+1-(1+(tk.length:Int))=(N:Int):=by omega
   have hN0:N=0:=by have h1:=HTL.out;have h2:=HPR.out;have h3:=HND.out;omega
   have HN:=Lib.hid hN
   have HN0:=Lib.hid hN0
   clear hN hN0
   go_wp2_with fail
   refine xx (fun k s' w'=>s' 0=v2∧s' 3=.int .i64 dp∧s' 4=.int .i64 nd∧s' 6=.int .u8 101∧s' 114=.int .i64 0∧s' 113=.int .i64 (N:Int)∧w2=w') 0 ⟨by simp[ov, *],by simp[ov, *],by simp[ov, *],by simp[ov, *],by simp[yc,yd],by simp[ov, *],rfl⟩ ?_
   clear s0 s3 s4 s5 s6 s20 σ
   rintro k σ wk ⟨s0,s3,s4,s6,sc,sl,rfl⟩ RK KK HRK hKK
   have hz:decide (0<N)=false:=by rw[HN0.out];rfl
   ((repeat (go_wp2_with fail;first | (refine jq ?hc (by decide) ?_;(case hc=>(simp[ov, *];done))) | (refine kj ?hc (by decide) ?_;(case hc=>(simp[ov, *];done)))));go_wp2_with fail)
   exact got HR ⟨v2,by simp[ov, *],hap.to (by rw[HFR.out,HN.out,HN0.out];simp),by simp[ov, *],by simp[ov, *],by simp[ov, *]⟩
  ·have hfr:ykt ds pr=[]:=by unfold ykt;rw[if_neg hp]
   have hp':decide (0<pr)=false:=by simpa using hp
   refine kj (by simp[ov, *]) (by decide) ?_
   go_wp2_with fail
   exact got HR ⟨v,by simp[ov, *],hap.to (by simp[hfr]),by simp[ov, *],by simp[ov, *],by simp[ov, *]⟩
 clear s0 s2 s3 s4 s5 s6 s19 σ hap
 rintro σ w2 ⟨v2,s0,hap,s3,s4,s6⟩
 have hfl:(ykt ds pr).length≤201900:=by
  unfold ykt;split
  ·simp only[List.length_cons,List.length_append,List.length_replicate,List.length_take,List.length_drop];omega
  ·simp
 obtain⟨fr,hfr⟩:∃ fr,ykt ds pr=fr:=⟨_,rfl⟩
 rw[hfr]at hap hfl
 have HFR:=Lib.hid hfr
 obtain⟨ex,hex⟩:∃ ex,ynz ds dp=ex:=⟨_,rfl⟩
 have hexb:-901≤ex∧ex≤899:=by rw[←hex];unfold ynz;split <;> omega
 have HEX:=Lib.hid hex
 clear hfr hex
 go_wp2_with (at_builtin;refine zch rfl _ _ _ _ rfl (by decide) (by decide) zsw (hap.own.alloc _) (by simp[ov, *]) _ (by simp[ov, *]) [UInt8.ofNat ((101:Int)).toNat] (ycc Tryz.underlying100 ((101:Int)) (by omega) (by omega) _) (by simp only[List.length_append,List.length_cons,List.length_nil,List.length_replicate]at *;omega) ?_;intro v w' ho1 hs1;replace hap:=hap.step ho1 hs1;clear ho1 hs1)
 refine yr (fun s' w2=>s' 0=v∧s' 22=.int .i64 ex∧w'=w2) ?_ ?_
 ·intro R' K' HR hK'
  have hn0:(nd==0)=false:=by rw[HND.out,beq_eq_false_iff_ne];omega
  have he0:ex=dp-1:=by rw[←HEX.out];unfold ynz;rw[if_neg HNE.out]
  ((repeat (go_wp2_with fail;first | (refine jq ?hc (by decide) ?_;(case hc=>(simp[ov, *];done))) | (refine kj ?hc (by decide) ?_;(case hc=>(simp[ov, *];done)))));go_wp2_with fail)
  exact got HR (by simp[ov, *])
 ((try clear s0);(try clear s1);(try clear s2);(try clear s3);(try clear s4);(try clear s5);(try clear s6);(try clear s7);(try clear s16);(try clear s17);(try clear s18);(try clear s19);(try clear s20);(try clear s21);(try clear s22);(try clear s23);(try clear s24);(try clear s25);(try clear s26);(try clear s27);(try clear s28);(try clear s29);(try clear s30);(try clear s36);(try clear s45);(try clear s56);(try clear s74);(try clear s75);(try clear σ))
 rintro σ w3 ⟨s0,s22,rfl⟩
 go_wp2_with fail
 obtain⟨a,ha⟩:∃ a:Nat,ex.natAbs=a:=⟨_,rfl⟩
 have hab:a≤901:=by omega
 obtain⟨sc,hsc⟩:∃ sc:Int,(if ex<0 then 45 else 43)=sc:=⟨_,rfl⟩
 have hsb:43≤sc∧sc≤45:=by rw[←hsc];split <;> omega
 have HA:=Lib.hid ha
 have HSC:=Lib.hid hsc
 clear ha hsc
 refine yr (fun s' w2=>s' 0=v∧s' 22=.int .i64 (a:Int)∧s' 19=.int .u8 sc∧w'=w2) ?_ ?_
 ·intro R' K' HR hK'
  by_cases hneg:ex<0
  ·have e1:-ex=(a:Int):=by have:=HA.out;omega
   have e2:sc=45:=by rw[←HSC.out,if_pos hneg]
   ((repeat (go_wp2_with fail;first | (refine jq ?hc (by decide) ?_;(case hc=>(simp[ov, *];done))) | (refine kj ?hc (by decide) ?_;(case hc=>(simp[ov, *];done)))));go_wp2_with fail)
   exact got HR (by simp[ov, *])
  ·have e1:ex=(a:Int):=by have:=HA.out;omega
   have e2:sc=43:=by rw[←HSC.out,if_neg hneg]
   have e3:decide (ex<0)=false:=by simpa using hneg
   ((repeat (go_wp2_with fail;first | (refine jq ?hc (by decide) ?_;(case hc=>(simp[ov, *];done))) | (refine kj ?hc (by decide) ?_;(case hc=>(simp[ov, *];done)))));go_wp2_with fail)
   exact got HR (by simp[ov, *])
 ((try clear s0);(try clear s1);(try clear s2);(try clear s3);(try clear s4);(try clear s5);(try clear s6);(try clear s7);(try clear s16);(try clear s17);(try clear s18);(try clear s19);(try clear s20);(try clear s21);(try clear s22);(try clear s23);(try clear s24);(try clear s25);(try clear s26);(try clear s27);(try clear s28);(try clear s29);(try clear s30);(try clear s36);(try clear s45);(try clear s56);(try clear s74);(try clear s75);(try clear σ))
 rintro σ w3 ⟨s0,s22,s19,rfl⟩
 have hsc2:sc=((if ex<0 then (45:UInt8) else 43).toNat:Int):=by rw[←HSC.out];split <;> rfl
 have HSC2:=Lib.hid hsc2
 clear hsc2
 have hfinal:∀ tl:List UInt8,(a<10→tl=[48,UInt8.ofNat (48+a)])→(¬a<10→a<100→tl=[UInt8.ofNat (48+a / 10),UInt8.ofNat (48+a%10)])→(¬a<100→tl=[UInt8.ofNat (48+a / 100),UInt8.ofNat (48+a / 10%10),UInt8.ofNat (48+a%10)]) →
   xs++sg++[c0]++fr++[UInt8.ofNat (101:Int).toNat]++[UInt8.ofNat sc.toNat]++tl=xs++ymm neg ds dp pr 101:=by
  intro tl h1 h2 h3
  unfold ymm expL
  rw[HSG.out,HC0.out,HFR.out,HEX.out,HA.out]
  have:UInt8.ofNat sc.toNat=if ex<0 then 45 else 43:=by rw[HSC2.out];simp
  rw[this]
  by_cases g1:a<10
  ·rw[if_pos g1,h1 g1];simp
  ·rw[if_neg g1]
   by_cases g2:a<100
   ·rw[if_pos g2,h2 g1 g2];simp
   ·rw[if_neg g2,h3 g2];simp
 have HFINAL:=Lib.hid hfinal
 clear hfinal
 by_cases h10:a<10
 ·have h10i:(a:Int)<10:=by omega
  ((repeat (go_wp2_with (first | (at_builtin;refine zch rfl _ _ _ _ rfl (by decide) (by decide) zsw (hap.own.alloc _) (by simp[ov, *]) _ (by simp[ov, *]) [UInt8.ofNat (sc).toNat] (ycc Tryz.underlying100 (sc) (by omega) (by omega) _) (by simp only[List.length_append,List.length_cons,List.length_nil,List.length_replicate]at *;omega) ?_;intro v w' ho1 hs1;replace hap:=hap.step ho1 hs1;clear ho1 hs1) | (at_builtin;refine zch rfl _ _ _ _ rfl (by decide) (by decide) zsw (hap.own.alloc _) (by simp[ov, *]) _ (by simp[ov, *]) [UInt8.ofNat ((48:Int)).toNat,UInt8.ofNat ((a:Int)+48).toNat] (ykd Tryz.underlying100 ((48:Int)) ((a:Int)+48) (by omega) (by omega) (by omega) (by omega) _) (by simp only[List.length_append,List.length_cons,List.length_nil,List.length_replicate]at *;omega) ?_;intro v w' ho1 hs1;replace hap:=hap.step ho1 hs1;clear ho1 hs1));first | (refine jq ?hc (by decide) ?_;(case hc=>(simp[ov, *];done))) | (refine kj ?hc (by decide) ?_;(case hc=>(simp[ov, *];done)))));go_wp2_with (first | (at_builtin;refine zch rfl _ _ _ _ rfl (by decide) (by decide) zsw (hap.own.alloc _) (by simp[ov, *]) _ (by simp[ov, *]) [UInt8.ofNat (sc).toNat] (ycc Tryz.underlying100 (sc) (by omega) (by omega) _) (by simp only[List.length_append,List.length_cons,List.length_nil,List.length_replicate]at *;omega) ?_;intro v w' ho1 hs1;replace hap:=hap.step ho1 hs1;clear ho1 hs1) | (at_builtin;refine zch rfl _ _ _ _ rfl (by decide) (by decide) zsw (hap.own.alloc _) (by simp[ov, *]) _ (by simp[ov, *]) [UInt8.ofNat ((48:Int)).toNat,UInt8.ofNat ((a:Int)+48).toNat] (ykd Tryz.underlying100 ((48:Int)) ((a:Int)+48) (by omega) (by omega) (by omega) (by omega) _) (by simp only[List.length_append,List.length_cons,List.length_nil,List.length_replicate]at *;omega) ?_;intro v w' ho1 hs1;replace hap:=hap.step ho1 hs1;clear ho1 hs1)))
  refine yl v rfl (by decide) (by simp[yc]) ⟨v,rfl,?_,hap.stp⟩
  exact cast (congrArg (OwnB T w' v) (HFINAL.out _ (fun _=>by rw[show ((48:Int)).toNat=48 from rfl,show ((a:Int)+48).toNat=48+a by omega];rfl) (fun h=>absurd h10 h) (fun h=>absurd (by omega) h))) hap.own
 ·have h10':decide ((a:Int)<10)=false:=by simp;omega
  by_cases h100:a<100
  ·have h100i:(a:Int)<100:=by omega
   ((repeat (go_wp2_with (first | (at_builtin;refine zch rfl _ _ _ _ rfl (by decide) (by decide) zsw (hap.own.alloc _) (by simp[ov, *]) _ (by simp[ov, *]) [UInt8.ofNat (sc).toNat] (ycc Tryz.underlying100 (sc) (by omega) (by omega) _) (by simp only[List.length_append,List.length_cons,List.length_nil,List.length_replicate]at *;omega) ?_;intro v w' ho1 hs1;replace hap:=hap.step ho1 hs1;clear ho1 hs1) | (at_builtin;refine zch rfl _ _ _ _ rfl (by decide) (by decide) zsw (hap.own.alloc _) (by simp[ov, *]) _ (by simp[ov, *]) [UInt8.ofNat ((a:Int) / 10+48).toNat,UInt8.ofNat ((a:Int)%10+48).toNat] (ykd Tryz.underlying100 ((a:Int) / 10+48) ((a:Int)%10+48) (by omega) (by omega) (by omega) (by omega) _) (by simp only[List.length_append,List.length_cons,List.length_nil,List.length_replicate]at *;omega) ?_;intro v w' ho1 hs1;replace hap:=hap.step ho1 hs1;clear ho1 hs1));first | (refine jq ?hc (by decide) ?_;(case hc=>(simp[ov, *];done))) | (refine kj ?hc (by decide) ?_;(case hc=>(simp[ov, *];done)))));go_wp2_with (first | (at_builtin;refine zch rfl _ _ _ _ rfl (by decide) (by decide) zsw (hap.own.alloc _) (by simp[ov, *]) _ (by simp[ov, *]) [UInt8.ofNat (sc).toNat] (ycc Tryz.underlying100 (sc) (by omega) (by omega) _) (by simp only[List.length_append,List.length_cons,List.length_nil,List.length_replicate]at *;omega) ?_;intro v w' ho1 hs1;replace hap:=hap.step ho1 hs1;clear ho1 hs1) | (at_builtin;refine zch rfl _ _ _ _ rfl (by decide) (by decide) zsw (hap.own.alloc _) (by simp[ov, *]) _ (by simp[ov, *]) [UInt8.ofNat ((a:Int) / 10+48).toNat,UInt8.ofNat ((a:Int)%10+48).toNat] (ykd Tryz.underlying100 ((a:Int) / 10+48) ((a:Int)%10+48) (by omega) (by omega) (by omega) (by omega) _) (by simp only[List.length_append,List.length_cons,List.length_nil,List.length_replicate]at *;omega) ?_;intro v w' ho1 hs1;replace hap:=hap.step ho1 hs1;clear ho1 hs1)))
   refine yl v rfl (by decide) (by simp[yc]) ⟨v,rfl,?_,hap.stp⟩
   exact cast (congrArg (OwnB T w' v) (HFINAL.out _ (fun h=>absurd h h10) (fun _ _=>by rw[show ((a:Int) / 10+48).toNat=48+a / 10 by omega,show ((a:Int)%10+48).toNat=48+a%10 by omega]) (fun h=>absurd h100 h))) hap.own
  ·have h100':decide ((a:Int)<100)=false:=by simp;omega
   ((repeat (go_wp2_with (first | (at_builtin;refine zch rfl _ _ _ _ rfl (by decide) (by decide) zsw (hap.own.alloc _) (by simp[ov, *]) _ (by simp[ov, *]) [UInt8.ofNat (sc).toNat] (ycc Tryz.underlying100 (sc) (by omega) (by omega) _) (by simp only[List.length_append,List.length_cons,List.length_nil,List.length_replicate]at *;omega) ?_;intro v w' ho1 hs1;replace hap:=hap.step ho1 hs1;clear ho1 hs1) | (at_builtin;refine zch rfl _ _ _ _ rfl (by decide) (by decide) zsw (hap.own.alloc _) (by simp[ov, *]) _ (by simp[ov, *]) [UInt8.ofNat ((a:Int) / 100+48).toNat,UInt8.ofNat ((a:Int) / 10%10+48).toNat,UInt8.ofNat ((a:Int)%10+48).toNat] (yki Tryz.underlying100 ((a:Int) / 100+48) ((a:Int) / 10%10+48) ((a:Int)%10+48) (by omega) (by omega) (by omega) (by omega) (by omega) (by omega) _) (by simp only[List.length_append,List.length_cons,List.length_nil,List.length_replicate]at *;omega) ?_;intro v w' ho1 hs1;replace hap:=hap.step ho1 hs1;clear ho1 hs1));first | (refine jq ?hc (by decide) ?_;(case hc=>(simp[ov, *];done))) | (refine kj ?hc (by decide) ?_;(case hc=>(simp[ov, *];done)))));go_wp2_with (first | (at_builtin;refine zch rfl _ _ _ _ rfl (by decide) (by decide) zsw (hap.own.alloc _) (by simp[ov, *]) _ (by simp[ov, *]) [UInt8.ofNat (sc).toNat] (ycc Tryz.underlying100 (sc) (by omega) (by omega) _) (by simp only[List.length_append,List.length_cons,List.length_nil,List.length_replicate]at *;omega) ?_;intro v w' ho1 hs1;replace hap:=hap.step ho1 hs1;clear ho1 hs1) | (at_builtin;refine zch rfl _ _ _ _ rfl (by decide) (by decide) zsw (hap.own.alloc _) (by simp[ov, *]) _ (by simp[ov, *]) [UInt8.ofNat ((a:Int) / 100+48).toNat,UInt8.ofNat ((a:Int) / 10%10+48).toNat,UInt8.ofNat ((a:Int)%10+48).toNat] (yki Tryz.underlying100 ((a:Int) / 100+48) ((a:Int) / 10%10+48) ((a:Int)%10+48) (by omega) (by omega) (by omega) (by omega) (by omega) (by omega) _) (by simp only[List.length_append,List.length_cons,List.length_nil,List.length_replicate]at *;omega) ?_;intro v w' ho1 hs1;replace hap:=hap.step ho1 hs1;clear ho1 hs1)))
   refine yl v rfl (by decide) (by simp[yc]) ⟨v,rfl,?_,hap.stp⟩
   exact cast (congrArg (OwnB T w' v) (HFINAL.out _ (fun h=>absurd h h10) (fun _ h=>absurd h h100) (fun _=>by rw[show ((a:Int) / 100+48).toNat=48+a / 100 by omega,show ((a:Int) / 10%10+48).toNat=48+a / 10%10 by omega,show ((a:Int)%10+48).toNat=48+a%10 by omega]))) hap.own
end Go.Proofs.YtgfjdeddghbjcaaGreatDoor
