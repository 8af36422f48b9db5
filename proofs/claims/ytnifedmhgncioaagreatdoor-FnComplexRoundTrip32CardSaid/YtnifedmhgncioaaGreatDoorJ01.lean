/- Lemmas that the claim's top text leans on. No condition of their own. -/
import Derived.WalkSpells
import Derived.Deep.AppendSrc
import Derived.Deep.DeepAppendWide
import Derived.Deep.Upon
import Derived.Deep.QuietTactic
import Derived.Test.YtnifedmhgncioaaGreatDoorJ00
namespace Go.Proofs.YtnifedmhgncioaaGreatDoor
open Go.RowKit
set_option linter.unusedSimpArgs false
set_option linter.unusedVariables false
set_option maxHeartbeats 16000000
section
def Row (w:World) (g:Nat) (xs:List Value):Prop:=∃ e,w.heap[g]?=some (.cells xs.toArray e (0,0))
theorem Row.lt {w:World} {g:Nat} {xs:List Value} (h:Row w g xs):g<w.heap.size:=by
 obtain⟨e,h⟩:=h;rcases Nat.lt_or_ge g w.heap.size with h' | h'
 ·exact h'
 ·simp[Array.getElem?_eq_none h']at h
theorem Row.cell {w:World} {g:Nat} {xs:List Value} (h:Row w g xs) (i:Nat):w.cell? ⟨g,i,none⟩=xs[i]?:=by
 obtain⟨e,h⟩:=h;simp[World.cell?,h]
theorem Row.frozen {w:World} {g:Nat} {xs:List Value} (h:Row w g xs) (i:Nat):w.frozen? ⟨g,i,none⟩=false:=by
 obtain⟨e,h⟩:=h;simp[World.frozen?,h]
theorem Row.of_block {w w':World} {g:Nat} {xs:List Value} (h:Row w g xs) (hb:w'.heap[g]?=w.heap[g]?):Row w' g xs:=by
 obtain⟨e,h⟩:=h;exact⟨e,hb.trans h⟩
theorem Row.grown {w w':World} {row:Option Nat} {g:Nat} {xs:List Value} (h:Row w g xs) (hg:w.grownBy w' row) (hne:some g≠row):Row w' g xs:=
 h.of_block (hg.block g h.lt hne)
theorem Row.alloc {w:World} {g:Nat} {xs:List Value} (h:Row w g xs) (o:Obj):Row (w.alloc o) g xs:=
 h.of_block (Below.heap_alloc w o g h.lt)
theorem Row.drew {w:World} {g:Nat} {xs:List Value} (h:Row w g xs):Row w.drew g xs:=h
theorem Row.drewN {w:World} {g:Nat} {xs:List Value} (h:Row w g xs) (n:Nat):Row (w.drewN n) g xs:=by
 obtain⟨e,h⟩:=h;exact⟨e,zI⟩
theorem Row.new (w:World) (xs:List Value) (e:TypeId):Row (w.alloc (.cells xs.toArray e)) w.heap.size xs:=
 ⟨e,by show (w.heap.push _)[w.heap.size]?=_;simp⟩
theorem Row.setCell {w:World} {g:Nat} {xs:List Value} (h:Row w g xs) (i:Nat) (u:Value):Row (w.setCell ⟨g,i,none⟩ u) g (xs.set i u):=by
 obtain⟨e,h⟩:=h;refine⟨e,?_⟩;simp only[World.setCell,Array.getElem?_modify,h];simp
theorem Row.setCell_other {w:World} {g:Nat} {xs:List Value} (h:Row w g xs) {a:Addr} (hne:g≠a.block) (u:Value):Row (w.setCell a u) g xs:=
 h.of_block (Below.heap_setCell w a u g hne)
theorem Row.setCells {g:Nat} (news:List Value):∀ {pre mid post:List Value} {w:World},Row w g (pre++(mid++post))->mid.length=news.length ->
  Row (w.setCells g pre.length news) g (pre++(news++post)):=by
 induction news with
 | nil=>intro pre mid post w h hl;cases mid with
  | nil=>exact h
  | cons=>simp at hl
 | cons u r ih=>
  intro pre mid post w h hl;cases mid with
  | nil=>simp at hl
  | cons m ms=>
   have h1:=h.setCell pre.length u;have e1:(pre++(m::ms++post)).set pre.length u=(pre++[u])++(ms++post):=by
    rw[List.set_append_right _ _ (Nat.le_refl _)];simp
   rw[e1]at h1;have h2:=ih (pre:=pre++[u]) (mid:=ms) (post:=post) (w:=w.setCell ⟨g,pre.length,none⟩ u) h1 (by simpa using hl);have e2:(pre++[u]).length=pre.length+1:=zi;rw[e2]at h2;have e3:pre++[u]++(r++post)=pre++(u::r++post):=zi;rw[e3]at h2;exact h2
def Own (w:World) (v:Value) (xs:List Value):Prop:=
 ∃ g rest,v=.slice (some ⟨g,0,none⟩) xs.length (xs.length+rest.length)/\Row w g (xs++rest)/\xs.length+rest.length<=maxLen
def Stp (w:World) (v:Value) (w':World) (v':Value):Prop:=
 w.grownBy w' v.ownBlock/\∀ k,v'.ownBlock=some k->k<w.heap.size->v.ownBlock=some k
theorem yy (w:World) (row:Option Nat):w.grownBy w row:=⟨rfl,rfl,rfl,Nat.le_refl _,fun _ _ _=>rfl⟩
theorem yx {w w1 w2:World} {row row1:Option Nat} (h:w.grownBy w1 row) (k:w1.grownBy w2 row1) (hr:∀ j,row1=some j->j<w.heap.size->row=some j):w.grownBy w2 row:=
 ⟨k.os.trans h.os,k.tape.trans h.tape,k.output.trans h.output,Nat.le_trans h.size k.size,fun j hj hne=>
  (k.block j (Nat.lt_of_lt_of_le hj h.size) (fun e=>hne (hr j e.symm hj).symm)).trans (h.block j hj hne)⟩
theorem yh (w:World) (n:Nat) (row:Option Nat):w.grownBy (w.drewN n) row:=⟨rfl,rfl,rfl,Nat.le_refl _,fun _ _ _=>rfl⟩
theorem Stp.refl (w:World) (v:Value):Stp w v w v:=⟨yy w _,fun _ h _=>h⟩
theorem Stp.trans {w w1 w2:World} {v v1 v2:Value} (h:Stp w v w1 v1) (k:Stp w1 v1 w2 v2):Stp w v w2 v2:=
 ⟨yx h.1 k.1 h.2,fun j hj hlt=>h.2 j (k.2 j hj (Nat.lt_of_lt_of_le hlt h.1.size)) hlt⟩
theorem Stp.alloc {w w1:World} {v v1:Value} (h:Stp w v w1 v1) (o:Obj):Stp w v (w1.alloc o) v1:=
 h.trans ⟨World.grownBy_alloc w1 o _,fun _ e _=>e⟩
theorem Stp.drewN {w w1:World} {v v1:Value} (h:Stp w v w1 v1) (n:Nat):Stp w v (w1.drewN n) v1:=
 h.trans ⟨yh w1 n _,fun _ e _=>e⟩
theorem Stp.row {w w1:World} {v v1:Value} (h:Stp w v w1 v1) {g:Nat} {xs:List Value} (hr:Row w g xs) (hne:v.ownBlock≠some g):Row w1 g xs/\v1.ownBlock≠some g:=
 ⟨hr.grown h.1 (fun e=>hne e.symm),fun e=>hne (h.2 g e hr.lt)⟩
theorem Own.alloc {w:World} {v:Value} {xs:List Value} (h:Own w v xs) (o:Obj):Own (w.alloc o) v xs:=by
 obtain⟨g,rest,hv,hr,hm⟩:=h;exact⟨g,rest,hv,hr.alloc o,hm⟩
theorem Own.drewN {w:World} {v:Value} {xs:List Value} (h:Own w v xs) (n:Nat):Own (w.drewN n) v xs:=by
 obtain⟨g,rest,hv,hr,hm⟩:=h;exact⟨g,rest,hv,hr.drewN n,hm⟩
theorem Own.grown {w w':World} {row:Option Nat} {v:Value} {xs:List Value} (h:Own w v xs) (hg:w.grownBy w' row) (hne:v.ownBlock≠row):Own w' v xs:=by
 obtain⟨g,rest,rfl,hr,hm⟩:=h;exact⟨g,rest,rfl,hr.grown hg hne,hm⟩
theorem Own.lt {w:World} {v:Value} {xs:List Value} (h:Own w v xs):∀ k,v.ownBlock=some k->k<w.heap.size:=by
 obtain⟨g,rest,rfl,hr,hm⟩:=h;intro k hk;simp[Value.ownBlock]at hk;subst hk;exact hr.lt
theorem Own.ne_of_ge {w:World} {v:Value} {xs:List Value} (h:Own w v xs) {k:Nat} (hk:w.heap.size<=k):v.ownBlock≠some k:=fun e=>by
 have:=h.lt k e;omega
theorem jz (g:Nat):∀ (news:List Value) (o:Nat) (w:World),(w.setCells g o news).tape=w.tape
 | [],_,_=>rfl
 | _::r,o,_=>jz g r (o+1) _
theorem zaa (g:Nat):∀ (news:List Value) (o:Nat) (w:World),(w.setCells g o news).heap.size=w.heap.size
 | [],_,_=>rfl
 | _::r,o,_=>(zaa g r (o+1) _).trans (by simp[World.setCell])
section
variable {P : Program}
theorem ql (w:World) (t tx ty e:TypeId) (i:TypeInfo) (z:Value) (ht:P.underlying t=some (.slice e)) (hi:P.info? e=some i) (hz:i.zero=some z) (hsz:i.size=1) (hzs:z.cells.size=1)
  (v:Value) (xs:List Value) (hown:Own w v xs) (x:Value) (n:Nat) (news:List Value) (hs:Src P 1 tx x n news w)
  (hb:(xs.length+n+(xs.length+n) / 4+192)*i.bytes<=281474976710656) (hbp:0<i.bytes):
  ∃ v' w',(Builtin.append_ #[t,tx] ty #[v,x]).run P w=.ok v' w'/\Own w' v' (xs++news)/\Stp w v w' v':=by
 obtain⟨g,rest,rfl,hr,hm⟩:=hown;have hnl:news.length=n:=by have:=hs.newsLen;omega
 have hbb:xs.length+n+(xs.length+n) / 4+192<=281474976710656:=Nat.le_trans (Nat.le_mul_of_pos_right _ hbp) hb;have hs':Src P i.size tx x n news w:=by rw[hsz];exact hs
 by_cases hroom:xs.length+n<=xs.length+rest.length
 ·have hrun:=run_append_room_src (P:=P) w t tx ty e i ht hi g 0 xs.length (xs.length+rest.length) x n news hs' hroom
   (fun j hj=>by rw[hsz,hr.cell,List.getElem?_eq_getElem zh];rfl) (fun j hj=>hr.frozen _)
  rw[hsz,Nat.mul_one,Nat.zero_add]at hrun;refine⟨_,_,hrun,?_,?_⟩
  ·have hd:Row w g (xs++(rest.take n++rest.drop n)):=by rw[List.take_append_drop];exact hr
   have:=hd.setCells news zN;refine⟨g,rest.drop n,?_,by rw[List.append_assoc];exact this,?_⟩
   ·simp only[List.length_append,List.length_drop,hnl];congr 1;omega
   ·simp only[List.length_append,List.length_drop,hnl];omega
  ·refine⟨⟨World.os_setCells ..,?_,World.output_setCells ..,?_,fun k hk hne=>World.heap_setCells_other w g _ news hk (fun e=>hne (by simp[Value.ownBlock,e]))⟩,fun k hk _=>hk⟩
   ·exact jz g news _ w
   ·rw[zaa g news];exact Nat.le_refl _
 ·have holds:∀ j u,xs[j]?=some u->w.drew.cell? ((⟨g,0,none⟩:Addr).add j)=some u:=fun j u hj=>by
   have e:((⟨g,0,none⟩:Addr).add j)=⟨g,j,none⟩:=by
    unfold Addr.add;split
    ·subst_vars;rfl
    ·simp
   rw[e];have h1:w.drew.cell? ⟨g,j,none⟩=(xs++rest)[j]?:=hr.drew.cell j;rw[h1,List.getElem?_append_left (by rcases Nat.lt_or_ge j xs.length with h | h;exact h;simp[List.getElem?_eq_none h]at hj),hj]
  have hold:=run_firstCells_some (P:=P) w.drew i.size xs.length ⟨g,0,none⟩ xs.length (xs.length+rest.length) xs (by rw[hsz];omega) holds;have hrun:=run_append_grow_src (P:=P) w t tx ty e i z ht hi hz (some ⟨g,0,none⟩) xs.length (xs.length+rest.length) xs hold x n news hs' zd zd (growslice_fits_wide zd hb);have hge:=grownCap_ge w (xs.length+n) (xs.length+rest.length) e;have hle:=grownCap_le_maxLen w (xs.length+n) (xs.length+rest.length) e (by simp only[maxLen];omega);refine⟨_,_,hrun,?_,?_⟩
  ·generalize grownCap w (xs.length+n) (xs.length+rest.length) e=C at *
   refine⟨w.heap.size,(Builtin.zeroCells z.cells (C-(xs.length+n))).toList,?_,?_,?_⟩
   ·simp only[List.length_append,Array.length_toList,size_zeroCells,hzs,hnl];congr 1;omega
   ·have:=Row.new w.drew ((xs++news)++(Builtin.zeroCells z.cells (C-(xs.length+n))).toList) e;refine this.of_block ?_;congr 4;apply Array.ext';simp
   ·simp only[List.length_append,Array.length_toList,size_zeroCells,hzs,hnl];omega
  ·refine⟨⟨rfl,rfl,rfl,zi,fun k hk _=>Below.heap_alloc w.drew _ k hk⟩,fun k hk hlt=>?_⟩;simp[Value.ownBlock]at hk;omega
end
end
def vb (c:UInt8):UInt8:=if 65<=c.toNat/\c.toNat<=90 then UInt8.ofNat (c.toNat+32) else c
def xf (s:List UInt8):List UInt8:=s.map vb
def dig (b:Nat) (c:UInt8):Option Nat:=
 if 48<=c.toNat/\c.toNat<=57 then some (c.toNat-48) else if (97<=c.toNat/\c.toNat<=102)/\b=16 then some (c.toNat-87) else none
def isD (b:Nat) (c:UInt8):Bool:=(dig b c).isSome
def yft (b:Nat):List UInt8->Nat
 | []=>0
 | [c]=>if isD b c then 1 else 0
 | c::d::r=>if isD b c then 1+yft b (d::r) else if c=95/\isD b d=true then 2+yft b r else 0
def jh (b:Nat):List UInt8->Nat
 | []=>0
 | c::r=>if isD b c then 1+yft b r else 0
theorem zjt (b:Nat) (c:UInt8) (r:List UInt8) (h:isD b c=true):yft b (c::r)=1+yft b r:=by
 cases r with
 | nil=>simp[yft,h]
 | cons d r=>rw[yft,if_pos h]
theorem zd9 (b:Nat) (d:UInt8) (r:List UInt8) (h:isD b 95=false) (hd:isD b d=true):yft b (95::d::r)=2+yft b r:=by
 rw[yft,if_neg (by rw[h];simp),if_pos ⟨rfl,hd⟩]
theorem ja (b:Nat):isD b 95=false:=by
 unfold isD dig;rw[if_neg ze,if_neg (by rintro⟨h,_⟩;revert h;decide)];rfl
theorem zaz (b:Nat) (c:UInt8) (r:List UInt8) (h:isD b c=false) (h2:∀ d r',r=d::r'->¬(c=95/\isD b d=true)):yft b (c::r)=0:=by
 cases r with
 | nil=>simp[yft,h]
 | cons d r=>rw[yft,if_neg (by rw[h];simp),if_neg (h2 d r rfl)]
def vp (b:Nat) (out:List Nat) (c:UInt8):List Nat:=match dig b c with
 | some d=>if 0<d\/out≠[] then out++[d] else out
 | none=>out
def dgL (b:Nat) (s:List UInt8):List Nat:=s.foldl (vp b) []
def zkq (b:Nat) (s:List UInt8):Nat:=s.countP (isD b)
theorem ua (s:List UInt8) (i:Nat) (h:i<s.length):s.drop i=s.getD i 0::s.drop (i+1):=by
 rw[List.drop_eq_getElem_cons h,List.getD_eq_getElem?_getD,List.getElem?_eq_getElem h];rfl
theorem zl5 (b:Nat) (out:List Nat) (c:UInt8):(vp b out c).length<=out.length+1:=by
 unfold vp;split
 ·split
  ·simp
  ·omega
 ·omega
theorem zf0 (b:Nat) (s:List UInt8):(dgL b s).length<=s.length:=by
 have key:∀ (l:List UInt8) (o:List Nat),(l.foldl (vp b) o).length<=o.length+l.length:=by
  intro l;induction l with
  | nil=>intro o;simp
  | cons c r ih=>intro o;rw[List.foldl_cons,List.length_cons];have:=ih (vp b o c);have:=zl5 b o c;omega
 have:=key s [];simpa[dgL]using this
theorem zpe (b:Nat) (s:List UInt8):zkq b s<=s.length:=List.countP_le_length
def ki (l:List Nat):Nat:=l.foldl (fun n d=>min (n*10+d) 1000000000000000) 0
def sgL:List UInt8->Bool×List UInt8
 | []=>(false,[])
 | x::r=>if x=43 then (false,r) else if x=45 then (true,r) else (false,x::r)
def zft (neg:Bool) (t:List UInt8):Option Int:=
 if t=[]\/jh 10 t≠t.length then none else some (if neg then -(ki (dgL 10 t):Int) else (ki (dgL 10 t):Int))
def jc (letter:UInt8):List UInt8->Option Int
 | []=>none
 | c::r=>if c≠letter then none else zft (sgL r).1 (sgL r).2
theorem zrp (l:List Nat):ki l<=1000000000000000:=by
 unfold ki;have key:∀ (l:List Nat) (n:Nat),n<=1000000000000000->l.foldl (fun n d=>min (n*10+d) 1000000000000000) n<=1000000000000000:=by
  intro l;induction l with
  | nil=>intro n h;exact h
  | cons d r ih=>intro n h;rw[List.foldl_cons];exact ih _ (Nat.min_le_right _ _)
 exact key l 0 zd 
def zd4 (s:List UInt8):Prop:=1<s.length/\s.getD 0 0=48/\s.getD 1 0=120
def zp5 (s:List UInt8):Prop:=3<s.length/\s.getD 2 0=95/\isD 16 (s.getD 3 0)=true
instance (s:List UInt8):Decidable (zd4 s):=by unfold zd4;infer_instance
instance (s:List UInt8):Decidable (zp5 s):=by unfold zp5;infer_instance
def wb (s:List UInt8):Nat:=if zd4 s then 16 else 10
def vy (s:List UInt8):Nat:=if zd4 s then (if zp5 s then 3 else 2) else 0
def nI1 (s:List UInt8):Nat:=vy s+jh (wb s) (s.drop (vy s))
def kl (s:List UInt8):List UInt8:=(s.drop (vy s)).take (jh (wb s) (s.drop (vy s)))
def nPt (s:List UInt8):Prop:=nI1 s<s.length/\s.getD (nI1 s) 0=46
instance (s:List UInt8):Decidable (nPt s):=by unfold nPt;infer_instance
def nI2 (s:List UInt8):Nat:=if nPt s then nI1 s+1+jh (wb s) (s.drop (nI1 s+1)) else nI1 s
def xz (s:List UInt8):List UInt8:=if nPt s then (s.drop (nI1 s+1)).take (jh (wb s) (s.drop (nI1 s+1))) else []
def nDigits (s:List UInt8):List Nat:=dgL (wb s) (kl s++xz s)
def za2 (s:List UInt8):UInt8:=if wb s=16 then 112 else 101
def zpy (s:List UInt8):Nat:=if wb s=16 then 4 else 1
def zpz (s:List UInt8):Option Int:=if nI2 s<s.length\/wb s=16 then jc (za2 s) (s.drop (nI2 s)) else some 0
def zf8 (s:List UInt8):Option Int:=if kl s=[]/\xz s=[] then none else (zpz s).map (fun x=>x-((zpy s*zkq (wb s) (xz s):Nat):Int))
theorem zcc (s:List UInt8):wb s=10\/wb s=16:=by unfold wb;split <;> simp
theorem zcb (s:List UInt8):vy s<=s.length:=by
 unfold vy;split
 ·rename_i h;split
  ·rename_i h2;have:=h2.1;omega
  ·have:=h.1;omega
 ·omega
structure Txt where
 kind:Int
 neg:Bool
 base:Nat
 digits:List Nat
 exp:Int
def zna (neg:Bool) (u:List UInt8):Option Txt:=
 if u=[105,110,102]\/u=[105,110,102,105,110,105,116,121] then some ⟨1,neg,0,[],0⟩
 else (zf8 u).map (fun x=>⟨0,neg,wb u,nDigits u,x⟩)
def ul (s:List UInt8):Option Txt:=
 if xf s=[110,97,110] then some ⟨2,false,0,[],0⟩ else zna (sgL (xf s)).1 (sgL (xf s)).2
def Lw (l:List UInt8):Prop:=∀ c ∈ l,vb c=c
theorem zn1 (c:UInt8):vb (vb c)=vb c:=by
 refine vu (fun c=>vb (vb c)=vb c) ?_ c;decide +kernel
theorem Lw.low (s:List UInt8):Lw (xf s):=by
 intro c hc;unfold xf at hc;obtain⟨x,-,rfl⟩:=List.mem_map.1 hc;exact zn1 x
theorem Lw.tail {c:UInt8} {l:List UInt8} (h:Lw (c::l)):Lw l:=fun x hx=>h x (by simp[hx])
theorem Lw.sub {l k:List UInt8} (h:Lw l) (hk:k.Sublist l):Lw k:=fun x hx=>h x (hk.subset hx)
theorem zi5 (hex:Bool) (c:UInt8):dgV hex (vb c)=dgV hex c:=by
 cases hex
 ·refine vu (fun c=>dgV false (vb c)=dgV false c) ?_ c;decide +kernel
 ·refine vu (fun c=>dgV true (vb c)=dgV true c) ?_ c;decide +kernel
theorem uh {hex:Bool} {c:UInt8} (h:vb c=c):dgV hex c=dig (xj hex) c:=by
 cases hex
 ·exact vu (fun c=>vb c=c->dgV false c=dig (xj false) c) zp c h
 ·exact vu (fun c=>vb c=c->dgV true c=dig (xj true) c) zp c h
theorem kz (c x:UInt8) (hx:x=95\/x=46\/x=43\/x=45\/x=48):vb c=x↔c=x:=by
 rcases hx with rfl | rfl | rfl | rfl | rfl
 ·exact vu (fun c=>vb c=95↔c=95) zp c
 ·exact vu (fun c=>vb c=46↔c=46) zp c
 ·exact vu (fun c=>vb c=43↔c=43) zp c
 ·exact vu (fun c=>vb c=45↔c=45) zp c
 ·exact vu (fun c=>vb c=48↔c=48) zp c
theorem zfi (c:UInt8) (n:Nat) (hn:n=112\/n=101\/n=120):wc (vb c)=n↔wc c=n:=by
 rcases hn with rfl | rfl | rfl
 ·exact vu (fun c=>wc (vb c)=112↔wc c=112) zp c
 ·exact vu (fun c=>wc (vb c)=101↔wc c=101) zp c
 ·exact vu (fun c=>wc (vb c)=120↔wc c=120) zp c
theorem zin {c:UInt8} (h:vb c=c) (n:Nat) (hn:n=112\/n=101\/n=120):wc c=n↔c=UInt8.ofNat n:=by
 rcases hn with rfl | rfl | rfl
 ·exact vu (fun c=>vb c=c->(wc c=112↔c=UInt8.ofNat 112)) zp c h
 ·exact vu (fun c=>vb c=c->(wc c=101↔c=UInt8.ofNat 101)) zp c h
 ·exact vu (fun c=>vb c=c->(wc c=120↔c=UInt8.ofNat 120)) zp c h
theorem zao (hex:Bool) (c:UInt8):xe hex (vb c)=xe hex c:=by
 unfold xe;rw[zi5];congr 1;rw[Bool.eq_iff_iff,beq_iff_eq,beq_iff_eq];exact kz c 95 zi
theorem zey (hex:Bool):∀ l,(xf l).takeWhile (xe hex)=xf (l.takeWhile (xe hex))
 | []=>rfl
 | c::r=>by
  show (vb c::xf r).takeWhile _=_
  by_cases h:xe hex c=true
  ·rw[List.takeWhile_cons_of_pos (by rw[zao];exact h),List.takeWhile_cons_of_pos h,zey hex r];rfl
  ·rw[List.takeWhile_cons_of_neg (by rw[zao];exact h),List.takeWhile_cons_of_neg h];rfl
theorem zfv (hex:Bool):∀ l,(xf l).dropWhile (xe hex)=xf (l.dropWhile (xe hex))
 | []=>rfl
 | c::r=>by
  show (vb c::xf r).dropWhile _=_
  by_cases h:xe hex c=true
  ·rw[List.dropWhile_cons_of_pos (by rw[zao];exact h),List.dropWhile_cons_of_pos h,zfv hex r]
  ·rw[List.dropWhile_cons_of_neg (by rw[zao];exact h),List.dropWhile_cons_of_neg h];rfl
theorem jo (hex:Bool):∀ l,(xf l).filterMap (dgV hex)=l.filterMap (dgV hex)
 | []=>rfl
 | c::r=>by
  show (vb c::xf r).filterMap _=_
  rw[List.filterMap_cons,List.filterMap_cons,zi5,jo hex r]
theorem za1 (hex:Bool):∀ l saw,okU hex (xf l) saw=okU hex l saw
 | [],saw=>rfl
 | c::r,saw=>by
  show okU hex (vb c::xf r) saw=_
  rw[okU,okU,zi5,za1 hex r,za1 hex r,za1 hex r]
  have:=kz c 95 zi
  by_cases h:c=95
  ·rw[if_pos h,if_pos (this.2 h)]
  ·rw[if_neg h,if_neg (fun e=>h (this.1 e))]
theorem zpt (hex:Bool):∀ l,(xf l).all (xe hex)=l.all (xe hex)
 | []=>rfl
 | c::r=>by
  show (vb c::xf r).all _=_
  rw[List.all_cons,List.all_cons,zao,zpt hex r]
theorem zct (l:List UInt8):sgn (xf l)=((sgn l).1,xf (sgn l).2):=by
 cases l with
 | nil=>rfl
 | cons c r=>
  show sgn (vb c::xf r)=_;rw[xq,xq];by_cases h1:c=43
  ·rw[if_pos h1,if_pos ((kz c 43 zi).2 h1)]
  ·rw[if_neg h1,if_neg (fun e=>h1 ((kz c 43 zi).1 e))];by_cases h2:c=45
   ·rw[if_pos h2,if_pos ((kz c 45 zi).2 h2)]
   ·rw[if_neg h2,if_neg (fun e=>h2 ((kz c 45 zi).1 e))];rfl
theorem zm0 (l:List UInt8):sgL l=sgn l:=by cases l <;> rfl
theorem zfr (l:List UInt8):yo (xf l)=yo l:=by
 match l with
 | []=>rfl
 | [_]=>rfl
 | [_,_]=>rfl
 | c::x::y::r=>
  show decide (vb c=48/\wc (vb x)=120)=decide (c=48/\wc x=120);rw[decide_eq_decide,kz c 48 zi,zfi x 120 zi]
theorem zcd (l:List UInt8):(xf l).head?=some 46↔l.head?=some 46:=by
 cases l with
 | nil=>simp[xf]
 | cons c r=>
  show (vb c::xf r).head?=some 46↔_;simp only[List.head?_cons,Option.some.injEq];exact kz c 46 zi 
theorem zjo (l:List UInt8):(xf l).tail=xf l.tail:=by cases l <;> rfl
theorem zka (hex:Bool) (l:List UInt8):ve hex (xf l)=xf (ve hex l):=zey hex l
theorem zj9 (hex:Bool) (l:List UInt8):qi hex (xf l)=xf (qi hex l):=zfv hex l
theorem zhc (hex:Bool) (l:List UInt8):yw hex (xf l)=xf (yw hex l):=by
 unfold yw;rw[zj9,zjo,zey];by_cases h:(qi hex l).head?=some 46
 ·rw[if_pos h,if_pos ((zcd _).2 h)]
 ·rw[if_neg h,if_neg (fun e=>h ((zcd _).1 e))];rfl
theorem zn3 (hex:Bool) (l:List UInt8):wx hex (xf l)=xf (wx hex l):=by
 unfold wx;rw[zj9,zjo,zfv];by_cases h:(qi hex l).head?=some 46
 ·rw[if_pos h,if_pos ((zcd _).2 h)]
 ·rw[if_neg h,if_neg (fun e=>h ((zcd _).1 e))]
theorem zq9 (hex:Bool) (l:List UInt8):zhr hex (xf l)=zhr hex l:=by
 cases l with
 | nil=>rfl
 | cons c r=>
  show zhr hex (vb c::xf r)=_;unfold zhr;dsimp only;rw[zct];dsimp only;rw[zpt,za1,jo];have h1:wc (vb c)=(if hex then 112 else 101)↔wc c=(if hex then 112 else 101):=by
   cases hex
   ·exact zfi c 101 zi
   ·exact zfi c 112 zi
  have h2:xf (sgn r).2≠[]↔(sgn r).2≠[]:=by unfold xf;simp
  by_cases hc:wc c=(if hex then 112 else 101)/\(sgn r).2≠[]/\(sgn r).2.all (xe false)=true/\okU false (sgn r).2 94=true
  ·rw[if_pos hc,if_pos ⟨h1.2 hc.1,h2.2 hc.2.1,hc.2.2⟩]
  ·rw[if_neg hc,if_neg (fun h=>hc ⟨h1.1 h.1,h2.1 h.2.1,h.2.2⟩)]
theorem zhq (s:List UInt8):yj (xf s)=xf (yj s):=by
 unfold yj;rw[zct];dsimp only;rw[zfr];split
 ·unfold xf;rw[List.map_drop]
 ·rfl
theorem zq8 (s:List UInt8):zau (xf s)=zau s:=by
 rw[jv,jv];have hs:∀ x,zdb (xf s) x=zdb s x:=by
  intro x;unfold zdb;rw[zct];dsimp only;rw[zfr,zhq,zka,zhc,jo,jo]
 have hs2:zdb (xf s)=zdb s:=funext hs;rw[hs2,zct];dsimp only;rw[zfr,zhq,zka,zhc,jo,jo,za1,za1,zn3,zq9]
theorem ztu (hex:Bool):∀ (n:Nat) (A R:List UInt8),A.length<=n->Lw A->A.all (xe hex)=true->(∀ c r,R=c::r->Lw R/\xe hex c=false) ->
  (okU hex A 48=true->yft (xj hex) (A++R)=A.length)/\(okU hex A 48=false->∃ r,(A++R).drop (yft (xj hex) (A++R))=95::r/\yft (xj hex) (A++R)<A.length):=by
 intro n;induction n with
 | zero=>
  intro A R hl hA hall hR;have:A=[]:=List.length_eq_zero_iff.1 zd;subst this;refine⟨fun _=>?_,fun h=>?_⟩
  ·rw[List.nil_append];cases R with
   | nil=>rfl
   | cons c r=>
    obtain⟨h1,h2⟩:=hR c r rfl;obtain⟨h3,h4⟩:=zag h2;rw[uh (h1 c zi)]at h4;refine zaz _ c r (by unfold isD;rw[h4];rfl) (fun d r' _ h=>h3 h.1)
  ·simp[okU]at h
 | succ n ih=>
  intro A R hl hA hall hR;cases A with
  | nil=>exact ih [] R zi hA hall hR
  | cons c A=>
   have hc:=hA c zi;simp only[List.all_cons,Bool.and_eq_true]at hall;by_cases h95:c=95
   ·subst h95;rw[okU,qx];simp only[Option.isSome_none,Bool.false_eq_true,if_false,if_true];cases A with
    | nil=>
     refine⟨fun h=>by simp[okU]at h,fun _=>?_⟩;have h0:yft (xj hex) (95::R)=0:=by
      refine zaz _ 95 R (ja _) (fun d r' e h=>?_);obtain⟨h1,h2⟩:=hR d r' e;obtain⟨h3,h4⟩:=zag h2;rw[uh (h1 d (by rw[e];simp))]at h4;unfold isD at h;rw[h4]at h;cases h.2
     show ∃ r,(95::R).drop (yft (xj hex) (95::R))=95::r/\yft (xj hex) (95::R)<_;rw[h0];exact⟨R,rfl,zi⟩
    | cons d A=>
     have hd:=hA d zi;simp only[List.all_cons,Bool.and_eq_true]at hall;rw[okU];by_cases hd95:d=95
     ·subst hd95;rw[qx];simp only[Option.isSome_none,Bool.false_eq_true,if_false,if_true];refine⟨fun h=>by simp[okU]at h,fun _=>?_⟩;have h0:yft (xj hex) (95::95::(A++R))=0:=by
       refine zaz _ 95 _ (ja _) (fun d r' e h=>?_);cases e;rw[ja]at h;cases h.2
      show ∃ r,(95::95::(A++R)).drop (yft (xj hex) (95::95::(A++R)))=95::r/\yft (xj hex) (95::95::(A++R))<_;rw[h0];exact⟨95::(A++R),rfl,zi⟩
     ·obtain⟨v,hv⟩:=za9 hall.2.1 hd95;rw[hv];simp only[Option.isSome_some,if_true];have hdd:isD (xj hex) d=true:=by unfold isD;rw[<-uh hd,hv];rfl
      have e:yft (xj hex) (95::d::(A++R))=2+yft (xj hex) (A++R):=zd9 _ d _ (ja _) hdd;obtain⟨i1,i2⟩:=ih A R (by simp at hl;omega) hA.tail.tail hall.2.2 hR;show (_->yft (xj hex) (95::d::(A++R))=_)/\(_->∃ r,(95::d::(A++R)).drop (yft (xj hex) (95::d::(A++R)))=95::r/\yft (xj hex) (95::d::(A++R))<_);rw[e];refine⟨fun h=>by rw[i1 h];simp;omega,fun h=>?_⟩;obtain⟨r,h1,h2⟩:=i2 h;exact⟨r,by rw[Nat.add_comm 2,List.drop_succ_cons,List.drop_succ_cons];exact h1,zh⟩
   ·obtain⟨v,hv⟩:=za9 hall.1 h95;rw[okU,hv];simp only[Option.isSome_some,if_true];have hdd:isD (xj hex) c=true:=by unfold isD;rw[<-uh hc,hv];rfl
    have e:yft (xj hex) (c::(A++R))=1+yft (xj hex) (A++R):=zjt _ c _ hdd;obtain⟨i1,i2⟩:=ih A R (by simp at hl;omega) hA.tail hall.2 hR;show (_->yft (xj hex) (c::(A++R))=_)/\(_->∃ r,(c::(A++R)).drop (yft (xj hex) (c::(A++R)))=95::r/\yft (xj hex) (c::(A++R))<_);rw[e];refine⟨fun h=>by rw[i1 h];simp;omega,fun h=>?_⟩;obtain⟨r,h1,h2⟩:=i2 h;exact⟨r,by rw[Nat.add_comm 1,List.drop_succ_cons];exact h1,zh⟩
theorem zh5 (hex:Bool) (A R:List UInt8) (hA:Lw A) (hall:A.all (xe hex)=true) (hR:∀ c r,R=c::r->Lw R/\xe hex c=false):
  (okU hex A 94=true->jh (xj hex) (A++R)=A.length)/\(okU hex A 94=false->∃ r,(A++R).drop (jh (xj hex) (A++R))=95::r/\jh (xj hex) (A++R)<A.length):=by
 cases A with
 | nil=>
  refine⟨fun _=>?_,fun h=>by simp[okU]at h⟩;rw[List.nil_append];cases R with
  | nil=>rfl
  | cons c r=>
   obtain⟨h1,h2⟩:=hR c r rfl;obtain⟨h3,h4⟩:=zag h2;rw[uh (h1 c zi)]at h4;rw[jh,if_neg (by unfold isD;rw[h4];simp)];rfl
 | cons c A=>
  have hc:=hA c zi;simp only[List.all_cons,Bool.and_eq_true]at hall;by_cases h95:c=95
  ·subst h95;rw[okU,qx];simp only[Option.isSome_none,Bool.false_eq_true,if_false,if_true];refine⟨fun h=>by simp[okU]at h,fun _=>?_⟩;have h0:jh (xj hex) (95::(A++R))=0:=by rw[jh,if_neg (by rw[ja];simp)]
   show ∃ r,(95::(A++R)).drop (jh (xj hex) (95::(A++R)))=95::r/\jh (xj hex) (95::(A++R))<_;rw[h0];exact⟨A++R,rfl,zi⟩
  ·obtain⟨v,hv⟩:=za9 hall.1 h95;rw[okU,hv];simp only[Option.isSome_some,if_true];have hdd:isD (xj hex) c=true:=by unfold isD;rw[<-uh hc,hv];rfl
   have e:jh (xj hex) (c::(A++R))=1+yft (xj hex) (A++R):=by rw[jh,if_pos hdd]
   obtain⟨i1,i2⟩:=ztu hex A.length A R (Nat.le_refl _) hA.tail hall.2 hR;show (_->jh (xj hex) (c::(A++R))=_)/\(_->∃ r,(c::(A++R)).drop (jh (xj hex) (c::(A++R)))=95::r/\jh (xj hex) (c::(A++R))<_);rw[e];refine⟨fun h=>by rw[i1 h];simp;omega,fun h=>?_⟩;obtain⟨r,h1,h2⟩:=i2 h;exact⟨r,by rw[Nat.add_comm 1,List.drop_succ_cons];exact h1,zh⟩
theorem zdp (hex:Bool):∀ (l:List UInt8),Lw l->∀ out:List Nat,l.foldl (vp (xj hex)) out=if out=[] then (l.filterMap (dgV hex)).dropWhile (·==0) else out++l.filterMap (dgV hex)
 | [],_,out=>by
  show out=_
  by_cases h:out=[]
  ·rw[if_pos h,h];rfl
  ·rw[if_neg h];simp
 | c::r,hl,out=>by
  have hc:=hl c zi
  have ih:=zdp hex r hl.tail
  rw[List.foldl_cons]
  cases hd:dgV hex c with
  | none=>
   have e:vp (xj hex) out c=out:=by unfold vp;rw[<-uh hc,hd]
   rw[e,ih,List.filterMap_cons_none hd]
  | some d=>
   rw[List.filterMap_cons_some hd]
   by_cases h:out=[]
   ·subst h
    by_cases h0:d=0
    ·subst h0
     have e:vp (xj hex) [] c=[]:=by unfold vp;rw[<-uh hc,hd];rfl
     rw[e,ih,if_pos rfl,if_pos rfl,List.dropWhile_cons_of_pos (by rfl)]
    ·have e:vp (xj hex) [] c=[d]:=by unfold vp;rw[<-uh hc,hd];simp;omega
     rw[e,ih,if_neg zi,if_pos rfl,List.dropWhile_cons_of_neg (by simpa using h0)]
     rfl
   ·have e:vp (xj hex) out c=out++[d]:=by unfold vp;rw[<-uh hc,hd];simp[h]
    rw[e,ih,if_neg zi,if_neg h,List.append_assoc]
    rfl
theorem zkp (hex:Bool) (l:List UInt8) (h:Lw l):dgL (xj hex) l=(l.filterMap (dgV hex)).dropWhile (·==0):=by
 unfold dgL;rw[zdp hex l h,if_pos rfl]
theorem zhl (hex:Bool):∀ (l:List UInt8),Lw l->zkq (xj hex) l=(l.filterMap (dgV hex)).length
 | [],_=>rfl
 | c::r,hl=>by
  have hc:=hl c zi
  have ih:=zhl hex r hl.tail
  unfold zkq at ih ⊢
  rw[List.countP_cons,ih,List.filterMap_cons]
  unfold isD
  rw[<-uh hc]
  cases dgV hex c with
  | none=>rfl
  | some d=>rfl
theorem zl0 (l:List Nat):ki (l.dropWhile (·==0))=ki l:=by
 induction l with
 | nil=>rfl
 | cons d r ih=>
  by_cases h:d=0
  ·subst h;rw[List.dropWhile_cons_of_pos (by rfl),ih];rfl
  ·rw[List.dropWhile_cons_of_neg zI]
def spE (x:Bool×List Nat):Int:=if x.1 then -(ki x.2:Int) else (ki x.2:Int)
def spX (L:Lit):Int:=spE (L.en,L.de)-(((if L.hex then 4 else 1)*L.db.length:Nat):Int)
def spT (L:Lit):Txt:=⟨0,L.neg,xj L.hex,(L.da++L.db).dropWhile (·==0),spX L⟩
theorem zda (hex:Bool) (l:List UInt8):l=ve hex l++qi hex l:=(List.takeWhile_append_dropWhile).symm
theorem ka {p:UInt8->Bool}:∀ l:List UInt8,(l.takeWhile p).all p=true
 | []=>rfl
 | c::r=>by
  by_cases h:p c=true
  ·rw[List.takeWhile_cons_of_pos h,List.all_cons,h,ka r];rfl
  ·rw[List.takeWhile_cons_of_neg h];rfl
theorem zov (hex:Bool) (l:List UInt8) (hl:Lw l):(if l≠[]\/xj hex=16 then jc (if xj hex=16 then 112 else 101) l else some 0)=(zhr hex l).map spE:=by
 cases l with
 | nil=>
  cases hex
  ·rfl
  ·rfl
 | cons c r=>
  rw[if_pos (Or.inl zi)];have hc:=hl c zi;have hlet:(wc c=(if hex=true then 112 else 101))↔c=(if xj hex=16 then (112:UInt8) else 101):=by
   cases hex
   ·exact zin hc 101 zi
   ·exact zin hc 112 zi
  show (if c≠_ then none else zft (sgL r).1 (sgL r).2)=_;unfold zhr;dsimp only;by_cases h:c=(if xj hex=16 then (112:UInt8) else 101)
  ·rw[if_neg (fun h'=>h' h),zm0];have hlr:Lw (sgn r).2:=by
    refine hl.tail.sub ?_;cases r with
    | nil=>exact List.Sublist.refl _
    | cons d r=>rw[xq];split <;> (try split) <;> simp
   generalize (sgn r).1=neg;generalize (sgn r).2=t at *
   unfold zft;by_cases ht:t=[]
   ·rw[if_pos (Or.inl ht),if_neg (fun h=>h.2.1 ht)];rfl
   ·have hsp:=zda false t;have hall:=ka (p:=xe false) t;have hR:∀ c r,qi false t=c::r->Lw (qi false t)/\xe false c=false:=fun c r e=>⟨hlr.sub (List.dropWhile_sublist _),jp e⟩
    obtain⟨g1,g2⟩:=zh5 false (ve false t) (qi false t) (hlr.sub (List.takeWhile_sublist _)) hall hR;rw[<-hsp]at g1 g2;have hlen:=congrArg List.length hsp;rw[List.length_append]at hlen;by_cases hta:t.all (xe false)=true
    ·have hA:ve false t=t:=zcg hta;rw[hA]at g1 g2;by_cases hok:okU false t 94=true
     ·have hcond:wc c=(if hex=true then 112 else 101)/\t≠[]/\t.all (xe false)=true/\okU false t 94=true:=⟨hlet.2 h,ht,hta,hok⟩;rw[if_neg (by rintro (h1 | h1);exact ht h1;exact h1 (g1 hok)),if_pos hcond];have:=zkp false t hlr;rw[show xj false=10 from rfl]at this;rw[this,zl0];rfl
     ·rw[if_pos (Or.inr (by obtain⟨r,-,h2⟩:=g2 (by simpa using hok);rw[show xj false=10 from rfl]at h2;omega)),if_neg (fun h=>hok h.2.2.2)];rfl
    ·have hRne:qi false t≠[]:=fun e=>hta (zas.1 e)
     have hRl:0<(qi false t).length:=List.length_pos_iff.2 hRne;have hr:jh 10 t≠t.length:=by
      cases hk:okU false (ve false t) 94
      ·obtain⟨r,-,h2⟩:=g2 hk;rw[show xj false=10 from rfl]at h2;omega
      ·have:=g1 hk;rw[show xj false=10 from rfl]at this;omega
     rw[if_pos (Or.inr hr),if_neg (fun h=>hta h.2.2.1)];rfl
  ·rw[if_pos h,if_neg (fun h'=>h (hlet.1 h'.1))];rfl
theorem zq1 (hex:Bool) (u:List UInt8) (hu:Lw u) (l:List UInt8) (h:hex=true/\(∃ y r,u=48::120::y::r/\l=y::r)\/hex=false/\¬zd4 u/\l=u):
  wb u=xj hex/\vy u<=u.length/\∃ A1,u.drop (vy u)=A1++qi hex l/\Lw A1/\A1.all (xe hex)=true/\A1.filterMap (dgV hex)=(ve hex l).filterMap (dgV hex)/\okU hex A1 94=okU hex (ve hex l) (if hex=true then 48 else 94):=by
 refine⟨?_,zcb u,?_⟩
 ·rcases h with⟨rfl,y,r,rfl,-⟩ | ⟨rfl,h1,-⟩
  ·unfold wb;rw[if_pos (by unfold zd4;simp)];rfl
  ·unfold wb;rw[if_neg h1];rfl
 ·rcases h with⟨rfl,y,r,rfl,rfl⟩ | ⟨rfl,h1,rfl⟩
  ·have hhx:zd4 (48::120::y::r):=by unfold zd4;simp
   have hl:Lw (y::r):=hu.tail.tail;have hsp:=zda true (y::r);have hall:(ve true (y::r)).all (xe true)=true:=ka (p:=xe true) (y::r);have hLA:Lw (ve true (y::r)):=hl.sub (List.takeWhile_sublist _);simp only[if_true];by_cases hund:zp5 (48::120::y::r)
   ·have hnf:vy (48::120::y::r)=3:=by unfold vy;rw[if_pos hhx,if_pos hund]
    obtain⟨u1,u2,u3⟩:=hund;have hy:y=95:=u2;subst hy;cases r with
    | nil=>simp at u1
    | cons d r=>
     have hd:isD 16 d=true:=u3;have hdl:vb d=d:=hl d zi;have hdv:(dgV true d).isSome=true:=by rw[uh hdl];exact hd
     have hdu:xe true d=true:=by unfold xe;rw[hdv];rfl
     have hA:ve true (95::d::r)=95::d::r.takeWhile (xe true):=by
      unfold ve;rw[List.takeWhile_cons_of_pos (jx true),List.takeWhile_cons_of_pos hdu]
     have hR:qi true (95::d::r)=r.dropWhile (xe true):=by
      unfold qi;rw[List.dropWhile_cons_of_pos (jx true),List.dropWhile_cons_of_pos hdu]
     refine⟨d::r.takeWhile (xe true),?_,?_,?_,?_,?_⟩
     ·rw[hnf,hR];show d::r=d::(r.takeWhile (xe true)++r.dropWhile (xe true));rw[List.takeWhile_append_dropWhile]
     ·rw[hA]at hLA;exact hLA.tail
     ·rw[List.all_cons,hdu,ka];rfl
     ·rw[hA,List.filterMap_cons_none (qx true)]
     ·have e1:okU true (d::r.takeWhile (xe true)) 94=okU true (r.takeWhile (xe true)) 48:=by rw[okU,if_pos hdv]
      have e2:okU true (95::d::r.takeWhile (xe true)) 48=okU true (r.takeWhile (xe true)) 48:=by rw[okU,qx,if_neg zi,if_pos rfl,if_pos rfl,okU,if_pos hdv]
      rw[hA,e1,e2]
   ·have hnf:vy (48::120::y::r)=2:=by unfold vy;rw[if_pos hhx,if_neg hund]
    refine⟨ve true (y::r),by rw[hnf];exact hsp,hLA,hall,rfl,?_⟩;cases hA:ve true (y::r) with
    | nil=>rfl
    | cons c A=>
     have hcy:c=y:=by
      unfold ve at hA;by_cases hy:xe true y=true
      ·rw[List.takeWhile_cons_of_pos hy]at hA;cases hA;rfl
      ·rw[List.takeWhile_cons_of_neg hy]at hA;cases hA
     subst hcy;rw[okU,okU];by_cases hc:(dgV true c).isSome=true
     ·rw[if_pos hc,if_pos hc]
     ·rw[if_neg hc,if_neg hc];have hcu:xe true c=true:=by
       rw[hA]at hall;simp only[List.all_cons,Bool.and_eq_true]at hall;exact hall.1
      have h95:c=95:=by
       unfold xe at hcu;simpa[hc]using hcu
      subst h95;rw[if_pos rfl,if_pos rfl,if_neg zd,if_pos rfl];cases A with
      | nil=>rfl
      | cons d A=>
       have hd:d=r.headD 0/\r≠[]:=by
        unfold ve at hA;rw[List.takeWhile_cons_of_pos (jx true)]at hA;cases r with
        | nil=>cases hA
        | cons e r=>
         by_cases he:xe true e=true
         ·rw[List.takeWhile_cons_of_pos he]at hA;cases hA;exact⟨rfl,zi⟩
         ·rw[List.takeWhile_cons_of_neg he]at hA;cases hA
       have hdn:(dgV true d).isSome=false:=by
        cases hk:(dgV true d).isSome
        ·rfl
        ·exfalso;refine hund ⟨?_,rfl,?_⟩
         ·have:0<r.length:=List.length_pos_iff.2 hd.2;simp;omega
         ·cases r with
          | nil=>exact absurd rfl hd.2
          | cons e r=>
           have hde:d=e:=hd.1;have:=hl e zi;show isD 16 e=true;unfold isD;rw[<-hde]at this ⊢;rw[<-show xj true=16 from rfl,<-uh this,hk]
       have hdu:xe true d=true:=by
        rw[hA]at hall;simp only[List.all_cons,Bool.and_eq_true]at hall;exact hall.2.1
       have hd95:d=95:=by
        unfold xe at hdu;rw[hdn,Bool.false_or]at hdu;simpa using hdu
       subst hd95;rw[okU,qx];rfl
  ·have hnf:vy l=0:=by unfold vy;rw[if_neg h1]
   have hsp:=zda false l;refine⟨ve false l,by rw[hnf,List.drop_zero];exact hsp,hu.sub (List.takeWhile_sublist _),ka l,rfl,rfl⟩
theorem zhf (u:List UInt8) (i:Nat):u.getD i 0=(u.drop i).headD 0:=by
 rw[List.getD_eq_getElem?_getD,List.headD_eq_head?_getD,List.head?_drop]
theorem zcf (hex:Bool) (X:List UInt8) (hall:X.all (xe hex)=true) (hX:okU hex X 94=true):X.filterMap (dgV hex)=[]↔X=[]:=by
 cases X with
 | nil=>simp
 | cons c r=>
  refine⟨fun h=>?_,fun h=>zF⟩;exfalso;simp only[List.all_cons,Bool.and_eq_true]at hall;rw[okU]at hX;cases hd:dgV hex c with
  | none=>
   have h95:c=95:=by
    have:=hall.1;unfold xe at this;rw[hd]at this;simpa using this
   rw[hd,if_neg zi,if_pos h95,if_neg zd]at hX;cases hX
  | some d=>rw[List.filterMap_cons_some hd]at h;cases h
theorem zj3 (hex:Bool) (u l:List UInt8) (neg:Bool) (A1:List UInt8) (hb:wb u=xj hex) (hF:kl u=A1) (hS:xz u=yw hex l) (hI2:u.drop (nI2 u)=wx hex l) (hA:Lw A1) (hB:Lw (yw hex l)) (hR2:Lw (wx hex l))
    (hAa:A1.all (xe hex)=true) (hBa:(yw hex l).all (xe hex)=true) (hokA:okU hex A1 94=true) (hokB:okU hex (yw hex l) 94=true):
    (zf8 u).map (fun x=>(⟨0,neg,wb u,nDigits u,x⟩:Txt))=
      (if A1.filterMap (dgV hex)=[]/\(yw hex l).filterMap (dgV hex)=[] then none
       else if okU hex A1 94=true/\okU hex (yw hex l) 94=true then
        (zhr hex (wx hex l)).map fun x=>spT ⟨neg,hex,A1.filterMap (dgV hex),(yw hex l).filterMap (dgV hex),x.1,x.2⟩ else none):=by
  unfold zf8;by_cases h0:kl u=[]/\xz u=[]
  · rw[if_pos h0,if_pos ⟨(zcf hex A1 hAa hokA).2 (hF ▸ h0.1),(zcf hex _ hBa hokB).2 (hS ▸ h0.2)⟩]
    rfl
  · rw[if_neg h0,if_neg (fun h=>h0 ⟨hF.trans ((zcf hex A1 hAa hokA).1 h.1),hS.trans ((zcf hex _ hBa hokB).1 h.2)⟩),if_pos ⟨hokA,hokB⟩]
    have hE:zpz u=(zhr hex (wx hex l)).map spE:=by
      rw[<-zov hex _ hR2];unfold zpz za2;rw[hb,hI2];have hlt:(nI2 u<u.length)↔wx hex l≠[]:=by
        rw[<-hI2,Ne,List.drop_eq_nil_iff];omega
      simp only[hlt]
    rw[hE,Option.map_map,Option.map_map];congr 1;funext x;show (⟨0,neg,wb u,nDigits u,spE x-((zpy u*zkq (wb u) (xz u):Nat):Int)⟩:Txt)=⟨0,neg,xj hex,(A1.filterMap (dgV hex)++(yw hex l).filterMap (dgV hex)).dropWhile (·==0),spE (x.1,x.2)-(((if hex then 4 else 1)*((yw hex l).filterMap (dgV hex)).length:Nat):Int)⟩;have hd:nDigits u=(A1.filterMap (dgV hex)++(yw hex l).filterMap (dgV hex)).dropWhile (·==0):=by
      unfold nDigits;rw[hb,hF,hS,zkp hex _ (fun c hc=>(List.mem_append.1 hc).elim (hA c) (hB c)),List.filterMap_append]
    have hp:zpy u=if hex then 4 else 1:=by
      unfold zpy;rw[hb];cases hex <;> rfl
    rw[hd,hp,hS,hb,zhl hex _ hB]
theorem zua (hex:Bool) (u:List UInt8) (hu:Lw u) (l:List UInt8) (h:hex=true/\(∃ y r,u=48::120::y::r/\l=y::r)\/hex=false/\¬zd4 u/\l=u) (neg:Bool):
    (zf8 u).map (fun x=>(⟨0,neg,wb u,nDigits u,x⟩:Txt))=
      (if (ve hex l).filterMap (dgV hex)=[]/\(yw hex l).filterMap (dgV hex)=[] then none
       else if okU hex (ve hex l) (if hex then 48 else 94)=true/\okU hex (yw hex l) 94=true then
        (zhr hex (wx hex l)).map fun x=>spT ⟨neg,hex,(ve hex l).filterMap (dgV hex),(yw hex l).filterMap (dgV hex),x.1,x.2⟩ else none):=by
  obtain⟨hb,hfl,A1,e1,e2,e3,e4,e5⟩:=zq1 hex u hu l h;have hlw:Lw l:=by
    rcases h with⟨-,y,r,rfl,rfl⟩ | ⟨-,-,rfl⟩
    · exact hu.tail.tail
    · exact hu
  have hRl:Lw (qi hex l):=hlw.sub (List.dropWhile_sublist _);have hR:∀ c r,qi hex l=c::r->Lw (qi hex l)/\xe hex c=false:=fun c r e=>⟨hRl,jp e⟩
  obtain⟨g1,g2⟩:=zh5 hex A1 (qi hex l) e2 e3 hR;rw[<-e1]at g1 g2;have hulen:=congrArg List.length e1;rw[List.length_drop,List.length_append]at hulen;have hnone:(∃ r,u.drop (nI2 u)=95::r)->(zf8 u).map (fun x=>(⟨0,neg,wb u,nDigits u,x⟩:Txt))=none:=by
    rintro⟨r,hr⟩;have hlt:nI2 u<u.length:=by
      rcases Nat.lt_or_ge (nI2 u) u.length with h | h
      · exact h
      · rw[List.drop_eq_nil_of_le h]at hr;cases hr
    have:zpz u=none:=by
      unfold zpz;rw[if_pos (Or.inl hlt),hr];show (if (95:UInt8)≠za2 u then none else _)=_;rw[if_pos (by unfold za2;split <;> decide)]
    unfold zf8;rw[this];split <;> rfl
  rw[e4.symm,<-e5];by_cases hokA:okU hex A1 94=true
  · have r1:=g1 hokA
    have hI1:nI1 u=vy u+A1.length:=by unfold nI1;rw[hb,r1]
    have hdI1:u.drop (nI1 u)=qi hex l:=by
      rw[hI1,<-List.drop_drop,e1,List.drop_left'];rfl
    have hF:kl u=A1:=by
      unfold kl;rw[hb,r1,e1,List.take_left'];rfl
    have hPt:nPt u↔(qi hex l).head?=some 46:=by
      unfold nPt;rw[zhf,hdI1];have hl2:=congrArg List.length hdI1;rw[List.length_drop]at hl2;cases hr:qi hex l with
      | nil=>rw[hr]at hl2;simp at hl2 ⊢;(try omega)
      | cons c r=>rw[hr]at hl2;simp at hl2 ⊢;(try omega)
    by_cases hpt:(qi hex l).head?=some 46
    · obtain⟨r,hr⟩:∃ r,qi hex l=46::r:=by
        cases hq:qi hex l with
        | nil=>rw[hq]at hpt;cases hpt
        | cons c r=>rw[hq]at hpt;simp at hpt;subst hpt;exact⟨r,rfl⟩
      have hB:yw hex l=r.takeWhile (xe hex):=by unfold yw;rw[if_pos hpt,hr];rfl
      have hR2:wx hex l=r.dropWhile (xe hex):=by unfold wx;rw[if_pos hpt,hr];rfl
      have hrl:Lw r:=by rw[hr]at hRl;exact hRl.tail
      have hdr:u.drop (nI1 u+1)=r:=by rw[<-List.drop_drop,hdI1,hr];rfl
      have hR2l:Lw (wx hex l):=by rw[hR2];exact hrl.sub (List.dropWhile_sublist _)
      obtain⟨k1,k2⟩:=zh5 hex (yw hex l) (wx hex l) (by rw[hB];exact hrl.sub (List.takeWhile_sublist _)) (by rw[hB];exact ka r) (fun c r' e=>⟨hR2l,by rw[hR2]at e;exact jp e⟩);have hrs:r=yw hex l++wx hex l:=by rw[hB,hR2,List.takeWhile_append_dropWhile]
      rw[<-hrs]at k1 k2;by_cases hokB:okU hex (yw hex l) 94=true
      · have r2:=k1 hokB
        have hS:xz u=yw hex l:=by
          unfold xz;rw[if_pos (hPt.2 hpt),hdr,hb,r2];conv=>lhs;rw[hrs]
          rw[List.take_left'];rfl
        have hI2:u.drop (nI2 u)=wx hex l:=by
          unfold nI2;rw[if_pos (hPt.2 hpt),hdr,hb,r2,<-List.drop_drop,hdr];conv=>lhs;rw[hrs]
          rw[List.drop_left'];rfl
        exact zj3 hex u l neg A1 hb hF hS hI2 e2 (by rw[hB];exact hrl.sub (List.takeWhile_sublist _)) hR2l e3 (by rw[hB];exact ka r) hokA hokB
      · rw[hnone ?_]
        · split
          · rfl
          · rw[if_neg (fun h=>hokB h.2)]
        · obtain⟨r',h1,-⟩:=k2 (by simpa using hokB)
          refine⟨r',?_⟩;unfold nI2;rw[if_pos (hPt.2 hpt),hdr,hb,<-List.drop_drop,hdr];exact h1
    · have hB:yw hex l=[]:=by unfold yw;rw[if_neg hpt]
      have hR2:wx hex l=qi hex l:=by unfold wx;rw[if_neg hpt]
      have hS:xz u=yw hex l:=by unfold xz;rw[if_neg (fun h=>hpt (hPt.1 h)),hB]
      have hI2:u.drop (nI2 u)=wx hex l:=by unfold nI2;rw[if_neg (fun h=>hpt (hPt.1 h)),hdI1,hR2]
      exact zj3 hex u l neg A1 hb hF hS hI2 e2 (by rw[hB];intro c hc;cases hc) (by rw[hR2];exact hRl) e3 (by rw[hB];rfl) hokA (by rw[hB];rfl)
  · rw[hnone ?_]
    · split
      · rfl
      · rw[if_neg (fun h=>hokA h.1)]
    · obtain⟨r,h1,h2⟩:=g2 (by simpa using hokA)
      have hdI1:u.drop (nI1 u)=95::r:=by unfold nI1;rw[hb,<-List.drop_drop];exact h1
      have hPt:¬nPt u:=by
        unfold nPt;rw[zhf,hdI1];rintro⟨-,h⟩;have h2:(95:UInt8)=46:=h;cases h2
      refine⟨r,?_⟩;unfold nI2;rw[if_neg hPt];exact hdI1
theorem zqo (s:List UInt8):ul s=
  if xf s=[110,97,110] then some ⟨2,false,0,[],0⟩
  else if (sgn (xf s)).2=[105,110,102]\/(sgn (xf s)).2=[105,110,102,105,110,105,116,121] then some ⟨1,(sgn (xf s)).1,0,[],0⟩
  else (zau s).map spT:=by
 unfold ul zna;rw[zm0];split
 ·rfl
 ·split
  ·rfl
  ·rw[<-zq8 s];have ht:=Lw.low s;generalize xf s=t at *
   have hu:Lw (sgn t).2:=by
    refine ht.sub ?_;cases t with
    | nil=>exact List.Sublist.refl _
    | cons d r=>rw[xq];split <;> (try split) <;> simp
   rw[jv];have hof:∀ x,spT (zdb t x)=spT ⟨(sgn t).1,yo (sgn t).2,(ve (yo (sgn t).2) (yj t)).filterMap (dgV (yo (sgn t).2)),(yw (yo (sgn t).2) (yj t)).filterMap (dgV (yo (sgn t).2)),x.1,x.2⟩:=fun _=>rfl
   by_cases hz:yo (sgn t).2=false/\zd4 (sgn t).2
   ·obtain⟨h1,h2⟩:=hz;have hu2:(sgn t).2=[48,120]:=by
     unfold zd4 at h2;match hq:(sgn t).2,h2 with
     | [c,x],h2=>
      have e1:c=48:=h2.2.1;have e2:x=120:=h2.2.2;rw[e1,e2]
     | c::x::y::r,h2=>
      exfalso;have e1:c=48:=h2.2.1;have e2:x=120:=h2.2.2;rw[hq,e1,e2]at h1;simp[yo,wc]at h1
    have hb:yj t=[48,120]:=by unfold yj;rw[h1,hu2];rfl
    rw[h1,hb,hu2];rfl
   ·have hcase:yo (sgn t).2=true/\(∃ y r,(sgn t).2=48::120::y::r/\yj t=y::r)\/yo (sgn t).2=false/\¬zd4 (sgn t).2/\yj t=(sgn t).2:=by
     cases hx:yo (sgn t).2
     ·exact Or.inr ⟨rfl,fun h=>hz ⟨hx,h⟩,by unfold yj;rw[hx];rfl⟩
     ·left;refine⟨rfl,?_⟩;match hq:(sgn t).2,hx with
      | c::x::y::r,hx=>
       simp only[yo,decide_eq_true_eq]at hx;have hxl:vb x=x:=hu x (by rw[hq];simp);have e2:=(zin hxl 120 zi).1 hx.2;refine⟨y,r,by rw[hx.1,e2];rfl,?_⟩;unfold yj;rw[hq];have:yo (c::x::y::r)=true:=by simp only[yo,decide_eq_true_eq];exact hx
       rw[this];rfl
    have:=zua (yo (sgn t).2) (sgn t).2 hu (yj t) hcase (sgn t).1;rw[this];generalize yo (sgn t).2=hex at *
    split
    ·rfl
    ·by_cases hk:okU hex (ve hex (yj t)) (if hex=true then 48 else 94)=true/\okU hex (yw hex (yj t)) 94=true
     ·rw[if_pos hk,if_pos hk,Option.map_map];congr 1;funext x;exact (hof x).symm
     ·rw[if_neg hk,if_neg hk];rfl
def xo:List Nat->Nat
 | []=>0
 | x::r=>x+1073741824*xo r
def Limbs (l:List Nat):Prop:=∀ x ∈ l,x<1073741824
def yf (n:Nat):List Nat:=if h:n=0 then [] else (n%1073741824)::yf (n / 1073741824)
termination_by n
decreasing_by omega
theorem xm:yf 0=[]:=by rw[yf,dif_pos rfl]
theorem uj {n:Nat} (h:n≠0):yf n=(n%1073741824)::yf (n / 1073741824):=by rw[yf,dif_neg h]
theorem yfs (n:Nat):xo (yf n)=n:=by
 induction n using Nat.strongRecOn with
 | ind n ih=>
  by_cases h:n=0
  ·subst h;rw[xm];rfl
  ·rw[uj h,xo,ih _ zd];omega
theorem wt (n:Nat):Limbs (yf n):=by
 induction n using Nat.strongRecOn with
 | ind n ih=>
  by_cases h:n=0
  ·subst h;rw[xm];intro x hx;cases hx
  ·rw[uj h];intro x hx;rcases List.mem_cons.1 hx with rfl | hx
   ·omega
   ·exact ih _ zd x hx
theorem Limbs.cons {x:Nat} {l:List Nat} (h:Limbs (x::l)):x<1073741824/\Limbs l:=⟨h x zi,fun y hy=>h y (by simp[hy])⟩
theorem Limbs.append {a b:List Nat} (ha:Limbs a) (hb:Limbs b):Limbs (a++b):=fun x hx=>(List.mem_append.1 hx).elim (ha x) (hb x)
theorem Limbs.one {x:Nat} (h:x<1073741824):Limbs [x]:=fun y hy=>by rw[List.mem_singleton.1 hy];exact h
theorem Limbs.nil:Limbs []:=fun y hy=>by cases hy
theorem Limbs.take {l:List Nat} (h:Limbs l) (n:Nat):Limbs (l.take n):=fun x hx=>h x (List.mem_of_mem_take hx)
theorem Limbs.set {l:List Nat} (h:Limbs l) (k x:Nat) (hx:x<1073741824):Limbs (l.set k x):=fun y hy=>by
 rcases List.mem_or_eq_of_mem_set hy with h1 | h1
 ·exact h y h1
 ·rw[h1];exact hx
theorem Limbs.rep (n:Nat):Limbs (List.replicate n 0):=fun x hx=>by rw[(List.mem_replicate.1 hx).2];omega
theorem Limbs.getD {l:List Nat} (h:Limbs l) (i:Nat):l.getD i 0<1073741824:=by
 rw[List.getD_eq_getElem?_getD];cases hx:l[i]? with
 | none=>simp
 | some x=>exact h x (List.mem_of_getElem? hx)
theorem uz (a b:List Nat):xo (a++b)=xo a+1073741824^a.length*xo b:=by
 induction a with
 | nil=>simp[xo]
 | cons x r ih=>rw[List.cons_append,xo,xo,ih,List.length_cons,Nat.pow_succ,Nat.mul_add,<-Nat.mul_assoc,Nat.mul_comm (1073741824^r.length) 1073741824];omega
theorem zal (x:Nat):xo [x]=x:=by simp[xo]
theorem zim {l:List Nat} (h:Limbs l):xo l<1073741824^l.length:=by
 induction l with
 | nil=>simp[xo]
 | cons x r ih=>
  have h1:=ih h.cons.2;have h2:=h.cons.1;rw[xo,List.length_cons,Nat.pow_succ];have:1073741824*xo r+1073741824<=1073741824^r.length*1073741824:=by
   rw[Nat.mul_comm (1073741824^r.length)];have:=Nat.mul_le_mul_left 1073741824 (show xo r+1<=1073741824^r.length from h1);omega
  omega
theorem zff (n:Nat):xo (List.replicate n 0)=0:=by
 induction n with
 | zero=>rfl
 | succ n ih=>rw[List.replicate_succ,xo,ih]
theorem zgj (l:List Nat) (i:Nat) (h:i<l.length):l.take (i+1)=l.take i++[l.getD i 0]:=by
 rw[List.take_add_one,List.getElem?_eq_getElem h,List.getD_eq_getElem?_getD,List.getElem?_eq_getElem h];rfl
theorem zak (l:List Nat) (i:Nat) (h:i<l.length):xo (l.take (i+1))=xo (l.take i)+1073741824^i*l.getD i 0:=by
 rw[zgj l i h,uz,zal,List.length_take,Nat.min_eq_left zd]
theorem xn (l:List Nat) (i:Nat) (h:l.length<=i):xo (l.take i)=xo l:=by rw[List.take_of_length_le h]
theorem uy (l:List Nat) (i:Nat):xo (l.take (i+1))=xo (l.take i)+1073741824^i*l.getD i 0:=by
 rcases Nat.lt_or_ge i l.length with h | h
 ·exact zak l i h
 ·rw[xn l _ zd,xn l i h,List.getD_eq_getElem?_getD,List.getElem?_eq_none h];simp
theorem zfe (l:List Nat) (k x:Nat) (h:k<l.length):xo (l.set k x)+1073741824^k*l.getD k 0=xo l+1073741824^k*x:=by
 induction l generalizing k with
 | nil=>simp at h
 | cons y r ih=>
  cases k with
  | zero=>simp[xo,List.getD];omega
  | succ k=>
   have:=ih k zI;rw[List.set_cons_succ,xo,xo,List.getD_cons_succ,Nat.pow_succ,Nat.mul_comm (1073741824^k) 1073741824,Nat.mul_assoc,Nat.mul_assoc];omega
def zcn (l:List Nat):Nat->Nat
 | 0=>0
 | n+1=>if l.getD n 0=0 then zcn l n else n+1
theorem zub {l:List Nat} (h:Limbs l) (hl:l=[]\/l.getD (l.length-1) 0≠0):yf (xo l)=l:=by
 induction l with
 | nil=>exact xm
 | cons x r ih=>
  have hx:=h.cons.1;have hr:r=[]\/r.getD (r.length-1) 0≠0:=by
   cases r with
   | nil=>exact Or.inl rfl
   | cons y s=>
    right;rcases hl with h0 | h0
    ·cases h0
    ·simpa[List.getD]using h0
  have h1:=ih h.cons.2 hr;have hne:xo (x::r)≠0:=by
   rw[xo];cases r with
   | nil=>
    rcases hl with h0 | h0
    ·cases h0
    ·simp[List.getD]at h0;simp[xo];omega
   | cons y s=>
    intro h2;have h3:xo (y::s)=0:=zd;rw[h3,xm]at h1;cases h1
  rw[uj hne];have e1:xo (x::r)%1073741824=x:=by rw[xo];omega
  have e2:xo (x::r) / 1073741824=xo r:=by rw[xo];omega
  rw[e1,e2,h1]
theorem zcm (l:List Nat) (h:Limbs l):∀ n,n<=l.length->l.take (zcn l n)=yf (xo (l.take n))
 | 0,_=>by rw[zcn];simp[xo,xm]
 | n+1,hn=>by
  rw[zcn]
  split
  ·next h0=>
   rw[zcm l h n zd,zak l n zd,h0,Nat.mul_zero,Nat.add_zero]
  ·next h0=>
   refine (zub (h.take _) (Or.inr ?_)).symm
   rw[List.length_take,Nat.min_eq_left hn,Nat.add_sub_cancel,List.getD_eq_getElem?_getD,List.getElem?_take_of_lt zd,<-List.getD_eq_getElem?_getD]
   exact h0
theorem qn {n:Nat} (h:n≠0):yf n≠[]:=by rw[uj h];simp
theorem zg7 (n:Nat) (h:n≠0):(yf n).getD ((yf n).length-1) 0≠0:=by
 induction n using Nat.strongRecOn with
 | ind n ih=>
  rw[uj h];by_cases h2:n / 1073741824=0
  ·rw[h2,xm];simp[List.getD];omega
  ·have h3:=ih (n / 1073741824) zd h2;have h4:=qn h2;cases hr:yf (n / 1073741824) with
   | nil=>exact absurd hr h4
   | cons y s=>
    rw[hr]at h3;simpa[List.getD]using h3
theorem wu (n:Nat):n<1073741824^(yf n).length:=by
 have:=zim (wt n);rwa [yfs]at this
theorem zuc (n:Nat) (h:n≠0):1073741824^((yf n).length-1)<=n:=by
 have h1:=zg7 n h;have h2:=qn h;obtain⟨k,hk⟩:∃ k,(yf n).length=k+1:=by
  cases hr:yf n with
  | nil=>exact absurd hr h2
  | cons y s=>exact⟨s.length,rfl⟩
 rw[hk,Nat.add_sub_cancel]at h1 ⊢;have h3:=zak (yf n) k zd;rw[xn (yf n) (k+1) zd,yfs]at h3;have h4:1073741824^k*1<=1073741824^k*(yf n).getD k 0:=Nat.mul_le_mul_left _ zd;omega
theorem yv {n k:Nat} (h:n<1073741824^k):(yf n).length<=k:=by
 by_cases h0:n=0
 ·subst h0;rw[xm];simp
 ·have h1:=zuc n h0;have h2:1073741824^((yf n).length-1)<1073741824^k:=Nat.lt_of_le_of_lt h1 h;have h3:=(Nat.pow_lt_pow_iff_right ze).1 h2;omega
theorem qt {a b:Nat} (h:a<=b):(yf a).length<=(yf b).length:=yv (Nat.lt_of_le_of_lt h (wu b))
theorem js (k:Nat):1073741824^k=2^(30*k):=by rw[Nat.pow_mul]
theorem qu (n:Nat):∀ i,(yf n).getD i 0=n / 1073741824^i%1073741824:=by
 induction n using Nat.strongRecOn with
 | ind n ih=>
  intro i;by_cases h:n=0
  ·subst h;rw[xm];simp[List.getD]
  ·rw[uj h];cases i with
   | zero=>simp[List.getD]
   | succ i=>
    rw[List.getD_cons_succ,ih _ zd,Nat.pow_succ,Nat.mul_comm,<-Nat.div_div_eq_div_mul]
theorem zuf {l:List Nat} (h:Limbs l):∀ i,l.getD i 0=xo l / 1073741824^i%1073741824:=by
 induction l with
 | nil=>intro i;simp[List.getD,xo]
 | cons x r ih=>
  intro i;have hx:=h.cons.1;cases i with
  | zero=>simp[List.getD,xo];omega
  | succ i=>
   rw[List.getD_cons_succ,ih h.cons.2,Nat.pow_succ,Nat.mul_comm,<-Nat.div_div_eq_div_mul,xo];congr 2;omega
theorem zf7 {a b out:List Nat} {i c x:Nat} (hi:out.length=i) (h:xo out+1073741824^i*c=xo (a.take i)+xo (b.take i)) (hx:x=a.getD i 0+b.getD i 0+c):
  xo (out++[x%1073741824])+1073741824^(i+1)*(x / 1073741824)=xo (a.take (i+1))+xo (b.take (i+1)):=by
 rw[uz,zal,hi,uy a,uy b,Nat.pow_succ,Nat.mul_assoc];have e:1073741824^i*(x%1073741824)+1073741824^i*(1073741824*(x / 1073741824))=1073741824^i*x:=by
  rw[<-Nat.mul_add,Nat.mod_add_div]
 have e2:1073741824^i*x=1073741824^i*a.getD i 0+1073741824^i*b.getD i 0+1073741824^i*c:=by rw[hx,Nat.mul_add,Nat.mul_add]
 omega
theorem zjp {a b out:List Nat} {i br y br':Nat} (hi:out.length=i) (h:xo out+xo (b.take i)=xo (a.take i)+1073741824^i*br)
  (hy:y+b.getD i 0+br=a.getD i 0+1073741824*br'):
  xo (out++[y])+xo (b.take (i+1))=xo (a.take (i+1))+1073741824^(i+1)*br':=by
 rw[uz,zal,hi,uy a,uy b,Nat.pow_succ,Nat.mul_assoc];have e:=congrArg (1073741824^i*·) hy;simp only[Nat.mul_add]at e;omega
theorem zti {out:List Nat} {a b br:Nat} (hl:Limbs out) (h:xo out+b=a+1073741824^out.length*br) (hab:b<=a):xo out=a-b:=by
 have h1:=zim hl;cases br with
 | zero=>omega
 | succ br=>
  rw[Nat.mul_succ]at h;omega
theorem zq6 {out b:List Nat} {i j x c z P:Nat} (hl:i+j<out.length) (h:xo out+1073741824^(i+j)*c=P+1073741824^i*(x*xo (b.take j))) (hz:z=out.getD (i+j) 0+x*b.getD j 0+c):
  xo (out.set (i+j) (z%1073741824))+1073741824^(i+(j+1))*(z / 1073741824)=P+1073741824^i*(x*xo (b.take (j+1))):=by
 have h1:=zfe out (i+j) (z%1073741824) hl;rw[uy b];have e1:1073741824^(i+(j+1))*(z / 1073741824)=1073741824^(i+j)*(1073741824*(z / 1073741824)):=by
  rw[<-Nat.add_assoc,Nat.pow_succ,Nat.mul_assoc]
 have e2:1073741824^(i+j)*(z%1073741824)+1073741824^(i+j)*(1073741824*(z / 1073741824))=1073741824^(i+j)*z:=by
  rw[<-Nat.mul_add,Nat.mod_add_div]
 have e3:1073741824^i*(x*(xo (b.take j)+1073741824^j*b.getD j 0))=1073741824^i*(x*xo (b.take j))+1073741824^(i+j)*(x*b.getD j 0):=by
  rw[Nat.mul_add,Nat.mul_add,Nat.pow_add];congr 1;rw[Nat.mul_left_comm x,<-Nat.mul_assoc,<-Nat.mul_assoc,Nat.mul_assoc (1073741824^i*1073741824^j)]
 have e4:1073741824^(i+j)*z=1073741824^(i+j)*out.getD (i+j) 0+1073741824^(i+j)*(x*b.getD j 0)+1073741824^(i+j)*c:=by rw[hz,Nat.mul_add,Nat.mul_add]
 rw[e1,e3];omega
def yu (n:Nat):Nat:=if n=0 then 0 else n.log2+1
theorem ke (n:Nat):n<2^yu n:=by
 unfold yu;split
 ·subst_vars;simp
 ·exact Nat.lt_log2_self
theorem vw {n:Nat} (h:n≠0):2^(yu n-1)<=n:=by
 unfold yu;rw[if_neg h,Nat.add_sub_cancel];exact Nat.log2_self_le h
theorem un {n:Nat} (h:n≠0):1<=yu n:=by unfold yu;rw[if_neg h];omega
theorem zj4 {n k:Nat} (h1:2^k<=n) (h2:n<2^(k+1)):yu n=k+1:=by
 have hp:0<2^k:=Nat.pow_pos ze;have h0:n≠0:=zd;have a:=ke n;have b:=vw h0;have c:=un h0;have d1:=(Nat.pow_lt_pow_iff_right (a:=2) ze).1 (Nat.lt_of_le_of_lt h1 a);have d2:=(Nat.pow_lt_pow_iff_right (a:=2) ze).1 (Nat.lt_of_le_of_lt b h2);omega
theorem zlp {n:Nat} (h:n≠0):yu n=yu (n / 2)+1:=by
 by_cases h2:n / 2=0
 ·have:n=1:=zd;subst this;rfl
 ·have a:=vw h2;have b:=ke (n / 2);have c:=un h2;obtain⟨k,hk⟩:∃ k,yu (n / 2)=k+1:=⟨yu (n / 2)-1,zd⟩;rw[hk,Nat.add_sub_cancel]at a;rw[hk]at b ⊢;refine zj4 ?_ ?_
  ·rw[Nat.pow_succ];omega
  ·rw[Nat.pow_succ];omega
theorem zik {n:Nat} (h:n≠0):yu n=((yf n).length-1)*30+yu ((yf n).getD ((yf n).length-1) 0):=by
 have h1:=zg7 n h;have h2:=wu n;obtain⟨k,hk⟩:∃ k,(yf n).length=k+1:=by
  cases hr:yf n with
  | nil=>exact absurd hr (qn h)
  | cons y s=>exact⟨s.length,rfl⟩
 rw[hk,Nat.add_sub_cancel]at h1 ⊢;rw[hk]at h2;have h3:=zak (yf n) k zd;rw[xn (yf n) (k+1) zd,yfs]at h3;have h4:=zim ((wt n).take k);rw[List.length_take,Nat.min_eq_left zd]at h4;generalize (yf n).getD k 0=t at *
 generalize xo ((yf n).take k)=r at *
 have a:=vw h1;have b:=ke t;have c:=un h1;obtain⟨m,hm⟩:∃ m,yu t=m+1:=⟨yu t-1,zd⟩;rw[hm,Nat.add_sub_cancel]at a;rw[hm]at b ⊢;rw[js]at h3 h4;have e:k*30+(m+1)=(30*k+m)+1:=zd;rw[e];refine zj4 ?_ ?_
 ·rw[h3,Nat.pow_add];have:=Nat.mul_le_mul_left (2^(30*k)) a;omega
 ·rw[h3,show 30*k+m+1=30*k+(m+1) by omega,Nat.pow_add];have:=Nat.mul_le_mul_left (2^(30*k)) (show t+1<=2^(m+1) from b);rw[Nat.mul_add,Nat.mul_one]at this;omega
theorem zw4 (a n:Nat):(yf a).getD (n / 30) 0 / 2^(n%30)%2=a / 2^n%2:=by
 rw[qu,js];have e:n=30*(n / 30)+n%30:=zd;have h30:n%30<30:=Nat.mod_lt _ ze;have h1:a / 2^n=a / 2^(30*(n / 30)) / 2^(n%30):=by
  rw[Nat.div_div_eq_div_mul,<-Nat.pow_add,<-e]
 rw[h1];generalize a / 2^(30*(n / 30))=q;generalize n%30=r at h30;have h2:1073741824=2^r*2^(30-r):=by rw[<-Nat.pow_add,show r+(30-r)=30 by omega]
 have h3:2^(30-r)=2*2^(29-r):=by rw[show 30-r=(29-r)+1 by omega,Nat.pow_succ,Nat.mul_comm]
 rw[h2,Nat.mod_mul_right_div_self,h3,Nat.mod_mul_right_mod]
theorem zk8 {a out:List Nat} {i k s c y:Nat} (hi:out.length=k+i) (h:xo out+1073741824^(k+i)*c=1073741824^k*(xo (a.take i)*2^s)) (hy:y=a.getD i 0*2^s+c):
  xo (out++[y%1073741824])+1073741824^(k+(i+1))*(y / 1073741824)=1073741824^k*(xo (a.take (i+1))*2^s):=by
 rw[uz,zal,hi,uy a,<-Nat.add_assoc,Nat.pow_succ,Nat.mul_assoc,Nat.add_mul,Nat.mul_add];have e:1073741824^(k+i)*(y%1073741824)+1073741824^(k+i)*(1073741824*(y / 1073741824))=1073741824^(k+i)*y:=by
  rw[<-Nat.mul_add,Nat.mod_add_div]
 have e2:1073741824^(k+i)*y=1073741824^(k+i)*(a.getD i 0*2^s)+1073741824^(k+i)*c:=by rw[hy,Nat.mul_add]
 have e3:1073741824^k*(1073741824^i*a.getD i 0*2^s)=1073741824^(k+i)*(a.getD i 0*2^s):=by rw[Nat.pow_add,Nat.mul_assoc,Nat.mul_assoc]
 omega
theorem zoj (a n i:Nat):((yf a).getD (n / 30+i) 0 / 2^(n%30)+(yf a).getD (n / 30+i+1) 0*2^(30-n%30))%1073741824=a / 2^n / 1073741824^i%1073741824:=by
 rw[qu,qu,js,js,js];have h30:n%30<30:=Nat.mod_lt _ ze;have e0:n=30*(n / 30)+n%30:=zd;generalize hq:n / 30=q at *
 generalize hr:n%30=r at *
 have e1:a / 2^n / 2^(30*i)=a / 2^(30*(q+i)) / 2^r:=by
  rw[Nat.div_div_eq_div_mul,Nat.div_div_eq_div_mul,<-Nat.pow_add,<-Nat.pow_add];congr 2;omega
 have e2:a / 2^(30*(q+i+1))=a / 2^(30*(q+i)) / 1073741824:=by
  rw[Nat.div_div_eq_div_mul,show (1073741824:Nat)=2^30 by rfl,<-Nat.pow_add];congr 2
 rw[e1,e2];generalize a / 2^(30*(q+i))=x;have h2:1073741824=2^r*2^(30-r):=by rw[<-Nat.pow_add,show r+(30-r)=30 by omega]
 have p1:0<2^r:=Nat.pow_pos ze;have p2:0<2^(30-r):=Nat.pow_pos ze;have h3:x%1073741824 / 2^r=x / 2^r%2^(30-r):=by rw[h2,Nat.mod_mul_right_div_self]
 have h4:x / 1073741824=x / 2^r / 2^(30-r):=by rw[Nat.div_div_eq_div_mul,<-h2]
 rw[h3,h4];generalize x / 2^r=y;have h5:y / 2^(30-r)%1073741824*2^(30-r)%1073741824=y / 2^(30-r)*2^(30-r)%1073741824:=by rw[Nat.mod_mul_mod]
 rw[Nat.add_mod,h5,<-Nat.add_mod,Nat.mul_comm,Nat.mod_add_div]
theorem zrt (a b i:Nat) (hb:0<b):
  (b<=2*(a / 2^(i+1)%b)+a / 2^i%2->a / 2^i%b=2*(a / 2^(i+1)%b)+a / 2^i%2-b/\a / 2^i / b=2*(a / 2^(i+1) / b)+1)/\
  (¬b<=2*(a / 2^(i+1)%b)+a / 2^i%2->a / 2^i%b=2*(a / 2^(i+1)%b)+a / 2^i%2/\a / 2^i / b=2*(a / 2^(i+1) / b)):=by
 have e:a / 2^(i+1)=a / 2^i / 2:=by rw[Nat.pow_succ,Nat.div_div_eq_div_mul]
 rw[e];generalize a / 2^i=x;have h1:=Nat.div_add_mod (x / 2) b;have h2:=Nat.mod_lt (x / 2) hb;generalize x / 2 / b=q at h1 ⊢;generalize x / 2%b=r at h1 h2 ⊢;have hx:x=b*(2*q)+(2*r+x%2):=by
  have h3:b*(2*q)=2*(b*q):=Nat.mul_left_comm b 2 q;rw[h3];omega
 have ht:x%2<2:=Nat.mod_lt _ ze;constructor
 ·intro hle;have hx2:x=b*(2*q+1)+(2*r+x%2-b):=by
   rw[Nat.mul_succ];omega
  have hlt:2*r+x%2-b<b:=zd;generalize 2*r+x%2-b=s at hx2 hlt ⊢;refine⟨?_,?_⟩
  ·rw[hx2,Nat.mul_add_mod,Nat.mod_eq_of_lt hlt]
  ·rw[hx2,Nat.mul_add_div hb,Nat.div_eq_of_lt hlt,Nat.add_zero]
 ·intro hle;have hlt:2*r+x%2<b:=zd;generalize 2*r+x%2=s at hx hlt ⊢;refine⟨?_,?_⟩
  ·rw[hx,Nat.mul_add_mod,Nat.mod_eq_of_lt hlt]
  ·rw[hx,Nat.mul_add_div hb,Nat.div_eq_of_lt hlt,Nat.add_zero]
theorem zgw {l:List Nat} (h:Limbs l) (i Q:Nat) (hv:xo l=2^(i+1)*Q):l.getD (i / 30) 0+2^(i%30)<1073741824:=by
 rw[zuf h,hv,js];have h30:i%30<30:=Nat.mod_lt _ ze;have e0:i+1=30*(i / 30)+(i%30+1):=zd;generalize i / 30=k at *
 generalize i%30=r at *
 have p:0<2^(30*k):=Nat.pow_pos ze;have e1:2^(i+1)*Q / 2^(30*k)=2^(r+1)*Q:=by
  rw[e0,Nat.pow_add,Nat.mul_assoc,Nat.mul_div_cancel_left _ p]
 rw[e1];have e2:1073741824=2^(r+1)*2^(29-r):=by rw[<-Nat.pow_add,show r+1+(29-r)=30 by omega]
 have e3:2^(r+1)*Q%1073741824=2^(r+1)*(Q%2^(29-r)):=by rw[e2,Nat.mul_mod_mul_left]
 rw[e3];have p2:0<2^(29-r):=Nat.pow_pos ze;have h1:=Nat.mod_lt Q p2;have h2:=Nat.mul_le_mul_left (2^(r+1)) (show Q%2^(29-r)+1<=2^(29-r) from h1);rw[<-e2,Nat.mul_add,Nat.mul_one]at h2;have h3:2^(r+1)=2^r+2^r:=by rw[Nat.pow_succ];omega
 have p3:0<2^r:=Nat.pow_pos ze;omega
theorem zjz {l:List Nat} (i:Nat) (hi:i / 30<l.length):xo (l.set (i / 30) (l.getD (i / 30) 0+2^(i%30)))=xo l+2^i:=by
 have h:=zfe l (i / 30) (l.getD (i / 30) 0+2^(i%30)) hi;rw[Nat.mul_add]at h;have e:1073741824^(i / 30)*2^(i%30)=2^i:=by
  rw[js,<-Nat.pow_add];congr 1;omega
 omega
theorem zo3 (a b n:Nat) (hb:b≠0) (hn:yu a=yu b+n):a / 2^(n+1)<b:=by
 have h1:=ke a;have h2:=vw hb;have h3:=un hb;have h4:a / 2^(n+1)<2^(yu b-1):=by
  rw[Nat.div_lt_iff_lt_mul (Nat.pow_pos ze),<-Nat.pow_add,show yu b-1+(n+1)=yu a by omega];exact h1
 omega
theorem zo4 {a b:Nat} (h:yu a<yu b):a<b:=by
 have h1:=ke a;have hb:b≠0:=by
  intro h0;rw[h0]at h;simp[yu]at h
 have h2:=vw hb;have h3:2^yu a<=2^(yu b-1):=Nat.pow_le_pow_right ze zd;omega
theorem zha {a b:Nat} (h:(yf a).length<(yf b).length):a<b:=by
 rcases Nat.lt_or_ge a b with h1 | h1
 ·exact h1
 ·have:=qt h1;omega
theorem jl (a i:Nat):a / 1073741824^i=1073741824*(a / 1073741824^(i+1))+(yf a).getD i 0:=by
 rw[qu,Nat.pow_succ,<-Nat.div_div_eq_div_mul];omega
theorem zpf {a b:Nat} (h:(yf a).length=(yf b).length):a / 1073741824^(yf a).length=b / 1073741824^(yf a).length:=by
 rw[Nat.div_eq_of_lt (wu a),h,Nat.div_eq_of_lt (wu b)]
theorem zsv {a b i:Nat} (h:a / 1073741824^(i+1)=b / 1073741824^(i+1)) (hl:(yf a).getD i 0<(yf b).getD i 0):a<b:=by
 have h1:=jl a i;have h2:=jl b i;rcases Nat.lt_or_ge a b with h3 | h3
 ·exact h3
 ·have:=Nat.div_le_div_right (c:=1073741824^i) h3;omega
theorem zw1 {a b i:Nat} (h:a / 1073741824^(i+1)=b / 1073741824^(i+1)) (hl:(yf a).getD i 0=(yf b).getD i 0):a / 1073741824^i=b / 1073741824^i:=by
 rw[jl a i,jl b i,h,hl]
def ko (a b:Nat):Int:=if a<b then -1 else if b<a then 1 else 0
theorem zi9 {a b:Nat} (h:a<b):ko a b=-1:=by unfold ko;rw[if_pos h]
theorem zja {a b:Nat} (h:b<a):ko a b=1:=by unfold ko;rw[if_neg zd,if_pos h]
theorem zph {a b:Nat} (h:a=b):ko a b=0:=by unfold ko;rw[if_neg zd,if_neg zd]
def ycr (v:Nat):List UInt8:=if h:v=0 then [] else ycr (v / 10)++[UInt8.ofNat (48+v%10)]
termination_by v
decreasing_by omega
theorem yb9:ycr 0=[]:=by rw[ycr,dif_pos rfl]
theorem ycl {v:Nat} (h:v≠0):ycr v=ycr (v / 10)++[UInt8.ofNat (48+v%10)]:=by rw[ycr,dif_neg h]
theorem yep (v c:Nat) (hc:c<=9):ycr (10*v+c)=if v=0/\c=0 then [] else ycr v++[UInt8.ofNat (48+c)]:=by
 by_cases h:10*v+c=0
 ·rw[if_pos zd,h,yb9]
 ·rw[if_neg zd,ycl h];rw[show (10*v+c) / 10=v by omega,show (10*v+c)%10=c by omega]
def ycg (v:Nat):List UInt8:=if v=0 then [48] else ycr v
end Go.Proofs.YtnifedmhgncioaaGreatDoor
