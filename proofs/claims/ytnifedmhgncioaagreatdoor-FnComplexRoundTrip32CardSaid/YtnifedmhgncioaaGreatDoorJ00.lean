/- Lemmas that the claim's top text leans on. No condition of their own. -/
import Derived.Test.YtnifedmhgncioaaGreatDoorJM
import Derived.WalkKit
namespace Go.Proofs.YtnifedmhgncioaaGreatDoor
open Go.RowKit
set_option linter.unusedSimpArgs false
set_option linter.unusedVariables false
set_option maxHeartbeats 16000000
def wc (c:UInt8):Nat:=c.toNat|||32
def dgV (hex:Bool) (c:UInt8):Option Nat:=
 if 48<=c.toNat/\c.toNat<=57 then some (c.toNat-48) else if hex=true/\97<=wc c/\wc c<=102 then some (wc c-87) else none
def xe (hex:Bool) (c:UInt8):Bool:=(dgV hex c).isSome || c==95
structure RF where
 us:Bool
 dot:Bool
 dig:Bool
 nd:Nat
 nm:Nat
 dp:Int
 mant:Nat
 tr:Bool
def RF.init:RF:=⟨false,false,false,0,0,0,0,false⟩
def ju (hex:Bool):Nat:=if hex then 16 else 19
def xj (hex:Bool):Nat:=if hex then 16 else 10
def dgS (hex:Bool) (st:RF) (d:Nat):RF:=
 if d=0/\st.nd=0 then { st with dig:=true,dp:=st.dp-1 }
 else if st.nm<ju hex then { st with dig:=true,nd:=st.nd+1,nm:=st.nm+1,mant:=st.mant*xj hex+d }
 else { st with dig:=true,nd:=st.nd+1,tr:=st.tr || decide (d≠0) }
def scF (hex:Bool):List UInt8->RF->RF×List UInt8
 | [],st=>(st,[])
 | c::r,st=>
  if c=95 then scF hex r { st with us:=true }
  else if c=46 then (if st.dot then (st,c::r) else scF hex r { st with dot:=true,dp:=st.nd })
  else match dgV hex c with
   | some d=>scF hex r (dgS hex st d)
   | none=>(st,c::r)
def scE:List UInt8->Bool->Nat->Bool×Nat×List UInt8
 | [],us,e=>(us,e,[])
 | c::r,us,e=>
  if 48<=c.toNat/\c.toNat<=57 then scE r us (if e<10000 then e*10+(c.toNat-48) else e)
  else if c=95 then scE r true e else (us,e,c::r)
def okU (hex:Bool):List UInt8->Nat->Bool
 | [],saw=>decide (saw≠95)
 | c::r,saw=>if (dgV hex c).isSome then okU hex r 48 else if c=95 then (if saw=48 then okU hex r 95 else false) else if saw=95 then false else okU hex r 33
def sgn:List UInt8->Bool×List UInt8
 | []=>(false,[])
 | c::r=>if c=43 then (false,r) else if c=45 then (true,r) else (false,c::r)
def ztc:List UInt8->Bool
 | c::x::r=>if c=48/\(wc x=98\/wc x=111\/wc x=120) then okU (decide (wc x=120)) r 48 else okU false (c::x::r) 94
 | u=>okU false u 94
def zk0 (s:List UInt8):Bool:=ztc (sgn s).2
def yo:List UInt8->Bool
 | c::x::y::r=>decide (c=48/\wc x=120)
 | _=>false
structure RR where
 mant:Nat
 exp:Int
 neg:Bool
 tr:Bool
 hex:Bool
 n:Nat
def zdv (s:List UInt8) (neg hex:Bool) (st:RF) (dp:Int) (nm:Nat) (us:Bool) (rest:List UInt8):Option RR:=
 if us&&!zk0 (s.take (s.length-rest.length)) then none
 else some ⟨st.mant,if st.mant≠0 then dp-nm else 0,neg,st.tr,hex,s.length-rest.length⟩
def zf9 (s:List UInt8) (neg hex:Bool) (st:RF) (dp:Int) (nm:Nat) (rest:List UInt8):Option RR:=
 match rest with
 | []=>if hex then none else zdv s neg hex st dp nm st.us []
 | c::r1=>
  if wc c=(if hex then 112 else 101) then
   match (sgn r1).2 with
   | []=>none
   | d::r2=>if 48<=d.toNat/\d.toNat<=57 then zdv s neg hex st (dp+(if (sgn r1).1 then -((scE (d::r2) st.us 0).2.1:Int) else ((scE (d::r2) st.us 0).2.1:Int))) nm (scE (d::r2) st.us 0).1 (scE (d::r2) st.us 0).2.2 else none
  else if hex then none else zdv s neg hex st dp nm st.us (c::r1)
def rfP (s:List UInt8):Option RR:=
 if s=[] then none else
 let u:=(sgn s).2
 let hex:=yo u
 let st:=(scF hex (if hex then u.drop 2 else u) RF.init).1
 let rest:=(scF hex (if hex then u.drop 2 else u) RF.init).2
 if st.dig=false then none
 else zf9 s (sgn s).1 hex st ((if st.dot then st.dp else (st.nd:Int))*(if hex then 4 else 1)) (st.nm*(if hex then 4 else 1)) rest
structure Lit where
 neg:Bool
 hex:Bool
 da:List Nat
 db:List Nat
 en:Bool
 de:List Nat
def zhr (hex:Bool):List UInt8->Option (Bool×List Nat)
 | []=>if hex then none else some (false,[])
 | c::r=>if wc c=(if hex then 112 else 101)/\(sgn r).2≠[]/\(sgn r).2.all (xe false)=true/\okU false (sgn r).2 94=true then some ((sgn r).1,(sgn r).2.filterMap (dgV false)) else none
def yil (hex:Bool) (l:List UInt8):Option (List Nat×List Nat×Bool×List Nat):=
 let A:=l.takeWhile (xe hex)
 let r:=l.dropWhile (xe hex)
 let B:=if r.head?=some 46 then r.tail.takeWhile (xe hex) else []
 let r2:=if r.head?=some 46 then r.tail.dropWhile (xe hex) else r
 if A.filterMap (dgV hex)=[]/\B.filterMap (dgV hex)=[] then none
 else if okU hex A (if hex then 48 else 94)=true/\okU hex B 94=true then
  (zhr hex r2).map fun x=>(A.filterMap (dgV hex),B.filterMap (dgV hex),x.1,x.2)
 else none
def zau (s:List UInt8):Option Lit:=
 let u:=(sgn s).2
 let hex:=yo u
 (yil hex (if hex then u.drop 2 else u)).map fun x=>⟨(sgn s).1,hex,x.1,x.2.1,x.2.2.1,x.2.2.2⟩
theorem vu (P:UInt8->Prop) (h:∀ n:Fin 256,P (UInt8.ofNat n.val)) (c:UInt8):P c:=by
 have:=h ⟨c.toNat,c.toNat_lt⟩;simpa using this
theorem qx (hex:Bool):dgV hex 95=none:=by cases hex <;> decide
theorem zwq (hex:Bool):dgV hex 46=none:=by cases hex <;> decide
theorem jx (hex:Bool):xe hex 95=true:=by cases hex <;> decide
theorem zod (hex:Bool):xe hex 46=false:=by cases hex <;> decide
theorem za9 {hex:Bool} {c:UInt8} (h:xe hex c=true) (h2:c≠95):∃ d,dgV hex c=some d:=by
 unfold xe at h;simp only[Bool.or_eq_true,beq_iff_eq,h2,or_false]at h;exact Option.isSome_iff_exists.1 h
theorem zag {hex:Bool} {c:UInt8} (h:xe hex c=false):c≠95/\dgV hex c=none:=by
 unfold xe at h;simp only[Bool.or_eq_false_iff,beq_eq_false_iff_ne]at h;exact⟨h.2,by simpa using h.1⟩
theorem zo6 {hex:Bool} {c:UInt8} {d:Nat} (h:dgV hex c=some d):c≠95/\c≠46:=by
 constructor <;> intro e <;> subst e
 ·rw[qx]at h;cases h
 ·rw[zwq]at h;cases h
theorem zsu {hex:Bool} {c:UInt8} {d:Nat} (h:dgV hex c=some d):d<xj hex:=by
 unfold dgV at h;unfold xj;split at h
 ·cases h;split <;> omega
 ·split at h
  ·rename_i h1;cases h;rw[h1.1];simp;omega
  ·cases h
def stF (hex:Bool) (A:List UInt8) (st:RF):RF:={ (A.filterMap (dgV hex)).foldl (dgS hex) st with us:=st.us || A.contains 95 }
theorem zwr (hex:Bool) (st:RF) (d:Nat) (b:Bool):dgS hex { st with us:=b } d={ dgS hex st d with us:=b }:=by
 unfold dgS;dsimp only;split
 ·rfl
 ·split <;> rfl
theorem zop (hex:Bool):∀ (l:List Nat) (st:RF) (b:Bool),l.foldl (dgS hex) { st with us:=b }={ l.foldl (dgS hex) st with us:=b }
 | [],st,b=>rfl
 | d::l,st,b=>by rw[List.foldl_cons,zwr,zop hex l,List.foldl_cons]
theorem zi6 (hex:Bool) (st:RF) (d:Nat):(dgS hex st d).us=st.us/\(dgS hex st d).dot=st.dot:=by
 unfold dgS;split <;> (try split) <;> exact⟨rfl,rfl⟩
theorem zkk (hex:Bool):∀ (l:List Nat) (st:RF),(l.foldl (dgS hex) st).us=st.us/\(l.foldl (dgS hex) st).dot=st.dot
 | [],st=>⟨rfl,rfl⟩
 | d::l,st=>by
  rw[List.foldl_cons]
  have h1:=zkk hex l (dgS hex st d)
  have h2:=zi6 hex st d
  exact⟨h1.1.trans h2.1,h1.2.trans h2.2⟩
theorem zmv (hex:Bool) (st:RF):stF hex [] st=st:=by unfold stF;simp
theorem zmu (hex:Bool) (A:List UInt8) (st:RF):stF hex (95::A) st=stF hex A { st with us:=true }:=by
 unfold stF;rw[List.filterMap_cons_none (qx hex),zop hex (A.filterMap (dgV hex)) st true];simp
theorem zmw (hex:Bool) (c:UInt8) (d:Nat) (A:List UInt8) (st:RF) (h:dgV hex c=some d):stF hex (c::A) st=stF hex A (dgS hex st d):=by
 unfold stF;rw[List.filterMap_cons_some h,List.foldl_cons,(zi6 hex st d).1];have:(c::A).contains 95=A.contains 95:=by
  simp only[List.contains_cons];rw[show ((95:UInt8)==c)=false from beq_eq_false_iff_ne.2 (fun e=>(zo6 h).1 e.symm),Bool.false_or]
 rw[this]
theorem ze3 (hex:Bool):∀ (l:List UInt8) (st:RF),scF hex l st=
  (match l.dropWhile (xe hex) with
   | []=>(stF hex (l.takeWhile (xe hex)) st,[])
   | c::r=>if c=46/\st.dot=false then scF hex r { stF hex (l.takeWhile (xe hex)) st with dot:=true,dp:=((stF hex (l.takeWhile (xe hex)) st).nd:Nat) } else (stF hex (l.takeWhile (xe hex)) st,c::r))
 | [],st=>by rw[scF];simp[zmv]
 | c::r,st=>by
  by_cases hc:xe hex c=true
  ·rw[List.dropWhile_cons_of_pos hc,List.takeWhile_cons_of_pos hc]
   by_cases h95:c=95
   ·subst h95
    rw[scF,if_pos rfl,ze3 hex r,zmu]
   ·obtain⟨d,hd⟩:=za9 hc h95
    rw[scF,if_neg h95,if_neg (zo6 hd).2,hd]
    dsimp only
    rw[ze3 hex r,zmw hex c d _ st hd,(zi6 hex st d).2]
  ·have hc2:xe hex c=false:=by simpa using hc
   obtain⟨h95,hn⟩:=zag hc2
   rw[List.dropWhile_cons_of_neg hc,List.takeWhile_cons_of_neg hc,zmv,scF,if_neg h95]
   by_cases h46:c=46
   ·subst h46
    rw[if_pos rfl]
    cases hdot:st.dot <;> simp[hdot]
   ·rw[if_neg h46,hn]
    dsimp only
    rw[if_neg (fun h=>h46 h.1)]
section
def stL (hex:Bool) (da db:List Nat):RF:=db.foldl (dgS hex) { da.foldl (dgS hex) RF.init with dp:=((da.foldl (dgS hex) RF.init).nd:Nat) }
def goE (de:List Nat):Nat:=de.foldl (fun e d=>if e<10000 then e*10+d else e) 0
def goX (L:Lit):Int:=if L.en then -(goE L.de:Int) else (goE L.de:Int)
def goR (L:Lit) (n:Nat):RR:=
 ⟨(stL L.hex L.da L.db).mant,if (stL L.hex L.da L.db).mant≠0 then (stL L.hex L.da L.db).dp*(if L.hex then 4 else 1)+goX L-((stL L.hex L.da L.db).nm*(if L.hex then 4 else 1):Nat) else 0,L.neg,(stL L.hex L.da L.db).tr,L.hex,n⟩
theorem zo7 (hex:Bool) (st:RF) (d:Nat) (b c:Bool):dgS hex { st with us:=b,dot:=c } d={ dgS hex st d with us:=b,dot:=c }:=by
 unfold dgS;dsimp only;split
 ·rfl
 ·split <;> rfl
theorem zel (hex:Bool):∀ (l:List Nat) (st:RF) (b c:Bool),l.foldl (dgS hex) { st with us:=b,dot:=c }={ l.foldl (dgS hex) st with us:=b,dot:=c }
 | [],st,b,c=>rfl
 | d::l,st,b,c=>by rw[List.foldl_cons,zo7,zel hex l,List.foldl_cons]
theorem zuv (hex:Bool) (st:RF) (d:Nat):(dgS hex st d).dig=true:=by
 unfold dgS;split <;> (try split) <;> rfl
theorem zce (hex:Bool):∀ (l:List Nat) (st:RF),(l.foldl (dgS hex) st).dig=(st.dig || decide (l≠[]))
 | [],st=>by simp
 | d::l,st=>by rw[List.foldl_cons,zce hex l,zuv];simp
section
variable (hex : Bool) (l : List UInt8)
def ve:List UInt8:=l.takeWhile (xe hex)
def qi:List UInt8:=l.dropWhile (xe hex)
def yw:List UInt8:=if (qi hex l).head?=some 46 then (qi hex l).tail.takeWhile (xe hex) else []
def wx:List UInt8:=if (qi hex l).head?=some 46 then (qi hex l).tail.dropWhile (xe hex) else qi hex l
end
theorem ztt (hex:Bool) (l:List UInt8) (st:RF) (h:st.dot=true):scF hex l st=(stF hex (l.takeWhile (xe hex)) st,l.dropWhile (xe hex)):=by
 rw[ze3];cases l.dropWhile (xe hex) with
 | nil=>rfl
 | cons c r=>dsimp only;rw[if_neg (by rw[h];simp)]
theorem zh2 (hex:Bool) (l:List UInt8):
  (scF hex l RF.init).2=wx hex l/\(scF hex l RF.init).1.us=((ve hex l).contains 95 || (yw hex l).contains 95)/\
  (scF hex l RF.init).1.dig=decide (¬((ve hex l).filterMap (dgV hex)=[]/\(yw hex l).filterMap (dgV hex)=[]))/\
  (if (scF hex l RF.init).1.dot then (scF hex l RF.init).1.dp else ((scF hex l RF.init).1.nd:Int))=(stL hex ((ve hex l).filterMap (dgV hex)) ((yw hex l).filterMap (dgV hex))).dp/\
  (scF hex l RF.init).1.mant=(stL hex ((ve hex l).filterMap (dgV hex)) ((yw hex l).filterMap (dgV hex))).mant/\
  (scF hex l RF.init).1.nm=(stL hex ((ve hex l).filterMap (dgV hex)) ((yw hex l).filterMap (dgV hex))).nm/\
  (scF hex l RF.init).1.tr=(stL hex ((ve hex l).filterMap (dgV hex)) ((yw hex l).filterMap (dgV hex))).tr:=by
 rw[ze3];have hA:ve hex l=l.takeWhile (xe hex):=rfl;have hR:qi hex l=l.dropWhile (xe hex):=rfl;unfold yw wx;rw[<-hA,<-hR];generalize ve hex l=A at *
 have one:∀ r:List UInt8,(stF hex A RF.init,r).2=r/\(stF hex A RF.init,r).1.us=(A.contains 95 || ([]:List UInt8).contains 95)/\(stF hex A RF.init,r).1.dig=decide (¬(A.filterMap (dgV hex)=[]/\([]:List UInt8).filterMap (dgV hex)=[]))/\
   (if (stF hex A RF.init,r).1.dot then (stF hex A RF.init,r).1.dp else ((stF hex A RF.init,r).1.nd:Int))=(stL hex (A.filterMap (dgV hex)) (([]:List UInt8).filterMap (dgV hex))).dp/\
   (stF hex A RF.init,r).1.mant=(stL hex (A.filterMap (dgV hex)) (([]:List UInt8).filterMap (dgV hex))).mant/\(stF hex A RF.init,r).1.nm=(stL hex (A.filterMap (dgV hex)) (([]:List UInt8).filterMap (dgV hex))).nm/\(stF hex A RF.init,r).1.tr=(stL hex (A.filterMap (dgV hex)) (([]:List UInt8).filterMap (dgV hex))).tr:=by
  intro r;have hdot:=(zkk hex (A.filterMap (dgV hex)) RF.init).2;refine⟨rfl,?_,?_,?_,rfl,rfl,rfl⟩
  ·show (RF.init.us || A.contains 95)=_;simp[RF.init]
  ·show ((A.filterMap (dgV hex)).foldl (dgS hex) RF.init).dig=_;rw[zce];simp[RF.init]
  ·show (if ((A.filterMap (dgV hex)).foldl (dgS hex) RF.init).dot then _ else _)=_;rw[hdot];rfl
 cases hr:qi hex l with
 | nil=>
  dsimp only;rw[List.head?_nil,if_neg zi,if_neg zi];exact one []
 | cons c r=>
  dsimp only;by_cases hc:c=46
  ·subst hc;have hdot:RF.init.dot=false:=rfl;simp only[hdot,and_self,if_true,List.head?_cons,List.tail_cons];rw[ztt hex r _ rfl];have two:∀ (B r2:List UInt8),(stF hex B { stF hex A RF.init with dot:=true,dp:=((stF hex A RF.init).nd:Nat) },r2).2=r2/\(stF hex B { stF hex A RF.init with dot:=true,dp:=((stF hex A RF.init).nd:Nat) },r2).1.us=(A.contains 95 || B.contains 95)/\
     (stF hex B { stF hex A RF.init with dot:=true,dp:=((stF hex A RF.init).nd:Nat) },r2).1.dig=decide (¬(A.filterMap (dgV hex)=[]/\B.filterMap (dgV hex)=[]))/\
     (if (stF hex B { stF hex A RF.init with dot:=true,dp:=((stF hex A RF.init).nd:Nat) },r2).1.dot then (stF hex B { stF hex A RF.init with dot:=true,dp:=((stF hex A RF.init).nd:Nat) },r2).1.dp else ((stF hex B { stF hex A RF.init with dot:=true,dp:=((stF hex A RF.init).nd:Nat) },r2).1.nd:Int))=(stL hex (A.filterMap (dgV hex)) (B.filterMap (dgV hex))).dp/\
     (stF hex B { stF hex A RF.init with dot:=true,dp:=((stF hex A RF.init).nd:Nat) },r2).1.mant=(stL hex (A.filterMap (dgV hex)) (B.filterMap (dgV hex))).mant/\
     (stF hex B { stF hex A RF.init with dot:=true,dp:=((stF hex A RF.init).nd:Nat) },r2).1.nm=(stL hex (A.filterMap (dgV hex)) (B.filterMap (dgV hex))).nm/\
     (stF hex B { stF hex A RF.init with dot:=true,dp:=((stF hex A RF.init).nd:Nat) },r2).1.tr=(stL hex (A.filterMap (dgV hex)) (B.filterMap (dgV hex))).tr:=by
    intro B r2;have key:stF hex B { stF hex A RF.init with dot:=true,dp:=((stF hex A RF.init).nd:Nat) }={ stL hex (A.filterMap (dgV hex)) (B.filterMap (dgV hex)) with us:=A.contains 95 || B.contains 95,dot:=true }:=by
     unfold stL stF;dsimp only;have:=zel hex (B.filterMap (dgV hex)) { (A.filterMap (dgV hex)).foldl (dgS hex) RF.init with dp:=(((A.filterMap (dgV hex)).foldl (dgS hex) RF.init).nd:Nat) } (RF.init.us || A.contains 95) true;dsimp only at this;rw[this];simp[RF.init]
    rw[key];refine⟨rfl,rfl,?_,rfl,rfl,rfl,rfl⟩;show (stL hex (A.filterMap (dgV hex)) (B.filterMap (dgV hex))).dig=_;unfold stL;rw[zce];dsimp only;rw[zce];simp only[RF.init,Bool.false_or];by_cases h1:A.filterMap (dgV hex)=[] <;> by_cases h2:B.filterMap (dgV hex)=[] <;> simp[h1,h2]
   exact two (r.takeWhile (xe hex)) (r.dropWhile (xe hex))
  ·have e1:(c=46/\RF.init.dot=false)=False:=by simp[hc]
   have e2:((c::r).head?=some 46)=False:=by simp[hc]
   simp only[e1,e2,if_false];exact⟨trivial,(one (c::r)).2⟩
theorem zfc (hex:Bool) (l:List UInt8):okU hex l 33=okU hex l 94:=by
 cases l with
 | nil=>rfl
 | cons c r=>
  rw[okU,okU];split
  ·rfl
  ·split
   ·rfl
   ·rfl
theorem zfb (hex:Bool):∀ (l:List UInt8) (saw:Nat),okU hex l saw=(okU hex (l.takeWhile (xe hex)) saw&&(match l.dropWhile (xe hex) with | []=>true | _::r=>okU hex r 94))
 | [],saw=>by simp
 | c::r,saw=>by
  by_cases hc:xe hex c=true
  ·rw[List.dropWhile_cons_of_pos hc,List.takeWhile_cons_of_pos hc,okU,okU]
   by_cases h95:c=95
   ·subst h95
    rw[qx]
    simp only[Option.isSome_none,Bool.false_eq_true,if_false,if_true]
    by_cases h48:saw=48
    ·rw[if_pos h48,if_pos h48,zfb hex r]
    ·rw[if_neg h48,if_neg h48,Bool.false_and]
   ·obtain⟨d,hd⟩:=za9 hc h95
    rw[hd]
    simp only[Option.isSome_some,if_true]
    rw[zfb hex r]
  ·obtain⟨h95,hn⟩:=zag (show xe hex c=false by simpa using hc)
   rw[List.dropWhile_cons_of_neg hc,List.takeWhile_cons_of_neg hc,okU,okU,hn]
   simp only[Option.isSome_none,Bool.false_eq_true,if_false,h95]
   by_cases h:saw=95
   ·subst h;simp
   ·rw[if_neg h,zfc];simp[h]
theorem znl (hex:Bool):∀ (l:List UInt8) (saw:Nat),l.contains 95=false->saw≠95->okU hex l saw=true
 | [],saw,_,h=>by rw[okU];simpa using h
 | c::r,saw,hl,h=>by
  simp only[List.contains_cons,Bool.or_eq_false_iff]at hl
  have h95:c≠95:=fun e=>by rw[e]at hl;simp at hl
  rw[okU,if_neg h95,if_neg h]
  split
  ·exact znl hex r 48 hl.2 zd
  ·exact znl hex r 33 hl.2 zd
theorem zuu {hex:Bool} {c:UInt8} (h:xe false c=true):(dgV hex c).isSome=(dgV false c).isSome:=by
 unfold xe at h;unfold dgV at h ⊢;by_cases h1:48<=c.toNat/\c.toNat<=57
 ·rw[if_pos h1,if_pos h1]
 ·rw[if_neg h1]at h ⊢;rw[if_neg zi]at h;simp at h;subst h;rw[if_neg h1];cases hex <;> rfl
theorem znm (hex:Bool):∀ (l:List UInt8) (saw:Nat),l.all (xe false)=true->okU hex l saw=okU false l saw
 | [],saw,_=>rfl
 | c::r,saw,h=>by
  simp only[List.all_cons,Bool.and_eq_true]at h
  have hr:=fun s=>znm hex r s h.2
  rw[okU,okU,zuu h.1,hr,hr,hr]
theorem xq (c:UInt8) (r:List UInt8):sgn (c::r)=if c=43 then (false,r) else if c=45 then (true,r) else (false,c::r):=rfl
theorem zt6 (hex:Bool) (l:List UInt8):okU hex l 94=okU hex (sgn l).2 94:=by
 cases l with
 | nil=>rfl
 | cons c r=>
  rw[xq];by_cases h1:c=43
  ·subst h1;rw[if_pos rfl,okU];have:dgV hex 43=none:=by cases hex <;> decide
   rw[this];simp only[Option.isSome_none,Bool.false_eq_true,if_false];rw[if_neg ze,if_neg ze,zfc]
  ·rw[if_neg h1];by_cases h2:c=45
   ·subst h2;rw[if_pos rfl,okU];have:dgV hex 45=none:=by cases hex <;> decide
    rw[this];simp only[Option.isSome_none,Bool.false_eq_true,if_false];rw[if_neg ze,if_neg ze,zfc]
   ·rw[if_neg h2]
theorem zcu:∀ (l:List UInt8) (us:Bool) (e:Nat),scE l us e=(us || (l.takeWhile (xe false)).contains 95,((l.takeWhile (xe false)).filterMap (dgV false)).foldl (fun e d=>if e<10000 then e*10+d else e) e,l.dropWhile (xe false))
 | [],us,e=>by simp[scE]
 | c::r,us,e=>by
  rw[scE]
  by_cases h1:48<=c.toNat/\c.toNat<=57
  ·have hd:dgV false c=some (c.toNat-48):=by unfold dgV;rw[if_pos h1]
   have hc:xe false c=true:=by unfold xe;rw[hd];rfl
   have h95:c≠95:=(zo6 hd).1
   rw[if_pos h1,List.takeWhile_cons_of_pos hc,List.dropWhile_cons_of_pos hc,zcu r,List.filterMap_cons_some hd,List.foldl_cons,List.contains_cons,show ((95:UInt8)==c)=false from beq_eq_false_iff_ne.2 (fun e=>h95 e.symm),Bool.false_or]
  ·rw[if_neg h1]
   by_cases h2:c=95
   ·subst h2
    rw[if_pos rfl,List.takeWhile_cons_of_pos (jx false),List.dropWhile_cons_of_pos (jx false),zcu r,List.filterMap_cons_none (qx false)]
    simp
   ·have hn:dgV false c=none:=by unfold dgV;rw[if_neg h1,if_neg zi]
    have hc:xe false c=false:=by unfold xe;rw[hn];simpa using h2
    rw[if_neg h2,List.takeWhile_cons_of_neg (by simp[hc]),List.dropWhile_cons_of_neg (by simp[hc])]
    simp
end
theorem zue (hex:Bool) (l:List UInt8):yil hex l=
  if (ve hex l).filterMap (dgV hex)=[]/\(yw hex l).filterMap (dgV hex)=[] then none
  else if okU hex (ve hex l) (if hex then 48 else 94)=true/\okU hex (yw hex l) 94=true then
   (zhr hex (wx hex l)).map fun x=>((ve hex l).filterMap (dgV hex),(yw hex l).filterMap (dgV hex),x.1,x.2)
  else none:=rfl
theorem jp {p:UInt8->Bool}:∀ {l:List UInt8} {c:UInt8} {r:List UInt8},l.dropWhile p=c::r->p c=false
 | a::l,c,r,h=>by
  by_cases ha:p a=true
  ·rw[List.dropWhile_cons_of_pos ha]at h;exact jp h
  ·rw[List.dropWhile_cons_of_neg ha]at h;cases h;simpa using ha
theorem zt8 (hex:Bool) (r:List UInt8) (h:(sgn r).2.all (xe false)=true):okU hex r 94=okU false (sgn r).2 94:=by
 rw[zt6,znm hex _ _ h]
theorem zt7 (hex:Bool) (l:List UInt8) (saw:Nat):okU hex l saw=(okU hex (ve hex l) saw&&(okU hex (yw hex l) 94&&(match wx hex l with | []=>true | _::r=>okU hex r 94))):=by
 rw[zfb];have hA:ve hex l=l.takeWhile (xe hex):=rfl;have hR:qi hex l=l.dropWhile (xe hex):=rfl;unfold yw wx;rw[<-hA,<-hR];congr 1;have hn:okU hex [] 94=true:=rfl;cases hr:qi hex l with
 | nil=>simp[hn]
 | cons c r=>
  dsimp only;by_cases hc:c=46
  ·subst hc;simp only[List.head?_cons,if_true,List.tail_cons];rw[zfb];try rfl
  ·have e2:((c::r).head?=some 46)=False:=by simp[hc]
   simp only[e2,if_false,hn,Bool.true_and]
theorem zp8 (u:List UInt8) (hx:yo u=false) (h:∀ c r,wx false u=c::r->wc c=101):ztc u=okU false u 94:=by
 unfold ztc;split
 ·rename_i c x r;rw[if_neg ?_];rintro⟨rfl,hx2⟩;have h48:xe false 48=true:=ze;have hnx:xe false x=false:=by
   unfold xe dgV;have hx3:wc x=98\/wc x=111\/wc x=120:=hx2;revert hx3;refine vu (fun x=>wc x=98\/wc x=111\/wc x=120->((if 48<=x.toNat/\x.toNat<=57 then some (x.toNat-48) else if false=true/\97<=wc x/\wc x<=102 then some (wc x-87) else none).isSome || x==95)=false) ?_ x;decide +kernel
  have hx46:x≠46:=by intro e;subst e;revert hx2;decide
  have hR:qi false (48::x::r)=x::r:=by
   unfold qi;rw[List.dropWhile_cons_of_pos h48,List.dropWhile_cons_of_neg (by simp[hnx])]
  have hR2:wx false (48::x::r)=x::r:=by
   unfold wx;rw[hR,if_neg (by simpa using hx46)]
  have:=h x r hR2;omega
 ·rfl
theorem zp7 (u:List UInt8) (hx:yo u=true):ztc u=okU true (u.drop 2) 48:=by
 unfold yo at hx;split at hx
 ·rename_i c x y r;simp only[decide_eq_true_eq]at hx;unfold ztc;dsimp only;rw[if_pos ⟨hx.1,Or.inr (Or.inr hx.2)⟩,decide_eq_true hx.2];rfl
 ·cases hx
def yj (s:List UInt8):List UInt8:=if yo (sgn s).2 then (sgn s).2.drop 2 else (sgn s).2
theorem ztb (s:List UInt8) (h:∀ c r,wx (yo (sgn s).2) (yj s)=c::r->wc c=(if yo (sgn s).2 then 112 else 101)):
  zk0 s=(okU (yo (sgn s).2) (ve (yo (sgn s).2) (yj s)) (if yo (sgn s).2 then 48 else 94)&&(okU (yo (sgn s).2) (yw (yo (sgn s).2) (yj s)) 94&&(match wx (yo (sgn s).2) (yj s) with | []=>true | _::r=>okU (yo (sgn s).2) r 94))):=by
 rw[<-zt7];unfold zk0;cases hx:yo (sgn s).2
 ·have hb:yj s=(sgn s).2:=by unfold yj;rw[hx];rfl
  rw[hb]at h ⊢;rw[hx]at h;exact zp8 _ hx h
 ·have hb:yj s=(sgn s).2.drop 2:=by unfold yj;rw[hx];rfl
  rw[hb];exact zp7 _ hx
theorem zc3 {hex:Bool} {l:List UInt8} {saw:Nat} (h:okU hex l saw=false) (hs:saw≠95):l.contains 95=true:=by
 cases hc:l.contains 95
 ·rw[znl hex l saw hc hs]at h;cases h
 ·rfl
theorem rf_eq (s:List UInt8) (hs:s≠[]) (hd:¬((ve (yo (sgn s).2) (yj s)).filterMap (dgV (yo (sgn s).2))=[]/\(yw (yo (sgn s).2) (yj s)).filterMap (dgV (yo (sgn s).2))=[])):
  ∃ st:RF,st.us=((ve (yo (sgn s).2) (yj s)).contains 95 || (yw (yo (sgn s).2) (yj s)).contains 95)/\st.mant=(stL (yo (sgn s).2) ((ve (yo (sgn s).2) (yj s)).filterMap (dgV (yo (sgn s).2))) ((yw (yo (sgn s).2) (yj s)).filterMap (dgV (yo (sgn s).2)))).mant/\
   st.tr=(stL (yo (sgn s).2) ((ve (yo (sgn s).2) (yj s)).filterMap (dgV (yo (sgn s).2))) ((yw (yo (sgn s).2) (yj s)).filterMap (dgV (yo (sgn s).2)))).tr/\
   rfP s=zf9 s (sgn s).1 (yo (sgn s).2) st ((stL (yo (sgn s).2) ((ve (yo (sgn s).2) (yj s)).filterMap (dgV (yo (sgn s).2))) ((yw (yo (sgn s).2) (yj s)).filterMap (dgV (yo (sgn s).2)))).dp*(if yo (sgn s).2 then 4 else 1))
    ((stL (yo (sgn s).2) ((ve (yo (sgn s).2) (yj s)).filterMap (dgV (yo (sgn s).2))) ((yw (yo (sgn s).2) (yj s)).filterMap (dgV (yo (sgn s).2)))).nm*(if yo (sgn s).2 then 4 else 1)) (wx (yo (sgn s).2) (yj s)):=by
 obtain⟨h1,h2,h3,h4,h5,h6,h7⟩:=zh2 (yo (sgn s).2) (yj s);refine⟨(scF (yo (sgn s).2) (yj s) RF.init).1,h2,h5,h7,?_⟩;unfold rfP;rw[if_neg hs];dsimp only;have hb:(if yo (sgn s).2=true then List.drop 2 (sgn s).2 else (sgn s).2)=yj s:=rfl;rw[hb,h3,if_neg (by simpa using hd),h1,h4,h6]
theorem zeo (s:List UInt8) (neg hex:Bool) (st:RF) (dp:Int) (nm:Nat) (us:Bool) (rest:List UInt8) (R:RR) (hr:rest.length<=s.length) (hs:s≠[]) (h:zdv s neg hex st dp nm us rest=some R) (hn:R.n=s.length):rest=[]:=by
 unfold zdv at h;split at h
 ·cases h
 ·cases h;dsimp only at hn;have:0<s.length:=List.length_pos_iff.2 hs;exact List.length_eq_zero_iff.1 zd
theorem zdc (p:UInt8->Bool) (l:List UInt8):(l.dropWhile p).length<=l.length:=(List.dropWhile_sublist p).length_le
theorem zfl (l:List UInt8):(sgn l).2.length<=l.length:=by
 cases l with
 | nil=>exact Nat.le_refl _
 | cons c r=>rw[xq];split <;> (try split) <;> simp
theorem zwa (hex:Bool) (l:List UInt8):(wx hex l).length<=l.length:=by
 unfold wx qi;have h1:=zdc (xe hex) l;split
 ·have h2:=zdc (xe hex) (l.dropWhile (xe hex)).tail;rw[List.length_tail]at h2;omega
 ·exact h1
theorem zkb (s:List UInt8):(yj s).length<=s.length:=by
 unfold yj;have:=zfl s;split
 ·rw[List.length_drop];omega
 ·exact this
theorem zas {p:UInt8->Bool}:∀ {l:List UInt8},l.dropWhile p=[]↔l.all p=true
 | []=>by simp
 | c::r=>by
  by_cases hc:p c=true
  ·rw[List.dropWhile_cons_of_pos hc,List.all_cons,hc,Bool.true_and];exact zas
  ·rw[List.dropWhile_cons_of_neg hc,List.all_cons];simp[hc]
theorem zcg {p:UInt8->Bool}:∀ {l:List UInt8},l.all p=true->l.takeWhile p=l
 | [],_=>rfl
 | c::r,h=>by
  simp only[List.all_cons,Bool.and_eq_true]at h
  rw[List.takeWhile_cons_of_pos h.1,zcg h.2]
theorem zfy (c:UInt8):(dgV false c).isSome=true↔48<=c.toNat/\c.toNat<=57:=by
 unfold dgV;by_cases h:48<=c.toNat/\c.toNat<=57
 ·rw[if_pos h];simp[h]
 ·rw[if_neg h,if_neg zi];simp[h]
def zdb (s:List UInt8) (x:Bool×List Nat):Lit:=⟨(sgn s).1,yo (sgn s).2,(ve (yo (sgn s).2) (yj s)).filterMap (dgV (yo (sgn s).2)),(yw (yo (sgn s).2) (yj s)).filterMap (dgV (yo (sgn s).2)),x.1,x.2⟩
theorem jv (s:List UInt8):zau s=
  if (ve (yo (sgn s).2) (yj s)).filterMap (dgV (yo (sgn s).2))=[]/\(yw (yo (sgn s).2) (yj s)).filterMap (dgV (yo (sgn s).2))=[] then none
  else if okU (yo (sgn s).2) (ve (yo (sgn s).2) (yj s)) (if yo (sgn s).2 then 48 else 94)=true/\okU (yo (sgn s).2) (yw (yo (sgn s).2) (yj s)) 94=true then
   (zhr (yo (sgn s).2) (wx (yo (sgn s).2) (yj s))).map (zdb s)
  else none:=by
 unfold zau;dsimp only;have hb:(if yo (sgn s).2=true then List.drop 2 (sgn s).2 else (sgn s).2)=yj s:=rfl;rw[hb,zue];split
 ·rfl
 ·by_cases h1:okU (yo (sgn s).2) (ve (yo (sgn s).2) (yj s)) (if yo (sgn s).2 then 48 else 94)=true/\okU (yo (sgn s).2) (yw (yo (sgn s).2) (yj s)) 94=true
  ·rw[if_pos h1,if_pos h1,Option.map_map];rfl
  ·rw[if_neg h1,if_neg h1];rfl
def Agr (s:List UInt8) (o:Option Lit) (rf:Option RR):Prop:=match o with | some L=>rf=some (goR L s.length) | none=>∀ R,rf=some R->R.n≠s.length
theorem Agr.no {s:List UInt8} {o:Option Lit} {rf:Option RR} (ho:o=none) (h:∀ R,rf=some R->R.n≠s.length):Agr s o rf:=by subst ho;exact h
theorem zsg (s:List UInt8):Agr s (zau s) (rfP s):=by
 rw[jv];by_cases hs:s=[]
 ·subst hs;refine Agr.no rfl ?_;intro R h;unfold rfP at h;rw[if_pos rfl]at h;cases h
 by_cases hd:(ve (yo (sgn s).2) (yj s)).filterMap (dgV (yo (sgn s).2))=[]/\(yw (yo (sgn s).2) (yj s)).filterMap (dgV (yo (sgn s).2))=[]
 ·rw[if_pos hd];refine Agr.no rfl ?_;intro R h;exfalso;obtain⟨-,-,h3,-⟩:=zh2 (yo (sgn s).2) (yj s);unfold rfP at h;rw[if_neg hs]at h;dsimp only at h;have hb:(if yo (sgn s).2=true then List.drop 2 (sgn s).2 else (sgn s).2)=yj s:=rfl;rw[hb,h3,if_pos (by simpa using hd)]at h;cases h
 rw[if_neg hd];obtain⟨st,u1,u2,u3,hrf⟩:=rf_eq s hs hd;have hlen:(wx (yo (sgn s).2) (yj s)).length<=s.length:=Nat.le_trans (zwa _ _) (zkb s);have hund:=ztb s;have hof:=fun x=>(show zdb s x=⟨(sgn s).1,yo (sgn s).2,(ve (yo (sgn s).2) (yj s)).filterMap (dgV (yo (sgn s).2)),(yw (yo (sgn s).2) (yj s)).filterMap (dgV (yo (sgn s).2)),x.1,x.2⟩ from rfl)
 rw[hrf];have hgo:∀ x:Bool×List Nat,goR (zdb s x) s.length=⟨(stL (yo (sgn s).2) ((ve (yo (sgn s).2) (yj s)).filterMap (dgV (yo (sgn s).2))) ((yw (yo (sgn s).2) (yj s)).filterMap (dgV (yo (sgn s).2)))).mant,if (stL (yo (sgn s).2) ((ve (yo (sgn s).2) (yj s)).filterMap (dgV (yo (sgn s).2))) ((yw (yo (sgn s).2) (yj s)).filterMap (dgV (yo (sgn s).2)))).mant≠0 then (stL (yo (sgn s).2) ((ve (yo (sgn s).2) (yj s)).filterMap (dgV (yo (sgn s).2))) ((yw (yo (sgn s).2) (yj s)).filterMap (dgV (yo (sgn s).2)))).dp*(if yo (sgn s).2 then 4 else 1)+(if x.1 then -(goE x.2:Int) else (goE x.2:Int))-((stL (yo (sgn s).2) ((ve (yo (sgn s).2) (yj s)).filterMap (dgV (yo (sgn s).2))) ((yw (yo (sgn s).2) (yj s)).filterMap (dgV (yo (sgn s).2)))).nm*(if yo (sgn s).2 then 4 else 1):Nat) else 0,(sgn s).1,(stL (yo (sgn s).2) ((ve (yo (sgn s).2) (yj s)).filterMap (dgV (yo (sgn s).2))) ((yw (yo (sgn s).2) (yj s)).filterMap (dgV (yo (sgn s).2)))).tr,yo (sgn s).2,s.length⟩:=fun x=>rfl
 clear hof;generalize hA:ve (yo (sgn s).2) (yj s)=A at *
 generalize hB:yw (yo (sgn s).2) (yj s)=B at *
 generalize stL (yo (sgn s).2) (A.filterMap (dgV (yo (sgn s).2))) (B.filterMap (dgV (yo (sgn s).2)))=T at *
 generalize hr2:wx (yo (sgn s).2) (yj s)=r2 at *
 generalize (sgn s).1=neg at *
 generalize hhex:yo (sgn s).2=hex at *
 cases r2 with
 | nil=>
  have hund:=hund zi;dsimp only at hund;unfold zf9 zhr;cases hex
  ·simp only[Bool.false_eq_true,if_false];unfold zdv;rw[show s.take (s.length-([]:List UInt8).length)=s by simp,hund,u1,u2,u3];by_cases hok:okU false A 94=true/\okU false B 94=true
   ·simp only[Bool.false_eq_true,if_false]at hok hgo ⊢;rw[if_pos hok,hok.1,hok.2];simp[Agr,hgo,goE]
   ·simp only[Bool.false_eq_true,if_false]at hok ⊢;rw[if_neg hok];refine Agr.no rfl ?_;intro R h;exfalso;have hus:(A.contains 95 || B.contains 95)=true:=by
     cases h1:okU false A 94
     ·rw[zc3 h1 zd];rfl
     ·cases h2:okU false B 94
      ·rw[zc3 h2 zd];simp
      ·exact absurd ⟨h1,h2⟩ hok
    rw[hus]at h;have hf:(okU false A 94&&(okU false B 94&&true))=false:=by
     cases h1:okU false A 94
     ·rfl
     ·cases h2:okU false B 94
      ·rfl
      ·exact absurd ⟨h1,h2⟩ hok
    rw[hf]at h;simp at h
  ·simp only[if_true];exact Agr.no zi (by intro R h;cases h)
 | cons c r1=>
  have hlen1:r1.length+1<=s.length:=by simpa using hlen
  unfold zf9 zhr;dsimp only;by_cases hlow:wc c=(if hex=true then 112 else 101)
  ·have hund:=hund (by intro c' r' h;cases h;exact hlow);dsimp only at hund;simp only[hlow,if_true,true_and];cases hX:(sgn r1).2 with
   | nil=>
    dsimp only;simp only[ne_eq,not_true,false_and,if_false,Option.map_none];exact Agr.no zi (by intro R h;cases h)
   | cons d r2=>
    dsimp only;have hXl:(d::r2).length<=s.length:=by rw[<-hX];have:=zfl r1;omega
    by_cases hdd:48<=d.toNat/\d.toNat<=57
    ·rw[if_pos hdd];have hdn:=(zfy d).2 hdd;by_cases hall:(d::r2).all (xe false)=true
     ·have hsc:=zcu (d::r2) st.us 0;rw[zcg hall,zas.2 hall]at hsc;rw[hsc];dsimp only;unfold zdv;rw[show s.take (s.length-([]:List UInt8).length)=s by simp,hund,zt8 hex r1 (by rw[hX];exact hall),hX,u1,u2,u3];by_cases hok:okU hex A (if hex=true then 48 else 94)=true/\okU hex B 94=true
      ·rw[if_pos hok,hok.1,hok.2,hall];by_cases hokX:okU false (d::r2) 94=true
       ·rw[hokX,if_pos ⟨zi,rfl,rfl⟩];simp[Agr,hgo,goE]
       ·rw[if_neg (fun h=>hokX h.2.2)];refine Agr.no rfl ?_;intro R h;exfalso;have hf:okU false (d::r2) 94=false:=by simpa using hokX
        rw[hf,zc3 hf zd]at h;simp at h
      ·rw[if_neg hok];intro R h;exfalso;have hus:(A.contains 95 || B.contains 95)=true:=by
        cases h1:okU hex A (if hex=true then 48 else 94)
        ·rw[zc3 h1 (by split <;> omega)];rfl
        ·cases h2:okU hex B 94
         ·rw[zc3 h2 zd];simp
         ·exact absurd ⟨h1,h2⟩ hok
       rw[hus]at h;have hf:(okU hex A (if hex=true then 48 else 94)&&(okU hex B 94&&okU false (d::r2) 94))=false:=by
        cases h1:okU hex A (if hex=true then 48 else 94)
        ·rfl
        ·cases h2:okU hex B 94
         ·rfl
         ·exact absurd ⟨h1,h2⟩ hok
       rw[hf]at h;simp at h
     ·have key:∀ R,zdv s neg hex st (T.dp*(if hex=true then 4 else 1)+(if (sgn r1).1=true then -((scE (d::r2) st.us 0).2.1:Int) else ((scE (d::r2) st.us 0).2.1:Int))) (T.nm*(if hex=true then 4 else 1)) (scE (d::r2) st.us 0).1 (scE (d::r2) st.us 0).2.2=some R->R.n≠s.length:=by
       intro R h hn;have hrest:(scE (d::r2) st.us 0).2.2=(d::r2).dropWhile (xe false):=by rw[zcu]
       have:=zeo s neg hex st _ _ _ _ R (by rw[hrest];exact Nat.le_trans (zdc _ _) hXl) hs h hn;rw[hrest]at this;exact hall (zas.1 this)
      exact Agr.no (by simp only[if_neg (show ¬(d::r2≠[]/\(d::r2).all (xe false)=true/\okU false (d::r2) 94=true) from fun h=>hall h.2.1),Option.map_none,ite_self]) key
    ·rw[if_neg hdd];have hnone:¬((d::r2).all (xe false)=true/\okU false (d::r2) 94=true):=by
      rintro⟨h1,h2⟩;simp only[List.all_cons,Bool.and_eq_true]at h1;have hdn:(dgV false d).isSome=false:=by
       cases h3:(dgV false d).isSome
       ·rfl
       ·exact absurd ((zfy d).1 h3) hdd
      have h95:d=95:=by
       have:=h1.1;unfold xe at this;rw[hdn,Bool.false_or]at this;simpa using this
      rw[okU,hdn]at h2;simp[h95]at h2
     exact Agr.no (by simp only[if_neg (show ¬(d::r2≠[]/\(d::r2).all (xe false)=true/\okU false (d::r2) 94=true) from fun h=>hnone h.2),Option.map_none,ite_self]) (by intro R h;cases h)
  ·simp only[hlow,if_false,false_and];have key:∀ R,(if hex=true then none else zdv s neg hex st (T.dp*(if hex=true then 4 else 1)) (T.nm*(if hex=true then 4 else 1)) st.us (c::r1))=some R->R.n≠s.length:=by
    intro R h hn;split at h
    ·cases h
    ·have:=zeo s neg hex st _ _ _ _ R (by simpa using hlen1) hs h hn;cases this
   exact Agr.no zi key
def dgN (b:Nat) (l:List Nat):Nat:=l.foldl (fun n d=>n*b+d) 0
def zb7 (hex:Bool):Nat:=if hex then 4 else 1
def zjn (hex:Bool):Nat:=if hex then 2 else 10
theorem zjm (hex:Bool):zjn hex^zb7 hex=xj hex:=by cases hex <;> rfl
theorem zf4 (hex:Bool):2<=xj hex:=by cases hex <;> decide
theorem zjl (hex:Bool):2<=zjn hex:=by cases hex <;> decide
theorem zfz (b:Nat):∀ (l:List Nat) (n:Nat),l.foldl (fun n d=>n*b+d) n=n*b^l.length+dgN b l
 | [],n=>by simp[dgN]
 | d::l,n=>by
  have h1:=zfz b l (n*b+d)
  have h2:=zfz b l (0*b+d)
  have e:dgN b (d::l)=l.foldl (fun n d=>n*b+d) (0*b+d):=rfl
  rw[e,h2,List.foldl_cons,h1,List.length_cons,Nat.pow_succ,Nat.add_mul,Nat.zero_mul,Nat.zero_add,Nat.mul_assoc n,Nat.mul_comm b,Nat.add_assoc]
theorem zeq (b:Nat) (l k:List Nat):dgN b (l++k)=dgN b l*b^k.length+dgN b k:=by
 unfold dgN;rw[List.foldl_append];exact zfz b k _
theorem zko (b:Nat) (hb:0<b):∀ (l:List Nat),(∀ d ∈ l,d<b)->dgN b l<b^l.length
 | [],_=>by simp[dgN]
 | d::l,h=>by
  have h1:=zko b hb l (fun x hx=>h x (List.mem_cons_of_mem _ hx))
  have h2:=h d List.mem_cons_self
  have e:dgN b (d::l)=d*b^l.length+dgN b l:=by
   have:=zeq b [d] l;simpa[dgN]using this
  rw[e,List.length_cons,Nat.pow_succ,Nat.mul_comm _ b];have h3:(d+1)*b^l.length<=b*b^l.length:=Nat.mul_le_mul_right _ h2;rw[Nat.add_mul,Nat.one_mul]at h3;omega
structure SI (b M N:Nat) (st:RF):Prop where
 nd0:N=0->st.nd=0
 lo:N≠0->1<=st.nd/\b^(st.nd-1)<=N
 hi:N<b^st.nd
 nm:st.nm=min st.nd M
 mant:st.mant=N / b^(st.nd-st.nm)
 tr:st.tr=decide (N%b^(st.nd-st.nm)≠0)
theorem SI.init (b M:Nat):SI b M 0 RF.init:=⟨fun _=>rfl,fun h=>absurd rfl h,zαN,zαN,zαN,zαN⟩
theorem zc6 (N b d z:Nat) (hd:d<b):(N*b+d)%b^(z+1)=(N%b^z)*b+d:=by
 rw[Nat.pow_succ,Nat.mul_comm (b^z) b,Nat.mod_mul];have h1:(N*b+d)%b=d:=by rw[Nat.mul_comm,Nat.mul_add_mod,Nat.mod_eq_of_lt hd]
 have h2:(N*b+d) / b=N:=by rw[Nat.mul_comm,Nat.mul_add_div zd,Nat.div_eq_of_lt hd,Nat.add_zero]
 rw[h1,h2,Nat.mul_comm b,Nat.add_comm]
theorem zc7 (N b d z:Nat) (hd:d<b):(N*b+d) / b^(z+1)=N / b^z:=by
 rw[Nat.pow_succ,Nat.mul_comm (b^z) b,<-Nat.div_div_eq_div_mul];have h2:(N*b+d) / b=N:=by rw[Nat.mul_comm,Nat.mul_add_div zd,Nat.div_eq_of_lt hd,Nat.add_zero]
 rw[h2]
theorem SI.step {hex:Bool} {N d:Nat} {st:RF} (h:SI (xj hex) (ju hex) N st) (hd:d<xj hex):SI (xj hex) (ju hex) (N*xj hex+d) (dgS hex st d):=by
 obtain⟨a1,a2,a3,a4,a5,a6⟩:=h;have hb:=zf4 hex;have hM:1<=ju hex:=by cases hex <;> decide
 unfold dgS;generalize xj hex=b at *
 generalize ju hex=M at *
 by_cases c0:d=0/\st.nd=0
 ·rw[if_pos c0];have hN:N=0:=by have:=a3;rw[c0.2,Nat.pow_zero]at this;omega
  have e:N*b+d=N:=by rw[hN,c0.1];simp
  rw[e];exact⟨a1,a2,a3,a4,a5,a6⟩
 ·rw[if_neg c0];have hne:N*b+d≠0:=by
   intro h0;have hd0:d=0:=zd;have hN:N*b=0:=zd;rcases Nat.mul_eq_zero.1 hN with h | h
   ·exact c0 ⟨hd0,a1 h⟩
   ·omega
  have hlo:b^st.nd<=N*b+d:=by
   by_cases hN:N=0
   ·have:=a1 hN;rw[this,Nat.pow_zero];omega
   ·obtain⟨h1,h2⟩:=a2 hN;have h3:b^(st.nd-1)*b<=N*b:=Nat.mul_le_mul_right _ h2;rw[<-Nat.pow_succ,show (st.nd-1).succ=st.nd by omega]at h3;omega
  have hhi:N*b+d<b^(st.nd+1):=by
   have h3:(N+1)*b<=b^st.nd*b:=Nat.mul_le_mul_right _ a3;rw[<-Nat.pow_succ,Nat.add_mul,Nat.one_mul]at h3;have:st.nd.succ=st.nd+1:=rfl;rw[this]at h3;omega
  by_cases c1:st.nm<M
  ·rw[if_pos c1];have e1:st.nm=st.nd:=zd;have e2:st.nd-st.nm=0:=zd;rw[e2,Nat.pow_zero]at a5 a6;rw[Nat.div_one]at a5;rw[Nat.mod_one]at a6;refine⟨fun h=>absurd h hne,fun _=>⟨zi,by simpa using hlo⟩,hhi,by simp only;omega,?_,?_⟩
   ·simp only;rw[show st.nd+1-(st.nm+1)=0 by omega,Nat.pow_zero,Nat.div_one,a5]
   ·simp only;rw[show st.nd+1-(st.nm+1)=0 by omega,Nat.pow_zero,Nat.mod_one,a6]
  ·rw[if_neg c1];have e1:st.nm=M:=zd;refine⟨fun h=>absurd h hne,fun _=>⟨zi,by simpa using hlo⟩,hhi,by simp only;omega,?_,?_⟩
   ·simp only;rw[show st.nd+1-st.nm=(st.nd-st.nm)+1 by omega,zc7 N b d _ hd,a5]
   ·simp only;rw[show st.nd+1-st.nm=(st.nd-st.nm)+1 by omega,zc6 N b d _ hd,a6];by_cases hr:N%b^(st.nd-st.nm)=0
    ·rw[hr,Nat.zero_mul,Nat.zero_add];simp
    ·rw[decide_eq_true hr,Bool.true_or,eq_comm];apply decide_eq_true;have:1*b<=N%b^(st.nd-st.nm)*b:=Nat.mul_le_mul_right _ (Nat.pos_of_ne_zero hr);omega
theorem SI.fold {hex:Bool}:∀ (l:List Nat) {N:Nat} {st:RF},SI (xj hex) (ju hex) N st->(∀ d ∈ l,d<xj hex)->SI (xj hex) (ju hex) (l.foldl (fun n d=>n*xj hex+d) N) (l.foldl (dgS hex) st)
 | [],_,_,h,_=>h
 | d::l,_,_,h,hd=>SI.fold l (h.step (hd d List.mem_cons_self)) (fun x hx=>hd x (List.mem_cons_of_mem _ hx))
theorem SI.dp {b M N:Nat} {st:RF} (h:SI b M N st) (x:Int):SI b M N { st with dp:=x }:=⟨h.1,h.2,h.3,h.4,h.5,h.6⟩
theorem zws (hex:Bool) (st:RF) (d:Nat):((dgS hex st d).nd:Int)-(dgS hex st d).dp=st.nd-st.dp+1:=by
 unfold dgS;split
 ·simp only;omega
 ·split <;> (simp only;omega)
theorem zoq (hex:Bool):∀ (l:List Nat) (st:RF),((l.foldl (dgS hex) st).nd:Int)-(l.foldl (dgS hex) st).dp=st.nd-st.dp+l.length
 | [],st=>by simp
 | d::l,st=>by
  rw[List.foldl_cons,zoq hex l,zws,List.length_cons]
  omega
theorem zsa (hex:Bool) (da db:List Nat) (hd:∀ d ∈ da++db,d<xj hex):SI (xj hex) (ju hex) (dgN (xj hex) (da++db)) (stL hex da db):=by
 unfold stL dgN;rw[List.foldl_append];exact SI.fold db ((SI.fold da (SI.init _ _) (fun d h=>hd d (List.mem_append_left _ h))).dp _) (fun d h=>hd d (List.mem_append_right _ h))
theorem zr9 (hex:Bool) (da db:List Nat):(stL hex da db).dp=(stL hex da db).nd-(db.length:Int):=by
 have h:=zoq hex db { da.foldl (dgS hex) RF.init with dp:=((da.foldl (dgS hex) RF.init).nd:Nat) };have e:stL hex da db=db.foldl (dgS hex) { da.foldl (dgS hex) RF.init with dp:=((da.foldl (dgS hex) RF.init).nd:Nat) }:=rfl;rw[<-e]at h;dsimp only at h;omega
def Lit.num (L:Lit):Nat:=dgN (xj L.hex) (L.da++L.db)
def Lit.ex (L:Lit):Int:=goX L-((zb7 L.hex*L.db.length:Nat):Int)
def Lit.ok (L:Lit):Prop:=∀ d ∈ L.da++L.db,d<xj L.hex
theorem zon (L:Lit) (n:Nat) (hd:L.ok):∃ z nd:Nat,z=nd-ju L.hex/\(goR L n).mant=L.num / xj L.hex^z/\(goR L n).tr=decide (L.num%xj L.hex^z≠0)/\
  (L.num≠0->1<=nd/\xj L.hex^(nd-1)<=L.num/\(goR L n).exp=((zb7 L.hex*z:Nat):Int)+L.ex/\(goR L n).mant≠0)/\(L.num=0->(goR L n).exp=0/\(goR L n).mant=0/\nd=0)/\
  L.num<xj L.hex^nd/\nd<=L.da.length+L.db.length/\(goR L n).mant<xj L.hex^ju L.hex:=by
 obtain⟨a1,a2,a3,a4,a5,a6⟩:=zsa L.hex L.da L.db hd;have hdp:=zr9 L.hex L.da L.db;have hb:=zf4 L.hex;have hlt:=zko (xj L.hex) zd _ hd;have hper:((if L.hex=true then 4 else 1:Nat)=zb7 L.hex)/\((if L.hex=true then 4 else 1:Int)=(zb7 L.hex:Int)):=by unfold zb7;cases L.hex <;> exact⟨rfl,rfl⟩
 have hM:1<=ju L.hex:=zαO;change dgN (xj L.hex) (L.da++L.db)=0->_ at a1;have hz:(stL L.hex L.da L.db).nd-(stL L.hex L.da L.db).nm=(stL L.hex L.da L.db).nd-ju L.hex:=zd;rw[hz]at a5 a6;refine⟨(stL L.hex L.da L.db).nd-ju L.hex,(stL L.hex L.da L.db).nd,rfl,a5,a6,fun h=>?_,fun h=>?_,a3,?_,?_⟩
 ·obtain⟨h1,h2⟩:=a2 h;have hm:(stL L.hex L.da L.db).mant≠0:=by
   rw[a5];intro h0;rw[Nat.div_eq_zero_iff]at h0;have hp:0<xj L.hex^((stL L.hex L.da L.db).nd-ju L.hex):=Nat.pow_pos zd;rcases h0 with h0 | h0
   ·omega
   ·have:=Nat.pow_le_pow_right (show 1<=xj L.hex by omega) (show (stL L.hex L.da L.db).nd-ju L.hex<=(stL L.hex L.da L.db).nd-1 by omega);omega
  refine⟨h1,h2,?_,hm⟩;show (if (stL L.hex L.da L.db).mant≠0 then _ else _)=_;rw[if_pos hm,hdp,hper.1,hper.2];unfold Lit.ex;generalize goX L=X;generalize (stL L.hex L.da L.db).nd=nd at *
  generalize L.db.length=lb at *
  generalize (stL L.hex L.da L.db).nm=nm at *
  have e1:((nd-ju L.hex:Nat):Int)=(nd:Int)-nm:=zd;rw[Int.natCast_mul,Int.natCast_mul,Int.natCast_mul,e1,Int.sub_mul,Int.mul_sub,Int.mul_comm (lb:Int),Int.mul_comm (nm:Int),Int.mul_comm (nd:Int)];omega
 ·have h0:=a1 h;have hm:(stL L.hex L.da L.db).mant=0:=by
   rw[a5];show Lit.num L / _=0;rw[h,Nat.zero_div]
  refine⟨?_,hm,h0⟩;show (if (stL L.hex L.da L.db).mant≠0 then _ else _)=_;rw[if_neg (by rw[hm];simp)]
 ·by_cases h0:dgN (xj L.hex) (L.da++L.db)=0
  ·rw[a1 h0];omega
  ·obtain⟨h1,h2⟩:=a2 h0;rw[List.length_append]at hlt;have:=Nat.lt_of_le_of_lt h2 hlt;have:=(Nat.pow_lt_pow_iff_right (show 1<xj L.hex by omega)).1 this;omega
 ·show (stL L.hex L.da L.db).mant<_;rw[a5];have hp:0<xj L.hex^((stL L.hex L.da L.db).nd-ju L.hex):=Nat.pow_pos zd;rw[Nat.div_lt_iff_lt_mul hp,<-Nat.pow_add];refine Nat.lt_of_lt_of_le a3 (Nat.pow_le_pow_right zd zd)
theorem za4 {hex:Bool} {l:List UInt8} {d:Nat} (h:d ∈ l.filterMap (dgV hex)):d<xj hex:=by
 obtain⟨c,_,hc⟩:=List.mem_filterMap.1 h;exact zsu hc
theorem za6 (hex:Bool) (l:List UInt8):(l.filterMap (dgV hex)).length<=l.length:=List.length_filterMap_le _ _
theorem zn4 (p:UInt8->Bool) (l:List UInt8):(l.takeWhile p).length<=l.length:=(List.takeWhile_sublist p).length_le
theorem zfn {c:Prop} [Decidable c] {α:Type} {e:Option α} {x:α} (h:(if c then e else none)=some x):c/\e=some x:=by
 by_cases hc:c
 ·rw[if_pos hc]at h;exact⟨hc,h⟩
 ·rw[if_neg hc]at h;cases h
theorem zob {c:Prop} [Decidable c] {α:Type} {e:Option α} {x:α} (h:(if c then none else e)=some x):¬c/\e=some x:=by
 by_cases hc:c
 ·rw[if_pos hc]at h;cases h
 ·rw[if_neg hc]at h;exact⟨hc,h⟩
theorem zra (hex:Bool):∀ (l:List UInt8) (x:Bool×List Nat),zhr hex l=some x->x.2.length<=l.length/\∀ d ∈ x.2,d<10
 | [],x,h=>by
  obtain⟨-,h⟩:=zob h
  cases h
  simp
 | c::r,x,h=>by
  obtain⟨-,h⟩:=zfn h
  cases h
  exact⟨Nat.le_trans (za6 _ _) (Nat.le_trans (zfl r) zi),fun d hd=>za4 (hex:=false) hd⟩
theorem zfk {s:List UInt8} {L:Lit} (h:zau s=some L):L.ok/\L.da.length+L.db.length<=s.length/\(∀ d ∈ L.de,d<10)/\L.hex=yo (sgn s).2/\L.neg=(sgn s).1:=by
 rw[jv]at h;obtain⟨-,h⟩:=zob h;obtain⟨-,h⟩:=zfn h;obtain⟨x,hx,rfl⟩:=Option.map_eq_some_iff.1 h;refine⟨?_,?_,(zra _ _ _ hx).2,rfl,rfl⟩
 ·intro d hd;rcases List.mem_append.1 hd with hd | hd
  ·exact za4 hd
  ·exact za4 hd
 ·show ((ve _ (yj s)).filterMap _).length+((yw _ (yj s)).filterMap _).length<=_;have h1:=za6 (yo (sgn s).2) (ve (yo (sgn s).2) (yj s));have h2:=za6 (yo (sgn s).2) (yw (yo (sgn s).2) (yj s));have h3:(ve (yo (sgn s).2) (yj s)).length+(yw (yo (sgn s).2) (yj s)).length<=(yj s).length:=by
   have e:=congrArg List.length (List.takeWhile_append_dropWhile (p:=xe (yo (sgn s).2)) (l:=yj s));rw[List.length_append]at e;unfold ve yw qi;split
   ·have:=zn4 (xe (yo (sgn s).2)) ((yj s).dropWhile (xe (yo (sgn s).2))).tail;rw[List.length_tail]at this;omega
   ·simp only[List.length_nil];omega
  have h4:=zkb s;omega
theorem ze4 (hex:Bool):∀ (l:List UInt8) (st:RF),∃ pre,l=pre++(scF hex l st).2/\scF hex pre st=((scF hex l st).1,[])/\(∀ c r,(scF hex l st).2=c::r->∀ r',scF hex (pre++c::r') st=((scF hex l st).1,c::r'))/\(pre=[]->(scF hex l st).1=st)
 | [],st=>⟨[],rfl,rfl,fun _ _ h=>by simp[scF]at h,fun _=>rfl⟩
 | c::r,st=>by
  by_cases h95:c=95
  ·have e:scF hex (c::r) st=scF hex r { st with us:=true }:=by rw[scF,if_pos h95]
   obtain⟨pre,h1,h2,h3,h4⟩:=ze4 hex r { st with us:=true }
   rw[e]
   refine⟨c::pre,zY,?_,?_,fun h=>zF⟩
   ·rw[scF,if_pos h95,h2]
   ·intro x y hxy r'
    rw[List.cons_append,scF,if_pos h95,h3 x y hxy]
  by_cases h46:c=46
  ·by_cases hd:st.dot=true
   ·have e:∀ r,scF hex (c::r) st=(st,c::r):=fun r=>by rw[scF,if_neg h95,if_pos h46,if_pos hd]
    rw[e]
    refine⟨[],rfl,rfl,?_,fun _=>rfl⟩
    intro x y hxy r'
    cases hxy
    exact e r'
   ·have e:∀ r,scF hex (c::r) st=scF hex r { st with dot:=true,dp:=st.nd }:=fun r=>by rw[scF,if_neg h95,if_pos h46,if_neg hd]
    obtain⟨pre,h1,h2,h3,h4⟩:=ze4 hex r { st with dot:=true,dp:=st.nd }
    rw[e]
    refine⟨c::pre,zY,?_,?_,fun h=>zF⟩
    ·rw[e,h2]
    ·intro x y hxy r'
     rw[List.cons_append,e,h3 x y hxy]
  cases hv:dgV hex c with
  | some d=>
   have e:∀ r,scF hex (c::r) st=scF hex r (dgS hex st d):=fun r=>by rw[scF,if_neg h95,if_neg h46,hv]
   obtain⟨pre,h1,h2,h3,h4⟩:=ze4 hex r (dgS hex st d)
   rw[e]
   refine⟨c::pre,zY,?_,?_,fun h=>zF⟩
   ·rw[e,h2]
   ·intro x y hxy r'
    rw[List.cons_append,e,h3 x y hxy]
  | none=>
   have e:∀ r,scF hex (c::r) st=(st,c::r):=fun r=>by rw[scF,if_neg h95,if_neg h46,hv]
   rw[e]
   refine⟨[],rfl,rfl,?_,fun _=>rfl⟩
   intro x y hxy r'
   cases hxy
   exact e r'
theorem ze5:∀ (l:List UInt8) (us:Bool) (e:Nat),∃ pre,l=pre++(scE l us e).2.2/\scE pre us e=((scE l us e).1,(scE l us e).2.1,[])
 | [],us,e=>⟨[],rfl,rfl⟩
 | c::r,us,e=>by
  by_cases h:48<=c.toNat/\c.toNat<=57
  ·have k:∀ r,scE (c::r) us e=scE r us (if e<10000 then e*10+(c.toNat-48) else e):=fun r=>by rw[scE,if_pos h]
   obtain⟨pre,h1,h2⟩:=ze5 r us (if e<10000 then e*10+(c.toNat-48) else e)
   rw[k]
   exact⟨c::pre,zY,by rw[k,h2]⟩
  ·by_cases h95:c=95
   ·have k:∀ r,scE (c::r) us e=scE r true e:=fun r=>by rw[scE,if_neg h,if_pos h95]
    obtain⟨pre,h1,h2⟩:=ze5 r true e
    rw[k]
    exact⟨c::pre,zY,by rw[k,h2]⟩
   ·have k:scE (c::r) us e=(us,e,c::r):=by rw[scE,if_neg h,if_neg h95]
    rw[k]
    exact⟨[],rfl,rfl⟩
theorem yg7 (P T:List UInt8) (h:P≠[]):sgn (P++T)=((sgn P).1,(sgn P).2++T):=by
 cases P with
 | nil=>exact absurd rfl h
 | cons c r=>
  rw[List.cons_append,xq,xq];split
  ·rfl
  ·split <;> rfl
theorem ziy {s:List UInt8} {neg hex:Bool} {st:RF} {dp:Int} {nm:Nat} {us:Bool} {P T:List UInt8} {R:RR} (hs:s=P++T) (h:zdv s neg hex st dp nm us T=some R):R.n=P.length/\zdv P neg hex st dp nm us []=some R:=by
 unfold zdv at *
 have e1:s.length-T.length=P.length:=by rw[hs,List.length_append];omega
 have e2:s.take (s.length-T.length)=P:=by rw[e1,hs,List.take_left]
 rw[e2,e1]at h;rw[List.length_nil,Nat.sub_zero,List.take_length];split at h
 ·cases h
 ·rw[if_neg zq];refine⟨?_,h⟩;cases h;rfl
theorem zri {P T:List UInt8} (h:yo P=true):yo (P++T)=true:=by
 match P with
 | _::_::_::_=>exact h
theorem zlw {P T:List UInt8} (h:yo (P++T)=true) (h3:3<=P.length):yo P=true:=by
 match P with
 | _::_::_::_=>exact h
 | []=>simp at h3
 | [_]=>simp at h3
 | [_,_]=>simp at h3
theorem zvv {s:List UInt8} {R:RR} (h:rfP s=some R):∃ P T,s=P++T/\R.n=P.length/\rfP P=some R:=by
 have hs:s≠[]:=by intro e;subst e;simp[rfP]at h
 have hrf:∀ (t:List UInt8),t≠[]->rfP t=if (scF (yo (sgn t).2) (yj t) RF.init).1.dig=false then none
   else zf9 t (sgn t).1 (yo (sgn t).2) (scF (yo (sgn t).2) (yj t) RF.init).1 ((if (scF (yo (sgn t).2) (yj t) RF.init).1.dot then (scF (yo (sgn t).2) (yj t) RF.init).1.dp else ((scF (yo (sgn t).2) (yj t) RF.init).1.nd:Int))*(if yo (sgn t).2 then 4 else 1)) ((scF (yo (sgn t).2) (yj t) RF.init).1.nm*(if yo (sgn t).2 then 4 else 1)) (scF (yo (sgn t).2) (yj t) RF.init).2:=by
  intro t ht;unfold rfP yj;rw[if_neg ht]
 rw[hrf s hs]at h;obtain⟨pre,p1,p2,p3,p4⟩:=ze4 (yo (sgn s).2) (yj s) RF.init;obtain⟨hx,hhx⟩:=zX (yo (sgn s).2);rw[hhx]at h p1 p2 p3 p4;obtain⟨st,hst⟩:=zX ((scF hx (yj s) RF.init).1);obtain⟨rest,hrest⟩:=zX ((scF hx (yj s) RF.init).2);rw[hst,hrest]at h;rw[hst]at p2 p3 p4;rw[hrest]at p1 p3;by_cases hdig:st.dig=false
 ·rw[if_pos hdig]at h;cases h
 rw[if_neg hdig]at h;have hpre:pre≠[]:=fun e=>hdig (by rw[p4 e];rfl)
 obtain⟨H,hH,hHs⟩:∃ H,s=H++yj s/\∀ B T,yj s=B++T->B≠[]->(H++B≠[])/\(sgn (H++B)).1=(sgn s).1/\yo (sgn (H++B)).2=hx/\yj (H++B)=B:=by
  have key:∃ H0,s=H0++(sgn s).2/\∀ B,B≠[]->(∀ T,(sgn s).2=B++T->sgn (H0++B)=((sgn s).1,B)):=by
   cases s with
   | nil=>exact absurd rfl hs
   | cons c r=>
    rw[xq];by_cases c1:c=43
    ·refine⟨[c],by rw[if_pos c1];rfl,fun B hB T hT=>?_⟩;rw[if_pos c1]at hT ⊢;show sgn (c::B)=_;rw[xq,if_pos c1]
    ·by_cases c2:c=45
     ·refine⟨[c],by rw[if_neg c1,if_pos c2];rfl,fun B hB T hT=>?_⟩;rw[if_neg c1,if_pos c2];show sgn (c::B)=_;rw[xq,if_neg c1,if_pos c2]
     ·refine⟨[],by rw[if_neg c1,if_neg c2];rfl,fun B hB T hT=>?_⟩;rw[if_neg c1,if_neg c2]at hT ⊢;cases B with
      | nil=>exact absurd rfl hB
      | cons b B'=>
       cases hT;show sgn (c::B')=_;rw[xq,if_neg c1,if_neg c2]
  obtain⟨H0,k1,k2⟩:=key;cases hx with
  | true=>
   have e:yj s=(sgn s).2.drop 2:=by unfold yj;rw[if_pos hhx]
   obtain⟨a,b,y,r,hu⟩:∃ a b y r,(sgn s).2=a::b::y::r:=by
    match hq:(sgn s).2 with
    | a::b::y::r=>exact⟨a,b,y,r,rfl⟩
    | []=>rw[hq]at hhx;simp[yo]at hhx
    | [_]=>rw[hq]at hhx;simp[yo]at hhx
    | [_,_]=>rw[hq]at hhx;simp[yo]at hhx
   rw[hu]at e;change yj s=y::r at e;refine⟨H0++[a,b],by rw[e,List.append_assoc];show s=H0++(a::b::y::r);rw[<-hu];exact k1,fun B T hT hB=>?_⟩;rw[e]at hT;have hg:=k2 (a::b::B) zi T (by rw[hu,hT];rfl);rw[List.append_assoc];show (H0++(a::b::B)≠[])/\(sgn (H0++(a::b::B))).1=_/\yo (sgn (H0++(a::b::B))).2=true/\yj (H0++(a::b::B))=B;have hxx:yo (a::b::B)=true:=by
    refine zlw (T:=T) ?_ ?_
    ·show yo (a::b::(B++T))=true;rw[<-hT,<-hu];exact hhx
    ·cases B with
     | nil=>exact absurd rfl hB
     | cons=>simp
   refine⟨zi,by rw[hg],by rw[hg];exact hxx,?_⟩;unfold yj;rw[hg];simp only[hxx,if_true];rfl
  | false=>
   have e:yj s=(sgn s).2:=by unfold yj;rw[hhx];rfl
   rw[e];refine⟨H0,k1,fun B T hT hB=>?_⟩;have hg:=k2 B hB T hT;have hxx:yo B=false:=by
    cases hq:yo B with
    | false=>rfl
    | true=>
     have:=zri (T:=T) hq;rw[<-hT,hhx]at this;cases this
   refine⟨by cases B with | nil=>exact absurd rfl hB | cons=>simp,by rw[hg],by rw[hg];exact hxx,?_⟩;unfold yj;rw[hg];simp only[hxx];rfl
 have cut:∀ B T,yj s=B++T->B≠[]->(scF hx B RF.init).1=st->s=(H++B)++T/\rfP (H++B)=zf9 (H++B) (sgn s).1 hx st ((if st.dot then st.dp else (st.nd:Int))*(if hx then 4 else 1)) (st.nm*(if hx then 4 else 1)) (scF hx B RF.init).2:=by
  intro B T hT hB hstB;obtain⟨q1,q2,q3,q4⟩:=hHs B T hT hB;refine⟨by rw[List.append_assoc,<-hT];exact hH,?_⟩;rw[hrf _ q1,q2,q3,q4,hstB,if_neg hdig]
 cases rest with
 | nil=>
  obtain⟨c1,c2⟩:=cut pre [] p1 hpre (by rw[p2]);rw[p2]at c2;unfold zf9 at h c2;simp only at h c2;by_cases hb:hx=true
  ·rw[if_pos hb]at h;cases h
  ·rw[if_neg hb]at h c2;obtain⟨f1,f2⟩:=ziy c1 h;exact⟨_,_,c1,f1,c2.trans f2⟩
 | cons c r1=>
  by_cases hl:wc c=(if hx then 112 else 101)
  ·unfold zf9 at h;simp only at h;rw[if_pos hl]at h;cases hsg:(sgn r1).2 with
   | nil=>rw[hsg]at h;cases h
   | cons d r2=>
    rw[hsg]at h;simp only at h;by_cases hd:48<=d.toNat/\d.toNat<=57
    ·rw[if_pos hd]at h;obtain⟨pre2,e1,e2⟩:=ze5 (d::r2) st.us 0;have hpre2:∃ q,pre2=d::q:=by
      cases pre2 with
      | nil=>
       exfalso;have e3:(scE (d::r2) st.us 0).2.2.length<=r2.length:=by
        rw[scE,if_pos hd];obtain⟨p,hp,-⟩:=ze5 r2 st.us (if 0<10000 then 0*10+(d.toNat-48) else 0);have:=congrArg List.length hp;rw[List.length_append]at this;omega
       have:=congrArg List.length e1;rw[List.nil_append,List.length_cons]at this;omega
      | cons x q=>
       have:=congrArg List.head? e1;simp at this;exact⟨q,by rw[this]⟩
     obtain⟨q,hq⟩:=hpre2;obtain⟨T,hT⟩:=zX ((scE (d::r2) st.us 0).2.2);obtain⟨r1',hr1',hsg'⟩:∃ r1',r1=r1'++T/\sgn r1'=((sgn r1).1,pre2):=by
      rw[hT]at e1;cases r1 with
      | nil=>simp[sgn]at hsg
      | cons x y=>
       rw[xq]at hsg ⊢;by_cases c1:x=43
       ·rw[if_pos c1]at hsg ⊢;refine⟨x::pre2,by rw[List.cons_append,<-e1,<-hsg],by rw[xq,if_pos c1]⟩
       ·rw[if_neg c1]at hsg ⊢;by_cases c2:x=45
        ·rw[if_pos c2]at hsg ⊢;refine⟨x::pre2,by rw[List.cons_append,<-e1,<-hsg],by rw[xq,if_neg c1,if_pos c2]⟩
        ·rw[if_neg c2]at hsg ⊢;refine⟨pre2,by rw[<-e1,<-hsg],?_⟩;cases hsg;rw[hq,xq,if_neg c1,if_neg c2]
     rw[hT]at h e1;have hbody:yj s=(pre++c::r1')++T:=by rw[p1,hr1',List.append_assoc];rfl
     have hsc:=p3 c r1 rfl r1';obtain⟨c1,c2⟩:=cut (pre++c::r1') T hbody zi (by rw[hsc]);rw[hsc]at c2;obtain⟨f1,f2⟩:=ziy c1 h;refine⟨_,_,c1,f1,c2.trans ?_⟩;unfold zf9;simp only;rw[if_pos hl,hsg'];simp only;rw[hq];simp only;rw[if_pos hd,<-hq,e2];exact f2
    ·rw[if_neg hd]at h;cases h
  ·have hh:(if hx=true then none else zdv s (sgn s).1 hx st ((if st.dot then st.dp else (st.nd:Int))*(if hx then 4 else 1)) (st.nm*(if hx then 4 else 1)) st.us (c::r1))=some R:=by
    unfold zf9 at h;simp only at h;rw[if_neg hl]at h;exact h
   by_cases hb:hx=true
   ·rw[if_pos hb]at hh;cases hh
   ·rw[if_neg hb]at hh;obtain⟨c1,c2⟩:=cut pre (c::r1) p1 hpre (by rw[p2]);rw[p2]at c2;unfold zf9 at c2;simp only at c2;rw[if_neg hb]at c2;obtain⟨f1,f2⟩:=ziy c1 hh;exact⟨_,_,c1,f1,c2.trans f2⟩
theorem zsf {s:List UInt8} {R:RR} (h:rfP s=some R):R.n<=s.length/\∃ L,zau (s.take R.n)=some L/\R=goR L R.n:=by
 obtain⟨P,T,h1,h2,h3⟩:=zvv h;have e:s.take R.n=P:=by rw[h2,h1,List.take_left]
 refine⟨by rw[h2,h1,List.length_append];omega,?_⟩;rw[e];have hA:=zsg P;unfold Agr at hA;cases hl:zau P with
 | none=>
  rw[hl]at hA;exact absurd h2 (hA R h3)
 | some L=>
  rw[hl]at hA;simp only at hA;rw[h3]at hA;rw[h2];exact⟨L,rfl,Option.some.inj hA⟩
theorem zm9 {s:List UInt8} {L:Lit} (h:zau s=some L):rfP s=some (goR L s.length):=by
 have hA:=zsg s;unfold Agr at hA;rw[h]at hA;exact hA
end Go.Proofs.YtnifedmhgncioaaGreatDoor
