/- Lemmas that the claim's top text leans on. No condition of their own. -/
import Derived.Test.YtoacbkokkkpofaaGreatDoorK00
namespace Go.Proofs.YtoacbkokkkpofaaGreatDoor
open Go.RowKit
set_option linter.unusedSimpArgs false
set_option linter.unusedVariables false
set_option maxHeartbeats 16000000
theorem zdp (hex:Bool):∀ (l:List UInt8),Lw l->∀ out:List Nat,l.foldl (vp (xj hex)) out=if out=[] then (l.filterMap (dgV hex)).dropWhile (·==0) else out++l.filterMap (dgV hex)
 | [],_,out=>by
  show out=_
  by_cases h:out=[]
  ·rw[if_pos h,h];rfl
  ·rw[if_neg h];simp
 | c::r,hl,out=>by
  have hc:=hl c zi
  have ih:=zdp hex r hl.tail
  rw[List.foldl_cons]
  cases hd:dgV hex c with
  | none=>
   have e:vp (xj hex) out c=out:=by unfold vp;rw[<-uh hc,hd]
   rw[e,ih,List.filterMap_cons_none hd]
  | some d=>
   rw[List.filterMap_cons_some hd]
   by_cases h:out=[]
   ·subst h
    by_cases h0:d=0
    ·subst h0
     have e:vp (xj hex) [] c=[]:=by unfold vp;rw[<-uh hc,hd];rfl
     rw[e,ih,if_pos rfl,if_pos rfl,List.dropWhile_cons_of_pos (by rfl)]
    ·have e:vp (xj hex) [] c=[d]:=by unfold vp;rw[<-uh hc,hd];simp;omega
     rw[e,ih,if_neg zi,if_pos rfl,List.dropWhile_cons_of_neg (by simpa using h0)]
     rfl
   ·have e:vp (xj hex) out c=out++[d]:=by unfold vp;rw[<-uh hc,hd];simp[h]
    rw[e,ih,if_neg zi,if_neg h,List.append_assoc]
    rfl
theorem zkp (hex:Bool) (l:List UInt8) (h:Lw l):dgL (xj hex) l=(l.filterMap (dgV hex)).dropWhile (·==0):=by
 unfold dgL;rw[zdp hex l h,if_pos rfl]
theorem zhl (hex:Bool):∀ (l:List UInt8),Lw l->zkq (xj hex) l=(l.filterMap (dgV hex)).length
 | [],_=>rfl
 | c::r,hl=>by
  have hc:=hl c zi
  have ih:=zhl hex r hl.tail
  unfold zkq at ih ⊢
  rw[List.countP_cons,ih,List.filterMap_cons]
  unfold isD
  rw[<-uh hc]
  cases dgV hex c with
  | none=>rfl
  | some d=>rfl
theorem zl0 (l:List Nat):ki (l.dropWhile (·==0))=ki l:=by
 induction l with
 | nil=>rfl
 | cons d r ih=>
  by_cases h:d=0
  ·subst h;rw[List.dropWhile_cons_of_pos (by rfl),ih];rfl
  ·rw[List.dropWhile_cons_of_neg zI]
def spE (x:Bool×List Nat):Int:=if x.1 then -(ki x.2:Int) else (ki x.2:Int)
def spX (L:Lit):Int:=spE (L.en,L.de)-(((if L.hex then 4 else 1)*L.db.length:Nat):Int)
def spT (L:Lit):Txt:=⟨0,L.neg,xj L.hex,(L.da++L.db).dropWhile (·==0),spX L⟩
theorem zda (hex:Bool) (l:List UInt8):l=ve hex l++qi hex l:=(List.takeWhile_append_dropWhile).symm
theorem ka {p:UInt8->Bool}:∀ l:List UInt8,(l.takeWhile p).all p=true
 | []=>rfl
 | c::r=>by
  by_cases h:p c=true
  ·rw[List.takeWhile_cons_of_pos h,List.all_cons,h,ka r];rfl
  ·rw[List.takeWhile_cons_of_neg h];rfl
theorem zov (hex:Bool) (l:List UInt8) (hl:Lw l):(if l≠[]\/xj hex=16 then jc (if xj hex=16 then 112 else 101) l else some 0)=(zhr hex l).map spE:=by
 cases l with
 | nil=>
  cases hex
  ·rfl
  ·rfl
 | cons c r=>
  rw[if_pos (Or.inl zi)];have hc:=hl c zi;have hlet:(wc c=(if hex=true then 112 else 101))↔c=(if xj hex=16 then (112:UInt8) else 101):=by
   cases hex
   ·exact zin hc 101 zi
   ·exact zin hc 112 zi
  show (if c≠_ then none else zft (sgL r).1 (sgL r).2)=_;unfold zhr;dsimp only;by_cases h:c=(if xj hex=16 then (112:UInt8) else 101)
  ·rw[if_neg (fun h'=>h' h),zm0];have hlr:Lw (sgn r).2:=by
    refine hl.tail.sub ?_;cases r with
    | nil=>exact List.Sublist.refl _
    | cons d r=>rw[xq];split <;> (try split) <;> simp
   generalize (sgn r).1=neg;generalize (sgn r).2=t at *
   unfold zft;by_cases ht:t=[]
   ·rw[if_pos (Or.inl ht),if_neg (fun h=>h.2.1 ht)];rfl
   ·have hsp:=zda false t;have hall:=ka (p:=xe false) t;have hR:∀ c r,qi false t=c::r->Lw (qi false t)/\xe false c=false:=fun c r e=>⟨hlr.sub (List.dropWhile_sublist _),jp e⟩
    obtain⟨g1,g2⟩:=zh5 false (ve false t) (qi false t) (hlr.sub (List.takeWhile_sublist _)) hall hR;rw[<-hsp]at g1 g2;have hlen:=congrArg List.length hsp;rw[List.length_append]at hlen;by_cases hta:t.all (xe false)=true
    ·have hA:ve false t=t:=zcg hta;rw[hA]at g1 g2;by_cases hok:okU false t 94=true
     ·have hcond:wc c=(if hex=true then 112 else 101)/\t≠[]/\t.all (xe false)=true/\okU false t 94=true:=⟨hlet.2 h,ht,hta,hok⟩;rw[if_neg (by rintro (h1 | h1);exact ht h1;exact h1 (g1 hok)),if_pos hcond];have:=zkp false t hlr;rw[show xj false=10 from rfl]at this;rw[this,zl0];rfl
     ·rw[if_pos (Or.inr (by obtain⟨r,-,h2⟩:=g2 (by simpa using hok);rw[show xj false=10 from rfl]at h2;omega)),if_neg (fun h=>hok h.2.2.2)];rfl
    ·have hRne:qi false t≠[]:=fun e=>hta (zas.1 e)
     have hRl:0<(qi false t).length:=List.length_pos_iff.2 hRne;have hr:jh 10 t≠t.length:=by
      cases hk:okU false (ve false t) 94
      ·obtain⟨r,-,h2⟩:=g2 hk;rw[show xj false=10 from rfl]at h2;omega
      ·have:=g1 hk;rw[show xj false=10 from rfl]at this;omega
     rw[if_pos (Or.inr hr),if_neg (fun h=>hta h.2.2.1)];rfl
  ·rw[if_pos h,if_neg (fun h'=>h (hlet.1 h'.1))];rfl
theorem zq1 (hex:Bool) (u:List UInt8) (hu:Lw u) (l:List UInt8) (h:hex=true/\(∃ y r,u=48::120::y::r/\l=y::r)\/hex=false/\¬zd4 u/\l=u):
  wb u=xj hex/\vy u<=u.length/\∃ A1,u.drop (vy u)=A1++qi hex l/\Lw A1/\A1.all (xe hex)=true/\A1.filterMap (dgV hex)=(ve hex l).filterMap (dgV hex)/\okU hex A1 94=okU hex (ve hex l) (if hex=true then 48 else 94):=by
 refine⟨?_,zcb u,?_⟩
 ·rcases h with⟨rfl,y,r,rfl,-⟩ | ⟨rfl,h1,-⟩
  ·unfold wb;rw[if_pos (by unfold zd4;simp)];rfl
  ·unfold wb;rw[if_neg h1];rfl
 ·rcases h with⟨rfl,y,r,rfl,rfl⟩ | ⟨rfl,h1,rfl⟩
  ·have hhx:zd4 (48::120::y::r):=by unfold zd4;simp
   have hl:Lw (y::r):=hu.tail.tail;have hsp:=zda true (y::r);have hall:(ve true (y::r)).all (xe true)=true:=ka (p:=xe true) (y::r);have hLA:Lw (ve true (y::r)):=hl.sub (List.takeWhile_sublist _);simp only[if_true];by_cases hund:zp5 (48::120::y::r)
   ·have hnf:vy (48::120::y::r)=3:=by unfold vy;rw[if_pos hhx,if_pos hund]
    obtain⟨u1,u2,u3⟩:=hund;have hy:y=95:=u2;subst hy;cases r with
    | nil=>simp at u1
    | cons d r=>
     have hd:isD 16 d=true:=u3;have hdl:vb d=d:=hl d zi;have hdv:(dgV true d).isSome=true:=by rw[uh hdl];exact hd
     have hdu:xe true d=true:=by unfold xe;rw[hdv];rfl
     have hA:ve true (95::d::r)=95::d::r.takeWhile (xe true):=by
      unfold ve;rw[List.takeWhile_cons_of_pos (jx true),List.takeWhile_cons_of_pos hdu]
     have hR:qi true (95::d::r)=r.dropWhile (xe true):=by
      unfold qi;rw[List.dropWhile_cons_of_pos (jx true),List.dropWhile_cons_of_pos hdu]
     refine⟨d::r.takeWhile (xe true),?_,?_,?_,?_,?_⟩
     ·rw[hnf,hR];show d::r=d::(r.takeWhile (xe true)++r.dropWhile (xe true));rw[List.takeWhile_append_dropWhile]
     ·rw[hA]at hLA;exact hLA.tail
     ·rw[List.all_cons,hdu,ka];rfl
     ·rw[hA,List.filterMap_cons_none (qx true)]
     ·have e1:okU true (d::r.takeWhile (xe true)) 94=okU true (r.takeWhile (xe true)) 48:=by rw[okU,if_pos hdv]
      have e2:okU true (95::d::r.takeWhile (xe true)) 48=okU true (r.takeWhile (xe true)) 48:=by rw[okU,qx,if_neg zi,if_pos rfl,if_pos rfl,okU,if_pos hdv]
      rw[hA,e1,e2]
   ·have hnf:vy (48::120::y::r)=2:=by unfold vy;rw[if_pos hhx,if_neg hund]
    refine⟨ve true (y::r),by rw[hnf];exact hsp,hLA,hall,rfl,?_⟩;cases hA:ve true (y::r) with
    | nil=>rfl
    | cons c A=>
     have hcy:c=y:=by
      unfold ve at hA;by_cases hy:xe true y=true
      ·rw[List.takeWhile_cons_of_pos hy]at hA;cases hA;rfl
      ·rw[List.takeWhile_cons_of_neg hy]at hA;cases hA
     subst hcy;rw[okU,okU];by_cases hc:(dgV true c).isSome=true
     ·rw[if_pos hc,if_pos hc]
     ·rw[if_neg hc,if_neg hc];have hcu:xe true c=true:=by
       rw[hA]at hall;simp only[List.all_cons,Bool.and_eq_true]at hall;exact hall.1
      have h95:c=95:=by
       unfold xe at hcu;simpa[hc]using hcu
      subst h95;rw[if_pos rfl,if_pos rfl,if_neg zd,if_pos rfl];cases A with
      | nil=>rfl
      | cons d A=>
       have hd:d=r.headD 0/\r≠[]:=by
        unfold ve at hA;rw[List.takeWhile_cons_of_pos (jx true)]at hA;cases r with
        | nil=>cases hA
        | cons e r=>
         by_cases he:xe true e=true
         ·rw[List.takeWhile_cons_of_pos he]at hA;cases hA;exact⟨rfl,zi⟩
         ·rw[List.takeWhile_cons_of_neg he]at hA;cases hA
       have hdn:(dgV true d).isSome=false:=by
        cases hk:(dgV true d).isSome
        ·rfl
        ·exfalso;refine hund ⟨?_,rfl,?_⟩
         ·have:0<r.length:=List.length_pos_iff.2 hd.2;simp;omega
         ·cases r with
          | nil=>exact absurd rfl hd.2
          | cons e r=>
           have hde:d=e:=hd.1;have:=hl e zi;show isD 16 e=true;unfold isD;rw[<-hde]at this ⊢;rw[<-show xj true=16 from rfl,<-uh this,hk]
       have hdu:xe true d=true:=by
        rw[hA]at hall;simp only[List.all_cons,Bool.and_eq_true]at hall;exact hall.2.1
       have hd95:d=95:=by
        unfold xe at hdu;rw[hdn,Bool.false_or]at hdu;simpa using hdu
       subst hd95;rw[okU,qx];rfl
  ·have hnf:vy l=0:=by unfold vy;rw[if_neg h1]
   have hsp:=zda false l;refine⟨ve false l,by rw[hnf,List.drop_zero];exact hsp,hu.sub (List.takeWhile_sublist _),ka l,rfl,rfl⟩
theorem zhf (u:List UInt8) (i:Nat):u.getD i 0=(u.drop i).headD 0:=by
 rw[List.getD_eq_getElem?_getD,List.headD_eq_head?_getD,List.head?_drop]
theorem zcf (hex:Bool) (X:List UInt8) (hall:X.all (xe hex)=true) (hX:okU hex X 94=true):X.filterMap (dgV hex)=[]↔X=[]:=by
 cases X with
 | nil=>simp
 | cons c r=>
  refine⟨fun h=>?_,fun h=>zF⟩;exfalso;simp only[List.all_cons,Bool.and_eq_true]at hall;rw[okU]at hX;cases hd:dgV hex c with
  | none=>
   have h95:c=95:=by
    have:=hall.1;unfold xe at this;rw[hd]at this;simpa using this
   rw[hd,if_neg zi,if_pos h95,if_neg zd]at hX;cases hX
  | some d=>rw[List.filterMap_cons_some hd]at h;cases h
theorem zj3 (hex:Bool) (u l:List UInt8) (neg:Bool) (A1:List UInt8) (hb:wb u=xj hex) (hF:kl u=A1) (hS:xz u=yw hex l) (hI2:u.drop (nI2 u)=wx hex l) (hA:Lw A1) (hB:Lw (yw hex l)) (hR2:Lw (wx hex l))
    (hAa:A1.all (xe hex)=true) (hBa:(yw hex l).all (xe hex)=true) (hokA:okU hex A1 94=true) (hokB:okU hex (yw hex l) 94=true):
    (zf8 u).map (fun x=>(⟨0,neg,wb u,nDigits u,x⟩:Txt))=
      (if A1.filterMap (dgV hex)=[]/\(yw hex l).filterMap (dgV hex)=[] then none
       else if okU hex A1 94=true/\okU hex (yw hex l) 94=true then
        (zhr hex (wx hex l)).map fun x=>spT ⟨neg,hex,A1.filterMap (dgV hex),(yw hex l).filterMap (dgV hex),x.1,x.2⟩ else none):=by
  unfold zf8;by_cases h0:kl u=[]/\xz u=[]
  · rw[if_pos h0,if_pos ⟨(zcf hex A1 hAa hokA).2 (hF ▸ h0.1),(zcf hex _ hBa hokB).2 (hS ▸ h0.2)⟩]
    rfl
  · rw[if_neg h0,if_neg (fun h=>h0 ⟨hF.trans ((zcf hex A1 hAa hokA).1 h.1),hS.trans ((zcf hex _ hBa hokB).1 h.2)⟩),if_pos ⟨hokA,hokB⟩]
    have hE:zpz u=(zhr hex (wx hex l)).map spE:=by
      rw[<-zov hex _ hR2];unfold zpz za2;rw[hb,hI2];have hlt:(nI2 u<u.length)↔wx hex l≠[]:=by
        rw[<-hI2,Ne,List.drop_eq_nil_iff];omega
      simp only[hlt]
    rw[hE,Option.map_map,Option.map_map];congr 1;funext x;show (⟨0,neg,wb u,nDigits u,spE x-((zpy u*zkq (wb u) (xz u):Nat):Int)⟩:Txt)=⟨0,neg,xj hex,(A1.filterMap (dgV hex)++(yw hex l).filterMap (dgV hex)).dropWhile (·==0),spE (x.1,x.2)-(((if hex then 4 else 1)*((yw hex l).filterMap (dgV hex)).length:Nat):Int)⟩;have hd:nDigits u=(A1.filterMap (dgV hex)++(yw hex l).filterMap (dgV hex)).dropWhile (·==0):=by
      unfold nDigits;rw[hb,hF,hS,zkp hex _ (fun c hc=>(List.mem_append.1 hc).elim (hA c) (hB c)),List.filterMap_append]
    have hp:zpy u=if hex then 4 else 1:=by
      unfold zpy;rw[hb];cases hex <;> rfl
    rw[hd,hp,hS,hb,zhl hex _ hB]
theorem zua (hex:Bool) (u:List UInt8) (hu:Lw u) (l:List UInt8) (h:hex=true/\(∃ y r,u=48::120::y::r/\l=y::r)\/hex=false/\¬zd4 u/\l=u) (neg:Bool):
    (zf8 u).map (fun x=>(⟨0,neg,wb u,nDigits u,x⟩:Txt))=
      (if (ve hex l).filterMap (dgV hex)=[]/\(yw hex l).filterMap (dgV hex)=[] then none
       else if okU hex (ve hex l) (if hex then 48 else 94)=true/\okU hex (yw hex l) 94=true then
        (zhr hex (wx hex l)).map fun x=>spT ⟨neg,hex,(ve hex l).filterMap (dgV hex),(yw hex l).filterMap (dgV hex),x.1,x.2⟩ else none):=by
  obtain⟨hb,hfl,A1,e1,e2,e3,e4,e5⟩:=zq1 hex u hu l h;have hlw:Lw l:=by
    rcases h with⟨-,y,r,rfl,rfl⟩ | ⟨-,-,rfl⟩
    · exact hu.tail.tail
    · exact hu
  have hRl:Lw (qi hex l):=hlw.sub (List.dropWhile_sublist _);have hR:∀ c r,qi hex l=c::r->Lw (qi hex l)/\xe hex c=false:=fun c r e=>⟨hRl,jp e⟩
  obtain⟨g1,g2⟩:=zh5 hex A1 (qi hex l) e2 e3 hR;rw[<-e1]at g1 g2;have hulen:=congrArg List.length e1;rw[List.length_drop,List.length_append]at hulen;have hnone:(∃ r,u.drop (nI2 u)=95::r)->(zf8 u).map (fun x=>(⟨0,neg,wb u,nDigits u,x⟩:Txt))=none:=by
    rintro⟨r,hr⟩;have hlt:nI2 u<u.length:=by
      rcases Nat.lt_or_ge (nI2 u) u.length with h | h
      · exact h
      · rw[List.drop_eq_nil_of_le h]at hr;cases hr
    have:zpz u=none:=by
      unfold zpz;rw[if_pos (Or.inl hlt),hr];show (if (95:UInt8)≠za2 u then none else _)=_;rw[if_pos (by unfold za2;split <;> decide)]
    unfold zf8;rw[this];split <;> rfl
  rw[e4.symm,<-e5];by_cases hokA:okU hex A1 94=true
  · have r1:=g1 hokA
    have hI1:nI1 u=vy u+A1.length:=by unfold nI1;rw[hb,r1]
    have hdI1:u.drop (nI1 u)=qi hex l:=by
      rw[hI1,<-List.drop_drop,e1,List.drop_left'];rfl
    have hF:kl u=A1:=by
      unfold kl;rw[hb,r1,e1,List.take_left'];rfl
    have hPt:nPt u↔(qi hex l).head?=some 46:=by
      unfold nPt;rw[zhf,hdI1];have hl2:=congrArg List.length hdI1;rw[List.length_drop]at hl2;cases hr:qi hex l with
      | nil=>rw[hr]at hl2;simp at hl2 ⊢;(try omega)
      | cons c r=>rw[hr]at hl2;simp at hl2 ⊢;(try omega)
    by_cases hpt:(qi hex l).head?=some 46
    · obtain⟨r,hr⟩:∃ r,qi hex l=46::r:=by
        cases hq:qi hex l with
        | nil=>rw[hq]at hpt;cases hpt
        | cons c r=>rw[hq]at hpt;simp at hpt;subst hpt;exact⟨r,rfl⟩
      have hB:yw hex l=r.takeWhile (xe hex):=by unfold yw;rw[if_pos hpt,hr];rfl
      have hR2:wx hex l=r.dropWhile (xe hex):=by unfold wx;rw[if_pos hpt,hr];rfl
      have hrl:Lw r:=by rw[hr]at hRl;exact hRl.tail
      have hdr:u.drop (nI1 u+1)=r:=by rw[<-List.drop_drop,hdI1,hr];rfl
      have hR2l:Lw (wx hex l):=by rw[hR2];exact hrl.sub (List.dropWhile_sublist _)
      obtain⟨k1,k2⟩:=zh5 hex (yw hex l) (wx hex l) (by rw[hB];exact hrl.sub (List.takeWhile_sublist _)) (by rw[hB];exact ka r) (fun c r' e=>⟨hR2l,by rw[hR2]at e;exact jp e⟩);have hrs:r=yw hex l++wx hex l:=by rw[hB,hR2,List.takeWhile_append_dropWhile]
      rw[<-hrs]at k1 k2;by_cases hokB:okU hex (yw hex l) 94=true
      · have r2:=k1 hokB
        have hS:xz u=yw hex l:=by
          unfold xz;rw[if_pos (hPt.2 hpt),hdr,hb,r2];conv=>lhs;rw[hrs]
          rw[List.take_left'];rfl
        have hI2:u.drop (nI2 u)=wx hex l:=by
          unfold nI2;rw[if_pos (hPt.2 hpt),hdr,hb,r2,<-List.drop_drop,hdr];conv=>lhs;rw[hrs]
          rw[List.drop_left'];rfl
        exact zj3 hex u l neg A1 hb hF hS hI2 e2 (by rw[hB];exact hrl.sub (List.takeWhile_sublist _)) hR2l e3 (by rw[hB];exact ka r) hokA hokB
      · rw[hnone ?_]
        · split
          · rfl
          · rw[if_neg (fun h=>hokB h.2)]
        · obtain⟨r',h1,-⟩:=k2 (by simpa using hokB)
          refine⟨r',?_⟩;unfold nI2;rw[if_pos (hPt.2 hpt),hdr,hb,<-List.drop_drop,hdr];exact h1
    · have hB:yw hex l=[]:=by unfold yw;rw[if_neg hpt]
      have hR2:wx hex l=qi hex l:=by unfold wx;rw[if_neg hpt]
      have hS:xz u=yw hex l:=by unfold xz;rw[if_neg (fun h=>hpt (hPt.1 h)),hB]
      have hI2:u.drop (nI2 u)=wx hex l:=by unfold nI2;rw[if_neg (fun h=>hpt (hPt.1 h)),hdI1,hR2]
      exact zj3 hex u l neg A1 hb hF hS hI2 e2 (by rw[hB];intro c hc;cases hc) (by rw[hR2];exact hRl) e3 (by rw[hB];rfl) hokA (by rw[hB];rfl)
  · rw[hnone ?_]
    · split
      · rfl
      · rw[if_neg (fun h=>hokA h.1)]
    · obtain⟨r,h1,h2⟩:=g2 (by simpa using hokA)
      have hdI1:u.drop (nI1 u)=95::r:=by unfold nI1;rw[hb,<-List.drop_drop];exact h1
      have hPt:¬nPt u:=by
        unfold nPt;rw[zhf,hdI1];rintro⟨-,h⟩;have h2:(95:UInt8)=46:=h;cases h2
      refine⟨r,?_⟩;unfold nI2;rw[if_neg hPt];exact hdI1
theorem zqo (s:List UInt8):ul s=
  if xf s=[110,97,110] then some ⟨2,false,0,[],0⟩
  else if (sgn (xf s)).2=[105,110,102]\/(sgn (xf s)).2=[105,110,102,105,110,105,116,121] then some ⟨1,(sgn (xf s)).1,0,[],0⟩
  else (zau s).map spT:=by
 unfold ul zna;rw[zm0];split
 ·rfl
 ·split
  ·rfl
  ·rw[<-zq8 s];have ht:=Lw.low s;generalize xf s=t at *
   have hu:Lw (sgn t).2:=by
    refine ht.sub ?_;cases t with
    | nil=>exact List.Sublist.refl _
    | cons d r=>rw[xq];split <;> (try split) <;> simp
   rw[jv];have hof:∀ x,spT (zdb t x)=spT ⟨(sgn t).1,yo (sgn t).2,(ve (yo (sgn t).2) (yj t)).filterMap (dgV (yo (sgn t).2)),(yw (yo (sgn t).2) (yj t)).filterMap (dgV (yo (sgn t).2)),x.1,x.2⟩:=fun _=>rfl
   by_cases hz:yo (sgn t).2=false/\zd4 (sgn t).2
   ·obtain⟨h1,h2⟩:=hz;have hu2:(sgn t).2=[48,120]:=by
     unfold zd4 at h2;match hq:(sgn t).2,h2 with
     | [c,x],h2=>
      have e1:c=48:=h2.2.1;have e2:x=120:=h2.2.2;rw[e1,e2]
     | c::x::y::r,h2=>
      exfalso;have e1:c=48:=h2.2.1;have e2:x=120:=h2.2.2;rw[hq,e1,e2]at h1;simp[yo,wc]at h1
    have hb:yj t=[48,120]:=by unfold yj;rw[h1,hu2];rfl
    rw[h1,hb,hu2];rfl
   ·have hcase:yo (sgn t).2=true/\(∃ y r,(sgn t).2=48::120::y::r/\yj t=y::r)\/yo (sgn t).2=false/\¬zd4 (sgn t).2/\yj t=(sgn t).2:=by
     cases hx:yo (sgn t).2
     ·exact Or.inr ⟨rfl,fun h=>hz ⟨hx,h⟩,by unfold yj;rw[hx];rfl⟩
     ·left;refine⟨rfl,?_⟩;match hq:(sgn t).2,hx with
      | c::x::y::r,hx=>
       simp only[yo,decide_eq_true_eq]at hx;have hxl:vb x=x:=hu x (by rw[hq];simp);have e2:=(zin hxl 120 zi).1 hx.2;refine⟨y,r,by rw[hx.1,e2];rfl,?_⟩;unfold yj;rw[hq];have:yo (c::x::y::r)=true:=by simp only[yo,decide_eq_true_eq];exact hx
       rw[this];rfl
    have:=zua (yo (sgn t).2) (sgn t).2 hu (yj t) hcase (sgn t).1;rw[this];generalize yo (sgn t).2=hex at *
    split
    ·rfl
    ·by_cases hk:okU hex (ve hex (yj t)) (if hex=true then 48 else 94)=true/\okU hex (yw hex (yj t)) 94=true
     ·rw[if_pos hk,if_pos hk,Option.map_map];congr 1;funext x;exact (hof x).symm
     ·rw[if_neg hk,if_neg hk];rfl
end Go.Proofs.YtoacbkokkkpofaaGreatDoor
