/- Lemmas that the claim's top text leans on. No condition of their own. -/
import Derived.Test.YtnifedmhgncioaaGreatDoorJ34
import Derived.Test.YtnifedmhgncioaaGreatDoorJ23
import Derived.Test.YtnifedmhgncioaaGreatDoorJ36
namespace Go.Proofs.YtnifedmhgncioaaGreatDoor
open Go.RowKit
set_option linter.unusedSimpArgs false
set_option linter.unusedVariables false
set_option maxHeartbeats 16000000
section
attribute [local go_sem] undef
theorem zkl (lt:UInt8) (s:List UInt8) (x:Int) (h:jc lt s=some x):-1000000000000000<=x/\x<=1000000000000000:=by
 cases s with
 | nil=>simp[jc]at h
 | cons c r=>
  simp only[jc]at h;by_cases hc:c≠lt
  ·rw[if_pos hc]at h;cases h
  ·rw[if_neg hc]at h;unfold zft at h;by_cases h2:(sgL r).2=[]\/jh 10 (sgL r).2≠(sgL r).2.length
   ·rw[if_pos h2]at h;cases h
   ·rw[if_neg h2]at h;have h9:=zrp (dgL 10 (sgL r).2);have:=Option.some.inj h;rw[<-this];split <;> omega
end
section
attribute [local go_sem] undef
def jy (b:Nat) (l:List Nat):Nat:=l.foldl (fun n d=>n*b+d) 0
def zb8 (b:Nat) (l:List Nat) (x:Int):Int:=
 if l=[] then -1
 else if b=16 then (if 1600<4*((l.length:Int)-1)+x then 1 else if 4*((l.length:Int)-1)+x < -1600 then -1 else 0)
 else (if 400<(l.length:Int)-1+x then 1 else if (l.length:Int)-1+x < -400 then -1 else 0)
end
section
attribute [local go_sem] undef
def qk (b:Nat):Nat:=if b=16 then 2 else 10
end
section
attribute [local go_sem] undef
def zjy (s:List UInt8):Option (Bool×Nat×Nat):=match ul s with
 | none=>none
 | some r=>if r.kind≠0 then none else if r.digits=[] then some (r.neg,0,1) else if zb8 r.base r.digits r.exp≠0 then none
  else some (r.neg,jy r.base r.digits*qk r.base^r.exp.toNat,qk r.base^(-r.exp).toNat)
theorem zru {b:Nat} (hb:b=10\/b=16) {c:UInt8} {d:Nat} (h:dig b c=some d):d<b:=by
 unfold dig at h;split at h
 ·cases h;omega
 ·split at h
  ·rename_i h2;cases h;omega
  ·cases h
theorem zry (b:Nat) (hb:b=10\/b=16) (s:List UInt8):∀ d ∈ dgL b s,d<b:=by
 have key:∀ (l:List UInt8) (o:List Nat),(∀ d ∈ o,d<b)->∀ d ∈ l.foldl (vp b) o,d<b:=by
  intro l;induction l with
  | nil=>intro o h;exact h
  | cons c r ih=>
   intro o h;rw[List.foldl_cons];refine ih _ ?_;unfold vp;split
   ·rename_i d hd;split
    ·intro x hx;rcases List.mem_append.1 hx with hx | hx
     ·exact h x hx
     ·rw[List.mem_singleton.1 hx];exact zru hb hd
    ·exact h
   ·exact h
 exact key s [] (by intro d hd;cases hd)
theorem ze9 {s:List UInt8} {r:Txt} (h:ul s=some r):(r.kind≠0->r.digits=[])/\(r.kind=0->(r.base=10\/r.base=16)/\(∀ d ∈ r.digits,d<r.base)/\r.digits.length<=s.length/\-1000000000000000-4*(s.length:Int)<=r.exp/\r.exp<=1000000000000000):=by
 unfold ul at h;split at h
 ·cases h;exact⟨fun _=>rfl,fun h=>zF⟩
 ·unfold zna at h;split at h
  ·cases h;exact⟨fun _=>rfl,fun h=>zF⟩
  ·obtain⟨x,hx,rfl⟩:=Option.map_eq_some_iff.1 h;refine⟨fun h=>absurd rfl h,fun _=>?_⟩;dsimp only;generalize hu:(sgL (xf s)).2=u at *
   have hul:u.length<=s.length:=by
    rw[<-hu];have e:(xf s).length=s.length:=by unfold xf;rw[List.length_map]
    rw[<-e];cases xf s with
    | nil=>simp[sgL]
    | cons c r=>
     simp only[sgL];split
     ·simp
     ·split <;> simp
   have h1:(kl u).length<=u.length:=by unfold kl;rw[List.length_take,List.length_drop];omega
   have h2:(xz u).length<=u.length:=by unfold xz;split;rw[List.length_take,List.length_drop];omega;simp
   refine⟨zcc u,zry _ (zcc u) _,?_,?_⟩
   ·have:=zf0 (wb u) (kl u++xz u);unfold nDigits;rw[List.length_append]at this;have h12:(kl u).length+(xz u).length<=u.length:=by
     unfold kl xz;split
     ·rename_i hp;unfold nPt at hp;have:=hp.1;unfold nI1 at this ⊢;rw[List.length_take,List.length_take,List.length_drop,List.length_drop];omega
     ·simp only[List.length_nil,List.length_take,List.length_drop];omega
    omega
   ·unfold zf8 at hx;split at hx
    ·cases hx
    ·obtain⟨y,hy,rfl⟩:=Option.map_eq_some_iff.1 hx;have hyb:-1000000000000000<=y/\y<=1000000000000000:=by
      unfold zpz at hy;split at hy
      ·exact zkl _ _ _ hy
      ·have:=Option.some.inj hy;omega
     have h3:=zpe (wb u) (xz u);have h4:zpy u<=4:=by unfold zpy;split <;> omega
     have h5:zpy u*zkq (wb u) (xz u)<=4*s.length:=Nat.mul_le_mul h4 zd;generalize zpy u*zkq (wb u) (xz u)=q at h5 ⊢;omega
end
def allD (b:Nat) (l:List UInt8):Prop:=∀ c ∈ l,isD b c=true
theorem allD.cons {b:Nat} {c:UInt8} {l:List UInt8} (h:allD b (c::l)):isD b c=true/\allD b l:=⟨h c zi,fun x hx=>h x (by simp[hx])⟩
theorem allD.append {b:Nat} {l m:List UInt8} (h:allD b l) (k:allD b m):allD b (l++m):=fun c hc=>(List.mem_append.1 hc).elim (h c) (k c)
theorem allD.take {b:Nat} {l:List UInt8} (h:allD b l) (n:Nat):allD b (l.take n):=fun c hc=>h c (List.mem_of_mem_take hc)
theorem allD.drop {b:Nat} {l:List UInt8} (h:allD b l) (n:Nat):allD b (l.drop n):=fun c hc=>h c (List.mem_of_mem_drop hc)
theorem allD.zeros (n:Nat):allD 10 (List.replicate n 48):=fun c hc=>by rw[(List.mem_replicate.1 hc).2];decide
theorem ykv {l:List UInt8} (h:∀ c ∈ l,zd2 c):allD 10 l:=fun c hc=>by
 unfold isD dig
 rw[if_pos (show 48<=c.toNat/\c.toNat<=57 from h c hc)];rfl
theorem yde {c:UInt8} (h:isD 10 c=true):48<=c.toNat/\c.toNat<=57:=by
 unfold isD dig at h;split at h
 ·assumption
 ·split at h
  ·rename_i h2;exact absurd h2.2 ze
  ·cases h
theorem dig10 {c:UInt8} (h:isD 10 c=true):dig 10 c=some (c.toNat-48):=by unfold dig;rw[if_pos (yde h)]
def ydy (b:Nat) (R:List UInt8):Prop:=R=[]\/∃ c r,R=c::r/\isD b c=false/\c≠95
theorem yd4 {b:Nat} {R:List UInt8} (h:ydy b R):yft b R=0:=by
 rcases h with rfl | ⟨c,r,rfl,h1,h2⟩
 ·rfl
 ·exact zaz b c r h1 (fun d r' _ hh=>h2 hh.1)
theorem yd5 {b:Nat} {R:List UInt8} (h:ydy b R):jh b R=0:=by
 rcases h with rfl | ⟨c,r,rfl,h1,h2⟩
 ·rfl
 ·rw[jh,if_neg (by rw[h1];simp)]
theorem yes {b:Nat} {A R:List UInt8} (hA:allD b A) (hR:ydy b R):yft b (A++R)=A.length:=by
 induction A with
 | nil=>exact yd4 hR
 | cons c r ih=>rw[List.cons_append,zjt b c _ hA.cons.1,ih hA.cons.2,List.length_cons];omega
theorem yc5 {b:Nat} {A R:List UInt8} (hA:allD b A) (hR:ydy b R):jh b (A++R)=A.length:=by
 cases A with
 | nil=>exact yd5 hR
 | cons c r=>rw[List.cons_append,jh,if_pos hA.cons.1,yes hA.cons.2 hR,List.length_cons];omega
def pT:Option (List UInt8)->List UInt8
 | none=>[]
 | some F=>46::F
def pF:Option (List UInt8)->List UInt8
 | none=>[]
 | some F=>F
def xT (lt:UInt8):Option (UInt8×List UInt8)->List UInt8
 | none=>[]
 | some (sg,E)=>lt::sg::E
def xV:Option (UInt8×List UInt8)->Int
 | none=>0
 | some (sg,E)=>if sg=45 then -(ki (dgL 10 E):Int) else (ki (dgL 10 E):Int)
def okX:Option (UInt8×List UInt8)->Prop
 | none=>True
 | some (sg,E)=>(sg=43\/sg=45)/\allD 10 E/\E≠[]
theorem yri (b:Nat) (lt:UInt8) (h1:isD b lt=false) (h2:lt≠95) (X:Option (UInt8×List UInt8)):ydy b (xT lt X):=by
 cases X with
 | none=>exact Or.inl rfl
 | some p=>exact Or.inr ⟨lt,_,rfl,h1,h2⟩
theorem yrx (b:Nat) (lt:UInt8) (h1:isD b lt=false) (h2:lt≠95) (h3:isD b 46=false) (P:Option (List UInt8)) (X:Option (UInt8×List UInt8)):ydy b (pT P++xT lt X):=by
 cases P with
 | none=>exact yri b lt h1 h2 X
 | some F=>exact Or.inr ⟨46,_,rfl,h3,ze⟩
theorem ysm (lt:UInt8) (sg:UInt8) (E:List UInt8) (h:okX (some (sg,E))):jc lt (lt::sg::E)=some (xV (some (sg,E))):=by
 obtain⟨h1,h2,h3⟩:=h;have hrun:jh 10 E=E.length:=by have:=yc5 (R:=[]) h2 (Or.inl rfl);rwa [List.append_nil]at this
 simp only[jc];rw[if_neg zi];rcases h1 with rfl | rfl
 ·have e:sgL (43::E)=(false,E):=by simp[sgL]
  rw[e];unfold zft;rw[if_neg (by rw[hrun];simp[h3])];rfl
 ·have e:sgL (45::E)=(true,E):=by simp[sgL]
  rw[e];unfold zft;rw[if_neg (by rw[hrun];simp[h3])];rfl
theorem yez {b:Nat} {l:List UInt8} (h:allD b l):zkq b l=l.length:=by
 unfold zkq;rw[List.countP_eq_length];exact h
theorem yns (u A:List UInt8) (P:Option (List UInt8)) (X:Option (UInt8×List UInt8)) (lt:UInt8) (hu:u.drop (vy u)=A++(pT P++xT lt X)) (hlt:za2 u=lt) (hA0:A≠[]) (hA:allD (wb u) A) (hF:allD (wb u) (pF P)) (hX:okX X)
  (h1:isD (wb u) lt=false) (h2:lt≠95) (h2':lt≠46) (h3:isD (wb u) 46=false) (hx16:wb u=16->X≠none):
  zf8 u=some (xV X-((zpy u*(pF P).length:Nat):Int))/\nDigits u=dgL (wb u) (A++pF P):=by
 have hdl:u.length=vy u+(A++(pT P++xT lt X)).length:=by
  have:=congrArg List.length hu;rw[List.length_drop]at this;have h:=zcb u;omega
 have hdrop:∀ k,u.drop (vy u+k)=(A++(pT P++xT lt X)).drop k:=fun k=>by rw[<-hu,List.drop_drop]
 have hget:∀ k,u.getD (vy u+k) 0=(A++(pT P++xT lt X)).getD k 0:=fun k=>by
  rw[List.getD_eq_getElem?_getD,List.getD_eq_getElem?_getD,<-hu,List.getElem?_drop]
 have hr1:jh (wb u) (u.drop (vy u))=A.length:=by rw[hu];exact yc5 hA (yrx _ lt h1 h2 h3 P X)
 have hI1:nI1 u=vy u+A.length:=by unfold nI1;rw[hr1]
 have hfst:kl u=A:=by unfold kl;rw[hr1,hu,List.take_left'];rfl
 have hat:u.getD (nI1 u) 0=(pT P++xT lt X).getD 0 0:=by
  rw[hI1,hget,List.getD_eq_getElem?_getD,List.getD_eq_getElem?_getD,List.getElem?_append_right (Nat.le_refl _),Nat.sub_self]
 have hpt:nPt u↔P≠none:=by
  unfold nPt;rw[hat,hI1,hdl,List.length_append,List.length_append];cases P with
  | none=>
   simp only[pT,List.nil_append,ne_eq,not_true_eq_false,iff_false,not_and];intro _;cases X with
   | none=>simp[xT]
   | some p=>simp only[xT,List.getD_cons_zero];exact h2'
  | some F=>simp[pT];omega
 have hsnd:xz u=pF P/\nI2 u=vy u+(A++pT P).length:=by
  unfold xz nI2;cases P with
  | none=>rw[if_neg (by rw[hpt];simp),if_neg (by rw[hpt];simp),hI1];simp[pF,pT]
  | some F=>
   have hd2:u.drop (nI1 u+1)=F++xT lt X:=by
    rw[hI1,Nat.add_assoc,hdrop,List.drop_append,List.drop_of_length_le zd,Nat.add_sub_cancel_left];rfl
   have hr2:jh (wb u) (u.drop (nI1 u+1))=F.length:=by rw[hd2];exact yc5 hF (yri _ lt h1 h2 X)
   rw[if_pos (hpt.2 zi),if_pos (hpt.2 zi),hr2,hd2,List.take_left' rfl];refine⟨rfl,?_⟩;rw[hI1];simp only[pT,List.length_append,List.length_cons];omega
 have hdX:u.drop (nI2 u)=xT lt X:=by
  rw[hsnd.2,hdrop,<-List.append_assoc,List.drop_left' rfl]
 have hexp:zpz u=some (xV X):=by
  unfold zpz;rw[hlt,hdX];have hlen:nI2 u<u.length↔X≠none:=by
   rw[hsnd.2,hdl];simp only[List.length_append];cases X with
   | none=>simp[xT]
   | some p=>simp[xT]
  cases X with
  | none=>
   rw[if_neg]
   ·rfl
   ·rintro (h | h)
    ·exact absurd rfl (hlen.1 h)
    ·exact absurd rfl (hx16 h)
  | some p=>rw[if_pos (Or.inl (hlen.2 zi))];exact ysm lt p.1 p.2 hX
 refine⟨?_,by unfold nDigits;rw[hfst,hsnd.1]⟩;unfold zf8;rw[hfst,hsnd.1,if_neg (fun h=>hA0 h.1),hexp,yez hF];rfl
theorem yc7 (s:List UInt8) (h:∀ c ∈ s,¬(65<=c.toNat/\c.toNat<=90)):xf s=s:=by
 unfold xf;induction s with
 | nil=>rfl
 | cons c r ih=>
  rw[List.map_cons,ih (fun x hx=>h x (by simp[hx]))];unfold vb;rw[if_neg (h c zi)]
theorem ydp (neg:Bool) (u:List UInt8) (c:UInt8) (r:List UInt8) (hu:u=c::r) (hc:isD 10 c=true) (hl:xf u=u) (x:Int) (hx:zf8 u=some x):ul (eSign neg++u)=some ⟨0,neg,wb u,nDigits u,x⟩:=by
 have hcc:=yde hc;have ne:∀ k:UInt8,¬(48<=k.toNat/\k.toNat<=57)->c≠k:=fun k hk e=>hk (e ▸ hcc)
 have hlow:xf (eSign neg++u)=eSign neg++u:=by
  have:xf (eSign neg++u)=xf (eSign neg)++xf u:=by unfold xf;rw[List.map_append]
  rw[this,hl];cases neg <;> rfl
 have hsg:sgL (eSign neg++u)=(neg,u):=by
  rw[hu];cases neg
  ·simp only[eSign,Bool.false_eq_true,if_false,List.nil_append,sgL];rw[if_neg (ne 43 ze),if_neg (ne 45 ze)]
  ·simp[eSign,sgL]
 unfold ul;rw[hlow,hsg,if_neg]
 ·unfold zna;rw[if_neg,hx]
  ·rfl
  ·rw[hu];rintro (h | h)
   ·exact ne 105 ze (List.cons.inj h).1
   ·exact ne 105 ze (List.cons.inj h).1
 ·rw[hu];intro h;cases neg
  ·exact ne 110 ze (List.cons.inj h).1
  ·have:=(List.cons.inj h).1;revert this;decide
theorem ypj (neg:Bool) (A:List UInt8) (P:Option (List UInt8)) (X:Option (UInt8×List UInt8)) (hA0:A≠[]) (hA:allD 10 A) (hF:allD 10 (pF P)) (hX:okX X):
  ul (eSign neg++(A++(pT P++xT 101 X)))=some ⟨0,neg,10,dgL 10 (A++pF P),xV X-(((pF P).length:Nat):Int)⟩:=by
 obtain⟨u,hu⟩:=zX (A++(pT P++xT 101 X));rw[hu];have hmem:∀ c ∈ u,(48<=c.toNat/\c.toNat<=57)\/c=46\/c=101\/c=43\/c=45:=by
  intro c hc;rw[<-hu,List.mem_append,List.mem_append]at hc;rcases hc with hc | hc | hc
  ·exact Or.inl (yde (hA c hc))
  ·cases P with
   | none=>cases hc
   | some F=>
    rcases List.mem_cons.1 hc with h | h
    ·exact Or.inr (Or.inl h)
    ·exact Or.inl (yde (hF c h))
  ·cases X with
   | none=>cases hc
   | some p=>
    obtain⟨sg,E⟩:=p;obtain⟨h1,h2,h3⟩:=hX;simp only[xT,List.mem_cons]at hc;rcases hc with h | h | h
    ·exact Or.inr (Or.inr (Or.inl h))
    ·rcases h1 with rfl | rfl
     ·exact Or.inr (Or.inr (Or.inr (Or.inl h)))
     ·exact Or.inr (Or.inr (Or.inr (Or.inr h)))
    ·exact Or.inl (yde (h2 c h))
 have hnx:¬zd4 u:=by
  rintro⟨h1,_,h3⟩;have hm:u.getD 1 0 ∈ u:=by rw[List.getD_eq_getElem?_getD,List.getElem?_eq_getElem h1];exact List.getElem_mem _
  rw[h3]at hm;rcases hmem 120 hm with h | h | h | h | h <;> revert h <;> decide
 have hb:wb u=10:=by unfold wb;rw[if_neg hnx]
 have hf0:vy u=0:=by unfold vy;rw[if_neg hnx]
 have hp:zpy u=1:=by unfold zpy;rw[hb];rfl
 have hl:za2 u=101:=by unfold za2;rw[hb];rfl
 obtain⟨h1,h2⟩:=yns u A P X 101 (by rw[hf0,List.drop_zero,hu]) hl hA0 (by rw[hb];exact hA) (by rw[hb];exact hF) hX (by rw[hb];decide) ze ze (by rw[hb];decide) (by rw[hb];intro h;cases h);rw[hp,Nat.one_mul]at h1;rw[hb]at h2;obtain⟨c,r,hcr⟩:∃ c r,u=c::r:=by
  cases A with
  | nil=>exact absurd rfl hA0
  | cons c r=>exact⟨c,_,hu.symm⟩
 have hcd:isD 10 c=true:=by
  cases A with
  | nil=>exact absurd rfl hA0
  | cons c' r'=>
   have:=hu.trans hcr;rw[List.cons_append]at this;rw[<-(List.cons.inj this).1];exact hA.cons.1
 have:=ydp neg u c r hcr hcd (yc7 u (fun c hc=>by rcases hmem c hc with h | rfl | rfl | rfl | rfl <;> first | omega | decide)) _ h1;rw[this,hb,h2]
theorem yco (b:Nat) (l:List Nat) (d:Nat):jy b (l++[d])=jy b l*b+d:=by unfold jy;rw[List.foldl_append];rfl
theorem yd8 (v d:Nat) (hv:v≠0) (hd:d<=9):yi (v*10+d)=yi v+1:=by
 have h1:=qh hv;have h2:=xi v;have h3:=yfr hv;obtain⟨k,hk⟩:∃ k,yi v=k+1:=⟨yi v-1,zd⟩;rw[hk]at h1 h2 ⊢;rw[Nat.add_sub_cancel]at h1;refine vg (k+1) _ ?_ ?_
 ·rw[Nat.pow_succ];omega
 ·rw[Nat.pow_succ];omega
theorem yem (b:Nat) (l:List UInt8) (c:UInt8):dgL b (l++[c])=vp b (dgL b l) c:=by unfold dgL;rw[List.foldl_append];rfl
theorem ydm (n:Nat):∀ (l:List UInt8),l.length=n->allD 10 l->jy 10 (dgL 10 l)=zd5 l/\(dgL 10 l).length=yi (zd5 l):=by
 induction n with
 | zero=>
  intro l hl _;have:l=[]:=List.length_eq_zero_iff.1 hl;subst this;exact⟨rfl,rfl⟩
 | succ n ih=>
  intro l hl hA;have hne:l≠[]:=by intro h;rw[h]at hl;cases hl
  obtain⟨m,c,rfl⟩:∃ m c,l=m++[c]:=⟨l.dropLast,l.getLast hne,(List.dropLast_concat_getLast hne).symm⟩;have hm:m.length=n:=by rw[List.length_append]at hl;simpa using hl
  obtain⟨h1,h2⟩:=ih m hm (fun x hx=>hA x (by simp[hx]));have hc:=hA c zi;have hcc:=yde hc;rw[yem,zi3];unfold vp;rw[dig10 hc];dsimp only;by_cases h:0<c.toNat-48\/dgL 10 m≠[]
  ·rw[if_pos h,yco,h1,List.length_append,h2];refine⟨rfl,?_⟩;by_cases h0:zd5 m=0
   ·rw[h0,kw];have h3:dgL 10 m=[]:=by rw[h0,kw]at h2;exact List.length_eq_zero_iff.1 h2
    have h4:0<c.toNat-48:=h.resolve_right (fun hh=>hh h3);rw[Nat.zero_mul,Nat.zero_add];exact (vg 0 _ zd zd).symm
   ·exact (yd8 _ _ h0 zd).symm
  ·rw[if_neg h];have h3:dgL 10 m=[]:=Classical.byContradiction (fun hh=>h (Or.inr hh));have h4:c.toNat-48=0:=by have:=fun hh=>h (Or.inl hh);omega
   have h5:zd5 m=0:=by rw[<-h1,h3];rfl
   rw[h3,h4,h5];exact⟨rfl,rfl⟩
def rdV (neg:Bool) (v:Nat) (x:Int):Bool×Nat×Nat:=if v=0 then (neg,0,1) else (neg,v*10^x.toNat,10^(-x).toNat)
theorem yl1 (neg:Bool) (A:List UInt8) (P:Option (List UInt8)) (X:Option (UInt8×List UInt8)) (hA0:A≠[]) (hA:allD 10 A) (hF:allD 10 (pF P)) (hX:okX X)
  (h1:zd5 (A++pF P)≠0->(yi (zd5 (A++pF P)):Int)-1+(xV X-(((pF P).length:Nat):Int))<=400) (h2:zd5 (A++pF P)≠0->-400<=(yi (zd5 (A++pF P)):Int)-1+(xV X-(((pF P).length:Nat):Int))):
  zjy (eSign neg++(A++(pT P++xT 101 X)))=some (rdV neg (zd5 (A++pF P)) (xV X-(((pF P).length:Nat):Int))):=by
 unfold zjy;rw[ypj neg A P X hA0 hA hF hX];dsimp only;obtain⟨h3,h4⟩:=ydm _ (A++pF P) rfl (hA.append hF);rw[if_neg zi];unfold rdV;by_cases h0:zd5 (A++pF P)=0
 ·have h5:dgL 10 (A++pF P)=[]:=by rw[h0,kw]at h4;exact List.length_eq_zero_iff.1 h4
  rw[if_pos h5,if_pos h0]
 ·have h5:dgL 10 (A++pF P)≠[]:=by intro h;apply h0;rw[<-h3,h];rfl
  have hord:zb8 10 (dgL 10 (A++pF P)) (xV X-(((pF P).length:Nat):Int))=0:=by
   unfold zb8;rw[if_neg h5,if_neg ze,h4];have:=h1 h0;have:=h2 h0;rw[if_neg zd,if_neg zd]
  rw[if_neg h5,if_neg (fun h=>h hord),if_neg h0,h3];rfl
theorem yet (V:Nat) (E:Int) (k1 k2:Nat):(V*10^k1*10^(E-(k1:Int)).toNat)*10^(-(E-(k2:Int))).toNat=(V*10^k2*10^(E-(k2:Int)).toNat)*10^(-(E-(k1:Int))).toNat:=by
 simp only[Nat.mul_assoc,<-Nat.pow_add];congr 2;omega
theorem ycw (l:List UInt8) (k:Nat):zd5 (l++List.replicate k 48)=zd5 l*10^k:=by
 induction k with
 | zero=>simp
 | succ k ih=>
  rw[List.replicate_succ',<-List.append_assoc,zi3,ih,Nat.pow_succ];show zd5 l*10^k*10+0=_;rw[Nat.add_zero,Nat.mul_assoc]
theorem ydg (k:Nat) (l:List UInt8):zd5 (List.replicate k 48++l)=zd5 l:=by
 induction k with
 | zero=>simp
 | succ k ih=>
  rw[List.replicate_succ,List.cons_append,zd5,ih];show 0*_+_=_;omega
theorem yei (n:Nat):∀ l:List Nat,l.length=n->ki l=min (jy 10 l) 1000000000000000:=by
 induction n with
 | zero=>intro l hl;rw[List.length_eq_zero_iff.1 hl];rfl
 | succ n ih=>
  intro l hl;have hne:l≠[]:=by intro h;rw[h]at hl;cases hl
  obtain⟨m,c,rfl⟩:∃ m c,l=m++[c]:=⟨l.dropLast,l.getLast hne,(List.dropLast_concat_getLast hne).symm⟩;have hm:=ih m (by rw[List.length_append]at hl;simpa using hl);have e:ki (m++[c])=min (ki m*10+c) 1000000000000000:=by unfold ki;rw[List.foldl_append];rfl
  rw[e,hm,yco];omega
theorem yej (E:List UInt8) (h:allD 10 E) (hl:zd5 E<1000000000000000):ki (dgL 10 E)=zd5 E:=by
 rw[yei _ _ rfl,(ydm _ E rfl h).1];omega
theorem yeu (n:Nat) (h:n<=9):isD 10 (UInt8.ofNat (48+n))=true/\(UInt8.ofNat (48+n)).toNat=48+n:=by
 have e:(UInt8.ofNat (48+n)).toNat=48+n:=by rw[UInt8.toNat_ofNat'];omega
 refine⟨?_,e⟩;unfold isD dig;rw[e,if_pos zd];rfl
theorem ys6 (e:Int) (h1:-999<=e) (h2:e<=999):∃ sg E,expL e=sg::E/\okX (some (sg,E))/\xV (some (sg,E))=e:=by
 have key:∀ E:List UInt8,allD 10 E->E≠[]->zd5 E=e.natAbs->okX (some ((if e<0 then 45 else 43),E))/\xV (some ((if e<0 then 45 else 43),E))=e:=by
  intro E hE h0 hv;refine⟨⟨by split <;> simp,hE,h0⟩,?_⟩;dsimp only[xV];rw[yej E hE zd,hv];by_cases hn:e<0
  ·rw[if_pos hn,if_pos rfl];omega
  ·rw[if_neg hn,if_neg ze];omega
 unfold expL;by_cases h10:e.natAbs<10
 ·rw[if_pos h10];obtain⟨i1,i2⟩:=yeu e.natAbs zd;refine⟨_,_,rfl,key _ ?_ zi ?_⟩
  ·intro c hc;simp only[List.mem_cons,List.not_mem_nil,or_false]at hc;rcases hc with rfl | rfl
   ·decide
   ·exact i1
  ·simp only[zd5,i2,List.length_cons,List.length_nil];show 0*_+_=_;omega
 ·by_cases h100:e.natAbs<100
  ·rw[if_neg h10,if_pos h100];obtain⟨i1,i2⟩:=yeu (e.natAbs / 10) zd;obtain⟨j1,j2⟩:=yeu (e.natAbs%10) zd;refine⟨_,_,rfl,key _ ?_ zi ?_⟩
   ·intro c hc;simp only[List.mem_cons,List.not_mem_nil,or_false]at hc;rcases hc with rfl | rfl
    ·exact i1
    ·exact j1
   ·simp only[zd5,i2,j2,List.length_cons,List.length_nil];omega
  ·rw[if_neg h10,if_neg h100];obtain⟨i1,i2⟩:=yeu (e.natAbs / 100) zd;obtain⟨j1,j2⟩:=yeu (e.natAbs / 10%10) zd;obtain⟨k1,k2⟩:=yeu (e.natAbs%10) zd;refine⟨_,_,rfl,key _ ?_ zi ?_⟩
   ·intro c hc;simp only[List.mem_cons,List.not_mem_nil,or_false]at hc;rcases hc with rfl | rfl | rfl
    ·exact i1
    ·exact j1
    ·exact k1
   ·simp only[zd5,i2,j2,k2,List.length_cons,List.length_nil];omega
def dxv (ds:List UInt8) (dp:Int):Int:=dp-(ds.length:Int)
theorem ypl (neg:Bool) (ds:List UInt8) (dp pr:Int) (hd:∀ c ∈ ds,zd2 c) (hpr:(ds.length:Int)-1<=pr) (hdp1:-390<=dp) (hdp2:dp<=390) (hlead:ds≠[]->yi (zd5 ds)=ds.length) (hpr2:pr<=100000) (hl:ds.length<=1000):
  ∃ k:Nat,(k:Int)<=400+max pr 0/\zjy (ymm neg ds dp pr 101)=some (rdV neg (zd5 ds*10^k) (dxv ds dp-(k:Int))):=by
 have hA:=ykv hd;have hee:-999<=ynz ds dp/\ynz ds dp<=999:=zγA;obtain⟨sg,E,hE,hok,hxv⟩:=ys6 (ynz ds dp) hee.1 hee.2;unfold ymm;rw[hE];have hfr:∃ P:Option (List UInt8),ykt ds pr=pT P/\allD 10 (pF P)/\[ds.headD 48]++pF P=(if ds=[] then [48] else ds)++List.replicate ((if ds=[] then pr else pr-((ds.length:Int)-1))).toNat 48/\((pF P).length:Int)=max pr 0:=by
  unfold ykt;by_cases h0:0<pr
  ·rw[if_pos h0];refine⟨some _,rfl,?_,?_,?_⟩
   ·exact ((hA.drop 1).take _).append (allD.zeros _)
   ·cases ds with
    | nil=>simp[pF]
    | cons c r=>
     have hr:(r.length:Int)<=pr:=by simp only[List.length_cons]at hpr;omega
     simp only[pF,List.headD_cons,List.drop_succ_cons,List.drop_zero,reduceCtorEq,if_false,List.length_cons];rw[List.take_of_length_le zd];rw[<-List.append_assoc];congr 2;omega
   ·simp only[pF,List.length_append,List.length_replicate,List.length_take,List.length_drop];omega
  ·rw[if_neg h0];refine⟨none,rfl,?_,?_,?_⟩
   ·intro c hc;cases hc
   ·cases ds with
    | nil=>simp[pF];omega
    | cons c r=>
     simp only[List.length_cons]at hpr;have hr:r=[]:=List.length_eq_zero_iff.1 zd;subst hr;simp[pF];omega
   ·simp[pF];omega
 obtain⟨P,hP,hF,hAF,hFl⟩:=hfr;rw[hP];have hsh:eSign neg++([ds.headD 48]++(pT P++([UInt8.ofNat (101:Int).toNat]++sg::E)))=eSign neg++([ds.headD 48]++(pT P++xT 101 (some (sg,E)))):=rfl;rw[hsh];have hhd:allD 10 [ds.headD 48]:=by
  intro c hc;rw[List.mem_singleton.1 hc];cases ds with
  | nil=>decide
  | cons c r=>exact hA c zi
 by_cases h0:ds=[]
 ·subst h0;have hv:zd5 ([([]:List UInt8).headD 48]++pF P)=0:=by
   rw[hAF,if_pos rfl,ycw];have:zd5 [48]=0:=rfl;rw[this,Nat.zero_mul]
  refine⟨0,zd,?_⟩;rw[yl1 neg _ P (some (sg,E)) zi hhd hF hok (fun h=>absurd hv h) (fun h=>absurd hv h),hv];simp[rdV,zd5]
 ·have hv:zd5 ([ds.headD 48]++pF P)=zd5 ds*10^(pr-((ds.length:Int)-1)).toNat:=by
   rw[hAF,if_neg h0,if_neg h0,ycw]
  have hln:=hlead h0;have hlpos:1<=ds.length:=by cases ds with
   | nil=>exact absurd rfl h0
   | cons c r=>simp
  have hds0:zd5 ds≠0:=by intro h;rw[h,kw]at hln;omega
  have hnd:yi (zd5 ds*10^(pr-((ds.length:Int)-1)).toNat)=ds.length+(pr-((ds.length:Int)-1)).toNat:=by
   generalize (pr-((ds.length:Int)-1)).toNat=k;induction k with
   | zero=>simpa using hln
   | succ k ih=>
    rw[Nat.pow_succ,<-Nat.mul_assoc,za3 (Nat.mul_ne_zero hds0 (Nat.ne_of_gt (Nat.pow_pos zd))),ih];omega
  have hx:ynz ds dp=dp-1:=by unfold ynz;rw[if_neg h0]
  refine⟨(pr-((ds.length:Int)-1)).toNat,zd,?_⟩;rw[yl1 neg _ P (some (sg,E)) zi hhd hF hok (fun _=>by rw[hv,hnd,hxv,hx];omega) (fun _=>by rw[hv,hnd,hxv,hx];omega),hv,hxv,hx];congr 2;unfold dxv;omega
theorem yp6 (ds:List UInt8) (dp pr:Int) (hA:allD 10 ds) (hpr:(ds.length:Int)-dp<=max pr 0):
  ∃ (P:Option (List UInt8)) (j:Nat),ymc ds dp pr=pT P/\allD 10 (pF P)/\allD 10 (ylj ds dp)/\ylj ds dp≠[]/\ylj ds dp++pF P=List.replicate j 48++(ds++List.replicate (dp-(ds.length:Int)+max pr 0).toNat 48)/\((pF P).length:Int)=max pr 0:=by
 have hI:allD 10 (ylj ds dp):=by
  unfold ylj;split
  ·exact (hA.take _).append (allD.zeros _)
  ·intro c hc;rw[List.mem_singleton.1 hc];decide
 have hI0:ylj ds dp≠[]:=by
  unfold ylj;split
  ·rename_i h;intro h2;have:=congrArg List.length h2;simp only[List.length_append,List.length_take,List.length_replicate,List.length_nil]at this;omega
  ·simp
 unfold ymc;by_cases h0:0<pr
 ·rw[if_pos h0];by_cases hdp:0<dp
  ·have hlz:fLz dp pr=0:=by unfold fLz;omega
   have hM:fM ds.length dp pr=max 0 ((ds.length:Int)-dp):=by unfold fM;rw[hlz];omega
   rw[hlz,hM,Int.add_zero];refine⟨some _,0,rfl,?_,hI,hI0,?_,?_⟩
   ·exact (allD.zeros _).append (((hA.drop _).take _).append (allD.zeros _))
   ·unfold ylj;rw[if_pos hdp];simp only[pF,List.replicate_zero,List.nil_append,Int.toNat_zero];by_cases h1:(ds.length:Int)<=dp
    ·rw[List.take_of_length_le zd,List.drop_of_length_le zd];simp only[List.take_nil,List.nil_append,List.append_assoc];rw[List.append_cancel_left_eq,List.replicate_append_replicate];congr 1;omega
    ·rw[show dp.toNat-ds.length=0 by omega,List.replicate_zero,List.append_nil,List.take_of_length_le (l:=ds.drop dp.toNat) (by rw[List.length_drop];omega),<-List.append_assoc,List.take_append_drop];congr 2;omega
   ·simp only[pF,List.length_append,List.length_replicate,List.length_take,List.length_drop];omega
  ·have hlz:fLz dp pr=-dp:=by unfold fLz;omega
   have hM:fM ds.length dp pr=ds.length:=by unfold fM;rw[hlz];omega
   rw[hlz,hM,show dp+-dp=0 by omega];refine⟨some _,(1-dp).toNat,rfl,?_,hI,hI0,?_,?_⟩
   ·exact (allD.zeros _).append (((hA.drop _).take _).append (allD.zeros _))
   ·unfold ylj;rw[if_neg hdp];simp only[pF,Int.toNat_zero,List.drop_zero];rw[List.take_of_length_le zd,show (1-dp).toNat=(-dp).toNat+1 by omega,List.replicate_succ,List.cons_append,List.cons_append,List.nil_append];congr 3;congr 1;omega
   ·simp only[pF,List.length_append,List.length_replicate,List.length_take,List.length_drop];omega
 ·rw[if_neg h0];have hmx:max pr 0=0:=zd;rw[hmx];by_cases hdp:0<dp
  ·refine⟨none,0,rfl,(by intro c hc;cases hc),hI,hI0,?_,rfl⟩;unfold ylj;rw[if_pos hdp,List.take_of_length_le zd];simp only[pF,List.append_nil,List.replicate_zero,List.nil_append];congr 2;omega
  ·have hn:ds=[]:=List.length_eq_zero_iff.1 zd;subst hn;refine⟨none,1,rfl,(by intro c hc;cases hc),hI,hI0,?_,rfl⟩;unfold ylj;rw[if_neg hdp];simp only[pF,List.length_nil,List.append_nil,List.nil_append]at *
   have:(dp-((0:Nat):Int)+0).toNat=0:=zd;rw[this];rfl
theorem ysx (neg:Bool) (ds:List UInt8) (dp pr:Int) (hd:∀ c ∈ ds,zd2 c) (hpr:(ds.length:Int)-dp<=max pr 0) (hdp1:-390<=dp) (hdp2:dp<=390) (hlead:ds≠[]->yi (zd5 ds)=ds.length):
  ∃ k:Nat,(k:Int)<=400+max pr 0/\zjy (yn1 neg ds dp pr)=some (rdV neg (zd5 ds*10^k) (dxv ds dp-(k:Int))):=by
 obtain⟨P,j,h1,h2,h3,h4,h5,h6⟩:=yp6 ds dp pr (ykv hd) hpr;have hv:zd5 (ylj ds dp++pF P)=zd5 ds*10^(dp-(ds.length:Int)+max pr 0).toNat:=by rw[h5,ydg,ycw]
 unfold yn1;rw[h1,show pT P=pT P++xT 101 none by simp[xT]];by_cases h0:zd5 ds=0
 ·have hz:zd5 (ylj ds dp++pF P)=0:=by rw[hv,h0,Nat.zero_mul]
  refine⟨0,zd,?_⟩;rw[yl1 neg _ P none h4 h3 h2 trivial (fun h=>absurd hz h) (fun h=>absurd hz h),hz,h0];simp[rdV]
 ·have hne:ds≠[]:=by intro h;rw[h]at h0;exact h0 rfl
  have hnd:=yqw (zd5 ds) (dp-(ds.length:Int)+max pr 0).toNat _ h0 (hlead hne);have hx:xV none-(((pF P).length:Nat):Int)=-max pr 0:=by show (0:Int)-_=_;omega
  refine⟨(dp-(ds.length:Int)+max pr 0).toNat,zd,?_⟩;rw[yl1 neg _ P none h4 h3 h2 trivial (fun _=>by rw[hv,hnd,hx];omega) (fun _=>by rw[hv,hnd,hx];omega),hv,hx];congr 2;unfold dxv;omega
structure DsOk (ds:List UInt8):Prop where
 dig:∀ c ∈ ds,zd2 c
 lead:ds≠[]->yi (zd5 ds)=ds.length
theorem DsOk.nil:DsOk []:=⟨(fun c hc=>by cases hc),fun h=>absurd rfl h⟩
theorem DsOk.digs (M:Nat) (h:M≠0):DsOk (digs M (yi M)):=by
 refine⟨zeh _ _,fun _=>?_⟩;rw[zhi,Nat.mod_eq_of_lt (xi M),va]
theorem DsOk.of (d:Nat):DsOk (yko d):=by
 by_cases h0:d=0
 ·subst h0;have:yko 0=[]:=by unfold yko;rw[kw];rfl
  rw[this];exact DsOk.nil
 ·have h1:=zk3 (Go.Proofs.YtnifedmhgncioaaGreatDoor.digs d (yi d)) d h0 zβL;have:yko d=Go.Proofs.YtnifedmhgncioaaGreatDoor.digs (zga d) (yi (zga d)):=by unfold yko;rw[h1.1];exact h1.2
  rw[this];exact DsOk.digs _ (zpc d h0)
theorem yng (neg:Bool) (ds:List UInt8) (dp pr f:Int):((ymm neg ds dp pr f).length:Int)<=max pr 0+10:=by
 unfold ymm;have h1:=you (ynz ds dp);have h2:=yk6 neg;have h3:((ykt ds pr).length:Int)<=max pr 0+1:=by
  unfold ykt;split
  ·simp only[List.length_cons,List.length_append,List.length_replicate,List.length_take,List.length_drop];omega
  ·simp;omega
 simp only[List.length_append,List.length_cons,List.length_nil];omega
theorem yra (neg:Bool) (ds:List UInt8) (dp pr:Int) (hA:allD 10 ds) (hpr:(ds.length:Int)-dp<=max pr 0):((yn1 neg ds dp pr).length:Int)<=max dp 1+max pr 0+10:=by
 unfold yn1;obtain⟨P,j,h1,h2,h3,h4,h5,h6⟩:=yp6 ds dp pr hA hpr;have h7:=yk6 neg;have h8:((ylj ds dp).length:Int)=max dp 1:=by
  unfold ylj;split
  ·simp only[List.length_append,List.length_replicate,List.length_take];omega
  ·simp;omega
 have h9:(pT P).length<=(pF P).length+1:=by cases P <;> simp[pT,pF]
 rw[h1];simp only[List.length_append];omega
theorem ymr (Z:Nat) (ME:Int) (m:Nat) (e:Int) (hZ:Z=11/\ME=-1085/\-1137<=e/\e<=960\/Z=40/\ME=-189/\-212<=e/\e<=64):-330<=(kg Z ME m e).2/\(kg Z ME m e).2<=330:=by
 have hc1:-300<=(shC Z ME m e).1/\(shC Z ME m e).1<=326:=by
  unfold shC;rcases hZ with⟨rfl,rfl,h1,h2⟩ | ⟨rfl,rfl,h1,h2⟩ <;> (repeat' split) <;> dsimp only <;> omega
 unfold kg;dsimp only;split
 ·dsimp only;omega
 ·split
  ·dsimp only;omega
  ·dsimp only;omega
theorem yms (Z:Nat) (ME:Int) (mb m:Nat) (x:Int) (hz:Z=11/\ME=-1085/\mb=52/\-1022<=x/\x<=1023/\m<2^53\/Z=40/\ME=-189/\mb=23/\-126<=x/\x<=127/\m<2^24):
  ∃ ds dp,DsOk ds/\ds.length<=20/\-390<=dp/\dp<=390/\∀ f:Int,(f=101\/f=102\/f=103)->∃ pr:Int,ykq Z ME mb m x (-1) f=⟨ds,dp,pr,true⟩/\(f=101->(ds.length:Int)-1<=pr/\pr<=20)/\(f=102->(ds.length:Int)-dp<=max pr 0/\pr<=500)/\(f=103->pr=ds.length\/(ds=[]/\dp=0)):=by
 have hm53:m<2^53:=zd;by_cases hm0:m=0
 ·refine⟨[],0,DsOk.nil,zi,zd,zd,fun f hf=>⟨-1,?_,fun _=>zi,fun h=>?_,fun _=>Or.inr ⟨rfl,rfl⟩⟩⟩
  ·unfold ykq;rw[if_pos hm0];rfl
  ·simp;omega
 ·obtain⟨hb1,hb2,hb3,hb4⟩:=zdq m zd hm0;have hS:11<=shS m/\shS m<=63/\(Z=40->40<=shS m):=by
   have:=Lib.bitLen_le m 53 zd hm53;refine⟨zγb,zγb,fun h=>?_⟩;have h2:=Lib.bitLen_le m 24 zd zd;unfold shS;omega
  have hmm:m*2^shS m<18446744073709551616:=by
   rw[show (18446744073709551616:Nat)=2^Lib.bitLen m*2^shS m by rw[<-Nat.pow_add,show Lib.bitLen m+shS m=64 by unfold shS;omega]];exact Nat.mul_lt_mul_of_pos_right hb3 (Nat.pow_pos zd)
  have hz2:Z=11/\ME=-1085/\-1137<=x-mb-shS m/\x-mb-shS m<=960\/Z=40/\ME=-189/\-212<=x-mb-shS m/\x-mb-shS m<=64:=by
   rcases hz with⟨a,b,c,d,e,_⟩ | ⟨a,b,c,d,e,_⟩
   ·exact Or.inl ⟨a,b,zd,zd⟩
   ·exact Or.inr ⟨a,b,by have:=hS.2.2 a;omega,by have:=hS.2.2 a;omega⟩
  have h1:=ylm Z ME (m*2^shS m) (x-mb-shS m) hz2 hmm;have h2:=ymr Z ME (m*2^shS m) (x-mb-shS m) hz2;obtain⟨r,hr⟩:=zX (kg Z ME (m*2^shS m) (x-mb-shS m));rw[hr]at h1 h2;have h3:=yku r.1;have h4:=zjj (digs r.1 (yi r.1)) (yi r.1);have h5:=yks r.1 h1.1;refine⟨yko r.1,yi r.1+r.2,DsOk.of _,zd,zd,zd,fun f hf=>⟨yj9 (yko r.1).length (yi r.1+r.2) (-1) f,?_,?_,?_,?_⟩⟩
  ·unfold ykq;rw[if_neg hm0,if_pos zd];unfold ykg;rw[hr]
  ·rintro rfl;unfold yj9;rw[if_pos (Or.inl rfl)];omega
  ·rintro rfl;unfold yj9;rw[if_neg zd,if_pos rfl];omega
  ·rintro rfl;unfold yj9;rw[if_neg zd,if_neg zd,if_pos (Or.inl rfl)];exact Or.inl rfl
theorem yal (m:Nat) (e:Int) (hm:m<2^53) (h1:-1074<=e) (h2:e<=971):(yf (vN m e)).length<=100/\(yf (vD e)).length<=100:=by
 obtain⟨K,hK⟩:∃ K,K=100:=⟨_,rfl⟩;rw[<-hK];constructor
 ·refine yv ?_;unfold vN;refine Nat.lt_of_lt_of_le (Nat.mul_lt_mul_of_pos_right hm (Nat.two_pow_pos _)) ?_;rw[<-Nat.pow_add,js];exact Nat.pow_le_pow_right zd zd
 ·refine yv ?_;unfold vD;rw[js];exact Nat.pow_lt_pow_right zd zd
theorem zlo (s:Nat) (E:Int) (a b:Nat) (hb:b≠0) (hab:a*vD E=vN s E*b) (h1:4503599627370496<=s) (h2:s<9007199254740992) (hE1:-1074<=E) (hE2:E<=971):
  xh 52 1023 9218868437227405312 a b=(E+1074).toNat*4503599627370496+s:=by
 have hs0:s≠0:=zd;have hvn:=yam E hs0;have hvd:=zjf E;have ha:a≠0:=by
  intro h0;rw[h0,Nat.zero_mul]at hab;exact absurd hab.symm (Nat.mul_ne_zero hvn hb)
 have ho:uo a b=E+52:=by
  refine zfa ha hb ((zan zd hvd hab _).2 ?_) (fun hh=>?_)
  ·rw[ws (j:=-E) (n:=52) zd,Int.neg_neg];unfold vN vD;rw[Nat.mul_assoc s,Nat.mul_comm (2^(-E).toNat) (2^E.toNat)];exact Nat.mul_le_mul_right _ h1
  ·have:=(zan zd hvd hab _).1 hh;rw[ws (j:=-E) (n:=53) zd,Int.neg_neg]at this;unfold vN vD at this;rw[Nat.mul_assoc s,Nat.mul_comm (2^(-E).toNat) (2^E.toNat)]at this;have h3:=Nat.le_of_mul_le_mul_right this (Nat.mul_pos (p2 _) (p2 _));omega
 have hne:yt 52 1023 a b=E:=by
  unfold yt;rw[if_neg ha,ho];omega
 have hrb:rB a b E=s:=by
  unfold rB;have:vi (a*2^(-E).toNat) (b*2^E.toNat)=vi (s*1) 1:=by
   refine yj7 (Nat.mul_pos zd (p2 _)) zd ?_;rw[Nat.mul_one,Nat.mul_one];unfold vN vD at hab;rw[hab];ac_rfl
  rw[this];exact zad s 1 zd
 unfold xh;rw[hne,if_pos zd,hrb];congr 2
theorem zrj (s:Nat) (E:Int) (g:Nat) (h1:4503599627370496<=s) (h2:s<9007199254740992) (hE1:-1074<=E) (hE2:E<=971) (hg:g=0\/g=9223372036854775808):
  m64 ((E+1074).toNat*4503599627370496+s+g)=s/\e64 ((E+1074).toNat*4503599627370496+s+g)=E/\((E+1074).toNat*4503599627370496+s+g)%9223372036854775808<9218868437227405312/\(E+1074).toNat*4503599627370496+s+g<18446744073709551616/\decide (9223372036854775808<=(E+1074).toNat*4503599627370496+s+g)=decide (g=9223372036854775808):=by
 obtain⟨q,hq⟩:=zX ((E+1074).toNat);rw[hq];have hq2:q<=2045:=zd;have f1:flE 11 52 (q*4503599627370496+s+g)=q+1:=by unfold flE;omega
 have f2:flF 52 (q*4503599627370496+s+g)=s-4503599627370496:=by unfold flF;omega
 refine⟨?_,?_,zd,zd,?_⟩
 ·unfold m64 zen;rw[f1,if_neg zd,f2];omega
 ·unfold e64 zor;rw[f1,if_neg zd];omega
 ·rw[decide_eq_decide];omega
theorem zgd (m:Nat) (e:Int) (g:Nat) (hm:m<16777216) (he1:-149<=e) (he2:e<=104) (hg:g=0\/g=9223372036854775808):
  ∃ N,xh 52 1023 9218868437227405312 (vN m e) (vD e)+g=N/\N<18446744073709551616/\N%9223372036854775808<9218868437227405312/\decide (9223372036854775808<=N)=decide (g=9223372036854775808)/\vN m e*vD (e64 N)=vN (m64 N) (e64 N)*vD e:=by
 by_cases h0:m=0
 ·subst h0;have hV:vN 0 e=0:=by unfold vN;rw[Nat.zero_mul]
  have hn:xh 52 1023 9218868437227405312 (vN 0 e) (vD e)=0:=by
   rw[hV];unfold xh yt;rw[if_pos rfl,if_pos zd];unfold rB;rw[Nat.zero_mul];have:=zad 0 (vD e*2^((1:Int)-1023-52).toNat) (Nat.mul_pos (zjf e) (p2 _));rw[Nat.zero_mul]at this;rw[this];rfl
  rw[hn,hV];refine⟨g,zd,zd,zd,by rw[decide_eq_decide];omega,?_⟩;have:m64 g=0:=by
   rcases hg with rfl | rfl
   ·rfl
   ·unfold m64 zen flE flF;decide
  rw[this];unfold vN;rw[Nat.zero_mul,Nat.zero_mul,Nat.zero_mul]
 ·obtain⟨k,hk⟩:=zX m.log2;have hlo:2^k<=m:=by rw[<-hk];exact Nat.log2_self_le h0
  have hhi:m<2^(k+1):=by rw[<-hk];exact Nat.lt_log2_self
  have hk24:k<24:=(Nat.pow_lt_pow_iff_right (by omega:1<2)).1 (Nat.lt_of_le_of_lt hlo hm);have hs1:4503599627370496<=m*2^(52-k):=by
   have:=Nat.mul_le_mul_right (2^(52-k)) hlo;rw[<-Nat.pow_add,show k+(52-k)=52 by omega]at this;exact this
  have hs2:m*2^(52-k)<9007199254740992:=by
   have:=Nat.mul_lt_mul_of_pos_right hhi (p2 (52-k));rw[<-Nat.pow_add,show k+1+(52-k)=53 by omega]at this;exact this
  have hsh:=zs6 m (52-k) e;have hne:=zlo (m*2^(52-k)) (e-(52-k:Nat)) (vN m e) (vD e) (Nat.ne_of_gt (zjf e)) hsh.symm hs1 hs2 zd zd;obtain⟨f1,f2,f3,f4,f5⟩:=zrj (m*2^(52-k)) (e-(52-k:Nat)) g hs1 hs2 zd zd hg;refine⟨_,rfl,?_⟩;rw[hne];refine⟨f4,f3,f5,?_⟩;rw[f1,f2];exact hsh.symm
section
attribute [local go_sem] undef
def zma (n:Nat):Nat:=xd (vN (m32 n) (e32 n)) (vD (e32 n))+if 2147483648<=n then 9223372036854775808 else 0
theorem zxi (n:Nat) (hn:n<4294967296) (hfin:n%2147483648<2139095040):
  zma n<18446744073709551616/\zma n%9223372036854775808<9218868437227405312/\decide (9223372036854775808<=zma n)=decide (2147483648<=n)/\vN (m32 n) (e32 n)*vD (e64 (zma n))=vN (m64 (zma n)) (e64 (zma n))*vD (e32 n):=by
 have hx:=zsr n hfin;have hm:=zsl n;obtain⟨g,hg,hgn⟩:∃ g:Nat,(g=0\/g=9223372036854775808)/\g=if 2147483648<=n then 9223372036854775808 else 0:=by
  by_cases h:2147483648<=n
  ·exact⟨_,Or.inr rfl,by rw[if_pos h]⟩
  ·exact⟨_,Or.inl rfl,by rw[if_neg h]⟩
 obtain⟨N,hN,h1,h2,h3,h4⟩:=zgd (m32 n) (e32 n) g hm zd zd hg;have hw:zma n=N:=by unfold zma;rw[<-hgn];exact hN
 rw[hw];refine⟨h1,h2,?_,h4⟩;rw[h3,decide_eq_decide,hgn];constructor
 ·intro h;split at h
  ·assumption
  ·omega
 ·intro h;rw[if_pos h]
set_option maxRecDepth 100000 in
theorem zkw (n:Nat) (hn:n<4294967296) (hfin:n%2147483648<2139095040) (w:World):
  Calls Tryz.prog 19 #[.int .u32 (n:Int)] w fun e w'=>e=.returned (.int .u64 ((zma n:Nat):Int))/\w.grownBy w' none:=by
 have hx:=zsr n hfin;have hm:=zsl n;obtain⟨g,hg,hgn⟩:∃ g:Nat,(g=0\/g=9223372036854775808)/\g=if 2147483648<=n then 9223372036854775808 else 0:=by
  by_cases h:2147483648<=n
  ·exact⟨_,Or.inr rfl,by rw[if_pos h]⟩
  ·exact⟨_,Or.inl rfl,by rw[if_neg h]⟩
 obtain⟨N,hN,h1,h2,h3,h4⟩:=zgd (m32 n) (e32 n) g hm zd zd hg;have hw:zma n=N:=by unfold zma;rw[<-hgn];exact hN
 rw[hw];clear hw;have hk:kn 2139095040 2147483648 n=0:=zis rfl hfin;have hK:=fun W=>za8 n W hn
 rw[hk]at hK;have HK:=zH hK;have HI:=zH (fun W=>jw n W hn);have HS:=zH wm;have HV:=zH (fun W=>zev n (m32 n) (e32 n) W hn hk (zv8 n) (zwp n));obtain⟨v1,v2⟩:=yal (m32 n) (e32 n) (Nat.lt_of_lt_of_le hm ze) zd zd;have HNE:=zH (fun vn vd W (h1:NatV W vn (vN (m32 n) (e32 n))) (h2:NatV W vd (vD (e32 n)))=>zah false vn vd _ _ W h1 h2 (Nat.ne_of_gt (zjf _)) zd zd);have HNN:=zH (show xd (vN (m32 n) (e32 n)) (vD (e32 n))+g=N from hN);have HGN:=zH hgn;obtain⟨M,hM⟩:=zX (xd (vN (m32 n) (e32 n)) (vD (e32 n)));simp only[hM]at HNE HNN;have hM2:M<18446744073709551616:=by have:=HNN.out;omega
 have HV':=zH (show ∀ W,Calls Tryz.prog 21 #[.int .i64 32,.int .u64 (n:Int)] W fun x w'=>∃ vn vd,x=.returned (.tuple #[.agg #[.bool (decide (2147483648<=n)),vn,vd],.bool true])/\NatV w' vn (vN (m32 n) (e32 n))/\NatV w' vd (vD (e32 n))/\W.grownBy w' none from HV.out);generalize vN (m32 n) (e32 n)=a at *
 generalize vD (e32 n)=b at *
 have hN64:=h1;clear HV hM hN hK hk h1 h2 h3 h4 hgn v1 v2;refine ye Tryz.func19 rfl (by rw[Tryz.ntmps19];simp) ?_;intro σ hσ;rw[Tryz.ntmps19];have s0:σ 0=.int .u32 (n:Int):=hσ 0 zi;clear hσ;(go_wp2_with fail;repeat ((first|refine cZ ?_|refine cW ?_);go_wp2_with fail));refine (HI.out _).mono ?_;rintro e w7 ⟨rfl,rfl⟩;go_wp2_with fail;refine yr (fun s' w'=>s' 0=.int .u32 (n:Int)/\s' 3=.int .u64 (g:Int)/\w=w') ?_ ?_
 ·intro R' K' HR hK';by_cases hs:2147483648<=n
  ·have e:g=9223372036854775808:=by rw[HGN.out,if_pos hs]
   subst e;have f1:decide (2147483648<=n)=true:=by simpa using hs
   clear hs;(go_wp2_with fail;repeat ((first|refine cZ ?_|refine cW ?_);go_wp2_with fail));refine (HS.out _).mono ?_;rintro e w7 ⟨rfl,rfl⟩;(go_wp2_with fail;repeat ((first|refine cZ ?_|refine cW ?_);go_wp2_with fail));exact got HR ⟨zb,zj,rfl⟩
  ·have e:g=0:=by rw[HGN.out,if_neg hs]
   subst e;have f1:decide (2147483648<=n)=false:=by simpa using hs
   clear hs;(go_wp2_with fail;repeat ((first|refine cZ ?_|refine cW ?_);go_wp2_with fail));exact got HR ⟨zb,zj,rfl⟩
 clear s0 σ HI HS;rintro σ w' ⟨s0,s3,rfl⟩;(go_wp2_with fail;repeat ((first|refine cZ ?_|refine cW ?_);go_wp2_with fail));refine (HK.out _).mono ?_;rintro e w7 ⟨rfl,rfl⟩;(go_wp2_with fail;repeat ((first|refine cZ ?_|refine cW ?_);go_wp2_with fail));refine (HV'.out _).mono ?_;rintro e w2 ⟨vn,vd,rfl,hvn,hvd,hg2⟩;generalize decide (2147483648<=n)=neg at *
 obtain⟨an,cn,rfl⟩:=hvn.len;obtain⟨ad,cd,rfl⟩:=hvd.len;generalize (yf a).length=LN at *
 generalize (yf b).length=LD at *
 obtain⟨w3,hw3⟩:∃ w',World.alloc w2 (.cells #[.bool neg,.slice an LN cn,.slice ad LD cd] 41)=w':=⟨_,rfl⟩;obtain⟨B,hB⟩:=zX ((World.heap w2).size);have hib:=InBlk.new w2 neg (.slice an LN cn) (.slice ad LD cd) 41;rw[hw3,hB]at hib;have HIB:=zH hib;have HVN:=zH (hvn.grown hib.grown);have HVD:=zH (hvd.grown hib.grown);have HG3:=zH (ya hg2 hib.grown);have HW3:=zH hw3;have HB:=zH hB;have HSZ:=zH hg2.size;clear hvn hvd hg2 hib hw3 hB;go_upto_region 10 with fail;rw[HW3.out,HB.out];clear HW3;have c0:=HIB.out.row.cell 0;have c1:=HIB.out.row.cell 1;have c2:=HIB.out.row.cell 2;have t0:=HIB.out.row.frozen 0;simp only[List.getElem?_cons_zero,List.getElem?_cons_succ]at c0 c1 c2;go_upto_region 11 with fail;obtain⟨w4,hw4⟩:=zX (w3.setCell ⟨B,0,none⟩ (.bool false));have hr4:=HIB.out.row.setCell 0 (.bool false);simp only[List.set_cons_zero]at hr4;have hn4:=NatV.setB (u:=.bool false) (k:=0) HVN.out c0;have hd4:=NatV.setB (u:=.bool false) (k:=0) HVD.out c0;have hg4:=yb HG3.out (a:=⟨B,0,none⟩) (.bool false) (by show w.heap.size<=B;have:=HB.out;have:=HSZ.out;omega);rw[hw4]at hr4 hn4 hd4 hg4;rw[hw4];have HN4:=zH hn4;have HD4:=zH hd4;have HG4:=zH hg4;clear c0 c1 c2 t0 hn4 hd4 hg4 hw4;have c0:=hr4.cell 0;have c1:=hr4.cell 1;have c2:=hr4.cell 2;simp only[List.getElem?_cons_zero,List.getElem?_cons_succ]at c0 c1 c2;clear hr4;(go_wp2_with fail;repeat ((first|refine cZ ?_|refine cW ?_);go_wp2_with fail));refine (HNE.out _ _ _ HN4.out HD4.out).mono ?_;rintro e w5 ⟨rfl,hg5⟩;have HG5:=zH (ya HG4.out hg5);clear hg5 c0 c1 c2;simp only[Bool.false_eq_true,if_false,Nat.add_zero];have hwr:IntKind.u64.wrap (N:Int)=(N:Int):=zku N hN64;have hsum2:(g:Int)+(M:Int)=(N:Int):=by have:=HNN.out;omega
 (go_wp2_with fail;repeat ((first|refine cZ ?_|refine cW ?_);go_wp2_with fail));exact yl (.int .u64 (N:Int)) rfl ze zb ⟨rfl,HG5.out⟩
end
section
attribute [local go_sem] undef
def sgW (n:Nat):Nat:=if 2147483648<=n then 9223372036854775808 else 0
def zs5 (n:Nat):Nat:=if n%2147483648=2139095040 then 9218868437227405312 else 9223372036854775807
def zyo (n:Nat):Nat:=if n%2147483648<2139095040 then zma n else sgW n+zs5 n
set_option maxRecDepth 100000 in
theorem zkv (n:Nat) (hn:n<4294967296) (hfin:¬n%2147483648<2139095040) (w:World):
  Calls Tryz.prog 19 #[.int .u32 (n:Int)] w fun e w'=>e=.returned (.int .u64 ((sgW n+zs5 n:Nat):Int))/\w=w':=by
 obtain⟨g,hg,hgn⟩:∃ g:Nat,(g=0\/g=9223372036854775808)/\sgW n=g:=by
  by_cases h:2147483648<=n
  ·exact⟨_,Or.inr rfl,by unfold sgW;rw[if_pos h]⟩
  ·exact⟨_,Or.inl rfl,by unfold sgW;rw[if_neg h]⟩
 rw[hgn];have hK:=fun W=>za8 n W hn
 obtain⟨kd,hkd,hkk⟩:∃ kd:Int,kn 2139095040 2147483648 n=kd/\((kd=1/\zs5 n=9218868437227405312)\/(kd=2/\zs5 n=9223372036854775807)):=by
  by_cases h:n%2147483648=2139095040
  ·exact⟨1,zir rfl h,Or.inl ⟨rfl,by unfold zs5;rw[if_pos h]⟩⟩
  ·exact⟨2,zde rfl zd,Or.inr ⟨rfl,by unfold zs5;rw[if_neg h]⟩⟩
 rw[hkd]at hK;obtain⟨q,hq⟩:=zX (zs5 n);rw[hq]at hkk ⊢;have HK:=zH hK;have HI:=zH (fun W=>jw n W hn);have HS:=zH wm;have HF:=zH wy;have HGN:=zH hgn;clear hK hgn hkd hq hfin;refine ye Tryz.func19 rfl (by rw[Tryz.ntmps19];simp) ?_;intro σ hσ;rw[Tryz.ntmps19];have s0:σ 0=.int .u32 (n:Int):=hσ 0 zi;clear hσ;(go_wp2_with fail;repeat ((first|refine cZ ?_|refine cW ?_);go_wp2_with fail));refine (HI.out _).mono ?_;rintro e w7 ⟨rfl,rfl⟩;go_wp2_with fail;refine yr (fun s' w'=>s' 0=.int .u32 (n:Int)/\s' 3=.int .u64 (g:Int)/\w=w') ?_ ?_
 ·intro R' K' HR hK';by_cases hs:2147483648<=n
  ·have e:g=9223372036854775808:=by rw[<-HGN.out];unfold sgW;rw[if_pos hs]
   subst e;have f1:decide (2147483648<=n)=true:=by simpa using hs
   clear hs;(go_wp2_with fail;repeat ((first|refine cZ ?_|refine cW ?_);go_wp2_with fail));refine (HS.out _).mono ?_;rintro e w7 ⟨rfl,rfl⟩;(go_wp2_with fail;repeat ((first|refine cZ ?_|refine cW ?_);go_wp2_with fail));exact got HR ⟨zb,zj,rfl⟩
  ·have e:g=0:=by rw[<-HGN.out];unfold sgW;rw[if_neg hs]
   subst e;have f1:decide (2147483648<=n)=false:=by simpa using hs
   clear hs;(go_wp2_with fail;repeat ((first|refine cZ ?_|refine cW ?_);go_wp2_with fail));exact got HR ⟨zb,zj,rfl⟩
 clear s0 σ HI HGN;rintro σ w' ⟨s0,s3,rfl⟩;rcases hkk with⟨rfl,rfl⟩ | ⟨rfl,rfl⟩
 ·(go_wp2_with fail;repeat ((first|refine cZ ?_|refine cW ?_);go_wp2_with fail));refine (HK.out _).mono ?_;rintro e w7 ⟨rfl,rfl⟩;(go_wp2_with fail;repeat ((first|refine cZ ?_|refine cW ?_);go_wp2_with fail));refine (HF.out _).mono ?_;rintro e w7 ⟨rfl,rfl⟩;have hwr:IntKind.u64.wrap ((g:Int)+9218868437227405312)=((g+9218868437227405312:Nat):Int):=by rcases hg with rfl | rfl <;> decide
  (go_wp2_with fail;repeat ((first|refine cZ ?_|refine cW ?_);go_wp2_with fail));exact yl (.int .u64 ((g+9218868437227405312:Nat):Int)) rfl ze zb ⟨rfl,rfl⟩
 ·(go_wp2_with fail;repeat ((first|refine cZ ?_|refine cW ?_);go_wp2_with fail));refine (HK.out _).mono ?_;rintro e w7 ⟨rfl,rfl⟩;(go_wp2_with fail;repeat ((first|refine cZ ?_|refine cW ?_);go_wp2_with fail));refine (HS.out _).mono ?_;rintro e w7 ⟨rfl,rfl⟩;obtain⟨y,hy,hy2⟩:∃ y,IntKind.u64.wrap ((g:Int)+9223372036854775808)=y/\IntKind.u64.wrap (y-1)=((g+9223372036854775807:Nat):Int):=by
   rcases hg with rfl | rfl
   ·exact⟨_,rfl,ze⟩
   ·exact⟨_,rfl,ze⟩
  (go_wp2_with fail;repeat ((first|refine cZ ?_|refine cW ?_);go_wp2_with fail));exact yl (.int .u64 ((g+9223372036854775807:Nat):Int)) rfl ze zb ⟨rfl,rfl⟩
theorem zkx (n:Nat) (hn:n<4294967296) (w:World):
  Calls Tryz.prog 19 #[.int .u32 (n:Int)] w fun e w'=>e=.returned (.int .u64 ((zyo n:Nat):Int))/\w.grownBy w' none:=by
 unfold zyo;by_cases h:n%2147483648<2139095040
 ·rw[if_pos h];exact zkw n hn h w
 ·rw[if_neg h];refine (zkv n hn h w).mono ?_;rintro e w1 ⟨rfl,rfl⟩;exact⟨rfl,World.grownBy.refl w none⟩
end
theorem yne (d:Nat) (h:d<16):dig 16 (ymk false d)=some d/\isD 16 (ymk false d)=true/\¬(65<=(ymk false d).toNat/\(ymk false d).toNat<=90):=by
 have:∀ d:Fin 16,dig 16 (ymk false d.val)=some d.val/\isD 16 (ymk false d.val)=true/\¬(65<=(ymk false d.val).toNat/\(ymk false d.val).toNat<=90):=ze;exact this ⟨d,h⟩
theorem ysb (A c:Nat):allD 16 (hxT false A c):=by
 induction c with
 | zero=>intro x hx;cases hx
 | succ c ih=>
  intro x hx;rw[hxT]at hx;rcases List.mem_cons.1 hx with h | h
  ·rw[h];exact (yne _ (Nat.mod_lt _ zd)).2.1
  ·exact ih x h
theorem ysa (A c:Nat):∀ x ∈ hxT false A c,¬(65<=x.toNat/\x.toNat<=90):=by
 induction c with
 | zero=>intro x hx;cases hx
 | succ c ih=>
  intro x hx;rw[hxT]at hx;rcases List.mem_cons.1 hx with h | h
  ·rw[h];exact (yne _ (Nat.mod_lt _ zd)).2.2
  ·exact ih x h
theorem yrc (A:Nat):∀ (c:Nat) (o:List Nat),o≠[]->jy 16 ((hxT false A c).foldl (vp 16) o)=jy 16 o*16^c+A%16^c/\((hxT false A c).foldl (vp 16) o).length=o.length+c:=by
 intro c;induction c with
 | zero=>intro o _;simp[hxT,Nat.mod_one]
 | succ c ih=>
  intro o ho;have hd:=(yne (A / 16^c%16) (Nat.mod_lt _ zd)).1;have hs:vp 16 o (ymk false (A / 16^c%16))=o++[A / 16^c%16]:=by unfold vp;rw[hd];dsimp only;rw[if_pos (Or.inr ho)]
  rw[hxT,List.foldl_cons,hs];obtain⟨h1,h2⟩:=ih (o++[A / 16^c%16]) zi;rw[h1,h2,yco,List.length_append,List.length_singleton];refine⟨?_,zd⟩;have h3:A%16^(c+1)=16^c*(A / 16^c%16)+A%16^c:=by rw[Nat.pow_succ,Nat.mod_mul];omega
  rw[h3,Nat.pow_succ,Nat.add_mul,Nat.mul_assoc,Nat.mul_comm 16,Nat.mul_comm (16^c) (A / 16^c%16)];omega
theorem yrh (e:Int) (h1:-9999<=e) (h2:e<=9999):∃ sg E,xExp e=sg::E/\okX (some (sg,E))/\xV (some (sg,E))=e:=by
 have key:∀ E:List UInt8,allD 10 E->E≠[]->zd5 E=e.natAbs->okX (some ((if e<0 then 45 else 43),E))/\xV (some ((if e<0 then 45 else 43),E))=e:=by
  intro E hE h0 hv;refine⟨⟨by split <;> simp,hE,h0⟩,?_⟩;dsimp only[xV];rw[yej E hE zd,hv];by_cases hn:e<0
  ·rw[if_pos hn,if_pos rfl];omega
  ·rw[if_neg hn,if_neg ze];omega
 have al:∀ ns:List Nat,(∀ n ∈ ns,n<=9)->allD 10 (ns.map fun n=>UInt8.ofNat (48+n)):=by
  intro ns h c hc;obtain⟨n,hn,rfl⟩:=List.mem_map.1 hc;exact (yeu n (h n hn)).1
 have vl:∀ n r,n<=9->zd5 (UInt8.ofNat (48+n)::r)=n*10^r.length+zd5 r:=by
  intro n r h;rw[zd5,(yeu n h).2,Nat.add_sub_cancel_left]
 unfold xExp;by_cases h100:e.natAbs<100
 ·rw[if_pos h100];refine⟨_,_,rfl,key _ (al [e.natAbs / 10,e.natAbs%10] zh) zi ?_⟩;rw[vl _ _ zd,vl _ _ zd];simp only[List.length_cons,List.length_nil,zd5];omega
 ·by_cases h1000:e.natAbs<1000
  ·rw[if_neg h100,if_pos h1000];refine⟨_,_,rfl,key _ (al [e.natAbs / 100,e.natAbs / 10%10,e.natAbs%10] zh) zi ?_⟩;rw[vl _ _ zd,vl _ _ zd,vl _ _ zd];simp only[List.length_cons,List.length_nil,zd5];omega
  ·rw[if_neg h100,if_neg h1000];refine⟨_,_,rfl,key _ (al [e.natAbs / 1000,e.natAbs / 100%10,e.natAbs / 10%10,e.natAbs%10] zh) zi ?_⟩;rw[vl _ _ zd,vl _ _ zd,vl _ _ zd,vl _ _ zd];simp only[List.length_cons,List.length_nil,zd5];omega
theorem ynr (neg:Bool) (a:UInt8) (P:Option (List UInt8)) (sg:UInt8) (E:List UInt8) (ha:isD 16 a=true) (hal:¬(65<=a.toNat/\a.toNat<=90)) (hF:allD 16 (pF P)) (hFl:∀ c ∈ pF P,¬(65<=c.toNat/\c.toNat<=90)) (hX:okX (some (sg,E))):
  ul (eSign neg++(48::120::(a::(pT P++xT 112 (some (sg,E))))))=some ⟨0,neg,16,dgL 16 (a::pF P),xV (some (sg,E))-((4*(pF P).length:Nat):Int)⟩:=by
 obtain⟨u,hu⟩:=zX (48::120::(a::(pT P++xT 112 (some (sg,E)))));rw[hu];have hlow:xf u=u:=by
  refine yc7 u (fun c hc=>?_);rw[<-hu]at hc;obtain⟨h1,h2,h3⟩:=hX;rcases List.mem_cons.1 hc with h | hc
  ·rw[h];decide
  rcases List.mem_cons.1 hc with h | hc
  ·rw[h];decide
  rcases List.mem_cons.1 hc with h | hc
  ·rw[h];exact hal
  rcases List.mem_append.1 hc with h | hc
  ·cases P with
   | none=>cases h
   | some F=>
    rcases List.mem_cons.1 h with h | h
    ·rw[h];decide
    ·exact hFl c h
  ·simp only[xT,List.mem_cons]at hc;rcases hc with h | h | h
   ·rw[h];decide
   ·rcases h1 with rfl | rfl <;> (rw[h];decide)
   ·have:=yde (h2 c h);omega
 have hne95:a≠95:=by
  intro e;rw[e]at ha;revert ha;decide
 have hh:zd4 u:=by rw[<-hu];exact⟨zi,rfl,rfl⟩
 have hun:¬zp5 u:=by rw[<-hu];rintro⟨_,h,_⟩;exact hne95 h
 have hb:wb u=16:=by unfold wb;rw[if_pos hh]
 have hf2:vy u=2:=by unfold vy;rw[if_pos hh,if_neg hun]
 have hp:zpy u=4:=by unfold zpy;rw[hb];rfl
 have hl:za2 u=112:=by unfold za2;rw[hb];rfl
 obtain⟨h1,h2⟩:=yns u [a] P (some (sg,E)) 112 (by rw[hf2,<-hu];rfl) hl zi (by rw[hb];intro c hc;rw[List.mem_singleton.1 hc];exact ha) (by rw[hb];exact hF) hX (by rw[hb];decide) ze ze (by rw[hb];decide) zi;rw[hp]at h1;rw[hb]at h2;have:=ydp neg u 48 _ hu.symm ze hlow _ h1;rw[this,hb,h2];rfl
theorem yqx (m:Nat) (hm0:m≠0):hxF m (ykj m (-1))*2^m.log2=m*2^(4*ykj m (-1))/\hxE m (ykj m (-1))=0/\2^(4*ykj m (-1))<=hxF m (ykj m (-1))/\hxF m (ykj m (-1))<2^(4*ykj m (-1)+1):=by
 have hlo:=Nat.log2_self_le hm0;have hhi:=@Nat.lt_log2_self m;have htz:=ypc m hm0;obtain⟨a,ha,ho⟩:=ym0 m hm0;have hc:ykj m (-1)=(m.log2-tz2 m+3) / 4:=by unfold ykj;rw[if_pos zd]
 obtain⟨c,hc'⟩:=zX (ykj m (-1));rw[hc']at hc ⊢;obtain⟨k,hk⟩:=zX m.log2;have hM:hxM m c*2^k=m*2^(4*c):=by
  unfold hxM;rw[hk];by_cases h:k<=4*c
  ·rw[if_pos h];unfold vi;rw[if_neg zd,Nat.div_one,Nat.mul_assoc,<-Nat.pow_add,show 4*c-k+k=4*c by omega]
  ·rw[if_neg h];have hdv:2^(k-4*c)∣m:=by rw[ha];exact Nat.dvd_trans (Nat.pow_dvd_pow 2 zd) (Nat.dvd_mul_right _ _)
   unfold vi;rw[Nat.mod_eq_zero_of_dvd hdv,if_neg (by have:=Nat.two_pow_pos (k-4*c);omega)];have:(2:Nat)^k=2^(k-4*c)*2^(4*c):=zαa;rw[this,<-Nat.mul_assoc,Nat.div_mul_cancel hdv]
 rw[hk]at hlo hhi ⊢;have h1:2^(4*c)<=hxM m c:=by
  refine Nat.le_of_mul_le_mul_right ?_ (Nat.two_pow_pos k);rw[hM,Nat.mul_comm];exact Nat.mul_le_mul_right _ hlo
 have h2:hxM m c<2^(4*c+1):=by
  refine Nat.lt_of_mul_lt_mul_right (a:=2^k) ?_;rw[hM,Nat.pow_succ,Nat.mul_assoc,Nat.mul_comm];refine Nat.mul_lt_mul_of_pos_left ?_ (Nat.two_pow_pos _);rw[Nat.pow_succ]at hhi;omega
 have hb:yu (hxM m c)=4*c+1:=zj4 h1 h2;have hF:hxF m c=hxM m c:=by unfold hxF;rw[if_neg zd]
 have hE:hxE m c=0:=by unfold hxE;rw[if_neg zd]
 rw[hF,hE];exact⟨hM,rfl,h1,h2⟩
theorem ysw (neg:Bool) (m:Nat) (e:Int) (hm:m<2^53) (he1:-1074<=e) (he2:e<=971):
  ∃ n d,zjy (eSign neg++yma false m e (-1))=some (neg,n,d)/\n*2^(-e).toNat=m*2^e.toNat*d/\(n=0↔m=0)/\(yf n).length<=40000/\(yf d).length<=40000:=by
 have hlen2:∀ (x j:Nat),x<2^j->j<=40000->(yf x).length<=40000:=fun x j h hj=>Nat.le_trans (yv (Nat.lt_of_lt_of_le h (Nat.pow_le_pow_left ze _))) hj
 unfold yma;by_cases hm0:m=0
 ·subst hm0;rw[if_pos rfl];obtain⟨sg,E,hE,hok,hxv⟩:=yrh 0 zd zd;rw[yk5 _ _ zd zd,hE];refine⟨0,1,?_,zi,zi,hlen2 0 1 ze zd,hlen2 1 1 ze zd⟩;have hr:=ynr neg 48 none sg E ze ze (by intro c hc;cases hc) (by intro c hc;cases hc) hok;unfold zjy;have ht:eSign neg++([48,if false=true then 88 else 120]++(ptL (48::List.replicate (-1:Int).toNat 48)++(if false=true then 80 else 112)::sg::E))=eSign neg++(48::120::(48::(pT none++xT 112 (some (sg,E))))):=rfl;rw[ht,hr];dsimp only;rw[if_neg zi,if_pos (by rfl)]
 ·rw[if_neg hm0];obtain⟨h1,h2,h3,h4⟩:=yqx m hm0;have hk52:m.log2<=52:=by have:=(Nat.log2_lt hm0).2 hm;omega
  have hc13:ykj m (-1)<=13:=by
   unfold ykj;rw[if_pos zd];have:=ypc m hm0;omega
  generalize hcc:ykj m (-1)=c at *
  generalize hFF:hxF m c=F at *
  generalize hkk:m.log2=k at *
  rw[h2];obtain⟨sg,E,hE,hok,hxv⟩:=yrh (e+(k:Int)+((0:Nat):Int)) zd zd;rw[yk5 _ _ zd zd,hE,hxT,ym3];have d1:F / 16^c=1:=by
   rw[show (16:Nat)=2^4 by decide,<-Nat.pow_mul];refine Nat.div_eq_of_lt_le zd (by rw[Nat.pow_succ]at h4;omega)
  rw[d1];obtain⟨P,hP,hPF⟩:∃ P,(if hxT false F c=[] then [] else 46::hxT false F c)=pT P/\pF P=hxT false F c:=by
   by_cases h:hxT false F c=[]
   ·exact⟨none,by rw[if_pos h];rfl,h.symm⟩
   ·exact⟨some _,by rw[if_neg h];rfl,rfl⟩
  rw[hP];have hr:=ynr neg 49 P sg E ze ze (by rw[hPF];exact ysb F c) (by rw[hPF];exact ysa F c) hok;have ht:eSign neg++([48,if false=true then 88 else 120]++(ymk false (1%16)::pT P++(if false=true then 80 else 112)::sg::E))=eSign neg++(48::120::(49::(pT P++xT 112 (some (sg,E))))):=rfl;rw[ht];have hdg:dgL 16 (49::pF P)=(hxT false F c).foldl (vp 16) [1]:=by
   rw[hPF];unfold dgL;rw[List.foldl_cons];rfl
  obtain⟨v1,v2⟩:=yrc F c [1] zi;have hv:jy 16 (dgL 16 (49::pF P))=F:=by
   rw[hdg,v1];show 1*16^c+F%16^c=F;have:=Nat.div_add_mod F (16^c);rw[d1]at this;omega
  have hlen:(dgL 16 (49::pF P)).length=c+1:=by rw[hdg,v2];simp;omega
  have hpl:(pF P).length=c:=by rw[hPF,yoa]
  have hne:dgL 16 (49::pF P)≠[]:=by intro h;rw[h]at hlen;simp at hlen
  have hx:xV (some (sg,E))-((4*(pF P).length:Nat):Int)=e+k-4*c:=by rw[hxv,hpl];omega
  have hord:zb8 16 (dgL 16 (49::pF P)) (e+k-4*c)=0:=by
   unfold zb8;rw[if_neg hne,if_pos rfl,hlen,if_neg zd,if_neg zd]
  refine⟨F*2^(e+k-4*c).toNat,2^(-(e+k-4*c)).toNat,?_,?_,?_,?_,?_⟩
  ·unfold zjy;rw[hr];dsimp only;rw[hx,if_neg zi,if_neg hne,if_neg (fun h=>h hord),hv];rfl
  ·refine Nat.eq_of_mul_eq_mul_right (Nat.two_pow_pos k) ?_;have e1:F*2^(e+k-4*c).toNat*2^(-e).toNat*2^k=(F*2^k)*(2^(e+k-4*c).toNat*2^(-e).toNat):=by simp[Nat.mul_assoc,Nat.mul_comm,Nat.mul_left_comm]
   rw[e1,h1];simp only[Nat.mul_assoc,<-Nat.pow_add];congr 2;omega
  ·have:F≠0:=by have:=Nat.two_pow_pos (4*c);omega
   constructor
   ·intro h;rcases Nat.mul_eq_zero.1 h with h | h
    ·exact absurd h this
    ·exact absurd h (Nat.ne_of_gt (Nat.two_pow_pos _))
   ·intro h;exact absurd h hm0
  ·have h9:F*2^(e+k-4*c).toNat<2^(4*c+1)*2^(e+k-4*c).toNat:=Nat.mul_lt_mul_of_pos_right h4 (Nat.two_pow_pos _);rw[<-Nat.pow_add]at h9;exact hlen2 _ _ h9 zd
  ·exact hlen2 _ ((-(e+k-4*c)).toNat+1) (Nat.pow_lt_pow_right zd zd) zd 
section
attribute [local go_sem] undef
set_option maxRecDepth 100000 in
theorem zx9 (a b:Nat) (w:World) (ha:a<18446744073709551616) (hb:b<18446744073709551616) (h:a=b\/(a*2%18446744073709551616=0/\b*2%18446744073709551616=0)):
  Calls Tryz.prog 18 #[.int .u64 (a:Int),.int .u64 (b:Int)] w fun e w'=>e=.returned (.bool true)/\w=w':=by
 have HZ1:=zH (fun W=>zxv a W ha);have HZ2:=zH (fun W=>zxv b W hb);refine ye Tryz.func18 rfl (by rw[Tryz.ntmps18];simp) ?_;intro σ hσ;rw[Tryz.ntmps18];have s0:σ 0=.int .u64 (a:Int):=hσ 0 zi;have s1:σ 1=.int .u64 (b:Int):=hσ 1 zi;clear hσ ha hb;by_cases hab:a=b
 ·subst hab;have e1:((a:Int)==(a:Int))=true:=zi;clear h;(go_wp2_with fail;repeat ((first|refine cZ ?_|refine cW ?_);go_wp2_with fail));exact yl (.bool true) rfl ze zb ⟨rfl,rfl⟩
 ·obtain⟨h1,h2⟩:=h.resolve_left hab;have e1:((a:Int)==(b:Int))=false:=zf;have e2:(a==b)=false:=by rw[beq_eq_false_iff_ne];exact hab
  generalize a*2%18446744073709551616=za at *
  generalize b*2%18446744073709551616=zb at *
  subst h1 h2;clear h hab;(go_wp2_with fail;repeat ((first|refine cZ ?_|refine cW ?_);go_wp2_with fail));refine (HZ1.out _).mono ?_;rintro e w7 ⟨rfl,rfl⟩;(go_wp2_with fail;repeat ((first|refine cZ ?_|refine cW ?_);go_wp2_with fail));refine (HZ2.out _).mono ?_;rintro e w7 ⟨rfl,rfl⟩;(go_wp2_with fail;repeat ((first|refine cZ ?_|refine cW ?_);go_wp2_with fail));exact yl (.bool true) rfl ze zb ⟨rfl,rfl⟩
end
end Go.Proofs.YtnifedmhgncioaaGreatDoor
