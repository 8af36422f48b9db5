/- Lemmas that the claim's top text leans on. No condition of their own. -/
import Derived.Laws.ResultCell
import Derived.Test.YtocbeoomhlgnkaaDoorK19
namespace Go.Proofs.YtocbeoomhlgnkaaDoor
open Go.RowKit
set_option linter.unusedSimpArgs false
set_option linter.unusedVariables false
set_option maxHeartbeats 16000000
section
attribute [local go_sem] undef
def jy (b:Nat) (l:List Nat):Nat:=l.foldl (fun n d=>n*b+d) 0
end
theorem zlo (s:Nat) (E:Int) (a b:Nat) (hb:b≠0) (hab:a*vD E=vN s E*b) (h1:4503599627370496<=s) (h2:s<9007199254740992) (hE1:-1074<=E) (hE2:E<=971):
  xh 52 1023 9218868437227405312 a b=(E+1074).toNat*4503599627370496+s:=by
 have hs0:s≠0:=zd;have hvn:=yam E hs0;have hvd:=zjf E;have ha:a≠0:=by
  intro h0;rw[h0,Nat.zero_mul]at hab;exact absurd hab.symm (Nat.mul_ne_zero hvn hb)
 have ho:uo a b=E+52:=by
  refine zfa ha hb ((zan zd hvd hab _).2 ?_) (fun hh=>?_)
  ·rw[ws (j:=-E) (n:=52) zd,Int.neg_neg];unfold vN vD;rw[Nat.mul_assoc s,Nat.mul_comm (2^(-E).toNat) (2^E.toNat)];exact Nat.mul_le_mul_right _ h1
  ·have:=(zan zd hvd hab _).1 hh;rw[ws (j:=-E) (n:=53) zd,Int.neg_neg]at this;unfold vN vD at this;rw[Nat.mul_assoc s,Nat.mul_comm (2^(-E).toNat) (2^E.toNat)]at this;have h3:=Nat.le_of_mul_le_mul_right this (Nat.mul_pos (p2 _) (p2 _));omega
 have hne:yt 52 1023 a b=E:=by
  unfold yt;rw[if_neg ha,ho];omega
 have hrb:rB a b E=s:=by
  unfold rB;have:vi (a*2^(-E).toNat) (b*2^E.toNat)=vi (s*1) 1:=by
   refine vm (Nat.mul_pos zd (p2 _)) zd ?_;rw[Nat.mul_one,Nat.mul_one];unfold vN vD at hab;rw[hab];ac_rfl
  rw[this];exact zad s 1 zd
 unfold xh;rw[hne,if_pos zd,hrb];congr 2
section
attribute [local go_sem] undef
def zma (n:Nat):Nat:=xd (vN (m32 n) (e32 n)) (vD (e32 n))+if 2147483648<=n then 9223372036854775808 else 0
end
section
attribute [local go_sem] undef
def sgW (n:Nat):Nat:=if 2147483648<=n then 9223372036854775808 else 0
def zs5 (n:Nat):Nat:=if n%2147483648=2139095040 then 9218868437227405312 else 9223372036854775807
def zyo (n:Nat):Nat:=if n%2147483648<2139095040 then zma n else sgW n+zs5 n
end
def allD (b:Nat) (l:List UInt8):Prop:=∀ c ∈ l,isD b c=true
theorem allD.cons {b:Nat} {c:UInt8} {l:List UInt8} (h:allD b (c::l)):isD b c=true/\allD b l:=⟨h c zi,fun x hx=>h x (by simp[hx])⟩
theorem allD.append {b:Nat} {l m:List UInt8} (h:allD b l) (k:allD b m):allD b (l++m):=fun c hc=>(List.mem_append.1 hc).elim (h c) (k c)
theorem yde {c:UInt8} (h:isD 10 c=true):48<=c.toNat/\c.toNat<=57:=by
 unfold isD dig at h;split at h
 ·assumption
 ·split at h
  ·rename_i h2;exact absurd h2.2 ze
  ·cases h
theorem dig10 {c:UInt8} (h:isD 10 c=true):dig 10 c=some (c.toNat-48):=by unfold dig;rw[if_pos (yde h)]
def ydy (b:Nat) (R:List UInt8):Prop:=R=[]\/∃ c r,R=c::r/\isD b c=false/\c≠95
theorem yd4 {b:Nat} {R:List UInt8} (h:ydy b R):yft b R=0:=by
 rcases h with rfl | ⟨c,r,rfl,h1,h2⟩
 ·rfl
 ·exact zaz b c r h1 (fun d r' _ hh=>h2 hh.1)
theorem yd5 {b:Nat} {R:List UInt8} (h:ydy b R):jh b R=0:=by
 rcases h with rfl | ⟨c,r,rfl,h1,h2⟩
 ·rfl
 ·rw[jh,if_neg (by rw[h1];simp)]
theorem yes {b:Nat} {A R:List UInt8} (hA:allD b A) (hR:ydy b R):yft b (A++R)=A.length:=by
 induction A with
 | nil=>exact yd4 hR
 | cons c r ih=>rw[List.cons_append,zjt b c _ hA.cons.1,ih hA.cons.2,List.length_cons];omega
theorem yc5 {b:Nat} {A R:List UInt8} (hA:allD b A) (hR:ydy b R):jh b (A++R)=A.length:=by
 cases A with
 | nil=>exact yd5 hR
 | cons c r=>rw[List.cons_append,jh,if_pos hA.cons.1,yes hA.cons.2 hR,List.length_cons];omega
def pT:Option (List UInt8)->List UInt8
 | none=>[]
 | some F=>46::F
def pF:Option (List UInt8)->List UInt8
 | none=>[]
 | some F=>F
def xT (lt:UInt8):Option (UInt8×List UInt8)->List UInt8
 | none=>[]
 | some (sg,E)=>lt::sg::E
theorem yez {b:Nat} {l:List UInt8} (h:allD b l):zkq b l=l.length:=by
 unfold zkq;rw[List.countP_eq_length];exact h
theorem yc7 (s:List UInt8) (h:∀ c ∈ s,¬(65<=c.toNat/\c.toNat<=90)):xf s=s:=by
 unfold xf;induction s with
 | nil=>rfl
 | cons c r ih=>
  rw[List.map_cons,ih (fun x hx=>h x (by simp[hx]))];unfold vb;rw[if_neg (h c zi)]
theorem ydp (neg:Bool) (u:List UInt8) (c:UInt8) (r:List UInt8) (hu:u=c::r) (hc:isD 10 c=true) (hl:xf u=u) (x:Int) (hx:zf8 u=some x):ul (ycv neg++u)=some ⟨0,neg,wb u,nDigits u,x⟩:=by
 have hcc:=yde hc;have ne:∀ k:UInt8,¬(48<=k.toNat/\k.toNat<=57)->c≠k:=fun k hk e=>hk (e ▸ hcc)
 have hlow:xf (ycv neg++u)=ycv neg++u:=by
  have:xf (ycv neg++u)=xf (ycv neg)++xf u:=by unfold xf;rw[List.map_append]
  rw[this,hl];cases neg <;> rfl
 have hsg:sgL (ycv neg++u)=(neg,u):=by
  rw[hu];cases neg
  ·simp only[ycv,Bool.false_eq_true,if_false,List.nil_append,sgL];rw[if_neg (ne 43 ze),if_neg (ne 45 ze)]
  ·simp[ycv,sgL]
 unfold ul;rw[hlow,hsg,if_neg]
 ·unfold zna;rw[if_neg,hx]
  ·rfl
  ·rw[hu];rintro (h | h)
   ·exact ne 105 ze (List.cons.inj h).1
   ·exact ne 105 ze (List.cons.inj h).1
 ·rw[hu];intro h;cases neg
  ·exact ne 110 ze (List.cons.inj h).1
  ·have:=(List.cons.inj h).1;revert this;decide
theorem yco (b:Nat) (l:List Nat) (d:Nat):jy b (l++[d])=jy b l*b+d:=by unfold jy;rw[List.foldl_append];rfl
theorem yd8 (v d:Nat) (hv:v≠0) (hd:d<=9):yi (v*10+d)=yi v+1:=by
 have h1:=qh hv;have h2:=xi v;have h3:=yfr hv;obtain⟨k,hk⟩:∃ k,yi v=k+1:=⟨yi v-1,zd⟩;rw[hk]at h1 h2 ⊢;rw[Nat.add_sub_cancel]at h1;refine vk (k+1) _ ?_ ?_
 ·rw[Nat.pow_succ];omega
 ·rw[Nat.pow_succ];omega
theorem yem (b:Nat) (l:List UInt8) (c:UInt8):dgL b (l++[c])=vp b (dgL b l) c:=by unfold dgL;rw[List.foldl_append];rfl
theorem ydm (n:Nat):∀ (l:List UInt8),l.length=n->allD 10 l->jy 10 (dgL 10 l)=zd5 l/\(dgL 10 l).length=yi (zd5 l):=by
 induction n with
 | zero=>
  intro l hl _;have:l=[]:=List.length_eq_zero_iff.1 hl;subst this;exact⟨rfl,rfl⟩
 | succ n ih=>
  intro l hl hA;have hne:l≠[]:=by intro h;rw[h]at hl;cases hl
  obtain⟨m,c,rfl⟩:∃ m c,l=m++[c]:=⟨l.dropLast,l.getLast hne,(List.dropLast_concat_getLast hne).symm⟩;have hm:m.length=n:=by rw[List.length_append]at hl;simpa using hl
  obtain⟨h1,h2⟩:=ih m hm (fun x hx=>hA x (by simp[hx]));have hc:=hA c zi;have hcc:=yde hc;rw[yem,zi3];unfold vp;rw[dig10 hc];dsimp only;by_cases h:0<c.toNat-48\/dgL 10 m≠[]
  ·rw[if_pos h,yco,h1,List.length_append,h2];refine⟨rfl,?_⟩;by_cases h0:zd5 m=0
   ·rw[h0,kw];have h3:dgL 10 m=[]:=by rw[h0,kw]at h2;exact List.length_eq_zero_iff.1 h2
    have h4:0<c.toNat-48:=h.resolve_right (fun hh=>hh h3);rw[Nat.zero_mul,Nat.zero_add];exact (vk 0 _ zd zd).symm
   ·exact (yd8 _ _ h0 zd).symm
  ·rw[if_neg h];have h3:dgL 10 m=[]:=Classical.byContradiction (fun hh=>h (Or.inr hh));have h4:c.toNat-48=0:=by have:=fun hh=>h (Or.inl hh);omega
   have h5:zd5 m=0:=by rw[<-h1,h3];rfl
   rw[h3,h4,h5];exact⟨rfl,rfl⟩
theorem yei (n:Nat):∀ l:List Nat,l.length=n->ki l=min (jy 10 l) 1000000000000000:=by
 induction n with
 | zero=>intro l hl;rw[List.length_eq_zero_iff.1 hl];rfl
 | succ n ih=>
  intro l hl;have hne:l≠[]:=by intro h;rw[h]at hl;cases hl
  obtain⟨m,c,rfl⟩:∃ m c,l=m++[c]:=⟨l.dropLast,l.getLast hne,(List.dropLast_concat_getLast hne).symm⟩;have hm:=ih m (by rw[List.length_append]at hl;simpa using hl);have e:ki (m++[c])=min (ki m*10+c) 1000000000000000:=by unfold ki;rw[List.foldl_append];rfl
  rw[e,hm,yco];omega
theorem yej (E:List UInt8) (h:allD 10 E) (hl:zd5 E<1000000000000000):ki (dgL 10 E)=zd5 E:=by
 rw[yei _ _ rfl,(ydm _ E rfl h).1];omega
theorem yeu (n:Nat) (h:n<=9):isD 10 (UInt8.ofNat (48+n))=true/\(UInt8.ofNat (48+n)).toNat=48+n:=by
 have e:(UInt8.ofNat (48+n)).toNat=48+n:=by rw[UInt8.toNat_ofNat'];omega
 refine⟨?_,e⟩;unfold isD dig;rw[e,if_pos zd];rfl
section
attribute [local go_sem] undef
theorem yeo (n:Nat) (h:n<1000000000000):(ycg n).length<=12:=by
 unfold ycg;split
 ·simp
 ·exact ycm n 12 zd 
def ycd (x:Int):List UInt8:=if x<0 then 45::ycg x.natAbs else ycg x.natAbs
theorem yca (x:Int) (h1:-1000000000000<x) (h2:x<1000000000000):(ycd x).length<=20:=by
 have:=yeo x.natAbs zd;unfold ycd;split
 ·rw[List.length_cons];omega
 ·omega
set_option maxRecDepth 100000 in
theorem yb8 (x:Int) (w:World) (h1:-1000000000000<x) (h2:x<1000000000000):
  Calls Tryd.prog 7 #[.int .i64 x] w fun e w'=>e=.returned (.string ⟨(ycd x).toArray⟩)/\w.grownBy w' none:=by
 obtain⟨n,hn⟩:=zX x.natAbs;have hn1:n<1000000000000:=zd;have HO:=zH (fun W=>ww n W zd);have hnl:(yf n).length<=90000:=Nat.le_trans (yv (k:=2) zd) zd;have HT:=zH (fun v W h=>yc0 v n W h hnl);refine ye Tryd.func7 rfl (by rw[Tryd.ntmps7];simp) ?_;intro σ hσ;rw[Tryd.ntmps7];have s0:σ 0=.int .i64 x:=hσ 0 zi;clear hσ hnl;by_cases hx:x<0
 ·have hnt:ycd x=45::ycg n:=by unfold ycd;rw[if_pos hx,hn]
  have HNT:=zH hnt;obtain rfl:x=-(n:Int):=by omega
  have hd:decide (-(n:Int)<0)=true:=zh;have hd2:0<n:=zd;clear hx hnt hn;(go_wp2_with fail;repeat ((first|refine cZ ?_|refine cW ?_);go_wp2_with fail));refine (HO.out _).mono ?_;rintro e w1 ⟨v1,rfl,hv1,hg1⟩;have HV1:=zH hv1;have HG1:=zH hg1;clear hv1 hg1;(go_wp2_with fail;repeat ((first|refine cZ ?_|refine cW ?_);go_wp2_with fail));refine (HT.out _ _ HV1.out).mono ?_;rintro e w2 ⟨rfl,hg2⟩;have HG2:=zH (ya HG1.out hg2);clear hg2;have hdl:=yeo n hn1;have hsz:(⟨(ycg n).toArray⟩:ByteArray).size=(ycg n).length:=zm;have c1:(⟨#[45]⟩:ByteArray)++⟨(ycg n).toArray⟩=⟨(45::ycg n).toArray⟩:=yb0 [45] _;(go_wp2_with fail;repeat ((first|refine cZ ?_|refine cW ?_);go_wp2_with fail));exact yl (.string ⟨(45::ycg n).toArray⟩) rfl ze zb ⟨by rw[HNT.out],HG2.out⟩
 ·have hnt:ycd x=ycg n:=by unfold ycd;rw[if_neg hx,hn]
  have HNT:=zH hnt;obtain rfl:x=(n:Int):=by omega
  clear hx hnt hn h1 h2;(go_wp2_with fail;repeat ((first|refine cZ ?_|refine cW ?_);go_wp2_with fail));refine (HO.out _).mono ?_;rintro e w1 ⟨v1,rfl,hv1,hg1⟩;have HV1:=zH hv1;have HG1:=zH hg1;clear hv1 hg1;(go_wp2_with fail;repeat ((first|refine cZ ?_|refine cW ?_);go_wp2_with fail));refine (HT.out _ _ HV1.out).mono ?_;rintro e w2 ⟨rfl,hg2⟩;have HG2:=zH (ya HG1.out hg2);clear hg2;(go_wp2_with fail;repeat ((first|refine cZ ?_|refine cW ?_);go_wp2_with fail));exact yl (.string ⟨(ycg n).toArray⟩) rfl ze zb ⟨by rw[HNT.out],HG2.out⟩
end
theorem ye0 (b:Nat) (lt:UInt8) (h1:isD b lt=false) (h2:lt≠95) (T:List UInt8) (h:T=[]\/∃ r,T=lt::r):ydy b T:=by
 rcases h with rfl | ⟨r,rfl⟩
 ·exact Or.inl rfl
 ·exact Or.inr ⟨lt,_,rfl,h1,h2⟩
theorem ye2 (b:Nat) (lt:UInt8) (h1:isD b lt=false) (h2:lt≠95) (h3:isD b 46=false) (P:Option (List UInt8)) (T:List UInt8) (h:T=[]\/∃ r,T=lt::r):ydy b (pT P++T):=by
 cases P with
 | none=>exact ye0 b lt h1 h2 T h
 | some F=>exact Or.inr ⟨46,_,rfl,h3,ze⟩
theorem yc3 (u A:List UInt8) (P:Option (List UInt8)) (T:List UInt8) (x:Int) (lt:UInt8) (hu:u.drop (vy u)=A++(pT P++T)) (hlt:za2 u=lt) (hA0:A≠[]\/pF P≠[]) (hA:allD (wb u) A) (hF:allD (wb u) (pF P)) (hT:T=[]/\x=0\/(∃ r,T=lt::r)/\jc lt T=some x)
  (h1:isD (wb u) lt=false) (h2:lt≠95) (h2':lt≠46) (h3:isD (wb u) 46=false) (hx16:wb u=16->T≠[]):
  zf8 u=some (x-((zpy u*(pF P).length:Nat):Int))/\nDigits u=dgL (wb u) (A++pF P):=by
 have hT2:T=[]\/∃ r,T=lt::r:=hT.elim (fun h=>Or.inl h.1) (fun h=>Or.inr h.1);have hdl:u.length=vy u+(A++(pT P++T)).length:=by
  have:=congrArg List.length hu;rw[List.length_drop]at this;have h:=zcb u;omega
 have hdrop:∀ k,u.drop (vy u+k)=(A++(pT P++T)).drop k:=fun k=>by rw[<-hu,List.drop_drop]
 have hget:∀ k,u.getD (vy u+k) 0=(A++(pT P++T)).getD k 0:=fun k=>by
  rw[List.getD_eq_getElem?_getD,List.getD_eq_getElem?_getD,<-hu,List.getElem?_drop]
 have hr1:jh (wb u) (u.drop (vy u))=A.length:=by rw[hu];exact yc5 hA (ye2 _ lt h1 h2 h3 P T hT2)
 have hI1:nI1 u=vy u+A.length:=by unfold nI1;rw[hr1]
 have hfst:kl u=A:=by unfold kl;rw[hr1,hu,List.take_left'];rfl
 have hat:u.getD (nI1 u) 0=(pT P++T).getD 0 0:=by
  rw[hI1,hget,List.getD_eq_getElem?_getD,List.getD_eq_getElem?_getD,List.getElem?_append_right (Nat.le_refl _),Nat.sub_self]
 have hpt:nPt u↔P≠none:=by
  unfold nPt;rw[hat,hI1,hdl,List.length_append,List.length_append];cases P with
  | none=>
   simp only[pT,List.nil_append,ne_eq,not_true_eq_false,iff_false,not_and];intro _;rcases hT2 with rfl | ⟨r,rfl⟩
   ·simp
   ·simp only[List.getD_cons_zero];exact h2'
  | some F=>simp[pT];omega
 have hsnd:xz u=pF P/\nI2 u=vy u+(A++pT P).length:=by
  unfold xz nI2;cases P with
  | none=>rw[if_neg (by rw[hpt];simp),if_neg (by rw[hpt];simp),hI1];simp[pF,pT]
  | some F=>
   have hd2:u.drop (nI1 u+1)=F++T:=by
    rw[hI1,Nat.add_assoc,hdrop,List.drop_append,List.drop_of_length_le zd,Nat.add_sub_cancel_left];rfl
   have hr2:jh (wb u) (u.drop (nI1 u+1))=F.length:=by rw[hd2];exact yc5 hF (ye0 _ lt h1 h2 T hT2)
   rw[if_pos (hpt.2 zi),if_pos (hpt.2 zi),hr2,hd2,List.take_left' rfl];refine⟨rfl,?_⟩;rw[hI1];simp only[pT,List.length_append,List.length_cons];omega
 have hdX:u.drop (nI2 u)=T:=by
  rw[hsnd.2,hdrop,<-List.append_assoc,List.drop_left' rfl]
 have hexp:zpz u=some x:=by
  unfold zpz;rw[hlt,hdX];have hlen:nI2 u<u.length↔T≠[]:=by
   rw[hsnd.2,hdl];simp only[List.length_append];rcases hT2 with rfl | ⟨r,rfl⟩
   ·simp
   ·simp
  rcases hT with⟨h0,rfl⟩ | ⟨⟨r,hr⟩,hx⟩
  ·rw[if_neg];rintro (h | h)
   ·exact absurd h0 (hlen.1 h)
   ·exact absurd h0 (hx16 h)
  ·rw[if_pos (Or.inl (hlen.2 (by rw[hr];simp)))];exact hx
 refine⟨?_,by unfold nDigits;rw[hfst,hsnd.1]⟩;unfold zf8;rw[hfst,hsnd.1,if_neg (fun h=>hA0.elim (fun g=>g h.1) (fun g=>g h.2)),hexp,yez hF];rfl
theorem ydd (neg:Bool) (A:List UInt8) (P:Option (List UInt8)) (T:List UInt8) (x:Int) (hA0:A≠[]) (hA:allD 10 A) (hF:allD 10 (pF P)) (hT:T=[]/\x=0\/(∃ r,T=101::r)/\jc 101 T=some x) (hTc:∀ c ∈ T,(48<=c.toNat/\c.toNat<=57)\/c=46\/c=101\/c=43\/c=45):
  ul (ycv neg++(A++(pT P++T)))=some ⟨0,neg,10,dgL 10 (A++pF P),x-(((pF P).length:Nat):Int)⟩:=by
 obtain⟨u,hu⟩:=zX (A++(pT P++T));rw[hu];have hmem:∀ c ∈ u,(48<=c.toNat/\c.toNat<=57)\/c=46\/c=101\/c=43\/c=45:=by
  intro c hc;rw[<-hu,List.mem_append,List.mem_append]at hc;rcases hc with hc | hc | hc
  ·exact Or.inl (yde (hA c hc))
  ·cases P with
   | none=>cases hc
   | some F=>
    rcases List.mem_cons.1 hc with h | h
    ·exact Or.inr (Or.inl h)
    ·exact Or.inl (yde (hF c h))
  ·exact hTc c hc
 have hnx:¬zd4 u:=by
  rintro⟨h1,_,h3⟩;have hm:u.getD 1 0 ∈ u:=by rw[List.getD_eq_getElem?_getD,List.getElem?_eq_getElem h1];exact List.getElem_mem _
  rw[h3]at hm;rcases hmem 120 hm with h | h | h | h | h <;> revert h <;> decide
 have hb:wb u=10:=by unfold wb;rw[if_neg hnx]
 have hf0:vy u=0:=by unfold vy;rw[if_neg hnx]
 have hp:zpy u=1:=by unfold zpy;rw[hb];rfl
 have hl:za2 u=101:=by unfold za2;rw[hb];rfl
 obtain⟨h1,h2⟩:=yc3 u A P T x 101 (by rw[hf0,List.drop_zero,hu]) hl (Or.inl hA0) (by rw[hb];exact hA) (by rw[hb];exact hF) hT (by rw[hb];decide) ze ze (by rw[hb];decide) (by rw[hb];intro h;cases h);rw[hp,Nat.one_mul]at h1;rw[hb]at h2;obtain⟨c,r,hcr⟩:∃ c r,u=c::r:=by
  cases A with
  | nil=>exact absurd rfl hA0
  | cons c r=>exact⟨c,_,hu.symm⟩
 have hcd:isD 10 c=true:=by
  cases A with
  | nil=>exact absurd rfl hA0
  | cons c' r'=>
   have:=hu.trans hcr;rw[List.cons_append]at this;rw[<-(List.cons.inj this).1];exact hA.cons.1
 have:=ydp neg u c r hcr hcd (yc7 u (fun c hc=>by rcases hmem c hc with h | rfl | rfl | rfl | rfl <;> first | omega | decide)) _ h1;rw[this,hb,h2]
theorem ydt (n:Nat):allD 10 (ycr n)/\zd5 (ycr n)=n:=by
 induction n using Nat.strongRecOn with
 | _ n ih=>
  by_cases h0:n=0
  ·subst h0;rw[yb9];exact And.intro (fun c hc=>by cases hc) rfl
  ·obtain⟨h1,h2⟩:=ih (n / 10) zd;obtain⟨i1,i2⟩:=yeu (n%10) zd;rw[ycl h0];refine⟨h1.append (fun c hc=>?_),?_⟩
   ·rw[List.mem_singleton.1 hc];exact i1
   ·rw[zi3,h2,i2];omega
theorem yds (n:Nat):allD 10 (ycg n)/\zd5 (ycg n)=n/\ycg n≠[]:=by
 unfold ycg;split
 ·rename_i h;subst h;exact⟨fun c hc=>by rw[List.mem_singleton.1 hc];decide,rfl,zi⟩
 ·rename_i h;exact⟨(ydt n).1,(ydt n).2,ydn h⟩
theorem ycq (lt:UInt8) (x:Int) (h1:-1000000000000000<x) (h2:x<1000000000000000):jc lt (lt::ycd x)=some x/\∀ c ∈ ycd x,(48<=c.toNat/\c.toNat<=57)\/c=45:=by
 obtain⟨d1,d2,d3⟩:=yds x.natAbs;have hrun:jh 10 (ycg x.natAbs)=(ycg x.natAbs).length:=by have:=yc5 (R:=[]) d1 (Or.inl rfl);rwa [List.append_nil]at this
 have hex:=yej _ d1 zd;rw[d2]at hex;unfold ycd;generalize ycg x.natAbs=E at *
 by_cases hx:x<0
 ·rw[if_pos hx];refine⟨?_,fun c hc=>?_⟩
  ·simp only[jc];rw[if_neg zi,show sgL (45::E)=(true,E) by simp[sgL]];unfold zft;rw[if_neg (by rw[hrun];simp[d3]),hex];show some (-(x.natAbs:Int))=some x;congr 1;omega
  ·rcases List.mem_cons.1 hc with h | h
   ·exact Or.inr h
   ·exact Or.inl (yde (d1 c h))
 ·rw[if_neg hx];refine⟨?_,fun c hc=>?_⟩
  ·simp only[jc];have hs:sgL E=(false,E):=by
    cases E with
    | nil=>exact absurd rfl d3
    | cons c r=>
     have hc:=yde (d1 c zi);have n1:c≠43:=by rintro rfl;revert hc;decide
     have n2:c≠45:=by rintro rfl;revert hc;decide
     simp[sgL,n1,n2]
   rw[if_neg zi,hs];unfold zft;rw[if_neg (by rw[hrun];simp[d3]),hex];show some ((x.natAbs:Nat):Int)=some x;congr 1;omega
  ·exact Or.inl (yde (d1 c hc))
theorem yex (x:Int) (h1:-1000000000000000<x) (h2:x<1000000000000000):jc 101 (101::ycd x)=some x/\∀ c ∈ (101::ycd x:List UInt8),(48<=c.toNat/\c.toNat<=57)\/c=46\/c=101\/c=43\/c=45:=by
 obtain⟨e1,e2⟩:=ycq 101 x h1 h2;refine⟨e1,fun c hc=>?_⟩;rcases List.mem_cons.1 hc with h | h
 ·exact Or.inr (Or.inr (Or.inl h))
 ·rcases e2 c h with h | h
  ·exact Or.inl h
  ·exact Or.inr (Or.inr (Or.inr (Or.inr h)))
theorem ye1 (F:Nat) (bias:Int) (inf:Nat) (l:List Nat) (N:Nat) (x:Int) (hN:jy 10 l=N) (hl:l.length=yi N) (hb1:1<=bias) (hb2:bias<=1023) (hF1:1<=F) (hF2:bias+F<=1075):
  spN F bias inf 10 l x=nvT F bias inf 10 N x:=by
 have hN':dgN 10 l=N:=hN;unfold spN;rw[hN',show yfj 10=10 from rfl];by_cases h0:l=[]
 ·subst h0;have:N=0:=by rw[<-hN];rfl
  subst this;rw[if_pos (by unfold zq0;rw[if_pos rfl])];exact (zca F bias inf _ _ zd hb1 hF1).symm
 have hl1:1<=l.length:=by
  cases l with
  | nil=>exact absurd rfl h0
  | cons=>simp
 have hN0:N≠0:=by rintro rfl;rw[kw]at hl;omega
 have hj1:10^(l.length-1)<=N:=by rw[hl];exact qh hN0
 have hj2:N<10^l.length:=by rw[hl];exact xi N
 rw[zt4 x h0];by_cases c1:400<(l.length:Int)-1+x
 ·rw[if_pos c1,if_neg ze,if_pos rfl];refine (znp F bias inf 10 _ _ 400 (bias+1).toNat x zd hj1 ?_ ?_ zd).symm
  ·exact Nat.le_trans (Nat.pow_le_pow_right zd (show (bias+1).toNat<=1024 by omega)) zqc
  ·omega
 ·rw[if_neg c1];by_cases c2:(l.length:Int)-1+x < -400
  ·rw[if_pos c2,if_pos rfl];refine (zno F bias inf 10 _ _ 400 (bias+F).toNat x zd hj2 ?_ ?_ zd hb1 hF1).symm
   ·exact Nat.le_trans (Nat.pow_le_pow_right zd (show (bias+F).toNat<=1075 by omega)) zqb
   ·omega
  ·rw[if_neg c2,if_neg ze,if_neg ze]
theorem ydc (neg:Bool) (A:List UInt8) (P:Option (List UInt8)) (x:Int) (hA0:A≠[]) (hA:allD 10 A) (hF:allD 10 (pF P)) (h1:-1000000000000000<x) (h2:x<1000000000000000):
  ∃ t,ul (ycv neg++(A++(pT P++101::ycd x)))=some t/\t.kind=0/\t.neg=neg/\
   ∀ (F:Nat) (bias:Int) (inf:Nat),1<=bias->bias<=1023->1<=F->bias+F<=1075->spB F bias inf t=nvT F bias inf 10 (zd5 (A++pF P)) (x-(((pF P).length:Nat):Int)):=by
 obtain⟨e1,e2⟩:=yex x h1 h2;obtain⟨h3,h4⟩:=ydm _ (A++pF P) rfl (hA.append hF);exact⟨_,ydd neg A P (101::ycd x) x hA0 hA hF (Or.inr ⟨⟨_,rfl⟩,e1⟩) e2,rfl,rfl,fun F bias inf b1 b2 f1 f2=>ye1 F bias inf _ _ _ h3 h4 b1 b2 f1 f2⟩
theorem yev {c:UInt8} (h1:48<=c.toNat) (h2:c.toNat<=57):isD 10 c=true:=by
 unfold isD dig;rw[if_pos ⟨h1,h2⟩];rfl
set_option maxRecDepth 100000 in
theorem ycf (s:List UInt8) (m:Nat) (w:World) (hs:s.length<9223372036854775808):
  Calls Tryd.prog 4 #[.string ⟨s.toArray⟩,.int .i64 (m:Int)] w fun e w'=>(∃ b:Bool,e=.returned (.bool b)/\(b=true->s≠[]/\s.length<=m/\allD 10 s))/\w=w':=by
 refine ye Tryd.func4 rfl (by rw[Tryd.ntmps4];simp) ?_;intro σ hσ;rw[Tryd.ntmps4];have s0:σ 0=.string ⟨s.toArray⟩:=hσ 0 zi;have s1:σ 1=.int .i64 (m:Int):=hσ 1 zi;clear hσ;have hsz:(⟨s.toArray⟩:ByteArray).size=s.length:=zm;obtain⟨N,hN⟩:=zX s.length;have HN:=zH hN;rw[hN]at hsz hs;clear hN;by_cases h0:N<1
 ·have h1:(N:Int)<1:=zd;have h2:decide ((N:Int)<1)=true:=zh;(go_wp2_with fail;repeat ((first|refine cZ ?_|refine cW ?_);go_wp2_with fail));exact yl (.bool false) rfl ze zb ⟨⟨false,rfl,fun h=>zF⟩,rfl⟩
 have h1:decide ((N:Int)<1)=false:=zh;have h1':¬(N:Int)<1:=zd;by_cases h2:m<N
 ·have h3:(m:Int)<(N:Int):=zd;have h4:decide ((m:Int)<(N:Int))=true:=zh;(go_wp2_with fail;repeat ((first|refine cZ ?_|refine cW ?_);go_wp2_with fail));exact yl (.bool false) rfl ze zb ⟨⟨false,rfl,fun h=>zF⟩,rfl⟩
 have h3:¬(m:Int)<(N:Int):=zd;have h4:decide ((m:Int)<(N:Int))=false:=zh;(go_wp2_with fail;repeat ((first|refine cZ ?_|refine cW ?_);go_wp2_with fail));refine xb (fun kk s' w'=>∃ (i:Nat),i<=N/\kk=N-i/\s' 0=.string ⟨s.toArray⟩/\s' 5=.int .i64 (i:Int)/\allD 10 (s.take i)/\w=w') N
  ⟨0,Nat.zero_le _,rfl,zb,zb,(fun c hc=>by rw[List.take_zero]at hc;cases hc),rfl⟩ ?_
 clear s0 s1 σ h1 h1' h3 h4;rintro kk σ wk ⟨i,hi,hkk,s0,s5,ha,rfl⟩ RK KK HRK hKK;have HKK:=zH hkk;have HA:=zH ha;clear hkk ha;by_cases hiN:i<N
 ·have hidx:∀ h:i<(⟨s.toArray⟩:ByteArray).size,(⟨s.toArray⟩:ByteArray)[i]'h=s.getD i 0:=by
   intro h;rw[List.getD_eq_getElem?_getD,List.getElem?_eq_getElem zn];rfl
  have hts:s.take (i+1)=s.take i++[s.getD i 0]:=ycn s i zn;have HTS:=zH hts;clear hts;have hiN':(i:Int)<(N:Int):=zd;generalize s.getD i 0=c at *
  by_cases h1:c.toNat<48
  ·have h1':(c.toNat:Int)<48:=zd;(go_wp2_with fail;repeat ((first|refine cZ ?_|refine cW ?_);go_wp2_with fail));exact yl (.bool false) rfl ze zb ⟨⟨false,rfl,fun h=>zF⟩,rfl⟩
  have h1':¬(c.toNat:Int)<48:=zd;have h1'':decide ((c.toNat:Int)<48)=false:=zh;by_cases h2:57<c.toNat
  ·have h2':(57:Int)<(c.toNat:Int):=zd;(go_wp2_with fail;repeat ((first|refine cZ ?_|refine cW ?_);go_wp2_with fail));exact yl (.bool false) rfl ze zb ⟨⟨false,rfl,fun h=>zF⟩,rfl⟩
  have h2':¬(57:Int)<(c.toNat:Int):=zd;have h2'':decide ((57:Int)<(c.toNat:Int))=false:=zh;(go_wp2_with fail;repeat ((first|refine cZ ?_|refine cW ?_);go_wp2_with fail));refine wo HRK (N-(i+1)) (by have:=HKK.out;omega) ⟨i+1,zd,rfl,zb,zj,?_,rfl⟩;rw[HTS.out];exact HA.out.append (fun x hx=>by rw[List.mem_singleton.1 hx];exact yev zd zd)
 ·have hiN':decide (i<N)=false:=by simpa using hiN
  have hall:s.take i=s:=List.take_of_length_le zt;rw[hall]at HA;clear hall;(go_wp2_with fail;repeat ((first|refine cZ ?_|refine cW ?_);go_wp2_with fail));exact yl (.bool true) rfl ze zb ⟨⟨true,rfl,fun _=>⟨fun h=>by have:=HN.out;rw[h,List.length_nil]at this;omega,zt,HA.out⟩⟩,rfl⟩
end Go.Proofs.YtocbeoomhlgnkaaDoor
