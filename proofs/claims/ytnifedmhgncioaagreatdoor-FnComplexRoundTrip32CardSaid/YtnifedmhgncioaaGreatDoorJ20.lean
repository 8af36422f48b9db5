/- Lemmas that the claim's top text leans on. No condition of their own. -/
import Derived.Test.YtnifedmhgncioaaGreatDoorJ19
namespace Go.Proofs.YtnifedmhgncioaaGreatDoor
open Go.RowKit
set_option linter.unusedSimpArgs false
set_option linter.unusedVariables false
set_option maxHeartbeats 16000000
def dsD:List UInt8->Bool->Bool->Nat->Int->Nat->Bool×Bool×Nat×Int×Nat×List UInt8
 | [],dot,dig,nd,dp,N=>(dot,dig,nd,dp,N,[])
 | c::r,dot,dig,nd,dp,N=>
  if c=95 then dsD r dot dig nd dp N
  else if c=46 then (if dot then (dot,dig,nd,dp,N,c::r) else dsD r true dig nd nd N)
  else match dgV false c with
   | some d=>if d=0/\nd=0 then dsD r dot true nd (dp-1) N else dsD r dot true (nd+1) dp (N*10+d)
   | none=>(dot,dig,nd,dp,N,c::r)
def scG:List UInt8->Bool->Nat->Nat
 | [],_,n=>n
 | c::r,dot,n=>
  if c=95 then scG r dot n
  else if c=46 then (if dot then n else scG r true n)
  else match dgV false c with
   | some d=>scG r dot (n*10+d)
   | none=>n
theorem zdl:∀ (l:List UInt8) (st:RF) (N:Nat),(st.nd=0->N=0)->N<10^st.nd->(N≠0->10^(st.nd-1)<=N)->(st.nd≠0->N≠0) ->
  (dsD l st.dot st.dig st.nd st.dp N).1=(scF false l st).1.dot/\(dsD l st.dot st.dig st.nd st.dp N).2.1=(scF false l st).1.dig/\(dsD l st.dot st.dig st.nd st.dp N).2.2.1=(scF false l st).1.nd/\
  (dsD l st.dot st.dig st.nd st.dp N).2.2.2.1=(scF false l st).1.dp/\(dsD l st.dot st.dig st.nd st.dp N).2.2.2.2.1=scG l st.dot N/\(dsD l st.dot st.dig st.nd st.dp N).2.2.2.2.2=(scF false l st).2/\
  scG l st.dot N<10^(scF false l st).1.nd/\(scG l st.dot N≠0->10^((scF false l st).1.nd-1)<=scG l st.dot N)
 | [],st,N,h0,h1,h2,h3=>⟨rfl,rfl,rfl,rfl,rfl,rfl,h1,h2⟩
 | c::r,st,N,h0,h1,h2,h3=>by
  by_cases h95:c=95
  ·have e1:∀ dot dig nd dp N,dsD (c::r) dot dig nd dp N=dsD r dot dig nd dp N:=fun _ _ _ _ _=>by rw[dsD,if_pos h95]
   have e2:scF false (c::r) st=scF false r { st with us:=true }:=by rw[scF,if_pos h95]
   have e3:∀ dot n,scG (c::r) dot n=scG r dot n:=fun _ _=>by rw[scG,if_pos h95]
   rw[e1,e2,e3]
   exact zdl r { st with us:=true } N h0 h1 h2 h3
  by_cases h46:c=46
  ·by_cases hd:st.dot=true
   ·have e1:dsD (c::r) st.dot st.dig st.nd st.dp N=(st.dot,st.dig,st.nd,st.dp,N,c::r):=by rw[dsD,if_neg h95,if_pos h46,if_pos hd]
    have e2:scF false (c::r) st=(st,c::r):=by rw[scF,if_neg h95,if_pos h46,if_pos hd]
    have e3:scG (c::r) st.dot N=N:=by rw[scG,if_neg h95,if_pos h46,if_pos hd]
    rw[e1,e2,e3]
    exact⟨rfl,rfl,rfl,rfl,rfl,rfl,h1,h2⟩
   ·have e1:dsD (c::r) st.dot st.dig st.nd st.dp N=dsD r true st.dig st.nd st.nd N:=by rw[dsD,if_neg h95,if_pos h46,if_neg hd]
    have e2:scF false (c::r) st=scF false r { st with dot:=true,dp:=st.nd }:=by rw[scF,if_neg h95,if_pos h46,if_neg hd]
    have e3:scG (c::r) st.dot N=scG r true N:=by rw[scG,if_neg h95,if_pos h46,if_neg hd]
    rw[e1,e2,e3]
    exact zdl r { st with dot:=true,dp:=st.nd } N h0 h1 h2 h3
  cases hv:dgV false c with
  | none=>
   have e1:dsD (c::r) st.dot st.dig st.nd st.dp N=(st.dot,st.dig,st.nd,st.dp,N,c::r):=by rw[dsD,if_neg h95,if_neg h46,hv]
   have e2:scF false (c::r) st=(st,c::r):=by rw[scF,if_neg h95,if_neg h46,hv]
   have e3:scG (c::r) st.dot N=N:=by rw[scG,if_neg h95,if_neg h46,hv]
   rw[e1,e2,e3]
   exact⟨rfl,rfl,rfl,rfl,rfl,rfl,h1,h2⟩
  | some d=>
   have hd10:=zsu hv
   change d<10 at hd10
   have e2:scF false (c::r) st=scF false r (dgS false st d):=by rw[scF,if_neg h95,if_neg h46,hv]
   have e3:scG (c::r) st.dot N=scG r st.dot (N*10+d):=by rw[scG,if_neg h95,if_neg h46,hv]
   by_cases hz:d=0/\st.nd=0
   ·have e1:dsD (c::r) st.dot st.dig st.nd st.dp N=dsD r st.dot true st.nd (st.dp-1) N:=by
     rw[dsD,if_neg h95,if_neg h46,hv];simp only;rw[if_pos hz]
    have e4:dgS false st d={ st with dig:=true,dp:=st.dp-1 }:=by unfold dgS;rw[if_pos hz]
    have e5:N*10+d=N:=by rw[h0 hz.2,hz.1]
    rw[e1,e2,e3,e4,e5];exact zdl r { st with dig:=true,dp:=st.dp-1 } N h0 h1 h2 h3
   ·have e1:dsD (c::r) st.dot st.dig st.nd st.dp N=dsD r st.dot true (st.nd+1) st.dp (N*10+d):=by
     rw[dsD,if_neg h95,if_neg h46,hv];simp only;rw[if_neg hz]
    have e4:∃ nm mant tr,dgS false st d={ st with dig:=true,nd:=st.nd+1,nm:=nm,mant:=mant,tr:=tr }:=by
     unfold dgS;rw[if_neg hz];split
     ·exact⟨_,_,_,rfl⟩
     ·exact⟨_,_,_,rfl⟩
    obtain⟨nm,mant,tr,e4⟩:=e4;rw[e1,e2,e3,e4];have hne:N*10+d≠0:=by
     intro h;have a:N=0:=zd;have b:d=0:=zd;exact hz ⟨b,by rcases Nat.eq_zero_or_pos st.nd with h | h;exact h;exact absurd a (h3 zd)⟩
    refine zdl r { st with dig:=true,nd:=st.nd+1,nm:=nm,mant:=mant,tr:=tr } (N*10+d) (fun h=>absurd h zi) ?_ ?_ (fun _=>hne)
    ·show N*10+d<10^(st.nd+1);rw[Nat.pow_succ];omega
    ·intro _;show 10^(st.nd+1-1)<=N*10+d;rw[Nat.add_sub_cancel];by_cases hN:N=0
     ·have:st.nd=0:=by rcases Nat.eq_zero_or_pos st.nd with h | h;exact h;exact absurd hN (h3 zd)
      rw[this,Nat.pow_zero];omega
     ·have hnd:st.nd≠0:=fun h=>hN (h0 h)
      have:=h2 hN;have e:10^st.nd=10^(st.nd-1)*10:=by rw[<-Nat.pow_succ,show (st.nd-1).succ=st.nd by omega]
      omega
theorem zh1:∀ (l:List UInt8) (n:Nat),scG l true n=((l.takeWhile (xe false)).filterMap (dgV false)).foldl (fun n d=>n*10+d) n
 | [],n=>rfl
 | c::r,n=>by
  by_cases h95:c=95
  ·subst h95
   rw[scG,if_pos rfl,zh1 r,List.takeWhile_cons_of_pos (jx false),List.filterMap_cons_none (qx false)]
  by_cases h46:c=46
  ·subst h46
   rw[scG,if_neg ze,if_pos rfl,if_pos rfl,List.takeWhile_cons_of_neg (by rw[zod];decide)];rfl
  cases hv:dgV false c with
  | none=>
   have:xe false c=false:=by unfold xe;rw[hv];simp[h95]
   rw[scG,if_neg h95,if_neg h46,hv,List.takeWhile_cons_of_neg (by rw[this];decide)];rfl
  | some d=>
   have:xe false c=true:=by unfold xe;rw[hv];rfl
   rw[scG,if_neg h95,if_neg h46,hv,List.takeWhile_cons_of_pos this,List.filterMap_cons_some hv,List.foldl_cons]
   exact zh1 r _
theorem zh0:∀ (l:List UInt8) (n:Nat),scG l false n=((ve false l).filterMap (dgV false)++(yw false l).filterMap (dgV false)).foldl (fun n d=>n*10+d) n
 | [],n=>rfl
 | c::r,n=>by
  have key:xe false c=true->ve false (c::r)=c::ve false r/\yw false (c::r)=yw false r:=by
   intro h;have e:qi false (c::r)=qi false r:=by unfold qi;rw[List.dropWhile_cons_of_pos h]
   refine⟨by unfold ve;rw[List.takeWhile_cons_of_pos h],by unfold yw;rw[e]⟩
  have key2:xe false c=false->ve false (c::r)=[]/\qi false (c::r)=c::r:=by
   intro h;exact⟨by unfold ve;rw[List.takeWhile_cons_of_neg (by rw[h];decide)],by unfold qi;rw[List.dropWhile_cons_of_neg (by rw[h];decide)]⟩
  by_cases h95:c=95
  ·subst h95;obtain⟨k1,k2⟩:=key (jx false);rw[scG,if_pos rfl,zh0 r,k1,k2,List.filterMap_cons_none (qx false)]
  by_cases h46:c=46
  ·subst h46;obtain⟨k1,k2⟩:=key2 (zod false);have k3:yw false (46::r)=r.takeWhile (xe false):=by unfold yw;rw[k2];rfl
   rw[scG,if_neg ze,if_pos rfl,if_neg ze,zh1,k1,k3];rfl
  cases hv:dgV false c with
  | none=>
   have hd:xe false c=false:=by unfold xe;rw[hv];simp[h95]
   obtain⟨k1,k2⟩:=key2 hd;have k3:yw false (c::r)=[]:=by
    unfold yw;rw[k2,if_neg];intro h;exact h46 zI
   rw[scG,if_neg h95,if_neg h46,hv,k1,k3];rfl
  | some d=>
   have hd:xe false c=true:=by unfold xe;rw[hv];rfl
   obtain⟨k1,k2⟩:=key hd;rw[scG,if_neg h95,if_neg h46,hv,k1,k2,List.filterMap_cons_some hv,List.cons_append,List.foldl_cons];exact zh0 r _
theorem ztr {s:List UInt8} {L:Lit} (h:zau s=some L) (hx:L.hex=false) (h0:L.num≠0):
  s≠[]/\∃ dot nd dp rest,dsD (sgn s).2 false false 0 0 0=(dot,true,nd,dp,L.num,rest)/\nd=yi L.num/\(if dot=true then dp else (nd:Int))=(nd:Int)-(L.db.length:Int)/\
   ((rest=[]/\goX L=0)\/∃ c r1 d r2,rest=c::r1/\wc c=101/\(sgn r1).2=d::r2/\(48<=d.toNat/\d.toNat<=57)/\(∀ us,(scE (d::r2) us 0).2=(goE L.de,[]))/\L.en=(sgn r1).1):=by
 have hok:=zfk h;have hxs:yo (sgn s).2=false:=by rw[<-hok.2.2.2.1];exact hx
 have hb:yj s=(sgn s).2:=by unfold yj;rw[hxs];rfl
 have h':=h;rw[jv,hxs,hb]at h';obtain⟨hne,h1⟩:=zob h';obtain⟨hu,h2⟩:=zfn h1;obtain⟨x,hxE,hL⟩:=Option.map_eq_some_iff.1 h2;have hs:s≠[]:=by
  rintro rfl;exact hne ⟨rfl,rfl⟩
 obtain⟨a1,a2,a3,a4,a5,a6⟩:=zh2 false (sgn s).2;obtain⟨b1,b2,b3,b4,b5,b6,b7,b8⟩:=zdl (sgn s).2 RF.init 0 (fun _=>rfl) zαN (fun h=>absurd rfl h) (fun h=>absurd rfl h);have hda:L.da=(ve false (sgn s).2).filterMap (dgV false):=by rw[<-hL];unfold zdb;rw[hxs,hb]
 have hdb:L.db=(yw false (sgn s).2).filterMap (dgV false):=by rw[<-hL];unfold zdb;rw[hxs,hb]
 have hen:L.en=x.1:=by rw[<-hL];rfl
 have hde:L.de=x.2:=by rw[<-hL];rfl
 have hnum:scG (sgn s).2 RF.init.dot 0=L.num:=by
  show scG (sgn s).2 false 0=_;rw[zh0,<-hda,<-hdb];unfold Lit.num dgN;rw[hx];rfl
 rw[hnum]at b5 b7 b8;have hnd:(scF false (sgn s).2 RF.init).1.nd=yi L.num:=by
  have h3:=b8 h0;have h4:(scF false (sgn s).2 RF.init).1.nd≠0:=by
   intro e;rw[e,Nat.pow_zero]at b7;omega
  have:=vg ((scF false (sgn s).2 RF.init).1.nd-1) L.num h3 (by rw[show (scF false (sgn s).2 RF.init).1.nd-1+1=(scF false (sgn s).2 RF.init).1.nd by omega];exact b7);omega
 have hdig:(scF false (sgn s).2 RF.init).1.dig=true:=by
  rw[a3];exact decide_eq_true hne
 refine⟨hs,(scF false (sgn s).2 RF.init).1.dot,(scF false (sgn s).2 RF.init).1.nd,(scF false (sgn s).2 RF.init).1.dp,(scF false (sgn s).2 RF.init).2,?_,hnd,?_,?_⟩
 ·change (dsD (sgn s).2 false false 0 0 0).1=_ at b1;change (dsD (sgn s).2 false false 0 0 0).2.1=_ at b2;change (dsD (sgn s).2 false false 0 0 0).2.2.1=_ at b3;change (dsD (sgn s).2 false false 0 0 0).2.2.2.1=_ at b4;change (dsD (sgn s).2 false false 0 0 0).2.2.2.2.1=_ at b5;change (dsD (sgn s).2 false false 0 0 0).2.2.2.2.2=_ at b6;rw[hdig]at b2;rw[<-b1,<-b2,<-b3,<-b4,<-b5,<-b6]
 ·rw[a4,<-hda,<-hdb,zr9];have hsi:=zsa false L.da L.db (by rw[<-hx];exact hok.1);have hN:dgN (xj false) (L.da++L.db)=L.num:=by unfold Lit.num;rw[hx]
  rw[hN]at hsi;have h3:=hsi.lo h0;have h4:=vg ((stL false L.da L.db).nd-1) L.num h3.2 (by rw[show (stL false L.da L.db).nd-1+1=(stL false L.da L.db).nd by omega];exact hsi.hi);rw[hnd];omega
 ·rw[a1];cases hr:wx false (sgn s).2 with
  | nil=>
   rw[hr]at hxE;have hx0:x=(false,[]):=by
    have e:zhr false []=some (false,[]):=rfl;rw[e]at hxE;exact (Option.some.inj hxE).symm
   left;refine⟨rfl,?_⟩;unfold goX;rw[hen,hde,hx0];rfl
  | cons c r1=>
   rw[hr]at hxE;obtain⟨⟨l1,l2,l3,l4⟩,l5⟩:=zfn hxE;have hx1:x=((sgn r1).1,(sgn r1).2.filterMap (dgV false)):=(Option.some.inj l5).symm;right;cases hq:(sgn r1).2 with
   | nil=>exact absurd hq l2
   | cons d r2=>
    rw[hq]at l3 l4 hx1;refine⟨c,r1,d,r2,rfl,l1,hq,?_,?_,by rw[hen,hx1]⟩
    ·have h95:d≠95:=by
      rintro rfl;rw[okU,qx]at l4;simp at l4
     have hdu:xe false d=true:=by
      rw[List.all_cons,Bool.and_eq_true]at l3;exact l3.1
     obtain⟨v,hv⟩:=za9 hdu h95;exact (zfy d).1 (by rw[hv];rfl)
    ·intro us;rw[zcu,zcg l3,zas.2 l3,hde,hx1];rfl
section
theorem zqa {B S T:Nat} {k j:Nat} (hB:0<B) (h1:B<=S) (h2:S<2*B) (h3:B<=T) (h4:T<2*B) (h:S*2^k=T*2^j):S=T/\k=j:=by
 have key:∀ {S T k j:Nat},B<=S->S<2*B->B<=T->k<j->S*2^k=T*2^j->False:=by
  intro S T k j a1 a2 a3 a4 a5;have b1:S*2^k<2*B*2^k:=Nat.mul_lt_mul_of_pos_right a2 (p2 k);have b2:B*2^j<=T*2^j:=Nat.mul_le_mul_right _ a3;have b3:B*2^(k+1)<=B*2^j:=Nat.mul_le_mul_left _ (Nat.pow_le_pow_right zd a4);have b4:2*B*2^k=B*2^(k+1):=by rw[Nat.pow_succ];ac_rfl
  omega
 rcases Nat.lt_trichotomy k j with hk | hk | hk
 ·exact (key h1 h2 h3 hk h).elim
 ·subst hk;exact⟨Nat.eq_of_mul_eq_mul_right (p2 k) h,rfl⟩
 ·exact (key h3 h4 h1 hk h.symm).elim
section
variable {fmt : Ieee.Format} {f : Nat} {bias : Int} {inf : Nat}
theorem zcz (h:FmtOK fmt f bias inf) (neg:Bool) (a:Nat) (ha:a<inf):∃ m k:Nat,fmt.read (fmt.word neg a)=.number neg m (fmt.leastPlace+k)/\((a<2^f/\m=a/\k=0)\/(2^f<=m/\m<2*2^f/\a=k*2^f+m)):=by
 by_cases hs:a<2^f
 ·refine⟨a,0,?_,Or.inl ⟨hs,rfl,rfl⟩⟩;have hw:=h.hw;have hB:=h.binade;unfold Ieee.Format.read Ieee.Format.word;simp only[hB];generalize fmt.signWeight=W at *
  have m1:(if neg=true then W+a else a)%W=a:=by
   cases neg
   ·simp only[Bool.false_eq_true,if_false];exact Nat.mod_eq_of_lt zd
   ·simp only[if_true];rw[Nat.add_mod_left];exact Nat.mod_eq_of_lt zd
  have m2:((if neg=true then W+a else a) / W%2==1)=neg:=by
   cases neg
   ·simp only[Bool.false_eq_true,if_false];rw[Nat.div_eq_of_lt zd];rfl
   ·simp only[if_true];rw[Nat.add_div_left _ zd,Nat.div_eq_of_lt zd];rfl
  rw[m1,m2,if_pos hs];congr 1;omega
 ·have hB:=p2 f;have hd:a=(a / 2^f-1)*2^f+(2^f+a%2^f):=by
   have h1:=Nat.div_add_mod a (2^f);have h2:1<=a / 2^f:=(Nat.le_div_iff_mul_le hB).2 zd;obtain⟨q,hq⟩:∃ q,a / 2^f=q+1:=⟨a / 2^f-1,zd⟩;rw[hq]at h1 ⊢;rw[Nat.mul_succ,Nat.mul_comm]at h1;rw[Nat.add_sub_cancel];omega
  have hm:=Nat.mod_lt a hB;refine⟨2^f+a%2^f,a / 2^f-1,?_,Or.inr ⟨zd,zd,hd⟩⟩;have:=zcy h neg (a / 2^f-1) (2^f+a%2^f) zd (by rw[Nat.pow_succ];omega) (by rw[<-hd];exact ha);rw[<-hd]at this;exact this
theorem zgu (h:FmtOK fmt f bias inf) (neg:Bool):fmt.read (fmt.word neg inf)=.infinity neg:=by
 have hw:=h.hw;have hB:=h.binade;have hi:=h.hi;have hge:2^f<=inf:=by
  rw[h.hinf];have:=h.hb;exact Nat.le_mul_of_pos_left _ zd
 unfold Ieee.Format.read Ieee.Format.word;simp only[hB,hi];generalize fmt.signWeight=W at *
 have m1:(if neg=true then W+inf else inf)%W=inf:=by
  cases neg
  ·simp only[Bool.false_eq_true,if_false];exact Nat.mod_eq_of_lt zd
  ·simp only[if_true];rw[Nat.add_mod_left];exact Nat.mod_eq_of_lt zd
 have m2:((if neg=true then W+inf else inf) / W%2==1)=neg:=by
  cases neg
  ·simp only[Bool.false_eq_true,if_false];rw[Nat.div_eq_of_lt zd];rfl
  ·simp only[if_true];rw[Nat.add_div_left _ zd,Nat.div_eq_of_lt zd];rfl
 rw[m1,m2,if_neg zd,if_neg zd,if_pos rfl]
theorem zt2 (h:FmtOK fmt f bias inf) (neg:Bool) (a b:Nat) (ha:a<=inf) (hb:b<=inf) (hq:fmt.order (fmt.word neg a) (fmt.word neg b)=some .eq):a=b:=by
 unfold Ieee.Format.order at hq;by_cases ha2:a=inf
 ·by_cases hb2:b=inf
  ·rw[ha2,hb2]
  ·obtain⟨m,k,e,-⟩:=zcz h neg b zd;rw[ha2,zgu h,e]at hq;cases neg <;> exact absurd hq (by simp[Ieee.Datum.order])
 ·obtain⟨m,k,e,hm⟩:=zcz h neg a zd;by_cases hb2:b=inf
  ·rw[hb2,zgu h,e]at hq;cases neg <;> exact absurd hq (by simp[Ieee.Datum.order])
  ·obtain⟨n,j,e2,hn⟩:=zcz h neg b zd;rw[e,e2]at hq;change some (compare (Ieee.signed neg m (fmt.leastPlace+k-min (fmt.leastPlace+k) (fmt.leastPlace+j)).toNat) (Ieee.signed neg n (fmt.leastPlace+j-min (fmt.leastPlace+k) (fmt.leastPlace+j)).toNat))=_ at hq;have hq2:=Int.compare_eq_eq.1 (Option.some.inj hq);have hsh:m*2^(fmt.leastPlace+k-min (fmt.leastPlace+k) (fmt.leastPlace+j)).toNat=n*2^(fmt.leastPlace+j-min (fmt.leastPlace+k) (fmt.leastPlace+j)).toNat:=by
    unfold Ieee.signed at hq2;rw[Nat.shiftLeft_eq,Nat.shiftLeft_eq]at hq2;cases neg
    ·simp only[Bool.false_eq_true,if_false]at hq2;exact Int.ofNat.inj hq2
    ·simp only[if_true]at hq2;exact Int.ofNat.inj (Int.neg_inj.1 hq2)
   have hv:m*2^k=n*2^j:=by
    have hx:=congrArg (·*2^(min k j)) hsh;rw[Nat.mul_assoc,Nat.mul_assoc,<-Nat.pow_add,<-Nat.pow_add]at hx;rw[show (fmt.leastPlace+k-min (fmt.leastPlace+k) (fmt.leastPlace+j)).toNat+min k j=k by omega,show (fmt.leastPlace+j-min (fmt.leastPlace+k) (fmt.leastPlace+j)).toNat+min k j=j by omega]at hx;exact hx
   have hB:=p2 f;have small:∀ {x S t:Nat},x<2^f->2^f<=S->x=S*2^t->False:=by
    intro x S t h1 h2 h3;have:S<=S*2^t:=Nat.le_mul_of_pos_right _ (p2 t);omega
   rcases hm with⟨a1,a2,a3⟩ | ⟨a1,a2,a3⟩
   ·rcases hn with⟨b1,b2,b3⟩ | ⟨b1,b2,b3⟩
    ·subst a2 a3 b2 b3;simpa using hv
    ·subst a2 a3;rw[Nat.pow_zero,Nat.mul_one]at hv;exact (small a1 b1 hv).elim
   ·rcases hn with⟨b1,b2,b3⟩ | ⟨b1,b2,b3⟩
    ·subst b2 b3;rw[Nat.pow_zero,Nat.mul_one]at hv;exact (small b1 a1 hv.symm).elim
    ·obtain⟨c1,c2⟩:=zqa hB a1 a2 b1 b2 hv;rw[a3,b3,c1,c2]
end
theorem zq3 (F:Nat) (bias:Int) (inf a b:Nat) (hb:b≠0) (hbias:1<=bias) (hbF:(F:Int)+2<=bias) (hinf:inf=(2*bias+1).toNat*2^F) (h:a≠0->¬le2 a b bias):xh F bias inf a b≠inf:=by
 have hE:yt F bias a b<=bias-1-F:=by
  unfold yt;by_cases ha:a=0
  ·rw[if_pos ha];omega
  ·rw[if_neg ha];have o1:=(wg a b ha hb).1;have:uo a b<bias:=by
    rcases Int.lt_or_le (uo a b) bias with h' | h'
    ·exact h'
    ·exact absurd (wh h' o1) (h ha)
   omega
 have hE2:1-bias-F<=yt F bias a b:=zβk;have hr:=zld a b F bias hb zd;rw[Int.toNat_natCast]at hr;unfold xh;rw[if_pos zd,hinf,Int.toNat_natCast];have h2:(yt F bias a b-(1-bias-F)).toNat+2<=2*bias.toNat:=zd;have h3:=Nat.mul_le_mul_right (2^F) h2;rw[Nat.pow_succ]at hr;rw[Nat.add_mul]at h3;have h4:(2*bias+1).toNat=2*bias.toNat+1:=zd;rw[h4,Nat.add_mul,Nat.one_mul];have:=p2 F;omega
theorem zt9 (F:Nat) (bias:Int) (inf d m:Nat) (p:Int) (hd:d<10^m) (hbias:1<=bias) (hbF:(F:Int)+2<=bias) (hinf:inf=(2*bias+1).toNat*2^F) (hp:p<=m) (h:10^(2*m)<=2^bias.toNat):nvT F bias inf 10 d p≠inf:=by
 unfold nvT;have hp10:∀ k,10^k≠0:=fun k=>by have:=p10 k;omega
 refine zq3 F bias inf _ _ (hp10 _) hbias hbF hinf (fun _=>?_);unfold le2;rw[show (-bias).toNat=0 by omega,Nat.pow_zero,Nat.mul_one,Nat.not_le];have h1:d*10^p.toNat<10^m*10^p.toNat:=Nat.mul_lt_mul_of_pos_right hd (p10 _);have h2:10^m*10^p.toNat<=10^(2*m):=by rw[<-Nat.pow_add];exact Nat.pow_le_pow_right zd zd
 have h3:2^bias.toNat<=10^(-p).toNat*2^bias.toNat:=Nat.le_mul_of_pos_left _ (p10 _);omega
structure DecArg (F:Nat) (bias:Int) (inf:Nat) (nv d:Nat) (p:Int) (tr:Bool) (L:Lit):Prop where
 lt:d<10^19
 zero:d=0->nv=0/\L.num=0
 ne:d≠0->L.num≠0
 same:tr=false->nv=nvT F bias inf 10 d p
 lo:nvT F bias inf 10 d p<=nv
 hi:tr=true->nv<=nvT F bias inf 10 (d+1) p
 dp1:d≠0->p<=L.ex+yi L.num
 dp2:d≠0->L.ex+yi L.num<=p+19
 far:d≠0->10^(yi L.num-1)<=L.num/\L.num<10^yi L.num/\1<=yi L.num
 nvis:nv=nvT F bias inf 10 L.num L.ex
theorem zo9 (F:Nat) (bias:Int) (inf:Nat) (L:Lit) (n:Nat) (hok:L.ok) (hx:L.hex=false) (hbias:1<=bias) (hF1:1<=F) (hinf:inf=(2*bias+1).toNat*2^F):
  DecArg F bias inf (nvL F bias inf L) (goR L n).mant (goR L n).exp (goR L n).tr L:=by
 obtain⟨z,nd,hz,hm,ht,hne,hze,hlt,hlen,hM⟩:=zon L n hok;have hb:xj L.hex=10:=zαq;have hMm:ju L.hex=19:=zαq;have hp:zb7 L.hex=1:=zαq;have htn:zjn L.hex=10:=zαq;rw[hb]at hm ht hne hlt hM;rw[hMm]at hz hM;rw[hp]at hne;have hnv:nvL F bias inf L=nvT F bias inf 10 L.num L.ex:=by unfold nvL;rw[htn]
 generalize (goR L n).mant=d at *
 generalize (goR L n).exp=p at *
 generalize (goR L n).tr=tr at *
 have hp10:∀ k,10^k≠0:=fun k=>by have:=p10 k;omega
 by_cases h0:L.num=0
 ·obtain⟨a1,a2,-⟩:=hze h0;subst a1 a2;have hn0:nvL F bias inf L=0:=by rw[hnv,h0];exact zca F bias inf 10 _ ze hbias hF1
  have ht0:tr=false:=by rw[ht,h0,Nat.zero_mod];rfl
  refine⟨hM,fun _=>⟨hn0,h0⟩,fun h=>absurd rfl h,fun _=>?_,?_,fun h=>?_,fun h=>absurd rfl h,fun h=>absurd rfl h,fun h=>absurd rfl h,hnv⟩
  ·rw[hn0];exact (zca F bias inf 10 _ ze hbias hF1).symm
  ·rw[zca F bias inf 10 _ ze hbias hF1];exact Nat.zero_le _
  ·rw[ht0]at h;cases h
 ·obtain⟨a1,a2,a3,a4⟩:=hne h0;rw[Nat.one_mul]at a3;have hnd:yi L.num=nd:=by
   have:=vg (nd-1) L.num a2 (by rw[show nd-1+1=nd by omega];exact hlt);omega
  have hdm:=Nat.div_add_mod L.num (10^z);rw[<-hm]at hdm;have hml:=Nat.mod_lt L.num (p10 z);have sameV:∀ D:Nat,D*10^p.toNat*10^(-L.ex).toNat=D*10^z*10^L.ex.toNat*10^(-p).toNat:=by
   intro D;rw[Nat.mul_assoc,Nat.mul_assoc,Nat.mul_assoc,<-Nat.pow_add,<-Nat.pow_add,<-Nat.pow_add];congr 2;omega
  refine⟨hM,fun h=>absurd h a4,fun _=>h0,fun h=>?_,?_,fun h=>?_,fun _=>by rw[hnd];omega,fun _=>by rw[hnd];omega,fun _=>by rw[hnd];exact⟨a2,hlt,a1⟩,hnv⟩
  ·rw[hnv];have h1:L.num=d*10^z:=by
    rw[ht]at h;have h2:L.num%10^z=0:=zI;rw[h2,Nat.add_zero,Nat.mul_comm]at hdm;exact hdm.symm
   unfold nvT;refine ue F bias inf (hp10 _) (hp10 _) ?_;rw[h1];exact (sameV d).symm
  ·rw[hnv];unfold nvT;refine zg5 F bias inf (hp10 _) (hp10 _) hbias hinf ?_;rw[sameV d];exact Nat.mul_le_mul_right _ (Nat.mul_le_mul_right _ (by rw[Nat.mul_comm];omega))
  ·rw[hnv];unfold nvT;refine zg5 F bias inf (hp10 _) (hp10 _) hbias hinf ?_;rw[sameV (d+1)];exact Nat.mul_le_mul_right _ (Nat.mul_le_mul_right _ (by rw[Nat.add_mul,Nat.one_mul,Nat.mul_comm];omega))
theorem DecArg.over {F:Nat} {bias:Int} {inf nv d:Nat} {p:Int} {tr:Bool} {L:Lit} (h:DecArg F bias inf nv d p tr L) (m:Nat) (h0:d≠0) (hm:(m:Int)<p) (h2:2^(bias+1).toNat<=10^m) (hbias:1<=bias):nv=inf:=by
 obtain⟨h3,h4,h5⟩:=h.far h0;have h6:=h.dp1 h0;rw[h.nvis];exact znp F bias inf 10 L.num (yi L.num-1) m (bias+1).toNat L.ex ze h3 h2 zd zd 
theorem DecArg.under {F:Nat} {bias:Int} {inf nv d:Nat} {p:Int} {tr:Bool} {L:Lit} (h:DecArg F bias inf nv d p tr L) (m:Nat) (h0:d≠0) (hm:p+19<=-(m:Int)) (h2:2^(bias+F).toNat<=10^m) (hbias:1<=bias) (hF:1<=F):nv=0:=by
 obtain⟨h3,h4,h5⟩:=h.far h0;have h6:=h.dp2 h0;rw[h.nvis];exact zno F bias inf 10 L.num (yi L.num) m (bias+F).toNat L.ex ze h4 h2 zd zd hbias hF
end
def gG (E p:Int):Nat:=2^E.toNat*10^p.toNat
def gH (E p:Int):Nat:=2^(-E).toNat*10^(-p).toNat
def ivOk (E:Int):Bool:=
 decide (gH E (-(E*78913 / 262144))<=gG E (-(E*78913 / 262144)))&&decide (gG E (-(E*78913 / 262144))<10*gH E (-(E*78913 / 262144))) &&
 decide (4*gH E (-((E*631305-261663) / 2097152))<=3*gG E (-((E*631305-261663) / 2097152)))&&decide (3*gG E (-((E*631305-261663) / 2097152))<40*gH E (-((E*631305-261663) / 2097152)))
set_option maxRecDepth 100000 in
theorem ys2:(List.range 2201).all (fun i=>ivOk ((i:Int)-1100))=true:=by decide +kernel
theorem iv_ok (E:Int) (h1:-1100<=E) (h2:E<=1100):(gH E (-(E*78913 / 262144))<=gG E (-(E*78913 / 262144))/\gG E (-(E*78913 / 262144))<10*gH E (-(E*78913 / 262144)))/\
  4*gH E (-((E*631305-261663) / 2097152))<=3*gG E (-((E*631305-261663) / 2097152))/\3*gG E (-((E*631305-261663) / 2097152))<40*gH E (-((E*631305-261663) / 2097152)):=by
 have h:=ys2;rw[List.all_eq_true]at h;have:=h (E+1100).toNat (List.mem_range.2 zd);rw[show (((E+1100).toNat:Nat):Int)-1100=E by omega]at this;unfold ivOk at this;simp only[Bool.and_eq_true,decide_eq_true_eq]at this;exact⟨⟨this.1.1.1,this.1.1.2⟩,this.1.2,this.2⟩
theorem yp0 (E p:Int):0<gG E p:=Nat.mul_pos (p2 _) (p10 _)
theorem ymu (E p:Int):0<gH E p:=Nat.mul_pos (p2 _) (p10 _)
theorem ylv (k z:Nat) (E p:Int) (hz:2<=z):zvm (k*2^(z-2)) (E-z) p=zcj (4*(k*gG E p)) (4*gH E p):=by
 rw[ylr];refine zd7 (Nat.mul_pos (zjf _) (p10 _)) (Nat.mul_pos zd (ymu E p)) ?_;have e:2^(z-2)*2^(E-z).toNat*4*2^(-E).toNat=2^E.toNat*2^(-(E-z)).toNat:=by
  rw[show (4:Nat)=2^2 from rfl,<-Nat.pow_add,<-Nat.pow_add,<-Nat.pow_add,<-Nat.pow_add];congr 1;omega
 unfold vN vD gG gH;calc 4*(k*2^(z-2)*2^(E-z).toNat*10^p.toNat)*(4*(2^(-E).toNat*10^(-p).toNat))=4*k*10^p.toNat*10^(-p).toNat*(2^(z-2)*2^(E-z).toNat*4*2^(-E).toNat):=by ac_rfl
  _=4*k*10^p.toNat*10^(-p).toNat*(2^E.toNat*2^(-(E-z)).toNat):=by rw[e]
  _=4*(k*(2^E.toNat*10^p.toNat))*(2^(-(E-z)).toNat*10^(-p).toNat):=by ac_rfl
theorem yow (s z:Nat) (E p:Int):zvm (s*2^z) (E-z) p=zcj (4*(s*gG E p)) (gH E p):=by
 rw[ylr];refine zd7 (Nat.mul_pos (zjf _) (p10 _)) (ymu E p) ?_;have e:2^z*2^(E-z).toNat*2^(-E).toNat=2^E.toNat*2^(-(E-z)).toNat:=by
  rw[<-Nat.pow_add,<-Nat.pow_add,<-Nat.pow_add];congr 1;omega
 unfold vN vD gG gH;calc 4*(s*2^z*2^(E-z).toNat*10^p.toNat)*(2^(-E).toNat*10^(-p).toNat)=4*s*10^p.toNat*10^(-p).toNat*(2^z*2^(E-z).toNat*2^(-E).toNat):=by ac_rfl
  _=4*s*10^p.toNat*10^(-p).toNat*(2^E.toNat*2^(-(E-z)).toNat):=by rw[e]
  _=4*(s*(2^E.toNat*10^p.toNat))*(2^(-(E-z)).toNat*10^(-p).toNat):=by ac_rfl
theorem iv_of (s z c:Nat) (E p:Int) (mn mx:Nat) (hz:2<=z) (hs0:0<s) (hs:s<9007199254740992) (hc:c=1/\s%2=0/\4*gH E p<=3*gG E p/\3*gG E p<40*gH E p\/c=2/\gH E p<=gG E p/\gG E p<10*gH E p)
  (hmn:mn=(4*s-c)*2^(z-2)) (hmx:mx=(4*s+2)*2^(z-2)) (u1:usE mn (E-z) p=zvm mn (E-z) p) (u2:usE mx (E-z) p=zvm mx (E-z) p):
  Iv (gG E p) (gH E p) s c (yll (yj6 (usE mn (E-z) p) ((s%2:Nat):Int))) (ykw (yj6 (usE mx (E-z) p) (-((s%2:Nat):Int)))):=by
 have hg:=yp0 E p;have hh:=ymu E p;rw[u1,u2,hmn,hmx,ylv _ _ _ _ hz,ylv _ _ _ _ hz];clear u1 u2 hmn hmx;generalize gG E p=G at *
 generalize gH E p=H at *
 have hB:0<4*H:=zd;have hcs:c<=2:=zd;have e1:(4*s-c)*G+c*G=4*(s*G):=by rw[<-Nat.add_mul,Nat.sub_add_cancel zd,Nat.mul_assoc]
 have e2:(4*s+2)*G=4*(s*G)+2*G:=by rw[Nat.add_mul,Nat.mul_assoc]
 have e3:∀ d,d*(4*H)=4*(d*H):=fun d=>by rw[Nat.mul_left_comm]
 have hsG:s*G<=9007199254740992*G:=Nat.mul_le_mul_right _ zd;have hG14:3*G<40*H:=zd;have b1:zcj (4*((4*s-c)*G)) (4*H)<18446744073709551600:=by
  have:=(zta ((4*s-c)*G) (4*H) 1000000000000000000 hB).2 zd;omega
 have b2:zcj (4*((4*s+2)*G)) (4*H)<18446744073709551600:=by
  have:=(zta ((4*s+2)*G) (4*H) 1000000000000000000 hB).2 zd;omega
 have b3:0<zcj (4*((4*s+2)*G)) (4*H):=by
  rcases Nat.eq_zero_or_pos (zcj (4*((4*s+2)*G)) (4*H)) with h | h
  ·exfalso;have:=(yn2 ((4*s+2)*G) (4*H) 0 hB).1 zd;rw[Nat.zero_mul]at this;omega
  ·exact h
 have l1:=fun d=>yn2 ((4*s-c)*G) (4*H) d hB
 have l2:=fun d=>zta ((4*s-c)*G) (4*H) d hB
 have l3:=fun d=>yn2 ((4*s+2)*G) (4*H) d hB
 have l4:=fun d=>zta ((4*s+2)*G) (4*H) d hB
 generalize zcj (4*((4*s-c)*G)) (4*H)=v1 at *
 generalize zcj (4*((4*s+2)*G)) (4*H)=v2 at *
 refine⟨hg,hh,hs0,hc,fun d=>?_,fun d=>?_⟩
 ·have h1:=l1 d;have h2:=l2 d;rw[e3]at h1 h2;by_cases ho:s%2=1
  ·rw[if_pos ho,ho,show (((1:Nat):Int))=1 from rfl,yrd v1 d b1,h2];constructor <;> intro h <;> omega
  ·rw[if_neg ho,show s%2=0 by omega,show (((0:Nat):Int))=0 from rfl,ymt v1 b1,yqd v1 d b1,h1];constructor <;> intro h <;> omega
 ·have h3:=l3 d;have h4:=l4 d;rw[e3]at h3 h4;by_cases ho:s%2=1
  ·rw[if_pos ho,ho,show (-((1:Nat):Int))=-1 from rfl,yp2 v2 d b3 b2];constructor
   ·intro h;have:¬v2<=4*d:=by omega
    rw[h3]at this;omega
   ·intro h;have:¬v2<=4*d:=by rw[h3];omega
    omega
  ·rw[if_neg ho,show s%2=0 by omega,show (-((0:Nat):Int))=0 from rfl,ymt v2 b2,ymx];constructor
   ·intro h;have:¬v2<4*d:=by omega
    rw[h4]at this;omega
   ·intro h;have:¬v2<4*d:=by rw[h4];omega
    omega
theorem yqo {Z:Nat} {ME:Int} {mb m:Nat} {x:Int} (hz:Kd Z ME mb m x) (hm0:m≠0):(2^mb<=m->shS m=Z)/\(m<2^mb->Z<shS m)/\shS m<=63:=by
 have hm53:m<2^53:=zβH;obtain⟨hb1,hb2,hb3,hb4⟩:=zdq m zd hm0;have hmb:m<2^(mb+1):=by
  rcases hz with⟨_,_,rfl,_,_,h⟩ | ⟨_,_,rfl,_,_,h⟩ <;> exact h
 have hbm:=Lib.bitLen_le m (mb+1) zβH hmb;have hS:shS m=64-Lib.bitLen m:=rfl;refine⟨fun h=>?_,fun h=>?_,zd⟩
 ·have h2:mb<Lib.bitLen m:=(Nat.pow_lt_pow_iff_right (by omega:1<2)).1 (Nat.lt_of_le_of_lt h hb3);unfold Kd at hz;omega
 ·have h2:=Lib.bitLen_le m mb zβH h;unfold Kd at hz;omega
theorem yrw {m:Nat} (hm:m<2^53) (hm0:m≠0) (S:Nat) (hS:S<=63) (h:m*2^S=9223372036854775808):m=2^(63-S):=by
 have e:(9223372036854775808:Nat)=2^(63-S)*2^S:=by rw[<-Nat.pow_add,show 63-S+S=63 by omega]
 rw[e]at h;exact Nat.eq_of_mul_eq_mul_right (p2 S) h
def yoy (G H s dmin dmax:Nat) (p:Int):Nat×Int:=
 if dmin<=dmax / 10*10 then (dmax / 10,-(p-1)) else if dmin<dmax then (vi (s*G) H,-p) else (dmin,-p)
theorem yoh (Z:Nat) (ME:Int) (mb m:Nat) (x:Int) (hz:Kd Z ME mb m x) (hnorm:2^mb<=m\/x-(mb:Nat)=ME+Z) (hm0:m≠0):
  ∃ (c dmin dmax:Nat) (p:Int),(c=1↔(m=2^mb/\ME+Z<x-(mb:Nat)))/\Iv (gG (x-(mb:Nat)) p) (gH (x-(mb:Nat)) p) m c dmin dmax/\-348<=p/\p<=347/\(c=2->p=-((x-(mb:Nat))*78913 / 262144))/\
   kg Z ME (m*2^shS m) (x-(mb:Nat)-(shS m:Nat))=yoy (gG (x-(mb:Nat)) p) (gH (x-(mb:Nat)) p) m dmin dmax p:=by
 have ht:=ypd hz hm0;obtain⟨n1,n2,n3⟩:=yqo hz hm0;have hge:=ht.ge;have hlt:=ht.lt;have hmod:=ht.mod;have hlo:=ht.lo;have hhi:=ht.hi;have hs11:=ht.s11;have hm53:=ht.m53;have htp:=yrw hm53 hm0 (shS m) n3;have hE2:-1074<=x-(mb:Nat)/\x-(mb:Nat)<=971:=zβH;have hleast:ME+Z<=x-(mb:Nat):=zβH;have hZ2:2<=Z:=zβH;have hlo2:-1200<=x-(mb:Nat)-(shS m:Nat):=zd;generalize shS m=S at *
 generalize x-(mb:Nat)=E at *
 have hq:m*2^S=4*m*2^(S-2):=by
  have:2^S=2^(S-2)*4:=by rw[show (4:Nat)=2^2 from rfl,<-Nat.pow_add];congr 1;omega
  rw[this];ac_rfl
 have hp1:2*2^(S-2)=2^(S-1):=by rw[Nat.mul_comm,<-Nat.pow_succ];congr 1;omega
 have hpw:2^(S-1)*2<=m*2^S:=by
  rw[<-Nat.pow_succ,show (S-1).succ=S by omega];exact Nat.le_mul_of_pos_left _ zd
 have h512:2^(S-2)%512=0:=by
  rw[show S-2=(S-11)+9 by omega,Nat.pow_add];exact Nat.mul_mod_left _ _
 have hmx:m*2^S+2^(S-1)<18446744073709551616:=by
  have h64:(18446744073709551616:Nat)=2^(64-S)*2^S:=by rw[<-Nat.pow_add,show 64-S+S=64 by omega]
  have h1:m<2^(64-S):=by
   rw[h64]at hlt;exact Nat.lt_of_mul_lt_mul_right hlt
  have h2:(m+1)*2^S<=2^(64-S)*2^S:=Nat.mul_le_mul_right _ h1;have h3:2^(S-1)<2^S:=Nat.pow_lt_pow_right zd zd;rw[h64];rw[Nat.add_mul,Nat.one_mul]at h2;omega
 obtain⟨iv1,iv2⟩:=iv_ok E zd zd;have main:∀ (c:Nat) (p:Int) (mn mx:Nat),-348<=p->p<=347->(c=1/\m%2=0/\4*gH E p<=3*gG E p/\3*gG E p<40*gH E p\/c=2/\gH E p<=gG E p/\gG E p<10*gH E p) ->
   3<=-(E-S+p*108853 / 32768+3)->mn=(4*m-c)*2^(S-2)->mx=(4*m+2)*2^(S-2)->shC Z ME (m*2^S) (E-S)=(p,mn,mx,m%2) ->
   ∃ dmin dmax,Iv (gG E p) (gH E p) m c dmin dmax/\kg Z ME (m*2^S) (E-S)=yoy (gG E p) (gH E p) m dmin dmax p:=by
  intro c p mn mx p1 p2' hc hsh hmn hmx2 hC;have hc2:c<=2:=zd;have hmnv:mn+c*2^(S-2)=m*2^S:=by
   rw[hmn,hq,<-Nat.add_mul,Nat.sub_add_cancel zd]
  have hcb:c*2^(S-2)<=2^(S-1):=by rw[<-hp1];exact Nat.mul_le_mul_right _ hc2
  have hmxv:mx=m*2^S+2^(S-1):=by rw[hmx2,hq,Nat.add_mul,hp1]
  have u1:usE mn (E-S) p=zvm mn (E-S) p:=by
   refine yst mn (E-S) p p1 p2' zd zd ?_ hsh;rw[hmn,Nat.mul_mod,h512,Nat.mul_zero,Nat.zero_mod]
  have u2:usE mx (E-S) p=zvm mx (E-S) p:=by
   refine yst mx (E-S) p p1 p2' zd zd ?_ hsh;rw[hmx2,Nat.mul_mod,h512,Nat.mul_zero,Nat.zero_mod]
  have u3:usE (m*2^S) (E-S) p=zvm (m*2^S) (E-S) p:=ysu _ _ _ p1 p2' hlt hge hmod zd;refine⟨_,_,iv_of m S c E p mn mx zd zd zd hc hmn hmx2 u1 u2,?_⟩;have hg:=yp0 E p;have hrn:yj4 (usE (m*2^S) (E-S) p)=vi (m*gG E p) (gH E p):=by
   rw[u3,yow];refine zck _ _ (ymu E p) ?_;have h1:m*gG E p<=9007199254740992*gG E p:=Nat.mul_le_mul_right _ zd;have:=ymu E p;omega
  unfold kg yoy;rw[hC];dsimp only;rw[hrn]
 by_cases hA:m*2^S=9223372036854775808/\ME<E-S
 ·have hpm:=htp hA.1;have hn:2^mb<=m:=by
   rcases Nat.lt_or_ge m (2^mb) with h | h
   ·exfalso;have:=n2 h;rcases hnorm with h1 | h1 <;> omega
   ·exact h
  have hSZ:=n1 hn;have hmmb:m=2^mb:=by rw[hpm];congr 1;unfold Kd at hz;omega
  have hC:shC Z ME (m*2^S) (E-S)=(-((E*631305-261663) / 2097152),m*2^S-2^(S-2),m*2^S+2^(S-1),m%2):=by
   unfold shC;rw[if_pos hA,<-hSZ,show E-(S:Int)+S=E by omega,Nat.mul_div_cancel _ (p2 S)];congr 2
   ·omega
   ·congr 1;omega
  have hev:m%2=0:=by
   rw[hmmb,show mb=mb-1+1 by unfold Kd at hz;omega,Nat.pow_succ];omega
  obtain⟨dmin,dmax,h1,h2⟩:=main 1 _ _ _ zd zd (Or.inl ⟨rfl,hev,iv2⟩) zd (by rw[Nat.sub_mul,Nat.one_mul,<-hq]) (by rw[Nat.add_mul,hp1,<-hq]) hC;exact⟨1,dmin,dmax,_,⟨fun _=>⟨hmmb,zd⟩,fun _=>rfl⟩,h1,zd,zd,fun h=>absurd h zd,h2⟩
 ·have hnot:¬(m=2^mb/\ME+Z<E):=by
   rintro⟨h1,h2⟩;have hSZ:=n1 zd;apply hA;refine⟨?_,zd⟩;rw[h1,hSZ,<-Nat.pow_add];rcases hz with⟨rfl,-,rfl,-⟩ | ⟨rfl,-,rfl,-⟩ <;> rfl
  have hC:shC Z ME (m*2^S) (E-S)=(-(E*78913 / 262144),m*2^S-2^(S-1),m*2^S+2^(S-1),m%2):=by
   unfold shC;rw[if_neg hA];by_cases hB:ME<=E-S
   ·have hn:2^mb<=m:=by
     rcases Nat.lt_or_ge m (2^mb) with h | h
     ·exfalso;have:=n2 h;rcases hnorm with h1 | h1 <;> omega
     ·exact h
    have hSZ:=n1 hn;rw[if_pos hB,<-hSZ,show E-(S:Int)+S=E by omega,Nat.mul_div_cancel _ (p2 S)];congr 2
    ·omega
    ·congr 1;omega
   ·have hEl:E=ME+Z:=by
     rcases hnorm with h1 | h1
     ·have:=n1 h1;omega
     ·exact h1
    have hzS:Z+(ME-(E-S)).toNat=S:=zd;rw[if_neg hB,hzS,<-hEl,Nat.mul_div_cancel _ (p2 S)];congr 2
    ·omega
    ·congr 1;omega
  obtain⟨dmin,dmax,h1,h2⟩:=main 2 _ _ _ zd zd (Or.inr ⟨rfl,iv1⟩) zd (by rw[Nat.sub_mul,hp1,<-hq]) (by rw[Nat.add_mul,hp1,<-hq]) hC;exact⟨2,dmin,dmax,_,⟨fun h=>zd,fun h=>absurd h hnot⟩,h1,zd,zd,fun _=>rfl,h2⟩
theorem ypt {X Y X' Y':Nat} (s:Nat) (low:Bool) (hY:0<Y) (hY':0<Y') (h:X*Y'=X'*Y):inI X Y s low↔inI X' Y' s low:=by
 have key:∀ (A B A' B':Nat),A*Y'=A'*Y->B*Y'=B'*Y->((A<=B↔A'<=B')/\(A<B↔A'<B')):=by
  intro A B A' B' h1 h2;constructor
  ·rw[<-Nat.mul_le_mul_right_iff hY',h1,h2,Nat.mul_le_mul_right_iff hY]
  ·rw[<-Nat.mul_lt_mul_right hY',h1,h2,Nat.mul_lt_mul_right hY]
 have k1:=key (4*(s*Y)) (4*X+Y) (4*(s*Y')) (4*X'+Y') (by ac_rfl) (by rw[Nat.add_mul,Nat.add_mul,Nat.mul_assoc,h,Nat.mul_comm Y Y'];ac_rfl);have k2:=key (2*(s*Y)) (2*X+Y) (2*(s*Y')) (2*X'+Y') (by ac_rfl) (by rw[Nat.add_mul,Nat.add_mul,Nat.mul_assoc,h,Nat.mul_comm Y Y'];ac_rfl);have k3:=key (2*X) (2*(s*Y)+Y) (2*X') (2*(s*Y')+Y') (by rw[Nat.mul_assoc,h];ac_rfl) (by rw[Nat.add_mul,Nat.add_mul,Nat.mul_comm Y Y'];ac_rfl);unfold inI;rw[k2.1,k3.1,k2.2,k3.2];cases low
 ·simp only[Bool.false_eq_true,if_false]
 ·simp only[if_true];rw[k1.1]
theorem pow3 (p i:Int) (hi:0<=i):10^(p-i).toNat*10^(-p).toNat*10^i.toNat=10^p.toNat*10^(-(p-i)).toNat:=by
 rw[<-Nat.pow_add,<-Nat.pow_add,<-Nat.pow_add];congr 1;omega
theorem ysv {s c dmin dmax:Nat} {E p:Int} (hI:Iv (gG E p) (gH E p) s c dmin dmax) (f:Nat) (F bias:Int) (inf:Nat) (hF:F=f) (hE:1-bias-F<=E) (hEb:E<=bias-F) (hs:s<2^(f+1)) (hn:E=1-bias-F\/2^f<=s) (hinf:inf=(2*bias+1).toNat*2^f) (hbias:1<=bias) (hf:1<=f)
  (hc:c=1↔(s=2^f/\1-bias-F<E)) (d i:Nat) (hd:0<d):
  decide (xh F bias inf (d*10^((i:Int)-p).toNat) (10^(-((i:Int)-p)).toNat)=(E-(1-bias-F)).toNat*2^f+s)=true↔dmin<=d*10^i/\d*10^i<=dmax:=by
 rw[decide_eq_true_iff,zz3 f F bias inf _ _ s E hF (Nat.ne_of_gt (p10 _)) (Nat.ne_of_gt (Nat.mul_pos hd (p10 _))) hE hEb hs hn hinf hbias hf,hI.mem,
  show decide (s=2^f/\1-bias-F<E)=decide (c=1) from decide_eq_decide.2 hc.symm]
 refine ypt s _ (Nat.mul_pos (p10 _) (p2 _)) (yp0 E p) ?_;have h:=pow3 p i zd;rw[Int.toNat_natCast]at h;rw[show -((i:Int)-p)=p-i by omega,show (i:Int)-p=-(p-i) by omega];unfold gG gH;calc d*10^(-(p-i)).toNat*2^(-E).toNat*(2^E.toNat*10^p.toNat)=d*2^(-E).toNat*2^E.toNat*(10^p.toNat*10^(-(p-i)).toNat):=by ac_rfl
  _=d*2^(-E).toNat*2^E.toNat*(10^(p-i).toNat*10^(-p).toNat*10^i):=by rw[h]
  _=d*10^i*(2^(-E).toNat*10^(-p).toNat)*(10^(p-i).toNat*2^E.toNat):=by ac_rfl
theorem ym1 (Z:Nat) (ME:Int) (mb m:Nat) (x bias:Int) (inf:Nat) (hz:Kd Z ME mb m x) (hnorm:2^mb<=m\/x-(mb:Nat)=ME+Z) (hm0:m≠0) (hb:bias=1-(ME+Z)-mb) (hinf:inf=(2*bias+1).toNat*2^mb):
  (kg Z ME (m*2^shS m) (x-(mb:Nat)-(shS m:Nat))).1≠0/\
  xh (mb:Nat) bias inf ((kg Z ME (m*2^shS m) (x-(mb:Nat)-(shS m:Nat))).1*10^(kg Z ME (m*2^shS m) (x-(mb:Nat)-(shS m:Nat))).2.toNat) (10^(-(kg Z ME (m*2^shS m) (x-(mb:Nat)-(shS m:Nat))).2).toNat)=(x-(mb:Nat)-(ME+Z)).toNat*2^mb+m:=by
 obtain⟨c,dmin,dmax,p,hc,hI,-,-,hp,hS⟩:=yoh Z ME mb m x hz hnorm hm0;rw[hS];have hleast:1-bias-(mb:Nat)=ME+Z:=zd;have hE1:ME+Z<=x-(mb:Nat):=zβH;have hE2:x-(mb:Nat)<=bias-(mb:Nat):=zβH;have hm1:m<2^(mb+1):=by
  rcases hz with⟨_,_,rfl,_,_,h⟩ | ⟨_,_,rfl,_,_,h⟩ <;> exact h
 have hbias:1<=bias:=zβH;have hmb:1<=mb:=zβH;generalize x-(mb:Nat)=E at *
 have hpos:=hI.pos;have hne:dmin<=dmax:=by
  rcases hI.some with h | h <;> omega
 have hrd:=fun d i hd=>ysv hI mb (mb:Nat) bias inf rfl zd hE2 hm1 (by rw[hleast];exact hnorm.symm) hinf hbias hmb (by rw[hleast];exact hc) d i hd
 rw[hleast]at hrd;have key:∀ (d i:Nat) (k:Int),0<d->k=(i:Int)-p->dmin<=d*10^i->d*10^i<=dmax->d≠0/\xh (mb:Nat) bias inf (d*10^k.toNat) (10^(-k).toNat)=(E-(ME+Z)).toNat*2^mb+m:=by
  intro d i k hd hk h1 h2;have:=(hrd d i hd).2 ⟨h1,h2⟩;rw[hk];exact⟨zd,of_decide_eq_true this⟩
 unfold yoy;split
 ·rename_i h;exact key _ 1 _ zd zd (by rw[Nat.pow_one];exact h) (by rw[Nat.pow_one];omega)
 ·split
  ·rename_i h;obtain⟨a,b⟩:=hI.near h;exact key _ 0 _ zd zd (by rw[Nat.pow_zero,Nat.mul_one];exact a) (by rw[Nat.pow_zero,Nat.mul_one];exact b)
  ·exact key _ 0 _ zd zd (by rw[Nat.pow_zero,Nat.mul_one];omega) (by rw[Nat.pow_zero,Nat.mul_one];omega)
end Go.Proofs.YtnifedmhgncioaaGreatDoor
