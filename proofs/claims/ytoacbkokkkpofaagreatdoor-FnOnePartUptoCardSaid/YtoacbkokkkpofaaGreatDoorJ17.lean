/- Lemmas that the claim's top text leans on. No condition of their own. -/
import Derived.Test.YtoacbkokkkpofaaGreatDoorJ16
namespace Go.Proofs.YtoacbkokkkpofaaGreatDoor
open Go.RowKit
set_option linter.unusedSimpArgs false
set_option linter.unusedVariables false
set_option maxHeartbeats 16000000
def dsD:List UInt8->Bool->Bool->Nat->Int->Nat->Bool×Bool×Nat×Int×Nat×List UInt8
 | [],dot,dig,nd,dp,N=>(dot,dig,nd,dp,N,[])
 | c::r,dot,dig,nd,dp,N=>
  if c=95 then dsD r dot dig nd dp N
  else if c=46 then (if dot then (dot,dig,nd,dp,N,c::r) else dsD r true dig nd nd N)
  else match dgV false c with
   | some d=>if d=0/\nd=0 then dsD r dot true nd (dp-1) N else dsD r dot true (nd+1) dp (N*10+d)
   | none=>(dot,dig,nd,dp,N,c::r)
def scG:List UInt8->Bool->Nat->Nat
 | [],_,n=>n
 | c::r,dot,n=>
  if c=95 then scG r dot n
  else if c=46 then (if dot then n else scG r true n)
  else match dgV false c with
   | some d=>scG r dot (n*10+d)
   | none=>n
theorem zdl:∀ (l:List UInt8) (st:RF) (N:Nat),(st.nd=0->N=0)->N<10^st.nd->(N≠0->10^(st.nd-1)<=N)->(st.nd≠0->N≠0) ->
  (dsD l st.dot st.dig st.nd st.dp N).1=(scF false l st).1.dot/\(dsD l st.dot st.dig st.nd st.dp N).2.1=(scF false l st).1.dig/\(dsD l st.dot st.dig st.nd st.dp N).2.2.1=(scF false l st).1.nd/\
  (dsD l st.dot st.dig st.nd st.dp N).2.2.2.1=(scF false l st).1.dp/\(dsD l st.dot st.dig st.nd st.dp N).2.2.2.2.1=scG l st.dot N/\(dsD l st.dot st.dig st.nd st.dp N).2.2.2.2.2=(scF false l st).2/\
  scG l st.dot N<10^(scF false l st).1.nd/\(scG l st.dot N≠0->10^((scF false l st).1.nd-1)<=scG l st.dot N)
 | [],st,N,h0,h1,h2,h3=>⟨rfl,rfl,rfl,rfl,rfl,rfl,h1,h2⟩
 | c::r,st,N,h0,h1,h2,h3=>by
  by_cases h95:c=95
  ·have e1:∀ dot dig nd dp N,dsD (c::r) dot dig nd dp N=dsD r dot dig nd dp N:=fun _ _ _ _ _=>by rw[dsD,if_pos h95]
   have e2:scF false (c::r) st=scF false r { st with us:=true }:=by rw[scF,if_pos h95]
   have e3:∀ dot n,scG (c::r) dot n=scG r dot n:=fun _ _=>by rw[scG,if_pos h95]
   rw[e1,e2,e3]
   exact zdl r { st with us:=true } N h0 h1 h2 h3
  by_cases h46:c=46
  ·by_cases hd:st.dot=true
   ·have e1:dsD (c::r) st.dot st.dig st.nd st.dp N=(st.dot,st.dig,st.nd,st.dp,N,c::r):=by rw[dsD,if_neg h95,if_pos h46,if_pos hd]
    have e2:scF false (c::r) st=(st,c::r):=by rw[scF,if_neg h95,if_pos h46,if_pos hd]
    have e3:scG (c::r) st.dot N=N:=by rw[scG,if_neg h95,if_pos h46,if_pos hd]
    rw[e1,e2,e3]
    exact⟨rfl,rfl,rfl,rfl,rfl,rfl,h1,h2⟩
   ·have e1:dsD (c::r) st.dot st.dig st.nd st.dp N=dsD r true st.dig st.nd st.nd N:=by rw[dsD,if_neg h95,if_pos h46,if_neg hd]
    have e2:scF false (c::r) st=scF false r { st with dot:=true,dp:=st.nd }:=by rw[scF,if_neg h95,if_pos h46,if_neg hd]
    have e3:scG (c::r) st.dot N=scG r true N:=by rw[scG,if_neg h95,if_pos h46,if_neg hd]
    rw[e1,e2,e3]
    exact zdl r { st with dot:=true,dp:=st.nd } N h0 h1 h2 h3
  cases hv:dgV false c with
  | none=>
   have e1:dsD (c::r) st.dot st.dig st.nd st.dp N=(st.dot,st.dig,st.nd,st.dp,N,c::r):=by rw[dsD,if_neg h95,if_neg h46,hv]
   have e2:scF false (c::r) st=(st,c::r):=by rw[scF,if_neg h95,if_neg h46,hv]
   have e3:scG (c::r) st.dot N=N:=by rw[scG,if_neg h95,if_neg h46,hv]
   rw[e1,e2,e3]
   exact⟨rfl,rfl,rfl,rfl,rfl,rfl,h1,h2⟩
  | some d=>
   have hd10:=zsu hv
   change d<10 at hd10
   have e2:scF false (c::r) st=scF false r (dgS false st d):=by rw[scF,if_neg h95,if_neg h46,hv]
   have e3:scG (c::r) st.dot N=scG r st.dot (N*10+d):=by rw[scG,if_neg h95,if_neg h46,hv]
   by_cases hz:d=0/\st.nd=0
   ·have e1:dsD (c::r) st.dot st.dig st.nd st.dp N=dsD r st.dot true st.nd (st.dp-1) N:=by
     rw[dsD,if_neg h95,if_neg h46,hv];simp only;rw[if_pos hz]
    have e4:dgS false st d={ st with dig:=true,dp:=st.dp-1 }:=by unfold dgS;rw[if_pos hz]
    have e5:N*10+d=N:=by rw[h0 hz.2,hz.1]
    rw[e1,e2,e3,e4,e5];exact zdl r { st with dig:=true,dp:=st.dp-1 } N h0 h1 h2 h3
   ·have e1:dsD (c::r) st.dot st.dig st.nd st.dp N=dsD r st.dot true (st.nd+1) st.dp (N*10+d):=by
     rw[dsD,if_neg h95,if_neg h46,hv];simp only;rw[if_neg hz]
    have e4:∃ nm mant tr,dgS false st d={ st with dig:=true,nd:=st.nd+1,nm:=nm,mant:=mant,tr:=tr }:=by
     unfold dgS;rw[if_neg hz];split
     ·exact⟨_,_,_,rfl⟩
     ·exact⟨_,_,_,rfl⟩
    obtain⟨nm,mant,tr,e4⟩:=e4;rw[e1,e2,e3,e4];have hne:N*10+d≠0:=by
     intro h;have a:N=0:=zd;have b:d=0:=zd;exact hz ⟨b,by rcases Nat.eq_zero_or_pos st.nd with h | h;exact h;exact absurd a (h3 zd)⟩
    refine zdl r { st with dig:=true,nd:=st.nd+1,nm:=nm,mant:=mant,tr:=tr } (N*10+d) (fun h=>absurd h zi) ?_ ?_ (fun _=>hne)
    ·show N*10+d<10^(st.nd+1);rw[Nat.pow_succ];omega
    ·intro _;show 10^(st.nd+1-1)<=N*10+d;rw[Nat.add_sub_cancel];by_cases hN:N=0
     ·have:st.nd=0:=by rcases Nat.eq_zero_or_pos st.nd with h | h;exact h;exact absurd hN (h3 zd)
      rw[this,Nat.pow_zero];omega
     ·have hnd:st.nd≠0:=fun h=>hN (h0 h)
      have:=h2 hN;have e:10^st.nd=10^(st.nd-1)*10:=by rw[<-Nat.pow_succ,show (st.nd-1).succ=st.nd by omega]
      omega
theorem zh1:∀ (l:List UInt8) (n:Nat),scG l true n=((l.takeWhile (xe false)).filterMap (dgV false)).foldl (fun n d=>n*10+d) n
 | [],n=>rfl
 | c::r,n=>by
  by_cases h95:c=95
  ·subst h95
   rw[scG,if_pos rfl,zh1 r,List.takeWhile_cons_of_pos (jx false),List.filterMap_cons_none (qx false)]
  by_cases h46:c=46
  ·subst h46
   rw[scG,if_neg ze,if_pos rfl,if_pos rfl,List.takeWhile_cons_of_neg (by rw[zod];decide)];rfl
  cases hv:dgV false c with
  | none=>
   have:xe false c=false:=by unfold xe;rw[hv];simp[h95]
   rw[scG,if_neg h95,if_neg h46,hv,List.takeWhile_cons_of_neg (by rw[this];decide)];rfl
  | some d=>
   have:xe false c=true:=by unfold xe;rw[hv];rfl
   rw[scG,if_neg h95,if_neg h46,hv,List.takeWhile_cons_of_pos this,List.filterMap_cons_some hv,List.foldl_cons]
   exact zh1 r _
theorem zh0:∀ (l:List UInt8) (n:Nat),scG l false n=((ve false l).filterMap (dgV false)++(yw false l).filterMap (dgV false)).foldl (fun n d=>n*10+d) n
 | [],n=>rfl
 | c::r,n=>by
  have key:xe false c=true->ve false (c::r)=c::ve false r/\yw false (c::r)=yw false r:=by
   intro h;have e:qi false (c::r)=qi false r:=by unfold qi;rw[List.dropWhile_cons_of_pos h]
   refine⟨by unfold ve;rw[List.takeWhile_cons_of_pos h],by unfold yw;rw[e]⟩
  have key2:xe false c=false->ve false (c::r)=[]/\qi false (c::r)=c::r:=by
   intro h;exact⟨by unfold ve;rw[List.takeWhile_cons_of_neg (by rw[h];decide)],by unfold qi;rw[List.dropWhile_cons_of_neg (by rw[h];decide)]⟩
  by_cases h95:c=95
  ·subst h95;obtain⟨k1,k2⟩:=key (jx false);rw[scG,if_pos rfl,zh0 r,k1,k2,List.filterMap_cons_none (qx false)]
  by_cases h46:c=46
  ·subst h46;obtain⟨k1,k2⟩:=key2 (zod false);have k3:yw false (46::r)=r.takeWhile (xe false):=by unfold yw;rw[k2];rfl
   rw[scG,if_neg ze,if_pos rfl,if_neg ze,zh1,k1,k3];rfl
  cases hv:dgV false c with
  | none=>
   have hd:xe false c=false:=by unfold xe;rw[hv];simp[h95]
   obtain⟨k1,k2⟩:=key2 hd;have k3:yw false (c::r)=[]:=by
    unfold yw;rw[k2,if_neg];intro h;exact h46 zI
   rw[scG,if_neg h95,if_neg h46,hv,k1,k3];rfl
  | some d=>
   have hd:xe false c=true:=by unfold xe;rw[hv];rfl
   obtain⟨k1,k2⟩:=key hd;rw[scG,if_neg h95,if_neg h46,hv,k1,k2,List.filterMap_cons_some hv,List.cons_append,List.foldl_cons];exact zh0 r _
theorem ztr {s:List UInt8} {L:Lit} (h:zau s=some L) (hx:L.hex=false) (h0:L.num≠0):
  s≠[]/\∃ dot nd dp rest,dsD (sgn s).2 false false 0 0 0=(dot,true,nd,dp,L.num,rest)/\nd=yi L.num/\(if dot=true then dp else (nd:Int))=(nd:Int)-(L.db.length:Int)/\
   ((rest=[]/\goX L=0)\/∃ c r1 d r2,rest=c::r1/\wc c=101/\(sgn r1).2=d::r2/\(48<=d.toNat/\d.toNat<=57)/\(∀ us,(scE (d::r2) us 0).2=(goE L.de,[]))/\L.en=(sgn r1).1):=by
 have hok:=zfk h;have hxs:yo (sgn s).2=false:=by rw[<-hok.2.2.2.1];exact hx
 have hb:yj s=(sgn s).2:=by unfold yj;rw[hxs];rfl
 have h':=h;rw[jv,hxs,hb]at h';obtain⟨hne,h1⟩:=zob h';obtain⟨hu,h2⟩:=zfn h1;obtain⟨x,hxE,hL⟩:=Option.map_eq_some_iff.1 h2;have hs:s≠[]:=by
  rintro rfl;exact hne ⟨rfl,rfl⟩
 obtain⟨a1,a2,a3,a4,a5,a6⟩:=zh2 false (sgn s).2;obtain⟨b1,b2,b3,b4,b5,b6,b7,b8⟩:=zdl (sgn s).2 RF.init 0 (fun _=>rfl) zαN (fun h=>absurd rfl h) (fun h=>absurd rfl h);have hda:L.da=(ve false (sgn s).2).filterMap (dgV false):=by rw[<-hL];unfold zdb;rw[hxs,hb]
 have hdb:L.db=(yw false (sgn s).2).filterMap (dgV false):=by rw[<-hL];unfold zdb;rw[hxs,hb]
 have hen:L.en=x.1:=by rw[<-hL];rfl
 have hde:L.de=x.2:=by rw[<-hL];rfl
 have hnum:scG (sgn s).2 RF.init.dot 0=L.num:=by
  show scG (sgn s).2 false 0=_;rw[zh0,<-hda,<-hdb];unfold Lit.num dgN;rw[hx];rfl
 rw[hnum]at b5 b7 b8;have hnd:(scF false (sgn s).2 RF.init).1.nd=yi L.num:=by
  have h3:=b8 h0;have h4:(scF false (sgn s).2 RF.init).1.nd≠0:=by
   intro e;rw[e,Nat.pow_zero]at b7;omega
  have:=vk ((scF false (sgn s).2 RF.init).1.nd-1) L.num h3 (by rw[show (scF false (sgn s).2 RF.init).1.nd-1+1=(scF false (sgn s).2 RF.init).1.nd by omega];exact b7);omega
 have hdig:(scF false (sgn s).2 RF.init).1.dig=true:=by
  rw[a3];exact decide_eq_true hne
 refine⟨hs,(scF false (sgn s).2 RF.init).1.dot,(scF false (sgn s).2 RF.init).1.nd,(scF false (sgn s).2 RF.init).1.dp,(scF false (sgn s).2 RF.init).2,?_,hnd,?_,?_⟩
 ·change (dsD (sgn s).2 false false 0 0 0).1=_ at b1;change (dsD (sgn s).2 false false 0 0 0).2.1=_ at b2;change (dsD (sgn s).2 false false 0 0 0).2.2.1=_ at b3;change (dsD (sgn s).2 false false 0 0 0).2.2.2.1=_ at b4;change (dsD (sgn s).2 false false 0 0 0).2.2.2.2.1=_ at b5;change (dsD (sgn s).2 false false 0 0 0).2.2.2.2.2=_ at b6;rw[hdig]at b2;rw[<-b1,<-b2,<-b3,<-b4,<-b5,<-b6]
 ·rw[a4,<-hda,<-hdb,zr9];have hsi:=zsa false L.da L.db (by rw[<-hx];exact hok.1);have hN:dgN (xj false) (L.da++L.db)=L.num:=by unfold Lit.num;rw[hx]
  rw[hN]at hsi;have h3:=hsi.lo h0;have h4:=vk ((stL false L.da L.db).nd-1) L.num h3.2 (by rw[show (stL false L.da L.db).nd-1+1=(stL false L.da L.db).nd by omega];exact hsi.hi);rw[hnd];omega
 ·rw[a1];cases hr:wx false (sgn s).2 with
  | nil=>
   rw[hr]at hxE;have hx0:x=(false,[]):=by
    have e:zhr false []=some (false,[]):=rfl;rw[e]at hxE;exact (Option.some.inj hxE).symm
   left;refine⟨rfl,?_⟩;unfold goX;rw[hen,hde,hx0];rfl
  | cons c r1=>
   rw[hr]at hxE;obtain⟨⟨l1,l2,l3,l4⟩,l5⟩:=zfn hxE;have hx1:x=((sgn r1).1,(sgn r1).2.filterMap (dgV false)):=(Option.some.inj l5).symm;right;cases hq:(sgn r1).2 with
   | nil=>exact absurd hq l2
   | cons d r2=>
    rw[hq]at l3 l4 hx1;refine⟨c,r1,d,r2,rfl,l1,hq,?_,?_,by rw[hen,hx1]⟩
    ·have h95:d≠95:=by
      rintro rfl;rw[okU,qx]at l4;simp at l4
     have hdu:xe false d=true:=by
      rw[List.all_cons,Bool.and_eq_true]at l3;exact l3.1
     obtain⟨v,hv⟩:=za9 hdu h95;exact (zfy d).1 (by rw[hv];rfl)
    ·intro us;rw[zcu,zcg l3,zas.2 l3,hde,hx1];rfl
section
theorem zqa {B S T:Nat} {k j:Nat} (hB:0<B) (h1:B<=S) (h2:S<2*B) (h3:B<=T) (h4:T<2*B) (h:S*2^k=T*2^j):S=T/\k=j:=by
 have key:∀ {S T k j:Nat},B<=S->S<2*B->B<=T->k<j->S*2^k=T*2^j->False:=by
  intro S T k j a1 a2 a3 a4 a5;have b1:S*2^k<2*B*2^k:=Nat.mul_lt_mul_of_pos_right a2 (p2 k);have b2:B*2^j<=T*2^j:=Nat.mul_le_mul_right _ a3;have b3:B*2^(k+1)<=B*2^j:=Nat.mul_le_mul_left _ (Nat.pow_le_pow_right zd a4);have b4:2*B*2^k=B*2^(k+1):=by rw[Nat.pow_succ];ac_rfl
  omega
 rcases Nat.lt_trichotomy k j with hk | hk | hk
 ·exact (key h1 h2 h3 hk h).elim
 ·subst hk;exact⟨Nat.eq_of_mul_eq_mul_right (p2 k) h,rfl⟩
 ·exact (key h3 h4 h1 hk h.symm).elim
section
variable {fmt : Ieee.Format} {f : Nat} {bias : Int} {inf : Nat}
theorem zcz (h:FmtOK fmt f bias inf) (neg:Bool) (a:Nat) (ha:a<inf):∃ m k:Nat,fmt.read (fmt.word neg a)=.number neg m (fmt.leastPlace+k)/\((a<2^f/\m=a/\k=0)\/(2^f<=m/\m<2*2^f/\a=k*2^f+m)):=by
 by_cases hs:a<2^f
 ·refine⟨a,0,?_,Or.inl ⟨hs,rfl,rfl⟩⟩;have hw:=h.hw;have hB:=h.binade;unfold Ieee.Format.read Ieee.Format.word;simp only[hB];generalize fmt.signWeight=W at *
  have m1:(if neg=true then W+a else a)%W=a:=by
   cases neg
   ·simp only[Bool.false_eq_true,if_false];exact Nat.mod_eq_of_lt zd
   ·simp only[if_true];rw[Nat.add_mod_left];exact Nat.mod_eq_of_lt zd
  have m2:((if neg=true then W+a else a) / W%2==1)=neg:=by
   cases neg
   ·simp only[Bool.false_eq_true,if_false];rw[Nat.div_eq_of_lt zd];rfl
   ·simp only[if_true];rw[Nat.add_div_left _ zd,Nat.div_eq_of_lt zd];rfl
  rw[m1,m2,if_pos hs];congr 1;omega
 ·have hB:=p2 f;have hd:a=(a / 2^f-1)*2^f+(2^f+a%2^f):=by
   have h1:=Nat.div_add_mod a (2^f);have h2:1<=a / 2^f:=(Nat.le_div_iff_mul_le hB).2 zd;obtain⟨q,hq⟩:∃ q,a / 2^f=q+1:=⟨a / 2^f-1,zd⟩;rw[hq]at h1 ⊢;rw[Nat.mul_succ,Nat.mul_comm]at h1;rw[Nat.add_sub_cancel];omega
  have hm:=Nat.mod_lt a hB;refine⟨2^f+a%2^f,a / 2^f-1,?_,Or.inr ⟨zd,zd,hd⟩⟩;have:=zcy h neg (a / 2^f-1) (2^f+a%2^f) zd (by rw[Nat.pow_succ];omega) (by rw[<-hd];exact ha);rw[<-hd]at this;exact this
theorem zgu (h:FmtOK fmt f bias inf) (neg:Bool):fmt.read (fmt.word neg inf)=.infinity neg:=by
 have hw:=h.hw;have hB:=h.binade;have hi:=h.hi;have hge:2^f<=inf:=by
  rw[h.hinf];have:=h.hb;exact Nat.le_mul_of_pos_left _ zd
 unfold Ieee.Format.read Ieee.Format.word;simp only[hB,hi];generalize fmt.signWeight=W at *
 have m1:(if neg=true then W+inf else inf)%W=inf:=by
  cases neg
  ·simp only[Bool.false_eq_true,if_false];exact Nat.mod_eq_of_lt zd
  ·simp only[if_true];rw[Nat.add_mod_left];exact Nat.mod_eq_of_lt zd
 have m2:((if neg=true then W+inf else inf) / W%2==1)=neg:=by
  cases neg
  ·simp only[Bool.false_eq_true,if_false];rw[Nat.div_eq_of_lt zd];rfl
  ·simp only[if_true];rw[Nat.add_div_left _ zd,Nat.div_eq_of_lt zd];rfl
 rw[m1,m2,if_neg zd,if_neg zd,if_pos rfl]
theorem zt2 (h:FmtOK fmt f bias inf) (neg:Bool) (a b:Nat) (ha:a<=inf) (hb:b<=inf) (hq:fmt.order (fmt.word neg a) (fmt.word neg b)=some .eq):a=b:=by
 unfold Ieee.Format.order at hq;by_cases ha2:a=inf
 ·by_cases hb2:b=inf
  ·rw[ha2,hb2]
  ·obtain⟨m,k,e,-⟩:=zcz h neg b zd;rw[ha2,zgu h,e]at hq;cases neg <;> exact absurd hq (by simp[Ieee.Datum.order])
 ·obtain⟨m,k,e,hm⟩:=zcz h neg a zd;by_cases hb2:b=inf
  ·rw[hb2,zgu h,e]at hq;cases neg <;> exact absurd hq (by simp[Ieee.Datum.order])
  ·obtain⟨n,j,e2,hn⟩:=zcz h neg b zd;rw[e,e2]at hq;change some (compare (Ieee.signed neg m (fmt.leastPlace+k-min (fmt.leastPlace+k) (fmt.leastPlace+j)).toNat) (Ieee.signed neg n (fmt.leastPlace+j-min (fmt.leastPlace+k) (fmt.leastPlace+j)).toNat))=_ at hq;have hq2:=Int.compare_eq_eq.1 (Option.some.inj hq);have hsh:m*2^(fmt.leastPlace+k-min (fmt.leastPlace+k) (fmt.leastPlace+j)).toNat=n*2^(fmt.leastPlace+j-min (fmt.leastPlace+k) (fmt.leastPlace+j)).toNat:=by
    unfold Ieee.signed at hq2;rw[Nat.shiftLeft_eq,Nat.shiftLeft_eq]at hq2;cases neg
    ·simp only[Bool.false_eq_true,if_false]at hq2;exact Int.ofNat.inj hq2
    ·simp only[if_true]at hq2;exact Int.ofNat.inj (Int.neg_inj.1 hq2)
   have hv:m*2^k=n*2^j:=by
    have hx:=congrArg (·*2^(min k j)) hsh;rw[Nat.mul_assoc,Nat.mul_assoc,<-Nat.pow_add,<-Nat.pow_add]at hx;rw[show (fmt.leastPlace+k-min (fmt.leastPlace+k) (fmt.leastPlace+j)).toNat+min k j=k by omega,show (fmt.leastPlace+j-min (fmt.leastPlace+k) (fmt.leastPlace+j)).toNat+min k j=j by omega]at hx;exact hx
   have hB:=p2 f;have small:∀ {x S t:Nat},x<2^f->2^f<=S->x=S*2^t->False:=by
    intro x S t h1 h2 h3;have:S<=S*2^t:=Nat.le_mul_of_pos_right _ (p2 t);omega
   rcases hm with⟨a1,a2,a3⟩ | ⟨a1,a2,a3⟩
   ·rcases hn with⟨b1,b2,b3⟩ | ⟨b1,b2,b3⟩
    ·subst a2 a3 b2 b3;simpa using hv
    ·subst a2 a3;rw[Nat.pow_zero,Nat.mul_one]at hv;exact (small a1 b1 hv).elim
   ·rcases hn with⟨b1,b2,b3⟩ | ⟨b1,b2,b3⟩
    ·subst b2 b3;rw[Nat.pow_zero,Nat.mul_one]at hv;exact (small b1 a1 hv.symm).elim
    ·obtain⟨c1,c2⟩:=zqa hB a1 a2 b1 b2 hv;rw[a3,b3,c1,c2]
end
theorem zq3 (F:Nat) (bias:Int) (inf a b:Nat) (hb:b≠0) (hbias:1<=bias) (hbF:(F:Int)+2<=bias) (hinf:inf=(2*bias+1).toNat*2^F) (h:a≠0->¬le2 a b bias):xh F bias inf a b≠inf:=by
 have hE:yt F bias a b<=bias-1-F:=by
  unfold yt;by_cases ha:a=0
  ·rw[if_pos ha];omega
  ·rw[if_neg ha];have o1:=(wg a b ha hb).1;have:uo a b<bias:=by
    rcases Int.lt_or_le (uo a b) bias with h' | h'
    ·exact h'
    ·exact absurd (wh h' o1) (h ha)
   omega
 have hE2:1-bias-F<=yt F bias a b:=zβk;have hr:=zld a b F bias hb zd;rw[Int.toNat_natCast]at hr;unfold xh;rw[if_pos zd,hinf,Int.toNat_natCast];have h2:(yt F bias a b-(1-bias-F)).toNat+2<=2*bias.toNat:=zd;have h3:=Nat.mul_le_mul_right (2^F) h2;rw[Nat.pow_succ]at hr;rw[Nat.add_mul]at h3;have h4:(2*bias+1).toNat=2*bias.toNat+1:=zd;rw[h4,Nat.add_mul,Nat.one_mul];have:=p2 F;omega
theorem zt9 (F:Nat) (bias:Int) (inf d m:Nat) (p:Int) (hd:d<10^m) (hbias:1<=bias) (hbF:(F:Int)+2<=bias) (hinf:inf=(2*bias+1).toNat*2^F) (hp:p<=m) (h:10^(2*m)<=2^bias.toNat):nvT F bias inf 10 d p≠inf:=by
 unfold nvT;have hp10:∀ k,10^k≠0:=fun k=>by have:=p10 k;omega
 refine zq3 F bias inf _ _ (hp10 _) hbias hbF hinf (fun _=>?_);unfold le2;rw[show (-bias).toNat=0 by omega,Nat.pow_zero,Nat.mul_one,Nat.not_le];have h1:d*10^p.toNat<10^m*10^p.toNat:=Nat.mul_lt_mul_of_pos_right hd (p10 _);have h2:10^m*10^p.toNat<=10^(2*m):=by rw[<-Nat.pow_add];exact Nat.pow_le_pow_right zd zd
 have h3:2^bias.toNat<=10^(-p).toNat*2^bias.toNat:=Nat.le_mul_of_pos_left _ (p10 _);omega
structure DecArg (F:Nat) (bias:Int) (inf:Nat) (nv d:Nat) (p:Int) (tr:Bool) (L:Lit):Prop where
 lt:d<10^19
 zero:d=0->nv=0/\L.num=0
 ne:d≠0->L.num≠0
 same:tr=false->nv=nvT F bias inf 10 d p
 lo:nvT F bias inf 10 d p<=nv
 hi:tr=true->nv<=nvT F bias inf 10 (d+1) p
 dp1:d≠0->p<=L.ex+yi L.num
 dp2:d≠0->L.ex+yi L.num<=p+19
 far:d≠0->10^(yi L.num-1)<=L.num/\L.num<10^yi L.num/\1<=yi L.num
 nvis:nv=nvT F bias inf 10 L.num L.ex
theorem zo9 (F:Nat) (bias:Int) (inf:Nat) (L:Lit) (n:Nat) (hok:L.ok) (hx:L.hex=false) (hbias:1<=bias) (hF1:1<=F) (hinf:inf=(2*bias+1).toNat*2^F):
  DecArg F bias inf (nvL F bias inf L) (goR L n).mant (goR L n).exp (goR L n).tr L:=by
 obtain⟨z,nd,hz,hm,ht,hne,hze,hlt,hlen,hM⟩:=zon L n hok;have hb:xj L.hex=10:=zαq;have hMm:ju L.hex=19:=zαq;have hp:zb7 L.hex=1:=zαq;have htn:zjn L.hex=10:=zαq;rw[hb]at hm ht hne hlt hM;rw[hMm]at hz hM;rw[hp]at hne;have hnv:nvL F bias inf L=nvT F bias inf 10 L.num L.ex:=by unfold nvL;rw[htn]
 generalize (goR L n).mant=d at *
 generalize (goR L n).exp=p at *
 generalize (goR L n).tr=tr at *
 have hp10:∀ k,10^k≠0:=fun k=>by have:=p10 k;omega
 by_cases h0:L.num=0
 ·obtain⟨a1,a2,-⟩:=hze h0;subst a1 a2;have hn0:nvL F bias inf L=0:=by rw[hnv,h0];exact zca F bias inf 10 _ ze hbias hF1
  have ht0:tr=false:=by rw[ht,h0,Nat.zero_mod];rfl
  refine⟨hM,fun _=>⟨hn0,h0⟩,fun h=>absurd rfl h,fun _=>?_,?_,fun h=>?_,fun h=>absurd rfl h,fun h=>absurd rfl h,fun h=>absurd rfl h,hnv⟩
  ·rw[hn0];exact (zca F bias inf 10 _ ze hbias hF1).symm
  ·rw[zca F bias inf 10 _ ze hbias hF1];exact Nat.zero_le _
  ·rw[ht0]at h;cases h
 ·obtain⟨a1,a2,a3,a4⟩:=hne h0;rw[Nat.one_mul]at a3;have hnd:yi L.num=nd:=by
   have:=vk (nd-1) L.num a2 (by rw[show nd-1+1=nd by omega];exact hlt);omega
  have hdm:=Nat.div_add_mod L.num (10^z);rw[<-hm]at hdm;have hml:=Nat.mod_lt L.num (p10 z);have sameV:∀ D:Nat,D*10^p.toNat*10^(-L.ex).toNat=D*10^z*10^L.ex.toNat*10^(-p).toNat:=by
   intro D;rw[Nat.mul_assoc,Nat.mul_assoc,Nat.mul_assoc,<-Nat.pow_add,<-Nat.pow_add,<-Nat.pow_add];congr 2;omega
  refine⟨hM,fun h=>absurd h a4,fun _=>h0,fun h=>?_,?_,fun h=>?_,fun _=>by rw[hnd];omega,fun _=>by rw[hnd];omega,fun _=>by rw[hnd];exact⟨a2,hlt,a1⟩,hnv⟩
  ·rw[hnv];have h1:L.num=d*10^z:=by
    rw[ht]at h;have h2:L.num%10^z=0:=zI;rw[h2,Nat.add_zero,Nat.mul_comm]at hdm;exact hdm.symm
   unfold nvT;refine ue F bias inf (hp10 _) (hp10 _) ?_;rw[h1];exact (sameV d).symm
  ·rw[hnv];unfold nvT;refine zg5 F bias inf (hp10 _) (hp10 _) hbias hinf ?_;rw[sameV d];exact Nat.mul_le_mul_right _ (Nat.mul_le_mul_right _ (by rw[Nat.mul_comm];omega))
  ·rw[hnv];unfold nvT;refine zg5 F bias inf (hp10 _) (hp10 _) hbias hinf ?_;rw[sameV (d+1)];exact Nat.mul_le_mul_right _ (Nat.mul_le_mul_right _ (by rw[Nat.add_mul,Nat.one_mul,Nat.mul_comm];omega))
theorem DecArg.over {F:Nat} {bias:Int} {inf nv d:Nat} {p:Int} {tr:Bool} {L:Lit} (h:DecArg F bias inf nv d p tr L) (m:Nat) (h0:d≠0) (hm:(m:Int)<p) (h2:2^(bias+1).toNat<=10^m) (hbias:1<=bias):nv=inf:=by
 obtain⟨h3,h4,h5⟩:=h.far h0;have h6:=h.dp1 h0;rw[h.nvis];exact znp F bias inf 10 L.num (yi L.num-1) m (bias+1).toNat L.ex ze h3 h2 zd zd 
theorem DecArg.under {F:Nat} {bias:Int} {inf nv d:Nat} {p:Int} {tr:Bool} {L:Lit} (h:DecArg F bias inf nv d p tr L) (m:Nat) (h0:d≠0) (hm:p+19<=-(m:Int)) (h2:2^(bias+F).toNat<=10^m) (hbias:1<=bias) (hF:1<=F):nv=0:=by
 obtain⟨h3,h4,h5⟩:=h.far h0;have h6:=h.dp2 h0;rw[h.nvis];exact zno F bias inf 10 L.num (yi L.num) m (bias+F).toNat L.ex ze h4 h2 zd zd hbias hF
end
end Go.Proofs.YtoacbkokkkpofaaGreatDoor
