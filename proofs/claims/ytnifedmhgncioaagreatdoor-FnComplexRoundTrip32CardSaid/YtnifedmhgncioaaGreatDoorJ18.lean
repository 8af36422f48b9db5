/- Lemmas that the claim's top text leans on. No condition of their own. -/
import Derived.Test.YtnifedmhgncioaaGreatDoorJ13
import Derived.Test.YtnifedmhgncioaaGreatDoorJ17
import Derived.Test.YtnifedmhgncioaaGreatDoorJ04
namespace Go.Proofs.YtnifedmhgncioaaGreatDoor
open Go.RowKit
set_option linter.unusedSimpArgs false
set_option linter.unusedVariables false
set_option maxHeartbeats 16000000
def ys5 (letter:UInt8) (e:Int) (short:Bool):List UInt8:=
 letter::(if e<0 then 45 else 43)::(if (ycg e.natAbs).length<2/\short=false then 48::ycg e.natAbs else ycg e.natAbs)
def tz2 (m:Nat):Nat:=if h:m=0 then 0 else if m%2=1 then 0 else 1+tz2 (m / 2)
termination_by m
decreasing_by omega
def ykj (m:Nat) (prec:Int):Nat:=if prec<0 then (m.log2-tz2 m+3) / 4 else prec.toNat
def hxM (m c:Nat):Nat:=if m.log2<=4*c then vi (m*2^(4*c-m.log2)) 1 else vi m (2^(m.log2-4*c))
def hxF (m c:Nat):Nat:=if 4*c+1<yu (hxM m c) then hxM m c / 2 else hxM m c
def hxE (m c:Nat):Nat:=if 4*c+1<yu (hxM m c) then 1 else 0
def hxT (up:Bool) (A:Nat):Nat->List UInt8
 | 0=>[]
 | c+1=>ymk up (A / 16^c%16)::hxT up A c
def yma (up:Bool) (m:Nat) (e prec:Int):List UInt8:=
 [48,if up then 88 else 120]++(if m=0 then ptL (48::List.replicate prec.toNat 48)++ys5 (if up then 80 else 112) 0 false
  else ptL (hxT up (hxF m (ykj m prec)) (ykj m prec+1))++ys5 (if up then 80 else 112) (e+m.log2+hxE m (ykj m prec)) false)
theorem yoa (up:Bool) (A c:Nat):(hxT up A c).length=c:=by
 induction c with
 | zero=>rfl
 | succ c ih=>rw[hxT,List.length_cons,ih]
theorem yk5 (letter:UInt8) (e:Int) (h1:-9999<=e) (h2:e<=9999):ys5 letter e false=letter::xExp e:=by
 unfold ys5 xExp;obtain⟨n,hn⟩:=zX e.natAbs;have hn2:n<=9999:=zd;rw[hn];congr 2;have s1:∀ v c,c<=9->v≠0->ycr (10*v+c)=ycr v++[UInt8.ofNat (48+c)]:=fun v c hc hv=>by rw[yep v c hc,if_neg zd]
 have s0:∀ c,c<=9->c≠0->ycr c=[UInt8.ofNat (48+c)]:=fun c hc h0=>by
  have:=yep 0 c hc;rw[if_neg zd,yb9]at this;simpa using this
 by_cases h10:n<10
 ·rw[if_pos (by omega:n<100)];rw[show n / 10=0 by omega,show n%10=n by omega];by_cases h0:n=0
  ·subst h0;rfl
  ·have:ycg n=[UInt8.ofNat (48+n)]:=by unfold ycg;rw[if_neg h0,s0 n zd h0]
   rw[this,if_pos zi];rfl
 have hT:ycg n=ycr n:=by unfold ycg;rw[if_neg zd]
 rw[hT];have e1:n=10*(n / 10)+n%10:=zd;by_cases h100:n<100
 ·rw[if_pos h100];have:ycr n=[UInt8.ofNat (48+n / 10),UInt8.ofNat (48+n%10)]:=by
   rw[e1,s1 _ _ zd zd,s0 (n / 10) zd zd,<-e1];rfl
  rw[this,if_neg zi]
 have e2:n / 10=10*(n / 100)+n / 10%10:=zd;by_cases h1000:n<1000
 ·rw[if_neg h100,if_pos h1000];have:ycr n=[UInt8.ofNat (48+n / 100),UInt8.ofNat (48+n / 10%10),UInt8.ofNat (48+n%10)]:=by
   rw[e1,s1 _ _ zd zd,e2,s1 _ _ zd zd,s0 (n / 100) zd zd,<-e2,<-e1];rfl
  rw[this,if_neg zi]
 have e3:n / 100=10*(n / 1000)+n / 100%10:=zd;rw[if_neg h100,if_neg h1000];have:ycr n=[UInt8.ofNat (48+n / 1000),UInt8.ofNat (48+n / 100%10),UInt8.ofNat (48+n / 10%10),UInt8.ofNat (48+n%10)]:=by
  rw[e1,s1 _ _ zd zd,e2,s1 _ _ zd zd,e3,s1 _ _ zd zd,s0 (n / 1000) zd zd,<-e3,<-e2,<-e1];rfl
 rw[this,if_neg zi]
theorem yrm (B Y P E F:Nat) (hF:0<F) (hP:0<P) (hE:E=16*F) (h:B*E=Y*(P*16)):
  Y / F=B / P/\B%P*E=Y*16%E*P:=by
 have h1:B*F=Y*P:=by
  have:(B*F)*16=(Y*P)*16:=by rw[Nat.mul_assoc,Nat.mul_comm F,<-hE,h,Nat.mul_assoc]
  exact Nat.eq_of_mul_eq_mul_right zd this
 refine⟨?_,?_⟩
 ·rw[<-Nat.mul_div_mul_right Y F hP,<-h1,Nat.mul_comm B,Nat.mul_div_mul_left _ _ hF]
 ·have h2:B%P*F=Y%F*P:=by
   rw[<-Nat.mul_mod_mul_right,h1,Nat.mul_comm P F,Nat.mul_mod_mul_right]
  rw[hE,Nat.mul_comm Y 16,Nat.mul_mod_mul_left];rw[Nat.mul_left_comm,h2,Nat.mul_assoc]
theorem ypu (A Y c E F:Nat) (hF:0<F) (hE:E=16*F) (hY:Y<E) (h:A%16^(c+1)*E=Y*16^(c+1)):
  Y / F%16=A / 16^c%16/\A%16^c*E=Y*16%E*16^c:=by
 have hp:0<16^c:=Nat.pow_pos zd;have hd:A%16^(c+1) / 16^c=A / 16^c%16:=by rw[Nat.pow_succ,Nat.mod_mul_right_div_self]
 have hm:A%16^(c+1)%16^c=A%16^c:=by rw[Nat.pow_succ,Nat.mod_mul_right_mod]
 obtain⟨h1,h2⟩:=yrm (A%16^(c+1)) Y (16^c) E F hF hp hE (by rw[<-Nat.pow_succ];exact h);rw[hd]at h1;rw[hm]at h2;refine⟨?_,h2⟩;rw[h1,Nat.mod_mod]
theorem yqz (up:Bool) (A c:Nat):∀ Y:Nat,Y<2^64->A%16^c*2^64=Y*16^c->ynv up c Y=hxT up A c:=by
 induction c with
 | zero=>intro Y _ _;rfl
 | succ c ih=>
  intro Y hY h;obtain⟨h1,h2⟩:=ypu A Y c (2^64) (2^60) (Nat.two_pow_pos 60) rfl hY h;rw[ynv,hxT,h1,ih _ (Nat.mod_lt _ (Nat.two_pow_pos 64)) h2]
theorem yqy (up:Bool) (A c:Nat):∀ n Y:Nat,Y<2^64->A%16^c*2^64=Y*16^c->c<=n->(c≠0->A%16≠0)->ynd up n Y=hxT up A c:=by
 induction c with
 | zero=>
  intro n Y _ h _ _;have hy:Y=0:=by rw[Nat.pow_zero,Nat.mod_one,Nat.zero_mul,Nat.mul_one]at h;exact h.symm
  subst hy;cases n with
  | zero=>rfl
  | succ n=>rw[ynd,if_pos rfl];rfl
 | succ c ih=>
  intro n Y hY h hn hA;cases n with
  | zero=>omega
  | succ n=>
   obtain⟨h1,h2⟩:=ypu A Y c (2^64) (2^60) (Nat.two_pow_pos 60) rfl hY h;have h0:Y≠0:=by
    intro e;subst e;have h5:A%16^(c+1)=0:=by
     rw[Nat.zero_mul]at h;rcases Nat.mul_eq_zero.1 h with h | h
     ·exact h
     ·exact absurd h (Nat.ne_of_gt (Nat.two_pow_pos 64))
    apply hA zd;have h3:A%16^(c+1)%16=A%16:=Nat.mod_mod_of_dvd _ (by rw[Nat.pow_succ];exact Nat.dvd_mul_left _ _);omega
   rw[ynd,hxT,if_neg h0,h1,ih n _ (Nat.mod_lt _ (Nat.two_pow_pos 64)) h2 zd (fun hc=>hA zd)]
theorem znj (x b:Nat) (hx:x%2=0) (hb:b<2):x|||b=x+b:=by
 have h:=Nat.two_pow_add_eq_or_of_lt (i:=1) (b:=b) (by simpa using hb) (x / 2);rw[show 2^1*(x / 2)=x by omega]at h;exact h.symm
theorem yrq (m c:Nat) (E:Int) (hm0:m≠0) (hk:m.log2<=52) (hc:c<15):
  ymp (c:Int) (m*2^(60-m.log2)) E=(hxF m c*2^(60-4*c),E+hxE m c)/\2^(4*c)<=hxF m c/\hxF m c<2^(4*c+1):=by
 obtain⟨k,hk'⟩:=zX m.log2;have hlo:2^k<=m:=by rw[<-hk'];exact Nat.log2_self_le hm0
 have hhi:m<2^(k+1):=by rw[<-hk'];exact Nat.lt_log2_self
 rw[hk']at hk ⊢;have hM:hxM m c=(if 576460752303423488<(m*2^(60-k)*2^(c*4)%2^60|||m*2^(60-k) / 2^(60-c*4)%2) then m*2^(60-k) / 2^(60-c*4)+1 else m*2^(60-k) / 2^(60-c*4))/\m*2^(60-k) / 2^(60-c*4)<2^(4*c+1)/\2^(4*c)<=m*2^(60-k) / 2^(60-c*4):=by
  have hqlt:m*2^(60-k) / 2^(60-c*4)<2^(4*c+1):=by
   rw[Nat.div_lt_iff_lt_mul (Nat.two_pow_pos _),<-Nat.pow_add,show 4*c+1+(60-c*4)=(k+1)+(60-k) by omega,Nat.pow_add];exact Nat.mul_lt_mul_of_pos_right hhi (Nat.two_pow_pos _)
  have hqge:2^(4*c)<=m*2^(60-k) / 2^(60-c*4):=by
   rw[Nat.le_div_iff_mul_le (Nat.two_pow_pos _),<-Nat.pow_add,show 4*c+(60-c*4)=k+(60-k) by omega,Nat.pow_add];exact Nat.mul_le_mul_right _ hlo
  refine⟨?_,hqlt,hqge⟩;unfold hxM;rw[hk'];have hev:m*2^(60-k)*2^(c*4)%2^60%2=0:=by
   rw[Nat.mod_mod_of_dvd _ (by decide:(2:Nat)∣2^60),show 60-k=(59-k)+1 by omega,Nat.pow_succ];rw[show m*(2^(59-k)*2)*2^(c*4)=2*(m*2^(59-k)*2^(c*4)) by simp[Nat.mul_assoc,Nat.mul_left_comm]];exact Nat.mul_mod_right _ _
  rw[znj _ _ hev (Nat.mod_lt _ zd)];by_cases h:k<=4*c
  ·rw[if_pos h];have e1:m*2^(60-k)=m*2^(4*c-k)*2^(60-c*4):=by rw[Nat.mul_assoc,<-Nat.pow_add];congr 2;omega
   have e2:m*2^(60-k) / 2^(60-c*4)=m*2^(4*c-k):=by rw[e1,Nat.mul_div_cancel _ (Nat.two_pow_pos _)]
   have e3:m*2^(60-k)*2^(c*4)%2^60=0:=by
    rw[e1,Nat.mul_assoc,<-Nat.pow_add,show 60-c*4+c*4=60 by omega];exact Nat.mul_mod_left _ _
   rw[e2,e3,if_neg zd];unfold vi;rw[if_neg zd];simp
  ·rw[if_neg h];have e1:m*2^(60-k) / 2^(60-c*4)=m / 2^(k-4*c):=by
    rw[show 60-c*4=(k-4*c)+(60-k) by omega,Nat.pow_add,Nat.mul_div_mul_right _ _ (Nat.two_pow_pos _)]
   have e2:m*2^(60-k)*2^(c*4)%2^60=m%2^(k-4*c)*2^(60-(k-4*c)):=by
    rw[Nat.mul_assoc,<-Nat.pow_add,show 60-k+c*4=60-(k-4*c) by omega];have:(2:Nat)^60=2^(k-4*c)*2^(60-(k-4*c)):=zαa;rw[this,Nat.mul_mod_mul_right]
   have e3:(2:Nat)^(60-(k-4*c))=2*2^(59-(k-4*c)):=by rw[show 60-(k-4*c)=(59-(k-4*c))+1 by omega,Nat.pow_succ,Nat.mul_comm]
   have e4:576460752303423488=2^(k-4*c)*2^(59-(k-4*c)):=by rw[<-Nat.pow_add,show k-4*c+(59-(k-4*c))=59 by omega]
   rw[e1,e2,e3,e4];obtain⟨b,hb⟩:=zX (2^(k-4*c));obtain⟨z,hz⟩:=zX (2^(59-(k-4*c)));have hz0:2<=z:=by rw[<-hz];exact Nat.le_trans (by decide:2<=2^1) (Nat.pow_le_pow_right zd zd)
   have hb0:0<b:=by rw[<-hb];exact Nat.two_pow_pos _
   rw[hb,hz];unfold vi;obtain⟨r,hr⟩:=zX (m%b);obtain⟨q,hq⟩:=zX (m / b);rw[hr,hq];have hq2:q%2<2:=Nat.mod_lt _ zd;have e5:r*(2*z)=2*r*z:=by rw[<-Nat.mul_assoc,Nat.mul_comm r 2]
   rw[e5];rcases Nat.lt_trichotomy b (2*r) with h1 | h1 | h1
   ·have:(b+1)*z<=2*r*z:=Nat.mul_le_mul_right _ h1;rw[Nat.add_mul]at this;rw[if_pos (Or.inl h1),if_pos zd]
   ·rw[<-h1];by_cases h2:q%2=1
    ·rw[if_pos (Or.inr ⟨rfl,h2⟩),if_pos zd]
    ·rw[if_neg zd,if_neg zd]
   ·have:(2*r+1)*z<=b*z:=Nat.mul_le_mul_right _ h1;rw[Nat.add_mul]at this;rw[if_neg zd,if_neg zd]
 obtain⟨hM,hq1,hq2⟩:=hM;unfold ymp;rw[if_pos zd];dsimp only;rw[Int.toNat_natCast,<-hM];have hMlt:hxM m c<=2^(4*c+1):=by rw[hM];split <;> omega
 have hMge:2^(4*c)<=hxM m c:=by rw[hM];split <;> omega
 clear hM hq1 hq2;rw[show c*4=4*c by omega];have hp1:0<2^(60-4*c):=Nat.two_pow_pos _;have h61:2^61=2^(4*c+1)*2^(60-4*c):=zαa;by_cases h:hxM m c=2^(4*c+1)
 ·have hb:yu (hxM m c)=4*c+2:=by rw[h];exact zj4 (Nat.le_refl _) (Nat.pow_lt_pow_right zd zd)
  have hF:hxF m c=hxM m c / 2:=by unfold hxF;rw[if_pos zd]
  have hE:hxE m c=1:=by unfold hxE;rw[if_pos zd]
  have h2:2^(4*c+1) / 2=2^(4*c):=by rw[Nat.pow_succ];omega
  have h3:2^(4*c)*2^(60-4*c)=2^60:=zαa;rw[hF,hE,h,<-h61,h2,h3];refine⟨?_,Nat.le_refl _,Nat.pow_lt_pow_right zd zd⟩;rw[if_neg ze];rfl
 ·have hlt:hxM m c<2^(4*c+1):=zd;have hb:yu (hxM m c)=4*c+1:=zj4 hMge hlt;have hF:hxF m c=hxM m c:=by unfold hxF;rw[if_neg zd]
  have hE:hxE m c=0:=by unfold hxE;rw[if_neg zd]
  have h2:hxM m c*2^(60-4*c)<2^61:=by rw[h61];exact Nat.mul_lt_mul_of_pos_right hlt hp1
  have h3:hxM m c*2^(60-4*c) / 2^61%2=0:=by rw[Nat.div_eq_of_lt h2]
  rw[hF,hE,if_pos h3];exact⟨zi,hMge,hlt⟩
theorem ym0 (m:Nat) (h:m≠0):∃ a,m=2^tz2 m*a/\a%2=1:=by
 induction m using Nat.strongRecOn with
 | _ m ih=>
  rw[tz2,dif_neg h];by_cases h1:m%2=1
  ·rw[if_pos h1];exact⟨m,zi,h1⟩
  ·rw[if_neg h1];obtain⟨a,ha,ho⟩:=ih (m / 2) zd zd;refine⟨a,?_,ho⟩;rw[Nat.add_comm 1,Nat.pow_succ,Nat.mul_comm _ 2,Nat.mul_assoc,<-ha];omega
theorem ypc (m:Nat) (h:m≠0):tz2 m<=m.log2:=by
 obtain⟨a,ha,ho⟩:=ym0 m h;rw[Nat.le_log2 h];have:2^tz2 m*1<=2^tz2 m*a:=Nat.mul_le_mul_left _ zd;omega
theorem ym3 (a:UInt8) (l:List UInt8):ptL (a::l)=a::(if l=[] then [] else 46::l):=by
 unfold ptL;cases l with
 | nil=>simp
 | cons b r=>rw[if_neg zi,if_neg zi];rfl
theorem yq0 (up:Bool):ymk up 1=49:=by cases up <;> rfl
theorem ypw (up:Bool):ymk up 0=48:=by cases up <;> rfl
theorem ynu (up:Bool):∀ c,ynv up c 0=List.replicate c 48
 | 0=>rfl
 | c+1=>by rw[ynv,List.replicate_succ];simp only[Nat.zero_div,Nat.zero_mod,Nat.zero_mul];rw[ypw,ynu up c]
theorem yqi (neg:Bool) (prec f:Int) (m mb:Nat) (e:Int) (hf:f=120\/f=88) (hp:-1<=prec) (hmb:mb<=52) (hm:m<2^(mb+1)) (he1:-2000<=e) (he2:e<=2000):
  xL neg prec f m mb e=eSign neg++yma (f==88) m (e-mb) prec:=by
 have hup:UInt8.ofNat f.toNat=(if (f==88)=true then 88 else 120):=by rcases hf with rfl | rfl <;> rfl
 have hlt:(if f=88 then (80:UInt8) else 112)=(if (f==88)=true then 80 else 112):=by rcases hf with rfl | rfl <;> rfl
 unfold xL yma;rw[hup,hlt];generalize (f==88)=up;generalize (if up=true then (80:UInt8) else 112)=lt;congr 1;rw[List.cons_append,List.cons_append,List.cons_append,List.cons_append,List.nil_append,List.nil_append];congr 2;by_cases hm0:m=0
 ·subst hm0;rw[if_pos rfl];have hfin:ymz prec 0 mb e=(0,0):=by
   unfold ymz yly;rw[if_pos zi,if_pos rfl];unfold ymp;split
   ·dsimp only;simp
   ·rfl
  rw[hfin];dsimp only;rw[yk5 _ _ zd zd,ym3];simp only[Nat.zero_div,Nat.zero_mod,Nat.zero_mul,List.cons_append];congr 1;unfold yky;rw[if_neg zi];by_cases h0:0<prec
  ·rw[if_pos h0,ynu,if_neg (by rw[List.replicate_eq_nil_iff];omega)]
  ·rw[if_neg h0,if_pos (by rw[List.replicate_eq_nil_iff];omega)]
 rw[if_neg hm0];have hk:m.log2<=mb:=by
  have:=(Nat.log2_lt hm0).2 hm;omega
 have hlo:=Nat.log2_self_le hm0;have hhi:=@Nat.lt_log2_self m;obtain⟨k,hk'⟩:=zX m.log2;rw[hk']at hk hlo hhi;have hnorm:yly (m*2^(60-mb)) (if m=0 then 0 else e)=(m*2^(60-k),e-mb+k):=by
  rw[if_neg hm0];have h:=yog (m:=m*2^(60-mb)) (j:=mb-k) (mj:=m*2^(60-k)) (e:=e) (by rw[Nat.mul_assoc,<-Nat.pow_add];congr 2;omega) zd
   (by
    have:2^61=2^(k+1)*2^(60-k):=zαa;rw[this];exact Nat.mul_lt_mul_of_pos_right hhi (Nat.two_pow_pos _))
   (Or.inr (by
    have:1152921504606846976=2^k*2^(60-k):=by rw[<-Nat.pow_add,show k+(60-k)=60 by omega]
    rw[this];exact Nat.mul_le_mul_right _ hlo))
   (fun h=>absurd (Nat.mul_eq_zero.1 h) (by have:=Nat.two_pow_pos (60-mb);omega))
  rw[h];congr 1;omega
 obtain⟨c,hc⟩:=zX (ykj m prec);have key:∃ X:Nat,ymz prec m mb e=(X,e-mb+k+hxE m c)/\hxF m c<2^(4*c+1)/\2^(4*c)<=hxF m c/\hxF m c*2^60=X*2^(4*c)/\X<2^61/\(prec<0->c<=14/\(c≠0->hxF m c%16≠0)):=by
  unfold ymz;rw[hnorm];dsimp only;have exact1:k<=4*c->hxF m c=m*2^(4*c-k)/\hxE m c=0:=by
   intro h;have hM:hxM m c=m*2^(4*c-k):=by
    unfold hxM;rw[hk',if_pos h];unfold vi;rw[if_neg zd];simp
   have hb:yu (hxM m c)=4*c+1:=by
    refine zj4 ?_ ?_
    ·rw[hM];have:2^(4*c)=2^k*2^(4*c-k):=zαa;rw[this];exact Nat.mul_le_mul_right _ hlo
    ·rw[hM];have:2^(4*c+1)=2^(k+1)*2^(4*c-k):=zαa;rw[this];exact Nat.mul_lt_mul_of_pos_right hhi (Nat.two_pow_pos _)
   unfold hxF hxE;rw[if_neg zd,if_neg zd];exact⟨hM,rfl⟩
  have bd:k<=4*c->hxF m c<2^(4*c+1)/\2^(4*c)<=hxF m c/\hxF m c*2^60=m*2^(60-k)*2^(4*c):=by
   intro h;rw[(exact1 h).1];refine⟨?_,?_,?_⟩
   ·have:2^(4*c+1)=2^(k+1)*2^(4*c-k):=zαa;rw[this];exact Nat.mul_lt_mul_of_pos_right hhi (Nat.two_pow_pos _)
   ·have:2^(4*c)=2^k*2^(4*c-k):=zαa;rw[this];exact Nat.mul_le_mul_right _ hlo
   ·rw[Nat.mul_assoc,<-Nat.pow_add,Nat.mul_assoc,<-Nat.pow_add];congr 2;omega
  have hX:m*2^(60-k)<2^61:=by
   have:2^61=2^(k+1)*2^(60-k):=zαa;rw[this];exact Nat.mul_lt_mul_of_pos_right hhi (Nat.two_pow_pos _)
  by_cases hp0:prec<0
  ·-- as few as are exact
   have hcc:c=(k-tz2 m+3) / 4:=by rw[<-hc];unfold ykj;rw[if_pos hp0,hk']
   obtain⟨a,ha,ho⟩:=ym0 m hm0;have htz:=ypc m hm0;rw[hk']at htz;obtain⟨t,ht⟩:=zX (tz2 m);rw[ht]at ha htz hcc;have hnr:ymp prec (m*2^(60-k)) (e-mb+k)=(m*2^(60-k),e-mb+k):=by unfold ymp;rw[if_neg zd]
   rw[hnr];by_cases h:k<=4*c
   ·obtain⟨b1,b2,b3⟩:=bd h;refine⟨_,by rw[(exact1 h).2];simp,b1,b2,b3,hX,fun _=>⟨zd,fun hc0=>?_⟩⟩;rw[(exact1 h).1,ha,Nat.mul_comm (2^t) a,Nat.mul_assoc,<-Nat.pow_add];have h3:t+(4*c-k)<=3:=zd;have h4:a*2^(t+(4*c-k))%16≠0:=by
     generalize t+(4*c-k)=j at h3;have:j=0\/j=1\/j=2\/j=3:=zd;rcases this with rfl | rfl | rfl | rfl <;> omega
    exact h4
   ·have hd:t<=k/\k-4*c<=t:=zd;have hF:hxM m c=m / 2^(k-4*c)/\m=2^(k-4*c)*(m / 2^(k-4*c)):=by
     have hdv:2^(k-4*c)∣m:=by rw[ha];exact Nat.dvd_trans (Nat.pow_dvd_pow 2 hd.2) (Nat.dvd_mul_right _ _)
     refine⟨?_,(Nat.mul_div_cancel' hdv).symm⟩;unfold hxM;rw[hk',if_neg h];unfold vi;rw[Nat.mod_eq_zero_of_dvd hdv,if_neg (by have:=Nat.two_pow_pos (k-4*c);omega)]
    obtain⟨q,hq⟩:=zX (m / 2^(k-4*c));rw[hq]at hF;have hq1:q<2^(4*c+1):=by
     rw[<-hq,Nat.div_lt_iff_lt_mul (Nat.two_pow_pos _),<-Nat.pow_add,show 4*c+1+(k-4*c)=k+1 by omega];exact hhi
    have hq2:2^(4*c)<=q:=by
     rw[<-hq,Nat.le_div_iff_mul_le (Nat.two_pow_pos _),<-Nat.pow_add,show 4*c+(k-4*c)=k by omega];exact hlo
    have hb:yu (hxM m c)=4*c+1:=by rw[hF.1];exact zj4 hq2 hq1
    have hFF:hxF m c=q/\hxE m c=0:=by
     unfold hxF hxE;rw[if_neg zd,if_neg zd];exact⟨hF.1,rfl⟩
    rw[hFF.1,hFF.2];refine⟨_,zi,hq1,hq2,?_,hX,fun _=>⟨zd,fun hc0=>?_⟩⟩
    ·have e0:m*2^(60-k)*2^(4*c)=(2^(k-4*c)*q)*2^(60-k)*2^(4*c):=by rw[<-hF.2]
     rw[e0,Nat.mul_comm (2^(k-4*c)) q,Nat.mul_assoc,Nat.mul_assoc,<-Nat.pow_add,<-Nat.pow_add];congr 2;omega
    ·-- the last digit
     have e0:q=2^(t-(k-4*c))*a:=by
      have h5:2^(k-4*c)*q=2^(k-4*c)*(2^(t-(k-4*c))*a):=by
       rw[<-hF.2,<-Nat.mul_assoc,<-Nat.pow_add,show k-4*c+(t-(k-4*c))=t by omega];exact ha
      exact Nat.eq_of_mul_eq_mul_left (Nat.two_pow_pos _) h5
     rw[e0];have h3:t-(k-4*c)<=3:=zd;generalize t-(k-4*c)=j at h3;have:j=0\/j=1\/j=2\/j=3:=zd;rcases this with rfl | rfl | rfl | rfl <;> omega
  ·have hcc:c=prec.toNat:=by rw[<-hc];unfold ykj;rw[if_neg hp0]
   have hpc:prec=(c:Int):=zd;rw[hpc];by_cases h15:c<15
   ·obtain⟨h1,h2,h3⟩:=yrq m c (e-mb+k) hm0 zd h15;rw[hk']at h1;rw[h1];refine⟨_,rfl,h3,h2,?_,?_,fun h=>zd⟩
    ·rw[Nat.mul_assoc,<-Nat.pow_add];congr 2;omega
    ·have:2^61=2^(4*c+1)*2^(60-4*c):=zαa;rw[this];exact Nat.mul_lt_mul_of_pos_right h3 (Nat.two_pow_pos _)
   ·have hnr:ymp (c:Int) (m*2^(60-k)) (e-mb+k)=(m*2^(60-k),e-mb+k):=by unfold ymp;rw[if_neg zd]
    rw[hnr];obtain⟨b1,b2,b3⟩:=bd zd;exact⟨_,by rw[(exact1 zd).2];simp,b1,b2,b3,hX,fun h=>zd⟩
 obtain⟨X,hfin,f1,f2,f3,f4,f5⟩:=key;rw[hfin,hc,hk'];dsimp only;have hE1:hxE m c<=1:=by unfold hxE;split <;> omega
 rw[yk5 _ _ zd zd,hxT,ym3,List.cons_append];have d1:hxF m c / 16^c=1:=by
  rw[show (16:Nat)=2^4 by decide,<-Nat.pow_mul];refine Nat.div_eq_of_lt_le zd (by rw[Nat.pow_succ]at f1;omega)
 have d2:X / 2^60=1:=by
  rw[show (16:Nat)=2^4 by decide,<-Nat.pow_mul]at d1;rw[<-Nat.mul_div_mul_right X (2^60) (Nat.two_pow_pos (4*c)),<-f3,Nat.mul_comm (2^60),Nat.mul_div_mul_right _ _ ze];exact d1
 rw[d1,d2,show 1%16=1 by decide,show 48+1%2=49 by decide,yq0];congr 1;have hY:hxF m c%16^c*2^64=X*16%2^64*16^c:=by
  have h4:(16:Nat)^c=2^(4*c):=by rw[show (16:Nat)=2^4 by decide,<-Nat.pow_mul]
  refine (yrm (hxF m c) X (16^c) (2^64) (2^60) (Nat.two_pow_pos 60) (Nat.pow_pos zd) rfl ?_).2;rw[h4,<-Nat.mul_assoc,<-f3,Nat.mul_assoc]
 unfold yky;by_cases hp0:prec<0
 ·obtain⟨g1,g2⟩:=f5 hp0;have hz:=yqy up (hxF m c) c 16 (X*16%2^64) (Nat.mod_lt _ ze) hY zd g2;by_cases h0:X*16%2^64=0
  ·rw[if_neg zd,if_neg zd];rw[h0,ynd,if_pos rfl]at hz;rw[<-hz];rfl
  ·rw[if_pos ⟨hp0,h0⟩,hz];rw[if_neg (by
    intro hn;rw[hn,ynd,if_neg h0]at hz;cases hz)]
 ·rw[if_neg zd];have hcc:c=prec.toNat:=by rw[<-hc];unfold ykj;rw[if_neg hp0]
  by_cases h0:0<prec
  ·rw[if_pos h0,<-hcc,yqz up (hxF m c) c _ (Nat.mod_lt _ ze) hY];rw[if_neg (by
    intro hn;have:=congrArg List.length hn;rw[yoa]at this;simp at this;omega)]
  ·rw[if_neg h0];have:c=0:=zd;subst this;rw[hxT,if_pos rfl]
theorem zg2 (x:Nat):x|||1=x / 2*2+1:=by
 rcases Nat.mod_two_eq_zero_or_one x with h | h
 ·rw[znj x 1 h zd];omega
 ·have e:x=(x-1)|||1:=by rw[znj (x-1) 1 zd zd];omega
  have:x|||1=x:=by
   conv=>lhs;rw[e]
   rw[Nat.or_assoc,Nat.or_self];exact e.symm
  rw[this];omega
theorem zv5 (x:Nat) (b:Bool):x|||b2n b=if b=true then x / 2*2+1 else x:=by
 cases b
 ·simp[b2n]
 ·simp[b2n,zg2]
theorem zew (A B:Nat):zcj A B=if A%B=0 then A / B else A / B / 2*2+1:=by
 unfold zcj;rw[zv5];by_cases h:A%B=0 <;> simp[h]
theorem uu (q g:Nat) (hg:g<4) (hq:q<4000000000000000000):yj4 (4*q+g)=if g=3\/(g=2/\q%2=1) then q+1 else q:=by
 unfold yj4;rw[show (4*q+g) / 4=q by omega,Nat.mod_eq_of_lt zd];split <;> omega
theorem zck (A B:Nat) (hB:0<B) (hlt:A<B*4000000000000000000):yj4 (zcj (4*A) B)=vi A B:=by
 have hq:A / B<4000000000000000000:=by rw[Nat.div_lt_iff_lt_mul hB,Nat.mul_comm];exact hlt
 have h0:=Nat.div_add_mod A B;have hr:A%B<B:=Nat.mod_lt _ hB;rw[zew];unfold vi;generalize A / B=q at *
 generalize A%B=r at *
 have key:∀ f g:Nat,4*r=B*f+g->g<B->4*A / B=4*q+f/\4*A%B=g:=by
  intro f g h1 h2;have e:4*A=g+B*(4*q+f):=by
   rw[Nat.mul_add];have:B*(4*q)=4*(B*q):=by rw[Nat.mul_left_comm]
   omega
  refine⟨?_,?_⟩
  ·rw[e,Nat.add_mul_div_left _ _ hB,Nat.div_eq_of_lt h2];omega
  ·rw[e,Nat.add_mul_mod_self_left,Nat.mod_eq_of_lt h2]
 clear h0 hlt;rcases Nat.lt_or_ge (4*r) B with c | c
 ·obtain⟨k1,k2⟩:=key 0 (4*r) zd c;rw[k1,k2,if_neg (show ¬(B<2*r\/2*r=B/\q%2=1) by omega)];by_cases z:4*r=0
  ·rw[if_pos z,uu q 0 zd hq,if_neg zd]
  ·rw[if_neg z,show (4*q+0) / 2*2+1=4*q+1 by omega,uu q 1 zd hq,if_neg zd]
 rcases Nat.lt_or_ge (4*r) (2*B) with c2 | c2
 ·obtain⟨k1,k2⟩:=key 1 (4*r-B) zd zd;rw[k1,k2,if_neg (show ¬(B<2*r\/2*r=B/\q%2=1) by omega),show (4*q+1) / 2*2+1=4*q+1 by omega,ite_self,uu q 1 zd hq,if_neg zd]
 rcases Nat.lt_or_ge (4*r) (3*B) with c3 | c3
 ·obtain⟨k1,k2⟩:=key 2 (4*r-2*B) zd zd;rw[k1,k2];by_cases z:4*r-2*B=0
  ·rw[if_pos z,uu q 2 zd hq];by_cases y:q%2=1
   ·rw[if_pos zd,if_pos zd]
   ·rw[if_neg zd,if_neg zd]
  ·rw[if_neg z,show (4*q+2) / 2*2+1=4*q+3 by omega,uu q 3 zd hq,if_pos zd,if_pos zd]
 ·obtain⟨k1,k2⟩:=key 3 (4*r-3*B) zd zd;rw[k1,k2,show (4*q+3) / 2*2+1=4*q+3 by omega,ite_self,uu q 3 zd hq,if_pos zd,if_pos zd]
theorem yj7 {a b c d:Nat} (hb:0<b) (hd:0<d) (h:a*d=c*b):vi a b=vi c d:=by
 have s:∀ x y k:Nat,0<k->vi (x*k) (y*k)=vi x y:=by
  intro x y k hk;unfold vi;rw[Nat.mul_div_mul_right _ _ hk,Nat.mul_mod_mul_right,<-Nat.mul_assoc];have e1:(y*k<2*(x%y)*k\/2*(x%y)*k=y*k/\x / y%2=1)↔(y<2*(x%y)\/2*(x%y)=y/\x / y%2=1):=by
   rw[Nat.mul_lt_mul_right hk];constructor
   ·rintro (h | ⟨h,h1⟩)
    ·exact .inl h
    ·exact .inr ⟨Nat.eq_of_mul_eq_mul_right hk h,h1⟩
   ·rintro (h | ⟨h,h1⟩)
    ·exact .inl h
    ·exact .inr ⟨by rw[h],h1⟩
  by_cases hh:(y<2*(x%y)\/2*(x%y)=y/\x / y%2=1)
  ·rw[if_pos hh,if_pos (e1.2 hh)]
  ·rw[if_neg hh,if_neg (fun h=>hh (e1.1 h))]
 rw[<-s a b d hd,h,<-s c d b hb,Nat.mul_comm b d]
theorem zia {K A B:Nat} (hB:0<B) (h:K*B<=A):K<=vi A B:=by
 have:K<=A / B:=(Nat.le_div_iff_mul_le hB).2 h;unfold vi;split <;> omega
theorem zcw {K A B:Nat} (hB:0<B) (h:A<=K*B):vi A B<=K:=by
 unfold vi;rcases Nat.lt_or_ge A (K*B) with h1 | h1
 ·have:A / B<K:=(Nat.div_lt_iff_lt_mul hB).2 h1;split <;> omega
 ·have e:A=K*B:=zd;rw[e,Nat.mul_div_cancel _ hB,Nat.mul_mod_left];rw[if_neg zd];omega
theorem zad (K B:Nat) (hB:0<B):vi (K*B) B=K:=Nat.le_antisymm (zcw hB (Nat.le_refl _)) (zia hB (Nat.le_refl _))
def leT (a b:Nat) (k:Int):Prop:=b*10^k.toNat<=a*10^(-k).toNat
theorem p10 (k:Nat):0<10^k:=Nat.pow_pos zd
theorem uf {x y x' y' c c':Nat} (hc:0<c) (hc':0<c') (hx:x*c=x'*c') (hy:y*c=y'*c'):x<=y↔x'<=y':=by
 rw[<-Nat.mul_le_mul_right_iff hc,hx,hy,Nat.mul_le_mul_right_iff hc']
instance (a b:Nat) (k:Int):Decidable (leT a b k):=by unfold leT;exact inferInstance
def le2 (a b:Nat) (k:Int):Prop:=b*2^k.toNat<=a*2^(-k).toNat
instance (a b:Nat) (k:Int):Decidable (le2 a b k):=by unfold le2;exact inferInstance
def uo (a b:Nat):Int:=if le2 a b ((yu a:Int)-yu b) then (yu a:Int)-yu b else (yu a:Int)-yu b-1
theorem p2 (k:Nat):0<2^k:=Nat.two_pow_pos k
theorem ws {a b:Nat} {k j:Int} {n:Nat} (hn:k+j=(n:Int)):le2 a b k↔2^n*(b*2^(-j).toNat)<=a*2^j.toNat:=by
 unfold le2;refine uf (p2 j.toNat) (p2 (-k).toNat) ?_ ?_
 ·rw[Nat.mul_assoc,<-Nat.pow_add,Nat.mul_left_comm,<-Nat.pow_add,Nat.mul_assoc,<-Nat.pow_add];congr 2;omega
 ·rw[Nat.mul_assoc,<-Nat.pow_add,Nat.mul_assoc,<-Nat.pow_add];congr 2;omega
theorem zan {a b c d:Nat} (hb:0<b) (hd:0<d) (h:a*d=c*b) (k:Int):le2 a b k↔le2 c d k:=by
 unfold le2;refine uf hd hb ?_ ?_
 ·ac_rfl
 ·rw[Nat.mul_right_comm,h,Nat.mul_right_comm]
theorem wh {a b:Nat} {k j:Int} (h:j<=k) (hk:le2 a b k):le2 a b j:=by
 unfold le2 at *
 have h1:b*2^j.toNat*2^(-k).toNat<=b*2^k.toNat*2^(-j).toNat:=by
  rw[Nat.mul_assoc,<-Nat.pow_add,Nat.mul_assoc,<-Nat.pow_add];exact Nat.mul_le_mul_left _ (Nat.pow_le_pow_right zd zd)
 have h2:=Nat.mul_le_mul_right (2^(-j).toNat) hk;have h3:b*2^j.toNat*2^(-k).toNat<=a*2^(-j).toNat*2^(-k).toNat:=by
  rw[Nat.mul_right_comm a];exact Nat.le_trans h1 h2
 exact Nat.le_of_mul_le_mul_right h3 (p2 _)
theorem zeg {a b:Nat} {k j:Int} (h1:le2 a b k) (h2:¬le2 a b (k+1)) (h3:le2 a b j) (h4:¬le2 a b (j+1)):k=j:=by
 rcases Int.lt_trichotomy k j with h | h | h
 ·exact absurd (wh zd h3) h2
 ·exact h
 ·exact absurd (wh zd h1) h4
theorem wg (a b:Nat) (ha:a≠0) (hb:b≠0):le2 a b (uo a b)/\¬le2 a b (uo a b+1):=by
 have a1:=vw ha;have a2:=ke a;have b1:=vw hb;have b2:=ke b;have hup:¬le2 a b ((yu a:Int)-yu b+1):=by
  rw[ws (j:=(yu b:Int)-1) (n:=yu a) zd];have hp:=un hb;rw[show ((yu b:Int)-1).toNat=yu b-1 by omega,show (-((yu b:Int)-1)).toNat=0 by omega,Nat.pow_zero,Nat.mul_one,Nat.not_le,Nat.mul_comm (2^yu a)];exact Nat.lt_of_lt_of_le (Nat.mul_lt_mul_of_pos_right a2 (p2 _)) (by rw[Nat.mul_comm];exact Nat.mul_le_mul_right _ b1)
 have hlo:le2 a b ((yu a:Int)-yu b-1):=by
  have hp:=un ha;rw[ws (j:=(yu b:Int)) (n:=yu a-1) zd];rw[show ((yu b:Int)).toNat=yu b by omega,show (-((yu b:Int))).toNat=0 by omega,Nat.pow_zero,Nat.mul_one];exact Nat.mul_le_mul a1 (Nat.le_of_lt b2)
 unfold uo;split
 ·next h=>exact⟨h,hup⟩
 ·next h=>exact⟨hlo,by rw[Int.sub_add_cancel];exact h⟩
theorem zfa {a b:Nat} {k:Int} (ha:a≠0) (hb:b≠0) (h1:le2 a b k) (h2:¬le2 a b (k+1)):uo a b=k:=
 zeg (wg a b ha hb).1 (wg a b ha hb).2 h1 h2
def rB (a b:Nat) (e:Int):Nat:=vi (a*2^(-e).toNat) (b*2^e.toNat)
def yt (f bias:Int) (a b:Nat):Int:=if a=0 then 1-bias-f else max (1-bias-f) (uo a b-f)
def xh (f bias:Int) (inf:Nat) (a b:Nat):Nat:=
 if yt f bias a b<=bias-f then (yt f bias a b-(1-bias-f)).toNat*2^f.toNat+rB a b (yt f bias a b) else inf
theorem zld (a b:Nat) (f bias:Int) (hb:b≠0) (hf:0<=f):rB a b (yt f bias a b)<=2^(f.toNat+1):=by
 unfold rB yt;by_cases h0:a=0
 ·subst h0;refine zcw (Nat.mul_pos zd (p2 _)) ?_;rw[Nat.zero_mul];exact Nat.zero_le _
 ·rw[if_neg h0];obtain⟨h1,h2⟩:=wg a b h0 hb;generalize uo a b=k at *
  obtain⟨e,he⟩:=zX (max (1-bias-f) (k-f));rw[he];have h3:¬le2 a b (e+f+1):=fun h=>h2 (wh zd h)
  rw[ws (j:=-e) (n:=f.toNat+1) zd,Int.neg_neg,Nat.not_le]at h3;exact zcw (Nat.mul_pos zd (p2 _)) (Nat.le_of_lt h3)
def vN (m:Nat) (e:Int):Nat:=m*2^e.toNat
def vD (e:Int):Nat:=2^(-e).toNat
theorem zjf (e:Int):0<vD e:=Nat.two_pow_pos _
theorem yam {m:Nat} (e:Int) (h:m≠0):vN m e≠0:=Nat.mul_ne_zero h (Nat.ne_of_gt (Nat.two_pow_pos _))
theorem zs6 (m s:Nat) (e:Int):vN (m*2^s) (e-s)*vD e=vN m e*vD (e-s):=by
 unfold vN vD;have:2^s*2^(e-s).toNat*2^(-e).toNat=2^e.toNat*2^(-(e-s)).toNat:=by
  rw[<-Nat.pow_add,<-Nat.pow_add,<-Nat.pow_add];congr 1;omega
 calc m*2^s*2^(e-s).toNat*2^(-e).toNat=m*(2^s*2^(e-s).toNat*2^(-e).toNat):=by ac_rfl
  _=m*(2^e.toNat*2^(-(e-s)).toNat):=by rw[this]
  _=m*2^e.toNat*2^(-(e-s)).toNat:=by ac_rfl
theorem ylr (x:Nat) (e p:Int):zvm x e p=zcj (4*(vN x e*10^p.toNat)) (vD e*10^(-p).toNat):=by
 unfold zvm vN vD;congr 1;ac_rfl
theorem zmg (u K:Nat) (hK:K%2=0) (hK0:0<K) (hu:u<16000000000000000000):K*4-2<=u↔K<=yj4 u:=by
 obtain⟨q,g,hg,rfl⟩:∃ q g,g<4/\u=4*q+g:=⟨u / 4,u%4,zd,zd⟩;rw[uu q g hg zd];split <;> omega
theorem kt (A B:Nat) (hB:0<B):2*(vi A B*B)<=2*A+B/\2*A<=2*(vi A B*B)+B/\(vi A B%2=1->2*(vi A B*B)<2*A+B/\2*A<2*(vi A B*B)+B):=by
 have h0:=Nat.div_add_mod A B;have hr:A%B<B:=Nat.mod_lt _ hB;unfold vi;rw[Nat.mul_comm B]at h0;generalize A / B=q at *
 generalize A%B=r at *
 have e:(q+1)*B=q*B+B:=zβv;split
 ·rw[e];generalize q*B=x at *
  omega
 ·generalize q*B=x at *
  omega
theorem qf (A B s:Nat) (hB:0<B):vi A B=s↔2*(s*B)<=2*A+B/\2*A<=2*(s*B)+B/\(s%2=1->2*(s*B)<2*A+B/\2*A<2*(s*B)+B):=by
 constructor
 ·rintro rfl;exact kt A B hB
 ·intro ⟨h1,h2,h3⟩;obtain⟨k1,k2,k3⟩:=kt A B hB;generalize vi A B=t at *
  rcases Nat.lt_trichotomy t s with h | h | h
  ·exfalso;rcases Nat.lt_or_ge (t+1) s with h4 | h4
   ·have:=Nat.mul_le_mul_right B (show t+2<=s by omega);rw[Nat.add_mul]at this;omega
   ·have h5:s=t+1:=zd;subst h5;rw[Nat.add_mul,Nat.one_mul]at h1 h2 h3;generalize t*B=x at *
    omega
  ·exact h
  ·exfalso;rcases Nat.lt_or_ge (s+1) t with h4 | h4
   ·have:=Nat.mul_le_mul_right B (show s+2<=t by omega);rw[Nat.add_mul]at this;omega
   ·have h5:t=s+1:=zd;subst h5;rw[Nat.add_mul,Nat.one_mul]at k1 k2 k3;generalize s*B=x at *
    omega
def inI (X Y s:Nat) (low:Bool):Prop:=
 (if low then 4*(s*Y)<=4*X+Y else 2*(s*Y)<=2*X+Y)/\2*X<=2*(s*Y)+Y/\(s%2=1->2*(s*Y)<2*X+Y/\2*X<2*(s*Y)+Y)
theorem ztf (E:Int) (X b:Nat):X*2^(-(E-1)).toNat*2^E.toNat=2*(X*2^(-E).toNat)*2^(E-1).toNat:=by
 have:2^(-(E-1)).toNat*2^E.toNat=2*2^(-E).toNat*2^(E-1).toNat:=by
  rw[Nat.mul_comm 2,<-Nat.pow_succ,<-Nat.pow_add,<-Nat.pow_add];congr 1;omega
 calc X*2^(-(E-1)).toNat*2^E.toNat=X*(2^(-(E-1)).toNat*2^E.toNat):=by ac_rfl
  _=X*(2*2^(-E).toNat*2^(E-1).toNat):=by rw[this]
  _=2*(X*2^(-E).toNat)*2^(E-1).toNat:=by ac_rfl
theorem ztx (a b:Nat) (hb:b≠0) (E:Int):rB a b (E-1)=vi (2*(a*2^(-E).toNat)) (b*2^E.toNat):=by
 unfold rB;refine yj7 (Nat.mul_pos zd (p2 _)) (Nat.mul_pos zd (p2 _)) ?_;have:=ztf E a b;calc a*2^(-(E-1)).toNat*(b*2^E.toNat)=a*2^(-(E-1)).toNat*2^E.toNat*b:=by ac_rfl
  _=2*(a*2^(-E).toNat)*2^(E-1).toNat*b:=by rw[this]
  _=2*(a*2^(-E).toNat)*(b*2^(E-1).toNat):=by ac_rfl
theorem zke (a b:Nat) (E:Int) (n:Nat):le2 a b (E+n)↔2^n*(b*2^E.toNat)<=a*2^(-E).toNat:=by
 rw[ws (j:=-E) (n:=n) zd,Int.neg_neg]
theorem zz3 (f:Nat) (F bias:Int) (inf a b s:Nat) (E:Int) (hF:F=f) (hb:b≠0) (ha:a≠0) (hE:1-bias-F<=E) (hEb:E<=bias-F) (hs:s<2^(f+1)) (hn:E=1-bias-F\/2^f<=s) (hinf:inf=(2*bias+1).toNat*2^f) (hbias:1<=bias) (hf:1<=f):
  (xh F bias inf a b=(E-(1-bias-F)).toNat*2^f+s)↔inI (a*2^(-E).toNat) (b*2^E.toNat) s (decide (s=2^f/\1-bias-F<E)):=by
 have hY:0<b*2^E.toNat:=Nat.mul_pos zd (p2 _);have hf0:0<2^f:=p2 f;have hf1:2^(f+1)=2*2^f:=zE;obtain⟨o1,o2⟩:=wg a b ha hb;have hFn:F.toNat=f:=zd;have hnE:yt F bias a b=max (1-bias-F) (uo a b-F):=by unfold yt;rw[if_neg ha]
 obtain⟨L,hL⟩:=zX (1-bias-F);rw[hL]at hE hn hnE ⊢;have hlow0:∀ X Y:Nat,inI X Y s false↔2*(s*Y)<=2*X+Y/\2*X<=2*(s*Y)+Y/\(s%2=1->2*(s*Y)<2*X+Y/\2*X<2*(s*Y)+Y):=by
  intro X Y;unfold inI;simp
 constructor
 ·intro h;obtain⟨e,he⟩:=zX (yt F bias a b);have hsl:rB a b e<=2^(f+1):=by
   have:=zld a b F bias hb zd;rw[he,hFn]at this;exact this
  unfold xh at h;rw[he,hL,hFn]at h;rw[he]at hnE;by_cases hc:e<=bias-F
  ·rw[if_pos hc]at h;have heL:L<=e:=zd;have hge:e=L\/2^f<=rB a b e:=by
    rcases Int.lt_or_le L e with h1 | h1
    ·right;have:le2 a b (e+f):=wh zd o1;rw[zke]at this;exact zia (Nat.mul_pos zd (p2 _)) this
    ·left;omega
   obtain⟨i,hi⟩:∃ i:Nat,e=L+i:=⟨(e-L).toNat,zd⟩;obtain⟨j,hj⟩:∃ j:Nat,E=L+j:=⟨(E-L).toNat,zd⟩;rw[show (e-L).toNat=i by omega,show (E-L).toNat=j by omega]at h;have hij:(i=j/\rB a b e=s)\/(i+1=j/\rB a b e=2^(f+1)/\s=2^f):=by
    rcases Nat.lt_trichotomy i j with h1 | h1 | h1
    ·right;have h2:2^f<=s:=by rcases hn with h2 | h2;omega;exact h2
     rcases Nat.lt_or_ge (i+1) j with h3 | h3
     ·exfalso;have:=Nat.mul_le_mul_right (2^f) (show i+2<=j by omega);rw[Nat.add_mul]at this;omega
     ·have h4:j=i+1:=zd;subst h4;rw[Nat.add_mul,Nat.one_mul]at h;exact⟨rfl,zd,zd⟩
    ·subst h1;left;exact⟨rfl,zd⟩
    ·exfalso;have h2:2^f<=rB a b e:=by rcases hge with h2 | h2;omega;exact h2
     have:=Nat.mul_le_mul_right (2^f) h1;rw[Nat.succ_eq_add_one,Nat.add_mul,Nat.one_mul]at this;omega
   rcases hij with⟨h1,h2⟩ | ⟨h1,h2,h3⟩
   ·have hEe:E=e:=zd;rw[hEe];have hk:=(qf _ _ s (by rw[<-hEe];exact hY)).1 h2;by_cases hlow:s=2^f/\L<e
    ·rw[decide_eq_true hlow];have h5:le2 a b (e+f):=wh zd o1;rw[zke]at h5;unfold inI;rw[if_pos rfl];obtain⟨hs2,-⟩:=hlow;rw[<-hs2]at h5;exact⟨zd,hk.2.1,hk.2.2⟩
    ·rw[decide_eq_false hlow,hlow0];exact hk
   ·have hEe:e=E-1:=zd;rw[decide_eq_true ⟨h3,zd⟩];rw[hEe,ztx a b hb]at h2;have hk:=(qf _ _ _ hY).1 h2;have hlt:¬le2 a b (E+f):=by
     intro hh;apply o2;refine wh ?_ hh;omega
    rw[zke,Nat.not_le]at hlt;unfold inI;rw[if_pos rfl];rw[hf1,<-h3]at hk;rw[<-h3]at hlt;rw[Nat.mul_assoc 2 s]at hk;refine⟨zd,zd,fun ho=>?_⟩;exfalso;rw[h3]at ho;obtain⟨g,rfl⟩:∃ g,f=g+1:=⟨f-1,zd⟩;rw[Nat.pow_succ]at ho;omega
  ·exfalso;rw[if_neg hc,hinf]at h;obtain⟨j,hj⟩:∃ j:Nat,E=L+j:=⟨(E-L).toNat,zd⟩;have h1:(E-L).toNat+2<=(2*bias+1).toNat:=zd;have:=Nat.mul_le_mul_right (2^f) h1;rw[Nat.add_mul]at this;omega
 ·intro h;obtain⟨X,hX⟩:=zX (a*2^(-E).toNat);obtain⟨Y,hY2⟩:=zX (b*2^E.toNat);rw[hX,hY2]at h;rw[hY2]at hY;have hev:2^f%2=0:=by
   obtain⟨g,rfl⟩:∃ g,f=g+1:=⟨f-1,zd⟩;rw[Nat.pow_succ];omega
  have hsY:∀ k,k<=s->k*Y<=s*Y:=fun k hk=>Nat.mul_le_mul_right _ hk
  have hup:¬le2 a b (E+((f+1:Nat):Int)):=by
   rw[zke,hX,hY2,Nat.not_le];have:=Nat.mul_le_mul_right Y hs;rw[Nat.succ_eq_add_one,Nat.add_mul,Nat.one_mul]at this;have:=h.2.1;omega
  have hle:uo a b<=E+f:=by
   rcases Int.lt_or_le (E+f) (uo a b) with h1 | h1
   ·exact absurd (wh zd o1) hup
   ·exact h1
  by_cases hlow:(s=2^f/\L<E)/\X<s*Y
  ·obtain⟨⟨h1,h2⟩,h3⟩:=hlow;have hl:=h.1;rw[decide_eq_true ⟨h1,h2⟩,if_pos rfl]at hl;have h4:le2 a b (E+((f-1:Nat):Int)):=by
    rw[zke,hX,hY2];have h5:2*(2^(f-1)*Y)=s*Y:=by
     rw[h1,<-Nat.mul_assoc,Nat.mul_comm 2,<-Nat.pow_succ];congr 2;omega
    have h6:1*Y<=2^(f-1)*Y:=Nat.mul_le_mul_right _ (p2 _);omega
   have h5:¬le2 a b (E+(f:Int)):=by
    rw[zke,hX,hY2,Nat.not_le,<-h1];exact h3
   have ho:uo a b=E+f-1:=by
    refine zfa ha hb ?_ ?_
    ·rw[show E+(f:Int)-1=E+((f-1:Nat):Int) by omega];exact h4
    ·rw[show E+(f:Int)-1+1=E+(f:Int) by omega];exact h5
   have he:yt F bias a b=E-1:=by rw[hnE,ho];omega
   have hr:rB a b (E-1)=2*s:=by
    rw[ztx a b hb,hX,hY2,qf _ _ _ hY,Nat.mul_assoc];exact⟨zd,zd,fun h=>zd⟩
   unfold xh;rw[he,if_pos zd,hr,hL,hFn,h1];obtain⟨j,hj⟩:∃ j:Nat,E=L+j+1:=⟨(E-L-1).toNat,zd⟩;rw[show (E-1-L).toNat=j by omega,show (E-L).toNat=j+1 by omega,Nat.add_mul,Nat.one_mul];omega
  ·have hr2:2*(s*Y)<=2*X+Y:=by
    have hl:=h.1;by_cases h1:s=2^f/\L<E
    ·have:¬X<s*Y:=fun h3=>hlow ⟨h1,h3⟩
     omega
    ·rw[decide_eq_false h1,if_neg zi]at hl;exact hl
   have hr:rB a b E=s:=by
    unfold rB;rw[hX,hY2,qf _ _ _ hY];exact⟨hr2,h.2.1,h.2.2⟩
   have he:yt F bias a b=E:=by
    rw[hnE];rcases Int.lt_or_le L E with h1 | h1
    ·have h2:2^f<=s:=by rcases hn with h2 | h2;omega;exact h2
     have h3:le2 a b (E+(f:Int)):=by
      rw[zke,hX,hY2];by_cases h4:s=2^f
      ·have:¬X<s*Y:=fun h3=>hlow ⟨⟨h4,h1⟩,h3⟩
       rw[<-h4];omega
      ·have h5:=hsY (2^f+1) zd;rw[Nat.add_mul,Nat.one_mul]at h5;omega
     have h4:E+f<=uo a b:=by
      rcases Int.lt_or_le (uo a b) (E+f) with h5 | h5
      ·exact absurd (wh zd h3) o2
      ·exact h5
     omega
    ·omega
   unfold xh;rw[he,if_pos zd,hr,hL,hFn]
theorem zux (n g:Nat):n / g+((decide (g<2*(n%g)) || (g==2*(n%g)&&n / g%2==1))).toNat=vi n g:=by
 unfold vi;by_cases h1:g<2*(n%g)
 ·rw[decide_eq_true h1,if_pos (Or.inl h1)];rfl
 ·rw[decide_eq_false h1,Bool.false_or];by_cases h2:2*(n%g)=g
  ·by_cases h3:n / g%2=1
   ·rw[if_pos (Or.inr ⟨h2,h3⟩),h2,h3];simp
   ·rw[if_neg (fun h=>h.elim h1 (fun h=>h3 h.2))];have:(n / g%2==1)=false:=zβJ;rw[this,Bool.and_false];rfl
  ·rw[if_neg (fun h=>h.elim h1 (fun h=>h2 h.1))];have:(g==2*(n%g))=false:=by rw[beq_eq_false_iff_ne];exact fun h=>h2 h.symm
   rw[this,Bool.false_and];rfl
theorem qr {n g:Nat} (h:2*n<g):vi n g=0:=by
 have h1:n / g=0:=Nat.div_eq_of_lt zd;have h2:n%g=n:=Nat.mod_eq_of_lt zd;unfold vi;rw[h1,h2,if_neg zd]
theorem zuw (neg:Bool) (n drop:Nat):Ieee.Toward.even.cut neg n drop=vi n (2^drop):=by
 have e:Ieee.Toward.even.cut neg n drop=vi n (1<<<min drop (n.log2+2)):=zux n _;rw[e,Nat.one_shiftLeft];by_cases h:drop<=n.log2+2
 ·rw[Nat.min_eq_left h]
 ·rw[Nat.min_eq_right zd];have h1:n<2^(n.log2+1):=Nat.lt_log2_self;have h2:2^(n.log2+2)=2*2^(n.log2+1):=by rw[Nat.pow_succ 2 (n.log2+1)];omega
  have h3:2^(n.log2+2)<=2^drop:=Nat.pow_le_pow_right zd zd;rw[qr zd,qr zd]
theorem zb9 (mag:Nat) (place:Int) (h:mag≠0):uo (mag*2^place.toNat) (2^(-place).toNat)=place+mag.log2:=by
 have h1:2^mag.log2<=mag:=Nat.log2_self_le h;have h2:mag<2^(mag.log2+1):=Nat.lt_log2_self;have key:∀ j:Nat,le2 (mag*2^place.toNat) (2^(-place).toNat) (place+j)↔2^j<=mag:=by
  intro j;rw[ws (k:=place+j) (j:=-place) (n:=j) zd];rw[Int.neg_neg,Nat.mul_assoc mag,Nat.mul_comm (2^(-place).toNat)];exact⟨fun h=>Nat.le_of_mul_le_mul_right h (Nat.mul_pos (p2 _) (p2 _)),fun h=>Nat.mul_le_mul_right _ h⟩
 refine zfa (Nat.mul_ne_zero h (by have:=p2 place.toNat;omega)) (by have:=p2 (-place).toNat;omega) ((key _).2 h1) ?_;rw[Int.add_assoc,show ((mag.log2:Int)+1)=((mag.log2+1:Nat):Int) by omega,key];omega
theorem znc (mag:Nat) (place E:Int):rB (mag*2^place.toNat) (2^(-place).toNat) E=vi (mag*2^(place-E).toNat) (2^(E-place).toNat):=by
 unfold rB;refine yj7 (Nat.mul_pos (p2 _) (p2 _)) (p2 _) ?_;rw[Nat.mul_assoc,Nat.mul_assoc,Nat.mul_assoc,<-Nat.pow_add,<-Nat.pow_add,<-Nat.pow_add,<-Nat.pow_add];congr 2;omega
theorem zg4 (fmt:Ieee.Format) (f bias:Int) (inf:Nat) (hf:f=(fmt.fractionBits:Int)) (hl:fmt.leastPlace=1-bias-f) (hi:fmt.infRung=inf) (hinf:inf=(2*bias+1).toNat*2^f.toNat) (hb:1<=bias) (neg:Bool) (mag:Nat) (place:Int):
  fmt.nearest neg mag place=fmt.word neg (xh f bias inf (mag*2^place.toNat) (2^(-place).toNat)):=by
 unfold Ieee.Format.nearest;by_cases h0:mag=0
 ·subst h0;rw[if_pos rfl];congr 1;unfold xh yt;rw[Nat.zero_mul,if_pos rfl,if_pos zd,Int.sub_self];unfold rB;rw[Nat.zero_mul,qr (by have:=Nat.mul_pos (p2 (-place).toNat) (p2 (1-bias-f).toNat);omega)];simp
 ·rw[if_neg h0];have ho:=zb9 mag place h0;have ha:mag*2^place.toNat≠0:=Nat.mul_ne_zero h0 (by have:=p2 place.toNat;omega);have hE:yt f bias (mag*2^place.toNat) (2^(-place).toNat)=max (1-bias-f) (place+mag.log2-f):=by
   unfold yt;rw[if_neg ha,ho]
  have hfn:f.toNat=fmt.fractionBits:=zd;have hR:=zld (mag*2^place.toNat) (2^(-place).toNat) f bias (by have:=p2 (-place).toNat;omega) zd;obtain⟨E,hEE⟩:=zX (max (1-bias-f) (place+(mag.log2:Int)-f));rw[hEE]at hE;rw[hE,znc]at hR;have hlast:max (place+(mag.log2:Int)-fmt.fractionBits) fmt.leastPlace=E:=by rw[<-hEE,hl,hf];omega
  unfold xh;rw[hE,znc];show fmt.word neg (min ((max (place+(mag.log2:Int)-fmt.fractionBits) fmt.leastPlace-fmt.leastPlace).toNat*fmt.binade+Ieee.Toward.even.cut neg (mag<<<(place-max (place+(mag.log2:Int)-fmt.fractionBits) fmt.leastPlace).toNat) (max (place+(mag.log2:Int)-fmt.fractionBits) fmt.leastPlace-place).toNat) fmt.infRung)=_;rw[hlast,zuw,Nat.shiftLeft_eq,hl,hi,hfn];rw[hfn]at hR hinf;have hbin:fmt.binade=2^fmt.fractionBits:=rfl;rw[hbin];have hge:1-bias-f<E->2^fmt.fractionBits<=vi (mag*2^(place-E).toNat) (2^(E-place).toNat):=by
   intro h;refine zia (p2 _) ?_;have h1:2^mag.log2<=mag:=Nat.log2_self_le h0;refine Nat.le_trans ?_ (Nat.mul_le_mul_right _ h1);rw[<-Nat.pow_add,<-Nat.pow_add];exact Nat.pow_le_pow_right zd zd
  generalize vi (mag*2^(place-E).toNat) (2^(E-place).toNat)=R at *
  rw[Nat.pow_succ]at hR;have hP:=p2 fmt.fractionBits;generalize 2^fmt.fractionBits=P at *
  by_cases h:E<=bias-f
  ·rw[if_pos h];congr 1;refine Nat.min_eq_left ?_;rw[hinf];obtain⟨k,hk⟩:=zX ((E-(1-bias-f)).toNat);obtain⟨q,hq⟩:=zX ((2*bias+1).toNat);rw[hk,hq];have h1:k+2<=q:=zd;have h2:=Nat.mul_le_mul_right P h1;rw[Nat.add_mul]at h2;omega
  ·rw[if_neg h];congr 1;refine Nat.min_eq_right ?_;rw[hinf];have h3:=hge zd;obtain⟨k,hk⟩:=zX ((E-(1-bias-f)).toNat);obtain⟨q,hq⟩:=zX ((2*bias+1).toNat);rw[hk,hq];have h1:q<=k+1:=zd;have h2:=Nat.mul_le_mul_right P h1;rw[Nat.add_mul]at h2;omega
theorem zyw (neg:Bool) (mag:Nat) (place:Int):Ieee.single.nearest neg mag place=Ieee.single.word neg (xh 23 127 2139095040 (mag*2^place.toNat) (2^(-place).toNat)):=
 zg4 Ieee.single 23 127 _ rfl ze ze ze ze neg mag place
section
theorem yn2 (A B d:Nat) (hB:0<B):zcj (4*A) B<=4*d↔A<=d*B:=by
 have h0:=Nat.div_add_mod (4*A) B;have hr:4*A%B<B:=Nat.mod_lt _ hB;rw[zew];generalize 4*A / B=k at *
 generalize 4*A%B=r at *
 rw[Nat.mul_comm]at h0;have hm:∀ x y:Nat,x<=y->x*B<=y*B:=fun x y h=>Nat.mul_le_mul_right B h
 have e4:4*d*B=4*(d*B):=by rw[Nat.mul_assoc]
 by_cases hr0:r=0
 ·rw[if_pos hr0];constructor
  ·intro h;have:=hm k (4*d) h;omega
  ·intro h;rcases Nat.lt_or_ge (4*d) k with h1 | h1
   ·have:=hm (4*d+1) k h1;rw[Nat.add_mul]at this;omega
   ·exact h1
 ·rw[if_neg hr0];constructor
  ·intro h;have:=hm (k+1) (4*d) zd;rw[Nat.add_mul]at this;omega
  ·intro h;rcases Nat.lt_or_ge k (4*d) with h1 | h1
   ·omega
   ·have:=hm (4*d) k h1;omega
theorem zta (A B d:Nat) (hB:0<B):zcj (4*A) B<4*d↔A<d*B:=by
 have h0:=Nat.div_add_mod (4*A) B;have hr:4*A%B<B:=Nat.mod_lt _ hB;rw[zew];generalize 4*A / B=k at *
 generalize 4*A%B=r at *
 rw[Nat.mul_comm]at h0;have hm:∀ x y:Nat,x<=y->x*B<=y*B:=fun x y h=>Nat.mul_le_mul_right B h
 have e4:4*d*B=4*(d*B):=by rw[Nat.mul_assoc]
 by_cases hr0:r=0
 ·rw[if_pos hr0];constructor
  ·intro h;have:=hm (k+1) (4*d) h;rw[Nat.add_mul]at this;omega
  ·intro h;rcases Nat.lt_or_ge k (4*d) with h1 | h1
   ·exact h1
   ·have:=hm (4*d) k h1;omega
 ·rw[if_neg hr0];constructor
  ·intro h;have:=hm (k+1) (4*d) zd;rw[Nat.add_mul]at this;omega
  ·intro h;rcases Nat.lt_or_ge k (4*d) with h1 | h1
   ·omega
   ·have:=hm (4*d) k h1;omega
theorem yqd (u d:Nat) (hu:u<18446744073709551600):yll u<=d↔u<=4*d:=by
 unfold yll;rw[Nat.mod_eq_of_lt zd];omega
theorem yrd (u d:Nat) (hu:u<18446744073709551600):yll (yj6 u 1)<=d↔u<4*d:=by
 have:yj6 u 1=u+1:=by unfold yj6;omega
 have h2:u+1<18446744073709551600\/u+1=18446744073709551600:=zd;rw[this];unfold yll;rw[Nat.mod_eq_of_lt zd];omega
theorem ymt (u:Nat) (hu:u<18446744073709551600):yj6 u 0=u:=by unfold yj6;omega
theorem ymx (u d:Nat):d<=ykw u↔4*d<=u:=by unfold ykw;omega
theorem yp2 (u d:Nat) (h0:0<u) (hu:u<18446744073709551600):d<=ykw (yj6 u (-1))↔4*d<u:=by
 have:yj6 u (-1)=u-1:=by unfold yj6;omega
 rw[this,ymx];omega
structure Iv (G H s c dmin dmax:Nat):Prop where
 g0:0<G
 h0:0<H
 s0:0<s
 cc:c=1/\s%2=0/\4*H<=3*G/\3*G<40*H\/c=2/\H<=G/\G<10*H
 lo:∀ d,dmin<=d↔if s%2=1 then 4*(s*G)<4*(d*H)+c*G else 4*(s*G)<=4*(d*H)+c*G
 up:∀ d,d<=dmax↔if s%2=1 then 4*(d*H)<4*(s*G)+2*G else 4*(d*H)<=4*(s*G)+2*G
theorem Iv.mem {G H s c dmin dmax:Nat} (h:Iv G H s c dmin dmax) (d:Nat):(dmin<=d/\d<=dmax)↔inI (d*H) G s (decide (c=1)):=by
 rw[h.lo,h.up];unfold inI;rcases h.cc with⟨rfl,h1,-⟩ | ⟨rfl,-⟩
 ·have h9:¬s%2=1:=zd;simp only[decide_true,if_true,if_neg h9];constructor
  ·intro hh;exact⟨zd,zd,fun ho=>absurd ho h9⟩
  ·intro hh;have:=hh.1;have:=hh.2.1;omega
 ·simp only[show decide ((2:Nat)=1)=false from rfl,Bool.false_eq_true,if_false];by_cases ho:s%2=1
  ·rw[if_pos ho,if_pos ho];constructor
   ·intro hh;exact⟨zd,zd,fun _=>zd⟩
   ·intro hh;have:=hh.2.2 ho;omega
  ·rw[if_neg ho,if_neg ho];constructor
   ·intro hh;exact⟨zd,zd,fun h=>absurd h ho⟩
   ·intro hh;have:=hh.1;have:=hh.2.1;omega
section
variable {G H s c dmin dmax : Nat}
theorem Iv.ge (h:Iv G H s c dmin dmax) (d:Nat) (hd:d<=dmax):4*(d*H)<=4*(s*G)+2*G:=by
 have:=(h.up d).1 hd;split at this <;> omega
theorem Iv.nle (h:Iv G H s c dmin dmax) (d:Nat) (hd:¬dmin<=d):4*(d*H)+c*G<=4*(s*G):=by
 have:¬_:=fun hh=>hd ((h.lo d).2 hh)
 split at this <;> omega
theorem Iv.nge (h:Iv G H s c dmin dmax) (d:Nat) (hd:¬d<=dmax):4*(s*G)+2*G<=4*(d*H):=by
 have:¬_:=fun hh=>hd ((h.up d).2 hh)
 split at this <;> omega
theorem Iv.cG (h:Iv G H s c dmin dmax):G<=c*G/\c*G<=2*G:=by
 rcases h.cc with⟨rfl,-⟩ | ⟨rfl,-⟩ <;> omega
theorem Iv.pos (h:Iv G H s c dmin dmax):1<=dmin:=by
 rcases Nat.eq_zero_or_pos dmin with h0 | h0
 ·exfalso;have h1:=(h.lo 0).1 zd;have h2:1*G<=s*G:=Nat.mul_le_mul_right _ h.s0;have h3:=h.cG;have h4:=h.g0;rw[Nat.zero_mul]at h1;split at h1 <;> omega
 ·exact h0
theorem Iv.below (h:Iv G H s c dmin dmax) (d:Nat) (hd:d*H<=s*G):d<=dmax:=by
 rw[h.up];have:=h.g0;split <;> omega
theorem Iv.above (h:Iv G H s c dmin dmax) (d:Nat) (hd:s*G<=d*H):dmin<=d:=by
 rw[h.lo];have:=h.g0;have:=h.cG;split <;> omega
theorem Iv.some (h:Iv G H s c dmin dmax):(dmin<=s*G / H/\s*G / H<=dmax)\/(dmin=s*G / H+1/\s*G / H+1<=dmax/\s*G%H≠0):=by
 have e:=Nat.div_add_mod (s*G) H;have hr:s*G%H<H:=Nat.mod_lt _ h.h0;rw[Nat.mul_comm]at e;obtain⟨q,hq⟩:=zX (s*G / H);obtain⟨r,hr'⟩:=zX (s*G%H);rw[hq,hr']at e;rw[hr']at hr;rw[hq,hr'];have h1:=h.below q zd;by_cases h2:dmin<=q
 ·exact Or.inl ⟨h2,h1⟩
 ·right;have h3:dmin<=q+1:=h.above (q+1) (by rw[Nat.add_mul];omega);have h4:=h.nle q h2;have hg:=h.g0;refine⟨zd,?_,fun hr0=>?_⟩
  ·rw[h.up,Nat.add_mul,Nat.one_mul];have hcG:=h.cG;rcases h.cc with⟨rfl,h5,h6,h7⟩ | ⟨rfl,h6,h7⟩
   ·rw[if_neg zd];omega
   ·rcases Nat.lt_or_ge H G with h8 | h8
    ·split <;> omega
    ·exfalso;have h9:G=H:=zd;rw[h9,Nat.mul_div_cancel _ h.h0]at hq;rw[<-hq,h9]at h4;have:=h.h0;omega
  ·rw[hr0]at e;have:=h.cG;omega
theorem Iv.near (h:Iv G H s c dmin dmax) (h2:dmin<dmax):dmin<=vi (s*G) H/\vi (s*G) H<=dmax:=by
 obtain⟨k1,k2,-⟩:=kt (s*G) H h.h0;have hrr:=Nat.le_refl (vi (s*G) H);have hGH:G=H->vi (s*G) H=s:=fun e=>by rw[e];exact zad s H h.h0
 generalize vi (s*G) H=r at *
 have hg:=h.g0;have hh:=h.h0;constructor
 ·rcases Nat.lt_or_ge r dmin with h3 | h3
  ·exfalso;have h4:=h.nle r zd;have h5:=h.ge (r+2) zd;rw[Nat.add_mul]at h5;rcases h.cc with⟨rfl,-⟩ | ⟨rfl,-⟩ <;> omega
  ·exact h3
 ·rcases Nat.lt_or_ge dmax r with h3 | h3
  ·exfalso;have h4:=h.nge r zd;have h5:G<=H:=zd;rcases h.cc with⟨rfl,h6,h7,h8⟩ | ⟨rfl,h6,h7⟩
   ·omega
   ·have h9:G=H:=zd;have:=hGH h9;subst this;rw[h9]at h4;omega
  ·exact h3
end
end
theorem zmf (A B:Nat) (hB:0<B):zcj A B / 2|||zcj A B%2=zcj A (B*2):=by
 have e1:A / (B*2)=A / B / 2:=by rw[Nat.div_div_eq_div_mul]
 have e2:A%(B*2)=B*(A / B%2)+A%B:=by rw[Nat.mod_mul];omega
 have hu:∀ u:Nat,u / 2|||u%2=if u%2=0 then u / 2 else u / 2 / 2*2+1:=by
  intro u;rcases Nat.mod_two_eq_zero_or_one u with h1 | h1
  ·rw[h1,Nat.or_zero,if_pos rfl]
  ·rw[h1,zg2,if_neg zd]
 rw[hu,zew,zew,e1,e2];by_cases h:A%B=0
 ·rw[if_pos h,h,Nat.add_zero];by_cases h1:A / B%2=0
  ·rw[if_pos h1,h1,Nat.mul_zero,if_pos rfl]
  ·rw[if_neg h1,if_neg];intro h2;rcases Nat.mul_eq_zero.1 h2 with h3 | h3
   ·omega
   ·exact h1 h3
 ·rw[if_neg h,if_neg (show ¬((A / B / 2*2+1)%2=0) by omega),if_neg (show ¬(B*(A / B%2)+A%B=0) by omega)];omega
theorem zt5 (u:Nat):u|||u%2=u:=by
 rcases Nat.mod_two_eq_zero_or_one u with h1 | h1
 ·rw[h1,Nat.or_zero]
 ·rw[h1,zg2];omega
theorem zgv {a b n:Nat} {k:Int} (hb:b≠0) (h:le2 a b (k+n)):2^n<=rB a b k:=
 zia (Nat.mul_pos zd (p2 _)) ((zke a b k n).1 h)
theorem zsi {a b n:Nat} {k:Int} (hb:b≠0) (h:¬le2 a b (k+n)):rB a b k<=2^n:=by
 rw[zke,Nat.not_le]at h;exact zcw (Nat.mul_pos zd (p2 _)) (Nat.le_of_lt h)
def prG (F:Nat) (a b:Nat) (e:Int):Nat×Int:=if 2^(F+1)<=rB a b (-e) then (rB a b (1-e),e-1) else (rB a b (-e),e)
def pkG (F:Nat) (bias:Int) (inf:Nat) (x:Nat×Int):Nat:=if x.1<2^F then x.1 else if bias+1-F<=-x.2 then inf else x.1-2^F+(bias+F-x.2).toNat*2^F
theorem qm (F:Nat) (bias:Int) (inf a b:Nat) (E:Int) (h:yt F bias a b=E):xh F bias inf a b=if E<=bias-F then (E-(1-bias-F)).toNat*2^F+rB a b E else inf:=by
 unfold xh;rw[h,Int.toNat_natCast]
theorem zq2 (F:Nat) (bias:Int) (inf a b:Nat) (K e:Int) (ha:a≠0) (hb:b≠0) (hF:1<=F) (hbias:1<=bias) (hinf:inf=(2*bias+1).toNat*2^F)
  (h1:le2 a b (K-1)) (h2:¬le2 a b (K+1)) (h3:rB a b (K-F)<2^(F+1)) (he:e=min (bias+F-1) (F+1-K)):
  pkG F bias inf (prG F a b e)=xh F bias inf a b/\(prG F a b e).1<2^(F+1):=by
 obtain⟨o1,o2⟩:=wg a b ha hb;have hE:yt F bias a b=max (1-bias-F) (uo a b-F):=by unfold yt;rw[if_neg ha]
 generalize uo a b=o at *
 have hP:0<2^F:=p2 F;have hP1:2^(F+1)=2*2^F:=zE;have hoK:K-1<=o/\o<=K:=by
  constructor
  ·rcases Int.lt_or_le o (K-1) with h | h
   ·exact absurd (wh zd h1) o2
   ·exact h
  ·rcases Int.lt_or_le K o with h | h
   ·exact absurd (wh zd o1) h2
   ·exact h
 unfold prG;by_cases c:2^(F+1)<=rB a b (-e)
 ·rw[if_pos c];by_cases d:le2 a b (-e+((F+1:Nat):Int))
  ·have ho:o≥F+1-e:=by
    rcases Int.lt_or_le o (F+1-e) with h | h
    ·exact absurd (wh zd d) o2
    ·exact h
   have hr:rB a b (1-e)<2^(F+1):=by rw[show 1-e=K-F by omega];exact h3
   have hr2:2^F<=rB a b (1-e):=zgv hb (by rw[show 1-e+(F:Int)=o by omega];exact o1);refine⟨?_,hr⟩;rw[qm F bias inf a b (1-e) zd];unfold pkG;dsimp only;rw[if_neg zd];by_cases hi:bias+1-F<=-(e-1)
   ·rw[if_pos hi,if_neg zd]
   ·rw[if_neg hi,if_pos zd,show (bias+F-(e-1)).toNat=(1-e-(1-bias-F)).toNat+1 by omega,Nat.succ_mul];omega
  ·have heq:rB a b (-e)<=2^(F+1):=zsi hb d;have hX:rB a b (-e)=vi (a*2^(-(-e)).toNat) (b*2^(-e).toNat):=rfl;have hYp:0<b*2^(-e).toNat:=Nat.mul_pos zd (p2 _);have ho:o=F-e:=by
    refine zeg o1 o2 ?_ (by rw[show (F:Int)-e+1=-e+((F+1:Nat):Int) by omega];exact d);rw[show (F:Int)-e=-e+(F:Nat) by omega,zke];have:=(kt (a*2^(-(-e)).toNat) (b*2^(-e).toNat) hYp).1;rw[<-hX]at this;have h5:=Nat.mul_le_mul_right (b*2^(-e).toNat) c;rw[hP1,Nat.mul_assoc]at h5;have h6:=Nat.mul_le_mul_right (b*2^(-e).toNat) (show 1<=2^F from hP);omega
   have hR:rB a b (1-e)=2^F:=by
    refine Nat.le_antisymm (zsi hb (by rw[show 1-e+(F:Int)=-e+((F+1:Nat):Int) by omega];exact d)) ?_;have hp:=ztx a b hb (1-e);rw[show 1-e-1=-e by omega]at hp;rw[hp]at c;have hs:rB a b (1-e)=vi (a*2^(-(1-e)).toNat) (b*2^(1-e).toNat):=rfl;have hZ:0<b*2^(1-e).toNat:=Nat.mul_pos zd (p2 _);have k1:=(kt (2*(a*2^(-(1-e)).toNat)) (b*2^(1-e).toNat) hZ).1;have k2:=(kt (a*2^(-(1-e)).toNat) (b*2^(1-e).toNat) hZ).2.1;rw[<-hs]at k2;have k3:=Nat.mul_le_mul_right (b*2^(1-e).toNat) c;rcases Nat.lt_or_ge (rB a b (1-e)) (2^F) with hlt | hge
    ·exfalso;have k4:=Nat.mul_le_mul_right (b*2^(1-e).toNat) (show rB a b (1-e)+1<=2^F from hlt);rw[hP1,Nat.mul_assoc]at k3;rw[Nat.add_mul,Nat.one_mul]at k4;omega
    ·exact hge
   refine⟨?_,by dsimp only;rw[hR];omega⟩;rw[qm F bias inf a b (-e) zd];unfold pkG;dsimp only;rw[hR,if_neg zd];have hre:rB a b (-e)=2*2^F:=zd;by_cases hi:bias+1-F<=-(e-1)
   ·rw[if_pos hi];by_cases hj:-e<=bias-F
    ·rw[if_pos hj,hinf,hre,<-Nat.add_mul];congr 1;omega
    ·rw[if_neg hj]
   ·rw[if_neg hi,if_pos zd,hre,<-Nat.add_mul,show 2^F-2^F=0 by omega,Nat.zero_add];congr 1;omega
 ·rw[if_neg c];refine⟨?_,zw⟩;have d:¬le2 a b (-e+((F+1:Nat):Int)):=fun h=>c (zgv hb h)
  have ho:o<=F-e:=by
   rcases Int.lt_or_le (F-e) o with h | h
   ·exact absurd (wh zd o1) d
   ·exact h
  by_cases hm:e=bias+F-1
  ·rw[qm F bias inf a b (-e) zd,if_pos zd,show (-e-(1-bias-F)).toNat=0 by omega,Nat.zero_mul,Nat.zero_add];unfold pkG;dsimp only;by_cases hl:rB a b (-e)<2^F
   ·rw[if_pos hl]
   ·rw[if_neg hl,if_neg zd,show (bias+F-e).toNat=1 by omega];omega
  ·have hoo:o=F-e:=zd;have hr2:2^F<=rB a b (-e):=zgv hb (by rw[show -e+(F:Int)=o by omega];exact o1);rw[qm F bias inf a b (-e) zd];unfold pkG;dsimp only;rw[if_neg zd];by_cases hi:bias+1-F<=-e
   ·rw[if_pos hi,if_neg zd]
   ·rw[if_neg hi,if_pos zd,show (bias+F-e).toNat=(-e-(1-bias-F)).toNat+1 by omega,Nat.succ_mul];omega
theorem kv (F:Nat) (bias:Int) (inf a b:Nat) (hb:b≠0) (hbias:1<=bias) (hF:1<=F) (h:a≠0->¬le2 a b (-(bias+F))):xh F bias inf a b=0:=by
 have hE:yt F bias a b=1-bias-F:=by
  unfold yt;by_cases ha:a=0
  ·rw[if_pos ha]
  ·rw[if_neg ha];have o1:=(wg a b ha hb).1;have:uo a b < -(bias+F):=by
    rcases Int.lt_or_le (uo a b) (-(bias+F)) with h' | h'
    ·exact h'
    ·exact absurd (wh h' o1) (h ha)
   omega
 rw[qm F bias inf a b _ hE,if_pos zd,Int.sub_self];show 0*2^F+_=0;rw[Nat.zero_mul,Nat.zero_add];unfold rB;refine qr ?_;by_cases ha:a=0
 ·rw[ha,Nat.zero_mul];exact Nat.mul_pos zd (p2 _)
 ·have h':=h ha;rw[ws (j:=bias+F) (n:=0) zd,Nat.pow_zero,Nat.one_mul,Nat.not_le,show (-(bias+F)).toNat=0 by omega,Nat.pow_zero,Nat.mul_one]at h';rw[show (1-bias-F).toNat=0 by omega,Nat.pow_zero,Nat.mul_one];have e:a*2^(bias+F).toNat=2*(a*2^(-(1-bias-F)).toNat):=by
   rw[show (bias+F).toNat=(-(1-bias-F)).toNat+1 by omega,Nat.pow_succ,<-Nat.mul_assoc,Nat.mul_comm _ 2]
  omega
theorem ue (f bias:Int) (inf:Nat) {a b c d:Nat} (hb:b≠0) (hd:d≠0) (h:a*d=c*b):xh f bias inf a b=xh f bias inf c d:=by
 have hz:a=0↔c=0:=by
  constructor
  ·intro h0;rw[h0,Nat.zero_mul]at h;rcases Nat.mul_eq_zero.1 h.symm with h1 | h1
   ·exact h1
   ·exact absurd h1 hb
  ·intro h0;rw[h0,Nat.zero_mul]at h;rcases Nat.mul_eq_zero.1 h with h1 | h1
   ·exact h1
   ·exact absurd h1 hd
 have hE:yt f bias a b=yt f bias c d:=by
  unfold yt;by_cases ha:a=0
  ·rw[if_pos ha,if_pos (hz.1 ha)]
  ·rw[if_neg ha,if_neg (fun hc=>ha (hz.2 hc))];obtain⟨o1,o2⟩:=wg a b ha hb;rw[zfa (fun hc=>ha (hz.2 hc)) hd ((zan zd zd h _).1 o1) (fun hh=>o2 ((zan zd zd h _).2 hh))]
 have hR:∀ E,rB a b E=rB c d E:=by
  intro E;unfold rB;refine yj7 (Nat.mul_pos zd (p2 _)) (Nat.mul_pos zd (p2 _)) ?_;calc a*2^(-E).toNat*(d*2^E.toNat)=a*d*(2^(-E).toNat*2^E.toNat):=by ac_rfl
   _=c*b*(2^(-E).toNat*2^E.toNat):=by rw[h]
   _=c*2^(-E).toNat*(b*2^E.toNat):=by ac_rfl
 unfold xh;rw[hE,hR]
theorem zcv {A C B:Nat} (hB:0<B) (h:A<=C):vi A B<=vi C B:=by
 have a1:=(kt A B hB);have c1:=(kt C B hB);generalize vi A B=s at *
 generalize vi C B=t at *
 rcases Nat.lt_or_ge t s with h1 | h1
 ·exfalso;have h2:=Nat.mul_le_mul_right B (show t+1<=s from h1);rw[Nat.add_mul,Nat.one_mul]at h2;obtain⟨x1,x2,x3⟩:=a1;obtain⟨y1,y2,y3⟩:=c1;have hst:s=t+1:=by
   rcases Nat.lt_or_ge (t+1) s with h3 | h3
   ·exfalso;have h4:=Nat.mul_le_mul_right B (show t+2<=s from h3);rw[Nat.add_mul]at h4;omega
   ·omega
  rcases Nat.mod_two_eq_zero_or_one s with m | m
  ·have:=y3 zd;omega
  ·have:=x3 m;omega
 ·exact h1
theorem zg5 (F:Nat) (bias:Int) (inf:Nat) {a b c d:Nat} (hb:b≠0) (hd:d≠0) (hbias:1<=bias) (hinf:inf=(2*bias+1).toNat*2^F) (h:a*d<=c*b):xh F bias inf a b<=xh F bias inf c d:=by
 have e1:xh F bias inf a b=xh F bias inf (a*d) (b*d):=ue _ _ _ hb (Nat.mul_ne_zero hb hd) (by ac_rfl);have e2:xh F bias inf c d=xh F bias inf (c*b) (b*d):=ue _ _ _ hd (Nat.mul_ne_zero hb hd) (by ac_rfl);rw[e1,e2];generalize a*d=x at *
 generalize c*b=y at *
 have hD:b*d≠0:=Nat.mul_ne_zero hb hd;generalize b*d=D at *
 clear e1 e2;have hle:yt F bias x D<=yt F bias y D:=by
  unfold yt;by_cases hx:x=0
  ·rw[if_pos hx];split <;> omega
  ·have hy:y≠0:=zd;rw[if_neg hx,if_neg hy];obtain⟨o1,-⟩:=wg x D hx hD;obtain⟨-,q2⟩:=wg y D hy hD;have:uo x D<=uo y D:=by
    rcases Int.lt_or_le (uo y D) (uo x D) with hh | hh
    ·exfalso;apply q2;refine wh (k:=uo x D) zd ?_;unfold le2 at *
     exact Nat.le_trans o1 (Nat.mul_le_mul_right _ h)
    ·exact hh
   omega
 have hxl:1-bias-F<=yt F bias x D:=zβk;have hb1:=zld x D F bias hD zd;rw[Int.toNat_natCast]at hb1;have hP:2^(F+1)=2*2^F:=zE;rw[qm F bias inf x D _ rfl,qm F bias inf y D _ rfl];rcases Int.lt_or_eq_of_le hle with hlt | heq
 ·have hy:y≠0:=by
   intro h0;have:yt F bias y D=1-bias-F:=by unfold yt;rw[if_pos h0]
   omega
  have hoy:yt F bias y D=uo y D-F:=by
   have:yt F bias y D=max (1-bias-F) (uo y D-F):=by unfold yt;rw[if_neg hy]
   omega
  have hr2:2^F<=rB y D (yt F bias y D):=zgv hD (by rw[hoy,show uo y D-(F:Int)+(F:Nat)=uo y D by omega];exact (wg y D hy hD).1);generalize rB y D (yt F bias y D)=ry at *
  generalize rB x D (yt F bias x D)=rx at *
  generalize yt F bias y D=ey at *
  generalize yt F bias x D=ex at *
  have hmul:∀ n m:Nat,n+1<=m->n*2^F+2^F<=m*2^F:=by
   intro n m hnm;have:=Nat.mul_le_mul_right (2^F) hnm;rw[Nat.add_mul,Nat.one_mul]at this;exact this
  by_cases hi:ey<=bias-F
  ·rw[if_pos hi,if_pos zd];have:=hmul (ex-(1-bias-F)).toNat (ey-(1-bias-F)).toNat zd;omega
  ·rw[if_neg hi];by_cases hj:ex<=bias-F
   ·rw[if_pos hj,hinf];have:=hmul (ex-(1-bias-F)).toNat (2*bias).toNat zd;have h4:=hmul (2*bias).toNat (2*bias+1).toNat zd;omega
   ·rw[if_neg hj];exact Nat.le_refl _
 ·rw[heq];have hr:rB x D (yt F bias y D)<=rB y D (yt F bias y D):=zcv (Nat.mul_pos zd (p2 _)) (Nat.mul_le_mul_right _ h);split
  ·omega
  ·exact Nat.le_refl _
theorem ud (F:Nat) (bias:Int) (inf a b:Nat) (hb:b≠0) (hbias:1<=bias) (hinf:inf=(2*bias+1).toNat*2^F):xh F bias inf a b<=inf:=by
 have hb1:=zld a b F bias hb zd;rw[Int.toNat_natCast,Nat.pow_succ]at hb1;have hxl:1-bias-F<=yt F bias a b:=zβk;rw[qm F bias inf a b _ rfl];generalize rB a b (yt F bias a b)=rx at *
 generalize yt F bias a b=ex at *
 by_cases hj:ex<=bias-F
 ·rw[if_pos hj,hinf];have h1:(ex-(1-bias-F)).toNat+2<=(2*bias+1).toNat:=zd;have h2:=Nat.mul_le_mul_right (2^F) h1;rw[Nat.add_mul]at h2;omega
 ·rw[if_neg hj];exact Nat.le_refl _
theorem zug (α β a b m n:Nat) (k k':Int) (h:k'=k+m-n):α*2^m*(a*2^k.toNat)<=β*2^n*(b*2^(-k).toNat)↔α*(a*2^k'.toNat)<=β*(b*2^(-k').toNat):=by
 refine uf (p2 k'.toNat) (p2 (m+k.toNat)) ?_ ?_
 ·rw[Nat.pow_add];ac_rfl
 ·have e:2^n*2^(-k).toNat*2^k'.toNat=2^(-k').toNat*2^(m+k.toNat):=by
   rw[<-Nat.pow_add,<-Nat.pow_add,<-Nat.pow_add];congr 1;omega
  calc β*2^n*(b*2^(-k).toNat)*2^k'.toNat=β*b*(2^n*2^(-k).toNat*2^k'.toNat):=by ac_rfl
   _=β*b*(2^(-k').toNat*2^(m+k.toNat)):=by rw[e]
   _=β*(b*2^(-k').toNat)*2^(m+k.toNat):=by ac_rfl
def lpT (p:Int):Int:=p*108853 / 32768
def zth (p:Int):Bool:=decide (10^(-p).toNat*2^(lpT p).toNat<=10^p.toNat*2^(-lpT p).toNat)&&decide (16777216*(10^p.toNat*2^(-(lpT p+1)).toNat)<=16777215*(10^(-p).toNat*2^(lpT p+1).toNat))
theorem zqd:(List.range 696).all (fun i=>zth ((i:Int)-348))=true:=by decide +kernel
theorem zvn (p:Int) (h1:-348<=p) (h2:p<=347):zth p=true:=by
 have h:=List.all_eq_true.1 zqd (p+348).toNat (List.mem_range.2 zd);rw[show (((p+348).toNat:Nat):Int)-348=p by omega]at h;exact h
theorem zcq (d L:Nat) (p:Int) (hp1:-348≤p) (hp2:p≤347) (hL:1≤L) (hd1:2^(L-1)≤d) (hd2:d<2^L):
  le2 (d*10^p.toNat) (10^(-p).toNat) ((L:Int)+lpT p-1)∧¬le2 (d*10^p.toNat) (10^(-p).toNat) ((L:Int)+lpT p+1)∧
  ∀ F:Nat,23≤F→rB (d*10^p.toNat) (10^(-p).toNat) ((L:Int)+lpT p-F)<2^(F+1):=by
 have h:=zvn p hp1 hp2
 unfold zth at h
 simp only[Bool.and_eq_true,decide_eq_true_eq]at h
 obtain⟨t1,t2⟩:=h
 have hT:0<10^(-p).toNat:=p10 _
 generalize lpT p=lp at *
 have t3:16777216*(d*10^p.toNat*2^(-(lp+1)).toNat)≤16777215*2^L*(10^(-p).toNat*2^(-(-(lp+1))).toNat):=by
  rw[Int.neg_neg]
  have a1:=Nat.mul_le_mul (Nat.le_of_lt hd2) t2
  calc 16777216*(d*10^p.toNat*2^(-(lp+1)).toNat)=d*(16777216*(10^p.toNat*2^(-(lp+1)).toNat)):=by ac_rfl
   _≤2^L*(16777215*(10^(-p).toNat*2^(lp+1).toNat)):=a1
   _=_:=by ac_rfl
 refine⟨?_,?_,?_⟩
 ·rw[ws (j:=-lp) (n:=L-1) zd,Int.neg_neg]
  have:=Nat.mul_le_mul hd1 t1
  calc _≤_:=this
   _=_:=by ac_rfl
 ·rw[ws (j:=-(lp+1)) (n:=L) zd,Nat.not_le]
  have hpos:0<2^L*(10^(-p).toNat*2^(-(-(lp+1))).toNat):=Nat.mul_pos (p2 _) (Nat.mul_pos hT (p2 _))
  rw[Nat.mul_assoc 16777215]at t3
  omega
 ·intro F hF
  have hlt:2^(F-23)≤2^(F+1):=Nat.pow_le_pow_right zd zd
  have hpF:=p2 (F-23)
  have e24:2^(F+1)=16777216*2^(F-23):=by rw[show F+1=24+(F-23) by omega,Nat.pow_add]
  have key:rB (d*10^p.toNat) (10^(-p).toNat) ((L:Int)+lp-F)≤16777215*2^(F-23):=by
   unfold rB
   refine zcw (Nat.mul_pos hT (p2 _)) ?_
   have m:=(zug 16777216 (2^(F+1)*16777215) (d*10^p.toNat) (10^(-p).toNat) (F+1) L (-(lp+1)) ((F:Int)-(L+lp)) zd).1 (by
    have:=Nat.mul_le_mul_left (2^(F+1)) t3
    calc _=_:=by ac_rfl
     _≤_:=this
     _=_:=by ac_rfl)
   rw[show -((F:Int)-(L+lp))=(L:Int)+lp-F by omega,show ((F:Int)-(L+lp))=-((L:Int)+lp-F) by omega,e24]at m
   have m2:16777216*(d*10^p.toNat*2^(-((L:Int)+lp-F)).toNat)≤16777216*(16777215*2^(F-23)*(10^(-p).toNat*2^((L:Int)+lp-F).toNat)):=by
    calc _≤_:=m
     _=_:=by ac_rfl
   omega
  omega
theorem zwj (t N j m k:Nat) (e:Int) (ht:1<=t) (hN:t^j<=N) (h2:2^k<=t^m) (h:(m:Int)<=j+e):le2 (N*t^e.toNat) (t^(-e).toNat) k:=by
 unfold le2;rw[show (-(k:Int)).toNat=0 by omega,Nat.pow_zero,Nat.mul_one,Int.toNat_natCast];have h1:t^(-e).toNat*2^k<=t^(-e).toNat*t^m:=Nat.mul_le_mul_left _ h2;have h3:t^j*t^e.toNat<=N*t^e.toNat:=Nat.mul_le_mul_right _ hN;rw[<-Nat.pow_add]at h1 h3;exact Nat.le_trans h1 (Nat.le_trans (Nat.pow_le_pow_right ht zd) h3)
theorem zwi (t N j m k:Nat) (e:Int) (ht:1<=t) (hN:N<t^j) (h2:2^k<=t^m) (h:j+e<=-(m:Int)):¬le2 (N*t^e.toNat) (t^(-e).toNat) (-(k:Int)):=by
 unfold le2;rw[show (-(k:Int)).toNat=0 by omega,Nat.pow_zero,Nat.mul_one,Int.neg_neg,Int.toNat_natCast,Nat.not_le];have hp:0<t^e.toNat*2^k:=Nat.mul_pos (Nat.pow_pos ht) (p2 k);have h1:N*(t^e.toNat*2^k)<t^j*(t^e.toNat*2^k):=Nat.mul_lt_mul_of_pos_right hN hp;have h3:t^j*(t^e.toNat*2^k)<=t^j*(t^e.toNat*t^m):=Nat.mul_le_mul_left _ (Nat.mul_le_mul_left _ h2);rw[<-Nat.pow_add,<-Nat.pow_add]at h3;rw[Nat.mul_assoc];exact Nat.lt_of_lt_of_le h1 (Nat.le_trans h3 (Nat.pow_le_pow_right ht zd))
theorem zq4 (F:Nat) (bias:Int) (inf a b:Nat) (hb:b≠0) (h:le2 a b (bias+1)):xh F bias inf a b=inf:=by
 have ha:a≠0:=by
  intro h0;unfold le2 at h;rw[h0,Nat.zero_mul]at h;have:0<b*2^(bias+1).toNat:=Nat.mul_pos zd (p2 _);omega
 have h1:bias+1<=uo a b:=by
  have o2:=(wg a b ha hb).2;rcases Int.lt_or_le (uo a b) (bias+1) with h' | h'
  ·exact absurd (wh (show uo a b+1<=bias+1 by omega) h) o2
  ·exact h'
 have hE:bias-F<yt F bias a b:=by
  unfold yt;rw[if_neg ha];omega
 unfold xh;rw[if_neg zd]
theorem zai (F:Nat) (bias:Int) (inf b:Nat) (hb:b≠0) (hbias:1<=bias) (hF:1<=F):xh F bias inf 0 b=0:=kv F bias inf 0 b hb hbias hF (fun h=>absurd rfl h)
def nvT (F:Nat) (bias:Int) (inf t N:Nat) (e:Int):Nat:=xh F bias inf (N*t^e.toNat) (t^(-e).toNat)
def nvL (F:Nat) (bias:Int) (inf:Nat) (L:Lit):Nat:=nvT F bias inf (zjn L.hex) L.num L.ex
theorem qg {t:Nat} (n:Nat) (ht:1<=t):t^n≠0:=by have:0<t^n:=Nat.pow_pos ht;omega
theorem zca (F:Nat) (bias:Int) (inf t:Nat) (e:Int) (ht:1<=t) (hbias:1<=bias) (hF:1<=F):nvT F bias inf t 0 e=0:=by
 unfold nvT;rw[Nat.zero_mul];exact zai F bias inf _ (qg _ ht) hbias hF
theorem znp (F:Nat) (bias:Int) (inf t N j m k:Nat) (e:Int) (ht:1<=t) (hN:t^j<=N) (h2:2^k<=t^m) (h:(m:Int)<=j+e) (hk:bias+1=k):nvT F bias inf t N e=inf:=by
 unfold nvT;refine zq4 F bias inf _ _ (qg _ ht) ?_;rw[hk];exact zwj t N j m k e ht hN h2 h
theorem zno (F:Nat) (bias:Int) (inf t N j m k:Nat) (e:Int) (ht:1<=t) (hN:N<t^j) (h2:2^k<=t^m) (h:j+e<=-(m:Int)) (hk:bias+F=k) (hbias:1<=bias) (hF:1<=F):nvT F bias inf t N e=0:=by
 unfold nvT;refine kv F bias inf _ _ (qg _ ht) hbias hF (fun _=>?_);rw[hk];exact zwi t N j m k e ht hN h2 h
def zq0 (b:Nat) (l:List Nat) (x:Int):Int:=
 if l=[] then -1
 else if b=16 then (if 1600<4*((l.length:Int)-1)+x then 1 else if 4*((l.length:Int)-1)+x < -1600 then -1 else 0)
 else (if 400<(l.length:Int)-1+x then 1 else if (l.length:Int)-1+x < -400 then -1 else 0)
def yfj (b:Nat):Nat:=if b=16 then 2 else 10
def spN (F:Nat) (bias:Int) (inf b:Nat) (l:List Nat) (x:Int):Nat:=
 if zq0 b l x=-1 then 0 else if zq0 b l x=1 then inf else nvT F bias inf (yfj b) (dgN b l) x
theorem zt3 {l:List Nat} (x:Int) (h:l≠[]):zq0 16 l x=if 1600<4*((l.length:Int)-1)+x then 1 else if 4*((l.length:Int)-1)+x < -1600 then -1 else 0:=by
 unfold zq0;rw[if_neg h,if_pos rfl]
theorem zt4 {l:List Nat} (x:Int) (h:l≠[]):zq0 10 l x=if 400<(l.length:Int)-1+x then 1 else if (l.length:Int)-1+x < -400 then -1 else 0:=by
 unfold zq0;rw[if_neg h,if_neg ze]
theorem zki:∀ (l:List Nat) (g e:Nat),(∀ d ∈ l,d<10)->(g=e/\g<=99999)\/(10000<=g/\g<=99999/\10000<=e) ->
  let g':=l.foldl (fun e d=>if e<10000 then e*10+d else e) g
  let e':=l.foldl (fun n d=>min (n*10+d) 1000000000000000) e
  (g'=e'/\g'<=99999)\/(10000<=g'/\g'<=99999/\10000<=e')
 | [],g,e,_,h=>h
 | d::l,g,e,hd,h=>by
  have h1:=hd d List.mem_cons_self
  simp only[List.foldl_cons]
  refine zki l _ _ (fun x hx=>hd x (List.mem_cons_of_mem _ hx)) ?_
  rcases h with⟨rfl,h⟩ | ⟨h2,h3,h4⟩
  ·by_cases c:g<10000
   ·rw[if_pos c];omega
   ·rw[if_neg c];omega
  ·rw[if_neg zd];omega
theorem zoo (l:List Nat) (hd:∀ d ∈ l,d<10):(goE l=ki l/\goE l<=99999)\/(10000<=goE l/\goE l<=99999/\10000<=ki l):=zki l 0 0 hd (Or.inl ⟨rfl,zd⟩)
theorem zqc:2^1024<=10^400:=by decide +kernel
theorem zqb:2^1075<=10^400:=by decide +kernel
theorem zhj (b:Nat):∀ (l:List Nat),dgN b (l.dropWhile (·==0))=dgN b l
 | []=>rfl
 | d::l=>by
  by_cases h:d=0
  ·subst h
   rw[List.dropWhile_cons_of_pos zi,zhj b l]
   unfold dgN
   simp
  ·rw[List.dropWhile_cons_of_neg zI]
theorem zep (b:Nat) (hb:1<=b):∀ (l:List Nat),l.dropWhile (·==0)≠[]->b^((l.dropWhile (·==0)).length-1)<=dgN b (l.dropWhile (·==0))
 | [],h=>absurd rfl h
 | d::l,h=>by
  by_cases h0:d=0
  ·subst h0
   rw[List.dropWhile_cons_of_pos zi]at h ⊢
   exact zep b hb l h
  ·rw[List.dropWhile_cons_of_neg (by simpa using h0)]
   have e:dgN b (d::l)=d*b^l.length+dgN b l:=by
    have:=zeq b [d] l;simpa[dgN]using this
   rw[e,List.length_cons,Nat.add_sub_cancel];have:1*b^l.length<=d*b^l.length:=Nat.mul_le_mul_right _ zd;omega
theorem sp_eq (F:Nat) (bias:Int) (inf:Nat) (L:Lit) (hok:L.ok) (hde:∀ d ∈ L.de,d<10) (hlen:L.da.length+L.db.length<=1000) (hb1:1<=bias) (hb2:bias<=1023) (hF1:1<=F) (hF2:bias+F<=1075):
  spN F bias inf (xj L.hex) ((L.da++L.db).dropWhile (·==0)) (spX L)=nvL F bias inf L:=by
 have hbp:=zf4 L.hex;have htp:=zjl L.hex;have hnum:=zhj (xj L.hex) (L.da++L.db);have hlead:=zep (xj L.hex) zd (L.da++L.db);have hltl:(L.da++L.db).dropWhile (·==0)=[]\/True:=Or.inr trivial;have hsub:((L.da++L.db).dropWhile (·==0)).length<=L.da.length+L.db.length:=by
  have:=(List.dropWhile_sublist (·==0) (l:=L.da++L.db)).length_le;rw[List.length_append]at this;exact this
 have hlt:=zko (xj L.hex) zd ((L.da++L.db).dropWhile (·==0)) (fun d hd=>hok d ((List.dropWhile_sublist _).mem hd));rw[hnum]at hlead hlt;have hten:yfj (xj L.hex)=zjn L.hex:=by cases L.hex <;> rfl
 have hNdef:dgN (xj L.hex) (L.da++L.db)=L.num:=rfl;rw[hNdef]at hnum hlead hlt;generalize hds:(L.da++L.db).dropWhile (·==0)=ds at *
 unfold spN nvL;rw[hnum,hten];by_cases h0:ds=[]
 ·subst h0;have hN:L.num=0:=by simpa using hlt
  rw[if_pos (by unfold zq0;rw[if_pos rfl]),hN];exact (zca F bias inf _ _ zd hb1 hF1).symm
 have hlead:=hlead h0;have hl1:1<=ds.length:=by
  cases ds with
  | nil=>exact absurd rfl h0
  | cons=>simp
 have hX:=zoo L.de hde;have hxs:spX L=(if L.en then -(ki L.de:Int) else (ki L.de:Int))-((zb7 L.hex*L.db.length:Nat):Int):=by
  unfold spX spE zb7;rfl
 have hxg:L.ex=(if L.en then -(goE L.de:Int) else (goE L.de:Int))-((zb7 L.hex*L.db.length:Nat):Int):=rfl;have hper:zb7 L.hex<=4:=zαO;have hper1:1<=zb7 L.hex:=zαO;have hpl:zb7 L.hex*L.db.length<=4*L.db.length:=Nat.mul_le_mul_right _ hper;have hj1:zjn L.hex^(zb7 L.hex*(ds.length-1))<=L.num:=by rw[Nat.pow_mul,zjm];exact hlead
 have hj2:L.num<zjn L.hex^(zb7 L.hex*ds.length):=by rw[Nat.pow_mul,zjm];exact hlt
 have hHI:∀ e:Int,1024<=((zb7 L.hex*(ds.length-1):Nat):Int)+e->nvT F bias inf (zjn L.hex) L.num e=inf:=by
  intro e he;obtain⟨m,hm⟩:∃ m:Nat,m=1024:=⟨_,rfl⟩;refine znp F bias inf _ _ _ m (bias+1).toNat e zd hj1 ?_ zd zd;exact Nat.le_trans (Nat.pow_le_pow_right zd (show (bias+1).toNat<=m by omega)) (Nat.pow_le_pow_left htp _)
 have hLO:∀ e:Int,((zb7 L.hex*ds.length:Nat):Int)+e<=-1075->nvT F bias inf (zjn L.hex) L.num e=0:=by
  intro e he;obtain⟨m,hm⟩:∃ m:Nat,m=1075:=⟨_,rfl⟩;refine zno F bias inf _ _ _ m (bias+F).toNat e zd hj2 ?_ zd zd hb1 hF1;exact Nat.le_trans (Nat.pow_le_pow_right zd (show (bias+F).toNat<=m by omega)) (Nat.pow_le_pow_left htp _)
 have hHI10:L.hex=false->∀ e:Int,400<(ds.length:Int)-1+e->nvT F bias inf (zjn L.hex) L.num e=inf:=by
  intro hx e he;rw[hx]at hj1 ⊢;refine znp F bias inf 10 _ _ 400 (bias+1).toNat e zd hj1 ?_ ?_ zd
  ·exact Nat.le_trans (Nat.pow_le_pow_right zd (show (bias+1).toNat<=1024 by omega)) zqc
  ·show (400:Int)<=((1*(ds.length-1):Nat):Int)+e;omega
 have hLO10:L.hex=false->∀ e:Int,(ds.length:Int)-1+e < -400->nvT F bias inf (zjn L.hex) L.num e=0:=by
  intro hx e he;rw[hx]at hj2 ⊢;refine zno F bias inf 10 _ _ 400 (bias+F).toNat e zd hj2 ?_ ?_ zd hb1 hF1
  ·exact Nat.le_trans (Nat.pow_le_pow_right zd (show (bias+F).toNat<=1075 by omega)) zqb
  ·show ((1*ds.length:Nat):Int)+e<=-(400:Nat);omega
 have hsp:(if zq0 (xj L.hex) ds (spX L)=-1 then 0 else if zq0 (xj L.hex) ds (spX L)=1 then inf else nvT F bias inf (zjn L.hex) L.num (spX L))=nvT F bias inf (zjn L.hex) L.num (spX L):=by
  generalize spX L=x at *
  cases hx:L.hex with
  | true=>
   rw[hx]at hHI hLO;change ∀ e:Int,1024<=((4*(ds.length-1):Nat):Int)+e->_ at hHI;change ∀ e:Int,((4*ds.length:Nat):Int)+e<=-1075->_ at hLO;rw[show xj true=16 from rfl,zt3 x h0];by_cases c1:1600<4*((ds.length:Int)-1)+x
   ·rw[if_pos c1,if_neg ze,if_pos rfl];exact (hHI x zd).symm
   ·rw[if_neg c1];by_cases c2:4*((ds.length:Int)-1)+x < -1600
    ·rw[if_pos c2,if_pos rfl];exact (hLO x zd).symm
    ·rw[if_neg c2,if_neg ze,if_neg ze]
  | false=>
   have hHI10:=hHI10 hx;have hLO10:=hLO10 hx;rw[hx]at hHI10 hLO10;rw[show xj false=10 from rfl,zt4 x h0];by_cases c1:400<(ds.length:Int)-1+x
   ·rw[if_pos c1,if_neg ze,if_pos rfl];exact (hHI10 x c1).symm
   ·rw[if_neg c1];by_cases c2:(ds.length:Int)-1+x < -400
    ·rw[if_pos c2,if_pos rfl];exact (hLO10 x c2).symm
    ·rw[if_neg c2,if_neg ze,if_neg ze]
 rw[hsp];rcases hX with⟨hX,-⟩ | ⟨h1,h2,h3⟩
 ·rw[hxs,hxg,hX]
 ·have hpd:zb7 L.hex*ds.length<=4*ds.length:=Nat.mul_le_mul_right _ hper;cases hen:L.en with
  | true=>
   rw[hen,if_pos rfl]at hxs hxg;rw[hLO (spX L) zd,hLO L.ex zd]
  | false=>
   rw[hen]at hxs hxg;simp only[Bool.false_eq_true,if_false]at hxs hxg;have h9:0<=((zb7 L.hex*(ds.length-1):Nat):Int):=zd;rw[hHI (spX L) zd,hHI L.ex zd]
def KK:Int:=6000
def sc (x:Nat) (p q:Int):Nat:=x*(10^(p+KK).toNat*2^(q+KK).toNat)
theorem vs:KK=6000:=rfl
theorem scU (p q:Int):0<10^(p+KK).toNat*2^(q+KK).toNat:=Nat.mul_pos (p10 _) (p2 _)
theorem ze2 {x y:Nat} {p q:Int}:sc x p q<=sc y p q↔x<=y:=by
 unfold sc;exact⟨fun h=>Nat.le_of_mul_le_mul_right h (scU p q),fun h=>Nat.mul_le_mul_right _ h⟩
theorem zhy {x y:Nat} {p q:Int}:sc x p q<sc y p q↔x<y:=by
 unfold sc;exact⟨fun h=>Nat.lt_of_mul_lt_mul_right h,fun h=>Nat.mul_lt_mul_of_pos_right h (scU p q)⟩
theorem ub (x n:Nat) (p q:Int) (h:-KK<=p):sc (x*10^n) p q=sc x (p+n) q:=by
 unfold sc;rw[show (p+n+KK).toNat=n+(p+KK).toNat by omega,Nat.pow_add];ac_rfl
theorem zm2 (x n:Nat) (p q:Int) (h:-KK<=q):sc (x*2^n) p q=sc x p (q+n):=by
 unfold sc;rw[show (q+n+KK).toNat=n+(q+KK).toNat by omega,Nat.pow_add];ac_rfl
theorem zm4 (x n:Nat) (p q:Int) (hp:-KK<=p-n) (hq:-KK<=q-n):sc (x*5^n) (p-n) q=sc x p (q-n):=by
 unfold sc;rw[show (p+KK).toNat=n+(p-n+KK).toNat by omega,show (q+KK).toNat=n+(q-n+KK).toNat by omega,Nat.pow_add,Nat.pow_add,show (10:Nat)^n=5^n*2^n by rw[<-Nat.mul_pow]];ac_rfl
theorem yio (x n:Nat) (p q:Int) (h:-KK<=q):sc x p (q+n)=sc x p q*2^n:=by
 unfold sc;rw[show (q+n+KK).toNat=(q+KK).toNat+n by omega,Nat.pow_add];ac_rfl
theorem zm3 (x n:Nat) (p q:Int) (h:-KK<=p):sc x (p+n) q=sc x p q*10^n:=by
 unfold sc;rw[show (p+n+KK).toNat=(p+KK).toNat+n by omega,Nat.pow_add];ac_rfl
theorem zbk (x c:Nat) (p q:Int):sc (x*c) p q=sc x p q*c:=by unfold sc;ac_rfl
theorem zcp (x y:Int) (hx:-3000<=x) (hy:-5500<=y) (h:sc 1 x 0<sc 1 0 y):(0<=x->3*x<y)/\(x<0->10*x<3*y):=by
 unfold sc at h;have hk:=vs;rw[Nat.one_mul,Nat.one_mul,Int.zero_add]at h;constructor
 ·intro h0;obtain⟨n,rfl⟩:∃ n:Nat,x=n:=⟨x.toNat,zd⟩;rw[show ((n:Int)+KK).toNat=KK.toNat+n by omega,Nat.pow_add,Nat.mul_assoc]at h;have h1:=Nat.lt_of_mul_lt_mul_left h;have h2:2^(3*n)<=10^n:=by rw[Nat.pow_mul];exact Nat.pow_le_pow_left zd n
  have h3:2^(3*n+KK.toNat)<2^(y+KK).toNat:=by
   rw[Nat.pow_add];exact Nat.lt_of_le_of_lt (Nat.mul_le_mul_right _ h2) h1
  have:=(Nat.pow_lt_pow_iff_right (by omega:1<2)).1 h3;omega
 ·intro h0;obtain⟨n,hn⟩:∃ n:Nat,-x=n:=⟨(-x).toNat,zd⟩;rw[show KK.toNat=(x+KK).toNat+n by omega,Nat.pow_add 10,Nat.mul_assoc]at h;have h1:=Nat.lt_of_mul_lt_mul_left h;rw[show (x+KK).toNat+n=KK.toNat by omega]at h1;have h2:10^(3*n)<=2^(10*n):=by
   rw[Nat.pow_mul,Nat.pow_mul];exact Nat.pow_le_pow_left zd n
  have h3:2^(3*KK.toNat)<2^(10*n+3*(y+KK).toNat):=by
   have h4:=Nat.pow_lt_pow_left h1 (show 3≠0 by omega);rw[Nat.mul_pow,<-Nat.pow_mul,<-Nat.pow_mul,<-Nat.pow_mul,Nat.mul_comm KK.toNat,Nat.mul_comm n,Nat.mul_comm (y+KK).toNat]at h4;rw[Nat.pow_add];exact Nat.lt_of_lt_of_le h4 (Nat.mul_le_mul_right _ h2)
  have:=(Nat.pow_lt_pow_iff_right (by omega:1<2)).1 h3;omega
structure Apx (A:Nat) (P:Int) (J:Nat) (G e:Int) (N:Nat) (p:Int) (tr:Bool):Prop where
 eq:tr=false->sc N p 0=sc A P (-e)
 lt:tr=true->sc N p 0<sc A P (-e)
 jj:sc J 0 (G-e)<=sc N p 0
theorem Apx.le {A:Nat} {P:Int} {J:Nat} {G e:Int} {N:Nat} {p:Int} {tr:Bool} (h:Apx A P J G e N p tr):sc N p 0<=sc A P (-e):=by
 cases tr
 ·exact Nat.le_of_eq (h.eq rfl)
 ·exact Nat.le_of_lt (h.lt rfl)
theorem Apx.left {A:Nat} {P:Int} {J:Nat} {G e:Int} {N:Nat} {p:Int} {tr:Bool} (h:Apx A P J G e N p tr) (k:Nat) (h1:-KK<=-e) (h2:-KK<=G-e):Apx A P J G (e-k) (N*2^k) p tr:=by
 have e1:sc A P (-(e-k))=sc A P (-e)*2^k:=by rw[show -(e-k)=-e+(k:Int) by omega,yio _ _ _ _ h1]
 have e2:sc J 0 (G-(e-k))=sc J 0 (G-e)*2^k:=by rw[show G-(e-k)=G-e+(k:Int) by omega,yio _ _ _ _ h2]
 refine⟨fun ht=>?_,fun ht=>?_,?_⟩
 ·rw[zbk,e1,h.eq ht]
 ·rw[zbk,e1];exact Nat.mul_lt_mul_of_pos_right (h.lt ht) (p2 k)
 ·rw[zbk,e2];exact Nat.mul_le_mul_right _ h.jj
theorem Apx.right {A:Nat} {P:Int} {J:Nat} {G e:Int} {N:Nat} {p:Int} {tr:Bool} (h:Apx A P J G e N p tr) (k:Nat) (h1:-KK<=-e-k) (h2:-KK<=G-e-k) (h3:-KK<=p-k) (h4:(k:Int)<=KK):Apx A P J G (e+k) (N*5^k) (p-k) tr:=by
 have e0:sc (N*5^k) (p-k) 0*2^k=sc N p 0:=by
  rw[zm4 _ _ _ _ h3 zd,<-yio _ _ _ _ zd,Int.sub_add_cancel]
 have e1:sc A P (-(e+k))*2^k=sc A P (-e):=by rw[<-yio _ _ _ _ zd];congr 1;omega
 have e2:sc J 0 (G-(e+k))*2^k=sc J 0 (G-e):=by rw[<-yio _ _ _ _ zd];congr 1;omega
 refine⟨fun ht=>?_,fun ht=>?_,?_⟩
 ·refine Nat.eq_of_mul_eq_mul_right (p2 k) ?_;rw[e0,e1,h.eq ht]
 ·have:=h.lt ht;rw[<-e0,<-e1]at this;exact Nat.lt_of_mul_lt_mul_right this
 ·have:=h.jj;rw[<-e0,<-e2]at this;exact Nat.le_of_mul_le_mul_right this (p2 k)
theorem Apx.norm {A:Nat} {P:Int} {J:Nat} {G e:Int} {N z:Nat} {p:Int} {tr:Bool} (h:Apx A P J G e (N*10^z) p tr) (h1:-KK<=p):Apx A P J G e N (p+z) tr:=by
 have e0:sc N (p+z) 0=sc (N*10^z) p 0:=(ub _ _ _ _ h1).symm;exact⟨fun ht=>e0.trans (h.eq ht),fun ht=>by rw[e0];exact h.lt ht,by rw[e0];exact h.jj⟩
def Lim (A:Nat) (P G:Int):Prop:=sc A P 0<sc 1 0 (G+54)
theorem Lim.at {A:Nat} {P G e:Int} (h:Lim A P G) (h1:-KK<=-e) (h2:-KK<=G+54-e) (h3:-KK<=G+54) (h4:-2000<=e) (h5:e<=2000):sc A P (-e)<sc 1 0 (G+54-e):=by
 unfold Lim at h;have hk:=vs;rcases Int.le_total 0 e with h0 | h0
 ·obtain⟨n,rfl⟩:∃ n:Nat,e=n:=⟨e.toNat,zd⟩;have e1:sc A P (-(n:Int))*2^n=sc A P 0:=by rw[<-yio _ _ _ _ h1];congr 1;omega
  have e2:sc 1 0 (G+54-(n:Int))*2^n=sc 1 0 (G+54):=by rw[<-yio _ _ _ _ h2];congr 1;omega
  rw[<-e1,<-e2]at h;exact Nat.lt_of_mul_lt_mul_right h
 ·obtain⟨n,hn⟩:∃ n:Nat,-e=n:=⟨(-e).toNat,zd⟩;rw[show -e=0+(n:Int) by omega,show G+54-e=G+54+(n:Int) by omega,yio _ _ _ _ zd,yio _ _ _ _ h3];exact Nat.mul_lt_mul_of_pos_right h (p2 n)
theorem grid (J M Z:Nat) (h p:Int) (hp:-2600<=p) (hp2:p<=1500) (hZ:Z<=2000) (h1:p+Z<=0) (h2:p+Z<=h) (h3:-2000<=h) (h4:h<=3000) (hle:sc J 0 h<=sc M p 0):sc J 0 h<=sc (M / 10^Z) (p+Z) 0:=by
 have hk:=vs;obtain⟨c,hc⟩:∃ c,sc J 0 h=sc c (p+Z) 0:=by
  obtain⟨r,hr⟩:∃ r:Nat,-(p+Z)=r:=⟨(-(p+Z)).toNat,zd⟩;rcases Int.le_total 0 h with h0 | h0
  ·obtain⟨n,rfl⟩:∃ n:Nat,h=n:=⟨h.toNat,zd⟩;refine⟨J*2^n*10^r,?_⟩;rw[ub _ _ _ _ zd,zm2 _ _ _ _ zd];congr 1 <;> omega
  ·obtain⟨n,hn⟩:∃ n:Nat,-h=n:=⟨(-h).toNat,zd⟩;refine⟨J*5^n*10^(r-n),?_⟩;rw[ub _ _ _ _ zd,show p+(Z:Int)+((r-n:Nat):Int)=0-(n:Int) by omega,zm4 _ _ _ _ zd zd];congr 1;omega
 rw[hc]at hle ⊢;rw[ze2];rw[<-ub _ _ _ _ zd,ze2]at hle;exact (Nat.le_div_iff_mul_le (p10 Z)).2 hle
theorem Apx.chop {A:Nat} {P:Int} {J:Nat} {G e:Int} {M:Nat} {p:Int} {tr:Bool} (h:Apx A P J G e M p tr) (hl:Lim A P G) (hM:M≠0) (hL:yi M<=1000)
  (hp1:-2500<=p) (hp2:p<=1400) (he1:e<=G+1110) (he2:-1300<=e) (he3:e<=1300) (hG1:-1200<=G) (hG2:G<=1100) (hGe:G-e<=2200):
  Apx A P J G e (M / 10^(yi M-800)) (p+(yi M-800:Nat)) (tr || decide (M%10^(yi M-800)≠0)):=by
 have hk:=vs;by_cases hz:yi M<=800
 ·rw[show yi M-800=0 by omega];have:(tr || decide (M%10^0≠0))=tr:=by simp[Nat.mod_one]
  rw[this,Nat.pow_zero,Nat.div_one];simpa using h
 ·obtain⟨Z,hZ⟩:=zX (yi M-800);rw[hZ];have hd:M=M / 10^Z*10^Z+M%10^Z:=by rw[Nat.mul_comm];exact (Nat.div_add_mod M (10^Z)).symm
  have es:sc (M / 10^Z) (p+Z) 0=sc (M / 10^Z*10^Z) p 0:=(ub _ _ _ _ zd).symm;have hlow:=qh hM;have hx:sc 1 (p+(yi M-1:Nat)) 0<sc 1 0 (G+54-e):=by
   have h1:=hl.at (e:=e) zd zd zd zd zd;have h2:=h.le;rw[<-ub _ _ _ _ zd,Nat.one_mul];exact Nat.lt_of_le_of_lt (ze2.2 hlow) (Nat.lt_of_le_of_lt h2 h1)
  have ht:=zcp _ _ zd zd hx;have hj:sc J 0 (G-e)<=sc (M / 10^Z) (p+Z) 0:=by
   refine grid J M Z (G-e) p zd zd zd ?_ ?_ zd zd h.jj
   ·omega
   ·omega
  have hle:sc (M / 10^Z) (p+Z) 0<=sc M p 0:=by rw[es,ze2];omega
  refine⟨fun hf=>?_,fun hf=>?_,hj⟩
  ·rw[Bool.or_eq_false_iff,decide_eq_false_iff_not,Decidable.not_not]at hf;rw[es,<-h.eq hf.1];have hMe:M / 10^Z*10^Z=M:=zd;rw[hMe]
  ·by_cases hm:M%10^Z=0
   ·have htr:tr=true:=by simpa[hm]using hf
    exact Nat.lt_of_le_of_lt hle (h.lt htr)
   ·have:sc (M / 10^Z) (p+Z) 0<sc M p 0:=by rw[es,zhy];omega
    exact Nat.lt_of_lt_of_le this h.le
theorem Apx.chopN {A:Nat} {P:Int} {J:Nat} {G e:Int} {M:Nat} {p:Int} {tr:Bool} (h:Apx A P J G e M p tr) (hl:Lim A P G) (hM:M≠0) (hL:yi M<=1000)
  (hp1:-2500<=p) (hp2:p<=1400) (he1:e<=G+1110) (he2:-1300<=e) (he3:e<=1300) (hG1:-1200<=G) (hG2:G<=1100) (hGe:G-e<=2200):
  Apx A P J G e (zga (M / 10^(yi M-800))) (p+(yi M-800:Nat)+tz (M / 10^(yi M-800))) (tr || decide (M%10^(yi M-800)≠0)):=by
 have h1:=h.chop hl hM hL hp1 hp2 he1 he2 he3 hG1 hG2 hGe;have hk:=vs;have h0:M / 10^(yi M-800)≠0:=by
  have:=qh hM;have h2:10^(yi M-800)<=M:=Nat.le_trans (Nat.pow_le_pow_right zd (by have:=yfr hM;omega)) this;exact Nat.ne_of_gt (Nat.div_pos h2 (p10 _))
 refine Apx.norm ?_ zd;rw[(zar _ h0).1];exact h1
end Go.Proofs.YtnifedmhgncioaaGreatDoor
