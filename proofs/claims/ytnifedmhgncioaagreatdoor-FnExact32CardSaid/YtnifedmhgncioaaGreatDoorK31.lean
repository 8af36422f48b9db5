/- Lemmas that the claim's top text leans on. No condition of their own. -/
import Derived.Test.YtnifedmhgncioaaGreatDoorK30
namespace Go.Proofs.YtnifedmhgncioaaGreatDoor
open Go.RowKit
set_option linter.unusedSimpArgs false
set_option linter.unusedVariables false
set_option maxHeartbeats 16000000
theorem zay {x y:Nat} {p q r s:Int} (k:Int) (h1:-KK<=q) (h2:-KK<=s) (h3:-KK<=q+k) (h4:-KK<=s+k):sc x p q<sc y r s↔sc x p (q+k)<sc y r (s+k):=by
 rcases Int.le_total 0 k with h0 | h0
 ·obtain⟨n,rfl⟩:∃ n:Nat,k=n:=⟨k.toNat,zd⟩;rw[yio _ _ _ _ h1,yio _ _ _ _ h2];exact⟨fun h=>Nat.mul_lt_mul_of_pos_right h (p2 n),fun h=>Nat.lt_of_mul_lt_mul_right h⟩
 ·obtain⟨n,hn⟩:∃ n:Nat,-k=n:=⟨(-k).toNat,zd⟩;have e1:sc x p q=sc x p (q+k)*2^n:=by rw[<-yio _ _ _ _ h3];congr 1;omega
  have e2:sc y r s=sc y r (s+k)*2^n:=by rw[<-yio _ _ _ _ h4];congr 1;omega
  rw[e1,e2];exact⟨fun h=>Nat.lt_of_mul_lt_mul_right h,fun h=>Nat.mul_lt_mul_of_pos_right h (p2 n)⟩
theorem zhz (x A:Nat) (P h:Int) (hP:-KK<=P) (hh:-KK<=h):sc x 0 h<=sc A P 0↔x*(10^(-P).toNat*2^h.toNat)<=A*10^P.toNat*2^(-h).toNat:=by
 have hk:=vs;unfold sc;generalize KK=K at *
 refine uf (c:=10^P.toNat*2^(-h).toNat) (c':=10^(P+K).toNat*2^K.toNat) (Nat.mul_pos (p10 _) (p2 _)) (Nat.mul_pos (p10 _) (p2 _)) ?_ ?_
 ·have e1:10^(0+K).toNat*10^P.toNat=10^(-P).toNat*10^(P+K).toNat:=zC;have e2:2^(h+K).toNat*2^(-h).toNat=2^h.toNat*2^K.toNat:=zC;calc x*(10^(0+K).toNat*2^(h+K).toNat)*(10^P.toNat*2^(-h).toNat)=x*(10^(0+K).toNat*10^P.toNat)*(2^(h+K).toNat*2^(-h).toNat):=by ac_rfl
   _=x*(10^(-P).toNat*10^(P+K).toNat)*(2^h.toNat*2^K.toNat):=by rw[e1,e2]
   _=_:=by ac_rfl
 ·rw[Int.zero_add];ac_rfl
theorem zkc (A:Nat) (P k:Int) (hP:-KK<=P) (hk:-KK<=k):le2 (A*10^P.toNat) (10^(-P).toNat) k↔sc 1 0 k<=sc A P 0:=by
 rw[zhz 1 A P k hP hk,Nat.one_mul];rfl
theorem rB_sc (A:Nat) (P E:Int) (hP:-KK<=P) (hE:-KK<=-E):vi (sc A P (-E)) (sc 1 0 0)=rB (A*10^P.toNat) (10^(-P).toNat) E:=by
 have hk:=vs;unfold rB;refine yj7 (by unfold sc;exact Nat.mul_pos zd (scU 0 0)) (Nat.mul_pos (p10 _) (p2 _)) ?_;unfold sc;generalize KK=K at *
 rw[Int.zero_add,Nat.one_mul];have e1:10^(P+K).toNat*10^(-P).toNat=10^P.toNat*10^K.toNat:=zC;have e2:2^(-E+K).toNat*2^E.toNat=2^(-E).toNat*2^K.toNat:=zC;calc A*(10^(P+K).toNat*2^(-E+K).toNat)*(10^(-P).toNat*2^E.toNat)=A*(10^(P+K).toNat*10^(-P).toNat)*(2^(-E+K).toNat*2^E.toNat):=by ac_rfl
  _=A*(10^P.toNat*10^K.toNat)*(2^(-E).toNat*2^K.toNat):=by rw[e1,e2]
  _=_:=by ac_rfl
theorem zvx (A:Nat) (P:Int) (J N:Nat) (G p:Int) (tr:Bool) (hap:Apx A P J G (G+1) N p tr) (hx:sc A P (-(G+1))<sc (J+1) 0 (-1)) (hp:-KK≤p):
  rdI N p tr=vi (sc A P (-(G+1))) (sc 1 0 0):=by
 have hk:=vs
 have hle:=hap.le
 obtain⟨h1,h2,h3⟩:=hap
 rw[show G-(G+1)=-1 by omega]at h3
 have hh:∀ x,2*sc x 0 (-1)=x*sc 1 0 0:=by
  intro x
  have a1:=yio x 1 0 (-1) zd
  have a2:=zbk 1 x 0 0
  rw[Nat.one_mul]at a2
  rw[show (-1:Int)+((1:Nat):Int)=0 by omega,Nat.pow_one]at a1
  rw[Nat.mul_comm x,←a2,a1,Nat.mul_comm]
 have hJ:=hh J
 have hJ1:=hh (J+1)
 have hU:0<sc 1 0 0:=by unfold sc;exact Nat.mul_pos zd (scU 0 0)
 generalize hXe:sc A P (-(G+1))=X at *
 have f1:J*sc 1 0 0≤2*sc N p 0:=zd
 have f2:2*X<(J+1)*sc 1 0 0:=zd
 clear h3 hx hJ hJ1 hh
 symm
 unfold rdI
 by_cases hp0:0≤p
 ·rw[if_pos hp0]
  have hD:sc N p 0=N*10^p.toNat*sc 1 0 0:=by
   have a1:=ub N p.toNat 0 0 zd
   have a2:=zbk 1 (N*10^p.toNat) 0 0
   rw[Nat.one_mul]at a2
   rw[show (0:Int)+((p.toNat:Nat):Int)=p by omega]at a1
   rw[←a1,a2,Nat.mul_comm]
  generalize N*10^p.toNat=s at *
  rw[hD]at f1 hle
  generalize sc 1 0 0=U at *
  have hJs:J≤2*s:=by
   rw[←Nat.mul_assoc]at f1
   exact Nat.le_of_mul_le_mul_right f1 hU
  have hm:=Nat.mul_le_mul_right U (show J+1≤2*s+1 by omega)
  rw[Nat.add_mul (2*s),Nat.one_mul,Nat.mul_assoc]at hm
  rw[qf _ _ _ hU]
  generalize s*U=z at *
  omega
 ·rw[if_neg hp0]
  obtain⟨t,ht⟩:∃ t:Nat,-p=t:=⟨(-p).toNat,zd⟩
  rw[show (-p).toNat=t by omega]
  have hu:0<sc 1 p 0:=by unfold sc;exact Nat.mul_pos zd (scU p 0)
  have hUt:sc 1 0 0=10^t*sc 1 p 0:=by
   have a1:=ub 1 t p 0 hp
   have a2:=zbk 1 (10^t) p 0
   rw[Nat.one_mul]at a1 a2
   rw[show p+(t:Int)=0 by omega]at a1
   rw[←a1,a2,Nat.mul_comm]
  have hD:sc N p 0=N*sc 1 p 0:=by
   have a2:=zbk 1 N p 0
   rw[Nat.one_mul]at a2
   rw[a2,Nat.mul_comm]
  have hN:=Nat.div_add_mod N (10^t)
  have hr:=Nat.mod_lt N (p10 t)
  have hD2:sc N p 0=N / 10^t*sc 1 0 0+N%10^t*sc 1 p 0:=by
   rw[hD,hUt,←Nat.mul_assoc,←Nat.add_mul,Nat.mul_comm (N / 10^t),hN]
  unfold ux
  generalize N / 10^t=q at *
  generalize N%10^t=r at *
  clear hN hD
  generalize 10^t=T at *
  generalize sc 1 p 0=u at *
  rw[hD2]at f1 hle h1 h2
  clear hD2
  have hT:0<T:=zd
  have g1:J*T≤2*(q*T+r):=by
   rw[hUt]at f1
   have:J*T*u≤2*(q*T+r)*u:=by
    calc J*T*u=J*(T*u):=by rw[Nat.mul_assoc]
     _≤2*(q*(T*u)+r*u):=f1
     _=2*(q*T+r)*u:=by rw[Nat.mul_assoc 2,Nat.add_mul,Nat.mul_assoc]
   exact Nat.le_of_mul_le_mul_right this hu
  have hJlt:∀ c:Nat,2*(q*T+r)<c*T→J<c:=by
   intro c hc
   exact Nat.lt_of_mul_lt_mul_right (Nat.lt_of_le_of_lt g1 hc)
  have hup:∀ c:Nat,J<c→2*X<c*sc 1 0 0:=by
   intro c hc
   exact Nat.lt_of_lt_of_le f2 (Nat.mul_le_mul_right _ hc)
  have e1:(2*q+1)*T=2*(q*T)+T:=by rw[Nat.add_mul,Nat.one_mul,Nat.mul_assoc]
  have e2:(2*q+2)*T=2*(q*T)+2*T:=by rw[Nat.add_mul,Nat.mul_assoc]
  have e3:(2*q+1)*sc 1 0 0=2*(q*sc 1 0 0)+sc 1 0 0:=by rw[Nat.add_mul,Nat.one_mul,Nat.mul_assoc]
  have e4:(2*q+2)*sc 1 0 0=2*(q*sc 1 0 0)+2*sc 1 0 0:=by rw[Nat.add_mul,Nat.mul_assoc]
  have e5:(q+1)*sc 1 0 0=q*sc 1 0 0+sc 1 0 0:=zβv
  have k2:=hup (2*q+2) (hJlt _ (by rw[e2];omega))
  rcases Nat.lt_trichotomy (2*r) T with c | c | c
  ·have k1:=hup (2*q+1) (hJlt _ (by rw[e1];omega))
   have b1:decide (T<2*r)=false:=decide_eq_false zd
   have b2:decide (T=2*r)=false:=decide_eq_false zd
   rw[b1,b2]
   show vi X (sc 1 0 0)=q+0
   rw[Nat.add_zero,qf _ _ _ hU]
   rw[e3]at k1
   generalize q*sc 1 0 0=z at *
   generalize sc 1 0 0=U at *
   omega
  ·have hru:2*(r*u)=sc 1 0 0:=by rw[hUt,←c,Nat.mul_assoc]
   have b1:decide (T<2*r)=false:=decide_eq_false zd
   have b2:decide (T=2*r)=true:=decide_eq_true zd
   rw[b1,b2]
   cases tr with
   | true=>
    have hX:=h2 rfl
    show vi X (sc 1 0 0)=q+1
    rw[qf _ _ _ hU,e5]
    rw[e4]at k2
    generalize q*sc 1 0 0=z at *
    generalize sc 1 0 0=U at *
    generalize r*u=v at *
    omega
   | false=>
    have hX:=h1 rfl
    rcases Nat.mod_two_eq_zero_or_one q with m | m
    ·have b3:decide (q%2=1)=false:=decide_eq_false zd
     rw[b3]
     show vi X (sc 1 0 0)=q+0
     rw[Nat.add_zero,qf _ _ _ hU]
     generalize q*sc 1 0 0=z at *
     generalize sc 1 0 0=U at *
     generalize r*u=v at *
     omega
    ·have b3:decide (q%2=1)=true:=decide_eq_true m
     rw[b3]
     show vi X (sc 1 0 0)=q+1
     rw[qf _ _ _ hU,e5]
     generalize q*sc 1 0 0=z at *
     generalize sc 1 0 0=U at *
     generalize r*u=v at *
     omega
  ·have hru:sc 1 0 0<2*(r*u):=by
    rw[hUt,←Nat.mul_assoc]
    exact Nat.mul_lt_mul_of_pos_right c hu
   have b1:decide (T<2*r)=true:=decide_eq_true c
   rw[b1]
   show vi X (sc 1 0 0)=q+1
   rw[qf _ _ _ hU,e5]
   rw[e4]at k2
   generalize q*sc 1 0 0=z at *
   generalize sc 1 0 0=U at *
   generalize r*u=v at *
   omega
theorem zte (x y:Int) (hx:-3000<=x) (hy:-3000<=y) (h:sc 1 0 y<sc 1 x 0):(0<=x->3*y<10*x)/\(x<0->y<3*x):=by
 unfold sc at h;have hk:=vs;rw[Nat.one_mul,Nat.one_mul,Int.zero_add]at h;constructor
 ·intro h0;obtain⟨n,rfl⟩:∃ n:Nat,x=n:=⟨x.toNat,zd⟩;rw[show ((n:Int)+KK).toNat=KK.toNat+n by omega,Nat.pow_add,Nat.mul_assoc]at h;have h1:=Nat.lt_of_mul_lt_mul_left h;have h2:10^(3*n)<=2^(10*n):=by
   rw[Nat.pow_mul,Nat.pow_mul];exact Nat.pow_le_pow_left zd n
  have h3:2^(3*(y+KK).toNat)<2^(10*n+3*KK.toNat):=by
   have h4:=Nat.pow_lt_pow_left h1 (show 3≠0 by omega);rw[Nat.mul_pow,<-Nat.pow_mul,<-Nat.pow_mul,<-Nat.pow_mul,Nat.mul_comm KK.toNat,Nat.mul_comm n,Nat.mul_comm (y+KK).toNat]at h4;rw[Nat.pow_add];exact Nat.lt_of_lt_of_le h4 (Nat.mul_le_mul_right _ h2)
  have:=(Nat.pow_lt_pow_iff_right (by omega:1<2)).1 h3;omega
 ·intro h0;obtain⟨n,hn⟩:∃ n:Nat,-x=n:=⟨(-x).toNat,zd⟩;rw[show KK.toNat=(x+KK).toNat+n by omega,Nat.pow_add 10,Nat.mul_assoc]at h;have h1:=Nat.lt_of_mul_lt_mul_left h;rw[show (x+KK).toNat+n=KK.toNat by omega]at h1;have h2:2^(3*n)<=10^n:=by rw[Nat.pow_mul];exact Nat.pow_le_pow_left zd n
  have h3:2^(3*n+(y+KK).toNat)<2^KK.toNat:=by
   rw[Nat.pow_add];exact Nat.lt_of_le_of_lt (Nat.mul_le_mul_right _ h2) h1
  have:=(Nat.pow_lt_pow_iff_right (by omega:1<2)).1 h3;omega
def St (m x z:Nat):Prop:=x=m*2^z\/(m%2=1/\(m-1)*2^z<x/\x<(m+1)*2^z)
theorem zkh (u:Nat):u / 2|||u%2=if u%2=0 then u / 2 else u / 2 / 2*2+1:=by
 rcases Nat.mod_two_eq_zero_or_one u with h1 | h1
 ·rw[h1,Nat.or_zero,if_pos rfl]
 ·rw[h1,zg2,if_neg zd]
theorem St.half {m x z:Nat} (h:St m x z):St (m / 2|||m%2) x (z+1):=by
 have hP:=p2 z;rw[zkh];unfold St at *
 rw[Nat.pow_succ];generalize 2^z=Z at *
 by_cases he:m%2=0
 ·rw[if_pos he];left;rcases h with h | ⟨h,-⟩
  ·obtain⟨k,rfl⟩:∃ k,m=2*k:=⟨m / 2,zd⟩;rw[h,show 2*k / 2=k by omega,Nat.mul_comm Z 2,<-Nat.mul_assoc,Nat.mul_comm k]
  ·omega
 ·rw[if_neg he];right;obtain⟨k,rfl⟩:∃ k,m=2*k+1:=⟨m / 2,zd⟩;have hx:2*(k*Z)<x/\x<2*(k*Z)+2*Z:=by
   rcases h with h | ⟨-,h1,h2⟩
   ·rw[Nat.add_mul,Nat.mul_assoc]at h;omega
   ·rw[Nat.add_sub_cancel,Nat.mul_assoc]at h1;rw[show 2*k+1+1=2*k+2 by omega,Nat.add_mul,Nat.mul_assoc]at h2;omega
  clear h he;rw[show (2*k+1) / 2=k by omega];refine⟨zd,?_⟩;rcases Nat.mod_two_eq_zero_or_one k with h1 | h1
  ·rw[show k / 2*2+1=k+1 by omega,Nat.add_sub_cancel,show k+1+1=k+2 by omega];have e1:k*(Z*2)=2*(k*Z):=by rw[<-Nat.mul_assoc,Nat.mul_comm]
   have e2:(k+2)*(Z*2)=2*(k*Z)+4*Z:=by rw[Nat.add_mul,e1];omega
   omega
  ·obtain⟨j,rfl⟩:∃ j,k=j+1:=⟨k-1,zd⟩;rw[show (j+1) / 2*2+1=j+1 by omega,Nat.add_sub_cancel];have e0:(j+1)*Z=j*Z+Z:=zβv;have e1:j*(Z*2)=2*(j*Z):=by rw[<-Nat.mul_assoc,Nat.mul_comm]
   have e2:(j+1+1)*(Z*2)=2*(j*Z)+4*Z:=by rw[Nat.add_mul,Nat.add_mul,e1];omega
   omega
theorem St.round {m x z:Nat} (h:St m x z):(if m%4|||m / 4%2=3 then m / 4+1 else m / 4)=vi x (4*2^z):=by
 have hP:=p2 z;have hor:(m%4|||m / 4%2=3)↔(m%4=3\/(m%4=2/\m / 4%2=1)):=by
  have h1:m%4<4:=Nat.mod_lt _ zd;have h2:m / 4%2<2:=Nat.mod_lt _ zd;generalize m%4=a at *
  generalize m / 4%2=b at *
  have ha:a=0\/a=1\/a=2\/a=3:=zd;have hb:b=0\/b=1:=zd;rcases ha with rfl | rfl | rfl | rfl <;> rcases hb with rfl | rfl <;> decide
 symm;rw[qf _ _ _ zd];unfold St at h;generalize 2^z=Z at *
 have ha:m%4<4:=Nat.mod_lt _ zd;obtain⟨q,r,hr,rfl⟩:∃ q r,r<4/\m=4*q+r:=⟨m / 4,m%4,ha,zd⟩;rw[show (4*q+r) / 4=q by omega,show (4*q+r)%4=r by omega]at hor ⊢;have e0:q*(4*Z)=4*(q*Z):=by rw[Nat.mul_left_comm]
 have e1:(q+1)*(4*Z)=4*(q*Z)+4*Z:=by rw[Nat.add_mul,e0];omega
 have hx:(x=4*(q*Z)+r*Z)\/((4*q+r)%2=1/\4*(q*Z)+(r-1)*Z<x/\x<4*(q*Z)+(r+1)*Z):=by
  rcases h with h | ⟨h,h1,h2⟩
  ·left;rw[h,Nat.add_mul,Nat.mul_assoc]
  ·right;rw[show 4*q+r-1=4*q+(r-1) by omega,Nat.add_mul,Nat.mul_assoc]at h1;rw[show 4*q+r+1=4*q+(r+1) by omega,Nat.add_mul,Nat.mul_assoc]at h2;exact⟨h,h1,h2⟩
 clear h ha;have:r=0\/r=1\/r=2\/r=3:=zd;rcases this with rfl | rfl | rfl | rfl
 ·rw[if_neg (fun hh=>by have:=hor.1 hh;omega),e0];generalize q*Z=y at *
  omega
 ·rw[if_neg (fun hh=>by have:=hor.1 hh;omega),e0];generalize q*Z=y at *
  omega
 ·rcases Nat.mod_two_eq_zero_or_one q with m1 | m1
  ·rw[if_neg (fun hh=>by have:=hor.1 hh;omega),e0];generalize q*Z=y at *
   omega
  ·rw[if_pos (hor.2 zd),e1];generalize q*Z=y at *
   omega
 ·rw[if_pos (hor.2 zd),e1];generalize q*Z=y at *
  omega
theorem St.lo {m x z k:Nat} (h:St m x z) (hk:2^(k+1)<=m):2^(k+1)*2^z<=x:=by
 rcases h with h | ⟨h1,h2,-⟩
 ·rw[h];exact Nat.mul_le_mul_right _ hk
 ·have:2^(k+1)<=m-1:=by rw[Nat.pow_succ]at *;omega
  exact Nat.le_of_lt (Nat.lt_of_le_of_lt (Nat.mul_le_mul_right _ this) h2)
theorem St.hi {m x z k:Nat} (h:St m x z) (hk:m<2^(k+1)):x<2^(k+1)*2^z:=by
 rcases h with h | ⟨h1,-,h2⟩
 ·rw[h];exact Nat.mul_lt_mul_of_pos_right hk (p2 z)
 ·exact Nat.lt_of_lt_of_le h2 (Nat.mul_le_mul_right _ hk)
def zxg (F:Nat) (bias:Int) (inf R:Nat) (E:Int):Nat:=
 if R=2^(F+1) then (if bias<E+F+1 then inf else (E+F+1+bias).toNat*2^F)
 else if R<2^F then R else if bias<E+F then inf else (E+F+bias).toNat*2^F+(R-2^F)
theorem zks (F:Nat) (bias:Int) (inf a b R:Nat) (E:Int) (hb:b≠0) (hbias:1<=bias) (hinf:inf=(2*bias+1).toNat*2^F) (hE:yt F bias a b=E) (hR:rB a b E=R):
  xh F bias inf a b=zxg F bias inf R E/\R<=2^(F+1)/\1-bias-F<=E/\(R<2^F->E=1-bias-F):=by
 have hle:=zld a b F bias hb zd;rw[Int.toNat_natCast,hE,hR]at hle;have hlE:1-bias-F<=E:=by rw[<-hE];unfold yt;split <;> omega
 have hden:R<2^F->E=1-bias-F:=by
  intro h;by_cases ha:a=0
  ·rw[<-hE];unfold yt;rw[if_pos ha]
  ·have hm:max (1-bias-F) (uo a b-F)=E:=by rw[<-hE];unfold yt;rw[if_neg ha]
   rcases Int.lt_or_le (1-bias-F) E with h1 | h1
   ·exfalso;have h2:uo a b=E+F:=zd;have:=zgv (n:=F) (k:=E) hb (by rw[<-h2];exact (wg a b ha hb).1);omega
   ·omega
 refine⟨?_,hle,hlE,hden⟩;have hP:2^(F+1)=2*2^F:=zE;have hF:=p2 F;rw[qm F bias inf a b E hE,hR];unfold zxg;by_cases h1:R=2^(F+1)
 ·rw[if_pos h1];by_cases h2:bias<E+F+1
  ·rw[if_pos h2];by_cases h3:E<=bias-F
   ·rw[if_pos h3,h1,hP,<-Nat.add_mul,hinf];congr 1;omega
   ·rw[if_neg h3]
  ·rw[if_neg h2,if_pos zd,h1,hP,<-Nat.add_mul];congr 1;omega
 ·rw[if_neg h1];by_cases h2:R<2^F
  ·rw[if_pos h2,hden h2,if_pos zd,Int.sub_self];show 0*2^F+R=R;rw[Nat.zero_mul,Nat.zero_add]
  ·rw[if_neg h2];by_cases h3:bias<E+F
   ·rw[if_pos h3,if_neg zd]
   ·rw[if_neg h3,if_pos zd,show (E+F+bias).toNat=(E-(1-bias-F)).toNat+1 by omega,Nat.succ_mul];omega
theorem st_rB (m x z:Nat) (k E:Int) (hE:E=k+z+2):rB (x*2^k.toNat) (2^(-k).toNat) E=vi x (4*2^z):=by
 unfold rB;refine yj7 (Nat.mul_pos (p2 _) (p2 _)) (by have:=p2 z;omega) ?_;have e1:2^k.toNat*2^(-E).toNat*(2^2*2^z)=2^(-k).toNat*2^E.toNat:=by
  rw[<-Nat.pow_add,<-Nat.pow_add,<-Nat.pow_add,<-Nat.pow_add];congr 1;omega
 rw[show (4:Nat)=2^2 by rfl];calc x*2^k.toNat*2^(-E).toNat*(2^2*2^z)=x*(2^k.toNat*2^(-E).toNat*(2^2*2^z)):=by ac_rfl
  _=_:=by rw[e1]
theorem zms (x z n:Nat) (k:Int):le2 (x*2^k.toNat) (2^(-k).toNat) (k+z+n)↔2^n*2^z<=x:=by
 rw[ws (j:=-k) (n:=n+z) zd,Int.neg_neg,Nat.pow_add];refine uf (c:=1) (c':=2^(-k).toNat*2^k.toNat) zd (Nat.mul_pos (p2 _) (p2 _)) ?_ ?_
 ·rw[Nat.mul_one]
 ·ac_rfl
theorem zqh (F:Nat) (bias:Int) (m x z:Nat) (k E:Int) (hE:E=k+z+2) (h:St m x z) (hm:m<2^(F+3)) (hc:(2^(F+2)<=m/\1-bias-F<=E)\/E=1-bias-F):
  yt F bias (x*2^k.toNat) (2^(-k).toNat)=E:=by
 have hb:2^(-k).toNat≠0:=by have:=p2 (-k).toNat;omega
 have hhi:x<2^(F+3)*2^z:=h.hi (k:=F+2) hm;unfold yt;by_cases h0:x*2^k.toNat=0
 ·rw[if_pos h0];rcases hc with⟨h1,h2⟩ | h1
  ·have h4:2^(F+2)*2^z<=x:=h.lo (k:=F+1) h1;have hx:x=0:=by
    rcases Nat.mul_eq_zero.1 h0 with h3 | h3
    ·exact h3
    ·have:=p2 k.toNat;omega
   have h5:=Nat.mul_pos (p2 (F+2)) (p2 z);omega
  ·omega
 ·rw[if_neg h0];obtain⟨o1,o2⟩:=wg _ _ h0 hb;have hup:uo (x*2^k.toNat) (2^(-k).toNat)<=E+F:=by
   rcases Int.lt_or_le (E+F) (uo (x*2^k.toNat) (2^(-k).toNat)) with h1 | h1
   ·exfalso;have:=wh (j:=k+z+(F+3:Nat)) zd o1;rw[zms]at this;omega
   ·exact h1
  rcases hc with⟨h1,h2⟩ | h1
  ·have hlo:E+F<=uo (x*2^k.toNat) (2^(-k).toNat):=by
    rcases Int.lt_or_le (uo (x*2^k.toNat) (2^(-k).toNat)) (E+F) with h3 | h3
    ·exfalso;apply o2;refine wh (k:=k+z+(F+2:Nat)) zd ?_;rw[zms];exact h.lo (k:=F+1) h1
    ·exact h3
   omega
  ·omega
theorem ztk (F:Nat) (bias:Int) (inf m x z:Nat) (k E:Int) (hE:E=k+z+2) (h:St m x z) (hm:m<=1) (hbias:1<=bias) (hF:1<=F) (hc:E<=1-bias-F):xh F bias inf (x*2^k.toNat) (2^(-k).toNat)=0/\vi x (4*2^z)=0:=by
 have hhi:=h.hi (k:=0) zd;refine⟨kv F bias inf _ _ (by have:=p2 (-k).toNat;omega) hbias hF (fun _ hh=>?_),qr zd⟩;have:=wh (j:=k+z+(1:Nat)) zd hh;rw[zms]at this;omega
theorem zvr {x:Nat} (p q:Int) (h:0<x):0<sc x p q:=by unfold sc;exact Nat.mul_pos h (scU p q)
theorem zac {y z:Int} (h:sc 1 0 y<sc 1 0 z) (hy:-KK<=y) (hz:-KK<=z):y<z:=by
 unfold sc at h;rw[Nat.one_mul,Nat.one_mul]at h;have h1:=Nat.lt_of_mul_lt_mul_left h;have:=(Nat.pow_lt_pow_iff_right (by omega:1<2)).1 h1;omega
theorem zl2 (N:Nat) (p:Int) (hN:N≠0) (hp:-KK<=p):sc 1 (p+yi N-1) 0<=sc N p 0:=by
 have h1:=qh hN;have h2:=yfr hN;have:=ub 1 (yi N-1) p 0 hp;rw[Nat.one_mul]at this;rw[show p+(yi N:Int)-1=p+((yi N-1:Nat):Int) by omega,<-this];exact ze2.2 h1
theorem zrs (N:Nat) (p:Int) (hp:-KK<=p):sc N p 0<sc 1 (p+yi N) 0:=by
 have:=ub 1 (yi N) p 0 hp;rw[Nat.one_mul]at this;rw[<-this];exact zhy.2 (xi N)
theorem vf {y z:Int} (h:y<=z) (hy:-KK<=y):sc 1 y 0<=sc 1 z 0:=by
 unfold sc;rw[Nat.one_mul,Nat.one_mul];exact Nat.mul_le_mul_right _ (Nat.pow_le_pow_right zd zd)
theorem kb {y z:Int} (h:y<=z):sc 1 0 y<=sc 1 0 z:=by
 unfold sc;rw[Nat.one_mul,Nat.one_mul];exact Nat.mul_le_mul_left _ (Nat.pow_le_pow_right zd zd)
theorem zj2 (A:Nat) (P:Int) (hA:A≠0) (hP1:-2500<=P) (hd1:-1000<=P+yi A) (hd2:P+yi A<=2000) (o:Int) (ho:uo (A*10^P.toNat) (10^(-P).toNat)=o):
  sc 1 0 o<=sc A P 0/\sc A P 0<sc 1 0 (o+1):=by
 have hk:=vs;have hb:10^(-P).toNat≠0:=by have:=p10 (-P).toNat;omega
 have ha:A*10^P.toNat≠0:=Nat.mul_ne_zero hA (by have:=p10 P.toNat;omega);obtain⟨o1,o2⟩:=wg _ _ ha hb;rw[ho]at o1 o2;have hlo:-3401<=o:=by
  rcases Int.lt_or_le o (-3401) with h | h
  ·exfalso;have h3:¬le2 (A*10^P.toNat) (10^(-P).toNat) (-3400):=fun hh=>o2 (wh zd hh)
   rw[zkc _ _ _ zd zd,Nat.not_le]at h3;have h4:=zl2 A P hA zd;have h5:sc 1 (-1001) 0<=sc A P 0:=Nat.le_trans (vf zd zd) h4;have:=(zcp (-1001) (-3400) zd zd (Nat.lt_of_le_of_lt h5 h3)).2 zd;omega
  ·omega
 refine⟨(zkc _ _ _ zd zd).1 o1,?_⟩;rw[zkc _ _ _ zd zd,Nat.not_le]at o2;exact o2
theorem znh (A:Nat) (P:Int) (hA:A≠0) (hP1:-2500<=P) (hd1:-330<=P+yi A) (hd2:P+yi A<=310) (o:Int) (ho:uo (A*10^P.toNat) (10^(-P).toNat)=o):-1105<=o/\o<=1033:=by
 have hk:=vs;obtain⟨h1,h2⟩:=zj2 A P hA hP1 zd zd o ho;have a1:=zl2 A P hA zd;have a2:=zrs A P zd;constructor
 ·have h3:sc 1 (-331) 0<sc 1 0 (o+1):=Nat.lt_of_le_of_lt (vf zd zd) (Nat.lt_of_le_of_lt a1 h2);rcases Int.lt_or_le (o+1) (-3000) with h | h
  ·exfalso;have h4:sc 1 0 (o+1)<=sc 1 0 (-3000):=by
    unfold sc;rw[Nat.one_mul,Nat.one_mul];exact Nat.mul_le_mul_left _ (Nat.pow_le_pow_right zd zd)
   have:=(zcp (-331) (-3000) zd zd (Nat.lt_of_lt_of_le h3 h4)).2 zd;omega
  ·have:=(zcp (-331) (o+1) zd zd h3).2 zd;omega
 ·have h3:sc 1 0 o<sc 1 310 0:=Nat.lt_of_le_of_lt h1 (Nat.lt_of_lt_of_le a2 (vf zd zd));rcases Int.lt_or_le o 0 with h | h
  ·omega
  ·have:=(zte 310 o zd zd h3).1 zd;omega
theorem zns (F:Nat) (bias:Int) (inf A:Nat) (P:Int) (hA:A≠0) (hP1:-2500≤P) (hd1:311≤P+yi A) (hd2:P+yi A≤2000) (hb1:1≤bias) (hb2:bias≤1023):xh F bias inf (A*10^P.toNat) (10^(-P).toNat)=inf:=by
 have hk:=vs
 obtain⟨o,ho⟩:=zX (uo (A*10^P.toNat) (10^(-P).toNat))
 obtain⟨h1,h2⟩:=zj2 A P hA hP1 zd hd2 o ho
 have a1:=zl2 A P hA zd
 have h3:sc 1 310 0<sc 1 0 (o+1):=Nat.lt_of_le_of_lt (vf zd zd) (Nat.lt_of_le_of_lt a1 h2)
 have h4:1024≤o:=by
  rcases Int.lt_or_le o 1024 with h | h
  ·exfalso
   have h5:sc 1 310 0<sc 1 0 1024:=Nat.lt_of_lt_of_le h3 (kb zd)
   unfold sc at h5
   rw[Nat.one_mul,Nat.one_mul,Int.zero_add]at h5
   generalize KK=K at *
   rw[show (310+K).toNat=K.toNat+310 by omega,show (1024+K).toNat=K.toNat+1024 by omega,Nat.pow_add,Nat.pow_add]at h5
   have h6:(2:Nat)^1024≤10^310:=zp
   have h7:10^K.toNat*(2^K.toNat*2^1024)≤10^K.toNat*10^310*2^K.toNat:=by
    generalize (2:Nat)^1024=x at *
    generalize (10:Nat)^310=y at *
    calc 10^K.toNat*(2^K.toNat*x)=10^K.toNat*2^K.toNat*x:=by ac_rfl
     _≤10^K.toNat*2^K.toNat*y:=Nat.mul_le_mul_left _ h6
     _=10^K.toNat*y*2^K.toNat:=by ac_rfl
   exact absurd h5 (Nat.not_lt.2 h7)
  ·exact h
 have ha:A*10^P.toNat≠0:=Nat.mul_ne_zero hA (by have:=p10 P.toNat;omega)
 unfold xh
 rw[if_neg]
 unfold yt
 rw[if_neg ha,ho]
 omega
theorem zlm (F:Nat) (bias:Int) (inf A:Nat) (P:Int) (hA:A≠0) (hP1:-2500≤P) (hd1:P+yi A≤-331) (hd0:-2000≤P+yi A) (hb1:1≤bias) (hF:1≤F) (hb2:bias+F≤1075):xh F bias inf (A*10^P.toNat) (10^(-P).toNat)=0:=by
 have hk:=vs
 refine kv F bias inf _ _ (by have:=p10 (-P).toNat;omega) hb1 hF (fun _ h=>?_)
 rw[zkc _ _ _ zd zd]at h
 have a2:=zrs A P zd
 have h1:sc 1 0 (-(bias+F))<sc 1 (-331) 0:=Nat.lt_of_le_of_lt h (Nat.lt_of_lt_of_le a2 (vf zd zd))
 have h5:sc 1 0 (-1075)<sc 1 (-331) 0:=Nat.lt_of_le_of_lt (kb zd) h1
 unfold sc at h5
 rw[Nat.one_mul,Nat.one_mul,Int.zero_add]at h5
 generalize KK=K at *
 obtain⟨m,hm⟩:∃ m:Nat,m=1075:=⟨_,rfl⟩
 obtain⟨l,hl⟩:∃ l:Nat,l=331:=⟨_,rfl⟩
 have h6:(2:Nat)^m≤10^l:=by rw[hm,hl];decide +kernel
 have e1:(10:Nat)^K.toNat=10^(-331+K).toNat*10^l:=zαa
 have e2:(2:Nat)^K.toNat=2^(-1075+K).toNat*2^m:=zαa
 rw[e1,e2]at h5
 have h7:10^(-331+K).toNat*(2^(-1075+K).toNat*2^m)≤10^(-331+K).toNat*10^l*2^(-1075+K).toNat:=by
  calc 10^(-331+K).toNat*(2^(-1075+K).toNat*2^m)=10^(-331+K).toNat*2^(-1075+K).toNat*2^m:=by ac_rfl
   _≤10^(-331+K).toNat*2^(-1075+K).toNat*10^l:=Nat.mul_le_mul_left _ h6
   _=10^(-331+K).toNat*10^l*2^(-1075+K).toNat:=by ac_rfl
 exact absurd h5 (Nat.not_lt.2 h7)
structure FB (A:Nat) (P o:Int) (J:Nat) (G e:Int) (N:Nat) (p:Int) (tr:Bool):Prop where
 a1:Apx A P 1 o e N p tr
 a2:Apx A P J G e N p tr
theorem zrk (F:Nat) (bias P o E:Int) (A':Nat) (hA:A'≠0) (hP:-2500<=P) (hd1:-330<=P+yi A') (hd2:P+yi A'<=310) (hF:F<=52) (hbias:bias+F<=1075) (hb0:1<=bias)
  (ho:uo (A'*10^P.toNat) (10^(-P).toNat)=o) (hE:yt F bias (A'*10^P.toNat) (10^(-P).toNat)=E):
  -1105<=o/\o<=1033/\E=max (1-bias-F) (o-F)/\Lim A' P o/\Lim A' P (E-1)/\∃ J,FB A' P o J (E-1) 0 A' P false/\sc A' P 0<sc (J+1) 0 (E-1):=by
 have hk:=vs;obtain⟨r1,r2⟩:=znh A' P hA hP hd1 hd2 o ho;obtain⟨h1,h2⟩:=zj2 A' P hA hP zd zd o ho;have ha:A'*10^P.toNat≠0:=Nat.mul_ne_zero hA (by have:=p10 P.toNat;omega);have hEE:E=max (1-bias-F) (o-F):=by rw[<-hE];unfold yt;rw[if_neg ha,ho]
 have hB:0<10^(-P).toNat*2^(E-1).toNat:=Nat.mul_pos (p10 _) (p2 _);refine⟨r1,r2,hEE,?_,?_,A'*10^P.toNat*2^(-(E-1)).toNat / (10^(-P).toNat*2^(E-1).toNat),⟨⟨fun _=>(by rw[Int.neg_zero]),fun h=>zF,?_⟩,⟨fun _=>(by rw[Int.neg_zero]),fun h=>zF,?_⟩⟩,?_⟩
 ·exact Nat.lt_of_lt_of_le h2 (kb zd)
 ·exact Nat.lt_of_lt_of_le h2 (kb zd)
 ·rw[Int.sub_zero];exact h1
 ·rw[Int.sub_zero,zhz _ _ _ _ zd zd];exact Nat.div_mul_le_self _ _
 ·rw[<-Nat.not_le,zhz _ _ _ _ zd zd,Nat.not_le];exact Nat.lt_of_lt_of_le (Nat.lt_mul_div_succ _ hB) (Nat.le_of_eq (Nat.mul_comm _ _))
theorem zwf {A:Nat} {P o:Int} {J:Nat} {G e:Int} {N:Nat} {p:Int} {tr:Bool} (h:FB A P o J G e N p tr) (ho2:sc A P 0<sc 1 0 (o+1)) (hN:N≠0) (hp1:-3000<=p) (he1:-1300<=e) (he2:e<=1300) (ho1:-1200<=o) (ho3:o<=1200) (hdp:0<p+yi N):e<=o:=by
 have hk:=vs;have h1:=zl2 N p hN zd;have h2:sc 1 0 0<=sc N p 0:=Nat.le_trans (vf zd zd) h1;have h3:=h.a1.le;have h4:=(zay (-e) zd zd zd zd).1 ho2;rw[Int.zero_add]at h4;have:=zac (Nat.lt_of_le_of_lt (Nat.le_trans h2 h3) h4) zd zd;omega
theorem zrl {A:Nat} {P o:Int} {J:Nat} {G e:Int} {N:Nat} {p:Int} {tr:Bool} (h:FB A P o J G e N p tr) (he1:-1300<=e) (he2:e<=1300) (ho1:-1200<=o) (ho3:o<=1200) (hs:sc N p 0<sc 1 0 (-1)):o+2<=e:=by
 have hk:=vs;have h1:=h.a1.jj;have:=zac (Nat.lt_of_le_of_lt h1 hs) zd zd;omega
theorem zuo {A:Nat} {P o:Int} {J:Nat} {G e:Int} {N:Nat} {p:Int} {tr:Bool} (h:FB A P o J G e N p tr) (ho2:sc A P 0<sc 1 0 (o+1)) (he1:-1300<=e) (he2:e<=1300) (ho1:-1200<=o) (ho3:o<=1200) (hs:sc 1 0 (-1)<=sc N p 0) (hs2:sc N p 0<sc 1 0 0):e=o+1:=by
 have hk:=vs;have h1:=h.a1.jj;have h5:=zac (Nat.lt_of_le_of_lt h1 hs2) zd zd;have h3:=h.a1.le;have h4:=(zay (-e) zd zd zd zd).1 ho2;rw[Int.zero_add]at h4;have:=zac (Nat.lt_of_le_of_lt (Nat.le_trans hs h3) h4) zd zd;omega
theorem zlx (N:Nat) (p:Int) (hN:N≠0) (hp:p+yi N=0) (hp2:-3000<=p):(N / 10^(yi N-1)<5->sc N p 0<sc 1 0 (-1))/\(5<=N / 10^(yi N-1)->sc 1 0 (-1)<=sc N p 0)/\sc N p 0<sc 1 0 0:=by
 have hk:=vs;have hL:=yfr hN;obtain⟨n,hn⟩:∃ n,yi N=n+1:=⟨yi N-1,zd⟩;have hlt:=zrs N p zd;rw[hp]at hlt;have e0:2*sc 1 0 (-1)=sc 1 0 0:=by
  have:=yio 1 1 0 (-1) zd;rw[show (-1:Int)+((1:Nat):Int)=0 by omega,Nat.pow_one]at this;omega
 have e1:sc (10^(n+1)) p 0=sc 1 0 0:=by
  have:=ub 1 (n+1) p 0 zd;rw[Nat.one_mul]at this;rw[this,show p+((n+1:Nat):Int)=0 by omega]
 have e2:sc (2*N) p 0=2*sc N p 0:=by rw[Nat.mul_comm,zbk,Nat.mul_comm]
 rw[hn,Nat.add_sub_cancel];have hd:=Nat.div_add_mod N (10^n);have hm:=Nat.mod_lt N (p10 n);have hpow:10^(n+1)=10*10^n:=zE;refine⟨fun h=>?_,fun h=>?_,hlt⟩
 ·have h1:10^n*(N / 10^n)<=10^n*4:=Nat.mul_le_mul_left _ zd;have h2:sc (2*N) p 0<sc (10^(n+1)) p 0:=zhy.2 zd;omega
 ·have h1:10^n*5<=10^n*(N / 10^n):=Nat.mul_le_mul_left _ h;have h2:sc (10^(n+1)) p 0<=sc (2*N) p 0:=ze2.2 zd;omega
theorem zk4:sc 1 (-1) 0<=sc 1 0 (-1):=by
 have hk:=vs;have a1:=zm3 1 1 (-1) 0 zd;have a2:=yio 1 1 0 (-1) zd;rw[show (-1:Int)+((1:Nat):Int)=0 by omega,Nat.pow_one]at a1 a2;omega
theorem zwg {A:Nat} {P o:Int} {J:Nat} {E:Int} {N:Nat} {p:Int} {tr:Bool} (h:Apx A P J (E-1) E N p tr) (hJ:sc A P 0<sc (J+1) 0 (E-1)) (hE1:-1300<=E) (hE2:E<=1300) (hP:-2500<=P) (hp:-3000<=p):
  rdI N p tr=rB (A*10^P.toNat) (10^(-P).toNat) E:=by
 have hk:=vs;have h4:=(zay (-E) zd zd zd zd).1 hJ;rw[Int.zero_add,show E-1+-E=-1 by omega]at h4;have:=zvx A P J N (E-1) p tr (by rw[show E-1+1=E by omega];exact h) (by rw[show -(E-1+1)=-E by omega];exact h4) zd;rw[this,show -(E-1+1)=-E by omega];exact rB_sc A P E zd zd
theorem yaw {A:Nat} {P G e:Int} {J N:Nat} {p:Int} {tr:Bool} (h:Apx A P J G e N p tr) (hl:Lim A P G) (hN:N≠0) (he:e=G+1) (he1:-1300<=e) (he2:e<=1300) (hp:-3000<=p) (hd:p+yi N<=2000):p+yi N<=18:=by
 have hk:=vs;have h1:=zl2 N p hN zd;have h2:=hl.at (e:=e) zd zd zd zd zd;rcases Int.lt_or_le (p+yi N-1) 0 with h0 | h0
 ·omega
 ·have h3:=(zcp (p+yi N-1) (G+54-e) zd zd (Nat.lt_of_le_of_lt (Nat.le_trans h1 h.le) h2)).1 h0;omega
theorem zsc {k N:Nat} {p:Int} {tr:Bool} {N':Nat} {p':Int} {tr':Bool} (hs:Sh k N p tr N' p' tr') (hN':N'≠0) (hk:k<=60) (hp:-3000<=p) (hp':-3000<=p') (h1:sc N p 0<sc 1 0 0) (h:sc (10*N+1) (p-1) k<=sc 1 0 0):p'+yi N'<=0:=by
 have hKK:=vs;have key:∀ (A:Nat) (P:Int),-4000<=P->(tr=false->sc N p 0=sc A P 0)->(tr=true->sc N p 0<sc A P 0)->sc A P 0<sc 1 0 54->sc N' p' 0<=sc A P k:=by
  intro A P hP a1 a2 a3;have hap:Apx A P 0 0 0 N p tr:=⟨a1,a2,by unfold sc;rw[Nat.zero_mul];exact Nat.zero_le _⟩;have h2:=(hs A P 0 0 0 a3 zs zs hap).le;rw[show -(0-(k:Int))=k by omega]at h2;exact h2
 have hup:sc (10*N+1) (p-1) 0<sc 1 0 54:=by
  have e:=yio (10*N+1) k (p-1) 0 zd;have e2:sc 1 0 ((0:Int)+54)=sc 1 0 0*2^54:=yio 1 54 0 0 zd;rw[Int.zero_add]at e e2;rw[e]at h;have h3:sc (10*N+1) (p-1) 0*1<=sc (10*N+1) (p-1) 0*2^k:=Nat.mul_le_mul_left _ (p2 k);have h4:0<sc 1 0 0:=zvr 0 0 zd;rw[e2];omega
 have hlt:sc N p 0<sc (10*N+1) (p-1) 0:=by
  have e:sc (N*10^1) (p-1) 0=sc N (p-1+(1:Nat)) 0:=ub N 1 (p-1) 0 zd;rw[show p-1+((1:Nat):Int)=p by omega]at e;rw[<-e];exact zhy.2 zd
 have hres:sc N' p' 0<sc 1 0 0:=by
  cases tr with
  | true=>
   have h5:=key (10*N+1) (p-1) zd (fun h=>zF) (fun _=>hlt) hup;exact Nat.lt_of_le_of_ne (Nat.le_trans h5 h) (fun e=>by
    have h7:=key (100*N+1) (p-2) zd (fun h=>zF) (fun _=>by
     have e3:sc (N*10^2) (p-2) 0=sc N (p-2+(2:Nat)) 0:=ub N 2 (p-2) 0 zd;rw[show p-2+((2:Nat):Int)=p by omega]at e3;rw[<-e3];exact zhy.2 zd) (Nat.lt_trans (by
     have e4:sc ((10*N+1)*10^1) (p-2) 0=sc (10*N+1) (p-2+(1:Nat)) 0:=ub _ 1 (p-2) 0 zd;rw[show p-2+((1:Nat):Int)=p-1 by omega]at e4;rw[<-e4];exact zhy.2 zd) hup)
    have e4:sc ((10*N+1)*10^1) (p-2) k=sc (10*N+1) (p-2+(1:Nat)) k:=ub _ 1 (p-2) k zd;rw[show p-2+((1:Nat):Int)=p-1 by omega]at e4;have h8:sc (100*N+1) (p-2) k<sc ((10*N+1)*10^1) (p-2) k:=zhy.2 zd;omega)
  | false=>
   have h5:=key N p zd (fun _=>rfl) (fun h=>zF) (Nat.lt_trans hlt hup);have e:=yio (10*N+1) k (p-1) 0 zd;have e2:=yio N k p 0 zd;rw[Int.zero_add]at e e2;have h6:sc N p 0*2^k<sc (10*N+1) (p-1) 0*2^k:=Nat.mul_lt_mul_of_pos_right hlt (p2 k);omega
 have h9:=zl2 N' p' hN' zd;rcases Int.lt_or_le 0 (p'+yi N') with h10 | h10
 ·have h11:=vf (y:=0) (z:=p'+yi N'-1) zd zd;omega
 ·exact h10
theorem zmy {k i N:Nat} {p:Int} (hN:N≠0) (hp:-3000<=p) (hi:p+yi N=-(i:Int)) (h2:2^k<=10^i):sc (10*N+1) (p-1) k<=sc 1 0 0:=by
 have hKK:=vs;have hlt:10*N+1<=1*10^(yi N+1):=by
  have:=xi N;rw[Nat.pow_succ];omega
 have e1:sc (1*10^(yi N+1)) (p-1) k=sc 1 (p-1+(yi N+1:Nat)) k:=ub 1 _ (p-1) k zd;rw[show p-1+((yi N+1:Nat):Int)=-(i:Int) by omega]at e1;have e2:sc (1*2^k) (-(i:Int)) 0=sc 1 (-(i:Int)) (0+k):=zm2 1 k _ 0 zd;rw[Int.zero_add,Nat.one_mul]at e2;have e3:sc (1*10^i) (-(i:Int)) 0=sc 1 (-(i:Int)+(i:Nat)) 0:=ub 1 i _ 0 (by have:=yfr hN;omega);rw[show -(i:Int)+((i:Nat):Int)=0 by omega,Nat.one_mul]at e3;have h3:sc (10*N+1) (p-1) k<=sc (1*10^(yi N+1)) (p-1) k:=ze2.2 hlt;have h4:sc (2^k) (-(i:Int)) 0<=sc (10^i) (-(i:Int)) 0:=ze2.2 h2;omega
theorem ztq {N:Nat} {p:Int} (hN:N≠0) (hp:-3000<=p) (hi:p+yi N=0) (h5:N / 10^(yi N-1)<5):sc (10*N+1) (p-1) (1:Nat)<=sc 1 0 0:=by
 have hKK:=vs;have hL:=yfr hN;have h6:N<5*10^(yi N-1):=(Nat.div_lt_iff_lt_mul (p10 _)).1 h5;have e1:=zm2 (10*N+1) 1 (p-1) 0 zd;rw[show (0:Int)+((1:Nat):Int)=((1:Nat):Int) by omega]at e1;have e3:sc (1*10^(yi N+1)) (p-1) 0=sc 1 (p-1+(yi N+1:Nat)) 0:=ub 1 _ (p-1) 0 zd;rw[show p-1+((yi N+1:Nat):Int)=0 by omega]at e3;rw[<-e1,<-e3];refine ze2.2 ?_;have e4:(10:Nat)^(yi N+1)=100*10^(yi N-1):=by
  rw[show yi N+1=(yi N-1)+2 by omega,Nat.pow_add,Nat.mul_comm]
 rw[e4];omega
section
def HS (F:Nat) (bias:Int) (inf nb m:Nat) (e:Int):Prop:=
 ∃ (x z:Nat) (k:Int),St m x z/\e=F+k+z/\xh F bias inf (x*2^k.toNat) (2^(-k).toNat)=nb
theorem zgf (d j:Nat) (p:Int):d*2^p.toNat*2^(-(p-j)).toNat=d*2^j*2^(p-j).toNat*2^(-p).toNat:=by
 rw[Nat.mul_assoc,Nat.mul_assoc,Nat.mul_assoc,<-Nat.pow_add,<-Nat.pow_add,<-Nat.pow_add];congr 2;omega
section
variable {F : Nat} {bias : Int} {inf nb m : Nat} {e : Int}
theorem HS.exact (d j:Nat) (p:Int) (h:xh F bias inf (d*2^p.toNat) (2^(-p).toNat)=nb):HS F bias inf nb (d*2^j) (p+F-j):=by
 refine⟨d*2^j,0,p-j,Or.inl zi,zd,?_⟩;rw[<-h];refine ue F bias inf (qg _ ze) (qg _ ze) ?_;exact (zgf d j p).symm
theorem HS.sticky (d N z:Nat) (K p:Int) (h1:d*2^z<N) (h2:N<(d+1)*2^z) (hp:p=z+K) (h:xh F bias inf (N*2^K.toNat) (2^(-K).toNat)=nb):HS F bias inf nb (d|||1) (p+F):=by
 refine⟨N,z,K,Or.inr ?_,zd,h⟩;have e:d|||1=if d%2=0 then d+1 else d:=by
  rw[zg2];by_cases c:d%2=0
  ·rw[if_pos c];omega
  ·rw[if_neg c];omega
 rw[e];by_cases c:d%2=0
 ·rw[if_pos c];refine⟨zd,by rw[Nat.add_sub_cancel];exact h1,Nat.lt_of_lt_of_le h2 (Nat.mul_le_mul_right _ zd)⟩
 ·rw[if_neg c];exact⟨zd,Nat.lt_of_le_of_lt (Nat.mul_le_mul_right _ zd) h1,h2⟩
theorem HS.half (h:HS F bias inf nb m e):HS F bias inf nb (m / 2|||m%2) (e+1):=by
 obtain⟨x,z,k,h1,h2,h3⟩:=h;exact⟨x,z+1,k,h1.half,zd,h3⟩
theorem zuk {m b:Nat} (h:m<2^(b+1)) (hb:1<=b):m / 2|||m%2<2^b:=by
 rw[zkh];have h2:m / 2<2^b:=by rw[Nat.pow_succ]at h;omega
 split
 ·exact h2
 ·have h3:2^b=2^(b-1)*2:=by rw[<-Nat.pow_succ,show (b-1).succ=b by omega]
  omega
theorem zul {m b:Nat} (h:2^(b+1)<=m):2^b<=m / 2|||m%2:=by
 rw[zkh];have h2:2^b<=m / 2:=by rw[Nat.pow_succ]at h;omega
 split <;> omega
theorem zej {m:Nat} (h:2<=m):m / 2|||m%2<m/\1<=m / 2|||m%2:=by
 rw[zkh];split <;> omega
def rdQ (m:Nat):Nat:=if m%4|||m / 4%2=3 then m / 4+1 else m / 4
theorem HS.done (h:HS F bias inf nb m e) (hbias:1<=bias) (hinf:inf=(2*bias+1).toNat*2^F) (hF:1<=F) (hm:m<2^(F+3))
  (hc:(2^(F+2)<=m/\-bias-1<=e)\/e=-bias-1):
  nb=zxg F bias inf (rdQ m) (e-F+2)/\rdQ m<=2^(F+1)/\(rdQ m<2^F->e=-bias-1):=by
 obtain⟨x,z,k,h1,h2,h3⟩:=h;have hE:e-F+2=k+z+2:=zd;have hnE:=zqh F bias m x z k (k+z+2) rfl h1 hm (by rcases hc with⟨c1,c2⟩ | c;exact Or.inl ⟨c1,zd⟩;exact Or.inr zd);have hR:rB (x*2^k.toNat) (2^(-k).toNat) (k+z+2)=rdQ m:=by
  rw[st_rB m x z k (k+z+2) rfl,<-h1.round];rfl
 have:=zks F bias inf _ _ (rdQ m) (k+z+2) (qg _ ze) hbias hinf hnE hR;rw[h3]at this;rw[hE];exact⟨this.1,this.2.1,fun h=>by have:=this.2.2.2 h;omega⟩
theorem HS.tiny (h:HS F bias inf nb m e) (hbias:1<=bias) (hF:1<=F) (hm:m<=1) (he:e<=-bias-1):nb=0:=by
 obtain⟨x,z,k,h1,h2,h3⟩:=h;have:=(ztk F bias inf m x z k (k+z+2) rfl h1 hm hbias hF zd).1;rw[<-h3];exact this
theorem HS.zero (h:HS F bias inf nb 0 e) (hbias:1<=bias) (hF:1<=F):nb=0:=by
 obtain⟨x,z,k,h1,h2,h3⟩:=h;have hx:x=0:=by
  rcases h1 with h1 | ⟨h1,-⟩
  ·rw[h1,Nat.zero_mul]
  ·simp at h1
 rw[<-h3,hx,Nat.zero_mul];exact zai F bias inf _ (qg _ ze) hbias hF
theorem znb {m:Nat} (h:m<=1):rdQ m=0:=by
 unfold rdQ;have:m=0\/m=1:=zd;rcases this with rfl | rfl <;> decide
end
theorem zok (F:Nat) (bias:Int) (inf:Nat) (L:Lit) (n:Nat) (hok:L.ok) (hx:L.hex=true) (hF:F<=52) (hbias:1<=bias) (hF1:1<=F):
  (goR L n).mant<2^64/\((goR L n).tr=false->xh F bias inf ((goR L n).mant*2^(goR L n).exp.toNat) (2^(-(goR L n).exp).toNat)=nvL F bias inf L)/\
   ((goR L n).tr=true->2^60<=(goR L n).mant/\HS F bias inf (nvL F bias inf L) ((goR L n).mant|||1) ((goR L n).exp+F)):=by
 obtain⟨z,nd,hz,hm,ht,hne,hze,hlt,hlen,hM⟩:=zon L n hok;have hb:xj L.hex=16:=zαq;have hMm:ju L.hex=16:=zαq;have hp:zb7 L.hex=4:=zαq;have htn:zjn L.hex=2:=zαq;rw[hb]at hm ht hne hlt hM;rw[hMm]at hz hM;rw[hp]at hne;have e16:∀ k:Nat,16^k=2^(4*k):=fun k=>by rw[Nat.pow_mul]
 have hnv:nvL F bias inf L=xh F bias inf (L.num*2^L.ex.toNat) (2^(-L.ex).toNat):=by unfold nvL nvT;rw[htn]
 refine⟨by rw[e16]at hM;exact hM,fun h=>?_,fun h=>?_⟩
 ·rw[hnv];by_cases h0:L.num=0
  ·obtain⟨a1,a2,-⟩:=hze h0;rw[a1,a2,h0,Nat.zero_mul,Nat.zero_mul];rw[zai F bias inf _ (qg _ ze) hbias hF1,zai F bias inf _ (qg _ ze) hbias hF1]
  ·obtain⟨-,-,a3,-⟩:=hne h0;rw[ht]at h;have hdv:L.num=(goR L n).mant*2^(4*z):=by
    have h1:L.num%16^z=0:=zI;rw[hm,<-e16];exact (Nat.div_mul_cancel (Nat.dvd_of_mod_eq_zero h1)).symm
   refine ue F bias inf (qg _ ze) (qg _ ze) ?_;rw[hdv,a3];have:=zgf (goR L n).mant (4*z) (((4*z:Nat):Int)+L.ex);rw[show ((4*z:Nat):Int)+L.ex-((4*z:Nat):Int)=L.ex by omega]at this;exact this
 ·have h1:L.num%16^z≠0:=by rw[ht]at h;exact of_decide_eq_true h
  have h0:L.num≠0:=by intro e;rw[e]at h1;simp at h1
  obtain⟨a1,a2,a3,-⟩:=hne h0;have hz0:z≠0:=by intro e;rw[e]at h1;simp[Nat.mod_one]at h1
  refine⟨?_,?_⟩
  ·rw[hm];rw[Nat.le_div_iff_mul_le (Nat.pow_pos zd)];refine Nat.le_trans ?_ a2;rw[e16,e16,<-Nat.pow_add];exact Nat.pow_le_pow_right zd zd
  ·have hdm:=Nat.div_add_mod L.num (16^z);have hml:L.num%16^z<16^z:=Nat.mod_lt _ (Nat.pow_pos zd);rw[<-hm,e16]at hdm;rw[e16]at hml h1;refine HS.sticky (goR L n).mant L.num (4*z) L.ex (goR L n).exp ?_ ?_ a3 hnv.symm
   ·rw[Nat.mul_comm];omega
   ·rw[Nat.add_mul,Nat.one_mul,Nat.mul_comm];omega
end
theorem ze0 {A n h:Nat} (hn:0<n):2*h*n<=2*A↔2*h<=2*(A / n)+(A%n != 0).toNat:=by
 have h1:2*h*n<=2*A↔h*n<=A:=by rw[Nat.mul_assoc];omega
 rw[h1,<-Nat.le_div_iff_mul_le hn];cases (A%n != 0) <;> simp <;> omega
theorem zjq {A n h:Nat} (hn:0<n):2*A<=2*h*n↔2*(A / n)+(A%n != 0).toNat<=2*h:=by
 have h1:2*A<=2*h*n↔A<=h*n:=by rw[Nat.mul_assoc];omega
 have hd:=Nat.div_add_mod A n;have hm:=Nat.mod_lt A hn;rw[h1];by_cases h0:A%n=0
 ·have e:(A%n != 0)=false:=by rw[h0];rfl
  rw[e];rw[h0,Nat.add_zero]at hd;constructor
  ·intro h2;have:A / n<=h:=by
    rw[<-hd,Nat.mul_comm n]at h2;exact Nat.le_of_mul_le_mul_right h2 hn
   simp;omega
  ·intro h2;have:A / n<=h:=by simp at h2;omega
   rw[<-hd,Nat.mul_comm n];exact Nat.mul_le_mul_right n this
 ·have e:(A%n != 0)=true:=by rw[bne_iff_ne];exact h0
  rw[e];constructor
  ·intro h2;have:A / n<h:=by
    rw[Nat.div_lt_iff_lt_mul hn];rcases Nat.lt_or_eq_of_le h2 with h3 | h3
    ·exact h3
    ·exact absurd (by rw[h3];exact Nat.mul_mod_left h n) h0
   show 2*(A / n)+1<=2*h;omega
  ·intro h2;have h3:A / n<h:=by
    have:2*(A / n)+1<=2*h:=h2;omega
   rw[Nat.div_lt_iff_lt_mul hn]at h3;omega
theorem zh9 (A n u:Nat) (hn:0<n) (hu:1<=u):vi (2*(A / n)+(A%n != 0).toNat) (2^(u+1))=vi A (n*2^u):=by
 obtain⟨V,hV⟩:∃ V,2^u=2*V:=⟨2^(u-1),by rw[show u=u-1+1 by omega,Nat.pow_succ];simp;omega⟩;have hV0:0<V:=by have:=Nat.two_pow_pos u;omega
 have hs:=kt A (n*2^u) (Nat.mul_pos hn (Nat.two_pow_pos u));generalize vi A (n*2^u)=s at *
 rw[qf _ _ s (Nat.two_pow_pos _),Nat.pow_succ,hV];rw[hV]at hs;have e1:s*(n*(2*V))=2*(s*V*n):=by rw[Nat.mul_left_comm n,Nat.mul_left_comm s,Nat.mul_comm n,Nat.mul_assoc s]
 have e2:n*(2*V)=2*(V*n):=by rw[Nat.mul_left_comm,Nat.mul_comm n]
 have e3:s*(2*V*2)=4*(s*V):=by rw[show 2*V*2=4*V by omega,Nat.mul_left_comm]
 rw[e1,e2]at hs;rw[e3];have a1:=ze0 (A:=A) (h:=2*(s*V)-V) hn;have a2:=zjq (A:=A) (h:=2*(s*V)-V) hn;have b1:=ze0 (A:=A) (h:=2*(s*V)+V) hn;have b2:=zjq (A:=A) (h:=2*(s*V)+V) hn;have f1:2*(2*(s*V)-V)*n=4*(s*V*n)-2*(V*n):=by
  rw[Nat.mul_assoc,Nat.sub_mul,Nat.mul_assoc];omega
 have f2:2*(2*(s*V)+V)*n=4*(s*V*n)+2*(V*n):=by
  rw[Nat.mul_assoc,Nat.add_mul,Nat.mul_assoc];omega
 rw[f1]at a1 a2;rw[f2]at b1 b2;generalize 2*(A / n)+(A%n != 0).toNat=t at *
 have hsV:s=0\/V<=s*V:=by
  rcases Nat.eq_zero_or_pos s with h | h
  ·exact Or.inl h
  ·exact Or.inr (Nat.le_mul_of_pos_left V h)
 have hsn:s=0\/V*n<=s*V*n:=hsV.imp_right (fun h=>Nat.mul_le_mul_right n h);have hz:0<V*n:=Nat.mul_pos hV0 hn;have h0:s=0->s*V=0:=fun h=>by rw[h,Nat.zero_mul]
 have h0n:s=0->s*V*n=0:=fun h=>by rw[h0 h,Nat.zero_mul]
 generalize s*V*n=y at *
 generalize s*V=x at *
 generalize V*n=z at *
 obtain⟨c1,c2,c3⟩:=hs;refine⟨?_,?_,?_⟩
 ·omega
 ·omega
 ·intro ho;have:=c3 ho;omega
theorem zgl {A n k:Nat} (hn:0<n) (hk:1<=k):2^k<=2*(A / n)+(A%n != 0).toNat↔2^k*n<=2*A:=by
 obtain⟨h,hh⟩:∃ h,2^k=2*h:=⟨2^(k-1),by rw[show k=k-1+1 by omega,Nat.pow_succ];simp;omega⟩;rw[hh];exact (ze0 hn).symm
theorem zkd {m n:Nat} (d:Int) (more j:Nat):le2 (m*2^d.toNat) (n*2^(-d).toNat) (d-more-1+j)↔2^j*n<=2*(m*2^more):=by
 rw[ws (k:=d-more-1+j) (j:=(more:Int)+1-d) (n:=j) zd];refine uf (p2 0) (p2 ((-d).toNat+(d-more-1).toNat)) ?_ ?_
 ·rw[Nat.pow_zero,Nat.mul_one,Nat.pow_add,show (-((more:Int)+1-d)).toNat=(d-more-1).toNat by omega];simp only[Nat.mul_assoc]
 ·have e:2*(m*2^more)=m*2^(more+1):=by rw[Nat.pow_succ,Nat.mul_left_comm,Nat.mul_comm 2]
  rw[Nat.pow_zero,Nat.mul_one,e,Nat.mul_assoc,Nat.mul_assoc,<-Nat.pow_add,<-Nat.pow_add];congr 2;omega
theorem zni {m n:Nat} (d:Int) (more L:Nat) (hm:m≠0) (hn:0<n) (hL:1<=L) (hl:(2*((m*2^more) / n)+((m*2^more)%n != 0).toNat).log2=L):uo (m*2^d.toNat) (n*2^(-d).toNat)=d-more-1+L:=by
 generalize ht:2*((m*2^more) / n)+((m*2^more)%n != 0).toNat=t at hl;have h0:t≠0:=by
  intro h;rw[h]at hl;simp at hl;omega
 have a1:2^L<=t:=by rw[<-hl];exact Nat.log2_self_le h0
 have a2:t<2^(L+1):=by rw[<-hl];exact Nat.lt_log2_self
 refine zfa (Nat.mul_ne_zero hm (by have:=p2 d.toNat;omega)) (Nat.mul_ne_zero zd (by have:=p2 (-d).toNat;omega)) ?_ ?_
 ·rw[zkd,<-zgl hn hL,ht];exact a1
 ·rw[Int.add_assoc,show ((L:Int)+1)=((L+1:Nat):Int) by omega,zkd,<-zgl hn zd,ht];omega
theorem ztw {m n t:Nat} (d E:Int) (more u:Nat) (hn:0<n) (hu:1<=u) (hE:E-d+more=u) (ht:2*((m*2^more) / n)+((m*2^more)%n != 0).toNat=t):vi (t*2^(d-more-1-E).toNat) (2^(E-(d-more-1)).toNat)=rB (m*2^d.toNat) (n*2^(-d).toNat) E:=by
 rw[show (d-more-1-E).toNat=0 by omega,show (E-(d-more-1)).toNat=u+1 by omega,Nat.pow_zero,Nat.mul_one,<-ht,zh9 _ _ _ hn hu];unfold rB;refine yj7 (Nat.mul_pos hn (p2 _)) (Nat.mul_pos (Nat.mul_pos hn (p2 _)) (p2 _)) ?_;rw[show m*2^more*(n*2^(-d).toNat*2^E.toNat)=m*n*(2^more*2^(-d).toNat*2^E.toNat) by ac_rfl,show m*2^d.toNat*2^(-E).toNat*(n*2^u)=m*n*(2^d.toNat*2^(-E).toNat*2^u) by ac_rfl,<-Nat.pow_add,<-Nat.pow_add,<-Nat.pow_add,<-Nat.pow_add];congr 2;omega
theorem znr (f bias:Int) (inf:Nat) {m n t:Nat} (d:Int) (more:Nat) (hm:m≠0) (hn:0<n) (hf:0<=f) (ht:2*((m*2^more) / n)+((m*2^more)%n != 0).toNat=t) (hL:f+2<=(t.log2:Int)):xh f bias inf (t*2^(d-more-1).toNat) (2^(-(d-more-1)).toNat)=xh f bias inf (m*2^d.toNat) (n*2^(-d).toNat):=by
 have h0:t≠0:=by intro h;rw[h]at hL;simp at hL;omega
 have o1:=zb9 t (d-more-1) h0;have o2:=zni d more t.log2 hm hn zd (by rw[ht]);have ha:t*2^(d-more-1).toNat≠0:=Nat.mul_ne_zero h0 (by have:=p2 (d-more-1).toNat;omega);have hb:m*2^d.toNat≠0:=Nat.mul_ne_zero hm (by have:=p2 d.toNat;omega);have hE:yt f bias (t*2^(d-more-1).toNat) (2^(-(d-more-1)).toNat)=yt f bias (m*2^d.toNat) (n*2^(-d).toNat):=by
  unfold yt;rw[if_neg ha,if_neg hb,o1,o2]
 have hE2:d-more-1+t.log2-f<=yt f bias (m*2^d.toNat) (n*2^(-d).toNat):=by
  unfold yt;rw[if_neg hb,o2];omega
 unfold xh;rw[hE];generalize yt f bias (m*2^d.toNat) (n*2^(-d).toNat)=E at *
 obtain⟨u,hu⟩:∃ u:Nat,E-d+more=u:=⟨(E-d+more).toNat,zd⟩;rw[znc,ztw d E more u hn zd hu ht]
section
structure FmtOK (fmt:Ieee.Format) (f:Nat) (bias:Int) (inf:Nat):Prop where
 hf:fmt.fractionBits=f
 hl:fmt.leastPlace=1-bias-f
 hi:fmt.infRung=inf
 hinf:inf=(2*bias+1).toNat*2^f
 hb:1<=bias
 hfb:(f:Int)+2<=bias
 hf2:2<=f
 hw:inf<fmt.signWeight
theorem FmtOK.double:FmtOK Ieee.double 52 1023 9218868437227405312:=⟨rfl,ze,ze,ze,ze,ze,ze,ze⟩
section
variable {fmt : Ieee.Format} {f : Nat} {bias : Int} {inf : Nat}
theorem FmtOK.binade (h:FmtOK fmt f bias inf):fmt.binade=2^f:=by unfold Ieee.Format.binade;rw[h.hf]
theorem FmtOK.near (h:FmtOK fmt f bias inf) (neg:Bool) (mag:Nat) (place:Int):fmt.nearest neg mag place=fmt.word neg (xh f bias inf (mag*2^place.toNat) (2^(-place).toNat)):=by
 have h1:=h.hf;exact zg4 fmt f bias inf (by rw[h1]) h.hl h.hi (by rw[Int.toNat_natCast];exact h.hinf) h.hb neg mag place
theorem zcy (h:FmtOK fmt f bias inf) (neg:Bool) (k S:Nat) (h1:2^f<=S) (h2:S<2^(f+1)) (hk:k*2^f+S<inf):fmt.read (fmt.word neg (k*2^f+S))=.number neg S (fmt.leastPlace+k):=by
 have hw:=h.hw;have hB:=h.binade;have hi:=h.hi;rw[Nat.pow_succ]at h2;have hBp:=p2 f;unfold Ieee.Format.read Ieee.Format.word;simp only[hB,hi];generalize 2^f=B at *
 generalize fmt.signWeight=W at *
 have hkB:S<=k*B+S:=Nat.le_add_left _ _;have m3:(k*B+S)%B=S-B:=by
  rw[Nat.mul_comm,Nat.mul_add_mod];rw[Nat.mod_eq_sub_mod h1,Nat.mod_eq_of_lt zd]
 have m4:(k*B+S) / B=k+1:=by
  rw[Nat.mul_comm,Nat.mul_add_div hBp];congr 1;exact Nat.div_eq_of_lt_le (by rw[Nat.one_mul];exact h1) zd
 obtain⟨r,hr⟩:=zX (k*B+S);rw[hr]at m3 m4 hk hkB ⊢;have m1:(if neg=true then W+r else r)%W=r:=by
  cases neg
  ·simp only[Bool.false_eq_true,if_false];exact Nat.mod_eq_of_lt zd
  ·simp only[if_true];rw[Nat.add_mod_left];exact Nat.mod_eq_of_lt zd
 have m2:((if neg=true then W+r else r) / W%2==1)=neg:=by
  cases neg
  ·simp only[Bool.false_eq_true,if_false];rw[Nat.div_eq_of_lt zd];rfl
  ·simp only[if_true];rw[Nat.add_div_left _ zd,Nat.div_eq_of_lt zd];rfl
 rw[m1,m2,m3,m4,if_neg zd,if_pos hk];congr 1;omega
def RdV (fmt:Ieee.Format) (x:Nat) (neg:Bool) (v:Nat):Prop:=∃ m j,fmt.read x=.number neg m j/\m≠0/\m*2^j.toNat=v*2^(-j).toNat
theorem zln (h:FmtOK fmt f bias inf) (d:Nat) (h0:d≠0) (hd:d<2^(f+1)):xh f bias inf d 1=(d.log2+bias.toNat-1)*2^f+d*2^(f-d.log2)/\d.log2<=f:=by
 have hb:=h.hb;have hfb:=h.hfb;have hl:d.log2<=f:=by
  have:=(Nat.log2_lt h0).2 hd;omega
 have ho:uo d 1=d.log2:=by
  have:=zb9 d 0 h0;simpa using this
 have hE:yt f bias d 1=(d.log2:Int)-f:=by
  unfold yt;rw[if_neg h0,ho];omega
 refine⟨?_,hl⟩;unfold xh;rw[hE,if_pos zd];unfold rB;rw[show ((d.log2:Int)-f).toNat=0 by omega,show (-((d.log2:Int)-f)).toNat=f-d.log2 by omega,show ((d.log2:Int)-f-(1-bias-f)).toNat=d.log2+bias.toNat-1 by omega];have:=zad (d*2^(f-d.log2)) 1 zd;rw[Nat.mul_one]at this;rw[Nat.pow_zero,Nat.mul_one,this];rfl
theorem zhw (d:Nat) (h0:d≠0) (h:d.log2<=f):2^f<=d*2^(f-d.log2)/\d*2^(f-d.log2)<2^(f+1):=by
 have h1:2^d.log2<=d:=Nat.log2_self_le h0;have h2:d<2^(d.log2+1):=Nat.lt_log2_self;constructor
 ·calc 2^f=2^d.log2*2^(f-d.log2):=by rw[<-Nat.pow_add];congr 1;omega
   _<=_:=Nat.mul_le_mul_right _ h1
 ·calc d*2^(f-d.log2)<2^(d.log2+1)*2^(f-d.log2):=Nat.mul_lt_mul_of_pos_right h2 (p2 _)
   _=2^(f+1):=by rw[<-Nat.pow_add];congr 1;omega
theorem RdV.small (h:FmtOK fmt f bias inf) (neg:Bool) (d:Nat) (h0:d≠0) (hd:d<2^(f+1)):RdV fmt (fmt.word neg (xh f bias inf d 1)) neg d:=by
 obtain⟨e,hl⟩:=zln h d h0 hd;obtain⟨h1,h2⟩:=zhw (f:=f) d h0 hl;have hb:=h.hb;have hfb:=h.hfb;rw[e];refine⟨_,_,zcy h neg _ _ h1 h2 ?_,?_,?_⟩
 ·rw[h.hinf];have h3:(d.log2+bias.toNat-1+2)*2^f<=(2*bias+1).toNat*2^f:=Nat.mul_le_mul_right _ zd;rw[Nat.pow_succ]at h2;rw[Nat.add_mul]at h3;omega
 ·have:=p2 f;omega
 ·rw[h.hl];rw[show (1-bias-(f:Int)+((d.log2+bias.toNat-1:Nat):Int)).toNat=0 by omega,show (-(1-bias-(f:Int)+((d.log2+bias.toNat-1:Nat):Int))).toNat=f-d.log2 by omega,Nat.pow_zero,Nat.mul_one]
theorem zpa (m v n u:Nat) (i j:Int) (hi:m*2^i.toNat=v*2^(-i).toNat) (hj:n*2^j.toNat=u*2^(-j).toNat):m*n*2^(i+j).toNat=v*u*2^(-(i+j)).toNat:=by
 have key:m*n*2^(i+j).toNat*(2^(-i).toNat*2^(-j).toNat*2^(i.toNat+j.toNat))=v*u*2^(-(i+j)).toNat*(2^(-i).toNat*2^(-j).toNat*2^(i.toNat+j.toNat)):=by
  have e1:m*n*2^(i+j).toNat*(2^(-i).toNat*2^(-j).toNat*2^(i.toNat+j.toNat))=(m*2^i.toNat)*(n*2^j.toNat)*(2^(i+j).toNat*2^(-i).toNat*2^(-j).toNat):=by
   rw[Nat.pow_add];ac_rfl
  have e2:v*u*2^(-(i+j)).toNat*(2^(-i).toNat*2^(-j).toNat*2^(i.toNat+j.toNat))=(v*2^(-i).toNat)*(u*2^(-j).toNat)*(2^(-(i+j)).toNat*2^i.toNat*2^j.toNat):=by
   rw[Nat.pow_add];ac_rfl
  rw[e1,e2,hi,hj,<-Nat.pow_add,<-Nat.pow_add,<-Nat.pow_add,<-Nat.pow_add];congr 2;omega
 exact Nat.eq_of_mul_eq_mul_right (Nat.mul_pos (Nat.mul_pos (p2 _) (p2 _)) (p2 _)) key
theorem zpb (m v n u:Nat) (i j:Int) (hi:m*2^i.toNat=v*2^(-i).toNat) (hj:n*2^j.toNat=u*2^(-j).toNat):m*2^(i-j).toNat*u=v*(n*2^(-(i-j)).toNat):=by
 have key:m*2^(i-j).toNat*u*(2^(-i).toNat*2^(-j).toNat*2^(i.toNat+j.toNat))=v*(n*2^(-(i-j)).toNat)*(2^(-i).toNat*2^(-j).toNat*2^(i.toNat+j.toNat)):=by
  have e1:m*2^(i-j).toNat*u*(2^(-i).toNat*2^(-j).toNat*2^(i.toNat+j.toNat))=(m*2^i.toNat)*(u*2^(-j).toNat)*(2^(i-j).toNat*2^(-i).toNat*2^j.toNat):=by
   rw[Nat.pow_add];ac_rfl
  have e2:v*(n*2^(-(i-j)).toNat)*(2^(-i).toNat*2^(-j).toNat*2^(i.toNat+j.toNat))=(v*2^(-i).toNat)*(n*2^j.toNat)*(2^(-(i-j)).toNat*2^i.toNat*2^(-j).toNat):=by
   rw[Nat.pow_add];ac_rfl
  rw[e1,e2,hi,hj,<-Nat.pow_add,<-Nat.pow_add,<-Nat.pow_add,<-Nat.pow_add];congr 2;omega
 exact Nat.eq_of_mul_eq_mul_right (Nat.mul_pos (Nat.mul_pos (p2 _) (p2 _)) (p2 _)) key
theorem RdV.mul (h:FmtOK fmt f bias inf) {x y v u:Nat} {s t:Bool} (hx:RdV fmt x s v) (hy:RdV fmt y t u):fmt.mul x y=some (fmt.word (s ^^ t) (xh f bias inf (v*u) 1)):=by
 obtain⟨m,i,hx,-,hi⟩:=hx;obtain⟨n,j,hy,-,hj⟩:=hy;unfold Ieee.Format.mul;rw[hx,hy];show some (fmt.nearest (s ^^ t) (m*n) (i+j))=_;rw[h.near];congr 2;refine ue f bias inf (by have:=p2 (-(i+j)).toNat;omega) ze ?_;rw[Nat.mul_one];exact zpa m v n u i j hi hj
theorem RdV.div (h:FmtOK fmt f bias inf) {x y v u:Nat} {s t:Bool} (hx:RdV fmt x s v) (hy:RdV fmt y t u) (hu:u≠0):fmt.div x y=some (fmt.word (s ^^ t) (xh f bias inf v u)):=by
 obtain⟨m,i,hx,hm,hi⟩:=hx;obtain⟨n,j,hy,hn,hj⟩:=hy;unfold Ieee.Format.div;rw[hx,hy];show Option.map _ (if n=0 then _ else _)=_;rw[if_neg hn,h.hf];show some (fmt.nearest (s ^^ t) (2*((m<<<(f+2+n.log2-m.log2)) / n)+((m<<<(f+2+n.log2-m.log2))%n != 0).toNat) (i-j-(f+2+n.log2-m.log2:Nat)-1))=_;rw[h.near,Nat.shiftLeft_eq];congr 2;obtain⟨more,hmore⟩:=zX (f+2+n.log2-m.log2);rw[hmore];obtain⟨q,hq⟩:=zX (2*((m*2^more) / n)+((m*2^more)%n != 0).toNat);rw[hq];have hL:((f:Nat):Int)+2<=(q.log2:Int):=by
  have h1:2^m.log2<=m:=Nat.log2_self_le hm;have h2:n<2^(n.log2+1):=Nat.lt_log2_self;have h3:2^(f+1)<=(m*2^more) / n:=by
   rw[Nat.le_div_iff_mul_le zd];have h4:2^(f+1)*n<=2^(f+1)*2^(n.log2+1):=Nat.mul_le_mul_left _ zd;have h5:2^m.log2*2^more<=m*2^more:=Nat.mul_le_mul_right _ h1;rw[<-Nat.pow_add]at h4 h5;refine Nat.le_trans h4 (Nat.le_trans (Nat.pow_le_pow_right zd zd) h5)
  have h6:2^(f+2)<=q:=by rw[<-hq,Nat.pow_succ 2 (f+1)];omega
  have h7:q≠0:=by have:=p2 (f+2);omega
  have:=(Nat.le_log2 h7).2 h6;omega
 rw[znr f bias inf (i-j) more hm zd zd hq hL];have h8:n*2^(-(i-j)).toNat≠0:=by have:=Nat.mul_pos (Nat.pos_of_ne_zero hn) (p2 (-(i-j)).toNat);omega
 exact ue f bias inf h8 hu (zpb m v n u i j hi hj)
theorem zgo {s:Bool} {m v:Nat} {i base:Int} (hi:m*2^i.toNat=v*2^(-i).toNat) (hb:base<=i) (hb0:base<=0):Ieee.signed s m (i-base).toNat=if s then -((v*2^(-base).toNat:Nat):Int) else ((v*2^(-base).toNat:Nat):Int):=by
 have e:m<<<(i-base).toNat=v*2^(-base).toNat:=by
  rw[Nat.shiftLeft_eq];have key:m*2^(i-base).toNat*2^(-i).toNat=v*2^(-base).toNat*2^(-i).toNat:=by
   have e1:m*2^(i-base).toNat*2^(-i).toNat=m*2^i.toNat*2^(-base).toNat:=by
    rw[Nat.mul_assoc,Nat.mul_assoc,<-Nat.pow_add,<-Nat.pow_add];congr 2;omega
   rw[e1,hi];ac_rfl
  exact Nat.eq_of_mul_eq_mul_right (p2 _) key
 unfold Ieee.signed;rw[e]
theorem RdV.order {x y v u:Nat} {s t:Bool} (hx:RdV fmt x s v) (hy:∃ n j,fmt.read y=.number t n j/\j<=0/\n*2^j.toNat=u*2^(-j).toNat):
  fmt.order x y=some (compare (if s then -(v:Int) else (v:Int)) (if t then -(u:Int) else (u:Int))):=by
 obtain⟨m,i,hx,-,hi⟩:=hx;obtain⟨n,j,hy,hj0,hj⟩:=hy;unfold Ieee.Format.order;rw[hx,hy];show some (compare (Ieee.signed s m (i-min i j).toNat) (Ieee.signed t n (j-min i j).toNat))=_;rw[zgo hi zd zd,zgo hj zd zd];congr 1;obtain⟨K,hK⟩:=zX (2^(-min i j).toNat);have hKp:0<K:=by rw[<-hK];exact p2 _
 rw[hK];have e1:∀ (b:Bool) (z:Nat),(if b then -((z*K:Nat):Int) else ((z*K:Nat):Int))=(if b then -(z:Int) else (z:Int))*K:=by
  intro b z;cases b
  ·simp
  ·simp[Int.neg_mul]
 rw[e1,e1];generalize (if s then -(v:Int) else (v:Int))=a;generalize (if t then -(u:Int) else (u:Int))=b;have hKi:(0:Int)<(K:Int):=zd;rcases Int.lt_trichotomy a b with h | h | h
 ·rw[Int.compare_eq_lt.2 h,Int.compare_eq_lt.2 (Int.mul_lt_mul_of_pos_right h hKi)]
 ·rw[h];rw[Int.compare_eq_eq.2 rfl,Int.compare_eq_eq.2 rfl]
 ·rw[Int.compare_eq_gt.2 h,Int.compare_eq_gt.2 (Int.mul_lt_mul_of_pos_right h hKi)]
theorem RdV.large (h:FmtOK fmt f bias inf) (neg:Bool) (d:Nat) (hd:2^(f+1)<=d) (hlt:d<2^bias.toNat):∃ v,RdV fmt (fmt.word neg (xh f bias inf d 1)) neg v/\2^(f+1)<=v:=by
 have hb:=h.hb;have hfb:=h.hfb;have h0:d≠0:=by have:=p2 (f+1);omega
 have hlo:f+1<=d.log2:=(Nat.le_log2 h0).2 hd;have hhi:d.log2<bias.toNat:=(Nat.log2_lt h0).2 hlt;have ho:uo d 1=d.log2:=by
  have:=zb9 d 0 h0;simpa using this
 have hE:yt f bias d 1=(d.log2:Int)-f:=by
  unfold yt;rw[if_neg h0,ho];omega
 have hN:xh f bias inf d 1=(d.log2+bias.toNat-1)*2^f+vi d (2^(d.log2-f)):=by
  unfold xh;rw[hE,if_pos zd];unfold rB;rw[show ((d.log2:Int)-f).toNat=d.log2-f by omega,show (-((d.log2:Int)-f)).toNat=0 by omega,show ((d.log2:Int)-f-(1-bias-f)).toNat=d.log2+bias.toNat-1 by omega];rw[Nat.pow_zero,Nat.mul_one,Nat.one_mul];rfl
 have hB:=p2 (d.log2-f);have h1:2^d.log2<=d:=Nat.log2_self_le h0;have h2:d<2^(d.log2+1):=Nat.lt_log2_self;have hr1:2^f<=vi d (2^(d.log2-f)):=by
  have e:=zad (2^f) (2^(d.log2-f)) hB;rw[<-e];refine zcv hB ?_;rw[<-Nat.pow_add,show f+(d.log2-f)=d.log2 by omega];exact h1
 have hr2:vi d (2^(d.log2-f))<=2^(f+1):=by
  have e:=zad (2^(f+1)) (2^(d.log2-f)) hB;rw[<-e];refine zcv hB ?_;rw[<-Nat.pow_add,show f+1+(d.log2-f)=d.log2+1 by omega];omega
 have hinf:∀ k S,k+2<=2*bias.toNat+1->S<2^(f+1)->k*2^f+S<inf:=by
  intro k S hk hS;rw[h.hinf];have h3:(k+2)*2^f<=(2*bias+1).toNat*2^f:=Nat.mul_le_mul_right _ zd;rw[Nat.pow_succ]at hS;rw[Nat.add_mul]at h3;omega
 rw[hN];obtain⟨k,hk⟩:=zX (d.log2+bias.toNat-1);rw[hk];generalize vi d (2^(d.log2-f))=r at *
 have key:∀ (K S:Nat),2^f<=S->S<2^(f+1)->k<=K->K<=k+1->∃ v,RdV fmt (fmt.word neg (K*2^f+S)) neg v/\2^(f+1)<=v:=by
  intro K S a1 a2 a3 a4;refine⟨S*2^(K+1-bias.toNat-f),⟨S,_,zcy h neg K S a1 a2 (hinf K S zd a2),by have:=p2 f;omega,?_⟩,?_⟩
  ·rw[h.hl,show (1-bias-(f:Int)+(K:Int)).toNat=K+1-bias.toNat-f by omega,show (-(1-bias-(f:Int)+(K:Int))).toNat=0 by omega,Nat.pow_zero,Nat.mul_one]
  ·have h5:2^f*2^1<=S*2^(K+1-bias.toNat-f):=Nat.mul_le_mul a1 (Nat.pow_le_pow_right zd zd);rw[<-Nat.pow_add]at h5;exact h5
 by_cases hc:r=2^(f+1)
 ·have e:k*2^f+r=(k+1)*2^f+2^f:=by rw[hc,Nat.add_mul,Nat.pow_succ];omega
  rw[e];refine key (k+1) (2^f) (Nat.le_refl _) ?_ zd zd;rw[Nat.pow_succ];have:=p2 f;omega
 ·exact key k r hr1 zd zd zd
end
end
def dsD:List UInt8->Bool->Bool->Nat->Int->Nat->Bool×Bool×Nat×Int×Nat×List UInt8
 | [],dot,dig,nd,dp,N=>(dot,dig,nd,dp,N,[])
 | c::r,dot,dig,nd,dp,N=>
  if c=95 then dsD r dot dig nd dp N
  else if c=46 then (if dot then (dot,dig,nd,dp,N,c::r) else dsD r true dig nd nd N)
  else match dgV false c with
   | some d=>if d=0/\nd=0 then dsD r dot true nd (dp-1) N else dsD r dot true (nd+1) dp (N*10+d)
   | none=>(dot,dig,nd,dp,N,c::r)
def scG:List UInt8->Bool->Nat->Nat
 | [],_,n=>n
 | c::r,dot,n=>
  if c=95 then scG r dot n
  else if c=46 then (if dot then n else scG r true n)
  else match dgV false c with
   | some d=>scG r dot (n*10+d)
   | none=>n
theorem zdl:∀ (l:List UInt8) (st:RF) (N:Nat),(st.nd=0->N=0)->N<10^st.nd->(N≠0->10^(st.nd-1)<=N)->(st.nd≠0->N≠0) ->
  (dsD l st.dot st.dig st.nd st.dp N).1=(scF false l st).1.dot/\(dsD l st.dot st.dig st.nd st.dp N).2.1=(scF false l st).1.dig/\(dsD l st.dot st.dig st.nd st.dp N).2.2.1=(scF false l st).1.nd/\
  (dsD l st.dot st.dig st.nd st.dp N).2.2.2.1=(scF false l st).1.dp/\(dsD l st.dot st.dig st.nd st.dp N).2.2.2.2.1=scG l st.dot N/\(dsD l st.dot st.dig st.nd st.dp N).2.2.2.2.2=(scF false l st).2/\
  scG l st.dot N<10^(scF false l st).1.nd/\(scG l st.dot N≠0->10^((scF false l st).1.nd-1)<=scG l st.dot N)
 | [],st,N,h0,h1,h2,h3=>⟨rfl,rfl,rfl,rfl,rfl,rfl,h1,h2⟩
 | c::r,st,N,h0,h1,h2,h3=>by
  by_cases h95:c=95
  ·have e1:∀ dot dig nd dp N,dsD (c::r) dot dig nd dp N=dsD r dot dig nd dp N:=fun _ _ _ _ _=>by rw[dsD,if_pos h95]
   have e2:scF false (c::r) st=scF false r { st with us:=true }:=by rw[scF,if_pos h95]
   have e3:∀ dot n,scG (c::r) dot n=scG r dot n:=fun _ _=>by rw[scG,if_pos h95]
   rw[e1,e2,e3]
   exact zdl r { st with us:=true } N h0 h1 h2 h3
  by_cases h46:c=46
  ·by_cases hd:st.dot=true
   ·have e1:dsD (c::r) st.dot st.dig st.nd st.dp N=(st.dot,st.dig,st.nd,st.dp,N,c::r):=by rw[dsD,if_neg h95,if_pos h46,if_pos hd]
    have e2:scF false (c::r) st=(st,c::r):=by rw[scF,if_neg h95,if_pos h46,if_pos hd]
    have e3:scG (c::r) st.dot N=N:=by rw[scG,if_neg h95,if_pos h46,if_pos hd]
    rw[e1,e2,e3]
    exact⟨rfl,rfl,rfl,rfl,rfl,rfl,h1,h2⟩
   ·have e1:dsD (c::r) st.dot st.dig st.nd st.dp N=dsD r true st.dig st.nd st.nd N:=by rw[dsD,if_neg h95,if_pos h46,if_neg hd]
    have e2:scF false (c::r) st=scF false r { st with dot:=true,dp:=st.nd }:=by rw[scF,if_neg h95,if_pos h46,if_neg hd]
    have e3:scG (c::r) st.dot N=scG r true N:=by rw[scG,if_neg h95,if_pos h46,if_neg hd]
    rw[e1,e2,e3]
    exact zdl r { st with dot:=true,dp:=st.nd } N h0 h1 h2 h3
  cases hv:dgV false c with
  | none=>
   have e1:dsD (c::r) st.dot st.dig st.nd st.dp N=(st.dot,st.dig,st.nd,st.dp,N,c::r):=by rw[dsD,if_neg h95,if_neg h46,hv]
   have e2:scF false (c::r) st=(st,c::r):=by rw[scF,if_neg h95,if_neg h46,hv]
   have e3:scG (c::r) st.dot N=N:=by rw[scG,if_neg h95,if_neg h46,hv]
   rw[e1,e2,e3]
   exact⟨rfl,rfl,rfl,rfl,rfl,rfl,h1,h2⟩
  | some d=>
   have hd10:=zsu hv
   change d<10 at hd10
   have e2:scF false (c::r) st=scF false r (dgS false st d):=by rw[scF,if_neg h95,if_neg h46,hv]
   have e3:scG (c::r) st.dot N=scG r st.dot (N*10+d):=by rw[scG,if_neg h95,if_neg h46,hv]
   by_cases hz:d=0/\st.nd=0
   ·have e1:dsD (c::r) st.dot st.dig st.nd st.dp N=dsD r st.dot true st.nd (st.dp-1) N:=by
     rw[dsD,if_neg h95,if_neg h46,hv];simp only;rw[if_pos hz]
    have e4:dgS false st d={ st with dig:=true,dp:=st.dp-1 }:=by unfold dgS;rw[if_pos hz]
    have e5:N*10+d=N:=by rw[h0 hz.2,hz.1]
    rw[e1,e2,e3,e4,e5];exact zdl r { st with dig:=true,dp:=st.dp-1 } N h0 h1 h2 h3
   ·have e1:dsD (c::r) st.dot st.dig st.nd st.dp N=dsD r st.dot true (st.nd+1) st.dp (N*10+d):=by
     rw[dsD,if_neg h95,if_neg h46,hv];simp only;rw[if_neg hz]
    have e4:∃ nm mant tr,dgS false st d={ st with dig:=true,nd:=st.nd+1,nm:=nm,mant:=mant,tr:=tr }:=by
     unfold dgS;rw[if_neg hz];split
     ·exact⟨_,_,_,rfl⟩
     ·exact⟨_,_,_,rfl⟩
    obtain⟨nm,mant,tr,e4⟩:=e4;rw[e1,e2,e3,e4];have hne:N*10+d≠0:=by
     intro h;have a:N=0:=zd;have b:d=0:=zd;exact hz ⟨b,by rcases Nat.eq_zero_or_pos st.nd with h | h;exact h;exact absurd a (h3 zd)⟩
    refine zdl r { st with dig:=true,nd:=st.nd+1,nm:=nm,mant:=mant,tr:=tr } (N*10+d) (fun h=>absurd h zi) ?_ ?_ (fun _=>hne)
    ·show N*10+d<10^(st.nd+1);rw[Nat.pow_succ];omega
    ·intro _;show 10^(st.nd+1-1)<=N*10+d;rw[Nat.add_sub_cancel];by_cases hN:N=0
     ·have:st.nd=0:=by rcases Nat.eq_zero_or_pos st.nd with h | h;exact h;exact absurd hN (h3 zd)
      rw[this,Nat.pow_zero];omega
     ·have hnd:st.nd≠0:=fun h=>hN (h0 h)
      have:=h2 hN;have e:10^st.nd=10^(st.nd-1)*10:=by rw[<-Nat.pow_succ,show (st.nd-1).succ=st.nd by omega]
      omega
theorem zh1:∀ (l:List UInt8) (n:Nat),scG l true n=((l.takeWhile (xe false)).filterMap (dgV false)).foldl (fun n d=>n*10+d) n
 | [],n=>rfl
 | c::r,n=>by
  by_cases h95:c=95
  ·subst h95
   rw[scG,if_pos rfl,zh1 r,List.takeWhile_cons_of_pos (jx false),List.filterMap_cons_none (qx false)]
  by_cases h46:c=46
  ·subst h46
   rw[scG,if_neg ze,if_pos rfl,if_pos rfl,List.takeWhile_cons_of_neg (by rw[zod];decide)];rfl
  cases hv:dgV false c with
  | none=>
   have:xe false c=false:=by unfold xe;rw[hv];simp[h95]
   rw[scG,if_neg h95,if_neg h46,hv,List.takeWhile_cons_of_neg (by rw[this];decide)];rfl
  | some d=>
   have:xe false c=true:=by unfold xe;rw[hv];rfl
   rw[scG,if_neg h95,if_neg h46,hv,List.takeWhile_cons_of_pos this,List.filterMap_cons_some hv,List.foldl_cons]
   exact zh1 r _
theorem zh0:∀ (l:List UInt8) (n:Nat),scG l false n=((ve false l).filterMap (dgV false)++(yw false l).filterMap (dgV false)).foldl (fun n d=>n*10+d) n
 | [],n=>rfl
 | c::r,n=>by
  have key:xe false c=true->ve false (c::r)=c::ve false r/\yw false (c::r)=yw false r:=by
   intro h;have e:qi false (c::r)=qi false r:=by unfold qi;rw[List.dropWhile_cons_of_pos h]
   refine⟨by unfold ve;rw[List.takeWhile_cons_of_pos h],by unfold yw;rw[e]⟩
  have key2:xe false c=false->ve false (c::r)=[]/\qi false (c::r)=c::r:=by
   intro h;exact⟨by unfold ve;rw[List.takeWhile_cons_of_neg (by rw[h];decide)],by unfold qi;rw[List.dropWhile_cons_of_neg (by rw[h];decide)]⟩
  by_cases h95:c=95
  ·subst h95;obtain⟨k1,k2⟩:=key (jx false);rw[scG,if_pos rfl,zh0 r,k1,k2,List.filterMap_cons_none (qx false)]
  by_cases h46:c=46
  ·subst h46;obtain⟨k1,k2⟩:=key2 (zod false);have k3:yw false (46::r)=r.takeWhile (xe false):=by unfold yw;rw[k2];rfl
   rw[scG,if_neg ze,if_pos rfl,if_neg ze,zh1,k1,k3];rfl
  cases hv:dgV false c with
  | none=>
   have hd:xe false c=false:=by unfold xe;rw[hv];simp[h95]
   obtain⟨k1,k2⟩:=key2 hd;have k3:yw false (c::r)=[]:=by
    unfold yw;rw[k2,if_neg];intro h;exact h46 zI
   rw[scG,if_neg h95,if_neg h46,hv,k1,k3];rfl
  | some d=>
   have hd:xe false c=true:=by unfold xe;rw[hv];rfl
   obtain⟨k1,k2⟩:=key hd;rw[scG,if_neg h95,if_neg h46,hv,k1,k2,List.filterMap_cons_some hv,List.cons_append,List.foldl_cons];exact zh0 r _
theorem ztr {s:List UInt8} {L:Lit} (h:zau s=some L) (hx:L.hex=false) (h0:L.num≠0):
  s≠[]/\∃ dot nd dp rest,dsD (sgn s).2 false false 0 0 0=(dot,true,nd,dp,L.num,rest)/\nd=yi L.num/\(if dot=true then dp else (nd:Int))=(nd:Int)-(L.db.length:Int)/\
   ((rest=[]/\goX L=0)\/∃ c r1 d r2,rest=c::r1/\wc c=101/\(sgn r1).2=d::r2/\(48<=d.toNat/\d.toNat<=57)/\(∀ us,(scE (d::r2) us 0).2=(goE L.de,[]))/\L.en=(sgn r1).1):=by
 have hok:=zfk h;have hxs:yo (sgn s).2=false:=by rw[<-hok.2.2.2.1];exact hx
 have hb:yj s=(sgn s).2:=by unfold yj;rw[hxs];rfl
 have h':=h;rw[jv,hxs,hb]at h';obtain⟨hne,h1⟩:=zob h';obtain⟨hu,h2⟩:=zfn h1;obtain⟨x,hxE,hL⟩:=Option.map_eq_some_iff.1 h2;have hs:s≠[]:=by
  rintro rfl;exact hne ⟨rfl,rfl⟩
 obtain⟨a1,a2,a3,a4,a5,a6⟩:=zh2 false (sgn s).2;obtain⟨b1,b2,b3,b4,b5,b6,b7,b8⟩:=zdl (sgn s).2 RF.init 0 (fun _=>rfl) zαN (fun h=>absurd rfl h) (fun h=>absurd rfl h);have hda:L.da=(ve false (sgn s).2).filterMap (dgV false):=by rw[<-hL];unfold zdb;rw[hxs,hb]
 have hdb:L.db=(yw false (sgn s).2).filterMap (dgV false):=by rw[<-hL];unfold zdb;rw[hxs,hb]
 have hen:L.en=x.1:=by rw[<-hL];rfl
 have hde:L.de=x.2:=by rw[<-hL];rfl
 have hnum:scG (sgn s).2 RF.init.dot 0=L.num:=by
  show scG (sgn s).2 false 0=_;rw[zh0,<-hda,<-hdb];unfold Lit.num dgN;rw[hx];rfl
 rw[hnum]at b5 b7 b8;have hnd:(scF false (sgn s).2 RF.init).1.nd=yi L.num:=by
  have h3:=b8 h0;have h4:(scF false (sgn s).2 RF.init).1.nd≠0:=by
   intro e;rw[e,Nat.pow_zero]at b7;omega
  have:=xa ((scF false (sgn s).2 RF.init).1.nd-1) L.num h3 (by rw[show (scF false (sgn s).2 RF.init).1.nd-1+1=(scF false (sgn s).2 RF.init).1.nd by omega];exact b7);omega
 have hdig:(scF false (sgn s).2 RF.init).1.dig=true:=by
  rw[a3];exact decide_eq_true hne
 refine⟨hs,(scF false (sgn s).2 RF.init).1.dot,(scF false (sgn s).2 RF.init).1.nd,(scF false (sgn s).2 RF.init).1.dp,(scF false (sgn s).2 RF.init).2,?_,hnd,?_,?_⟩
 ·change (dsD (sgn s).2 false false 0 0 0).1=_ at b1;change (dsD (sgn s).2 false false 0 0 0).2.1=_ at b2;change (dsD (sgn s).2 false false 0 0 0).2.2.1=_ at b3;change (dsD (sgn s).2 false false 0 0 0).2.2.2.1=_ at b4;change (dsD (sgn s).2 false false 0 0 0).2.2.2.2.1=_ at b5;change (dsD (sgn s).2 false false 0 0 0).2.2.2.2.2=_ at b6;rw[hdig]at b2;rw[<-b1,<-b2,<-b3,<-b4,<-b5,<-b6]
 ·rw[a4,<-hda,<-hdb,zr9];have hsi:=zsa false L.da L.db (by rw[<-hx];exact hok.1);have hN:dgN (xj false) (L.da++L.db)=L.num:=by unfold Lit.num;rw[hx]
  rw[hN]at hsi;have h3:=hsi.lo h0;have h4:=xa ((stL false L.da L.db).nd-1) L.num h3.2 (by rw[show (stL false L.da L.db).nd-1+1=(stL false L.da L.db).nd by omega];exact hsi.hi);rw[hnd];omega
 ·rw[a1];cases hr:wx false (sgn s).2 with
  | nil=>
   rw[hr]at hxE;have hx0:x=(false,[]):=by
    have e:zhr false []=some (false,[]):=rfl;rw[e]at hxE;exact (Option.some.inj hxE).symm
   left;refine⟨rfl,?_⟩;unfold goX;rw[hen,hde,hx0];rfl
  | cons c r1=>
   rw[hr]at hxE;obtain⟨⟨l1,l2,l3,l4⟩,l5⟩:=zfn hxE;have hx1:x=((sgn r1).1,(sgn r1).2.filterMap (dgV false)):=(Option.some.inj l5).symm;right;cases hq:(sgn r1).2 with
   | nil=>exact absurd hq l2
   | cons d r2=>
    rw[hq]at l3 l4 hx1;refine⟨c,r1,d,r2,rfl,l1,hq,?_,?_,by rw[hen,hx1]⟩
    ·have h95:d≠95:=by
      rintro rfl;rw[okU,qx]at l4;simp at l4
     have hdu:xe false d=true:=by
      rw[List.all_cons,Bool.and_eq_true]at l3;exact l3.1
     obtain⟨v,hv⟩:=za9 hdu h95;exact (zfy d).1 (by rw[hv];rfl)
    ·intro us;rw[zcu,zcg l3,zas.2 l3,hde,hx1];rfl
section
theorem zqa {B S T:Nat} {k j:Nat} (hB:0<B) (h1:B<=S) (h2:S<2*B) (h3:B<=T) (h4:T<2*B) (h:S*2^k=T*2^j):S=T/\k=j:=by
 have key:∀ {S T k j:Nat},B<=S->S<2*B->B<=T->k<j->S*2^k=T*2^j->False:=by
  intro S T k j a1 a2 a3 a4 a5;have b1:S*2^k<2*B*2^k:=Nat.mul_lt_mul_of_pos_right a2 (p2 k);have b2:B*2^j<=T*2^j:=Nat.mul_le_mul_right _ a3;have b3:B*2^(k+1)<=B*2^j:=Nat.mul_le_mul_left _ (Nat.pow_le_pow_right zd a4);have b4:2*B*2^k=B*2^(k+1):=by rw[Nat.pow_succ];ac_rfl
  omega
 rcases Nat.lt_trichotomy k j with hk | hk | hk
 ·exact (key h1 h2 h3 hk h).elim
 ·subst hk;exact⟨Nat.eq_of_mul_eq_mul_right (p2 k) h,rfl⟩
 ·exact (key h3 h4 h1 hk h.symm).elim
section
variable {fmt : Ieee.Format} {f : Nat} {bias : Int} {inf : Nat}
theorem zcz (h:FmtOK fmt f bias inf) (neg:Bool) (a:Nat) (ha:a<inf):∃ m k:Nat,fmt.read (fmt.word neg a)=.number neg m (fmt.leastPlace+k)/\((a<2^f/\m=a/\k=0)\/(2^f<=m/\m<2*2^f/\a=k*2^f+m)):=by
 by_cases hs:a<2^f
 ·refine⟨a,0,?_,Or.inl ⟨hs,rfl,rfl⟩⟩;have hw:=h.hw;have hB:=h.binade;unfold Ieee.Format.read Ieee.Format.word;simp only[hB];generalize fmt.signWeight=W at *
  have m1:(if neg=true then W+a else a)%W=a:=by
   cases neg
   ·simp only[Bool.false_eq_true,if_false];exact Nat.mod_eq_of_lt zd
   ·simp only[if_true];rw[Nat.add_mod_left];exact Nat.mod_eq_of_lt zd
  have m2:((if neg=true then W+a else a) / W%2==1)=neg:=by
   cases neg
   ·simp only[Bool.false_eq_true,if_false];rw[Nat.div_eq_of_lt zd];rfl
   ·simp only[if_true];rw[Nat.add_div_left _ zd,Nat.div_eq_of_lt zd];rfl
  rw[m1,m2,if_pos hs];congr 1;omega
 ·have hB:=p2 f;have hd:a=(a / 2^f-1)*2^f+(2^f+a%2^f):=by
   have h1:=Nat.div_add_mod a (2^f);have h2:1<=a / 2^f:=(Nat.le_div_iff_mul_le hB).2 zd;obtain⟨q,hq⟩:∃ q,a / 2^f=q+1:=⟨a / 2^f-1,zd⟩;rw[hq]at h1 ⊢;rw[Nat.mul_succ,Nat.mul_comm]at h1;rw[Nat.add_sub_cancel];omega
  have hm:=Nat.mod_lt a hB;refine⟨2^f+a%2^f,a / 2^f-1,?_,Or.inr ⟨zd,zd,hd⟩⟩;have:=zcy h neg (a / 2^f-1) (2^f+a%2^f) zd (by rw[Nat.pow_succ];omega) (by rw[<-hd];exact ha);rw[<-hd]at this;exact this
theorem zgu (h:FmtOK fmt f bias inf) (neg:Bool):fmt.read (fmt.word neg inf)=.infinity neg:=by
 have hw:=h.hw;have hB:=h.binade;have hi:=h.hi;have hge:2^f<=inf:=by
  rw[h.hinf];have:=h.hb;exact Nat.le_mul_of_pos_left _ zd
 unfold Ieee.Format.read Ieee.Format.word;simp only[hB,hi];generalize fmt.signWeight=W at *
 have m1:(if neg=true then W+inf else inf)%W=inf:=by
  cases neg
  ·simp only[Bool.false_eq_true,if_false];exact Nat.mod_eq_of_lt zd
  ·simp only[if_true];rw[Nat.add_mod_left];exact Nat.mod_eq_of_lt zd
 have m2:((if neg=true then W+inf else inf) / W%2==1)=neg:=by
  cases neg
  ·simp only[Bool.false_eq_true,if_false];rw[Nat.div_eq_of_lt zd];rfl
  ·simp only[if_true];rw[Nat.add_div_left _ zd,Nat.div_eq_of_lt zd];rfl
 rw[m1,m2,if_neg zd,if_neg zd,if_pos rfl]
theorem zt2 (h:FmtOK fmt f bias inf) (neg:Bool) (a b:Nat) (ha:a<=inf) (hb:b<=inf) (hq:fmt.order (fmt.word neg a) (fmt.word neg b)=some .eq):a=b:=by
 unfold Ieee.Format.order at hq;by_cases ha2:a=inf
 ·by_cases hb2:b=inf
  ·rw[ha2,hb2]
  ·obtain⟨m,k,e,-⟩:=zcz h neg b zd;rw[ha2,zgu h,e]at hq;cases neg <;> exact absurd hq (by simp[Ieee.Datum.order])
 ·obtain⟨m,k,e,hm⟩:=zcz h neg a zd;by_cases hb2:b=inf
  ·rw[hb2,zgu h,e]at hq;cases neg <;> exact absurd hq (by simp[Ieee.Datum.order])
  ·obtain⟨n,j,e2,hn⟩:=zcz h neg b zd;rw[e,e2]at hq;change some (compare (Ieee.signed neg m (fmt.leastPlace+k-min (fmt.leastPlace+k) (fmt.leastPlace+j)).toNat) (Ieee.signed neg n (fmt.leastPlace+j-min (fmt.leastPlace+k) (fmt.leastPlace+j)).toNat))=_ at hq;have hq2:=Int.compare_eq_eq.1 (Option.some.inj hq);have hsh:m*2^(fmt.leastPlace+k-min (fmt.leastPlace+k) (fmt.leastPlace+j)).toNat=n*2^(fmt.leastPlace+j-min (fmt.leastPlace+k) (fmt.leastPlace+j)).toNat:=by
    unfold Ieee.signed at hq2;rw[Nat.shiftLeft_eq,Nat.shiftLeft_eq]at hq2;cases neg
    ·simp only[Bool.false_eq_true,if_false]at hq2;exact Int.ofNat.inj hq2
    ·simp only[if_true]at hq2;exact Int.ofNat.inj (Int.neg_inj.1 hq2)
   have hv:m*2^k=n*2^j:=by
    have hx:=congrArg (·*2^(min k j)) hsh;rw[Nat.mul_assoc,Nat.mul_assoc,<-Nat.pow_add,<-Nat.pow_add]at hx;rw[show (fmt.leastPlace+k-min (fmt.leastPlace+k) (fmt.leastPlace+j)).toNat+min k j=k by omega,show (fmt.leastPlace+j-min (fmt.leastPlace+k) (fmt.leastPlace+j)).toNat+min k j=j by omega]at hx;exact hx
   have hB:=p2 f;have small:∀ {x S t:Nat},x<2^f->2^f<=S->x=S*2^t->False:=by
    intro x S t h1 h2 h3;have:S<=S*2^t:=Nat.le_mul_of_pos_right _ (p2 t);omega
   rcases hm with⟨a1,a2,a3⟩ | ⟨a1,a2,a3⟩
   ·rcases hn with⟨b1,b2,b3⟩ | ⟨b1,b2,b3⟩
    ·subst a2 a3 b2 b3;simpa using hv
    ·subst a2 a3;rw[Nat.pow_zero,Nat.mul_one]at hv;exact (small a1 b1 hv).elim
   ·rcases hn with⟨b1,b2,b3⟩ | ⟨b1,b2,b3⟩
    ·subst b2 b3;rw[Nat.pow_zero,Nat.mul_one]at hv;exact (small b1 a1 hv.symm).elim
    ·obtain⟨c1,c2⟩:=zqa hB a1 a2 b1 b2 hv;rw[a3,b3,c1,c2]
end
theorem zq3 (F:Nat) (bias:Int) (inf a b:Nat) (hb:b≠0) (hbias:1<=bias) (hbF:(F:Int)+2<=bias) (hinf:inf=(2*bias+1).toNat*2^F) (h:a≠0->¬le2 a b bias):xh F bias inf a b≠inf:=by
 have hE:yt F bias a b<=bias-1-F:=by
  unfold yt;by_cases ha:a=0
  ·rw[if_pos ha];omega
  ·rw[if_neg ha];have o1:=(wg a b ha hb).1;have:uo a b<bias:=by
    rcases Int.lt_or_le (uo a b) bias with h' | h'
    ·exact h'
    ·exact absurd (wh h' o1) (h ha)
   omega
 have hE2:1-bias-F<=yt F bias a b:=zβk;have hr:=zld a b F bias hb zd;rw[Int.toNat_natCast]at hr;unfold xh;rw[if_pos zd,hinf,Int.toNat_natCast];have h2:(yt F bias a b-(1-bias-F)).toNat+2<=2*bias.toNat:=zd;have h3:=Nat.mul_le_mul_right (2^F) h2;rw[Nat.pow_succ]at hr;rw[Nat.add_mul]at h3;have h4:(2*bias+1).toNat=2*bias.toNat+1:=zd;rw[h4,Nat.add_mul,Nat.one_mul];have:=p2 F;omega
theorem zt9 (F:Nat) (bias:Int) (inf d m:Nat) (p:Int) (hd:d<10^m) (hbias:1<=bias) (hbF:(F:Int)+2<=bias) (hinf:inf=(2*bias+1).toNat*2^F) (hp:p<=m) (h:10^(2*m)<=2^bias.toNat):nvT F bias inf 10 d p≠inf:=by
 unfold nvT;have hp10:∀ k,10^k≠0:=fun k=>by have:=p10 k;omega
 refine zq3 F bias inf _ _ (hp10 _) hbias hbF hinf (fun _=>?_);unfold le2;rw[show (-bias).toNat=0 by omega,Nat.pow_zero,Nat.mul_one,Nat.not_le];have h1:d*10^p.toNat<10^m*10^p.toNat:=Nat.mul_lt_mul_of_pos_right hd (p10 _);have h2:10^m*10^p.toNat<=10^(2*m):=by rw[<-Nat.pow_add];exact Nat.pow_le_pow_right zd zd
 have h3:2^bias.toNat<=10^(-p).toNat*2^bias.toNat:=Nat.le_mul_of_pos_left _ (p10 _);omega
structure DecArg (F:Nat) (bias:Int) (inf:Nat) (nv d:Nat) (p:Int) (tr:Bool) (L:Lit):Prop where
 lt:d<10^19
 zero:d=0->nv=0/\L.num=0
 ne:d≠0->L.num≠0
 same:tr=false->nv=nvT F bias inf 10 d p
 lo:nvT F bias inf 10 d p<=nv
 hi:tr=true->nv<=nvT F bias inf 10 (d+1) p
 dp1:d≠0->p<=L.ex+yi L.num
 dp2:d≠0->L.ex+yi L.num<=p+19
 far:d≠0->10^(yi L.num-1)<=L.num/\L.num<10^yi L.num/\1<=yi L.num
 nvis:nv=nvT F bias inf 10 L.num L.ex
theorem zo9 (F:Nat) (bias:Int) (inf:Nat) (L:Lit) (n:Nat) (hok:L.ok) (hx:L.hex=false) (hbias:1<=bias) (hF1:1<=F) (hinf:inf=(2*bias+1).toNat*2^F):
  DecArg F bias inf (nvL F bias inf L) (goR L n).mant (goR L n).exp (goR L n).tr L:=by
 obtain⟨z,nd,hz,hm,ht,hne,hze,hlt,hlen,hM⟩:=zon L n hok;have hb:xj L.hex=10:=zαq;have hMm:ju L.hex=19:=zαq;have hp:zb7 L.hex=1:=zαq;have htn:zjn L.hex=10:=zαq;rw[hb]at hm ht hne hlt hM;rw[hMm]at hz hM;rw[hp]at hne;have hnv:nvL F bias inf L=nvT F bias inf 10 L.num L.ex:=by unfold nvL;rw[htn]
 generalize (goR L n).mant=d at *
 generalize (goR L n).exp=p at *
 generalize (goR L n).tr=tr at *
 have hp10:∀ k,10^k≠0:=fun k=>by have:=p10 k;omega
 by_cases h0:L.num=0
 ·obtain⟨a1,a2,-⟩:=hze h0;subst a1 a2;have hn0:nvL F bias inf L=0:=by rw[hnv,h0];exact zca F bias inf 10 _ ze hbias hF1
  have ht0:tr=false:=by rw[ht,h0,Nat.zero_mod];rfl
  refine⟨hM,fun _=>⟨hn0,h0⟩,fun h=>absurd rfl h,fun _=>?_,?_,fun h=>?_,fun h=>absurd rfl h,fun h=>absurd rfl h,fun h=>absurd rfl h,hnv⟩
  ·rw[hn0];exact (zca F bias inf 10 _ ze hbias hF1).symm
  ·rw[zca F bias inf 10 _ ze hbias hF1];exact Nat.zero_le _
  ·rw[ht0]at h;cases h
 ·obtain⟨a1,a2,a3,a4⟩:=hne h0;rw[Nat.one_mul]at a3;have hnd:yi L.num=nd:=by
   have:=xa (nd-1) L.num a2 (by rw[show nd-1+1=nd by omega];exact hlt);omega
  have hdm:=Nat.div_add_mod L.num (10^z);rw[<-hm]at hdm;have hml:=Nat.mod_lt L.num (p10 z);have sameV:∀ D:Nat,D*10^p.toNat*10^(-L.ex).toNat=D*10^z*10^L.ex.toNat*10^(-p).toNat:=by
   intro D;rw[Nat.mul_assoc,Nat.mul_assoc,Nat.mul_assoc,<-Nat.pow_add,<-Nat.pow_add,<-Nat.pow_add];congr 2;omega
  refine⟨hM,fun h=>absurd h a4,fun _=>h0,fun h=>?_,?_,fun h=>?_,fun _=>by rw[hnd];omega,fun _=>by rw[hnd];omega,fun _=>by rw[hnd];exact⟨a2,hlt,a1⟩,hnv⟩
  ·rw[hnv];have h1:L.num=d*10^z:=by
    rw[ht]at h;have h2:L.num%10^z=0:=zI;rw[h2,Nat.add_zero,Nat.mul_comm]at hdm;exact hdm.symm
   unfold nvT;refine ue F bias inf (hp10 _) (hp10 _) ?_;rw[h1];exact (sameV d).symm
  ·rw[hnv];unfold nvT;refine zg5 F bias inf (hp10 _) (hp10 _) hbias hinf ?_;rw[sameV d];exact Nat.mul_le_mul_right _ (Nat.mul_le_mul_right _ (by rw[Nat.mul_comm];omega))
  ·rw[hnv];unfold nvT;refine zg5 F bias inf (hp10 _) (hp10 _) hbias hinf ?_;rw[sameV (d+1)];exact Nat.mul_le_mul_right _ (Nat.mul_le_mul_right _ (by rw[Nat.add_mul,Nat.one_mul,Nat.mul_comm];omega))
theorem DecArg.over {F:Nat} {bias:Int} {inf nv d:Nat} {p:Int} {tr:Bool} {L:Lit} (h:DecArg F bias inf nv d p tr L) (m:Nat) (h0:d≠0) (hm:(m:Int)<p) (h2:2^(bias+1).toNat<=10^m) (hbias:1<=bias):nv=inf:=by
 obtain⟨h3,h4,h5⟩:=h.far h0;have h6:=h.dp1 h0;rw[h.nvis];exact znp F bias inf 10 L.num (yi L.num-1) m (bias+1).toNat L.ex ze h3 h2 zd zd 
theorem DecArg.under {F:Nat} {bias:Int} {inf nv d:Nat} {p:Int} {tr:Bool} {L:Lit} (h:DecArg F bias inf nv d p tr L) (m:Nat) (h0:d≠0) (hm:p+19<=-(m:Int)) (h2:2^(bias+F).toNat<=10^m) (hbias:1<=bias) (hF:1<=F):nv=0:=by
 obtain⟨h3,h4,h5⟩:=h.far h0;have h6:=h.dp2 h0;rw[h.nvis];exact zno F bias inf 10 L.num (yi L.num) m (bias+F).toNat L.ex ze h4 h2 zd zd hbias hF
end
end Go.Proofs.YtnifedmhgncioaaGreatDoor
