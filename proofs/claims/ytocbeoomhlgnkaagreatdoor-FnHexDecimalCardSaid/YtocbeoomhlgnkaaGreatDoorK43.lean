/- Lemmas that the claim's top text leans on. No condition of their own. -/
import Derived.Test.YtocbeoomhlgnkaaGreatDoorK42
namespace Go.Proofs.YtocbeoomhlgnkaaGreatDoor
open Go.RowKit
set_option linter.unusedSimpArgs false
set_option linter.unusedVariables false
set_option maxHeartbeats 16000000
section
attribute [local go_sem] undef
set_option maxRecDepth 100000 in
theorem ycx (T:Nat) (D:List UInt8) (p x:Int) (hD:D.length<9223372036854775808) (hp1:-9223372036854775808<=p) (hp2:p<9223372036854775808) (hx1:-9223372036854775808<=x) (hx2:x<9223372036854775808) (w:World) (he:EnvP T w):
  Calls Tryz.prog 11 #[.string ⟨D.toArray⟩,.int .i64 p,.int .i64 x] w fun e w'=>e=.returned (.bool true)/\w.grownBy w' none:=by
 have HE:=zH he;clear he;refine ye Tryz.func11 rfl (by rw[Tryz.ntmps11];simp) ?_;intro σ hσ;rw[Tryz.ntmps11];have s0:σ 0=.string ⟨D.toArray⟩:=hσ 0 zi;have s1:σ 1=.int .i64 p:=hσ 1 zi;have s2:σ 2=.int .i64 x:=hσ 2 zi;clear hσ;have HG0:=zH (World.grownBy.refl w none);have HDO:=zH (fun W=>ycf D 300 W hD);(go_wp2_with fail;repeat ((first|refine cZ ?_|refine cW ?_);go_wp2_with fail));refine (HDO.out _).mono ?_;rintro e w1 ⟨⟨b,rfl,hb⟩,rfl⟩;cases b
 case false=>
  (go_wp2_with fail;repeat ((first|refine cZ ?_|refine cW ?_);go_wp2_with fail));exact yl (.bool true) rfl ze zb ⟨rfl,HG0.out⟩
 obtain⟨ne_D,l_D,al_D⟩:=hb rfl;clear hb;by_cases hq:p<0
 ·have q1:p<0:=hq;have q2:decide (p<0)=true:=zh;(go_wp2_with fail;repeat ((first|refine cZ ?_|refine cW ?_);go_wp2_with fail));exact yl (.bool true) rfl ze zb ⟨rfl,HG0.out⟩
 have n1:¬p<0:=hq;have d1:decide (p<0)=false:=zh;clear hq;by_cases hq:400<p
 ·have q1:400<p:=hq;have q2:decide (400<p)=true:=zh;(go_wp2_with fail;repeat ((first|refine cZ ?_|refine cW ?_);go_wp2_with fail));exact yl (.bool true) rfl ze zb ⟨rfl,HG0.out⟩
 have n2:¬400<p:=hq;have d2:decide (400<p)=false:=zh;clear hq;by_cases hq:x < -5000
 ·have q1:x < -5000:=hq;have q2:decide (x < -5000)=true:=zh;(go_wp2_with fail;repeat ((first|refine cZ ?_|refine cW ?_);go_wp2_with fail));exact yl (.bool true) rfl ze zb ⟨rfl,HG0.out⟩
 have n3:¬x < -5000:=hq;have d3:decide (x < -5000)=false:=zh;clear hq;by_cases hq:5000<x
 ·have q1:5000<x:=hq;have q2:decide (5000<x)=true:=zh;(go_wp2_with fail;repeat ((first|refine cZ ?_|refine cW ?_);go_wp2_with fail));exact yl (.bool true) rfl ze zb ⟨rfl,HG0.out⟩
 have n4:¬5000<x:=hq;have d4:decide (5000<x)=false:=zh;clear hq;obtain⟨P,rfl⟩:∃ P:Nat,p=(P:Int):=⟨p.toNat,zd⟩;obtain⟨L,hL⟩:=zX D.length;obtain⟨r1,r2,r3⟩:=yd9 D P x ne_D al_D zd zd zd zd;have HN1:=zH (fun W=>yb8 x W zd zd);have HN2:=zH (fun W=>yb8 (x-(P:Int)) W zd zd);have HN3:=zH (fun W=>yb8 (x+(P:Int)+(L:Int)) W zd zd);have HZ:=zH (fun W=>ycb P W zd);have y1:=yca x zd zd;have y2:=yca (x-(P:Int)) zd zd;have y3:=yca (x+(P:Int)+(L:Int)) zd zd;have k1:IntKind.i64.wrap (x-(P:Int))=x-(P:Int):=IntWalk.i64_in _ zd;have k2:IntKind.i64.wrap (x+(P:Int))=x+(P:Int):=IntWalk.i64_in _ zd;have k3:IntKind.i64.wrap (x+(P:Int)+(L:Int))=x+(P:Int)+(L:Int):=IntWalk.i64_in _ zd;rw[hL]at r3 l_D;have zl_D:(⟨D.toArray⟩:ByteArray).size=L:=by rw[<-hL];simp[ByteArray.size]
 obtain⟨n1,h_n1⟩:∃ t:List UInt8,ycd x=t:=⟨_,rfl⟩;have l_n1:n1.length<=20:=by rw[<-h_n1];omega
 have z_n1:(⟨n1.toArray⟩:ByteArray).size=n1.length:=zm;obtain⟨n2,h_n2⟩:∃ t:List UInt8,ycd (x-(P:Int))=t:=⟨_,rfl⟩;have l_n2:n2.length<=20:=by rw[<-h_n2];omega
 have z_n2:(⟨n2.toArray⟩:ByteArray).size=n2.length:=zm;obtain⟨n3,h_n3⟩:∃ t:List UInt8,ycd (x+(P:Int)+(L:Int))=t:=⟨_,rfl⟩;have l_n3:n3.length<=20:=by rw[<-h_n3];omega
 have z_n3:(⟨n3.toArray⟩:ByteArray).size=n3.length:=zm;obtain⟨z,h_z⟩:∃ t:List UInt8,List.replicate P (48:UInt8)=t:=⟨_,rfl⟩;have l_z:z.length<=400:=by rw[<-h_z];rw[List.length_replicate];omega
 have z_z:(⟨z.toArray⟩:ByteArray).size=z.length:=zm;rw[h_n1]at HN1 r1;rw[h_n2]at HN2 r2;rw[h_n3]at HN3 r3;rw[h_z]at HZ r2 r3;have l_D2:D.length<=300:=zd;obtain⟨t1,h_t1⟩:∃ t:List UInt8,D++[46,48,101]=t:=⟨_,rfl⟩;have l_t1:t1.length<=303:=za;have z_t1:(⟨t1.toArray⟩:ByteArray).size=t1.length:=zm;have c_1:(⟨D.toArray⟩:ByteArray)++⟨#[46,48,101]⟩=⟨t1.toArray⟩:=by rw[<-h_t1];exact yb0 D [46,48,101]
 obtain⟨A,h_A⟩:∃ t:List UInt8,t1++n1=t:=⟨_,rfl⟩;have l_A:A.length<=323:=zβl;have z_A:(⟨A.toArray⟩:ByteArray).size=A.length:=zm;have c_2:(⟨t1.toArray⟩:ByteArray)++⟨n1.toArray⟩=⟨A.toArray⟩:=by rw[<-h_A];exact yb0 t1 n1
 obtain⟨t2,h_t2⟩:∃ t:List UInt8,D++z=t:=⟨_,rfl⟩;have l_t2:t2.length<=700:=zc;have z_t2:(⟨t2.toArray⟩:ByteArray).size=t2.length:=zm;have c_3:(⟨D.toArray⟩:ByteArray)++⟨z.toArray⟩=⟨t2.toArray⟩:=by rw[<-h_t2];exact yb0 D z
 obtain⟨t3,h_t3⟩:∃ t:List UInt8,t2++[46,48,101]=t:=⟨_,rfl⟩;have l_t3:t3.length<=703:=zβm;have z_t3:(⟨t3.toArray⟩:ByteArray).size=t3.length:=zm;have c_4:(⟨t2.toArray⟩:ByteArray)++⟨#[46,48,101]⟩=⟨t3.toArray⟩:=by rw[<-h_t3];exact yb0 t2 [46,48,101]
 obtain⟨B,h_B⟩:∃ t:List UInt8,t3++n2=t:=⟨_,rfl⟩;have l_B:B.length<=723:=zβo;have z_B:(⟨B.toArray⟩:ByteArray).size=B.length:=zm;have c_5:(⟨t3.toArray⟩:ByteArray)++⟨n2.toArray⟩=⟨B.toArray⟩:=by rw[<-h_B];exact yb0 t3 n2
 obtain⟨t4,h_t4⟩:∃ t:List UInt8,[48,46]++z=t:=⟨_,rfl⟩;have l_t4:t4.length<=402:=zβn;have z_t4:(⟨t4.toArray⟩:ByteArray).size=t4.length:=zm;have c_6:(⟨#[48,46]⟩:ByteArray)++⟨z.toArray⟩=⟨t4.toArray⟩:=by rw[<-h_t4];exact yb0 [48,46] z
 obtain⟨t5,h_t5⟩:∃ t:List UInt8,t4++D=t:=⟨_,rfl⟩;have l_t5:t5.length<=702:=zβr;have z_t5:(⟨t5.toArray⟩:ByteArray).size=t5.length:=zm;have c_7:(⟨t4.toArray⟩:ByteArray)++⟨D.toArray⟩=⟨t5.toArray⟩:=by rw[<-h_t5];exact yb0 t4 D
 obtain⟨t6,h_t6⟩:∃ t:List UInt8,t5++[101]=t:=⟨_,rfl⟩;have l_t6:t6.length<=703:=zβs;have z_t6:(⟨t6.toArray⟩:ByteArray).size=t6.length:=zm;have c_8:(⟨t5.toArray⟩:ByteArray)++⟨#[101]⟩=⟨t6.toArray⟩:=by rw[<-h_t6];exact yb0 t5 [101]
 obtain⟨C,h_C⟩:∃ t:List UInt8,t6++n3=t:=⟨_,rfl⟩;have l_C:C.length<=723:=zβp;have z_C:(⟨C.toArray⟩:ByteArray).size=C.length:=zm;have c_9:(⟨t6.toArray⟩:ByteArray)++⟨n3.toArray⟩=⟨C.toArray⟩:=by rw[<-h_C];exact yb0 t6 n3
 rw[show D++46::48::101::n1=A by rw[<-h_A,<-h_t1];simp]at r1;rw[show D++z++46::48::101::n2=B by rw[<-h_B,<-h_t3,<-h_t2];simp]at r2;rw[show 48::46::(z++D++101::n3)=C by rw[<-h_C,<-h_t6,<-h_t5,<-h_t4];simp]at r3;have HS1:=zH (fun W (h:EnvP T W)=>ybb T A B W h zd zd (fun _ _ _ _ p1 p2=>RdNum.same64 r1 r2 p1 p2) (fun _ _ _ _ p1 p2=>RdNum.samew r1 r2 p1 p2));have HS2:=zH (fun W (h:EnvP T W)=>ybb T A C W h zd zd (fun _ _ _ _ p1 p2=>RdNum.same64 r1 r3 p1 p2) (fun _ _ _ _ p1 p2=>RdNum.samew r1 r3 p1 p2));clear r1 r2 r3 h_n1 h_n2 h_n3 h_z h_A h_B h_C h_t1 h_t2 h_t3 h_t4 h_t5 h_t6 y1 y2 y3 hL ne_D al_D hD hp1 hp2 hx1 hx2 HDO;(go_wp2_with fail;repeat ((first|refine cZ ?_|refine cW ?_);go_wp2_with fail));refine (HN1.out _).mono ?_;rintro e w1 ⟨rfl,hg⟩;have HG1:=zH (ym HG0.out hg);clear hg;(go_wp2_with fail;repeat ((first|refine cZ ?_|refine cW ?_);go_wp2_with fail));refine (HZ.out _).mono ?_;rintro e w2 ⟨rfl,hg⟩;have HG2:=zH (ym HG1.out hg);clear hg;(go_wp2_with fail;repeat ((first|refine cZ ?_|refine cW ?_);go_wp2_with fail));refine (HN2.out _).mono ?_;rintro e w3 ⟨rfl,hg⟩;have HG3:=zH (ym HG2.out hg);clear hg;(go_wp2_with fail;repeat ((first|refine cZ ?_|refine cW ?_);go_wp2_with fail));refine (HZ.out _).mono ?_;rintro e w4 ⟨rfl,hg⟩;have HG4:=zH (ym HG3.out hg);clear hg;(go_wp2_with fail;repeat ((first|refine cZ ?_|refine cW ?_);go_wp2_with fail));refine (HN3.out _).mono ?_;rintro e w5 ⟨rfl,hg⟩;have HG5:=zH (ym HG4.out hg);clear hg;(go_wp2_with fail;repeat ((first|refine cZ ?_|refine cW ?_);go_wp2_with fail));refine (HS1.out _ (HE.out.grown HG5.out (fun _ e=>zL))).mono ?_;rintro e w6 ⟨rfl,hg⟩;have HG6:=zH (ym HG5.out hg);clear hg;(go_wp2_with fail;repeat ((first|refine cZ ?_|refine cW ?_);go_wp2_with fail));refine (HS2.out _ (HE.out.grown HG6.out (fun _ e=>zL))).mono ?_;rintro e w7 ⟨rfl,hg⟩;have HG7:=zH (ym HG6.out hg);clear hg;(go_wp2_with fail;repeat ((first|refine cZ ?_|refine cW ?_);go_wp2_with fail));exact yl (.bool true) rfl ze zb ⟨rfl,HG7.out⟩
end
theorem yc6 (a:Nat) (e p:Int) (h1:-2000<=e):∃ t,ul (ycp a e p)=some t/\t.kind=0/\t.neg=false/\
  ∀ (F:Nat) (bias:Int) (inf:Nat),1<=bias->bias<=1023->1<=F->bias+F<=1075->spB F bias inf t=nvT F bias inf 10 ((ych a e:Int)+p).toNat (min e 0-1):=by
 obtain⟨N,hN⟩:=zX (((ych a e:Int)+p).toNat);obtain⟨q,hq⟩:=zX (min e 0-1);obtain⟨d1,d2,d3⟩:=yds N;obtain⟨t,ht,hk,hn,hv⟩:=ydc false (ycg N) none q d3 d1 (fun c hc=>by cases hc) zd zd;have hs:ycp a e p=ycv false++(ycg N++(pT none++101::ycd q)):=by unfold ycp;rw[hN,hq];rfl
 have hpf:zd5 (ycg N++pF none)=N:=by show zd5 (ycg N++[])=N;rw[List.append_nil,d2]
 rw[hpf,show q-(((pF none).length:Nat):Int)=q from Int.sub_zero q]at hv;rw[hs,hN,hq];exact⟨t,ht,hk,hn,hv⟩
def hdg (d:Nat):UInt8:=if d<10 then UInt8.ofNat (48+d) else UInt8.ofNat (87+d)
def yce (m:Nat):List UInt8:=if h:m<16 then [hdg m] else yce (m / 16)++[hdg (m%16)]
termination_by m
decreasing_by omega
theorem ydj (d:Nat) (h:d<16):dig 16 (hdg d)=some d:=by
 have:∀ d:Fin 16,dig 16 (hdg d.val)=some d.val:=zp;exact this ⟨d,h⟩
theorem yeg (d:Nat) (h:d<16):isD 16 (hdg d)=true:=by unfold isD;rw[ydj d h];rfl
theorem yc9 (m:Nat):allD 16 (yce m)/\hval (yce m)=m/\yce m≠[]:=by
 induction m using Nat.strongRecOn with
 | _ m ih=>
  rw[yce];split
  ·rename_i h;refine⟨fun c hc=>by rw[List.mem_singleton.1 hc];exact yeg m h,?_,zi⟩;unfold hval;simp only[List.foldl_cons,List.foldl_nil];rw[ydj m h];simp
  ·rename_i h;obtain⟨h1,h2,h3⟩:=ih (m / 16) zd;have hd:=ydj (m%16) zd;refine⟨h1.append (fun c hc=>by rw[List.mem_singleton.1 hc];exact yeg _ zd),?_,zi⟩;rw[yc8,h2,hd];show m / 16*16+m%16=m;omega
theorem ycz (m:Nat):∀ k,1<=k->m<16^k->(yce m).length<=k:=by
 induction m using Nat.strongRecOn with
 | _ m ih=>
  intro k hk h;rw[yce];split
  ·simpa using hk
  ·rename_i h16;obtain⟨j,rfl⟩:∃ j,k=j+1:=⟨k-1,zd⟩;have hj:1<=j:=by
    rcases Nat.eq_zero_or_pos j with rfl | hj
    ·simp at h;omega
    ·exact hj
   have:=ih (m / 16) zd j hj (by rw[Nat.pow_succ]at h;omega);rw[List.length_append,List.length_singleton];omega
theorem yfl (t N k:Nat) (e:Int):N*t^k*t^(e-(k:Int)).toNat*t^(-e).toNat=N*t^e.toNat*t^(-(e-(k:Int))).toNat:=by
 rw[Nat.mul_assoc,Nat.mul_assoc,Nat.mul_assoc,<-Nat.pow_add,<-Nat.pow_add,<-Nat.pow_add];congr 2;omega
theorem RdNum.shift2 {s:List UInt8} {n:Bool} {N:Nat} {e:Int} (k:Nat) (h:RdNum s n (N*2^k*2^(e-(k:Int)).toNat) (2^(-(e-(k:Int))).toNat)):RdNum s n (N*2^e.toNat) (2^(-e).toNat):=
 h.cross (qg _ ze) (yfl 2 N k e)
theorem p16 (k:Nat):16^k=2^(4*k):=by rw[Nat.pow_mul]
theorem yef (m p:Nat) (x:Int) (h1:-100000<x) (h2:x<100000) (hp:p<=1000):
  RdNum (48::120::(yce m++List.replicate p 48++112::ycd (x-(4*(p:Int))))) false (m*2^x.toNat) (2^(-x).toNat):=by
 obtain⟨e1,e2,e3⟩:=yc9 m;have h:=ydi (yce m++List.replicate p 48) none (x-(4*(p:Int))) (Or.inl (by simp[e3])) (e1.append (yck p)) (fun c hc=>by cases hc) zd zd;rw[show yce m++List.replicate p 48++pF none=yce m++List.replicate p 48 from List.append_nil _,yc4,e2,p16]at h;refine RdNum.shift2 (4*p) ?_;rw[show x-((4*p:Nat):Int)=x-4*(p:Int)-((4*(pF none).length:Nat):Int) by show _=x-4*(p:Int)-((4*0:Nat):Int);omega];exact h
theorem yfg (m p:Nat) (x:Int) (h1:-100000<x) (h2:x<100000) (hp:p<=1000) (hm:m<18446744073709551616):
  RdNum (48::120::46::(List.replicate p 48++yce m++112::ycd (x+4*(p:Int)+4*((yce m).length:Int)))) false (m*2^x.toNat) (2^(-x).toNat):=by
 obtain⟨e1,e2,e3⟩:=yc9 m;have hl:=ycz m 16 ze zd;have h:=ydi [] (some (List.replicate p 48++yce m)) (x+4*(p:Int)+4*((yce m).length:Int)) (Or.inr (by simp[pF,e3])) (fun c hc=>by cases hc) ((yck p).append e1) zd zd;rw[show []++pF (some (List.replicate p 48++yce m))=List.replicate p 48++yce m from rfl,yed,e2]at h;rw[show x+4*(p:Int)+4*((yce m).length:Int)-((4*(pF (some (List.replicate p 48++yce m))).length:Nat):Int)=x by
  show x+4*(p:Int)+4*((yce m).length:Int)-((4*(List.replicate p 48++yce m).length:Nat):Int)=x;rw[List.length_append,List.length_replicate];omega]at h
 exact h
theorem yff (m:Nat) (x:Int) (s:List UInt8) (h1:-100000<x) (h2:x<100000) (hs:xf s=48::120::(yce m++46::48::112::ycd x)):RdNum s false (m*2^x.toNat) (2^(-x).toNat):=by
 obtain⟨e1,e2,e3⟩:=yc9 m;have h:=ydi (yce m) (some [48]) x (Or.inl e3) e1 (yck 1) zd zd;rw[show yce m++pF (some [48])=yce m++List.replicate 1 48 from rfl,yc4,e2,show (16:Nat)^1=2^4 by decide]at h;have h3:RdNum (48::120::(yce m++46::48::112::ycd x)) false (m*2^x.toNat) (2^(-x).toNat):=RdNum.shift2 4 h;have e5:=(ycq 112 x zd zd).2;refine h3.low ?_;rw[hs];refine (yc7 _ (fun c hc=>?_)).symm;rcases List.mem_cons.1 hc with h | hc
 ·rw[h];decide
 rcases List.mem_cons.1 hc with h | hc
 ·rw[h];decide
 rcases List.mem_append.1 hc with h | hc
 ·exact (ycj (e1 c h)).1
 rcases List.mem_cons.1 hc with h | hc
 ·rw[h];decide
 rcases List.mem_cons.1 hc with h | hc
 ·rw[h];decide
 rcases List.mem_cons.1 hc with h | hc
 ·rw[h];decide
 rcases e5 c hc with h | h
 ·omega
 ·rw[h];decide
theorem yfm (m:Nat) (x:Int) (h1:-2000<=x):RdNum (ycp m x 0) false (m*2^x.toNat) (2^(-x).toNat):=by
 obtain⟨t,t1,t2,t3,t4⟩:=yc6 m x 0 h1;have h:RdNum (ycp m x 0) false (ych m x*10^(min x 0-1).toNat) (10^(-(min x 0-1)).toNat):=by
  refine⟨qg _ ze,t,t1,t2,t3,fun F bias inf b1 b2 f1 f2=>?_⟩;have:=t4 F bias inf b1 b2 f1 f2;rw[Int.add_zero,Int.toNat_natCast]at this;exact this
 refine h.cross (qg _ ze) ?_;rw[show (min x 0-1).toNat=0 by omega,Nat.pow_zero,Nat.mul_one];unfold ych;obtain⟨n,hn⟩:=zX ((-x).toNat);rw[hn,show (-(min x 0-1)).toNat=n+1 by omega,Nat.pow_succ,show (10:Nat)^n=5^n*2^n by rw[<-Nat.mul_pow]];ac_rfl
theorem yee (d:Nat) (h:d<16):(⟨#[48,49,50,51,52,53,54,55,56,57,97,98,99,100,101,102]⟩:ByteArray).extract d (d+1)=⟨#[hdg d]⟩:=by
 have:∀ d:Fin 16,(⟨#[48,49,50,51,52,53,54,55,56,57,97,98,99,100,101,102]⟩:ByteArray).extract d.val (d.val+1)=⟨#[hdg d.val]⟩:=zp;exact this ⟨d,h⟩
set_option maxRecDepth 100000 in
theorem ydf (m:Nat) (w:World) (hm:m<18446744073709551616):
  Calls Tryz.prog 26 #[.int .u64 (m:Int)] w fun e w'=>e=.returned (.string ⟨(yce m).toArray⟩)/\w=w':=by
 have hl16:=ycz m 16 ze zd;refine ye Tryz.func26 rfl (by rw[Tryz.ntmps26];simp) ?_;intro σ hσ;rw[Tryz.ntmps26];have s0:σ 0=.int .u64 (m:Int):=hσ 0 zi;clear hσ;(go_wp2_with fail;repeat ((first|refine cZ ?_|refine cW ?_);go_wp2_with fail));refine xb (fun kk s' w'=>∃ (n:Nat) (o:List UInt8),n<=m/\kk=n/\s' 0=.int .u64 (n:Int)/\s' 3=.string ⟨o.toArray⟩/\yce m=yce n++o/\w=w') m
  ⟨m,[],Nat.le_refl _,rfl,zb,zb,(List.append_nil _).symm,rfl⟩ ?_
 clear s0 σ;rintro kk σ wk ⟨n,o,hn,hkk,s0,s3,hx,rfl⟩ RK KK HRK hKK;have HKK:=zH hkk;have hol:o.length<=16:=by have:=congrArg List.length hx;rw[List.length_append]at this;omega
 have HX:=zH hx;clear hkk hx hl16;obtain⟨d,hd⟩:=zX (n%16);obtain⟨q,hq⟩:=zX (n / 16);have hd1:∀ [Inhabited Nat],(n:Int)%16=(d:Int):=by intro _;omega
 have hq1:∀ [Inhabited Nat],(n:Int) / 16=(q:Int):=by intro _;omega
 have hd16:d<16:=zd;have hsl:=yee d hd16;have hsz:(⟨o.toArray⟩:ByteArray).size=o.length:=zm;have cat:(⟨#[hdg d]⟩:ByteArray)++⟨o.toArray⟩=⟨(hdg d::o).toArray⟩:=yb0 [hdg d] _;have HE:=zH (show yce n=if n<16 then [hdg n] else yce q++[hdg d] by rw[yce,<-hq,<-hd];split <;> rfl);by_cases h16:n<16
 ·have hq0:q=0:=zd;have hdn:d=n:=zd;have he:=HE.out;rw[if_pos h16]at he;have hfin:yce m=hdg d::o:=by rw[HX.out,he,hdn];rfl
  subst hq0;have HF:=zH hfin;clear he hfin HE HX hdn hq h16;(go_wp2_with fail;repeat ((first|refine cZ ?_|refine cW ?_);go_wp2_with fail));exact yl (.string ⟨(hdg d::o).toArray⟩) rfl ze zb ⟨by rw[HF.out],rfl⟩
 ·have hq0:((q:Int)==0)=false:=zf;have hq2:(q==0)=false:=zf;have he:=HE.out;rw[if_neg h16]at he;have hfin:yce m=yce q++(hdg d::o):=by rw[HX.out,he,List.append_assoc];rfl
  have HF:=zH hfin;have hqn:q<n:=zd;clear he hfin HE HX hq hd h16;(go_wp2_with fail;repeat ((first|refine cZ ?_|refine cW ?_);go_wp2_with fail));exact wo HRK q (by have:=HKK.out;omega) ⟨q,hdg d::o,zd,rfl,zb,zb,HF.out,rfl⟩
section
attribute [local go_sem] undef
set_option maxRecDepth 100000 in
theorem yc2 (T:Nat) (m:Nat) (p x:Int) (hm:m<18446744073709551616) (hp1:-9223372036854775808<=p) (hp2:p<9223372036854775808) (hx1:-9223372036854775808<=x) (hx2:x<9223372036854775808) (w:World) (he:EnvP T w):
  Calls Tryz.prog 8 #[.int .u64 (m:Int),.int .i64 p,.int .i64 x] w fun e w'=>e=.returned (.bool true)/\w.grownBy w' none:=by
 have HE:=zH he;clear he;refine ye Tryz.func8 rfl (by rw[Tryz.ntmps8];simp) ?_;intro σ hσ;rw[Tryz.ntmps8];have s0:σ 0=.int .u64 (m:Int):=hσ 0 zi;have s1:σ 1=.int .i64 p:=hσ 1 zi;have s2:σ 2=.int .i64 x:=hσ 2 zi;clear hσ;have HG0:=zH (World.grownBy.refl w none);by_cases hq:p<0
 ·have q1:p<0:=hq;have q2:decide (p<0)=true:=zh;(go_wp2_with fail;repeat ((first|refine cZ ?_|refine cW ?_);go_wp2_with fail));exact yl (.bool true) rfl ze zb ⟨rfl,HG0.out⟩
 have n1:¬p<0:=hq;have d1:decide (p<0)=false:=zh;clear hq;by_cases hq:100<p
 ·have q1:100<p:=hq;have q2:decide (100<p)=true:=zh;(go_wp2_with fail;repeat ((first|refine cZ ?_|refine cW ?_);go_wp2_with fail));exact yl (.bool true) rfl ze zb ⟨rfl,HG0.out⟩
 have n2:¬100<p:=hq;have d2:decide (100<p)=false:=zh;clear hq;by_cases hq:x < -2000
 ·have q1:x < -2000:=hq;have q2:decide (x < -2000)=true:=zh;(go_wp2_with fail;repeat ((first|refine cZ ?_|refine cW ?_);go_wp2_with fail));exact yl (.bool true) rfl ze zb ⟨rfl,HG0.out⟩
 have n3:¬x < -2000:=hq;have d3:decide (x < -2000)=false:=zh;clear hq;by_cases hq:2000<x
 ·have q1:2000<x:=hq;have q2:decide (2000<x)=true:=zh;(go_wp2_with fail;repeat ((first|refine cZ ?_|refine cW ?_);go_wp2_with fail));exact yl (.bool true) rfl ze zb ⟨rfl,HG0.out⟩
 have n4:¬2000<x:=hq;have d4:decide (2000<x)=false:=zh;clear hq;obtain⟨P,rfl⟩:∃ P:Nat,p=(P:Int):=⟨p.toNat,zd⟩;have HH:=zH (fun W=>ydf m W hm);have lh:=ycz m 16 ze zd;have r1:=yef m 0 x zd zd zd;have r2:=yef m P x zd zd zd;have r3:=yfg m P x zd zd zd hm;obtain⟨L,hL⟩:=zX ((yce m).length);rw[hL]at r3 lh;have HN1:=zH (fun W=>yb8 x W zd zd);have HN2:=zH (fun W=>yb8 (x-4*(P:Int)) W zd zd);have HN3:=zH (fun W=>yb8 (x+4*(P:Int)+4*(L:Int)) W zd zd);have HZ:=zH (fun W=>ycb P W zd);have y1:=yca x zd zd;have y2:=yca (x-4*(P:Int)) zd zd;have y3:=yca (x+4*(P:Int)+4*(L:Int)) zd zd;have k0:IntKind.i64.wrap (4*(P:Int))=4*(P:Int):=IntWalk.i64_in _ zd;have k1:IntKind.i64.wrap (x-4*(P:Int))=x-4*(P:Int):=IntWalk.i64_in _ zd;have k2:IntKind.i64.wrap (x+4*(P:Int))=x+4*(P:Int):=IntWalk.i64_in _ zd;have k4:IntKind.i64.wrap (4*(L:Int))=4*(L:Int):=IntWalk.i64_in _ zd;have k3:IntKind.i64.wrap (x+4*(P:Int)+4*(L:Int))=x+4*(P:Int)+4*(L:Int):=IntWalk.i64_in _ zd;rw[show x-4*((0:Nat):Int)=x by omega,show List.replicate 0 (48:UInt8)=[] from rfl,List.append_nil]at r1;obtain⟨H,hH⟩:=zX (yce m);rw[hH]at HH r1 r2 r3 hL;have zl_H:(⟨H.toArray⟩:ByteArray).size=L:=by rw[<-hL];simp[ByteArray.size]
 have l_H:H.length<=16:=zd;obtain⟨n1,h_n1⟩:∃ t:List UInt8,ycd x=t:=⟨_,rfl⟩;have l_n1:n1.length<=20:=by rw[<-h_n1];omega
 have z_n1:(⟨n1.toArray⟩:ByteArray).size=n1.length:=zm;obtain⟨n2,h_n2⟩:∃ t:List UInt8,ycd (x-4*(P:Int))=t:=⟨_,rfl⟩;have l_n2:n2.length<=20:=by rw[<-h_n2];omega
 have z_n2:(⟨n2.toArray⟩:ByteArray).size=n2.length:=zm;obtain⟨n3,h_n3⟩:∃ t:List UInt8,ycd (x+4*(P:Int)+4*(L:Int))=t:=⟨_,rfl⟩;have l_n3:n3.length<=20:=by rw[<-h_n3];omega
 have z_n3:(⟨n3.toArray⟩:ByteArray).size=n3.length:=zm;obtain⟨z,h_z⟩:∃ t:List UInt8,List.replicate P (48:UInt8)=t:=⟨_,rfl⟩;have l_z:z.length<=100:=by rw[<-h_z];rw[List.length_replicate];omega
 have z_z:(⟨z.toArray⟩:ByteArray).size=z.length:=zm;rw[h_n1]at HN1 r1;rw[h_n2]at HN2 r2;rw[h_n3]at HN3 r3;rw[h_z]at HZ r2 r3;obtain⟨t1,h_t1⟩:∃ t:List UInt8,[48,120]++H=t:=⟨_,rfl⟩;have l_t1:t1.length<=18:=za;have z_t1:(⟨t1.toArray⟩:ByteArray).size=t1.length:=zm;have c_1:(⟨#[48,120]⟩:ByteArray)++⟨H.toArray⟩=⟨t1.toArray⟩:=by rw[<-h_t1];exact yb0 [48,120] H
 obtain⟨t2,h_t2⟩:∃ t:List UInt8,t1++[112]=t:=⟨_,rfl⟩;have l_t2:t2.length<=19:=zc;have z_t2:(⟨t2.toArray⟩:ByteArray).size=t2.length:=zm;have c_2:(⟨t1.toArray⟩:ByteArray)++⟨#[112]⟩=⟨t2.toArray⟩:=by rw[<-h_t2];exact yb0 t1 [112]
 obtain⟨A,h_A⟩:∃ t:List UInt8,t2++n1=t:=⟨_,rfl⟩;have l_A:A.length<=39:=zβl;have z_A:(⟨A.toArray⟩:ByteArray).size=A.length:=zm;have c_3:(⟨t2.toArray⟩:ByteArray)++⟨n1.toArray⟩=⟨A.toArray⟩:=by rw[<-h_A];exact yb0 t2 n1
 obtain⟨t3,h_t3⟩:∃ t:List UInt8,t1++z=t:=⟨_,rfl⟩;have l_t3:t3.length<=118:=zβm;have z_t3:(⟨t3.toArray⟩:ByteArray).size=t3.length:=zm;have c_4:(⟨t1.toArray⟩:ByteArray)++⟨z.toArray⟩=⟨t3.toArray⟩:=by rw[<-h_t3];exact yb0 t1 z
 obtain⟨t4,h_t4⟩:∃ t:List UInt8,t3++[112]=t:=⟨_,rfl⟩;have l_t4:t4.length<=119:=zβn;have z_t4:(⟨t4.toArray⟩:ByteArray).size=t4.length:=zm;have c_5:(⟨t3.toArray⟩:ByteArray)++⟨#[112]⟩=⟨t4.toArray⟩:=by rw[<-h_t4];exact yb0 t3 [112]
 obtain⟨B,h_B⟩:∃ t:List UInt8,t4++n2=t:=⟨_,rfl⟩;have l_B:B.length<=139:=zβo;have z_B:(⟨B.toArray⟩:ByteArray).size=B.length:=zm;have c_6:(⟨t4.toArray⟩:ByteArray)++⟨n2.toArray⟩=⟨B.toArray⟩:=by rw[<-h_B];exact yb0 t4 n2
 obtain⟨t5,h_t5⟩:∃ t:List UInt8,[48,120,46]++z=t:=⟨_,rfl⟩;have l_t5:t5.length<=103:=zβr;have z_t5:(⟨t5.toArray⟩:ByteArray).size=t5.length:=zm;have c_7:(⟨#[48,120,46]⟩:ByteArray)++⟨z.toArray⟩=⟨t5.toArray⟩:=by rw[<-h_t5];exact yb0 [48,120,46] z
 obtain⟨t6,h_t6⟩:∃ t:List UInt8,t5++H=t:=⟨_,rfl⟩;have l_t6:t6.length<=119:=zβs;have z_t6:(⟨t6.toArray⟩:ByteArray).size=t6.length:=zm;have c_8:(⟨t5.toArray⟩:ByteArray)++⟨H.toArray⟩=⟨t6.toArray⟩:=by rw[<-h_t6];exact yb0 t5 H
 obtain⟨t7,h_t7⟩:∃ t:List UInt8,t6++[112]=t:=⟨_,rfl⟩;have l_t7:t7.length<=120:=by rw[<-h_t7];simp only[List.length_append,List.length_cons,List.length_nil];omega
 have z_t7:(⟨t7.toArray⟩:ByteArray).size=t7.length:=zm;have c_9:(⟨t6.toArray⟩:ByteArray)++⟨#[112]⟩=⟨t7.toArray⟩:=by rw[<-h_t7];exact yb0 t6 [112]
 obtain⟨C,h_C⟩:∃ t:List UInt8,t7++n3=t:=⟨_,rfl⟩;have l_C:C.length<=140:=zβp;have z_C:(⟨C.toArray⟩:ByteArray).size=C.length:=zm;have c_10:(⟨t7.toArray⟩:ByteArray)++⟨n3.toArray⟩=⟨C.toArray⟩:=by rw[<-h_C];exact yb0 t7 n3
 rw[show 48::120::(H++112::n1)=A by rw[<-h_A,<-h_t2,<-h_t1];simp]at r1;rw[show 48::120::(H++z++112::n2)=B by rw[<-h_B,<-h_t4,<-h_t3,<-h_t1];simp]at r2;rw[show 48::120::46::(z++H++112::n3)=C by rw[<-h_C,<-h_t7,<-h_t6,<-h_t5];simp]at r3;have HS1:=zH (fun W (h:EnvP T W)=>ybb T A B W h zd zd (fun _ _ _ _ p1 p2=>RdNum.same64 r1 r2 p1 p2) (fun _ _ _ _ p1 p2=>RdNum.samew r1 r2 p1 p2));have HS2:=zH (fun W (h:EnvP T W)=>ybb T A C W h zd zd (fun _ _ _ _ p1 p2=>RdNum.same64 r1 r3 p1 p2) (fun _ _ _ _ p1 p2=>RdNum.samew r1 r3 p1 p2));clear r1 r2 r3 h_n1 h_n2 h_n3 h_z h_A h_B h_C h_t1 h_t2 h_t3 h_t4 h_t5 h_t6 h_t7 y1 y2 y3 hL hH hm hp1 hp2 hx1 hx2;(go_wp2_with fail;repeat ((first|refine cZ ?_|refine cW ?_);go_wp2_with fail));refine (HH.out _).mono ?_;rintro e w1 ⟨rfl,rfl⟩;(go_wp2_with fail;repeat ((first|refine cZ ?_|refine cW ?_);go_wp2_with fail));refine (HN1.out _).mono ?_;rintro e w1 ⟨rfl,hg⟩;have HG1:=zH (ym HG0.out hg);clear hg;(go_wp2_with fail;repeat ((first|refine cZ ?_|refine cW ?_);go_wp2_with fail));refine (HZ.out _).mono ?_;rintro e w2 ⟨rfl,hg⟩;have HG2:=zH (ym HG1.out hg);clear hg;(go_wp2_with fail;repeat ((first|refine cZ ?_|refine cW ?_);go_wp2_with fail));refine (HN2.out _).mono ?_;rintro e w3 ⟨rfl,hg⟩;have HG3:=zH (ym HG2.out hg);clear hg;(go_wp2_with fail;repeat ((first|refine cZ ?_|refine cW ?_);go_wp2_with fail));refine (HS1.out _ (HE.out.grown HG3.out (fun _ e=>zL))).mono ?_;rintro e w4 ⟨rfl,hg⟩;have HG4:=zH (ym HG3.out hg);clear hg;(go_wp2_with fail;repeat ((first|refine cZ ?_|refine cW ?_);go_wp2_with fail));refine (HZ.out _).mono ?_;rintro e w5 ⟨rfl,hg⟩;have HG5:=zH (ym HG4.out hg);clear hg;(go_wp2_with fail;repeat ((first|refine cZ ?_|refine cW ?_);go_wp2_with fail));refine (HN3.out _).mono ?_;rintro e w6 ⟨rfl,hg⟩;have HG6:=zH (ym HG5.out hg);clear hg;(go_wp2_with fail;repeat ((first|refine cZ ?_|refine cW ?_);go_wp2_with fail));refine (HS2.out _ (HE.out.grown HG6.out (fun _ e=>zL))).mono ?_;rintro e w7 ⟨rfl,hg⟩;have HG7:=zH (ym HG6.out hg);clear hg;(go_wp2_with fail;repeat ((first|refine cZ ?_|refine cW ?_);go_wp2_with fail));exact yl (.bool true) rfl ze zb ⟨rfl,HG7.out⟩
end
section
attribute [local go_sem] undef
def yfq:Nat:=10^769
theorem ye9:5^1100<=yfq:=by decide +kernel
theorem yfb:2^1100<=yfq:=by decide +kernel
theorem yd7 (x:Int) (h1:-9999<=x) (h2:x<=9999):(ycd x).length<=5:=by
 have h:(ycg x.natAbs).length<=4:=by
  unfold ycg;split
  ·simp
  ·exact ycm _ 4 zd
 unfold ycd;split
 ·rw[List.length_cons];omega
 ·omega
theorem ye6:(10:Nat)^20*yfq*10<10^791:=by decide +kernel
theorem yd3 (a:Nat) (e:Int) (ha:a<18446744073709551616) (h1:-1100<=e) (h2:e<=1100):(ycp a e 0).length<=800:=by
 have h4:=ye6;have g1:=yfb;have g2:=ye9;generalize yfq=A at *
 have h:2^e.toNat*5^(-e).toNat<=A:=by
  by_cases h:0<=e
  ·rw[show (-e).toNat=0 by omega,Nat.pow_zero,Nat.mul_one];exact Nat.le_trans (Nat.pow_le_pow_right ze zd) g1
  ·rw[show e.toNat=0 by omega,Nat.pow_zero,Nat.one_mul];exact Nat.le_trans (Nat.pow_le_pow_right ze zd) g2
 have h3:ych a e<=10^20*A*10:=by
  unfold ych;rw[Nat.mul_assoc a];exact Nat.mul_le_mul_right _ (Nat.mul_le_mul (by rw[show (10:Nat)^20=100000000000000000000 by decide];omega) h)
 have hlt:=Nat.lt_of_le_of_lt h3 h4;clear h h3 h4 g1 g2;have hq:=yd7 (min e 0-1) zd zd;have hd:(ycg ((ych a e:Int)+0).toNat).length<=791:=by
  rw[Int.add_zero,Int.toNat_natCast];unfold ycg;split
  ·simp
  ·exact ycm _ 791 hlt
 unfold ycp;rw[List.length_append,List.length_cons];omega
theorem yfe {c:UInt8} (h:¬(65<=c.toNat/\c.toNat<=90)):vb (upC c)=c:=by
 unfold upC;split
 ·rename_i h1;have e:(UInt8.ofNat (c.toNat-32)).toNat=c.toNat-32:=by rw[UInt8.toNat_ofNat'];exact Nat.mod_eq_of_lt zd
  unfold vb;rw[if_pos (by rw[e];omega),e];apply UInt8.toNat_inj.1;rw[UInt8.toNat_ofNat'];omega
 ·unfold vb;rw[if_neg h]
theorem yea (m:Nat) (x:Int) (h1:-100000<x) (h2:x<100000):xf (48::88::(upS (yce m)++46::48::80::ycd x))=48::120::(yce m++46::48::112::ycd x):=by
 have e5:=(ycq 112 x zd zd).2;have a1:∀ l:List UInt8,(∀ c ∈ l,¬(65<=c.toNat/\c.toNat<=90))->(upS l).map vb=l:=by
  intro l;induction l with
  | nil=>intro _;rfl
  | cons c l ih=>
   intro h;show vb (upC c)::(upS l).map vb=c::l;rw[yfe (h c zi),ih (fun x hx=>h x (by simp[hx]))]
 have a2:(ycd x).map vb=ycd x:=by
  refine yc7 _ (fun c hc=>?_);rcases e5 c hc with h | h
  ·omega
  ·rw[h];decide
 show vb 48::vb 88::(upS (yce m)++46::48::80::ycd x).map vb=_;rw[List.map_append,a1 _ (fun c hc=>(ycj ((yc9 m).1 c hc)).1),List.map_cons,List.map_cons,List.map_cons,a2];rfl
set_option maxRecDepth 100000 in
theorem ycy (T:Nat) (m:Nat) (x:Int) (hm:m<18446744073709551616) (hx1:-9223372036854775808<=x) (hx2:x<9223372036854775808) (w:World) (he:EnvP T w):
  Calls Tryz.prog 7 #[.int .u64 (m:Int),.int .i64 x] w fun e w'=>e=.returned (.bool true)/\w.grownBy w' none:=by
 have HE:=zH he;clear he;refine ye Tryz.func7 rfl (by rw[Tryz.ntmps7];simp) ?_;intro σ hσ;rw[Tryz.ntmps7];have s0:σ 0=.int .u64 (m:Int):=hσ 0 zi;have s1:σ 1=.int .i64 x:=hσ 1 zi;clear hσ;have HG0:=zH (World.grownBy.refl w none);by_cases hq:x < -1100
 ·have q1:x < -1100:=hq;have q2:decide (x < -1100)=true:=zh;(go_wp2_with fail;repeat ((first|refine cZ ?_|refine cW ?_);go_wp2_with fail));exact yl (.bool true) rfl ze zb ⟨rfl,HG0.out⟩
 have n3:¬x < -1100:=hq;have d3:decide (x < -1100)=false:=zh;clear hq;by_cases hq:1100<x
 ·have q1:1100<x:=hq;have q2:decide (1100<x)=true:=zh;(go_wp2_with fail;repeat ((first|refine cZ ?_|refine cW ?_);go_wp2_with fail));exact yl (.bool true) rfl ze zb ⟨rfl,HG0.out⟩
 have n4:¬1100<x:=hq;have d4:decide (1100<x)=false:=zh;clear hq;have HH:=zH (fun W=>ydf m W hm);have lh:=ycz m 16 ze zd;have r1:=yef m 0 x zd zd zd;have r2:=yfm m x zd;have HN1:=zH (fun W=>yb8 x W zd zd);have HNO:=zH (fun W=>ww m W hm);have HSC:=zH (fun v W (hr:NatV W v m)=>ycs v m x 0 W hr hm (Or.inr rfl) zd zd (Or.inl rfl));have y1:=yca x zd zd;have y2:=yd3 m x hm zd zd;have HU:=zH (fun W=>ydv (yce m) W zd);have r3:=yff m x (48::88::(upS (yce m)++46::48::80::ycd x)) zd zd (yea m x zd zd);have l_U:(upS (yce m)).length<=16:=by unfold upS;rw[List.length_map];exact lh
 rw[show x-4*((0:Nat):Int)=x by omega,show List.replicate 0 (48:UInt8)=[] from rfl,List.append_nil]at r1;obtain⟨U,hU⟩:=zX (upS (yce m));rw[hU]at HU r3 l_U;obtain⟨H,hH⟩:=zX (yce m);rw[hH]at HH r1 lh HU;obtain⟨S,hS⟩:=zX (ycp m x 0);rw[hS]at HSC r2 y2;have z_H:(⟨H.toArray⟩:ByteArray).size=H.length:=zm;have z_U:(⟨U.toArray⟩:ByteArray).size=U.length:=zm;obtain⟨n1,h_n1⟩:∃ t:List UInt8,ycd x=t:=⟨_,rfl⟩;have l_n1:n1.length<=20:=by rw[<-h_n1];omega
 have z_n1:(⟨n1.toArray⟩:ByteArray).size=n1.length:=zm;rw[h_n1]at HN1 r1 r3;obtain⟨t1,h_t1⟩:∃ t:List UInt8,[48,120]++H=t:=⟨_,rfl⟩;have l_t1:t1.length<=18:=za;have z_t1:(⟨t1.toArray⟩:ByteArray).size=t1.length:=zm;have c_1:(⟨#[48,120]⟩:ByteArray)++⟨H.toArray⟩=⟨t1.toArray⟩:=by rw[<-h_t1];exact yb0 [48,120] H
 obtain⟨t2,h_t2⟩:∃ t:List UInt8,t1++[112]=t:=⟨_,rfl⟩;have l_t2:t2.length<=19:=zc;have z_t2:(⟨t2.toArray⟩:ByteArray).size=t2.length:=zm;have c_2:(⟨t1.toArray⟩:ByteArray)++⟨#[112]⟩=⟨t2.toArray⟩:=by rw[<-h_t2];exact yb0 t1 [112]
 obtain⟨A,h_A⟩:∃ t:List UInt8,t2++n1=t:=⟨_,rfl⟩;have l_A:A.length<=39:=zβl;have z_A:(⟨A.toArray⟩:ByteArray).size=A.length:=zm;have c_3:(⟨t2.toArray⟩:ByteArray)++⟨n1.toArray⟩=⟨A.toArray⟩:=by rw[<-h_A];exact yb0 t2 n1
 obtain⟨t3,h_t3⟩:∃ t:List UInt8,[48,88]++U=t:=⟨_,rfl⟩;have l_t3:t3.length<=18:=zβm;have z_t3:(⟨t3.toArray⟩:ByteArray).size=t3.length:=zm;have c_4:(⟨#[48,88]⟩:ByteArray)++⟨U.toArray⟩=⟨t3.toArray⟩:=by rw[<-h_t3];exact yb0 [48,88] U
 obtain⟨t4,h_t4⟩:∃ t:List UInt8,t3++[46,48,80]=t:=⟨_,rfl⟩;have l_t4:t4.length<=21:=zβn;have z_t4:(⟨t4.toArray⟩:ByteArray).size=t4.length:=zm;have c_5:(⟨t3.toArray⟩:ByteArray)++⟨#[46,48,80]⟩=⟨t4.toArray⟩:=by rw[<-h_t4];exact yb0 t3 [46,48,80]
 obtain⟨C,h_C⟩:∃ t:List UInt8,t4++n1=t:=⟨_,rfl⟩;have l_C:C.length<=41:=zβp;have z_C:(⟨C.toArray⟩:ByteArray).size=C.length:=zm;have c_6:(⟨t4.toArray⟩:ByteArray)++⟨n1.toArray⟩=⟨C.toArray⟩:=by rw[<-h_C];exact yb0 t4 n1
 rw[show 48::120::(H++112::n1)=A by rw[<-h_A,<-h_t2,<-h_t1];simp]at r1;rw[show 48::88::(U++46::48::80::n1)=C by rw[<-h_C,<-h_t4,<-h_t3];simp]at r3;have HS1:=zH (fun W (h:EnvP T W)=>ybb T A S W h zd zd (fun _ _ _ _ p1 p2=>RdNum.same64 r1 r2 p1 p2) (fun _ _ _ _ p1 p2=>RdNum.samew r1 r2 p1 p2));have HS2:=zH (fun W (h:EnvP T W)=>ybb T A C W h zd zd (fun _ _ _ _ p1 p2=>RdNum.same64 r1 r3 p1 p2) (fun _ _ _ _ p1 p2=>RdNum.samew r1 r3 p1 p2));clear r1 r2 r3 h_n1 h_A h_C h_t1 h_t2 h_t3 h_t4 y1 y2 hU hH hS hm hx1 hx2;(go_wp2_with fail;repeat ((first|refine cZ ?_|refine cW ?_);go_wp2_with fail));refine (HH.out _).mono ?_;rintro e w1 ⟨rfl,rfl⟩;(go_wp2_with fail;repeat ((first|refine cZ ?_|refine cW ?_);go_wp2_with fail));refine (HN1.out _).mono ?_;rintro e w1 ⟨rfl,hg⟩;have HG1:=zH (ym HG0.out hg);clear hg;(go_wp2_with fail;repeat ((first|refine cZ ?_|refine cW ?_);go_wp2_with fail));refine (HNO.out _).mono ?_;rintro e w2 ⟨v0,rfl,hv0,hg⟩;have HV0:=zH hv0;have HG2:=zH (ym HG1.out hg);clear hv0 hg;(go_wp2_with fail;repeat ((first|refine cZ ?_|refine cW ?_);go_wp2_with fail));refine (HSC.out _ _ HV0.out).mono ?_;rintro e w3 ⟨rfl,hg⟩;have HG3:=zH (ym HG2.out hg);clear hg;(go_wp2_with fail;repeat ((first|refine cZ ?_|refine cW ?_);go_wp2_with fail));refine (HS1.out _ (HE.out.grown HG3.out (fun _ e=>zL))).mono ?_;rintro e w4 ⟨rfl,hg⟩;have HG4:=zH (ym HG3.out hg);clear hg;(go_wp2_with fail;repeat ((first|refine cZ ?_|refine cW ?_);go_wp2_with fail));refine (HH.out _).mono ?_;rintro e w1 ⟨rfl,rfl⟩;(go_wp2_with fail;repeat ((first|refine cZ ?_|refine cW ?_);go_wp2_with fail));refine (HN1.out _).mono ?_;rintro e w5 ⟨rfl,hg⟩;have HG5:=zH (ym HG4.out hg);clear hg;(go_wp2_with fail;repeat ((first|refine cZ ?_|refine cW ?_);go_wp2_with fail));refine (HH.out _).mono ?_;rintro e w1 ⟨rfl,rfl⟩;(go_wp2_with fail;repeat ((first|refine cZ ?_|refine cW ?_);go_wp2_with fail));refine (HU.out _).mono ?_;rintro e w6 ⟨rfl,hg⟩;have HG6:=zH (ym HG5.out hg);clear hg;(go_wp2_with fail;repeat ((first|refine cZ ?_|refine cW ?_);go_wp2_with fail));refine (HN1.out _).mono ?_;rintro e w7 ⟨rfl,hg⟩;have HG7:=zH (ym HG6.out hg);clear hg;(go_wp2_with fail;repeat ((first|refine cZ ?_|refine cW ?_);go_wp2_with fail));refine (HS2.out _ (HE.out.grown HG7.out (fun _ e=>zL))).mono ?_;rintro e w8 ⟨rfl,hg⟩;have HG8:=zH (ym HG7.out hg);clear hg;(go_wp2_with fail;repeat ((first|refine cZ ?_|refine cW ?_);go_wp2_with fail));exact yl (.bool true) rfl ze zb ⟨rfl,HG8.out⟩
end
end Go.Proofs.YtocbeoomhlgnkaaGreatDoor
