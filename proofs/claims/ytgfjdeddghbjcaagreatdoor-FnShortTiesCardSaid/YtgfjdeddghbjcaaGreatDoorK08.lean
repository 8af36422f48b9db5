/- Lemmas that the claim's top text leans on. No condition of their own. -/
import Derived.Test.YtgfjdeddghbjcaaGreatDoorK07
import Derived.Deep.RegionHeld3
namespace Go.Proofs.YtgfjdeddghbjcaaGreatDoor
open Go.RowKit
set_option linter.unusedSimpArgs false
set_option linter.unusedVariables false
set_option maxHeartbeats 16000000
theorem zjw {P:Program} {n:Nat} {env:List (Nat×Value)} {s:Nat->Value} {w:World} {Q:Exit->Act->World->Prop} {c:Code} (R:(Nat->Value)->Prop) (h:R (over env s)) (k:∀ s',R s'->c.wp P Q (Fr n [] s') w):c.wp P Q (Fr n env s) w:=by
 rw[zbg];exact k _ h
theorem zdq (m:Nat) (h:m<18446744073709551616) (h0:m≠0):1<=Lib.bitLen m/\2^(Lib.bitLen m-1)<=m/\m<2^Lib.bitLen m/\Lib.bitLen m<=64:=
 ⟨(Lib.bitLenAux_bounds 64 m h h0).1,(Lib.bitLenAux_bounds 64 m h h0).2.1,(Lib.bitLenAux_bounds 64 m h h0).2.2,Lib.bitLen_le m 64 zd h⟩
theorem zrb (m:Nat) (w:World) (h:m<18446744073709551616):Calls Tryz.prog 89 #[.int .u64 (m:Int)] w fun e w'=>e=.returned (.int .i64 (Lib.bitLen m:Nat))/\w=w':=
 (Tryz.bits_Len64 (m:Int) w zd zd).mono fun _ _ h=>⟨by rw[h.1,Int.toNat_natCast],h.2.symm⟩
theorem Stp.drewN0 (w:World) (v:Value) (n:Nat):Stp w v (w.drewN n) v:=(Stp.refl w v).drewN n
structure Keep (T:Nat) (w:World) (dst:Value) (xs:List UInt8) (w':World):Prop where
 own:OwnB T w' dst xs
 stp:Stp w dst w' dst
 env:Env T w'
theorem Keep.alloc {T:Nat} {w w':World} {dst:Value} {xs:List UInt8} (h:Keep T w dst xs w') (o:Obj):Keep T w dst xs (w'.alloc o):=⟨h.own.alloc o,h.stp.alloc o,h.env.alloc o⟩
theorem Keep.drewN {T:Nat} {w w':World} {dst:Value} {xs:List UInt8} (h:Keep T w dst xs w') (n:Nat):Keep T w dst xs (w'.drewN n):=⟨h.own.drewN n,h.stp.drewN n,h.env.drewN n⟩
theorem Keep.drew {T:Nat} {w w':World} {dst:Value} {xs:List UInt8} (h:Keep T w dst xs w'):Keep T w dst xs w'.drew:=h.drewN 1
theorem Keep.grown0 {T:Nat} {w w' w2:World} {dst:Value} {xs:List UInt8} (h:Keep T w dst xs w') (hg:w'.grownBy w2 none):Keep T w dst xs w2:=⟨h.own.grown0 hg,h.stp.trans (Stp.of0 dst hg),h.env.grown hg zi⟩
theorem Keep.write {T g:Nat} {w w' w2:World} {dst:Value} {xs:List UInt8} (h:Keep T w dst xs w') (hg:w'.grownBy w2 (some g)) (h1:w.heap.size<=g) (h2:T<=g) (h3:dst.ownBlock≠some g):Keep T w dst xs w2:=
 ⟨h.own.grown hg h3,⟨yx h.stp.1 hg (fun j e hj=>by cases e;omega),fun _ e _=>e⟩,h.env.grown hg (fun k e=>by cases e;exact h2)⟩
theorem yoc (b:Nat) (w:World):(callFunc 85 #[.float .f64 b]).run Tryz.prog w=.ok (.value (.int .u64 b)) w:=by kernel_rfl
theorem ytj (b:Nat) (w:World):(callFunc 84 #[.float .f32 b]).run Tryz.prog w=.ok (.value (.int .u32 b)) w:=by kernel_rfl
theorem ybg (n k:Nat) (m:Int) (hm:m=(2^k:Nat)-1) (hk:k<=63) (hn:n<18446744073709551616):bits .and .u64 (n:Int) m=((n%2^k:Nat):Int):=by
 have p:0<2^k:=Nat.pow_pos zd;have hk60:2^k<=2^63:=Nat.pow_le_pow_right zd hk;have h:=u64_and_nat n (2^k-1) hn zd;rw[Nat.and_two_pow_sub_one_eq_mod]at h;rw[<-h,hm];congr 1;omega
theorem yn9 (n k:Nat) (m:Int) (hm:m=(2^k:Nat)-1) (hk:k<=20) (hn:n<9223372036854775808):bits .and .i64 (n:Int) m=((n%2^k:Nat):Int):=by
 have p:0<2^k:=Nat.pow_pos zd;have hk60:2^k<=2^20:=Nat.pow_le_pow_right zd hk;have h1:(BitVec.ofInt 64 m).toNat=2^k-1:=by rw[BitVec.toNat_ofInt,hm];omega
 have h0:(BitVec.ofInt 64 (n:Int)).toNat=n:=zU;have key:(BitVec.ofInt 64 (n:Int)&&&BitVec.ofInt 64 m).toNat=n%2^k:=by
  rw[BitVec.toNat_and,h0,h1,Nat.and_two_pow_sub_one_eq_mod]
 have hmod:n%2^k<=n:=Nat.mod_le _ _;show IntKind.i64.wrap ((BitVec.ofInt 64 (n:Int)&&&BitVec.ofInt 64 m).toNat:Nat)=_;rw[key,IntKind.wrap_i64];omega
theorem ydx (n k:Nat) (hn:n<2^k) (hk:k<=62):bits .or .u64 (n:Int) ((2^k:Nat):Int)=((n+2^k:Nat):Int):=by
 have hk60:2^k<=2^62:=Nat.pow_le_pow_right zd hk;have h:=u64_or_nat n (2^k) zd zd;rw[h];congr 1;have:=Nat.two_pow_add_eq_or_of_lt hn 1;rw[Nat.mul_one]at this;rw[Nat.add_comm,this,Nat.or_comm]
theorem you (e:Int):(expL e).length<=4:=by
 unfold expL;rw[List.length_cons];(repeat' split) <;> simp
theorem yk6 (neg:Bool):(eSign neg).length<=1:=by cases neg <;> simp[eSign]
theorem yn8 (Z:Nat) (ME:Int) (mb m:Nat) (x prec f:Int) (hz:Z=11/\ME=-1085/\mb=52/\-1022<=x/\x<=1023/\m<2^53\/Z=40/\ME=-189/\mb=23/\-126<=x/\x<=127/\m<2^24) (hp:prec<=50000):
  -900<=(ykq Z ME mb m x prec f).dp/\(ykq Z ME mb m x prec f).dp<=900/\(ykq Z ME mb m x prec f).ds.length<=800/\(ykq Z ME mb m x prec f).prec<=100000:=by
 have hm53:m<2^53:=zd;unfold ykq;by_cases hm0:m=0
 ·rw[if_pos hm0];simp;omega
 rw[if_neg hm0];obtain⟨hb1,hb2,hb3,hb4⟩:=zdq m zd hm0;have hS:11<=shS m/\shS m<=63/\(Z=40->40<=shS m):=by
  have:=Lib.bitLen_le m 53 zd hm53;refine⟨zγb,zγb,fun h=>?_⟩;have h2:=Lib.bitLen_le m 24 zd zd;unfold shS;omega
 have hmm:m*2^shS m<18446744073709551616:=by
  rw[show (18446744073709551616:Nat)=2^Lib.bitLen m*2^shS m by rw[<-Nat.pow_add,show Lib.bitLen m+shS m=64 by unfold shS;omega]];exact Nat.mul_lt_mul_of_pos_right hb3 (Nat.pow_pos zd)
 have hds:∀ d,d<18446744073709551616->(yko d).length<=20/\yi d<=20:=by
  intro d hd;have h1:=yku d;have h2:=zjj (digs d (yi d)) (yi d);have h3:=yks d hd;omega
 by_cases hpn:prec<0
 ·rw[if_pos hpn];unfold ykg;dsimp only;have h1:=ylm Z ME (m*2^shS m) (x-mb-shS m) (by
   rcases hz with⟨a,b,c,d,e,_⟩ | ⟨a,b,c,d,e,_⟩
   ·exact Or.inl ⟨a,b,zd,zd⟩
   ·exact Or.inr ⟨a,b,by have:=hS.2.2 a;omega,by have:=hS.2.2 a;omega⟩) hmm
  have h2:=hds _ h1.1;refine⟨zd,zd,zd,?_⟩;unfold yj9;(repeat' split) <;> omega
 ·rw[if_neg hpn];have hpf:xt prec f<=50000/\0<=xt prec f:=by unfold xt;split <;> omega
  by_cases hd:ykk x prec f<=18
  ·rw[if_pos hd];unfold ylt;by_cases h0:0<ykk x prec f
   ·rw[if_pos h0];dsimp only;have h1:=yrn (m*2^shS m) (x-mb-shS m) (ykk x prec f) (xt prec f) (f==102) zd zd zd hd hpf.2 zd;have h2:=hds _ h1.1;split <;> dsimp only <;> (try simp only[List.length_nil]) <;> omega
   ·rw[if_neg h0];simp;omega
  ·rw[if_neg hd];obtain⟨ds,dp,h1,h2,h3,h4,_⟩:=yoj m (x-mb) (xt prec f) f hm0 hm53 zd zd;rw[h1];exact⟨h3,h4,h2,zw⟩
theorem yb0 (l1 l2:List UInt8):((⟨l1.toArray⟩:ByteArray)++(⟨l2.toArray⟩:ByteArray))=⟨(l1++l2).toArray⟩:=by
 apply ByteArray.ext;simp[ByteArray.data_append]
set_option maxRecDepth 100000 in
theorem yww (T b:Nat) (dst:Value) (xs:List UInt8) (w:World) (he:Env T w) (hown:OwnB T w dst xs) (hx:xs.length<=140737488900000) (hb:b<2^(1+11+52)) (hE7:flE 11 52 b≠2047) (hM0:zen 11 52 b≠0) (hD:yko (kg 11 (-1085) (zen 11 52 b*2^shS (zen 11 52 b)) (zor 11 52 (-1023) b-(shS (zen 11 52 b):Nat)-52)).1≠[]):
  Calls Tryz.prog 69 #[dst,.float .f64 b,.int .u8 101,.int .i64 (-1)] w fun r w'=>
   ∃ v',r=.returned v'/\OwnB T w' v' (xs++xr b 101 (-1))/\Stp w dst w' v':=by
 have hb64:b<18446744073709551616:=hb;clear hb;have HE:=zH he;have HOWN:=zH hown;have HD0:=zH hD;clear he hown hD;refine ye Tryz.func69 rfl (by rw[Tryz.ntmps69];simp) ?_;intro σ hσ;rw[Tryz.ntmps69];have s0:σ 0=dst:=hσ 0 zi;have s1:σ 1=.float .f64 b:=hσ 1 zi;have s2:σ 2=.int .u8 101:=hσ 2 zi;have s3:σ 3=.int .i64 (-1):=hσ 3 zi;clear hσ;have hneg:((b:Int) / 9223372036854775808 != 0)=yta 11 52 b:=by
  unfold yta;rw[Bool.eq_iff_iff];simp only[bne_iff_ne,decide_eq_true_eq];omega
 have hext:=fun W=>yoc b W
 have hE1:b / 4503599627370496<9223372036854775808:=zd;have hE0:IntKind.i64.wrap ((b:Int) / 4503599627370496)=((b / 4503599627370496:Nat):Int):=zk;have hE:=yn9 (b / 4503599627370496) 11 2047 ze zd hE1;have hF:=ybg b 52 4503599627370495 ze zd hb64;have hEe:b / 4503599627370496%2^11=flE 11 52 b:=rfl;have hFe:b%2^52=flF 52 b:=rfl;rw[hEe]at hE;rw[hFe]at hF;have hEb:flE 11 52 b<2048:=Nat.mod_lt _ ze;have hFb:flF 52 b<4503599627370496:=Nat.mod_lt _ ze;obtain⟨N0,hN0⟩:=zX (b / 4503599627370496);rw[hN0]at hE0 hE hE1;clear hEe hFe hN0;(go_wp2_with fail;repeat ((first|refine cZ ?_|refine cW ?_);go_wp2_with fail));go_quiet (fail);go_upto_region 16 with fail;obtain⟨neg,hng⟩:=zX (yta 11 52 b);obtain⟨E,hEE⟩:=zX (flE 11 52 b);obtain⟨F,hFF⟩:=zX (flF 52 b);refine zjw (fun s'=>s' 0=dst/\s' 2=.int .u8 101/\s' 3=.int .i64 (-1)/\s' 10=.int .i64 11/\s' 11=.int .i64 52/\s' 12=.int .i64 (-1023)/\s' 13=.bool neg/\s' 14=.int .i64 (E:Int)/\s' 15=.int .u64 (F:Int)) ⟨zb,zb,zb,zb,zb,zb,zb,zb,zb⟩ ?_;rw[hEE]at hEb hE7;rw[hFF]at hFb;have HNG:=zH hng;have HEE:=zH hEE;have HFF:=zH hFF;clear s0 s1 s2 s3 σ hneg hext hF hE hE0 hE1 N0 hng hEE hFF;rintro σ ⟨s0,s2,s3,s10,s11,s12,s13,s14,s15⟩;have hTs:=HOWN.out.lt;have howq:=HOWN.out.drewN nq;have hstq:=Stp.drewN0 w dst nq;have henq:=HE.out.drewN nq;generalize w.drewN nq=w1 at *
 have HO1:=zH howq;have HS1:=zH hstq;have HE1:=zH henq;clear howq hstq henq HOWN HE;have hE7':((E:Int)==2047)=false:=zf;(go_wp2_with fail;repeat ((first|refine cZ ?_|refine cW ?_);go_wp2_with fail));obtain⟨m,hm⟩:=zX (zen 11 52 b);obtain⟨x,hxx⟩:=zX (zor 11 52 (-1023) b);have hm1:m=if E=0 then F else F+4503599627370496:=by rw[<-hm];unfold zen;rw[HEE.out,HFF.out]
 have hx1:x=(if E=0 then 1 else (E:Int))+-1023:=by rw[<-hxx];unfold zor;rw[HEE.out]
 have hmb:m<9007199254740992:=by rw[hm1];split <;> omega
 have hxl:-1022<=x:=zγv;have hxu:x<=1023:=zγv;have HM:=zH hm;rw[hm]at hM0;have HXX:=zH hxx;have HM1:=zH hm1;have HX1:=zH hx1;have hD:=HD0.out;rw[hm,hxx]at hD;have HD1:=zH hD;clear hm hxx hm1 hx1 hD HD0;refine yr (fun s' w'=>s' 0=dst/\s' 2=.int .u8 101/\s' 3=.int .i64 (-1)/\s' 11=.int .i64 52/\s' 12=.int .i64 (-1023)/\s' 13=.bool neg/\s' 14=.int .i64 (x+1023)/\s' 15=.int .u64 (m:Int)/\w1=w') ?_ ?_
 ·intro R2 K2 HR hK2;by_cases hE0:E=0
  ·subst hE0;have hx1:x+1023=1:=by rw[HX1.out];rfl
   have hm1:m=F:=by rw[HM1.out];rfl
   refine jq zb ze ?_;(go_wp2_with fail;repeat ((first|refine cZ ?_|refine cW ?_);go_wp2_with fail));exact got HR ⟨zb,zb,zb,zb,zb,zb,by rw[hx1];simp[yc,yd],zb,rfl⟩
  ·have hE0':((E:Int)==0)=false:=zf;have hx1:x+1023=(E:Int):=by rw[HX1.out,if_neg hE0];omega
   have hm1:m=F+4503599627370496:=by rw[HM1.out,if_neg hE0]
   have hor:bits .or .u64 (F:Int) 4503599627370496=(m:Int):=by rw[hm1];exact ydx F 52 zd zd
   clear hm1;refine kj zb ze ?_;(go_wp2_with fail;repeat ((first|refine cZ ?_|refine cW ?_);go_wp2_with fail));exact got HR ⟨zb,zb,zb,zb,zb,zb,by rw[hx1];simp[ov, *],zb,rfl⟩
 clear s0 s2 s3 s10 s11 s12 s13 s14 s15 σ hE7' hEb hFb;rintro σ w' ⟨s0,s2,s3,s11,s12,s13,s14,s15,rfl⟩;have hLL:xr b 101 (-1)=if (101:Int)=98 then yob neg m (x-52) else if (101:Int)=120\/(101:Int)=88 then xL neg (-1) 101 m 52 x else ylb neg 101 (ykq 11 (-1085) 52 m x (-1) 101):=by
  unfold xr yj5;rw[HEE.out,HNG.out,HM.out,HXX.out,if_neg zd];rfl
 have HLL:=zH hLL;clear hLL HEE HFF HM1 HX1 HM HXX HNG hE7;go_upto_region 26 with fail;refine zjw (fun s'=>s' 0=dst/\s' 2=.int .u8 101/\s' 3=.int .i64 (-1)/\s' 11=.int .i64 52/\s' 13=.bool neg/\s' 14=.int .i64 x/\s' 15=.int .u64 (m:Int)) ⟨zb,zb,zb,zb,zb,zγc,zb⟩ ?_;clear s0 s2 s3 s11 s12 s13 s14 s15 σ;rintro σ ⟨s0,s2,s3,s11,s13,s14,s15⟩;have hL2:xr b 101 (-1)=ylb neg 101 (ykq 11 (-1085) 52 m x (-1) 101):=by rw[HLL.out,if_neg ze,if_neg ze]
 have HL2:=zH hL2;clear hL2 HLL;have hm0:m≠0:=hM0;clear hM0;have hm0':((m:Int)==0)=false:=zf;obtain⟨hb1,hb2,hb3,hb4⟩:=zdq m zd hm0;have hbl:=Lib.bitLen_le m 53 zd hmb;have hlen:=fun W=>zrb m W zd
 obtain⟨S,hS⟩:=zX (shS m);have hSi:(64:Int)-(Lib.bitLen m:Int)=(S:Int):=zγx;obtain⟨mm,hmm⟩:=zX (m*2^S);have hmm64:mm<18446744073709551616:=by
  rw[<-hmm,show (18446744073709551616:Nat)=2^Lib.bitLen m*2^S by rw[<-Nat.pow_add,show Lib.bitLen m+S=64 by omega]];exact Nat.mul_lt_mul_of_pos_right hb3 (Nat.pow_pos zd)
 have hmmi:IntKind.u64.wrap ((m:Int)*2^S)=(mm:Int):=by
  have:(m:Int)*2^S=(mm:Int):=by rw[<-hmm];simp
  rw[this,IntKind.wrap_u64];omega
 have hS1:11<=S:=zd;have hS2:S<=63:=zd;have hD:=HD1.out;rw[hS,hmm]at hD;have HD2:=zH hD;clear hD HD1;have HLEN:=zH hlen;have HSS:=zH hS;have HMM:=zH hmm;obtain⟨bl,hbl2⟩:=zX (Lib.bitLen m);rw[hbl2]at HLEN hSi;clear hb1 hb2 hb3 hb4 hbl hlen hS hmm hbl2;have hL3:xr b 101 (-1)=ylb neg 101 (ykg 11 (-1085) m (x-52) (-1) 101):=by rw[HL2.out];unfold ykq;rw[if_neg hm0,if_pos ze];rfl
 have HL3:=zH hL3;clear hL3 HL2;(go_wp2_with fail;repeat ((first|refine cZ ?_|refine cW ?_);go_wp2_with fail));refine (HLEN.out _).mono ?_;rintro e w7 ⟨rfl,rfl⟩;(go_wp2_with fail;repeat ((first|refine cZ ?_|refine cW ?_);go_wp2_with fail));obtain⟨d,hd⟩:=zX ((kg 11 (-1085) mm (x-S-52)).1);obtain⟨p,hp⟩:=zX ((kg 11 (-1085) mm (x-S-52)).2);have hbd:=ylm 11 (-1085) mm (x-S-52) (Or.inl ⟨rfl,rfl,zd,zd⟩) hmm64;rw[hd,hp]at hbd;have hD:=HD2.out;rw[hd]at hD;have HD3:=zH hD;clear hD HD2;obtain⟨hd64,hpl,hpu⟩:=hbd;have hsf:=fun W (hW:Env T W)=>ylz T mm (x-S-52) W hW hmm64 zd zd
 rw[hd,hp]at hsf;refine (hsf _ (HE1.out.alloc _)).mono ?_;rintro e w8 ⟨rfl,hg8⟩;have hrow8:BRow w8 w1.heap.size (List.replicate 32 0):=BRow.grown (BRow.new w1 (List.replicate 32 0) _) hg8 zi;have hk8:Keep T w dst xs w8:=(Keep.alloc ⟨HO1.out,HS1.out,HE1.out⟩ _).grown0 hg8;have hne8:dst.ownBlock≠some w1.heap.size:=HO1.out.ne_new;have hlt8:=hrow8.lt;have HROW8:=zH hrow8;have HK8:=zH hk8;have HNE8:=zH hne8;have hnum:=ykr T d w8.drew HK8.out.drew.env hd64;have hset:=yln w1.heap.size 32 d p (List.replicate 32 0) w8.drew (Row.drew HROW8.out) zi zi zi hd64 zd zd;rw[List.length_replicate]at hset;have HNUM:=zH hnum;have HSET:=zH hset;have HDD:=zH hd;have HPP:=zH hp;have hnd20:=yks d hd64;have htz:=zjj (digs d (yi d)) (yi d);obtain⟨n,hn⟩:=zX (yi d);rw[hn]at HNUM HSET hnd20 htz;obtain⟨nd,hnd⟩:=zX (uc (digs d n) n);rw[hnd]at HSET htz;have HN:=zH hn;have HND:=zH hnd;clear hg8 hrow8 hk8 hne8 hnum hset hsf hd hp hn hnd;(go_wp2_with fail;repeat ((first|refine cZ ?_|refine cW ?_);go_wp2_with fail));go_region_held3 (fun _=>True) (trivial) (first | (go_at_call 92;refine HNUM.out.mono ?_;rintro e w9 ⟨rfl,rfl⟩) | (go_at_call 91;refine HSET.out.mono ?_;rintro e w9 ⟨rfl,hrow9,hg9⟩));have hk9:Keep T w dst xs w9:=HK8.out.drew.write hg9 HS1.out.1.size HE1.out.size HNE8.out;have hrow10:BRow w9 w1.heap.size (digs d n++List.drop n (List.replicate 32 0)):=hrow9;have HK9:=zH hk9;have HROW9:=zH hrow10;clear hk9 hrow9 hrow10 hg9 HNUM HSET HROW8 HK8;go_upto_block 1 with fail;obtain⟨dp,hdp⟩:=zX ((n:Int)+p);obtain⟨pr,hpr⟩:=zX (yj9 nd dp (-1) 101);have HPR:=zH hpr;have hnd20':(nd:Int)<=20:=zd;have hdpl:-400<=dp:=zd;have hdpu:dp<=420:=zd;rw[hdp];have HDP:=zH hdp;clear hpr hdp;refine yr (fun s' w'=>s' 0=dst/\s' 2=.int .u8 101/\s' 3=.int .i64 pr/\s' 13=.bool neg/\s' 16=.pointer (some ⟨w1.heap.size,0,none⟩)/\s' 22=.int .i64 dp/\s' 23=.int .i64 (nd:Int)/\w9=w') ?_ ?_
 ·intro R2 K2 HR hK2;have hp':pr=max ((nd:Int)-1) 0:=by rw[<-HPR.out];unfold yj9;rw[if_pos (Or.inl rfl)]
  (go_wp2_with fail;repeat ((first|refine cZ ?_|refine cW ?_);go_wp2_with fail));exact got HR ⟨zb,zb,zb,zb,zb,zb,zb,rfl⟩
 clear s0 s2 s3 s11 s13 s14 s15 σ;rintro σ w10 ⟨s0,s2,s3,s13,s16,s22,s23,rfl⟩;have hlt9:=HROW9.out.lt;(go_wp2_with fail;repeat ((first|refine cZ ?_|refine cW ?_);go_wp2_with fail));have hds0:yko d≠[]:=HD3.out;have hprb:pr=(nd:Int)-1:=by rw[<-HPR.out];unfold yj9;rw[if_pos (Or.inl rfl)];have:=List.length_pos_iff.2 hds0;rw[yku,HN.out,HND.out]at this;omega
 have hdsl:(yko d).length=nd:=by rw[yku,HN.out,HND.out]
 have hbl:(digs d n++List.drop n (List.replicate 32 (0:UInt8))).length=32:=by simp[va];omega
 refine (yw1 T neg true dst (.slice (some ⟨w1.heap.size,0,none⟩) 32 32) (yko d) dp nd pr xs _ HK9.out.env HK9.out.own ?_ (by rw[hdsl]) hds0 hprb zd zd zd zd).mono ?_
 ·refine Or.inr ⟨w1.heap.size,32,_,by rw[hbl],zd,zd,⟨[],by rw[List.append_nil];exact HROW9.out⟩,HNE8.out,?_,zd⟩;rw[hdsl,List.take_append_of_le_length (by rw[va];exact htz)];unfold yko;rw[HN.out,HND.out]
 rintro e w11 ⟨v',rfl,ho7,hs7⟩;(go_wp2_with fail;repeat ((first|refine cZ ?_|refine cW ?_);go_wp2_with fail));refine yl v' rfl ze zb ⟨v',rfl,?_,HK9.out.stp.trans hs7⟩;rw[HL3.out];have hfin:ylb neg 101 (ykg 11 (-1085) m (x-52) (-1) 101)=ymm neg (yko d) dp pr 101:=by
  unfold ylb ykg;rw[HSS.out,HMM.out,show x-52-(S:Int)=x-S-52 by omega];dsimp only;rw[HDD.out,HPP.out,hdsl,HN.out,HDP.out,HPR.out];unfold ykz;rw[if_neg ze];unfold ymh;rw[if_pos (Or.inl rfl)]
 rw[hfin];exact ho7
set_option maxRecDepth 100000 in
theorem ywx (T b:Nat) (dst:Value) (xs:List UInt8) (w:World) (he:Env T w) (hown:OwnB T w dst xs) (hx:xs.length<=140737488900000) (hb:b<2^(1+8+23)) (hE7:flE 8 23 b≠255) (hM0:zen 8 23 b≠0) (hD:yko (kg 40 (-189) (zen 8 23 b*2^shS (zen 8 23 b)) (zor 8 23 (-127) b-(shS (zen 8 23 b):Nat)-23)).1≠[]):
  Calls Tryz.prog 68 #[dst,.float .f32 b,.int .u8 101,.int .i64 (-1)] w fun r w'=>
   ∃ v',r=.returned v'/\OwnB T w' v' (xs++xb b 101 (-1))/\Stp w dst w' v':=by
 have hb64:b<4294967296:=hb;clear hb;have HE:=zH he;have HOWN:=zH hown;have HD0:=zH hD;clear he hown hD;refine ye Tryz.func68 rfl (by rw[Tryz.ntmps68];simp) ?_;intro σ hσ;rw[Tryz.ntmps68];have s0:σ 0=dst:=hσ 0 zi;have s1:σ 1=.float .f32 b:=hσ 1 zi;have s2:σ 2=.int .u8 101:=hσ 2 zi;have s3:σ 3=.int .i64 (-1):=hσ 3 zi;clear hσ;have hneg:((b:Int) / 2147483648 != 0)=yta 8 23 b:=by
  unfold yta;rw[Bool.eq_iff_iff];simp only[bne_iff_ne,decide_eq_true_eq];omega
 have hext:=fun W=>ytj b W
 have hE1:b / 8388608<9223372036854775808:=zd;have hE0:IntKind.i64.wrap ((b:Int) / 8388608)=((b / 8388608:Nat):Int):=zk;have hE:=yn9 (b / 8388608) 8 255 ze zd hE1;have hF:=ybg b 23 8388607 ze zd zd;have hEe:b / 8388608%2^8=flE 8 23 b:=rfl;have hFe:b%2^23=flF 23 b:=rfl;rw[hEe]at hE;rw[hFe]at hF;have hEb:flE 8 23 b<256:=Nat.mod_lt _ ze;have hFb:flF 23 b<8388608:=Nat.mod_lt _ ze;obtain⟨N0,hN0⟩:=zX (b / 8388608);rw[hN0]at hE0 hE hE1;clear hEe hFe hN0;(go_wp2_with fail;repeat ((first|refine cZ ?_|refine cW ?_);go_wp2_with fail));go_quiet (fail);go_upto_region 16 with fail;obtain⟨neg,hng⟩:=zX (yta 8 23 b);obtain⟨E,hEE⟩:=zX (flE 8 23 b);obtain⟨F,hFF⟩:=zX (flF 23 b);refine zjw (fun s'=>s' 0=dst/\s' 2=.int .u8 101/\s' 3=.int .i64 (-1)/\s' 10=.int .i64 8/\s' 11=.int .i64 23/\s' 12=.int .i64 (-127)/\s' 13=.bool neg/\s' 14=.int .i64 (E:Int)/\s' 15=.int .u64 (F:Int)) ⟨zb,zb,zb,zb,zb,zb,zb,zb,zb⟩ ?_;rw[hEE]at hEb hE7;rw[hFF]at hFb;have HNG:=zH hng;have HEE:=zH hEE;have HFF:=zH hFF;clear s0 s1 s2 s3 σ hneg hext hF hE hE0 hE1 N0 hng hEE hFF;rintro σ ⟨s0,s2,s3,s10,s11,s12,s13,s14,s15⟩;have hTs:=HOWN.out.lt;have howq:=HOWN.out.drewN nq;have hstq:=Stp.drewN0 w dst nq;have henq:=HE.out.drewN nq;generalize w.drewN nq=w1 at *
 have HO1:=zH howq;have HS1:=zH hstq;have HE1:=zH henq;clear howq hstq henq HOWN HE;have hE7':((E:Int)==255)=false:=zf;(go_wp2_with fail;repeat ((first|refine cZ ?_|refine cW ?_);go_wp2_with fail));obtain⟨m,hm⟩:=zX (zen 8 23 b);obtain⟨x,hxx⟩:=zX (zor 8 23 (-127) b);have hm1:m=if E=0 then F else F+8388608:=by rw[<-hm];unfold zen;rw[HEE.out,HFF.out]
 have hx1:x=(if E=0 then 1 else (E:Int))+-127:=by rw[<-hxx];unfold zor;rw[HEE.out]
 have hmb:m<16777216:=by rw[hm1];split <;> omega
 have hxl:-126<=x:=zγv;have hxu:x<=127:=zγv;have HM:=zH hm;rw[hm]at hM0;have HXX:=zH hxx;have HM1:=zH hm1;have HX1:=zH hx1;have hD:=HD0.out;rw[hm,hxx]at hD;have HD1:=zH hD;clear hm hxx hm1 hx1 hD HD0;refine yr (fun s' w'=>s' 0=dst/\s' 2=.int .u8 101/\s' 3=.int .i64 (-1)/\s' 11=.int .i64 23/\s' 12=.int .i64 (-127)/\s' 13=.bool neg/\s' 14=.int .i64 (x+127)/\s' 15=.int .u64 (m:Int)/\w1=w') ?_ ?_
 ·intro R2 K2 HR hK2;by_cases hE0:E=0
  ·subst hE0;have hx1:x+127=1:=by rw[HX1.out];rfl
   have hm1:m=F:=by rw[HM1.out];rfl
   refine jq zb ze ?_;(go_wp2_with fail;repeat ((first|refine cZ ?_|refine cW ?_);go_wp2_with fail));exact got HR ⟨zb,zb,zb,zb,zb,zb,by rw[hx1];simp[yc,yd],zb,rfl⟩
  ·have hE0':((E:Int)==0)=false:=zf;have hx1:x+127=(E:Int):=by rw[HX1.out,if_neg hE0];omega
   have hm1:m=F+8388608:=by rw[HM1.out,if_neg hE0]
   have hor:bits .or .u64 (F:Int) 8388608=(m:Int):=by rw[hm1];exact ydx F 23 zd zd
   clear hm1;refine kj zb ze ?_;(go_wp2_with fail;repeat ((first|refine cZ ?_|refine cW ?_);go_wp2_with fail));exact got HR ⟨zb,zb,zb,zb,zb,zb,by rw[hx1];simp[ov, *],zb,rfl⟩
 clear s0 s2 s3 s10 s11 s12 s13 s14 s15 σ hE7' hEb hFb;rintro σ w' ⟨s0,s2,s3,s11,s12,s13,s14,s15,rfl⟩;have hLL:xb b 101 (-1)=if (101:Int)=98 then yob neg m (x-23) else if (101:Int)=120\/(101:Int)=88 then xL neg (-1) 101 m 23 x else ylb neg 101 (ykq 40 (-189) 23 m x (-1) 101):=by
  unfold xb yj5;rw[HEE.out,HNG.out,HM.out,HXX.out,if_neg zd];rfl
 have HLL:=zH hLL;clear hLL HEE HFF HM1 HX1 HM HXX HNG hE7;go_upto_region 26 with fail;refine zjw (fun s'=>s' 0=dst/\s' 2=.int .u8 101/\s' 3=.int .i64 (-1)/\s' 11=.int .i64 23/\s' 13=.bool neg/\s' 14=.int .i64 x/\s' 15=.int .u64 (m:Int)) ⟨zb,zb,zb,zb,zb,zγc,zb⟩ ?_;clear s0 s2 s3 s11 s12 s13 s14 s15 σ;rintro σ ⟨s0,s2,s3,s11,s13,s14,s15⟩;have hL2:xb b 101 (-1)=ylb neg 101 (ykq 40 (-189) 23 m x (-1) 101):=by rw[HLL.out,if_neg ze,if_neg ze]
 have HL2:=zH hL2;clear hL2 HLL;have hm0:m≠0:=hM0;clear hM0;have hm0':((m:Int)==0)=false:=zf;obtain⟨hb1,hb2,hb3,hb4⟩:=zdq m zd hm0;have hbl:=Lib.bitLen_le m 24 zd hmb;have hlen:=fun W=>zrb m W zd
 obtain⟨S,hS⟩:=zX (shS m);have hSi:(64:Int)-(Lib.bitLen m:Int)=(S:Int):=zγx;obtain⟨mm,hmm⟩:=zX (m*2^S);have hmm64:mm<18446744073709551616:=by
  rw[<-hmm,show (18446744073709551616:Nat)=2^Lib.bitLen m*2^S by rw[<-Nat.pow_add,show Lib.bitLen m+S=64 by omega]];exact Nat.mul_lt_mul_of_pos_right hb3 (Nat.pow_pos zd)
 have hmmi:IntKind.u64.wrap ((m:Int)*2^S)=(mm:Int):=by
  have:(m:Int)*2^S=(mm:Int):=by rw[<-hmm];simp
  rw[this,IntKind.wrap_u64];omega
 have hS1:40<=S:=zd;have hS2:S<=63:=zd;have hD:=HD1.out;rw[hS,hmm]at hD;have HD2:=zH hD;clear hD HD1;have HLEN:=zH hlen;have HSS:=zH hS;have HMM:=zH hmm;obtain⟨bl,hbl2⟩:=zX (Lib.bitLen m);rw[hbl2]at HLEN hSi;clear hb1 hb2 hb3 hb4 hbl hlen hS hmm hbl2;have hL3:xb b 101 (-1)=ylb neg 101 (ykg 40 (-189) m (x-23) (-1) 101):=by rw[HL2.out];unfold ykq;rw[if_neg hm0,if_pos ze];rfl
 have HL3:=zH hL3;clear hL3 HL2;(go_wp2_with fail;repeat ((first|refine cZ ?_|refine cW ?_);go_wp2_with fail));refine (HLEN.out _).mono ?_;rintro e w7 ⟨rfl,rfl⟩;(go_wp2_with fail;repeat ((first|refine cZ ?_|refine cW ?_);go_wp2_with fail));obtain⟨d,hd⟩:=zX ((kg 40 (-189) mm (x-S-23)).1);obtain⟨p,hp⟩:=zX ((kg 40 (-189) mm (x-S-23)).2);have hbd:=ylm 40 (-189) mm (x-S-23) (Or.inr ⟨rfl,rfl,zd,zd⟩) hmm64;rw[hd,hp]at hbd;have hD:=HD2.out;rw[hd]at hD;have HD3:=zH hD;clear hD HD2;obtain⟨hd64,hpl,hpu⟩:=hbd;have hsf:=fun W (hW:Env T W)=>yte T mm (x-S-23) W hW hmm64 zd zd
 rw[hd,hp]at hsf;refine (hsf _ (HE1.out.alloc _)).mono ?_;rintro e w8 ⟨rfl,hg8⟩;have hrow8:BRow w8 w1.heap.size (List.replicate 32 0):=BRow.grown (BRow.new w1 (List.replicate 32 0) _) hg8 zi;have hk8:Keep T w dst xs w8:=(Keep.alloc ⟨HO1.out,HS1.out,HE1.out⟩ _).grown0 hg8;have hne8:dst.ownBlock≠some w1.heap.size:=HO1.out.ne_new;have hlt8:=hrow8.lt;have HROW8:=zH hrow8;have HK8:=zH hk8;have HNE8:=zH hne8;have hnum:=ykr T d w8.drew HK8.out.drew.env hd64;have hset:=yln w1.heap.size 32 d p (List.replicate 32 0) w8.drew (Row.drew HROW8.out) zi zi zi hd64 zd zd;rw[List.length_replicate]at hset;have HNUM:=zH hnum;have HSET:=zH hset;have HDD:=zH hd;have HPP:=zH hp;have hnd20:=yks d hd64;have htz:=zjj (digs d (yi d)) (yi d);obtain⟨n,hn⟩:=zX (yi d);rw[hn]at HNUM HSET hnd20 htz;obtain⟨nd,hnd⟩:=zX (uc (digs d n) n);rw[hnd]at HSET htz;have HN:=zH hn;have HND:=zH hnd;clear hg8 hrow8 hk8 hne8 hnum hset hsf hd hp hn hnd;(go_wp2_with fail;repeat ((first|refine cZ ?_|refine cW ?_);go_wp2_with fail));go_region_held3 (fun _=>True) (trivial) (first | (go_at_call 92;refine HNUM.out.mono ?_;rintro e w9 ⟨rfl,rfl⟩) | (go_at_call 91;refine HSET.out.mono ?_;rintro e w9 ⟨rfl,hrow9,hg9⟩));have hk9:Keep T w dst xs w9:=HK8.out.drew.write hg9 HS1.out.1.size HE1.out.size HNE8.out;have hrow10:BRow w9 w1.heap.size (digs d n++List.drop n (List.replicate 32 0)):=hrow9;have HK9:=zH hk9;have HROW9:=zH hrow10;clear hk9 hrow9 hrow10 hg9 HNUM HSET HROW8 HK8;go_upto_block 1 with fail;obtain⟨dp,hdp⟩:=zX ((n:Int)+p);obtain⟨pr,hpr⟩:=zX (yj9 nd dp (-1) 101);have HPR:=zH hpr;have hnd20':(nd:Int)<=20:=zd;have hdpl:-400<=dp:=zd;have hdpu:dp<=420:=zd;rw[hdp];have HDP:=zH hdp;clear hpr hdp;refine yr (fun s' w'=>s' 0=dst/\s' 2=.int .u8 101/\s' 3=.int .i64 pr/\s' 13=.bool neg/\s' 16=.pointer (some ⟨w1.heap.size,0,none⟩)/\s' 22=.int .i64 dp/\s' 23=.int .i64 (nd:Int)/\w9=w') ?_ ?_
 ·intro R2 K2 HR hK2;have hp':pr=max ((nd:Int)-1) 0:=by rw[<-HPR.out];unfold yj9;rw[if_pos (Or.inl rfl)]
  (go_wp2_with fail;repeat ((first|refine cZ ?_|refine cW ?_);go_wp2_with fail));exact got HR ⟨zb,zb,zb,zb,zb,zb,zb,rfl⟩
 clear s0 s2 s3 s11 s13 s14 s15 σ;rintro σ w10 ⟨s0,s2,s3,s13,s16,s22,s23,rfl⟩;have hlt9:=HROW9.out.lt;(go_wp2_with fail;repeat ((first|refine cZ ?_|refine cW ?_);go_wp2_with fail));have hds0:yko d≠[]:=HD3.out;have hprb:pr=(nd:Int)-1:=by rw[<-HPR.out];unfold yj9;rw[if_pos (Or.inl rfl)];have:=List.length_pos_iff.2 hds0;rw[yku,HN.out,HND.out]at this;omega
 have hdsl:(yko d).length=nd:=by rw[yku,HN.out,HND.out]
 have hbl:(digs d n++List.drop n (List.replicate 32 (0:UInt8))).length=32:=by simp[va];omega
 refine (yw1 T neg true dst (.slice (some ⟨w1.heap.size,0,none⟩) 32 32) (yko d) dp nd pr xs _ HK9.out.env HK9.out.own ?_ (by rw[hdsl]) hds0 hprb zd zd zd zd).mono ?_
 ·refine Or.inr ⟨w1.heap.size,32,_,by rw[hbl],zd,zd,⟨[],by rw[List.append_nil];exact HROW9.out⟩,HNE8.out,?_,zd⟩;rw[hdsl,List.take_append_of_le_length (by rw[va];exact htz)];unfold yko;rw[HN.out,HND.out]
 rintro e w11 ⟨v',rfl,ho7,hs7⟩;(go_wp2_with fail;repeat ((first|refine cZ ?_|refine cW ?_);go_wp2_with fail));refine yl v' rfl ze zb ⟨v',rfl,?_,HK9.out.stp.trans hs7⟩;rw[HL3.out];have hfin:ylb neg 101 (ykg 40 (-189) m (x-23) (-1) 101)=ymm neg (yko d) dp pr 101:=by
  unfold ylb ykg;rw[HSS.out,HMM.out,show x-23-(S:Int)=x-S-23 by omega];dsimp only;rw[HDD.out,HPP.out,hdsl,HN.out,HDP.out,HPR.out];unfold ykz;rw[if_neg ze];unfold ymh;rw[if_pos (Or.inl rfl)]
 rw[hfin];exact ho7
def upB (c:UInt8):UInt8:=if 97<=c.toNat/\c.toNat<=122 then UInt8.ofNat (c.toNat-32) else c
def upL (l:List UInt8):List UInt8:=l.map upB
theorem yo9 (c:UInt8) (h:c.toNat<97):upB c=c:=by unfold upB;rw[if_neg zd]
def Low (l:List UInt8):Prop:=∀ c ∈ l,c.toNat<97
theorem yle (l:List UInt8) (h:Low l):upL l=l:=by
 unfold upL;rw[List.map_congr_left (fun c hc=>yo9 c (h c hc)),List.map_id']
theorem ykc (a b:List UInt8):upL (a++b)=upL a++upL b:=by unfold upL;rw[List.map_append]
theorem ykp (c:UInt8) (l:List UInt8):upL (c::l)=upB c::upL l:=rfl
theorem Low.append {a b:List UInt8} (h1:Low a) (h2:Low b):Low (a++b):=fun c hc=>by
 rw[List.mem_append]at hc
 rcases hc with h | h
 ·exact h1 c h
 ·exact h2 c h
theorem Low.cons {c:UInt8} {l:List UInt8} (h1:c.toNat<97) (h2:Low l):Low (c::l):=fun d hd=>by
 rw[List.mem_cons]at hd
 rcases hd with rfl | h
 ·exact h1
 ·exact h2 d h
theorem Low.nil:Low []:=fun c hc=>by cases hc
theorem Low.take {l:List UInt8} (h:Low l) (n:Nat):Low (l.take n):=fun c hc=>h c (List.mem_of_mem_take hc)
theorem Low.drop {l:List UInt8} (h:Low l) (n:Nat):Low (l.drop n):=fun c hc=>h c (List.mem_of_mem_drop hc)
theorem Low.rep (n:Nat):Low (List.replicate n 48):=fun c hc=>by rw[(List.mem_replicate.1 hc).2];decide
theorem Low.digs (d n:Nat):Low (digs d n):=fun c hc=>by
 have:=(zeh d n c hc).2
 omega
theorem ys9 (k:Nat) (h:k<=9):(UInt8.ofNat (48+k)).toNat<97:=by
 rw[UInt8.toNat_ofNat'];omega
theorem Low.eSign (neg:Bool):Low (eSign neg):=by
 cases neg
 ·exact Low.nil
 ·exact Low.cons ze Low.nil
theorem Low.expL (e:Int) (h1:-950<=e) (h2:e<=950):Low (expL e):=by
 unfold Go.Proofs.YtgfjdeddghbjcaaGreatDoor.expL;have hn:e.natAbs<=950:=zd;generalize e.natAbs=k at *
 refine Low.cons (by split <;> decide) ?_;split
 ·exact Low.cons ze (Low.cons (ys9 _ zd) Low.nil)
 ·split
  ·exact Low.cons (ys9 _ zd) (Low.cons (ys9 _ zd) Low.nil)
  ·exact Low.cons (ys9 _ zd) (Low.cons (ys9 _ zd) (Low.cons (ys9 _ zd) Low.nil))
theorem yok (Z:Nat) (ME:Int) (mb m:Nat) (x prec f:Int):Low (ykq Z ME mb m x prec f).ds:=by
 have hd:∀ d,Low (yko d):=fun d=>(Low.digs d _).take _
 unfold ykq;split
 ·exact Low.nil
 ·split
  ·exact hd _
  ·split
   ·unfold ylt;split
    ·dsimp only;split
     ·exact hd _
     ·exact Low.nil
    ·exact Low.nil
   ·unfold ym4;split
    ·exact Low.nil
    ·exact Low.digs _ _
theorem ysz (Z:Nat) (ME:Int) (mb m:Nat) (x prec:Int):ykq Z ME mb m x prec 69=ykq Z ME mb m x prec 101:=by
 unfold ykq ykg ylt ykl ykk xt yj9;simp
theorem ysy (Z:Nat) (ME:Int) (mb m:Nat) (x prec:Int):ykq Z ME mb m x prec 71=ykq Z ME mb m x prec 103:=by
 unfold ykq ykg ylt ykl ykk xt yj9;simp
theorem yqa (neg:Bool) (ds:List UInt8) (dp pr:Int) (hl:Low ds) (h1:-900<=dp) (h2:dp<=900):ymm neg ds dp pr 69=upL (ymm neg ds dp pr 101):=by
 have hh:Low [ds.headD 48]:=by
  cases ds with
  | nil=>exact Low.cons ze Low.nil
  | cons c l=>exact Low.cons (hl c zi) Low.nil
 have hf:Low (ykt ds pr):=by
  unfold ykt;split
  ·exact Low.cons ze (((hl.drop 1).take _).append (Low.rep _))
  ·exact Low.nil
 have he:Low (expL (ynz ds dp)):=Low.expL _ zγA zγA;unfold ymm;rw[ykc,ykc,ykc,ykc,yle _ (Low.eSign neg),yle _ hh,yle _ hf,yle _ he];rfl
theorem ysn (neg:Bool) (ds:List UInt8) (dp pr:Int) (hl:Low ds):yn1 neg ds dp pr=upL (yn1 neg ds dp pr):=by
 rw[yle];unfold yn1;refine (Low.eSign neg).append (Low.append ?_ ?_)
 ·unfold ylj;split
  ·exact (hl.take _).append (Low.rep _)
  ·exact Low.cons ze Low.nil
 ·unfold ymc;split
  ·exact Low.cons ze ((Low.rep _).append (((hl.drop _).take _).append (Low.rep _)))
  ·exact Low.nil
theorem yp8 (neg:Bool) (P:Pick) (hl:Low P.ds) (h1:-900<=P.dp) (h2:P.dp<=900):ylb neg 69 P=upL (ylb neg 101 P):=by
 have e1:ykz P.dp P.ds.length P.prec 69 P.sh=(P.prec,69):=by unfold ykz;simp
 have e2:ykz P.dp P.ds.length P.prec 101 P.sh=(P.prec,101):=by unfold ykz;simp
 unfold ylb;rw[e1,e2];unfold ymh;rw[if_pos (Or.inr rfl),if_pos (Or.inl rfl)];exact yqa neg P.ds P.dp _ hl h1 h2
theorem yp7 (neg:Bool) (P:Pick) (hl:Low P.ds) (h1:-900<=P.dp) (h2:P.dp<=900):ylb neg 71 P=upL (ylb neg 103 P):=by
 unfold ylb ykz;rw[if_pos (Or.inr rfl),if_pos (Or.inl rfl)];by_cases hc:P.dp-1 < -4\/gEp P.dp P.ds.length P.prec P.sh<=P.dp-1
 ·rw[if_pos hc,if_pos hc];dsimp only;unfold ymh;rw[if_pos (show (71-2:Int)=101\/(71-2:Int)=69 by decide),if_pos (show (103-2:Int)=101\/(103-2:Int)=69 by decide)];exact yqa neg P.ds P.dp _ hl h1 h2
 ·rw[if_neg hc,if_neg hc];dsimp only;unfold ymh;rw[if_neg ze,if_pos rfl];exact ysn neg P.ds P.dp _ hl
theorem ypx (d:Nat) (h:d<16):ymk true d=upB (ymk false d):=by
 have:∀ k:Fin 16,ymk true k.val=upB (ymk false k.val):=ze;exact this ⟨d,h⟩
theorem ysc (k m:Nat):ynd true k m=upL (ynd false k m):=by
 induction k generalizing m with
 | zero=>rfl
 | succ k ih=>
  unfold ynd;split
  ·rfl
  ·rw[ykp,<-ih,ypx _ (Nat.mod_lt _ zd)]
theorem ysd (k m:Nat):ynv true k m=upL (ynv false k m):=by
 induction k generalizing m with
 | zero=>rfl
 | succ k ih=>unfold ynv;rw[ykp,<-ih,ypx _ (Nat.mod_lt _ zd)]
theorem Low.xExp (e:Int) (h1:-9999<=e) (h2:e<=9999):Low (xExp e):=by
 unfold Go.Proofs.YtgfjdeddghbjcaaGreatDoor.xExp;have hn:e.natAbs<=9999:=zd;generalize e.natAbs=k at *
 refine Low.cons (by split <;> decide) ?_;split
 ·exact Low.cons (ys9 _ zd) (Low.cons (ys9 _ zd) Low.nil)
 ·split
  ·exact Low.cons (ys9 _ zd) (Low.cons (ys9 _ zd) (Low.cons (ys9 _ zd) Low.nil))
  ·exact Low.cons (ys9 _ zd) (Low.cons (ys9 _ zd) (Low.cons (ys9 _ zd) (Low.cons (ys9 _ zd) Low.nil)))
theorem ytv (neg:Bool) (prec:Int) (m mb:Nat) (e:Int) (h1:-9999<=(ymz prec m mb e).2) (h2:(ymz prec m mb e).2<=9999):xL neg prec 88 m mb e=upL (xL neg prec 120 m mb e):=by
 have hf:yky true prec ((ymz prec m mb e).1*16%2^64)=upL (yky false prec ((ymz prec m mb e).1*16%2^64)):=by
  unfold yky;split
  ·rw[ykp,ysc];rfl
  ·split
   ·rw[ykp,ysd];rfl
   ·rfl
 have hd:upB (UInt8.ofNat (48+(ymz prec m mb e).1 / 2^60%2))=UInt8.ofNat (48+(ymz prec m mb e).1 / 2^60%2):=yo9 _ (ys9 _ zd);unfold xL;rw[ykc,ykc,ykc,ykc,yle _ (Low.eSign neg),yle _ (Low.xExp _ h1 h2)];rw[show ((88:Int)==88)=true by rfl,show ((120:Int)==88)=false by rfl,hf];congr 1;congr 1;rw[ykp,ykp,ykp,hd];rfl
theorem yrt (prec:Int) (m mb:Nat) (e:Int) (h1:-2000<=e) (h2:e<=2000) (hm:m*2^(60-mb)<2^61):-9999<=(ymz prec m mb e).2/\(ymz prec m mb e).2<=9999:=by
 unfold ymz;have hn:(yly (m*2^(60-mb)) (if m=0 then 0 else e)).1<2305843009213693952/\-2100<=(yly (m*2^(60-mb)) (if m=0 then 0 else e)).2/\(yly (m*2^(60-mb)) (if m=0 then 0 else e)).2<=2000:=by
  unfold yly;split
  ·dsimp only;refine⟨zd,?_,?_⟩ <;> split <;> omega
  ·rename_i h0;dsimp only;generalize m*2^(60-mb)=M at *
   have hl:M.log2<=60:=by
    have:=(Nat.log2_lt h0 (k:=61)).2 hm;omega
   refine⟨?_,?_,?_⟩
   ·have h3:M<2^(M.log2+1):=Nat.lt_log2_self;have h4:=Nat.mul_lt_mul_of_pos_right h3 (Nat.pow_pos (n:=60-M.log2) (by omega:0<2));rw[<-Nat.pow_add,show M.log2+1+(60-M.log2)=61 by omega]at h4;exact h4
   ·split <;> omega
   ·split <;> omega
 have h3:=yo8 prec (yly (m*2^(60-mb)) (if m=0 then 0 else e)).1 (yly (m*2^(60-mb)) (if m=0 then 0 else e)).2 hn.1;omega
theorem yo3 (b:Nat) (f F prec:Int) (hb:b<18446744073709551616) (hk:flE 11 52 b≠2^11-1) (hp:prec<=50000) (h:f=101/\F=69\/f=103/\F=71\/f=120/\F=88):xr b F prec=upL (xr b f prec):=by
 have hE:flE 11 52 b<2048:=Nat.mod_lt _ ze;have hF:flF 52 b<4503599627370496:=Nat.mod_lt _ ze;have hM:zen 11 52 b<9007199254740992:=by unfold zen;split <;> omega
 have hX:-1022<=zor 11 52 (-1023) b/\zor 11 52 (-1023) b<=1023:=by unfold zor;split <;> omega
 unfold xr yj5;rw[if_neg hk,if_neg hk];rcases h with⟨rfl,rfl⟩ | ⟨rfl,rfl⟩ | ⟨rfl,rfl⟩
 ·rw[if_neg ze,if_neg ze,if_neg ze,if_neg ze,ysz];obtain⟨p1,p2,p3,p4⟩:=yn8 11 (-1085) 52 (zen 11 52 b) (zor 11 52 (-1023) b) prec 101 (Or.inl ⟨rfl,rfl,rfl,hX.1,hX.2,hM⟩) hp;exact yp8 _ _ (yok _ _ _ _ _ _ _) p1 p2
 ·rw[if_neg ze,if_neg ze,if_neg ze,if_neg ze,ysy];obtain⟨p1,p2,p3,p4⟩:=yn8 11 (-1085) 52 (zen 11 52 b) (zor 11 52 (-1023) b) prec 103 (Or.inl ⟨rfl,rfl,rfl,hX.1,hX.2,hM⟩) hp;exact yp7 _ _ (yok _ _ _ _ _ _ _) p1 p2
 ·rw[if_neg ze,if_pos ze,if_neg ze,if_pos ze];have hx:=yrt prec (zen 11 52 b) 52 (zor 11 52 (-1023) b) zd zd zd;exact ytv _ prec _ 52 _ hx.1 hx.2
theorem ytn (b:Nat) (f F prec:Int) (hb:b<4294967296) (hk:flE 8 23 b≠2^8-1) (hp:prec<=50000) (h:f=101/\F=69\/f=103/\F=71\/f=120/\F=88):xb b F prec=upL (xb b f prec):=by
 have hE:flE 8 23 b<256:=Nat.mod_lt _ ze;have hF:flF 23 b<8388608:=Nat.mod_lt _ ze;have hM:zen 8 23 b<16777216:=by unfold zen;split <;> omega
 have hX:-126<=zor 8 23 (-127) b/\zor 8 23 (-127) b<=127:=by unfold zor;split <;> omega
 unfold xb yj5;rw[if_neg hk,if_neg hk];rcases h with⟨rfl,rfl⟩ | ⟨rfl,rfl⟩ | ⟨rfl,rfl⟩
 ·rw[if_neg ze,if_neg ze,if_neg ze,if_neg ze,ysz];obtain⟨p1,p2,p3,p4⟩:=yn8 40 (-189) 23 (zen 8 23 b) (zor 8 23 (-127) b) prec 101 (Or.inr ⟨rfl,rfl,rfl,hX.1,hX.2,hM⟩) hp;exact yp8 _ _ (yok _ _ _ _ _ _ _) p1 p2
 ·rw[if_neg ze,if_neg ze,if_neg ze,if_neg ze,ysy];obtain⟨p1,p2,p3,p4⟩:=yn8 40 (-189) 23 (zen 8 23 b) (zor 8 23 (-127) b) prec 103 (Or.inr ⟨rfl,rfl,rfl,hX.1,hX.2,hM⟩) hp;exact yp7 _ _ (yok _ _ _ _ _ _ _) p1 p2
 ·rw[if_neg ze,if_pos ze,if_neg ze,if_pos ze];have hx:=yrt prec (zen 8 23 b) 23 (zor 8 23 (-127) b) zd zd zd;exact ytv _ prec _ 23 _ hx.1 hx.2
end Go.Proofs.YtgfjdeddghbjcaaGreatDoor
