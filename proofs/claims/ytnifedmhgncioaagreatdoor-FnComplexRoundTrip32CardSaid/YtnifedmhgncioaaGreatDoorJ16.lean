/- Lemmas that the claim's top text leans on. No condition of their own. -/
import Derived.Test.YtnifedmhgncioaaGreatDoorJ15
import Derived.Deep.RegionHeld3
namespace Go.Proofs.YtnifedmhgncioaaGreatDoor
open Go.RowKit
set_option linter.unusedSimpArgs false
set_option linter.unusedVariables false
set_option maxHeartbeats 16000000
theorem ykb {P:Program} {ops:Array Oper} {rest:List Oper} {o:Oper} {Q:Exit->Act->World->Prop} {w:World} {n:Nat} {env:List (Nat×Value)} {σ:Nat->Value} (hgd:o.guard=none) (ks:Nat) (xv:Value) (t tx:TypeId)
  (ho:o.op=.call { callee:=.builtin .append,args:=#[.tmp ks,.const xv],argTypes:=#[t,tx] }) (hks:ks<n) (hty:zpw P t) {T:Nat} {v:Value} {xs:List UInt8} (hown:OwnB T w v xs) (hs:over env σ ks=v)
  (ys:List UInt8) (hsrc:Src P 1 tx xv ys.length (ys.map zkm) w) (hb:xs.length+ys.length<=140737489400000)
  (h:∀ v' w',OwnB T w' v' (xs++ys)->Stp w v w' v'->wpList P ops Q rest ((Fr n env σ).put o.dst v') w'):wpList P ops Q (o::rest) (Fr n env σ) w:=
 zhu hgd (.tmp ks) (.const xv) t tx ho hty hown ((jd n env σ ks hks).trans hs) xv rfl ys hsrc hb h
theorem zjw {P:Program} {n:Nat} {env:List (Nat×Value)} {s:Nat->Value} {w:World} {Q:Exit->Act->World->Prop} {c:Code} (R:(Nat->Value)->Prop) (h:R (over env s)) (k:∀ s',R s'->c.wp P Q (Fr n [] s') w):c.wp P Q (Fr n env s) w:=by
 rw[zbg];exact k _ h
theorem zdq (m:Nat) (h:m<18446744073709551616) (h0:m≠0):1<=Lib.bitLen m/\2^(Lib.bitLen m-1)<=m/\m<2^Lib.bitLen m/\Lib.bitLen m<=64:=
 ⟨(Lib.bitLenAux_bounds 64 m h h0).1,(Lib.bitLenAux_bounds 64 m h h0).2.1,(Lib.bitLenAux_bounds 64 m h h0).2.2,Lib.bitLen_le m 64 zd h⟩
theorem zrb (m:Nat) (w:World) (h:m<18446744073709551616):Calls Tryz.prog 93 #[.int .u64 (m:Int)] w fun e w'=>e=.returned (.int .i64 (Lib.bitLen m:Nat))/\w=w':=
 (Tryz.bits_Len64 (m:Int) w zd zd).mono fun _ _ h=>⟨by rw[h.1,Int.toNat_natCast],h.2.symm⟩
theorem Stp.drewN0 (w:World) (v:Value) (n:Nat):Stp w v (w.drewN n) v:=(Stp.refl w v).drewN n
structure Keep (T:Nat) (w:World) (dst:Value) (xs:List UInt8) (w':World):Prop where
 own:OwnB T w' dst xs
 stp:Stp w dst w' dst
 env:Env T w'
theorem Keep.alloc {T:Nat} {w w':World} {dst:Value} {xs:List UInt8} (h:Keep T w dst xs w') (o:Obj):Keep T w dst xs (w'.alloc o):=⟨h.own.alloc o,h.stp.alloc o,h.env.alloc o⟩
theorem Keep.drewN {T:Nat} {w w':World} {dst:Value} {xs:List UInt8} (h:Keep T w dst xs w') (n:Nat):Keep T w dst xs (w'.drewN n):=⟨h.own.drewN n,h.stp.drewN n,h.env.drewN n⟩
theorem Keep.drew {T:Nat} {w w':World} {dst:Value} {xs:List UInt8} (h:Keep T w dst xs w'):Keep T w dst xs w'.drew:=h.drewN 1
theorem Keep.grown0 {T:Nat} {w w' w2:World} {dst:Value} {xs:List UInt8} (h:Keep T w dst xs w') (hg:w'.grownBy w2 none):Keep T w dst xs w2:=⟨h.own.grown0 hg,h.stp.trans (Stp.of0 dst hg),h.env.grown hg zi⟩
theorem Keep.write {T g:Nat} {w w' w2:World} {dst:Value} {xs:List UInt8} (h:Keep T w dst xs w') (hg:w'.grownBy w2 (some g)) (h1:w.heap.size<=g) (h2:T<=g) (h3:dst.ownBlock≠some g):Keep T w dst xs w2:=
 ⟨h.own.grown hg h3,⟨yx h.stp.1 hg (fun j e hj=>by cases e;omega),fun _ e _=>e⟩,h.env.grown hg (fun k e=>by cases e;exact h2)⟩
theorem ytj (b:Nat) (w:World):(callFunc 88 #[.float .f32 b]).run Tryz.prog w=.ok (.value (.int .u32 b)) w:=by kernel_rfl
theorem ybg (n k:Nat) (m:Int) (hm:m=(2^k:Nat)-1) (hk:k<=63) (hn:n<18446744073709551616):bits .and .u64 (n:Int) m=((n%2^k:Nat):Int):=by
 have p:0<2^k:=Nat.pow_pos zd;have hk60:2^k<=2^63:=Nat.pow_le_pow_right zd hk;have h:=u64_and_nat n (2^k-1) hn zd;rw[Nat.and_two_pow_sub_one_eq_mod]at h;rw[<-h,hm];congr 1;omega
theorem yn9 (n k:Nat) (m:Int) (hm:m=(2^k:Nat)-1) (hk:k<=20) (hn:n<9223372036854775808):bits .and .i64 (n:Int) m=((n%2^k:Nat):Int):=by
 have p:0<2^k:=Nat.pow_pos zd;have hk60:2^k<=2^20:=Nat.pow_le_pow_right zd hk;have h1:(BitVec.ofInt 64 m).toNat=2^k-1:=by rw[BitVec.toNat_ofInt,hm];omega
 have h0:(BitVec.ofInt 64 (n:Int)).toNat=n:=zU;have key:(BitVec.ofInt 64 (n:Int)&&&BitVec.ofInt 64 m).toNat=n%2^k:=by
  rw[BitVec.toNat_and,h0,h1,Nat.and_two_pow_sub_one_eq_mod]
 have hmod:n%2^k<=n:=Nat.mod_le _ _;show IntKind.i64.wrap ((BitVec.ofInt 64 (n:Int)&&&BitVec.ofInt 64 m).toNat:Nat)=_;rw[key,IntKind.wrap_i64];omega
theorem ydx (n k:Nat) (hn:n<2^k) (hk:k<=62):bits .or .u64 (n:Int) ((2^k:Nat):Int)=((n+2^k:Nat):Int):=by
 have hk60:2^k<=2^62:=Nat.pow_le_pow_right zd hk;have h:=u64_or_nat n (2^k) zd zd;rw[h];congr 1;have:=Nat.two_pow_add_eq_or_of_lt hn 1;rw[Nat.mul_one]at this;rw[Nat.add_comm,this,Nat.or_comm]
theorem zu7:Tryz.zeroCells152=((List.replicate 800 (0:UInt8)).map zkm++[Value.int .i64 0,Value.int .i64 0,Value.bool false,Value.bool false]).toArray:=by kernel_rfl
theorem Dec.new (w:World):Dec (w.alloc (Obj.cells Tryz.zeroCells152 152)) w.heap.size (List.replicate 800 0) 0 0 false false:=by
 refine⟨List.length_replicate,?_⟩;have h:=Row.new w ((List.replicate 800 (0:UInt8)).map zkm++[Value.int .i64 0,Value.int .i64 0,Value.bool false,Value.bool false]) 152;rw[<-zu7]at h;exact h
theorem you (e:Int):(expL e).length<=4:=by
 unfold expL;rw[List.length_cons];(repeat' split) <;> simp
theorem yk6 (neg:Bool):(eSign neg).length<=1:=by cases neg <;> simp[eSign]
theorem yq9 (neg:Bool) (ds:List UInt8) (dp pr f:Int) (hp:pr<=200000) (hd:dp<=900):(ymh neg ds dp pr f).length<=2000000+ds.length:=by
 have h1:=yk6 neg;unfold ymh;split
 ·unfold ymm;have h2:=you (ynz ds dp);have h3:(ykt ds pr).length<=500001:=by
   unfold ykt;split
   ·simp only[List.length_cons,List.length_append,List.length_take,List.length_drop,List.length_replicate];omega
   ·simp
  simp only[List.length_append,List.length_cons,List.length_nil];omega
 ·split
  ·unfold yn1;have h2:(ylj ds dp).length<=1000+ds.length:=by
    unfold ylj;split
    ·simp only[List.length_append,List.length_take,List.length_replicate];omega
    ·simp;omega
   have h3:(ymc ds dp pr).length<=1000000:=by
    unfold ymc;split
    ·simp only[List.length_cons,List.length_append,List.length_take,List.length_drop,List.length_replicate];unfold fM fLz;omega
    ·simp
   simp only[List.length_append];omega
  ·simp;omega
theorem ysg (dp nd prec f:Int) (sh:Bool) (h1:-900<=dp) (h2:nd<=800) (h3:prec<=100000):(ykz dp nd prec f sh).1<=200000:=by
 unfold ykz;(repeat' split) <;> dsimp only <;> omega
theorem yq7 (neg:Bool) (f:Int) (P:Pick) (h1:-900<=P.dp) (h2:P.dp<=900) (h3:P.ds.length<=800) (h4:P.prec<=100000):(ylb neg f P).length<=3000000:=by
 unfold ylb;have:=yq9 neg P.ds P.dp _ (ykz P.dp P.ds.length P.prec f P.sh).2 (ysg P.dp P.ds.length P.prec f P.sh h1 zd h4) h2;omega
theorem yn8 (Z:Nat) (ME:Int) (mb m:Nat) (x prec f:Int) (hz:Z=11/\ME=-1085/\mb=52/\-1022<=x/\x<=1023/\m<2^53\/Z=40/\ME=-189/\mb=23/\-126<=x/\x<=127/\m<2^24) (hp:prec<=50000):
  -900<=(ykq Z ME mb m x prec f).dp/\(ykq Z ME mb m x prec f).dp<=900/\(ykq Z ME mb m x prec f).ds.length<=800/\(ykq Z ME mb m x prec f).prec<=100000:=by
 have hm53:m<2^53:=zd;unfold ykq;by_cases hm0:m=0
 ·rw[if_pos hm0];simp;omega
 rw[if_neg hm0];obtain⟨hb1,hb2,hb3,hb4⟩:=zdq m zd hm0;have hS:11<=shS m/\shS m<=63/\(Z=40->40<=shS m):=by
  have:=Lib.bitLen_le m 53 zd hm53;refine⟨zγb,zγb,fun h=>?_⟩;have h2:=Lib.bitLen_le m 24 zd zd;unfold shS;omega
 have hmm:m*2^shS m<18446744073709551616:=by
  rw[show (18446744073709551616:Nat)=2^Lib.bitLen m*2^shS m by rw[<-Nat.pow_add,show Lib.bitLen m+shS m=64 by unfold shS;omega]];exact Nat.mul_lt_mul_of_pos_right hb3 (Nat.pow_pos zd)
 have hds:∀ d,d<18446744073709551616->(yko d).length<=20/\yi d<=20:=by
  intro d hd;have h1:=yku d;have h2:=zjj (digs d (yi d)) (yi d);have h3:=yks d hd;omega
 by_cases hpn:prec<0
 ·rw[if_pos hpn];unfold ykg;dsimp only;have h1:=ylm Z ME (m*2^shS m) (x-mb-shS m) (by
   rcases hz with⟨a,b,c,d,e,_⟩ | ⟨a,b,c,d,e,_⟩
   ·exact Or.inl ⟨a,b,zd,zd⟩
   ·exact Or.inr ⟨a,b,by have:=hS.2.2 a;omega,by have:=hS.2.2 a;omega⟩) hmm
  have h2:=hds _ h1.1;refine⟨zd,zd,zd,?_⟩;unfold yj9;(repeat' split) <;> omega
 ·rw[if_neg hpn];have hpf:xt prec f<=50000/\0<=xt prec f:=by unfold xt;split <;> omega
  by_cases hd:ykk x prec f<=18
  ·rw[if_pos hd];unfold ylt;by_cases h0:0<ykk x prec f
   ·rw[if_pos h0];dsimp only;have h1:=yrn (m*2^shS m) (x-mb-shS m) (ykk x prec f) (xt prec f) (f==102) zd zd zd hd hpf.2 zd;have h2:=hds _ h1.1;split <;> dsimp only <;> (try simp only[List.length_nil]) <;> omega
   ·rw[if_neg h0];simp;omega
  ·rw[if_neg hd];obtain⟨ds,dp,h1,h2,h3,h4,_⟩:=yoj m (x-mb) (xt prec f) f hm0 hm53 zd zd;rw[h1];exact⟨h3,h4,h2,zw⟩
theorem yse (up:Bool) (p:Int) (m:Nat) (hp:p<=50000):(yky up p m).length<=50001:=by
 unfold yky;split
 ·have:=yoq up 16 m;rw[List.length_cons];omega
 ·split
  ·rw[List.length_cons,yor];omega
  ·simp
theorem yss (neg:Bool) (prec f:Int) (m mb:Nat) (e:Int) (hp:prec<=50000):(xL neg prec f m mb e).length<=60000:=by
 unfold xL;have h1:=yk6 neg;have h2:=yse (f==88) prec ((ymz prec m mb e).1*16%2^64) hp;have h3:(xExp (ymz prec m mb e).2).length<=5:=by
  unfold xExp;rw[List.length_cons];(repeat' split) <;> simp
 simp only[List.length_append,List.length_cons,List.length_nil];omega
theorem yp1 (neg:Bool) (m:Nat) (e:Int) (hm:m<18446744073709551616) (h1:-100000<=e) (h2:e<=100000):(yob neg m e).length<=100:=by
 unfold yob;have h3:=ykf m hm;have h4:=yr9 e h1 h2;simp only[List.length_append,List.length_cons,List.length_nil];(repeat' split) <;> simp <;> omega
theorem yxo (b:Nat) (f prec:Int) (hb:b<4294967296) (hp:prec<=50000):(wi b f prec).length<=4000000:=by
 have hE:flE 8 23 b<256:=Nat.mod_lt _ ze;have hF:flF 23 b<8388608:=Nat.mod_lt _ ze;have hM:zen 8 23 b<16777216:=by unfold zen;split <;> omega
 unfold wi yj5;by_cases h7:flE 8 23 b=2^8-1
 ·rw[if_pos h7];(repeat' split) <;> simp
 rw[if_neg h7];have hX:-126<=zor 8 23 (-127) b/\zor 8 23 (-127) b<=127:=by unfold zor;split <;> omega
 by_cases h98:f=98
 ·rw[if_pos h98];have:=yp1 (yta 8 23 b) (zen 8 23 b) (zor 8 23 (-127) b-(23:Nat)) zd zd zd;omega
 rw[if_neg h98];by_cases hx:f=120\/f=88
 ·rw[if_pos hx];have:=yss (yta 8 23 b) prec f (zen 8 23 b) 23 (zor 8 23 (-127) b) hp;omega
 rw[if_neg hx];obtain⟨p1,p2,p3,p4⟩:=yn8 40 (-189) 23 (zen 8 23 b) (zor 8 23 (-127) b) prec f (Or.inr ⟨rfl,rfl,rfl,zd,zd,hM⟩) hp;have:=yq7 (yta 8 23 b) f _ p1 p2 p3 p4;omega
def upB (c:UInt8):UInt8:=if 97<=c.toNat/\c.toNat<=122 then UInt8.ofNat (c.toNat-32) else c
def upL (l:List UInt8):List UInt8:=l.map upB
theorem yo9 (c:UInt8) (h:c.toNat<97):upB c=c:=by unfold upB;rw[if_neg zd]
def Low (l:List UInt8):Prop:=∀ c ∈ l,c.toNat<97
theorem yle (l:List UInt8) (h:Low l):upL l=l:=by
 unfold upL;rw[List.map_congr_left (fun c hc=>yo9 c (h c hc)),List.map_id']
theorem ykc (a b:List UInt8):upL (a++b)=upL a++upL b:=by unfold upL;rw[List.map_append]
theorem ykp (c:UInt8) (l:List UInt8):upL (c::l)=upB c::upL l:=rfl
theorem Low.append {a b:List UInt8} (h1:Low a) (h2:Low b):Low (a++b):=fun c hc=>by
 rw[List.mem_append]at hc
 rcases hc with h | h
 ·exact h1 c h
 ·exact h2 c h
theorem Low.cons {c:UInt8} {l:List UInt8} (h1:c.toNat<97) (h2:Low l):Low (c::l):=fun d hd=>by
 rw[List.mem_cons]at hd
 rcases hd with rfl | h
 ·exact h1
 ·exact h2 d h
theorem Low.nil:Low []:=fun c hc=>by cases hc
theorem Low.take {l:List UInt8} (h:Low l) (n:Nat):Low (l.take n):=fun c hc=>h c (List.mem_of_mem_take hc)
theorem Low.drop {l:List UInt8} (h:Low l) (n:Nat):Low (l.drop n):=fun c hc=>h c (List.mem_of_mem_drop hc)
theorem Low.rep (n:Nat):Low (List.replicate n 48):=fun c hc=>by rw[(List.mem_replicate.1 hc).2];decide
theorem Low.digs (d n:Nat):Low (digs d n):=fun c hc=>by
 have:=(zeh d n c hc).2
 omega
theorem ys9 (k:Nat) (h:k<=9):(UInt8.ofNat (48+k)).toNat<97:=by
 rw[UInt8.toNat_ofNat'];omega
theorem Low.eSign (neg:Bool):Low (eSign neg):=by
 cases neg
 ·exact Low.nil
 ·exact Low.cons ze Low.nil
theorem Low.expL (e:Int) (h1:-950<=e) (h2:e<=950):Low (expL e):=by
 unfold Go.Proofs.YtnifedmhgncioaaGreatDoor.expL;have hn:e.natAbs<=950:=zd;generalize e.natAbs=k at *
 refine Low.cons (by split <;> decide) ?_;split
 ·exact Low.cons ze (Low.cons (ys9 _ zd) Low.nil)
 ·split
  ·exact Low.cons (ys9 _ zd) (Low.cons (ys9 _ zd) Low.nil)
  ·exact Low.cons (ys9 _ zd) (Low.cons (ys9 _ zd) (Low.cons (ys9 _ zd) Low.nil))
theorem yok (Z:Nat) (ME:Int) (mb m:Nat) (x prec f:Int):Low (ykq Z ME mb m x prec f).ds:=by
 have hd:∀ d,Low (yko d):=fun d=>(Low.digs d _).take _
 unfold ykq;split
 ·exact Low.nil
 ·split
  ·exact hd _
  ·split
   ·unfold ylt;split
    ·dsimp only;split
     ·exact hd _
     ·exact Low.nil
    ·exact Low.nil
   ·unfold ym4;split
    ·exact Low.nil
    ·exact Low.digs _ _
theorem ysz (Z:Nat) (ME:Int) (mb m:Nat) (x prec:Int):ykq Z ME mb m x prec 69=ykq Z ME mb m x prec 101:=by
 unfold ykq ykg ylt ykl ykk xt yj9;simp
theorem ysy (Z:Nat) (ME:Int) (mb m:Nat) (x prec:Int):ykq Z ME mb m x prec 71=ykq Z ME mb m x prec 103:=by
 unfold ykq ykg ylt ykl ykk xt yj9;simp
theorem yqa (neg:Bool) (ds:List UInt8) (dp pr:Int) (hl:Low ds) (h1:-900<=dp) (h2:dp<=900):ymm neg ds dp pr 69=upL (ymm neg ds dp pr 101):=by
 have hh:Low [ds.headD 48]:=by
  cases ds with
  | nil=>exact Low.cons ze Low.nil
  | cons c l=>exact Low.cons (hl c zi) Low.nil
 have hf:Low (ykt ds pr):=by
  unfold ykt;split
  ·exact Low.cons ze (((hl.drop 1).take _).append (Low.rep _))
  ·exact Low.nil
 have he:Low (expL (ynz ds dp)):=Low.expL _ zγA zγA;unfold ymm;rw[ykc,ykc,ykc,ykc,yle _ (Low.eSign neg),yle _ hh,yle _ hf,yle _ he];rfl
theorem ysn (neg:Bool) (ds:List UInt8) (dp pr:Int) (hl:Low ds):yn1 neg ds dp pr=upL (yn1 neg ds dp pr):=by
 rw[yle];unfold yn1;refine (Low.eSign neg).append (Low.append ?_ ?_)
 ·unfold ylj;split
  ·exact (hl.take _).append (Low.rep _)
  ·exact Low.cons ze Low.nil
 ·unfold ymc;split
  ·exact Low.cons ze ((Low.rep _).append (((hl.drop _).take _).append (Low.rep _)))
  ·exact Low.nil
theorem yp8 (neg:Bool) (P:Pick) (hl:Low P.ds) (h1:-900<=P.dp) (h2:P.dp<=900):ylb neg 69 P=upL (ylb neg 101 P):=by
 have e1:ykz P.dp P.ds.length P.prec 69 P.sh=(P.prec,69):=by unfold ykz;simp
 have e2:ykz P.dp P.ds.length P.prec 101 P.sh=(P.prec,101):=by unfold ykz;simp
 unfold ylb;rw[e1,e2];unfold ymh;rw[if_pos (Or.inr rfl),if_pos (Or.inl rfl)];exact yqa neg P.ds P.dp _ hl h1 h2
theorem yp7 (neg:Bool) (P:Pick) (hl:Low P.ds) (h1:-900<=P.dp) (h2:P.dp<=900):ylb neg 71 P=upL (ylb neg 103 P):=by
 unfold ylb ykz;rw[if_pos (Or.inr rfl),if_pos (Or.inl rfl)];by_cases hc:P.dp-1 < -4\/gEp P.dp P.ds.length P.prec P.sh<=P.dp-1
 ·rw[if_pos hc,if_pos hc];dsimp only;unfold ymh;rw[if_pos (show (71-2:Int)=101\/(71-2:Int)=69 by decide),if_pos (show (103-2:Int)=101\/(103-2:Int)=69 by decide)];exact yqa neg P.ds P.dp _ hl h1 h2
 ·rw[if_neg hc,if_neg hc];dsimp only;unfold ymh;rw[if_neg ze,if_pos rfl];exact ysn neg P.ds P.dp _ hl
theorem ypx (d:Nat) (h:d<16):ymk true d=upB (ymk false d):=by
 have:∀ k:Fin 16,ymk true k.val=upB (ymk false k.val):=ze;exact this ⟨d,h⟩
theorem ysc (k m:Nat):ynd true k m=upL (ynd false k m):=by
 induction k generalizing m with
 | zero=>rfl
 | succ k ih=>
  unfold ynd;split
  ·rfl
  ·rw[ykp,<-ih,ypx _ (Nat.mod_lt _ zd)]
theorem ysd (k m:Nat):ynv true k m=upL (ynv false k m):=by
 induction k generalizing m with
 | zero=>rfl
 | succ k ih=>unfold ynv;rw[ykp,<-ih,ypx _ (Nat.mod_lt _ zd)]
theorem Low.xExp (e:Int) (h1:-9999<=e) (h2:e<=9999):Low (xExp e):=by
 unfold Go.Proofs.YtnifedmhgncioaaGreatDoor.xExp;have hn:e.natAbs<=9999:=zd;generalize e.natAbs=k at *
 refine Low.cons (by split <;> decide) ?_;split
 ·exact Low.cons (ys9 _ zd) (Low.cons (ys9 _ zd) Low.nil)
 ·split
  ·exact Low.cons (ys9 _ zd) (Low.cons (ys9 _ zd) (Low.cons (ys9 _ zd) Low.nil))
  ·exact Low.cons (ys9 _ zd) (Low.cons (ys9 _ zd) (Low.cons (ys9 _ zd) (Low.cons (ys9 _ zd) Low.nil)))
theorem ytv (neg:Bool) (prec:Int) (m mb:Nat) (e:Int) (h1:-9999<=(ymz prec m mb e).2) (h2:(ymz prec m mb e).2<=9999):xL neg prec 88 m mb e=upL (xL neg prec 120 m mb e):=by
 have hf:yky true prec ((ymz prec m mb e).1*16%2^64)=upL (yky false prec ((ymz prec m mb e).1*16%2^64)):=by
  unfold yky;split
  ·rw[ykp,ysc];rfl
  ·split
   ·rw[ykp,ysd];rfl
   ·rfl
 have hd:upB (UInt8.ofNat (48+(ymz prec m mb e).1 / 2^60%2))=UInt8.ofNat (48+(ymz prec m mb e).1 / 2^60%2):=yo9 _ (ys9 _ zd);unfold xL;rw[ykc,ykc,ykc,ykc,yle _ (Low.eSign neg),yle _ (Low.xExp _ h1 h2)];rw[show ((88:Int)==88)=true by rfl,show ((120:Int)==88)=false by rfl,hf];congr 1;congr 1;rw[ykp,ykp,ykp,hd];rfl
theorem yrt (prec:Int) (m mb:Nat) (e:Int) (h1:-2000<=e) (h2:e<=2000) (hm:m*2^(60-mb)<2^61):-9999<=(ymz prec m mb e).2/\(ymz prec m mb e).2<=9999:=by
 unfold ymz;have hn:(yly (m*2^(60-mb)) (if m=0 then 0 else e)).1<2305843009213693952/\-2100<=(yly (m*2^(60-mb)) (if m=0 then 0 else e)).2/\(yly (m*2^(60-mb)) (if m=0 then 0 else e)).2<=2000:=by
  unfold yly;split
  ·dsimp only;refine⟨zd,?_,?_⟩ <;> split <;> omega
  ·rename_i h0;dsimp only;generalize m*2^(60-mb)=M at *
   have hl:M.log2<=60:=by
    have:=(Nat.log2_lt h0 (k:=61)).2 hm;omega
   refine⟨?_,?_,?_⟩
   ·have h3:M<2^(M.log2+1):=Nat.lt_log2_self;have h4:=Nat.mul_lt_mul_of_pos_right h3 (Nat.pow_pos (n:=60-M.log2) (by omega:0<2));rw[<-Nat.pow_add,show M.log2+1+(60-M.log2)=61 by omega]at h4;exact h4
   ·split <;> omega
   ·split <;> omega
 have h3:=yo8 prec (yly (m*2^(60-mb)) (if m=0 then 0 else e)).1 (yly (m*2^(60-mb)) (if m=0 then 0 else e)).2 hn.1;omega
theorem ytn (b:Nat) (f F prec:Int) (hb:b<4294967296) (hk:flE 8 23 b≠2^8-1) (hp:prec<=50000) (h:f=101/\F=69\/f=103/\F=71\/f=120/\F=88):wi b F prec=upL (wi b f prec):=by
 have hE:flE 8 23 b<256:=Nat.mod_lt _ ze;have hF:flF 23 b<8388608:=Nat.mod_lt _ ze;have hM:zen 8 23 b<16777216:=by unfold zen;split <;> omega
 have hX:-126<=zor 8 23 (-127) b/\zor 8 23 (-127) b<=127:=by unfold zor;split <;> omega
 unfold wi yj5;rw[if_neg hk,if_neg hk];rcases h with⟨rfl,rfl⟩ | ⟨rfl,rfl⟩ | ⟨rfl,rfl⟩
 ·rw[if_neg ze,if_neg ze,if_neg ze,if_neg ze,ysz];obtain⟨p1,p2,p3,p4⟩:=yn8 40 (-189) 23 (zen 8 23 b) (zor 8 23 (-127) b) prec 101 (Or.inr ⟨rfl,rfl,rfl,hX.1,hX.2,hM⟩) hp;exact yp8 _ _ (yok _ _ _ _ _ _ _) p1 p2
 ·rw[if_neg ze,if_neg ze,if_neg ze,if_neg ze,ysy];obtain⟨p1,p2,p3,p4⟩:=yn8 40 (-189) 23 (zen 8 23 b) (zor 8 23 (-127) b) prec 103 (Or.inr ⟨rfl,rfl,rfl,hX.1,hX.2,hM⟩) hp;exact yp7 _ _ (yok _ _ _ _ _ _ _) p1 p2
 ·rw[if_neg ze,if_pos ze,if_neg ze,if_pos ze];have hx:=yrt prec (zen 8 23 b) 23 (zor 8 23 (-127) b) zd zd zd;exact ytv _ prec _ 23 _ hx.1 hx.2
set_option maxRecDepth 100000 in
theorem ytm (T b:Nat) (dst:Value) (prec f:Int) (xs:List UInt8) (w:World) (he:Env T w) (hown:OwnB T w dst xs) (hx:xs.length<=140737488900000) (hb:b<2^(1+8+23)) (hf1:0<=f) (hf2:f<=255) (hp1:-9223372036854775808<=prec) (hp2:prec<=50000):
  Calls Tryz.prog 70 #[dst,.float .f32 b,.int .u8 f,.int .i64 prec] w fun r w'=>
   ∃ v',r=.returned v'/\OwnB T w' v' (xs++wi b f prec)/\Stp w dst w' v':=by
 have hb64:b<4294967296:=hb;clear hb;have HE:=zH he;have HOWN:=zH hown;clear he hown;refine ye Tryz.func70 rfl (by rw[Tryz.ntmps70];simp) ?_;intro σ hσ;rw[Tryz.ntmps70];have s0:σ 0=dst:=hσ 0 zi;have s1:σ 1=.float .f32 b:=hσ 1 zi;have s2:σ 2=.int .u8 f:=hσ 2 zi;have s3:σ 3=.int .i64 prec:=hσ 3 zi;clear hσ;have hneg:((b:Int) / 2147483648 != 0)=yta 8 23 b:=by
  unfold yta;rw[Bool.eq_iff_iff];simp only[bne_iff_ne,decide_eq_true_eq];omega
 have hext:=fun W=>ytj b W
 have hE1:b / 8388608<9223372036854775808:=zd;have hE0:IntKind.i64.wrap ((b:Int) / 8388608)=((b / 8388608:Nat):Int):=zk;have hE:=yn9 (b / 8388608) 8 255 ze zd hE1;have hF:=ybg b 23 8388607 ze zd zd;have hEe:b / 8388608%2^8=flE 8 23 b:=rfl;have hFe:b%2^23=flF 23 b:=rfl;rw[hEe]at hE;rw[hFe]at hF;have hEb:flE 8 23 b<256:=Nat.mod_lt _ ze;have hFb:flF 23 b<8388608:=Nat.mod_lt _ ze;obtain⟨N0,hN0⟩:=zX (b / 8388608);rw[hN0]at hE0 hE hE1;clear hEe hFe hN0;(go_wp2_with fail;repeat ((first|refine cZ ?_|refine cW ?_);go_wp2_with fail));go_quiet (fail);go_upto_region 16 with fail;obtain⟨neg,hng⟩:=zX (yta 8 23 b);obtain⟨E,hEE⟩:=zX (flE 8 23 b);obtain⟨F,hFF⟩:=zX (flF 23 b);refine zjw (fun s'=>s' 0=dst/\s' 2=.int .u8 f/\s' 3=.int .i64 prec/\s' 10=.int .i64 8/\s' 11=.int .i64 23/\s' 12=.int .i64 (-127)/\s' 13=.bool neg/\s' 14=.int .i64 (E:Int)/\s' 15=.int .u64 (F:Int)) ⟨zb,zb,zb,zb,zb,zb,zb,zb,zb⟩ ?_;rw[hEE]at hEb;rw[hFF]at hFb;have HNG:=zH hng;have HEE:=zH hEE;have HFF:=zH hFF;clear s0 s1 s2 s3 σ hneg hext hF hE hE0 hE1 N0 hng hEE hFF;rintro σ ⟨s0,s2,s3,s10,s11,s12,s13,s14,s15⟩;have hTs:=HOWN.out.lt;have howq:=HOWN.out.drewN nq;have hstq:=Stp.drewN0 w dst nq;have henq:=HE.out.drewN nq;generalize w.drewN nq=w1 at *
 have HO1:=zH howq;have HS1:=zH hstq;have HE1:=zH henq;clear howq hstq henq HOWN HE;by_cases hE7:E=255
 ·have hL:wi b f prec=if F≠0 then [78,97,78] else if neg then [45,73,110,102] else [43,73,110,102]:=by
   unfold wi yj5;rw[HEE.out,HFF.out,HNG.out,hE7,if_pos ze]
  have HLL:=zH hL;clear hL;subst hE7;by_cases hF0:F=0
  ·subst hF0;cases neg
   ·(go_wp2_with (first | (at_builtin;refine ykb rfl _ _ _ _ rfl ze zsw HO1.out zb [43,73,110,102] (ykh Tryz.underlying9 _ _ rfl) zD ?_;intro v w' ho1 hs1));repeat ((first|refine cZ ?_|refine cW ?_);go_wp2_with (first | (at_builtin;refine ykb rfl _ _ _ _ rfl ze zsw HO1.out zb [43,73,110,102] (ykh Tryz.underlying9 _ _ rfl) zD ?_;intro v w' ho1 hs1))));exact yl v rfl ze zb ⟨v,rfl,by rw[HLL.out];exact ho1,HS1.out.trans hs1⟩
   ·(go_wp2_with (first | (at_builtin;refine ykb rfl _ _ _ _ rfl ze zsw HO1.out zb [45,73,110,102] (ykh Tryz.underlying9 _ _ rfl) zD ?_;intro v w' ho1 hs1));repeat ((first|refine cZ ?_|refine cW ?_);go_wp2_with (first | (at_builtin;refine ykb rfl _ _ _ _ rfl ze zsw HO1.out zb [45,73,110,102] (ykh Tryz.underlying9 _ _ rfl) zD ?_;intro v w' ho1 hs1))));exact yl v rfl ze zb ⟨v,rfl,by rw[HLL.out];exact ho1,HS1.out.trans hs1⟩
  ·have hF0':((F:Int) != 0)=true:=zQ;(go_wp2_with (first | (at_builtin;refine ykb rfl _ _ _ _ rfl ze zsw HO1.out zb [78,97,78] (ykh Tryz.underlying9 _ _ rfl) zD ?_;intro v w' ho1 hs1));repeat ((first|refine cZ ?_|refine cW ?_);go_wp2_with (first | (at_builtin;refine ykb rfl _ _ _ _ rfl ze zsw HO1.out zb [78,97,78] (ykh Tryz.underlying9 _ _ rfl) zD ?_;intro v w' ho1 hs1))));exact yl v rfl ze zb ⟨v,rfl,by rw[HLL.out,if_pos hF0];exact ho1,HS1.out.trans hs1⟩
 have hE7':((E:Int)==255)=false:=zf;(go_wp2_with fail;repeat ((first|refine cZ ?_|refine cW ?_);go_wp2_with fail));obtain⟨m,hm⟩:=zX (zen 8 23 b);obtain⟨x,hxx⟩:=zX (zor 8 23 (-127) b);have hm1:m=if E=0 then F else F+8388608:=by rw[<-hm];unfold zen;rw[HEE.out,HFF.out]
 have hx1:x=(if E=0 then 1 else (E:Int))+-127:=by rw[<-hxx];unfold zor;rw[HEE.out]
 have hmb:m<16777216:=by rw[hm1];split <;> omega
 have hxl:-126<=x:=by rw[hx1];split <;> omega
 have hxu:x<=127:=by rw[hx1];split <;> omega
 have HM:=zH hm;have HXX:=zH hxx;have HM1:=zH hm1;have HX1:=zH hx1;clear hm hxx hm1 hx1;refine yr (fun s' w'=>s' 0=dst/\s' 2=.int .u8 f/\s' 3=.int .i64 prec/\s' 11=.int .i64 23/\s' 12=.int .i64 (-127)/\s' 13=.bool neg/\s' 14=.int .i64 (x+127)/\s' 15=.int .u64 (m:Int)/\w1=w') ?_ ?_
 ·intro R2 K2 HR hK2;by_cases hE0:E=0
  ·subst hE0;have hx1:x+127=1:=by rw[HX1.out];rfl
   have hm1:m=F:=by rw[HM1.out];rfl
   refine jq zb ze ?_;(go_wp2_with fail;repeat ((first|refine cZ ?_|refine cW ?_);go_wp2_with fail));exact got HR ⟨zb,zb,zb,zb,zb,zb,by rw[hx1];simp[yc,yd],zb,rfl⟩
  ·have hE0':((E:Int)==0)=false:=zf;have hx1:x+127=(E:Int):=by rw[HX1.out,if_neg hE0];omega
   have hm1:m=F+8388608:=by rw[HM1.out,if_neg hE0]
   have hor:bits .or .u64 (F:Int) 8388608=(m:Int):=by rw[hm1];exact ydx F 23 zd zd
   clear hm1;refine kj zb ze ?_;(go_wp2_with fail;repeat ((first|refine cZ ?_|refine cW ?_);go_wp2_with fail));exact got HR ⟨zb,zb,zb,zb,zb,zb,by rw[hx1];simp[ov, *],zb,rfl⟩
 clear s0 s2 s3 s10 s11 s12 s13 s14 s15 σ hE7' hEb hFb;rintro σ w' ⟨s0,s2,s3,s11,s12,s13,s14,s15,rfl⟩;have hLL:wi b f prec=if f=98 then yob neg m (x-23) else if f=120\/f=88 then xL neg prec f m 23 x else ylb neg f (ykq 40 (-189) 23 m x prec f):=by
  unfold wi yj5;rw[HEE.out,HNG.out,HM.out,HXX.out,if_neg zd];rfl
 have HLL:=zH hLL;clear hLL HEE HFF HM1 HX1 HM HXX HNG hE7;go_upto_region 26 with fail;refine zjw (fun s'=>s' 0=dst/\s' 2=.int .u8 f/\s' 3=.int .i64 prec/\s' 11=.int .i64 23/\s' 13=.bool neg/\s' 14=.int .i64 x/\s' 15=.int .u64 (m:Int)) ⟨zb,zb,zb,zb,zb,zγc,zb⟩ ?_;clear s0 s2 s3 s11 s12 s13 s14 s15 σ;rintro σ ⟨s0,s2,s3,s11,s13,s14,s15⟩;by_cases hf98:f=98
 ·subst hf98;(go_wp2_with fail;repeat ((first|refine cZ ?_|refine cW ?_);go_wp2_with fail));refine (yq3 T m neg (x-23) dst xs _ HE1.out HO1.out zd zd zd zd).mono ?_;rintro e w7 ⟨v',rfl,ho7,hs7⟩;(go_wp2_with fail;repeat ((first|refine cZ ?_|refine cW ?_);go_wp2_with fail));exact yl v' rfl ze zb ⟨v',rfl,by rw[HLL.out];exact ho7,HS1.out.trans hs7⟩
 have hf98':(f==98)=false:=by rw[beq_eq_false_iff_ne];exact hf98
 by_cases hfx:f=120\/f=88
 ·have hL2:wi b f prec=xL neg prec f m 23 x:=by rw[HLL.out,if_neg hf98,if_pos hfx]
  have HL2:=zH hL2;clear hL2 HLL hf98;rcases hfx with hfx | hfx;all_goals
   subst hfx;(go_wp2_with fail;repeat ((first|refine cZ ?_|refine cW ?_);go_wp2_with fail));refine (yq2 T neg dst prec _ m 23 x xs _ HE1.out HO1.out zd zi zd zd zd zd zi zd).mono ?_;rintro e w7 ⟨v',rfl,ho7,hs7⟩;(go_wp2_with fail;repeat ((first|refine cZ ?_|refine cW ?_);go_wp2_with fail));exact yl v' rfl ze zb ⟨v',rfl,by rw[HL2.out];exact ho7,HS1.out.trans hs7⟩
 have hL2:wi b f prec=ylb neg f (ykq 40 (-189) 23 m x prec f):=by rw[HLL.out,if_neg hf98,if_neg hfx]
 have HL2:=zH hL2;have hf120:(f==120)=false:=zf;have hf88:(f==88)=false:=zf;clear hL2 HLL hf98 hfx;by_cases hm0:m=0
 ·have hL3:wi b f prec=ylb neg f ⟨[],0,prec,decide (prec<0)⟩:=by rw[HL2.out];unfold ykq;rw[if_pos hm0]
  have HL3:=zH hL3;clear hL3 HL2;subst hm0;(go_wp2_with fail;repeat ((first|refine cZ ?_|refine cW ?_);go_wp2_with fail));refine (yk8 T neg (decide (prec<0)) dst (.slice none 0 0) [] 0 0 prec f xs _ HE1.out HO1.out (Or.inl rfl) rfl (fun _=>Or.inl rfl) zd hf1 hf2 zd zd zd zd hp1 ?_ zd).mono ?_
  ·by_cases h:-100000<=prec
   ·exact Or.inl h
   ·exact Or.inr (Or.inr ⟨rfl,zh⟩)
  rintro e w7 ⟨v',rfl,ho7,hs7⟩;(go_wp2_with fail;repeat ((first|refine cZ ?_|refine cW ?_);go_wp2_with fail));exact yl v' rfl ze zb ⟨v',rfl,by rw[HL3.out];exact ho7,HS1.out.trans hs7⟩
 have hm0':((m:Int)==0)=false:=zf;obtain⟨hb1,hb2,hb3,hb4⟩:=zdq m zd hm0;have hbl:=Lib.bitLen_le m 24 zd hmb;have hlen:=fun W=>zrb m W zd
 obtain⟨S,hS⟩:=zX (shS m);have hSi:(64:Int)-(Lib.bitLen m:Int)=(S:Int):=by rw[<-hS];unfold shS;omega
 obtain⟨mm,hmm⟩:=zX (m*2^S);have hmm64:mm<18446744073709551616:=by
  rw[<-hmm,show (18446744073709551616:Nat)=2^Lib.bitLen m*2^S by rw[<-Nat.pow_add,show Lib.bitLen m+S=64 by omega]];exact Nat.mul_lt_mul_of_pos_right hb3 (Nat.pow_pos zd)
 have hmmi:IntKind.u64.wrap ((m:Int)*2^S)=(mm:Int):=by
  have:(m:Int)*2^S=(mm:Int):=by rw[<-hmm];simp
  rw[this,IntKind.wrap_u64];omega
 have hS1:40<=S:=zd;have hS2:S<=63:=zd;have HLEN:=zH hlen;have HSS:=zH hS;have HMM:=zH hmm;obtain⟨bl,hbl2⟩:=zX (Lib.bitLen m);rw[hbl2]at HLEN hSi;clear hb1 hb2 hb3 hb4 hbl hlen hS hmm hbl2;by_cases hpn:prec<0
 ·have hL3:wi b f prec=ylb neg f (ykg 40 (-189) m (x-23) prec f):=by rw[HL2.out];unfold ykq;rw[if_neg hm0,if_pos hpn];rfl
  have HL3:=zH hL3;clear hL3 HL2;(go_wp2_with fail;repeat ((first|refine cZ ?_|refine cW ?_);go_wp2_with fail));refine (HLEN.out _).mono ?_;rintro e w7 ⟨rfl,rfl⟩;(go_wp2_with fail;repeat ((first|refine cZ ?_|refine cW ?_);go_wp2_with fail));obtain⟨d,hd⟩:=zX ((kg 40 (-189) mm (x-S-23)).1);obtain⟨p,hp⟩:=zX ((kg 40 (-189) mm (x-S-23)).2);have hbd:=ylm 40 (-189) mm (x-S-23) (Or.inr ⟨rfl,rfl,zd,zd⟩) hmm64;rw[hd,hp]at hbd;obtain⟨hd64,hpl,hpu⟩:=hbd;have hsf:=fun W (hW:Env T W)=>yte T mm (x-S-23) W hW hmm64 zd zd
  rw[hd,hp]at hsf;refine (hsf _ (HE1.out.alloc _)).mono ?_;rintro e w8 ⟨rfl,hg8⟩;have hrow8:BRow w8 w1.heap.size (List.replicate 32 0):=BRow.grown (BRow.new w1 (List.replicate 32 0) _) hg8 zi;have hk8:Keep T w dst xs w8:=(Keep.alloc ⟨HO1.out,HS1.out,HE1.out⟩ _).grown0 hg8;have hne8:dst.ownBlock≠some w1.heap.size:=HO1.out.ne_new;have hlt8:=hrow8.lt;have HROW8:=zH hrow8;have HK8:=zH hk8;have HNE8:=zH hne8;have hnum:=ykr T d w8.drew HK8.out.drew.env hd64;have hset:=yln w1.heap.size 32 d p (List.replicate 32 0) w8.drew (Row.drew HROW8.out) zi zi zi hd64 zd zd;rw[List.length_replicate]at hset;have HNUM:=zH hnum;have HSET:=zH hset;have HDD:=zH hd;have HPP:=zH hp;have hnd20:=yks d hd64;have htz:=zjj (digs d (yi d)) (yi d);obtain⟨n,hn⟩:=zX (yi d);rw[hn]at HNUM HSET hnd20 htz;obtain⟨nd,hnd⟩:=zX (uc (digs d n) n);rw[hnd]at HSET htz;have HN:=zH hn;have HND:=zH hnd;clear hg8 hrow8 hk8 hne8 hnum hset hsf hd hp hn hnd;(go_wp2_with fail;repeat ((first|refine cZ ?_|refine cW ?_);go_wp2_with fail));go_region_held3 (fun _=>True) (trivial) (first | (go_at_call 96;refine HNUM.out.mono ?_;rintro e w9 ⟨rfl,rfl⟩) | (go_at_call 95;refine HSET.out.mono ?_;rintro e w9 ⟨rfl,hrow9,hg9⟩));have hk9:Keep T w dst xs w9:=HK8.out.drew.write hg9 HS1.out.1.size HE1.out.size HNE8.out;have hrow10:BRow w9 w1.heap.size (digs d n++List.drop n (List.replicate 32 0)):=hrow9;have HK9:=zH hk9;have HROW9:=zH hrow10;clear hk9 hrow9 hrow10 hg9 HNUM HSET HROW8 HK8;go_upto_block 1 with fail;obtain⟨dp,hdp⟩:=zX ((n:Int)+p);obtain⟨pr,hpr⟩:=zX (yj9 nd dp prec f);have HPR:=zH hpr;have hnd20':(nd:Int)<=20:=zd;have hdpl:-400<=dp:=zd;have hdpu:dp<=420:=zd;rw[hdp];have HDP:=zH hdp;clear hpr hdp;refine yr (fun s' w'=>s' 0=dst/\s' 2=.int .u8 f/\s' 3=.int .i64 pr/\s' 13=.bool neg/\s' 16=.pointer (some ⟨w1.heap.size,0,none⟩)/\s' 22=.int .i64 dp/\s' 23=.int .i64 (nd:Int)/\w9=w') ?_ ?_
  ·intro R2 K2 HR hK2;by_cases h1:f=101
   ·have hp':pr=max ((nd:Int)-1) 0:=by rw[<-HPR.out];unfold yj9;rw[if_pos (Or.inl h1)]
    subst h1;(go_wp2_with fail;repeat ((first|refine cZ ?_|refine cW ?_);go_wp2_with fail));exact got HR ⟨zb,zb,zb,zb,zb,zb,zb,rfl⟩
   have h1':(f==101)=false:=zγo;by_cases h2:f=69
   ·have hp':pr=max ((nd:Int)-1) 0:=by rw[<-HPR.out];unfold yj9;rw[if_pos (Or.inr h2)]
    subst h2;(go_wp2_with fail;repeat ((first|refine cZ ?_|refine cW ?_);go_wp2_with fail));exact got HR ⟨zb,zb,zb,zb,zb,zb,zb,rfl⟩
   have h2':(f==69)=false:=zγp;by_cases h3:f=102
   ·have hp':pr=max ((nd:Int)-dp) 0:=by rw[<-HPR.out];unfold yj9;rw[if_neg zd,if_pos h3]
    subst h3;(go_wp2_with fail;repeat ((first|refine cZ ?_|refine cW ?_);go_wp2_with fail));exact got HR ⟨zb,zb,zb,zb,zb,zb,zb,rfl⟩
   have h3':(f==102)=false:=zβJ;by_cases h4:f=103
   ·have hp':pr=(nd:Int):=by rw[<-HPR.out];unfold yj9;rw[if_neg zd,if_neg zd,if_pos (Or.inl h4)]
    subst h4;(go_wp2_with fail;repeat ((first|refine cZ ?_|refine cW ?_);go_wp2_with fail));exact got HR ⟨zb,zb,zb,zb,zb,zb,zb,rfl⟩
   have h4':(f==103)=false:=by rw[beq_eq_false_iff_ne];exact h4
   by_cases h5:f=71
   ·have hp':pr=(nd:Int):=by rw[<-HPR.out];unfold yj9;rw[if_neg zd,if_neg zd,if_pos (Or.inr h5)]
    subst h5;(go_wp2_with fail;repeat ((first|refine cZ ?_|refine cW ?_);go_wp2_with fail));exact got HR ⟨zb,zb,zb,zb,zb,zb,zb,rfl⟩
   have h5':(f==71)=false:=by rw[beq_eq_false_iff_ne];exact h5
   have hp':pr=prec:=by rw[<-HPR.out];unfold yj9;rw[if_neg zd,if_neg zd,if_neg zd]
   (go_wp2_with fail;repeat ((first|refine cZ ?_|refine cW ?_);go_wp2_with fail));exact got HR ⟨zb,zb,zb,zb,zb,zb,zb,rfl⟩
  clear s0 s2 s3 s11 s13 s14 s15 σ;rintro σ w10 ⟨s0,s2,s3,s13,s16,s22,s23,rfl⟩;have hlt9:=HROW9.out.lt;(go_wp2_with fail;repeat ((first|refine cZ ?_|refine cW ?_);go_wp2_with fail));have hprb:-9223372036854775808<=pr/\pr<=100000/\(-100000<=pr\/(f≠103/\f≠71)):=by
   rw[<-HPR.out];unfold yj9;by_cases h1:f=101\/f=69
   ·rw[if_pos h1];omega
   rw[if_neg h1];by_cases h2:f=102
   ·rw[if_pos h2];omega
   rw[if_neg h2];by_cases h3:f=103\/f=71
   ·rw[if_pos h3];omega
   rw[if_neg h3];omega
  have hdsl:(yko d).length=nd:=by rw[yku,HN.out,HND.out]
  have hbl:(digs d n++List.drop n (List.replicate 32 (0:UInt8))).length=32:=by simp[va];omega
  refine (yk8 T neg true dst (.slice (some ⟨w1.heap.size,0,none⟩) 32 32) (yko d) dp nd pr f xs _ HK9.out.env HK9.out.own ?_ (by rw[hdsl]) ?_ zd hf1 hf2 zd zd zd zd hprb.1 ?_ hprb.2.1).mono ?_
  ·refine Or.inr ⟨w1.heap.size,32,_,by rw[hbl],zd,zd,⟨[],by rw[List.append_nil];exact HROW9.out⟩,HNE8.out,?_,zd⟩;rw[hdsl,List.take_append_of_le_length (by rw[va];exact htz)];unfold yko;rw[HN.out,HND.out]
  ·intro _;exact Or.inr ⟨w1.heap.size,32,32,rfl,zd,zd⟩
  ·rcases hprb.2.2 with h | h
   ·exact Or.inl h
   ·exact Or.inr (Or.inl h)
  rintro e w11 ⟨v',rfl,ho7,hs7⟩;(go_wp2_with fail;repeat ((first|refine cZ ?_|refine cW ?_);go_wp2_with fail));refine yl v' rfl ze zb ⟨v',rfl,?_,HK9.out.stp.trans hs7⟩;rw[HL3.out];have hfin:ylb neg f (ykg 40 (-189) m (x-23) prec f)=ymh neg (yko d) dp (ykz dp nd pr f true).1 (ykz dp nd pr f true).2:=by
   unfold ylb ykg;rw[HSS.out,HMM.out,show x-23-(S:Int)=x-S-23 by omega];dsimp only;rw[HDD.out,HPP.out,hdsl,HN.out,HDP.out,HPR.out]
  rw[hfin];exact ho7
 have hopt:=HE1.out.opt;have hTg:=HE1.out.glob;have hTs1:=HE1.out.size;have hpn':decide (prec<0)=false:=by simpa using hpn
 obtain⟨pf,hpf⟩:=zX (xt prec f);obtain⟨dg,hdg⟩:=zX (ykk x prec f);have hpf1:0<=pf:=by rw[<-hpf];unfold xt;split <;> omega
 have hpf2:pf<=50000:=by rw[<-hpf];unfold xt;split <;> omega
 have hL3:wi b f prec=ylb neg f (if dg<=18 then ylt m (x-23) dg pf f else ym4 (ykl m (x-23) pf f) pf):=by
  rw[HL2.out];unfold ykq;rw[if_neg hm0,if_neg hpn,hdg,hpf];rfl
 have HL3:=zH hL3;have HPF:=zH hpf;have HDG:=zH hdg;clear hL3 hpf hdg HL2;(go_upto_block 2 with fail;repeat ((first|refine cZ ?_|refine cW ?_);go_upto_block 2 with fail));refine yr (fun s' w'=>s' 0=dst/\s' 2=.int .u8 f/\s' 3=.int .i64 pf/\s' 11=.int .i64 23/\s' 13=.bool neg/\s' 14=.int .i64 x/\s' 15=.int .u64 (m:Int)/\s' 24=.int .i64 dg/\w1=w') ?_ ?_
 ·intro R2 K2 HR hK2;by_cases h3:f=102
  ·have hp':pf=prec:=by rw[<-HPF.out];unfold xt;rw[if_neg zd]
   by_cases hx0:0<=x
   ·have hd':dg=1+(1+x)*78913 / 262144+prec:=by rw[<-HDG.out];unfold ykk;rw[if_pos h3,if_pos hx0]
    subst h3;(go_wp2_with fail;repeat ((first|refine cZ ?_|refine cW ?_);go_wp2_with fail));refine (yke (1+x) ((1+x)*78913 / 262144) _ zd zd rfl).mono ?_;rintro e w7 ⟨rfl,rfl⟩;(go_wp2_with fail;repeat ((first|refine cZ ?_|refine cW ?_);go_wp2_with fail));exact got HR ⟨zb,zb,zb,zb,zb,zb,zb,zb,rfl⟩
   ·have hd':dg=1+prec - -x*78913 / 262144:=by rw[<-HDG.out];unfold ykk;rw[if_pos h3,if_neg hx0]
    have hx0':decide (0<=x)=false:=by simpa using hx0
    subst h3;(go_wp2_with fail;repeat ((first|refine cZ ?_|refine cW ?_);go_wp2_with fail));refine (yke (-x) (-x*78913 / 262144) _ zd zd rfl).mono ?_;rintro e w7 ⟨rfl,rfl⟩;(go_wp2_with fail;repeat ((first|refine cZ ?_|refine cW ?_);go_wp2_with fail));exact got HR ⟨zb,zb,zb,zb,zb,zb,zb,zb,rfl⟩
  have h3':(f==102)=false:=zβJ;by_cases h1:f=101
  ·have hp':pf=prec:=by rw[<-HPF.out];unfold xt;rw[if_neg zd]
   have hd':dg=prec+1:=by rw[<-HDG.out];unfold ykk;rw[if_neg h3,if_pos (Or.inl h1)]
   subst h1;(go_wp2_with fail;repeat ((first|refine cZ ?_|refine cW ?_);go_wp2_with fail));exact got HR ⟨zb,zb,zb,zb,zb,zb,zb,zb,rfl⟩
  have h1':(f==101)=false:=zγo;by_cases h2:f=69
  ·have hp':pf=prec:=by rw[<-HPF.out];unfold xt;rw[if_neg zd]
   have hd':dg=prec+1:=by rw[<-HDG.out];unfold ykk;rw[if_neg h3,if_pos (Or.inr h2)]
   subst h2;(go_wp2_with fail;repeat ((first|refine cZ ?_|refine cW ?_);go_wp2_with fail));exact got HR ⟨zb,zb,zb,zb,zb,zb,zb,zb,rfl⟩
  have h2':(f==69)=false:=zγp;by_cases h4:f=103\/f=71
  ·have hd':dg=pf:=by rw[<-HDG.out,<-HPF.out];unfold ykk;rw[if_neg h3,if_neg zd,if_pos h4]
   by_cases hz:prec=0
   ·have hp':pf=1:=by rw[<-HPF.out];unfold xt;rw[if_pos ⟨h4,hz⟩]
    subst hz;rcases h4 with h4 | h4
    ·subst h4;(go_wp2_with fail;repeat ((first|refine cZ ?_|refine cW ?_);go_wp2_with fail));exact got HR ⟨zb,zb,zb,zb,zb,zb,zb,zb,rfl⟩
    ·subst h4;(go_wp2_with fail;repeat ((first|refine cZ ?_|refine cW ?_);go_wp2_with fail));exact got HR ⟨zb,zb,zb,zb,zb,zb,zb,zb,rfl⟩
   ·have hp':pf=prec:=by rw[<-HPF.out];unfold xt;rw[if_neg (fun h=>hz h.2)]
    have hz':(prec==0)=false:=by rw[beq_eq_false_iff_ne];exact hz
    rcases h4 with h4 | h4
    ·subst h4;(go_wp2_with fail;repeat ((first|refine cZ ?_|refine cW ?_);go_wp2_with fail));exact got HR ⟨zb,zb,zb,zb,zb,zb,zb,zb,rfl⟩
    ·subst h4;(go_wp2_with fail;repeat ((first|refine cZ ?_|refine cW ?_);go_wp2_with fail));exact got HR ⟨zb,zb,zb,zb,zb,zb,zb,zb,rfl⟩
  have h4':(f==103)=false:=zf;have h5':(f==71)=false:=zf;have hp':pf=prec:=by rw[<-HPF.out];unfold xt;rw[if_neg (fun h=>h4 h.1)]
  have hd':dg=1:=by rw[<-HDG.out];unfold ykk;rw[if_neg h3,if_neg zd,if_neg h4]
  (go_wp2_with fail;repeat ((first|refine cZ ?_|refine cW ?_);go_wp2_with fail));exact got HR ⟨zb,zb,zb,zb,zb,zb,zb,zb,rfl⟩
 clear s0 s2 s3 s11 s13 s14 s15 σ hpn';rintro σ w2 ⟨s0,s2,s3,s11,s13,s14,s15,s24,rfl⟩;by_cases hdg18:dg<=18
 ·have hL4:wi b f prec=ylb neg f (ylt m (x-23) dg pf f):=by rw[HL3.out,if_pos hdg18]
  have HL4:=zH hL4;clear hL4 HL3;have hrowN:=BRow.new w1 (List.replicate 24 0) 147;have hkN:Keep T w dst xs (w1.alloc (Obj.cells ((List.replicate 24 (0:UInt8)).map zkm).toArray 147)):=Keep.alloc ⟨HO1.out,HS1.out,HE1.out⟩ _;have HROWN:=zH hrowN;have HKN:=zH hkN;have hneN:dst.ownBlock≠some w1.heap.size:=HO1.out.ne_new;have HNEN:=zH hneN;clear hrowN hkN hneN;(go_wp2_with fail;repeat ((first|refine cZ ?_|refine cW ?_);go_wp2_with fail));refine yr (fun s' w'=>∃ (ds bs:List UInt8) (dp:Int),ylt m (x-23) dg pf f=⟨ds,dp,pf,false⟩/\bs.length=24/\bs.take ds.length=ds/\ds.length<=20/\-420<=dp/\dp<=420/\BRow w' w1.heap.size bs/\Keep T w dst xs w'/\s' 0=dst/\s' 2=.int .u8 f/\s' 3=.int .i64 pf/\s' 13=.bool neg/\s' 25=.pointer (some ⟨w1.heap.size,0,none⟩)/\s' 26=.int .i64 dp/\s' 27=.int .i64 (ds.length:Nat)) ?_ ?_
  ·intro R2 K2 HR hK2;by_cases hd0:0<dg
   ·refine jq zb ze ?_;(go_wp2_with fail;repeat ((first|refine cZ ?_|refine cW ?_);go_wp2_with fail));refine (HLEN.out _).mono ?_;rintro e w7 ⟨rfl,rfl⟩;(go_wp2_with fail;repeat ((first|refine cZ ?_|refine cW ?_);go_wp2_with fail));obtain⟨d,hd⟩:=zX ((fwf mm (x-S-23) dg pf (f==102)).1);obtain⟨p,hp⟩:=zX ((fwf mm (x-S-23) dg pf (f==102)).2);have hbd:=yrn mm (x-S-23) dg pf (f==102) zd zd zd hdg18 hpf1 zd;rw[hd,hp]at hbd;obtain⟨hd64,hpl,hpu⟩:=hbd;have hsf:=fun W (hW:Env T W)=>yli T mm (x-S-23) dg pf f W hW hmm64 zd zd zd hdg18 hpf1 zd zd zd
    rw[hd,hp]at hsf;refine (hsf _ HKN.out.env).mono ?_;rintro e w8 ⟨rfl,hg8⟩;have hrow8:BRow w8 w1.heap.size (List.replicate 24 0):=BRow.grown HROWN.out hg8 zi;have hk8:Keep T w dst xs w8:=HKN.out.grown0 hg8;have hlt8:=hrow8.lt;have HROW8:=zH hrow8;have HK8:=zH hk8;have hpk:ylt m (x-23) dg pf f=if d≠0 then ⟨yko d,yi d+p,pf,false⟩ else ⟨[],0,pf,false⟩:=by
     unfold ylt;rw[if_pos hd0,HSS.out,HMM.out,show x-23-(S:Int)=x-S-23 by omega];dsimp only;rw[hd,hp]
    have HPK:=zH hpk;clear hg8 hrow8 hk8 hsf hd hp hpk;by_cases hdz:d=0
    ·subst hdz;(go_wp2_with fail;repeat ((first|refine cZ ?_|refine cW ?_);go_wp2_with fail));exact got HR ⟨[],List.replicate 24 0,0,by rw[HPK.out,if_neg zi],zi,zi,zi,zd,zd,HROW8.out,HK8.out,zb,zb,zb,zb,zb,zb,zb⟩
    ·have hdz':((d:Int) != 0)=true:=zQ;have hnum:=ykr T d w8.drew HK8.out.drew.env hd64;have hset:=yln w1.heap.size 24 d p (List.replicate 24 0) w8.drew (Row.drew HROW8.out) zi zi zi hd64 zd zd;rw[List.length_replicate]at hset;have HNUM:=zH hnum;have HSET:=zH hset;have hnd20:=yks d hd64;have htz:=zjj (digs d (yi d)) (yi d);obtain⟨n,hn⟩:=zX (yi d);rw[hn]at HNUM HSET hnd20 htz;obtain⟨nd,hnd⟩:=zX (uc (digs d n) n);rw[hnd]at HSET htz;have HN:=zH hn;have HND:=zH hnd;clear hnum hset hn hnd;(go_wp2_with fail;repeat ((first|refine cZ ?_|refine cW ?_);go_wp2_with fail));go_region_held3 (fun _=>True) (trivial) (first | (go_at_call 96;refine HNUM.out.mono ?_;rintro e w9 ⟨rfl,rfl⟩) | (go_at_call 95;refine HSET.out.mono ?_;rintro e w9 ⟨rfl,hrow9,hg9⟩));have hk9:Keep T w dst xs w9:=HK8.out.drew.write hg9 HS1.out.1.size HE1.out.size HNEN.out;have hrow10:BRow w9 w1.heap.size (digs d n++List.drop n (List.replicate 24 0)):=hrow9;have HK9:=zH hk9;have HROW9:=zH hrow10;clear hk9 hrow9 hrow10 hg9 HNUM HSET HROW8 HK8;have hdsl:(yko d).length=nd:=by rw[yku,HN.out,HND.out]
     have HDSL:=zH hdsl;clear hdsl;go_wp2_with fail;simp only[zxh,vz,ys7];refine hK2 _ _ _ ?_;refine got HR ⟨yko d,digs d n++List.drop n (List.replicate 24 0),n+p,by rw[HPK.out,if_pos hdz,HN.out],by simp[va];omega,?_,by rw[HDSL.out];omega,zd,zd,HROW9.out,HK9.out,zb,zb,zb,zb,zb,zb,by rw[HDSL.out];simp[yc,yd]⟩;rw[HDSL.out,List.take_append_of_le_length (by rw[va];exact htz)];unfold yko;rw[HN.out,HND.out]
   ·have hd0':decide (0<dg)=false:=by simpa using hd0
    refine kj zb ze ?_;(go_wp2_with fail;repeat ((first|refine cZ ?_|refine cW ?_);go_wp2_with fail));exact got HR ⟨[],List.replicate 24 0,0,by unfold ylt;rw[if_neg zd],zi,zi,zi,zd,zd,HROWN.out,HKN.out,zb,zb,zb,zb,zb,zb,zb⟩
  clear s0 s2 s3 s11 s13 s14 s15 s24 σ;rintro σ w9 ⟨ds,bs,dp,hpk,hbl,htk,hdl,hdp1,hdp2,hrow,hk,s0,s2,s3,s13,s25,s26,s27⟩;have hlt9:=hrow.lt;have HPK:=zH hpk;have HROW9:=zH hrow;have HK9:=zH hk;have HTK:=zH htk;have HBL:=zH hbl;clear hpk hrow hk htk hbl;(go_wp2_with fail;repeat ((first|refine cZ ?_|refine cW ?_);go_wp2_with fail));refine (yk8 T neg false dst (.slice (some ⟨w1.heap.size,0,none⟩) 24 24) ds dp (ds.length:Nat) pf f xs _ HK9.out.env HK9.out.own ?_ rfl ?_ zd hf1 hf2 zd zd zd zd zd (Or.inl zd) zd).mono ?_
  ·exact Or.inr ⟨w1.heap.size,24,bs,by rw[HBL.out],by rw[HBL.out];omega,zd,⟨[],by rw[List.append_nil];exact HROW9.out⟩,HNEN.out,HTK.out,by rw[HBL.out];omega⟩
  ·intro _;exact Or.inr ⟨w1.heap.size,24,24,rfl,zd,zd⟩
  rintro e w11 ⟨v',rfl,ho7,hs7⟩;(go_wp2_with fail;repeat ((first|refine cZ ?_|refine cW ?_);go_wp2_with fail));refine yl v' rfl ze zb ⟨v',rfl,?_,HK9.out.stp.trans hs7⟩;rw[HL4.out,HPK.out];exact ho7
 ·have hL4:wi b f prec=ylb neg f (ym4 (ykl m (x-23) pf f) pf):=by rw[HL3.out,if_neg hdg18]
  have HL4:=zH hL4;have hdg18':decide (dg<=18)=false:=by simpa using hdg18
  have hmb53:m<2^53:=zd;clear hL4 HL3;have hkN:Keep T w dst xs (w1.alloc (Obj.cells Tryz.zeroCells152 152)):=Keep.alloc ⟨HO1.out,HS1.out,HE1.out⟩ _;have HKN:=zH hkN;have hneN:dst.ownBlock≠some w1.heap.size:=HO1.out.ne_new;have HNEN:=zH hneN;have hfk:f=102\/f=101\/f=69\/f=103\/f=71:=by
   have h:=HDG.out;unfold ykk at h;by_cases h1:f=102
   ·exact Or.inl h1
   rw[if_neg h1]at h;by_cases h2:f=101\/f=69
   ·omega
   rw[if_neg h2]at h;by_cases h3:f=103\/f=71
   ·omega
   rw[if_neg h3]at h;omega
  have HFK:=zH hfk;clear hkN hneN hfk;(go_wp2_with fail;repeat ((first|refine cZ ?_|refine cW ?_);go_wp2_with fail));refine (yo7 w1.heap.size m _ 0 0 false _ (Dec.new w1) zd).mono ?_;rintro e w3 ⟨rfl,hd3,hg3⟩;have hk3:Keep T w dst xs w3:=HKN.out.write hg3 HS1.out.1.size HE1.out.size HNEN.out;have hn3:=hd3.pos hm0;rw[Int.zero_add]at hn3;have HK3:=zH hk3;have HN3:=zH hn3;clear hd3 hg3 hk3 hn3 HKN;(go_wp2_with fail;repeat ((first|refine cZ ?_|refine cW ?_);go_wp2_with fail));obtain⟨hb1,hb2,hb3,hb4,hb5,hb6⟩:=yl0 m (x-23) hm0 hmb53 zd zd;have hcm:zga m<=m:=by
   have:=(zar m hm0).1;have h2:=Nat.le_mul_of_pos_right (zga m) (Nat.pow_pos (n:=tz m) (by omega:0<10));omega
  have htzm:tz m<=16:=by
   have h1:=znx m hm0;have h2:yi m<=16:=by
    have h3:=qh hm0;have h4:=(Nat.pow_lt_pow_iff_right (by omega:1<10)).1 (Nat.lt_of_le_of_lt h3 (Nat.lt_of_lt_of_le hmb (by decide:(16777216:Nat)<=10^16)));omega
   omega
  refine (yqf T w1.heap.size (zga m) (tz m) (x-23) false _ HK3.out.env HE1.out.size HN3.out zd zd zd zd ?_ ?_).mono ?_
  ·intro hk0;have:=yk2 (53+(x-23).toNat) (zga m*2^(x-23).toNat) (by rw[Nat.pow_add];exact Nat.mul_lt_mul_of_pos_right (Nat.lt_of_le_of_lt hcm hmb53) (Nat.pow_pos zd)) zd;omega
  ·intro hk0;have:=ylp (-(x-23)).toNat (zga m) (Nat.lt_of_le_of_lt hcm hmb53) zd;omega
  rintro e w4 ⟨rfl,hd4,hg4⟩;have hk4:Keep T w dst xs w4:=HK3.out.write hg4 HS1.out.1.size HE1.out.size HNEN.out;have hN:shD (zga m) (tz m) (x-23)=kf m (x-23):=rfl;rw[hN]at hd4;obtain⟨N1,hN1⟩:=zX ((kf m (x-23)).1);obtain⟨p1,hp1'⟩:=zX ((kf m (x-23)).2);rw[hN1,hp1']at hd4;rw[hN1]at hb1 hb2 hb5 hb6;rw[hp1']at hb3 hb4 hb5 hb6;obtain⟨L1,hL1⟩:=zX (yi N1);have hlt4:w1.heap.size<w4.heap.size:=by obtain⟨_,bs,_,hd⟩:=hd4;exact hd.lt
  have d1:w4.cell? ⟨w1.heap.size,801,none⟩=some (.int .i64 (p1+(yi N1:Nat))):=by obtain⟨_,bs,_,hd⟩:=hd4;exact hd.cdp
  rw[hL1]at d1 hb2 hb5 hb6;have hR:ykl m (x-23) pf f=ymf N1 p1 (if f=101\/f=69 then pf+1 else if f=102 then p1+L1+pf else pf):=by
   unfold ykl;rw[hN1,hp1',hL1]
  have hrn:=fun n=>yqg w1.heap.size N1 n p1 false w4 hd4 zd zd zd
  have HRN:=zH hrn;have HRR:=zH hR;have HK4:=zH hk4;clear hN hN1 hp1' hL1 hd4 hg4 hk4 hrn hR HK3 HN3 hb1 hb3 hb4 hcm htzm;(go_upto_block 3 with fail;repeat ((first|refine cZ ?_|refine cW ?_);go_upto_block 3 with fail));refine yr (fun s' w'=>s' 0=dst/\s' 2=.int .u8 f/\s' 3=.int .i64 pf/\s' 13=.bool neg/\s' 33=.pointer (some ⟨w1.heap.size,0,none⟩)/\DecV w' w1.heap.size (ykl m (x-23) pf f).1 (ykl m (x-23) pf f).2 false/\Keep T w dst xs w') ?_ ?_
  ·intro R2 K2 HR hK2;rcases HFK.out with h | h | h | h | h
   ·subst h;have hrr:ykl m (x-23) pf 102=ymf N1 p1 (p1+L1+pf):=zγi;have HRR2:=zH hrr;clear hrr;(go_wp2_with fail;repeat ((first|refine cZ ?_|refine cW ?_);go_wp2_with fail));refine (HRN.out (p1+L1+pf)).mono ?_;rintro e w5 ⟨rfl,hd5,hg5⟩;(go_wp2_with fail;repeat ((first|refine cZ ?_|refine cW ?_);go_wp2_with fail));exact got HR ⟨zb,zb,zb,zb,zb,zβU,HK4.out.write hg5 HS1.out.1.size HE1.out.size HNEN.out⟩
   ·subst h;have hrr:ykl m (x-23) pf 101=ymf N1 p1 (pf+1):=zγi;have HRR2:=zH hrr;clear hrr;(go_wp2_with fail;repeat ((first|refine cZ ?_|refine cW ?_);go_wp2_with fail));refine (HRN.out (pf+1)).mono ?_;rintro e w5 ⟨rfl,hd5,hg5⟩;(go_wp2_with fail;repeat ((first|refine cZ ?_|refine cW ?_);go_wp2_with fail));exact got HR ⟨zb,zb,zb,zb,zb,zβU,HK4.out.write hg5 HS1.out.1.size HE1.out.size HNEN.out⟩
   ·subst h;have hrr:ykl m (x-23) pf 69=ymf N1 p1 (pf+1):=zγi;have HRR2:=zH hrr;clear hrr;(go_wp2_with fail;repeat ((first|refine cZ ?_|refine cW ?_);go_wp2_with fail));refine (HRN.out (pf+1)).mono ?_;rintro e w5 ⟨rfl,hd5,hg5⟩;(go_wp2_with fail;repeat ((first|refine cZ ?_|refine cW ?_);go_wp2_with fail));exact got HR ⟨zb,zb,zb,zb,zb,zβU,HK4.out.write hg5 HS1.out.1.size HE1.out.size HNEN.out⟩
   ·subst h;have hrr:ykl m (x-23) pf 103=ymf N1 p1 pf:=zγi;have hz:(pf==0)=false:=by
     rw[beq_eq_false_iff_ne,<-HPF.out];unfold xt;split <;> omega
    have HRR2:=zH hrr;clear hrr;(go_wp2_with fail;repeat ((first|refine cZ ?_|refine cW ?_);go_wp2_with fail));refine (HRN.out pf).mono ?_;rintro e w5 ⟨rfl,hd5,hg5⟩;(go_wp2_with fail;repeat ((first|refine cZ ?_|refine cW ?_);go_wp2_with fail));exact got HR ⟨zb,zb,zb,zb,zb,zβU,HK4.out.write hg5 HS1.out.1.size HE1.out.size HNEN.out⟩
   ·subst h;have hrr:ykl m (x-23) pf 71=ymf N1 p1 pf:=zγi;have hz:(pf==0)=false:=by
     rw[beq_eq_false_iff_ne,<-HPF.out];unfold xt;split <;> omega
    have HRR2:=zH hrr;clear hrr;(go_wp2_with fail;repeat ((first|refine cZ ?_|refine cW ?_);go_wp2_with fail));refine (HRN.out pf).mono ?_;rintro e w5 ⟨rfl,hd5,hg5⟩;(go_wp2_with fail;repeat ((first|refine cZ ?_|refine cW ?_);go_wp2_with fail));exact got HR ⟨zb,zb,zb,zb,zb,zβU,HK4.out.write hg5 HS1.out.1.size HE1.out.size HNEN.out⟩
  clear s0 s2 s3 s11 s13 s14 s15 s24 σ HRN HRR d1 hlt4 HK4;rintro σ w5 ⟨s0,s2,s3,s13,s33,hdv,hk⟩;obtain⟨ds,dp,hpk,hdl,hdp1,hdp2,hdp0,hdec⟩:=yoj m (x-23) pf f hm0 hmb53 zd zd;obtain⟨bs,htk,hd⟩:=hdec w5 w1.heap.size false hdv;have hlt5:=hd.lt;have e1:=hd.cnd;have e2:=hd.cdp;have HPK:=zH hpk;have HDP0:=zH hdp0;have HTK:=zH htk;have HD5:=zH hd;have HK5:=zH hk;clear hdec hdv hpk hdp0 htk hd hk;(go_wp2_with fail;repeat ((first|refine cZ ?_|refine cW ?_);go_wp2_with fail));go_still_tail 16,zg;(go_wp2_with fail;repeat ((first|refine cZ ?_|refine cW ?_);go_wp2_with fail));have hbl:bs.length=800:=HD5.out.len;refine (yk8 T neg false dst (.slice (some ⟨w1.heap.size,0,none⟩) 800 800) ds dp (ds.length:Nat) pf f xs _ HK5.out.drew.env HK5.out.drew.own ?_ rfl (fun h=>Or.inl (HDP0.out h)) zd hf1 hf2 zd zd zd zd zd (Or.inl zd) zd).mono ?_
  ·exact Or.inr ⟨w1.heap.size,800,bs,by rw[hbl],by rw[hbl];omega,zd,⟨_,HD5.out.drew.2⟩,HNEN.out,HTK.out,by rw[hbl];exact hdl⟩
  rintro e w11 ⟨v',rfl,ho7,hs7⟩;(go_wp2_with fail;repeat ((first|refine cZ ?_|refine cW ?_);go_wp2_with fail));refine yl v' rfl ze zb ⟨v',rfl,?_,HK5.out.drew.stp.trans hs7⟩;rw[HL4.out,HPK.out];exact ho7
end Go.Proofs.YtnifedmhgncioaaGreatDoor
