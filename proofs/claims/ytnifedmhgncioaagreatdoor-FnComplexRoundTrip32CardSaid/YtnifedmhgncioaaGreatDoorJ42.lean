/- Lemmas that the claim's top text leans on. No condition of their own. -/
import Derived.Test.YtnifedmhgncioaaGreatDoorJ40
import Derived.Test.YtnifedmhgncioaaGreatDoorJ41
namespace Go.Proofs.YtnifedmhgncioaaGreatDoor
open Go.RowKit
set_option linter.unusedSimpArgs false
set_option linter.unusedVariables false
set_option maxHeartbeats 16000000
def DigHead (l:List UInt8):Prop:=48<=(l.headD 48).toNat
theorem DigHead.of_all {l:List UInt8} (h:∀ c ∈ l,zd2 c):DigHead l:=by
 cases l with
 | nil=>show 48<=(48:UInt8).toNat;decide
 | cons c r=>exact (h c zi).1
theorem DigHead.append {a b:List UInt8} (ha:a≠[]) (h:DigHead a):DigHead (a++b):=by
 cases a with
 | nil=>exact absurd rfl ha
 | cons c r=>exact h
def AllDig (l:List UInt8):Prop:=∀ c ∈ l,zd2 c
theorem AllDig.take {l:List UInt8} (h:AllDig l) (n:Nat):AllDig (l.take n):=fun c hc=>h c (List.mem_of_mem_take hc)
theorem AllDig.nil:AllDig []:=fun c hc=>by cases hc
theorem yqu (Z:Nat) (ME:Int) (mb m:Nat) (x prec f:Int):AllDig (ykq Z ME mb m x prec f).ds:=by
 have hd:∀ d,AllDig (yko d):=fun d=>AllDig.take (zeh d _) _
 unfold ykq;split
 ·exact AllDig.nil
 ·split
  ·exact hd _
  ·split
   ·unfold ylt;split
    ·dsimp only;split
     ·exact hd _
     ·exact AllDig.nil
    ·exact AllDig.nil
   ·unfold ym4;split
    ·exact AllDig.nil
    ·exact zeh _ _
theorem yp9 (f:Int) (P:Pick) (hd:AllDig P.ds) (h:f=101\/f=69\/f=102\/f=103\/f=71):DigHead (ylb false f P):=by
 unfold ylb;have h1:=yos P.dp P.ds.length P.prec f P.sh h;generalize (ykz P.dp (↑P.ds.length) P.prec f P.sh)=g at h1 ⊢;unfold ymh;by_cases h2:g.2=101\/g.2=69
 ·rw[if_pos h2];unfold ymm;show DigHead ([]++([P.ds.headD 48]++_));rw[List.nil_append];refine DigHead.append zi ?_;exact (DigHead.of_all hd:48<=(P.ds.headD 48).toNat)
 ·rw[if_neg h2,if_pos zd];unfold yn1;show DigHead ([]++(ylj P.ds P.dp++_));rw[List.nil_append];refine DigHead.append (yot _ _) ?_;apply DigHead.of_all;unfold ylj;split
  ·intro c hc;rcases List.mem_append.1 hc with h | h
   ·exact AllDig.take hd _ c h
   ·rw[(List.mem_replicate.1 h).2];exact⟨ze,ze⟩
  ·intro c hc;simp only[List.mem_singleton]at hc;rw[hc];exact⟨ze,ze⟩
theorem ymv (eb mb:Nat) (bias:Int) (Z:Nat) (ME:Int) (b:Nat) (f prec:Int) (hb:b<2^(eb+mb)) (hk:flE eb mb b≠2^eb-1) (hf:ylg f=true):DigHead (yj5 eb mb bias Z ME b f prec):=by
 unfold ylg at hf;simp only[Bool.or_eq_true,beq_iff_eq]at hf;unfold yj5;rw[yny eb mb b hb,if_neg hk,if_neg zd];by_cases hx:f=120\/f=88
 ·rw[if_pos hx];unfold xL;exact DigHead.append (a:=[48,UInt8.ofNat f.toNat,_]) zi (by show 48<=(48:UInt8).toNat;decide)
 ·rw[if_neg hx];exact yp9 f _ (yqu _ _ _ _ _ _ _) zd
theorem yqr {l:List UInt8} (hne:l≠[]) (h:DigHead l):yn0 l=43::l:=by
 cases l with
 | nil=>exact absurd rfl hne
 | cons c r=>
  have h1:48<=c.toNat:=h;unfold yn0;rw[if_neg];rintro (h | h)
  ·have h:c=43:=h;rw[h]at h1;exact absurd h1 ze
  ·have h:c=45:=h;rw[h]at h1;exact absurd h1 ze 
theorem yqp (l:List UInt8):yn0 (45::l)=45::l:=by unfold yn0;rw[if_pos];exact Or.inr rfl
theorem sgn32 (b:Nat) (f prec:Int) (hb:b<4294967296) (hk:b%2147483648<2139095040) (hf:ylg f=true):
  yn0 (wi b f prec)=if b<2147483648 then 43::wi b f prec else wi b f prec:=by
 split
 ·next h=>
  rw[Nat.mod_eq_of_lt h]at hk;exact yqr (yxn b f prec) (ymv 8 23 _ _ _ b f prec h (yq5 8 23 b hk) hf)
 ·next h=>
  have e:b=b%2147483648+2^(8+23):=by
   have:(2:Nat)^(8+23)=2147483648:=ze;omega
  have h2:=ynx 8 23 (-127) 40 (-189) (b%2147483648) f prec (Nat.mod_lt _ zd) (yq5 8 23 _ hk) (Or.inr hf);rw[<-e]at h2;unfold wi;rw[h2,yqp]
end Go.Proofs.YtnifedmhgncioaaGreatDoor
