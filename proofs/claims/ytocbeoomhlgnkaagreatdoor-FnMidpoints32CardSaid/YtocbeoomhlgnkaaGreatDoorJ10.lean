/- Lemmas that the claim's top text leans on. No condition of their own. -/
import Derived.Test.YtocbeoomhlgnkaaGreatDoorJ09
import Derived.Deep.RegionHeld3
namespace Go.Proofs.YtocbeoomhlgnkaaGreatDoor
open Go.RowKit
set_option linter.unusedSimpArgs false
set_option linter.unusedVariables false
set_option maxHeartbeats 16000000
theorem zjw {P:Program} {n:Nat} {env:List (Nat×Value)} {s:Nat->Value} {w:World} {Q:Exit->Act->World->Prop} {c:Code} (R:(Nat->Value)->Prop) (h:R (over env s)) (k:∀ s',R s'->c.wp P Q (Fr n [] s') w):c.wp P Q (Fr n env s) w:=by
 rw[zbg];exact k _ h
theorem zdq (m:Nat) (h:m<18446744073709551616) (h0:m≠0):1<=Lib.bitLen m/\2^(Lib.bitLen m-1)<=m/\m<2^Lib.bitLen m/\Lib.bitLen m<=64:=
 ⟨(Lib.bitLenAux_bounds 64 m h h0).1,(Lib.bitLenAux_bounds 64 m h h0).2.1,(Lib.bitLenAux_bounds 64 m h h0).2.2,Lib.bitLen_le m 64 zd h⟩
theorem zrb (m:Nat) (w:World) (h:m<18446744073709551616):Calls Tryz.prog 111 #[.int .u64 (m:Int)] w fun e w'=>e=.returned (.int .i64 (Lib.bitLen m:Nat))/\w=w':=
 (Tryz.bits_Len64 (m:Int) w zd zd).mono fun _ _ h=>⟨by rw[h.1,Int.toNat_natCast],h.2.symm⟩
theorem ybg (n k:Nat) (m:Int) (hm:m=(2^k:Nat)-1) (hk:k<=63) (hn:n<18446744073709551616):bits .and .u64 (n:Int) m=((n%2^k:Nat):Int):=by
 have p:0<2^k:=Nat.pow_pos zd;have hk60:2^k<=2^63:=Nat.pow_le_pow_right zd hk;have h:=u64_and_nat n (2^k-1) hn zd;rw[Nat.and_two_pow_sub_one_eq_mod]at h;rw[<-h,hm];congr 1;omega
theorem ydx (n k:Nat) (hn:n<2^k) (hk:k<=62):bits .or .u64 (n:Int) ((2^k:Nat):Int)=((n+2^k:Nat):Int):=by
 have hk60:2^k<=2^62:=Nat.pow_le_pow_right zd hk;have h:=u64_or_nat n (2^k) zd zd;rw[h];congr 1;have:=Nat.two_pow_add_eq_or_of_lt hn 1;rw[Nat.mul_one]at this;rw[Nat.add_comm,this,Nat.or_comm]
theorem zu7:Tryz.zeroCells147=((List.replicate 800 (0:UInt8)).map zkm++[Value.int .i64 0,Value.int .i64 0,Value.bool false,Value.bool false]).toArray:=by kernel_rfl
theorem Dec.new (w:World):Dec (w.alloc (Obj.cells Tryz.zeroCells147 147)) w.heap.size (List.replicate 800 0) 0 0 false false:=by
 refine⟨List.length_replicate,?_⟩;have h:=Row.new w ((List.replicate 800 (0:UInt8)).map zkm++[Value.int .i64 0,Value.int .i64 0,Value.bool false,Value.bool false]) 147;rw[<-zu7]at h;exact h
theorem yb0 (l1 l2:List UInt8):((⟨l1.toArray⟩:ByteArray)++(⟨l2.toArray⟩:ByteArray))=⟨(l1++l2).toArray⟩:=by
 apply ByteArray.ext;simp[ByteArray.data_append]
end Go.Proofs.YtocbeoomhlgnkaaGreatDoor
