/- Lemmas that the claim's top text leans on. No condition of their own. -/
import Derived.Test.YtnifedmhgncioaaDoorK07
import Derived.Deep.RegionHeld3
namespace Go.Proofs.YtnifedmhgncioaaDoor
open Go.RowKit
set_option linter.unusedSimpArgs false
set_option linter.unusedVariables false
set_option maxHeartbeats 16000000
theorem zjw {P:Program} {n:Nat} {env:List (Nat×Value)} {s:Nat->Value} {w:World} {Q:Exit->Act->World->Prop} {c:Code} (R:(Nat->Value)->Prop) (h:R (over env s)) (k:∀ s',R s'->c.wp P Q (Fr n [] s') w):c.wp P Q (Fr n env s) w:=by
 rw[zbg];exact k _ h
theorem zdq (m:Nat) (h:m<18446744073709551616) (h0:m≠0):1<=Lib.bitLen m/\2^(Lib.bitLen m-1)<=m/\m<2^Lib.bitLen m/\Lib.bitLen m<=64:=
 ⟨(Lib.bitLenAux_bounds 64 m h h0).1,(Lib.bitLenAux_bounds 64 m h h0).2.1,(Lib.bitLenAux_bounds 64 m h h0).2.2,Lib.bitLen_le m 64 zd h⟩
theorem zrb (m:Nat) (w:World) (h:m<18446744073709551616):Calls Tryd.prog 48 #[.int .u64 (m:Int)] w fun e w'=>e=.returned (.int .i64 (Lib.bitLen m:Nat))/\w=w':=
 (Tryd.bits_Len64 (m:Int) w zd zd).mono fun _ _ h=>⟨by rw[h.1,Int.toNat_natCast],h.2.symm⟩
theorem zu7:Tryd.zeroCells92=((List.replicate 800 (0:UInt8)).map zkm++[Value.int .i64 0,Value.int .i64 0,Value.bool false,Value.bool false]).toArray:=by kernel_rfl
theorem Dec.new (w:World):Dec (w.alloc (Obj.cells Tryd.zeroCells92 92)) w.heap.size (List.replicate 800 0) 0 0 false false:=by
 refine⟨List.length_replicate,?_⟩;have h:=Row.new w ((List.replicate 800 (0:UInt8)).map zkm++[Value.int .i64 0,Value.int .i64 0,Value.bool false,Value.bool false]) 92;rw[<-zu7]at h;exact h
end Go.Proofs.YtnifedmhgncioaaDoor
