/- Lemmas that the claim's top text leans on. No condition of their own. -/
import Derived.Test.YtnifedmhgncioaaDoorKM
import Derived.Test.YtnifedmhgncioaaDoorProg
import Derived.WalkKit
import Derived.LaidEql
import Derived.Stop.Asserts
import Derived.RowKitTokens
namespace Go.Proofs.YtnifedmhgncioaaDoor
open Go.RowKit
set_option linter.unusedSimpArgs false
set_option linter.unusedVariables false
set_option maxHeartbeats 16000000
section
open Go.RowKit Go.Extern.Stop Go.Stop Go.Extern
theorem zkg (v:Value) (w:World):(Extern.ReflectliteType.typeOf #[.iface 102 v]).run Tryd.prog w=.ok (.iface 65 (.agg #[.pointer (some ⟨14,102,none⟩)])) w:=by kernel_rfl
theorem zbw (w : World) : ((Extern.ReflectliteType.method fun t => do Rtype.noPackHeld "Comparable" t; (fun a => Value.bool a.comparable) <$> typeInfo t) #[.agg #[.pointer (some ⟨14, 102, none⟩)]]).run Tryd.prog w = .ok (.bool true) w := by kernel_rfl
theorem qj (n : Nat) (v : Value) (w : World) : (Go.method (n + 1) 65 v "Comparable").run Tryd.prog w = .ok (96, v) w := by kernel_rfl
theorem zsn:(Tryd.prog.info? 102).map (·.comparable)=some true:=by kernel_rfl
theorem zsm:(Tryd.prog.info? 104).map (·.size)=some 1:=by kernel_rfl
theorem noIsE (v:Value) (xT:TypeId) (w:World):(Instr.typeAssert (.iface 102 v) xT 67 true).run Tryd.prog w=.ok (.tuple #[.nilIface,.bool false]) w:=run_typeAssert_lacksB Tryd.underlying67 zg zg v xT w
theorem znq (v:Value) (xT:TypeId) (w:World):(Instr.typeAssert (.iface 102 v) xT 70 true).run Tryd.prog w=.ok (.tuple #[.nilIface,.bool false]) w:=run_typeAssert_lacksB Tryd.underlying70 zg zg v xT w
theorem zll (v:Value) (xT:TypeId) (w:World):(Instr.typeAssert (.iface 102 v) xT 72 true).run Tryd.prog w=.ok (.tuple #[.nilIface,.bool false]) w:=run_typeAssert_lacksB Tryd.underlying72 zg zg v xT w
theorem zv7 (v:Value) (xT:TypeId) (w:World):(Instr.typeAssert (.iface 42 v) xT 67 true).run Tryd.prog w=.ok (.tuple #[.nilIface,.bool false]) w:=run_typeAssert_lacksB Tryd.underlying67 zg zg v xT w
theorem zei (v:Value) (xT:TypeId) (w:World):(Instr.typeAssert (.iface 42 v) xT 70 true).run Tryd.prog w=.ok (.tuple #[.iface 42 v,.bool true]) w:=run_typeAssert_hasB Tryd.underlying70 zg v xT w
theorem zbt (n : Nat) (v : Value) (w : World) : (Go.method (n + 1) 42 v "Unwrap").run Tryd.prog w = .ok (91, v) w := by kernel_rfl
set_option maxRecDepth 100000 in
theorem zdf (N:Nat) (b:Addr) (w:World) (h1:w.cell? ⟨N,2,none⟩=some (.iface 102 (.pointer (some b)))):
  Calls Tryd.prog 14 #[.iface 42 (.pointer (some ⟨N,0,none⟩)),.iface 102 (.pointer (some b))] w fun e w'=>e=.returned (.bool true)/\w'=w:=by
 obtain⟨i,hi,hcmp⟩:=Option.map_eq_some_iff.1 zsn;obtain⟨j,hj,hjs⟩:=Option.map_eq_some_iff.1 zsm;have h8:=@run_callFunc_extern Tryd.prog 22 _ Extern.ReflectliteType.typeOf Tryd.func22 zg zg zg zg;have h32 := @run_callFunc_extern Tryd.prog 96 _ (Extern.ReflectliteType.method fun t => do Rtype.noPackHeld "Comparable" t; pure (.bool (← typeInfo t).comparable)) Tryd.func96 zg zg zg zg
 have tT:=zkg;have cT:=zbw;have mR:=qj;have nW:=zv7;have uW:=zei;have mU:=zbt;have heq:=run_eql_iface_ptr_same (P:=Tryd.prog) w b Tryd.underlying34 Tryd.underlying102 hi hcmp hj;have hty:=run_eql_iface_types (P:=Tryd.prog) 42 102 (.pointer (some ⟨N,0,none⟩)) (.pointer (some b)) Tryd.underlying34 ze w;go_enter Tryd.func14,Tryd.ntmps14;go_wp2;refine wp_loop_rounds 2 ?_;rw[rounds_succ];go_wp2;rw[rounds_succ];go_wp2;go_ret;exact⟨rfl,rfl⟩
set_option maxRecDepth 100000 in
theorem zbv (N:Nat) (a b:Addr) (ca cb:Array Value) (ta tb:TypeId) (w:World) (h1:w.cell? ⟨N,2,none⟩=some (.iface 102 (.pointer (some a)))) (hne:a≠b)
  (ha:w.heap[a.block]?=some (.cells ca ta (0,0))) (hb:w.heap[b.block]?=some (.cells cb tb (0,0))):
  Calls Tryd.prog 14 #[.iface 42 (.pointer (some ⟨N,0,none⟩)),.iface 102 (.pointer (some b))] w fun e w'=>e=.returned (.bool false)/\w'=w:=by
 obtain⟨i,hi,hcmp⟩:=Option.map_eq_some_iff.1 zsn;obtain⟨j,hj,hjs⟩:=Option.map_eq_some_iff.1 zsm;have h8:=@run_callFunc_extern Tryd.prog 22 _ Extern.ReflectliteType.typeOf Tryd.func22 zg zg zg zg;have h32 := @run_callFunc_extern Tryd.prog 96 _ (Extern.ReflectliteType.method fun t => do Rtype.noPackHeld "Comparable" t; pure (.bool (← typeInfo t).comparable)) Tryd.func96 zg zg zg zg
 have tT:=zkg;have cT:=zbw;have mR:=qj;have nE:=noIsE;have uE:=znq;have vE:=zll;have nW:=zv7;have uW:=zei;have mU:=zbt;have heq:=run_eql_iface_ptr_other (P:=Tryd.prog) w Tryd.underlying34 Tryd.underlying102 hi hcmp hj (by rw[hjs];decide) hne ha hb;have hty:=run_eql_iface_types (P:=Tryd.prog) 42 102 (.pointer (some ⟨N,0,none⟩)) (.pointer (some b)) Tryd.underlying34 ze w;go_enter Tryd.func14,Tryd.ntmps14;go_wp2;refine wp_loop_rounds 2 ?_;rw[rounds_succ];go_wp2;rw[rounds_succ];go_wp2;go_ret;exact⟨rfl,rfl⟩
end
end Go.Proofs.YtnifedmhgncioaaDoor
