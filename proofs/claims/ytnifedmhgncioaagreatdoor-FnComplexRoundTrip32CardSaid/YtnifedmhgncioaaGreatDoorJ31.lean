/- Lemmas that the claim's top text leans on. No condition of their own. -/
import Derived.Test.YtnifedmhgncioaaGreatDoorJM
import Derived.Test.YtnifedmhgncioaaGreatDoorProg
import Derived.WalkKit
import Derived.LaidEql
import Derived.Stop.Asserts
import Derived.RowKitTokens
namespace Go.Proofs.YtnifedmhgncioaaGreatDoor
open Go.RowKit
set_option linter.unusedSimpArgs false
set_option linter.unusedVariables false
set_option maxHeartbeats 16000000
section
open Go.RowKit Go.Extern.Stop Go.Stop Go.Extern
theorem zkg (v:Value) (w:World):(Extern.ReflectliteType.typeOf #[.iface 176 v]).run Tryz.prog w=.ok (.iface 128 (.agg #[.pointer (some ⟨14,176,none⟩)])) w:=by kernel_rfl
theorem zbw (w : World) : ((Extern.ReflectliteType.method fun t => do Rtype.noPackHeld "Comparable" t; (fun a => Value.bool a.comparable) <$> typeInfo t) #[.agg #[.pointer (some ⟨14, 176, none⟩)]]).run Tryz.prog w = .ok (.bool true) w := by kernel_rfl
theorem qj (n : Nat) (v : Value) (w : World) : (Go.method (n + 1) 128 v "Comparable").run Tryz.prog w = .ok (180, v) w := by kernel_rfl
theorem zsn:(Tryz.prog.info? 176).map (·.comparable)=some true:=by kernel_rfl
theorem zsm:(Tryz.prog.info? 178).map (·.size)=some 1:=by kernel_rfl
theorem noIsE (v:Value) (xT:TypeId) (w:World):(Instr.typeAssert (.iface 176 v) xT 130 true).run Tryz.prog w=.ok (.tuple #[.nilIface,.bool false]) w:=run_typeAssert_lacksB Tryz.underlying130 zg zg v xT w
theorem znq (v:Value) (xT:TypeId) (w:World):(Instr.typeAssert (.iface 176 v) xT 133 true).run Tryz.prog w=.ok (.tuple #[.nilIface,.bool false]) w:=run_typeAssert_lacksB Tryz.underlying133 zg zg v xT w
theorem zll (v:Value) (xT:TypeId) (w:World):(Instr.typeAssert (.iface 176 v) xT 135 true).run Tryz.prog w=.ok (.tuple #[.nilIface,.bool false]) w:=run_typeAssert_lacksB Tryz.underlying135 zg zg v xT w
theorem zv7 (v:Value) (xT:TypeId) (w:World):(Instr.typeAssert (.iface 86 v) xT 130 true).run Tryz.prog w=.ok (.tuple #[.nilIface,.bool false]) w:=run_typeAssert_lacksB Tryz.underlying130 zg zg v xT w
theorem zei (v:Value) (xT:TypeId) (w:World):(Instr.typeAssert (.iface 86 v) xT 133 true).run Tryz.prog w=.ok (.tuple #[.iface 86 v,.bool true]) w:=run_typeAssert_hasB Tryz.underlying133 zg v xT w
theorem zbt (n : Nat) (v : Value) (w : World) : (Go.method (n + 1) 86 v "Unwrap").run Tryz.prog w = .ok (175, v) w := by kernel_rfl
set_option maxRecDepth 100000 in
theorem zdf (N:Nat) (b:Addr) (w:World) (h1:w.cell? ⟨N,2,none⟩=some (.iface 176 (.pointer (some b)))):
  Calls Tryz.prog 48 #[.iface 86 (.pointer (some ⟨N,0,none⟩)),.iface 176 (.pointer (some b))] w fun e w'=>e=.returned (.bool true)/\w'=w:=by
 obtain⟨i,hi,hcmp⟩:=Option.map_eq_some_iff.1 zsn;obtain⟨j,hj,hjs⟩:=Option.map_eq_some_iff.1 zsm;have h8:=@run_callFunc_extern Tryz.prog 68 _ Extern.ReflectliteType.typeOf Tryz.func68 zg zg zg zg;have h32 := @run_callFunc_extern Tryz.prog 180 _ (Extern.ReflectliteType.method fun t => do Rtype.noPackHeld "Comparable" t; pure (.bool (← typeInfo t).comparable)) Tryz.func180 zg zg zg zg
 have tT:=zkg;have cT:=zbw;have mR:=qj;have nW:=zv7;have uW:=zei;have mU:=zbt;have heq:=run_eql_iface_ptr_same (P:=Tryz.prog) w b Tryz.underlying53 Tryz.underlying176 hi hcmp hj;have hty:=run_eql_iface_types (P:=Tryz.prog) 86 176 (.pointer (some ⟨N,0,none⟩)) (.pointer (some b)) Tryz.underlying53 ze w;go_enter Tryz.func48,Tryz.ntmps48;go_wp2;refine wp_loop_rounds 2 ?_;rw[rounds_succ];go_wp2;rw[rounds_succ];go_wp2;go_ret;exact⟨rfl,rfl⟩
set_option maxRecDepth 100000 in
theorem zbv (N:Nat) (a b:Addr) (ca cb:Array Value) (ta tb:TypeId) (w:World) (h1:w.cell? ⟨N,2,none⟩=some (.iface 176 (.pointer (some a)))) (hne:a≠b)
  (ha:w.heap[a.block]?=some (.cells ca ta (0,0))) (hb:w.heap[b.block]?=some (.cells cb tb (0,0))):
  Calls Tryz.prog 48 #[.iface 86 (.pointer (some ⟨N,0,none⟩)),.iface 176 (.pointer (some b))] w fun e w'=>e=.returned (.bool false)/\w'=w:=by
 obtain⟨i,hi,hcmp⟩:=Option.map_eq_some_iff.1 zsn;obtain⟨j,hj,hjs⟩:=Option.map_eq_some_iff.1 zsm;have h8:=@run_callFunc_extern Tryz.prog 68 _ Extern.ReflectliteType.typeOf Tryz.func68 zg zg zg zg;have h32 := @run_callFunc_extern Tryz.prog 180 _ (Extern.ReflectliteType.method fun t => do Rtype.noPackHeld "Comparable" t; pure (.bool (← typeInfo t).comparable)) Tryz.func180 zg zg zg zg
 have tT:=zkg;have cT:=zbw;have mR:=qj;have nE:=noIsE;have uE:=znq;have vE:=zll;have nW:=zv7;have uW:=zei;have mU:=zbt;have heq:=run_eql_iface_ptr_other (P:=Tryz.prog) w Tryz.underlying53 Tryz.underlying176 hi hcmp hj (by rw[hjs];decide) hne ha hb;have hty:=run_eql_iface_types (P:=Tryz.prog) 86 176 (.pointer (some ⟨N,0,none⟩)) (.pointer (some b)) Tryz.underlying53 ze w;go_enter Tryz.func48,Tryz.ntmps48;go_wp2;refine wp_loop_rounds 2 ?_;rw[rounds_succ];go_wp2;rw[rounds_succ];go_wp2;go_ret;exact⟨rfl,rfl⟩
end
end Go.Proofs.YtnifedmhgncioaaGreatDoor
