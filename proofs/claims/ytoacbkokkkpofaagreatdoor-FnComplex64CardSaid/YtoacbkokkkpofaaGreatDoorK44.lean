/- Lemmas that the claim's top text leans on. No condition of their own. -/
import Derived.Test.YtoacbkokkkpofaaGreatDoorK43
import Derived.Laws.StructEq
namespace Go.Proofs.YtoacbkokkkpofaaGreatDoor
open Go.RowKit
set_option linter.unusedSimpArgs false
set_option linter.unusedVariables false
set_option maxHeartbeats 16000000
section
attribute [local go_sem] undef
set_option maxRecDepth 100000 in
theorem zwo (a a':Int) (b c b' c':ByteArray) (w:World):(binOp .eql 30 (.agg #[.int .i64 a,.string b,.string c]) (.agg #[.int .i64 a',.string b',.string c'])).run Tryz.prog w=
  .ok (.bool (a==a'&&(b.toList==b'.toList&&c.toList==c'.toList))) w:=by
 have hp:Tryz.prog.stoodInHeld 30=false:=zg;have hu:=Tryz.underlying30;have hf:Tryz.prog.fieldsOf 30=(match Tryz.prog.underlying 30 with | some (.struct fs)=>fs | _=>#[]):=rfl;rw[hu]at hf;dsimp only at hf;rw[run_eql_struct,run_equalIn_agg _ _ _ _ _ (by rw[hu,hf]) hp,hf];have hi:=Tryz.underlying3;have hs:=Tryz.underlying9;cases h1:(a==a') <;> cases h2:(b.toList==b'.toList) <;> cases h3:(c.toList==c'.toList) <;> simp[Op.eqFields,part,hi,hs,h1,h2,h3,run_equalIn_int,run_equalIn_string]
theorem zi0 (a:Int) (b c:ByteArray) (w:World):(binOp .eql 30 (.agg #[.int .i64 a,.string b,.string c]) (.agg #[.int .i64 a,.string b,.string c])).run Tryz.prog w=.ok (.bool true) w:=by
 rw[zwo];simp
set_option maxRecDepth 100000 in
theorem zje (k:Int) (b c:ByteArray) (w:World) (hk:(k=0/\b=⟨#[]⟩/\c=⟨#[]⟩)\/k≠0) (nm tx:ByteArray) (hn:k≠0->nm=b/\tx=c):
  Calls Tryz.prog 15 #[.agg #[.int .i64 k,.string b,.string c],.int .i64 k,.string nm,.string tx] w fun e w'=>e=.returned (.bool true)/\w.grownBy w' none:=by
 have hq:=fun W=>zi0 k b c W
 obtain⟨B,hB⟩:=zX w.heap.size;obtain⟨w1,hw1⟩:=zX (w.alloc (.cells #[.int .i64 k,.string b,.string c] 30));have HG1:=zH (show w.grownBy w1 none by rw[<-hw1];exact World.grownBy_alloc w _ none);have HO:=zH (show Row w1 B [.int .i64 k,.string b,.string c] by rw[<-hw1,<-hB];exact Row.new w _ _);have o0:=HO.out.cell 0;have o1:=HO.out.cell 1;have o2:=HO.out.cell 2;simp only[List.getElem?_cons_zero,List.getElem?_cons_succ]at o0 o1 o2;refine ye Tryz.func15 rfl (by rw[Tryz.ntmps15];simp) ?_;intro σ hσ;rw[Tryz.ntmps15];have s0:σ 0=.agg #[.int .i64 k,.string b,.string c]:=hσ 0 zi;have s1:σ 1=.int .i64 k:=hσ 1 zi;have s2:σ 2=.string nm:=hσ 2 zi;have s3:σ 3=.string tx:=hσ 3 zi;clear hσ;go_upto_region 1 with fail;clear hw1 hB;rcases hk with⟨rfl,rfl,rfl⟩ | hk
 ·clear hn;(go_wp2_with fail;repeat ((first|refine cZ ?_|refine cW ?_);go_wp2_with fail));exact yl (.bool true) rfl ze zb ⟨rfl,HG1.out⟩
 ·obtain⟨rfl,rfl⟩:=hn hk;have hk':(k==0)=false:=by rw[beq_eq_false_iff_ne];exact hk
  clear hn hk;(go_wp2_with fail;repeat ((first|refine cZ ?_|refine cW ?_);go_wp2_with fail));exact yl (.bool true) rfl ze zb ⟨rfl,HG1.out⟩
set_option maxRecDepth 100000 in
theorem ze6 (a b:Nat) (w:World) (ha:a<18446744073709551616) (hb:b<18446744073709551616)
  (h:a=b\/(kn 9218868437227405312 9223372036854775808 a=2/\kn 9218868437227405312 9223372036854775808 b=2)):
  Calls Tryz.prog 16 #[.int .u64 (a:Int),.int .u64 (b:Int)] w fun e w'=>e=.returned (.bool true)/\w=w':=by
 have HK1:=zH (fun W=>za7 a W ha);have HK2:=zH (fun W=>za7 b W hb);refine ye Tryz.func16 rfl (by rw[Tryz.ntmps16];simp) ?_;intro σ hσ;rw[Tryz.ntmps16];have s0:σ 0=.int .u64 (a:Int):=hσ 0 zi;have s1:σ 1=.int .u64 (b:Int):=hσ 1 zi;clear hσ ha hb;by_cases hab:a=b
 ·subst hab;have e1:((a:Int)==(a:Int))=true:=zi;clear h;(go_wp2_with fail;repeat ((first|refine cZ ?_|refine cW ?_);go_wp2_with fail));exact yl (.bool true) rfl ze zb ⟨rfl,rfl⟩
 ·obtain⟨h1,h2⟩:kn 9218868437227405312 9223372036854775808 a=2/\kn 9218868437227405312 9223372036854775808 b=2:=h.resolve_left hab;rw[h1]at HK1;rw[h2]at HK2;have e1:((a:Int)==(b:Int))=false:=zf;have e2:(a==b)=false:=by rw[beq_eq_false_iff_ne];exact hab
  have HAB:=zH hab;clear h h1 h2 hab;(go_wp2_with fail;repeat ((first|refine cZ ?_|refine cW ?_);go_wp2_with fail));refine (HK1.out _).mono ?_;rintro e w7 ⟨rfl,rfl⟩;(go_wp2_with fail;repeat ((first|refine cZ ?_|refine cW ?_);go_wp2_with fail));refine (HK2.out _).mono ?_;rintro e w7 ⟨rfl,rfl⟩;(go_wp2_with fail;repeat ((first|refine cZ ?_|refine cW ?_);go_wp2_with fail));exact yl (.bool true) rfl ze zb ⟨rfl,rfl⟩
end
end Go.Proofs.YtoacbkokkkpofaaGreatDoor
