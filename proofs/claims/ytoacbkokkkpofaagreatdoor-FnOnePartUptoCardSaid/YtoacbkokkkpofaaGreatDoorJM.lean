/- Lemmas that the claim's top text leans on. No condition of their own. -/
import Derived.KernelRfl
import Derived.Lib.Hide
namespace Go.Proofs.YtoacbkokkkpofaaGreatDoor
open Go.RowKit
set_option linter.unusedSimpArgs false
set_option linter.unusedVariables false
set_option maxHeartbeats 16000000
theorem zb {p:Prop} (h:p:=by simp[ov, *]):p:=h
theorem zd {p:Prop} (h:p:=by omega):p:=h
theorem ze {p:Prop} (h:p:=by decide):p:=h
theorem zf {p:Prop} (h:p:=by rw[beq_eq_false_iff_ne];omega):p:=h
theorem zg {p:Prop} (h:p:=by kernel_rfl):p:=h
theorem zh {p:Prop} (h:p:=by simp;omega):p:=h
theorem zi {p:Prop} (h:p:=by simp):p:=h
theorem zj {p:Prop} (h:p:=by simp[yc,yd]):p:=h
theorem zm {p:Prop} (h:p:=by simp[ByteArray.size]):p:=h
theorem zk {p:Prop} (h:p:=by rw[IntKind.wrap_i64];omega):p:=h
theorem zl {p:Prop} (h:p:=by rw[IntKind.wrap_u64];omega):p:=h
theorem zp {p:Prop} (h:p:=by decide +kernel):p:=h
theorem zs {p:Prop} (h:p:=by unfold Bd;omega):p:=h
theorem zr {p:Prop} (h:p:=by rw[HL.out,HDP.out];omega):p:=h
theorem zx {p:Prop} (h:p:=by rw[HDK.out];omega):p:=h
theorem zq {p:Prop} (h:p:=by assumption):p:=h
theorem zo {p:Prop} (h:p:=by rw[beq_iff_eq];omega):p:=h
theorem zL {p:Prop} (h:p:=by cases e):p:=h
theorem zn {p:Prop} (h:p:=by rw[HN.out];exact hiN):p:=h
theorem zz {p:Prop} (h:p:=by cases e;exact hgT):p:=h
theorem zu {p:Prop} (h:p:=by rw[HF.out];rfl):p:=h
theorem zt {p:Prop} (h:p:=by rw[HN.out];omega):p:=h
theorem zv {p:Prop} (h:p:=by rw[List.length_map,h.1];omega):p:=h
theorem zN {p:Prop} (h:p:=by rw[List.length_take];omega):p:=h
theorem zw {p:Prop} (h:p:=by dsimp only;omega):p:=h
theorem zαe {p:Prop} (h:p:=by rw[←hW1];exact World.grownBy_alloc w _ none):p:=h
theorem zF {p:Prop} (h:p:=by cases h):p:=h
theorem zy {p:Prop} (h:p:=by rw[←hw1];exact ya (World.grownBy_alloc w _ none) (World.grownBy_alloc _ _ none)):p:=h
theorem zβi {p:Prop} (h:p:=by rw[←hW1,←hB];exact Row.new w fauZ 30):p:=h
theorem zαj {p:Prop} (h:p:=by rw[e];simp[ov, *]):p:=h
theorem zαP {p:Prop} (h:p:=by rw[HP.out.1,HP.out.2,HQ.out];rfl):p:=h
theorem zQ {p:Prop} (h:p:=by rw[bne_iff_ne];omega):p:=h
theorem zαc {p:Prop} (h:p:=by rw[hres];simp[ov, *]):p:=h
theorem zA {p:Prop} (h:p:=by unfold xz;split;rw[List.length_take,List.length_drop];omega;simp):p:=h
theorem zB {p:Prop} (h:p:=by rw[←hW3];exact ((q2.setCell 0 (.int .i64 3)).setCell 1 (.string ⟨#[]⟩)).setCell 2 (.string ⟨#[]⟩)):p:=h
theorem zC {p:Prop} (h:p:=by rw[←Nat.pow_add,←Nat.pow_add];congr 1;omega):p:=h
theorem zβf {p:Prop} (h:p:=by rw[←hw6];exact World.grownBy_alloc w5 _ none):p:=h
theorem zβh {p:Prop} (h:p:=by rw[←hw8];exact World.grownBy_alloc w7 _ none):p:=h
theorem zD {p:Prop} (h:p:=by simp only[List.length_append,List.length_cons,List.length_nil,List.length_replicate]at *;omega):p:=h
theorem zE {p:Prop} (h:p:=by rw[Nat.pow_succ,Nat.mul_comm]):p:=h
theorem zβB {p:Prop} (h:p:=by rw[←ht2,←ht];simp only[List.length_cons,List.length_append,List.length_nil,hcl];omega):p:=h
theorem zG {p:Prop} (h:p:=by rw[HN1.out];omega):p:=h
theorem zJ {p:Prop} (h:p:=by unfold kl;rw[List.length_take,List.length_drop];omega):p:=h
theorem zP {p:Prop} (h:p:=by rw[←hW3];exact ((r2.setCell_other hne _).setCell_other hne _).setCell_other hne _):p:=h
theorem zI {p:Prop} (h:p:=by simpa using h):p:=h
theorem zαQ {p:Prop} (h:p:=by cases ng <;> decide):p:=h
theorem zR {p:Prop} (h:p:=by rw[HN.out];exact Nat.le_refl _):p:=h
theorem zT {p:Prop} (h:p:=by rw[Nat.mul_comm,Nat.mul_add_div (by omega),Nat.div_eq_of_lt hd,Nat.add_zero]):p:=h
theorem zU {p:Prop} (h:p:=by rw[BitVec.toNat_ofInt];omega):p:=h
theorem zV {p:Prop} (h:p:=by rw[←hw1,←hB];exact (Row.new w _ _).alloc _):p:=h
theorem zβC {p:Prop} (h:p:=by rw[←hw12];exact World.grownBy_alloc w11 _ none):p:=h
theorem zY {p:Prop} (h:p:=by rw[List.cons_append,←h1]):p:=h
theorem zZ {p:Prop} (h:p:=by rw[←hW3];exact yb (yb (yb g2 _ hs2) _ hs2) _ hs2):p:=h
theorem zβD {p:Prop} (h:p:=by rw[←hw10];exact World.grownBy_alloc w9 _ none):p:=h
theorem zαa {p:Prop} (h:p:=by rw[←Nat.pow_add];congr 1;omega):p:=h
theorem zαR {p:Prop} (h:p:=by rw[←hw3];exact World.grownBy_alloc w2 _ none):p:=h
theorem zαo {p:Prop} (h:p:=by rw[HP.out.1,HP.out.2];rfl):p:=h
theorem zαO {p:Prop} (h:p:=by cases L.hex <;> decide):p:=h
theorem zαf {p:Prop} (h:p:=by rw[List.toList_toArray];exact zv9 _ u v):p:=h
theorem zαg {p:Prop} (h:p:=by rw[HLL2.out];exact HJL.out j (Nat.le_refl _)):p:=h
theorem zβq {p:Prop} (h:p:=by rw[List.drop_of_length_le (by rw[HN.out];exact Nat.le_refl _)];rfl):p:=h
theorem zβE {p:Prop} (h:p:=by rw[beq_eq_false_iff_ne];exact h):p:=h
theorem zβF {p:Prop} (h:p:=by cases hex <;> decide):p:=h
theorem zαi {p:Prop} (h:p:=by rw[h6];simp only[List.length_map];omega):p:=h
theorem zαk {p:Prop} (h:p:=by unfold xf;rw[List.map_take]):p:=h
theorem zαS {p:Prop} (h:p:=by simp[yc,yd,hbe]):p:=h
theorem zαl {p:Prop} (h:p:=by rw[←hgx];exact (wt a).getD i):p:=h
theorem zαm {p:Prop} (h:p:=by rw[HLL2.out];exact HJL.out j (by omega)):p:=h
theorem zαT {p:Prop} (h:p:=by split <;> omega):p:=h
theorem zαU {p:Prop} (h:p:=by rw[HP.out,←HB.out];rfl):p:=h
theorem zαV {p:Prop} (h:p:=by rw[IntKind.wrap_u32];omega):p:=h
theorem zαp {p:Prop} (h:p:=by rw[hr.cell];rfl):p:=h
theorem zαq {p:Prop} (h:p:=by rw[hx];rfl):p:=h
theorem zS {p:Prop} (h:p:=by rw[HN.out];exact h1):p:=h
theorem zαW {p:Prop} (h:p:=by rw[e];decide):p:=h
theorem zαb {p:Prop} (h:p:=by rw[List.length_drop,HN.out];omega):p:=h
theorem zαr {p:Prop} (h:p:=by rw[HK.out];rfl):p:=h
theorem zβG {p:Prop} (h:p:=by rw[HF.out]):p:=h
theorem zαs {p:Prop} (h:p:=by rw[HN2.out];omega):p:=h
theorem zβg {p:Prop} (h:p:=by rw[←hw4];exact World.grownBy_alloc w3 _ none):p:=h
theorem zβv {p:Prop} (h:p:=by rw[Nat.add_mul,Nat.one_mul]):p:=h
theorem zβk {p:Prop} (h:p:=by unfold yt;split <;> omega):p:=h
theorem zβA {p:Prop} (h:p:=by rw[List.length_cons];omega):p:=h
theorem zβw {p:Prop} (h:p:=by simpa using hiN):p:=h
theorem zαN {p:Prop} (h:p:=by simp[RF.init]):p:=h
theorem zβz {p:Prop} (h:p:=by rw[h];rfl):p:=h
theorem zX {α : Sort _} (a : α) : ∃ k, a = k := ⟨_, rfl⟩
theorem zH {p : Prop} (h : p) : Hid p := Lib.hid h
end Go.Proofs.YtoacbkokkkpofaaGreatDoor
