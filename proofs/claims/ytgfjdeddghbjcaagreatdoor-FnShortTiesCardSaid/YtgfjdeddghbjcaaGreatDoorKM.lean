/- Lemmas that the claim's top text leans on. No condition of their own. -/
import Derived.KernelRfl
import Derived.Lib.Hide
namespace Go.Proofs.YtgfjdeddghbjcaaGreatDoor
open Go.RowKit
set_option linter.unusedSimpArgs false
set_option linter.unusedVariables false
set_option maxHeartbeats 16000000
theorem zb {p:Prop} (h:p:=by simp[ov, *]):p:=h
theorem zd {p:Prop} (h:p:=by omega):p:=h
theorem ze {p:Prop} (h:p:=by decide):p:=h
theorem zg {p:Prop} (h:p:=by kernel_rfl):p:=h
theorem zi {p:Prop} (h:p:=by simp):p:=h
theorem zf {p:Prop} (h:p:=by rw[beq_eq_false_iff_ne];omega):p:=h
theorem zh {p:Prop} (h:p:=by simp;omega):p:=h
theorem zD {p:Prop} (h:p:=by simp only[List.length_append,List.length_cons,List.length_nil,List.length_replicate]at *;omega):p:=h
theorem zj {p:Prop} (h:p:=by simp[yc,yd]):p:=h
theorem zq {p:Prop} (h:p:=by assumption):p:=h
theorem zp {p:Prop} (h:p:=by decide +kernel):p:=h
theorem zm {p:Prop} (h:p:=by simp[ByteArray.size]):p:=h
theorem zβH {p:Prop} (h:p:=by unfold Kd at hz;omega):p:=h
theorem zw {p:Prop} (h:p:=by dsimp only;omega):p:=h
theorem zy {p:Prop} (h:p:=by rw[←hw1];exact ya (World.grownBy_alloc w _ none) (World.grownBy_alloc _ _ none)):p:=h
theorem zαa {p:Prop} (h:p:=by rw[←Nat.pow_add];congr 1;omega):p:=h
theorem zl {p:Prop} (h:p:=by rw[IntKind.wrap_u64];omega):p:=h
theorem zu {p:Prop} (h:p:=by rw[HF.out];rfl):p:=h
theorem zo {p:Prop} (h:p:=by rw[beq_iff_eq];omega):p:=h
theorem zt {p:Prop} (h:p:=by rw[HN.out];omega):p:=h
theorem zk {p:Prop} (h:p:=by rw[IntKind.wrap_i64];omega):p:=h
theorem zαj {p:Prop} (h:p:=by rw[e];simp[ov, *]):p:=h
theorem zn {p:Prop} (h:p:=by rw[HN.out];exact hiN):p:=h
theorem zV {p:Prop} (h:p:=by rw[←hw1,←hB];exact (Row.new w _ _).alloc _):p:=h
theorem zN {p:Prop} (h:p:=by rw[List.length_take];omega):p:=h
theorem zR {p:Prop} (h:p:=by rw[HN.out];exact Nat.le_refl _):p:=h
theorem zA {p:Prop} (h:p:=by unfold xz;split;rw[List.length_take,List.length_drop];omega;simp):p:=h
theorem zF {p:Prop} (h:p:=by cases h):p:=h
theorem zβq {p:Prop} (h:p:=by rw[List.drop_of_length_le (by rw[HN.out];exact Nat.le_refl _)];rfl):p:=h
theorem zβL {p:Prop} (h:p:=by rw[List.take_of_length_le (by rw[va];exact Nat.le_refl _)]):p:=h
theorem zU {p:Prop} (h:p:=by rw[BitVec.toNat_ofInt];omega):p:=h
theorem zG {p:Prop} (h:p:=by rw[HN1.out];omega):p:=h
theorem zJ {p:Prop} (h:p:=by unfold kl;rw[List.length_take,List.length_drop];omega):p:=h
theorem zαQ {p:Prop} (h:p:=by cases ng <;> decide):p:=h
theorem zL {p:Prop} (h:p:=by cases e):p:=h
theorem zT {p:Prop} (h:p:=by rw[Nat.mul_comm,Nat.mul_add_div (by omega),Nat.div_eq_of_lt hd,Nat.add_zero]):p:=h
theorem zY {p:Prop} (h:p:=by rw[List.cons_append,←h1]):p:=h
theorem zγy {p:Prop} (h:p:=by rw[h];unfold vN;rw[Nat.zero_mul]):p:=h
theorem zγz {p:Prop} (h:p:=by rw[h,xm];rfl):p:=h
theorem zαf {p:Prop} (h:p:=by rw[List.toList_toArray];exact zv9 _ u v):p:=h
theorem zαg {p:Prop} (h:p:=by rw[HLL2.out];exact HJL.out j (Nat.le_refl _)):p:=h
theorem zI {p:Prop} (h:p:=by simpa using h):p:=h
theorem zγs {p:Prop} (h:p:=by rw[hpc,IntKind.wrap_u64];omega):p:=h
theorem zS {p:Prop} (h:p:=by rw[HN.out];exact h1):p:=h
theorem zαi {p:Prop} (h:p:=by rw[h6];simp only[List.length_map];omega):p:=h
theorem zαk {p:Prop} (h:p:=by unfold xf;rw[List.map_take]):p:=h
theorem zαS {p:Prop} (h:p:=by simp[yc,yd,hbe]):p:=h
theorem zαl {p:Prop} (h:p:=by rw[←hgx];exact (wt a).getD i):p:=h
theorem zαm {p:Prop} (h:p:=by rw[HLL2.out];exact HJL.out j (by omega)):p:=h
theorem zγx {p:Prop} (h:p:=by rw[←hS];unfold shS;omega):p:=h
theorem zQ {p:Prop} (h:p:=by rw[bne_iff_ne];omega):p:=h
theorem zαO {p:Prop} (h:p:=by cases L.hex <;> decide):p:=h
theorem zγA {p:Prop} (h:p:=by unfold ynz;split <;> omega):p:=h
theorem zαU {p:Prop} (h:p:=by rw[HP.out,←HB.out];rfl):p:=h
theorem zαp {p:Prop} (h:p:=by rw[hr.cell];rfl):p:=h
theorem zγb {p:Prop} (h:p:=by unfold shS;omega):p:=h
theorem zαb {p:Prop} (h:p:=by rw[List.length_drop,HN.out];omega):p:=h
theorem zαr {p:Prop} (h:p:=by rw[HK.out];rfl):p:=h
theorem zγB {p:Prop} (h:p:=by simp[maxLen]):p:=h
theorem zγv {p:Prop} (h:p:=by rw[hx1];split <;> omega):p:=h
theorem zαs {p:Prop} (h:p:=by rw[HN2.out];omega):p:=h
theorem zγc {p:Prop} (h:p:=by simp[yc,yd];omega):p:=h
theorem zβg {p:Prop} (h:p:=by rw[←hw4];exact World.grownBy_alloc w3 _ none):p:=h
theorem zE {p:Prop} (h:p:=by rw[Nat.pow_succ,Nat.mul_comm]):p:=h
theorem zαe {p:Prop} (h:p:=by rw[←hW1];exact World.grownBy_alloc w _ none):p:=h
theorem zβk {p:Prop} (h:p:=by unfold yt;split <;> omega):p:=h
theorem zαV {p:Prop} (h:p:=by rw[IntKind.wrap_u32];omega):p:=h
theorem zβZ {p:Prop} (h:p:=by rw[List.length_map];omega):p:=h
theorem zγf {p:Prop} (h:p:=by rw[Nat.div_div_eq_div_mul]):p:=h
theorem zβz {p:Prop} (h:p:=by rw[h];rfl):p:=h
theorem zX {α : Sort _} (a : α) : ∃ k, a = k := ⟨_, rfl⟩
theorem zH {p : Prop} (h : p) : Hid p := Lib.hid h
end Go.Proofs.YtgfjdeddghbjcaaGreatDoor
