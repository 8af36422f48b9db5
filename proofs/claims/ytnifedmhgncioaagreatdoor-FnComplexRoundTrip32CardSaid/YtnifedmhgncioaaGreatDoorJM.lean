/- Lemmas that the claim's top text leans on. No condition of their own. -/
import Derived.KernelRfl
import Derived.Lib.Hide
namespace Go.Proofs.YtnifedmhgncioaaGreatDoor
open Go.RowKit
set_option linter.unusedSimpArgs false
set_option linter.unusedVariables false
set_option maxHeartbeats 16000000
theorem zb {p:Prop} (h:p:=by simp[ov, *]):p:=h
theorem zd {p:Prop} (h:p:=by omega):p:=h
theorem ze {p:Prop} (h:p:=by decide):p:=h
theorem zi {p:Prop} (h:p:=by simp):p:=h
theorem zg {p:Prop} (h:p:=by kernel_rfl):p:=h
theorem zf {p:Prop} (h:p:=by rw[beq_eq_false_iff_ne];omega):p:=h
theorem zh {p:Prop} (h:p:=by simp;omega):p:=h
theorem zD {p:Prop} (h:p:=by simp only[List.length_append,List.length_cons,List.length_nil,List.length_replicate]at *;omega):p:=h
theorem zj {p:Prop} (h:p:=by simp[yc,yd]):p:=h
theorem zl {p:Prop} (h:p:=by rw[IntKind.wrap_u64];omega):p:=h
theorem zp {p:Prop} (h:p:=by decide +kernel):p:=h
theorem zk {p:Prop} (h:p:=by rw[IntKind.wrap_i64];omega):p:=h
theorem zαa {p:Prop} (h:p:=by rw[←Nat.pow_add];congr 1;omega):p:=h
theorem zr {p:Prop} (h:p:=by rw[HL.out,HDP.out];omega):p:=h
theorem zβH {p:Prop} (h:p:=by unfold Kd at hz;omega):p:=h
theorem zs {p:Prop} (h:p:=by unfold Bd;omega):p:=h
theorem zq {p:Prop} (h:p:=by assumption):p:=h
theorem zu {p:Prop} (h:p:=by rw[HF.out];rfl):p:=h
theorem zw {p:Prop} (h:p:=by dsimp only;omega):p:=h
theorem zv {p:Prop} (h:p:=by rw[List.length_map,h.1];omega):p:=h
theorem zz {p:Prop} (h:p:=by cases e;exact hgT):p:=h
theorem zβI {p:Prop} (h:p:=by simp only[List.length_append,List.length_cons,List.length_nil]at *;omega):p:=h
theorem zm {p:Prop} (h:p:=by simp[ByteArray.size]):p:=h
theorem zx {p:Prop} (h:p:=by rw[HDK.out];omega):p:=h
theorem zE {p:Prop} (h:p:=by rw[Nat.pow_succ,Nat.mul_comm]):p:=h
theorem zB {p:Prop} (h:p:=by rw[←hW3];exact ((q2.setCell 0 (.int .i64 3)).setCell 1 (.string ⟨#[]⟩)).setCell 2 (.string ⟨#[]⟩)):p:=h
theorem zC {p:Prop} (h:p:=by rw[←Nat.pow_add,←Nat.pow_add];congr 1;omega):p:=h
theorem zL {p:Prop} (h:p:=by cases e):p:=h
theorem zβK {p:Prop} (h:p:=by rw[←Int.natCast_ediv,Nat.div_eq_of_lt hnB];rfl):p:=h
theorem zN {p:Prop} (h:p:=by rw[List.length_take];omega):p:=h
theorem zF {p:Prop} (h:p:=by cases h):p:=h
theorem zo {p:Prop} (h:p:=by rw[beq_iff_eq];omega):p:=h
theorem zn {p:Prop} (h:p:=by rw[HN.out];exact hiN):p:=h
theorem zG {p:Prop} (h:p:=by rw[HN1.out];omega):p:=h
theorem zU {p:Prop} (h:p:=by rw[BitVec.toNat_ofInt];omega):p:=h
theorem zy {p:Prop} (h:p:=by rw[←hw1];exact ya (World.grownBy_alloc w _ none) (World.grownBy_alloc _ _ none)):p:=h
theorem zβM {p:Prop} (h:p:=by rw[←hB];exact Nat.le_trans (by omega:2≤2^1) (Nat.pow_le_pow_right (by omega) hk1)):p:=h
theorem zβJ {p:Prop} (h:p:=by rw[beq_eq_false_iff_ne];exact h3):p:=h
theorem zP {p:Prop} (h:p:=by rw[←hW3];exact ((r2.setCell_other hne _).setCell_other hne _).setCell_other hne _):p:=h
theorem zβO {p:Prop} (h:p:=by rw[←HPF.out];unfold xt;rw[if_neg (by omega)]):p:=h
theorem zI {p:Prop} (h:p:=by simpa using h):p:=h
theorem zQ {p:Prop} (h:p:=by rw[bne_iff_ne];omega):p:=h
theorem zβP {p:Prop} (h:p:=by rw[Nat.pow_zero,Nat.mul_one,zi8 HNE.out,ztd HNE.out];simpa using HD.out):p:=h
theorem zβQ {p:Prop} (h:p:=by rw[HX.out,zgb _ _ _ (Nat.le_refl _),Nat.sub_self,Nat.pow_zero,Nat.mul_one]):p:=h
theorem zT {p:Prop} (h:p:=by rw[Nat.mul_comm,Nat.mul_add_div (by omega),Nat.div_eq_of_lt hd,Nat.add_zero]):p:=h
theorem zβR {p:Prop} (h:p:=by rw[hn];exact Nat.mod_lt _ (by omega)):p:=h
theorem zβT {p:Prop} (h:p:=by rw[←HR.out];rfl):p:=h
theorem zY {p:Prop} (h:p:=by rw[List.cons_append,←h1]):p:=h
theorem zZ {p:Prop} (h:p:=by rw[←hW3];exact yb (yb (yb g2 _ hs2) _ hs2) _ hs2):p:=h
theorem zαc {p:Prop} (h:p:=by rw[hres];simp[ov, *]):p:=h
theorem zαe {p:Prop} (h:p:=by rw[←hW1];exact World.grownBy_alloc w _ none):p:=h
theorem zαf {p:Prop} (h:p:=by rw[List.toList_toArray];exact zv9 _ u v):p:=h
theorem zαg {p:Prop} (h:p:=by rw[HLL2.out];exact HJL.out j (Nat.le_refl _)):p:=h
theorem zβL {p:Prop} (h:p:=by rw[List.take_of_length_le (by rw[va];exact Nat.le_refl _)]):p:=h
theorem zγc {p:Prop} (h:p:=by simp[yc,yd];omega):p:=h
theorem zβN {p:Prop} (h:p:=by rw[←hW1,←hB];exact Row.new w fauZ 25):p:=h
theorem zαi {p:Prop} (h:p:=by rw[h6];simp only[List.length_map];omega):p:=h
theorem zαj {p:Prop} (h:p:=by rw[e];simp[ov, *]):p:=h
theorem zαk {p:Prop} (h:p:=by unfold xf;rw[List.map_take]):p:=h
theorem zβU {p:Prop} (h:p:=by rw[HRR2.out];exact hd5):p:=h
theorem zαl {p:Prop} (h:p:=by rw[←hgx];exact (wt a).getD i):p:=h
theorem zαm {p:Prop} (h:p:=by rw[HLL2.out];exact HJL.out j (by omega)):p:=h
theorem zβX {p:Prop} (h:p:=by rw[Nat.mul_comm];exact hn10):p:=h
theorem zαO {p:Prop} (h:p:=by cases L.hex <;> decide):p:=h
theorem zαV {p:Prop} (h:p:=by rw[IntKind.wrap_u32];omega):p:=h
theorem zαp {p:Prop} (h:p:=by rw[hr.cell];rfl):p:=h
theorem zβZ {p:Prop} (h:p:=by rw[List.length_map];omega):p:=h
theorem zγb {p:Prop} (h:p:=by unfold shS;omega):p:=h
theorem zαq {p:Prop} (h:p:=by rw[hx];rfl):p:=h
theorem zγC {p:Prop} (h:p:=by rw[Tryz.underlying60];rfl):p:=h
theorem zγg {p:Prop} (h:p:=by rw[Tryz.underlying51];rfl):p:=h
theorem zγo {p:Prop} (h:p:=by rw[beq_eq_false_iff_ne];exact h1):p:=h
theorem zγp {p:Prop} (h:p:=by rw[beq_eq_false_iff_ne];exact h2):p:=h
theorem zαs {p:Prop} (h:p:=by rw[HN2.out];omega):p:=h
theorem zV {p:Prop} (h:p:=by rw[←hw1,←hB];exact (Row.new w _ _).alloc _):p:=h
theorem zt {p:Prop} (h:p:=by rw[HN.out];omega):p:=h
theorem zγi {p:Prop} (h:p:=by rw[HRR.out];rfl):p:=h
theorem zβv {p:Prop} (h:p:=by rw[Nat.add_mul,Nat.one_mul]):p:=h
theorem zβk {p:Prop} (h:p:=by unfold yt;split <;> omega):p:=h
theorem zγA {p:Prop} (h:p:=by unfold ynz;split <;> omega):p:=h
theorem zαQ {p:Prop} (h:p:=by cases ng <;> decide):p:=h
theorem zαN {p:Prop} (h:p:=by simp[RF.init]):p:=h
theorem zβG {p:Prop} (h:p:=by rw[HF.out]):p:=h
theorem zX {α : Sort _} (a : α) : ∃ k, a = k := ⟨_, rfl⟩
theorem zH {p : Prop} (h : p) : Hid p := Lib.hid h
end Go.Proofs.YtnifedmhgncioaaGreatDoor
