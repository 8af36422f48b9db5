/-
  For every input laws.FnAppend32 returns true: AppendFloat with 32 bits appends what FormatFloat gives, whatever the format.
  Condition: the package-level tables of internal/strconv and math/bits start as the program's text lays them (the card ties them).
-/
import Derived.Test.YtffooimnioigdaaDoorAl32
import Derived.Test.YtffooimnioigdaaDoorRw4
namespace Go.Proofs.YtffooimnioigdaaDoor
open Go.ChangeShapes Go.WideShapes Go.ChangeAt Go.RowKit
set_option linter.unusedSimpArgs false
set_option linter.unusedVariables false

namespace fnAppend32
set_option maxRecDepth 100000 in
theorem contract (H : Type) (enc : TypeId × Value → H) (W : World) (base : Nat) (args : Array Value) (ds gs : List (DataW H)) (before : List MemPlace)
    (hval : ∀ (j : Nat) t v, Tryd.f6.params[j]? = some t → args[j]? = some v → Value.okWide Tryd.prog W .any base t v)
    (hW : DataW.Whole enc Tryd.prog Tryd.f6.params.toList Rows.fnAppend32Spec.vars false W args.toList ds gs before) (hwt : (DataW.weightsEach Tryd.prog (Tryd.f6.params.toList ++ (OpenSpec.ofChange Rows.fnAppend32Spec).bare.plain.varTypes Tryd.prog) (ds ++ gs)).all (· ≤ reachBytes) = true) (hL : laidMetH Tryd.prog Rows.fnAppend32Row.laid W) :
    Calls Tryd.prog 6 args W fun e W' => ∃ v, e = .returned v ∧ Rows.fnAppend32Spec.post enc Tryd.prog Tryd.f6 false true false false W args v W' := by
  have hW' := hW
  obtain ⟨p, q, hA0, hV, rfl, hfz, hnd⟩ := hW
  have hA : DataW.TrodAll enc Tryd.prog W 0 (fun _ => true) true Tryd.f6.params.toList args.toList ds p := hA0
  rw [Tryd.params6] at hA hval
  obtain ⟨v0, vs0, d0, ds0, p0, q0, hargs, rfl, rfl, h0, r0⟩ := trodAll_cons hA
  obtain ⟨v1, vs1, d1, ds1, p1, q1, rfl, rfl, rfl, h1, r1⟩ := trodAll_cons r0
  obtain ⟨v2, vs2, d2, ds2, p2, q2, rfl, rfl, rfl, h2, r2⟩ := trodAll_cons r1
  obtain ⟨v3, vs3, d3, ds3, p3, q3, rfl, rfl, rfl, h3, r3⟩ := trodAll_cons r2
  obtain ⟨rfl, rfl, rfl⟩ := trodAll_nil r3
  obtain rfl : args = #[v0, v1, v2, v3] := by cases args; simp_all
  obtain ⟨rfl, rfl⟩ := trodVars_none hV
  obtain ⟨a1, rfl, rfl, rfl, w1⟩ := open_int Tryd.underlying22 (hval 1 22 v1 rfl rfl) h1
  obtain ⟨a2, rfl, rfl, rfl, w2⟩ := open_int Tryd.underlying5 (hval 2 5 v2 rfl rfl) h2
  obtain ⟨a3, rfl, rfl, rfl, w3⟩ := open_int Tryd.underlying3 (hval 3 3 v3 rfl rfl) h3
  clear hA0
  simp only [List.append_nil] at hW'
  obtain ⟨xs, hrd, hxl0, hback⟩ := open_bytes (hval 0 33 v0 rfl rfl) h0
  have hxl : xs.length < 2 ^ 47 := by
    rcases hxl0 with ⟨_, h⟩ | ⟨el, sp, rfl, h⟩
    · rw [h]; decide
    · have h1 := sized_slice hwt (j := 0) (t := 33) (e := 5) (by rw [Tryd.params6]; rfl) rfl Tryd.underlying33
      rw [bytesByte, Nat.mul_one] at h1
      have h2 := reachBytes_lt
      omega
  have b1 := bounds_u32 w1
  have b2 := bounds_u8 w2
  have b3 := bounds_i64 w3
  obtain ⟨n1, rfl⟩ : ∃ n : Nat, a1 = (n : Int) := ⟨a1.toNat, by omega⟩
  refine (append32_law W.heap.size n1 v0 a2 a3 xs W (env_of_laidH hL) rfl hrd (by omega) (by omega) (by omega) (by omega) (by omega) (by omega)).mono fun e W' ⟨he, hg⟩ => ?_
  exact ⟨_, he, post_true2 rfl rfl rfl hW' (fun sp hsp => by have hh := trodAll_cons_mk (hback W' sp hg hsp) (trodAll_cons_mk (shut_int Tryd.underlying22 w1) (trodAll_cons_mk (shut_int Tryd.underlying5 w2) (trodAll_cons_mk (shut_int Tryd.underlying3 w3) trodAll_mk0))); simp only [List.append_nil] at hh; exact hh) hg⟩

theorem reads (os : Os) {H : Type} (enc : TypeId × Value → H) : ∃ places, DataW.whole enc Tryd.prog ((laidWorld os).forCall (fun _ _ => 0) ⟨#[], #[.slice none 0 0, .int .u32 0, .int .u8 0, .int .i64 0], []⟩).memory Tryd.f6.params.toList Rows.fnAppend32Spec.vars false #[Value.slice none 0 0, Value.int .u32 0, Value.int .u8 0, Value.int .i64 0].toList 8 = some ([.nil, .lit (.int .u32 0), .lit (.int .u8 0), .lit (.int .i64 0)], [], places) :=
  ⟨[], by kernel_rfl⟩

set_option maxRecDepth 100000 in
theorem lifted (os : Os) (started : os.Started) (H : Type) (enc : TypeId × Value → H) (F : Stop.Interp) :
    ReturnsInHanded {} Tryd.checked os 6 .any ((OpenSpec.ofChange Rows.fnAppend32Spec).preRow enc Tryd.prog Tryd.f6 Rows.fnAppend32Row.domain false Rows.fnAppend32Row.laid) (((OpenSpec.ofChange Rows.fnAppend32Spec).at F).post enc Tryd.prog Tryd.f6 false true false false) := by
  obtain ⟨places, hx⟩ := reads os enc
  refine returnsInHanded_of_row (C := Tryd.checked) (s := OpenSpec.ofChange Rows.fnAppend32Spec) ownK started (by kernel_rfl) Tryd.func6
    (witness_row_atRef (enc := enc) (C := Tryd.checked) false (laidWorld os) #[.slice none 0 0, .int .u32 0, .int .u8 0, .int .i64 0] rfl (vars_ok os _) (by kernel_rfl) (by kernel_rfl)
      (OpenSpec.preRow_of_cond 8 hx (by kernel_rfl) (fun k hk => by cases hk) (by kernel_rfl) (laid_metH os _))) ?_
  intro W base args ds gs before hval hW _ _ hwt hL _ _
  exact contract H enc W base args ds gs before hval hW hwt hL

theorem said : Rows.FnAppend32Said :=
  OpenClaim.holds_of_cond 6 Tryd.f6 rfl rfl rfl rfl rfl rfl rfl ⟨rfl, rfl, rfl, rfl, rfl⟩ rfl rfl rfl rfl rfl (by kernel_rfl) Tryd.func6 (by kernel_rfl)
    (of_decide_eq_true (by kernel_rfl)) (by unfold Func.isWrapper; first | (rw [if_pos (by decide +kernel)]; kernel_rfl) | (rw [if_neg (by decide +kernel)]; exact ⟨rfl, rfl⟩))
    (fun os started H enc _ F => by rw [OpenClaim.pre_eq_preRow]; exact lifted os started H enc F)

theorem plain (f : FuncId) (fn : Func) (hf : Tryd.pinned.checked.prog.funcNamed "loop.example/lib-g03212/laws.FnAppend32" = some f) (hfn : Tryd.pinned.checked.prog.funcs[f]? = some fn) :
    false = Tryd.pinned.checked.prog.looks [] ∧ ∀ (j : Nat) t, fn.params[j]? = some t → Tryd.pinned.checked.prog.wantsStandIn t = false := by
  obtain rfl : f = 6 := Option.some.inj ((show Tryd.prog.funcNamed "loop.example/lib-g03212/laws.FnAppend32" = some 6 by kernel_rfl).symm.trans hf) |>.symm
  obtain rfl : fn = Tryd.f6 := (Option.some.inj (Tryd.func6.symm.trans hfn)).symm
  refine ⟨by kernel_rfl, fun j t ht => ?_⟩
  rw [Tryd.params6] at ht
  have hm := Array.mem_of_getElem? ht
  simp only [List.mem_cons, List.not_mem_nil, or_false, List.mem_toArray] at hm
  rcases hm with rfl | rfl | rfl | rfl
  · exact (show Tryd.prog.wantsStandIn 33 = false by kernel_rfl)
  · exact (show Tryd.prog.wantsStandIn 22 = false by kernel_rfl)
  · exact (show Tryd.prog.wantsStandIn 5 = false by kernel_rfl)
  · exact (show Tryd.prog.wantsStandIn 3 = false by kernel_rfl)

theorem card : Rows.FnAppend32CardSaid :=
  Claim7.holds_tied_plain_at .later [] _ _ _ _ said (fun _ h => by cases h) (by kernel_rfl) (fun _ h => by cases h) fnAppend32_row_tie rfl ⟨rfl, rfl⟩ (by kernel_rfl) rfl plain (by kernel_rfl)
end fnAppend32

theorem fnAppend32_card : Rows.FnAppend32CardSaid := fnAppend32.card
#print axioms fnAppend32_card
end Go.Proofs.YtffooimnioigdaaDoor
