/-
  For every input laws.FnAppendTwice returns true: appending twice is appending the text of the first and then that of the second number, and changes nothing before it.
  Condition: the package-level tables of internal/strconv and math/bits start as the program's text lays them (the card ties them).
-/
import Derived.Test.YtffooimnioigdaaDoorTw
import Derived.Test.YtffooimnioigdaaDoorRw4
namespace Go.Proofs.YtffooimnioigdaaDoor
open Go.ChangeShapes Go.WideShapes Go.ChangeAt Go.RowKit
set_option linter.unusedSimpArgs false
set_option linter.unusedVariables false

namespace fnAppendTwice
set_option maxRecDepth 100000 in
theorem contract (H : Type) (enc : TypeId × Value → H) (W : World) (base : Nat) (args : Array Value) (ds gs : List (DataW H)) (before : List MemPlace)
    (hval : ∀ (j : Nat) t v, Tryd.f8.params[j]? = some t → args[j]? = some v → Value.okWide Tryd.prog W .any base t v)
    (hW : DataW.Whole enc Tryd.prog Tryd.f8.params.toList Rows.fnAppendTwiceSpec.vars false W args.toList ds gs before) (hwt : (DataW.weightsEach Tryd.prog (Tryd.f8.params.toList ++ (OpenSpec.ofChange Rows.fnAppendTwiceSpec).bare.plain.varTypes Tryd.prog) (ds ++ gs)).all (· ≤ reachBytes) = true) (hL : laidMetH Tryd.prog Rows.fnAppendTwiceRow.laid W) :
    Calls Tryd.prog 8 args W fun e W' => ∃ v, e = .returned v ∧ Rows.fnAppendTwiceSpec.post enc Tryd.prog Tryd.f8 false true false false W args v W' := by
  have hW' := hW
  obtain ⟨p, q, hA0, hV, rfl, hfz, hnd⟩ := hW
  have hA : DataW.TrodAll enc Tryd.prog W 0 (fun _ => true) true Tryd.f8.params.toList args.toList ds p := hA0
  rw [Tryd.params8] at hA hval
  obtain ⟨v0, vs0, d0, ds0, p0, q0, hargs, rfl, rfl, h0, r0⟩ := trodAll_cons hA
  obtain ⟨v1, vs1, d1, ds1, p1, q1, rfl, rfl, rfl, h1, r1⟩ := trodAll_cons r0
  obtain ⟨v2, vs2, d2, ds2, p2, q2, rfl, rfl, rfl, h2, r2⟩ := trodAll_cons r1
  obtain ⟨v3, vs3, d3, ds3, p3, q3, rfl, rfl, rfl, h3, r3⟩ := trodAll_cons r2
  obtain ⟨v4, vs4, d4, ds4, p4, q4, rfl, rfl, rfl, h4, r4⟩ := trodAll_cons r3
  obtain ⟨rfl, rfl, rfl⟩ := trodAll_nil r4
  obtain rfl : args = #[v0, v1, v2, v3, v4] := by cases args; simp_all
  obtain ⟨rfl, rfl⟩ := trodVars_none hV
  obtain ⟨a1, rfl, rfl, rfl, w1⟩ := open_int Tryd.underlying24 (hval 1 24 v1 rfl rfl) h1
  obtain ⟨a2, rfl, rfl, rfl, w2⟩ := open_int Tryd.underlying22 (hval 2 22 v2 rfl rfl) h2
  obtain ⟨a3, rfl, rfl, rfl, w3⟩ := open_int Tryd.underlying5 (hval 3 5 v3 rfl rfl) h3
  obtain ⟨a4, rfl, rfl, rfl, w4⟩ := open_int Tryd.underlying3 (hval 4 3 v4 rfl rfl) h4
  clear hA0
  simp only [List.append_nil] at hW'
  obtain ⟨xs, hrd, hxl0, hback⟩ := open_bytes (hval 0 33 v0 rfl rfl) h0
  have hxl : xs.length < 2 ^ 47 := by
    rcases hxl0 with ⟨_, h⟩ | ⟨el, sp, rfl, h⟩
    · rw [h]; decide
    · have h1 := sized_slice hwt (j := 0) (t := 33) (e := 5) (by rw [Tryd.params8]; rfl) rfl Tryd.underlying33
      rw [bytesByte, Nat.mul_one] at h1
      have h2 := reachBytes_lt
      omega
  have b1 := bounds_u64 w1
  have b2 := bounds_u32 w2
  have b3 := bounds_u8 w3
  have b4 := bounds_i64 w4
  obtain ⟨n1, rfl⟩ : ∃ n : Nat, a1 = (n : Int) := ⟨a1.toNat, by omega⟩
  obtain ⟨n2, rfl⟩ : ∃ n : Nat, a2 = (n : Int) := ⟨a2.toNat, by omega⟩
  refine (twice_law W.heap.size n1 n2 v0 a3 a4 xs W (env_of_laidH hL) rfl hrd (by omega) (by omega) (by omega) (by omega) (by omega) (by omega) (by omega)).mono fun e W' ⟨he, hg⟩ => ?_
  exact ⟨_, he, post_true2 rfl rfl rfl hW' (fun sp hsp => by have hh := trodAll_cons_mk (hback W' sp hg hsp) (trodAll_cons_mk (shut_int Tryd.underlying24 w1) (trodAll_cons_mk (shut_int Tryd.underlying22 w2) (trodAll_cons_mk (shut_int Tryd.underlying5 w3) (trodAll_cons_mk (shut_int Tryd.underlying3 w4) trodAll_mk0)))); simp only [List.append_nil] at hh; exact hh) hg⟩

theorem reads (os : Os) {H : Type} (enc : TypeId × Value → H) : ∃ places, DataW.whole enc Tryd.prog ((laidWorld os).forCall (fun _ _ => 0) ⟨#[], #[.slice none 0 0, .int .u64 0, .int .u32 0, .int .u8 0, .int .i64 0], []⟩).memory Tryd.f8.params.toList Rows.fnAppendTwiceSpec.vars false #[Value.slice none 0 0, Value.int .u64 0, Value.int .u32 0, Value.int .u8 0, Value.int .i64 0].toList 8 = some ([.nil, .lit (.int .u64 0), .lit (.int .u32 0), .lit (.int .u8 0), .lit (.int .i64 0)], [], places) :=
  ⟨[], by kernel_rfl⟩

set_option maxRecDepth 100000 in
theorem lifted (os : Os) (started : os.Started) (H : Type) (enc : TypeId × Value → H) (F : Stop.Interp) :
    ReturnsInHanded {} Tryd.checked os 8 .any ((OpenSpec.ofChange Rows.fnAppendTwiceSpec).preRow enc Tryd.prog Tryd.f8 Rows.fnAppendTwiceRow.domain false Rows.fnAppendTwiceRow.laid) (((OpenSpec.ofChange Rows.fnAppendTwiceSpec).at F).post enc Tryd.prog Tryd.f8 false true false false) := by
  obtain ⟨places, hx⟩ := reads os enc
  refine returnsInHanded_of_row (C := Tryd.checked) (s := OpenSpec.ofChange Rows.fnAppendTwiceSpec) ownK started (by kernel_rfl) Tryd.func8
    (witness_row_atRef (enc := enc) (C := Tryd.checked) false (laidWorld os) #[.slice none 0 0, .int .u64 0, .int .u32 0, .int .u8 0, .int .i64 0] rfl (vars_ok os _) (by kernel_rfl) (by kernel_rfl)
      (OpenSpec.preRow_of_cond 8 hx (by kernel_rfl) (fun k hk => by cases hk) (by kernel_rfl) (laid_metH os _))) ?_
  intro W base args ds gs before hval hW _ _ hwt hL _ _
  exact contract H enc W base args ds gs before hval hW hwt hL

theorem said : Rows.FnAppendTwiceSaid :=
  OpenClaim.holds_of_cond 8 Tryd.f8 rfl rfl rfl rfl rfl rfl rfl ⟨rfl, rfl, rfl, rfl, rfl⟩ rfl rfl rfl rfl rfl (by kernel_rfl) Tryd.func8 (by kernel_rfl)
    (of_decide_eq_true (by kernel_rfl)) (by unfold Func.isWrapper; first | (rw [if_pos (by decide +kernel)]; kernel_rfl) | (rw [if_neg (by decide +kernel)]; exact ⟨rfl, rfl⟩))
    (fun os started H enc _ F => by rw [OpenClaim.pre_eq_preRow]; exact lifted os started H enc F)

theorem plain (f : FuncId) (fn : Func) (hf : Tryd.pinned.checked.prog.funcNamed "loop.example/lib-g03212/laws.FnAppendTwice" = some f) (hfn : Tryd.pinned.checked.prog.funcs[f]? = some fn) :
    false = Tryd.pinned.checked.prog.looks [] ∧ ∀ (j : Nat) t, fn.params[j]? = some t → Tryd.pinned.checked.prog.wantsStandIn t = false := by
  obtain rfl : f = 8 := Option.some.inj ((show Tryd.prog.funcNamed "loop.example/lib-g03212/laws.FnAppendTwice" = some 8 by kernel_rfl).symm.trans hf) |>.symm
  obtain rfl : fn = Tryd.f8 := (Option.some.inj (Tryd.func8.symm.trans hfn)).symm
  refine ⟨by kernel_rfl, fun j t ht => ?_⟩
  rw [Tryd.params8] at ht
  have hm := Array.mem_of_getElem? ht
  simp only [List.mem_cons, List.not_mem_nil, or_false, List.mem_toArray] at hm
  rcases hm with rfl | rfl | rfl | rfl | rfl
  · exact (show Tryd.prog.wantsStandIn 33 = false by kernel_rfl)
  · exact (show Tryd.prog.wantsStandIn 24 = false by kernel_rfl)
  · exact (show Tryd.prog.wantsStandIn 22 = false by kernel_rfl)
  · exact (show Tryd.prog.wantsStandIn 5 = false by kernel_rfl)
  · exact (show Tryd.prog.wantsStandIn 3 = false by kernel_rfl)

theorem card : Rows.FnAppendTwiceCardSaid :=
  Claim7.holds_tied_plain_at .later [] _ _ _ _ said (fun _ h => by cases h) (by kernel_rfl) (fun _ h => by cases h) fnAppendTwice_row_tie rfl ⟨rfl, rfl⟩ (by kernel_rfl) rfl plain (by kernel_rfl)
end fnAppendTwice

theorem fnAppendTwice_card : Rows.FnAppendTwiceCardSaid := fnAppendTwice.card
#print axioms fnAppendTwice_card
end Go.Proofs.YtffooimnioigdaaDoor
