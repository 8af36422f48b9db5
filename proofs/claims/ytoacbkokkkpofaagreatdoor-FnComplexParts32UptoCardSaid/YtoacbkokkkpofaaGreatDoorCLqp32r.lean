/-
  For every input of bulk at most 1048576 laws.FnComplexParts32 returns true: the parts of a complex number are what its two texts are read as; brackets around it change nothing.
  Condition: the package-level tables of internal/strconv and math/bits start as the program's text lays them (the card ties them).
-/
import Derived.Test.YtoacbkokkkpofaaGreatDoorJ40
import Derived.Test.YtoacbkokkkpofaaGreatDoorJ48
import Derived.ChangeMaps5
namespace Go.Proofs.YtoacbkokkkpofaaGreatDoor
open Go.ChangeShapes Go.WideShapes Go.ChangeAt Go.RowKit
set_option linter.unusedSimpArgs false
set_option linter.unusedVariables false
namespace fnComplexParts32
set_option maxRecDepth 100000 in
theorem contract (H : Type) (enc : TypeId × Value → H) (W : World) (base : Nat) (args : Array Value) (ds gs : List (DataW H)) (before : List MemPlace)
    (hval : ∀ (j : Nat) t v, Tryz.f6.params[j]? = some t → args[j]? = some v → Value.okWide Tryz.prog W .any base t v)
    (hW : DataW.Whole enc Tryz.prog Tryz.f6.params.toList Rows.fnComplexParts32Spec.vars false W args.toList ds gs before) (hk : Rows.uptoSmall H (ds ++ gs) = true) (hL : laidMetH Tryz.prog Rows.fnComplexParts32UptoRow.laid W) :
    Calls Tryz.prog 6 args W fun e W' => ∃ v, e = .returned v ∧ Rows.fnComplexParts32Spec.post enc Tryz.prog Tryz.f6 false true false false W args v W' := by
  have hW' := hW
  obtain ⟨p, q, hA0, hV, rfl, hfz, hnd⟩ := hW
  have hA : DataW.TrodAll enc Tryz.prog W 0 (fun _ => true) true Tryz.f6.params.toList args.toList ds p := hA0
  rw [Tryz.params6] at hA hval
  obtain ⟨v0, vs0, d0, ds0, p0, q0, hargs, rfl, rfl, h0, r0⟩ := trodAll_cons hA
  obtain ⟨v1, vs1, d1, ds1, p1, q1, rfl, rfl, rfl, h1, r1⟩ := trodAll_cons r0
  obtain ⟨v2, vs2, d2, ds2, p2, q2, rfl, rfl, rfl, h2, r2⟩ := trodAll_cons r1
  obtain ⟨rfl, rfl, rfl⟩ := trodAll_nil r2
  obtain rfl : args = #[v0, v1, v2] := by cases args; simp_all
  obtain ⟨rfl, rfl⟩ := trodVars_none hV
  obtain ⟨a0, rfl, rfl, rfl, w0⟩ := Go.ChangeMaps.open_string Tryz.underlying9 (hval 0 9 v0 rfl rfl) h0
  obtain ⟨a1, rfl, rfl, rfl, w1⟩ := Go.ChangeMaps.open_string Tryz.underlying9 (hval 1 9 v1 rfl rfl) h1
  obtain ⟨a2, rfl, rfl, rfl⟩ := Go.RowKit.open_bool Tryz.underlying4 (hval 2 4 v2 rfl rfl) h2
  clear hA0
  simp only [List.append_nil] at hW' hk
  have u0 : a0.data.toList.length + a1.data.toList.length ≤ 1048576 := by
    have h : Rows.uptoBulkAll [DataW.lit (H := H) (.string a0.data.toList), DataW.lit (H := H) (.string a1.data.toList), DataW.lit (H := H) (.bool a2)] ≤ 1048576 := of_decide_eq_true hk
    simp only [Rows.uptoBulkAll, Rows.uptoBulk] at h
    omega
  have e0 : a0 = ⟨a0.data.toList.toArray⟩ := zqg a0
  have z0 := zqf a0 w0
  have e1 : a1 = ⟨a1.data.toList.toArray⟩ := zqg a1
  have z1 := zqf a1 w1
  have hcall := yit W.heap.size a0.data.toList a1.data.toList a2 W (zfu hL) (by omega) (by omega)
  rw [← e0, ← e1] at hcall
  refine hcall.mono fun e W' ⟨he, hg⟩ => ?_
  exact ⟨_, he, znd rfl rfl rfl hW' (fun sp => trodAll_cons_mk (Go.ChangeMaps.shut_string Tryz.underlying9 w0) (trodAll_cons_mk (Go.ChangeMaps.shut_string Tryz.underlying9 w1) (trodAll_cons_mk (Go.RowKit.shut_bool Tryz.underlying4 _) trodAll_mk0))) hg⟩
theorem reads (os : Os) {H : Type} (enc : TypeId × Value → H) : ∃ places, DataW.whole enc Tryz.prog ((laidWorldP os).forCall (fun _ _ => 0) ⟨#[], #[.string ⟨#[]⟩, .string ⟨#[]⟩, .bool false], []⟩).memory Tryz.f6.params.toList Rows.fnComplexParts32Spec.vars false #[Value.string ⟨#[]⟩, Value.string ⟨#[]⟩, Value.bool false].toList 8 = some ([.lit (.string []), .lit (.string []), .lit (.bool false)], [], places) :=
  ⟨[], by kernel_rfl⟩
set_option maxRecDepth 100000 in
theorem lifted (os : Os) (started : os.Started) (H : Type) (enc : TypeId × Value → H) (F : Stop.Interp) :
    ReturnsInHanded {} Tryz.checked os 6 .any ((Rows.OpenSpec.upto Rows.fnComplexParts32Spec).preRow enc Tryz.prog Tryz.f6 Rows.fnComplexParts32UptoRow.domain false Rows.fnComplexParts32UptoRow.laid) (((Rows.OpenSpec.upto Rows.fnComplexParts32Spec).at F).post enc Tryz.prog Tryz.f6 false true false false) := by
  obtain ⟨places, hx⟩ := reads os enc
  refine returnsInHanded_of_row (C := Tryz.checked) (s := Rows.OpenSpec.upto Rows.fnComplexParts32Spec) ya0 started (by kernel_rfl) Tryz.func6
    (witness_row_atRef (enc := enc) (C := Tryz.checked) false (laidWorldP os) #[.string ⟨#[]⟩, .string ⟨#[]⟩, .bool false] rfl (zp3 os _) (by kernel_rfl) (by kernel_rfl)
      (OpenSpec.preRow_of_cond 8 hx (by kernel_rfl) (fun k hk => by cases hk; kernel_rfl) (by kernel_rfl) (zlr os _))) ?_
  intro W base args ds gs before hval hW _ hcond _ hL _ _
  exact contract H enc W base args ds gs before hval hW (hcond _ rfl) hL
theorem said : Rows.FnComplexParts32UptoSaid :=
  OpenClaim.holds_of_cond 6 Tryz.f6 rfl rfl rfl rfl rfl rfl rfl ⟨rfl, rfl, rfl, rfl, rfl⟩ rfl rfl rfl rfl rfl (by kernel_rfl) Tryz.func6 (by kernel_rfl)
    (of_decide_eq_true (by kernel_rfl)) (by unfold Func.isWrapper; first | (rw [if_pos (by decide +kernel)]; kernel_rfl) | (rw [if_neg (by decide +kernel)]; exact ⟨rfl, rfl⟩))
    (fun os started H enc _ F => by rw [OpenClaim.pre_eq_preRow]; exact lifted os started H enc F)
theorem plain (f : FuncId) (fn : Func) (hf : Tryz.pinned.checked.prog.funcNamed "loop.example/lib-g03212/laws.FnComplexParts32" = some f) (hfn : Tryz.pinned.checked.prog.funcs[f]? = some fn) :
    true = Tryz.pinned.checked.prog.looks [] ∧ ∀ (j : Nat) t, fn.params[j]? = some t → Tryz.pinned.checked.prog.wantsStandIn t = false := by
  obtain rfl : f = 6 := Option.some.inj ((show Tryz.prog.funcNamed "loop.example/lib-g03212/laws.FnComplexParts32" = some 6 by kernel_rfl).symm.trans hf) |>.symm
  obtain rfl : fn = Tryz.f6 := (Option.some.inj (Tryz.func6.symm.trans hfn)).symm
  refine ⟨by kernel_rfl, fun j t ht => ?_⟩
  rw [Tryz.params6] at ht
  have hm := Array.mem_of_getElem? ht
  simp only [List.mem_cons, List.not_mem_nil, or_false, List.mem_toArray] at hm
  rcases hm with rfl | rfl | rfl
  · exact (show Tryz.prog.wantsStandIn 9 = false by kernel_rfl)
  · exact (show Tryz.prog.wantsStandIn 9 = false by kernel_rfl)
  · exact (show Tryz.prog.wantsStandIn 4 = false by kernel_rfl)
theorem card : Rows.FnComplexParts32UptoCardSaid :=
  Claim7.holds_tied_plain_at .later [] _ _ _ _ said (fun _ h => by cases h) (by kernel_rfl) (fun _ h => by cases h) fnComplexParts32Upto_row_tie rfl ⟨rfl, rfl⟩ (by kernel_rfl) rfl plain (by kernel_rfl)
end fnComplexParts32
theorem fnComplexParts32Upto_card : Rows.FnComplexParts32UptoCardSaid := fnComplexParts32.card
#print axioms fnComplexParts32Upto_card
end Go.Proofs.YtoacbkokkkpofaaGreatDoor
