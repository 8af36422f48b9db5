/-
  A slice of bytes as a parameter: what it reads as, and that it reads so behind the call.
-/
import Derived.Test.YtffooimnioigdaaDoorRw2
import Derived.Test.YtffooimnioigdaaDoorAp
import Derived.ChangeSlices
import Derived.SizedLaws
namespace Go.Proofs.YtffooimnioigdaaDoor
open Go.ChangeShapes Go.WideShapes Go.ChangeAt Go.RowKit
set_option linter.unusedSimpArgs false
set_option linter.unusedVariables false

theorem cellsByte : Tryd.prog.cellsOf 5 = 1 := by kernel_rfl
theorem bytesByte : Tryd.prog.bytesOf 5 = 1 := by kernel_rfl

/-- The bytes of numbers. -/
def bytesOf (zs : List Int) : List UInt8 := zs.map fun z => UInt8.ofNat z.toNat
theorem encB_num (z : Int) (h : (Lit.int .u8 z).wf = true) : encB (UInt8.ofNat z.toNat) = .int .u8 z := by
  have h1 := bounds_u8 h
  exact encB_of z (by omega) (by omega)

set_option maxRecDepth 100000 in
/-- What a parameter []byte gives: it reads as bytes; its length is within the form's reach; behind a call that has only made memory it reads as before. -/
theorem open_bytes {H : Type} {enc : TypeId × Value → H} {W : World} {base : Nat} {v : Value} {d : DataW H} {p : List MemPlace} (hval : Value.okWide Tryd.prog W .any base 33 v)
    (h : DataW.Trod enc Tryd.prog W 0 (fun _ => true) true 33 v d p) :
    ∃ xs : List UInt8, Rd W v xs ∧ (d = .nil ∧ xs.length = 0 ∨ ∃ el sp : List (DataW H), d = .slice el sp ∧ xs.length = el.length) ∧
      ∀ (W' : World) (sp : Nat → Bool), W.grownBy W' none → (∀ q ∈ p, sp q.block = true) → DataW.Trod enc Tryd.prog W' 0 sp true 33 v d p := by
  obtain ⟨a0, len, cap, rfl⟩ := okWide_slice Tryd.underlying33 hval
  obtain ⟨fuel, hf⟩ := h
  rcases open_ints Tryd.underlying33 Tryd.underlying5 cellsByte hf with ⟨hcs, hx⟩ | ⟨a, len', cap', zs, hcs, hb, hl, hm, hz, hx, hcell, hwz⟩
  · simp [Value.cells] at hcs
    obtain ⟨rfl, rfl, rfl⟩ := hcs
    simp only [Prod.mk.injEq] at hx
    obtain ⟨rfl, rfl⟩ := hx
    refine ⟨[], Or.inl ⟨rfl, rfl⟩, Or.inl ⟨rfl, rfl⟩, fun W' sp hg hp => ?_⟩
    obtain ⟨m, rfl⟩ : ∃ m, fuel = m + 1 := by
      cases fuel with
      | zero => simp [DataW.trod] at hf
      | succ m => exact ⟨m, rfl⟩
    refine ⟨m + 1, ?_⟩
    simp [DataW.trod, Value.cells, Tryd.underlying33]
  · simp [Value.cells] at hcs
    obtain ⟨rfl, rfl, rfl⟩ := hcs
    simp only [Prod.mk.injEq] at hx
    obtain ⟨rfl, rfl⟩ := hx
    simp only [if_true] at hz
    have htl : (zs.take len).length = len := by rw [List.length_take]; omega
    refine ⟨bytesOf (zs.take len), Or.inr ⟨a, cap, ?_, ?_⟩, Or.inr ⟨_, _, rfl, ?_⟩, fun W' sp hg hp => ?_⟩
    · rw [bytesOf, List.length_map, htl]
    · intro j u hu
      rw [bytesOf, List.getElem?_map] at hu
      have hjl : j < (zs.take len).length := by
        rcases Nat.lt_or_ge j (zs.take len).length with h | h
        · exact h
        · rw [List.getElem?_eq_none h] at hu; cases hu
      rw [List.getElem?_eq_getElem hjl] at hu
      have hu' : UInt8.ofNat ((zs.take len)[j]).toNat = u := by simpa using hu
      have hjz : j < zs.length := by omega
      have e : zs.getD j 0 = (zs.take len)[j] := by
        rw [List.getD_eq_getElem?_getD, List.getElem?_eq_getElem hjz, List.getElem_take]; rfl
      have hc := hcell j hjz
      rw [hc, ← hu', e, encB_num]
      exact hwz _ (List.mem_of_mem_take (List.getElem_mem hjl))
    · rw [bytesOf, List.length_map]; simp [lits]
    · refine ⟨2, ?_⟩
      have hsp : zs.length = if sp a.block then cap else len := by
        by_cases h0 : zs.length = 0
        · split <;> omega
        · have := hp (.cell a.block (a.off + 0)) (by
            unfold MemPlace.row
            exact List.mem_map.2 ⟨0, List.mem_range.2 (by omega), rfl⟩)
          have h1 : sp a.block = true := this
          rw [h1]; simpa using hz
      have := shut_ints (enc := enc) (w := W') (base := 0) (spare := sp) (held := true) 0 Tryd.underlying33 Tryd.underlying5 cellsByte (Nat.zero_le _) hl hm hsp (fun i hi => cell_grown hg (hcell i hi)) hwz
      simpa [Value.cells] using this

/-- The row's post of a law, where a parameter may lie in memory. -/
theorem post_true2 {H : Type} {enc : TypeId × Value → H} {f : Func} {s : ChangeSpec} {W W' : World} {args : Array Value} {ds : List (DataW H)} {p : List MemPlace}
    (hv : s.vars = []) (hr : f.resultTypes = #[4]) (hfn : s.fn H ds = { results := [.lit (.bool true)], args := ds })
    (hW : DataW.Whole enc Tryd.prog f.params.toList s.vars false W args.toList ds [] p)
    (hargs : ∀ sp : Nat → Bool, (∀ q ∈ p, sp q.block = true) → DataW.TrodAll enc Tryd.prog W' 0 sp true f.params.toList args.toList ds p) (hg : W.grownBy W' none) :
    s.post enc Tryd.prog f false true false false W args (.bool true) W' := by
  have hold : ∀ q ∈ p, (fun b => decide (b < W.heap.size)) q.block = true := fun q hq => by simpa using hW.lt q hq
  refine ⟨ds, [], p, [], p, [], hW, ?_, ?_, ?_, kept_of_grown hg _, fun h => by cases h⟩
  · rw [List.append_nil, hfn, hr]
    exact trodAll_cons_mk (shut_bool Tryd.underlying4 _) trodAll_mk0
  · rw [List.append_nil, hfn]
    exact hargs _ hold
  · rw [List.append_nil, hfn, hv]
    rfl
end Go.Proofs.YtffooimnioigdaaDoor
