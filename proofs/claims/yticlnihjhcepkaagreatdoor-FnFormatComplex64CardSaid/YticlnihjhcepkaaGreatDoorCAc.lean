/-
  Walk: AppendComplex of internal/strconv.
-/
import Derived.Test.YticlnihjhcepkaaGreatDoorGg
import Derived.StillTailTactics
import Derived.Laws.IdiomCopy
import Derived.IntWalk
namespace Go.Proofs.YticlnihjhcepkaaGreatDoor
open Go.RowKit
set_option linter.unusedSimpArgs false
set_option linter.unusedVariables false

/-- A text with a sign ahead. -/
def sgnL (I : List UInt8) : List UInt8 := if I.headD 0 = 43 ∨ I.headD 0 = 45 then I else 43 :: I
def cplxL (R I : List UInt8) : List UInt8 := [40] ++ R ++ sgnL I ++ [105, 41]

theorem OwnB.cell {T : Nat} {w : World} {g c L : Nat} {xs : List UInt8} (h : OwnB T w (.slice (some ⟨g, 0, none⟩) L c) xs) (i : Nat) (u : UInt8) (hi : xs[i]? = some u) : w.cell? ⟨g, i, none⟩ = some (encB u) := by
  obtain ⟨⟨g', rest, hv, hr, hm⟩, _⟩ := h
  simp only [Value.slice.injEq, Option.some.injEq, Addr.mk.injEq] at hv
  obtain ⟨⟨rfl, _⟩, _⟩ := hv
  have hl : i < xs.length := by
    rcases Nat.lt_or_ge i xs.length with h | h
    · exact h
    · rw [List.getElem?_eq_none h] at hi; cases hi
  rw [hr.cell, List.getElem?_append_left (by rw [List.length_map]; exact hl), List.getElem?_map, hi]
  rfl

theorem OwnB.frozen {T : Nat} {w : World} {g c L : Nat} {xs : List UInt8} (h : OwnB T w (.slice (some ⟨g, 0, none⟩) L c) xs) (i : Nat) : w.frozen? ⟨g, i, none⟩ = false := by
  obtain ⟨⟨g', rest, hv, hr, hm⟩, _⟩ := h
  simp only [Value.slice.injEq, Option.some.injEq, Addr.mk.injEq] at hv
  obtain ⟨⟨rfl, _⟩, _⟩ := hv
  exact hr.frozen i

/-- The last bytes are moved on by one. -/
theorem OwnB.moved {T : Nat} {w : World} {g c L : Nat} {A I : List UInt8} {z : UInt8} (h : OwnB T w (.slice (some ⟨g, 0, none⟩) L c) (A ++ I ++ [z])) :
    OwnB T (w.setCells g (A.length + 1) (I.map encB)) (.slice (some ⟨g, 0, none⟩) L c) (A ++ ((A ++ I ++ [z]).getD A.length 0 :: I)) ∧ Stp w (.slice (some ⟨g, 0, none⟩) L c) (w.setCells g (A.length + 1) (I.map encB)) (.slice (some ⟨g, 0, none⟩) L c) := by
  obtain ⟨⟨g', rest, hv, hr, hm⟩, hT⟩ := h
  simp only [Value.slice.injEq, Option.some.injEq, Addr.mk.injEq] at hv
  obtain ⟨⟨rfl, _⟩, hL, hc⟩ := hv
  constructor
  · refine ⟨⟨g, rest, ?_, ?_, ?_⟩, hT⟩
    · rw [hL, hc]; simp
    · obtain ⟨u, us, hu⟩ : ∃ u us, I ++ [z] = u :: us := by
        cases I with
        | nil => exact ⟨z, [], rfl⟩
        | cons u us => exact ⟨u, us ++ [z], rfl⟩
      have hul : us.length = I.length := by
        have := congrArg List.length hu
        simp at this; omega
      have e1 : (A ++ I ++ [z]).getD A.length 0 = u := by
        rw [List.append_assoc, hu]
        simp [List.getD]
      rw [e1]
      have e2 : (A ++ I ++ [z]).map encB ++ rest = ((A ++ [u]).map encB) ++ (us.map encB ++ rest) := by
        rw [List.append_assoc, hu]; simp
      rw [e2] at hr
      have h3 := hr.setCells (I.map encB) (by simp [hul])
      have e3 : ((A ++ [u]).map encB).length = A.length + 1 := by simp
      rw [e3] at h3
      have e4 : (A ++ u :: I).map encB ++ rest = (A ++ [u]).map encB ++ (I.map encB ++ rest) := by simp
      rw [e4]
      exact h3
    · simp at hm ⊢; omega
  · refine ⟨⟨World.os_setCells .., tape_setCells g _ _ w, World.output_setCells .., by rw [size_setCells g]; exact Nat.le_refl _, fun k hk hne => World.heap_setCells_other w g _ _ hk (fun e => hne (by simp [Value.ownBlock, e]))⟩, fun k hk _ => hk⟩

/-- One byte is laid. -/
theorem OwnB.laid {T : Nat} {w : World} {g c L : Nat} {A B : List UInt8} {u : UInt8} (v : UInt8) (h : OwnB T w (.slice (some ⟨g, 0, none⟩) L c) (A ++ (u :: B))) :
    OwnB T (w.setCell ⟨g, A.length, none⟩ (encB v)) (.slice (some ⟨g, 0, none⟩) L c) (A ++ (v :: B)) ∧ Stp w (.slice (some ⟨g, 0, none⟩) L c) (w.setCell ⟨g, A.length, none⟩ (encB v)) (.slice (some ⟨g, 0, none⟩) L c) := by
  obtain ⟨⟨g', rest, hv, hr, hm⟩, hT⟩ := h
  simp only [Value.slice.injEq, Option.some.injEq, Addr.mk.injEq] at hv
  obtain ⟨⟨rfl, _⟩, hL, hc⟩ := hv
  constructor
  · refine ⟨⟨g, rest, ?_, ?_, ?_⟩, hT⟩
    · rw [hL, hc]; simp
    · have e2 : (A ++ u :: B).map encB ++ rest = (A.map encB) ++ ([encB u] ++ (B.map encB ++ rest)) := by simp
      rw [e2] at hr
      have h3 := hr.setCells [encB v] (by simp)
      have e3 : (A.map encB).length = A.length := by simp
      rw [e3] at h3
      have e4 : (A ++ v :: B).map encB ++ rest = A.map encB ++ ([encB v] ++ (B.map encB ++ rest)) := by simp
      rw [e4]
      exact h3
    · simp at hm ⊢; omega
  · have hst : Stp w (.slice (some ⟨g, 0, none⟩) L c) (w.setCells g A.length [encB v]) (.slice (some ⟨g, 0, none⟩) L c) :=
      ⟨⟨World.os_setCells .., tape_setCells g _ _ w, World.output_setCells .., by rw [size_setCells g]; exact Nat.le_refl _, fun k hk hne => World.heap_setCells_other w g _ _ hk (fun e => hne (by simp [Value.ownBlock, e]))⟩, fun k hk _ => hk⟩
    exact hst

set_option maxRecDepth 100000 in
theorem copy_moved {T : Nat} {w : World} {g c L : Nat} {A I : List UInt8} {z : UInt8} (h : OwnB T w (.slice (some ⟨g, 0, none⟩) L c) (A ++ I ++ [z])) (ty : TypeId) (c1 c2 n1 n2 : Nat) (hn1 : n1 = I.length) (hn2 : n2 = I.length + 1) :
    (Builtin.copy_ #[51, 51] ty #[.slice (some ⟨g, A.length + 1, none⟩) n1 c1, .slice (some ⟨g, A.length, none⟩) n2 c2]).run Tryz.prog w = .ok (goInt I.length) (w.setCells g (A.length + 1) (I.map encB)) := by
  obtain ⟨⟨g', rest, hv, hr, hm⟩, hT⟩ := h
  simp only [Value.slice.injEq, Option.some.injEq, Addr.mk.injEq] at hv
  obtain ⟨⟨rfl, _⟩, hL, hc⟩ := hv
  obtain ⟨i, hi, hz0, hz1, hz2⟩ := info_parts byteInfo
  have hh := run_copy_cells (P := Tryz.prog) w 51 51 ty 5 g (A.length + 1) n1 c1 ⟨g, A.length, none⟩ n2 c2 (I.map encB) Tryz.underlying51 (by rw [hi]; simp [hz1]) (by rw [List.length_map, hn1, hn2]; simp) ?_ ?_ ?_ ?_
  · rw [List.length_map] at hh
    exact hh
  · intro j v hj
    have e : ((⟨g, A.length, none⟩ : Addr).add j) = ⟨g, A.length + j, none⟩ := by
      unfold Addr.add; split
      · subst_vars; rfl
      · rfl
    have hjl : j < I.length := by
      rcases Nat.lt_or_ge j (I.map encB).length with h | h
      · rwa [List.length_map] at h
      · rw [List.getElem?_eq_none h] at hj; cases hj
    rw [e, hr.cell, List.getElem?_append_left (by simp; omega), List.append_assoc, List.map_append, List.getElem?_append_right (by simp), List.map_append, List.getElem?_append_left (by simp; omega), List.length_map, Nat.add_sub_cancel_left, hj]
  · intro j hj
    rw [List.length_map] at hj
    rw [hr.cell, List.getElem?_eq_getElem (by simp; omega)]
    rfl
  · intro j hj
    exact hr.frozen _
  · intro v hv
    obtain ⟨b, _, rfl⟩ := List.mem_map.1 hv
    rfl

end Go.Proofs.YticlnihjhcepkaaGreatDoor
