/-
  Lemmas and walks of functions, several texts in one.
-/
import Derived.Test.YticlnihjhcepkaaGreatDoorGd
import Derived.Test.YticlnihjhcepkaaGreatDoorCards
import Derived.WalkKit
import Derived.ProofKit
import Derived.OpenShut
import Derived.Deep.DeepHandedRow
import Derived.Lib.LaidTab
import Derived.Lib.LaidRTab
import Derived.Deep.DeepWitnessRowRef
import Derived.Test.YticlnihjhcepkaaGreatDoorTie
import Derived.Test.YticlnihjhcepkaaGreatDoorGg
import Derived.Test.YticlnihjhcepkaaGreatDoorGc
import Derived.Test.YticlnihjhcepkaaGreatDoorGa
import Derived.Laws.FloatArith
/-
  What the rows' list gives the walks: the tables; a world for the witness.
-/
namespace Go.Proofs.YticlnihjhcepkaaGreatDoor
open Go.ChangeShapes Go.WideShapes Go.ChangeAt Go.RowKit
set_option linter.unusedSimpArgs false
set_option linter.unusedVariables false

def laidAll : List (String × DataW Unit) := [("math/bits.deBruijn32tab", Rows.laid_math_bits_deBruijn32tab), ("math/bits.deBruijn64tab", Rows.laid_math_bits_deBruijn64tab), ("internal/strconv.optimize", Rows.laid_internal_strconv_optimize), ("internal/strconv.uint64pow10", Rows.laid_internal_strconv_uint64pow10), ("internal/strconv.leftcheats", Rows.laid_internal_strconv_leftcheats), ("internal/strconv.pow10Tab", Rows.laid_internal_strconv_pow10Tab)]

theorem gOpt : Tryz.prog.globalNamed "internal/strconv.optimize" = some 4 := by kernel_rfl
theorem gP10 : Tryz.prog.globalNamed "internal/strconv.uint64pow10" = some 9 := by kernel_rfl
theorem gTab : Tryz.prog.globalNamed "internal/strconv.pow10Tab" = some 10 := by kernel_rfl
theorem gChe : Tryz.prog.globalNamed "internal/strconv.leftcheats" = some 11 := by kernel_rfl
theorem gDb : Tryz.prog.globalNamed "math/bits.deBruijn64tab" = some 13 := by kernel_rfl
theorem yOpt : (Tryz.prog.globals[4]?).map (·.type) = some 4 := by kernel_rfl
theorem yP10 : (Tryz.prog.globals[9]?).map (·.type) = some 214 := by kernel_rfl
theorem yTab : (Tryz.prog.globals[10]?).map (·.type) = some 220 := by kernel_rfl
theorem yChe : (Tryz.prog.globals[11]?).map (·.type) = some 228 := by kernel_rfl
theorem cU64 : Tryz.prog.cellsOf 22 = 1 := by kernel_rfl
theorem cInt : Tryz.prog.cellsOf 3 = 1 := by kernel_rfl
theorem cStr : Tryz.prog.cellsOf 9 = 1 := by kernel_rfl
theorem cP10 : Tryz.prog.cellsOf 214 = 20 := by kernel_rfl
theorem cPm : Tryz.prog.cellsOf 219 = 2 := by kernel_rfl
theorem cTab : Tryz.prog.cellsOf 220 = 1392 := by kernel_rfl
theorem cChe : Tryz.prog.cellsOf 227 = 2 := by kernel_rfl
theorem uPm : ∃ f0 f1 : Field, Tryz.prog.underlying 219 = some (.struct #[f0, f1]) ∧ f0.type = 22 ∧ f0.offset = 0 ∧ f1.type = 22 ∧ f1.offset = 1 := ⟨_, _, Tryz.underlying219, rfl, rfl, rfl, rfl⟩
theorem uChe : ∃ f0 f1 : Field, Tryz.prog.underlying 227 = some (.struct #[f0, f1]) ∧ f0.type = 3 ∧ f0.offset = 0 ∧ f1.type = 9 ∧ f1.offset = 1 := ⟨_, _, Tryz.underlying227, rfl, rfl, rfl, rfl⟩

theorem two_cells {w : World} {a : Addr} {cs : List Value} (h : w.cells? 0 a 2 = some cs) : w.cell? a = cs[0]? ∧ w.cell? (a.add 1) = cs[1]? ∧ cs.length = 2 := by
  have h3 := World.cells?_some h
  have h0 := h3.2.2 0 (by omega)
  have h1 := h3.2.2 1 (by omega)
  refine ⟨?_, ?_, ?_⟩
  · simpa [Addr.add] using h0
  · exact h1
  · exact h3.2.1

theorem addr_add (b o k : Nat) : (⟨b, o, none⟩ : Addr).add k = ⟨b, o + k, none⟩ := by
  unfold Addr.add
  split
  · subst_vars; rfl
  · rfl

/-- The tables, out of what the row lists. -/
theorem env_of_laid {W : World} (h : laidMet Tryz.prog laidAll W) : Env W.heap.size W := by
  obtain ⟨ps, ⟨g0, t0, cs0, f0, p0, q0, hg0, ht0, hv0, hd0, ⟨g1, t1, cs1, f1, p1, q1, hg1, ht1, hv1, hd1, ⟨g2, t2, cs2, f2, p2, q2, hg2, ht2, hv2, hd2, ⟨g3, t3, cs3, f3, p3, q3, hg3, ht3, hv3, hd3, ⟨g4, t4, cs4, f4, p4, q4, hg4, ht4, hv4, hd4, ⟨g5, t5, cs5, f5, p5, q5, hg5, ht5, hv5, hd5, _, _⟩, _⟩, _⟩, _⟩, _⟩, _⟩, _, _⟩ := h
  obtain rfl := Option.some.inj (gOpt.symm.trans hg2)
  obtain rfl := Option.some.inj (gP10.symm.trans hg3)
  obtain rfl := Option.some.inj (gChe.symm.trans hg4)
  obtain rfl := Option.some.inj (gTab.symm.trans hg5)
  obtain rfl := Option.some.inj (gDb.symm.trans hg1)
  obtain rfl := Option.some.inj (yOpt.symm.trans ht2)
  obtain rfl := Option.some.inj (yP10.symm.trans ht3)
  obtain rfl := Option.some.inj (yChe.symm.trans ht4)
  obtain rfl := Option.some.inj (yTab.symm.trans ht5)
  clear hd0 hd1
  have hsz : 4 < W.heap.size ∧ 9 < W.heap.size ∧ 10 < W.heap.size ∧ 11 < W.heap.size ∧ 13 < W.heap.size := by
    simp only [World.var?, hg1, Option.bind_some] at hv1
    split at hv1
    · rename_i hh
      have := (Array.getElem?_eq_some_iff.1 hh).1
      omega
    · cases hv1
  refine ⟨Nat.le_refl _, hsz, ?_, ?_, ?_, ?_⟩
  · -- powers of ten
    have e : (Rows.laid_internal_strconv_uint64pow10 : DataW Unit) = Lib.tabData .u64 ((List.range 20).map fun i => ((10 ^ i : Nat) : Int)) := by rfl
    have hd3' : DataW.trod (fun _ => ()) Tryz.prog W 0 (fun _ => true) false f3 214 cs3.toList = some (Lib.tabData .u64 ((List.range 20).map fun i => ((10 ^ i : Nat) : Int)), p3) := by rw [← e]; exact hd3
    have hc := Lib.cells_of_tab Tryz.underlying214 Tryz.underlying22 cU64 cP10 hd3'
    intro i hi
    have h1 := World.var?_cell hg3 hv3 i
    rw [h1, ← Array.getElem?_toList, hc, List.getElem?_map, List.getElem?_map, List.getElem?_range hi]
    rfl
  · -- the powers in 128 bits
    obtain ⟨xs, n, _, hx, hl, hn, hel⟩ := DataW.trod_array Tryz.underlying220 hd5
    have hxs : xs.map (·.1) = Go.Pinned.pow10Rows.map fun x => (.agg [.lit (.int .u64 x.1), .lit (.int .u64 x.2)] : DataW Unit) := by
      have := congrArg Prod.fst hx
      simp only [Rows.laid_internal_strconv_pow10Tab, Go.Pinned.pow10Tab, DataW.agg.injEq] at this
      exact this.symm
    obtain ⟨F0, F1, hu, hF0, hO0, hF1, hO1⟩ := uPm
    intro i hi
    have h1 := hel i hi
    rw [cPm] at h1
    have hxi : i < xs.length := by omega
    rw [List.getElem?_eq_getElem hxi] at h1
    obtain ⟨y0, y1, n2, hy, hl2, hz0, hz1⟩ := trod_struct2 hu h1
    rw [hF0, hO0, cU64] at hz0
    rw [hF1, hO1, cU64] at hz1
    obtain ⟨a, ha, ha', _⟩ := DataW.trod_int Tryz.underlying22 hz0
    obtain ⟨b, hb, hb', _⟩ := DataW.trod_int Tryz.underlying22 hz1
    have h2 := congrArg (fun l => l[i]?) hxs
    simp only [List.getElem?_map, List.getElem?_eq_getElem hxi, Option.map_some, hy, ha', hb'] at h2
    have hlr : i < Go.Pinned.pow10Rows.length := by
      have := congrArg List.length hxs
      simp only [List.length_map] at this
      omega
    rw [List.getElem?_eq_getElem hlr] at h2
    simp only [Option.map_some, Option.some.injEq, DataW.agg.injEq, List.cons.injEq, DataW.lit.injEq, Lit.int.injEq, true_and, and_true] at h2
    have hg : Go.Pinned.pow10Rows.getD i (0, 0) = Go.Pinned.pow10Rows[i] := by
      rw [List.getD_eq_getElem?_getD, List.getElem?_eq_getElem hlr]; rfl
    have c0 : cs5.toList[i * 2]? = some (.int .u64 a) := by
      have := congrArg (fun l => l[0]?) ha
      simpa [List.getElem?_take, List.getElem?_drop] using this
    have c1 : cs5.toList[i * 2 + 1]? = some (.int .u64 b) := by
      have := congrArg (fun l => l[0]?) hb
      simpa [List.getElem?_take, List.getElem?_drop] using this
    refine ⟨?_, ?_⟩
    · rw [World.var?_cell hg5 hv5, ← Array.getElem?_toList, c0, h2.1]
      unfold pmHi
      rw [hg]
    · rw [World.var?_cell hg5 hv5, ← Array.getElem?_toList, c1, h2.2]
      unfold pmLo
      rw [hg]
  · -- optimize
    obtain ⟨b, hb, hb'⟩ := DataW.trod_bool Tryz.underlying4 hd2
    have hbt : b = true := by
      have := congrArg Prod.fst hb'
      simp only [Rows.laid_internal_strconv_optimize, DataW.lit.injEq, Lit.bool.injEq] at this
      exact this.symm
    rw [World.var?_cell hg2 hv2, ← Array.getElem?_toList, hb, hbt]
    rfl
  · -- the cheat sheet
    rcases DataW.trod_slice Tryz.underlying228 hd4 with ⟨_, hx⟩ | ⟨a, len, cap, elems, rest, n, _, hcs, hx, hbk, hlc, hm, hlen, hel, hsp, _⟩
    · have := congrArg Prod.fst hx
      simp [Rows.laid_internal_strconv_leftcheats, Go.Pinned.leftcheats] at this
    have hx1 := congrArg Prod.fst hx
    simp only [Rows.laid_internal_strconv_leftcheats, Go.Pinned.leftcheats, DataW.slice.injEq] at hx1
    have hlr : Go.Pinned.cheatRows.length = 61 := by decide +kernel
    have hlen61 : len = 61 := by
      have := congrArg List.length hx1.1
      simp only [List.length_map] at this
      omega
    obtain ⟨F0, F1, hu, hF0, hO0, hF1, hO1⟩ := uChe
    have each : ∀ i, i < 61 → W.cell? (a.add (i * 2)) = some (.int .i64 (chN i : Int)) ∧ W.cell? ((a.add (i * 2)).add 1) = some (.string ⟨(chS i).toArray⟩) := by
      intro i hi
      have h1 := hel i (by omega)
      have hxi : i < elems.length := by omega
      rw [cChe, List.getElem?_eq_getElem hxi, Option.bind_eq_some_iff] at h1
      obtain ⟨cs', hcs', hy'⟩ := h1
      obtain ⟨k0, k1, k2⟩ := two_cells hcs'
      obtain ⟨y0, y1, n2, hy, hl2, hz0, hz1⟩ := trod_struct2 hu hy'
      rw [hF0, hO0, cInt] at hz0
      rw [hF1, hO1, cStr] at hz1
      obtain ⟨x, hx0, hx0', _⟩ := DataW.trod_int Tryz.underlying3 hz0
      obtain ⟨s, hs0, hs0', _⟩ := DataW.trod_string Tryz.underlying9 hz1
      have h2 := congrArg (fun l => l[i]?) hx1.1
      have hir : i < Go.Pinned.cheatRows.length := by omega
      simp only [List.getElem?_map, List.getElem?_eq_getElem hxi, List.getElem?_eq_getElem hir, Option.map_some, hy, hx0', hs0', Option.some.injEq, DataW.agg.injEq, List.cons.injEq, DataW.lit.injEq, Lit.int.injEq, Lit.string.injEq, true_and, and_true] at h2
      have hg : Go.Pinned.cheatRows.getD i (0, []) = Go.Pinned.cheatRows[i] := by
        rw [List.getD_eq_getElem?_getD, List.getElem?_eq_getElem hir]; rfl
      have e0 : cs'[0]? = some (.int .i64 x) := by
        have := congrArg (fun l => l[0]?) hx0
        simpa [List.getElem?_take, List.getElem?_drop] using this
      have e1 : cs'[1]? = some (.string s) := by
        have := congrArg (fun l => l[0]?) hs0
        simpa [List.getElem?_take, List.getElem?_drop] using this
      refine ⟨?_, ?_⟩
      · rw [k0, e0]
        unfold chN
        rw [hg, h2.1]
      · rw [k1, e1]
        unfold chS
        rw [hg, h2.2]
    obtain ⟨b, o, sp⟩ := a
    have h00 := (each 0 (by omega)).1
    have hspot : sp = none := by simpa [Addr.add] using World.cell?_spot h00
    subst hspot
    have hadd := addr_add b o
    have hbW : b < W.heap.size := by
      have := World.block_lt_of_cell? W _ h00
      rw [hadd] at this
      exact this
    have hcell : W.cell? ⟨11, 0, none⟩ = some (.slice (some ⟨b, o, none⟩) 61 cap) := by
      have h5 := World.var?_cell hg4 hv4 0
      have h6 : cs4[0]? = some (.slice (some ⟨b, o, none⟩) 61 cap) := by
        rw [← Array.getElem?_toList, hcs, ← hlen61]
        rfl
      exact h5.trans h6
    refine ⟨b, o, cap, hbW, by omega, hcell, fun i hi => ?_⟩
    have h3 := each i hi
    have e2 : ((⟨b, o, none⟩ : Addr).add (i * 2)).add 1 = ⟨b, o + i * 2 + 1, none⟩ := by
      rw [hadd]
      rfl
    rw [e2, hadd] at h3
    exact h3
end Go.Proofs.YticlnihjhcepkaaGreatDoor

/-
  A world for the witness: the settled one, the tables holding what the rows list.
-/
namespace Go.Proofs.YticlnihjhcepkaaGreatDoor
open Go.ChangeShapes Go.WideShapes Go.ChangeAt Go.RowKit
set_option linter.unusedSimpArgs false
set_option linter.unusedVariables false

def putCells (cs : Array Value) : Obj → Obj
  | .cells _ t frozen => .cells cs t frozen
  | o => o
def litCells : DataW Unit → List Value
  | .agg l => l.map fun
    | .lit (.int k n) => .int k n
    | _ => .bool false
  | _ => []
def pow10Cells : Array Value := (Go.Pinned.pow10Rows.flatMap fun x => [Value.int .u64 (x.1 : Int), Value.int .u64 (x.2 : Int)]).toArray
def cheatCells : Array Value := (Go.Pinned.cheatRows.flatMap fun x => [Value.int .i64 (x.1 : Int), Value.string ⟨x.2.toArray⟩]).toArray
noncomputable def baseW (os : Os) : World := World.holding Tryz.prog os ⟨#[], #[], []⟩
noncomputable def laidWorld (os : Os) : World :=
  { baseW os with heap := (((((((baseW os).heap.modify 4 (putCells #[.bool true])).modify 9 (putCells (litCells Rows.laid_internal_strconv_uint64pow10).toArray)).modify 10 (putCells pow10Cells)).modify
      11 (putCells #[.slice (some ⟨(baseW os).heap.size, 0, none⟩) 61 61])).modify 12 (putCells (litCells Rows.laid_math_bits_deBruijn32tab).toArray)).modify 13 (putCells (litCells Rows.laid_math_bits_deBruijn64tab).toArray)).push (.cells cheatCells 227 (0, 0)) }

def rowsOf : List (Nat × Nat) → List MemPlace
  | [] => []
  | (b, n) :: r => (List.range n).map (fun i => MemPlace.cell b i) ++ rowsOf r
theorem mem_rowsOf {l : List (Nat × Nat)} {x : MemPlace} (h : x ∈ rowsOf l) : ∃ b off, x = .cell b off ∧ b ∈ l.map (·.1) := by
  induction l with
  | nil => cases h
  | cons y r ih =>
    obtain ⟨b, n⟩ := y
    simp only [rowsOf, List.mem_append, List.mem_map] at h
    rcases h with ⟨i, _, rfl⟩ | h
    · exact ⟨b, i, rfl, by simp⟩
    · obtain ⟨b', o', rfl, hb⟩ := ih h
      exact ⟨b', o', rfl, by simp only [List.map_cons, List.mem_cons]; exact Or.inr hb⟩
theorem rowsOf_nodup : ∀ (l : List (Nat × Nat)), (l.map (·.1)).Nodup → (rowsOf l).Nodup
  | [], _ => List.nodup_nil
  | (b, n) :: r, h => by
    simp only [List.map_cons, List.nodup_cons] at h
    simp only [rowsOf]
    rw [List.nodup_append]
    refine ⟨?_, rowsOf_nodup r h.2, ?_⟩
    · rw [List.Nodup, List.pairwise_map]
      exact List.Pairwise.imp (fun hne e => hne (by cases e; rfl)) (List.nodup_range (n := n))
    · intro x hx y hy e
      subst e
      simp only [List.mem_map] at hx
      obtain ⟨i, _, rfl⟩ := hx
      obtain ⟨b', o', e, hb⟩ := mem_rowsOf hy
      cases e
      exact h.1 hb
def tabRows : List (Nat × Nat) := [(12, 32), (13, 64), (4, 1), (9, 20), (11, 1), (19, 122), (10, 1392)]
theorem row_eq (b n : Nat) : MemPlace.row ⟨b, 0, none⟩ n = (List.range n).map (fun i => MemPlace.cell b i) := by simp [MemPlace.row]

section
variable {α : Type} (f g : α → Value)
theorem flat2 : ∀ (l : List α) (i : Nat) (x : α), l[i]? = some x → ((l.flatMap fun x => [f x, g x]).drop (i * 2)).take 2 = [f x, g x]
  | [], i, x, h => by simp at h
  | y :: t, 0, x, h => by simp at h; subst h; simp
  | y :: t, i + 1, x, h => by
    simp only [List.getElem?_cons_succ] at h
    rw [List.flatMap_cons, show (i + 1) * 2 = i * 2 + 1 + 1 by omega]
    simp only [List.cons_append, List.nil_append, List.drop_succ_cons]
    exact flat2 t i x h
theorem flat2_length (l : List α) : (l.flatMap fun x => [f x, g x]).length = l.length * 2 := by
  induction l with
  | nil => rfl
  | cons y t ih => rw [List.flatMap_cons, List.length_append, ih, List.length_cons]; simp; omega
end

theorem rows_get {α β : Type} (l : List α) (d : α) (F : α → β) : ((List.range l.length).map fun i => F (l.getD i d)) = l.map F := by
  apply List.ext_getElem?
  intro i
  by_cases hi : i < l.length
  · simp [hi, List.getD]
  · simp [hi]

theorem pow10_wf : Go.Pinned.pow10Rows.all (fun x => (Lit.int .u64 (x.1 : Int)).wf && (Lit.int .u64 (x.2 : Int)).wf) = true := by decide +kernel
theorem pow10_len : Go.Pinned.pow10Rows.length = 696 := by decide +kernel
theorem cheat_wf : Go.Pinned.cheatRows.all (fun x => (Lit.int .i64 (x.1 : Int)).wf && decide (x.2.length ≤ 100)) = true := by decide +kernel
theorem cheat_len : Go.Pinned.cheatRows.length = 61 := by decide +kernel

theorem pm_reads {w : World} (hi lo : Nat) (h0 : (Lit.int .u64 (hi : Int)).wf = true) (h1 : (Lit.int .u64 (lo : Int)).wf = true) (n : Nat) :
    DataW.trod (fun _ => ()) Tryz.prog w 0 (fun _ => true) false (n + 2) 219 [.int .u64 hi, .int .u64 lo] = some (.agg [.lit (.int .u64 hi), .lit (.int .u64 lo)], []) := by
  obtain ⟨F0, F1, hu, hF0, hO0, hF1, hO1⟩ := uPm
  refine trod_struct2_mk (n := n + 1) (y0 := (.lit (.int .u64 hi), [])) (y1 := (.lit (.int .u64 lo), [])) hu (by rw [cPm]; rfl) ?_ ?_
  · rw [hF0, hO0, cU64]
    exact trod_int_mk n Tryz.underlying22 h0
  · rw [hF1, hO1, cU64]
    exact trod_int_mk n Tryz.underlying22 h1

theorem pow10_reads {w : World} : DataW.trod (fun _ => ()) Tryz.prog w 0 (fun _ => true) false 8 220 pow10Cells.toList = some (Rows.laid_internal_strconv_pow10Tab, []) := by
  have hl : pow10Cells.toList.length = 1392 := by
    unfold pow10Cells
    rw [List.toList_toArray, flat2_length (fun x : Nat × Nat => Value.int .u64 (x.1 : Int)) (fun x => Value.int .u64 (x.2 : Int)), pow10_len]
  have helem : ∀ i ∈ List.range 696, DataW.trod (fun _ => ()) Tryz.prog w 0 (fun _ => true) false 7 219 ((pow10Cells.toList.drop (i * 2)).take 2) = some ((fun i => ((.agg [.lit (.int .u64 ((Go.Pinned.pow10Rows.getD i (0, 0)).1 : Int)), .lit (.int .u64 ((Go.Pinned.pow10Rows.getD i (0, 0)).2 : Int))] : DataW Unit), ([] : List MemPlace))) i) := by
    intro i hi
    have hi' := List.mem_range.1 hi
    have hlt : i < Go.Pinned.pow10Rows.length := by rw [pow10_len]; exact hi'
    have hx : Go.Pinned.pow10Rows[i]? = some (Go.Pinned.pow10Rows.getD i (0, 0)) := by
      rw [List.getD_eq_getElem?_getD, List.getElem?_eq_getElem hlt]; rfl
    have hmem := List.mem_of_getElem? hx
    have hwf := List.all_eq_true.1 pow10_wf _ hmem
    rw [Bool.and_eq_true] at hwf
    unfold pow10Cells
    rw [List.toList_toArray, flat2 (fun x : Nat × Nat => Value.int .u64 (x.1 : Int)) (fun x => Value.int .u64 (x.2 : Int)) _ i _ hx]
    exact pm_reads _ _ hwf.1 hwf.2 5
  show DataW.trod _ _ _ _ _ _ (7 + 1) _ _ = _
  unfold DataW.trod
  simp only [Tryz.underlying220, cPm, cTab]
  rw [if_pos hl, Go.Lib.mapM_someR _ _ _ helem]
  simp only [Option.map_some, List.map_map, Function.comp_def]
  have := rows_get Go.Pinned.pow10Rows (0, 0) (fun x => (.agg [.lit (.int .u64 (x.1 : Int)), .lit (.int .u64 (x.2 : Int))] : DataW Unit))
  rw [pow10_len] at this
  rw [this]
  simp [Rows.laid_internal_strconv_pow10Tab, Go.Pinned.pow10Tab]

theorem che_reads {w : World} (x : Nat) (s : List UInt8) (h0 : (Lit.int .i64 (x : Int)).wf = true) (h1 : s.length ≤ 100) (n : Nat) :
    DataW.trod (fun _ => ()) Tryz.prog w 0 (fun _ => true) false (n + 2) 227 [.int .i64 x, .string ⟨s.toArray⟩] = some (.agg [.lit (.int .i64 x), .lit (.string s)], []) := by
  obtain ⟨F0, F1, hu, hF0, hO0, hF1, hO1⟩ := uChe
  refine trod_struct2_mk (n := n + 1) (y0 := (.lit (.int .i64 x), [])) (y1 := (.lit (.string s), [])) hu (by rw [cChe]; rfl) ?_ ?_
  · rw [hF0, hO0, cInt]
    exact trod_int_mk n Tryz.underlying3 h0
  · rw [hF1, hO1, cStr]
    have hs : (⟨s.toArray⟩ : ByteArray).size ≤ maxLen := by simp [ByteArray.size, maxLen]; omega
    simp [DataW.trod, Tryz.underlying9, hs]

theorem cheat_reads {w : World} {t : TypeId} {fz : Nat × Nat} (hb : w.heap[19]? = some (.cells cheatCells t fz)) : DataW.trod (fun _ => ()) Tryz.prog w 0 (fun _ => true) false 8 228 [.slice (some ⟨19, 0, none⟩) 61 61] = some (Rows.laid_internal_strconv_leftcheats, MemPlace.row ⟨19, 0, none⟩ 122) := by
  have helem : ∀ i ∈ List.range 61, (w.cells? 0 ((⟨19, 0, none⟩ : Addr).add (i * 2)) 2).bind (DataW.trod (fun _ => ()) Tryz.prog w 0 (fun _ => true) false 7 227) = some ((fun i => ((.agg [.lit (.int .i64 ((Go.Pinned.cheatRows.getD i (0, [])).1 : Int)), .lit (.string (Go.Pinned.cheatRows.getD i (0, [])).2)] : DataW Unit), ([] : List MemPlace))) i) := by
    intro i hi
    have hi' := List.mem_range.1 hi
    have hlt : i < Go.Pinned.cheatRows.length := by rw [cheat_len]; exact hi'
    have hx : Go.Pinned.cheatRows[i]? = some (Go.Pinned.cheatRows.getD i (0, [])) := by
      rw [List.getD_eq_getElem?_getD, List.getElem?_eq_getElem hlt]; rfl
    have hmem := List.mem_of_getElem? hx
    have hwf := List.all_eq_true.1 cheat_wf _ hmem
    rw [Bool.and_eq_true] at hwf
    have h2 := flat2 (fun x : Nat × List UInt8 => Value.int .i64 (x.1 : Int)) (fun x => Value.string ⟨x.2.toArray⟩) _ i _ hx
    have hc : w.cells? 0 ⟨19, i * 2, none⟩ 2 = some [Value.int .i64 ((Go.Pinned.cheatRows.getD i (0, [])).1 : Int), Value.string ⟨(Go.Pinned.cheatRows.getD i (0, [])).2.toArray⟩] := by
      refine cells?_of (Nat.zero_le _) rfl (fun j hj => ?_)
      have h3 : w.cell? ⟨19, i * 2 + j, none⟩ = cheatCells[i * 2 + j]? := by simp [World.cell?, hb]
      rw [h3]
      have h4 := congrArg (fun l => l[j]?) h2
      simp only [List.getElem?_take, List.getElem?_drop] at h4
      rw [if_pos hj] at h4
      unfold cheatCells
      rw [List.getElem?_toArray, h4]
    rw [addr_add, Nat.zero_add, hc, Option.bind_some]
    dsimp only
    generalize Go.Pinned.cheatRows.getD i (0, []) = x at hwf ⊢
    exact che_reads x.1 x.2 hwf.1 (of_decide_eq_true hwf.2) 5
  show DataW.trod _ _ _ _ _ _ (7 + 1) _ _ = _
  unfold DataW.trod
  simp only [Tryz.underlying228, cChe]
  rw [if_pos ⟨Nat.zero_le _, Nat.le_refl _, by simp [maxLen]⟩, Go.Lib.mapM_someR _ _ _ helem]
  have := rows_get Go.Pinned.cheatRows (0, []) (fun x => (.agg [.lit (.int .i64 (x.1 : Int)), .lit (.string x.2)] : DataW Unit))
  rw [cheat_len] at this
  simp only [Option.bind_some, Nat.sub_self, List.range_zero, List.mapM_nil, if_true, Option.pure_def, Option.map_some, List.map_map, Function.comp_def, List.length_map, List.length_range, List.length_nil, List.map_nil, List.append_nil]
  rw [this]
  simp [Rows.laid_internal_strconv_leftcheats, Go.Pinned.leftcheats]

section
variable (os : Os) (args : Array Value)
theorem v_db32 : ((laidWorld os).forCall (fun _ _ => 0) ⟨#[], args, []⟩).memory.var? Tryz.prog "math/bits.deBruijn32tab" = some (litCells Rows.laid_math_bits_deBruijn32tab).toArray := by kernel_rfl
theorem v_db64 : ((laidWorld os).forCall (fun _ _ => 0) ⟨#[], args, []⟩).memory.var? Tryz.prog "math/bits.deBruijn64tab" = some (litCells Rows.laid_math_bits_deBruijn64tab).toArray := by kernel_rfl
theorem v_opt : ((laidWorld os).forCall (fun _ _ => 0) ⟨#[], args, []⟩).memory.var? Tryz.prog "internal/strconv.optimize" = some #[.bool true] := by kernel_rfl
theorem v_p10 : ((laidWorld os).forCall (fun _ _ => 0) ⟨#[], args, []⟩).memory.var? Tryz.prog "internal/strconv.uint64pow10" = some (litCells Rows.laid_internal_strconv_uint64pow10).toArray := by kernel_rfl
theorem v_che : ((laidWorld os).forCall (fun _ _ => 0) ⟨#[], args, []⟩).memory.var? Tryz.prog "internal/strconv.leftcheats" = some #[.slice (some ⟨19, 0, none⟩) 61 61] := by kernel_rfl
theorem v_tab : ((laidWorld os).forCall (fun _ _ => 0) ⟨#[], args, []⟩).memory.var? Tryz.prog "internal/strconv.pow10Tab" = some pow10Cells := by kernel_rfl
theorem h_che : ((laidWorld os).forCall (fun _ _ => 0) ⟨#[], args, []⟩).memory.heap[19]? = some (.cells cheatCells 227 (0, 0)) := by kernel_rfl
end
theorem d_db32 {W : World} : DataW.trod (fun _ => ()) Tryz.prog W 0 (fun _ => true) false 8 183 (litCells Rows.laid_math_bits_deBruijn32tab).toArray.toList = some (Rows.laid_math_bits_deBruijn32tab, []) := by kernel_rfl
theorem d_db64 {W : World} : DataW.trod (fun _ => ()) Tryz.prog W 0 (fun _ => true) false 8 115 (litCells Rows.laid_math_bits_deBruijn64tab).toArray.toList = some (Rows.laid_math_bits_deBruijn64tab, []) := by kernel_rfl
theorem d_opt {W : World} : DataW.trod (fun _ => ()) Tryz.prog W 0 (fun _ => true) false 8 4 #[Value.bool true].toList = some (Rows.laid_internal_strconv_optimize, []) := by kernel_rfl
theorem d_p10 {W : World} : DataW.trod (fun _ => ()) Tryz.prog W 0 (fun _ => true) false 8 214 (litCells Rows.laid_internal_strconv_uint64pow10).toArray.toList = some (Rows.laid_internal_strconv_uint64pow10, []) := by kernel_rfl
theorem gDb32 : Tryz.prog.globalNamed "math/bits.deBruijn32tab" = some 12 := by kernel_rfl
theorem yDb32 : (Tryz.prog.globals[12]?).map (·.type) = some 183 := by kernel_rfl
theorem yDb64 : (Tryz.prog.globals[13]?).map (·.type) = some 115 := by kernel_rfl
theorem pow10_size : pow10Cells.size = 1392 := by
  unfold pow10Cells
  rw [List.size_toArray, flat2_length (fun x : Nat × Nat => Value.int .u64 (x.1 : Int)) (fun x => Value.int .u64 (x.2 : Int)), pow10_len]

theorem laid_vars (os : Os) (args : Array Value) : DataW.LaidVars Tryz.prog ((laidWorld os).forCall (fun _ _ => 0) ⟨#[], args, []⟩).memory laidAll (rowsOf tabRows) := by
  have h1 := v_db32 os args
  have h2 := v_db64 os args
  have h3 := v_opt os args
  have h4 := v_p10 os args
  have h5 := v_che os args
  have h6 := v_tab os args
  have h7 := h_che os args
  generalize ((laidWorld os).forCall (fun _ _ => 0) ⟨#[], args, []⟩).memory = W at *
  refine ⟨_, _, _, 8, _, rowsOf (tabRows.drop 1), gDb32, yDb32, h1, d_db32, ?_, ?_⟩
  · refine ⟨_, _, _, 8, _, rowsOf (tabRows.drop 2), gDb, yDb64, h2, d_db64, ?_, ?_⟩
    · refine ⟨_, _, _, 8, _, rowsOf (tabRows.drop 3), gOpt, yOpt, h3, d_opt, ?_, ?_⟩
      · refine ⟨_, _, _, 8, _, rowsOf (tabRows.drop 4), gP10, yP10, h4, d_p10, ?_, ?_⟩
        · refine ⟨_, _, _, 8, _, rowsOf (tabRows.drop 6), gChe, yChe, h5, cheat_reads h7, ?_, ?_⟩
          · refine ⟨_, _, _, 8, _, [], gTab, yTab, h6, pow10_reads, rfl, ?_⟩
            rw [row_eq, pow10_size]
            simp [tabRows, rowsOf]
          · rw [row_eq, row_eq]
            simp [tabRows, rowsOf]
        · rw [row_eq, show (litCells Rows.laid_internal_strconv_uint64pow10).toArray.size = 20 by rfl]
          simp [tabRows, rowsOf]
      · rw [row_eq]
        simp [tabRows, rowsOf]
    · rw [row_eq, show (litCells Rows.laid_math_bits_deBruijn64tab).toArray.size = 64 by rfl]
      simp [tabRows, rowsOf]
  · rw [row_eq, show (litCells Rows.laid_math_bits_deBruijn32tab).toArray.size = 32 by rfl]
    simp [tabRows, rowsOf]
section
variable (os : Os) (args : Array Value)
theorem b_db32 : ∃ t, ((laidWorld os).forCall (fun _ _ => 0) ⟨#[], args, []⟩).memory.heap[12]? = some (.cells (litCells Rows.laid_math_bits_deBruijn32tab).toArray t (0, 0)) := ⟨183, by kernel_rfl⟩
theorem b_db64 : ∃ t, ((laidWorld os).forCall (fun _ _ => 0) ⟨#[], args, []⟩).memory.heap[13]? = some (.cells (litCells Rows.laid_math_bits_deBruijn64tab).toArray t (0, 0)) := ⟨115, by kernel_rfl⟩
theorem b_opt : ∃ t, ((laidWorld os).forCall (fun _ _ => 0) ⟨#[], args, []⟩).memory.heap[4]? = some (.cells #[.bool true] t (0, 0)) := ⟨4, by kernel_rfl⟩
theorem b_p10 : ∃ t, ((laidWorld os).forCall (fun _ _ => 0) ⟨#[], args, []⟩).memory.heap[9]? = some (.cells (litCells Rows.laid_internal_strconv_uint64pow10).toArray t (0, 0)) := ⟨214, by kernel_rfl⟩
theorem b_che0 : ∃ t, ((laidWorld os).forCall (fun _ _ => 0) ⟨#[], args, []⟩).memory.heap[11]? = some (.cells #[.slice (some ⟨19, 0, none⟩) 61 61] t (0, 0)) := ⟨228, by kernel_rfl⟩
theorem b_tab : ∃ t, ((laidWorld os).forCall (fun _ _ => 0) ⟨#[], args, []⟩).memory.heap[10]? = some (.cells pow10Cells t (0, 0)) := ⟨220, by kernel_rfl⟩
end
theorem lit_plain (d : DataW Unit) (u : TypeId) (v : Value) : Value.iface u v ∉ litCells d := by
  unfold litCells
  intro h
  split at h
  · rw [List.mem_map] at h
    obtain ⟨x, _, hx⟩ := h
    split at hx <;> cases hx
  · cases h
theorem pow10_plain (u : TypeId) (v : Value) : Value.iface u v ∉ pow10Cells.toList := by
  unfold pow10Cells
  rw [List.toList_toArray, List.mem_flatMap]
  rintro ⟨x, _, hx⟩
  simp at hx
theorem cheat_plain (u : TypeId) (v : Value) : Value.iface u v ∉ cheatCells.toList := by
  unfold cheatCells
  rw [List.toList_toArray, List.mem_flatMap]
  rintro ⟨x, _, hx⟩
  simp at hx
theorem plain_ok {P : Program} {W : World} {b : Nat} {cs : Array Value} (hb : ∃ t, W.heap[b]? = some (.cells cs t (0, 0))) (hp : ∀ u v, Value.iface u v ∉ cs.toList) (off : Nat) :
    (∃ c t, W.heap[b]? = some (.cells c t (0, 0))) ∧ ∀ u v, W.cell? ⟨b, off, none⟩ = some (.iface u v) → Value.okWide P W .any 0 u v := by
  obtain ⟨t, hb⟩ := hb
  have hF : ∀ u v, W.cell? ⟨b, off, none⟩ = some (.iface u v) → False := by
    intro u v hc
    have hc' : W.cell? ⟨b, off, none⟩ = cs[off]? := by simp [World.cell?, hb]
    rw [hc', ← Array.getElem?_toList] at hc
    exact hp u v (List.mem_of_getElem? hc)
  exact ⟨⟨cs, t, hb⟩, fun u v hc => (hF u v hc).elim⟩
theorem laid_met (os : Os) (args : Array Value) : laidMet Tryz.prog laidAll ((laidWorld os).forCall (fun _ _ => 0) ⟨#[], args, []⟩).memory := by
  refine ⟨rowsOf tabRows, laid_vars os args, rowsOf_nodup _ (by decide), fun b off hp => ?_⟩
  obtain ⟨b', o', e, hb⟩ := mem_rowsOf hp
  clear hp
  obtain ⟨rfl, rfl⟩ : b = b' ∧ off = o' := by simpa using e
  have h1 := b_db32 os args
  have h2 := b_db64 os args
  have h3 := b_opt os args
  have h4 := b_p10 os args
  have h5 := b_che0 os args
  have h6 := b_tab os args
  have h7 := h_che os args
  generalize ((laidWorld os).forCall (fun _ _ => 0) ⟨#[], args, []⟩).memory = W at *
  simp only [tabRows, List.map_cons, List.map_nil, List.mem_cons, List.not_mem_nil, or_false] at hb
  rcases hb with h | h | h | h | h | h | h
  · rw [h]; exact plain_ok h1 (fun u v => by rw [List.toList_toArray]; exact lit_plain _ u v) off
  · rw [h]; exact plain_ok h2 (fun u v => by rw [List.toList_toArray]; exact lit_plain _ u v) off
  · rw [h]; exact plain_ok h3 (fun u v => by simp) off
  · rw [h]; exact plain_ok h4 (fun u v => by rw [List.toList_toArray]; exact lit_plain _ u v) off
  · rw [h]; exact plain_ok h5 (fun u v => by simp) off
  · rw [h]; exact plain_ok ⟨_, h7⟩ cheat_plain off
  · rw [h]; exact plain_ok h6 pow10_plain off
end Go.Proofs.YticlnihjhcepkaaGreatDoor

/-
  The witness world: its variables are well formed.
-/
namespace Go.Proofs.YticlnihjhcepkaaGreatDoor
open Go.ChangeShapes Go.WideShapes Go.ChangeAt Go.RowKit
set_option linter.unusedSimpArgs false
set_option linter.unusedVariables false

theorem types_tab : Tryz.prog.cellTypes Tryz.prog.depth 220 = some (List.replicate 1392 22) := by kernel_rfl
theorem pow10_cell (v : Value) (h : v ∈ pow10Cells.toList) : ∃ n : Int, v = .int .u64 n ∧ (Lit.int .u64 n).wf = true := by
  unfold pow10Cells at h
  rw [List.toList_toArray, List.mem_flatMap] at h
  obtain ⟨x, hx, hv⟩ := h
  have hwf := List.all_eq_true.1 pow10_wf _ hx
  rw [Bool.and_eq_true] at hwf
  simp only [List.mem_cons, List.not_mem_nil, or_false] at hv
  rcases hv with rfl | rfl
  · exact ⟨_, rfl, hwf.1⟩
  · exact ⟨_, rfl, hwf.2⟩
theorem okRef_tab (W : World) : Row.okRefB Tryz.prog W 220 pow10Cells = true := by
  unfold Row.okRefB
  rw [types_tab]
  dsimp only
  rw [pow10_size, List.length_replicate, Bool.and_eq_true]
  refine ⟨by decide, ?_⟩
  rw [List.all_eq_true]
  intro i hi
  have hi' := List.mem_range.1 hi
  have hlt : i < pow10Cells.size := by rw [pow10_size]; exact hi'
  rw [Nat.mod_eq_of_lt hi', List.getElem?_replicate, if_pos hi', Array.getElem?_eq_getElem hlt]
  obtain ⟨n, hn, hw⟩ := pow10_cell pow10Cells[i] (by rw [Array.mem_toList_iff]; exact Array.getElem_mem hlt)
  rw [hn]
  dsimp only
  simp only [Lit.wf, Bool.and_eq_true, decide_eq_true_eq] at hw
  simp [Cell.okRefB, Cell.okB, Tryz.underlying22, hw]

theorem zero_tab : ((begin Tryz.prog (fun _ _ => 0) default).world.heap[10]?.bind Obj.row?).map (fun x => (x.1.size, x.2)) = some (1392, 220) := by kernel_rfl

theorem heap_tab (os : Os) (args : Array Value) : ((laidWorld os).forCall (fun _ _ => 0) ⟨#[], args, []⟩).heap[10]? = some (.cells pow10Cells 220 (0, 0)) := by kernel_rfl

theorem vars_ok (os : Os) (args : Array Value) : ((laidWorld os).forCall (fun _ _ => 0) ⟨#[], args, []⟩).variablesRefB Tryz.prog = true := by
  unfold World.variablesRefB
  rw [show Tryz.prog.globals.size = 14 by kernel_rfl, show List.range 14 = [0, 1, 2, 3, 4, 5, 6, 7, 8, 9, 10, 11, 12, 13] by rfl]
  simp only [List.all_cons, List.all_nil, Bool.and_true, Bool.and_eq_true]
  refine ⟨by kernel_rfl, by kernel_rfl, by kernel_rfl, by kernel_rfl, by kernel_rfl, by kernel_rfl, by kernel_rfl, by kernel_rfl, by kernel_rfl, by kernel_rfl, ?_, by kernel_rfl, by kernel_rfl, by kernel_rfl⟩
  have hz := zero_tab
  rw [heap_tab os args]
  cases h : ((begin Tryz.prog (fun _ _ => 0) default).world.heap[10]?).bind Obj.row? with
  | none => rfl
  | some x =>
    rw [h] at hz
    obtain ⟨z, t⟩ := x
    simp only [Option.map_some, Option.some.injEq, Prod.mk.injEq] at hz
    obtain ⟨hz1, rfl⟩ := hz
    dsimp only
    rw [okRef_tab, hz1, pow10_size]
    simp
end Go.Proofs.YticlnihjhcepkaaGreatDoor

/-
  From the walk of a law to its row.
-/
namespace Go.Proofs.YticlnihjhcepkaaGreatDoor
open Go.ChangeShapes Go.WideShapes Go.ChangeAt Go.RowKit
set_option linter.unusedSimpArgs false
set_option linter.unusedVariables false

theorem ownK : ownKnob Tryz.prog.godebug = none := by kernel_rfl

theorem env_of_laidH {W : World} (h : laidMetH Tryz.prog laidAll W) : Env W.heap.size W := by
  rw [MakeChecks.laidMetH_plain _ _ _ (by kernel_rfl)] at h
  exact env_of_laid h
theorem laid_metH (os : Os) (args : Array Value) : laidMetH Tryz.prog laidAll ((laidWorld os).forCall (fun _ _ => 0) ⟨#[], args, []⟩).memory := by
  rw [MakeChecks.laidMetH_plain _ _ _ (by kernel_rfl)]
  exact laid_met os args

theorem kept_of_grown {w w' : World} (h : w.grownBy w' none) (may : MemPlace → Prop) : w.keptBut w' may := by
  refine ⟨h.os, h.output, fun i hi => ?_⟩
  rw [h.block i hi (by simp)]
  cases w.heap[i]? with
  | none => rfl
  | some o =>
    cases o with
    | cells c t fr => exact ⟨rfl, rfl, rfl, fun _ _ => rfl⟩
    | map es clock => exact Or.inr ⟨rfl, rfl⟩
    | _ => rfl

/-- A law whose arguments read behind the call as they did. -/
theorem post_true {H : Type} {enc : TypeId × Value → H} {f : Func} {s : ChangeSpec} {W W' : World} {args : Array Value} {ds : List (DataW H)} {p : List MemPlace}
    (hv : s.vars = []) (hr : f.resultTypes = #[4]) (hfn : s.fn H ds = { results := [.lit (.bool true)], args := ds })
    (hW : DataW.Whole enc Tryz.prog f.params.toList s.vars false W args.toList ds [] p)
    (hargs : ∀ sp : Nat → Bool, DataW.TrodAll enc Tryz.prog W' 0 sp true f.params.toList args.toList ds p) (hg : W.grownBy W' none) :
    s.post enc Tryz.prog f false true false false W args (.bool true) W' := by
  refine ⟨ds, [], p, [], p, [], hW, ?_, ?_, ?_, kept_of_grown hg _, fun h => by cases h⟩
  · rw [List.append_nil, hfn, hr]
    exact trodAll_cons_mk (shut_bool Tryz.underlying4 _) trodAll_mk0
  · rw [List.append_nil, hfn]
    exact hargs _
  · rw [List.append_nil, hfn, hv]
    rfl
end Go.Proofs.YticlnihjhcepkaaGreatDoor

/-
  Plain: a finite number of 32 bits goes to 64 bits and back unchanged.
-/
namespace Go.Proofs.YticlnihjhcepkaaGreatDoor.Wd
open Ieee
set_option linter.unusedSimpArgs false
set_option linter.unusedVariables false

theorem cut_exact (neg : Bool) (n t : Nat) (ht : t ≤ n.log2 + 2) (h : n % 2 ^ t = 0) : Toward.even.cut neg n t = n / 2 ^ t := by
  unfold Toward.cut
  have h1 : min t (n.log2 + 2) = t := by omega
  have h2 : (1 : Nat) <<< t = 2 ^ t := by rw [Nat.shiftLeft_eq, Nat.one_mul]
  have p : 0 < 2 ^ t := Nat.pow_pos (by omega)
  simp only [h1, h2, h]
  have h3 : ¬ 2 ^ t < 2 * 0 := by omega
  have h4 : (2 ^ t == 2 * 0) = false := by rw [beq_eq_false_iff_ne]; omega
  simp [h3, h4]

/-- A number of 32 bits as one of 64 bits. -/
theorem widen (neg : Bool) (mag : Nat) (place : Int) (h0 : mag ≠ 0) (h1 : mag < 2 ^ 24) (h2 : -149 ≤ place) (h3 : place ≤ 104) :
    double.nearest neg mag place = double.word neg ((place + mag.log2 + 1022).toNat * 2 ^ 52 + mag * 2 ^ (52 - mag.log2)) ∧
    mag.log2 ≤ 23 ∧ 2 ^ 52 ≤ mag * 2 ^ (52 - mag.log2) ∧ mag * 2 ^ (52 - mag.log2) < 2 ^ 53 := by
  have hl : mag.log2 ≤ 23 := by
    have := (Nat.log2_lt h0 (k := 24)).2 h1
    omega
  have hlo : 2 ^ mag.log2 ≤ mag := Nat.log2_self_le h0
  have hhi : mag < 2 ^ (mag.log2 + 1) := Nat.lt_log2_self
  have p : 0 < 2 ^ (52 - mag.log2) := Nat.pow_pos (by omega)
  have k1 : 2 ^ 52 ≤ mag * 2 ^ (52 - mag.log2) := by
    have := Nat.mul_le_mul_right (2 ^ (52 - mag.log2)) hlo
    rw [← Nat.pow_add, show mag.log2 + (52 - mag.log2) = 52 by omega] at this
    exact this
  have k2 : mag * 2 ^ (52 - mag.log2) < 2 ^ 53 := by
    have := Nat.mul_lt_mul_of_pos_right hhi p
    rw [← Nat.pow_add, show mag.log2 + 1 + (52 - mag.log2) = 53 by omega] at this
    exact this
  refine ⟨?_, hl, k1, k2⟩
  unfold Format.nearest
  rw [if_neg h0]
  have lp : double.leastPlace = -1074 := by decide
  have fb : double.fractionBits = 52 := rfl
  have bn : double.binade = 2 ^ 52 := rfl
  have hlast : max (place + mag.log2 - (double.fractionBits : Int)) double.leastPlace = place + mag.log2 - 52 := by rw [lp, fb]; omega
  simp only [hlast]
  simp only [lp, bn]
  have e1 : (place - (place + (mag.log2 : Int) - 52)).toNat = 52 - mag.log2 := by omega
  have e2 : (place + (mag.log2 : Int) - 52 - place).toNat = 0 := by omega
  have e3 : (place + (mag.log2 : Int) - 52 - -1074).toNat = (place + mag.log2 + 1022).toNat := by omega
  rw [e1, e2, e3, Nat.shiftLeft_eq, cut_exact neg _ 0 (by omega) (by simp [Nat.mod_one]), Nat.pow_zero, Nat.div_one]
  have inf : double.infRung = 9218868437227405312 := rfl
  rw [inf, Nat.min_eq_left]
  have hE : (place + (mag.log2 : Int) + 1022).toNat ≤ 2045 := by omega
  generalize (place + (mag.log2 : Int) + 1022).toNat = E at hE ⊢
  generalize mag * 2 ^ (52 - mag.log2) = K at k2 ⊢
  omega

theorem read_double (neg : Bool) (E K : Nat) (hE : E ≤ 2045) (k1 : 2 ^ 52 ≤ K) (k2 : K < 2 ^ 53) : double.read (double.word neg (E * 2 ^ 52 + K)) = .number neg K (-1074 + (E : Int)) := by
  have sw : double.signWeight = 2 ^ 63 := rfl
  have bn : double.binade = 2 ^ 52 := rfl
  have inf : double.infRung = 2047 * 2 ^ 52 := by decide
  have lp : double.leastPlace = -1074 := by decide
  have hr : E * 2 ^ 52 + K < 2 ^ 63 := by omega
  have hmod : double.word neg (E * 2 ^ 52 + K) % 2 ^ 63 = E * 2 ^ 52 + K := by
    unfold Format.word; rw [sw]; cases neg
    · simp only [Bool.false_eq_true, if_false]; omega
    · simp only [if_true]; omega
  have hdiv : (double.word neg (E * 2 ^ 52 + K) / 2 ^ 63 % 2 == 1) = neg := by
    unfold Format.word; rw [sw]; cases neg
    · simp only [Bool.false_eq_true, if_false]
      rw [beq_eq_false_iff_ne]; omega
    · simp only [if_true]
      rw [beq_iff_eq]; omega
  unfold Format.read
  simp only [sw, bn, inf, lp, hmod, hdiv]
  rw [if_neg (by omega), if_pos (by omega)]
  congr 1
  · omega
  · omega

theorem word_lt (neg : Bool) (E K : Nat) (hE : E ≤ 2045) (k2 : K < 2 ^ 53) : double.word neg (E * 2 ^ 52 + K) < 2 ^ 64 := by
  unfold Format.word
  rw [show double.signWeight = 2 ^ 63 by rfl]
  split <;> omega

/-- .. and back. -/
theorem narrow (neg : Bool) (mag : Nat) (place : Int) (h0 : mag ≠ 0) (hl : mag.log2 ≤ 23) (h2 : -149 ≤ place) (h3 : place ≤ 104) (h4 : mag.log2 = 23 ∨ place = -149) :
    single.nearest neg (mag * 2 ^ (52 - mag.log2)) (place + mag.log2 - 52) = single.word neg ((place + 149).toNat * 2 ^ 23 + mag) := by
  have hlo : 2 ^ mag.log2 ≤ mag := Nat.log2_self_le h0
  have hhi : mag < 2 ^ (mag.log2 + 1) := Nat.lt_log2_self
  have p : 0 < 2 ^ (52 - mag.log2) := Nat.pow_pos (by omega)
  have k1 : 2 ^ 52 ≤ mag * 2 ^ (52 - mag.log2) := by
    have := Nat.mul_le_mul_right (2 ^ (52 - mag.log2)) hlo
    rw [← Nat.pow_add, show mag.log2 + (52 - mag.log2) = 52 by omega] at this
    exact this
  have k2 : mag * 2 ^ (52 - mag.log2) < 2 ^ 53 := by
    have := Nat.mul_lt_mul_of_pos_right hhi p
    rw [← Nat.pow_add, show mag.log2 + 1 + (52 - mag.log2) = 53 by omega] at this
    exact this
  have hm24 : mag < 2 ^ 24 := Nat.lt_of_lt_of_le hhi (Nat.pow_le_pow_right (by omega) (by omega))
  have hK0 : mag * 2 ^ (52 - mag.log2) ≠ 0 := by omega
  have hlog : (mag * 2 ^ (52 - mag.log2)).log2 = 52 := by
    rw [Nat.log2_eq_iff hK0]; exact ⟨k1, k2⟩
  unfold Format.nearest
  rw [if_neg hK0]
  have lp : single.leastPlace = -149 := by decide
  have fb : single.fractionBits = 23 := rfl
  have bn : single.binade = 2 ^ 23 := rfl
  have inf : single.infRung = 2139095040 := rfl
  have hlast : max (place + (mag.log2 : Int) - 52 + ((mag * 2 ^ (52 - mag.log2)).log2 : Int) - (single.fractionBits : Int)) single.leastPlace = place := by
    rw [hlog, lp, fb]; omega
  simp only [hlast]
  simp only [lp, bn]
  have e1 : (place + (mag.log2 : Int) - 52 - place).toNat = 0 := by omega
  have e2 : (place - (place + (mag.log2 : Int) - 52)).toNat = 52 - mag.log2 := by omega
  have e3 : (place - -149).toNat = (place + 149).toNat := by omega
  rw [e1, e2, e3, Nat.shiftLeft_eq, Nat.pow_zero, Nat.mul_one, cut_exact neg _ _ (by rw [hlog]; omega) (Nat.mul_mod_left _ _), Nat.mul_div_cancel _ p]
  rw [inf, Nat.min_eq_left]
  have hE : (place + 149).toNat ≤ 253 := by omega
  generalize (place + 149).toNat = E at hE ⊢
  omega

/-- A finite number of 32 bits goes to 64 bits and back. -/
theorem widen_back (b : Nat) (hb : b < 4294967296) (hf : b % 2147483648 < 2139095040) : ∃ r, r < 18446744073709551616 ∧ floatToFloatBits .f32 b .f64 = some r ∧ floatToFloatBits .f64 r .f32 = some b := by
  obtain ⟨neg, hneg⟩ : ∃ neg, (b / 2147483648 % 2 == 1) = neg := ⟨_, rfl⟩
  obtain ⟨q, hq⟩ : ∃ q, b % 2147483648 = q := ⟨_, rfl⟩
  have hbq : single.word neg q = b := by
    unfold Format.word
    rw [show single.signWeight = 2147483648 by rfl]
    cases neg
    · simp only [Bool.false_eq_true, if_false]
      rw [beq_eq_false_iff_ne] at hneg
      omega
    · simp only [if_true]
      rw [beq_iff_eq] at hneg
      omega
  -- what b reads as
  obtain ⟨mag, place, hread, hm, hp1, hp2, hlog, hzero, hback⟩ : ∃ (mag : Nat) (place : Int), single.read b = .number neg mag place ∧ mag < 2 ^ 24 ∧ -149 ≤ place ∧ place ≤ 104 ∧ (mag ≠ 0 → mag.log2 = 23 ∨ place = -149) ∧ (q = 0 ∨ mag ≠ 0) ∧ (place + 149).toNat * 2 ^ 23 + mag = q := by
    have sw : single.signWeight = 2147483648 := rfl
    have bn : single.binade = 8388608 := rfl
    have inf : single.infRung = 2139095040 := by decide
    have lp : single.leastPlace = -149 := by decide
    unfold Format.read
    simp only [sw, bn, inf, lp, hneg, hq]
    by_cases h1 : q < 8388608
    · rw [if_pos h1]
      exact ⟨q, -149, rfl, by omega, by omega, by omega, fun _ => Or.inr rfl, by omega, by simp⟩
    · rw [if_neg h1, if_pos (by omega)]
      refine ⟨_, _, rfl, by omega, by omega, by omega, fun hne => Or.inl ?_, by omega, by omega⟩
      rw [Nat.log2_eq_iff hne]
      omega
  have hcl : single.read b = .number neg mag place := hread
  by_cases h0 : mag = 0
  · subst h0
    have hz : q = 0 := by
      rcases hzero with h | h
      · exact h
      · exact absurd rfl h
    refine ⟨double.word neg 0, by unfold Format.word; rw [show double.signWeight = 2 ^ 63 by rfl]; split <;> omega, ?_, ?_⟩
    · have hr : double.read (double.word neg 0) = .number neg 0 (-1074) := by cases neg <;> decide
      have hw : FloatKind.encode .f64 (.number neg 0 place) = double.word neg 0 := by
        show double.nearest neg 0 place = _
        unfold Format.nearest; rw [if_pos rfl]
      unfold floatToFloatBits
      rw [if_neg (by decide), show FloatKind.decode .f32 b = .number neg 0 place from hread]
      dsimp only
      rw [hw, show FloatKind.decode .f64 (double.word neg 0) = .number neg 0 (-1074) from hr]
      rfl
    · have hr : double.read (double.word neg 0) = .number neg 0 (-1074) := by cases neg <;> decide
      have hw : FloatKind.encode .f32 (.number neg 0 (-1074)) = b := by
        show single.nearest neg 0 (-1074) = _
        unfold Format.nearest; rw [if_pos rfl, ← hbq, hz]
      unfold floatToFloatBits
      rw [if_neg (by decide), show FloatKind.decode .f64 (double.word neg 0) = .number neg 0 (-1074) from hr]
      dsimp only
      rw [hw, show FloatKind.decode .f32 b = .number neg 0 place from hread]
      rfl
  · obtain ⟨hw, hl, k1, k2⟩ := widen neg mag place h0 hm hp1 hp2
    have hE : (place + (mag.log2 : Int) + 1022).toNat ≤ 2045 := by omega
    have hrd := read_double neg _ _ hE k1 k2
    have hpl : -1074 + (((place + (mag.log2 : Int) + 1022).toNat : Nat) : Int) = place + mag.log2 - 52 := by omega
    rw [hpl] at hrd
    refine ⟨_, word_lt neg _ _ hE k2, ?_, ?_⟩
    · unfold floatToFloatBits
      rw [if_neg (by decide), show FloatKind.decode .f32 b = .number neg mag place from hread]
      dsimp only
      rw [show FloatKind.encode .f64 (.number neg mag place) = _ from hw, show FloatKind.decode .f64 (double.word neg ((place + (mag.log2 : Int) + 1022).toNat * 2 ^ 52 + mag * 2 ^ (52 - mag.log2))) = _ from hrd]
      rfl
    · have hn := narrow neg mag place h0 hl hp1 hp2 (hlog h0)
      rw [hback, hbq] at hn
      unfold floatToFloatBits
      rw [if_neg (by decide), show FloatKind.decode .f64 (double.word neg ((place + (mag.log2 : Int) + 1022).toNat * 2 ^ 52 + mag * 2 ^ (52 - mag.log2))) = _ from hrd]
      dsimp only
      rw [show FloatKind.encode .f32 (.number neg (mag * 2 ^ (52 - mag.log2)) (place + mag.log2 - 52)) = b from hn, show FloatKind.decode .f32 b = .number neg mag place from hread]
      rfl
end Go.Proofs.YticlnihjhcepkaaGreatDoor.Wd
