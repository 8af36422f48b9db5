/-
  A world for the witness: the settled one, the tables holding what the rows list.
-/
import Derived.Test.YtffooimnioigdaaDoorRw0
import Derived.Lib.LaidRTab
namespace Go.Proofs.YtffooimnioigdaaDoor
open Go.ChangeShapes Go.WideShapes Go.ChangeAt Go.RowKit
set_option linter.unusedSimpArgs false
set_option linter.unusedVariables false

def putCells (cs : Array Value) : Obj → Obj
  | .cells _ t frozen => .cells cs t frozen
  | o => o
def litCells : DataW Unit → List Value
  | .agg l => l.map fun
    | .lit (.int k n) => .int k n
    | _ => .bool false
  | _ => []
def pow10Cells : Array Value := (Go.Pinned.pow10Rows.flatMap fun x => [Value.int .u64 (x.1 : Int), Value.int .u64 (x.2 : Int)]).toArray
def cheatCells : Array Value := (Go.Pinned.cheatRows.flatMap fun x => [Value.int .i64 (x.1 : Int), Value.string ⟨x.2.toArray⟩]).toArray
noncomputable def baseW (os : Os) : World := World.holding Tryd.prog os ⟨#[], #[], []⟩
noncomputable def laidWorld (os : Os) : World :=
  { baseW os with heap := (((((((baseW os).heap.modify 1 (putCells #[.bool true])).modify 2 (putCells (litCells Rows.laid_internal_strconv_uint64pow10).toArray)).modify 3 (putCells pow10Cells)).modify
      4 (putCells #[.slice (some ⟨(baseW os).heap.size, 0, none⟩) 61 61])).modify 5 (putCells (litCells Rows.laid_math_bits_deBruijn32tab).toArray)).modify 6 (putCells (litCells Rows.laid_math_bits_deBruijn64tab).toArray)).push (.cells cheatCells 107 (0, 0)) }

def rowsOf : List (Nat × Nat) → List MemPlace
  | [] => []
  | (b, n) :: r => (List.range n).map (fun i => MemPlace.cell b i) ++ rowsOf r
theorem mem_rowsOf {l : List (Nat × Nat)} {x : MemPlace} (h : x ∈ rowsOf l) : ∃ b off, x = .cell b off ∧ b ∈ l.map (·.1) := by
  induction l with
  | nil => cases h
  | cons y r ih =>
    obtain ⟨b, n⟩ := y
    simp only [rowsOf, List.mem_append, List.mem_map] at h
    rcases h with ⟨i, _, rfl⟩ | h
    · exact ⟨b, i, rfl, by simp⟩
    · obtain ⟨b', o', rfl, hb⟩ := ih h
      exact ⟨b', o', rfl, by simp only [List.map_cons, List.mem_cons]; exact Or.inr hb⟩
theorem rowsOf_nodup : ∀ (l : List (Nat × Nat)), (l.map (·.1)).Nodup → (rowsOf l).Nodup
  | [], _ => List.nodup_nil
  | (b, n) :: r, h => by
    simp only [List.map_cons, List.nodup_cons] at h
    simp only [rowsOf]
    rw [List.nodup_append]
    refine ⟨?_, rowsOf_nodup r h.2, ?_⟩
    · rw [List.Nodup, List.pairwise_map]
      exact List.Pairwise.imp (fun hne e => hne (by cases e; rfl)) (List.nodup_range (n := n))
    · intro x hx y hy e
      subst e
      simp only [List.mem_map] at hx
      obtain ⟨i, _, rfl⟩ := hx
      obtain ⟨b', o', e, hb⟩ := mem_rowsOf hy
      cases e
      exact h.1 hb
def tabRows : List (Nat × Nat) := [(5, 32), (6, 64), (1, 1), (2, 20), (4, 1), (12, 122), (3, 1392)]
theorem row_eq (b n : Nat) : MemPlace.row ⟨b, 0, none⟩ n = (List.range n).map (fun i => MemPlace.cell b i) := by simp [MemPlace.row]

section
variable {α : Type} (f g : α → Value)
theorem flat2 : ∀ (l : List α) (i : Nat) (x : α), l[i]? = some x → ((l.flatMap fun x => [f x, g x]).drop (i * 2)).take 2 = [f x, g x]
  | [], i, x, h => by simp at h
  | y :: t, 0, x, h => by simp at h; subst h; simp
  | y :: t, i + 1, x, h => by
    simp only [List.getElem?_cons_succ] at h
    rw [List.flatMap_cons, show (i + 1) * 2 = i * 2 + 1 + 1 by omega]
    simp only [List.cons_append, List.nil_append, List.drop_succ_cons]
    exact flat2 t i x h
theorem flat2_length (l : List α) : (l.flatMap fun x => [f x, g x]).length = l.length * 2 := by
  induction l with
  | nil => rfl
  | cons y t ih => rw [List.flatMap_cons, List.length_append, ih, List.length_cons]; simp; omega
end

theorem rows_get {α β : Type} (l : List α) (d : α) (F : α → β) : ((List.range l.length).map fun i => F (l.getD i d)) = l.map F := by
  apply List.ext_getElem?
  intro i
  by_cases hi : i < l.length
  · simp [hi, List.getD]
  · simp [hi]

theorem pow10_wf : Go.Pinned.pow10Rows.all (fun x => (Lit.int .u64 (x.1 : Int)).wf && (Lit.int .u64 (x.2 : Int)).wf) = true := by decide +kernel
theorem pow10_len : Go.Pinned.pow10Rows.length = 696 := by decide +kernel
theorem cheat_wf : Go.Pinned.cheatRows.all (fun x => (Lit.int .i64 (x.1 : Int)).wf && decide (x.2.length ≤ 100)) = true := by decide +kernel
theorem cheat_len : Go.Pinned.cheatRows.length = 61 := by decide +kernel

theorem pm_reads {w : World} (hi lo : Nat) (h0 : (Lit.int .u64 (hi : Int)).wf = true) (h1 : (Lit.int .u64 (lo : Int)).wf = true) (n : Nat) :
    DataW.trod (fun _ => ()) Tryd.prog w 0 (fun _ => true) false (n + 2) 100 [.int .u64 hi, .int .u64 lo] = some (.agg [.lit (.int .u64 hi), .lit (.int .u64 lo)], []) := by
  obtain ⟨F0, F1, hu, hF0, hO0, hF1, hO1⟩ := uPm
  refine trod_struct2_mk (n := n + 1) (y0 := (.lit (.int .u64 hi), [])) (y1 := (.lit (.int .u64 lo), [])) hu (by rw [cPm]; rfl) ?_ ?_
  · rw [hF0, hO0, cU64]
    exact trod_int_mk n Tryd.underlying24 h0
  · rw [hF1, hO1, cU64]
    exact trod_int_mk n Tryd.underlying24 h1

theorem pow10_reads {w : World} : DataW.trod (fun _ => ()) Tryd.prog w 0 (fun _ => true) false 8 101 pow10Cells.toList = some (Rows.laid_internal_strconv_pow10Tab, []) := by
  have hl : pow10Cells.toList.length = 1392 := by
    unfold pow10Cells
    rw [List.toList_toArray, flat2_length (fun x : Nat × Nat => Value.int .u64 (x.1 : Int)) (fun x => Value.int .u64 (x.2 : Int)), pow10_len]
  have helem : ∀ i ∈ List.range 696, DataW.trod (fun _ => ()) Tryd.prog w 0 (fun _ => true) false 7 100 ((pow10Cells.toList.drop (i * 2)).take 2) = some ((fun i => ((.agg [.lit (.int .u64 ((Go.Pinned.pow10Rows.getD i (0, 0)).1 : Int)), .lit (.int .u64 ((Go.Pinned.pow10Rows.getD i (0, 0)).2 : Int))] : DataW Unit), ([] : List MemPlace))) i) := by
    intro i hi
    have hi' := List.mem_range.1 hi
    have hlt : i < Go.Pinned.pow10Rows.length := by rw [pow10_len]; exact hi'
    have hx : Go.Pinned.pow10Rows[i]? = some (Go.Pinned.pow10Rows.getD i (0, 0)) := by
      rw [List.getD_eq_getElem?_getD, List.getElem?_eq_getElem hlt]; rfl
    have hmem := List.mem_of_getElem? hx
    have hwf := List.all_eq_true.1 pow10_wf _ hmem
    rw [Bool.and_eq_true] at hwf
    unfold pow10Cells
    rw [List.toList_toArray, flat2 (fun x : Nat × Nat => Value.int .u64 (x.1 : Int)) (fun x => Value.int .u64 (x.2 : Int)) _ i _ hx]
    exact pm_reads _ _ hwf.1 hwf.2 5
  show DataW.trod _ _ _ _ _ _ (7 + 1) _ _ = _
  unfold DataW.trod
  simp only [Tryd.underlying101, cPm, cTab]
  rw [if_pos hl, Go.Lib.mapM_someR _ _ _ helem]
  simp only [Option.map_some, List.map_map, Function.comp_def]
  have := rows_get Go.Pinned.pow10Rows (0, 0) (fun x => (.agg [.lit (.int .u64 (x.1 : Int)), .lit (.int .u64 (x.2 : Int))] : DataW Unit))
  rw [pow10_len] at this
  rw [this]
  simp [Rows.laid_internal_strconv_pow10Tab, Go.Pinned.pow10Tab]

theorem che_reads {w : World} (x : Nat) (s : List UInt8) (h0 : (Lit.int .i64 (x : Int)).wf = true) (h1 : s.length ≤ 100) (n : Nat) :
    DataW.trod (fun _ => ()) Tryd.prog w 0 (fun _ => true) false (n + 2) 107 [.int .i64 x, .string ⟨s.toArray⟩] = some (.agg [.lit (.int .i64 x), .lit (.string s)], []) := by
  obtain ⟨F0, F1, hu, hF0, hO0, hF1, hO1⟩ := uChe
  refine trod_struct2_mk (n := n + 1) (y0 := (.lit (.int .i64 x), [])) (y1 := (.lit (.string s), [])) hu (by rw [cChe]; rfl) ?_ ?_
  · rw [hF0, hO0, cInt]
    exact trod_int_mk n Tryd.underlying3 h0
  · rw [hF1, hO1, cStr]
    have hs : (⟨s.toArray⟩ : ByteArray).size ≤ maxLen := by simp [ByteArray.size, maxLen]; omega
    simp [DataW.trod, Tryd.underlying9, hs]

theorem cheat_reads {w : World} {t : TypeId} {fz : Nat × Nat} (hb : w.heap[12]? = some (.cells cheatCells t fz)) : DataW.trod (fun _ => ()) Tryd.prog w 0 (fun _ => true) false 8 108 [.slice (some ⟨12, 0, none⟩) 61 61] = some (Rows.laid_internal_strconv_leftcheats, MemPlace.row ⟨12, 0, none⟩ 122) := by
  have helem : ∀ i ∈ List.range 61, (w.cells? 0 ((⟨12, 0, none⟩ : Addr).add (i * 2)) 2).bind (DataW.trod (fun _ => ()) Tryd.prog w 0 (fun _ => true) false 7 107) = some ((fun i => ((.agg [.lit (.int .i64 ((Go.Pinned.cheatRows.getD i (0, [])).1 : Int)), .lit (.string (Go.Pinned.cheatRows.getD i (0, [])).2)] : DataW Unit), ([] : List MemPlace))) i) := by
    intro i hi
    have hi' := List.mem_range.1 hi
    have hlt : i < Go.Pinned.cheatRows.length := by rw [cheat_len]; exact hi'
    have hx : Go.Pinned.cheatRows[i]? = some (Go.Pinned.cheatRows.getD i (0, [])) := by
      rw [List.getD_eq_getElem?_getD, List.getElem?_eq_getElem hlt]; rfl
    have hmem := List.mem_of_getElem? hx
    have hwf := List.all_eq_true.1 cheat_wf _ hmem
    rw [Bool.and_eq_true] at hwf
    have h2 := flat2 (fun x : Nat × List UInt8 => Value.int .i64 (x.1 : Int)) (fun x => Value.string ⟨x.2.toArray⟩) _ i _ hx
    have hc : w.cells? 0 ⟨12, i * 2, none⟩ 2 = some [Value.int .i64 ((Go.Pinned.cheatRows.getD i (0, [])).1 : Int), Value.string ⟨(Go.Pinned.cheatRows.getD i (0, [])).2.toArray⟩] := by
      refine cells?_of (Nat.zero_le _) rfl (fun j hj => ?_)
      have h3 : w.cell? ⟨12, i * 2 + j, none⟩ = cheatCells[i * 2 + j]? := by simp [World.cell?, hb]
      rw [h3]
      have h4 := congrArg (fun l => l[j]?) h2
      simp only [List.getElem?_take, List.getElem?_drop] at h4
      rw [if_pos hj] at h4
      unfold cheatCells
      rw [List.getElem?_toArray, h4]
    rw [addr_add, Nat.zero_add, hc, Option.bind_some]
    dsimp only
    generalize Go.Pinned.cheatRows.getD i (0, []) = x at hwf ⊢
    exact che_reads x.1 x.2 hwf.1 (of_decide_eq_true hwf.2) 5
  show DataW.trod _ _ _ _ _ _ (7 + 1) _ _ = _
  unfold DataW.trod
  simp only [Tryd.underlying108, cChe]
  rw [if_pos ⟨Nat.zero_le _, Nat.le_refl _, by simp [maxLen]⟩, Go.Lib.mapM_someR _ _ _ helem]
  have := rows_get Go.Pinned.cheatRows (0, []) (fun x => (.agg [.lit (.int .i64 (x.1 : Int)), .lit (.string x.2)] : DataW Unit))
  rw [cheat_len] at this
  simp only [Option.bind_some, Nat.sub_self, List.range_zero, List.mapM_nil, if_true, Option.pure_def, Option.map_some, List.map_map, Function.comp_def, List.length_map, List.length_range, List.length_nil, List.map_nil, List.append_nil]
  rw [this]
  simp [Rows.laid_internal_strconv_leftcheats, Go.Pinned.leftcheats]

section
variable (os : Os) (args : Array Value)
theorem v_db32 : ((laidWorld os).forCall (fun _ _ => 0) ⟨#[], args, []⟩).memory.var? Tryd.prog "math/bits.deBruijn32tab" = some (litCells Rows.laid_math_bits_deBruijn32tab).toArray := by kernel_rfl
theorem v_db64 : ((laidWorld os).forCall (fun _ _ => 0) ⟨#[], args, []⟩).memory.var? Tryd.prog "math/bits.deBruijn64tab" = some (litCells Rows.laid_math_bits_deBruijn64tab).toArray := by kernel_rfl
theorem v_opt : ((laidWorld os).forCall (fun _ _ => 0) ⟨#[], args, []⟩).memory.var? Tryd.prog "internal/strconv.optimize" = some #[.bool true] := by kernel_rfl
theorem v_p10 : ((laidWorld os).forCall (fun _ _ => 0) ⟨#[], args, []⟩).memory.var? Tryd.prog "internal/strconv.uint64pow10" = some (litCells Rows.laid_internal_strconv_uint64pow10).toArray := by kernel_rfl
theorem v_che : ((laidWorld os).forCall (fun _ _ => 0) ⟨#[], args, []⟩).memory.var? Tryd.prog "internal/strconv.leftcheats" = some #[.slice (some ⟨12, 0, none⟩) 61 61] := by kernel_rfl
theorem v_tab : ((laidWorld os).forCall (fun _ _ => 0) ⟨#[], args, []⟩).memory.var? Tryd.prog "internal/strconv.pow10Tab" = some pow10Cells := by kernel_rfl
theorem h_che : ((laidWorld os).forCall (fun _ _ => 0) ⟨#[], args, []⟩).memory.heap[12]? = some (.cells cheatCells 107 (0, 0)) := by kernel_rfl
end
theorem d_db32 {W : World} : DataW.trod (fun _ => ()) Tryd.prog W 0 (fun _ => true) false 8 64 (litCells Rows.laid_math_bits_deBruijn32tab).toArray.toList = some (Rows.laid_math_bits_deBruijn32tab, []) := by kernel_rfl
theorem d_db64 {W : World} : DataW.trod (fun _ => ()) Tryd.prog W 0 (fun _ => true) false 8 57 (litCells Rows.laid_math_bits_deBruijn64tab).toArray.toList = some (Rows.laid_math_bits_deBruijn64tab, []) := by kernel_rfl
theorem d_opt {W : World} : DataW.trod (fun _ => ()) Tryd.prog W 0 (fun _ => true) false 8 4 #[Value.bool true].toList = some (Rows.laid_internal_strconv_optimize, []) := by kernel_rfl
theorem d_p10 {W : World} : DataW.trod (fun _ => ()) Tryd.prog W 0 (fun _ => true) false 8 91 (litCells Rows.laid_internal_strconv_uint64pow10).toArray.toList = some (Rows.laid_internal_strconv_uint64pow10, []) := by kernel_rfl
theorem gDb32 : Tryd.prog.globalNamed "math/bits.deBruijn32tab" = some 5 := by kernel_rfl
theorem yDb32 : (Tryd.prog.globals[5]?).map (·.type) = some 64 := by kernel_rfl
theorem yDb64 : (Tryd.prog.globals[6]?).map (·.type) = some 57 := by kernel_rfl
theorem pow10_size : pow10Cells.size = 1392 := by
  unfold pow10Cells
  rw [List.size_toArray, flat2_length (fun x : Nat × Nat => Value.int .u64 (x.1 : Int)) (fun x => Value.int .u64 (x.2 : Int)), pow10_len]

theorem laid_vars (os : Os) (args : Array Value) : DataW.LaidVars Tryd.prog ((laidWorld os).forCall (fun _ _ => 0) ⟨#[], args, []⟩).memory laidAll (rowsOf tabRows) := by
  have h1 := v_db32 os args
  have h2 := v_db64 os args
  have h3 := v_opt os args
  have h4 := v_p10 os args
  have h5 := v_che os args
  have h6 := v_tab os args
  have h7 := h_che os args
  generalize ((laidWorld os).forCall (fun _ _ => 0) ⟨#[], args, []⟩).memory = W at *
  refine ⟨_, _, _, 8, _, rowsOf (tabRows.drop 1), gDb32, yDb32, h1, d_db32, ?_, ?_⟩
  · refine ⟨_, _, _, 8, _, rowsOf (tabRows.drop 2), gDb, yDb64, h2, d_db64, ?_, ?_⟩
    · refine ⟨_, _, _, 8, _, rowsOf (tabRows.drop 3), gOpt, yOpt, h3, d_opt, ?_, ?_⟩
      · refine ⟨_, _, _, 8, _, rowsOf (tabRows.drop 4), gP10, yP10, h4, d_p10, ?_, ?_⟩
        · refine ⟨_, _, _, 8, _, rowsOf (tabRows.drop 6), gChe, yChe, h5, cheat_reads h7, ?_, ?_⟩
          · refine ⟨_, _, _, 8, _, [], gTab, yTab, h6, pow10_reads, rfl, ?_⟩
            rw [row_eq, pow10_size]
            simp [tabRows, rowsOf]
          · rw [row_eq, row_eq]
            simp [tabRows, rowsOf]
        · rw [row_eq, show (litCells Rows.laid_internal_strconv_uint64pow10).toArray.size = 20 by rfl]
          simp [tabRows, rowsOf]
      · rw [row_eq]
        simp [tabRows, rowsOf]
    · rw [row_eq, show (litCells Rows.laid_math_bits_deBruijn64tab).toArray.size = 64 by rfl]
      simp [tabRows, rowsOf]
  · rw [row_eq, show (litCells Rows.laid_math_bits_deBruijn32tab).toArray.size = 32 by rfl]
    simp [tabRows, rowsOf]
section
variable (os : Os) (args : Array Value)
theorem b_db32 : ∃ t, ((laidWorld os).forCall (fun _ _ => 0) ⟨#[], args, []⟩).memory.heap[5]? = some (.cells (litCells Rows.laid_math_bits_deBruijn32tab).toArray t (0, 0)) := ⟨64, by kernel_rfl⟩
theorem b_db64 : ∃ t, ((laidWorld os).forCall (fun _ _ => 0) ⟨#[], args, []⟩).memory.heap[6]? = some (.cells (litCells Rows.laid_math_bits_deBruijn64tab).toArray t (0, 0)) := ⟨57, by kernel_rfl⟩
theorem b_opt : ∃ t, ((laidWorld os).forCall (fun _ _ => 0) ⟨#[], args, []⟩).memory.heap[1]? = some (.cells #[.bool true] t (0, 0)) := ⟨4, by kernel_rfl⟩
theorem b_p10 : ∃ t, ((laidWorld os).forCall (fun _ _ => 0) ⟨#[], args, []⟩).memory.heap[2]? = some (.cells (litCells Rows.laid_internal_strconv_uint64pow10).toArray t (0, 0)) := ⟨91, by kernel_rfl⟩
theorem b_che0 : ∃ t, ((laidWorld os).forCall (fun _ _ => 0) ⟨#[], args, []⟩).memory.heap[4]? = some (.cells #[.slice (some ⟨12, 0, none⟩) 61 61] t (0, 0)) := ⟨108, by kernel_rfl⟩
theorem b_tab : ∃ t, ((laidWorld os).forCall (fun _ _ => 0) ⟨#[], args, []⟩).memory.heap[3]? = some (.cells pow10Cells t (0, 0)) := ⟨101, by kernel_rfl⟩
end
theorem lit_plain (d : DataW Unit) (u : TypeId) (v : Value) : Value.iface u v ∉ litCells d := by
  unfold litCells
  intro h
  split at h
  · rw [List.mem_map] at h
    obtain ⟨x, _, hx⟩ := h
    split at hx <;> cases hx
  · cases h
theorem pow10_plain (u : TypeId) (v : Value) : Value.iface u v ∉ pow10Cells.toList := by
  unfold pow10Cells
  rw [List.toList_toArray, List.mem_flatMap]
  rintro ⟨x, _, hx⟩
  simp at hx
theorem cheat_plain (u : TypeId) (v : Value) : Value.iface u v ∉ cheatCells.toList := by
  unfold cheatCells
  rw [List.toList_toArray, List.mem_flatMap]
  rintro ⟨x, _, hx⟩
  simp at hx
theorem plain_ok {P : Program} {W : World} {b : Nat} {cs : Array Value} (hb : ∃ t, W.heap[b]? = some (.cells cs t (0, 0))) (hp : ∀ u v, Value.iface u v ∉ cs.toList) (off : Nat) :
    (∃ c t, W.heap[b]? = some (.cells c t (0, 0))) ∧ ∀ u v, W.cell? ⟨b, off, none⟩ = some (.iface u v) → Value.okWide P W .any 0 u v := by
  obtain ⟨t, hb⟩ := hb
  have hF : ∀ u v, W.cell? ⟨b, off, none⟩ = some (.iface u v) → False := by
    intro u v hc
    have hc' : W.cell? ⟨b, off, none⟩ = cs[off]? := by simp [World.cell?, hb]
    rw [hc', ← Array.getElem?_toList] at hc
    exact hp u v (List.mem_of_getElem? hc)
  exact ⟨⟨cs, t, hb⟩, fun u v hc => (hF u v hc).elim⟩
theorem laid_met (os : Os) (args : Array Value) : laidMet Tryd.prog laidAll ((laidWorld os).forCall (fun _ _ => 0) ⟨#[], args, []⟩).memory := by
  refine ⟨rowsOf tabRows, laid_vars os args, rowsOf_nodup _ (by decide), fun b off hp => ?_⟩
  obtain ⟨b', o', e, hb⟩ := mem_rowsOf hp
  clear hp
  obtain ⟨rfl, rfl⟩ : b = b' ∧ off = o' := by simpa using e
  have h1 := b_db32 os args
  have h2 := b_db64 os args
  have h3 := b_opt os args
  have h4 := b_p10 os args
  have h5 := b_che0 os args
  have h6 := b_tab os args
  have h7 := h_che os args
  generalize ((laidWorld os).forCall (fun _ _ => 0) ⟨#[], args, []⟩).memory = W at *
  simp only [tabRows, List.map_cons, List.map_nil, List.mem_cons, List.not_mem_nil, or_false] at hb
  rcases hb with h | h | h | h | h | h | h
  · rw [h]; exact plain_ok h1 (fun u v => by rw [List.toList_toArray]; exact lit_plain _ u v) off
  · rw [h]; exact plain_ok h2 (fun u v => by rw [List.toList_toArray]; exact lit_plain _ u v) off
  · rw [h]; exact plain_ok h3 (fun u v => by simp) off
  · rw [h]; exact plain_ok h4 (fun u v => by rw [List.toList_toArray]; exact lit_plain _ u v) off
  · rw [h]; exact plain_ok h5 (fun u v => by simp) off
  · rw [h]; exact plain_ok ⟨_, h7⟩ cheat_plain off
  · rw [h]; exact plain_ok h6 pow10_plain off
end Go.Proofs.YtffooimnioigdaaDoor
