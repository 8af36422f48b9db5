/-
  Memory of the call's own, as lists: a block that is a row of cells ('Row'), a slice that owns the head of such a row ('Own'), what an append does to it ('Stp'), a slice that is only read ('Reads').
-/
import Derived.WalkKit
import Derived.WalkSpells
import Derived.Deep.AppendSrc
import Derived.Deep.DeepAppendWide
import Derived.Deep.Upon
import Derived.Deep.QuietTactic
namespace Go.Proofs.YtffooimnioigdaaDoor
open Go.RowKit
set_option linter.unusedSimpArgs false
set_option linter.unusedVariables false

/-- Block g is a row of cells that nobody has frozen, and holds these values. -/
def Row (w : World) (g : Nat) (xs : List Value) : Prop := ∃ e, w.heap[g]? = some (.cells xs.toArray e (0, 0))

theorem Row.lt {w : World} {g : Nat} {xs : List Value} (h : Row w g xs) : g < w.heap.size := by
  obtain ⟨e, h⟩ := h
  rcases Nat.lt_or_ge g w.heap.size with h' | h'
  · exact h'
  · simp [Array.getElem?_eq_none h'] at h

theorem Row.cell {w : World} {g : Nat} {xs : List Value} (h : Row w g xs) (i : Nat) : w.cell? ⟨g, i, none⟩ = xs[i]? := by
  obtain ⟨e, h⟩ := h
  simp [World.cell?, h]

theorem Row.frozen {w : World} {g : Nat} {xs : List Value} (h : Row w g xs) (i : Nat) : w.frozen? ⟨g, i, none⟩ = false := by
  obtain ⟨e, h⟩ := h
  simp [World.frozen?, h]

theorem Row.of_block {w w' : World} {g : Nat} {xs : List Value} (h : Row w g xs) (hb : w'.heap[g]? = w.heap[g]?) : Row w' g xs := by
  obtain ⟨e, h⟩ := h
  exact ⟨e, hb.trans h⟩

theorem Row.grown {w w' : World} {row : Option Nat} {g : Nat} {xs : List Value} (h : Row w g xs) (hg : w.grownBy w' row) (hne : some g ≠ row) : Row w' g xs :=
  h.of_block (hg.block g h.lt hne)

theorem Row.alloc {w : World} {g : Nat} {xs : List Value} (h : Row w g xs) (o : Obj) : Row (w.alloc o) g xs :=
  h.of_block (Below.heap_alloc w o g h.lt)

theorem Row.drew {w : World} {g : Nat} {xs : List Value} (h : Row w g xs) : Row w.drew g xs := h

theorem Row.drewN {w : World} {g : Nat} {xs : List Value} (h : Row w g xs) (n : Nat) : Row (w.drewN n) g xs := by
  obtain ⟨e, h⟩ := h
  exact ⟨e, by simpa using h⟩

theorem Row.new (w : World) (xs : List Value) (e : TypeId) : Row (w.alloc (.cells xs.toArray e)) w.heap.size xs :=
  ⟨e, by show (w.heap.push _)[w.heap.size]? = _; simp⟩

theorem Row.setCell {w : World} {g : Nat} {xs : List Value} (h : Row w g xs) (i : Nat) (u : Value) : Row (w.setCell ⟨g, i, none⟩ u) g (xs.set i u) := by
  obtain ⟨e, h⟩ := h
  refine ⟨e, ?_⟩
  simp only [World.setCell, Array.getElem?_modify, h]
  simp

theorem Row.setCell_other {w : World} {g : Nat} {xs : List Value} (h : Row w g xs) {a : Addr} (hne : g ≠ a.block) (u : Value) : Row (w.setCell a u) g xs :=
  h.of_block (Below.heap_setCell w a u g hne)

theorem Row.setCells {g : Nat} (news : List Value) : ∀ {pre mid post : List Value} {w : World}, Row w g (pre ++ (mid ++ post)) → mid.length = news.length →
    Row (w.setCells g pre.length news) g (pre ++ (news ++ post)) := by
  induction news with
  | nil => intro pre mid post w h hl; cases mid with
    | nil => exact h
    | cons => simp at hl
  | cons u r ih =>
    intro pre mid post w h hl
    cases mid with
    | nil => simp at hl
    | cons m ms =>
      have h1 := h.setCell pre.length u
      have e1 : (pre ++ (m :: ms ++ post)).set pre.length u = (pre ++ [u]) ++ (ms ++ post) := by
        rw [List.set_append_right _ _ (Nat.le_refl _)]
        simp
      rw [e1] at h1
      have h2 := ih (pre := pre ++ [u]) (mid := ms) (post := post) (w := w.setCell ⟨g, pre.length, none⟩ u) h1 (by simpa using hl)
      have e2 : (pre ++ [u]).length = pre.length + 1 := by simp
      rw [e2] at h2
      have e3 : pre ++ [u] ++ (r ++ post) = pre ++ (u :: r ++ post) := by simp
      rw [e3] at h2
      exact h2

/-- A slice that owns the head of a row: its elements, and what lies behind them up to the capacity. -/
def Own (w : World) (v : Value) (xs : List Value) : Prop :=
  ∃ g rest, v = .slice (some ⟨g, 0, none⟩) xs.length (xs.length + rest.length) ∧ Row w g (xs ++ rest) ∧ xs.length + rest.length ≤ maxLen

/-- From world w and slice v to world w' and slice v': old blocks but v's own are as they were; v' lies in v's block or in a new one. -/
def Stp (w : World) (v : Value) (w' : World) (v' : Value) : Prop :=
  w.grownBy w' v.ownBlock ∧ ∀ k, v'.ownBlock = some k → k < w.heap.size → v.ownBlock = some k

theorem grown_refl (w : World) (row : Option Nat) : w.grownBy w row := ⟨rfl, rfl, rfl, Nat.le_refl _, fun _ _ _ => rfl⟩

theorem grown_trans {w w1 w2 : World} {row row1 : Option Nat} (h : w.grownBy w1 row) (k : w1.grownBy w2 row1) (hr : ∀ j, row1 = some j → j < w.heap.size → row = some j) : w.grownBy w2 row :=
  ⟨k.os.trans h.os, k.tape.trans h.tape, k.output.trans h.output, Nat.le_trans h.size k.size, fun j hj hne =>
    (k.block j (Nat.lt_of_lt_of_le hj h.size) (fun e => hne (hr j e.symm hj).symm)).trans (h.block j hj hne)⟩

theorem grown_drewN (w : World) (n : Nat) (row : Option Nat) : w.grownBy (w.drewN n) row := ⟨rfl, rfl, rfl, Nat.le_refl _, fun _ _ _ => rfl⟩

theorem Stp.refl (w : World) (v : Value) : Stp w v w v := ⟨grown_refl w _, fun _ h _ => h⟩

theorem Stp.trans {w w1 w2 : World} {v v1 v2 : Value} (h : Stp w v w1 v1) (k : Stp w1 v1 w2 v2) : Stp w v w2 v2 :=
  ⟨grown_trans h.1 k.1 h.2, fun j hj hlt => h.2 j (k.2 j hj (Nat.lt_of_lt_of_le hlt h.1.size)) hlt⟩

theorem Stp.alloc {w w1 : World} {v v1 : Value} (h : Stp w v w1 v1) (o : Obj) : Stp w v (w1.alloc o) v1 :=
  h.trans ⟨World.grownBy_alloc w1 o _, fun _ e _ => e⟩

theorem Stp.drewN {w w1 : World} {v v1 : Value} (h : Stp w v w1 v1) (n : Nat) : Stp w v (w1.drewN n) v1 :=
  h.trans ⟨grown_drewN w1 n _, fun _ e _ => e⟩

theorem Stp.size {w w1 : World} {v v1 : Value} (h : Stp w v w1 v1) : w.heap.size ≤ w1.heap.size := h.1.size

/-- A row of another block than v's own stays over such a step. -/
theorem Stp.row {w w1 : World} {v v1 : Value} (h : Stp w v w1 v1) {g : Nat} {xs : List Value} (hr : Row w g xs) (hne : v.ownBlock ≠ some g) : Row w1 g xs ∧ v1.ownBlock ≠ some g :=
  ⟨hr.grown h.1 (fun e => hne e.symm), fun e => hne (h.2 g e hr.lt)⟩

theorem Own.alloc {w : World} {v : Value} {xs : List Value} (h : Own w v xs) (o : Obj) : Own (w.alloc o) v xs := by
  obtain ⟨g, rest, hv, hr, hm⟩ := h
  exact ⟨g, rest, hv, hr.alloc o, hm⟩

theorem Own.drewN {w : World} {v : Value} {xs : List Value} (h : Own w v xs) (n : Nat) : Own (w.drewN n) v xs := by
  obtain ⟨g, rest, hv, hr, hm⟩ := h
  exact ⟨g, rest, hv, hr.drewN n, hm⟩

theorem Own.grown {w w' : World} {row : Option Nat} {v : Value} {xs : List Value} (h : Own w v xs) (hg : w.grownBy w' row) (hne : v.ownBlock ≠ row) : Own w' v xs := by
  obtain ⟨g, rest, rfl, hr, hm⟩ := h
  exact ⟨g, rest, rfl, hr.grown hg hne, hm⟩

theorem Own.setCell_other {w : World} {v : Value} {xs : List Value} (h : Own w v xs) {a : Addr} (hne : v.ownBlock ≠ some a.block) (u : Value) : Own (w.setCell a u) v xs := by
  obtain ⟨g, rest, rfl, hr, hm⟩ := h
  exact ⟨g, rest, rfl, hr.setCell_other (fun e => hne (by simp [Value.ownBlock, e])) u, hm⟩

theorem Own.lt {w : World} {v : Value} {xs : List Value} (h : Own w v xs) : ∀ k, v.ownBlock = some k → k < w.heap.size := by
  obtain ⟨g, rest, rfl, hr, hm⟩ := h
  intro k hk
  simp [Value.ownBlock] at hk
  subst hk
  exact hr.lt

theorem Own.ne_of_ge {w : World} {v : Value} {xs : List Value} (h : Own w v xs) {k : Nat} (hk : w.heap.size ≤ k) : v.ownBlock ≠ some k := fun e => by
  have := h.lt k e; omega

theorem Own.len_le {w : World} {v : Value} {xs : List Value} (h : Own w v xs) : xs.length ≤ maxLen := by
  obtain ⟨g, rest, rfl, hr, hm⟩ := h
  omega

theorem tape_setCells (g : Nat) : ∀ (news : List Value) (o : Nat) (w : World), (w.setCells g o news).tape = w.tape
  | [], _, _ => rfl
  | _ :: r, o, _ => tape_setCells g r (o + 1) _

theorem size_setCells (g : Nat) : ∀ (news : List Value) (o : Nat) (w : World), (w.setCells g o news).heap.size = w.heap.size
  | [], _, _ => rfl
  | _ :: r, o, _ => (size_setCells g r (o + 1) _).trans (by simp [World.setCell])

section
variable {P : Program}

/-- append to a slice of the call's own, whatever is appended. -/
theorem run_append_Own (w : World) (t tx ty e : TypeId) (i : TypeInfo) (z : Value) (ht : P.underlying t = some (.slice e)) (hi : P.info? e = some i) (hz : i.zero = some z) (hsz : i.size = 1) (hzs : z.cells.size = 1)
    (v : Value) (xs : List Value) (hown : Own w v xs) (x : Value) (n : Nat) (news : List Value) (hs : Src P 1 tx x n news w)
    (hb : (xs.length + n + (xs.length + n) / 4 + 192) * i.bytes ≤ 281474976710656) (hbp : 0 < i.bytes) :
    ∃ v' w', (Builtin.append_ #[t, tx] ty #[v, x]).run P w = .ok v' w' ∧ Own w' v' (xs ++ news) ∧ Stp w v w' v' := by
  obtain ⟨g, rest, rfl, hr, hm⟩ := hown
  have hnl : news.length = n := by have := hs.newsLen; omega
  have hbb : xs.length + n + (xs.length + n) / 4 + 192 ≤ 281474976710656 := Nat.le_trans (Nat.le_mul_of_pos_right _ hbp) hb
  have hs' : Src P i.size tx x n news w := by rw [hsz]; exact hs
  by_cases hroom : xs.length + n ≤ xs.length + rest.length
  · have hrun := run_append_room_src (P := P) w t tx ty e i ht hi g 0 xs.length (xs.length + rest.length) x n news hs' hroom
      (fun j hj => by rw [hsz, hr.cell, List.getElem?_eq_getElem (by simp; omega)]; rfl) (fun j hj => hr.frozen _)
    rw [hsz, Nat.mul_one, Nat.zero_add] at hrun
    refine ⟨_, _, hrun, ?_, ?_⟩
    · have hd : Row w g (xs ++ (rest.take n ++ rest.drop n)) := by rw [List.take_append_drop]; exact hr
      have := hd.setCells news (by rw [List.length_take]; omega)
      refine ⟨g, rest.drop n, ?_, by rw [List.append_assoc]; exact this, ?_⟩
      · simp only [List.length_append, List.length_drop, hnl]
        congr 1; omega
      · simp only [List.length_append, List.length_drop, hnl]; omega
    · refine ⟨⟨World.os_setCells .., ?_, World.output_setCells .., ?_, fun k hk hne => World.heap_setCells_other w g _ news hk (fun e => hne (by simp [Value.ownBlock, e]))⟩, fun k hk _ => hk⟩
      · exact tape_setCells g news _ w
      · rw [size_setCells g news]; exact Nat.le_refl _
  · have holds : ∀ j u, xs[j]? = some u → w.drew.cell? ((⟨g, 0, none⟩ : Addr).add j) = some u := fun j u hj => by
      have e : ((⟨g, 0, none⟩ : Addr).add j) = ⟨g, j, none⟩ := by
        unfold Addr.add; split
        · subst_vars; rfl
        · simp
      rw [e]
      have h1 : w.drew.cell? ⟨g, j, none⟩ = (xs ++ rest)[j]? := hr.drew.cell j
      rw [h1, List.getElem?_append_left (by rcases Nat.lt_or_ge j xs.length with h | h; exact h; simp [List.getElem?_eq_none h] at hj), hj]
    have hold := run_firstCells_some (P := P) w.drew i.size xs.length ⟨g, 0, none⟩ xs.length (xs.length + rest.length) xs (by rw [hsz]; omega) holds
    have hrun := run_append_grow_src (P := P) w t tx ty e i z ht hi hz (some ⟨g, 0, none⟩) xs.length (xs.length + rest.length) xs hold x n news hs' (by omega) (by omega) (growslice_fits_wide (by omega) hb)
    have hge := grownCap_ge w (xs.length + n) (xs.length + rest.length) e
    have hle := grownCap_le_maxLen w (xs.length + n) (xs.length + rest.length) e (by simp only [maxLen]; omega)
    refine ⟨_, _, hrun, ?_, ?_⟩
    · generalize grownCap w (xs.length + n) (xs.length + rest.length) e = C at *
      refine ⟨w.heap.size, (Builtin.zeroCells z.cells (C - (xs.length + n))).toList, ?_, ?_, ?_⟩
      · simp only [List.length_append, Array.length_toList, size_zeroCells, hzs, hnl]
        congr 1; omega
      · have := Row.new w.drew ((xs ++ news) ++ (Builtin.zeroCells z.cells (C - (xs.length + n))).toList) e
        refine this.of_block ?_
        congr 4
        apply Array.ext'
        simp
      · simp only [List.length_append, Array.length_toList, size_zeroCells, hzs, hnl]
        omega
    · refine ⟨⟨rfl, rfl, rfl, by simp, fun k hk _ => Below.heap_alloc w.drew _ k hk⟩, fun k hk hlt => ?_⟩
      simp [Value.ownBlock] at hk
      omega
end
end Go.Proofs.YtffooimnioigdaaDoor
