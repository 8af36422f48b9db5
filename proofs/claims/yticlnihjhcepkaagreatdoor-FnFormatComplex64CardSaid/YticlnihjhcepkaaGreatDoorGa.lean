/-
  Lemmas and walks of functions, several texts in one.
-/
import Derived.WalkKit
import Derived.WalkSpells
import Derived.Deep.AppendSrc
import Derived.Deep.DeepAppendWide
import Derived.Deep.Upon
import Derived.Deep.QuietTactic
import Derived.Deep.Cut
import Derived.Deep.LoopGhost
import Derived.Deep.RegionHeld3
/-
  Memory of the call's own, as lists: a block that is a row of cells ('Row'), a slice that owns the head of such a row ('Own'), what an append does to it ('Stp'), a slice that is only read ('Reads').
-/
namespace Go.Proofs.YticlnihjhcepkaaGreatDoor
open Go.RowKit
set_option linter.unusedSimpArgs false
set_option linter.unusedVariables false

/-- Block g is a row of cells that nobody has frozen, and holds these values. -/
def Row (w : World) (g : Nat) (xs : List Value) : Prop := ∃ e, w.heap[g]? = some (.cells xs.toArray e (0, 0))

theorem Row.lt {w : World} {g : Nat} {xs : List Value} (h : Row w g xs) : g < w.heap.size := by
  obtain ⟨e, h⟩ := h
  rcases Nat.lt_or_ge g w.heap.size with h' | h'
  · exact h'
  · simp [Array.getElem?_eq_none h'] at h

theorem Row.cell {w : World} {g : Nat} {xs : List Value} (h : Row w g xs) (i : Nat) : w.cell? ⟨g, i, none⟩ = xs[i]? := by
  obtain ⟨e, h⟩ := h
  simp [World.cell?, h]

theorem Row.frozen {w : World} {g : Nat} {xs : List Value} (h : Row w g xs) (i : Nat) : w.frozen? ⟨g, i, none⟩ = false := by
  obtain ⟨e, h⟩ := h
  simp [World.frozen?, h]

theorem Row.of_block {w w' : World} {g : Nat} {xs : List Value} (h : Row w g xs) (hb : w'.heap[g]? = w.heap[g]?) : Row w' g xs := by
  obtain ⟨e, h⟩ := h
  exact ⟨e, hb.trans h⟩

theorem Row.grown {w w' : World} {row : Option Nat} {g : Nat} {xs : List Value} (h : Row w g xs) (hg : w.grownBy w' row) (hne : some g ≠ row) : Row w' g xs :=
  h.of_block (hg.block g h.lt hne)

theorem Row.alloc {w : World} {g : Nat} {xs : List Value} (h : Row w g xs) (o : Obj) : Row (w.alloc o) g xs :=
  h.of_block (Below.heap_alloc w o g h.lt)

theorem Row.drew {w : World} {g : Nat} {xs : List Value} (h : Row w g xs) : Row w.drew g xs := h

theorem Row.drewN {w : World} {g : Nat} {xs : List Value} (h : Row w g xs) (n : Nat) : Row (w.drewN n) g xs := by
  obtain ⟨e, h⟩ := h
  exact ⟨e, by simpa using h⟩

theorem Row.new (w : World) (xs : List Value) (e : TypeId) : Row (w.alloc (.cells xs.toArray e)) w.heap.size xs :=
  ⟨e, by show (w.heap.push _)[w.heap.size]? = _; simp⟩

theorem Row.setCell {w : World} {g : Nat} {xs : List Value} (h : Row w g xs) (i : Nat) (u : Value) : Row (w.setCell ⟨g, i, none⟩ u) g (xs.set i u) := by
  obtain ⟨e, h⟩ := h
  refine ⟨e, ?_⟩
  simp only [World.setCell, Array.getElem?_modify, h]
  simp

theorem Row.setCell_other {w : World} {g : Nat} {xs : List Value} (h : Row w g xs) {a : Addr} (hne : g ≠ a.block) (u : Value) : Row (w.setCell a u) g xs :=
  h.of_block (Below.heap_setCell w a u g hne)

theorem Row.setCells {g : Nat} (news : List Value) : ∀ {pre mid post : List Value} {w : World}, Row w g (pre ++ (mid ++ post)) → mid.length = news.length →
    Row (w.setCells g pre.length news) g (pre ++ (news ++ post)) := by
  induction news with
  | nil => intro pre mid post w h hl; cases mid with
    | nil => exact h
    | cons => simp at hl
  | cons u r ih =>
    intro pre mid post w h hl
    cases mid with
    | nil => simp at hl
    | cons m ms =>
      have h1 := h.setCell pre.length u
      have e1 : (pre ++ (m :: ms ++ post)).set pre.length u = (pre ++ [u]) ++ (ms ++ post) := by
        rw [List.set_append_right _ _ (Nat.le_refl _)]
        simp
      rw [e1] at h1
      have h2 := ih (pre := pre ++ [u]) (mid := ms) (post := post) (w := w.setCell ⟨g, pre.length, none⟩ u) h1 (by simpa using hl)
      have e2 : (pre ++ [u]).length = pre.length + 1 := by simp
      rw [e2] at h2
      have e3 : pre ++ [u] ++ (r ++ post) = pre ++ (u :: r ++ post) := by simp
      rw [e3] at h2
      exact h2

/-- A slice that owns the head of a row: its elements, and what lies behind them up to the capacity. -/
def Own (w : World) (v : Value) (xs : List Value) : Prop :=
  ∃ g rest, v = .slice (some ⟨g, 0, none⟩) xs.length (xs.length + rest.length) ∧ Row w g (xs ++ rest) ∧ xs.length + rest.length ≤ maxLen

/-- From world w and slice v to world w' and slice v': old blocks but v's own are as they were; v' lies in v's block or in a new one. -/
def Stp (w : World) (v : Value) (w' : World) (v' : Value) : Prop :=
  w.grownBy w' v.ownBlock ∧ ∀ k, v'.ownBlock = some k → k < w.heap.size → v.ownBlock = some k

theorem grown_refl (w : World) (row : Option Nat) : w.grownBy w row := ⟨rfl, rfl, rfl, Nat.le_refl _, fun _ _ _ => rfl⟩

theorem grown_trans {w w1 w2 : World} {row row1 : Option Nat} (h : w.grownBy w1 row) (k : w1.grownBy w2 row1) (hr : ∀ j, row1 = some j → j < w.heap.size → row = some j) : w.grownBy w2 row :=
  ⟨k.os.trans h.os, k.tape.trans h.tape, k.output.trans h.output, Nat.le_trans h.size k.size, fun j hj hne =>
    (k.block j (Nat.lt_of_lt_of_le hj h.size) (fun e => hne (hr j e.symm hj).symm)).trans (h.block j hj hne)⟩

theorem grown_drewN (w : World) (n : Nat) (row : Option Nat) : w.grownBy (w.drewN n) row := ⟨rfl, rfl, rfl, Nat.le_refl _, fun _ _ _ => rfl⟩

theorem Stp.refl (w : World) (v : Value) : Stp w v w v := ⟨grown_refl w _, fun _ h _ => h⟩

theorem Stp.trans {w w1 w2 : World} {v v1 v2 : Value} (h : Stp w v w1 v1) (k : Stp w1 v1 w2 v2) : Stp w v w2 v2 :=
  ⟨grown_trans h.1 k.1 h.2, fun j hj hlt => h.2 j (k.2 j hj (Nat.lt_of_lt_of_le hlt h.1.size)) hlt⟩

theorem Stp.alloc {w w1 : World} {v v1 : Value} (h : Stp w v w1 v1) (o : Obj) : Stp w v (w1.alloc o) v1 :=
  h.trans ⟨World.grownBy_alloc w1 o _, fun _ e _ => e⟩

theorem Stp.drewN {w w1 : World} {v v1 : Value} (h : Stp w v w1 v1) (n : Nat) : Stp w v (w1.drewN n) v1 :=
  h.trans ⟨grown_drewN w1 n _, fun _ e _ => e⟩

theorem Stp.size {w w1 : World} {v v1 : Value} (h : Stp w v w1 v1) : w.heap.size ≤ w1.heap.size := h.1.size

/-- A row of another block than v's own stays over such a step. -/
theorem Stp.row {w w1 : World} {v v1 : Value} (h : Stp w v w1 v1) {g : Nat} {xs : List Value} (hr : Row w g xs) (hne : v.ownBlock ≠ some g) : Row w1 g xs ∧ v1.ownBlock ≠ some g :=
  ⟨hr.grown h.1 (fun e => hne e.symm), fun e => hne (h.2 g e hr.lt)⟩

theorem Own.alloc {w : World} {v : Value} {xs : List Value} (h : Own w v xs) (o : Obj) : Own (w.alloc o) v xs := by
  obtain ⟨g, rest, hv, hr, hm⟩ := h
  exact ⟨g, rest, hv, hr.alloc o, hm⟩

theorem Own.drewN {w : World} {v : Value} {xs : List Value} (h : Own w v xs) (n : Nat) : Own (w.drewN n) v xs := by
  obtain ⟨g, rest, hv, hr, hm⟩ := h
  exact ⟨g, rest, hv, hr.drewN n, hm⟩

theorem Own.grown {w w' : World} {row : Option Nat} {v : Value} {xs : List Value} (h : Own w v xs) (hg : w.grownBy w' row) (hne : v.ownBlock ≠ row) : Own w' v xs := by
  obtain ⟨g, rest, rfl, hr, hm⟩ := h
  exact ⟨g, rest, rfl, hr.grown hg hne, hm⟩

theorem Own.setCell_other {w : World} {v : Value} {xs : List Value} (h : Own w v xs) {a : Addr} (hne : v.ownBlock ≠ some a.block) (u : Value) : Own (w.setCell a u) v xs := by
  obtain ⟨g, rest, rfl, hr, hm⟩ := h
  exact ⟨g, rest, rfl, hr.setCell_other (fun e => hne (by simp [Value.ownBlock, e])) u, hm⟩

theorem Own.lt {w : World} {v : Value} {xs : List Value} (h : Own w v xs) : ∀ k, v.ownBlock = some k → k < w.heap.size := by
  obtain ⟨g, rest, rfl, hr, hm⟩ := h
  intro k hk
  simp [Value.ownBlock] at hk
  subst hk
  exact hr.lt

theorem Own.ne_of_ge {w : World} {v : Value} {xs : List Value} (h : Own w v xs) {k : Nat} (hk : w.heap.size ≤ k) : v.ownBlock ≠ some k := fun e => by
  have := h.lt k e; omega

theorem Own.len_le {w : World} {v : Value} {xs : List Value} (h : Own w v xs) : xs.length ≤ maxLen := by
  obtain ⟨g, rest, rfl, hr, hm⟩ := h
  omega

theorem tape_setCells (g : Nat) : ∀ (news : List Value) (o : Nat) (w : World), (w.setCells g o news).tape = w.tape
  | [], _, _ => rfl
  | _ :: r, o, _ => tape_setCells g r (o + 1) _

theorem size_setCells (g : Nat) : ∀ (news : List Value) (o : Nat) (w : World), (w.setCells g o news).heap.size = w.heap.size
  | [], _, _ => rfl
  | _ :: r, o, _ => (size_setCells g r (o + 1) _).trans (by simp [World.setCell])

section
variable {P : Program}

/-- append to a slice of the call's own, whatever is appended. -/
theorem run_append_Own (w : World) (t tx ty e : TypeId) (i : TypeInfo) (z : Value) (ht : P.underlying t = some (.slice e)) (hi : P.info? e = some i) (hz : i.zero = some z) (hsz : i.size = 1) (hzs : z.cells.size = 1)
    (v : Value) (xs : List Value) (hown : Own w v xs) (x : Value) (n : Nat) (news : List Value) (hs : Src P 1 tx x n news w)
    (hb : (xs.length + n + (xs.length + n) / 4 + 192) * i.bytes ≤ 281474976710656) (hbp : 0 < i.bytes) :
    ∃ v' w', (Builtin.append_ #[t, tx] ty #[v, x]).run P w = .ok v' w' ∧ Own w' v' (xs ++ news) ∧ Stp w v w' v' := by
  obtain ⟨g, rest, rfl, hr, hm⟩ := hown
  have hnl : news.length = n := by have := hs.newsLen; omega
  have hbb : xs.length + n + (xs.length + n) / 4 + 192 ≤ 281474976710656 := Nat.le_trans (Nat.le_mul_of_pos_right _ hbp) hb
  have hs' : Src P i.size tx x n news w := by rw [hsz]; exact hs
  by_cases hroom : xs.length + n ≤ xs.length + rest.length
  · have hrun := run_append_room_src (P := P) w t tx ty e i ht hi g 0 xs.length (xs.length + rest.length) x n news hs' hroom
      (fun j hj => by rw [hsz, hr.cell, List.getElem?_eq_getElem (by simp; omega)]; rfl) (fun j hj => hr.frozen _)
    rw [hsz, Nat.mul_one, Nat.zero_add] at hrun
    refine ⟨_, _, hrun, ?_, ?_⟩
    · have hd : Row w g (xs ++ (rest.take n ++ rest.drop n)) := by rw [List.take_append_drop]; exact hr
      have := hd.setCells news (by rw [List.length_take]; omega)
      refine ⟨g, rest.drop n, ?_, by rw [List.append_assoc]; exact this, ?_⟩
      · simp only [List.length_append, List.length_drop, hnl]
        congr 1; omega
      · simp only [List.length_append, List.length_drop, hnl]; omega
    · refine ⟨⟨World.os_setCells .., ?_, World.output_setCells .., ?_, fun k hk hne => World.heap_setCells_other w g _ news hk (fun e => hne (by simp [Value.ownBlock, e]))⟩, fun k hk _ => hk⟩
      · exact tape_setCells g news _ w
      · rw [size_setCells g news]; exact Nat.le_refl _
  · have holds : ∀ j u, xs[j]? = some u → w.drew.cell? ((⟨g, 0, none⟩ : Addr).add j) = some u := fun j u hj => by
      have e : ((⟨g, 0, none⟩ : Addr).add j) = ⟨g, j, none⟩ := by
        unfold Addr.add; split
        · subst_vars; rfl
        · simp
      rw [e]
      have h1 : w.drew.cell? ⟨g, j, none⟩ = (xs ++ rest)[j]? := hr.drew.cell j
      rw [h1, List.getElem?_append_left (by rcases Nat.lt_or_ge j xs.length with h | h; exact h; simp [List.getElem?_eq_none h] at hj), hj]
    have hold := run_firstCells_some (P := P) w.drew i.size xs.length ⟨g, 0, none⟩ xs.length (xs.length + rest.length) xs (by rw [hsz]; omega) holds
    have hrun := run_append_grow_src (P := P) w t tx ty e i z ht hi hz (some ⟨g, 0, none⟩) xs.length (xs.length + rest.length) xs hold x n news hs' (by omega) (by omega) (growslice_fits_wide (by omega) hb)
    have hge := grownCap_ge w (xs.length + n) (xs.length + rest.length) e
    have hle := grownCap_le_maxLen w (xs.length + n) (xs.length + rest.length) e (by simp only [maxLen]; omega)
    refine ⟨_, _, hrun, ?_, ?_⟩
    · generalize grownCap w (xs.length + n) (xs.length + rest.length) e = C at *
      refine ⟨w.heap.size, (Builtin.zeroCells z.cells (C - (xs.length + n))).toList, ?_, ?_, ?_⟩
      · simp only [List.length_append, Array.length_toList, size_zeroCells, hzs, hnl]
        congr 1; omega
      · have := Row.new w.drew ((xs ++ news) ++ (Builtin.zeroCells z.cells (C - (xs.length + n))).toList) e
        refine this.of_block ?_
        congr 4
        apply Array.ext'
        simp
      · simp only [List.length_append, Array.length_toList, size_zeroCells, hzs, hnl]
        omega
    · refine ⟨⟨rfl, rfl, rfl, by simp, fun k hk _ => Below.heap_alloc w.drew _ k hk⟩, fun k hk hlt => ?_⟩
      simp [Value.ownBlock] at hk
      omega
end
end Go.Proofs.YticlnihjhcepkaaGreatDoor

/-
  Frames as functions: 'Fr n env s': a frame of n slots that holds env's values, and s's elsewhere. The walk's cost does not grow with the number of slots.
-/
namespace Go.Proofs.YticlnihjhcepkaaGreatDoor
open Go.RowKit
set_option linter.unusedSimpArgs false
set_option linter.unusedVariables false

def over : List (Nat × Value) → (Nat → Value) → Nat → Value
  | [], s, k => s k
  | (j, v) :: r, s, k => if k = j then v else over r s k

def lst (env : List (Nat × Value)) (s : Nat → Value) : Nat → Nat → List Value
  | 0, _ => []
  | m + 1, k => over env s k :: lst env s m (k + 1)

theorem lst_length (env : List (Nat × Value)) (s : Nat → Value) : ∀ m k, (lst env s m k).length = m
  | 0, _ => rfl
  | m + 1, k => by rw [lst, List.length_cons, lst_length env s m (k + 1)]

theorem lst_get (env : List (Nat × Value)) (s : Nat → Value) : ∀ m k i, i < m → (lst env s m k)[i]? = some (over env s (k + i))
  | 0, _, _, h => by omega
  | m + 1, k, 0, _ => rfl
  | m + 1, k, i + 1, h => by rw [lst, List.getElem?_cons_succ, lst_get env s m (k + 1) i (by omega)]; congr 2; omega

def Fr (n : Nat) (env : List (Nat × Value)) (s : Nat → Value) : Act := ⟨⟨lst env s n 0⟩, []⟩

theorem Fr_size (n : Nat) (env : List (Nat × Value)) (s : Nat → Value) : (Fr n env s).tmps.size = n := by
  show (lst env s n 0).length = n
  exact lst_length ..

theorem Fr_get? (n : Nat) (env : List (Nat × Value)) (s : Nat → Value) (k : Nat) (h : k < n) : (Fr n env s).tmps[k]? = some (over env s k) := by
  show (lst env s n 0).toArray[k]? = _
  rw [List.getElem?_toArray, lst_get _ _ _ _ _ h, Nat.zero_add]

theorem Fr_getD (n : Nat) (env : List (Nat × Value)) (s : Nat → Value) (k : Nat) (h : k < n) : (Fr n env s).tmps.getD k undef = over env s k := by
  rw [Array.getD_eq_getD_getElem?, Fr_get? n env s k h]
  rfl

theorem Fr_eval (n : Nat) (env : List (Nat × Value)) (s : Nat → Value) (k : Nat) (h : k < n) : (Fr n env s).eval (.tmp k) = over env s k := Fr_getD n env s k h

theorem over_cons (j : Nat) (v : Value) (r : List (Nat × Value)) (s : Nat → Value) (k : Nat) : over ((j, v) :: r) s k = if k = j then v else over r s k := rfl
theorem over_nil (s : Nat → Value) (k : Nat) : over [] s k = s k := rfl

theorem Fr_put (n : Nat) (env : List (Nat × Value)) (s : Nat → Value) (d : Nat) (v : Value) : (Fr n env s).put (some d) v = Fr n ((d, v) :: env) s := by
  show (⟨(lst env s n 0).toArray.setIfInBounds d v, []⟩ : Act) = ⟨(lst ((d, v) :: env) s n 0).toArray, []⟩
  congr 1
  apply Array.ext_getElem?
  intro i
  rw [Array.getElem?_setIfInBounds]
  simp only [List.size_toArray, lst_length, List.getElem?_toArray]
  rcases Nat.lt_or_ge i n with hi | hi
  · rw [lst_get _ _ _ _ _ hi, lst_get _ _ _ _ _ hi, Nat.zero_add, over_cons]
    by_cases h : d = i
    · subst h; simp [hi]
    · rw [if_neg h, if_neg (fun e => h e.symm)]
  · rw [List.getElem?_eq_none (by rw [lst_length]; exact hi), List.getElem?_eq_none (by rw [lst_length]; exact hi)]
    by_cases h : d = i
    · subst h; rw [if_pos rfl, if_neg (by omega)]
    · rw [if_neg h]

theorem Fr_put_none (n : Nat) (env : List (Nat × Value)) (s : Nat → Value) (v : Value) : (Fr n env s).put none v = Fr n env s := rfl

theorem lst_base (env : List (Nat × Value)) (s : Nat → Value) : ∀ m k, lst env s m k = lst [] (over env s) m k
  | 0, _ => rfl
  | m + 1, k => by rw [lst, lst, lst_base env s m (k + 1), over_nil]

theorem Fr_base (n : Nat) (env : List (Nat × Value)) (s : Nat → Value) : Fr n env s = Fr n [] (over env s) := by
  show (⟨⟨lst env s n 0⟩, []⟩ : Act) = ⟨⟨lst [] (over env s) n 0⟩, []⟩
  rw [lst_base]

theorem Fr_set (n : Nat) (env : List (Nat × Value)) (s : Nat → Value) (d : Nat) (v : Value) : (Fr n env s).tmps.setIfInBounds d v = (Fr n ((d, v) :: env) s).tmps := congrArg Act.tmps (Fr_put n env s d v)
theorem Fr_defers (n : Nat) (env : List (Nat × Value)) (s : Nat → Value) : (Fr n env s).defers = [] := rfl
theorem Fr_mk (n : Nat) (env : List (Nat × Value)) (s : Nat → Value) : Act.mk (Fr n env s).tmps [] = Fr n env s := rfl
attribute [go_sem ↓] Fr_set Fr_defers Fr_mk Fr_size Fr_get?
attribute [go_sem ↓] Fr_eval Fr_getD Fr_put Fr_put_none
attribute [go_sem] over_cons over_nil

theorem ov : (∀ (j : Nat) (v : Value) (r : List (Nat × Value)) (s : Nat → Value) (k : Nat), over ((j, v) :: r) s k = if k = j then v else over r s k) ∧ ∀ (s : Nat → Value) (k : Nat), over [] s k = s k := ⟨over_cons, over_nil⟩

/-- A call, from its frame as a function on. -/
theorem calls_F {P : Program} {f : FuncId} {fn : Func} {c : Code} {args : Array Value} {w : World} {R : Ending → World → Prop} (hf : P.funcs[f]? = some fn) (hb : fn.body = some c) (hn : args.size ≤ fn.ntmps)
    (h : ∀ s : Nat → Value, (∀ k, k < args.size → s k = args.getD k undef) → c.wp P (bodyPost P fn R) (Fr fn.ntmps [] s) w) : Calls P f args w R := by
  refine calls_of_wp hf hb ?_
  have e : (⟨args ++ Array.replicate (fn.ntmps - args.size) undef, []⟩ : Act) = Fr fn.ntmps [] (fun k => args.getD k undef) := by
    show _ = (⟨(Fr fn.ntmps [] (fun k => args.getD k undef)).tmps, []⟩ : Act)
    congr 1
    apply Array.ext_getElem?
    intro i
    rcases Nat.lt_or_ge i fn.ntmps with hi | hi
    · rw [Fr_get? _ _ _ _ hi, over_nil, Array.getElem?_append]
      by_cases h : i < args.size
      · rw [if_pos h]; simp [Array.getD, h]
      · rw [if_neg h, Array.getElem?_replicate, if_pos (by omega)]; simp [Array.getD, h]
    · rw [Array.getElem?_eq_none (by simp; omega), Array.getElem?_eq_none (by rw [Fr_size]; exact hi)]
  rw [e]
  exact h _ (fun _ _ => rfl)

/-- A relation of the frame and the world, which the walk does not open. -/
structure Got (R : (Nat → Value) → World → Prop) (env : List (Nat × Value)) (s : Nat → Value) (w : World) : Prop where
  out : R (over env s) w
/-- The relation of a loop at a smaller number. -/
structure Gotk (R : Nat → (Nat → Value) → World → Prop) (k : Nat) (env : List (Nat × Value)) (s : Nat → Value) (w : World) : Prop where
  out : ∃ k', k' < k ∧ R k' (over env s) w

theorem got {R R' : (Nat → Value) → World → Prop} (H : Hid (∀ s w, R s w → R' s w)) {env : List (Nat × Value)} {s : Nat → Value} {w : World} (h : R (over env s) w) : Got R' env s w := ⟨H.out _ _ h⟩
theorem gotk {R R' : Nat → (Nat → Value) → World → Prop} (H : Hid (∀ k s w, R k s w → R' k s w)) {k : Nat} {env : List (Nat × Value)} {s : Nat → Value} {w : World} (k' : Nat) (hk : k' < k) (h : R k' (over env s) w) : Gotk R' k env s w := ⟨k', hk, H.out _ _ _ h⟩

section
variable {P : Program} {n : Nat} {env : List (Nat × Value)} {s : Nat → Value} {w : World} {Q : Exit → Act → World → Prop}

theorem cond_F {t : Nat} {c1 c2 : Code} (b : Bool) (hb : over env s t = .bool b) (ht : t < n)
    (h1 : b = true → c1.wp P Q (Fr n env s) w) (h2 : b = false → c2.wp P Q (Fr n env s) w) : (Code.cond (.tmp t) c1 c2).wp P Q (Fr n env s) w := by
  have e : (Fr n env s).eval (.tmp t) = .bool b := (Fr_eval n env s t ht).trans hb
  cases b
  · exact wp_cond_split e (fun h => by cases h) (fun _ => h2 rfl)
  · exact wp_cond_split e (fun _ => h1 rfl) (fun h => by cases h)

theorem cond_yes {t : Nat} {c1 c2 : Code} (hb : over env s t = .bool true) (ht : t < n) (h1 : c1.wp P Q (Fr n env s) w) : (Code.cond (.tmp t) c1 c2).wp P Q (Fr n env s) w :=
  cond_F true hb ht (fun _ => h1) (fun h => by cases h)

theorem cond_no {t : Nat} {c1 c2 : Code} (hb : over env s t = .bool false) (ht : t < n) (h2 : c2.wp P Q (Fr n env s) w) : (Code.cond (.tmp t) c1 c2).wp P Q (Fr n env s) w :=
  cond_F false hb ht (fun h => by cases h) (fun _ => h2)

theorem cdY {t : Nat} {c1 c2 : Code} (hb : over env s t = .bool true) (h1 : c1.wp P Q (Fr n env s) w) (ht : t < n := by decide) : (Code.cond (.tmp t) c1 c2).wp P Q (Fr n env s) w := cond_yes hb ht h1
theorem cdN {t : Nat} {c1 c2 : Code} (hb : over env s t = .bool false) (h2 : c2.wp P Q (Fr n env s) w) (ht : t < n := by decide) : (Code.cond (.tmp t) c1 c2).wp P Q (Fr n env s) w := cond_no hb ht h2

/-- Ways that meet again. -/
theorem cut_F {c : Code} {K : Act → World → Prop} (R : (Nat → Value) → World → Prop)
    (first : ∀ (R' : (Nat → Value) → World → Prop) (K' : Act → World → Prop), Hid (∀ s w, R s w → R' s w) → (∀ env' s' w', Got R' env' s' w' → K' (Fr n env' s') w') → c.wp P (Exit.then K' Q) (Fr n env s) w)
    (rest : ∀ s' w', R s' w' → K (Fr n [] s') w') : c.wp P (Exit.then K Q) (Fr n env s) w :=
  first R K (fun _ _ h => h) (fun env' s' w' h => by rw [Fr_base]; exact rest _ _ h.out)

/-- A loop: a relation that bears a number, which every round lowers. -/
theorem loop_F {c : Code} (R : Nat → (Nat → Value) → World → Prop) (k0 : Nat) (h0 : R k0 (over env s) w)
    (round : ∀ k s' w', R k s' w' → ∀ (R' : Nat → (Nat → Value) → World → Prop) (K' : Act → World → Prop), Hid (∀ k s w, R k s w → R' k s w) → (∀ env' s'' w'', Gotk R' k env' s'' w'' → K' (Fr n env' s'') w'') → c.wp P (Exit.then K' Q) (Fr n [] s') w') : (Code.loop c).wp P Q (Fr n env s) w := by
  refine wp_loop_ghost (fun k a w => ∃ s', a = Fr n [] s' ∧ R k s' w) k0 ⟨over env s, Fr_base .., h0⟩ ?_
  rintro k a w ⟨s', rfl, hR⟩
  refine round k s' w hR R _ (fun _ _ _ h => h) ?_
  rintro env' s'' w'' ⟨k', hk, hR'⟩
  exact ⟨k', hk, over env' s'', Fr_base .., hR'⟩

theorem ret_F {fn : Func} {R : Ending → World → Prop} {t : Nat} (v : Value) (hr : fn.results = #[.tmp t]) (ht : t < n) (hv : over env s t = v) (hR : R (.returned v) w) : bodyPost P fn R .ret (Fr n env s) w := by
  refine bodyPost_ret (v := v) ?_ rfl hR
  rw [results_tmp hr, Fr_getD n env s t ht, hv]

theorem ret_F2 {fn : Func} {R : Ending → World → Prop} {t u : Nat} (v x : Value) (hr : fn.results = #[.tmp t, .tmp u]) (ht : t < n) (hu : u < n) (hv : over env s t = v) (hx : over env s u = x) (hR : R (.returned (.tuple #[v, x])) w) : bodyPost P fn R .ret (Fr n env s) w := by
  refine bodyPost_ret (v := .tuple #[v, x]) ?_ rfl hR
  rw [results_tmp2 hr, Fr_getD n env s t ht, Fr_getD n env s u hu, hv, hx]

theorem end_F {fn : Func} {R : Ending → World → Prop} (hr : fn.results = #[]) (hR : R (.returned (.tuple #[])) w) : bodyPost P fn R .normal (Fr n env s) w :=
  bodyPost_end (results_none hr _ _ _) rfl hR
theorem end_F_ret {fn : Func} {R : Ending → World → Prop} (hr : fn.results = #[]) (hR : R (.returned (.tuple #[])) w) : bodyPost P fn R .ret (Fr n env s) w :=
  bodyPost_ret (results_none hr _ _ _) rfl hR

end
attribute [irreducible] Fr over
end Go.Proofs.YticlnihjhcepkaaGreatDoor

/-
  Regions that draw their order, over frames as functions: one operation after the other, each by its number.
-/
namespace Go.Proofs.YticlnihjhcepkaaGreatDoor
open Go.RowKit
set_option linter.unusedSimpArgs false
set_option linter.unusedVariables false

section
variable {P : Program} {ops : Array Oper} {Q : Exit → Act → World → Prop} {md : Region.Mode} {S : World → Prop} {n : Nat} {env : List (Nat × Value)} {s : Nat → Value} {w : World} {fuel : Nat} {listed : Array Bool}

/-- An operation that yields v in every world that meets S is taken first. -/
theorem take_F (i d : Nat) {oi : Oper} {v : Value} (hi : ops[i]? = some oi) (hd : oi.dst = some d) (hs : Region.noSelect ops = true) (hf : Region.free md ops listed i = true) (hr : (Region.ready md ops listed).contains i = true)
    (hQ : ∀ c a d v w, Q (.panic c) (a.put d v) w → Q (.panic c) a w) (hw : Region.wanted oi (yielded ops (Fr n env s).tmps) = true) (hS : S w) (hy : ∀ w, S w → (execOp (Fr n env s).eval oi).run P w = .ok (.value v) w)
    (h : wpAnyH P md ops Q S fuel (listed.setIfInBounds i true) (Fr n ((d, v) :: env) s) w) : wpAnyH P md ops Q S (fuel + 1) listed (Fr n env s) w := by
  refine wpAnyH_take hi hs hf hr (fun c a w h => hQ c a _ _ w h) (Or.inl ⟨hw, hy⟩) hS ?_
  rw [hd, Fr_put]
  exact h

/-- An operation that is not wanted. -/
theorem skip_F (i d : Nat) {oi : Oper} (hi : ops[i]? = some oi) (hd : oi.dst = some d) (hs : Region.noSelect ops = true) (hf : Region.free md ops listed i = true) (hr : (Region.ready md ops listed).contains i = true)
    (hQ : ∀ c a d v w, Q (.panic c) (a.put d v) w → Q (.panic c) a w) (hw : Region.wanted oi (yielded ops (Fr n env s).tmps) = false) (hS : S w)
    (h : wpAnyH P md ops Q S fuel (listed.setIfInBounds i true) (Fr n ((d, undef) :: env) s) w) : wpAnyH P md ops Q S (fuel + 1) listed (Fr n env s) w := by
  refine wpAnyH_take hi hs hf hr (fun c a w h => hQ c a _ _ w h) (Or.inr ⟨hw, rfl⟩) hS ?_
  rw [hd, Fr_put]
  exact h

theorem take_T (i d : Nat) {oi : Oper} {v : Value} (h : wpAnyH P md ops Q S fuel (listed.setIfInBounds i true) (Fr n ((d, v) :: env) s) w) (hi : ops[i]? = some oi := by ((simp only [List.getElem?_toArray, List.getElem?_cons_succ, List.getElem?_cons_zero]); rfl)) (hd : oi.dst = some d := by rfl) (hs : Region.noSelect ops = true := by kernel_rfl) (hf : Region.free md ops listed i = true := by kernel_rfl) (hr : (Region.ready md ops listed).contains i = true := by kernel_rfl)
    (hQ : ∀ c a d v w, Q (.panic c) (a.put d v) w → Q (.panic c) a w := by intro _ _ _ _ _ h; exact h) (hw : Region.wanted oi (yielded ops (Fr n env s).tmps) = true := by (first | rfl | (simp only [Region.wanted, yielded, List.getElem?_toArray, List.getElem?_cons_succ, List.getElem?_cons_zero, Option.bind_some, Option.map_some, Fr_get?, over_cons, over_nil]; rfl) | go_simp)) (hS : S w := by assumption) (hy : ∀ w, S w → (execOp (Fr n env s).eval oi).run P w = .ok (.value v) w := by (intro w hSw; go_simp; try with_reducible rfl)) :
    wpAnyH P md ops Q S (fuel + 1) listed (Fr n env s) w := take_F i d hi hd hs hf hr hQ hw hS hy h

theorem skip_T (i d : Nat) {oi : Oper} (h : wpAnyH P md ops Q S fuel (listed.setIfInBounds i true) (Fr n ((d, undef) :: env) s) w) (hi : ops[i]? = some oi := by ((simp only [List.getElem?_toArray, List.getElem?_cons_succ, List.getElem?_cons_zero]); rfl)) (hd : oi.dst = some d := by rfl) (hs : Region.noSelect ops = true := by kernel_rfl) (hf : Region.free md ops listed i = true := by kernel_rfl) (hr : (Region.ready md ops listed).contains i = true := by kernel_rfl)
    (hQ : ∀ c a d v w, Q (.panic c) (a.put d v) w → Q (.panic c) a w := by intro _ _ _ _ _ h; exact h) (hw : Region.wanted oi (yielded ops (Fr n env s).tmps) = false := by (first | rfl | (simp only [Region.wanted, yielded, List.getElem?_toArray, List.getElem?_cons_succ, List.getElem?_cons_zero, Option.bind_some, Option.map_some, Fr_get?, over_cons, over_nil]; rfl) | go_simp)) (hS : S w := by assumption) :
    wpAnyH P md ops Q S (fuel + 1) listed (Fr n env s) w := skip_F i d hi hd hs hf hr hQ hw hS h

/-- The one operation that may come up. -/
theorem only_F (i : Nat) {oi : Oper} (hi : ops[i]? = some oi) (hr : Region.ready md ops listed = [i]) (hw : Region.wanted oi (yielded ops (Fr n env s).tmps) = true)
    (h : ∀ K : Act → World → Prop, Hid (∀ env w', S w' → wpAnyH P md ops Q S fuel (listed.setIfInBounds i true) (Fr n env s) w' → K (Fr n env s) w') → Oper.wp P oi (Fr n env s) w K Q) : wpAnyH P md ops Q S (fuel + 1) listed (Fr n env s) w := by
  refine wpAnyH_ready hr (by simp) ?_
  refine AllReadyH.cons hi (fun K hK => ?_) AllReadyH.nil
  rw [if_pos hw]
  exact h K (fun env w' hS hW => hK.out _ _ hS (fun _ => hW))
end
end Go.Proofs.YticlnihjhcepkaaGreatDoor

/-
  Plain: natural numbers in limbs of 30 bits, the least first.
-/
namespace Go.Proofs.YticlnihjhcepkaaGreatDoor
set_option linter.unusedSimpArgs false
set_option linter.unusedVariables false

def lval : List Nat → Nat
  | [] => 0
  | x :: r => x + 1073741824 * lval r
def Limbs (l : List Nat) : Prop := ∀ x ∈ l, x < 1073741824

def natL (n : Nat) : List Nat := if h : n = 0 then [] else (n % 1073741824) :: natL (n / 1073741824)
termination_by n
decreasing_by omega

theorem natL_zero : natL 0 = [] := by rw [natL, dif_pos rfl]
theorem natL_pos {n : Nat} (h : n ≠ 0) : natL n = (n % 1073741824) :: natL (n / 1073741824) := by rw [natL, dif_neg h]

theorem lval_natL (n : Nat) : lval (natL n) = n := by
  induction n using Nat.strongRecOn with
  | ind n ih =>
    by_cases h : n = 0
    · subst h; rw [natL_zero]; rfl
    · rw [natL_pos h, lval, ih _ (by omega)]; omega

theorem natL_limbs (n : Nat) : Limbs (natL n) := by
  induction n using Nat.strongRecOn with
  | ind n ih =>
    by_cases h : n = 0
    · subst h; rw [natL_zero]; intro x hx; cases hx
    · rw [natL_pos h]
      intro x hx
      rcases List.mem_cons.1 hx with rfl | hx
      · omega
      · exact ih _ (by omega) x hx

theorem Limbs.cons {x : Nat} {l : List Nat} (h : Limbs (x :: l)) : x < 1073741824 ∧ Limbs l := ⟨h x (by simp), fun y hy => h y (by simp [hy])⟩
theorem Limbs.append {a b : List Nat} (ha : Limbs a) (hb : Limbs b) : Limbs (a ++ b) := fun x hx => (List.mem_append.1 hx).elim (ha x) (hb x)
theorem Limbs.one {x : Nat} (h : x < 1073741824) : Limbs [x] := fun y hy => by rw [List.mem_singleton.1 hy]; exact h
theorem Limbs.nil : Limbs [] := fun y hy => by cases hy
theorem Limbs.take {l : List Nat} (h : Limbs l) (n : Nat) : Limbs (l.take n) := fun x hx => h x (List.mem_of_mem_take hx)
theorem Limbs.set {l : List Nat} (h : Limbs l) (k x : Nat) (hx : x < 1073741824) : Limbs (l.set k x) := fun y hy => by
  rcases List.mem_or_eq_of_mem_set hy with h1 | h1
  · exact h y h1
  · rw [h1]; exact hx
theorem Limbs.rep (n : Nat) : Limbs (List.replicate n 0) := fun x hx => by rw [(List.mem_replicate.1 hx).2]; omega
theorem Limbs.getD {l : List Nat} (h : Limbs l) (i : Nat) : l.getD i 0 < 1073741824 := by
  rw [List.getD_eq_getElem?_getD]
  cases hx : l[i]? with
  | none => simp
  | some x => exact h x (List.mem_of_getElem? hx)

theorem lval_append (a b : List Nat) : lval (a ++ b) = lval a + 1073741824 ^ a.length * lval b := by
  induction a with
  | nil => simp [lval]
  | cons x r ih => rw [List.cons_append, lval, lval, ih, List.length_cons, Nat.pow_succ, Nat.mul_add, ← Nat.mul_assoc, Nat.mul_comm (1073741824 ^ r.length) 1073741824]; omega
theorem lval_one (x : Nat) : lval [x] = x := by simp [lval]
theorem lval_lt {l : List Nat} (h : Limbs l) : lval l < 1073741824 ^ l.length := by
  induction l with
  | nil => simp [lval]
  | cons x r ih =>
    have h1 := ih h.cons.2
    have h2 := h.cons.1
    rw [lval, List.length_cons, Nat.pow_succ]
    have : 1073741824 * lval r + 1073741824 ≤ 1073741824 ^ r.length * 1073741824 := by
      rw [Nat.mul_comm (1073741824 ^ r.length)]
      have := Nat.mul_le_mul_left 1073741824 (show lval r + 1 ≤ 1073741824 ^ r.length from h1)
      omega
    omega
theorem lval_rep (n : Nat) : lval (List.replicate n 0) = 0 := by
  induction n with
  | zero => rfl
  | succ n ih => rw [List.replicate_succ, lval, ih]
theorem take_getD (l : List Nat) (i : Nat) (h : i < l.length) : l.take (i + 1) = l.take i ++ [l.getD i 0] := by
  rw [List.take_add_one, List.getElem?_eq_getElem h, List.getD_eq_getElem?_getD, List.getElem?_eq_getElem h]; rfl
theorem lval_take (l : List Nat) (i : Nat) (h : i < l.length) : lval (l.take (i + 1)) = lval (l.take i) + 1073741824 ^ i * l.getD i 0 := by
  rw [take_getD l i h, lval_append, lval_one, List.length_take, Nat.min_eq_left (by omega)]
theorem lval_take_ge (l : List Nat) (i : Nat) (h : l.length ≤ i) : lval (l.take i) = lval l := by rw [List.take_of_length_le h]
/-- One more limb, wherever the number ends. -/
theorem lval_step (l : List Nat) (i : Nat) : lval (l.take (i + 1)) = lval (l.take i) + 1073741824 ^ i * l.getD i 0 := by
  rcases Nat.lt_or_ge i l.length with h | h
  · exact lval_take l i h
  · rw [lval_take_ge l _ (by omega), lval_take_ge l i h, List.getD_eq_getElem?_getD, List.getElem?_eq_none h]; simp

theorem lval_set (l : List Nat) (k x : Nat) (h : k < l.length) : lval (l.set k x) + 1073741824 ^ k * l.getD k 0 = lval l + 1073741824 ^ k * x := by
  induction l generalizing k with
  | nil => simp at h
  | cons y r ih =>
    cases k with
    | zero => simp [lval, List.getD]; omega
    | succ k =>
      have := ih k (by simpa using h)
      rw [List.set_cons_succ, lval, lval, List.getD_cons_succ, Nat.pow_succ, Nat.mul_comm (1073741824 ^ k) 1073741824, Nat.mul_assoc, Nat.mul_assoc]
      omega

/-- How many limbs are left without leading zeros. -/
def trimK (l : List Nat) : Nat → Nat
  | 0 => 0
  | n + 1 => if l.getD n 0 = 0 then trimK l n else n + 1
theorem trimK_le (l : List Nat) : ∀ n, trimK l n ≤ n
  | 0 => Nat.le_refl _
  | n + 1 => by
    rw [trimK]
    split
    · exact Nat.le_succ_of_le (trimK_le l n)
    · exact Nat.le_refl _

/-- The limbs without leading zeros are the number's. -/
theorem natL_of {l : List Nat} (h : Limbs l) (hl : l = [] ∨ l.getD (l.length - 1) 0 ≠ 0) : natL (lval l) = l := by
  induction l with
  | nil => exact natL_zero
  | cons x r ih =>
    have hx := h.cons.1
    have hr : r = [] ∨ r.getD (r.length - 1) 0 ≠ 0 := by
      cases r with
      | nil => exact Or.inl rfl
      | cons y s =>
        right
        rcases hl with h0 | h0
        · cases h0
        · simpa [List.getD] using h0
    have h1 := ih h.cons.2 hr
    have hne : lval (x :: r) ≠ 0 := by
      rw [lval]
      cases r with
      | nil =>
        rcases hl with h0 | h0
        · cases h0
        · simp [List.getD] at h0
          simp [lval]; omega
      | cons y s =>
        intro h2
        have h3 : lval (y :: s) = 0 := by omega
        rw [h3, natL_zero] at h1
        cases h1
    rw [natL_pos hne]
    have e1 : lval (x :: r) % 1073741824 = x := by rw [lval]; omega
    have e2 : lval (x :: r) / 1073741824 = lval r := by rw [lval]; omega
    rw [e1, e2, h1]

theorem trim_natL (l : List Nat) (h : Limbs l) : ∀ n, n ≤ l.length → l.take (trimK l n) = natL (lval (l.take n))
  | 0, _ => by rw [trimK]; simp [lval, natL_zero]
  | n + 1, hn => by
    rw [trimK]
    split
    · next h0 =>
      rw [trim_natL l h n (by omega), lval_take l n (by omega), h0, Nat.mul_zero, Nat.add_zero]
    · next h0 =>
      refine (natL_of (h.take _) (Or.inr ?_)).symm
      rw [List.length_take, Nat.min_eq_left hn, Nat.add_sub_cancel, List.getD_eq_getElem?_getD, List.getElem?_take_of_lt (by omega), ← List.getD_eq_getElem?_getD]
      exact h0

theorem natL_ne {n : Nat} (h : n ≠ 0) : natL n ≠ [] := by rw [natL_pos h]; simp
theorem natL_last (n : Nat) (h : n ≠ 0) : (natL n).getD ((natL n).length - 1) 0 ≠ 0 := by
  induction n using Nat.strongRecOn with
  | ind n ih =>
    rw [natL_pos h]
    by_cases h2 : n / 1073741824 = 0
    · rw [h2, natL_zero]
      simp [List.getD]
      omega
    · have h3 := ih (n / 1073741824) (by omega) h2
      have h4 := natL_ne h2
      cases hr : natL (n / 1073741824) with
      | nil => exact absurd hr h4
      | cons y s =>
        rw [hr] at h3
        simpa [List.getD] using h3
theorem natL_lt (n : Nat) : n < 1073741824 ^ (natL n).length := by
  have := lval_lt (natL_limbs n)
  rwa [lval_natL] at this
theorem natL_le (n : Nat) (h : n ≠ 0) : 1073741824 ^ ((natL n).length - 1) ≤ n := by
  have h1 := natL_last n h
  have h2 := natL_ne h
  obtain ⟨k, hk⟩ : ∃ k, (natL n).length = k + 1 := by
    cases hr : natL n with
    | nil => exact absurd hr h2
    | cons y s => exact ⟨s.length, rfl⟩
  rw [hk, Nat.add_sub_cancel] at h1 ⊢
  have h3 := lval_take (natL n) k (by omega)
  rw [lval_take_ge (natL n) (k + 1) (by omega), lval_natL] at h3
  have h4 : 1073741824 ^ k * 1 ≤ 1073741824 ^ k * (natL n).getD k 0 := Nat.mul_le_mul_left _ (by omega)
  omega
theorem natL_len_le {n k : Nat} (h : n < 1073741824 ^ k) : (natL n).length ≤ k := by
  by_cases h0 : n = 0
  · subst h0; rw [natL_zero]; simp
  · have h1 := natL_le n h0
    have h2 : 1073741824 ^ ((natL n).length - 1) < 1073741824 ^ k := Nat.lt_of_le_of_lt h1 h
    have h3 := (Nat.pow_lt_pow_iff_right (by decide)).1 h2
    omega
theorem natL_mono {a b : Nat} (h : a ≤ b) : (natL a).length ≤ (natL b).length := natL_len_le (Nat.lt_of_le_of_lt h (natL_lt b))
end Go.Proofs.YticlnihjhcepkaaGreatDoor

/-
  Slices of int of the call's own ('OwnI'), and such that are only read ('RdI').
-/
namespace Go.Proofs.YticlnihjhcepkaaGreatDoor
open Go.RowKit
set_option linter.unusedSimpArgs false
set_option linter.unusedVariables false

def encI (x : Nat) : Value := .int .i64 (x : Int)

def OwnI (T : Nat) (w : World) (v : Value) (xs : List Nat) : Prop := Own w v (xs.map encI) ∧ ∀ k, v.ownBlock = some k → T ≤ k

theorem OwnI.alloc {T : Nat} {w : World} {v : Value} {xs : List Nat} (h : OwnI T w v xs) (o : Obj) : OwnI T (w.alloc o) v xs := ⟨h.1.alloc o, h.2⟩
theorem OwnI.drewN {T : Nat} {w : World} {v : Value} {xs : List Nat} (h : OwnI T w v xs) (n : Nat) : OwnI T (w.drewN n) v xs := ⟨h.1.drewN n, h.2⟩
theorem OwnI.drew {T : Nat} {w : World} {v : Value} {xs : List Nat} (h : OwnI T w v xs) : OwnI T w.drew v xs := h.drewN 1
theorem OwnI.grown {T : Nat} {w w' : World} {row : Option Nat} {v : Value} {xs : List Nat} (h : OwnI T w v xs) (hg : w.grownBy w' row) (hne : v.ownBlock ≠ row) : OwnI T w' v xs := ⟨h.1.grown hg hne, h.2⟩
theorem OwnI.block {T : Nat} {w : World} {v : Value} {xs : List Nat} (h : OwnI T w v xs) : ∃ g c, v = .slice (some ⟨g, 0, none⟩) xs.length c ∧ T ≤ g ∧ g < w.heap.size ∧ xs.length ≤ c ∧ c ≤ maxLen := by
  obtain ⟨⟨g, rest, rfl, hr, hm⟩, hT⟩ := h
  rw [List.length_map] at *
  exact ⟨g, _, rfl, hT g rfl, hr.lt, Nat.le_add_right _ _, hm⟩
theorem OwnI.grown0 {T : Nat} {w w' : World} {v : Value} {xs : List Nat} (h : OwnI T w v xs) (hg : w.grownBy w' none) : OwnI T w' v xs := by
  obtain ⟨g, c, rfl, _⟩ := h.block
  exact h.grown hg (by simp [Value.ownBlock])
theorem OwnI.lt {T : Nat} {w : World} {v : Value} {xs : List Nat} (h : OwnI T w v xs) : T < w.heap.size := by
  obtain ⟨g, c, rfl, h1, h2, _⟩ := h.block
  omega
theorem OwnI.cell {T : Nat} {w : World} {g c L : Nat} {xs : List Nat} (h : OwnI T w (.slice (some ⟨g, 0, none⟩) L c) xs) (i u : Nat) (hi : xs[i]? = some u) : w.cell? ⟨g, i, none⟩ = some (encI u) := by
  obtain ⟨⟨g', rest, hv, hr, hm⟩, _⟩ := h
  simp only [Value.slice.injEq, Option.some.injEq, Addr.mk.injEq] at hv
  obtain ⟨⟨rfl, _⟩, _⟩ := hv
  have hl : i < xs.length := by
    rcases Nat.lt_or_ge i xs.length with h | h
    · exact h
    · rw [List.getElem?_eq_none h] at hi; cases hi
  rw [hr.cell, List.getElem?_append_left (by rw [List.length_map]; exact hl), List.getElem?_map, hi]
  rfl
theorem OwnI.frozen {T : Nat} {w : World} {g c L : Nat} {xs : List Nat} (h : OwnI T w (.slice (some ⟨g, 0, none⟩) L c) xs) (i : Nat) : w.frozen? ⟨g, i, none⟩ = false := by
  obtain ⟨⟨g', rest, hv, hr, hm⟩, _⟩ := h
  simp only [Value.slice.injEq, Option.some.injEq, Addr.mk.injEq] at hv
  obtain ⟨⟨rfl, _⟩, _⟩ := hv
  exact hr.frozen i
/-- One number is laid. -/
theorem OwnI.laid {T : Nat} {w : World} {g c L : Nat} {xs : List Nat} (k x : Nat) (hk : k < xs.length) (h : OwnI T w (.slice (some ⟨g, 0, none⟩) L c) xs) :
    OwnI T (w.setCell ⟨g, k, none⟩ (encI x)) (.slice (some ⟨g, 0, none⟩) L c) (xs.set k x) := by
  obtain ⟨⟨g', rest, hv, hr, hm⟩, hT⟩ := h
  simp only [Value.slice.injEq, Option.some.injEq, Addr.mk.injEq] at hv
  obtain ⟨⟨rfl, _⟩, hL, hc⟩ := hv
  refine ⟨⟨g, rest, ?_, ?_, ?_⟩, hT⟩
  · rw [hL, hc]; simp
  · have h1 := hr.setCell k (encI x)
    rw [List.set_append_left _ _ (by rw [List.length_map]; exact hk), ← List.map_set] at h1
    exact h1
  · simpa using hm

def IntTy (P : Program) (t : TypeId) : Prop := ∃ e i z, P.underlying t = some (.slice e) ∧ P.info? e = some i ∧ i.zero = some z ∧ i.size = 1 ∧ z.cells.size = 1 ∧ i.bytes = 8

/-- append of numbers, over a frame that is a function. -/
theorem wpList_appI {P : Program} {ops : Array Oper} {rest : List Oper} {o : Oper} {Q : Exit → Act → World → Prop} {w : World} {n : Nat} {env : List (Nat × Value)} {σ : Nat → Value} (hgd : o.guard = none) (ks kx : Nat) (t tx : TypeId)
    (ho : o.op = .call { callee := .builtin .append, args := #[.tmp ks, .tmp kx], argTypes := #[t, tx] }) (hks : ks < n) (hkx : kx < n) (hty : IntTy P t) {T : Nat} {v : Value} {xs : List Nat} (hown : OwnI T w v xs) (hs : over env σ ks = v)
    (xv : Value) (hx : over env σ kx = xv) (ys : List Nat) (hsrc : Src P 1 tx xv ys.length (ys.map encI) w) (hb : xs.length + ys.length ≤ 10000000)
    (h : ∀ v' w', OwnI T w' v' (xs ++ ys) → Stp w v w' v' → wpList P ops Q rest ((Fr n env σ).put o.dst v') w') : wpList P ops Q (o :: rest) (Fr n env σ) w := by
  obtain ⟨e, i, z, h1, h2, h3, h4, h5, h6⟩ := hty
  have hlt := hown.lt
  obtain ⟨v', w', hrun, hown', hstp⟩ := run_append_Own (P := P) w t tx o.type e i z h1 h2 h3 h4 h5 v (xs.map encI) hown.1 xv ys.length (ys.map encI) hsrc (by rw [h6]; simp only [List.length_map]; omega) (by omega)
  have es := (Fr_eval n env σ ks hks).trans hs
  have ex := (Fr_eval n env σ kx hkx).trans hx
  refine wpList_plain hgd fun K hK => ?_
  unfold Oper.wp execOp
  simp only [ho, resolve, invoke, builtin, Sem.run_bind, Sem.run_pure, Result.andThen_ok, List.map_toArray, List.map_cons, List.map_nil, es, ex, hrun]
  refine hK _ _ (h v' w' ⟨by rw [List.map_append]; exact hown', fun k hk => ?_⟩ hstp)
  by_cases hkl : k < w.heap.size
  · exact hown.2 k (hstp.2 k hk hkl)
  · omega

theorem src_int {P : Program} {w : World} {tx e' : TypeId} (hk : P.underlying tx = some (.slice e')) (x : Nat) (E : TypeId) :
    Src P 1 tx (.slice (some ⟨w.heap.size, 0, none⟩) 1 1) [x].length ([x].map encI) (w.alloc (.cells #[.int .i64 (x : Int)] E)) := by
  refine Src.ofSlice _ hk ⟨w.heap.size, 0, none⟩ 1 1 _ (by simp) (fun j u hj => ?_) (fun u hu => ?_)
  · cases j with
    | zero =>
      have hr := Row.new w [encI x] E
      have := hr.cell 0
      simp only [List.map_cons, List.map_nil, List.getElem?_cons_zero] at this hj
      rw [← hj]
      exact this
    | succ j => simp at hj
  · simp only [List.map_cons, List.map_nil, List.mem_singleton] at hu
    rw [hu]; rfl

/-- v reads as these numbers. -/
def RdI (w : World) (v : Value) (xs : List Nat) : Prop :=
  (v = .slice none 0 0 ∧ xs = []) ∨ ∃ (g c : Nat), v = .slice (some ⟨g, 0, none⟩) xs.length c ∧ xs.length ≤ c ∧ c ≤ maxLen ∧ ∀ (j u : Nat), xs[j]? = some u → w.cell? ⟨g, j, none⟩ = some (encI u)

theorem cellI_grown {w w' : World} (hg : w.grownBy w' none) {a : Addr} {v : Value} (h : w.cell? a = some v) : w'.cell? a = some v := by
  rw [World.cell?_of_block (hg.block a.block ?_ (by simp)), h]
  rcases Nat.lt_or_ge a.block w.heap.size with h1 | h1
  · exact h1
  · rw [World.cell?, Array.getElem?_eq_none h1] at h
    simp at h
theorem RdI.grown {w w' : World} {v : Value} {xs : List Nat} (h : RdI w v xs) (hg : w.grownBy w' none) : RdI w' v xs := by
  rcases h with h | ⟨g, c, h1, h2, h3, h4⟩
  · exact Or.inl h
  · exact Or.inr ⟨g, c, h1, h2, h3, fun j u hu => cellI_grown hg (h4 j u hu)⟩
theorem RdI.of_own {T : Nat} {w : World} {v : Value} {xs : List Nat} (h : OwnI T w v xs) : RdI w v xs := by
  obtain ⟨g, c, rfl, _, _, h1, h2⟩ := h.block
  exact Or.inr ⟨g, c, rfl, h1, h2, fun j u hu => h.cell j u hu⟩
theorem RdI.len {w : World} {v : Value} {xs : List Nat} (h : RdI w v xs) : ∃ a c, v = .slice a xs.length c := by
  rcases h with ⟨rfl, rfl⟩ | ⟨g, c, rfl, _⟩
  · exact ⟨_, _, rfl⟩
  · exact ⟨_, _, rfl⟩
theorem RdI.at {w : World} {a : Option Addr} {L c : Nat} {xs : List Nat} (h : RdI w (.slice a L c) xs) (hne : xs ≠ []) : ∃ g, a = some ⟨g, 0, none⟩ ∧ L = xs.length ∧ L ≤ c ∧ c ≤ maxLen ∧ ∀ (j u : Nat), xs[j]? = some u → w.cell? ⟨g, j, none⟩ = some (encI u) := by
  rcases h with ⟨_, h⟩ | ⟨g, c', h1, h2, h3, h4⟩
  · exact absurd h hne
  · simp only [Value.slice.injEq] at h1
    obtain ⟨rfl, rfl, rfl⟩ := h1
    exact ⟨g, rfl, rfl, h2, h3, h4⟩
/-- The first numbers as a source of append. -/
theorem RdI.head {P : Program} {w : World} {tx e' : TypeId} (hk : P.underlying tx = some (.slice e')) {g : Nat} {xs : List Nat} (h : ∀ (j u : Nat), xs[j]? = some u → w.cell? ⟨g, j, none⟩ = some (encI u)) (n c : Nat) (hn : n ≤ xs.length) :
    Src P 1 tx (.slice (some ⟨g, 0, none⟩) n c) (xs.take n).length ((xs.take n).map encI) w := by
  have hl : (xs.take n).length = n := by rw [List.length_take]; omega
  rw [hl]
  refine Src.ofSlice _ hk ⟨g, 0, none⟩ n c _ (by rw [List.length_map, hl, Nat.mul_one]) (fun j u hj => ?_) (fun u hu => ?_)
  · have e : ((⟨g, 0, none⟩ : Addr).add j) = ⟨g, j, none⟩ := by
      unfold Addr.add; split
      · subst_vars; rfl
      · simp
    rw [e]
    rw [List.getElem?_map] at hj
    cases hx : (xs.take n)[j]? with
    | none => rw [hx] at hj; cases hj
    | some x =>
      rw [hx] at hj
      cases hj
      have hjn : j < n := by
        rcases Nat.lt_or_ge j n with h | h
        · exact h
        · rw [List.getElem?_eq_none (by omega)] at hx; cases hx
      rw [List.getElem?_take_of_lt hjn] at hx
      exact h j x hx
  · obtain ⟨b, _, rfl⟩ := List.mem_map.1 hu
    rfl
theorem OwnI.fresh0 {T : Nat} {w : World} (hT : T ≤ w.heap.size) (e : TypeId) : OwnI T (w.alloc (.cells #[] e)) (.slice (some ⟨w.heap.size, 0, none⟩) 0 0) [] := by
  refine ⟨⟨w.heap.size, [], rfl, Row.new w [] e, by simp [maxLen]⟩, fun k hk => ?_⟩
  simp [Value.ownBlock] at hk
  omega
/-- A slice of the call's own that began as a new block. -/
theorem grown_ownI {T : Nat} {w w1 w2 : World} {v v2 : Value} {xs : List Nat} (hT : w.heap.size ≤ T) (h1 : w.grownBy w1 none) (ho : OwnI T w1 v xs) (hs : Stp w1 v w2 v2) : w.grownBy w2 none :=
  grown_trans h1 hs.1 (fun j e hj => by have := ho.2 j e; omega)
end Go.Proofs.YticlnihjhcepkaaGreatDoor

/-
  Plain: the steps of addition, subtraction, multiplication, shifting and division in limbs of 30 bits.
-/
namespace Go.Proofs.YticlnihjhcepkaaGreatDoor
set_option linter.unusedSimpArgs false
set_option linter.unusedVariables false

theorem pow_B (k : Nat) : 1073741824 ^ k = 2 ^ (30 * k) := by rw [Nat.pow_mul]

/-- A limb of a number. -/
theorem natL_getD (n : Nat) : ∀ i, (natL n).getD i 0 = n / 1073741824 ^ i % 1073741824 := by
  induction n using Nat.strongRecOn with
  | ind n ih =>
    intro i
    by_cases h : n = 0
    · subst h; rw [natL_zero]; simp [List.getD]
    · rw [natL_pos h]
      cases i with
      | zero => simp [List.getD]
      | succ i =>
        rw [List.getD_cons_succ, ih _ (by omega), Nat.pow_succ, Nat.mul_comm, ← Nat.div_div_eq_div_mul]

/-- A limb of a list. -/
theorem limb_of {l : List Nat} (h : Limbs l) : ∀ i, l.getD i 0 = lval l / 1073741824 ^ i % 1073741824 := by
  induction l with
  | nil => intro i; simp [List.getD, lval]
  | cons x r ih =>
    intro i
    have hx := h.cons.1
    cases i with
    | zero => simp [List.getD, lval]; omega
    | succ i =>
      rw [List.getD_cons_succ, ih h.cons.2, Nat.pow_succ, Nat.mul_comm, ← Nat.div_div_eq_div_mul, lval]
      congr 2
      omega

/-- Addition: one limb more. -/
theorem add_step {a b out : List Nat} {i c x : Nat} (hi : out.length = i) (h : lval out + 1073741824 ^ i * c = lval (a.take i) + lval (b.take i)) (hx : x = a.getD i 0 + b.getD i 0 + c) :
    lval (out ++ [x % 1073741824]) + 1073741824 ^ (i + 1) * (x / 1073741824) = lval (a.take (i + 1)) + lval (b.take (i + 1)) := by
  rw [lval_append, lval_one, hi, lval_step a, lval_step b, Nat.pow_succ, Nat.mul_assoc]
  have e : 1073741824 ^ i * (x % 1073741824) + 1073741824 ^ i * (1073741824 * (x / 1073741824)) = 1073741824 ^ i * x := by
    rw [← Nat.mul_add, Nat.mod_add_div]
  have e2 : 1073741824 ^ i * x = 1073741824 ^ i * a.getD i 0 + 1073741824 ^ i * b.getD i 0 + 1073741824 ^ i * c := by rw [hx, Nat.mul_add, Nat.mul_add]
  omega

/-- Subtraction: one limb more; y: the new limb, br': the new borrow. -/
theorem sub_step {a b out : List Nat} {i br y br' : Nat} (hi : out.length = i) (h : lval out + lval (b.take i) = lval (a.take i) + 1073741824 ^ i * br)
    (hy : y + b.getD i 0 + br = a.getD i 0 + 1073741824 * br') :
    lval (out ++ [y]) + lval (b.take (i + 1)) = lval (a.take (i + 1)) + 1073741824 ^ (i + 1) * br' := by
  rw [lval_append, lval_one, hi, lval_step a, lval_step b, Nat.pow_succ, Nat.mul_assoc]
  have e := congrArg (1073741824 ^ i * ·) hy
  simp only [Nat.mul_add] at e
  omega
theorem sub_end {out : List Nat} {a b br : Nat} (hl : Limbs out) (h : lval out + b = a + 1073741824 ^ out.length * br) (hab : b ≤ a) : lval out = a - b := by
  have h1 := lval_lt hl
  cases br with
  | zero => omega
  | succ br =>
    rw [Nat.mul_succ] at h
    omega

/-- Multiplication: one limb more of one row. -/
theorem mul_step {out b : List Nat} {i j x c z P : Nat} (hl : i + j < out.length) (h : lval out + 1073741824 ^ (i + j) * c = P + 1073741824 ^ i * (x * lval (b.take j))) (hz : z = out.getD (i + j) 0 + x * b.getD j 0 + c) :
    lval (out.set (i + j) (z % 1073741824)) + 1073741824 ^ (i + (j + 1)) * (z / 1073741824) = P + 1073741824 ^ i * (x * lval (b.take (j + 1))) := by
  have h1 := lval_set out (i + j) (z % 1073741824) hl
  rw [lval_step b]
  have e1 : 1073741824 ^ (i + (j + 1)) * (z / 1073741824) = 1073741824 ^ (i + j) * (1073741824 * (z / 1073741824)) := by
    rw [← Nat.add_assoc, Nat.pow_succ, Nat.mul_assoc]
  have e2 : 1073741824 ^ (i + j) * (z % 1073741824) + 1073741824 ^ (i + j) * (1073741824 * (z / 1073741824)) = 1073741824 ^ (i + j) * z := by
    rw [← Nat.mul_add, Nat.mod_add_div]
  have e3 : 1073741824 ^ i * (x * (lval (b.take j) + 1073741824 ^ j * b.getD j 0)) = 1073741824 ^ i * (x * lval (b.take j)) + 1073741824 ^ (i + j) * (x * b.getD j 0) := by
    rw [Nat.mul_add, Nat.mul_add, Nat.pow_add]
    congr 1
    rw [Nat.mul_left_comm x, ← Nat.mul_assoc, ← Nat.mul_assoc, Nat.mul_assoc (1073741824 ^ i * 1073741824 ^ j)]
  have e4 : 1073741824 ^ (i + j) * z = 1073741824 ^ (i + j) * out.getD (i + j) 0 + 1073741824 ^ (i + j) * (x * b.getD j 0) + 1073741824 ^ (i + j) * c := by rw [hz, Nat.mul_add, Nat.mul_add]
  rw [e1, e3]
  omega

/-- How many binary digits. -/
def nbits (n : Nat) : Nat := if n = 0 then 0 else n.log2 + 1
theorem nbits_lt (n : Nat) : n < 2 ^ nbits n := by
  unfold nbits
  split
  · subst_vars; simp
  · exact Nat.lt_log2_self
theorem nbits_le {n : Nat} (h : n ≠ 0) : 2 ^ (nbits n - 1) ≤ n := by
  unfold nbits
  rw [if_neg h, Nat.add_sub_cancel]
  exact Nat.log2_self_le h
theorem nbits_pos {n : Nat} (h : n ≠ 0) : 1 ≤ nbits n := by unfold nbits; rw [if_neg h]; omega
theorem nbits_of {n k : Nat} (h1 : 2 ^ k ≤ n) (h2 : n < 2 ^ (k + 1)) : nbits n = k + 1 := by
  have hp : 0 < 2 ^ k := Nat.pow_pos (by decide)
  have h0 : n ≠ 0 := by omega
  have a := nbits_lt n
  have b := nbits_le h0
  have c := nbits_pos h0
  have d1 := (Nat.pow_lt_pow_iff_right (a := 2) (by decide)).1 (Nat.lt_of_le_of_lt h1 a)
  have d2 := (Nat.pow_lt_pow_iff_right (a := 2) (by decide)).1 (Nat.lt_of_le_of_lt b h2)
  omega
theorem nbits_half {n : Nat} (h : n ≠ 0) : nbits n = nbits (n / 2) + 1 := by
  by_cases h2 : n / 2 = 0
  · have : n = 1 := by omega
    subst this
    rfl
  · have a := nbits_le h2
    have b := nbits_lt (n / 2)
    have c := nbits_pos h2
    obtain ⟨k, hk⟩ : ∃ k, nbits (n / 2) = k + 1 := ⟨nbits (n / 2) - 1, by omega⟩
    rw [hk, Nat.add_sub_cancel] at a
    rw [hk] at b ⊢
    refine nbits_of ?_ ?_
    · rw [Nat.pow_succ]; omega
    · rw [Nat.pow_succ]; omega
theorem nbits_limbs {n : Nat} (h : n ≠ 0) : nbits n = ((natL n).length - 1) * 30 + nbits ((natL n).getD ((natL n).length - 1) 0) := by
  have h1 := natL_last n h
  have h2 := natL_lt n
  obtain ⟨k, hk⟩ : ∃ k, (natL n).length = k + 1 := by
    cases hr : natL n with
    | nil => exact absurd hr (natL_ne h)
    | cons y s => exact ⟨s.length, rfl⟩
  rw [hk, Nat.add_sub_cancel] at h1 ⊢
  rw [hk] at h2
  have h3 := lval_take (natL n) k (by omega)
  rw [lval_take_ge (natL n) (k + 1) (by omega), lval_natL] at h3
  have h4 := lval_lt ((natL_limbs n).take k)
  rw [List.length_take, Nat.min_eq_left (by omega)] at h4
  generalize (natL n).getD k 0 = t at *
  generalize lval ((natL n).take k) = r at *
  have a := nbits_le h1
  have b := nbits_lt t
  have c := nbits_pos h1
  obtain ⟨m, hm⟩ : ∃ m, nbits t = m + 1 := ⟨nbits t - 1, by omega⟩
  rw [hm, Nat.add_sub_cancel] at a
  rw [hm] at b ⊢
  rw [pow_B] at h3 h4
  have e : k * 30 + (m + 1) = (30 * k + m) + 1 := by omega
  rw [e]
  refine nbits_of ?_ ?_
  · rw [h3, Nat.pow_add]
    have := Nat.mul_le_mul_left (2 ^ (30 * k)) a
    omega
  · rw [h3, show 30 * k + m + 1 = 30 * k + (m + 1) by omega, Nat.pow_add]
    have := Nat.mul_le_mul_left (2 ^ (30 * k)) (show t + 1 ≤ 2 ^ (m + 1) from b)
    rw [Nat.mul_add, Nat.mul_one] at this
    omega

/-- A binary digit. -/
theorem bit_of (a n : Nat) : (natL a).getD (n / 30) 0 / 2 ^ (n % 30) % 2 = a / 2 ^ n % 2 := by
  rw [natL_getD, pow_B]
  have e : n = 30 * (n / 30) + n % 30 := by omega
  have h30 : n % 30 < 30 := Nat.mod_lt _ (by decide)
  have h1 : a / 2 ^ n = a / 2 ^ (30 * (n / 30)) / 2 ^ (n % 30) := by
    rw [Nat.div_div_eq_div_mul, ← Nat.pow_add, ← e]
  rw [h1]
  generalize a / 2 ^ (30 * (n / 30)) = q
  generalize n % 30 = r at h30
  have h2 : 1073741824 = 2 ^ r * 2 ^ (30 - r) := by rw [← Nat.pow_add, show r + (30 - r) = 30 by omega]
  have h3 : 2 ^ (30 - r) = 2 * 2 ^ (29 - r) := by rw [show 30 - r = (29 - r) + 1 by omega, Nat.pow_succ, Nat.mul_comm]
  rw [h2, Nat.mod_mul_right_div_self, h3, Nat.mod_mul_right_mod]

/-- Shifting up: one limb more. -/
theorem shift_step {a out : List Nat} {i k s c y : Nat} (hi : out.length = k + i) (h : lval out + 1073741824 ^ (k + i) * c = 1073741824 ^ k * (lval (a.take i) * 2 ^ s)) (hy : y = a.getD i 0 * 2 ^ s + c) :
    lval (out ++ [y % 1073741824]) + 1073741824 ^ (k + (i + 1)) * (y / 1073741824) = 1073741824 ^ k * (lval (a.take (i + 1)) * 2 ^ s) := by
  rw [lval_append, lval_one, hi, lval_step a, ← Nat.add_assoc, Nat.pow_succ, Nat.mul_assoc, Nat.add_mul, Nat.mul_add]
  have e : 1073741824 ^ (k + i) * (y % 1073741824) + 1073741824 ^ (k + i) * (1073741824 * (y / 1073741824)) = 1073741824 ^ (k + i) * y := by
    rw [← Nat.mul_add, Nat.mod_add_div]
  have e2 : 1073741824 ^ (k + i) * y = 1073741824 ^ (k + i) * (a.getD i 0 * 2 ^ s) + 1073741824 ^ (k + i) * c := by rw [hy, Nat.mul_add]
  have e3 : 1073741824 ^ k * (1073741824 ^ i * a.getD i 0 * 2 ^ s) = 1073741824 ^ (k + i) * (a.getD i 0 * 2 ^ s) := by rw [Nat.pow_add, Nat.mul_assoc, Nat.mul_assoc]
  omega

/-- Without the last binary digits: a limb. -/
theorem high_limb (a n i : Nat) : ((natL a).getD (n / 30 + i) 0 / 2 ^ (n % 30) + (natL a).getD (n / 30 + i + 1) 0 * 2 ^ (30 - n % 30)) % 1073741824 = a / 2 ^ n / 1073741824 ^ i % 1073741824 := by
  rw [natL_getD, natL_getD, pow_B, pow_B, pow_B]
  have h30 : n % 30 < 30 := Nat.mod_lt _ (by decide)
  have e0 : n = 30 * (n / 30) + n % 30 := by omega
  generalize hq : n / 30 = q at *
  generalize hr : n % 30 = r at *
  have e1 : a / 2 ^ n / 2 ^ (30 * i) = a / 2 ^ (30 * (q + i)) / 2 ^ r := by
    rw [Nat.div_div_eq_div_mul, Nat.div_div_eq_div_mul, ← Nat.pow_add, ← Nat.pow_add]
    congr 2
    omega
  have e2 : a / 2 ^ (30 * (q + i + 1)) = a / 2 ^ (30 * (q + i)) / 1073741824 := by
    rw [Nat.div_div_eq_div_mul, show (1073741824 : Nat) = 2 ^ 30 by rfl, ← Nat.pow_add]
    congr 2
  rw [e1, e2]
  generalize a / 2 ^ (30 * (q + i)) = x
  have h2 : 1073741824 = 2 ^ r * 2 ^ (30 - r) := by rw [← Nat.pow_add, show r + (30 - r) = 30 by omega]
  have p1 : 0 < 2 ^ r := Nat.pow_pos (by decide)
  have p2 : 0 < 2 ^ (30 - r) := Nat.pow_pos (by decide)
  have h3 : x % 1073741824 / 2 ^ r = x / 2 ^ r % 2 ^ (30 - r) := by rw [h2, Nat.mod_mul_right_div_self]
  have h4 : x / 1073741824 = x / 2 ^ r / 2 ^ (30 - r) := by rw [Nat.div_div_eq_div_mul, ← h2]
  rw [h3, h4]
  generalize x / 2 ^ r = y
  have h5 : y / 2 ^ (30 - r) % 1073741824 * 2 ^ (30 - r) % 1073741824 = y / 2 ^ (30 - r) * 2 ^ (30 - r) % 1073741824 := by rw [Nat.mod_mul_mod]
  rw [Nat.add_mod, h5, ← Nat.add_mod, Nat.mul_comm, Nat.mod_add_div]

/-- Division: one binary digit more. -/
theorem div_step (a b i : Nat) (hb : 0 < b) :
    (b ≤ 2 * (a / 2 ^ (i + 1) % b) + a / 2 ^ i % 2 → a / 2 ^ i % b = 2 * (a / 2 ^ (i + 1) % b) + a / 2 ^ i % 2 - b ∧ a / 2 ^ i / b = 2 * (a / 2 ^ (i + 1) / b) + 1) ∧
    (¬ b ≤ 2 * (a / 2 ^ (i + 1) % b) + a / 2 ^ i % 2 → a / 2 ^ i % b = 2 * (a / 2 ^ (i + 1) % b) + a / 2 ^ i % 2 ∧ a / 2 ^ i / b = 2 * (a / 2 ^ (i + 1) / b)) := by
  have e : a / 2 ^ (i + 1) = a / 2 ^ i / 2 := by rw [Nat.pow_succ, Nat.div_div_eq_div_mul]
  rw [e]
  generalize a / 2 ^ i = x
  have h1 := Nat.div_add_mod (x / 2) b
  have h2 := Nat.mod_lt (x / 2) hb
  generalize x / 2 / b = q at h1 ⊢
  generalize x / 2 % b = r at h1 h2 ⊢
  have hx : x = b * (2 * q) + (2 * r + x % 2) := by
    have h3 : b * (2 * q) = 2 * (b * q) := Nat.mul_left_comm b 2 q
    rw [h3]
    omega
  have ht : x % 2 < 2 := Nat.mod_lt _ (by decide)
  constructor
  · intro hle
    have hx2 : x = b * (2 * q + 1) + (2 * r + x % 2 - b) := by
      rw [Nat.mul_succ]; omega
    have hlt : 2 * r + x % 2 - b < b := by omega
    generalize 2 * r + x % 2 - b = s at hx2 hlt ⊢
    refine ⟨?_, ?_⟩
    · rw [hx2, Nat.mul_add_mod, Nat.mod_eq_of_lt hlt]
    · rw [hx2, Nat.mul_add_div hb, Nat.div_eq_of_lt hlt, Nat.add_zero]
  · intro hle
    have hlt : 2 * r + x % 2 < b := by omega
    generalize 2 * r + x % 2 = s at hx hlt ⊢
    refine ⟨?_, ?_⟩
    · rw [hx, Nat.mul_add_mod, Nat.mod_eq_of_lt hlt]
    · rw [hx, Nat.mul_add_div hb, Nat.div_eq_of_lt hlt, Nat.add_zero]

/-- A digit of the quotient has room in its limb. -/
theorem quot_limb {l : List Nat} (h : Limbs l) (i Q : Nat) (hv : lval l = 2 ^ (i + 1) * Q) : l.getD (i / 30) 0 + 2 ^ (i % 30) < 1073741824 := by
  rw [limb_of h, hv, pow_B]
  have h30 : i % 30 < 30 := Nat.mod_lt _ (by decide)
  have e0 : i + 1 = 30 * (i / 30) + (i % 30 + 1) := by omega
  generalize i / 30 = k at *
  generalize i % 30 = r at *
  have p : 0 < 2 ^ (30 * k) := Nat.pow_pos (by decide)
  have e1 : 2 ^ (i + 1) * Q / 2 ^ (30 * k) = 2 ^ (r + 1) * Q := by
    rw [e0, Nat.pow_add, Nat.mul_assoc, Nat.mul_div_cancel_left _ p]
  rw [e1]
  have e2 : 1073741824 = 2 ^ (r + 1) * 2 ^ (29 - r) := by rw [← Nat.pow_add, show r + 1 + (29 - r) = 30 by omega]
  have e3 : 2 ^ (r + 1) * Q % 1073741824 = 2 ^ (r + 1) * (Q % 2 ^ (29 - r)) := by rw [e2, Nat.mul_mod_mul_left]
  rw [e3]
  have p2 : 0 < 2 ^ (29 - r) := Nat.pow_pos (by decide)
  have h1 := Nat.mod_lt Q p2
  have h2 := Nat.mul_le_mul_left (2 ^ (r + 1)) (show Q % 2 ^ (29 - r) + 1 ≤ 2 ^ (29 - r) from h1)
  rw [← e2, Nat.mul_add, Nat.mul_one] at h2
  have h3 : 2 ^ (r + 1) = 2 ^ r + 2 ^ r := by rw [Nat.pow_succ]; omega
  have p3 : 0 < 2 ^ r := Nat.pow_pos (by decide)
  omega
theorem quot_set {l : List Nat} (i : Nat) (hi : i / 30 < l.length) : lval (l.set (i / 30) (l.getD (i / 30) 0 + 2 ^ (i % 30))) = lval l + 2 ^ i := by
  have h := lval_set l (i / 30) (l.getD (i / 30) 0 + 2 ^ (i % 30)) hi
  rw [Nat.mul_add] at h
  have e : 1073741824 ^ (i / 30) * 2 ^ (i % 30) = 2 ^ i := by
    rw [pow_B, ← Nat.pow_add]
    congr 1
    omega
  omega

/-- The first rest is less than the divisor. -/
theorem div_start (a b n : Nat) (hb : b ≠ 0) (hn : nbits a = nbits b + n) : a / 2 ^ (n + 1) < b := by
  have h1 := nbits_lt a
  have h2 := nbits_le hb
  have h3 := nbits_pos hb
  have h4 : a / 2 ^ (n + 1) < 2 ^ (nbits b - 1) := by
    rw [Nat.div_lt_iff_lt_mul (Nat.pow_pos (by decide)), ← Nat.pow_add, show nbits b - 1 + (n + 1) = nbits a by omega]
    exact h1
  omega
theorem div_small {a b : Nat} (h : nbits a < nbits b) : a < b := by
  have h1 := nbits_lt a
  have hb : b ≠ 0 := by
    intro h0
    rw [h0] at h
    simp [nbits] at h
  have h2 := nbits_le hb
  have h3 : 2 ^ nbits a ≤ 2 ^ (nbits b - 1) := Nat.pow_le_pow_right (by decide) (by omega)
  omega
end Go.Proofs.YticlnihjhcepkaaGreatDoor

/-
  Plain: comparing numbers in limbs; their decimal digits.
-/
namespace Go.Proofs.YticlnihjhcepkaaGreatDoor
set_option linter.unusedSimpArgs false
set_option linter.unusedVariables false

theorem lt_of_len {a b : Nat} (h : (natL a).length < (natL b).length) : a < b := by
  rcases Nat.lt_or_ge a b with h1 | h1
  · exact h1
  · have := natL_mono h1; omega
theorem limb_split (a i : Nat) : a / 1073741824 ^ i = 1073741824 * (a / 1073741824 ^ (i + 1)) + (natL a).getD i 0 := by
  rw [natL_getD, Nat.pow_succ, ← Nat.div_div_eq_div_mul]; omega
theorem cmp_start {a b : Nat} (h : (natL a).length = (natL b).length) : a / 1073741824 ^ (natL a).length = b / 1073741824 ^ (natL a).length := by
  rw [Nat.div_eq_of_lt (natL_lt a), h, Nat.div_eq_of_lt (natL_lt b)]
theorem cmp_lt {a b i : Nat} (h : a / 1073741824 ^ (i + 1) = b / 1073741824 ^ (i + 1)) (hl : (natL a).getD i 0 < (natL b).getD i 0) : a < b := by
  have h1 := limb_split a i
  have h2 := limb_split b i
  rcases Nat.lt_or_ge a b with h3 | h3
  · exact h3
  · have := Nat.div_le_div_right (c := 1073741824 ^ i) h3
    omega
theorem cmp_eq {a b i : Nat} (h : a / 1073741824 ^ (i + 1) = b / 1073741824 ^ (i + 1)) (hl : (natL a).getD i 0 = (natL b).getD i 0) : a / 1073741824 ^ i = b / 1073741824 ^ i := by
  rw [limb_split a i, limb_split b i, h, hl]

/-- -1, 0 or 1. -/
def cmpN (a b : Nat) : Int := if a < b then -1 else if b < a then 1 else 0
theorem cmpN_lt {a b : Nat} (h : a < b) : cmpN a b = -1 := by unfold cmpN; rw [if_pos h]
theorem cmpN_gt {a b : Nat} (h : b < a) : cmpN a b = 1 := by unfold cmpN; rw [if_neg (by omega), if_pos h]
theorem cmpN_eq {a b : Nat} (h : a = b) : cmpN a b = 0 := by unfold cmpN; rw [if_neg (by omega), if_neg (by omega)]

theorem div9_aux (B N Q rest x D y z : Nat) (h : Q * N + rest = D) (h1 : N * y + z = rest * B + x) : (y + B * Q) * N + z = x + B * D := by
  subst h
  rw [Nat.add_mul, Nat.mul_add, Nat.mul_assoc, Nat.mul_comm y N, Nat.mul_comm B rest]
  omega
/-- Division by 10^9, limb by limb from the top: one limb more. -/
theorem div9_step {q : List Nat} {x rest D : Nat} (h : lval q * 1000000000 + rest = D) :
    lval ((rest * 1073741824 + x) / 1000000000 :: q) * 1000000000 + (rest * 1073741824 + x) % 1000000000 = x + 1073741824 * D :=
  div9_aux 1073741824 1000000000 (lval q) rest x D _ _ h (Nat.div_add_mod _ _)
theorem div9_limb {x rest : Nat} (hx : x < 1073741824) (hr : rest < 1000000000) : (rest * 1073741824 + x) / 1000000000 < 1073741824 := by omega

/-- The digits of a number, none for zero. -/
def decS (v : Nat) : List UInt8 := if h : v = 0 then [] else decS (v / 10) ++ [UInt8.ofNat (48 + v % 10)]
termination_by v
decreasing_by omega
theorem decS_zero : decS 0 = [] := by rw [decS, dif_pos rfl]
theorem decS_pos {v : Nat} (h : v ≠ 0) : decS v = decS (v / 10) ++ [UInt8.ofNat (48 + v % 10)] := by rw [decS, dif_neg h]
theorem decS_step (v c : Nat) (hc : c ≤ 9) : decS (10 * v + c) = if v = 0 ∧ c = 0 then [] else decS v ++ [UInt8.ofNat (48 + c)] := by
  by_cases h : 10 * v + c = 0
  · rw [if_pos (by omega), h, decS_zero]
  · rw [if_neg (by omega), decS_pos h]
    rw [show (10 * v + c) / 10 = v by omega, show (10 * v + c) % 10 = c by omega]
theorem decS_ne {v : Nat} (h : v ≠ 0) : decS v ≠ [] := by rw [decS_pos h]; simp
theorem decS_len (v : Nat) : ∀ k, v < 10 ^ k → (decS v).length ≤ k := by
  induction v using Nat.strongRecOn with
  | ind v ih =>
    intro k hk
    by_cases h : v = 0
    · subst h; rw [decS_zero]; simp
    · rw [decS_pos h, List.length_append, List.length_singleton]
      cases k with
      | zero => simp at hk; omega
      | succ k =>
        have := ih (v / 10) (by omega) k (by rw [Nat.pow_succ] at hk; omega)
        omega
/-- The text of a number. -/
def decT (v : Nat) : List UInt8 := if v = 0 then [48] else decS v
end Go.Proofs.YticlnihjhcepkaaGreatDoor
