/-
  append in a frame that is a function; digits that are read while a slice of the call's own grows.
-/
import Derived.Test.YtffooimnioigdaaDoorApp
import Derived.Test.YtffooimnioigdaaDoorFr
namespace Go.Proofs.YtffooimnioigdaaDoor
open Go.RowKit
set_option linter.unusedSimpArgs false
set_option linter.unusedVariables false

theorem wpList_appF {P : Program} {ops : Array Oper} {rest : List Oper} {o : Oper} {Q : Exit → Act → World → Prop} {w : World} {n : Nat} {env : List (Nat × Value)} {σ : Nat → Value} (hgd : o.guard = none) (ks kx : Nat) (t tx : TypeId)
    (ho : o.op = .call { callee := .builtin .append, args := #[.tmp ks, .tmp kx], argTypes := #[t, tx] }) (hks : ks < n) (hkx : kx < n) (hty : ByteTy P t) {T : Nat} {v : Value} {xs : List UInt8} (hown : OwnB T w v xs) (hs : over env σ ks = v)
    (xv : Value) (hx : over env σ kx = xv) (ys : List UInt8) (hsrc : Src P 1 tx xv ys.length (ys.map encB) w) (hb : xs.length + ys.length ≤ 140737489400000)
    (h : ∀ v' w', OwnB T w' v' (xs ++ ys) → Stp w v w' v' → wpList P ops Q rest ((Fr n env σ).put o.dst v') w') : wpList P ops Q (o :: rest) (Fr n env σ) w :=
  wpList_appB hgd (.tmp ks) (.tmp kx) t tx ho hty hown ((Fr_eval n env σ ks hks).trans hs) xv ((Fr_eval n env σ kx hkx).trans hx) ys hsrc hb h

/-- The first digits of s are ds, and s does not lie in v's block. -/
def Dig (w : World) (v s : Value) (ds : List UInt8) : Prop :=
  ds = [] ∨ ∃ (g c : Nat) (bs : List UInt8), s = .slice (some ⟨g, 0, none⟩) bs.length c ∧ bs.length ≤ c ∧ c ≤ 100000 ∧ (∃ rest, Row w g (bs.map encB ++ rest)) ∧ v.ownBlock ≠ some g ∧ bs.take ds.length = ds ∧ ds.length ≤ bs.length

theorem Dig.stp {w w' : World} {v v' s : Value} {ds : List UInt8} (h : Dig w v s ds) (hs : Stp w v w' v') : Dig w' v' s ds := by
  rcases h with h | ⟨g, c, bs, h1, h2, h2', h3, h4, h5, h6⟩
  · exact .inl h
  · obtain ⟨rest, h3⟩ := h3
    obtain ⟨h7, h8⟩ := hs.row h3 h4
    exact .inr ⟨g, c, bs, h1, h2, h2', ⟨rest, h7⟩, h8, h5, h6⟩
theorem Dig.of_row {w : World} {v : Value} {ds bs : List UInt8} {g c : Nat} (h2 : bs.length ≤ c) (h2' : c ≤ 100000) (h3 : BRow w g bs) (h4 : v.ownBlock ≠ some g) (h5 : bs.take ds.length = ds) (h6 : ds.length ≤ bs.length) : Dig w v (.slice (some ⟨g, 0, none⟩) bs.length c) ds :=
  .inr ⟨g, c, bs, rfl, h2, h2', ⟨[], by rw [List.append_nil]; exact h3⟩, h4, h5, h6⟩

/-- A piece of the bytes at the head of a row. -/
theorem src_head {P : Program} {w : World} {tx e' : TypeId} (hk : P.underlying tx = some (.slice e')) (g o n c : Nat) (bs : List UInt8) (rest : List Value) (hr : Row w g (bs.map encB ++ rest)) (hn : o + n ≤ bs.length) : Src P 1 tx (.slice (some ⟨g, o, none⟩) n c) ((bs.drop o).take n).length (((bs.drop o).take n).map encB) w := by
  have hl : ((bs.drop o).take n).length = n := by simp; omega
  rw [hl]
  refine Src.ofSlice _ hk ⟨g, o, none⟩ n c _ (by rw [List.length_map, hl]; omega) (fun j v hj => ?_) (fun v hv => ?_)
  · have e : ((⟨g, o, none⟩ : Addr).add j) = ⟨g, o + j, none⟩ := by
      unfold Addr.add; split
      · subst_vars; rfl
      · rfl
    rcases Nat.lt_or_ge j n with h | h
    · rw [e, hr.cell, List.getElem?_append_left (by rw [List.length_map]; omega)]
      rw [List.getElem?_map] at hj ⊢
      rw [← hj]
      congr 1
      rw [List.getElem?_take_of_lt h, List.getElem?_drop]
    · rw [List.getElem?_eq_none (by rw [List.length_map]; omega)] at hj
      cases hj
  · obtain ⟨b, _, rfl⟩ := List.mem_map.1 hv
    rfl

theorem Dig.alloc {w : World} {v s : Value} {ds : List UInt8} (h : Dig w v s ds) (o : Obj) : Dig (w.alloc o) v s ds := h.stp ((Stp.refl w v).alloc o)

theorem encB_of (i : Int) (h1 : 0 ≤ i) (h2 : i < 256) : encB (UInt8.ofNat i.toNat) = .int .u8 i := by
  unfold encB
  congr 1
  simp
  omega

theorem src_one_at {P : Program} {w : World} {tx e' : TypeId} (hk : P.underlying tx = some (.slice e')) (i : Int) (h1 : 0 ≤ i) (h2 : i < 256) (E : TypeId) :
    Src P 1 tx (.slice (some ⟨w.heap.size, 0, none⟩) 1 1) [UInt8.ofNat i.toNat].length ([UInt8.ofNat i.toNat].map encB) (w.alloc (.cells #[.int .u8 i] E)) := by
  have h := src_new (w := w) hk [UInt8.ofNat i.toNat] E
  simp only [List.map_cons, List.map_nil, encB_of i h1 h2] at h ⊢
  exact h

theorem src_two_at {P : Program} {w : World} {tx e' : TypeId} (hk : P.underlying tx = some (.slice e')) (i j : Int) (h1 : 0 ≤ i) (h2 : i < 256) (h3 : 0 ≤ j) (h4 : j < 256) (E : TypeId) :
    Src P 1 tx (.slice (some ⟨w.heap.size, 0, none⟩) 2 2) [UInt8.ofNat i.toNat, UInt8.ofNat j.toNat].length ([UInt8.ofNat i.toNat, UInt8.ofNat j.toNat].map encB) (w.alloc (.cells #[.int .u8 i, .int .u8 j] E)) := by
  have h := src_new (w := w) hk [UInt8.ofNat i.toNat, UInt8.ofNat j.toNat] E
  simp only [List.map_cons, List.map_nil, encB_of i h1 h2, encB_of j h3 h4] at h ⊢
  exact h

theorem src_three_at {P : Program} {w : World} {tx e' : TypeId} (hk : P.underlying tx = some (.slice e')) (i j k : Int) (h1 : 0 ≤ i) (h2 : i < 256) (h3 : 0 ≤ j) (h4 : j < 256) (h5 : 0 ≤ k) (h6 : k < 256) (E : TypeId) :
    Src P 1 tx (.slice (some ⟨w.heap.size, 0, none⟩) 3 3) [UInt8.ofNat i.toNat, UInt8.ofNat j.toNat, UInt8.ofNat k.toNat].length ([UInt8.ofNat i.toNat, UInt8.ofNat j.toNat, UInt8.ofNat k.toNat].map encB) (w.alloc (.cells #[.int .u8 i, .int .u8 j, .int .u8 k] E)) := by
  have h := src_new (w := w) hk [UInt8.ofNat i.toNat, UInt8.ofNat j.toNat, UInt8.ofNat k.toNat] E
  simp only [List.map_cons, List.map_nil, encB_of i h1 h2, encB_of j h3 h4, encB_of k h5 h6] at h ⊢
  exact h

theorem src_four_at {P : Program} {w : World} {tx e' : TypeId} (hk : P.underlying tx = some (.slice e')) (i j k l : Int) (h1 : 0 ≤ i) (h2 : i < 256) (h3 : 0 ≤ j) (h4 : j < 256) (h5 : 0 ≤ k) (h6 : k < 256) (h7 : 0 ≤ l) (h8 : l < 256) (E : TypeId) :
    Src P 1 tx (.slice (some ⟨w.heap.size, 0, none⟩) 4 4) [UInt8.ofNat i.toNat, UInt8.ofNat j.toNat, UInt8.ofNat k.toNat, UInt8.ofNat l.toNat].length ([UInt8.ofNat i.toNat, UInt8.ofNat j.toNat, UInt8.ofNat k.toNat, UInt8.ofNat l.toNat].map encB) (w.alloc (.cells #[.int .u8 i, .int .u8 j, .int .u8 k, .int .u8 l] E)) := by
  have h := src_new (w := w) hk [UInt8.ofNat i.toNat, UInt8.ofNat j.toNat, UInt8.ofNat k.toNat, UInt8.ofNat l.toNat] E
  simp only [List.map_cons, List.map_nil, encB_of i h1 h2, encB_of j h3 h4, encB_of k h5 h6, encB_of l h7 h8] at h ⊢
  exact h

/-- What a formatting function has done so far: v owns out; nothing old has turned but dst's own block; s still holds its digits. -/
structure Ap (T : Nat) (w : World) (dst s : Value) (ds : List UInt8) (w' : World) (v : Value) (out : List UInt8) : Prop where
  own : OwnB T w' v out
  stp : Stp w dst w' v
  env : Env T w'
  dig : Dig w' v s ds

theorem Ap.start {T : Nat} {w : World} {dst s : Value} {ds xs : List UInt8} (ho : OwnB T w dst xs) (he : Env T w) (hd : Dig w dst s ds) : Ap T w dst s ds w dst xs := ⟨ho, Stp.refl w dst, he, hd⟩

theorem Ap.step {T : Nat} {w w1 w2 : World} {dst s v1 v2 : Value} {ds out ys : List UInt8} {o : Obj} (h : Ap T w dst s ds w1 v1 out) (ho : OwnB T w2 v2 (out ++ ys)) (hs : Stp (w1.alloc o) v1 w2 v2) : Ap T w dst s ds w2 v2 (out ++ ys) :=
  ⟨ho, h.stp.trans hs.alloc1, OwnB.env (h.own.alloc o) hs (h.env.alloc o), h.dig.stp hs.alloc1⟩

theorem Ap.step0 {T : Nat} {w w1 w2 : World} {dst s v1 v2 : Value} {ds out ys : List UInt8} (h : Ap T w dst s ds w1 v1 out) (ho : OwnB T w2 v2 (out ++ ys)) (hs : Stp w1 v1 w2 v2) : Ap T w dst s ds w2 v2 (out ++ ys) :=
  ⟨ho, h.stp.trans hs, OwnB.env h.own hs h.env, h.dig.stp hs⟩

theorem Ap.to {T : Nat} {w w1 : World} {dst s v1 : Value} {ds out out' : List UInt8} (h : Ap T w dst s ds w1 v1 out) (e : out = out') : Ap T w dst s ds w1 v1 out' := e ▸ h

theorem Ap.at {T : Nat} {w w1 : World} {dst s v1 v2 : Value} {ds out : List UInt8} (h : Ap T w dst s ds w1 v1 out) (e : v2 = v1) : Ap T w dst s ds w1 v2 out := e ▸ h

/-- The digits behind the first one, of a slice expression. -/
theorem Dig.piece {P : Program} {w : World} {v s : Value} {ds : List UInt8} {tx e' : TypeId} (hk : P.underlying tx = some (.slice e')) (h : Dig w v s ds) (o m : Nat) (hm : o + m ≤ ds.length) (hne : ds ≠ []) :
    ∃ g L c, s = .slice (some ⟨g, 0, none⟩) L c ∧ ds.length ≤ L ∧ L ≤ c ∧ c ≤ 100000 ∧ ∀ c', Src P 1 tx (.slice (some ⟨g, o, none⟩) m c') ((ds.drop o).take m).length (((ds.drop o).take m).map encB) w := by
  rcases h with h | ⟨g, c, bs, h1, h2, h2', h3, h4, h5, h6⟩
  · exact absurd h hne
  · refine ⟨g, bs.length, c, h1, h6, h2, h2', fun c' => ?_⟩
    obtain ⟨rest, h3⟩ := h3
    have := src_head (P := P) hk g o m c' bs rest h3 (by omega)
    have e : (ds.drop o).take m = (bs.drop o).take m := by
      rw [← h5, List.drop_take, List.take_take, Nat.min_eq_left (by omega)]
    rw [e]
    exact this

theorem Dig.cellAt {w : World} {v s : Value} {ds : List UInt8} (h : Dig w v s ds) {g L c : Nat} (hs : s = .slice (some ⟨g, 0, none⟩) L c) (i : Nat) (hi : i < ds.length) : w.cell? ⟨g, i, none⟩ = some (.int .u8 ((ds.getD i 0).toNat : Int)) := by
  rcases h with h | ⟨g', c', bs, h1, h2, h2', h3, h4, h5, h6⟩
  · subst h; simp at hi
  · rw [hs] at h1
    simp only [Value.slice.injEq, Option.some.injEq, Addr.mk.injEq, and_true] at h1
    obtain ⟨rfl, _, _⟩ := h1
    obtain ⟨rest, h3⟩ := h3
    rw [h3.cell, List.getElem?_append_left (by rw [List.length_map]; omega), List.getElem?_map, List.getElem?_eq_getElem (by omega)]
    have e : bs[i]'(by omega) = ds.getD i 0 := by
      have : ds.getD i 0 = (bs.take ds.length).getD i 0 := by rw [h5]
      rw [this, List.getD_eq_getElem?_getD, List.getElem?_take_of_lt hi, List.getElem?_eq_getElem (by omega)]
      rfl
    rw [e]
    rfl

theorem take_succ_getD (l : List UInt8) (j : Nat) (h : j < l.length) : l.take (j + 1) = l.take j ++ [l.getD j 0] := by
  rw [List.take_succ_eq_append_getElem h, List.getD_eq_getElem?_getD, List.getElem?_eq_getElem h]
  rfl

theorem Dig.at {w : World} {v s : Value} {ds : List UInt8} (h : Dig w v s ds) (i : Nat) (hi : i < ds.length) :
    ∃ g L c, s = .slice (some ⟨g, 0, none⟩) L c ∧ ds.length ≤ L ∧ L ≤ c ∧ c ≤ 100000 ∧ w.cell? ⟨g, i, none⟩ = some (encB (ds.getD i 0)) := by
  rcases h with h | ⟨g, c, bs, h1, h2, h2', h3, h4, h5, h6⟩
  · subst h; simp at hi
  · refine ⟨g, bs.length, c, h1, h6, h2, h2', ?_⟩
    obtain ⟨rest, h3⟩ := h3
    rw [h3.cell, List.getElem?_append_left (by rw [List.length_map]; omega), List.getElem?_map, List.getElem?_eq_getElem (by omega)]
    have e : bs[i]'(by omega) = ds.getD i 0 := by
      have : ds.getD i 0 = (bs.take ds.length).getD i 0 := by rw [h5]
      rw [this, List.getD_eq_getElem?_getD, List.getElem?_take_of_lt hi, List.getElem?_eq_getElem (by omega)]
      rfl
    rw [e]
    rfl
end Go.Proofs.YtffooimnioigdaaDoor
