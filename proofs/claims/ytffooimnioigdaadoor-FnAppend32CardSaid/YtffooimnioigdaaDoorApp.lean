/-
  append to a byte slice of the call's own, as one law of the walk.
-/
import Derived.Test.YtffooimnioigdaaDoorD1
namespace Go.Proofs.YtffooimnioigdaaDoor
open Go.RowKit
set_option linter.unusedSimpArgs false
set_option linter.unusedVariables false

/-- A byte slice of the call's own, in a block from T on, with its bytes. -/
def OwnB (T : Nat) (w : World) (v : Value) (xs : List UInt8) : Prop := Own w v (xs.map encB) ∧ ∀ k, v.ownBlock = some k → T ≤ k

theorem OwnB.alloc {T : Nat} {w : World} {v : Value} {xs : List UInt8} (h : OwnB T w v xs) (o : Obj) : OwnB T (w.alloc o) v xs := ⟨h.1.alloc o, h.2⟩
theorem OwnB.drewN {T : Nat} {w : World} {v : Value} {xs : List UInt8} (h : OwnB T w v xs) (n : Nat) : OwnB T (w.drewN n) v xs := ⟨h.1.drewN n, h.2⟩
theorem OwnB.grown {T : Nat} {w w' : World} {row : Option Nat} {v : Value} {xs : List UInt8} (h : OwnB T w v xs) (hg : w.grownBy w' row) (hne : v.ownBlock ≠ row) : OwnB T w' v xs := ⟨h.1.grown hg hne, h.2⟩
theorem OwnB.grown0 {T : Nat} {w w' : World} {v : Value} {xs : List UInt8} (h : OwnB T w v xs) (hg : w.grownBy w' none) : OwnB T w' v xs := by
  refine h.grown hg ?_
  obtain ⟨⟨g, rest, rfl, _⟩, _⟩ := h
  simp [Value.ownBlock]
theorem OwnB.env {T : Nat} {w w' : World} {v v' : Value} {xs : List UInt8} (h : OwnB T w v xs) (hs : Stp w v w' v') (he : Env T w) : Env T w' := he.grown hs.1 h.2
theorem OwnB.block {T : Nat} {w : World} {v : Value} {xs : List UInt8} (h : OwnB T w v xs) : ∃ g c, v = .slice (some ⟨g, 0, none⟩) xs.length c ∧ T ≤ g ∧ g < w.heap.size ∧ xs.length ≤ c ∧ c ≤ maxLen := by
  obtain ⟨⟨g, rest, rfl, hr, hm⟩, hT⟩ := h
  refine ⟨g, _, by simp, hT g rfl, hr.lt, by simp, hm⟩
theorem OwnB.lt {T : Nat} {w : World} {v : Value} {xs : List UInt8} (h : OwnB T w v xs) : T < w.heap.size := by
  obtain ⟨g, c, rfl, h1, h2, _⟩ := h.block
  omega

/-- The type of bytes and of byte slices, as append asks for it. -/
def ByteTy (P : Program) (t : TypeId) : Prop := ∃ e i z, P.underlying t = some (.slice e) ∧ P.info? e = some i ∧ i.zero = some z ∧ i.size = 1 ∧ z.cells.size = 1 ∧ i.bytes = 1

theorem wpList_appB {P : Program} {ops : Array Oper} {rest : List Oper} {o : Oper} {a : Act} {Q : Exit → Act → World → Prop} {w : World} (hgd : o.guard = none) (s x : Operand) (t tx : TypeId)
    (ho : o.op = .call { callee := .builtin .append, args := #[s, x], argTypes := #[t, tx] }) (hty : ByteTy P t) {T : Nat} {v : Value} {xs : List UInt8} (hown : OwnB T w v xs) (hs : a.eval s = v)
    (xv : Value) (hx : a.eval x = xv) (ys : List UInt8) (hsrc : Src P 1 tx xv ys.length (ys.map encB) w) (hb : xs.length + ys.length ≤ 140737489400000)
    (h : ∀ v' w', OwnB T w' v' (xs ++ ys) → Stp w v w' v' → wpList P ops Q rest (a.put o.dst v') w') : wpList P ops Q (o :: rest) a w := by
  obtain ⟨e, i, z, h1, h2, h3, h4, h5, h6⟩ := hty
  have hlt := hown.lt
  obtain ⟨v', w', hrun, hown', hstp⟩ := run_append_Own (P := P) w t tx o.type e i z h1 h2 h3 h4 h5 v (xs.map encB) hown.1 xv ys.length (ys.map encB) hsrc (by rw [h6]; simp only [List.length_map]; omega) (by omega)
  refine wpList_plain hgd fun K hK => ?_
  unfold Oper.wp execOp
  simp only [ho, resolve, invoke, builtin, Sem.run_bind, Sem.run_pure, Result.andThen_ok, List.map_toArray, List.map_cons, List.map_nil, hs, hx, hrun]
  refine hK _ _ (h v' w' ⟨by rw [List.map_append]; exact hown', fun k hk => ?_⟩ hstp)
  by_cases hkl : k < w.heap.size
  · exact hown.2 k (hstp.2 k hk hkl)
  · omega

/-- What lies in one new cell. -/
theorem src_one {P : Program} {w : World} {tx e' : TypeId} (hk : P.underlying tx = some (.slice e')) (b : Nat) (u : UInt8) (hc : w.cell? ⟨b, 0, none⟩ = some (encB u)) : Src P 1 tx (.slice (some ⟨b, 0, none⟩) 1 1) [u].length ([u].map encB) w :=
  Src.ofSlice w hk ⟨b, 0, none⟩ 1 1 [encB u] rfl (fun j v hj => by
    cases j with
    | zero => simp at hj; subst hj; exact hc
    | succ j => simp at hj) (fun v hv => by simp at hv; subst hv; rfl)

theorem src_new {P : Program} {w : World} {tx e' : TypeId} (hk : P.underlying tx = some (.slice e')) (us : List UInt8) (E : TypeId) : Src P 1 tx (.slice (some ⟨w.heap.size, 0, none⟩) us.length us.length) us.length (us.map encB) (w.alloc (.cells (us.map encB).toArray E)) := by
  have hr := Row.new w (us.map encB) E
  refine Src.ofSlice _ hk ⟨w.heap.size, 0, none⟩ us.length us.length (us.map encB) (by simp) (fun j v hj => ?_) (fun v hv => ?_)
  · have e : ((⟨w.heap.size, 0, none⟩ : Addr).add j) = ⟨w.heap.size, j, none⟩ := by
      unfold Addr.add; split
      · subst_vars; rfl
      · simp
    rw [e, hr.cell]
    exact hj
  · obtain ⟨b, _, rfl⟩ := List.mem_map.1 hv
    rfl

/-- A piece of a row of bytes. -/
theorem src_row {P : Program} {w : World} {tx e' : TypeId} (hk : P.underlying tx = some (.slice e')) (g o n c : Nat) (bs : List UInt8) (hr : BRow w g bs) (hn : o + n ≤ bs.length) : Src P 1 tx (.slice (some ⟨g, o, none⟩) n c) ((bs.drop o).take n).length (((bs.drop o).take n).map encB) w := by
  have hl : ((bs.drop o).take n).length = n := by simp; omega
  rw [hl]
  refine Src.ofSlice _ hk ⟨g, o, none⟩ n c _ (by rw [List.length_map, hl]; omega) (fun j v hj => ?_) (fun v hv => ?_)
  · have e : ((⟨g, o, none⟩ : Addr).add j) = ⟨g, o + j, none⟩ := by
      unfold Addr.add; split
      · subst_vars; rfl
      · rfl
    rw [e, hr.row.cell]
    rw [List.getElem?_map] at hj ⊢
    rw [← hj]
    congr 1
    rcases Nat.lt_or_ge j n with h | h
    · rw [List.getElem?_take_of_lt h, List.getElem?_drop]
    · rw [List.getElem?_eq_none (by omega)] at hj
      simp at hj
  · obtain ⟨b, _, rfl⟩ := List.mem_map.1 hv
    rfl

theorem src_str {P : Program} {w : World} {tx : TypeId} (hk : P.underlying tx = some .string) (s : ByteArray) (us : List UInt8) (hu : s.data.toList = us) : Src P 1 tx (.string s) us.length (us.map encB) w := by
  have h := Src.ofString w hk s
  subst hu
  have e : s.size = s.data.toList.length := by simp
  rw [e] at h
  exact h

theorem decDigits_le (u : Nat) (hu : u < 18446744073709551616) : (Lib.decDigits u).length ≤ 20 := by
  rw [Lib.decDigits_length]
  have := nDig_le u hu
  unfold nDig at this
  split at this
  · subst_vars; rw [Lib.nDigits_small (by omega)]; omega
  · exact this

theorem digs_decDigits (u : Nat) : digs u (Lib.nDigits u) = Lib.decDigits u := by rw [Lib.decDigits_eq]; rfl

theorem BRow.new (w : World) (bs : List UInt8) (E : TypeId) : BRow (w.alloc (.cells (bs.map encB).toArray E)) w.heap.size bs := Row.new w (bs.map encB) E
theorem BRow.grown {w w' : World} {row : Option Nat} {g : Nat} {xs : List UInt8} (h : BRow w g xs) (hg : w.grownBy w' row) (hne : some g ≠ row) : BRow w' g xs := Row.grown h hg hne
theorem BRow.alloc {w : World} {g : Nat} {xs : List UInt8} (h : BRow w g xs) (o : Obj) : BRow (w.alloc o) g xs := Row.alloc h o
theorem BRow.lt {w : World} {g : Nat} {xs : List UInt8} (h : BRow w g xs) : g < w.heap.size := Row.lt h
theorem BRow.stp {w w1 : World} {v v1 : Value} {g : Nat} {xs : List UInt8} (hr : BRow w g xs) (h : Stp w v w1 v1) (hne : v.ownBlock ≠ some g) : BRow w1 g xs ∧ v1.ownBlock ≠ some g := h.row hr hne
theorem OwnB.ne_new {T : Nat} {w : World} {v : Value} {xs : List UInt8} (h : OwnB T w v xs) : v.ownBlock ≠ some w.heap.size := h.1.ne_of_ge (Nat.le_refl _)
theorem Stp.alloc1 {w w' : World} {v v' : Value} {o : Obj} (h : Stp (w.alloc o) v w' v') : Stp w v w' v' := ((Stp.refl w v).alloc o).trans h
theorem Stp.of0 {w w' : World} (v : Value) (h : w.grownBy w' none) : Stp w v w' v := ⟨grown_some h, fun _ e _ => e⟩
theorem Stp.other {T : Nat} {w w1 w' : World} {v : Value} {xs : List UInt8} (_ho : OwnB T w v xs) (h1 : w.grownBy w1 none) {g : Nat} (hg : w.heap.size ≤ g) (h : w1.grownBy w' (some g)) : Stp w v w' v :=
  ⟨grown_some (grown_forget h1 h hg), fun _ e _ => e⟩

theorem arrLen24 : Tryd.prog.arrayLen 70 = 24 := by simp [Program.arrayLen, Program.elem, Tryd.underlying70]
theorem slice24 (g n : Nat) (W : World) (hn : n ≤ 24) : (Instr.sliceAt 70 (.pointer (some ⟨g, 0, none⟩)) none (some (.int .i64 (n : Int))) none).run Tryd.prog W = .ok (.slice (some ⟨g, 0, none⟩) n 24) W := by
  rw [run_sliceAt_array_h W 70 ⟨g, 0, none⟩ (by simp [Program.arrayLen, Program.elem, Tryd.underlying70]) .i64 (n : Int) (by omega) (by rw [arrLen24]; omega)]
  go_simp

theorem byteInfo : (Tryd.prog.info? 5).map (fun i => (i.zero, i.size, i.bytes)) = some (some (.int .u8 0), 1, 1) := by kernel_rfl
theorem byteTy : ByteTy Tryd.prog 33 := by
  obtain ⟨i0, hi, hz0, hz1, hz2⟩ := info_parts byteInfo
  exact ⟨5, i0, _, Tryd.underlying33, hi, hz0, hz1, rfl, hz2⟩
end Go.Proofs.YtffooimnioigdaaDoor
