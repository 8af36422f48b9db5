/-
  The library's tables as the walks read them ('Env T w': below block T lie the tables, unturned), and numbers that the walks meet.
-/
import Derived.Test.YtffooimnioigdaaDoorMem
import Derived.Test.YtffooimnioigdaaDoorRows
import Derived.Lib.Hide
namespace Go.Proofs.YtffooimnioigdaaDoor
open Go.RowKit
set_option linter.unusedSimpArgs false
set_option linter.unusedVariables false

def pmHi (i : Nat) : Nat := (Go.Pinned.pow10Rows.getD i (0, 0)).1
def pmLo (i : Nat) : Nat := (Go.Pinned.pow10Rows.getD i (0, 0)).2
def chN (i : Nat) : Nat := (Go.Pinned.cheatRows.getD i (0, [])).1
def chS (i : Nat) : List UInt8 := (Go.Pinned.cheatRows.getD i (0, [])).2

theorem pm_lt (i : Nat) : pmHi i < 18446744073709551616 ∧ pmLo i < 18446744073709551616 := by
  unfold pmHi pmLo
  rcases Nat.lt_or_ge i 696 with h | h
  · have key : Go.Pinned.pow10Rows.all (fun x => x.1 < 18446744073709551616 && x.2 < 18446744073709551616) = true := by decide +kernel
    rw [List.all_eq_true] at key
    have hl : Go.Pinned.pow10Rows.length = 696 := by decide +kernel
    have hm := key (Go.Pinned.pow10Rows[i]'(by rw [hl]; exact h)) (List.getElem_mem _)
    rw [List.getD_eq_getElem?_getD, List.getElem?_eq_getElem (by rw [hl]; exact h)]
    simpa using hm
  · have hl : Go.Pinned.pow10Rows.length = 696 := by decide +kernel
    rw [List.getD_eq_getElem?_getD, List.getElem?_eq_none (by rw [hl]; exact h)]
    simp

/-- What the walks know of the package-level tables. -/
structure Env (T : Nat) (w : World) : Prop where
  size : T ≤ w.heap.size
  glob : 7 ≤ T
  p10 : ∀ i, i < 20 → w.cell? ⟨2, i, none⟩ = some (.int .u64 ((10 ^ i : Nat) : Int))
  tab : ∀ i, i < 696 → w.cell? ⟨3, i * 2, none⟩ = some (.int .u64 (pmHi i : Int)) ∧ w.cell? ⟨3, i * 2 + 1, none⟩ = some (.int .u64 (pmLo i : Int))
  opt : w.cell? ⟨1, 0, none⟩ = some (.bool true)
  cheats : ∃ b o c, b < T ∧ 61 ≤ c ∧ w.cell? ⟨4, 0, none⟩ = some (.slice (some ⟨b, o, none⟩) 61 c) ∧ ∀ i, i < 61 → w.cell? ⟨b, o + i * 2, none⟩ = some (.int .i64 (chN i : Int)) ∧ w.cell? ⟨b, o + i * 2 + 1, none⟩ = some (.string ⟨(chS i).toArray⟩)

theorem Env.kept {T : Nat} {w w' : World} (h : Env T w) (hs : w.heap.size ≤ w'.heap.size) (hb : ∀ k, k < T → w'.heap[k]? = w.heap[k]?) : Env T w' := by
  have hg := h.glob
  have hc : ∀ a : Addr, a.block < T → w'.cell? a = w.cell? a := fun a ha => World.cell?_of_block (w := w) (hb a.block ha)
  refine ⟨Nat.le_trans h.size hs, hg, fun i hi => (hc _ (by dsimp only; omega)).trans (h.p10 i hi), fun i hi => ⟨(hc _ (by dsimp only; omega)).trans (h.tab i hi).1, (hc _ (by dsimp only; omega)).trans (h.tab i hi).2⟩,
    (hc _ (by dsimp only; omega)).trans h.opt, ?_⟩
  obtain ⟨b, o, c, hbT, hcc, h1, h2⟩ := h.cheats
  exact ⟨b, o, c, hbT, hcc, (hc _ (by dsimp only; omega)).trans h1, fun i hi => ⟨(hc _ hbT).trans (h2 i hi).1, (hc _ hbT).trans (h2 i hi).2⟩⟩

theorem Env.grown {T : Nat} {w w' : World} {row : Option Nat} (h : Env T w) (hg : w.grownBy w' row) (hr : ∀ k, row = some k → T ≤ k) : Env T w' :=
  h.kept hg.size fun k hk => hg.block k (Nat.lt_of_lt_of_le hk h.size) (fun e => by have := hr k e.symm; omega)

theorem Env.alloc {T : Nat} {w : World} (h : Env T w) (o : Obj) : Env T (w.alloc o) :=
  h.grown (World.grownBy_alloc w o none) (fun _ e => by cases e)

theorem Env.drewN {T : Nat} {w : World} (h : Env T w) (n : Nat) : Env T (w.drewN n) :=
  h.grown (grown_drewN w n none) (fun _ e => by cases e)

theorem Env.setCell {T : Nat} {w : World} (h : Env T w) {a : Addr} (ha : T ≤ a.block) (u : Value) : Env T (w.setCell a u) :=
  h.kept (by simp [World.setCell]) fun k hk => Below.heap_setCell w a u k (by omega)

theorem grown_setCell (w : World) (a : Addr) (u : Value) : w.grownBy (w.setCell a u) (some a.block) :=
  ⟨rfl, rfl, rfl, by simp [World.setCell], fun k _ hne => Below.heap_setCell w a u k (fun e => hne (by rw [e]))⟩

theorem grown_some {w w' : World} {row : Option Nat} (h : w.grownBy w' none) : w.grownBy w' row :=
  ⟨h.os, h.tape, h.output, h.size, fun k hk _ => h.block k hk (by simp)⟩

theorem grown_none_trans {w w1 w2 : World} (h : w.grownBy w1 none) (k : w1.grownBy w2 none) : w.grownBy w2 none :=
  grown_trans h k (fun _ e => by cases e)

/-- Own blocks that are made in the call and written there: against the world before they are nothing. -/
theorem grown_forget {w w1 w2 : World} {g : Nat} (h : w.grownBy w1 none) (k : w1.grownBy w2 (some g)) (hg : w.heap.size ≤ g) : w.grownBy w2 none :=
  grown_trans h k (fun j e hj => by cases e; omega)

theorem i64_and63 (n : Int) : bits .and .i64 n 63 = n % 64 := by
  have h63 : (BitVec.ofInt 64 63).toNat = 2 ^ 6 - 1 := by decide
  have key : (BitVec.ofInt 64 n &&& BitVec.ofInt 64 63).toNat = (n % ((2 ^ 64 : Nat) : Int)).toNat % 2 ^ 6 := by
    rw [BitVec.toNat_and, BitVec.toNat_ofInt, h63, Nat.and_two_pow_sub_one_eq_mod]
  show IntKind.i64.wrap ((BitVec.ofInt 64 n &&& BitVec.ofInt 64 63).toNat : Nat) = n % 64
  rw [key, IntKind.wrap_i64]
  omega

theorem i64_and1 (n : Int) : bits .and .i64 n 1 = n % 2 := by
  have h1 : (BitVec.ofInt 64 1).toNat = 2 ^ 1 - 1 := by decide
  have key : (BitVec.ofInt 64 n &&& BitVec.ofInt 64 1).toNat = (n % ((2 ^ 64 : Nat) : Int)).toNat % 2 ^ 1 := by
    rw [BitVec.toNat_and, BitVec.toNat_ofInt, h1, Nat.and_two_pow_sub_one_eq_mod]
  show IntKind.i64.wrap ((BitVec.ofInt 64 n &&& BitVec.ofInt 64 1).toNat : Nat) = n % 2
  rw [key, IntKind.wrap_i64]
  omega

theorem u64_and1 (a : Nat) (ha : a < 18446744073709551616) : bits .and .u64 (a : Int) 1 = ((a % 2 : Nat) : Int) := by
  have h := u64_and_nat a 1 ha (by omega)
  rw [Nat.and_one_is_mod] at h
  exact h

def b2n (b : Bool) : Nat := if b then 1 else 0
theorem b2n_le (b : Bool) : b2n b ≤ 1 := by cases b <;> decide

/-- A byte as a cell, a number of 64 bits as a cell. -/
def B8 (b : UInt8) : Value := .int .u8 (b.toNat : Int)
end Go.Proofs.YtffooimnioigdaaDoor
