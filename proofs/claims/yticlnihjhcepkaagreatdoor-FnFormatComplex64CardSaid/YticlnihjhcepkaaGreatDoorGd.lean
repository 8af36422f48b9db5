/-
  Lemmas and walks of functions, several texts in one.
-/
import Derived.Test.YticlnihjhcepkaaGreatDoorGa
import Derived.Test.YticlnihjhcepkaaGreatDoorRows
import Derived.Lib.Hide
import Derived.Test.YticlnihjhcepkaaGreatDoorShelf
import Derived.WalkLawsBesides
import Derived.BigQuiet
/-
  The library's tables as the walks read them ('Env T w': below block T lie the tables, unturned), and numbers that the walks meet.
-/
namespace Go.Proofs.YticlnihjhcepkaaGreatDoor
open Go.RowKit
set_option linter.unusedSimpArgs false
set_option linter.unusedVariables false

def pmHi (i : Nat) : Nat := (Go.Pinned.pow10Rows.getD i (0, 0)).1
def pmLo (i : Nat) : Nat := (Go.Pinned.pow10Rows.getD i (0, 0)).2
def chN (i : Nat) : Nat := (Go.Pinned.cheatRows.getD i (0, [])).1
def chS (i : Nat) : List UInt8 := (Go.Pinned.cheatRows.getD i (0, [])).2

theorem pm_lt (i : Nat) : pmHi i < 18446744073709551616 ∧ pmLo i < 18446744073709551616 := by
  unfold pmHi pmLo
  rcases Nat.lt_or_ge i 696 with h | h
  · have key : Go.Pinned.pow10Rows.all (fun x => x.1 < 18446744073709551616 && x.2 < 18446744073709551616) = true := by decide +kernel
    rw [List.all_eq_true] at key
    have hl : Go.Pinned.pow10Rows.length = 696 := by decide +kernel
    have hm := key (Go.Pinned.pow10Rows[i]'(by rw [hl]; exact h)) (List.getElem_mem _)
    rw [List.getD_eq_getElem?_getD, List.getElem?_eq_getElem (by rw [hl]; exact h)]
    simpa using hm
  · have hl : Go.Pinned.pow10Rows.length = 696 := by decide +kernel
    rw [List.getD_eq_getElem?_getD, List.getElem?_eq_none (by rw [hl]; exact h)]
    simp

/-- What the walks know of the package-level tables. -/
structure Env (T : Nat) (w : World) : Prop where
  size : T ≤ w.heap.size
  glob : 4 < T ∧ 9 < T ∧ 10 < T ∧ 11 < T ∧ 13 < T
  p10 : ∀ i, i < 20 → w.cell? ⟨9, i, none⟩ = some (.int .u64 ((10 ^ i : Nat) : Int))
  tab : ∀ i, i < 696 → w.cell? ⟨10, i * 2, none⟩ = some (.int .u64 (pmHi i : Int)) ∧ w.cell? ⟨10, i * 2 + 1, none⟩ = some (.int .u64 (pmLo i : Int))
  opt : w.cell? ⟨4, 0, none⟩ = some (.bool true)
  cheats : ∃ b o c, b < T ∧ 61 ≤ c ∧ w.cell? ⟨11, 0, none⟩ = some (.slice (some ⟨b, o, none⟩) 61 c) ∧ ∀ i, i < 61 → w.cell? ⟨b, o + i * 2, none⟩ = some (.int .i64 (chN i : Int)) ∧ w.cell? ⟨b, o + i * 2 + 1, none⟩ = some (.string ⟨(chS i).toArray⟩)

theorem Env.kept {T : Nat} {w w' : World} (h : Env T w) (hs : w.heap.size ≤ w'.heap.size) (hb : ∀ k, k < T → w'.heap[k]? = w.heap[k]?) : Env T w' := by
  have hg := h.glob
  have hc : ∀ a : Addr, a.block < T → w'.cell? a = w.cell? a := fun a ha => World.cell?_of_block (w := w) (hb a.block ha)
  refine ⟨Nat.le_trans h.size hs, hg, fun i hi => (hc _ (by dsimp only; omega)).trans (h.p10 i hi), fun i hi => ⟨(hc _ (by dsimp only; omega)).trans (h.tab i hi).1, (hc _ (by dsimp only; omega)).trans (h.tab i hi).2⟩,
    (hc _ (by dsimp only; omega)).trans h.opt, ?_⟩
  obtain ⟨b, o, c, hbT, hcc, h1, h2⟩ := h.cheats
  exact ⟨b, o, c, hbT, hcc, (hc _ (by dsimp only; omega)).trans h1, fun i hi => ⟨(hc _ hbT).trans (h2 i hi).1, (hc _ hbT).trans (h2 i hi).2⟩⟩

theorem Env.grown {T : Nat} {w w' : World} {row : Option Nat} (h : Env T w) (hg : w.grownBy w' row) (hr : ∀ k, row = some k → T ≤ k) : Env T w' :=
  h.kept hg.size fun k hk => hg.block k (Nat.lt_of_lt_of_le hk h.size) (fun e => by have := hr k e.symm; omega)

theorem Env.alloc {T : Nat} {w : World} (h : Env T w) (o : Obj) : Env T (w.alloc o) :=
  h.grown (World.grownBy_alloc w o none) (fun _ e => by cases e)

theorem Env.drewN {T : Nat} {w : World} (h : Env T w) (n : Nat) : Env T (w.drewN n) :=
  h.grown (grown_drewN w n none) (fun _ e => by cases e)

theorem Env.setCell {T : Nat} {w : World} (h : Env T w) {a : Addr} (ha : T ≤ a.block) (u : Value) : Env T (w.setCell a u) :=
  h.kept (by simp [World.setCell]) fun k hk => Below.heap_setCell w a u k (by omega)

theorem grown_setCell (w : World) (a : Addr) (u : Value) : w.grownBy (w.setCell a u) (some a.block) :=
  ⟨rfl, rfl, rfl, by simp [World.setCell], fun k _ hne => Below.heap_setCell w a u k (fun e => hne (by rw [e]))⟩

theorem grown_some {w w' : World} {row : Option Nat} (h : w.grownBy w' none) : w.grownBy w' row :=
  ⟨h.os, h.tape, h.output, h.size, fun k hk _ => h.block k hk (by simp)⟩

theorem grown_none_trans {w w1 w2 : World} (h : w.grownBy w1 none) (k : w1.grownBy w2 none) : w.grownBy w2 none :=
  grown_trans h k (fun _ e => by cases e)

/-- Own blocks that are made in the call and written there: against the world before they are nothing. -/
theorem grown_forget {w w1 w2 : World} {g : Nat} (h : w.grownBy w1 none) (k : w1.grownBy w2 (some g)) (hg : w.heap.size ≤ g) : w.grownBy w2 none :=
  grown_trans h k (fun j e hj => by cases e; omega)

theorem i64_and63 (n : Int) : bits .and .i64 n 63 = n % 64 := by
  have h63 : (BitVec.ofInt 64 63).toNat = 2 ^ 6 - 1 := by decide
  have key : (BitVec.ofInt 64 n &&& BitVec.ofInt 64 63).toNat = (n % ((2 ^ 64 : Nat) : Int)).toNat % 2 ^ 6 := by
    rw [BitVec.toNat_and, BitVec.toNat_ofInt, h63, Nat.and_two_pow_sub_one_eq_mod]
  show IntKind.i64.wrap ((BitVec.ofInt 64 n &&& BitVec.ofInt 64 63).toNat : Nat) = n % 64
  rw [key, IntKind.wrap_i64]
  omega

theorem i64_and1 (n : Int) : bits .and .i64 n 1 = n % 2 := by
  have h1 : (BitVec.ofInt 64 1).toNat = 2 ^ 1 - 1 := by decide
  have key : (BitVec.ofInt 64 n &&& BitVec.ofInt 64 1).toNat = (n % ((2 ^ 64 : Nat) : Int)).toNat % 2 ^ 1 := by
    rw [BitVec.toNat_and, BitVec.toNat_ofInt, h1, Nat.and_two_pow_sub_one_eq_mod]
  show IntKind.i64.wrap ((BitVec.ofInt 64 n &&& BitVec.ofInt 64 1).toNat : Nat) = n % 2
  rw [key, IntKind.wrap_i64]
  omega

theorem u64_and1 (a : Nat) (ha : a < 18446744073709551616) : bits .and .u64 (a : Int) 1 = ((a % 2 : Nat) : Int) := by
  have h := u64_and_nat a 1 ha (by omega)
  rw [Nat.and_one_is_mod] at h
  exact h

def b2n (b : Bool) : Nat := if b then 1 else 0
theorem b2n_le (b : Bool) : b2n b ≤ 1 := by cases b <;> decide

/-- A byte as a cell, a number of 64 bits as a cell. -/
def B8 (b : UInt8) : Value := .int .u8 (b.toNat : Int)
end Go.Proofs.YticlnihjhcepkaaGreatDoor

/-
  Walks of uscale.go's small functions: what each computes, in natural numbers and integers.
-/
namespace Go.Proofs.YticlnihjhcepkaaGreatDoor
open Go.RowKit
set_option linter.unusedSimpArgs false
set_option linter.unusedVariables false

theorem log10Pow2_any (x : Int) (w : World) (h1 : -10000 ≤ x) (h2 : x ≤ 10000) :
    Calls Tryz.prog 138 #[.int .i64 x] w fun e w' => e = .returned (.int .i64 (x * 78913 / 262144)) ∧ w' = w := by
  go_enter Tryz.func138, Tryz.ntmps138
  go_wp2
  go_ret
  exact ⟨rfl, rfl⟩

theorem log2Pow10_any (x : Int) (w : World) (h1 : -10000 ≤ x) (h2 : x ≤ 10000) :
    Calls Tryz.prog 149 #[.int .i64 x] w fun e w' => e = .returned (.int .i64 (x * 108853 / 32768)) ∧ w' = w := by
  go_enter Tryz.func149, Tryz.ntmps149
  go_wp2
  go_ret
  exact ⟨rfl, rfl⟩

theorem skewed_any (x : Int) (w : World) (h1 : -10000 ≤ x) (h2 : x ≤ 10000) :
    Calls Tryz.prog 161 #[.int .i64 x] w fun e w' => e = .returned (.int .i64 ((x * 631305 - 261663) / 2097152)) ∧ w' = w := by
  go_enter Tryz.func161, Tryz.ntmps161
  go_wp2
  go_ret
  exact ⟨rfl, rfl⟩

theorem log10Pow2_is (x r : Int) (w : World) (h1 : -10000 ≤ x) (h2 : x ≤ 10000) (hr : r = x * 78913 / 262144) :
    Calls Tryz.prog 138 #[.int .i64 x] w fun e w' => e = .returned (.int .i64 r) ∧ w = w' := by
  subst hr
  exact (log10Pow2_any x w h1 h2).mono fun _ _ ⟨h, k⟩ => ⟨h, k.symm⟩

theorem log2Pow10_is (x r : Int) (w : World) (h1 : -10000 ≤ x) (h2 : x ≤ 10000) (hr : r = x * 108853 / 32768) :
    Calls Tryz.prog 149 #[.int .i64 x] w fun e w' => e = .returned (.int .i64 r) ∧ w = w' := by
  subst hr
  exact (log2Pow10_any x w h1 h2).mono fun _ _ ⟨h, k⟩ => ⟨h, k.symm⟩

theorem skewed_is (x r : Int) (w : World) (h1 : -10000 ≤ x) (h2 : x ≤ 10000) (hr : r = (x * 631305 - 261663) / 2097152) :
    Calls Tryz.prog 161 #[.int .i64 x] w fun e w' => e = .returned (.int .i64 r) ∧ w = w' := by
  subst hr
  exact (skewed_any x w h1 h2).mono fun _ _ ⟨h, k⟩ => ⟨h, k.symm⟩

def uFloor (u : Nat) : Nat := u / 4
def uCeil (u : Nat) : Nat := (u + 3) % 18446744073709551616 / 4
def uRound (u : Nat) : Nat := (u + 1 + u / 4 % 2) % 18446744073709551616 / 4
def uNudge (u : Nat) (d : Int) : Nat := (((u : Int) + d) % 18446744073709551616).toNat
def uDiv (u d : Nat) : Nat := (u / d ||| u % 2) ||| b2n (decide (u % d ≠ 0))

theorem floor_any (u : Nat) (w : World) (h : u < 18446744073709551616) :
    Calls Tryz.prog 164 #[.int .u64 u] w fun e w' => e = .returned (.int .u64 (uFloor u : Nat)) ∧ w' = w := by
  go_enter Tryz.func164, Tryz.ntmps164
  go_wp2
  go_ret
  exact ⟨rfl, rfl⟩

theorem ceil_any (u : Nat) (w : World) (h : u < 18446744073709551616) :
    Calls Tryz.prog 163 #[.int .u64 u] w fun e w' => e = .returned (.int .u64 (uCeil u : Nat)) ∧ w' = w := by
  have e1 : IntKind.u64.wrap ((u : Int) + 3) = (((u + 3) % 18446744073709551616 : Nat) : Int) := by rw [IntKind.wrap_u64]; omega
  unfold uCeil
  generalize (u + 3) % 18446744073709551616 = k at *
  go_enter Tryz.func163, Tryz.ntmps163
  go_wp2
  go_ret
  exact ⟨rfl, rfl⟩

theorem round_any (u : Nat) (w : World) (h : u < 18446744073709551616) :
    Calls Tryz.prog 155 #[.int .u64 u] w fun e w' => e = .returned (.int .u64 (uRound u : Nat)) ∧ w' = w := by
  have e1 : IntKind.u64.wrap ((u : Int) + 1) = (((u + 1) % 18446744073709551616 : Nat) : Int) := by rw [IntKind.wrap_u64]; omega
  have e2 : bits .and .u64 ((u : Int) / 4) 1 = ((u / 4 % 2 : Nat) : Int) := by
    have := u64_and1 (u / 4) (by omega)
    rw [← this]; rfl
  have e3 : IntKind.u64.wrap ((((u + 1) % 18446744073709551616 : Nat) : Int) + ((u / 4 % 2 : Nat) : Int)) = (((u + 1 + u / 4 % 2) % 18446744073709551616 : Nat) : Int) := by rw [IntKind.wrap_u64]; omega
  unfold uRound
  generalize (u + 1) % 18446744073709551616 = k at *
  generalize (u + 1 + u / 4 % 2) % 18446744073709551616 = k2 at *
  generalize u / 4 % 2 = k3 at *
  go_enter Tryz.func155, Tryz.ntmps155
  go_wp2
  go_ret
  exact ⟨rfl, rfl⟩

theorem nudge_any (u : Nat) (d : Int) (w : World) (h : u < 18446744073709551616) (h1 : -9223372036854775808 ≤ d) (h2 : d ≤ 9223372036854775807) :
    Calls Tryz.prog 162 #[.int .u64 u, .int .i64 d] w fun e w' => e = .returned (.int .u64 (uNudge u d : Nat)) ∧ w' = w := by
  have e1 : IntKind.u64.wrap ((u : Int) + IntKind.u64.wrap d) = (uNudge u d : Nat) := by
    unfold uNudge; rw [IntKind.wrap_u64, IntKind.wrap_u64]; omega
  generalize uNudge u d = k at *
  go_enter Tryz.func162, Tryz.ntmps162
  go_wp2
  go_ret
  exact ⟨rfl, rfl⟩

theorem unmin_any (u : Nat) (w : World) (h : 1 ≤ u) (h1 : u < 4611686018427387904) :
    Calls Tryz.prog 153 #[.int .u64 u] w fun e w' => e = .returned (.int .u64 ((u * 4 - 2 : Nat) : Int)) ∧ w' = w := by
  have e1 : ((u : Int) * 4 - 2) = ((u * 4 - 2 : Nat) : Int) := by omega
  go_enter Tryz.func153, Tryz.ntmps153
  go_wp2
  go_ret
  exact ⟨rfl, rfl⟩

theorem bool2i_any (b : Bool) (w : World) :
    Calls Tryz.prog 152 #[.bool b] w fun e w' => e = .returned (.int .i64 (b2n b : Nat)) ∧ w' = w := by
  cases b <;> (
    go_enter Tryz.func152, Tryz.ntmps152
    go_wp2
    go_ret
    exact ⟨rfl, rfl⟩)

theorem bool2u_any (b : Bool) (w : World) :
    Calls Tryz.prog 124 #[.bool b] w fun e w' => e = .returned (.int .u64 (b2n b : Nat)) ∧ w' = w := by
  cases b <;> (
    go_enter Tryz.func124, Tryz.ntmps124
    go_wp2
    go_ret
    exact ⟨rfl, rfl⟩)

theorem bool2r_any (b : Bool) (w : World) :
    Calls Tryz.prog 176 #[.bool b] w fun e w' => e = .returned (.int .u64 (b2n b : Nat)) ∧ w' = w := by
  cases b <;> (
    go_enter Tryz.func176, Tryz.ntmps176
    go_wp2
    go_ret
    exact ⟨rfl, rfl⟩)

theorem div_any (u : Nat) (w : World) (h : u < 18446744073709551616) :
    Calls Tryz.prog 166 #[.int .u64 u, .int .u64 10] w fun e w' => e = .returned (.int .u64 (uDiv u 10 : Nat)) ∧ ∃ n, w' = w.drewN n := by
  have e1 : bits .and .u64 (u : Int) 1 = ((u % 2 : Nat) : Int) := u64_and1 u h
  have e2 : bits .or .u64 ((u : Int) / 10) ((u % 2 : Nat) : Int) = ((u / 10 ||| u % 2 : Nat) : Int) := u64_or_nat (u / 10) (u % 2) (by omega) (by omega)
  have B := bool2r_any (decide (u % 10 ≠ 0))
  have hb := b2n_le (decide (u % 10 ≠ 0))
  have hd : (((u : Int) % 10) != 0) = decide (u % 10 ≠ 0) := by
    rw [Bool.eq_iff_iff]; simp only [bne_iff_ne, decide_eq_true_eq]; omega
  have e3 : bits .or .u64 ((u / 10 ||| u % 2 : Nat) : Int) ((b2n (decide (u % 10 ≠ 0)) : Nat) : Int) = ((uDiv u 10 : Nat) : Int) :=
    u64_or_nat _ _ (by
      have : u / 10 ||| u % 2 < 2 ^ 64 := Nat.or_lt_two_pow (by omega) (by omega)
      omega) (by omega)
  generalize uDiv u 10 = k3 at *
  generalize b2n (decide (u % 10 ≠ 0)) = c at *
  generalize decide (u % 10 ≠ 0) = q at *
  generalize u / 10 ||| u % 2 = k at *
  generalize u % 2 = k2 at *
  have HB := Lib.hid B
  clear B
  go_enter Tryz.func166, Tryz.ntmps166
  go_wp2_with fail
  go_quiet ((go_at_call 176; exact Calls.quiet_of_same (HB.out _)))
  go_wp2_with fail
  go_ret
  exact ⟨rfl, _, rfl⟩
end Go.Proofs.YticlnihjhcepkaaGreatDoor

/-
  Walks: numDigits, formatBase10 (its contract off the shelf, said of a row), setDigits.
-/
namespace Go.Proofs.YticlnihjhcepkaaGreatDoor
open Go.RowKit Go.Sort
set_option linter.unusedSimpArgs false
set_option linter.unusedVariables false

def encB (b : UInt8) : Value := Value.int .u8 (b.toNat : Int)

/-- A row of bytes. -/
def BRow (w : World) (g : Nat) (bs : List UInt8) : Prop := Row w g (bs.map encB)

theorem BRow.row {w : World} {g : Nat} {bs : List UInt8} (h : BRow w g bs) : Row w g (bs.map encB) := h

/-- The number of decimal digits, 0 for 0. -/
def nDig (d : Nat) : Nat := if d = 0 then 0 else Lib.nDigits d

theorem bitLen_zero : Lib.bitLen 0 = 0 := by decide

theorem nDig_eq (d : Nat) (h : d < 18446744073709551616) : Lib.l10 (Lib.bitLen d) + b2n (decide (10 ^ Lib.l10 (Lib.bitLen d) ≤ d)) = nDig d ∧ Lib.l10 (Lib.bitLen d) ≤ 19 := by
  by_cases h0 : d = 0
  · subst h0
    rw [bitLen_zero]
    decide
  · have h1 := Lib.numDigits_eq d (by omega) h
    unfold nDig
    rw [if_neg h0, ← h1.1]
    refine ⟨?_, h1.2⟩
    unfold b2n
    simp

theorem numDigits_any (T : Nat) (d : Nat) (w : World) (he : Env T w) (h : d < 18446744073709551616) :
    Calls Tryz.prog 137 #[.int .u64 d] w fun e w' => e = .returned (.int .i64 (nDig d : Nat)) ∧ w' = w := by
  obtain ⟨h1, h2⟩ := nDig_eq d h
  obtain ⟨k, hk⟩ : ∃ k, Lib.l10 (Lib.bitLen d) = k := ⟨_, rfl⟩
  have hL : Lib.bitLen d ≤ 64 := Lib.bitLen_le d 64 (Nat.le_refl _) h
  rw [hk] at h1 h2
  have hp := he.p10 k (by omega)
  obtain ⟨t, ht⟩ : ∃ t, 10 ^ k = t := ⟨_, rfl⟩
  rw [ht] at h1 hp
  obtain ⟨c, hc⟩ : ∃ c, b2n (decide (t ≤ d)) = c := ⟨_, rfl⟩
  have hcl : c ≤ 1 := by rw [← hc]; exact b2n_le _
  rw [hc] at h1
  have hl : (k : Int) = (Lib.bitLen d : Int) * 78913 / 262144 := by rw [← hk]; unfold Lib.l10; omega
  generalize nDig d = r at *
  have B := bool2i_any (decide (t ≤ d))
  rw [hc] at B
  have M := Tryz.bits_Len64 (d : Int)
  have HB := Lib.hid B
  have HM := Lib.hid M
  have H1 := Lib.hid h1
  have HL := Lib.hid hl
  rw [Int.toNat_natCast] at M
  clear B M h1 hl ht hc hk he
  generalize hbl : Lib.bitLen d = bl at *
  have Hbl := Lib.hid hbl
  clear hbl
  go_enter Tryz.func137, Tryz.ntmps137
  go_wp2_with fail
  refine (HM.out _ (by omega) (by omega)).mono ?_
  rintro e w1 ⟨rfl, rfl⟩
  rw [Int.toNat_natCast, Hbl.out]
  go_wp2_with fail
  refine (log10Pow2_is _ (k : Int) _ (by omega) (by omega) HL.out).mono ?_
  rintro e w1 ⟨rfl, rfl⟩
  go_wp2_with fail
  refine (HB.out _).mono ?_
  rintro e w1 ⟨rfl, rfl⟩
  go_wp2_with fail
  go_ret
  refine ⟨?_, rfl⟩
  show Ending.returned (.int .i64 ((k : Int) + c)) = _
  rw [← H1.out]
  go_num

/-- d's last n decimal digits. -/
def digs (d n : Nat) : List UInt8 := (List.range n).map fun t => Lib.dg d (n - 1 - t)

theorem digs_length (d n : Nat) : (digs d n).length = n := by simp [digs]

theorem Row.put {w : World} {g : Nat} {xs : List Value} (h : Row w g xs) (dk : Array UInt8) (hl : dk.size ≤ xs.length) : Row (putRow encB w g 0 dk) g (dk.toList.map encB ++ xs.drop dk.size) := by
  obtain ⟨e, h⟩ := h
  refine ⟨e, ?_⟩
  simp only [putRow, mapBlock, Array.getElem?_modify, h]
  simp only [if_true, Option.map_some, onCells]
  congr 2
  apply Array.ext'
  simp only [putCells]
  apply List.ext_getElem?
  intro i
  rw [Array.getElem?_toList, Array.getElem?_mapIdx]
  simp only [Nat.zero_le, Nat.zero_add, true_and, Nat.sub_zero, List.getElem?_toArray]
  rcases Nat.lt_or_ge i dk.size with hi | hi
  · rw [List.getElem?_append_left (by simpa using hi), List.getElem?_eq_getElem (by omega)]
    simp [hi]
  · rw [List.getElem?_append_right (by simpa using hi)]
    simp only [List.length_map, Array.length_toList, List.getElem?_drop]
    rw [show dk.size + (i - dk.size) = i by omega]
    cases hx : xs[i]? with
    | none => rfl
    | some y => simp; intro h1; omega

theorem grown_put (w : World) (g : Nat) (dk : Array UInt8) : w.grownBy (putRow encB w g 0 dk) (some g) := by
  refine ⟨rfl, rfl, rfl, by simp [putRow, mapBlock], fun k _ hne => ?_⟩
  simp only [putRow, mapBlock, Array.getElem?_modify]
  rw [if_neg (fun e => hne (by rw [e]))]

/-- formatBase10 into the first n cells of a row. -/
theorem formatBase10_row (g n cap u : Nat) (bs : List UInt8) (w : World) (hr : BRow w g bs) (hn : n ≤ bs.length) (hu : u < 10 ^ n) (hu64 : u < 18446744073709551616) (hb : bs.length ≤ 4096) :
    Calls Tryz.prog 165 #[.slice (some ⟨g, 0, none⟩) n cap, .int .u64 u] w fun e w' =>
      e = .returned (.tuple #[]) ∧ BRow w' g (digs u n ++ bs.drop n) ∧ w.grownBy w' (some g) := by
  have hH : Holds encB w g 0 (bs.take n).toArray := fun j hj => by
    have hj' : j < n := by simp at hj; omega
    refine ⟨?_, hr.row.frozen _⟩
    rw [hr.row.cell]
    rw [Nat.zero_add, List.getElem?_map, List.getElem?_eq_getElem (by omega), getElem!_pos _ j hj]
    simp
  have hsz : (bs.take n).toArray.size = n := by simp; omega
  have key := Tryz.internal_strconv_formatBase10 g 0 cap u (bs.take n).toArray w hH (by rw [hsz]; exact hu) hu64 (by rw [hsz]; omega)
  rw [hsz] at key
  refine key.mono ?_
  rintro e w' ⟨rfl, k, v', dk, rfl, hinv⟩
  have hds := hinv.size
  have hdk : dk.toList = digs u n := by
    apply List.ext_getElem
    · rw [digs_length]; simpa using hds
    · intro i h1 h2
      have hi : i < n := by rw [digs_length] at h2; exact h2
      have := hinv.done i (Nat.zero_le _) hi
      rw [getElem!_pos _ i (by omega)] at this
      simp only [Array.getElem_toList, this, digs, List.getElem_map, List.getElem_range]
  refine ⟨rfl, ?_, ?_⟩
  · have h1 := (hr.row.put dk (by simp; omega)).drewN k
    rw [hdk, hds] at h1
    have e : (digs u n ++ bs.drop n).map encB = (digs u n).map encB ++ (bs.map encB).drop n := by simp
    show Row _ g _
    rw [e]
    exact h1
  · exact grown_trans (grown_put w g dk) (grown_drewN _ k none) (fun _ h => by cases h)

/-- How many of the first n bytes are left when zeros at the end go. -/
def trimZ (l : List UInt8) : Nat → Nat
  | 0 => 0
  | n + 1 => if l.getD n 0 = 48 then trimZ l n else n + 1

theorem trimZ_le (l : List UInt8) (n : Nat) : trimZ l n ≤ n := by
  induction n with
  | zero => exact Nat.le_refl _
  | succ n ih => unfold trimZ; split <;> omega

theorem nDig_le (d : Nat) (h : d < 18446744073709551616) : nDig d ≤ 20 := by
  obtain ⟨h1, h2⟩ := nDig_eq d h
  have := b2n_le (decide (10 ^ Lib.l10 (Lib.bitLen d) ≤ d))
  omega

theorem lt_pow_nDig (d : Nat) : d < 10 ^ nDig d := by
  unfold nDig
  split
  · subst_vars; decide
  · exact Lib.lt_pow_nDigits d

set_option maxHeartbeats 400000 in
theorem setDigits_any (g cap d : Nat) (p : Int) (bs : List UInt8) (w : World) (hr : BRow w g bs) (hb0 : 20 ≤ bs.length) (hb : bs.length ≤ 4096) (hc : bs.length ≤ cap) (hd : d < 18446744073709551616) (hp1 : -100000 ≤ p) (hp2 : p ≤ 100000) :
    Calls Tryz.prog 136 #[.slice (some ⟨g, 0, none⟩) bs.length cap, .int .u64 d, .int .i64 p, .int .i64 (nDig d : Nat)] w fun e w' =>
      e = .returned (.tuple #[.int .i64 ((nDig d : Nat) + p), .int .i64 (trimZ (digs d (nDig d)) (nDig d) : Nat)]) ∧ BRow w' g (digs d (nDig d) ++ bs.drop (nDig d)) ∧ w.grownBy w' (some g) := by
  have hn := nDig_le d hd
  have hlt := lt_pow_nDig d
  generalize nDig d = n at *
  have hdl := digs_length d n
  have hF := formatBase10_row g n cap d bs w hr (by omega) hlt hd hb
  have HF := Lib.hid hF
  clear hF hr hlt
  generalize digs d n = ds at *
  generalize hL : bs.length = L at *
  have Hdl := Lib.hid hdl
  have HL := Lib.hid hL
  clear hL hdl
  have hnL : n ≤ L := by omega
  have hdec : decide (n ≤ L) = true := by simpa using hnL
  go_enter Tryz.func136, Tryz.ntmps136
  go_wp2_with fail
  refine HF.out.mono ?_
  rintro e w1 ⟨rfl, hr1, hg1⟩
  have HR := Lib.hid hr1
  clear hr1 HF
  go_wp2_with fail
  go_loop [3] (fun v => ∃ k : Nat, k ≤ n ∧ v = .int .i64 k ∧ trimZ ds k = trimZ ds n) (fun v => (RowKit.intOf v).toNat)
  case atStart => exact ⟨n, Nat.le_refl _, rfl, rfl⟩
  case round =>
    obtain ⟨k, hk, rfl, hz⟩ := hrel
    have HZ := Lib.hid hz
    clear hz
    cases k with
    | zero =>
      have h0 : decide ((0 : Int) < ((0 : Nat) : Int)) = false := by decide
      have hfin : trimZ ds n = 0 := HZ.out.symm
      have HFin := Lib.hid hfin
      clear hfin
      go_wp2_with fail
      go_ret2
      refine ⟨?_, HR.out, hg1⟩
      rw [HFin.out]
      rfl
    | succ j =>
      have hj : j < L := by omega
      have hcell : w1.cell? ⟨g, j, none⟩ = some (encB (ds.getD j 0)) := by
        rw [HR.out.row.cell, List.getElem?_map, List.getElem?_append_left (by rw [Hdl.out]; omega), List.getD_eq_getElem?_getD, List.getElem?_eq_getElem (by rw [Hdl.out]; omega)]
        simp
      unfold encB at hcell
      by_cases h48 : ds.getD j 0 = 48
      · have hb1 : (((ds.getD j 0).toNat : Int) == 48) = true := by rw [h48]; decide
        have hz2 : trimZ ds (j + 1) = trimZ ds j := by rw [trimZ, if_pos h48]
        have HZ2 := Lib.hid (HZ.out.symm.trans hz2)
        clear hz2 h48
        generalize ds.getD j 0 = c at *
        go_wp2_with fail
        go_round
        case rel => exact ⟨j, by omega, by go_num, HZ2.out.symm⟩
        case measure => simp [RowKit.intOf]
      · have hb1 : (((ds.getD j 0).toNat : Int) == 48) = false := by
          rw [beq_eq_false_iff_ne]
          intro e
          apply h48
          apply UInt8.toNat_inj.1
          have : (48 : UInt8).toNat = 48 := by decide
          omega
        have hz2 : trimZ ds (j + 1) = j + 1 := by rw [trimZ, if_neg h48]
        have HZ2 := Lib.hid (HZ.out.symm.trans hz2)
        clear hz2 h48
        generalize ds.getD j 0 = c at *
        go_wp2_with fail
        go_ret2
        refine ⟨?_, HR.out, hg1⟩
        rw [HZ2.out]
        rfl
end Go.Proofs.YticlnihjhcepkaaGreatDoor

/-
  append to a byte slice of the call's own, as one law of the walk.
-/
namespace Go.Proofs.YticlnihjhcepkaaGreatDoor
open Go.RowKit
set_option linter.unusedSimpArgs false
set_option linter.unusedVariables false

/-- A byte slice of the call's own, in a block from T on, with its bytes. -/
def OwnB (T : Nat) (w : World) (v : Value) (xs : List UInt8) : Prop := Own w v (xs.map encB) ∧ ∀ k, v.ownBlock = some k → T ≤ k

theorem OwnB.alloc {T : Nat} {w : World} {v : Value} {xs : List UInt8} (h : OwnB T w v xs) (o : Obj) : OwnB T (w.alloc o) v xs := ⟨h.1.alloc o, h.2⟩
theorem OwnB.drewN {T : Nat} {w : World} {v : Value} {xs : List UInt8} (h : OwnB T w v xs) (n : Nat) : OwnB T (w.drewN n) v xs := ⟨h.1.drewN n, h.2⟩
theorem OwnB.grown {T : Nat} {w w' : World} {row : Option Nat} {v : Value} {xs : List UInt8} (h : OwnB T w v xs) (hg : w.grownBy w' row) (hne : v.ownBlock ≠ row) : OwnB T w' v xs := ⟨h.1.grown hg hne, h.2⟩
theorem OwnB.grown0 {T : Nat} {w w' : World} {v : Value} {xs : List UInt8} (h : OwnB T w v xs) (hg : w.grownBy w' none) : OwnB T w' v xs := by
  refine h.grown hg ?_
  obtain ⟨⟨g, rest, rfl, _⟩, _⟩ := h
  simp [Value.ownBlock]
theorem OwnB.env {T : Nat} {w w' : World} {v v' : Value} {xs : List UInt8} (h : OwnB T w v xs) (hs : Stp w v w' v') (he : Env T w) : Env T w' := he.grown hs.1 h.2
theorem OwnB.block {T : Nat} {w : World} {v : Value} {xs : List UInt8} (h : OwnB T w v xs) : ∃ g c, v = .slice (some ⟨g, 0, none⟩) xs.length c ∧ T ≤ g ∧ g < w.heap.size ∧ xs.length ≤ c ∧ c ≤ maxLen := by
  obtain ⟨⟨g, rest, rfl, hr, hm⟩, hT⟩ := h
  refine ⟨g, _, by simp, hT g rfl, hr.lt, by simp, hm⟩
theorem OwnB.lt {T : Nat} {w : World} {v : Value} {xs : List UInt8} (h : OwnB T w v xs) : T < w.heap.size := by
  obtain ⟨g, c, rfl, h1, h2, _⟩ := h.block
  omega

/-- The type of bytes and of byte slices, as append asks for it. -/
def ByteTy (P : Program) (t : TypeId) : Prop := ∃ e i z, P.underlying t = some (.slice e) ∧ P.info? e = some i ∧ i.zero = some z ∧ i.size = 1 ∧ z.cells.size = 1 ∧ i.bytes = 1

theorem wpList_appB {P : Program} {ops : Array Oper} {rest : List Oper} {o : Oper} {a : Act} {Q : Exit → Act → World → Prop} {w : World} (hgd : o.guard = none) (s x : Operand) (t tx : TypeId)
    (ho : o.op = .call { callee := .builtin .append, args := #[s, x], argTypes := #[t, tx] }) (hty : ByteTy P t) {T : Nat} {v : Value} {xs : List UInt8} (hown : OwnB T w v xs) (hs : a.eval s = v)
    (xv : Value) (hx : a.eval x = xv) (ys : List UInt8) (hsrc : Src P 1 tx xv ys.length (ys.map encB) w) (hb : xs.length + ys.length ≤ 140737489400000)
    (h : ∀ v' w', OwnB T w' v' (xs ++ ys) → Stp w v w' v' → wpList P ops Q rest (a.put o.dst v') w') : wpList P ops Q (o :: rest) a w := by
  obtain ⟨e, i, z, h1, h2, h3, h4, h5, h6⟩ := hty
  have hlt := hown.lt
  obtain ⟨v', w', hrun, hown', hstp⟩ := run_append_Own (P := P) w t tx o.type e i z h1 h2 h3 h4 h5 v (xs.map encB) hown.1 xv ys.length (ys.map encB) hsrc (by rw [h6]; simp only [List.length_map]; omega) (by omega)
  refine wpList_plain hgd fun K hK => ?_
  unfold Oper.wp execOp
  simp only [ho, resolve, invoke, builtin, Sem.run_bind, Sem.run_pure, Result.andThen_ok, List.map_toArray, List.map_cons, List.map_nil, hs, hx, hrun]
  refine hK _ _ (h v' w' ⟨by rw [List.map_append]; exact hown', fun k hk => ?_⟩ hstp)
  by_cases hkl : k < w.heap.size
  · exact hown.2 k (hstp.2 k hk hkl)
  · omega

/-- What lies in one new cell. -/
theorem src_one {P : Program} {w : World} {tx e' : TypeId} (hk : P.underlying tx = some (.slice e')) (b : Nat) (u : UInt8) (hc : w.cell? ⟨b, 0, none⟩ = some (encB u)) : Src P 1 tx (.slice (some ⟨b, 0, none⟩) 1 1) [u].length ([u].map encB) w :=
  Src.ofSlice w hk ⟨b, 0, none⟩ 1 1 [encB u] rfl (fun j v hj => by
    cases j with
    | zero => simp at hj; subst hj; exact hc
    | succ j => simp at hj) (fun v hv => by simp at hv; subst hv; rfl)

theorem src_new {P : Program} {w : World} {tx e' : TypeId} (hk : P.underlying tx = some (.slice e')) (us : List UInt8) (E : TypeId) : Src P 1 tx (.slice (some ⟨w.heap.size, 0, none⟩) us.length us.length) us.length (us.map encB) (w.alloc (.cells (us.map encB).toArray E)) := by
  have hr := Row.new w (us.map encB) E
  refine Src.ofSlice _ hk ⟨w.heap.size, 0, none⟩ us.length us.length (us.map encB) (by simp) (fun j v hj => ?_) (fun v hv => ?_)
  · have e : ((⟨w.heap.size, 0, none⟩ : Addr).add j) = ⟨w.heap.size, j, none⟩ := by
      unfold Addr.add; split
      · subst_vars; rfl
      · simp
    rw [e, hr.cell]
    exact hj
  · obtain ⟨b, _, rfl⟩ := List.mem_map.1 hv
    rfl

/-- A piece of a row of bytes. -/
theorem src_row {P : Program} {w : World} {tx e' : TypeId} (hk : P.underlying tx = some (.slice e')) (g o n c : Nat) (bs : List UInt8) (hr : BRow w g bs) (hn : o + n ≤ bs.length) : Src P 1 tx (.slice (some ⟨g, o, none⟩) n c) ((bs.drop o).take n).length (((bs.drop o).take n).map encB) w := by
  have hl : ((bs.drop o).take n).length = n := by simp; omega
  rw [hl]
  refine Src.ofSlice _ hk ⟨g, o, none⟩ n c _ (by rw [List.length_map, hl]; omega) (fun j v hj => ?_) (fun v hv => ?_)
  · have e : ((⟨g, o, none⟩ : Addr).add j) = ⟨g, o + j, none⟩ := by
      unfold Addr.add; split
      · subst_vars; rfl
      · rfl
    rw [e, hr.row.cell]
    rw [List.getElem?_map] at hj ⊢
    rw [← hj]
    congr 1
    rcases Nat.lt_or_ge j n with h | h
    · rw [List.getElem?_take_of_lt h, List.getElem?_drop]
    · rw [List.getElem?_eq_none (by omega)] at hj
      simp at hj
  · obtain ⟨b, _, rfl⟩ := List.mem_map.1 hv
    rfl

theorem src_str {P : Program} {w : World} {tx : TypeId} (hk : P.underlying tx = some .string) (s : ByteArray) (us : List UInt8) (hu : s.data.toList = us) : Src P 1 tx (.string s) us.length (us.map encB) w := by
  have h := Src.ofString w hk s
  subst hu
  have e : s.size = s.data.toList.length := by simp
  rw [e] at h
  exact h

theorem decDigits_le (u : Nat) (hu : u < 18446744073709551616) : (Lib.decDigits u).length ≤ 20 := by
  rw [Lib.decDigits_length]
  have := nDig_le u hu
  unfold nDig at this
  split at this
  · subst_vars; rw [Lib.nDigits_small (by omega)]; omega
  · exact this

theorem digs_decDigits (u : Nat) : digs u (Lib.nDigits u) = Lib.decDigits u := by rw [Lib.decDigits_eq]; rfl

theorem BRow.new (w : World) (bs : List UInt8) (E : TypeId) : BRow (w.alloc (.cells (bs.map encB).toArray E)) w.heap.size bs := Row.new w (bs.map encB) E
theorem BRow.grown {w w' : World} {row : Option Nat} {g : Nat} {xs : List UInt8} (h : BRow w g xs) (hg : w.grownBy w' row) (hne : some g ≠ row) : BRow w' g xs := Row.grown h hg hne
theorem BRow.alloc {w : World} {g : Nat} {xs : List UInt8} (h : BRow w g xs) (o : Obj) : BRow (w.alloc o) g xs := Row.alloc h o
theorem BRow.lt {w : World} {g : Nat} {xs : List UInt8} (h : BRow w g xs) : g < w.heap.size := Row.lt h
theorem BRow.stp {w w1 : World} {v v1 : Value} {g : Nat} {xs : List UInt8} (hr : BRow w g xs) (h : Stp w v w1 v1) (hne : v.ownBlock ≠ some g) : BRow w1 g xs ∧ v1.ownBlock ≠ some g := h.row hr hne
theorem OwnB.ne_new {T : Nat} {w : World} {v : Value} {xs : List UInt8} (h : OwnB T w v xs) : v.ownBlock ≠ some w.heap.size := h.1.ne_of_ge (Nat.le_refl _)
theorem Stp.alloc1 {w w' : World} {v v' : Value} {o : Obj} (h : Stp (w.alloc o) v w' v') : Stp w v w' v' := ((Stp.refl w v).alloc o).trans h
theorem Stp.of0 {w w' : World} (v : Value) (h : w.grownBy w' none) : Stp w v w' v := ⟨grown_some h, fun _ e _ => e⟩
theorem Stp.other {T : Nat} {w w1 w' : World} {v : Value} {xs : List UInt8} (_ho : OwnB T w v xs) (h1 : w.grownBy w1 none) {g : Nat} (hg : w.heap.size ≤ g) (h : w1.grownBy w' (some g)) : Stp w v w' v :=
  ⟨grown_some (grown_forget h1 h hg), fun _ e _ => e⟩

theorem arrLen24 : Tryz.prog.arrayLen 188 = 24 := by simp [Program.arrayLen, Program.elem, Tryz.underlying188]
theorem slice24 (g n : Nat) (W : World) (hn : n ≤ 24) : (Instr.sliceAt 188 (.pointer (some ⟨g, 0, none⟩)) none (some (.int .i64 (n : Int))) none).run Tryz.prog W = .ok (.slice (some ⟨g, 0, none⟩) n 24) W := by
  rw [run_sliceAt_array_h W 188 ⟨g, 0, none⟩ (by simp [Program.arrayLen, Program.elem, Tryz.underlying188]) .i64 (n : Int) (by omega) (by rw [arrLen24]; omega)]
  go_simp

theorem byteInfo : (Tryz.prog.info? 5).map (fun i => (i.zero, i.size, i.bytes)) = some (some (.int .u8 0), 1, 1) := by kernel_rfl
theorem byteTy : ByteTy Tryz.prog 51 := by
  obtain ⟨i0, hi, hz0, hz1, hz2⟩ := info_parts byteInfo
  exact ⟨5, i0, _, Tryz.underlying51, hi, hz0, hz1, rfl, hz2⟩
end Go.Proofs.YticlnihjhcepkaaGreatDoor

/-
  append in a frame that is a function; digits that are read while a slice of the call's own grows.
-/
namespace Go.Proofs.YticlnihjhcepkaaGreatDoor
open Go.RowKit
set_option linter.unusedSimpArgs false
set_option linter.unusedVariables false

theorem wpList_appF {P : Program} {ops : Array Oper} {rest : List Oper} {o : Oper} {Q : Exit → Act → World → Prop} {w : World} {n : Nat} {env : List (Nat × Value)} {σ : Nat → Value} (hgd : o.guard = none) (ks kx : Nat) (t tx : TypeId)
    (ho : o.op = .call { callee := .builtin .append, args := #[.tmp ks, .tmp kx], argTypes := #[t, tx] }) (hks : ks < n) (hkx : kx < n) (hty : ByteTy P t) {T : Nat} {v : Value} {xs : List UInt8} (hown : OwnB T w v xs) (hs : over env σ ks = v)
    (xv : Value) (hx : over env σ kx = xv) (ys : List UInt8) (hsrc : Src P 1 tx xv ys.length (ys.map encB) w) (hb : xs.length + ys.length ≤ 140737489400000)
    (h : ∀ v' w', OwnB T w' v' (xs ++ ys) → Stp w v w' v' → wpList P ops Q rest ((Fr n env σ).put o.dst v') w') : wpList P ops Q (o :: rest) (Fr n env σ) w :=
  wpList_appB hgd (.tmp ks) (.tmp kx) t tx ho hty hown ((Fr_eval n env σ ks hks).trans hs) xv ((Fr_eval n env σ kx hkx).trans hx) ys hsrc hb h

/-- The first digits of s are ds, and s does not lie in v's block. -/
def Dig (w : World) (v s : Value) (ds : List UInt8) : Prop :=
  ds = [] ∨ ∃ (g c : Nat) (bs : List UInt8), s = .slice (some ⟨g, 0, none⟩) bs.length c ∧ bs.length ≤ c ∧ c ≤ 100000 ∧ (∃ rest, Row w g (bs.map encB ++ rest)) ∧ v.ownBlock ≠ some g ∧ bs.take ds.length = ds ∧ ds.length ≤ bs.length

theorem Dig.stp {w w' : World} {v v' s : Value} {ds : List UInt8} (h : Dig w v s ds) (hs : Stp w v w' v') : Dig w' v' s ds := by
  rcases h with h | ⟨g, c, bs, h1, h2, h2', h3, h4, h5, h6⟩
  · exact .inl h
  · obtain ⟨rest, h3⟩ := h3
    obtain ⟨h7, h8⟩ := hs.row h3 h4
    exact .inr ⟨g, c, bs, h1, h2, h2', ⟨rest, h7⟩, h8, h5, h6⟩
theorem Dig.of_row {w : World} {v : Value} {ds bs : List UInt8} {g c : Nat} (h2 : bs.length ≤ c) (h2' : c ≤ 100000) (h3 : BRow w g bs) (h4 : v.ownBlock ≠ some g) (h5 : bs.take ds.length = ds) (h6 : ds.length ≤ bs.length) : Dig w v (.slice (some ⟨g, 0, none⟩) bs.length c) ds :=
  .inr ⟨g, c, bs, rfl, h2, h2', ⟨[], by rw [List.append_nil]; exact h3⟩, h4, h5, h6⟩

/-- A piece of the bytes at the head of a row. -/
theorem src_head {P : Program} {w : World} {tx e' : TypeId} (hk : P.underlying tx = some (.slice e')) (g o n c : Nat) (bs : List UInt8) (rest : List Value) (hr : Row w g (bs.map encB ++ rest)) (hn : o + n ≤ bs.length) : Src P 1 tx (.slice (some ⟨g, o, none⟩) n c) ((bs.drop o).take n).length (((bs.drop o).take n).map encB) w := by
  have hl : ((bs.drop o).take n).length = n := by simp; omega
  rw [hl]
  refine Src.ofSlice _ hk ⟨g, o, none⟩ n c _ (by rw [List.length_map, hl]; omega) (fun j v hj => ?_) (fun v hv => ?_)
  · have e : ((⟨g, o, none⟩ : Addr).add j) = ⟨g, o + j, none⟩ := by
      unfold Addr.add; split
      · subst_vars; rfl
      · rfl
    rcases Nat.lt_or_ge j n with h | h
    · rw [e, hr.cell, List.getElem?_append_left (by rw [List.length_map]; omega)]
      rw [List.getElem?_map] at hj ⊢
      rw [← hj]
      congr 1
      rw [List.getElem?_take_of_lt h, List.getElem?_drop]
    · rw [List.getElem?_eq_none (by rw [List.length_map]; omega)] at hj
      cases hj
  · obtain ⟨b, _, rfl⟩ := List.mem_map.1 hv
    rfl

theorem Dig.alloc {w : World} {v s : Value} {ds : List UInt8} (h : Dig w v s ds) (o : Obj) : Dig (w.alloc o) v s ds := h.stp ((Stp.refl w v).alloc o)

theorem encB_of (i : Int) (h1 : 0 ≤ i) (h2 : i < 256) : encB (UInt8.ofNat i.toNat) = .int .u8 i := by
  unfold encB
  congr 1
  simp
  omega

theorem src_one_at {P : Program} {w : World} {tx e' : TypeId} (hk : P.underlying tx = some (.slice e')) (i : Int) (h1 : 0 ≤ i) (h2 : i < 256) (E : TypeId) :
    Src P 1 tx (.slice (some ⟨w.heap.size, 0, none⟩) 1 1) [UInt8.ofNat i.toNat].length ([UInt8.ofNat i.toNat].map encB) (w.alloc (.cells #[.int .u8 i] E)) := by
  have h := src_new (w := w) hk [UInt8.ofNat i.toNat] E
  simp only [List.map_cons, List.map_nil, encB_of i h1 h2] at h ⊢
  exact h

theorem src_two_at {P : Program} {w : World} {tx e' : TypeId} (hk : P.underlying tx = some (.slice e')) (i j : Int) (h1 : 0 ≤ i) (h2 : i < 256) (h3 : 0 ≤ j) (h4 : j < 256) (E : TypeId) :
    Src P 1 tx (.slice (some ⟨w.heap.size, 0, none⟩) 2 2) [UInt8.ofNat i.toNat, UInt8.ofNat j.toNat].length ([UInt8.ofNat i.toNat, UInt8.ofNat j.toNat].map encB) (w.alloc (.cells #[.int .u8 i, .int .u8 j] E)) := by
  have h := src_new (w := w) hk [UInt8.ofNat i.toNat, UInt8.ofNat j.toNat] E
  simp only [List.map_cons, List.map_nil, encB_of i h1 h2, encB_of j h3 h4] at h ⊢
  exact h

theorem src_three_at {P : Program} {w : World} {tx e' : TypeId} (hk : P.underlying tx = some (.slice e')) (i j k : Int) (h1 : 0 ≤ i) (h2 : i < 256) (h3 : 0 ≤ j) (h4 : j < 256) (h5 : 0 ≤ k) (h6 : k < 256) (E : TypeId) :
    Src P 1 tx (.slice (some ⟨w.heap.size, 0, none⟩) 3 3) [UInt8.ofNat i.toNat, UInt8.ofNat j.toNat, UInt8.ofNat k.toNat].length ([UInt8.ofNat i.toNat, UInt8.ofNat j.toNat, UInt8.ofNat k.toNat].map encB) (w.alloc (.cells #[.int .u8 i, .int .u8 j, .int .u8 k] E)) := by
  have h := src_new (w := w) hk [UInt8.ofNat i.toNat, UInt8.ofNat j.toNat, UInt8.ofNat k.toNat] E
  simp only [List.map_cons, List.map_nil, encB_of i h1 h2, encB_of j h3 h4, encB_of k h5 h6] at h ⊢
  exact h

theorem src_four_at {P : Program} {w : World} {tx e' : TypeId} (hk : P.underlying tx = some (.slice e')) (i j k l : Int) (h1 : 0 ≤ i) (h2 : i < 256) (h3 : 0 ≤ j) (h4 : j < 256) (h5 : 0 ≤ k) (h6 : k < 256) (h7 : 0 ≤ l) (h8 : l < 256) (E : TypeId) :
    Src P 1 tx (.slice (some ⟨w.heap.size, 0, none⟩) 4 4) [UInt8.ofNat i.toNat, UInt8.ofNat j.toNat, UInt8.ofNat k.toNat, UInt8.ofNat l.toNat].length ([UInt8.ofNat i.toNat, UInt8.ofNat j.toNat, UInt8.ofNat k.toNat, UInt8.ofNat l.toNat].map encB) (w.alloc (.cells #[.int .u8 i, .int .u8 j, .int .u8 k, .int .u8 l] E)) := by
  have h := src_new (w := w) hk [UInt8.ofNat i.toNat, UInt8.ofNat j.toNat, UInt8.ofNat k.toNat, UInt8.ofNat l.toNat] E
  simp only [List.map_cons, List.map_nil, encB_of i h1 h2, encB_of j h3 h4, encB_of k h5 h6, encB_of l h7 h8] at h ⊢
  exact h

/-- What a formatting function has done so far: v owns out; nothing old has turned but dst's own block; s still holds its digits. -/
structure Ap (T : Nat) (w : World) (dst s : Value) (ds : List UInt8) (w' : World) (v : Value) (out : List UInt8) : Prop where
  own : OwnB T w' v out
  stp : Stp w dst w' v
  env : Env T w'
  dig : Dig w' v s ds

theorem Ap.start {T : Nat} {w : World} {dst s : Value} {ds xs : List UInt8} (ho : OwnB T w dst xs) (he : Env T w) (hd : Dig w dst s ds) : Ap T w dst s ds w dst xs := ⟨ho, Stp.refl w dst, he, hd⟩

theorem Ap.step {T : Nat} {w w1 w2 : World} {dst s v1 v2 : Value} {ds out ys : List UInt8} {o : Obj} (h : Ap T w dst s ds w1 v1 out) (ho : OwnB T w2 v2 (out ++ ys)) (hs : Stp (w1.alloc o) v1 w2 v2) : Ap T w dst s ds w2 v2 (out ++ ys) :=
  ⟨ho, h.stp.trans hs.alloc1, OwnB.env (h.own.alloc o) hs (h.env.alloc o), h.dig.stp hs.alloc1⟩

theorem Ap.step0 {T : Nat} {w w1 w2 : World} {dst s v1 v2 : Value} {ds out ys : List UInt8} (h : Ap T w dst s ds w1 v1 out) (ho : OwnB T w2 v2 (out ++ ys)) (hs : Stp w1 v1 w2 v2) : Ap T w dst s ds w2 v2 (out ++ ys) :=
  ⟨ho, h.stp.trans hs, OwnB.env h.own hs h.env, h.dig.stp hs⟩

theorem Ap.to {T : Nat} {w w1 : World} {dst s v1 : Value} {ds out out' : List UInt8} (h : Ap T w dst s ds w1 v1 out) (e : out = out') : Ap T w dst s ds w1 v1 out' := e ▸ h

theorem Ap.at {T : Nat} {w w1 : World} {dst s v1 v2 : Value} {ds out : List UInt8} (h : Ap T w dst s ds w1 v1 out) (e : v2 = v1) : Ap T w dst s ds w1 v2 out := e ▸ h

/-- The digits behind the first one, of a slice expression. -/
theorem Dig.piece {P : Program} {w : World} {v s : Value} {ds : List UInt8} {tx e' : TypeId} (hk : P.underlying tx = some (.slice e')) (h : Dig w v s ds) (o m : Nat) (hm : o + m ≤ ds.length) (hne : ds ≠ []) :
    ∃ g L c, s = .slice (some ⟨g, 0, none⟩) L c ∧ ds.length ≤ L ∧ L ≤ c ∧ c ≤ 100000 ∧ ∀ c', Src P 1 tx (.slice (some ⟨g, o, none⟩) m c') ((ds.drop o).take m).length (((ds.drop o).take m).map encB) w := by
  rcases h with h | ⟨g, c, bs, h1, h2, h2', h3, h4, h5, h6⟩
  · exact absurd h hne
  · refine ⟨g, bs.length, c, h1, h6, h2, h2', fun c' => ?_⟩
    obtain ⟨rest, h3⟩ := h3
    have := src_head (P := P) hk g o m c' bs rest h3 (by omega)
    have e : (ds.drop o).take m = (bs.drop o).take m := by
      rw [← h5, List.drop_take, List.take_take, Nat.min_eq_left (by omega)]
    rw [e]
    exact this

theorem Dig.cellAt {w : World} {v s : Value} {ds : List UInt8} (h : Dig w v s ds) {g L c : Nat} (hs : s = .slice (some ⟨g, 0, none⟩) L c) (i : Nat) (hi : i < ds.length) : w.cell? ⟨g, i, none⟩ = some (.int .u8 ((ds.getD i 0).toNat : Int)) := by
  rcases h with h | ⟨g', c', bs, h1, h2, h2', h3, h4, h5, h6⟩
  · subst h; simp at hi
  · rw [hs] at h1
    simp only [Value.slice.injEq, Option.some.injEq, Addr.mk.injEq, and_true] at h1
    obtain ⟨rfl, _, _⟩ := h1
    obtain ⟨rest, h3⟩ := h3
    rw [h3.cell, List.getElem?_append_left (by rw [List.length_map]; omega), List.getElem?_map, List.getElem?_eq_getElem (by omega)]
    have e : bs[i]'(by omega) = ds.getD i 0 := by
      have : ds.getD i 0 = (bs.take ds.length).getD i 0 := by rw [h5]
      rw [this, List.getD_eq_getElem?_getD, List.getElem?_take_of_lt hi, List.getElem?_eq_getElem (by omega)]
      rfl
    rw [e]
    rfl

theorem take_succ_getD (l : List UInt8) (j : Nat) (h : j < l.length) : l.take (j + 1) = l.take j ++ [l.getD j 0] := by
  rw [List.take_succ_eq_append_getElem h, List.getD_eq_getElem?_getD, List.getElem?_eq_getElem h]
  rfl

theorem Dig.at {w : World} {v s : Value} {ds : List UInt8} (h : Dig w v s ds) (i : Nat) (hi : i < ds.length) :
    ∃ g L c, s = .slice (some ⟨g, 0, none⟩) L c ∧ ds.length ≤ L ∧ L ≤ c ∧ c ≤ 100000 ∧ w.cell? ⟨g, i, none⟩ = some (encB (ds.getD i 0)) := by
  rcases h with h | ⟨g, c, bs, h1, h2, h2', h3, h4, h5, h6⟩
  · subst h; simp at hi
  · refine ⟨g, bs.length, c, h1, h6, h2, h2', ?_⟩
    obtain ⟨rest, h3⟩ := h3
    rw [h3.cell, List.getElem?_append_left (by rw [List.length_map]; omega), List.getElem?_map, List.getElem?_eq_getElem (by omega)]
    have e : bs[i]'(by omega) = ds.getD i 0 := by
      have : ds.getD i 0 = (bs.take ds.length).getD i 0 := by rw [h5]
      rw [this, List.getD_eq_getElem?_getD, List.getElem?_take_of_lt hi, List.getElem?_eq_getElem (by omega)]
      rfl
    rw [e]
    rfl
end Go.Proofs.YticlnihjhcepkaaGreatDoor

/-
  Walks of uscale.go: prescale, uscale.
-/
namespace Go.Proofs.YticlnihjhcepkaaGreatDoor
open Go.RowKit
set_option linter.unusedSimpArgs false
set_option linter.unusedVariables false

set_option maxHeartbeats 400000 in
theorem prescale_any (T b : Nat) (x p lp : Int) (c0 c1 c2 : Value) (w : World) (he : Env T w) (hb : T ≤ b) (hr : Row w b [c0, c1, c2])
    (hp1 : -348 ≤ p) (hp2 : p ≤ 347) (hx1 : -10000 ≤ x) (hx2 : x ≤ 10000) (hl1 : -10000 ≤ lp) (hl2 : lp ≤ 10000) :
    Calls Tryz.prog 150 #[.pointer (some ⟨b, 0, none⟩), .int .i64 x, .int .i64 p, .int .i64 lp] w fun e w' =>
      e = .returned (.tuple #[]) ∧ Row w' b [.int .u64 (pmHi (p + 348).toNat : Int), .int .u64 (pmLo (p + 348).toNat : Int), .int .i64 (-(x + lp + 3))] ∧ w.grownBy w' (some b) := by
  obtain ⟨i, hi⟩ : ∃ i : Nat, p = (i : Int) - 348 := ⟨(p + 348).toNat, by omega⟩
  subst hi
  have ei : ((i : Int) - 348 + 348).toNat = i := by omega
  rw [ei]
  have hg := he.glob
  have hi : i < 696 := by omega
  have t1 := (he.tab i hi).1
  have t2 := (he.tab i hi).2
  have e1 : w.cell? ⟨b, 0, none⟩ = some c0 := by rw [hr.cell]; rfl
  have e2 : w.cell? ⟨b, 1, none⟩ = some c1 := by rw [hr.cell]; rfl
  have e3 : w.cell? ⟨b, 2, none⟩ = some c2 := by rw [hr.cell]; rfl
  have f1 := hr.frozen 0
  have f2 := hr.frozen 1
  have f3 := hr.frozen 2
  have hne : ¬ b = 10 := by omega
  have H := Lib.hid hr
  clear hr he ei
  generalize pmHi i = ph at *
  generalize pmLo i = pl at *
  go_enter Tryz.func150, Tryz.ntmps150
  go_wp2
  go_end0
  refine ⟨rfl, ?_, ?_⟩
  · have h1 := ((H.out.setCell 0 (.int .u64 (ph : Int))).setCell 1 (.int .u64 (pl : Int))).setCell 2 (.int .i64 (-(x + lp + 3)))
    exact h1
  · exact grown_trans (grown_trans (grown_setCell w ⟨b, 0, none⟩ _) (grown_setCell _ ⟨b, 1, none⟩ _) (fun _ h _ => h)) (grown_setCell _ ⟨b, 2, none⟩ _) (fun _ h _ => h)

def us (x hi lo s : Nat) : Nat :=
  if (x * hi / 18446744073709551616) / 2 ^ s * 2 ^ s ≠ x * hi / 18446744073709551616 then (x * hi / 18446744073709551616) / 2 ^ s ||| 1
  else (x * hi / 18446744073709551616 + 18446744073709551616 - b2n (decide (x * hi % 18446744073709551616 < x * lo / 18446744073709551616))) % 18446744073709551616 / 2 ^ s |||
    b2n (decide (1 < (x * hi % 18446744073709551616 + 18446744073709551616 - x * lo / 18446744073709551616) % 18446744073709551616))

theorem us_lt (x hi lo s : Nat) (hx : x < 18446744073709551616) (hhi : hi < 18446744073709551616) : us x hi lo s < 18446744073709551616 := by
  have bh : x * hi / 18446744073709551616 < 18446744073709551616 := by
    have : x * hi < 18446744073709551616 * 18446744073709551616 := Nat.mul_lt_mul'' hx hhi
    omega
  have h1 : us x hi lo s < 2 ^ 64 := by
    unfold us
    generalize x * hi / 18446744073709551616 = h at *
    split
    · exact Nat.or_lt_two_pow (Nat.lt_of_le_of_lt (Nat.div_le_self _ _) (by omega)) (by omega)
    · have := b2n_le (decide (1 < (x * hi % 18446744073709551616 + 18446744073709551616 - x * lo / 18446744073709551616) % 18446744073709551616))
      exact Nat.or_lt_two_pow (Nat.lt_of_le_of_lt (Nat.div_le_self _ _) (by omega)) (by omega)
  omega

set_option maxHeartbeats 400000 in
theorem uscale_any (x hi lo : Nat) (s : Nat) (b o : Nat) (w : World) (hx : x < 18446744073709551616) (hhi : hi < 18446744073709551616) (hlo : lo < 18446744073709551616)
    (hs : s < 64) (c0 : w.cell? ⟨b, o, none⟩ = some (.int .u64 hi)) (c1 : w.cell? ⟨b, o + 1, none⟩ = some (.int .u64 lo)) (c2 : w.cell? ⟨b, o + 2, none⟩ = some (.int .i64 s)) :
    Calls Tryz.prog 151 #[.int .u64 x, .pointer (some ⟨b, o, none⟩)] w fun e w' => e = .returned (.int .u64 (us x hi lo s : Nat)) ∧ ∃ n, w' = w.drewN n := by
  have hand : bits .and .i64 (s : Int) 63 = (s : Int) := by rw [i64_and63]; omega
  have bh : x * hi / 18446744073709551616 < 18446744073709551616 := by
    have : x * hi < 18446744073709551616 * 18446744073709551616 := Nat.mul_lt_mul'' hx hhi
    omega
  have bm : x * hi % 18446744073709551616 < 18446744073709551616 := by omega
  have bm2 : x * lo / 18446744073709551616 < 18446744073709551616 := by
    have : x * lo < 18446744073709551616 * 18446744073709551616 := Nat.mul_lt_mul'' hx hlo
    omega
  have M1 := Tryz.bits_Mul64 x hi hx hhi
  have M2 := Tryz.bits_Mul64 x lo hx hlo
  unfold us
  revert M1 M2
  generalize x * hi / 18446744073709551616 = h at *
  generalize x * hi % 18446744073709551616 = m at *
  generalize x * lo / 18446744073709551616 = m2 at *
  generalize x * lo % 18446744073709551616 = m3 at *
  intro M1 M2
  have H1 := Lib.hid M1
  have H2 := Lib.hid M2
  clear M1 M2
  have bq : h / 2 ^ s * 2 ^ s ≤ h := Nat.div_mul_le_self _ _
  have bq2 : h / 2 ^ s < 18446744073709551616 := Nat.lt_of_le_of_lt (Nat.div_le_self _ _) bh
  have ee : (h : Int) / 2 ^ s * 2 ^ s = ((h / 2 ^ s * 2 ^ s : Nat) : Int) := by simp
  have wr : IntKind.u64.wrap ((h : Int) / 2 ^ s * 2 ^ s) = (h : Int) / 2 ^ s * 2 ^ s := by
    rw [ee, IntKind.wrap_u64]; omega
  by_cases hc : h / 2 ^ s * 2 ^ s = h
  · rw [if_neg (by simp [hc])]
    have hb : (((h : Int) / 2 ^ s * 2 ^ s) != (h : Int)) = false := by
      rw [ee, hc]; simp
    clear hc bq bq2 ee
    have hle := b2n_le (decide (m < m2))
    have B2 := bool2u_any (decide (m < m2))
    generalize b2n (decide (m < m2)) = c at *
    have wr2 : IntKind.u64.wrap ((h : Int) - c) = (((h + 18446744073709551616 - c) % 18446744073709551616 : Nat) : Int) := by
      rw [IntKind.wrap_u64]; omega
    have wr3 : IntKind.u64.wrap ((m : Int) - m2) = (((m + 18446744073709551616 - m2) % 18446744073709551616 : Nat) : Int) := by
      rw [IntKind.wrap_u64]; omega
    have b4 : (h + 18446744073709551616 - c) % 18446744073709551616 < 18446744073709551616 := by omega
    generalize (h + 18446744073709551616 - c) % 18446744073709551616 = h' at *
    generalize (m + 18446744073709551616 - m2) % 18446744073709551616 = m' at *
    have b5 : h' / 2 ^ s < 18446744073709551616 := Nat.lt_of_le_of_lt (Nat.div_le_self _ _) b4
    have hd : decide (1 < (m' : Int)) = decide (1 < m') := by
      rw [decide_eq_decide]; omega
    have B3 := bool2u_any (decide (1 < m'))
    have hle3 := b2n_le (decide (1 < m'))
    rw [← hd] at *
    generalize b2n (decide (1 < (m' : Int))) = c3 at *
    have hor : bits .or .u64 ((h' : Int) / 2 ^ s) (c3 : Nat) = ((h' / 2 ^ s ||| c3 : Nat) : Int) := by
      have e := u64_or_nat (h' / 2 ^ s) c3 b5 (by omega)
      rw [← e]; simp
    clear hd
    have HB2 := Lib.hid B2
    have HB3 := Lib.hid B3
    clear B2 B3
    go_enter Tryz.func151, Tryz.ntmps151
    go_wp2_with fail
    refine (H1.out _).mono ?_
    rintro e w' ⟨rfl, rfl⟩
    go_wp2_with fail
    refine (H2.out _).mono ?_
    rintro e w' ⟨rfl, rfl⟩
    go_wp2_with fail
    refine (HB2.out _).mono ?_
    rintro e w' ⟨rfl, rfl⟩
    go_wp2_with fail
    go_quiet ((go_at_call 124; exact Calls.quiet_of_same (HB3.out _)))
    go_wp2_with fail
    go_ret
    exact ⟨rfl, _, rfl⟩
  · rw [if_pos hc]
    have hb : (((h : Int) / 2 ^ s * 2 ^ s) != (h : Int)) = true := by
      rw [ee]; simp only [bne_iff_ne, ne_eq]; omega
    have hor : bits .or .u64 ((h : Int) / 2 ^ s) 1 = ((h / 2 ^ s ||| 1 : Nat) : Int) := by
      have e := u64_or_nat (h / 2 ^ s) 1 bq2 (by omega)
      rw [← e]; simp
    clear hc bq bq2 ee
    go_enter Tryz.func151, Tryz.ntmps151
    go_wp2_with fail
    refine (H1.out _).mono ?_
    rintro e w' ⟨rfl, rfl⟩
    go_wp2_with fail
    go_ret
    exact ⟨rfl, 0, rfl⟩

theorem uscale_row (x hi lo s : Nat) (r : Nat) (b : Nat) (si : Int) (w : World) (hx : x < 18446744073709551616) (hhi : hi < 18446744073709551616) (hlo : lo < 18446744073709551616)
    (hs : s < 64) (hsi : si = (s : Int)) (hr : Row w b [.int .u64 (hi : Int), .int .u64 (lo : Int), .int .i64 si]) (hu : us x hi lo s = r) :
    Calls Tryz.prog 151 #[.int .u64 x, .pointer (some ⟨b, 0, none⟩)] w fun e w' => e = .returned (.int .u64 (r : Int)) ∧ w.grownBy w' none := by
  subst hu hsi
  refine (uscale_any x hi lo s b 0 w hx hhi hlo hs (by rw [hr.cell]; rfl) (by rw [hr.cell]; rfl) (by rw [hr.cell]; rfl)).mono ?_
  rintro e w' ⟨rfl, n, rfl⟩
  exact ⟨rfl, grown_drewN w n none⟩

theorem div_is (u r : Nat) (w : World) (h : u < 18446744073709551616) (hr : uDiv u 10 = r) :
    Calls Tryz.prog 166 #[.int .u64 u, .int .u64 10] w fun e w' => e = .returned (.int .u64 (r : Int)) ∧ w.grownBy w' none := by
  subst hr
  refine (div_any u w h).mono ?_
  rintro e w' ⟨rfl, n, rfl⟩
  exact ⟨rfl, grown_drewN w n none⟩

theorem round_is (u r : Nat) (w : World) (h : u < 18446744073709551616) (hr : uRound u = r) :
    Calls Tryz.prog 155 #[.int .u64 u] w fun e w' => e = .returned (.int .u64 (r : Int)) ∧ w = w' := by
  subst hr
  exact (round_any u w h).mono fun _ _ ⟨h, k⟩ => ⟨h, k.symm⟩

theorem nudge_is (u r : Nat) (d : Int) (w : World) (h : u < 18446744073709551616) (h1 : -9223372036854775808 ≤ d) (h2 : d ≤ 9223372036854775807) (hr : uNudge u d = r) :
    Calls Tryz.prog 162 #[.int .u64 u, .int .i64 d] w fun e w' => e = .returned (.int .u64 (r : Int)) ∧ w = w' := by
  subst hr
  exact (nudge_any u d w h h1 h2).mono fun _ _ ⟨h, k⟩ => ⟨h, k.symm⟩

theorem ceil_is (u r : Nat) (w : World) (h : u < 18446744073709551616) (hr : uCeil u = r) :
    Calls Tryz.prog 163 #[.int .u64 u] w fun e w' => e = .returned (.int .u64 (r : Int)) ∧ w = w' := by
  subst hr
  exact (ceil_any u w h).mono fun _ _ ⟨h, k⟩ => ⟨h, k.symm⟩

theorem floor_is (u r : Nat) (w : World) (h : u < 18446744073709551616) (hr : uFloor u = r) :
    Calls Tryz.prog 164 #[.int .u64 u] w fun e w' => e = .returned (.int .u64 (r : Int)) ∧ w = w' := by
  subst hr
  exact (floor_any u w h).mono fun _ _ ⟨h, k⟩ => ⟨h, k.symm⟩

theorem uNudge_lt (u : Nat) (d : Int) : uNudge u d < 18446744073709551616 := by
  unfold uNudge; omega
end Go.Proofs.YticlnihjhcepkaaGreatDoor

/-
  Walk of uscale.go: fixedWidthFloat.
-/
namespace Go.Proofs.YticlnihjhcepkaaGreatDoor
open Go.RowKit
set_option linter.unusedSimpArgs false
set_option linter.unusedVariables false

def uDivs (u : Nat) : Nat → Nat
  | 0 => u
  | k + 1 => uDiv (uDivs u k) 10

theorem uDiv_lt (u : Nat) (h : u < 18446744073709551616) : uDiv u 10 < 18446744073709551616 := by
  have := b2n_le (decide (u % 10 ≠ 0))
  have h1 : uDiv u 10 < 2 ^ 64 := Nat.or_lt_two_pow (Nat.or_lt_two_pow (by omega) (by omega)) (by omega)
  omega

theorem uDivs_lt (u k : Nat) (h : u < 18446744073709551616) : uDivs u k < 18446744073709551616 := by
  induction k with
  | zero => exact h
  | succ k ih => exact uDiv_lt _ ih

/-- The scaled number, and the power of ten it was scaled by, before the digits behind the precision go. -/
def fwU (m : Nat) (e n : Int) : Nat × Int :=
  let p := n - 1 - (e + 63) * 78913 / 262144
  let u := us m (pmHi (p + 348).toNat) (pmLo (p + 348).toNat) (-(e + p * 108853 / 32768 + 3)).toNat
  if 10 ^ n.toNat * 4 - 2 ≤ u then (uDiv u 10, p - 1) else (u, p)

def fwf (m : Nat) (e n prec : Int) (isF : Bool) : Nat × Int :=
  let up := fwU m e n
  if isF && decide (prec < up.2) then (uRound (uDivs up.1 (up.2 - prec).toNat), -prec) else (uRound up.1, -up.2)

set_option maxHeartbeats 1000000 in
theorem fixedWidthFloat_any (T : Nat) (m : Nat) (x n prec f : Int) (w : World) (he : Env T w) (hm : m < 18446744073709551616) (hx1 : -1200 ≤ x) (hx2 : x ≤ 1000)
    (hn1 : 1 ≤ n) (hn2 : n ≤ 18) (hp1 : 0 ≤ prec) (hp2 : prec ≤ 100000) (hE1 : -1074 ≤ x + 63) (hE2 : x + 63 ≤ 1024) :
    Calls Tryz.prog 139 #[.int .u64 m, .int .i64 x, .int .i64 n, .int .i64 prec, .int .u8 f] w fun e w' =>
      e = .returned (.tuple #[.int .u64 ((fwf m x n prec (f == 102)).1 : Nat), .int .i64 (fwf m x n prec (f == 102)).2]) ∧ w.grownBy w' none := by
  obtain ⟨q, hq⟩ : ∃ q : Int, q = (x + 63) * 78913 / 262144 := ⟨_, rfl⟩
  obtain ⟨lp, hlp⟩ : ∃ lp : Int, lp = (n - 1 - q) * 108853 / 32768 := ⟨_, rfl⟩
  have hs1 : 0 ≤ -(x + lp + 3) := by omega
  have hs2 : -(x + lp + 3) < 64 := by omega
  obtain ⟨s, hs⟩ : ∃ s : Nat, -(x + lp + 3) = (s : Int) := ⟨(-(x + lp + 3)).toNat, by omega⟩
  have hs3 : s < 64 := by omega
  obtain ⟨u, hu⟩ : ∃ u : Nat, us m (pmHi (n - 1 - q + 348).toNat) (pmLo (n - 1 - q + 348).toNat) s = u := ⟨_, rfl⟩
  have hul : u < 18446744073709551616 := by rw [← hu]; exact us_lt _ _ _ _ hm (pm_lt _).1
  have hq1 : -348 ≤ n - 1 - q := by omega
  have hq2 : n - 1 - q ≤ 347 := by omega
  have hl1 : -10000 ≤ lp := by omega
  have hl2 : lp ≤ 10000 := by omega
  have hU : fwU m x n = if 10 ^ n.toNat * 4 - 2 ≤ u then (uDiv u 10, n - 1 - q - 1) else (u, n - 1 - q) := by
    unfold fwU
    simp only [← hq, ← hlp]
    rw [show (-(x + lp + 3)).toNat = s by omega, hu]
  obtain ⟨k, hk⟩ : ∃ k : Nat, n = (k : Int) := ⟨n.toNat, by omega⟩
  subst hk
  rw [Int.toNat_natCast] at hU
  have Hq := Lib.hid hq
  have Hlp := Lib.hid hlp
  have Hs := Lib.hid hs
  have Hu := Lib.hid hu
  have HU := Lib.hid hU
  have hp10 := he.p10 k (by omega)
  have ht10 : 10 ^ k ≤ 1000000000000000000 := by
    have : 10 ^ k ≤ 10 ^ 18 := Nat.pow_le_pow_right (by omega) (by omega)
    omega
  have ht1 : 1 ≤ 10 ^ k := Nat.pos_of_ne_zero (by simp)
  clear hq hlp hs hu hU
  generalize 10 ^ k = t at *
  go_enter Tryz.func139, Tryz.ntmps139
  go_wp2_with fail
  refine (log10Pow2_is _ q _ (by omega) (by omega) Hq.out).mono ?_
  rintro e w1 ⟨rfl, rfl⟩
  go_wp2_with fail
  refine (log2Pow10_is _ lp _ (by omega) (by omega) Hlp.out).mono ?_
  rintro e w1 ⟨rfl, rfl⟩
  go_wp2_with fail
  refine (prescale_any T w.heap.size x _ lp _ _ _ _ (he.alloc _) he.size (Row.new w [.int .u64 0, .int .u64 0, .int .i64 0] _) hq1 hq2 (by omega) (by omega) hl1 hl2).mono ?_
  rintro e w1 ⟨rfl, hr1, hg1⟩
  have hg : w.grownBy w1 none := grown_forget (World.grownBy_alloc w _ none) hg1 (Nat.le_refl _)
  clear hg1
  go_wp2_with fail
  refine (uscale_row m _ _ s u _ _ _ hm (pm_lt _).1 (pm_lt _).2 hs3 Hs.out hr1 Hu.out).mono ?_
  rintro e w2 ⟨rfl, hg2⟩
  have hg3 := grown_none_trans hg hg2
  have hz : w2.cell? ⟨9, k, none⟩ = some (.int .u64 (t : Int)) := hg3.cell hp10 (by simp)
  clear hg hg2 hr1 hp10 w1
  go_wp2_with fail
  refine (unmin_any t _ ht1 (by omega)).mono ?_
  rintro e w3 ⟨rfl, rfl⟩
  have key : ∀ (u1 : Nat) (p1 : Int), fwU m x k = (u1, p1) → ∀ j : Nat, fwf m x k prec (f == 102) = if (f == 102) && decide (prec < p1) then (uRound (uDivs u1 (p1 - prec).toNat), -prec) else (uRound u1, -p1) := by
    intro u1 p1 h _
    unfold fwf
    rw [h]
  have KEY := Lib.hid key
  clear key
  by_cases hf : f = 102
  · subst hf
    by_cases hc : t * 4 - 2 ≤ u
    case' pos =>
      obtain ⟨u1, hu1⟩ : ∃ u1, uDiv u 10 = u1 := ⟨_, rfl⟩
      have hul1 : u1 < 18446744073709551616 := by rw [← hu1]; exact uDiv_lt u hul
      have hF : fwU m x k = (u1, k - 1 - q - 1) := by rw [HU.out, if_pos hc, hu1]
      have HF := Lib.hid hF
      have Hu1 := Lib.hid hu1
      clear hF hu1
      go_wp2_with fail
      refine (div_is u u1 _ hul Hu1.out).mono ?_
      rintro e w4 ⟨rfl, hg4⟩
      have hg5 := grown_none_trans hg3 hg4
      have hp1a : -400 ≤ (k : Int) - 1 - q - 1 := by omega
      have hp1b : (k : Int) - 1 - q - 1 ≤ 400 := by omega
      clear hg3 hg4 hz w3 hul Hu1
      go_wp2_with fail
      generalize hp1e : (k : Int) - 1 - q - 1 = p1 at *
      have Hp1e := Lib.hid hp1e
      clear hp1e
      have hg3 := hg5
      clear hg5
    case' neg =>
      have hF : fwU m x k = (u, k - 1 - q) := by rw [HU.out, if_neg hc]
      have HF := Lib.hid hF
      clear hF
      go_wp2_with fail
      have hp1a : -400 ≤ (k : Int) - 1 - q := by omega
      have hp1b : (k : Int) - 1 - q ≤ 400 := by omega
      clear hz Hq Hlp Hu
      generalize hp1e : (k : Int) - 1 - q = p1 at *
      have Hp1e := Lib.hid hp1e
      clear hp1e
      generalize u = u1 at *
      have hul1 := hul
      clear hul
    all_goals
      go_loopw [13, 11] (fun uv pv wr => ∃ j : Nat, (j : Int) ≤ 600 ∧ uv = .int .u64 (uDivs u1 j : Nat) ∧ pv = .int .i64 (p1 - j) ∧ (j = 0 ∨ prec ≤ p1 - j) ∧ w.grownBy wr none) (fun _ pv _ => (intOf pv - prec).toNat)
      case atStart => exact ⟨0, by omega, rfl, by simp <;> omega, .inl rfl, hg3⟩
      case round =>
        obtain ⟨j, hj0, rfl, rfl, hj, hgr⟩ := hrel
        have hul2 := uDivs_lt u1 j hul1
        by_cases hlt : prec < p1 - j
        · go_wp2_with fail
          refine (div_is _ _ _ hul2 rfl).mono ?_
          rintro e w5 ⟨rfl, hg5⟩
          go_wp2_with fail
          go_roundw
          case rel => exact ⟨j + 1, by omega, rfl, by go_num, .inr (by omega), grown_none_trans hgr hg5⟩
          case measure => simp [intOf]; omega
        · have hfin : fwf m x k prec ((102 : Int) == 102) = (uRound (uDivs u1 j), -(p1 - j)) := by
            rw [KEY.out u1 p1 HF.out 0]
            by_cases hj1 : prec < p1
            · have ej : j = (p1 - prec).toNat := by omega
              rw [if_pos (by simp [hj1]), ← ej]
              congr 1; omega
            · have ej : j = 0 := by omega
              subst ej
              rw [if_neg (by simp [hj1])]
              simp [uDivs]
          have HFin := Lib.hid hfin
          clear hfin
          go_wp2_with fail
          refine (round_is _ _ _ hul2 rfl).mono ?_
          rintro e w5 ⟨rfl, rfl⟩
          go_wp2_with fail
          go_ret2
          refine ⟨?_, hgr⟩
          rw [HFin.out]
          rfl
  · have hb : (f == 102) = false := by simpa using hf
    clear hf
    by_cases hc : t * 4 - 2 ≤ u
    case' pos =>
      obtain ⟨u1, hu1⟩ : ∃ u1, uDiv u 10 = u1 := ⟨_, rfl⟩
      have hul1 : u1 < 18446744073709551616 := by rw [← hu1]; exact uDiv_lt u hul
      have hF : fwU m x k = (u1, k - 1 - q - 1) := by rw [HU.out, if_pos hc, hu1]
      have HF := Lib.hid hF
      have Hu1 := Lib.hid hu1
      clear hF hu1
      go_wp2_with fail
      refine (div_is u u1 _ hul Hu1.out).mono ?_
      rintro e w4 ⟨rfl, hg4⟩
      have hg5 := grown_none_trans hg3 hg4
      have hp1a : -400 ≤ (k : Int) - 1 - q - 1 := by omega
      have hp1b : (k : Int) - 1 - q - 1 ≤ 400 := by omega
      clear hg3 hg4 hz w3 hul Hu1
      go_wp2_with fail
      generalize hp1e : (k : Int) - 1 - q - 1 = p1 at *
      have Hp1e := Lib.hid hp1e
      clear hp1e
      have hg3 := hg5
      clear hg5
    case' neg =>
      have hF : fwU m x k = (u, k - 1 - q) := by rw [HU.out, if_neg hc]
      have HF := Lib.hid hF
      clear hF
      go_wp2_with fail
      have hp1a : -400 ≤ (k : Int) - 1 - q := by omega
      have hp1b : (k : Int) - 1 - q ≤ 400 := by omega
      clear hz Hq Hlp Hu
      generalize hp1e : (k : Int) - 1 - q = p1 at *
      have Hp1e := Lib.hid hp1e
      clear hp1e
      generalize u = u1 at *
      have hul1 := hul
      clear hul
    all_goals
      have hfin : fwf m x k prec (f == 102) = (uRound u1, -p1) := by
        rw [KEY.out u1 p1 HF.out 0, hb]
        simp
      have HFin := Lib.hid hfin
      clear hfin
      go_wp2_with fail
      refine (round_is _ _ _ hul1 rfl).mono ?_
      rintro e w5 ⟨rfl, rfl⟩
      go_wp2_with fail
      go_ret2
      refine ⟨?_, hg3⟩
      rw [HFin.out]
      rfl
end Go.Proofs.YticlnihjhcepkaaGreatDoor

/-
  Walks of uscale.go: shortFloat for numbers of 32 and of 64 bits.
-/
namespace Go.Proofs.YticlnihjhcepkaaGreatDoor
open Go.RowKit
set_option linter.unusedSimpArgs false
set_option linter.unusedVariables false

/-- An unrounded product with ten to the power of p and two to the power of e. -/
def usE (x : Nat) (e p : Int) : Nat := us x (pmHi (p + 348).toNat) (pmLo (p + 348).toNat) (-(e + p * 108853 / 32768 + 3)).toNat

theorem wrapU (k : Nat) (h : k < 18446744073709551616) : IntKind.u64.wrap (k : Int) = (k : Int) := by rw [IntKind.wrap_u64]; omega
theorem wrapI (k : Nat) (h : k < 9223372036854775808) : IntKind.i64.wrap (k : Int) = (k : Int) := by rw [IntKind.wrap_i64]; omega

/-- The power of ten, the two ends of the interval, and whether the significand is odd. -/
def shC (Z : Nat) (ME : Int) (m : Nat) (e : Int) : Int × Nat × Nat × Nat :=
  if m = 9223372036854775808 ∧ ME < e then (-(((e + Z) * 631305 - 261663) / 2097152), (m + 18446744073709551616 - 2 ^ (Z - 2)) % 18446744073709551616, (m + 2 ^ (Z - 1)) % 18446744073709551616, m / 2 ^ Z % 2)
  else if ME ≤ e then (-((e + Z) * 78913 / 262144), (m + 18446744073709551616 - 2 ^ (Z - 1)) % 18446744073709551616, (m + 2 ^ (Z - 1)) % 18446744073709551616, m / 2 ^ Z % 2)
  else (-((ME + Z) * 78913 / 262144), (m + 18446744073709551616 - 2 ^ (Z + (ME - e).toNat - 1)) % 18446744073709551616, (m + 2 ^ (Z + (ME - e).toNat - 1)) % 18446744073709551616, m / 2 ^ (Z + (ME - e).toNat) % 2)

def shortF (Z : Nat) (ME : Int) (m : Nat) (e : Int) : Nat × Int :=
  let c := shC Z ME m e
  let dmin := uCeil (uNudge (usE c.2.1 e c.1) c.2.2.2)
  let dmax := uFloor (uNudge (usE c.2.2.1 e c.1) (-(c.2.2.2 : Int)))
  if dmin ≤ dmax / 10 * 10 then (dmax / 10, -(c.1 - 1)) else if dmin < dmax then (uRound (usE m e c.1), -c.1) else (dmin, -c.1)

set_option maxRecDepth 100000 in
set_option maxHeartbeats 2000000 in
theorem shortFloat64_any (T : Nat) (m : Nat) (x : Int) (w : World) (he : Env T w) (hm : m < 18446744073709551616) (hx1 : -1137 ≤ x) (hx2 : x ≤ 960) :
    Calls Tryz.prog 143 #[.int .u64 m, .int .i64 x] w fun e w' =>
      e = .returned (.tuple #[.int .u64 ((shortF 11 (-1085) m x).1 : Nat), .int .i64 (shortF 11 (-1085) m x).2]) ∧ w.grownBy w' none := by
  have KEY : ∀ (p : Int) (mn mx od : Nat), shC 11 (-1085) m x = (p, mn, mx, od) → ∀ (u1 u2 u3 u4 dmin dmax : Nat), usE mn x p = u1 → uNudge u1 od = u2 → uCeil u2 = dmin → usE mx x p = u3 → uNudge u3 (-(od : Int)) = u4 → uFloor u4 = dmax →
      shortF 11 (-1085) m x = if dmin ≤ dmax / 10 * 10 then (dmax / 10, -(p - 1)) else if dmin < dmax then (uRound (usE m x p), -p) else (dmin, -p) := by
    intro p mn mx od h u1 u2 u3 u4 dmin dmax h1 h2 h3 h4 h5 h6
    unfold shortF
    simp only [h, h1, h2, h3, h4, h5, h6]
  have HKEY := Lib.hid KEY
  clear KEY
  by_cases hA : m = 9223372036854775808 ∧ -1085 < x
  case' pos =>
    obtain ⟨hm63, hxm⟩ := hA
    have hC : shC 11 (-1085) m x = (-(((x + 11) * 631305 - 261663) / 2097152), (m + 18446744073709551616 - 2 ^ (11 - 2)) % 18446744073709551616, (m + 2 ^ (11 - 1)) % 18446744073709551616, m / 2 ^ 11 % 2) := by
      unfold shC; rw [if_pos ⟨hm63, hxm⟩]; rfl
    obtain ⟨q, hq⟩ : ∃ q : Int, q = ((x + 11) * 631305 - 261663) / 2097152 := ⟨_, rfl⟩
    rw [← hq] at hC
    have hq1 : -348 ≤ -q := by omega
    have hq2 : -q ≤ 347 := by omega
    have hs : 0 ≤ -(x + (-q) * 108853 / 32768 + 3) ∧ -(x + (-q) * 108853 / 32768 + 3) < 64 := by omega
    have hb1 : ((m : Int) == 9223372036854775808) = true := by rw [beq_iff_eq]; omega
    have hb2 : decide ((-1085 : Int) < x) = true := by simpa using hxm
    have e1 : IntKind.u64.wrap ((m : Int) - 512) = ((m + 18446744073709551616 - 2 ^ (11 - 2)) % 18446744073709551616 : Nat) := by rw [IntKind.wrap_u64]; omega
    have e2 : IntKind.u64.wrap ((m : Int) + 1024) = ((m + 2 ^ (11 - 1)) % 18446744073709551616 : Nat) := by rw [IntKind.wrap_u64]; omega
    have e3 : bits .and .i64 ((m : Int) / 2048) 1 = (m / 2 ^ 11 % 2 : Nat) := by rw [i64_and1]; omega
    have hmn : (m + 18446744073709551616 - 2 ^ (11 - 2)) % 18446744073709551616 < 18446744073709551616 := by omega
    have hmx : (m + 2 ^ (11 - 1)) % 18446744073709551616 < 18446744073709551616 := by omega
    have hod : m / 2 ^ 11 % 2 < 2 := by omega
    clear hm63
    generalize (m + 18446744073709551616 - 2 ^ (11 - 2)) % 18446744073709551616 = mn at *
    generalize (m + 2 ^ (11 - 1)) % 18446744073709551616 = mx at *
    generalize m / 2 ^ 11 % 2 = od at *
    have Hq := Lib.hid hq
    have HC := Lib.hid hC
    clear hq hC
    go_enter Tryz.func143, Tryz.ntmps143
    go_wp2_with fail
    refine (skewed_is _ q _ (by omega) (by omega) Hq.out).mono ?_
    rintro e w1 ⟨rfl, rfl⟩
    go_wp2_with fail
  case' neg =>
    have hA' : ((m : Int) == 9223372036854775808) = false ∨ ((m : Int) == 9223372036854775808) = true ∧ decide ((-1085 : Int) < x) = false := by
      by_cases h : m = 9223372036854775808
      · right; exact ⟨by rw [beq_iff_eq]; omega, by simp; omega⟩
      · left; rw [beq_eq_false_iff_ne]; omega
    by_cases hB : -1085 ≤ x
    case' pos =>
      have hC : shC 11 (-1085) m x = (-((x + 11) * 78913 / 262144), (m + 18446744073709551616 - 2 ^ (11 - 1)) % 18446744073709551616, (m + 2 ^ (11 - 1)) % 18446744073709551616, m / 2 ^ 11 % 2) := by
        unfold shC; rw [if_neg hA, if_pos hB]; rfl
      obtain ⟨q, hq⟩ : ∃ q : Int, q = (x + 11) * 78913 / 262144 := ⟨_, rfl⟩
      rw [← hq] at hC
      have hq1 : -348 ≤ -q := by omega
      have hq2 : -q ≤ 347 := by omega
      have hs : 0 ≤ -(x + (-q) * 108853 / 32768 + 3) ∧ -(x + (-q) * 108853 / 32768 + 3) < 64 := by omega
      have hb3 : decide ((-1085 : Int) ≤ x) = true := by simpa using hB
      have e1 : IntKind.u64.wrap ((m : Int) - 1024) = ((m + 18446744073709551616 - 2 ^ (11 - 1)) % 18446744073709551616 : Nat) := by rw [IntKind.wrap_u64]; omega
      have e2 : IntKind.u64.wrap ((m : Int) + 1024) = ((m + 2 ^ (11 - 1)) % 18446744073709551616 : Nat) := by rw [IntKind.wrap_u64]; omega
      have e3 : bits .and .i64 ((m : Int) / 2048) 1 = (m / 2 ^ 11 % 2 : Nat) := by rw [i64_and1]; omega
      have hmn : (m + 18446744073709551616 - 2 ^ (11 - 1)) % 18446744073709551616 < 18446744073709551616 := by omega
      have hmx : (m + 2 ^ (11 - 1)) % 18446744073709551616 < 18446744073709551616 := by omega
      have hod : m / 2 ^ 11 % 2 < 2 := by omega
      clear hA
      generalize (m + 18446744073709551616 - 2 ^ (11 - 1)) % 18446744073709551616 = mn at *
      generalize (m + 2 ^ (11 - 1)) % 18446744073709551616 = mx at *
      generalize m / 2 ^ 11 % 2 = od at *
      have Hq := Lib.hid hq
      have HC := Lib.hid hC
      clear hq hC
      rcases hA' with hb1 | ⟨hb1, hb2⟩
      all_goals
        go_enter Tryz.func143, Tryz.ntmps143
        go_wp2_with fail
        refine (log10Pow2_is _ q _ (by omega) (by omega) Hq.out).mono ?_
        rintro e w1 ⟨rfl, rfl⟩
        go_wp2_with fail
    case' neg =>
      obtain ⟨y, hz⟩ : ∃ y : Nat, 11 + (-1085 - x) = (y : Int) + 1 := ⟨11 - 1 + (-1085 - x).toNat, by omega⟩
      have ez : 11 + (-1085 - x).toNat = y + 1 := by omega
      have hz1 : 11 - 1 < y := by omega
      have hz2 : y ≤ 62 := by omega
      have hC : shC 11 (-1085) m x = (-((-1085 + 11) * 78913 / 262144), (m + 18446744073709551616 - 2 ^ y) % 18446744073709551616, (m + 2 ^ y) % 18446744073709551616, m / 2 ^ (y + 1) % 2) := by
        unfold shC; rw [if_neg hA, if_neg hB, ez]; rfl
      obtain ⟨q, hq⟩ : ∃ q : Int, q = (-1085 + 11) * 78913 / 262144 := ⟨_, rfl⟩
      rw [← hq] at hC
      have hq' : q = (x + ((y : Int) + 1)) * 78913 / 262144 := by rw [hq, show (-1085 + 11 : Int) = x + ((y : Int) + 1) by omega]
      have hq1 : -348 ≤ -q := by omega
      have hq2 : -q ≤ 347 := by omega
      have hs : 0 ≤ -(x + (-q) * 108853 / 32768 + 3) ∧ -(x + (-q) * 108853 / 32768 + 3) < 64 := by omega
      have hb3 : decide ((-1085 : Int) ≤ x) = false := by simpa using hB
      have hpw : 2 ^ y < 9223372036854775808 := by
        have : 2 ^ y ≤ 2 ^ 62 := Nat.pow_le_pow_right (by omega) (by omega)
        omega
      have hpc : (2 : Int) ^ y = ((2 ^ y : Nat) : Int) := by simp
      have hpw2 : IntKind.u64.wrap ((2 : Int) ^ y) = (2 : Int) ^ y := by rw [hpc]; exact wrapU _ (by omega)
      have e1 : IntKind.u64.wrap ((m : Int) - 2 ^ y) = ((m + 18446744073709551616 - 2 ^ y) % 18446744073709551616 : Nat) := by rw [hpc, IntKind.wrap_u64]; omega
      have e2 : IntKind.u64.wrap ((m : Int) + 2 ^ y) = ((m + 2 ^ y) % 18446744073709551616 : Nat) := by rw [hpc, IntKind.wrap_u64]; omega
      have hdv : m / 2 ^ (y + 1) < 9223372036854775808 := by
        have : 2 ≤ 2 ^ (y + 1) := by
          have : 2 ^ 1 ≤ 2 ^ (y + 1) := Nat.pow_le_pow_right (by omega) (by omega)
          omega
        have := Nat.div_le_div_left this (by omega : 0 < 2) (a := m)
        omega
      have hdc : (m : Int) / 2 ^ (y + 1) = ((m / 2 ^ (y + 1) : Nat) : Int) := by simp
      have hdw : IntKind.i64.wrap ((m : Int) / 2 ^ (y + 1)) = (m : Int) / 2 ^ (y + 1) := by rw [hdc]; exact wrapI _ (by omega)
      have e3 : bits .and .i64 ((m : Int) / 2 ^ (y + 1)) 1 = (m / 2 ^ (y + 1) % 2 : Nat) := by rw [i64_and1, hdc]; omega
      have hmn : (m + 18446744073709551616 - 2 ^ y) % 18446744073709551616 < 18446744073709551616 := by omega
      have hmx : (m + 2 ^ y) % 18446744073709551616 < 18446744073709551616 := by omega
      have hod : m / 2 ^ (y + 1) % 2 < 2 := by omega
      clear hA hpc hdc ez
      generalize (m + 18446744073709551616 - 2 ^ y) % 18446744073709551616 = mn at *
      generalize (m + 2 ^ y) % 18446744073709551616 = mx at *
      generalize m / 2 ^ (y + 1) % 2 = od at *
      have Hq := Lib.hid hq'
      have HC := Lib.hid hC
      clear hq hC hq'
      rcases hA' with hb1 | ⟨hb1, hb2⟩
      all_goals
        go_enter Tryz.func143, Tryz.ntmps143
        go_wp2_with fail
        refine (log10Pow2_is _ q _ (by omega) (by omega) Hq.out).mono ?_
        rintro e w1 ⟨rfl, rfl⟩
        go_wp2_with fail
  all_goals
    obtain ⟨lp, hlp⟩ : ∃ lp : Int, lp = (-q) * 108853 / 32768 := ⟨_, rfl⟩
    have hl1 : -10000 ≤ lp := by omega
    have hl2 : lp ≤ 10000 := by omega
    obtain ⟨s, hsx⟩ : ∃ s : Nat, -(x + lp + 3) = (s : Int) := ⟨(-(x + lp + 3)).toNat, by omega⟩
    have hs3 : s < 64 := by omega
    have hse : (-(x + (-q) * 108853 / 32768 + 3)).toNat = s := by omega
    have Hlp := Lib.hid hlp
    have Hs := Lib.hid hsx
    have Hse := Lib.hid hse
    clear hlp hsx hse hs
    refine (log2Pow10_is _ lp _ (by omega) (by omega) Hlp.out).mono ?_
    rintro e w1 ⟨rfl, rfl⟩
    go_wp2_with fail
    refine (prescale_any T w.heap.size x _ lp _ _ _ _ (he.alloc _) he.size (Row.new w [.int .u64 0, .int .u64 0, .int .i64 0] _) hq1 hq2 (by omega) (by omega) hl1 hl2).mono ?_
    rintro e w1 ⟨rfl, hr1, hg1⟩
    have hg : w.grownBy w1 none := grown_forget (World.grownBy_alloc w _ none) hg1 (Nat.le_refl _)
    clear hg1
    have hUS : ∀ y r, usE y x (-q) = r → us y (pmHi (-q + 348).toNat) (pmLo (-q + 348).toNat) s = r := by
      intro y r h
      rw [← h]; unfold usE; rw [Hse.out]
    have HUS := Lib.hid hUS
    clear hUS
    obtain ⟨u1, hu1⟩ : ∃ u1, usE mn x (-q) = u1 := ⟨_, rfl⟩
    obtain ⟨u2, hu2⟩ : ∃ u2, uNudge u1 od = u2 := ⟨_, rfl⟩
    obtain ⟨dmin, hdmin⟩ : ∃ d, uCeil u2 = d := ⟨_, rfl⟩
    obtain ⟨u3, hu3⟩ : ∃ u3, usE mx x (-q) = u3 := ⟨_, rfl⟩
    obtain ⟨u4, hu4⟩ : ∃ u4, uNudge u3 (-(od : Int)) = u4 := ⟨_, rfl⟩
    obtain ⟨dmax, hdmax⟩ : ∃ d, uFloor u4 = d := ⟨_, rfl⟩
    obtain ⟨u5, hu5⟩ : ∃ u5, usE m x (-q) = u5 := ⟨_, rfl⟩
    have hK := HKEY.out _ _ _ _ HC.out _ _ _ _ _ _ hu1 hu2 hdmin hu3 hu4 hdmax
    rw [hu5] at hK
    have b1 : u1 < 18446744073709551616 := by rw [← hu1]; exact us_lt _ _ _ _ hmn (pm_lt _).1
    have b3 : u3 < 18446744073709551616 := by rw [← hu3]; exact us_lt _ _ _ _ hmx (pm_lt _).1
    have b5 : u5 < 18446744073709551616 := by rw [← hu5]; exact us_lt _ _ _ _ hm (pm_lt _).1
    have b2 : u2 < 18446744073709551616 := by rw [← hu2]; exact uNudge_lt _ _
    have b4 : u4 < 18446744073709551616 := by rw [← hu4]; exact uNudge_lt _ _
    have b6 : dmin < 4611686018427387904 := by rw [← hdmin]; unfold uCeil; omega
    have b7 : dmax < 4611686018427387904 := by rw [← hdmax]; unfold uFloor; omega
    have hu1' := HUS.out _ _ hu1
    have hu3' := HUS.out _ _ hu3
    have hu5' := HUS.out _ _ hu5
    have Hu1 := Lib.hid hu1'
    have Hu2 := Lib.hid hu2
    have Hdmin := Lib.hid hdmin
    have Hu3 := Lib.hid hu3'
    have Hu4 := Lib.hid hu4
    have Hdmax := Lib.hid hdmax
    have Hu5 := Lib.hid hu5'
    have HK := Lib.hid hK
    clear hu1 hu2 hdmin hu3 hu4 hdmax hu5 hK hu1' hu3' hu5' HKEY HUS
    go_wp2_with fail
    refine (uscale_row _ _ _ s u1 _ _ _ hmn (pm_lt _).1 (pm_lt _).2 hs3 Hs.out hr1 Hu1.out).mono ?_
    rintro e w2 ⟨rfl, hg2⟩
    have hr2 := hr1.grown hg2 (by simp)
    have hg := grown_none_trans hg hg2
    clear hg2
    go_wp2_with fail
    refine (nudge_is u1 u2 od _ b1 (by omega) (by omega) Hu2.out).mono ?_
    rintro e w3 ⟨rfl, rfl⟩
    go_wp2_with fail
    refine (ceil_is u2 dmin _ b2 Hdmin.out).mono ?_
    rintro e w3 ⟨rfl, rfl⟩
    go_wp2_with fail
    refine (uscale_row _ _ _ s u3 _ _ _ hmx (pm_lt _).1 (pm_lt _).2 hs3 Hs.out hr2 Hu3.out).mono ?_
    rintro e w3 ⟨rfl, hg2⟩
    have hr3 := hr2.grown hg2 (by simp)
    have hg := grown_none_trans hg hg2
    clear hg2
    go_wp2_with fail
    refine (nudge_is u3 u4 (-(od : Int)) _ b3 (by omega) (by omega) Hu4.out).mono ?_
    rintro e w3 ⟨rfl, rfl⟩
    go_wp2_with fail
    refine (floor_is u4 dmax _ b4 Hdmax.out).mono ?_
    rintro e w3 ⟨rfl, rfl⟩
    by_cases hd1 : dmin ≤ dmax / 10 * 10
    · have hfin := HK.out
      rw [if_pos hd1] at hfin
      have HF := Lib.hid hfin
      clear hfin
      go_wp2_with fail
      go_ret2
      refine ⟨?_, hg⟩
      rw [HF.out]
      rfl
    · have hK2 := HK.out
      rw [if_neg hd1] at hK2
      by_cases hd2 : dmin < dmax
      · rw [if_pos hd2] at hK2
        have HF := Lib.hid hK2
        clear hK2
        go_wp2_with fail
        refine (uscale_row _ _ _ s u5 _ _ _ hm (pm_lt _).1 (pm_lt _).2 hs3 Hs.out hr3 Hu5.out).mono ?_
        rintro e w4 ⟨rfl, hg2⟩
        have hg := grown_none_trans hg hg2
        clear hg2
        go_wp2_with fail
        refine (round_is u5 _ _ b5 rfl).mono ?_
        rintro e w5 ⟨rfl, rfl⟩
        go_wp2_with fail
        go_ret2
        refine ⟨?_, hg⟩
        rw [HF.out, Int.neg_neg]
        rfl
      · rw [if_neg hd2] at hK2
        have HF := Lib.hid hK2
        clear hK2
        go_wp2_with fail
        go_ret2
        refine ⟨?_, hg⟩
        rw [HF.out, Int.neg_neg]
        rfl

set_option maxRecDepth 100000 in
set_option maxHeartbeats 2000000 in
theorem shortFloat32_any (T : Nat) (m : Nat) (x : Int) (w : World) (he : Env T w) (hm : m < 18446744073709551616) (hx1 : -212 ≤ x) (hx2 : x ≤ 64) :
    Calls Tryz.prog 135 #[.int .u64 m, .int .i64 x] w fun e w' =>
      e = .returned (.tuple #[.int .u64 ((shortF 40 (-189) m x).1 : Nat), .int .i64 (shortF 40 (-189) m x).2]) ∧ w.grownBy w' none := by
  have KEY : ∀ (p : Int) (mn mx od : Nat), shC 40 (-189) m x = (p, mn, mx, od) → ∀ (u1 u2 u3 u4 dmin dmax : Nat), usE mn x p = u1 → uNudge u1 od = u2 → uCeil u2 = dmin → usE mx x p = u3 → uNudge u3 (-(od : Int)) = u4 → uFloor u4 = dmax →
      shortF 40 (-189) m x = if dmin ≤ dmax / 10 * 10 then (dmax / 10, -(p - 1)) else if dmin < dmax then (uRound (usE m x p), -p) else (dmin, -p) := by
    intro p mn mx od h u1 u2 u3 u4 dmin dmax h1 h2 h3 h4 h5 h6
    unfold shortF
    simp only [h, h1, h2, h3, h4, h5, h6]
  have HKEY := Lib.hid KEY
  clear KEY
  by_cases hA : m = 9223372036854775808 ∧ -189 < x
  case' pos =>
    obtain ⟨hm63, hxm⟩ := hA
    have hC : shC 40 (-189) m x = (-(((x + 40) * 631305 - 261663) / 2097152), (m + 18446744073709551616 - 2 ^ (40 - 2)) % 18446744073709551616, (m + 2 ^ (40 - 1)) % 18446744073709551616, m / 2 ^ 40 % 2) := by
      unfold shC; rw [if_pos ⟨hm63, hxm⟩]; rfl
    obtain ⟨q, hq⟩ : ∃ q : Int, q = ((x + 40) * 631305 - 261663) / 2097152 := ⟨_, rfl⟩
    rw [← hq] at hC
    have hq1 : -348 ≤ -q := by omega
    have hq2 : -q ≤ 347 := by omega
    have hs : 0 ≤ -(x + (-q) * 108853 / 32768 + 3) ∧ -(x + (-q) * 108853 / 32768 + 3) < 64 := by omega
    have hb1 : ((m : Int) == 9223372036854775808) = true := by rw [beq_iff_eq]; omega
    have hb2 : decide ((-189 : Int) < x) = true := by simpa using hxm
    have e1 : IntKind.u64.wrap ((m : Int) - 274877906944) = ((m + 18446744073709551616 - 2 ^ (40 - 2)) % 18446744073709551616 : Nat) := by rw [IntKind.wrap_u64]; omega
    have e2 : IntKind.u64.wrap ((m : Int) + 549755813888) = ((m + 2 ^ (40 - 1)) % 18446744073709551616 : Nat) := by rw [IntKind.wrap_u64]; omega
    have e3 : bits .and .i64 ((m : Int) / 1099511627776) 1 = (m / 2 ^ 40 % 2 : Nat) := by rw [i64_and1]; omega
    have hmn : (m + 18446744073709551616 - 2 ^ (40 - 2)) % 18446744073709551616 < 18446744073709551616 := by omega
    have hmx : (m + 2 ^ (40 - 1)) % 18446744073709551616 < 18446744073709551616 := by omega
    have hod : m / 2 ^ 40 % 2 < 2 := by omega
    clear hm63
    generalize (m + 18446744073709551616 - 2 ^ (40 - 2)) % 18446744073709551616 = mn at *
    generalize (m + 2 ^ (40 - 1)) % 18446744073709551616 = mx at *
    generalize m / 2 ^ 40 % 2 = od at *
    have Hq := Lib.hid hq
    have HC := Lib.hid hC
    clear hq hC
    go_enter Tryz.func135, Tryz.ntmps135
    go_wp2_with fail
    refine (skewed_is _ q _ (by omega) (by omega) Hq.out).mono ?_
    rintro e w1 ⟨rfl, rfl⟩
    go_wp2_with fail
  case' neg =>
    have hA' : ((m : Int) == 9223372036854775808) = false ∨ ((m : Int) == 9223372036854775808) = true ∧ decide ((-189 : Int) < x) = false := by
      by_cases h : m = 9223372036854775808
      · right; exact ⟨by rw [beq_iff_eq]; omega, by simp; omega⟩
      · left; rw [beq_eq_false_iff_ne]; omega
    by_cases hB : -189 ≤ x
    case' pos =>
      have hC : shC 40 (-189) m x = (-((x + 40) * 78913 / 262144), (m + 18446744073709551616 - 2 ^ (40 - 1)) % 18446744073709551616, (m + 2 ^ (40 - 1)) % 18446744073709551616, m / 2 ^ 40 % 2) := by
        unfold shC; rw [if_neg hA, if_pos hB]; rfl
      obtain ⟨q, hq⟩ : ∃ q : Int, q = (x + 40) * 78913 / 262144 := ⟨_, rfl⟩
      rw [← hq] at hC
      have hq1 : -348 ≤ -q := by omega
      have hq2 : -q ≤ 347 := by omega
      have hs : 0 ≤ -(x + (-q) * 108853 / 32768 + 3) ∧ -(x + (-q) * 108853 / 32768 + 3) < 64 := by omega
      have hb3 : decide ((-189 : Int) ≤ x) = true := by simpa using hB
      have e1 : IntKind.u64.wrap ((m : Int) - 549755813888) = ((m + 18446744073709551616 - 2 ^ (40 - 1)) % 18446744073709551616 : Nat) := by rw [IntKind.wrap_u64]; omega
      have e2 : IntKind.u64.wrap ((m : Int) + 549755813888) = ((m + 2 ^ (40 - 1)) % 18446744073709551616 : Nat) := by rw [IntKind.wrap_u64]; omega
      have e3 : bits .and .i64 ((m : Int) / 1099511627776) 1 = (m / 2 ^ 40 % 2 : Nat) := by rw [i64_and1]; omega
      have hmn : (m + 18446744073709551616 - 2 ^ (40 - 1)) % 18446744073709551616 < 18446744073709551616 := by omega
      have hmx : (m + 2 ^ (40 - 1)) % 18446744073709551616 < 18446744073709551616 := by omega
      have hod : m / 2 ^ 40 % 2 < 2 := by omega
      clear hA
      generalize (m + 18446744073709551616 - 2 ^ (40 - 1)) % 18446744073709551616 = mn at *
      generalize (m + 2 ^ (40 - 1)) % 18446744073709551616 = mx at *
      generalize m / 2 ^ 40 % 2 = od at *
      have Hq := Lib.hid hq
      have HC := Lib.hid hC
      clear hq hC
      rcases hA' with hb1 | ⟨hb1, hb2⟩
      all_goals
        go_enter Tryz.func135, Tryz.ntmps135
        go_wp2_with fail
        refine (log10Pow2_is _ q _ (by omega) (by omega) Hq.out).mono ?_
        rintro e w1 ⟨rfl, rfl⟩
        go_wp2_with fail
    case' neg =>
      obtain ⟨y, hz⟩ : ∃ y : Nat, 40 + (-189 - x) = (y : Int) + 1 := ⟨40 - 1 + (-189 - x).toNat, by omega⟩
      have ez : 40 + (-189 - x).toNat = y + 1 := by omega
      have hz1 : 40 - 1 < y := by omega
      have hz2 : y ≤ 62 := by omega
      have hC : shC 40 (-189) m x = (-((-189 + 40) * 78913 / 262144), (m + 18446744073709551616 - 2 ^ y) % 18446744073709551616, (m + 2 ^ y) % 18446744073709551616, m / 2 ^ (y + 1) % 2) := by
        unfold shC; rw [if_neg hA, if_neg hB, ez]; rfl
      obtain ⟨q, hq⟩ : ∃ q : Int, q = (-189 + 40) * 78913 / 262144 := ⟨_, rfl⟩
      rw [← hq] at hC
      have hq' : q = (x + ((y : Int) + 1)) * 78913 / 262144 := by rw [hq, show (-189 + 40 : Int) = x + ((y : Int) + 1) by omega]
      have hq1 : -348 ≤ -q := by omega
      have hq2 : -q ≤ 347 := by omega
      have hs : 0 ≤ -(x + (-q) * 108853 / 32768 + 3) ∧ -(x + (-q) * 108853 / 32768 + 3) < 64 := by omega
      have hb3 : decide ((-189 : Int) ≤ x) = false := by simpa using hB
      have hpw : 2 ^ y < 9223372036854775808 := by
        have : 2 ^ y ≤ 2 ^ 62 := Nat.pow_le_pow_right (by omega) (by omega)
        omega
      have hpc : (2 : Int) ^ y = ((2 ^ y : Nat) : Int) := by simp
      have hpw2 : IntKind.u64.wrap ((2 : Int) ^ y) = (2 : Int) ^ y := by rw [hpc]; exact wrapU _ (by omega)
      have e1 : IntKind.u64.wrap ((m : Int) - 2 ^ y) = ((m + 18446744073709551616 - 2 ^ y) % 18446744073709551616 : Nat) := by rw [hpc, IntKind.wrap_u64]; omega
      have e2 : IntKind.u64.wrap ((m : Int) + 2 ^ y) = ((m + 2 ^ y) % 18446744073709551616 : Nat) := by rw [hpc, IntKind.wrap_u64]; omega
      have hdv : m / 2 ^ (y + 1) < 9223372036854775808 := by
        have : 2 ≤ 2 ^ (y + 1) := by
          have : 2 ^ 1 ≤ 2 ^ (y + 1) := Nat.pow_le_pow_right (by omega) (by omega)
          omega
        have := Nat.div_le_div_left this (by omega : 0 < 2) (a := m)
        omega
      have hdc : (m : Int) / 2 ^ (y + 1) = ((m / 2 ^ (y + 1) : Nat) : Int) := by simp
      have hdw : IntKind.i64.wrap ((m : Int) / 2 ^ (y + 1)) = (m : Int) / 2 ^ (y + 1) := by rw [hdc]; exact wrapI _ (by omega)
      have e3 : bits .and .i64 ((m : Int) / 2 ^ (y + 1)) 1 = (m / 2 ^ (y + 1) % 2 : Nat) := by rw [i64_and1, hdc]; omega
      have hmn : (m + 18446744073709551616 - 2 ^ y) % 18446744073709551616 < 18446744073709551616 := by omega
      have hmx : (m + 2 ^ y) % 18446744073709551616 < 18446744073709551616 := by omega
      have hod : m / 2 ^ (y + 1) % 2 < 2 := by omega
      clear hA hpc hdc ez
      generalize (m + 18446744073709551616 - 2 ^ y) % 18446744073709551616 = mn at *
      generalize (m + 2 ^ y) % 18446744073709551616 = mx at *
      generalize m / 2 ^ (y + 1) % 2 = od at *
      have Hq := Lib.hid hq'
      have HC := Lib.hid hC
      clear hq hC hq'
      rcases hA' with hb1 | ⟨hb1, hb2⟩
      all_goals
        go_enter Tryz.func135, Tryz.ntmps135
        go_wp2_with fail
        refine (log10Pow2_is _ q _ (by omega) (by omega) Hq.out).mono ?_
        rintro e w1 ⟨rfl, rfl⟩
        go_wp2_with fail
  all_goals
    obtain ⟨lp, hlp⟩ : ∃ lp : Int, lp = (-q) * 108853 / 32768 := ⟨_, rfl⟩
    have hl1 : -10000 ≤ lp := by omega
    have hl2 : lp ≤ 10000 := by omega
    obtain ⟨s, hsx⟩ : ∃ s : Nat, -(x + lp + 3) = (s : Int) := ⟨(-(x + lp + 3)).toNat, by omega⟩
    have hs3 : s < 64 := by omega
    have hse : (-(x + (-q) * 108853 / 32768 + 3)).toNat = s := by omega
    have Hlp := Lib.hid hlp
    have Hs := Lib.hid hsx
    have Hse := Lib.hid hse
    clear hlp hsx hse hs
    refine (log2Pow10_is _ lp _ (by omega) (by omega) Hlp.out).mono ?_
    rintro e w1 ⟨rfl, rfl⟩
    go_wp2_with fail
    refine (prescale_any T w.heap.size x _ lp _ _ _ _ (he.alloc _) he.size (Row.new w [.int .u64 0, .int .u64 0, .int .i64 0] _) hq1 hq2 (by omega) (by omega) hl1 hl2).mono ?_
    rintro e w1 ⟨rfl, hr1, hg1⟩
    have hg : w.grownBy w1 none := grown_forget (World.grownBy_alloc w _ none) hg1 (Nat.le_refl _)
    clear hg1
    have hUS : ∀ y r, usE y x (-q) = r → us y (pmHi (-q + 348).toNat) (pmLo (-q + 348).toNat) s = r := by
      intro y r h
      rw [← h]; unfold usE; rw [Hse.out]
    have HUS := Lib.hid hUS
    clear hUS
    obtain ⟨u1, hu1⟩ : ∃ u1, usE mn x (-q) = u1 := ⟨_, rfl⟩
    obtain ⟨u2, hu2⟩ : ∃ u2, uNudge u1 od = u2 := ⟨_, rfl⟩
    obtain ⟨dmin, hdmin⟩ : ∃ d, uCeil u2 = d := ⟨_, rfl⟩
    obtain ⟨u3, hu3⟩ : ∃ u3, usE mx x (-q) = u3 := ⟨_, rfl⟩
    obtain ⟨u4, hu4⟩ : ∃ u4, uNudge u3 (-(od : Int)) = u4 := ⟨_, rfl⟩
    obtain ⟨dmax, hdmax⟩ : ∃ d, uFloor u4 = d := ⟨_, rfl⟩
    obtain ⟨u5, hu5⟩ : ∃ u5, usE m x (-q) = u5 := ⟨_, rfl⟩
    have hK := HKEY.out _ _ _ _ HC.out _ _ _ _ _ _ hu1 hu2 hdmin hu3 hu4 hdmax
    rw [hu5] at hK
    have b1 : u1 < 18446744073709551616 := by rw [← hu1]; exact us_lt _ _ _ _ hmn (pm_lt _).1
    have b3 : u3 < 18446744073709551616 := by rw [← hu3]; exact us_lt _ _ _ _ hmx (pm_lt _).1
    have b5 : u5 < 18446744073709551616 := by rw [← hu5]; exact us_lt _ _ _ _ hm (pm_lt _).1
    have b2 : u2 < 18446744073709551616 := by rw [← hu2]; exact uNudge_lt _ _
    have b4 : u4 < 18446744073709551616 := by rw [← hu4]; exact uNudge_lt _ _
    have b6 : dmin < 4611686018427387904 := by rw [← hdmin]; unfold uCeil; omega
    have b7 : dmax < 4611686018427387904 := by rw [← hdmax]; unfold uFloor; omega
    have hu1' := HUS.out _ _ hu1
    have hu3' := HUS.out _ _ hu3
    have hu5' := HUS.out _ _ hu5
    have Hu1 := Lib.hid hu1'
    have Hu2 := Lib.hid hu2
    have Hdmin := Lib.hid hdmin
    have Hu3 := Lib.hid hu3'
    have Hu4 := Lib.hid hu4
    have Hdmax := Lib.hid hdmax
    have Hu5 := Lib.hid hu5'
    have HK := Lib.hid hK
    clear hu1 hu2 hdmin hu3 hu4 hdmax hu5 hK hu1' hu3' hu5' HKEY HUS
    go_wp2_with fail
    refine (uscale_row _ _ _ s u1 _ _ _ hmn (pm_lt _).1 (pm_lt _).2 hs3 Hs.out hr1 Hu1.out).mono ?_
    rintro e w2 ⟨rfl, hg2⟩
    have hr2 := hr1.grown hg2 (by simp)
    have hg := grown_none_trans hg hg2
    clear hg2
    go_wp2_with fail
    refine (nudge_is u1 u2 od _ b1 (by omega) (by omega) Hu2.out).mono ?_
    rintro e w3 ⟨rfl, rfl⟩
    go_wp2_with fail
    refine (ceil_is u2 dmin _ b2 Hdmin.out).mono ?_
    rintro e w3 ⟨rfl, rfl⟩
    go_wp2_with fail
    refine (uscale_row _ _ _ s u3 _ _ _ hmx (pm_lt _).1 (pm_lt _).2 hs3 Hs.out hr2 Hu3.out).mono ?_
    rintro e w3 ⟨rfl, hg2⟩
    have hr3 := hr2.grown hg2 (by simp)
    have hg := grown_none_trans hg hg2
    clear hg2
    go_wp2_with fail
    refine (nudge_is u3 u4 (-(od : Int)) _ b3 (by omega) (by omega) Hu4.out).mono ?_
    rintro e w3 ⟨rfl, rfl⟩
    go_wp2_with fail
    refine (floor_is u4 dmax _ b4 Hdmax.out).mono ?_
    rintro e w3 ⟨rfl, rfl⟩
    by_cases hd1 : dmin ≤ dmax / 10 * 10
    · have hfin := HK.out
      rw [if_pos hd1] at hfin
      have HF := Lib.hid hfin
      clear hfin
      go_wp2_with fail
      go_ret2
      refine ⟨?_, hg⟩
      rw [HF.out]
      rfl
    · have hK2 := HK.out
      rw [if_neg hd1] at hK2
      by_cases hd2 : dmin < dmax
      · rw [if_pos hd2] at hK2
        have HF := Lib.hid hK2
        clear hK2
        go_wp2_with fail
        refine (uscale_row _ _ _ s u5 _ _ _ hm (pm_lt _).1 (pm_lt _).2 hs3 Hs.out hr3 Hu5.out).mono ?_
        rintro e w4 ⟨rfl, hg2⟩
        have hg := grown_none_trans hg hg2
        clear hg2
        go_wp2_with fail
        refine (round_is u5 _ _ b5 rfl).mono ?_
        rintro e w5 ⟨rfl, rfl⟩
        go_wp2_with fail
        go_ret2
        refine ⟨?_, hg⟩
        rw [HF.out, Int.neg_neg]
        rfl
      · rw [if_neg hd2] at hK2
        have HF := Lib.hid hK2
        clear hK2
        go_wp2_with fail
        go_ret2
        refine ⟨?_, hg⟩
        rw [HF.out, Int.neg_neg]
        rfl
end Go.Proofs.YticlnihjhcepkaaGreatDoor

/-
  Walks: AppendUint and AppendInt at base 10, fmtB.
-/
namespace Go.Proofs.YticlnihjhcepkaaGreatDoor
open Go.RowKit
set_option linter.unusedSimpArgs false
set_option linter.unusedVariables false

set_option maxRecDepth 100000 in
set_option maxHeartbeats 400000 in
theorem AppendUint_any (T u : Nat) (dst : Value) (xs : List UInt8) (w : World) (he : Env T w) (hown : OwnB T w dst xs) (hu : u < 18446744073709551616) (hx : xs.length ≤ 140737489300000) :
    Calls Tryz.prog 159 #[dst, .int .u64 u, .int .i64 10] w fun e w' => ∃ v', e = .returned v' ∧ OwnB T w' v' (xs ++ Lib.decDigits u) ∧ Stp w dst w' v' := by
  by_cases h100 : u < 100
  · have hS := Tryz.internal_strconv_small u h100
    have HS := Lib.hid hS
    have hl := decDigits_le u hu
    clear hS
    generalize Lib.decDigits u = ds at *
    go_enter Tryz.func159, Tryz.ntmps159
    go_wp2_with fail
    refine (HS.out _).mono ?_
    rintro e w1 ⟨rfl, rfl⟩
    go_wp2_with (at_builtin; refine wpList_appB rfl _ _ _ _ rfl byteTy hown rfl _ rfl ds (src_str Tryz.underlying9 _ _ rfl) (by omega) ?_; intro v1 w2 hown1 hstp1)
    go_ret
    exact ⟨v1, rfl, hown1, hstp1⟩
  · have hl := decDigits_le u hu
    have hn : nDig u = Lib.nDigits u := by unfold nDig; rw [if_neg (by omega)]
    have hN := numDigits_any T u
    have hlt := lt_pow_nDig u
    have hnl := nDig_le u hu
    have hdd : digs u (nDig u) = Lib.decDigits u := by rw [hn, digs_decDigits]
    have hdl := digs_length u (nDig u)
    generalize nDig u = n at *
    have HN := Lib.hid hN
    have Hdd := Lib.hid hdd
    have Hdl := Lib.hid hdl
    clear hN hdd hn hdl
    have hsl := fun W => slice24 w.heap.size n W (by omega)
    go_enter Tryz.func159, Tryz.ntmps159
    go_wp2_with fail
    refine (HN.out _ (he.alloc _) hu).mono ?_
    rintro e w1 ⟨rfl, hw1⟩
    subst hw1
    go_wp2_with fail
    refine (formatBase10_row w.heap.size n 24 u (List.replicate 24 0) _ (BRow.new w (List.replicate 24 0) _) (by simp; omega) hlt hu (by simp)).mono ?_
    rintro e w1 ⟨rfl, hr1, hg1⟩
    have hst := Stp.other hown (World.grownBy_alloc w _ none) (Nat.le_refl _) hg1
    have hown2 : OwnB T w1 dst xs := (hown.alloc _).grown hg1 hown.ne_new
    have hsrc := src_row (P := Tryz.prog) Tryz.underlying51 w.heap.size 0 n 24 _ hr1 (by simp [Hdl.out])
    rw [List.drop_zero, List.take_left' Hdl.out, Hdd.out] at hsrc
    clear hr1 hg1
    go_wp2_with (at_builtin; refine wpList_appB rfl _ _ _ _ rfl byteTy hown2 rfl _ rfl (Lib.decDigits u) hsrc (by omega) ?_; intro v1 w2 hown1 hstp1)
    go_ret
    exact ⟨v1, rfl, hown1, hst.trans hstp1⟩

set_option maxRecDepth 100000 in
set_option maxHeartbeats 400000 in
theorem AppendInt_any (T : Nat) (i : Int) (dst : Value) (xs : List UInt8) (w : World) (he : Env T w) (hown : OwnB T w dst xs) (h1 : -100000 ≤ i) (h2 : i ≤ 100000) (hx : xs.length ≤ 140737489200000) :
    Calls Tryz.prog 160 #[dst, .int .i64 i, .int .i64 10] w fun e w' => ∃ v', e = .returned v' ∧ OwnB T w' v' (xs ++ Lib.itoa i) ∧ Stp w dst w' v' := by
  by_cases hi : i < 0
  · obtain ⟨n, hn⟩ : ∃ n : Nat, i = -(n : Int) := ⟨i.natAbs, by omega⟩
    subst hn
    have hit : Lib.itoa (-(n : Int)) = [45] ++ Lib.decDigits n := by
      unfold Lib.itoa; rw [if_pos hi]; simp
    have hw1 : IntKind.u64.wrap (-(n : Int)) = 18446744073709551616 - n := by rw [IntKind.wrap_u64]; omega
    have hw2 : IntKind.u64.wrap (-(18446744073709551616 - (n : Int))) = n := by rw [IntKind.wrap_u64]; omega
    have Hit := Lib.hid hit
    clear hit
    go_enter Tryz.func160, Tryz.ntmps160
    go_wp2_with (at_builtin; refine wpList_appB rfl _ _ _ _ rfl byteTy (hown.alloc _) rfl _ rfl [45] (src_new Tryz.underlying51 [45] _) (by simp; omega) ?_; intro v1 w2 hown1 hstp1)
    refine (AppendUint_any T n v1 _ _ (OwnB.env (hown.alloc _) hstp1 (he.alloc _)) hown1 (by omega) (by simp; omega)).mono ?_
    rintro e w3 ⟨v2, rfl, hown2, hstp2⟩
    go_wp2_with fail
    go_ret
    refine ⟨v2, rfl, ?_, hstp1.alloc1.trans hstp2⟩
    rw [Hit.out, ← List.append_assoc]
    exact hown2
  · obtain ⟨n, hn⟩ : ∃ n : Nat, i = (n : Int) := ⟨i.toNat, by omega⟩
    subst hn
    have hit : Lib.itoa (n : Int) = Lib.decDigits n := by
      unfold Lib.itoa; rw [if_neg hi]; simp
    have hw1 : IntKind.u64.wrap (n : Int) = n := by rw [IntKind.wrap_u64]; omega
    have Hit := Lib.hid hit
    clear hit
    go_enter Tryz.func160, Tryz.ntmps160
    go_wp2_with fail
    refine (AppendUint_any T n dst _ _ he hown (by omega) (by omega)).mono ?_
    rintro e w3 ⟨v2, rfl, hown2, hstp2⟩
    go_wp2_with fail
    go_ret
    refine ⟨v2, rfl, ?_, hstp2⟩
    rw [Hit.out]
    exact hown2

/-- The format b. -/
def fmtBL (neg : Bool) (mant : Nat) (exp : Int) : List UInt8 :=
  (if neg then [45] else []) ++ (Lib.decDigits mant ++ ([112] ++ ((if 0 ≤ exp then [43] else []) ++ Lib.itoa exp)))

theorem itoa_le (i : Int) (h1 : -100000 ≤ i) (h2 : i ≤ 100000) : (Lib.itoa i).length ≤ 21 := by
  unfold Lib.itoa
  split
  · have := decDigits_le i.natAbs (by omega)
    simp; omega
  · have := decDigits_le i.toNat (by omega)
    omega

set_option maxRecDepth 100000 in
set_option maxHeartbeats 1000000 in
theorem fmtB_any (T mant : Nat) (neg : Bool) (exp : Int) (dst : Value) (xs : List UInt8) (w : World) (he : Env T w) (hown : OwnB T w dst xs) (hm : mant < 18446744073709551616) (h1 : -100000 ≤ exp) (h2 : exp ≤ 100000) (hx : xs.length ≤ 140737489100000) :
    Calls Tryz.prog 131 #[dst, .bool neg, .int .u64 mant, .int .i64 exp] w fun e w' => ∃ v', e = .returned v' ∧ OwnB T w' v' (xs ++ fmtBL neg mant exp) ∧ Stp w dst w' v' := by
  have hdl := decDigits_le mant hm
  have hT := hown.lt
  cases neg
  case' true =>
    go_enter Tryz.func131, Tryz.ntmps131
    go_wp2_with (at_builtin; refine wpList_appB rfl _ _ _ _ rfl byteTy (hown.alloc _) rfl _ rfl [45] (src_new Tryz.underlying51 [45] _) (by simp; omega) ?_; intro v1 w1 ho hs)
    have he1 := OwnB.env (hown.alloc _) hs (he.alloc _)
    replace hs := hs.alloc1
    have hl : (xs ++ [45]).length ≤ 140737489100001 := by simp; omega
  case' false =>
    go_enter Tryz.func131, Tryz.ntmps131
    go_wp2_with fail
    obtain ⟨v1, w1, h⟩ : ∃ v1 w1, v1 = dst ∧ w1 = w := ⟨_, _, rfl, rfl⟩
    obtain ⟨rfl, rfl⟩ := h
    have ho : OwnB T w1 v1 (xs ++ []) := by rw [List.append_nil]; exact hown
    have hs := Stp.refl w1 v1
    have he1 := he
    have hl : (xs ++ []).length ≤ 140737489100001 := by simp; omega
  all_goals
    clear hown he
    refine (AppendUint_any T mant v1 _ _ he1 ho hm (by omega)).mono ?_
    rintro e w2 ⟨v2, rfl, ho2, hs2⟩
    have he2 := OwnB.env ho hs2 he1
    have hs := hs.trans hs2
    have hT2 := ho2.lt
    clear hs2 ho he1
    have he := he2
    have ho := ho2
    clear he2 ho2
    by_cases he0 : 0 ≤ exp
    case' pos =>
      go_wp2_with (first | (at_builtin; refine wpList_appB rfl _ _ _ _ rfl byteTy (ho.alloc _) rfl _ rfl [112] (src_new Tryz.underlying51 [112] _) (by simp only [List.length_append, List.length_cons, List.length_nil] at *; omega) ?_; intro v w ho1 hs1; replace he := OwnB.env (ho.alloc _) hs1 (he.alloc _); replace hs := Stp.trans hs (Stp.alloc1 hs1); replace ho := ho1; clear ho1 hs1) | (at_builtin; refine wpList_appB rfl _ _ _ _ rfl byteTy (ho.alloc _) rfl _ rfl [43] (src_new Tryz.underlying51 [43] _) (by simp only [List.length_append, List.length_cons, List.length_nil] at *; omega) ?_; intro v w ho1 hs1; replace he := OwnB.env (ho.alloc _) hs1 (he.alloc _); replace hs := Stp.trans hs (Stp.alloc1 hs1); replace ho := ho1; clear ho1 hs1))
    case' neg =>
      go_wp2_with (first | (at_builtin; refine wpList_appB rfl _ _ _ _ rfl byteTy (ho.alloc _) rfl _ rfl [112] (src_new Tryz.underlying51 [112] _) (by simp only [List.length_append, List.length_cons, List.length_nil] at *; omega) ?_; intro v w ho1 hs1; replace he := OwnB.env (ho.alloc _) hs1 (he.alloc _); replace hs := Stp.trans hs (Stp.alloc1 hs1); replace ho := ho1; clear ho1 hs1))
    all_goals
      refine (AppendInt_any T exp _ _ _ he ho h1 h2 (by simp only [List.length_append, List.length_cons, List.length_nil] at *; omega)).mono ?_
      rintro e w5 ⟨v5, rfl, ho5, hs5⟩
      replace hs := Stp.trans hs hs5
      go_wp2_with fail
      go_ret
      refine ⟨v5, rfl, ?_, hs⟩
      exact cast (congrArg (OwnB T w5 v5) (by simp [fmtBL, he0])) ho5
end Go.Proofs.YticlnihjhcepkaaGreatDoor
