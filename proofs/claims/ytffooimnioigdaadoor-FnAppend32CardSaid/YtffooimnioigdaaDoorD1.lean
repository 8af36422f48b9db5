/-
  Walks: numDigits, formatBase10 (its contract off the shelf, said of a row), setDigits.
-/
import Derived.Test.YtffooimnioigdaaDoorU1
namespace Go.Proofs.YtffooimnioigdaaDoor
open Go.RowKit Go.Sort
set_option linter.unusedSimpArgs false
set_option linter.unusedVariables false

def encB (b : UInt8) : Value := Value.int .u8 (b.toNat : Int)

/-- A row of bytes. -/
def BRow (w : World) (g : Nat) (bs : List UInt8) : Prop := Row w g (bs.map encB)

theorem BRow.row {w : World} {g : Nat} {bs : List UInt8} (h : BRow w g bs) : Row w g (bs.map encB) := h

/-- The number of decimal digits, 0 for 0. -/
def nDig (d : Nat) : Nat := if d = 0 then 0 else Lib.nDigits d

theorem bitLen_zero : Lib.bitLen 0 = 0 := by decide

theorem nDig_eq (d : Nat) (h : d < 18446744073709551616) : Lib.l10 (Lib.bitLen d) + b2n (decide (10 ^ Lib.l10 (Lib.bitLen d) ≤ d)) = nDig d ∧ Lib.l10 (Lib.bitLen d) ≤ 19 := by
  by_cases h0 : d = 0
  · subst h0
    rw [bitLen_zero]
    decide
  · have h1 := Lib.numDigits_eq d (by omega) h
    unfold nDig
    rw [if_neg h0, ← h1.1]
    refine ⟨?_, h1.2⟩
    unfold b2n
    simp

theorem numDigits_any (T : Nat) (d : Nat) (w : World) (he : Env T w) (h : d < 18446744073709551616) :
    Calls Tryd.prog 45 #[.int .u64 d] w fun e w' => e = .returned (.int .i64 (nDig d : Nat)) ∧ w' = w := by
  obtain ⟨h1, h2⟩ := nDig_eq d h
  obtain ⟨k, hk⟩ : ∃ k, Lib.l10 (Lib.bitLen d) = k := ⟨_, rfl⟩
  have hL : Lib.bitLen d ≤ 64 := Lib.bitLen_le d 64 (Nat.le_refl _) h
  rw [hk] at h1 h2
  have hp := he.p10 k (by omega)
  obtain ⟨t, ht⟩ : ∃ t, 10 ^ k = t := ⟨_, rfl⟩
  rw [ht] at h1 hp
  obtain ⟨c, hc⟩ : ∃ c, b2n (decide (t ≤ d)) = c := ⟨_, rfl⟩
  have hcl : c ≤ 1 := by rw [← hc]; exact b2n_le _
  rw [hc] at h1
  have hl : (k : Int) = (Lib.bitLen d : Int) * 78913 / 262144 := by rw [← hk]; unfold Lib.l10; omega
  generalize nDig d = r at *
  have B := bool2i_any (decide (t ≤ d))
  rw [hc] at B
  have M := Tryd.bits_Len64 (d : Int)
  have HB := Lib.hid B
  have HM := Lib.hid M
  have H1 := Lib.hid h1
  have HL := Lib.hid hl
  rw [Int.toNat_natCast] at M
  clear B M h1 hl ht hc hk he
  generalize hbl : Lib.bitLen d = bl at *
  have Hbl := Lib.hid hbl
  clear hbl
  go_enter Tryd.func45, Tryd.ntmps45
  go_wp2_with fail
  refine (HM.out _ (by omega) (by omega)).mono ?_
  rintro e w1 ⟨rfl, rfl⟩
  rw [Int.toNat_natCast, Hbl.out]
  go_wp2_with fail
  refine (log10Pow2_is _ (k : Int) _ (by omega) (by omega) HL.out).mono ?_
  rintro e w1 ⟨rfl, rfl⟩
  go_wp2_with fail
  refine (HB.out _).mono ?_
  rintro e w1 ⟨rfl, rfl⟩
  go_wp2_with fail
  go_ret
  refine ⟨?_, rfl⟩
  show Ending.returned (.int .i64 ((k : Int) + c)) = _
  rw [← H1.out]
  go_num

/-- d's last n decimal digits. -/
def digs (d n : Nat) : List UInt8 := (List.range n).map fun t => Lib.dg d (n - 1 - t)

theorem digs_length (d n : Nat) : (digs d n).length = n := by simp [digs]

theorem Row.put {w : World} {g : Nat} {xs : List Value} (h : Row w g xs) (dk : Array UInt8) (hl : dk.size ≤ xs.length) : Row (putRow encB w g 0 dk) g (dk.toList.map encB ++ xs.drop dk.size) := by
  obtain ⟨e, h⟩ := h
  refine ⟨e, ?_⟩
  simp only [putRow, mapBlock, Array.getElem?_modify, h]
  simp only [if_true, Option.map_some, onCells]
  congr 2
  apply Array.ext'
  simp only [putCells]
  apply List.ext_getElem?
  intro i
  rw [Array.getElem?_toList, Array.getElem?_mapIdx]
  simp only [Nat.zero_le, Nat.zero_add, true_and, Nat.sub_zero, List.getElem?_toArray]
  rcases Nat.lt_or_ge i dk.size with hi | hi
  · rw [List.getElem?_append_left (by simpa using hi), List.getElem?_eq_getElem (by omega)]
    simp [hi]
  · rw [List.getElem?_append_right (by simpa using hi)]
    simp only [List.length_map, Array.length_toList, List.getElem?_drop]
    rw [show dk.size + (i - dk.size) = i by omega]
    cases hx : xs[i]? with
    | none => rfl
    | some y => simp; intro h1; omega

theorem grown_put (w : World) (g : Nat) (dk : Array UInt8) : w.grownBy (putRow encB w g 0 dk) (some g) := by
  refine ⟨rfl, rfl, rfl, by simp [putRow, mapBlock], fun k _ hne => ?_⟩
  simp only [putRow, mapBlock, Array.getElem?_modify]
  rw [if_neg (fun e => hne (by rw [e]))]

/-- formatBase10 into the first n cells of a row. -/
theorem formatBase10_row (g n cap u : Nat) (bs : List UInt8) (w : World) (hr : BRow w g bs) (hn : n ≤ bs.length) (hu : u < 10 ^ n) (hu64 : u < 18446744073709551616) (hb : bs.length ≤ 4096) :
    Calls Tryd.prog 63 #[.slice (some ⟨g, 0, none⟩) n cap, .int .u64 u] w fun e w' =>
      e = .returned (.tuple #[]) ∧ BRow w' g (digs u n ++ bs.drop n) ∧ w.grownBy w' (some g) := by
  have hH : Holds encB w g 0 (bs.take n).toArray := fun j hj => by
    have hj' : j < n := by simp at hj; omega
    refine ⟨?_, hr.row.frozen _⟩
    rw [hr.row.cell]
    rw [Nat.zero_add, List.getElem?_map, List.getElem?_eq_getElem (by omega), getElem!_pos _ j hj]
    simp
  have hsz : (bs.take n).toArray.size = n := by simp; omega
  have key := Tryd.internal_strconv_formatBase10 g 0 cap u (bs.take n).toArray w hH (by rw [hsz]; exact hu) hu64 (by rw [hsz]; omega)
  rw [hsz] at key
  refine key.mono ?_
  rintro e w' ⟨rfl, k, v', dk, rfl, hinv⟩
  have hds := hinv.size
  have hdk : dk.toList = digs u n := by
    apply List.ext_getElem
    · rw [digs_length]; simpa using hds
    · intro i h1 h2
      have hi : i < n := by rw [digs_length] at h2; exact h2
      have := hinv.done i (Nat.zero_le _) hi
      rw [getElem!_pos _ i (by omega)] at this
      simp only [Array.getElem_toList, this, digs, List.getElem_map, List.getElem_range]
  refine ⟨rfl, ?_, ?_⟩
  · have h1 := (hr.row.put dk (by simp; omega)).drewN k
    rw [hdk, hds] at h1
    have e : (digs u n ++ bs.drop n).map encB = (digs u n).map encB ++ (bs.map encB).drop n := by simp
    show Row _ g _
    rw [e]
    exact h1
  · exact grown_trans (grown_put w g dk) (grown_drewN _ k none) (fun _ h => by cases h)

/-- How many of the first n bytes are left when zeros at the end go. -/
def trimZ (l : List UInt8) : Nat → Nat
  | 0 => 0
  | n + 1 => if l.getD n 0 = 48 then trimZ l n else n + 1

theorem trimZ_le (l : List UInt8) (n : Nat) : trimZ l n ≤ n := by
  induction n with
  | zero => exact Nat.le_refl _
  | succ n ih => unfold trimZ; split <;> omega

theorem nDig_le (d : Nat) (h : d < 18446744073709551616) : nDig d ≤ 20 := by
  obtain ⟨h1, h2⟩ := nDig_eq d h
  have := b2n_le (decide (10 ^ Lib.l10 (Lib.bitLen d) ≤ d))
  omega

theorem lt_pow_nDig (d : Nat) : d < 10 ^ nDig d := by
  unfold nDig
  split
  · subst_vars; decide
  · exact Lib.lt_pow_nDigits d

set_option maxHeartbeats 400000 in
theorem setDigits_any (g cap d : Nat) (p : Int) (bs : List UInt8) (w : World) (hr : BRow w g bs) (hb0 : 20 ≤ bs.length) (hb : bs.length ≤ 4096) (hc : bs.length ≤ cap) (hd : d < 18446744073709551616) (hp1 : -100000 ≤ p) (hp2 : p ≤ 100000) :
    Calls Tryd.prog 44 #[.slice (some ⟨g, 0, none⟩) bs.length cap, .int .u64 d, .int .i64 p, .int .i64 (nDig d : Nat)] w fun e w' =>
      e = .returned (.tuple #[.int .i64 ((nDig d : Nat) + p), .int .i64 (trimZ (digs d (nDig d)) (nDig d) : Nat)]) ∧ BRow w' g (digs d (nDig d) ++ bs.drop (nDig d)) ∧ w.grownBy w' (some g) := by
  have hn := nDig_le d hd
  have hlt := lt_pow_nDig d
  generalize nDig d = n at *
  have hdl := digs_length d n
  have hF := formatBase10_row g n cap d bs w hr (by omega) hlt hd hb
  have HF := Lib.hid hF
  clear hF hr hlt
  generalize digs d n = ds at *
  generalize hL : bs.length = L at *
  have Hdl := Lib.hid hdl
  have HL := Lib.hid hL
  clear hL hdl
  have hnL : n ≤ L := by omega
  have hdec : decide (n ≤ L) = true := by simpa using hnL
  go_enter Tryd.func44, Tryd.ntmps44
  go_wp2_with fail
  refine HF.out.mono ?_
  rintro e w1 ⟨rfl, hr1, hg1⟩
  have HR := Lib.hid hr1
  clear hr1 HF
  go_wp2_with fail
  go_loop [3] (fun v => ∃ k : Nat, k ≤ n ∧ v = .int .i64 k ∧ trimZ ds k = trimZ ds n) (fun v => (RowKit.intOf v).toNat)
  case atStart => exact ⟨n, Nat.le_refl _, rfl, rfl⟩
  case round =>
    obtain ⟨k, hk, rfl, hz⟩ := hrel
    have HZ := Lib.hid hz
    clear hz
    cases k with
    | zero =>
      have h0 : decide ((0 : Int) < ((0 : Nat) : Int)) = false := by decide
      have hfin : trimZ ds n = 0 := HZ.out.symm
      have HFin := Lib.hid hfin
      clear hfin
      go_wp2_with fail
      go_ret2
      refine ⟨?_, HR.out, hg1⟩
      rw [HFin.out]
      rfl
    | succ j =>
      have hj : j < L := by omega
      have hcell : w1.cell? ⟨g, j, none⟩ = some (encB (ds.getD j 0)) := by
        rw [HR.out.row.cell, List.getElem?_map, List.getElem?_append_left (by rw [Hdl.out]; omega), List.getD_eq_getElem?_getD, List.getElem?_eq_getElem (by rw [Hdl.out]; omega)]
        simp
      unfold encB at hcell
      by_cases h48 : ds.getD j 0 = 48
      · have hb1 : (((ds.getD j 0).toNat : Int) == 48) = true := by rw [h48]; decide
        have hz2 : trimZ ds (j + 1) = trimZ ds j := by rw [trimZ, if_pos h48]
        have HZ2 := Lib.hid (HZ.out.symm.trans hz2)
        clear hz2 h48
        generalize ds.getD j 0 = c at *
        go_wp2_with fail
        go_round
        case rel => exact ⟨j, by omega, by go_num, HZ2.out.symm⟩
        case measure => simp [RowKit.intOf]
      · have hb1 : (((ds.getD j 0).toNat : Int) == 48) = false := by
          rw [beq_eq_false_iff_ne]
          intro e
          apply h48
          apply UInt8.toNat_inj.1
          have : (48 : UInt8).toNat = 48 := by decide
          omega
        have hz2 : trimZ ds (j + 1) = j + 1 := by rw [trimZ, if_neg h48]
        have HZ2 := Lib.hid (HZ.out.symm.trans hz2)
        clear hz2 h48
        generalize ds.getD j 0 = c at *
        go_wp2_with fail
        go_ret2
        refine ⟨?_, HR.out, hg1⟩
        rw [HZ2.out]
        rfl
end Go.Proofs.YtffooimnioigdaaDoor
