/-
  Walks of uscale.go: prescale, uscale.
-/
import Derived.Test.YtffooimnioigdaaDoorU1
namespace Go.Proofs.YtffooimnioigdaaDoor
open Go.RowKit
set_option linter.unusedSimpArgs false
set_option linter.unusedVariables false

set_option maxHeartbeats 400000 in
theorem prescale_any (T b : Nat) (x p lp : Int) (c0 c1 c2 : Value) (w : World) (he : Env T w) (hb : T ≤ b) (hr : Row w b [c0, c1, c2])
    (hp1 : -348 ≤ p) (hp2 : p ≤ 347) (hx1 : -10000 ≤ x) (hx2 : x ≤ 10000) (hl1 : -10000 ≤ lp) (hl2 : lp ≤ 10000) :
    Calls Tryd.prog 56 #[.pointer (some ⟨b, 0, none⟩), .int .i64 x, .int .i64 p, .int .i64 lp] w fun e w' =>
      e = .returned (.tuple #[]) ∧ Row w' b [.int .u64 (pmHi (p + 348).toNat : Int), .int .u64 (pmLo (p + 348).toNat : Int), .int .i64 (-(x + lp + 3))] ∧ w.grownBy w' (some b) := by
  obtain ⟨i, hi⟩ : ∃ i : Nat, p = (i : Int) - 348 := ⟨(p + 348).toNat, by omega⟩
  subst hi
  have ei : ((i : Int) - 348 + 348).toNat = i := by omega
  rw [ei]
  have hg := he.glob
  have hi : i < 696 := by omega
  have t1 := (he.tab i hi).1
  have t2 := (he.tab i hi).2
  have e1 : w.cell? ⟨b, 0, none⟩ = some c0 := by rw [hr.cell]; rfl
  have e2 : w.cell? ⟨b, 1, none⟩ = some c1 := by rw [hr.cell]; rfl
  have e3 : w.cell? ⟨b, 2, none⟩ = some c2 := by rw [hr.cell]; rfl
  have f1 := hr.frozen 0
  have f2 := hr.frozen 1
  have f3 := hr.frozen 2
  have hne : ¬ b = 3 := by omega
  have H := Lib.hid hr
  clear hr he ei
  generalize pmHi i = ph at *
  generalize pmLo i = pl at *
  go_enter Tryd.func56, Tryd.ntmps56
  go_wp2
  go_end0
  refine ⟨rfl, ?_, ?_⟩
  · have h1 := ((H.out.setCell 0 (.int .u64 (ph : Int))).setCell 1 (.int .u64 (pl : Int))).setCell 2 (.int .i64 (-(x + lp + 3)))
    exact h1
  · exact grown_trans (grown_trans (grown_setCell w ⟨b, 0, none⟩ _) (grown_setCell _ ⟨b, 1, none⟩ _) (fun _ h _ => h)) (grown_setCell _ ⟨b, 2, none⟩ _) (fun _ h _ => h)

def us (x hi lo s : Nat) : Nat :=
  if (x * hi / 18446744073709551616) / 2 ^ s * 2 ^ s ≠ x * hi / 18446744073709551616 then (x * hi / 18446744073709551616) / 2 ^ s ||| 1
  else (x * hi / 18446744073709551616 + 18446744073709551616 - b2n (decide (x * hi % 18446744073709551616 < x * lo / 18446744073709551616))) % 18446744073709551616 / 2 ^ s |||
    b2n (decide (1 < (x * hi % 18446744073709551616 + 18446744073709551616 - x * lo / 18446744073709551616) % 18446744073709551616))

theorem us_lt (x hi lo s : Nat) (hx : x < 18446744073709551616) (hhi : hi < 18446744073709551616) : us x hi lo s < 18446744073709551616 := by
  have bh : x * hi / 18446744073709551616 < 18446744073709551616 := by
    have : x * hi < 18446744073709551616 * 18446744073709551616 := Nat.mul_lt_mul'' hx hhi
    omega
  have h1 : us x hi lo s < 2 ^ 64 := by
    unfold us
    generalize x * hi / 18446744073709551616 = h at *
    split
    · exact Nat.or_lt_two_pow (Nat.lt_of_le_of_lt (Nat.div_le_self _ _) (by omega)) (by omega)
    · have := b2n_le (decide (1 < (x * hi % 18446744073709551616 + 18446744073709551616 - x * lo / 18446744073709551616) % 18446744073709551616))
      exact Nat.or_lt_two_pow (Nat.lt_of_le_of_lt (Nat.div_le_self _ _) (by omega)) (by omega)
  omega

set_option maxHeartbeats 400000 in
theorem uscale_any (x hi lo : Nat) (s : Nat) (b o : Nat) (w : World) (hx : x < 18446744073709551616) (hhi : hi < 18446744073709551616) (hlo : lo < 18446744073709551616)
    (hs : s < 64) (c0 : w.cell? ⟨b, o, none⟩ = some (.int .u64 hi)) (c1 : w.cell? ⟨b, o + 1, none⟩ = some (.int .u64 lo)) (c2 : w.cell? ⟨b, o + 2, none⟩ = some (.int .i64 s)) :
    Calls Tryd.prog 58 #[.int .u64 x, .pointer (some ⟨b, o, none⟩)] w fun e w' => e = .returned (.int .u64 (us x hi lo s : Nat)) ∧ ∃ n, w' = w.drewN n := by
  have hand : bits .and .i64 (s : Int) 63 = (s : Int) := by rw [i64_and63]; omega
  have bh : x * hi / 18446744073709551616 < 18446744073709551616 := by
    have : x * hi < 18446744073709551616 * 18446744073709551616 := Nat.mul_lt_mul'' hx hhi
    omega
  have bm : x * hi % 18446744073709551616 < 18446744073709551616 := by omega
  have bm2 : x * lo / 18446744073709551616 < 18446744073709551616 := by
    have : x * lo < 18446744073709551616 * 18446744073709551616 := Nat.mul_lt_mul'' hx hlo
    omega
  have M1 := Tryd.bits_Mul64 x hi hx hhi
  have M2 := Tryd.bits_Mul64 x lo hx hlo
  unfold us
  revert M1 M2
  generalize x * hi / 18446744073709551616 = h at *
  generalize x * hi % 18446744073709551616 = m at *
  generalize x * lo / 18446744073709551616 = m2 at *
  generalize x * lo % 18446744073709551616 = m3 at *
  intro M1 M2
  have H1 := Lib.hid M1
  have H2 := Lib.hid M2
  clear M1 M2
  have bq : h / 2 ^ s * 2 ^ s ≤ h := Nat.div_mul_le_self _ _
  have bq2 : h / 2 ^ s < 18446744073709551616 := Nat.lt_of_le_of_lt (Nat.div_le_self _ _) bh
  have ee : (h : Int) / 2 ^ s * 2 ^ s = ((h / 2 ^ s * 2 ^ s : Nat) : Int) := by simp
  have wr : IntKind.u64.wrap ((h : Int) / 2 ^ s * 2 ^ s) = (h : Int) / 2 ^ s * 2 ^ s := by
    rw [ee, IntKind.wrap_u64]; omega
  by_cases hc : h / 2 ^ s * 2 ^ s = h
  · rw [if_neg (by simp [hc])]
    have hb : (((h : Int) / 2 ^ s * 2 ^ s) != (h : Int)) = false := by
      rw [ee, hc]; simp
    clear hc bq bq2 ee
    have hle := b2n_le (decide (m < m2))
    have B2 := bool2u_any (decide (m < m2))
    generalize b2n (decide (m < m2)) = c at *
    have wr2 : IntKind.u64.wrap ((h : Int) - c) = (((h + 18446744073709551616 - c) % 18446744073709551616 : Nat) : Int) := by
      rw [IntKind.wrap_u64]; omega
    have wr3 : IntKind.u64.wrap ((m : Int) - m2) = (((m + 18446744073709551616 - m2) % 18446744073709551616 : Nat) : Int) := by
      rw [IntKind.wrap_u64]; omega
    have b4 : (h + 18446744073709551616 - c) % 18446744073709551616 < 18446744073709551616 := by omega
    generalize (h + 18446744073709551616 - c) % 18446744073709551616 = h' at *
    generalize (m + 18446744073709551616 - m2) % 18446744073709551616 = m' at *
    have b5 : h' / 2 ^ s < 18446744073709551616 := Nat.lt_of_le_of_lt (Nat.div_le_self _ _) b4
    have hd : decide (1 < (m' : Int)) = decide (1 < m') := by
      rw [decide_eq_decide]; omega
    have B3 := bool2u_any (decide (1 < m'))
    have hle3 := b2n_le (decide (1 < m'))
    rw [← hd] at *
    generalize b2n (decide (1 < (m' : Int))) = c3 at *
    have hor : bits .or .u64 ((h' : Int) / 2 ^ s) (c3 : Nat) = ((h' / 2 ^ s ||| c3 : Nat) : Int) := by
      have e := u64_or_nat (h' / 2 ^ s) c3 b5 (by omega)
      rw [← e]; simp
    clear hd
    have HB2 := Lib.hid B2
    have HB3 := Lib.hid B3
    clear B2 B3
    go_enter Tryd.func58, Tryd.ntmps58
    go_wp2_with fail
    refine (H1.out _).mono ?_
    rintro e w' ⟨rfl, rfl⟩
    go_wp2_with fail
    refine (H2.out _).mono ?_
    rintro e w' ⟨rfl, rfl⟩
    go_wp2_with fail
    refine (HB2.out _).mono ?_
    rintro e w' ⟨rfl, rfl⟩
    go_wp2_with fail
    go_quiet ((go_at_call 76; exact Calls.quiet_of_same (HB3.out _)))
    go_wp2_with fail
    go_ret
    exact ⟨rfl, _, rfl⟩
  · rw [if_pos hc]
    have hb : (((h : Int) / 2 ^ s * 2 ^ s) != (h : Int)) = true := by
      rw [ee]; simp only [bne_iff_ne, ne_eq]; omega
    have hor : bits .or .u64 ((h : Int) / 2 ^ s) 1 = ((h / 2 ^ s ||| 1 : Nat) : Int) := by
      have e := u64_or_nat (h / 2 ^ s) 1 bq2 (by omega)
      rw [← e]; simp
    clear hc bq bq2 ee
    go_enter Tryd.func58, Tryd.ntmps58
    go_wp2_with fail
    refine (H1.out _).mono ?_
    rintro e w' ⟨rfl, rfl⟩
    go_wp2_with fail
    go_ret
    exact ⟨rfl, 0, rfl⟩

theorem uscale_row (x hi lo s : Nat) (r : Nat) (b : Nat) (si : Int) (w : World) (hx : x < 18446744073709551616) (hhi : hi < 18446744073709551616) (hlo : lo < 18446744073709551616)
    (hs : s < 64) (hsi : si = (s : Int)) (hr : Row w b [.int .u64 (hi : Int), .int .u64 (lo : Int), .int .i64 si]) (hu : us x hi lo s = r) :
    Calls Tryd.prog 58 #[.int .u64 x, .pointer (some ⟨b, 0, none⟩)] w fun e w' => e = .returned (.int .u64 (r : Int)) ∧ w.grownBy w' none := by
  subst hu hsi
  refine (uscale_any x hi lo s b 0 w hx hhi hlo hs (by rw [hr.cell]; rfl) (by rw [hr.cell]; rfl) (by rw [hr.cell]; rfl)).mono ?_
  rintro e w' ⟨rfl, n, rfl⟩
  exact ⟨rfl, grown_drewN w n none⟩

theorem div_is (u r : Nat) (w : World) (h : u < 18446744073709551616) (hr : uDiv u 10 = r) :
    Calls Tryd.prog 66 #[.int .u64 u, .int .u64 10] w fun e w' => e = .returned (.int .u64 (r : Int)) ∧ w.grownBy w' none := by
  subst hr
  refine (div_any u w h).mono ?_
  rintro e w' ⟨rfl, n, rfl⟩
  exact ⟨rfl, grown_drewN w n none⟩

theorem round_is (u r : Nat) (w : World) (h : u < 18446744073709551616) (hr : uRound u = r) :
    Calls Tryd.prog 62 #[.int .u64 u] w fun e w' => e = .returned (.int .u64 (r : Int)) ∧ w = w' := by
  subst hr
  exact (round_any u w h).mono fun _ _ ⟨h, k⟩ => ⟨h, k.symm⟩

theorem nudge_is (u r : Nat) (d : Int) (w : World) (h : u < 18446744073709551616) (h1 : -9223372036854775808 ≤ d) (h2 : d ≤ 9223372036854775807) (hr : uNudge u d = r) :
    Calls Tryd.prog 59 #[.int .u64 u, .int .i64 d] w fun e w' => e = .returned (.int .u64 (r : Int)) ∧ w = w' := by
  subst hr
  exact (nudge_any u d w h h1 h2).mono fun _ _ ⟨h, k⟩ => ⟨h, k.symm⟩

theorem ceil_is (u r : Nat) (w : World) (h : u < 18446744073709551616) (hr : uCeil u = r) :
    Calls Tryd.prog 60 #[.int .u64 u] w fun e w' => e = .returned (.int .u64 (r : Int)) ∧ w = w' := by
  subst hr
  exact (ceil_any u w h).mono fun _ _ ⟨h, k⟩ => ⟨h, k.symm⟩

theorem floor_is (u r : Nat) (w : World) (h : u < 18446744073709551616) (hr : uFloor u = r) :
    Calls Tryd.prog 61 #[.int .u64 u] w fun e w' => e = .returned (.int .u64 (r : Int)) ∧ w = w' := by
  subst hr
  exact (floor_any u w h).mono fun _ _ ⟨h, k⟩ => ⟨h, k.symm⟩

theorem uNudge_lt (u : Nat) (d : Int) : uNudge u d < 18446744073709551616 := by
  unfold uNudge; omega
end Go.Proofs.YtffooimnioigdaaDoor
