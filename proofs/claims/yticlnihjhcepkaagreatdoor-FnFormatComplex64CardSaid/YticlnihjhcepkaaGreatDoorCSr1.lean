/-
  Walk of spec/digits.go: nearest.
-/
import Derived.Test.YticlnihjhcepkaaGreatDoorCSr0
import Derived.Test.YticlnihjhcepkaaGreatDoorGq
import Derived.Test.YticlnihjhcepkaaGreatDoorCSh4
namespace Go.Proofs.YticlnihjhcepkaaGreatDoor
open Go.RowKit
set_option linter.unusedSimpArgs false
set_option linter.unusedVariables false
attribute [local go_sem] undef

theorem bel_unf (rd : Nat → Int → Bool) (a b : Nat) (E : Int) (n : Nat) : belS rd a b E n = (decide (0 < lowS a b ((n : Int) - 1 - E)) && rd (lowS a b ((n : Int) - 1 - E)) (E - n + 1)) := rfl
theorem abo_unf (rd : Nat → Int → Bool) (a b : Nat) (E : Int) (n : Nat) : aboS rd a b E n = (decide (0 < rstS a b ((n : Int) - 1 - E)) && rd (lowS a b ((n : Int) - 1 - E) + 1) (E - n + 1)) := rfl

theorem ret_F4 {P : Program} {fn : Func} {R : Ending → World → Prop} {n : Nat} {env : List (Nat × Value)} {s : Nat → Value} {w : World} {t u p q : Nat} (v x y z : Value) (hr : fn.results = #[.tmp t, .tmp u, .tmp p, .tmp q]) (ht : t < n) (hu : u < n) (hp : p < n) (hq : q < n) (hv : over env s t = v) (hx : over env s u = x) (hy : over env s p = y) (hz : over env s q = z) (hR : R (.returned (.tuple #[v, x, y, z])) w) : bodyPost P fn R .ret (Fr n env s) w := by
  refine bodyPost_ret (v := .tuple #[v, x, y, z]) ?_ (Fr_defers ..) hR
  have : (results fn (Fr n env s).tmps).run P w = .ok (.tuple #[(Fr n env s).tmps.getD t undef, (Fr n env s).tmps.getD u undef, (Fr n env s).tmps.getD p undef, (Fr n env s).tmps.getD q undef]) w := by simp [results, hr]
  rw [this, Fr_getD n env s t ht, Fr_getD n env s u hu, Fr_getD n env s p hp, Fr_getD n env s q hq, hv, hx, hy, hz]

theorem len_mono {x y K : Nat} (hy : (natL y).length ≤ K) (h : x ≤ y) : (natL x).length ≤ K :=
  natL_len_le (Nat.lt_of_le_of_lt h (Nat.lt_of_lt_of_le (natL_lt y) (Nat.pow_le_pow_right (by omega) hy)))
theorem len_zero (a : Nat) : (natL a).length = 0 ↔ a = 0 := ⟨fun h => by by_cases h0 : a = 0; exact h0; exact absurd (List.length_eq_zero_iff.1 h) (natL_ne h0), fun h => by rw [h, natL_zero]; rfl⟩
theorem natL_one_len : (natL 1).length ≤ 1 := natL_len_le (by omega)

set_option maxRecDepth 100000 in
set_option maxHeartbeats 8000000 in
theorem nearest_gen (sz bits : Int) (vn vd : Value) (a b : Nat) (rd : Nat → Int → Bool) (w : World) (hn : NatV w vn a) (hd : NatV w vd b) (ha : a ≠ 0) (hb : b ≠ 0) (hla : (natL a).length ≤ 100) (hlb : (natL b).length ≤ 100)
    (hord : -1000 ≤ ordT a b ∧ ordT a b ≤ 1000)
    (hrd : ∀ (V : Value) (d n : Nat) W, NatV W V d → d ≤ a * 10 ^ ((n : Int) - 1 - ordT a b).toNat + 1 → 1 ≤ n → n ≤ 17 → Calls Tryz.prog 58 #[.int .i64 sz, .int .u64 bits, V, .int .i64 (ordT a b), .int .i64 (n : Int)] W fun x w' => x = .returned (.bool (rd d (ordT a b - n + 1))) ∧ W.grownBy w' none) :
    Calls Tryz.prog 29 #[.int .i64 sz, .int .u64 bits, .agg #[.bool false, vn, vd]] w fun x w' => ∃ (V : Value) (near n : Nat) (tie : Bool), x = .returned (.tuple #[V, .int .i64 (n : Int), .int .i64 (ordT a b), .bool tie]) ∧ NatV w' V near ∧ nearS rd a b (ordT a b) 16 1 = (near, n, tie) ∧ w.grownBy w' none := by
  have HRD := Lib.hid hrd
  have HOT := Lib.hid (fun vn vd W (h1 : NatV W vn a) (h2 : NatV W vd b) => orderOfTen_any false vn vd a b W h1 h2 ha hb hla hlb)
  have HLA := Lib.hid hla
  have HLB := Lib.hid hlb
  have HB0 := Lib.hid (show 0 < b by omega)
  clear hrd ha hb
  generalize ordT a b = E at *
  have hln := fun (k : Int) (hk : k ≤ 2000) => natL_ten' a 2000 k hla hk (by omega)
  have hld := fun (k : Int) (hk : k ≤ 2000) => natL_ten' b 2000 k hlb hk (by omega)
  have HLL0 := Lib.hid (fun (k : Int) (hk : k ≤ 2000) x (h : x ≤ a * 10 ^ k.toNat) => len_mono (hln k hk) h)
  have HL20 := Lib.hid hld
  have HTT := Lib.hid (fun vn vd W (k : Int) (h1 : NatV W vn a) (h2 : NatV W vd b) (k1 : -2000 ≤ k) (k2 : k ≤ 2000) => timesTen_any false vn vd a b k W h1 h2 (by omega) (by omega) (by omega) (by omega))
  have HDV := Lib.hid (fun vn vd W (k : Int) (h1 : NatV W vn (a * 10 ^ k.toNat)) (h2 : NatV W vd (b * 10 ^ (-k).toNat)) (k1 : -2000 ≤ k) (k2 : k ≤ 2000) => divNat_any vn vd _ _ W h1 h2 (Nat.mul_pos HB0.out (p10 _)) (by have := hln k k2; omega) (by have := hld (-k) (by omega); omega))
  have HRES := Lib.hid (show ∀ x, nearS rd a b E 16 1 = x → nearS rd a b E 16 1 = x from fun _ h => h)
  have HO1 := Lib.hid hord
  have ho1 := hord.1
  have ho2 := hord.2
  clear hln hld hla hlb hord
  have HNA := Lib.hid hn
  have HND := Lib.hid hd
  obtain ⟨an, cn, rfl⟩ := hn.len
  obtain ⟨ad, cd, rfl⟩ := hd.len
  generalize (natL a).length = LN at *
  generalize (natL b).length = LD at *
  obtain ⟨w1, hw1⟩ : ∃ w1, w.alloc (.cells #[.bool false, .slice an LN cn, .slice ad LD cd] 45) = w1 := ⟨_, rfl⟩
  obtain ⟨B, hB⟩ : ∃ B, w.heap.size = B := ⟨_, rfl⟩
  have hib := InBlk.new w false (.slice an LN cn) (.slice ad LD cd) 45
  rw [hw1, hB] at hib
  have HIB := Lib.hid hib
  have HW1 := Lib.hid hw1
  clear hib hw1 hn hd
  refine calls_F Tryz.func29 rfl (by rw [Tryz.ntmps29]; simp) ?_
  intro σ hσ
  rw [Tryz.ntmps29]
  have s0 : σ 0 = .int .i64 sz := hσ 0 (by simp)
  have s1 : σ 1 = .int .u64 bits := hσ 1 (by simp)
  have s2 : σ 2 = .agg #[.bool false, .slice an LN cn, .slice ad LD cd] := hσ 2 (by simp)
  clear hσ
  go_upto_region 1 with fail
  rw [HW1.out]
  clear HW1 hB
  have hcell0 : ∀ W, w1.grownBy W none → W.cell? ⟨B, 0, none⟩ = some (.bool false) := fun W h => (HIB.out.row.grown h (by simp)).cell 0
  have hcell1 : ∀ W, w1.grownBy W none → W.cell? ⟨B, 1, none⟩ = some (.slice an LN cn) := fun W h => (HIB.out.row.grown h (by simp)).cell 1
  have hcell2 : ∀ W, w1.grownBy W none → W.cell? ⟨B, 2, none⟩ = some (.slice ad LD cd) := fun W h => (HIB.out.row.grown h (by simp)).cell 2
  have HC0 := Lib.hid hcell0
  have HC1 := Lib.hid hcell1
  have HC2 := Lib.hid hcell2
  clear hcell0 hcell1 hcell2
  have c0 := HC0.out w1 (grown_refl w1 none)
  have c1 := HC1.out w1 (grown_refl w1 none)
  have c2 := HC2.out w1 (grown_refl w1 none)
  ((repeat (go_wp2_with fail; first | (refine cdY ?_ ?_; focus (simp [ov, *]; done)) | (refine cdN ?_ ?_; focus (simp [ov, *]; done)))); go_wp2_with fail)
  refine (HOT.out _ _ _ (HNA.out.grown HIB.out.grown) (HND.out.grown HIB.out.grown)).mono ?_
  rintro x w2 ⟨rfl, hg2⟩
  have HG2 := Lib.hid hg2
  clear c0 c1 c2 hg2 HOT
  ((repeat (go_wp2_with fail; first | (refine cdY ?_ ?_; focus (simp [ov, *]; done)) | (refine cdN ?_ ?_; focus (simp [ov, *]; done)))); go_wp2_with fail)
  refine loop_F (fun kk s' w' => ∃ n : Nat, 1 ≤ n ∧ n ≤ 17 ∧ kk = 17 - n ∧ s' 0 = .int .i64 sz ∧ s' 1 = .int .u64 bits ∧ s' 5 = .pointer (some ⟨B, 0, none⟩) ∧ s' 7 = .int .i64 (n : Int) ∧ s' 8 = .int .i64 E ∧ w1.grownBy w' none ∧ nearS rd a b E (17 - n) n = nearS rd a b E 16 1) 16
    ⟨1, by omega, by omega, rfl, by simp [ov, *], by simp [ov, *], by simp [ov, *], by simp [ov, *], by simp [ov, *], HG2.out, rfl⟩ ?_
  clear s0 s1 s2 σ HG2
  rintro kk σ w3 ⟨n, hn1, hn2, hkk, s0, s1, s5, s7, s8, hg3, hns⟩ RK KK HRK hKK
  have HKK := Lib.hid hkk
  have HNS := Lib.hid hns
  have HG3 := Lib.hid hg3
  have c0 := HC0.out w3 hg3
  have c1 := HC1.out w3 hg3
  have c2 := HC2.out w3 hg3
  clear hkk hns hg3
  have hw1 : IntKind.i64.wrap ((n : Int) - 1) = (n : Int) - 1 := wrapIn _ (by omega) (by omega)
  have hw2 : IntKind.i64.wrap ((n : Int) - 1 - E) = (n : Int) - 1 - E := wrapIn _ (by omega) (by omega)
  ((repeat (go_wp2_with fail; first | (refine cdY ?_ ?_; focus (simp [ov, *]; done)) | (refine cdN ?_ ?_; focus (simp [ov, *]; done)))); go_wp2_with fail)
  refine (HTT.out _ _ _ _ (HNA.out.grown (grown_none_tr HIB.out.grown HG3.out)) (HND.out.grown (grown_none_tr HIB.out.grown HG3.out)) (by omega) (by omega)).mono ?_
  rintro x w4 ⟨v4, rfl, hv4, hg4⟩
  obtain ⟨n4, d4, rfl, hn4, hd4⟩ := hv4
  obtain ⟨a4, k4, rfl⟩ := hn4.len
  obtain ⟨b4, l4, rfl⟩ := hd4.len
  obtain ⟨LN4, hLN4⟩ : ∃ L, (natL (a * 10 ^ ((n : Int) - 1 - E).toNat)).length = L := ⟨_, rfl⟩
  obtain ⟨LD4, hLD4⟩ : ∃ L, (natL (b * 10 ^ (-((n : Int) - 1 - E)).toNat)).length = L := ⟨_, rfl⟩
  rw [hLN4] at hn4
  rw [hLD4] at hd4
  simp only [hLN4, hLD4]
  have HN4 := Lib.hid hn4
  have HD4 := Lib.hid hd4
  have HG4 := Lib.hid (grown_none_tr HG3.out hg4)
  clear hn4 hd4 hg4 c0 c1 c2
  have HT := Lib.hid (show 0 < b * 10 ^ (-((n : Int) - 1 - E)).toNat from Nat.mul_pos HB0.out (p10 _))
  have HLL := Lib.hid (fun x (h : x ≤ a * 10 ^ ((n : Int) - 1 - E).toNat) => HLL0.out ((n : Int) - 1 - E) (by omega) x h)
  have HL2 := Lib.hid (HL20.out (-((n : Int) - 1 - E)) (by omega))
  go_upto_region 5 with fail
  obtain ⟨w5, hw5⟩ : ∃ w', World.alloc w4 (.cells #[.bool false, .slice a4 LN4 k4, .slice b4 LD4 l4] 45) = w' := ⟨_, rfl⟩
  obtain ⟨D, hD⟩ : ∃ A, (World.heap w4).size = A := ⟨_, rfl⟩
  have hib := InBlk.new w4 false (.slice a4 LN4 k4) (.slice b4 LD4 l4) 45
  rw [hw5, hD] at hib
  rw [hw5, hD]
  have HID := Lib.hid hib
  have c0 := hib.row.cell 0
  have c1 := hib.row.cell 1
  have c2 := hib.row.cell 2
  simp only [List.getElem?_cons_zero, List.getElem?_cons_succ] at c0 c1 c2
  have HN5 := Lib.hid (show NatV w5 (.slice a4 LN4 k4) (a * 10 ^ ((n : Int) - 1 - E).toNat) from HN4.out.grown hib.grown)
  have HD5 := Lib.hid (show NatV w5 (.slice b4 LD4 l4) (b * 10 ^ (-((n : Int) - 1 - E)).toNat) from HD4.out.grown hib.grown)
  have HG5 := Lib.hid (grown_none_tr HG4.out hib.grown)
  clear hib hw5 hD HN4 HD4 HG4
  ((repeat (go_wp2_with fail; first | (refine cdY ?_ ?_; focus (simp [ov, *]; done)) | (refine cdN ?_ ?_; focus (simp [ov, *]; done)))); go_wp2_with fail)
  refine (HDV.out _ _ _ _ HN5.out HD5.out (by omega) (by omega)).mono ?_
  rintro x w6 ⟨vq, vr, rfl, hq, hr, hg6⟩
  have hq2 : NatV w6 vq (lowS a b ((n : Int) - 1 - E)) := hq
  have hr2 : NatV w6 vr (rstS a b ((n : Int) - 1 - E)) := hr
  have hqb : lowS a b ((n : Int) - 1 - E) ≤ a * 10 ^ ((n : Int) - 1 - E).toNat := Nat.div_le_self _ _
  have hrb : rstS a b ((n : Int) - 1 - E) ≤ a * 10 ^ ((n : Int) - 1 - E).toNat := Nat.mod_le _ _
  have hqe := HLL.out _ hqb
  have hre := HLL.out _ hrb
  have hbel := bel_unf rd a b E n
  have habo := abo_unf rd a b E n
  obtain ⟨L, hL⟩ : ∃ L, lowS a b ((n : Int) - 1 - E) = L := ⟨_, rfl⟩
  obtain ⟨R, hR⟩ : ∃ R, rstS a b ((n : Int) - 1 - E) = R := ⟨_, rfl⟩
  rw [hL] at hq2 hqb hqe hbel habo
  rw [hR] at hr2 hrb hre habo
  have HL := Lib.hid hL
  have HR := Lib.hid hR
  have HQ6 := Lib.hid hq2
  have HR6 := Lib.hid hr2
  have HRB := Lib.hid (fun (V : Value) (d : Nat) W (h1 : NatV W V d) (h2 : d ≤ a * 10 ^ ((n : Int) - 1 - E).toNat + 1) => HRD.out V d n W h1 h2 hn1 hn2)
  have HQB := Lib.hid hqb
  have HG6 := Lib.hid (grown_none_tr HG5.out hg6)
  have HD6 := Lib.hid (HD5.out.grown hg6)
  have HBL := Lib.hid hbel
  have HAB := Lib.hid habo
  have HIG := Lib.hid hg6
  clear hq hr hq2 hr2 hbel habo hL hR hqb hrb hg6 c0 c1 c2 HDV HTT
  obtain ⟨aq, kq, rfl⟩ := HQ6.out.len
  obtain ⟨ar, kr, rfl⟩ := HR6.out.len
  have HNQ := Lib.hid (show (natL L).length = 0 ↔ L = 0 from len_zero L)
  have HNR := Lib.hid (show (natL R).length = 0 ↔ R = 0 from len_zero R)
  obtain ⟨LQ, hLQ⟩ : ∃ x, (natL L).length = x := ⟨_, rfl⟩
  obtain ⟨LR, hLR⟩ : ∃ x, (natL R).length = x := ⟨_, rfl⟩
  rw [hLQ] at HQ6 HNQ hqe
  rw [hLR] at HR6 HNR hre
  simp only [hLQ, hLR]
  have HLQ := Lib.hid hLQ
  have HLR := Lib.hid hLR
  clear hLQ hLR
  ((repeat (go_wp2_with fail; first | (refine cdY ?_ ?_; focus (simp [ov, *]; done)) | (refine cdN ?_ ?_; focus (simp [ov, *]; done)))); go_wp2_with fail)
  refine (natOf_any 1 _ (by omega)).mono ?_
  rintro x w7 ⟨v7, rfl, hv7, hg7⟩
  have HV7 := Lib.hid hv7
  have HG7 := Lib.hid hg7
  clear hv7 hg7
  ((repeat (go_wp2_with fail; first | (refine cdY ?_ ?_; focus (simp [ov, *]; done)) | (refine cdN ?_ ?_; focus (simp [ov, *]; done)))); go_wp2_with fail)
  refine (addNat_any _ _ L 1 _ (HQ6.out.grown HG7.out) HV7.out (by rw [HLQ.out]; omega) (by have := natL_one_len; omega)).mono ?_
  rintro x w8 ⟨v8, rfl, hv8, hg8⟩
  have HV8 := Lib.hid hv8
  have HG8 := Lib.hid (grown_none_tr HG7.out hg8)
  clear hv8 hg8 HG7 HV7
  obtain ⟨bel, hbel⟩ : ∃ x, belS rd a b E n = x := ⟨_, rfl⟩
  obtain ⟨abo, habo⟩ : ∃ x, aboS rd a b E n = x := ⟨_, rfl⟩
  have HB1 := HBL.out
  have HA1 := HAB.out
  rw [hbel] at HB1
  rw [habo] at HA1
  have HBE := Lib.hid hbel
  have HAE := Lib.hid habo
  have HLR2 := Lib.hid hre
  replace HBL := Lib.hid HB1
  replace HAB := Lib.hid HA1
  clear HB1 HA1 hbel habo hqe hre hw1 hw2
  go_upto_region 7 with fail
  refine cut_F (fun s' w' => s' 0 = .int .i64 sz ∧ s' 1 = .int .u64 bits ∧ s' 5 = .pointer (some ⟨B, 0, none⟩) ∧ s' 7 = .int .i64 (n : Int) ∧ s' 8 = .int .i64 E ∧ s' 10 = .pointer (some ⟨D, 0, none⟩) ∧ s' 11 = .slice aq LQ kq ∧ s' 12 = .slice ar LR kr ∧ s' 13 = v8 ∧ s' 14 = .bool bel ∧ w8.grownBy w' none) ?_ ?_
  · intro R' K' HRR hK'
    by_cases hz : LQ = 0
    · have hb0 : bel = false := by rw [HBL.out, HNQ.out.1 hz]; rfl
      subst hb0
      have hzz := Lib.hid hz
      subst hz
      ((repeat (go_wp2_with fail; first | (refine cdY ?_ ?_; focus (simp [ov, *]; done)) | (refine cdN ?_ ?_; focus (simp [ov, *]; done)))); go_wp2_with fail)
      exact got HRR ⟨by simp [ov, *], by simp [ov, *], by simp [ov, *], by simp [ov, *], by simp [ov, *], by simp [ov, *], by simp [ov, *], by simp [ov, *], by simp [ov, *], by simp [ov, *], grown_refl w8 none⟩
    · have f1 : decide (0 < LQ) = true := by rw [decide_eq_true_eq]; omega
      have f2 : 0 < LQ := by omega
      have hb0 : bel = rd L (E - n + 1) := by rw [HBL.out, decide_eq_true (show 0 < L by have := HNQ.out; omega), Bool.true_and]
      have HB0' := Lib.hid hb0
      clear hz hb0
      ((repeat (go_wp2_with fail; first | (refine cdY ?_ ?_; focus (simp [ov, *]; done)) | (refine cdN ?_ ?_; focus (simp [ov, *]; done)))); go_wp2_with fail)
      refine (HRB.out _ L _ (HQ6.out.grown HG8.out) (by have := HQB.out; omega)).mono ?_
      rintro x w9 ⟨rfl, hg9⟩
      rw [← HB0'.out]
      have HG9 := Lib.hid hg9
      clear hg9
      ((repeat (go_wp2_with fail; first | (refine cdY ?_ ?_; focus (simp [ov, *]; done)) | (refine cdN ?_ ?_; focus (simp [ov, *]; done)))); go_wp2_with fail)
      exact got HRR ⟨by simp [ov, *], by simp [ov, *], by simp [ov, *], by simp [ov, *], by simp [ov, *], by simp [ov, *], by simp [ov, *], by simp [ov, *], by simp [ov, *], by simp [ov, *], HG9.out⟩
  clear s0 s1 s5 s7 s8 σ
  rintro σ w9 ⟨s0, s1, s5, s7, s8, s10, s11, s12, s13, s14, hg9⟩
  have HG9 := Lib.hid (grown_none_tr HG8.out hg9)
  have HV9 := Lib.hid (HV8.out.grown hg9)
  clear hg9 HV8 HG8
  go_upto_region 8 with fail
  refine cut_F (fun s' w' => s' 0 = .int .i64 sz ∧ s' 1 = .int .u64 bits ∧ s' 5 = .pointer (some ⟨B, 0, none⟩) ∧ s' 7 = .int .i64 (n : Int) ∧ s' 8 = .int .i64 E ∧ s' 10 = .pointer (some ⟨D, 0, none⟩) ∧ s' 11 = .slice aq LQ kq ∧ s' 12 = .slice ar LR kr ∧ s' 13 = v8 ∧   s' 14 = .bool bel ∧ s' 15 = .bool abo ∧ w9.grownBy w' none) ?_ ?_
  · intro R' K' HRR hK'
    by_cases hz : LR = 0
    · have hb0 : abo = false := by rw [HAB.out, HNR.out.1 hz]; rfl
      subst hb0
      subst hz
      ((repeat (go_wp2_with fail; first | (refine cdY ?_ ?_; focus (simp [ov, *]; done)) | (refine cdN ?_ ?_; focus (simp [ov, *]; done)))); go_wp2_with fail)
      exact got HRR ⟨by simp [ov, *], by simp [ov, *], by simp [ov, *], by simp [ov, *], by simp [ov, *], by simp [ov, *], by simp [ov, *], by simp [ov, *], by simp [ov, *], by simp [ov, *], by simp [ov, *], grown_refl w9 none⟩
    · have f1 : decide (0 < LR) = true := by rw [decide_eq_true_eq]; omega
      have f2 : 0 < LR := by omega
      have hb0 : abo = rd (L + 1) (E - n + 1) := by rw [HAB.out, decide_eq_true (show 0 < R by have := HNR.out; omega), Bool.true_and]
      have HB0' := Lib.hid hb0
      clear hz hb0
      ((repeat (go_wp2_with fail; first | (refine cdY ?_ ?_; focus (simp [ov, *]; done)) | (refine cdN ?_ ?_; focus (simp [ov, *]; done)))); go_wp2_with fail)
      refine (HRB.out _ (L + 1) _ HV9.out (by have := HQB.out; omega)).mono ?_
      rintro x wA ⟨rfl, hgA⟩
      rw [← HB0'.out]
      have HGA := Lib.hid hgA
      clear hgA
      ((repeat (go_wp2_with fail; first | (refine cdY ?_ ?_; focus (simp [ov, *]; done)) | (refine cdN ?_ ?_; focus (simp [ov, *]; done)))); go_wp2_with fail)
      exact got HRR ⟨by simp [ov, *], by simp [ov, *], by simp [ov, *], by simp [ov, *], by simp [ov, *], by simp [ov, *], by simp [ov, *], by simp [ov, *], by simp [ov, *], by simp [ov, *], by simp [ov, *], HGA.out⟩
  clear s0 s1 s5 s7 s8 s10 s11 s12 s13 s14 σ HRB
  rintro σ wA ⟨s0, s1, s5, s7, s8, s10, s11, s12, s13, s14, s15, hgA⟩
  have HGA := Lib.hid (grown_none_tr HG9.out hgA)
  have HVA := Lib.hid (HV9.out.grown hgA)
  have HQA := Lib.hid (HQ6.out.grown HGA.out)
  have HRA := Lib.hid (HR6.out.grown HGA.out)
  have HDA := Lib.hid (HD6.out.grown HGA.out)
  have HWA := Lib.hid (grown_none_tr HG6.out HGA.out)
  have HCD := Lib.hid (fun W (h : wA.grownBy W none) => (HID.out.row.grown (grown_none_tr HIG.out (grown_none_tr HGA.out h)) (by simp)).cell 2)
  clear hgA HV9 HG9
  obtain ⟨κ, hκ⟩ : ∃ κ, cmpN (R * 2 ^ 1) (b * 10 ^ (-((n : Int) - 1 - E)).toNat) = κ := ⟨_, rfl⟩
  have HSH := Lib.hid (fun W (h : wA.grownBy W none) => shiftNat_any _ R 1 W (HRA.out.grown h) (by have := HLR.out; have := HLR2.out; omega) (by omega))
  have HCM := Lib.hid (fun V W (h : wA.grownBy W none) (hv : NatV W V (R * 2 ^ 1)) => cmpNat_any V _ _ _ W hv (HDA.out.grown h) (by have := shift_len R 20000 1 (by have := HLR.out; have := HLR2.out; omega); omega) (by have := HL2.out; omega))
  simp only [hκ] at HCM
  have HKA := Lib.hid hκ
  clear hκ
  go_upto_region 10 with fail
  refine cut_F (fun s' w' => s' 0 = .int .i64 sz ∧ s' 1 = .int .u64 bits ∧ s' 5 = .pointer (some ⟨B, 0, none⟩) ∧ s' 7 = .int .i64 (n : Int) ∧ s' 8 = .int .i64 E ∧ s' 10 = .pointer (some ⟨D, 0, none⟩) ∧ s' 11 = .slice aq LQ kq ∧ s' 12 = .slice ar LR kr ∧ s' 13 = v8 ∧  s' 14 = .bool bel ∧ s' 15 = .bool abo ∧ s' 6 = .slice aq LQ kq ∧ s' 72 = .bool (abo && (!bel || decide (0 < κ))) ∧ wA.grownBy w' none) ?_ ?_
  · intro R' K' HRR hK'
    refine wp_region_noPanic ?_
    refine wp_region_held_drew (S := fun W => wA.grownBy W none) (by kernel_rfl) (grown_drewN wA 1 none) (fun hHeld => ?_)
    cases abo
    · (refine take_T 0 60 ?_; refine take_T 1 61 ?_)
      (refine skip_T 2 62 ?_; refine skip_T 3 63 ?_; refine skip_T 4 64 ?_; refine skip_T 5 65 ?_; refine skip_T 7 67 ?_; refine skip_T 8 68 ?_; refine skip_T 6 66 ?_; refine skip_T 9 69 ?_; refine skip_T 10 70 ?_; refine skip_T 11 71 ?_)
      (refine take_T 12 72 ?_)
      refine wpAnyH_done (by kernel_rfl) ?_ _
      refine NoPanic.normal ?_
      exact hK' _ _ _ (got HRR ⟨by simp [ov, *], by simp [ov, *], by simp [ov, *], by simp [ov, *], by simp [ov, *], by simp [ov, *], by simp [ov, *], by simp [ov, *], by simp [ov, *], by simp [ov, *], by simp [ov, *], by simp [ov, *], by simp [ov, *], hHeld⟩)
    · cases bel
      · (refine take_T 0 60 ?_; refine take_T 1 61 ?_; refine take_T 2 62 ?_; refine take_T 3 63 ?_; refine take_T 4 64 ?_)
        (refine skip_T 5 65 ?_; refine skip_T 7 67 ?_; refine skip_T 8 68 ?_; refine skip_T 6 66 ?_; refine skip_T 9 69 ?_; refine skip_T 10 70 ?_)
        (refine take_T 11 71 ?_; refine take_T 12 72 ?_)
        refine wpAnyH_done (by kernel_rfl) ?_ _
        refine NoPanic.normal ?_
        exact hK' _ _ _ (got HRR ⟨by simp [ov, *], by simp [ov, *], by simp [ov, *], by simp [ov, *], by simp [ov, *], by simp [ov, *], by simp [ov, *], by simp [ov, *], by simp [ov, *], by simp [ov, *], by simp [ov, *], by simp [ov, *], by simp [ov, *], hHeld⟩)
      · (refine take_T 0 60 ?_; refine take_T 1 61 ?_; refine take_T 2 62 ?_; refine take_T 3 63 ?_; refine take_T 4 64 ?_; refine take_T 5 65 ?_)
        (refine take_T 7 67 ?_)
        (refine take_F 8 68 (oi := ?_) (v := ?_) ?_ ?_ (by kernel_rfl) (by kernel_rfl) (by kernel_rfl) (fun _ _ _ _ _ h => h) ?_ (by assumption) ?_ ?_; rotate_left 2; (focus ((simp only [List.getElem?_toArray, List.getElem?_cons_succ, List.getElem?_cons_zero]); rfl)); (focus rfl); (focus (first | rfl | (simp only [Region.wanted, yielded, List.getElem?_toArray, List.getElem?_cons_succ, List.getElem?_cons_zero, Option.bind_some, Option.map_some, Fr_get?, over_cons, over_nil]; rfl) | go_simp)); (focus (intro W hS; have hc := HCD.out W hS; go_simp; try with_reducible rfl)))
        (refine only_F 6 (oi := ?_) ?_ (by kernel_rfl) ?_ ?_; rotate_left 1; (focus ((simp only [List.getElem?_toArray, List.getElem?_cons_succ, List.getElem?_cons_zero]); rfl)); (focus (first | rfl | go_simp)); intro K hK; go_simp; (refine (HSH.out _ hHeld).mono ?_; rintro x9 wB ⟨vB, rfl, hvB, hgB⟩); go_wp2_with fail; replace hHeld := grown_none_tr hHeld hgB; refine hK.out _ _ hHeld ?_; clear hK K)
        (refine only_F 9 (oi := ?_) ?_ (by kernel_rfl) ?_ ?_; rotate_left 1; (focus ((simp only [List.getElem?_toArray, List.getElem?_cons_succ, List.getElem?_cons_zero]); rfl)); (focus (first | rfl | go_simp)); intro K hK; go_simp; (refine (HCM.out _ _ hHeld hvB).mono ?_; rintro x10 wC ⟨rfl, hgC⟩); go_wp2_with fail; replace hHeld := grown_none_tr hHeld hgC; refine hK.out _ _ hHeld ?_; clear hK K)
        (refine take_T 10 70 ?_; refine take_T 11 71 ?_; refine take_T 12 72 ?_)
        refine wpAnyH_done (by kernel_rfl) ?_ _
        refine NoPanic.normal ?_
        exact hK' _ _ _ (got HRR ⟨by simp [ov, *], by simp [ov, *], by simp [ov, *], by simp [ov, *], by simp [ov, *], by simp [ov, *], by simp [ov, *], by simp [ov, *], by simp [ov, *], by simp [ov, *], by simp [ov, *], by simp [ov, *], by simp [ov, *], hHeld⟩)
  clear s0 s1 s5 s7 s8 s10 s11 s12 s13 s14 s15 σ
  rintro σ wB ⟨s0, s1, s5, s7, s8, s10, s11, s12, s13, s14, s15, s6, s72, hgB⟩
  have HGB := Lib.hid hgB
  have HWB := Lib.hid (grown_none_tr HWA.out hgB)
  clear hgB
  obtain ⟨res, hres⟩ : ∃ r, (abo && (!bel || decide (0 < κ))) = r := ⟨_, rfl⟩
  rw [hres] at s72
  have hpk : pickS rd a b E n = if res then L + 1 else L := by
    have h1 := HKA.out
    have h2 := HL.out
    have h3 := HR.out
    have h4 := HBE.out
    have h5 := HAE.out
    have e : decide (denS b ((n : Int) - 1 - E) < 2 * R) = decide (0 < κ) := by
      rw [← h1]
      unfold denS cmpN
      rw [Nat.pow_one, decide_eq_decide]
      generalize b * 10 ^ (-((n : Int) - 1 - E)).toNat = den
      split
      · omega
      · split <;> omega
    unfold pickS
    rw [h2, h3, h4, h5, e, hres]
  have htie : tieS rd a b E n = (bel && abo && decide (κ = 0)) := by
    have h1 := HKA.out
    have h3 := HR.out
    have h4 := HBE.out
    have h5 := HAE.out
    have e : decide (2 * R = denS b ((n : Int) - 1 - E)) = decide (κ = 0) := by
      rw [← h1]
      unfold denS cmpN
      rw [Nat.pow_one, decide_eq_decide]
      generalize b * 10 ^ (-((n : Int) - 1 - E)).toNat = den
      split
      · omega
      · split <;> omega
    unfold tieS
    rw [h3, h4, h5, e]
  have hfin : (bel || abo) = true ∨ n = 17 → nearS rd a b E 16 1 = (pickS rd a b E n, n, tieS rd a b E n) := by
    intro h
    rw [← HNS.out]
    have h4 := HBE.out
    have h5 := HAE.out
    by_cases h17 : n = 17
    · rw [show 17 - n = 0 by omega]; rfl
    · obtain ⟨k, hk⟩ : ∃ k, 17 - n = k + 1 := ⟨16 - n, by omega⟩
      rw [hk]
      show (if belS rd a b E n || aboS rd a b E n then _ else _) = _
      rw [h4, h5, if_pos (by rcases h with h | h; exact h; exact absurd h h17)]
  have hnext : (bel || abo) = false → n ≠ 17 → nearS rd a b E (17 - (n + 1)) (n + 1) = nearS rd a b E 16 1 := by
    intro h h17
    rw [← HNS.out]
    have h4 := HBE.out
    have h5 := HAE.out
    obtain ⟨k, hk⟩ : ∃ k, 17 - n = k + 1 := ⟨16 - n, by omega⟩
    rw [hk, show 17 - (n + 1) = k by omega]
    show _ = (if belS rd a b E n || aboS rd a b E n then _ else _)
    rw [h4, h5, if_neg (by rw [h]; simp)]
  rw [hpk, htie] at hfin
  have FIN := Lib.hid hfin
  have NXT := Lib.hid hnext
  clear hres hpk htie hfin hnext
  obtain ⟨V6, hV6⟩ : ∃ V, (if res then v8 else .slice aq LQ kq) = V := ⟨_, rfl⟩
  have HV6 : Hid (NatV wB V6 (if res then L + 1 else L)) := by
    subst hV6
    cases res
    · exact HQA.out.grown HGB.out
    · exact HVA.out.grown HGB.out
  go_wp2_with fail
  refine cut_F (fun s' w' => s' 0 = .int .i64 sz ∧ s' 1 = .int .u64 bits ∧ s' 5 = .pointer (some ⟨B, 0, none⟩) ∧ s' 7 = .int .i64 (n : Int) ∧ s' 8 = .int .i64 E ∧ s' 10 = .pointer (some ⟨D, 0, none⟩) ∧ s' 12 = .slice ar LR kr ∧ s' 14 = .bool bel ∧ s' 15 = .bool abo ∧ s' 6 = V6 ∧ wB = w') ?_ ?_
  · intro R' K' HRR hK'
    cases res
    · subst hV6
      ((repeat (go_wp2_with fail; first | (refine cdY ?_ ?_; focus (simp [ov, *]; done)) | (refine cdN ?_ ?_; focus (simp [ov, *]; done)))); go_wp2_with fail)
      exact got HRR ⟨by simp [ov, *], by simp [ov, *], by simp [ov, *], by simp [ov, *], by simp [ov, *], by simp [ov, *], by simp [ov, *], by simp [ov, *], by simp [ov, *], by simp [ov, *], rfl⟩
    · subst hV6
      ((repeat (go_wp2_with fail; first | (refine cdY ?_ ?_; focus (simp [ov, *]; done)) | (refine cdN ?_ ?_; focus (simp [ov, *]; done)))); go_wp2_with fail)
      exact got HRR ⟨by simp [ov, *], by simp [ov, *], by simp [ov, *], by simp [ov, *], by simp [ov, *], by simp [ov, *], by simp [ov, *], by simp [ov, *], by simp [ov, *], by simp [ov, *], rfl⟩
  clear s0 s1 s5 s7 s8 s10 s11 s12 s13 s14 s15 s6 s72 σ hV6
  rintro σ wB' ⟨s0, s1, s5, s7, s8, s10, s12, s14, s15, s6, rfl⟩
  cases bel
  · cases abo
    · by_cases h17 : n = 17
      · have FIN2 := FIN
        subst h17
        ((repeat (go_wp2_with fail; first | (refine cdY ?_ ?_; focus (simp [ov, *]; done)) | (refine cdN ?_ ?_; focus (simp [ov, *]; done)))); go_wp2_with fail)
        refine wp_region_noPanic ?_
        refine wp_region_held_drew (S := fun W => wB.grownBy W none) (by kernel_rfl) (grown_drewN wB 1 none) (fun hHeld => ?_)
        (refine take_T 0 82 ?_; refine take_T 1 83 ?_; refine take_T 2 84 ?_; refine take_T 3 85 ?_; refine take_T 4 86 ?_)
        (refine skip_T 5 87 ?_)
        (refine take_T 6 88 ?_; refine take_T 7 89 ?_)
        (refine skip_T 8 90 ?_; refine skip_T 10 92 ?_; refine skip_T 11 93 ?_; refine skip_T 9 91 ?_; refine skip_T 12 94 ?_; refine skip_T 13 95 ?_)
        (refine take_T 14 96 ?_; refine take_T 15 6 ?_; refine take_T 16 7 ?_; refine take_T 17 8 ?_; refine take_T 18 9 ?_)
        refine wpAnyH_done (by kernel_rfl) ?_ _
        refine NoPanic.normal ?_
        ((repeat (go_wp2_with fail; first | (refine cdY ?_ ?_; focus (simp [ov, *]; done)) | (refine cdN ?_ ?_; focus (simp [ov, *]; done)))); go_wp2_with fail)
        exact ret_F4 V6 (.int .i64 (17 : Int)) (.int .i64 E) (.bool false) rfl (by decide) (by decide) (by decide) (by decide) (by simp [ov, *]) (by simp [ov, *]) (by simp [ov, *]) (by simp [ov, *]) ⟨V6, _, 17, _, rfl, HV6.out.grown hHeld, FIN.out (Or.inr (by trivial)), grown_none_tr HIB.out.grown (grown_none_tr HWB.out hHeld)⟩
      · have f1 : ((n : Int) == 17) = false := by rw [beq_eq_false_iff_ne]; omega
        have f2 : (n == 17) = false := by rw [beq_eq_false_iff_ne]; omega
        have hw3 : IntKind.i64.wrap ((n : Int) + 1) = (n : Int) + 1 := wrapIn _ (by omega) (by omega)
        have NX := Lib.hid (NXT.out rfl h17)
        clear NXT
        ((repeat (go_wp2_with fail; first | (refine cdY ?_ ?_; focus (simp [ov, *]; done)) | (refine cdN ?_ ?_; focus (simp [ov, *]; done)))); go_wp2_with fail)
        exact gotk HRK (17 - (n + 1)) (by have := HKK.out; omega) ⟨n + 1, by omega, by omega, rfl, by simp [ov, *], by simp [ov, *], by simp [ov, *], by simp [ov, *], by simp [ov, *], HWB.out, NX.out⟩
    · skip
      ((repeat (go_wp2_with fail; first | (refine cdY ?_ ?_; focus (simp [ov, *]; done)) | (refine cdN ?_ ?_; focus (simp [ov, *]; done)))); go_wp2_with fail)
      refine wp_region_noPanic ?_
      refine wp_region_held_drew (S := fun W => wB.grownBy W none) (by kernel_rfl) (grown_drewN wB 1 none) (fun hHeld => ?_)
      (refine take_T 0 82 ?_; refine take_T 1 83 ?_; refine take_T 2 84 ?_; refine take_T 3 85 ?_; refine take_T 4 86 ?_)
      (refine skip_T 5 87 ?_)
      (refine take_T 6 88 ?_; refine take_T 7 89 ?_)
      (refine skip_T 8 90 ?_; refine skip_T 10 92 ?_; refine skip_T 11 93 ?_; refine skip_T 9 91 ?_; refine skip_T 12 94 ?_; refine skip_T 13 95 ?_)
      (refine take_T 14 96 ?_; refine take_T 15 6 ?_; refine take_T 16 7 ?_; refine take_T 17 8 ?_; refine take_T 18 9 ?_)
      refine wpAnyH_done (by kernel_rfl) ?_ _
      refine NoPanic.normal ?_
      ((repeat (go_wp2_with fail; first | (refine cdY ?_ ?_; focus (simp [ov, *]; done)) | (refine cdN ?_ ?_; focus (simp [ov, *]; done)))); go_wp2_with fail)
      exact ret_F4 V6 (.int .i64 (n : Int)) (.int .i64 E) (.bool false) rfl (by decide) (by decide) (by decide) (by decide) (by simp [ov, *]) (by simp [ov, *]) (by simp [ov, *]) (by simp [ov, *]) ⟨V6, _, n, _, rfl, HV6.out.grown hHeld, FIN.out (Or.inl rfl), grown_none_tr HIB.out.grown (grown_none_tr HWB.out hHeld)⟩
  · cases abo
    · skip
      ((repeat (go_wp2_with fail; first | (refine cdY ?_ ?_; focus (simp [ov, *]; done)) | (refine cdN ?_ ?_; focus (simp [ov, *]; done)))); go_wp2_with fail)
      refine wp_region_noPanic ?_
      refine wp_region_held_drew (S := fun W => wB.grownBy W none) (by kernel_rfl) (grown_drewN wB 1 none) (fun hHeld => ?_)
      (refine take_T 0 82 ?_; refine take_T 1 83 ?_; refine take_T 2 84 ?_; refine take_T 3 85 ?_; refine take_T 4 86 ?_; refine take_T 5 87 ?_; refine take_T 6 88 ?_; refine take_T 7 89 ?_)
      (refine skip_T 8 90 ?_; refine skip_T 10 92 ?_; refine skip_T 11 93 ?_; refine skip_T 9 91 ?_; refine skip_T 12 94 ?_; refine skip_T 13 95 ?_)
      (refine take_T 14 96 ?_; refine take_T 15 6 ?_; refine take_T 16 7 ?_; refine take_T 17 8 ?_; refine take_T 18 9 ?_)
      refine wpAnyH_done (by kernel_rfl) ?_ _
      refine NoPanic.normal ?_
      ((repeat (go_wp2_with fail; first | (refine cdY ?_ ?_; focus (simp [ov, *]; done)) | (refine cdN ?_ ?_; focus (simp [ov, *]; done)))); go_wp2_with fail)
      exact ret_F4 V6 (.int .i64 (n : Int)) (.int .i64 E) (.bool false) rfl (by decide) (by decide) (by decide) (by decide) (by simp [ov, *]) (by simp [ov, *]) (by simp [ov, *]) (by simp [ov, *]) ⟨V6, _, n, _, rfl, HV6.out.grown hHeld, FIN.out (Or.inl rfl), grown_none_tr HIB.out.grown (grown_none_tr HWB.out hHeld)⟩
    · skip
      ((repeat (go_wp2_with fail; first | (refine cdY ?_ ?_; focus (simp [ov, *]; done)) | (refine cdN ?_ ?_; focus (simp [ov, *]; done)))); go_wp2_with fail)
      refine wp_region_noPanic ?_
      refine wp_region_held_drew (S := fun W => wB.grownBy W none) (by kernel_rfl) (grown_drewN wB 1 none) (fun hHeld => ?_)
      (refine take_T 0 82 ?_; refine take_T 1 83 ?_; refine take_T 2 84 ?_; refine take_T 3 85 ?_; refine take_T 4 86 ?_; refine take_T 5 87 ?_; refine take_T 6 88 ?_; refine take_T 7 89 ?_; refine take_T 8 90 ?_)
      (refine take_T 10 92 ?_)
      (refine take_F 11 93 (oi := ?_) (v := ?_) ?_ ?_ (by kernel_rfl) (by kernel_rfl) (by kernel_rfl) (fun _ _ _ _ _ h => h) ?_ (by assumption) ?_ ?_; rotate_left 2; (focus ((simp only [List.getElem?_toArray, List.getElem?_cons_succ, List.getElem?_cons_zero]); rfl)); (focus rfl); (focus (first | rfl | (simp only [Region.wanted, yielded, List.getElem?_toArray, List.getElem?_cons_succ, List.getElem?_cons_zero, Option.bind_some, Option.map_some, Fr_get?, over_cons, over_nil]; rfl) | go_simp)); (focus (intro W hS; have hc := HCD.out W (grown_none_tr HGB.out hS); go_simp; try with_reducible rfl)))
      (refine only_F 9 (oi := ?_) ?_ (by kernel_rfl) ?_ ?_; rotate_left 1; (focus ((simp only [List.getElem?_toArray, List.getElem?_cons_succ, List.getElem?_cons_zero]); rfl)); (focus (first | rfl | go_simp)); intro K hK; go_simp; (refine (HSH.out _ (grown_none_tr HGB.out hHeld)).mono ?_; rintro x9 wC ⟨vC, rfl, hvC, hgC⟩); go_wp2_with fail; replace hHeld := grown_none_tr hHeld hgC; refine hK.out _ _ hHeld ?_; clear hK K)
      (refine only_F 12 (oi := ?_) ?_ (by kernel_rfl) ?_ ?_; rotate_left 1; (focus ((simp only [List.getElem?_toArray, List.getElem?_cons_succ, List.getElem?_cons_zero]); rfl)); (focus (first | rfl | go_simp)); intro K hK; go_simp; (refine (HCM.out _ _ (grown_none_tr HGB.out hHeld) hvC).mono ?_; rintro x10 wE ⟨rfl, hgE⟩); go_wp2_with fail; replace hHeld := grown_none_tr hHeld hgE; refine hK.out _ _ hHeld ?_; clear hK K)
      (refine take_T 13 95 ?_; refine take_T 14 96 ?_; refine take_T 15 6 ?_; refine take_T 16 7 ?_; refine take_T 17 8 ?_; refine take_T 18 9 ?_)
      refine wpAnyH_done (by kernel_rfl) ?_ _
      refine NoPanic.normal ?_
      ((repeat (go_wp2_with fail; first | (refine cdY ?_ ?_; focus (simp [ov, *]; done)) | (refine cdN ?_ ?_; focus (simp [ov, *]; done)))); go_wp2_with fail)
      exact ret_F4 V6 (.int .i64 (n : Int)) (.int .i64 E) (.bool (κ == 0)) rfl (by decide) (by decide) (by decide) (by decide) (by simp [ov, *]) (by simp [ov, *]) (by simp [ov, *]) (by simp [ov, *]) ⟨V6, _, n, _, rfl, HV6.out.grown hHeld, FIN.out (Or.inl rfl), grown_none_tr HIB.out.grown (grown_none_tr HWB.out hHeld)⟩
end Go.Proofs.YticlnihjhcepkaaGreatDoor
