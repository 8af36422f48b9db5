/-
  Walk: the law FnCapitals.
-/
import Derived.Test.YtffooimnioigdaaDoorNg32
import Derived.Test.YtffooimnioigdaaDoorUp
import Derived.Test.YtffooimnioigdaaDoorRg
namespace Go.Proofs.YtffooimnioigdaaDoor
open Go.ChangeShapes Go.WideShapes Go.ChangeAt Go.RowKit
set_option linter.unusedSimpArgs false
set_option linter.unusedVariables false

/-- The tables lie as they did, and nothing old has turned. -/
structure SS (T : Nat) (w w' : World) : Prop where
  env : Env T w'
  gr : w.grownBy w' none
theorem SS.next {T : Nat} {w w8 w9 : World} (hg : w8.grownBy w9 none) (h : SS T w w8) : SS T w w9 := ⟨h.env.grown hg (by simp), grown_none_trans h.gr hg⟩
theorem SS.drew {T : Nat} {w w8 : World} (h : SS T w w8) : SS T w w8.drew := ⟨h.env.drewN 1, grown_none_trans h.gr (grown_drewN w8 1 none)⟩

theorem fInt_ne (ds : List UInt8) (dp : Int) : fInt ds dp ≠ [] := by
  unfold fInt
  split
  · intro h
    have := congrArg List.length h
    simp only [List.length_append, List.length_take, List.length_replicate, List.length_nil] at this
    omega
  · simp
theorem efgL_ne (neg : Bool) (ds : List UInt8) (dp pr f : Int) : efgL neg ds dp pr f ≠ [] := by
  unfold efgL
  split
  · unfold efgE; simp
  · split
    · unfold efgF
      have := fInt_ne ds dp
      simp [this]
    · simp
theorem ftoa64L_ne (b : Nat) (f prec : Int) : ftoa64L b f prec ≠ [] := by
  unfold ftoa64L ftoaL
  split
  · (repeat' split) <;> simp
  · split
    · unfold fmtBL; simp
    · split
      · unfold xL; simp
      · unfold efgP
        exact efgL_ne _ _ _ _ _

set_option maxRecDepth 100000 in
set_option maxHeartbeats 8000000 in
theorem capitals_any (T b n : Nat) (prec : Int) (w : World) (he : Env T w) (hb : b < 18446744073709551616) (hn : n < 4294967296) (hp1 : -9223372036854775808 ≤ prec) (hp2 : prec ≤ 9223372036854775807) :
    Calls Tryd.prog 5 #[.int .u64 (b : Int), .int .u32 (n : Int), .int .i64 prec] w fun e w' => e = .returned (.bool true) ∧ w.grownBy w' none := by
  have hK1 := fun W => kind64_any b W hb
  have hK2 := fun W => kind32_any n W hn
  obtain ⟨k1, hk1⟩ : ∃ k, kindB 9218868437227405312 9223372036854775808 b = k := ⟨_, rfl⟩
  obtain ⟨k2, hk2⟩ : ∃ k, kindB 2139095040 2147483648 n = k := ⟨_, rfl⟩
  rw [hk1] at hK1
  rw [hk2] at hK2
  have HK1 := Lib.hid hK1
  have HK2 := Lib.hid hK2
  have Hk1 := Lib.hid hk1
  have Hk2 := Lib.hid hk2
  have HE := Lib.hid he
  clear hK1 hK2 hk1 hk2 he
  refine calls_F Tryd.func5 rfl (by rw [Tryd.ntmps5]; simp) ?_
  intro σ hσ
  rw [Tryd.ntmps5]
  have s0 : σ 0 = .int .u64 (b : Int) := hσ 0 (by simp)
  have s1 : σ 1 = .int .u32 (n : Int) := hσ 1 (by simp)
  have s2 : σ 2 = .int .i64 prec := hσ 2 (by simp)
  clear hσ
  by_cases hz1 : k1 = 0
  case neg =>
    have hz1' : (k1 != 0) = true := by rw [bne_iff_ne]; exact hz1
    ((repeat (go_wp2_with fail; first | (refine cond_yes ?hc (by decide) ?_; (case hc => (simp [over_cons, over_nil, *]; done))) | (refine cond_no ?hc (by decide) ?_; (case hc => (simp [over_cons, over_nil, *]; done))))); go_wp2_with fail)
    refine (HK1.out _).mono ?_
    rintro e w7 ⟨rfl, rfl⟩
    ((repeat (go_wp2_with fail; first | (refine cond_yes ?hc (by decide) ?_; (case hc => (simp [over_cons, over_nil, *]; done))) | (refine cond_no ?hc (by decide) ?_; (case hc => (simp [over_cons, over_nil, *]; done))))); go_wp2_with fail)
    all_goals (try ((repeat (go_wp2_with fail; first | (refine cond_yes ?hc (by decide) ?_; (case hc => (simp [over_cons, over_nil, *]; done))) | (refine cond_no ?hc (by decide) ?_; (case hc => (simp [over_cons, over_nil, *]; done))))); go_wp2_with fail))
    all_goals exact ret_F (.bool true) rfl (by decide) (by simp [over_cons, over_nil, *]) ⟨rfl, grown_refl w none⟩
  have hz1' : (k1 != 0) = false := by rw [hz1]; rfl
  by_cases hz2 : k2 = 0
  case neg =>
    have hz2' : (k2 != 0) = true := by rw [bne_iff_ne]; exact hz2
    ((repeat (go_wp2_with fail; first | (refine cond_yes ?hc (by decide) ?_; (case hc => (simp [over_cons, over_nil, *]; done))) | (refine cond_no ?hc (by decide) ?_; (case hc => (simp [over_cons, over_nil, *]; done))))); go_wp2_with fail)
    refine (HK1.out _).mono ?_
    rintro e w7 ⟨rfl, rfl⟩
    ((repeat (go_wp2_with fail; first | (refine cond_yes ?hc (by decide) ?_; (case hc => (simp [over_cons, over_nil, *]; done))) | (refine cond_no ?hc (by decide) ?_; (case hc => (simp [over_cons, over_nil, *]; done))))); go_wp2_with fail)
    refine (HK2.out _).mono ?_
    rintro e w7 ⟨rfl, rfl⟩
    ((repeat (go_wp2_with fail; first | (refine cond_yes ?hc (by decide) ?_; (case hc => (simp [over_cons, over_nil, *]; done))) | (refine cond_no ?hc (by decide) ?_; (case hc => (simp [over_cons, over_nil, *]; done))))); go_wp2_with fail)
    all_goals (try ((repeat (go_wp2_with fail; first | (refine cond_yes ?hc (by decide) ?_; (case hc => (simp [over_cons, over_nil, *]; done))) | (refine cond_no ?hc (by decide) ?_; (case hc => (simp [over_cons, over_nil, *]; done))))); go_wp2_with fail))
    all_goals exact ret_F (.bool true) rfl (by decide) (by simp [over_cons, over_nil, *]) ⟨rfl, grown_refl w none⟩
  have hz2' : (k2 != 0) = false := by rw [hz2]; rfl
  by_cases hpl : prec < -1
  case pos =>
    ((repeat (go_wp2_with fail; first | (refine cond_yes ?hc (by decide) ?_; (case hc => (simp [over_cons, over_nil, *]; done))) | (refine cond_no ?hc (by decide) ?_; (case hc => (simp [over_cons, over_nil, *]; done))))); go_wp2_with fail)
    refine (HK1.out _).mono ?_
    rintro e w7 ⟨rfl, rfl⟩
    ((repeat (go_wp2_with fail; first | (refine cond_yes ?hc (by decide) ?_; (case hc => (simp [over_cons, over_nil, *]; done))) | (refine cond_no ?hc (by decide) ?_; (case hc => (simp [over_cons, over_nil, *]; done))))); go_wp2_with fail)
    refine (HK2.out _).mono ?_
    rintro e w7 ⟨rfl, rfl⟩
    ((repeat (go_wp2_with fail; first | (refine cond_yes ?hc (by decide) ?_; (case hc => (simp [over_cons, over_nil, *]; done))) | (refine cond_no ?hc (by decide) ?_; (case hc => (simp [over_cons, over_nil, *]; done))))); go_wp2_with fail)
    all_goals (try ((repeat (go_wp2_with fail; first | (refine cond_yes ?hc (by decide) ?_; (case hc => (simp [over_cons, over_nil, *]; done))) | (refine cond_no ?hc (by decide) ?_; (case hc => (simp [over_cons, over_nil, *]; done))))); go_wp2_with fail))
    all_goals exact ret_F (.bool true) rfl (by decide) (by simp [over_cons, over_nil, *]) ⟨rfl, grown_refl w none⟩
  have hpl' : decide (prec < -1) = false := by simpa using hpl
  by_cases hpu : 1100 < prec
  case pos =>
    ((repeat (go_wp2_with fail; first | (refine cond_yes ?hc (by decide) ?_; (case hc => (simp [over_cons, over_nil, *]; done))) | (refine cond_no ?hc (by decide) ?_; (case hc => (simp [over_cons, over_nil, *]; done))))); go_wp2_with fail)
    refine (HK1.out _).mono ?_
    rintro e w7 ⟨rfl, rfl⟩
    ((repeat (go_wp2_with fail; first | (refine cond_yes ?hc (by decide) ?_; (case hc => (simp [over_cons, over_nil, *]; done))) | (refine cond_no ?hc (by decide) ?_; (case hc => (simp [over_cons, over_nil, *]; done))))); go_wp2_with fail)
    refine (HK2.out _).mono ?_
    rintro e w7 ⟨rfl, rfl⟩
    ((repeat (go_wp2_with fail; first | (refine cond_yes ?hc (by decide) ?_; (case hc => (simp [over_cons, over_nil, *]; done))) | (refine cond_no ?hc (by decide) ?_; (case hc => (simp [over_cons, over_nil, *]; done))))); go_wp2_with fail)
    all_goals (try ((repeat (go_wp2_with fail; first | (refine cond_yes ?hc (by decide) ?_; (case hc => (simp [over_cons, over_nil, *]; done))) | (refine cond_no ?hc (by decide) ?_; (case hc => (simp [over_cons, over_nil, *]; done))))); go_wp2_with fail))
    all_goals exact ret_F (.bool true) rfl (by decide) (by simp [over_cons, over_nil, *]) ⟨rfl, grown_refl w none⟩
  have hpu' : decide (1100 < prec) = false := by simpa using hpu
  have hfin1 := kindB_fin (Hk1.out.trans hz1)
  have hfin2 := kindB_fin (Hk2.out.trans hz2)
  obtain ⟨r, _, hw1, hr1⟩ := Wd.widen_back n hn hfin2
  have hF1 := fun (f : Int) (W : World) (hW : Env T W) (h1 : 0 ≤ f) (h2 : f ≤ 255) => Format64_any T b prec f W hW hb h1 h2 hp1 (by omega)
  have hF2 := fun (f : Int) (W : World) (hW : Env T W) (h1 : 0 ≤ f) (h2 : f ≤ 255) => Format32_any T n r prec f W hW hn hw1 hr1 h1 h2 hp1 (by omega)
  have hl1 := fun f => ftoa64L_len b f prec hb (by omega)
  have hl2 := fun f => ftoa32L_len n f prec hn (by omega)
  have HF1 := Lib.hid hF1
  have HF2 := Lib.hid hF2
  have HL1 := Lib.hid hl1
  have HL2 := Lib.hid hl2
  have HFIN1 := Lib.hid hfin1
  have HFIN2 := Lib.hid hfin2
  clear hF1 hF2 hl1 hl2 hfin1 hfin2 hw1 hr1
  ((repeat (go_wp2_with fail; first | (refine cond_yes ?hc (by decide) ?_; (case hc => (simp [over_cons, over_nil, *]; done))) | (refine cond_no ?hc (by decide) ?_; (case hc => (simp [over_cons, over_nil, *]; done))))); go_wp2_with fail)
  refine (HK1.out _).mono ?_
  rintro e w7 ⟨rfl, rfl⟩
  ((repeat (go_wp2_with fail; first | (refine cond_yes ?hc (by decide) ?_; (case hc => (simp [over_cons, over_nil, *]; done))) | (refine cond_no ?hc (by decide) ?_; (case hc => (simp [over_cons, over_nil, *]; done))))); go_wp2_with fail)
  refine (HK2.out _).mono ?_
  rintro e w7 ⟨rfl, rfl⟩
  ((repeat (go_wp2_with fail; first | (refine cond_yes ?hc (by decide) ?_; (case hc => (simp [over_cons, over_nil, *]; done))) | (refine cond_no ?hc (by decide) ?_; (case hc => (simp [over_cons, over_nil, *]; done))))); go_wp2_with fail)
  have hss0 : SS T w w := ⟨HE.out, grown_refl w none⟩
  have hkb1 : flE 11 52 b ≠ 2 ^ 11 - 1 := by
    have h1 := HFIN1.out
    unfold flE
    omega
  have hkb2 : flE 8 23 n ≠ 2 ^ 8 - 1 := by
    have h1 := HFIN2.out
    unfold flE
    omega
  have HKB1 := Lib.hid hkb1
  have HKB2 := Lib.hid hkb2
  clear hkb1 hkb2
  refine loop_F (fun kk s' w' => ∃ i : Nat, i ≤ 3 ∧ kk = 3 - i ∧ s' 0 = .int .u64 (b : Int) ∧ s' 1 = .int .u32 (n : Int) ∧ s' 2 = .int .i64 prec ∧ s' 7 = .string ⟨#[101, 103, 120]⟩ ∧ s' 8 = .string ⟨#[69, 71, 88]⟩ ∧ s' 9 = .int .i64 (i : Int) ∧ SS T w w') 3
    ⟨0, by omega, rfl, by simp [over_cons, over_nil, *], by simp [over_cons, over_nil, *], by simp [over_cons, over_nil, *], by simp [over_cons, over_nil, *], by simp [over_cons, over_nil, *], by simp [over_cons, over_nil, *], hss0⟩ ?_
  clear s0 s1 s2 σ hss0
  rintro kk σ wk ⟨i, hi, hkk, s0, s1, s2, s7, s8, s9, HS⟩ RK KK HRK hKK
  have HKK := Lib.hid hkk
  clear hkk
  by_cases hi3 : i = 3
  · subst hi3
    ((repeat (go_wp2_with fail; first | (refine cond_yes ?hc (by decide) ?_; (case hc => (simp [over_cons, over_nil, *]; done))) | (refine cond_no ?hc (by decide) ?_; (case hc => (simp [over_cons, over_nil, *]; done))))); go_wp2_with fail)
    exact ret_F (.bool true) rfl (by decide) (by simp [over_cons, over_nil, *]) ⟨rfl, HS.gr⟩
  obtain ⟨F, f, hFf⟩ : ∃ F f : Int, (i = 0 ∧ f = 101 ∧ F = 69) ∨ (i = 1 ∧ f = 103 ∧ F = 71) ∨ (i = 2 ∧ f = 120 ∧ F = 88) := by
    rcases (show i = 0 ∨ i = 1 ∨ i = 2 by omega) with h | h | h
    · exact ⟨69, 101, Or.inl ⟨h, rfl, rfl⟩⟩
    · exact ⟨71, 103, Or.inr (Or.inl ⟨h, rfl, rfl⟩)⟩
    · exact ⟨88, 120, Or.inr (Or.inr ⟨h, rfl, rfl⟩)⟩
  have hi3' : (i : Int) < 3 := by omega
  have hu1 := ftoa64L_up b f F prec hb HKB1.out (by omega) (by omega)
  have hu2 := ftoa32L_up n f F prec hn HKB2.out (by omega) (by omega)
  have hF0 : 0 ≤ F := by omega
  have hF9 : F ≤ 255 := by omega
  have hf0 : 0 ≤ f := by omega
  have hf9 : f ≤ 255 := by omega
  have hI1 : ∀ (e : Operand → Value) (o : Oper) (t1 t2 : Nat) (W : World), o.op = .index 9 (.tmp t1) (.tmp t2) → e (.tmp t1) = .string ⟨#[69, 71, 88]⟩ → e (.tmp t2) = .int .i64 (i : Int) → (execOp e o).run Tryd.prog W = .ok (.value (.int .u8 F)) W := by
    rintro e ⟨od, oo, ot, op, oa, og⟩ t1 t2 W ho h1 h2
    dsimp only at ho
    subst ho
    rcases hFf with ⟨h, h', h''⟩ | ⟨h, h', h''⟩ | ⟨h, h', h''⟩ <;> (subst h h' h''; go_simp; try rfl)
  have hI2 : ∀ (e : Operand → Value) (o : Oper) (t1 t2 : Nat) (W : World), o.op = .index 9 (.tmp t1) (.tmp t2) → e (.tmp t1) = .string ⟨#[101, 103, 120]⟩ → e (.tmp t2) = .int .i64 (i : Int) → (execOp e o).run Tryd.prog W = .ok (.value (.int .u8 f)) W := by
    rintro e ⟨od, oo, ot, op, oa, og⟩ t1 t2 W ho h1 h2
    dsimp only at ho
    subst ho
    rcases hFf with ⟨h, h', h''⟩ | ⟨h, h', h''⟩ | ⟨h, h', h''⟩ <;> (subst h h' h''; go_simp; try rfl)
  have hne := ftoa64L_ne b F prec
  obtain ⟨L1, hL1⟩ : ∃ l, ftoa64L b F prec = l := ⟨_, rfl⟩
  obtain ⟨L2, hL2⟩ : ∃ l, ftoa64L b f prec = l := ⟨_, rfl⟩
  obtain ⟨M1, hM1⟩ : ∃ l, ftoa32L n F prec = l := ⟨_, rfl⟩
  obtain ⟨M2, hM2⟩ : ∃ l, ftoa32L n f prec = l := ⟨_, rfl⟩
  have hFA := fun W hW => HF1.out F W hW hF0 hF9
  have hFB := fun W hW => HF1.out f W hW hf0 hf9
  have hFC := fun W hW => HF2.out F W hW hF0 hF9
  have hFD := fun W hW => HF2.out f W hW hf0 hf9
  have hU1 := fun W => upper_any (ftoa64L b f prec) W (HL1.out f)
  have hU2 := fun W => upper_any (ftoa32L n f prec) W (HL2.out f)
  rw [hL1] at hFA hne hu1
  rw [hL2] at hFB hU1 hu1
  rw [hM1] at hFC hu2
  rw [hM2] at hFD hU2 hu2
  rw [← hu1] at hU1
  rw [← hu2] at hU2
  have HFA := Lib.hid hFA
  have HFB := Lib.hid hFB
  have HFC := Lib.hid hFC
  have HFD := Lib.hid hFD
  have HU1 := Lib.hid hU1
  have HU2 := Lib.hid hU2
  have HI1 := Lib.hid hI1
  have HI2 := Lib.hid hI2
  have hem : (L1 == []) = false := by cases L1 with
    | nil => exact absurd rfl hne
    | cons => rfl
  clear hFA hFB hFC hFD hU1 hU2 hu1 hu2 hI1 hI2 hL1 hL2 hM1 hM2 HF1 HF2 HL1 HL2 HFIN1 HFIN2 HKB1 HKB2 HK1 HK2 Hk1 Hk2 hz1 hz2 hz1' hz2' hpl hpl' hpu hpu' hne hFf hF0 hF9 hf0 hf9
  ((repeat (go_wp2_with fail; first | (refine cond_yes ?hc (by decide) ?_; (case hc => (simp [over_cons, over_nil, *]; done))) | (refine cond_no ?hc (by decide) ?_; (case hc => (simp [over_cons, over_nil, *]; done))))); go_wp2_with fail)
  refine wp_region_noPanic ?_
  refine wp_region_held_drew (S := fun w' => SS T w w') (by kernel_rfl) (SS.drew HS) (fun hHeld => ?_)
  ((refine take_F 0 31 (oi := ?_) (v := ?_) ?_ ?_ (by kernel_rfl) (by kernel_rfl) (by kernel_rfl) (fun _ _ _ _ _ h => h) ?_ (by assumption) ?_ ?_; rotate_left 2; (focus ((simp only [List.getElem?_toArray, List.getElem?_cons_succ, List.getElem?_cons_zero]); rfl)); (focus rfl); (focus (first | rfl | (simp only [Region.wanted, yielded, List.getElem?_toArray, List.getElem?_cons_succ, List.getElem?_cons_zero, Option.bind_some, Option.map_some, Fr_get?, over_cons, over_nil]; rfl) | go_simp)); (focus ((intro w hSw; go_simp; try with_reducible rfl)))); (refine take_F 1 32 (oi := ?_) (v := ?_) ?_ ?_ (by kernel_rfl) (by kernel_rfl) (by kernel_rfl) (fun _ _ _ _ _ h => h) ?_ (by assumption) ?_ ?_; rotate_left 2; (focus ((simp only [List.getElem?_toArray, List.getElem?_cons_succ, List.getElem?_cons_zero]); rfl)); (focus rfl); (focus (first | rfl | (simp only [Region.wanted, yielded, List.getElem?_toArray, List.getElem?_cons_succ, List.getElem?_cons_zero, Option.bind_some, Option.map_some, Fr_get?, over_cons, over_nil]; rfl) | go_simp)); (focus ((intro w hSw; go_simp; try with_reducible rfl)))); (refine take_F 2 33 (oi := ?_) (v := ?_) ?_ ?_ (by kernel_rfl) (by kernel_rfl) (by kernel_rfl) (fun _ _ _ _ _ h => h) ?_ (by assumption) ?_ ?_; rotate_left 2; (focus ((simp only [List.getElem?_toArray, List.getElem?_cons_succ, List.getElem?_cons_zero]); rfl)); (focus rfl); (focus (first | rfl | (simp only [Region.wanted, yielded, List.getElem?_toArray, List.getElem?_cons_succ, List.getElem?_cons_zero, Option.bind_some, Option.map_some, Fr_get?, over_cons, over_nil]; rfl) | go_simp)); (focus ((intro w hSw; go_simp; try with_reducible rfl)))))
  (refine take_F 3 34 (oi := ?_) (v := ?_) ?_ ?_ (by kernel_rfl) (by kernel_rfl) (by kernel_rfl) (fun _ _ _ _ _ h => h) ?_ (by assumption) ?_ ?_; rotate_left 2; (focus ((simp only [List.getElem?_toArray, List.getElem?_cons_succ, List.getElem?_cons_zero]); rfl)); (focus rfl); (focus (first | rfl | (simp only [Region.wanted, yielded, List.getElem?_toArray, List.getElem?_cons_succ, List.getElem?_cons_zero, Option.bind_some, Option.map_some, Fr_get?, over_cons, over_nil]; rfl) | go_simp)); (focus (intro W _; refine HI1.out _ _ 32 33 W ?_ ?_ ?_; (focus rfl); (focus (refine (Fr_eval _ _ _ 32 (by decide)).trans ?_; simp [over_cons, over_nil, *])); (focus (refine (Fr_eval _ _ _ 33 (by decide)).trans ?_; simp [over_cons, over_nil, *])))))
  ((refine take_F 4 35 (oi := ?_) (v := ?_) ?_ ?_ (by kernel_rfl) (by kernel_rfl) (by kernel_rfl) (fun _ _ _ _ _ h => h) ?_ (by assumption) ?_ ?_; rotate_left 2; (focus ((simp only [List.getElem?_toArray, List.getElem?_cons_succ, List.getElem?_cons_zero]); rfl)); (focus rfl); (focus (first | rfl | (simp only [Region.wanted, yielded, List.getElem?_toArray, List.getElem?_cons_succ, List.getElem?_cons_zero, Option.bind_some, Option.map_some, Fr_get?, over_cons, over_nil]; rfl) | go_simp)); (focus ((intro w hSw; go_simp; try with_reducible rfl)))))
  (refine only_F 5 (oi := ?_) ?_ (by kernel_rfl) ?_ ?_; rotate_left 1; (focus ((simp only [List.getElem?_toArray, List.getElem?_cons_succ, List.getElem?_cons_zero]); rfl)); (focus (first | rfl | go_simp)); intro K hK; go_simp; (refine (HFA.out _ hHeld.env).mono ?_; rintro e w9 ⟨rfl, hg9⟩); go_wp2_with fail; replace hHeld := hHeld.next hg9; refine hK.out _ _ hHeld ?_; clear hK K)
  clear hg9
  ((refine take_F 6 37 (oi := ?_) (v := ?_) ?_ ?_ (by kernel_rfl) (by kernel_rfl) (by kernel_rfl) (fun _ _ _ _ _ h => h) ?_ (by assumption) ?_ ?_; rotate_left 2; (focus ((simp only [List.getElem?_toArray, List.getElem?_cons_succ, List.getElem?_cons_zero]); rfl)); (focus rfl); (focus (first | rfl | (simp only [Region.wanted, yielded, List.getElem?_toArray, List.getElem?_cons_succ, List.getElem?_cons_zero, Option.bind_some, Option.map_some, Fr_get?, over_cons, over_nil]; rfl) | go_simp)); (focus ((intro w hSw; go_simp; try with_reducible rfl)))); (refine take_F 7 38 (oi := ?_) (v := ?_) ?_ ?_ (by kernel_rfl) (by kernel_rfl) (by kernel_rfl) (fun _ _ _ _ _ h => h) ?_ (by assumption) ?_ ?_; rotate_left 2; (focus ((simp only [List.getElem?_toArray, List.getElem?_cons_succ, List.getElem?_cons_zero]); rfl)); (focus rfl); (focus (first | rfl | (simp only [Region.wanted, yielded, List.getElem?_toArray, List.getElem?_cons_succ, List.getElem?_cons_zero, Option.bind_some, Option.map_some, Fr_get?, over_cons, over_nil]; rfl) | go_simp)); (focus ((intro w hSw; go_simp; try with_reducible rfl)))); (refine take_F 8 39 (oi := ?_) (v := ?_) ?_ ?_ (by kernel_rfl) (by kernel_rfl) (by kernel_rfl) (fun _ _ _ _ _ h => h) ?_ (by assumption) ?_ ?_; rotate_left 2; (focus ((simp only [List.getElem?_toArray, List.getElem?_cons_succ, List.getElem?_cons_zero]); rfl)); (focus rfl); (focus (first | rfl | (simp only [Region.wanted, yielded, List.getElem?_toArray, List.getElem?_cons_succ, List.getElem?_cons_zero, Option.bind_some, Option.map_some, Fr_get?, over_cons, over_nil]; rfl) | go_simp)); (focus ((intro w hSw; go_simp; try with_reducible rfl)))); (refine take_F 9 40 (oi := ?_) (v := ?_) ?_ ?_ (by kernel_rfl) (by kernel_rfl) (by kernel_rfl) (fun _ _ _ _ _ h => h) ?_ (by assumption) ?_ ?_; rotate_left 2; (focus ((simp only [List.getElem?_toArray, List.getElem?_cons_succ, List.getElem?_cons_zero]); rfl)); (focus rfl); (focus (first | rfl | (simp only [Region.wanted, yielded, List.getElem?_toArray, List.getElem?_cons_succ, List.getElem?_cons_zero, Option.bind_some, Option.map_some, Fr_get?, over_cons, over_nil]; rfl) | go_simp)); (focus ((intro w hSw; go_simp; try with_reducible rfl)))); (refine take_F 10 41 (oi := ?_) (v := ?_) ?_ ?_ (by kernel_rfl) (by kernel_rfl) (by kernel_rfl) (fun _ _ _ _ _ h => h) ?_ (by assumption) ?_ ?_; rotate_left 2; (focus ((simp only [List.getElem?_toArray, List.getElem?_cons_succ, List.getElem?_cons_zero]); rfl)); (focus rfl); (focus (first | rfl | (simp only [Region.wanted, yielded, List.getElem?_toArray, List.getElem?_cons_succ, List.getElem?_cons_zero, Option.bind_some, Option.map_some, Fr_get?, over_cons, over_nil]; rfl) | go_simp)); (focus ((intro w hSw; go_simp; try with_reducible rfl)))))
  (refine take_F 11 42 (oi := ?_) (v := ?_) ?_ ?_ (by kernel_rfl) (by kernel_rfl) (by kernel_rfl) (fun _ _ _ _ _ h => h) ?_ (by assumption) ?_ ?_; rotate_left 2; (focus ((simp only [List.getElem?_toArray, List.getElem?_cons_succ, List.getElem?_cons_zero]); rfl)); (focus rfl); (focus (first | rfl | (simp only [Region.wanted, yielded, List.getElem?_toArray, List.getElem?_cons_succ, List.getElem?_cons_zero, Option.bind_some, Option.map_some, Fr_get?, over_cons, over_nil]; rfl) | go_simp)); (focus (intro W _; refine HI1.out _ _ 40 41 W ?_ ?_ ?_; (focus rfl); (focus (refine (Fr_eval _ _ _ 40 (by decide)).trans ?_; simp [over_cons, over_nil, *])); (focus (refine (Fr_eval _ _ _ 41 (by decide)).trans ?_; simp [over_cons, over_nil, *])))))
  ((refine take_F 12 43 (oi := ?_) (v := ?_) ?_ ?_ (by kernel_rfl) (by kernel_rfl) (by kernel_rfl) (fun _ _ _ _ _ h => h) ?_ (by assumption) ?_ ?_; rotate_left 2; (focus ((simp only [List.getElem?_toArray, List.getElem?_cons_succ, List.getElem?_cons_zero]); rfl)); (focus rfl); (focus (first | rfl | (simp only [Region.wanted, yielded, List.getElem?_toArray, List.getElem?_cons_succ, List.getElem?_cons_zero, Option.bind_some, Option.map_some, Fr_get?, over_cons, over_nil]; rfl) | go_simp)); (focus ((intro w hSw; go_simp; try with_reducible rfl)))); (refine take_F 14 45 (oi := ?_) (v := ?_) ?_ ?_ (by kernel_rfl) (by kernel_rfl) (by kernel_rfl) (fun _ _ _ _ _ h => h) ?_ (by assumption) ?_ ?_; rotate_left 2; (focus ((simp only [List.getElem?_toArray, List.getElem?_cons_succ, List.getElem?_cons_zero]); rfl)); (focus rfl); (focus (first | rfl | (simp only [Region.wanted, yielded, List.getElem?_toArray, List.getElem?_cons_succ, List.getElem?_cons_zero, Option.bind_some, Option.map_some, Fr_get?, over_cons, over_nil]; rfl) | go_simp)); (focus ((intro w hSw; go_simp; try with_reducible rfl)))); (refine take_F 15 46 (oi := ?_) (v := ?_) ?_ ?_ (by kernel_rfl) (by kernel_rfl) (by kernel_rfl) (fun _ _ _ _ _ h => h) ?_ (by assumption) ?_ ?_; rotate_left 2; (focus ((simp only [List.getElem?_toArray, List.getElem?_cons_succ, List.getElem?_cons_zero]); rfl)); (focus rfl); (focus (first | rfl | (simp only [Region.wanted, yielded, List.getElem?_toArray, List.getElem?_cons_succ, List.getElem?_cons_zero, Option.bind_some, Option.map_some, Fr_get?, over_cons, over_nil]; rfl) | go_simp)); (focus ((intro w hSw; go_simp; try with_reducible rfl)))); (refine take_F 16 47 (oi := ?_) (v := ?_) ?_ ?_ (by kernel_rfl) (by kernel_rfl) (by kernel_rfl) (fun _ _ _ _ _ h => h) ?_ (by assumption) ?_ ?_; rotate_left 2; (focus ((simp only [List.getElem?_toArray, List.getElem?_cons_succ, List.getElem?_cons_zero]); rfl)); (focus rfl); (focus (first | rfl | (simp only [Region.wanted, yielded, List.getElem?_toArray, List.getElem?_cons_succ, List.getElem?_cons_zero, Option.bind_some, Option.map_some, Fr_get?, over_cons, over_nil]; rfl) | go_simp)); (focus ((intro w hSw; go_simp; try with_reducible rfl)))))
  (refine take_F 17 48 (oi := ?_) (v := ?_) ?_ ?_ (by kernel_rfl) (by kernel_rfl) (by kernel_rfl) (fun _ _ _ _ _ h => h) ?_ (by assumption) ?_ ?_; rotate_left 2; (focus ((simp only [List.getElem?_toArray, List.getElem?_cons_succ, List.getElem?_cons_zero]); rfl)); (focus rfl); (focus (first | rfl | (simp only [Region.wanted, yielded, List.getElem?_toArray, List.getElem?_cons_succ, List.getElem?_cons_zero, Option.bind_some, Option.map_some, Fr_get?, over_cons, over_nil]; rfl) | go_simp)); (focus (intro W _; refine HI2.out _ _ 46 47 W ?_ ?_ ?_; (focus rfl); (focus (refine (Fr_eval _ _ _ 46 (by decide)).trans ?_; simp [over_cons, over_nil, *])); (focus (refine (Fr_eval _ _ _ 47 (by decide)).trans ?_; simp [over_cons, over_nil, *])))))
  ((refine take_F 18 49 (oi := ?_) (v := ?_) ?_ ?_ (by kernel_rfl) (by kernel_rfl) (by kernel_rfl) (fun _ _ _ _ _ h => h) ?_ (by assumption) ?_ ?_; rotate_left 2; (focus ((simp only [List.getElem?_toArray, List.getElem?_cons_succ, List.getElem?_cons_zero]); rfl)); (focus rfl); (focus (first | rfl | (simp only [Region.wanted, yielded, List.getElem?_toArray, List.getElem?_cons_succ, List.getElem?_cons_zero, Option.bind_some, Option.map_some, Fr_get?, over_cons, over_nil]; rfl) | go_simp)); (focus ((intro w hSw; go_simp; try with_reducible rfl)))))
  (refine only_F 13 (oi := ?_) ?_ (by kernel_rfl) ?_ ?_; rotate_left 1; (focus ((simp only [List.getElem?_toArray, List.getElem?_cons_succ, List.getElem?_cons_zero]); rfl)); (focus (first | rfl | go_simp)); intro K hK; go_simp; (refine (HFA.out _ hHeld.env).mono ?_; rintro e w9 ⟨rfl, hg9⟩); go_wp2_with fail; replace hHeld := hHeld.next hg9; refine hK.out _ _ hHeld ?_; clear hK K)
  clear hg9
  (refine only_F 19 (oi := ?_) ?_ (by kernel_rfl) ?_ ?_; rotate_left 1; (focus ((simp only [List.getElem?_toArray, List.getElem?_cons_succ, List.getElem?_cons_zero]); rfl)); (focus (first | rfl | go_simp)); intro K hK; go_simp; (refine (HFB.out _ hHeld.env).mono ?_; rintro e w9 ⟨rfl, hg9⟩); go_wp2_with fail; replace hHeld := hHeld.next hg9; refine hK.out _ _ hHeld ?_; clear hK K)
  clear hg9
  (refine only_F 20 (oi := ?_) ?_ (by kernel_rfl) ?_ ?_; rotate_left 1; (focus ((simp only [List.getElem?_toArray, List.getElem?_cons_succ, List.getElem?_cons_zero]); rfl)); (focus (first | rfl | go_simp)); intro K hK; go_simp; (refine (HU1.out _).mono ?_; rintro e w9 ⟨rfl, hg9⟩); go_wp2_with fail; replace hHeld := hHeld.next hg9; refine hK.out _ _ hHeld ?_; clear hK K)
  clear hg9
  ((refine take_F 21 52 (oi := ?_) (v := ?_) ?_ ?_ (by kernel_rfl) (by kernel_rfl) (by kernel_rfl) (fun _ _ _ _ _ h => h) ?_ (by assumption) ?_ ?_; rotate_left 2; (focus ((simp only [List.getElem?_toArray, List.getElem?_cons_succ, List.getElem?_cons_zero]); rfl)); (focus rfl); (focus (first | rfl | (simp only [Region.wanted, yielded, List.getElem?_toArray, List.getElem?_cons_succ, List.getElem?_cons_zero, Option.bind_some, Option.map_some, Fr_get?, over_cons, over_nil]; rfl) | go_simp)); (focus ((intro w hSw; go_simp; try with_reducible rfl)))); (refine take_F 22 53 (oi := ?_) (v := ?_) ?_ ?_ (by kernel_rfl) (by kernel_rfl) (by kernel_rfl) (fun _ _ _ _ _ h => h) ?_ (by assumption) ?_ ?_; rotate_left 2; (focus ((simp only [List.getElem?_toArray, List.getElem?_cons_succ, List.getElem?_cons_zero]); rfl)); (focus rfl); (focus (first | rfl | (simp only [Region.wanted, yielded, List.getElem?_toArray, List.getElem?_cons_succ, List.getElem?_cons_zero, Option.bind_some, Option.map_some, Fr_get?, over_cons, over_nil]; rfl) | go_simp)); (focus ((intro w hSw; go_simp; try with_reducible rfl)))); (refine take_F 23 54 (oi := ?_) (v := ?_) ?_ ?_ (by kernel_rfl) (by kernel_rfl) (by kernel_rfl) (fun _ _ _ _ _ h => h) ?_ (by assumption) ?_ ?_; rotate_left 2; (focus ((simp only [List.getElem?_toArray, List.getElem?_cons_succ, List.getElem?_cons_zero]); rfl)); (focus rfl); (focus (first | rfl | (simp only [Region.wanted, yielded, List.getElem?_toArray, List.getElem?_cons_succ, List.getElem?_cons_zero, Option.bind_some, Option.map_some, Fr_get?, over_cons, over_nil]; rfl) | go_simp)); (focus ((intro w hSw; go_simp; try with_reducible rfl)))); (refine take_F 24 55 (oi := ?_) (v := ?_) ?_ ?_ (by kernel_rfl) (by kernel_rfl) (by kernel_rfl) (fun _ _ _ _ _ h => h) ?_ (by assumption) ?_ ?_; rotate_left 2; (focus ((simp only [List.getElem?_toArray, List.getElem?_cons_succ, List.getElem?_cons_zero]); rfl)); (focus rfl); (focus (first | rfl | (simp only [Region.wanted, yielded, List.getElem?_toArray, List.getElem?_cons_succ, List.getElem?_cons_zero, Option.bind_some, Option.map_some, Fr_get?, over_cons, over_nil]; rfl) | go_simp)); (focus ((intro w hSw; go_simp; try with_reducible rfl)))); (refine take_F 25 56 (oi := ?_) (v := ?_) ?_ ?_ (by kernel_rfl) (by kernel_rfl) (by kernel_rfl) (fun _ _ _ _ _ h => h) ?_ (by assumption) ?_ ?_; rotate_left 2; (focus ((simp only [List.getElem?_toArray, List.getElem?_cons_succ, List.getElem?_cons_zero]); rfl)); (focus rfl); (focus (first | rfl | (simp only [Region.wanted, yielded, List.getElem?_toArray, List.getElem?_cons_succ, List.getElem?_cons_zero, Option.bind_some, Option.map_some, Fr_get?, over_cons, over_nil]; rfl) | go_simp)); (focus ((intro w hSw; go_simp; try with_reducible rfl)))); (refine take_F 26 57 (oi := ?_) (v := ?_) ?_ ?_ (by kernel_rfl) (by kernel_rfl) (by kernel_rfl) (fun _ _ _ _ _ h => h) ?_ (by assumption) ?_ ?_; rotate_left 2; (focus ((simp only [List.getElem?_toArray, List.getElem?_cons_succ, List.getElem?_cons_zero]); rfl)); (focus rfl); (focus (first | rfl | (simp only [Region.wanted, yielded, List.getElem?_toArray, List.getElem?_cons_succ, List.getElem?_cons_zero, Option.bind_some, Option.map_some, Fr_get?, over_cons, over_nil]; rfl) | go_simp)); (focus ((intro w hSw; go_simp; try with_reducible rfl)))))
  (refine take_F 27 58 (oi := ?_) (v := ?_) ?_ ?_ (by kernel_rfl) (by kernel_rfl) (by kernel_rfl) (fun _ _ _ _ _ h => h) ?_ (by assumption) ?_ ?_; rotate_left 2; (focus ((simp only [List.getElem?_toArray, List.getElem?_cons_succ, List.getElem?_cons_zero]); rfl)); (focus rfl); (focus (first | rfl | (simp only [Region.wanted, yielded, List.getElem?_toArray, List.getElem?_cons_succ, List.getElem?_cons_zero, Option.bind_some, Option.map_some, Fr_get?, over_cons, over_nil]; rfl) | go_simp)); (focus (intro W _; refine HI1.out _ _ 56 57 W ?_ ?_ ?_; (focus rfl); (focus (refine (Fr_eval _ _ _ 56 (by decide)).trans ?_; simp [over_cons, over_nil, *])); (focus (refine (Fr_eval _ _ _ 57 (by decide)).trans ?_; simp [over_cons, over_nil, *])))))
  ((refine take_F 28 59 (oi := ?_) (v := ?_) ?_ ?_ (by kernel_rfl) (by kernel_rfl) (by kernel_rfl) (fun _ _ _ _ _ h => h) ?_ (by assumption) ?_ ?_; rotate_left 2; (focus ((simp only [List.getElem?_toArray, List.getElem?_cons_succ, List.getElem?_cons_zero]); rfl)); (focus rfl); (focus (first | rfl | (simp only [Region.wanted, yielded, List.getElem?_toArray, List.getElem?_cons_succ, List.getElem?_cons_zero, Option.bind_some, Option.map_some, Fr_get?, over_cons, over_nil]; rfl) | go_simp)); (focus ((intro w hSw; go_simp; try with_reducible rfl)))); (refine take_F 30 61 (oi := ?_) (v := ?_) ?_ ?_ (by kernel_rfl) (by kernel_rfl) (by kernel_rfl) (fun _ _ _ _ _ h => h) ?_ (by assumption) ?_ ?_; rotate_left 2; (focus ((simp only [List.getElem?_toArray, List.getElem?_cons_succ, List.getElem?_cons_zero]); rfl)); (focus rfl); (focus (first | rfl | (simp only [Region.wanted, yielded, List.getElem?_toArray, List.getElem?_cons_succ, List.getElem?_cons_zero, Option.bind_some, Option.map_some, Fr_get?, over_cons, over_nil]; rfl) | go_simp)); (focus ((intro w hSw; go_simp; try with_reducible rfl)))); (refine take_F 31 62 (oi := ?_) (v := ?_) ?_ ?_ (by kernel_rfl) (by kernel_rfl) (by kernel_rfl) (fun _ _ _ _ _ h => h) ?_ (by assumption) ?_ ?_; rotate_left 2; (focus ((simp only [List.getElem?_toArray, List.getElem?_cons_succ, List.getElem?_cons_zero]); rfl)); (focus rfl); (focus (first | rfl | (simp only [Region.wanted, yielded, List.getElem?_toArray, List.getElem?_cons_succ, List.getElem?_cons_zero, Option.bind_some, Option.map_some, Fr_get?, over_cons, over_nil]; rfl) | go_simp)); (focus ((intro w hSw; go_simp; try with_reducible rfl)))); (refine take_F 32 63 (oi := ?_) (v := ?_) ?_ ?_ (by kernel_rfl) (by kernel_rfl) (by kernel_rfl) (fun _ _ _ _ _ h => h) ?_ (by assumption) ?_ ?_; rotate_left 2; (focus ((simp only [List.getElem?_toArray, List.getElem?_cons_succ, List.getElem?_cons_zero]); rfl)); (focus rfl); (focus (first | rfl | (simp only [Region.wanted, yielded, List.getElem?_toArray, List.getElem?_cons_succ, List.getElem?_cons_zero, Option.bind_some, Option.map_some, Fr_get?, over_cons, over_nil]; rfl) | go_simp)); (focus ((intro w hSw; go_simp; try with_reducible rfl)))))
  (refine take_F 33 64 (oi := ?_) (v := ?_) ?_ ?_ (by kernel_rfl) (by kernel_rfl) (by kernel_rfl) (fun _ _ _ _ _ h => h) ?_ (by assumption) ?_ ?_; rotate_left 2; (focus ((simp only [List.getElem?_toArray, List.getElem?_cons_succ, List.getElem?_cons_zero]); rfl)); (focus rfl); (focus (first | rfl | (simp only [Region.wanted, yielded, List.getElem?_toArray, List.getElem?_cons_succ, List.getElem?_cons_zero, Option.bind_some, Option.map_some, Fr_get?, over_cons, over_nil]; rfl) | go_simp)); (focus (intro W _; refine HI2.out _ _ 62 63 W ?_ ?_ ?_; (focus rfl); (focus (refine (Fr_eval _ _ _ 62 (by decide)).trans ?_; simp [over_cons, over_nil, *])); (focus (refine (Fr_eval _ _ _ 63 (by decide)).trans ?_; simp [over_cons, over_nil, *])))))
  ((refine take_F 34 65 (oi := ?_) (v := ?_) ?_ ?_ (by kernel_rfl) (by kernel_rfl) (by kernel_rfl) (fun _ _ _ _ _ h => h) ?_ (by assumption) ?_ ?_; rotate_left 2; (focus ((simp only [List.getElem?_toArray, List.getElem?_cons_succ, List.getElem?_cons_zero]); rfl)); (focus rfl); (focus (first | rfl | (simp only [Region.wanted, yielded, List.getElem?_toArray, List.getElem?_cons_succ, List.getElem?_cons_zero, Option.bind_some, Option.map_some, Fr_get?, over_cons, over_nil]; rfl) | go_simp)); (focus ((intro w hSw; go_simp; try with_reducible rfl)))))
  (refine only_F 29 (oi := ?_) ?_ (by kernel_rfl) ?_ ?_; rotate_left 1; (focus ((simp only [List.getElem?_toArray, List.getElem?_cons_succ, List.getElem?_cons_zero]); rfl)); (focus (first | rfl | go_simp)); intro K hK; go_simp; (refine (HFC.out _ hHeld.env).mono ?_; rintro e w9 ⟨rfl, hg9⟩); go_wp2_with fail; replace hHeld := hHeld.next hg9; refine hK.out _ _ hHeld ?_; clear hK K)
  clear hg9
  (refine only_F 35 (oi := ?_) ?_ (by kernel_rfl) ?_ ?_; rotate_left 1; (focus ((simp only [List.getElem?_toArray, List.getElem?_cons_succ, List.getElem?_cons_zero]); rfl)); (focus (first | rfl | go_simp)); intro K hK; go_simp; (refine (HFD.out _ hHeld.env).mono ?_; rintro e w9 ⟨rfl, hg9⟩); go_wp2_with fail; replace hHeld := hHeld.next hg9; refine hK.out _ _ hHeld ?_; clear hK K)
  clear hg9
  (refine only_F 36 (oi := ?_) ?_ (by kernel_rfl) ?_ ?_; rotate_left 1; (focus ((simp only [List.getElem?_toArray, List.getElem?_cons_succ, List.getElem?_cons_zero]); rfl)); (focus (first | rfl | go_simp)); intro K hK; go_simp; (refine (HU2.out _).mono ?_; rintro e w9 ⟨rfl, hg9⟩); go_wp2_with fail; replace hHeld := hHeld.next hg9; refine hK.out _ _ hHeld ?_; clear hK K)
  clear hg9
  ((refine take_F 37 68 (oi := ?_) (v := ?_) ?_ ?_ (by kernel_rfl) (by kernel_rfl) (by kernel_rfl) (fun _ _ _ _ _ h => h) ?_ (by assumption) ?_ ?_; rotate_left 2; (focus ((simp only [List.getElem?_toArray, List.getElem?_cons_succ, List.getElem?_cons_zero]); rfl)); (focus rfl); (focus (first | rfl | (simp only [Region.wanted, yielded, List.getElem?_toArray, List.getElem?_cons_succ, List.getElem?_cons_zero, Option.bind_some, Option.map_some, Fr_get?, over_cons, over_nil]; rfl) | go_simp)); (focus ((intro w hSw; go_simp; try with_reducible rfl)))); (refine take_F 38 69 (oi := ?_) (v := ?_) ?_ ?_ (by kernel_rfl) (by kernel_rfl) (by kernel_rfl) (fun _ _ _ _ _ h => h) ?_ (by assumption) ?_ ?_; rotate_left 2; (focus ((simp only [List.getElem?_toArray, List.getElem?_cons_succ, List.getElem?_cons_zero]); rfl)); (focus rfl); (focus (first | rfl | (simp only [Region.wanted, yielded, List.getElem?_toArray, List.getElem?_cons_succ, List.getElem?_cons_zero, Option.bind_some, Option.map_some, Fr_get?, over_cons, over_nil]; rfl) | go_simp)); (focus ((intro w hSw; go_simp; try with_reducible rfl)))))
  refine wpAnyH_done (by kernel_rfl) ?_ _
  refine NoPanic.normal ?_
  ((repeat (go_wp2_with fail; first | (refine cond_yes ?hc (by decide) ?_; (case hc => (simp [over_cons, over_nil, *]; done))) | (refine cond_no ?hc (by decide) ?_; (case hc => (simp [over_cons, over_nil, *]; done))))); go_wp2_with fail)
  exact gotk HRK (3 - (i + 1)) (by have := HKK.out; omega) ⟨i + 1, by omega, rfl, by simp [over_cons, over_nil, *], by simp [over_cons, over_nil, *], by simp [over_cons, over_nil, *], by simp [over_cons, over_nil, *], by simp [over_cons, over_nil, *], by simp [over_cons, over_nil], hHeld⟩
end Go.Proofs.YtffooimnioigdaaDoor
