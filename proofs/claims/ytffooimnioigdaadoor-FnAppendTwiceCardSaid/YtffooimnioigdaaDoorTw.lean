/-
  Walk: the law FnAppendTwice.
-/
import Derived.Test.YtffooimnioigdaaDoorAp
import Derived.Test.YtffooimnioigdaaDoorRg
import Derived.Test.YtffooimnioigdaaDoorNg32
namespace Go.Proofs.YtffooimnioigdaaDoor
open Go.ChangeShapes Go.WideShapes Go.ChangeAt Go.RowKit
set_option linter.unusedSimpArgs false
set_option linter.unusedVariables false

theorem Rd.of_own {T : Nat} {w : World} {v : Value} {xs : List UInt8} (h : OwnB T w v xs) : Rd w v xs := by
  obtain ⟨g, c, rfl, _⟩ := h.block
  refine Or.inr ⟨⟨g, 0, none⟩, c, rfl, fun j u hu => ?_⟩
  have e : ((⟨g, 0, none⟩ : Addr).add j) = ⟨g, j, none⟩ := by
    unfold Addr.add; split
    · subst_vars; rfl
    · simp
  rw [e]
  exact h.cell j u hu
theorem Rd.len {w : World} {v : Value} {xs : List UInt8} (h : Rd w v xs) : ∃ a c, v = .slice a xs.length c := by
  rcases h with ⟨rfl, rfl⟩ | ⟨a, c, rfl, _⟩
  · exact ⟨_, _, rfl⟩
  · exact ⟨_, _, rfl⟩
set_option maxRecDepth 100000 in
theorem str_of_rd {w : World} {v : Value} {xs : List UInt8} (h : Rd w v xs) : (convert 33 9 v).run Tryd.prog w = .ok (.string ⟨xs.toArray⟩) w := by
  rcases h with ⟨rfl, rfl⟩ | ⟨a, c, rfl, h2⟩
  · rw [run_convert_bytes_string w 33 9 5 none 0 0 Tryd.underlying33 Tryd.underlying5 Tryd.underlying9]
    rfl
  · exact run_convert_bytes_back w 33 9 5 a c xs Tryd.underlying33 Tryd.underlying5 Tryd.underlying9 (fun j hj => h2 j _ (List.getElem?_eq_getElem hj))

/-- Nothing old has turned. -/
structure SG (T : Nat) (w w' : World) : Prop where
  env : Env T w'
  gr : w.grownBy w' none
theorem SG.next {T : Nat} {w w8 w9 : World} (hg : w8.grownBy w9 none) (h : SG T w w8) : SG T w w9 := ⟨h.env.grown hg (by simp), grown_none_trans h.gr hg⟩
theorem SG.drew {T : Nat} {w w8 : World} (h : SG T w w8) : SG T w w8.drew := ⟨h.env.drewN 1, grown_none_trans h.gr (grown_drewN w8 1 none)⟩

set_option maxRecDepth 100000 in
set_option maxHeartbeats 8000000 in
theorem twice_law (T a b : Nat) (dst : Value) (f prec : Int) (xs : List UInt8) (w : World) (he : Env T w) (hTw : T = w.heap.size) (hrd : Rd w dst xs) (hx : xs.length ≤ 140737488355328) (ha : a < 18446744073709551616) (hb : b < 4294967296) (hf1 : 0 ≤ f) (hf2 : f ≤ 255) (hp1 : -9223372036854775808 ≤ prec) (hp2 : prec ≤ 9223372036854775807) :
    Calls Tryd.prog 8 #[dst, .int .u64 (a : Int), .int .u32 (b : Int), .int .u8 f, .int .i64 prec] w fun e w' => e = .returned (.bool true) ∧ w.grownBy w' none := by
  have hK1 := fun W => kind64_any a W ha
  have hK2 := fun W => kind32_any b W hb
  have hI := fun W => isFormat_any f W
  obtain ⟨k1, hk1⟩ : ∃ k, kindB 9218868437227405312 9223372036854775808 a = k := ⟨_, rfl⟩
  obtain ⟨k2, hk2⟩ : ∃ k, kindB 2139095040 2147483648 b = k := ⟨_, rfl⟩
  obtain ⟨i, hi⟩ : ∃ i, isFmt f = i := ⟨_, rfl⟩
  rw [hk1] at hK1
  rw [hk2] at hK2
  rw [hi] at hI
  have HK1 := Lib.hid hK1
  have HK2 := Lib.hid hK2
  have HI := Lib.hid hI
  have Hk1 := Lib.hid hk1
  have Hk2 := Lib.hid hk2
  have HE := Lib.hid he
  have HRD := Lib.hid hrd
  obtain ⟨ad, c, rfl⟩ := hrd.len
  obtain ⟨N, hN⟩ : ∃ N, xs.length = N := ⟨_, rfl⟩
  have HN := Lib.hid hN
  simp only [hN]
  rw [hN] at hx HRD
  clear hK1 hK2 hI hk1 hk2 hi he hrd hN
  refine calls_F Tryd.func8 rfl (by rw [Tryd.ntmps8]; simp) ?_
  intro σ hσ
  rw [Tryd.ntmps8]
  have s0 : σ 0 = .slice ad N c := hσ 0 (by simp)
  have s1 : σ 1 = .int .u64 (a : Int) := hσ 1 (by simp)
  have s2 : σ 2 = .int .u32 (b : Int) := hσ 2 (by simp)
  have s3 : σ 3 = .int .u8 f := hσ 3 (by simp)
  have s4 : σ 4 = .int .i64 prec := hσ 4 (by simp)
  clear hσ
  cases i
  case false =>
    ((repeat (go_wp2_with fail; first | (refine cond_yes ?hc (by decide) ?_; (case hc => (simp [over_cons, over_nil, *]; done))) | (refine cond_no ?hc (by decide) ?_; (case hc => (simp [over_cons, over_nil, *]; done))))); go_wp2_with fail)
    refine (HI.out _).mono ?_
    rintro e w7 ⟨rfl, rfl⟩
    ((repeat (go_wp2_with fail; first | (refine cond_yes ?hc (by decide) ?_; (case hc => (simp [over_cons, over_nil, *]; done))) | (refine cond_no ?hc (by decide) ?_; (case hc => (simp [over_cons, over_nil, *]; done))))); go_wp2_with fail)
    all_goals (try ((repeat (go_wp2_with fail; first | (refine cond_yes ?hc (by decide) ?_; (case hc => (simp [over_cons, over_nil, *]; done))) | (refine cond_no ?hc (by decide) ?_; (case hc => (simp [over_cons, over_nil, *]; done))))); go_wp2_with fail))
    all_goals exact ret_F (.bool true) rfl (by decide) (by simp [over_cons, over_nil, *]) ⟨rfl, grown_refl w none⟩
  by_cases hpl : prec < -1
  case pos =>
    ((repeat (go_wp2_with fail; first | (refine cond_yes ?hc (by decide) ?_; (case hc => (simp [over_cons, over_nil, *]; done))) | (refine cond_no ?hc (by decide) ?_; (case hc => (simp [over_cons, over_nil, *]; done))))); go_wp2_with fail)
    refine (HI.out _).mono ?_
    rintro e w7 ⟨rfl, rfl⟩
    ((repeat (go_wp2_with fail; first | (refine cond_yes ?hc (by decide) ?_; (case hc => (simp [over_cons, over_nil, *]; done))) | (refine cond_no ?hc (by decide) ?_; (case hc => (simp [over_cons, over_nil, *]; done))))); go_wp2_with fail)
    all_goals (try ((repeat (go_wp2_with fail; first | (refine cond_yes ?hc (by decide) ?_; (case hc => (simp [over_cons, over_nil, *]; done))) | (refine cond_no ?hc (by decide) ?_; (case hc => (simp [over_cons, over_nil, *]; done))))); go_wp2_with fail))
    all_goals exact ret_F (.bool true) rfl (by decide) (by simp [over_cons, over_nil, *]) ⟨rfl, grown_refl w none⟩
  have hpl' : decide (prec < -1) = false := by simpa using hpl
  by_cases hpu : 1100 < prec
  case pos =>
    ((repeat (go_wp2_with fail; first | (refine cond_yes ?hc (by decide) ?_; (case hc => (simp [over_cons, over_nil, *]; done))) | (refine cond_no ?hc (by decide) ?_; (case hc => (simp [over_cons, over_nil, *]; done))))); go_wp2_with fail)
    refine (HI.out _).mono ?_
    rintro e w7 ⟨rfl, rfl⟩
    ((repeat (go_wp2_with fail; first | (refine cond_yes ?hc (by decide) ?_; (case hc => (simp [over_cons, over_nil, *]; done))) | (refine cond_no ?hc (by decide) ?_; (case hc => (simp [over_cons, over_nil, *]; done))))); go_wp2_with fail)
    all_goals (try ((repeat (go_wp2_with fail; first | (refine cond_yes ?hc (by decide) ?_; (case hc => (simp [over_cons, over_nil, *]; done))) | (refine cond_no ?hc (by decide) ?_; (case hc => (simp [over_cons, over_nil, *]; done))))); go_wp2_with fail))
    all_goals exact ret_F (.bool true) rfl (by decide) (by simp [over_cons, over_nil, *]) ⟨rfl, grown_refl w none⟩
  have hpu' : decide (1100 < prec) = false := by simpa using hpu
  by_cases hNN : 1000 < N
  case pos =>
    have hNN1 : (1000 : Int) < (N : Int) := by omega
    ((repeat (go_wp2_with fail; first | (refine cond_yes ?hc (by decide) ?_; (case hc => (simp [over_cons, over_nil, *]; done))) | (refine cond_no ?hc (by decide) ?_; (case hc => (simp [over_cons, over_nil, *]; done))))); go_wp2_with fail)
    refine (HI.out _).mono ?_
    rintro e w7 ⟨rfl, rfl⟩
    ((repeat (go_wp2_with fail; first | (refine cond_yes ?hc (by decide) ?_; (case hc => (simp [over_cons, over_nil, *]; done))) | (refine cond_no ?hc (by decide) ?_; (case hc => (simp [over_cons, over_nil, *]; done))))); go_wp2_with fail)
    all_goals (try ((repeat (go_wp2_with fail; first | (refine cond_yes ?hc (by decide) ?_; (case hc => (simp [over_cons, over_nil, *]; done))) | (refine cond_no ?hc (by decide) ?_; (case hc => (simp [over_cons, over_nil, *]; done))))); go_wp2_with fail))
    all_goals exact ret_F (.bool true) rfl (by decide) (by simp [over_cons, over_nil, *]) ⟨rfl, grown_refl w none⟩
  have hNN1 : decide ((1000 : Int) < (N : Int)) = false := by simp; omega
  have hNN2 : decide (1000 < N) = false := by simp; omega
  by_cases hz1 : k1 = 0
  case neg =>
    have hz1' : (k1 != 0) = true := by rw [bne_iff_ne]; exact hz1
    ((repeat (go_wp2_with fail; first | (refine cond_yes ?hc (by decide) ?_; (case hc => (simp [over_cons, over_nil, *]; done))) | (refine cond_no ?hc (by decide) ?_; (case hc => (simp [over_cons, over_nil, *]; done))))); go_wp2_with fail)
    refine (HI.out _).mono ?_
    rintro e w7 ⟨rfl, rfl⟩
    ((repeat (go_wp2_with fail; first | (refine cond_yes ?hc (by decide) ?_; (case hc => (simp [over_cons, over_nil, *]; done))) | (refine cond_no ?hc (by decide) ?_; (case hc => (simp [over_cons, over_nil, *]; done))))); go_wp2_with fail)
    refine (HK1.out _).mono ?_
    rintro e w7 ⟨rfl, rfl⟩
    ((repeat (go_wp2_with fail; first | (refine cond_yes ?hc (by decide) ?_; (case hc => (simp [over_cons, over_nil, *]; done))) | (refine cond_no ?hc (by decide) ?_; (case hc => (simp [over_cons, over_nil, *]; done))))); go_wp2_with fail)
    all_goals (try ((repeat (go_wp2_with fail; first | (refine cond_yes ?hc (by decide) ?_; (case hc => (simp [over_cons, over_nil, *]; done))) | (refine cond_no ?hc (by decide) ?_; (case hc => (simp [over_cons, over_nil, *]; done))))); go_wp2_with fail))
    all_goals exact ret_F (.bool true) rfl (by decide) (by simp [over_cons, over_nil, *]) ⟨rfl, grown_refl w none⟩
  have hz1' : (k1 != 0) = false := by rw [hz1]; rfl
  by_cases hz2 : k2 = 0
  case neg =>
    have hz2' : (k2 != 0) = true := by rw [bne_iff_ne]; exact hz2
    ((repeat (go_wp2_with fail; first | (refine cond_yes ?hc (by decide) ?_; (case hc => (simp [over_cons, over_nil, *]; done))) | (refine cond_no ?hc (by decide) ?_; (case hc => (simp [over_cons, over_nil, *]; done))))); go_wp2_with fail)
    refine (HI.out _).mono ?_
    rintro e w7 ⟨rfl, rfl⟩
    ((repeat (go_wp2_with fail; first | (refine cond_yes ?hc (by decide) ?_; (case hc => (simp [over_cons, over_nil, *]; done))) | (refine cond_no ?hc (by decide) ?_; (case hc => (simp [over_cons, over_nil, *]; done))))); go_wp2_with fail)
    refine (HK1.out _).mono ?_
    rintro e w7 ⟨rfl, rfl⟩
    ((repeat (go_wp2_with fail; first | (refine cond_yes ?hc (by decide) ?_; (case hc => (simp [over_cons, over_nil, *]; done))) | (refine cond_no ?hc (by decide) ?_; (case hc => (simp [over_cons, over_nil, *]; done))))); go_wp2_with fail)
    refine (HK2.out _).mono ?_
    rintro e w7 ⟨rfl, rfl⟩
    ((repeat (go_wp2_with fail; first | (refine cond_yes ?hc (by decide) ?_; (case hc => (simp [over_cons, over_nil, *]; done))) | (refine cond_no ?hc (by decide) ?_; (case hc => (simp [over_cons, over_nil, *]; done))))); go_wp2_with fail)
    all_goals (try ((repeat (go_wp2_with fail; first | (refine cond_yes ?hc (by decide) ?_; (case hc => (simp [over_cons, over_nil, *]; done))) | (refine cond_no ?hc (by decide) ?_; (case hc => (simp [over_cons, over_nil, *]; done))))); go_wp2_with fail))
    all_goals exact ret_F (.bool true) rfl (by decide) (by simp [over_cons, over_nil, *]) ⟨rfl, grown_refl w none⟩
  have hz2' : (k2 != 0) = false := by rw [hz2]; rfl
  obtain ⟨r, _, hw1, hr1⟩ := Wd.widen_back b hb (kindB_fin (Hk2.out.trans hz2))
  have hF1 := fun (W : World) (hW : Env T W) => Format64_any T a prec f W hW ha hf1 hf2 hp1 (by omega)
  have hF2 := fun (W : World) (hW : Env T W) => Format32_any T b r prec f W hW hb hw1 hr1 hf1 hf2 hp1 (by omega)
  have hl1 := ftoa64L_len a f prec ha (by omega)
  have hl2 := ftoa32L_len b f prec hb (by omega)
  have hA1 := fun (v : Value) (ys : List UInt8) (W : World) (hW : Env T W) (hR : Rd W v ys) (hl : ys.length ≤ 140737488400000) => Append64_any T a v prec f ys W hW hR hl ha hf1 hf2 hp1 (by omega)
  have hA2 := fun (v : Value) (ys : List UInt8) (W : World) (hW : Env T W) (hR : Rd W v ys) (hl : ys.length ≤ 140737488400000) => Append32_any T b r v prec f ys W hW hR hl hb hw1 hr1 hf1 hf2 hp1 (by omega)
  generalize ftoa64L a f prec = L1 at hF1 hl1 hA1
  generalize ftoa32L b f prec = L2 at hF2 hl2 hA2
  have HF1 := Lib.hid hF1
  have HF2 := Lib.hid hF2
  have HA1 := Lib.hid hA1
  have HA2 := Lib.hid hA2
  clear hF1 hF2 hA1 hA2 hw1 hr1 Hk1 Hk2
  ((repeat (go_wp2_with fail; first | (refine cond_yes ?hc (by decide) ?_; (case hc => (simp [over_cons, over_nil, *]; done))) | (refine cond_no ?hc (by decide) ?_; (case hc => (simp [over_cons, over_nil, *]; done))))); go_wp2_with fail)
  refine (HI.out _).mono ?_
  rintro e w7 ⟨rfl, rfl⟩
  ((repeat (go_wp2_with fail; first | (refine cond_yes ?hc (by decide) ?_; (case hc => (simp [over_cons, over_nil, *]; done))) | (refine cond_no ?hc (by decide) ?_; (case hc => (simp [over_cons, over_nil, *]; done))))); go_wp2_with fail)
  refine (HK1.out _).mono ?_
  rintro e w7 ⟨rfl, rfl⟩
  ((repeat (go_wp2_with fail; first | (refine cond_yes ?hc (by decide) ?_; (case hc => (simp [over_cons, over_nil, *]; done))) | (refine cond_no ?hc (by decide) ?_; (case hc => (simp [over_cons, over_nil, *]; done))))); go_wp2_with fail)
  refine (HK2.out _).mono ?_
  rintro e w7 ⟨rfl, rfl⟩
  ((repeat (go_wp2_with fail; first | (refine cond_yes ?hc (by decide) ?_; (case hc => (simp [over_cons, over_nil, *]; done))) | (refine cond_no ?hc (by decide) ?_; (case hc => (simp [over_cons, over_nil, *]; done))))); go_wp2_with fail)
  refine (HA1.out _ xs _ HE.out HRD.out (by rw [HN.out]; omega)).mono ?_
  rintro e w8 ⟨v8, rfl, ho8, hg8⟩
  have HE8 := Lib.hid (HE.out.grown hg8 (by simp))
  have HO8 := Lib.hid ho8
  have HG8 := Lib.hid hg8
  clear ho8 hg8
  ((repeat (go_wp2_with fail; first | (refine cond_yes ?hc (by decide) ?_; (case hc => (simp [over_cons, over_nil, *]; done))) | (refine cond_no ?hc (by decide) ?_; (case hc => (simp [over_cons, over_nil, *]; done))))); go_wp2_with fail)
  refine (HA2.out _ (xs ++ L1) _ HE8.out (Rd.of_own HO8.out) (by rw [List.length_append, HN.out]; omega)).mono ?_
  rintro e w9 ⟨v9, rfl, ho9, hg9⟩
  have HE9 := Lib.hid (HE8.out.grown hg9 (by simp))
  have HO9 := Lib.hid ho9
  have HG9 := Lib.hid (grown_none_trans HG8.out hg9)
  clear ho9 hg9 HE8 HO8 HG8 HE
  have HS := Lib.hid (⟨HE9.out, grown_refl w9 none⟩ : SG T w9 w9)
  have HC1 := Lib.hid (fun (W : World) (h : SG T w9 W) => str_of_own (HO9.out.grown0 h.gr))
  have HC2 := Lib.hid (fun (W : World) (h : SG T w9 W) => str_of_rd (HRD.out.grown (grown_none_trans HG9.out h.gr)))
  have hxN : xs.length ≤ 1000 := by rw [HN.out]; omega
  ((repeat (go_wp2_with fail; first | (refine cond_yes ?hc (by decide) ?_; (case hc => (simp [over_cons, over_nil, *]; done))) | (refine cond_no ?hc (by decide) ?_; (case hc => (simp [over_cons, over_nil, *]; done))))); go_wp2_with fail)
  refine wp_region_noPanic ?_
  refine wp_region_held_drew (S := fun w' => SG T w9 w') (by kernel_rfl) (SG.drew HS.out) (fun hHeld => ?_)
  ((refine take_F 0 48 (oi := ?_) (v := ?_) ?_ ?_ (by kernel_rfl) (by kernel_rfl) (by kernel_rfl) (fun _ _ _ _ _ h => h) ?_ (by assumption) ?_ ?_; rotate_left 2; (focus ((simp only [List.getElem?_toArray, List.getElem?_cons_succ, List.getElem?_cons_zero]); rfl)); (focus rfl); (focus (first | rfl | (simp only [Region.wanted, yielded, List.getElem?_toArray, List.getElem?_cons_succ, List.getElem?_cons_zero, Option.bind_some, Option.map_some, Fr_get?, over_cons, over_nil]; rfl) | go_simp)); (focus ((intro w hSw; go_simp; try with_reducible rfl)))))
  (refine take_F 1 49 (oi := ?_) (v := ?_) ?_ ?_ (by kernel_rfl) (by kernel_rfl) (by kernel_rfl) (fun _ _ _ _ _ h => h) ?_ (by assumption) ?_ ?_; rotate_left 2; (focus ((simp only [List.getElem?_toArray, List.getElem?_cons_succ, List.getElem?_cons_zero]); rfl)); (focus rfl); (focus (first | rfl | (simp only [Region.wanted, yielded, List.getElem?_toArray, List.getElem?_cons_succ, List.getElem?_cons_zero, Option.bind_some, Option.map_some, Fr_get?, over_cons, over_nil]; rfl) | go_simp)); (focus (intro W hS; have hcv := HC1.out W hS; go_simp; try with_reducible rfl)))
  ((refine take_F 2 50 (oi := ?_) (v := ?_) ?_ ?_ (by kernel_rfl) (by kernel_rfl) (by kernel_rfl) (fun _ _ _ _ _ h => h) ?_ (by assumption) ?_ ?_; rotate_left 2; (focus ((simp only [List.getElem?_toArray, List.getElem?_cons_succ, List.getElem?_cons_zero]); rfl)); (focus rfl); (focus (first | rfl | (simp only [Region.wanted, yielded, List.getElem?_toArray, List.getElem?_cons_succ, List.getElem?_cons_zero, Option.bind_some, Option.map_some, Fr_get?, over_cons, over_nil]; rfl) | go_simp)); (focus ((intro w hSw; go_simp; try with_reducible rfl)))))
  (refine take_F 3 51 (oi := ?_) (v := ?_) ?_ ?_ (by kernel_rfl) (by kernel_rfl) (by kernel_rfl) (fun _ _ _ _ _ h => h) ?_ (by assumption) ?_ ?_; rotate_left 2; (focus ((simp only [List.getElem?_toArray, List.getElem?_cons_succ, List.getElem?_cons_zero]); rfl)); (focus rfl); (focus (first | rfl | (simp only [Region.wanted, yielded, List.getElem?_toArray, List.getElem?_cons_succ, List.getElem?_cons_zero, Option.bind_some, Option.map_some, Fr_get?, over_cons, over_nil]; rfl) | go_simp)); (focus (intro W hS; have hcv := HC2.out W hS; go_simp; try with_reducible rfl)))
  ((refine take_F 4 52 (oi := ?_) (v := ?_) ?_ ?_ (by kernel_rfl) (by kernel_rfl) (by kernel_rfl) (fun _ _ _ _ _ h => h) ?_ (by assumption) ?_ ?_; rotate_left 2; (focus ((simp only [List.getElem?_toArray, List.getElem?_cons_succ, List.getElem?_cons_zero]); rfl)); (focus rfl); (focus (first | rfl | (simp only [Region.wanted, yielded, List.getElem?_toArray, List.getElem?_cons_succ, List.getElem?_cons_zero, Option.bind_some, Option.map_some, Fr_get?, over_cons, over_nil]; rfl) | go_simp)); (focus ((intro w hSw; go_simp; try with_reducible rfl)))); (refine take_F 5 53 (oi := ?_) (v := ?_) ?_ ?_ (by kernel_rfl) (by kernel_rfl) (by kernel_rfl) (fun _ _ _ _ _ h => h) ?_ (by assumption) ?_ ?_; rotate_left 2; (focus ((simp only [List.getElem?_toArray, List.getElem?_cons_succ, List.getElem?_cons_zero]); rfl)); (focus rfl); (focus (first | rfl | (simp only [Region.wanted, yielded, List.getElem?_toArray, List.getElem?_cons_succ, List.getElem?_cons_zero, Option.bind_some, Option.map_some, Fr_get?, over_cons, over_nil]; rfl) | go_simp)); (focus ((intro w hSw; go_simp; try with_reducible rfl)))); (refine take_F 6 54 (oi := ?_) (v := ?_) ?_ ?_ (by kernel_rfl) (by kernel_rfl) (by kernel_rfl) (fun _ _ _ _ _ h => h) ?_ (by assumption) ?_ ?_; rotate_left 2; (focus ((simp only [List.getElem?_toArray, List.getElem?_cons_succ, List.getElem?_cons_zero]); rfl)); (focus rfl); (focus (first | rfl | (simp only [Region.wanted, yielded, List.getElem?_toArray, List.getElem?_cons_succ, List.getElem?_cons_zero, Option.bind_some, Option.map_some, Fr_get?, over_cons, over_nil]; rfl) | go_simp)); (focus ((intro w hSw; go_simp; try with_reducible rfl)))); (refine take_F 9 57 (oi := ?_) (v := ?_) ?_ ?_ (by kernel_rfl) (by kernel_rfl) (by kernel_rfl) (fun _ _ _ _ _ h => h) ?_ (by assumption) ?_ ?_; rotate_left 2; (focus ((simp only [List.getElem?_toArray, List.getElem?_cons_succ, List.getElem?_cons_zero]); rfl)); (focus rfl); (focus (first | rfl | (simp only [Region.wanted, yielded, List.getElem?_toArray, List.getElem?_cons_succ, List.getElem?_cons_zero, Option.bind_some, Option.map_some, Fr_get?, over_cons, over_nil]; rfl) | go_simp)); (focus ((intro w hSw; go_simp; try with_reducible rfl)))); (refine take_F 10 58 (oi := ?_) (v := ?_) ?_ ?_ (by kernel_rfl) (by kernel_rfl) (by kernel_rfl) (fun _ _ _ _ _ h => h) ?_ (by assumption) ?_ ?_; rotate_left 2; (focus ((simp only [List.getElem?_toArray, List.getElem?_cons_succ, List.getElem?_cons_zero]); rfl)); (focus rfl); (focus (first | rfl | (simp only [Region.wanted, yielded, List.getElem?_toArray, List.getElem?_cons_succ, List.getElem?_cons_zero, Option.bind_some, Option.map_some, Fr_get?, over_cons, over_nil]; rfl) | go_simp)); (focus ((intro w hSw; go_simp; try with_reducible rfl)))); (refine take_F 11 59 (oi := ?_) (v := ?_) ?_ ?_ (by kernel_rfl) (by kernel_rfl) (by kernel_rfl) (fun _ _ _ _ _ h => h) ?_ (by assumption) ?_ ?_; rotate_left 2; (focus ((simp only [List.getElem?_toArray, List.getElem?_cons_succ, List.getElem?_cons_zero]); rfl)); (focus rfl); (focus (first | rfl | (simp only [Region.wanted, yielded, List.getElem?_toArray, List.getElem?_cons_succ, List.getElem?_cons_zero, Option.bind_some, Option.map_some, Fr_get?, over_cons, over_nil]; rfl) | go_simp)); (focus ((intro w hSw; go_simp; try with_reducible rfl)))))
  (refine only_F 7 (oi := ?_) ?_ (by kernel_rfl) ?_ ?_; rotate_left 1; (focus ((simp only [List.getElem?_toArray, List.getElem?_cons_succ, List.getElem?_cons_zero]); rfl)); (focus (first | rfl | go_simp)); intro K hK; go_simp; (refine (HF1.out _ hHeld.env).mono ?_; rintro e w10 ⟨rfl, hg10⟩); go_wp2_with fail; replace hHeld := hHeld.next hg10; refine hK.out _ _ hHeld ?_; clear hK K)
  clear hg10
  (refine take_F 8 56 (oi := ?_) (v := ?_) ?_ ?_ (by kernel_rfl) (by kernel_rfl) (by kernel_rfl) (fun _ _ _ _ _ h => h) ?_ (by assumption) ?_ ?_; rotate_left 2; (focus ((simp only [List.getElem?_toArray, List.getElem?_cons_succ, List.getElem?_cons_zero]); rfl)); (focus rfl); (focus (first | rfl | (simp only [Region.wanted, yielded, List.getElem?_toArray, List.getElem?_cons_succ, List.getElem?_cons_zero, Option.bind_some, Option.map_some, Fr_get?, over_cons, over_nil]; rfl) | go_simp)); (focus (intro W hS; go_simp; rw [if_neg (by omega)])))
  (refine only_F 12 (oi := ?_) ?_ (by kernel_rfl) ?_ ?_; rotate_left 1; (focus ((simp only [List.getElem?_toArray, List.getElem?_cons_succ, List.getElem?_cons_zero]); rfl)); (focus (first | rfl | go_simp)); intro K hK; go_simp; (refine (HF2.out _ hHeld.env).mono ?_; rintro e w11 ⟨rfl, hg11⟩); go_wp2_with fail; replace hHeld := hHeld.next hg11; refine hK.out _ _ hHeld ?_; clear hK K)
  clear hg11
  (refine take_F 13 61 (oi := ?_) (v := ?_) ?_ ?_ (by kernel_rfl) (by kernel_rfl) (by kernel_rfl) (fun _ _ _ _ _ h => h) ?_ (by assumption) ?_ ?_; rotate_left 2; (focus ((simp only [List.getElem?_toArray, List.getElem?_cons_succ, List.getElem?_cons_zero]); rfl)); (focus rfl); (focus (first | rfl | (simp only [Region.wanted, yielded, List.getElem?_toArray, List.getElem?_cons_succ, List.getElem?_cons_zero, Option.bind_some, Option.map_some, Fr_get?, over_cons, over_nil]; rfl) | go_simp)); (focus (intro W hS; go_simp; rw [if_neg (by first | omega | (simp; omega))])))
  ((refine take_F 14 62 (oi := ?_) (v := ?_) ?_ ?_ (by kernel_rfl) (by kernel_rfl) (by kernel_rfl) (fun _ _ _ _ _ h => h) ?_ (by assumption) ?_ ?_; rotate_left 2; (focus ((simp only [List.getElem?_toArray, List.getElem?_cons_succ, List.getElem?_cons_zero]); rfl)); (focus rfl); (focus (first | rfl | (simp only [Region.wanted, yielded, List.getElem?_toArray, List.getElem?_cons_succ, List.getElem?_cons_zero, Option.bind_some, Option.map_some, Fr_get?, over_cons, over_nil]; rfl) | go_simp)); (focus ((intro w hSw; go_simp; try with_reducible rfl)))); (refine take_F 15 10 (oi := ?_) (v := ?_) ?_ ?_ (by kernel_rfl) (by kernel_rfl) (by kernel_rfl) (fun _ _ _ _ _ h => h) ?_ (by assumption) ?_ ?_; rotate_left 2; (focus ((simp only [List.getElem?_toArray, List.getElem?_cons_succ, List.getElem?_cons_zero]); rfl)); (focus rfl); (focus (first | rfl | (simp only [Region.wanted, yielded, List.getElem?_toArray, List.getElem?_cons_succ, List.getElem?_cons_zero, Option.bind_some, Option.map_some, Fr_get?, over_cons, over_nil]; rfl) | go_simp)); (focus ((intro w hSw; go_simp; try with_reducible rfl)))))
  refine wpAnyH_done (by kernel_rfl) ?_ _
  refine NoPanic.normal ?_
  ((repeat (go_wp2_with fail; first | (refine cond_yes ?hc (by decide) ?_; (case hc => (simp [over_cons, over_nil, *]; done))) | (refine cond_no ?hc (by decide) ?_; (case hc => (simp [over_cons, over_nil, *]; done))))); go_wp2_with fail)
  refine ret_F (.bool true) rfl (by decide) ?_ ⟨rfl, grown_none_trans HG9.out hHeld.gr⟩
  simp only [over_cons, if_true]
  rw [cat_mk, cat_mk, toList_mk]
  simp
end Go.Proofs.YtffooimnioigdaaDoor
