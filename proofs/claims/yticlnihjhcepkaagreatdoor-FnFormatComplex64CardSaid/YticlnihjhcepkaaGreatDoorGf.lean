/-
  Lemmas and walks of functions, several texts in one.
-/
import Derived.Test.YticlnihjhcepkaaGreatDoorGd
import Derived.Test.YticlnihjhcepkaaGreatDoorGe
import Derived.Deep.RegionHeld3
/-
  Walk: fmtEFG.
-/
namespace Go.Proofs.YticlnihjhcepkaaGreatDoor
open Go.RowKit
set_option linter.unusedSimpArgs false
set_option linter.unusedVariables false

/-- The exponent from which the format g writes an exponent. -/
def gEp (dp nd prec : Int) (sh : Bool) : Int := if sh then 6 else if nd < prec ∧ dp ≤ nd then nd else prec

def isGB (f : Int) : Bool := f == 103 || f == 71

/-- What the format g makes of precision and format. -/
def gAdj (dp nd prec f : Int) (sh : Bool) : Int × Int :=
  if f = 103 ∨ f = 71 then
    if dp - 1 < -4 ∨ gEp dp nd prec sh ≤ dp - 1 then ((if nd < prec then nd else prec) - 1, f - 2)
    else (max ((if dp < prec then nd else prec) - dp) 0, 102)
  else (prec, f)

theorem gAdj_bd (dp nd prec f : Int) (sh : Bool) (hd1 : -900 ≤ dp) (hd2 : dp ≤ 900) (hn1 : 0 ≤ nd) (hn2 : nd ≤ 800) (hp1 : -9223372036854775808 ≤ prec) (hpw : -100000 ≤ prec ∨ (f ≠ 103 ∧ f ≠ 71) ∨ (dp = 0 ∧ sh = true)) (hp2 : prec ≤ 100000) (hf1 : 0 ≤ f) (hf2 : f ≤ 255) :
    -9223372036854775808 ≤ (gAdj dp nd prec f sh).1 ∧ (gAdj dp nd prec f sh).1 ≤ 100900 ∧ 0 ≤ (gAdj dp nd prec f sh).2 ∧ (gAdj dp nd prec f sh).2 ≤ 255 := by
  unfold gAdj
  by_cases hg : f = 103 ∨ f = 71
  · rw [if_pos hg]
    by_cases hc : dp - 1 < -4 ∨ gEp dp nd prec sh ≤ dp - 1
    · rw [if_pos hc]
      have hw : -100000 ≤ prec := by
        rcases hpw with h | h | h
        · exact h
        · omega
        · rw [h.1, h.2] at hc
          simp [gEp] at hc
      dsimp only
      refine ⟨?_, ?_, ?_, ?_⟩ <;> (try split) <;> omega
    · rw [if_neg hc]
      dsimp only
      refine ⟨?_, ?_, ?_, ?_⟩ <;> (try split) <;> omega
  · rw [if_neg hg]
    dsimp only
    omega

def eSign (neg : Bool) : List UInt8 := if neg then [45] else []
def eFrac (ds : List UInt8) (pr : Int) : List UInt8 :=
  if 0 < pr then 46 :: ((ds.drop 1).take pr.toNat ++ List.replicate (pr.toNat - ((ds.drop 1).take pr.toNat).length) 48) else []
def eExp (ds : List UInt8) (dp : Int) : Int := if ds = [] then 0 else dp - 1
def expL (e : Int) : List UInt8 :=
  (if e < 0 then 45 else 43) :: (if e.natAbs < 10 then [48, UInt8.ofNat (48 + e.natAbs)] else if e.natAbs < 100 then [UInt8.ofNat (48 + e.natAbs / 10), UInt8.ofNat (48 + e.natAbs % 10)]
    else [UInt8.ofNat (48 + e.natAbs / 100), UInt8.ofNat (48 + e.natAbs / 10 % 10), UInt8.ofNat (48 + e.natAbs % 10)])
/-- The format e. -/
def efgE (neg : Bool) (ds : List UInt8) (dp pr f : Int) : List UInt8 := eSign neg ++ ([ds.headD 48] ++ (eFrac ds pr ++ ([UInt8.ofNat f.toNat] ++ expL (eExp ds dp))))
def fInt (ds : List UInt8) (dp : Int) : List UInt8 := if 0 < dp then ds.take dp.toNat ++ List.replicate (dp.toNat - ds.length) 48 else [48]
def fLz (dp pr : Int) : Int := min pr (max 0 (-dp))
def fM (nd dp pr : Int) : Int := min (pr - fLz dp pr) (max 0 (nd - (dp + fLz dp pr)))
def fFrac (ds : List UInt8) (dp pr : Int) : List UInt8 :=
  if 0 < pr then 46 :: (List.replicate (fLz dp pr).toNat 48 ++ ((ds.drop (dp + fLz dp pr).toNat).take (fM ds.length dp pr).toNat ++ List.replicate (max 0 (pr - fLz dp pr - fM ds.length dp pr)).toNat 48)) else []
/-- The format f. -/
def efgF (neg : Bool) (ds : List UInt8) (dp pr : Int) : List UInt8 := eSign neg ++ (fInt ds dp ++ fFrac ds dp pr)
def efgL (neg : Bool) (ds : List UInt8) (dp pr f : Int) : List UInt8 :=
  if f = 101 ∨ f = 69 then efgE neg ds dp pr f else if f = 102 then efgF neg ds dp pr else [37, UInt8.ofNat f.toNat]

set_option maxRecDepth 100000 in
set_option maxHeartbeats 4000000 in
theorem fmtEFG_any (T : Nat) (neg sh : Bool) (dst s : Value) (ds : List UInt8) (dp nd prec f : Int) (xs : List UInt8) (w : World) (he : Env T w) (hown : OwnB T w dst xs) (hdig : Dig w dst s ds) (hnd : nd = (ds.length : Int)) (hdp0 : ds = [] → dp = 0 ∨ ∃ g L c, s = .slice (some ⟨g, 0, none⟩) L c ∧ L ≤ c ∧ c ≤ 100000)
    (hx : xs.length ≤ 140737489000000) (hf1 : 0 ≤ f) (hf2 : f ≤ 255) (hd1 : -900 ≤ dp) (hd2 : dp ≤ 900) (hn1 : 0 ≤ nd) (hn2 : nd ≤ 800) (hp1 : -9223372036854775808 ≤ prec) (hpw : -100000 ≤ prec ∨ (f ≠ 103 ∧ f ≠ 71) ∨ (dp = 0 ∧ sh = true)) (hp2 : prec ≤ 100000) :
    Calls Tryz.prog 133 #[dst, .bool neg, s, .int .i64 dp, .int .i64 nd, .int .i64 prec, .int .u8 f, .bool sh] w fun e w' =>
      ∃ v', e = .returned v' ∧ OwnB T w' v' (xs ++ efgL neg ds dp (gAdj dp nd prec f sh).1 (gAdj dp nd prec f sh).2) ∧ Stp w dst w' v' := by
  have HND := Lib.hid hnd
  have HDP := Lib.hid hdp0
  have hap := Ap.start hown he hdig
  clear hnd hdp0 hown he hdig
  refine calls_F Tryz.func133 rfl (by rw [Tryz.ntmps133]; simp) ?_
  intro σ hσ
  rw [Tryz.ntmps133]
  have s0 : σ 0 = dst := hσ 0 (by simp)
  have s1 : σ 1 = .bool neg := hσ 1 (by simp)
  have s2 : σ 2 = s := hσ 2 (by simp)
  have s3 : σ 3 = .int .i64 dp := hσ 3 (by simp)
  have s4 : σ 4 = .int .i64 nd := hσ 4 (by simp)
  have s5 : σ 5 = .int .i64 prec := hσ 5 (by simp)
  have s6 : σ 6 = .int .u8 f := hσ 6 (by simp)
  have s7 : σ 7 = .bool sh := hσ 7 (by simp)
  clear hσ
  go_upto_region 1 with fail
  -- the format g: precision and format
  refine cut_F (fun s' w' => s' 0 = dst ∧ s' 1 = .bool neg ∧ s' 2 = s ∧ s' 3 = .int .i64 dp ∧ s' 4 = .int .i64 nd ∧ s' 5 = .int .i64 prec ∧ s' 6 = .int .u8 f ∧ s' 7 = .bool sh ∧ s' 36 = .bool (isGB f) ∧ w = w') ?_ ?_
  · intro R' K' HR hK'
    by_cases h3 : f = 103
    · subst h3
      go_wp2_with fail
      exact got HR (by simp [over_cons, over_nil, isGB, *])
    · have h1 : (f == 103) = false := by rw [beq_eq_false_iff_ne]; omega
      go_wp2_with fail
      exact got HR (by simp [over_cons, over_nil, isGB, *])
  clear s0 s1 s2 s3 s4 s5 s6 s7 σ
  rintro σ w' ⟨s0, s1, s2, s3, s4, s5, s6, s7, s36, rfl⟩
  go_wp2_with fail
  refine cut_F (fun s' w' => s' 0 = dst ∧ s' 1 = .bool neg ∧ s' 2 = s ∧ s' 3 = .int .i64 dp ∧ s' 4 = .int .i64 nd ∧ s' 5 = .int .i64 (gAdj dp nd prec f sh).1 ∧ s' 6 = .int .u8 (gAdj dp nd prec f sh).2 ∧ s' 7 = .bool sh ∧ w = w') ?_ ?_
  · intro R' K' HR hK'
    refine cond_F (isGB f) (by simp [over_nil, s36]) (by decide) (fun hg => ?_) (fun hg => ?_)
    · have hg' : f = 103 ∨ f = 71 := by simp only [isGB, Bool.or_eq_true, beq_iff_eq] at hg; exact hg
      have hfl : f ≤ 103 := by omega
      have hfg : 71 ≤ f := by omega
      have hge : gAdj dp nd prec f sh = if dp - 1 < -4 ∨ gEp dp nd prec sh ≤ dp - 1 then ((if nd < prec then nd else prec) - 1, f - 2) else (max ((if dp < prec then nd else prec) - dp) 0, 102) := by
        unfold gAdj; rw [if_pos hg']
      obtain ⟨ep, hep⟩ : ∃ ep : Int, gEp dp nd prec sh = ep := ⟨_, rfl⟩
      rw [hep] at hge
      have hwg : -100000 ≤ prec ∨ (dp = 0 ∧ sh = true) := by
        rcases hpw with h | h | h
        · exact Or.inl h
        · omega
        · exact Or.inr h
      have hepb : -100000 ≤ ep ∧ ep ≤ 100000 := by
        rw [← hep]; unfold gEp
        rcases hwg with h | ⟨_, h⟩
        · constructor <;> (repeat' split) <;> omega
        · rw [h]; simp
      have hfit : -9223372036854775808 ≤ prec - dp := by omega
      have HWG := Lib.hid hwg
      clear hwg hpw hg hg'
      have HGE := Lib.hid hge
      have HEP := Lib.hid hep
      clear hge hep
      go_upto_region 3 with fail
      refine cut_F (fun s' w' => s' 0 = dst ∧ s' 1 = .bool neg ∧ s' 2 = s ∧ s' 3 = .int .i64 dp ∧ s' 4 = .int .i64 nd ∧ s' 5 = .int .i64 prec ∧ s' 6 = .int .u8 f ∧ s' 7 = .bool sh ∧ s' 17 = .int .i64 prec ∧ s' 45 = .bool (decide (nd < prec ∧ dp ≤ nd)) ∧ w = w') ?_ ?_
      · intro R2 K2 HR hK2
        by_cases h1 : nd < prec
        · go_wp2_with fail
          exact got HR (by simp [ov, *])
        · have h1' : decide (nd < prec) = false := by simpa using h1
          go_wp2_with fail
          exact got HR (by simp [ov, *])
      clear s0 s1 s2 s3 s4 s5 s6 s7 s36 σ
      rintro σ w' ⟨s0, s1, s2, s3, s4, s5, s6, s7, s17, s45, rfl⟩
      go_wp2_with fail
      refine cut_F (fun s' w' => s' 0 = dst ∧ s' 1 = .bool neg ∧ s' 2 = s ∧ s' 3 = .int .i64 dp ∧ s' 4 = .int .i64 nd ∧ s' 5 = .int .i64 prec ∧ s' 6 = .int .u8 f ∧ s' 7 = .bool sh ∧ s' 17 = .int .i64 (if nd < prec ∧ dp ≤ nd then nd else prec) ∧ w = w') ?_ ?_
      · intro R2 K2 HR hK2
        refine cond_F _ (by rw [over_nil, s45]) (by decide) (fun h => ?_) (fun h => ?_)
        · have h' : nd < prec ∧ dp ≤ nd := by simpa using h
          go_wp2_with fail
          exact got HR (by simp [ov, *])
        · have h' : ¬ (nd < prec ∧ dp ≤ nd) := by simpa using h
          go_wp2_with fail
          exact got HR (by simp [over_nil, if_neg h', *])
      clear s0 s1 s2 s3 s4 s5 s6 s7 s17 s45 σ
      rintro σ w' ⟨s0, s1, s2, s3, s4, s5, s6, s7, s17, rfl⟩
      go_wp2_with fail
      refine cut_F (fun s' w' => s' 0 = dst ∧ s' 1 = .bool neg ∧ s' 2 = s ∧ s' 3 = .int .i64 dp ∧ s' 4 = .int .i64 nd ∧ s' 5 = .int .i64 prec ∧ s' 6 = .int .u8 f ∧ s' 7 = .bool sh ∧ s' 17 = .int .i64 ep ∧ w = w') ?_ ?_
      · intro R2 K2 HR hK2
        refine cond_F sh (by simp [ov, *]) (by decide) (fun h => ?_) (fun h => ?_)
        · subst h
          have h' : ep = 6 := by rw [← HEP.out]; simp [gEp]
          go_wp2_with fail
          exact got HR (by simp [ov, *])
        · subst h
          have h' : ep = if nd < prec ∧ dp ≤ nd then nd else prec := by rw [← HEP.out]; simp [gEp]
          go_wp2_with fail
          exact got HR (by simp [ov, *])
      clear s0 s1 s2 s3 s4 s5 s6 s7 s17 σ
      rintro σ w' ⟨s0, s1, s2, s3, s4, s5, s6, s7, s17, rfl⟩
      go_upto_region 8 with fail
      refine cut_F (fun s' w' => s' 0 = dst ∧ s' 1 = .bool neg ∧ s' 2 = s ∧ s' 3 = .int .i64 dp ∧ s' 4 = .int .i64 nd ∧ s' 5 = .int .i64 prec ∧ s' 6 = .int .u8 f ∧ s' 7 = .bool sh ∧ s' 56 = .bool (decide (dp - 1 < -4 ∨ ep ≤ dp - 1)) ∧ w = w') ?_ ?_
      · intro R2 K2 HR hK2
        by_cases h1 : dp - 1 < -4
        · go_wp2_with fail
          exact got HR (by simp [ov, *])
        · have h1' : decide (dp - 1 < -4) = false := by simpa using h1
          go_wp2_with fail
          exact got HR (by simp [ov, *])
      clear s0 s1 s2 s3 s4 s5 s6 s7 s17 σ
      rintro σ w' ⟨s0, s1, s2, s3, s4, s5, s6, s7, s56, rfl⟩
      go_wp2_with fail
      refine cond_F _ (by rw [over_nil, s56]) (by decide) (fun h => ?_) (fun h => ?_)
      · have h' : dp - 1 < -4 ∨ ep ≤ dp - 1 := by simpa using h
        have hw : -100000 ≤ prec := by
          rcases HWG.out with h | ⟨h1, h2⟩
          · exact h
          · have h3 := HEP.out
            rw [h2] at h3
            simp [gEp] at h3
            omega
        have hge := HGE.out
        rw [if_pos h'] at hge
        clear h h'
        by_cases h5 : nd < prec
        all_goals
          first | rw [if_pos h5] at hge | rw [if_neg h5] at hge
          have HG2 := Lib.hid hge
          clear hge
          ((repeat (go_wp2_with fail; first | (refine cond_yes ?hc (by decide) ?_; (case hc => (simp [ov, *]; done))) | (refine cond_no ?hc (by decide) ?_; (case hc => (simp [ov, *]; done))))); go_wp2_with fail)
          refine got HR ?_
          rw [HG2.out]
          simp [ov, *]
          omega
      · have h' : ¬ (dp - 1 < -4 ∨ ep ≤ dp - 1) := by simpa using h
        have hge := HGE.out
        rw [if_neg h'] at hge
        clear h h'
        by_cases h5 : dp < prec
        all_goals
          first | rw [if_pos h5] at hge | rw [if_neg h5] at hge
          have HG2 := Lib.hid hge
          clear hge
          ((repeat (go_wp2_with fail; first | (refine cond_yes ?hc (by decide) ?_; (case hc => (simp [ov, *]; done))) | (refine cond_no ?hc (by decide) ?_; (case hc => (simp [ov, *]; done))))); go_wp2_with fail)
          refine got HR ?_
          rw [HG2.out]
          simp [ov, *]
    · have hg' : ¬ (f = 103 ∨ f = 71) := by simp only [isGB, Bool.or_eq_false_iff, beq_eq_false_iff_ne] at hg; omega
      go_wp2_with fail
      refine got HR ?_
      simp [over_nil, gAdj, hg', *]
  clear s0 s1 s2 s3 s4 s5 s6 s7 s36 σ
  rintro σ w' ⟨s0, s1, s2, s3, s4, s5, s6, s7, rfl⟩
  have hbd := gAdj_bd dp nd prec f sh hd1 hd2 hn1 hn2 hp1 hpw hp2 hf1 hf2
  generalize hpr : (gAdj dp nd prec f sh).1 = pr at s5 hbd
  generalize hfc : (gAdj dp nd prec f sh).2 = fc at s6 hbd
  have HPR := Lib.hid hpr
  have HFC := Lib.hid hfc
  clear hpr hfc
  obtain ⟨hq1, hq2, hc1, hc2⟩ := hbd
  clear hf1 hf2 hp1 hp2 hpw
  -- which format
  go_wp2_with fail
  refine cut_F (fun s' w' => s' 0 = dst ∧ s' 1 = .bool neg ∧ s' 2 = s ∧ s' 3 = .int .i64 dp ∧ s' 4 = .int .i64 nd ∧ s' 5 = .int .i64 pr ∧ s' 6 = .int .u8 fc ∧ s' 7 = .bool sh ∧ s' 74 = .int .u8 fc ∧ s' 75 = .bool (decide (fc = 101 ∨ fc = 69)) ∧ w = w') ?_ ?_
  · intro R' K' HR hK'
    by_cases h3 : fc = 101
    · have h1 : (fc == 101) = true := by rw [beq_iff_eq]; exact h3
      ((repeat (go_wp2_with fail; first | (refine cond_yes ?hc (by decide) ?_; (case hc => (simp [ov, *]; done))) | (refine cond_no ?hc (by decide) ?_; (case hc => (simp [ov, *]; done))))); go_wp2_with fail)
      exact got HR (by simp [over_cons, over_nil, h3, *])
    · have h1 : (fc == 101) = false := by rw [beq_eq_false_iff_ne]; exact h3
      ((repeat (go_wp2_with fail; first | (refine cond_yes ?hc (by decide) ?_; (case hc => (simp [ov, *]; done))) | (refine cond_no ?hc (by decide) ?_; (case hc => (simp [ov, *]; done))))); go_wp2_with fail)
      exact got HR (by simp [over_cons, over_nil, h3, *]; rfl)
  clear s0 s1 s2 s3 s4 s5 s6 s7 σ
  rintro σ w' ⟨s0, s1, s2, s3, s4, s5, s6, s7, s74, s75, rfl⟩
  go_wp2_with fail
  refine cond_F _ (by rw [over_nil, s75]) (by decide) (fun h => ?_) (fun h => ?_)
  · -- the format e
    have hE : fc = 101 ∨ fc = 69 := by simpa using h
    have hfin : efgL neg ds dp pr fc = efgE neg ds dp pr fc := by unfold efgL; rw [if_pos hE]
    have HFIN := Lib.hid hfin
    clear h hE hfin s74 s75
    go_wp2_with fail
    refine cut_F (fun s' w' => ∃ v, s' 0 = v ∧ Ap T w dst s ds w' v (xs ++ eSign neg) ∧ s' 2 = s ∧ s' 3 = .int .i64 dp ∧ s' 4 = .int .i64 nd ∧ s' 5 = .int .i64 pr ∧ s' 6 = .int .u8 fc) ?_ ?_
    · intro R' K' HR hK'
      refine cond_F neg (by simp [ov, *]) (by decide) (fun h => ?_) (fun h => ?_)
      · subst h
        go_wp2_with (at_builtin; refine wpList_appF rfl _ _ _ _ rfl (by decide) (by decide) byteTy (hap.own.alloc _) (by simp [ov, *]) _ (by simp [ov, *]) [45] (src_new Tryz.underlying51 [45] _) (by simp only [List.length_append, List.length_cons, List.length_nil, List.length_replicate] at *; omega) ?_; intro v w' ho1 hs1; replace hap := hap.step ho1 hs1; clear ho1 hs1)
        exact got HR ⟨v, by simp [ov, *], hap, by simp [ov, *], by simp [ov, *], by simp [ov, *], by simp [ov, *], by simp [ov, *]⟩
      · subst h
        go_wp2_with fail
        exact got HR ⟨dst, by simp [ov, *], hap.to (by simp [eSign]), by simp [ov, *], by simp [ov, *], by simp [ov, *], by simp [ov, *], by simp [ov, *]⟩
    clear s0 s1 s2 s3 s4 s5 s6 s7 σ hap
    rintro σ w1 ⟨v1, s0, hap, s2, s3, s4, s5, s6⟩
    have hsl : (eSign neg).length ≤ 1 := by cases neg <;> simp [eSign]
    obtain ⟨sg, hsg⟩ : ∃ sg, eSign neg = sg := ⟨_, rfl⟩
    rw [hsg] at hap hsl
    obtain ⟨c0, hc0⟩ : ∃ c0, ds.headD 48 = c0 := ⟨_, rfl⟩
    have HSG := Lib.hid hsg
    have HC0 := Lib.hid hc0
    clear hsg hc0
    -- the first digit
    go_wp2_with fail
    refine cut_F (fun s' w' => s' 0 = v1 ∧ s' 2 = s ∧ s' 3 = .int .i64 dp ∧ s' 4 = .int .i64 nd ∧ s' 5 = .int .i64 pr ∧ s' 6 = .int .u8 fc ∧ s' 19 = .int .u8 (c0.toNat : Int) ∧ w1 = w') ?_ ?_
    · intro R' K' HR hK'
      by_cases hds : ds = []
      · have hn0 : (nd != 0) = false := by rw [HND.out, hds]; decide
        have h48 : (c0.toNat : Int) = 48 := by rw [← HC0.out, hds]; rfl
        ((repeat (go_wp2_with fail; first | (refine cond_yes ?hc (by decide) ?_; (case hc => (simp [ov, *]; done))) | (refine cond_no ?hc (by decide) ?_; (case hc => (simp [ov, *]; done))))); go_wp2_with fail)
        exact got HR (by simp [ov, *])
      · have hlp : 0 < ds.length := List.length_pos_iff.2 hds
        have hn0 : (nd != 0) = true := by rw [HND.out, bne_iff_ne]; omega
        obtain ⟨g, L, c, hs, hL1, hL2, hL3, hcell⟩ := hap.dig.at 0 hlp
        have hc : ds.getD 0 0 = c0 := by
          rw [← HC0.out]; cases ds with
          | nil => exact absurd rfl hds
          | cons a l => rfl
        rw [hc] at hcell
        unfold encB at hcell
        rw [hs] at s2
        have HS := Lib.hid hs
        have hL0 : 0 < L := by omega
        clear hc hs hds
        ((repeat (go_wp2_with fail; first | (refine cond_yes ?hc (by decide) ?_; (case hc => (simp [ov, *]; done))) | (refine cond_no ?hc (by decide) ?_; (case hc => (simp [ov, *]; done))))); go_wp2_with fail)
        exact got HR (by simp [over_cons, over_nil, HS.out, *])
    clear s0 s2 s3 s4 s5 s6 σ
    rintro σ w' ⟨s0, s2, s3, s4, s5, s6, s19, rfl⟩
    -- behind the point
    go_wp2_with (at_builtin; refine wpList_appF rfl _ _ _ _ rfl (by decide) (by decide) byteTy (hap.own.alloc _) (by simp [ov, *]) _ (by simp [ov, *]) [c0] (src_new Tryz.underlying51 [c0] _) (by simp only [List.length_append, List.length_cons, List.length_nil, List.length_replicate] at *; omega) ?_; intro v w' ho1 hs1; replace hap := hap.step ho1 hs1; clear ho1 hs1)
    refine cut_F (fun s' w' => ∃ v, s' 0 = v ∧ Ap T w dst s ds w' v (xs ++ sg ++ [c0] ++ eFrac ds pr) ∧ s' 3 = .int .i64 dp ∧ s' 4 = .int .i64 nd ∧ s' 6 = .int .u8 fc) ?_ ?_
    · intro R' K' HR hK'
      by_cases hp : 0 < pr
      · obtain ⟨tk, htk⟩ : ∃ tk, (ds.drop 1).take pr.toNat = tk := ⟨_, rfl⟩
        have htl : tk.length = min (ds.length - 1) pr.toNat := by rw [← htk, List.length_take, List.length_drop, Nat.min_comm]
        have hfr : eFrac ds pr = [46] ++ (tk ++ List.replicate (pr.toNat - tk.length) 48) := by
          unfold eFrac; rw [if_pos hp, htk]; rfl
        have HFR := Lib.hid hfr
        have HTK := Lib.hid htk
        have HTL := Lib.hid htl
        clear hfr htk htl
        refine cond_yes (by simp [ov, *]) (by decide) ?_
        go_wp2_with (at_builtin; refine wpList_appF rfl _ _ _ _ rfl (by decide) (by decide) byteTy (hap.own.alloc _) (by simp [ov, *]) _ (by simp [ov, *]) [46] (src_new Tryz.underlying51 [46] _) (by simp only [List.length_append, List.length_cons, List.length_nil, List.length_replicate] at *; omega) ?_; intro v w' ho1 hs1; replace hap := hap.step ho1 hs1; clear ho1 hs1)
        refine cut_F (fun s' w' => ∃ v, s' 0 = v ∧ Ap T w dst s ds w' v (xs ++ sg ++ [c0] ++ [46] ++ tk) ∧ s' 3 = .int .i64 dp ∧ s' 4 = .int .i64 nd ∧ s' 5 = .int .i64 pr ∧ s' 6 = .int .u8 fc ∧ s' 20 = .int .i64 (1 + (tk.length : Int))) ?_ ?_
        · intro R2 K2 HR2 hK2
          by_cases hm : 1 < min nd (pr + 1)
          · have hnm : min nd (pr + 1) = 1 + (tk.length : Int) := by rw [HTL.out, HND.out]; rw [HND.out] at hm; omega
            have hlen : 1 + tk.length ≤ ds.length := by rw [HTL.out]; rw [HND.out] at hm; omega
            have hne : ds ≠ [] := by intro e; rw [e] at hlen; simp at hlen
            obtain ⟨g, L, c, hs, hL1, hL2, hL3, hsrc⟩ := hap.dig.piece (P := Tryz.prog) (tx := 51) Tryz.underlying51 1 tk.length hlen hne
            have htk2 : (ds.drop 1).take tk.length = tk := by
              have := HTK.out
              rw [← this, List.length_take, ← List.take_take, List.take_length] <;> simp
            have hsrc2 := hsrc (c - 1)
            rw [htk2] at hsrc2
            have HSRC := Lib.hid hsrc2
            rw [hs] at s2
            have HS := Lib.hid hs
            have htb : tk.length ≤ 800 := by omega
            have hmc : (1 : Int) + tk.length ≤ c := by omega
            have hcne : ¬ c = 1 := by omega
            have hm1 : (1 : Int) < 1 + tk.length := by omega
            clear hsrc hsrc2 htk2 hs hne
            refine cond_yes (by simp [ov, *]) (by decide) ?_
            go_wp2_with (at_builtin; refine wpList_appF rfl _ _ _ _ rfl (by decide) (by decide) byteTy hap.own (by simp [ov, *]) _ (by simp [ov, *]) tk HSRC.out (by simp only [List.length_append, List.length_cons, List.length_nil, List.length_replicate] at *; omega) ?_; intro v w' ho1 hs1; replace hap := hap.step0 ho1 hs1; clear ho1 hs1)
            exact got HR2 ⟨v, by simp [ov, *], hap, by simp [ov, *], by simp [ov, *], by simp [ov, *], by simp [ov, *], by simp [ov, *]⟩
          · have hlen0 : tk.length = 0 := by rw [HTL.out]; rw [HND.out] at hm; omega
            have htk0 : tk = [] := List.length_eq_zero_iff.1 hlen0
            have hm' : decide (1 < min nd (pr + 1)) = false := by simpa using hm
            refine cond_no (by simp [ov, *]) (by decide) ?_
            go_wp2_with fail
            exact got HR2 ⟨v, by simp [ov, *], hap.to (by simp [htk0]), by simp [ov, *], by simp [ov, *], by simp [ov, *], by simp [ov, *], by simp [over_cons, over_nil, htk0]⟩
        clear s0 s2 s3 s4 s5 s6 s19 σ hap
        rintro σ w2 ⟨v2, s0, hap, s3, s4, s5, s6, s20⟩
        have htb : tk.length ≤ 800 := by have := HTL.out; rw [HND.out] at hn2; omega
        have htp : (tk.length : Int) ≤ pr := by have := HTL.out; omega
        obtain ⟨N, hN⟩ : ∃ N : Nat, pr.toNat - tk.length = N := ⟨_, rfl⟩
        have hNi : pr + 1 - (1 + (tk.length : Int)) = (N : Int) := by omega
        have hNb : N ≤ 100900 := by omega
        have HN := Lib.hid hN
        clear hN
        go_wp2_with fail
        refine loop_F (fun k s' w' => ∃ (j : Nat) (v : Value), j ≤ N ∧ k = N - j ∧ s' 114 = .int .i64 (j : Int) ∧ s' 113 = .int .i64 (N : Int) ∧ s' 0 = v ∧ Ap T w dst s ds w' v (xs ++ sg ++ [c0] ++ [46] ++ tk ++ List.replicate j 48) ∧ s' 3 = .int .i64 dp ∧ s' 4 = .int .i64 nd ∧ s' 6 = .int .u8 fc) N ⟨0, _, Nat.zero_le _, rfl, by simp [over_cons, over_nil], by simp [ov, *], rfl, (hap.to (by simp)).at (by simp [ov, *]), by simp [ov, *], by simp [ov, *], by simp [ov, *]⟩ ?_
        ((try clear s0); (try clear s1); (try clear s2); (try clear s3); (try clear s4); (try clear s5); (try clear s6); (try clear s7); (try clear s16); (try clear s17); (try clear s18); (try clear s19); (try clear s20); (try clear s21); (try clear s22); (try clear s23); (try clear s24); (try clear s25); (try clear s26); (try clear s27); (try clear s28); (try clear s29); (try clear s30); (try clear s36); (try clear s45); (try clear s56); (try clear s74); (try clear s75); (try clear hap); (try clear σ))
        rintro k σ wk ⟨j, vk, hj, rfl, sc, sl, s0, hap, s3, s4, s6⟩ RK KK HRK hKK
        by_cases hjl : j < N
        · ((repeat (go_wp2_with (at_builtin; refine wpList_appF rfl _ _ _ _ rfl (by decide) (by decide) byteTy (hap.own.alloc _) (by simp [ov, *]) _ (by simp [ov, *]) [48] (src_new Tryz.underlying51 [48] _) (by simp only [List.length_append, List.length_cons, List.length_nil, List.length_replicate] at *; omega) ?_; intro v w' ho1 hs1; replace hap := hap.step ho1 hs1; clear ho1 hs1); first | (refine cond_yes ?hc (by decide) ?_; (case hc => (simp [ov, *]; done))) | (refine cond_no ?hc (by decide) ?_; (case hc => (simp [ov, *]; done))))); go_wp2_with (at_builtin; refine wpList_appF rfl _ _ _ _ rfl (by decide) (by decide) byteTy (hap.own.alloc _) (by simp [ov, *]) _ (by simp [ov, *]) [48] (src_new Tryz.underlying51 [48] _) (by simp only [List.length_append, List.length_cons, List.length_nil, List.length_replicate] at *; omega) ?_; intro v w' ho1 hs1; replace hap := hap.step ho1 hs1; clear ho1 hs1))
          exact gotk HRK (N - (j + 1)) (by omega) ⟨j + 1, v, by omega, rfl, by simp [over_cons, over_nil], by simp [ov, *], by simp [over_cons, over_nil], hap.to (by simp [List.replicate_succ']), by simp [ov, *], by simp [ov, *], by simp [ov, *]⟩
        have hjN : j = N := by omega
        have hjf : decide (j < N) = false := by simpa using hjl
        ((repeat (go_wp2_with fail; first | (refine cond_yes ?hc (by decide) ?_; (case hc => (simp [ov, *]; done))) | (refine cond_no ?hc (by decide) ?_; (case hc => (simp [ov, *]; done))))); go_wp2_with fail)
        obtain ⟨v, hv⟩ : ∃ v, v = vk := ⟨_, rfl⟩
        subst hv
        exact got HR ⟨v, by simp [ov, *], hap.to (by rw [HFR.out, HN.out, ← hjN]; simp), by simp [ov, *], by simp [ov, *], by simp [ov, *]⟩
      · have hfr : eFrac ds pr = [] := by unfold eFrac; rw [if_neg hp]
        have hp' : decide (0 < pr) = false := by simpa using hp
        refine cond_no (by simp [ov, *]) (by decide) ?_
        go_wp2_with fail
        exact got HR ⟨v, by simp [ov, *], hap.to (by simp [hfr]), by simp [ov, *], by simp [ov, *], by simp [ov, *]⟩
    clear s0 s2 s3 s4 s5 s6 s19 σ hap
    rintro σ w2 ⟨v2, s0, hap, s3, s4, s6⟩
    have hfl : (eFrac ds pr).length ≤ 201900 := by
      unfold eFrac; split
      · simp only [List.length_cons, List.length_append, List.length_replicate, List.length_take, List.length_drop]; omega
      · simp
    obtain ⟨fr, hfr⟩ : ∃ fr, eFrac ds pr = fr := ⟨_, rfl⟩
    rw [hfr] at hap hfl
    have HFR := Lib.hid hfr
    obtain ⟨ex, hex⟩ : ∃ ex, eExp ds dp = ex := ⟨_, rfl⟩
    have hexb : -901 ≤ ex ∧ ex ≤ 899 := by rw [← hex]; unfold eExp; split <;> omega
    have HEX := Lib.hid hex
    clear hfr hex
    -- the exponent
    go_wp2_with (at_builtin; refine wpList_appF rfl _ _ _ _ rfl (by decide) (by decide) byteTy (hap.own.alloc _) (by simp [ov, *]) _ (by simp [ov, *]) [UInt8.ofNat (fc).toNat] (src_one_at Tryz.underlying51 (fc) hc1 (by omega) _) (by simp only [List.length_append, List.length_cons, List.length_nil, List.length_replicate] at *; omega) ?_; intro v w' ho1 hs1; replace hap := hap.step ho1 hs1; clear ho1 hs1)
    refine cut_F (fun s' w2 => s' 0 = v ∧ s' 22 = .int .i64 ex ∧ w' = w2) ?_ ?_
    · intro R' K' HR hK'
      by_cases hds : ds = []
      · have hn0 : (nd == 0) = true := by rw [HND.out, hds]; decide
        have he0 : ex = 0 := by rw [← HEX.out]; unfold eExp; rw [if_pos hds]
        ((repeat (go_wp2_with fail; first | (refine cond_yes ?hc (by decide) ?_; (case hc => (simp [ov, *]; done))) | (refine cond_no ?hc (by decide) ?_; (case hc => (simp [ov, *]; done))))); go_wp2_with fail)
        exact got HR (by simp [ov, *])
      · have hlp : 0 < ds.length := List.length_pos_iff.2 hds
        have hn0 : (nd == 0) = false := by rw [HND.out, beq_eq_false_iff_ne]; omega
        have he0 : ex = dp - 1 := by rw [← HEX.out]; unfold eExp; rw [if_neg hds]
        ((repeat (go_wp2_with fail; first | (refine cond_yes ?hc (by decide) ?_; (case hc => (simp [ov, *]; done))) | (refine cond_no ?hc (by decide) ?_; (case hc => (simp [ov, *]; done))))); go_wp2_with fail)
        exact got HR (by simp [ov, *])
    ((try clear s0); (try clear s1); (try clear s2); (try clear s3); (try clear s4); (try clear s5); (try clear s6); (try clear s7); (try clear s16); (try clear s17); (try clear s18); (try clear s19); (try clear s20); (try clear s21); (try clear s22); (try clear s23); (try clear s24); (try clear s25); (try clear s26); (try clear s27); (try clear s28); (try clear s29); (try clear s30); (try clear s36); (try clear s45); (try clear s56); (try clear s74); (try clear s75); (try clear σ))
    rintro σ w3 ⟨s0, s22, rfl⟩
    go_wp2_with fail
    obtain ⟨a, ha⟩ : ∃ a : Nat, ex.natAbs = a := ⟨_, rfl⟩
    have hab : a ≤ 901 := by omega
    obtain ⟨sc, hsc⟩ : ∃ sc : Int, (if ex < 0 then 45 else 43) = sc := ⟨_, rfl⟩
    have hsb : 43 ≤ sc ∧ sc ≤ 45 := by rw [← hsc]; split <;> omega
    have HA := Lib.hid ha
    have HSC := Lib.hid hsc
    clear ha hsc
    refine cut_F (fun s' w2 => s' 0 = v ∧ s' 22 = .int .i64 (a : Int) ∧ s' 19 = .int .u8 sc ∧ w' = w2) ?_ ?_
    · intro R' K' HR hK'
      by_cases hneg : ex < 0
      · have e1 : -ex = (a : Int) := by have := HA.out; omega
        have e2 : sc = 45 := by rw [← HSC.out, if_pos hneg]
        ((repeat (go_wp2_with fail; first | (refine cond_yes ?hc (by decide) ?_; (case hc => (simp [ov, *]; done))) | (refine cond_no ?hc (by decide) ?_; (case hc => (simp [ov, *]; done))))); go_wp2_with fail)
        exact got HR (by simp [ov, *])
      · have e1 : ex = (a : Int) := by have := HA.out; omega
        have e2 : sc = 43 := by rw [← HSC.out, if_neg hneg]
        have e3 : decide (ex < 0) = false := by simpa using hneg
        ((repeat (go_wp2_with fail; first | (refine cond_yes ?hc (by decide) ?_; (case hc => (simp [ov, *]; done))) | (refine cond_no ?hc (by decide) ?_; (case hc => (simp [ov, *]; done))))); go_wp2_with fail)
        exact got HR (by simp [ov, *])
    ((try clear s0); (try clear s1); (try clear s2); (try clear s3); (try clear s4); (try clear s5); (try clear s6); (try clear s7); (try clear s16); (try clear s17); (try clear s18); (try clear s19); (try clear s20); (try clear s21); (try clear s22); (try clear s23); (try clear s24); (try clear s25); (try clear s26); (try clear s27); (try clear s28); (try clear s29); (try clear s30); (try clear s36); (try clear s45); (try clear s56); (try clear s74); (try clear s75); (try clear σ))
    rintro σ w3 ⟨s0, s22, s19, rfl⟩
    have hsc2 : sc = ((if ex < 0 then (45 : UInt8) else 43).toNat : Int) := by rw [← HSC.out]; split <;> rfl
    have HSC2 := Lib.hid hsc2
    clear hsc2
    have hfinal : ∀ tl : List UInt8, (a < 10 → tl = [48, UInt8.ofNat (48 + a)]) → (¬ a < 10 → a < 100 → tl = [UInt8.ofNat (48 + a / 10), UInt8.ofNat (48 + a % 10)]) → (¬ a < 100 → tl = [UInt8.ofNat (48 + a / 100), UInt8.ofNat (48 + a / 10 % 10), UInt8.ofNat (48 + a % 10)]) →
        xs ++ sg ++ [c0] ++ fr ++ [UInt8.ofNat fc.toNat] ++ [UInt8.ofNat sc.toNat] ++ tl = xs ++ efgL neg ds dp (gAdj dp nd prec f sh).1 (gAdj dp nd prec f sh).2 := by
      intro tl h1 h2 h3
      rw [HPR.out, HFC.out, HFIN.out]
      unfold efgE expL
      rw [HSG.out, HC0.out, HFR.out, HEX.out, HA.out]
      have : UInt8.ofNat sc.toNat = if ex < 0 then 45 else 43 := by rw [HSC2.out]; simp
      rw [this]
      by_cases g1 : a < 10
      · rw [if_pos g1, h1 g1]; simp
      · rw [if_neg g1]
        by_cases g2 : a < 100
        · rw [if_pos g2, h2 g1 g2]; simp
        · rw [if_neg g2, h3 g2]; simp
    have HFINAL := Lib.hid hfinal
    clear hfinal
    by_cases h10 : a < 10
    · have h10i : (a : Int) < 10 := by omega
      ((repeat (go_wp2_with (first | (at_builtin; refine wpList_appF rfl _ _ _ _ rfl (by decide) (by decide) byteTy (hap.own.alloc _) (by simp [ov, *]) _ (by simp [ov, *]) [UInt8.ofNat (sc).toNat] (src_one_at Tryz.underlying51 (sc) (by omega) (by omega) _) (by simp only [List.length_append, List.length_cons, List.length_nil, List.length_replicate] at *; omega) ?_; intro v w' ho1 hs1; replace hap := hap.step ho1 hs1; clear ho1 hs1) | (at_builtin; refine wpList_appF rfl _ _ _ _ rfl (by decide) (by decide) byteTy (hap.own.alloc _) (by simp [ov, *]) _ (by simp [ov, *]) [UInt8.ofNat ((48 : Int)).toNat, UInt8.ofNat ((a : Int) + 48).toNat] (src_two_at Tryz.underlying51 ((48 : Int)) ((a : Int) + 48) (by omega) (by omega) (by omega) (by omega) _) (by simp only [List.length_append, List.length_cons, List.length_nil, List.length_replicate] at *; omega) ?_; intro v w' ho1 hs1; replace hap := hap.step ho1 hs1; clear ho1 hs1)); first | (refine cond_yes ?hc (by decide) ?_; (case hc => (simp [ov, *]; done))) | (refine cond_no ?hc (by decide) ?_; (case hc => (simp [ov, *]; done))))); go_wp2_with (first | (at_builtin; refine wpList_appF rfl _ _ _ _ rfl (by decide) (by decide) byteTy (hap.own.alloc _) (by simp [ov, *]) _ (by simp [ov, *]) [UInt8.ofNat (sc).toNat] (src_one_at Tryz.underlying51 (sc) (by omega) (by omega) _) (by simp only [List.length_append, List.length_cons, List.length_nil, List.length_replicate] at *; omega) ?_; intro v w' ho1 hs1; replace hap := hap.step ho1 hs1; clear ho1 hs1) | (at_builtin; refine wpList_appF rfl _ _ _ _ rfl (by decide) (by decide) byteTy (hap.own.alloc _) (by simp [ov, *]) _ (by simp [ov, *]) [UInt8.ofNat ((48 : Int)).toNat, UInt8.ofNat ((a : Int) + 48).toNat] (src_two_at Tryz.underlying51 ((48 : Int)) ((a : Int) + 48) (by omega) (by omega) (by omega) (by omega) _) (by simp only [List.length_append, List.length_cons, List.length_nil, List.length_replicate] at *; omega) ?_; intro v w' ho1 hs1; replace hap := hap.step ho1 hs1; clear ho1 hs1)))
      refine ret_F v rfl (by decide) (by simp [over_cons]) ⟨v, rfl, ?_, hap.stp⟩
      exact cast (congrArg (OwnB T w' v) (HFINAL.out _ (fun _ => by rw [show ((48 : Int)).toNat = 48 from rfl, show ((a : Int) + 48).toNat = 48 + a by omega]; rfl) (fun h => absurd h10 h) (fun h => absurd (by omega) h))) hap.own
    · have h10' : decide ((a : Int) < 10) = false := by simp; omega
      by_cases h100 : a < 100
      · have h100i : (a : Int) < 100 := by omega
        ((repeat (go_wp2_with (first | (at_builtin; refine wpList_appF rfl _ _ _ _ rfl (by decide) (by decide) byteTy (hap.own.alloc _) (by simp [ov, *]) _ (by simp [ov, *]) [UInt8.ofNat (sc).toNat] (src_one_at Tryz.underlying51 (sc) (by omega) (by omega) _) (by simp only [List.length_append, List.length_cons, List.length_nil, List.length_replicate] at *; omega) ?_; intro v w' ho1 hs1; replace hap := hap.step ho1 hs1; clear ho1 hs1) | (at_builtin; refine wpList_appF rfl _ _ _ _ rfl (by decide) (by decide) byteTy (hap.own.alloc _) (by simp [ov, *]) _ (by simp [ov, *]) [UInt8.ofNat ((a : Int) / 10 + 48).toNat, UInt8.ofNat ((a : Int) % 10 + 48).toNat] (src_two_at Tryz.underlying51 ((a : Int) / 10 + 48) ((a : Int) % 10 + 48) (by omega) (by omega) (by omega) (by omega) _) (by simp only [List.length_append, List.length_cons, List.length_nil, List.length_replicate] at *; omega) ?_; intro v w' ho1 hs1; replace hap := hap.step ho1 hs1; clear ho1 hs1)); first | (refine cond_yes ?hc (by decide) ?_; (case hc => (simp [ov, *]; done))) | (refine cond_no ?hc (by decide) ?_; (case hc => (simp [ov, *]; done))))); go_wp2_with (first | (at_builtin; refine wpList_appF rfl _ _ _ _ rfl (by decide) (by decide) byteTy (hap.own.alloc _) (by simp [ov, *]) _ (by simp [ov, *]) [UInt8.ofNat (sc).toNat] (src_one_at Tryz.underlying51 (sc) (by omega) (by omega) _) (by simp only [List.length_append, List.length_cons, List.length_nil, List.length_replicate] at *; omega) ?_; intro v w' ho1 hs1; replace hap := hap.step ho1 hs1; clear ho1 hs1) | (at_builtin; refine wpList_appF rfl _ _ _ _ rfl (by decide) (by decide) byteTy (hap.own.alloc _) (by simp [ov, *]) _ (by simp [ov, *]) [UInt8.ofNat ((a : Int) / 10 + 48).toNat, UInt8.ofNat ((a : Int) % 10 + 48).toNat] (src_two_at Tryz.underlying51 ((a : Int) / 10 + 48) ((a : Int) % 10 + 48) (by omega) (by omega) (by omega) (by omega) _) (by simp only [List.length_append, List.length_cons, List.length_nil, List.length_replicate] at *; omega) ?_; intro v w' ho1 hs1; replace hap := hap.step ho1 hs1; clear ho1 hs1)))
        refine ret_F v rfl (by decide) (by simp [over_cons]) ⟨v, rfl, ?_, hap.stp⟩
        exact cast (congrArg (OwnB T w' v) (HFINAL.out _ (fun h => absurd h h10) (fun _ _ => by rw [show ((a : Int) / 10 + 48).toNat = 48 + a / 10 by omega, show ((a : Int) % 10 + 48).toNat = 48 + a % 10 by omega]) (fun h => absurd h100 h))) hap.own
      · have h100' : decide ((a : Int) < 100) = false := by simp; omega
        ((repeat (go_wp2_with (first | (at_builtin; refine wpList_appF rfl _ _ _ _ rfl (by decide) (by decide) byteTy (hap.own.alloc _) (by simp [ov, *]) _ (by simp [ov, *]) [UInt8.ofNat (sc).toNat] (src_one_at Tryz.underlying51 (sc) (by omega) (by omega) _) (by simp only [List.length_append, List.length_cons, List.length_nil, List.length_replicate] at *; omega) ?_; intro v w' ho1 hs1; replace hap := hap.step ho1 hs1; clear ho1 hs1) | (at_builtin; refine wpList_appF rfl _ _ _ _ rfl (by decide) (by decide) byteTy (hap.own.alloc _) (by simp [ov, *]) _ (by simp [ov, *]) [UInt8.ofNat ((a : Int) / 100 + 48).toNat, UInt8.ofNat ((a : Int) / 10 % 10 + 48).toNat, UInt8.ofNat ((a : Int) % 10 + 48).toNat] (src_three_at Tryz.underlying51 ((a : Int) / 100 + 48) ((a : Int) / 10 % 10 + 48) ((a : Int) % 10 + 48) (by omega) (by omega) (by omega) (by omega) (by omega) (by omega) _) (by simp only [List.length_append, List.length_cons, List.length_nil, List.length_replicate] at *; omega) ?_; intro v w' ho1 hs1; replace hap := hap.step ho1 hs1; clear ho1 hs1)); first | (refine cond_yes ?hc (by decide) ?_; (case hc => (simp [ov, *]; done))) | (refine cond_no ?hc (by decide) ?_; (case hc => (simp [ov, *]; done))))); go_wp2_with (first | (at_builtin; refine wpList_appF rfl _ _ _ _ rfl (by decide) (by decide) byteTy (hap.own.alloc _) (by simp [ov, *]) _ (by simp [ov, *]) [UInt8.ofNat (sc).toNat] (src_one_at Tryz.underlying51 (sc) (by omega) (by omega) _) (by simp only [List.length_append, List.length_cons, List.length_nil, List.length_replicate] at *; omega) ?_; intro v w' ho1 hs1; replace hap := hap.step ho1 hs1; clear ho1 hs1) | (at_builtin; refine wpList_appF rfl _ _ _ _ rfl (by decide) (by decide) byteTy (hap.own.alloc _) (by simp [ov, *]) _ (by simp [ov, *]) [UInt8.ofNat ((a : Int) / 100 + 48).toNat, UInt8.ofNat ((a : Int) / 10 % 10 + 48).toNat, UInt8.ofNat ((a : Int) % 10 + 48).toNat] (src_three_at Tryz.underlying51 ((a : Int) / 100 + 48) ((a : Int) / 10 % 10 + 48) ((a : Int) % 10 + 48) (by omega) (by omega) (by omega) (by omega) (by omega) (by omega) _) (by simp only [List.length_append, List.length_cons, List.length_nil, List.length_replicate] at *; omega) ?_; intro v w' ho1 hs1; replace hap := hap.step ho1 hs1; clear ho1 hs1)))
        refine ret_F v rfl (by decide) (by simp [over_cons]) ⟨v, rfl, ?_, hap.stp⟩
        exact cast (congrArg (OwnB T w' v) (HFINAL.out _ (fun h => absurd h h10) (fun _ h => absurd h h100) (fun _ => by rw [show ((a : Int) / 100 + 48).toNat = 48 + a / 100 by omega, show ((a : Int) / 10 % 10 + 48).toNat = 48 + a / 10 % 10 by omega, show ((a : Int) % 10 + 48).toNat = 48 + a % 10 by omega]))) hap.own
  · -- the format f, or none
    have hE : ¬ (fc = 101 ∨ fc = 69) := by simpa using h
    by_cases hF : fc = 102
    · subst hF
      have hfin : efgL neg ds dp pr 102 = efgF neg ds dp pr := by unfold efgL; rw [if_neg (by decide), if_pos rfl]
      have HFIN := Lib.hid hfin
      clear h hE hfin s75
      ((repeat (go_wp2_with fail; first | (refine cond_yes ?hc (by decide) ?_; (case hc => (simp [ov, *]; done))) | (refine cond_no ?hc (by decide) ?_; (case hc => (simp [ov, *]; done))))); go_wp2_with fail)
      refine cut_F (fun s' w' => ∃ v, s' 0 = v ∧ Ap T w dst s ds w' v (xs ++ eSign neg) ∧ s' 2 = s ∧ s' 3 = .int .i64 dp ∧ s' 4 = .int .i64 nd ∧ s' 5 = .int .i64 pr) ?_ ?_
      · intro R' K' HR hK'
        refine cond_F neg (by simp [ov, *]) (by decide) (fun h => ?_) (fun h => ?_)
        · subst h
          go_wp2_with (at_builtin; refine wpList_appF rfl _ _ _ _ rfl (by decide) (by decide) byteTy (hap.own.alloc _) (by simp [ov, *]) _ (by simp [ov, *]) [45] (src_new Tryz.underlying51 [45] _) (by simp only [List.length_append, List.length_cons, List.length_nil, List.length_replicate] at *; omega) ?_; intro v w' ho1 hs1; replace hap := hap.step ho1 hs1; clear ho1 hs1)
          exact got HR ⟨v, by simp [ov, *], hap, by simp [ov, *], by simp [ov, *], by simp [ov, *], by simp [ov, *]⟩
        · subst h
          go_wp2_with fail
          exact got HR ⟨dst, by simp [ov, *], hap.to (by simp [eSign]), by simp [ov, *], by simp [ov, *], by simp [ov, *], by simp [ov, *]⟩
      ((try clear s0); (try clear s1); (try clear s2); (try clear s3); (try clear s4); (try clear s5); (try clear s6); (try clear s7); (try clear s16); (try clear s17); (try clear s18); (try clear s19); (try clear s20); (try clear s21); (try clear s22); (try clear s23); (try clear s24); (try clear s25); (try clear s26); (try clear s27); (try clear s28); (try clear s29); (try clear s30); (try clear s36); (try clear s45); (try clear s56); (try clear s74); (try clear s75); (try clear σ))
      clear hap
      rintro σ w1 ⟨v1, s0, hap, s2, s3, s4, s5⟩
      have hsl : (eSign neg).length ≤ 1 := by cases neg <;> simp [eSign]
      obtain ⟨sg, hsg⟩ : ∃ sg, eSign neg = sg := ⟨_, rfl⟩
      rw [hsg] at hap hsl
      have HSG := Lib.hid hsg
      clear hsg
      go_wp2_with fail
      refine cut_F (fun s' w' => ∃ v, s' 0 = v ∧ Ap T w dst s ds w' v (xs ++ sg ++ fInt ds dp) ∧ s' 2 = s ∧ s' 3 = .int .i64 dp ∧ s' 4 = .int .i64 nd ∧ s' 5 = .int .i64 pr) ?_ ?_
      · intro R' K' HR hK'
        by_cases hdp : 0 < dp
        · have hex : ∃ g L c, s = .slice (some ⟨g, 0, none⟩) L c ∧ ds.length ≤ L ∧ L ≤ c ∧ c ≤ 100000 := by
            by_cases hne : ds = []
            · rcases HDP.out hne with h0 | ⟨g, L, c, h1, h2, h3⟩
              · omega
              · exact ⟨g, L, c, h1, by rw [hne]; simp, h2, h3⟩
            · have hlp : 0 < ds.length := List.length_pos_iff.2 hne
              obtain ⟨g, L, c, hs, hL1, hL2, hL3, _⟩ := hap.dig.at 0 hlp
              exact ⟨g, L, c, hs, hL1, hL2, hL3⟩
          obtain ⟨g, L, c, hs, hL1, hL2, hL3⟩ := hex
          obtain ⟨D, hD⟩ : ∃ D : Nat, dp = (D : Int) := ⟨dp.toNat, by omega⟩
          obtain ⟨M, hM⟩ : ∃ M : Nat, min nd dp = (M : Int) := ⟨(min nd dp).toNat, by omega⟩
          have hM1 : M ≤ ds.length := by have := HND.out; omega
          have hM2 : M ≤ D := by omega
          have hMc : (M : Int) ≤ c := by omega
          have hMz : D - ds.length = D - M := by have := HND.out; omega
          have htk : ds.take dp.toNat = ds.take M := by
            rw [hD, Int.toNat_natCast]
            by_cases h : D ≤ ds.length
            · rw [show M = D by have := HND.out; omega]
            · rw [List.take_of_length_le (by omega), List.take_of_length_le (by have := HND.out; omega)]
          have hfi : fInt ds dp = ds.take M ++ List.replicate (D - M) 48 := by
            unfold fInt; rw [if_pos hdp, htk, hD, Int.toNat_natCast, hMz]
          have HFI := Lib.hid hfi
          rw [hs] at s2
          have HS := Lib.hid hs
          have HD := Lib.hid hD
          have hDb : D ≤ 900 := by omega
          clear hfi htk hMz hs hD
          refine cond_yes (by simp [ov, *]) (by decide) ?_
          go_wp2_with fail
          refine loop_F (fun k s' w' => ∃ (j : Nat) (v : Value), j ≤ M ∧ k = M - j ∧ s' 191 = .int .i64 (j : Int) ∧ s' 190 = .int .i64 (M : Int) ∧ s' 189 = .slice (some ⟨g, 0, none⟩) M c ∧ s' 0 = v ∧ Ap T w dst s ds w' v (xs ++ sg ++ ds.take j) ∧ s' 2 = .slice (some ⟨g, 0, none⟩) L c ∧ s' 3 = .int .i64 dp ∧ s' 4 = .int .i64 nd ∧ s' 5 = .int .i64 pr ∧ s' 23 = .int .i64 (M : Int)) M ⟨0, _, Nat.zero_le _, rfl, by simp [ov, *], by simp [ov, *], by simp [ov, *], rfl, (hap.to (by simp)).at (by simp [ov, *]), by simp [ov, *], by simp [ov, *], by simp [ov, *], by simp [ov, *], by simp [ov, *]⟩ ?_
          ((try clear s0); (try clear s1); (try clear s2); (try clear s3); (try clear s4); (try clear s5); (try clear s6); (try clear s7); (try clear s16); (try clear s17); (try clear s18); (try clear s19); (try clear s20); (try clear s21); (try clear s22); (try clear s23); (try clear s24); (try clear s25); (try clear s26); (try clear s27); (try clear s28); (try clear s29); (try clear s30); (try clear s36); (try clear s45); (try clear s56); (try clear s74); (try clear s75); (try clear σ))
          clear hap
          rintro k σ wk ⟨j, vk, hj, rfl, sc, sl, sx, s0, hap, s2, s3, s4, s5, s23⟩ RK KK HRK hKK
          by_cases hjl : j < M
          · have hcell := hap.dig.cellAt HS.out j (by omega)
            have hts := take_succ_getD ds j (by omega)
            have HTS := Lib.hid hts
            have htl : (ds.take j).length ≤ 800 := by rw [List.length_take]; omega
            clear hts
            generalize ds.getD j 0 = cj at *
            ((repeat (go_wp2_with (first | (at_builtin; refine wpList_appF rfl _ _ _ _ rfl (by decide) (by decide) byteTy (hap.own.alloc _) (by simp [ov, *]) _ (by simp [ov, *]) [cj] (src_new Tryz.underlying51 [cj] _) (by simp only [List.length_append, List.length_cons, List.length_nil, List.length_replicate] at *; omega) ?_; intro v w' ho1 hs1; replace hap := hap.step ho1 hs1; clear ho1 hs1)); first | (refine cond_yes ?hc (by decide) ?_; (case hc => (simp [ov, *]; done))) | (refine cond_no ?hc (by decide) ?_; (case hc => (simp [ov, *]; done))))); go_wp2_with (first | (at_builtin; refine wpList_appF rfl _ _ _ _ rfl (by decide) (by decide) byteTy (hap.own.alloc _) (by simp [ov, *]) _ (by simp [ov, *]) [cj] (src_new Tryz.underlying51 [cj] _) (by simp only [List.length_append, List.length_cons, List.length_nil, List.length_replicate] at *; omega) ?_; intro v w' ho1 hs1; replace hap := hap.step ho1 hs1; clear ho1 hs1)))
            exact gotk HRK (M - (j + 1)) (by omega) ⟨j + 1, v, by omega, rfl, by simp [ov, *], by simp [ov, *], by simp [ov, *], by simp [ov, *], hap.to (by rw [HTS.out]; simp), by simp [ov, *], by simp [ov, *], by simp [ov, *], by simp [ov, *], by simp [ov, *]⟩
          have hjN : j = M := by omega
          have hjf : decide (j < M) = false := by simpa using hjl
          subst hjN
          obtain ⟨N, hN⟩ : ∃ N : Nat, D - j = N := ⟨_, rfl⟩
          have hNi : dp - (j : Int) = (N : Int) := by have := HD.out; omega
          have hNb : N ≤ 900 := by omega
          have htl : (ds.take j).length ≤ 800 := by rw [List.length_take]; omega
          have HN := Lib.hid hN
          clear hN hjl
          ((repeat (go_wp2_with fail; first | (refine cond_yes ?hc (by decide) ?_; (case hc => (simp [ov, *]; done))) | (refine cond_no ?hc (by decide) ?_; (case hc => (simp [ov, *]; done))))); go_wp2_with fail)
          obtain ⟨tk, htk⟩ : ∃ tk, ds.take j = tk := ⟨_, rfl⟩
          rw [htk] at hap htl
          have HTK := Lib.hid htk
          clear htk
          refine loop_F (fun k s' w' => ∃ (j : Nat) (v : Value), j ≤ N ∧ k = N - j ∧ s' 203 = .int .i64 (j : Int) ∧ s' 202 = .int .i64 (N : Int) ∧ s' 0 = v ∧ Ap T w dst s ds w' v (xs ++ sg ++ tk ++ List.replicate j 48) ∧ s' 2 = .slice (some ⟨g, 0, none⟩) L c ∧ s' 3 = .int .i64 dp ∧ s' 4 = .int .i64 nd ∧ s' 5 = .int .i64 pr) N ⟨0, _, Nat.zero_le _, rfl, by simp [over_cons, over_nil], by simp [ov, *], rfl, (hap.to (by simp)).at (by simp [ov, *]), by simp [ov, *], by simp [ov, *], by simp [ov, *], by simp [ov, *]⟩ ?_
          ((try clear s0); (try clear s1); (try clear s2); (try clear s3); (try clear s4); (try clear s5); (try clear s6); (try clear s7); (try clear s16); (try clear s17); (try clear s18); (try clear s19); (try clear s20); (try clear s21); (try clear s22); (try clear s23); (try clear s24); (try clear s25); (try clear s26); (try clear s27); (try clear s28); (try clear s29); (try clear s30); (try clear s36); (try clear s45); (try clear s56); (try clear s74); (try clear s75); (try clear hap); (try clear σ))
          rintro k σ wk ⟨j, vk, hj, rfl, sc, sl, s0, hap, s2, s3, s4, s5⟩ RK KK HRK hKK
          by_cases hjl : j < N
          · ((repeat (go_wp2_with (at_builtin; refine wpList_appF rfl _ _ _ _ rfl (by decide) (by decide) byteTy (hap.own.alloc _) (by simp [ov, *]) _ (by simp [ov, *]) [48] (src_new Tryz.underlying51 [48] _) (by simp only [List.length_append, List.length_cons, List.length_nil, List.length_replicate] at *; omega) ?_; intro v w' ho1 hs1; replace hap := hap.step ho1 hs1; clear ho1 hs1); first | (refine cond_yes ?hc (by decide) ?_; (case hc => (simp [ov, *]; done))) | (refine cond_no ?hc (by decide) ?_; (case hc => (simp [ov, *]; done))))); go_wp2_with (at_builtin; refine wpList_appF rfl _ _ _ _ rfl (by decide) (by decide) byteTy (hap.own.alloc _) (by simp [ov, *]) _ (by simp [ov, *]) [48] (src_new Tryz.underlying51 [48] _) (by simp only [List.length_append, List.length_cons, List.length_nil, List.length_replicate] at *; omega) ?_; intro v w' ho1 hs1; replace hap := hap.step ho1 hs1; clear ho1 hs1))
            exact gotk HRK (N - (j + 1)) (by omega) ⟨j + 1, v, by omega, rfl, by simp [over_cons, over_nil], by simp [ov, *], by simp [over_cons, over_nil], hap.to (by simp [List.replicate_succ']), by simp [ov, *], by simp [ov, *], by simp [ov, *], by simp [ov, *]⟩
          have hjN : j = N := by omega
          have hjf : decide (j < N) = false := by simpa using hjl
          ((repeat (go_wp2_with fail; first | (refine cond_yes ?hc (by decide) ?_; (case hc => (simp [ov, *]; done))) | (refine cond_no ?hc (by decide) ?_; (case hc => (simp [ov, *]; done))))); go_wp2_with fail)
          obtain ⟨v, hv⟩ : ∃ v, v = vk := ⟨_, rfl⟩
          subst hv
          exact got HR ⟨v, by simp [ov, *], hap.to (by rw [HFI.out, HN.out, HTK.out, ← hjN]; simp), by simp [over_cons, over_nil, HS.out, *], by simp [ov, *], by simp [ov, *], by simp [ov, *]⟩
        · have hfi : fInt ds dp = [48] := by unfold fInt; rw [if_neg hdp]
          have hdp' : decide (0 < dp) = false := by simpa using hdp
          refine cond_no (by simp [ov, *]) (by decide) ?_
          go_wp2_with (at_builtin; refine wpList_appF rfl _ _ _ _ rfl (by decide) (by decide) byteTy (hap.own.alloc _) (by simp [ov, *]) _ (by simp [ov, *]) [48] (src_new Tryz.underlying51 [48] _) (by simp only [List.length_append, List.length_cons, List.length_nil, List.length_replicate] at *; omega) ?_; intro v w' ho1 hs1; replace hap := hap.step ho1 hs1; clear ho1 hs1)
          exact got HR ⟨v, by simp [ov, *], hap.to (by rw [hfi]), by simp [ov, *], by simp [ov, *], by simp [ov, *], by simp [ov, *]⟩
      ((try clear s0); (try clear s1); (try clear s2); (try clear s3); (try clear s4); (try clear s5); (try clear s6); (try clear s7); (try clear s16); (try clear s17); (try clear s18); (try clear s19); (try clear s20); (try clear s21); (try clear s22); (try clear s23); (try clear s24); (try clear s25); (try clear s26); (try clear s27); (try clear s28); (try clear s29); (try clear s30); (try clear s36); (try clear s45); (try clear s56); (try clear s74); (try clear s75); (try clear σ))
      clear hap
      rintro σ w2 ⟨v2, s0, hap, s2, s3, s4, s5⟩
      have hil : (fInt ds dp).length ≤ 2000 := by
        have := HND.out
        unfold fInt; split
        · simp only [List.length_append, List.length_replicate, List.length_take]; omega
        · simp
      obtain ⟨fi, hfi⟩ : ∃ fi, fInt ds dp = fi := ⟨_, rfl⟩
      rw [hfi] at hap hil
      have HFI := Lib.hid hfi
      clear hfi
      have hfinal : ∀ tl : List UInt8, tl = fFrac ds dp pr → xs ++ sg ++ fi ++ tl = xs ++ efgL neg ds dp (gAdj dp nd prec f sh).1 (gAdj dp nd prec f sh).2 := by
        intro tl htl
        rw [HPR.out, HFC.out, HFIN.out, htl]
        unfold efgF
        rw [HSG.out, HFI.out]
        simp
      have HFINAL := Lib.hid hfinal
      clear hfinal
      by_cases hp : 0 < pr
      · obtain ⟨lz, hlz⟩ : ∃ lz : Nat, fLz dp pr = (lz : Int) := ⟨(fLz dp pr).toNat, by unfold fLz; omega⟩
        obtain ⟨M, hM⟩ : ∃ M : Nat, fM nd dp pr = (M : Int) := ⟨(fM nd dp pr).toNat, by unfold fM; rw [hlz]; unfold fLz at hlz; omega⟩
        obtain ⟨tz, htz⟩ : ∃ tz : Nat, max 0 (pr - lz - M) = (tz : Int) := ⟨(max 0 (pr - (lz : Int) - M)).toNat, by omega⟩
        obtain ⟨off, hoff⟩ : ∃ off : Nat, (dp + lz).toNat = off := ⟨_, rfl⟩
        have hlzb : lz ≤ 900 := by unfold fLz at hlz; omega
        have hMb : M ≤ 800 := by unfold fM at hM; rw [hlz] at hM; unfold fLz at hlz; omega
        have htzb : tz ≤ 100900 := by omega
        have hoffi : 0 < M → dp + (lz : Int) = (off : Int) := by
          intro h; unfold fM at hM; rw [hlz] at hM; unfold fLz at hlz; omega
        have hoM : off + M ≤ ds.length ∨ M = 0 := by
          have := HND.out
          unfold fM at hM; rw [hlz] at hM; omega
        have hfr : fFrac ds dp pr = [46] ++ (List.replicate lz 48 ++ ((ds.drop off).take M ++ List.replicate tz 48)) := by
          unfold fFrac
          rw [if_pos hp, ← HND.out, hM, hlz, htz, hoff]
          rfl
        have HFR := Lib.hid hfr
        have e1 : min pr (max 0 (-dp)) = (lz : Int) := hlz
        have e2 : min (pr - (lz : Int)) (max 0 (nd - (dp + lz))) = (M : Int) := by rw [← hM]; unfold fM; rw [hlz]
        have HO := Lib.hid hoffi
        have HO2 := Lib.hid hoM
        clear hfr hoff hoffi hoM hlz hM
        go_wp2_with fail
        refine cond_yes (by simp [ov, *]) (by decide) ?_
        go_wp2_with (at_builtin; refine wpList_appF rfl _ _ _ _ rfl (by decide) (by decide) byteTy (hap.own.alloc _) (by simp [ov, *]) _ (by simp [ov, *]) [46] (src_new Tryz.underlying51 [46] _) (by simp only [List.length_append, List.length_cons, List.length_nil, List.length_replicate] at *; omega) ?_; intro v w' ho1 hs1; replace hap := hap.step ho1 hs1; clear ho1 hs1)
        refine loop_F (fun k s' w' => ∃ (j : Nat) (v : Value), j ≤ lz ∧ k = lz - j ∧ s' 240 = .int .i64 (j : Int) ∧ s' 239 = .int .i64 (lz : Int) ∧ s' 0 = v ∧ Ap T w dst s ds w' v (xs ++ sg ++ fi ++ [46] ++ List.replicate j 48) ∧ s' 2 = s ∧ s' 27 = .int .i64 (dp + (lz : Int)) ∧ s' 28 = .int .i64 (M : Int) ∧ s' 29 = .int .i64 (tz : Int)) lz ⟨0, _, Nat.zero_le _, rfl, by simp [over_cons, over_nil], by simp [ov, *], rfl, (hap.to (by simp)).at (by simp [ov, *]), by simp [ov, *], by simp [ov, *], by simp [ov, *], by simp [ov, *]⟩ ?_
        ((try clear s0); (try clear s1); (try clear s2); (try clear s3); (try clear s4); (try clear s5); (try clear s6); (try clear s7); (try clear s16); (try clear s17); (try clear s18); (try clear s19); (try clear s20); (try clear s21); (try clear s22); (try clear s23); (try clear s24); (try clear s25); (try clear s26); (try clear s27); (try clear s28); (try clear s29); (try clear s30); (try clear s36); (try clear s45); (try clear s56); (try clear s74); (try clear s75); (try clear hap); (try clear σ))
        rintro k σ wk ⟨j, vk, hj, rfl, sc, sl, s0, hap, s2, s27, s28, s29⟩ RK KK HRK hKK
        by_cases hjl : j < lz
        · ((repeat (go_wp2_with (at_builtin; refine wpList_appF rfl _ _ _ _ rfl (by decide) (by decide) byteTy (hap.own.alloc _) (by simp [ov, *]) _ (by simp [ov, *]) [48] (src_new Tryz.underlying51 [48] _) (by simp only [List.length_append, List.length_cons, List.length_nil, List.length_replicate] at *; omega) ?_; intro v w' ho1 hs1; replace hap := hap.step ho1 hs1; clear ho1 hs1); first | (refine cond_yes ?hc (by decide) ?_; (case hc => (simp [ov, *]; done))) | (refine cond_no ?hc (by decide) ?_; (case hc => (simp [ov, *]; done))))); go_wp2_with (at_builtin; refine wpList_appF rfl _ _ _ _ rfl (by decide) (by decide) byteTy (hap.own.alloc _) (by simp [ov, *]) _ (by simp [ov, *]) [48] (src_new Tryz.underlying51 [48] _) (by simp only [List.length_append, List.length_cons, List.length_nil, List.length_replicate] at *; omega) ?_; intro v w' ho1 hs1; replace hap := hap.step ho1 hs1; clear ho1 hs1))
          exact gotk HRK (lz - (j + 1)) (by omega) ⟨j + 1, v, by omega, rfl, by simp [over_cons, over_nil], by simp [ov, *], by simp [over_cons, over_nil], hap.to (by simp [List.replicate_succ']), by simp [ov, *], by simp [ov, *], by simp [ov, *], by simp [ov, *]⟩
        have hjN : j = lz := by omega
        have hjf : decide (j < lz) = false := by simpa using hjl
        ((repeat (go_wp2_with fail; first | (refine cond_yes ?hc (by decide) ?_; (case hc => (simp [ov, *]; done))) | (refine cond_no ?hc (by decide) ?_; (case hc => (simp [ov, *]; done))))); go_wp2_with fail)
        obtain ⟨v, hv⟩ : ∃ v, v = vk := ⟨_, rfl⟩
        subst hv
        (try clear sc); (try clear sl)
        obtain ⟨o1, ho1⟩ : ∃ o1, xs ++ sg ++ fi ++ [46] ++ List.replicate j 48 = o1 := ⟨_, rfl⟩
        rw [ho1] at hap
        have hol : o1.length ≤ xs.length + 10000 := by rw [← ho1]; simp only [List.length_append, List.length_cons, List.length_nil, List.length_replicate]; omega
        have HO1 := Lib.hid ho1
        clear ho1
        refine loop_F (fun k s' w' => ∃ (i : Nat) (v : Value), i ≤ M ∧ k = M - i ∧ s' 247 = .int .i64 (i : Int) ∧ s' 246 = .int .i64 (M : Int) ∧ s' 0 = v ∧ Ap T w dst s ds w' v (o1 ++ (ds.drop off).take i) ∧ s' 2 = s ∧ s' 27 = .int .i64 (dp + (lz : Int)) ∧ s' 28 = .int .i64 (M : Int) ∧ s' 29 = .int .i64 (tz : Int)) M ⟨0, _, Nat.zero_le _, rfl, by simp [ov, *], by simp [ov, *], rfl, (hap.to (by simp)).at (by simp [ov, *]), by simp [ov, *], by simp [ov, *], by simp [ov, *], by simp [ov, *]⟩ ?_
        ((try clear s0); (try clear s1); (try clear s2); (try clear s3); (try clear s4); (try clear s5); (try clear s6); (try clear s7); (try clear s16); (try clear s17); (try clear s18); (try clear s19); (try clear s20); (try clear s21); (try clear s22); (try clear s23); (try clear s24); (try clear s25); (try clear s26); (try clear s27); (try clear s28); (try clear s29); (try clear s30); (try clear s36); (try clear s45); (try clear s56); (try clear s74); (try clear s75); (try clear hap); (try clear σ))
        rintro k σ wk ⟨i, vk, hi, rfl, sc, sl, s0, hap, s2, s27, s28, s29⟩ RK KK HRK hKK
        by_cases hil2 : i < M
        · have hof : off + M ≤ ds.length := by rcases HO2.out with h | h <;> omega
          obtain ⟨g, L, c, hs, hL1, hL2, hL3, hcx⟩ := hap.dig.at (off + i) (by omega)
          clear hcx
          have hcell := hap.dig.cellAt hs (off + i) (by omega)
          have hts := take_succ_getD (ds.drop off) i (by rw [List.length_drop]; omega)
          rw [show (ds.drop off).getD i 0 = ds.getD (off + i) 0 by simp [List.getD_eq_getElem?_getD]] at hts
          have HTS := Lib.hid hts
          have HS := Lib.hid hs
          rw [HO.out (by omega)] at s27
          rw [hs] at s2
          have htl : ((ds.drop off).take i).length ≤ 800 := by rw [List.length_take]; omega
          have hol2 : off ≤ 800 := by have := HND.out; omega
          clear hts hs
          generalize ds.getD (off + i) 0 = cj at *
          ((repeat (go_wp2_with (first | (at_builtin; refine wpList_appF rfl _ _ _ _ rfl (by decide) (by decide) byteTy (hap.own.alloc _) (by simp [ov, *]) _ (by simp [ov, *]) [cj] (src_new Tryz.underlying51 [cj] _) (by simp only [List.length_append, List.length_cons, List.length_nil, List.length_replicate] at *; omega) ?_; intro v w' ho1 hs1; replace hap := hap.step ho1 hs1; clear ho1 hs1)); first | (refine cond_yes ?hc (by decide) ?_; (case hc => (simp [ov, *]; done))) | (refine cond_no ?hc (by decide) ?_; (case hc => (simp [ov, *]; done))))); go_wp2_with (first | (at_builtin; refine wpList_appF rfl _ _ _ _ rfl (by decide) (by decide) byteTy (hap.own.alloc _) (by simp [ov, *]) _ (by simp [ov, *]) [cj] (src_new Tryz.underlying51 [cj] _) (by simp only [List.length_append, List.length_cons, List.length_nil, List.length_replicate] at *; omega) ?_; intro v w' ho1 hs1; replace hap := hap.step ho1 hs1; clear ho1 hs1)))
          exact gotk HRK (M - (i + 1)) (by omega) ⟨i + 1, v, by omega, rfl, by simp [ov, *], by simp [ov, *], by simp [ov, *], hap.to (by rw [HTS.out]; simp), by simp [over_cons, over_nil, HS.out, *], by rw [HO.out (by omega)]; simp [ov, *], by simp [ov, *], by simp [ov, *]⟩
        have hiN : i = M := by omega
        have hif : decide (i < M) = false := by simpa using hil2
        ((repeat (go_wp2_with fail; first | (refine cond_yes ?hc (by decide) ?_; (case hc => (simp [ov, *]; done))) | (refine cond_no ?hc (by decide) ?_; (case hc => (simp [ov, *]; done))))); go_wp2_with fail)
        obtain ⟨tk, htk⟩ : ∃ tk, (ds.drop off).take i = tk := ⟨_, rfl⟩
        have htl : ((ds.drop off).take i).length ≤ 800 := by rw [List.length_take]; omega
        rw [htk] at hap htl
        rw [hiN] at htk
        have HTK := Lib.hid htk
        rw [hjN] at HO1
        clear htk hjN hil2 hif
        (try clear sc); (try clear sl)
        refine loop_F (fun k s' w' => ∃ (j : Nat) (v : Value), j ≤ tz ∧ k = tz - j ∧ s' 261 = .int .i64 (j : Int) ∧ s' 260 = .int .i64 (tz : Int) ∧ s' 0 = v ∧ Ap T w dst s ds w' v (o1 ++ tk ++ List.replicate j 48) ∧ s' 2 = s) tz ⟨0, _, Nat.zero_le _, rfl, by simp [over_cons, over_nil], by simp [ov, *], rfl, (hap.to (by simp)).at (by simp [ov, *]), by simp [ov, *]⟩ ?_
        ((try clear s0); (try clear s1); (try clear s2); (try clear s3); (try clear s4); (try clear s5); (try clear s6); (try clear s7); (try clear s16); (try clear s17); (try clear s18); (try clear s19); (try clear s20); (try clear s21); (try clear s22); (try clear s23); (try clear s24); (try clear s25); (try clear s26); (try clear s27); (try clear s28); (try clear s29); (try clear s30); (try clear s36); (try clear s45); (try clear s56); (try clear s74); (try clear s75); (try clear hap); (try clear σ))
        rintro k σ wk ⟨j, vk, hj, rfl, sc, sl, s0, hap, s2⟩ RK KK HRK hKK
        by_cases hjl : j < tz
        · ((repeat (go_wp2_with (at_builtin; refine wpList_appF rfl _ _ _ _ rfl (by decide) (by decide) byteTy (hap.own.alloc _) (by simp [ov, *]) _ (by simp [ov, *]) [48] (src_new Tryz.underlying51 [48] _) (by simp only [List.length_append, List.length_cons, List.length_nil, List.length_replicate] at *; omega) ?_; intro v w' ho1 hs1; replace hap := hap.step ho1 hs1; clear ho1 hs1); first | (refine cond_yes ?hc (by decide) ?_; (case hc => (simp [ov, *]; done))) | (refine cond_no ?hc (by decide) ?_; (case hc => (simp [ov, *]; done))))); go_wp2_with (at_builtin; refine wpList_appF rfl _ _ _ _ rfl (by decide) (by decide) byteTy (hap.own.alloc _) (by simp [ov, *]) _ (by simp [ov, *]) [48] (src_new Tryz.underlying51 [48] _) (by simp only [List.length_append, List.length_cons, List.length_nil, List.length_replicate] at *; omega) ?_; intro v w' ho1 hs1; replace hap := hap.step ho1 hs1; clear ho1 hs1))
          exact gotk HRK (tz - (j + 1)) (by omega) ⟨j + 1, v, by omega, rfl, by simp [over_cons, over_nil], by simp [ov, *], by simp [over_cons, over_nil], hap.to (by simp [List.replicate_succ']), by simp [ov, *]⟩
        have hjN : j = tz := by omega
        have hjf : decide (j < tz) = false := by simpa using hjl
        ((repeat (go_wp2_with fail; first | (refine cond_yes ?hc (by decide) ?_; (case hc => (simp [ov, *]; done))) | (refine cond_no ?hc (by decide) ?_; (case hc => (simp [ov, *]; done))))); go_wp2_with fail)
        obtain ⟨v, hv⟩ : ∃ v, v = vk := ⟨_, rfl⟩
        subst hv
        refine ret_F v rfl (by decide) (by simp [ov, *]) ⟨v, rfl, ?_, hap.stp⟩
        refine cast (congrArg (OwnB T wk v) ?_) hap.own
        rw [← HFINAL.out _ rfl, HFR.out, ← HO1.out, ← HTK.out, hjN]
        simp
      · have hfr : fFrac ds dp pr = [] := by unfold fFrac; rw [if_neg hp]
        have hp' : decide (0 < pr) = false := by simpa using hp
        ((repeat (go_wp2_with fail; first | (refine cond_yes ?hc (by decide) ?_; (case hc => (simp [ov, *]; done))) | (refine cond_no ?hc (by decide) ?_; (case hc => (simp [ov, *]; done))))); go_wp2_with fail)
        refine ret_F v2 rfl (by decide) (by simp [ov, *]) ⟨v2, rfl, ?_, hap.stp⟩
        exact cast (congrArg (OwnB T w2 v2) ((by simp : xs ++ sg ++ fi = xs ++ sg ++ fi ++ []).trans (HFINAL.out [] hfr.symm))) hap.own
    · have hfin : efgL neg ds dp pr fc = [37, UInt8.ofNat fc.toNat] := by unfold efgL; rw [if_neg hE, if_neg hF]
      have HFIN := Lib.hid hfin
      have hb : (fc == 102) = false := by rw [beq_eq_false_iff_ne]; exact hF
      clear hfin hE hF h
      ((repeat (go_wp2_with (first | (at_builtin; refine wpList_appF rfl _ _ _ _ rfl (by decide) (by decide) byteTy (hap.own.alloc _) (by simp [ov, *]) _ (by simp [ov, *]) [UInt8.ofNat ((37 : Int)).toNat, UInt8.ofNat (fc).toNat] (src_two_at Tryz.underlying51 ((37 : Int)) (fc) (by omega) (by omega) (by omega) (by omega) _) (by simp only [List.length_append, List.length_cons, List.length_nil, List.length_replicate] at *; omega) ?_; intro v w' ho1 hs1; replace hap := hap.step ho1 hs1; clear ho1 hs1)); first | (refine cond_yes ?hc (by decide) ?_; (case hc => (simp [ov, *]; done))) | (refine cond_no ?hc (by decide) ?_; (case hc => (simp [ov, *]; done))))); go_wp2_with (first | (at_builtin; refine wpList_appF rfl _ _ _ _ rfl (by decide) (by decide) byteTy (hap.own.alloc _) (by simp [ov, *]) _ (by simp [ov, *]) [UInt8.ofNat ((37 : Int)).toNat, UInt8.ofNat (fc).toNat] (src_two_at Tryz.underlying51 ((37 : Int)) (fc) (by omega) (by omega) (by omega) (by omega) _) (by simp only [List.length_append, List.length_cons, List.length_nil, List.length_replicate] at *; omega) ?_; intro v w' ho1 hs1; replace hap := hap.step ho1 hs1; clear ho1 hs1)))
      refine ret_F v rfl (by decide) (by simp [over_cons]) ⟨v, rfl, ?_, hap.stp⟩
      refine cast (congrArg (OwnB T w' v) ?_) hap.own
      rw [HPR.out, HFC.out, HFIN.out]
      rfl
end Go.Proofs.YticlnihjhcepkaaGreatDoor

/-
  Walk: fmtX.
-/
namespace Go.Proofs.YticlnihjhcepkaaGreatDoor
open Go.RowKit
set_option linter.unusedSimpArgs false
set_option linter.unusedVariables false

theorem and_pow (a k : Nat) : a &&& 2 ^ k = a / 2 ^ k % 2 * 2 ^ k := by
  apply Nat.eq_of_testBit_eq
  intro i
  rw [Nat.testBit_and, Nat.testBit_two_pow]
  have h := Nat.testBit_eq_decide_div_mod_eq (x := a) (i := k)
  rcases Nat.mod_two_eq_zero_or_one (a / 2 ^ k) with h2 | h2
  · rw [h2] at h ⊢
    by_cases e : k = i
    · subst e; rw [h]; simp
    · simp [e]
  · rw [h2] at h ⊢
    by_cases e : k = i
    · subst e; rw [h]; simp
    · simp [e]
theorem u64_and_p60 (a : Nat) (ha : a < 18446744073709551616) : bits .and .u64 (a : Int) 1152921504606846976 = ((a / 1152921504606846976 % 2 * 1152921504606846976 : Nat) : Int) := by
  have h := u64_and_nat a 1152921504606846976 ha (by omega)
  rw [show (1152921504606846976 : Nat) = 2 ^ 60 by decide, and_pow] at h
  exact h
theorem u64_and_p61 (a : Nat) (ha : a < 18446744073709551616) : bits .and .u64 (a : Int) 2305843009213693952 = ((a / 2305843009213693952 % 2 * 2305843009213693952 : Nat) : Int) := by
  have h := u64_and_nat a 2305843009213693952 ha (by omega)
  rw [show (2305843009213693952 : Nat) = 2 ^ 61 by decide, and_pow] at h
  exact h
theorem u64_and_m60 (a : Nat) (ha : a < 18446744073709551616) : bits .and .u64 (a : Int) 1152921504606846975 = ((a % 1152921504606846976 : Nat) : Int) := by
  have h := u64_and_nat a 1152921504606846975 ha (by omega)
  rw [show (1152921504606846975 : Nat) = 2 ^ 60 - 1 by decide, Nat.and_two_pow_sub_one_eq_mod] at h
  exact h
theorem u64_and15 (a : Nat) (ha : a < 18446744073709551616) : bits .and .u64 (a : Int) 15 = ((a % 16 : Nat) : Int) := by
  have h := u64_and_nat a 15 ha (by omega)
  rw [show (15 : Nat) = 2 ^ 4 - 1 by decide, Nat.and_two_pow_sub_one_eq_mod] at h
  exact h

/-- The mantissa with its leading one at bit 60, and its exponent. -/
def xNorm (m : Nat) (e : Int) : Nat × Int := if m = 0 then (0, e) else (m * 2 ^ (60 - m.log2), e - ((60 - m.log2 : Nat) : Int))

theorem xNorm_is {m j mj : Nat} {e : Int} (h : mj = m * 2 ^ j) (hj : j ≤ 60) (h1 : mj < 2 ^ 61) (hz : mj = 0 ∨ 1152921504606846976 ≤ mj) (h0 : m = 0 → j = 0) : xNorm m e = (mj, e - (j : Int)) := by
  unfold xNorm
  by_cases hm : m = 0
  · rw [if_pos hm]
    rw [h0 hm, h, hm]
    simp
  · rw [if_neg hm]
    have hp : 0 < 2 ^ j := Nat.two_pow_pos j
    have hmj : 2 ^ 60 ≤ mj := by
      rcases hz with h2 | h2
      · rw [h2] at h
        have := Nat.mul_eq_zero.1 h.symm
        omega
      · exact h2
    have hlog : m.log2 = 60 - j := by
      rw [Nat.log2_eq_iff hm]
      constructor
      · refine Nat.le_of_mul_le_mul_right ?_ hp
        rw [← Nat.pow_add, ← h, show 60 - j + j = 60 by omega]
        exact hmj
      · refine Nat.lt_of_mul_lt_mul_right (a := 2 ^ j) ?_
        rw [← Nat.pow_add, ← h, show 60 - j + 1 + j = 61 by omega]
        exact h1
    rw [hlog, show 60 - (60 - j) = j by omega, h]

/-- The mantissa rounded to prec hexadecimal digits. -/
def xRnd (prec : Int) (m : Nat) (e : Int) : Nat × Int :=
  if 0 ≤ prec ∧ prec < 15 then
    let s := prec.toNat * 4
    let q := m / 2 ^ (60 - s)
    let r := (if 576460752303423488 < (m * 2 ^ s % 2 ^ 60 ||| q % 2) then q + 1 else q) * 2 ^ (60 - s)
    if r / 2 ^ 61 % 2 = 0 then (r, e) else (r / 2, e + 1)
  else (m, e)

theorem xRnd_bd (prec : Int) (m : Nat) (e : Int) (hm : m < 2305843009213693952) : (xRnd prec m e).1 < 4611686018427387904 ∧ e ≤ (xRnd prec m e).2 ∧ (xRnd prec m e).2 ≤ e + 1 := by
  unfold xRnd
  split
  · dsimp only
    have hpp : 0 < 2 ^ (60 - prec.toNat * 4) := Nat.two_pow_pos _
    have h1 : m / 2 ^ (60 - prec.toNat * 4) * 2 ^ (60 - prec.toNat * 4) ≤ m := Nat.div_mul_le_self _ _
    have h2 : 2 ^ (60 - prec.toNat * 4) ≤ 2 ^ 60 := Nat.pow_le_pow_right (by omega) (by omega)
    have h3 : (if 576460752303423488 < (m * 2 ^ (prec.toNat * 4) % 2 ^ 60 ||| m / 2 ^ (60 - prec.toNat * 4) % 2) then m / 2 ^ (60 - prec.toNat * 4) + 1 else m / 2 ^ (60 - prec.toNat * 4)) * 2 ^ (60 - prec.toNat * 4) < 4611686018427387904 := by
      split
      · rw [Nat.add_mul, Nat.one_mul]; omega
      · omega
    generalize (if 576460752303423488 < (m * 2 ^ (prec.toNat * 4) % 2 ^ 60 ||| m / 2 ^ (60 - prec.toNat * 4) % 2) then m / 2 ^ (60 - prec.toNat * 4) + 1 else m / 2 ^ (60 - prec.toNat * 4)) * 2 ^ (60 - prec.toNat * 4) = r at h3 ⊢
    split <;> (refine ⟨?_, ?_, ?_⟩ <;> (try dsimp only) <;> omega)
  · (try dsimp only); omega

def hexA (up : Bool) : ByteArray := if up then { data := #[48, 49, 50, 51, 52, 53, 54, 55, 56, 57, 65, 66, 67, 68, 69, 70] } else { data := #[48, 49, 50, 51, 52, 53, 54, 55, 56, 57, 97, 98, 99, 100, 101, 102] }

theorem hexA_size (up : Bool) : (hexA up).size = 16 := by cases up <;> rfl
def hexD (up : Bool) (d : Nat) : UInt8 := if h : d < (hexA up).size then (hexA up)[d] else 0
theorem hexD_is (up : Bool) (d : Nat) (h : d < (hexA up).size) : (hexA up)[d] = hexD up d := by unfold hexD; rw [dif_pos h]
/-- The digits until nothing is left; so many digits. -/
def hexZ (up : Bool) : Nat → Nat → List UInt8
  | 0, _ => []
  | k + 1, m => if m = 0 then [] else hexD up (m / 2 ^ 60 % 16) :: hexZ up k (m * 16 % 2 ^ 64)
def hexN (up : Bool) : Nat → Nat → List UInt8
  | 0, _ => []
  | k + 1, m => hexD up (m / 2 ^ 60 % 16) :: hexN up k (m * 16 % 2 ^ 64)
theorem hexZ_len (up : Bool) (k m : Nat) : (hexZ up k m).length ≤ k := by
  induction k generalizing m with
  | zero => simp [hexZ]
  | succ k ih => unfold hexZ; split <;> simp; exact ih _
theorem hexN_len (up : Bool) (k m : Nat) : (hexN up k m).length = k := by
  induction k generalizing m with
  | zero => simp [hexN]
  | succ k ih => unfold hexN; simp; exact ih _
def xExp (e : Int) : List UInt8 :=
  (if e < 0 then 45 else 43) :: (if e.natAbs < 100 then [UInt8.ofNat (48 + e.natAbs / 10), UInt8.ofNat (48 + e.natAbs % 10)]
    else if e.natAbs < 1000 then [UInt8.ofNat (48 + e.natAbs / 100), UInt8.ofNat (48 + e.natAbs / 10 % 10), UInt8.ofNat (48 + e.natAbs % 10)]
    else [UInt8.ofNat (48 + e.natAbs / 1000), UInt8.ofNat (48 + e.natAbs / 100 % 10), UInt8.ofNat (48 + e.natAbs / 10 % 10), UInt8.ofNat (48 + e.natAbs % 10)])
def xFrac (up : Bool) (prec : Int) (m : Nat) : List UInt8 :=
  if prec < 0 ∧ m ≠ 0 then 46 :: hexZ up 16 m else if 0 < prec then 46 :: hexN up prec.toNat m else []

/-- The format x: what is rounded, and what is written. -/
def xFin (prec : Int) (m mb : Nat) (e : Int) : Nat × Int := xRnd prec (xNorm (m * 2 ^ (60 - mb)) (if m = 0 then 0 else e)).1 (xNorm (m * 2 ^ (60 - mb)) (if m = 0 then 0 else e)).2
def xL (neg : Bool) (prec f : Int) (m mb : Nat) (e : Int) : List UInt8 :=
  eSign neg ++ ([48, UInt8.ofNat f.toNat, UInt8.ofNat (48 + (xFin prec m mb e).1 / 2 ^ 60 % 2)] ++ (xFrac (f == 88) prec ((xFin prec m mb e).1 * 16 % 2 ^ 64) ++ ([if f = 88 then 80 else 112] ++ xExp (xFin prec m mb e).2)))

set_option maxRecDepth 100000 in
set_option maxHeartbeats 4000000 in
theorem fmtX_any (T : Nat) (neg : Bool) (dst : Value) (prec f : Int) (m mb : Nat) (e : Int) (xs : List UInt8) (w : World) (he : Env T w) (hown : OwnB T w dst xs)
    (hx : xs.length ≤ 140737489000000) (hf : f = 120 ∨ f = 88) (hp1 : -9223372036854775808 ≤ prec) (hp2 : prec ≤ 100000) (he1 : -2000 ≤ e) (he2 : e ≤ 2000) (hmb : mb = 52 ∨ mb = 23) (hm : m < 2 ^ (mb + 1)) :
    Calls Tryz.prog 132 #[dst, .int .i64 prec, .int .u8 f, .bool neg, .int .u64 (m : Int), .int .i64 e, .int .i64 (mb : Int)] w fun r w' =>
      ∃ v', r = .returned v' ∧ OwnB T w' v' (xs ++ xL neg prec f m mb e) ∧ Stp w dst w' v' := by
  have hf1 : 0 ≤ f := by omega
  have hf2 : f ≤ 255 := by omega
  have HF := Lib.hid hf
  clear hf
  have hap := Ap.start hown he (Or.inl rfl : Dig w dst dst [])
  clear hown he
  refine calls_F Tryz.func132 rfl (by rw [Tryz.ntmps132]; simp) ?_
  intro σ hσ
  rw [Tryz.ntmps132]
  have s0 : σ 0 = dst := hσ 0 (by simp)
  have s1 : σ 1 = .int .i64 prec := hσ 1 (by simp)
  have s2 : σ 2 = .int .u8 f := hσ 2 (by simp)
  have s3 : σ 3 = .bool neg := hσ 3 (by simp)
  have s4 : σ 4 = .int .u64 (m : Int) := hσ 4 (by simp)
  have s5 : σ 5 = .int .i64 e := hσ 5 (by simp)
  have s6 : σ 6 = .int .i64 (mb : Int) := hσ 6 (by simp)
  clear hσ
  have hmr : m < 2 ^ 53 := by rcases hmb with rfl | rfl <;> omega
  go_wp2_with fail
  refine cut_F (fun s' w' => s' 0 = dst ∧ s' 1 = .int .i64 prec ∧ s' 2 = .int .u8 f ∧ s' 3 = .bool neg ∧ s' 4 = .int .u64 (m : Int) ∧ s' 5 = .int .i64 (if m = 0 then 0 else e) ∧ s' 6 = .int .i64 (mb : Int) ∧ w = w') ?_ ?_
  · intro R' K' HR hK'
    by_cases h : m = 0
    · subst h
      refine cond_yes (by simp [ov, *]) (by decide) ?_
      go_wp2_with fail
      exact got HR (by simp [ov, *])
    · refine cond_no (by simp [ov, *]) (by decide) ?_
      go_wp2_with fail
      exact got HR (by simp [ov, *])
  clear s0 s1 s2 s3 s4 s5 s6 σ
  rintro σ w' ⟨s0, s1, s2, s3, s4, s5, s6, rfl⟩
  obtain ⟨e0, he0⟩ : ∃ e0 : Int, (if m = 0 then 0 else e) = e0 := ⟨_, rfl⟩
  have hb1 : -2000 ≤ e0 ∧ e0 ≤ 2000 := by rw [← he0]; split <;> omega
  rw [he0] at s5
  obtain ⟨m1, hm1⟩ : ∃ m1 : Nat, m * 2 ^ (60 - mb) = m1 := ⟨_, rfl⟩
  have hm1b : m1 < 2 ^ 61 := by rw [← hm1]; rcases hmb with rfl | rfl <;> omega
  have HM1 := Lib.hid hm1
  have HE0 := Lib.hid he0
  clear hm1 he0
  go_upto_region 3 with fail
  refine cut_F (fun s' w' => s' 0 = dst ∧ s' 1 = .int .i64 prec ∧ s' 2 = .int .u8 f ∧ s' 3 = .bool neg ∧ s' 4 = .int .u64 (m1 : Int) ∧ s' 5 = .int .i64 e0 ∧ w = w') ?_ ?_
  · intro R' K' HR hK'
    rcases hmb with rfl | rfl
    · have hq : (m : Int) * 256 = (m1 : Int) := by have : m * 256 = m1 := HM1.out; omega
      go_wp2_with fail
      exact got HR (by simp [ov, *])
    · have hq : (m : Int) * 137438953472 = (m1 : Int) := by have : m * 137438953472 = m1 := HM1.out; omega
      go_wp2_with fail
      exact got HR (by simp [ov, *])
  clear s0 s1 s2 s3 s4 s5 s6 σ
  rintro σ w' ⟨s0, s1, s2, s3, s4, s5, rfl⟩
  go_wp2_with fail
  refine loop_F (fun k s' w' => ∃ (j mj : Nat), mj < 2 ^ 61 ∧ j ≤ 60 ∧ (m1 = 0 → j = 0) ∧ k = 2 ^ 61 - mj ∧ mj = m1 * 2 ^ j ∧ s' 0 = dst ∧ s' 1 = .int .i64 prec ∧ s' 2 = .int .u8 f ∧ s' 3 = .bool neg ∧ s' 4 = .int .u64 (mj : Int) ∧ s' 5 = .int .i64 (e0 - (j : Int)) ∧ w = w') (2 ^ 61 - m1) ⟨0, m1, hm1b, by omega, fun _ => rfl, rfl, by simp, by simp [ov, *], by simp [ov, *], by simp [ov, *], by simp [ov, *], by simp [ov, *], by simp [ov, *], rfl⟩ ?_
  clear s0 s1 s2 s3 s4 s5 σ
  rintro k σ wk ⟨j, mj, hmj, hj, hj0, rfl, hmje, s0, s1, s2, s3, s4, s5, rfl⟩ RK KK HRK hKK
  have HMJ := Lib.hid hmje
  have HJ0 := Lib.hid hj0
  clear hmje hj0
  have hm61 : mj < 2305843009213693952 := by omega
  go_upto_region 4 with fail
  refine cut_F (fun s' w' => s' 32 = .bool (decide (mj ≠ 0 ∧ mj < 1152921504606846976)) ∧ s' 0 = dst ∧ s' 1 = .int .i64 prec ∧ s' 2 = .int .u8 f ∧ s' 3 = .bool neg ∧ s' 4 = .int .u64 (mj : Int) ∧ s' 5 = .int .i64 (e0 - (j : Int)) ∧ w = w') ?_ ?_
  · intro R2 K2 HR hK2
    by_cases hz0 : mj = 0
    · go_wp2_with fail
      exact got HR (by simp [ov, *])
    · by_cases hzl : mj < 1152921504606846976
      · have hb : bits .and .u64 (mj : Int) 1152921504606846976 = (0 : Int) := by rw [u64_and_p60 mj (by omega)]; omega
        go_wp2_with fail
        exact got HR (by simp [ov, *])
      · have hb : bits .and .u64 (mj : Int) 1152921504606846976 = (1152921504606846976 : Int) := by rw [u64_and_p60 mj (by omega)]; omega
        go_wp2_with fail
        exact got HR (by simp [ov, *])
  clear s0 s1 s2 s3 s4 s5 σ
  rintro σ w' ⟨s32, s0, s1, s2, s3, s4, s5, rfl⟩
  go_wp2_with fail
  refine cond_F _ (by rw [over_nil, s32]) (by decide) (fun h => ?_) (fun h => ?_)
  · have h' := of_decide_eq_true h
    have hz0 : ¬ mj = 0 := h'.1
    have hzl : mj < 1152921504606846976 := h'.2
    clear h h'
    have hjl : j < 60 := by
      have := HMJ.out
      by_cases h : j < 60
      · exact h
      · have hj60 : j = 60 := by omega
        rw [hj60] at this
        omega
    go_wp2_with fail
    exact gotk HRK (2 ^ 61 - mj * 2) (by omega) ⟨j + 1, mj * 2, by omega, by omega, fun h => absurd (by rw [HMJ.out, h]; simp) hz0, rfl, by rw [HMJ.out, Nat.pow_succ, Nat.mul_assoc], by simp [ov, *], by simp [ov, *], by simp [ov, *], by simp [ov, *], by simp [ov, *], by simp [ov, *]; omega, rfl⟩
  have hz : mj = 0 ∨ 1152921504606846976 ≤ mj := by have := of_decide_eq_false h; omega
  have hnorm := xNorm_is (e := e0) HMJ.out hj hmj hz HJ0.out
  have HNORM := Lib.hid hnorm
  have hk1 : -2060 ≤ e0 - (j : Int) ∧ e0 - (j : Int) ≤ 2000 := by omega
  obtain ⟨e1, he1'⟩ : ∃ e1, e0 - (j : Int) = e1 := ⟨_, rfl⟩
  rw [he1'] at hk1 s5 HNORM
  clear h s32 hnorm HJ0 HMJ hj hz hKK HRK he1'
  go_upto_region 7 with fail
  refine cut_F (fun s' w' => s' 42 = .bool (decide (0 ≤ prec ∧ prec < 15)) ∧ s' 0 = dst ∧ s' 1 = .int .i64 prec ∧ s' 2 = .int .u8 f ∧ s' 3 = .bool neg ∧ s' 4 = .int .u64 (mj : Int) ∧ s' 5 = .int .i64 e1 ∧ w = w') ?_ ?_
  · intro R2 K2 HR hK2
    by_cases h1 : 0 ≤ prec
    · go_wp2_with fail
      exact got HR (by simp [ov, *])
    · have h1' : decide (0 ≤ prec) = false := by simpa using h1
      go_wp2_with fail
      exact got HR (by simp [ov, *])
  clear s0 s1 s2 s3 s4 s5 σ
  rintro σ w' ⟨s42, s0, s1, s2, s3, s4, s5, rfl⟩
  go_wp2_with fail
  refine cut_F (fun s' w' => s' 0 = dst ∧ s' 1 = .int .i64 prec ∧ s' 2 = .int .u8 f ∧ s' 3 = .bool neg ∧ s' 4 = .int .u64 ((xRnd prec mj e1).1 : Int) ∧ s' 5 = .int .i64 (xRnd prec mj e1).2 ∧ w = w') ?_ ?_
  · intro R2 K2 HR hK2
    refine cond_F _ (by rw [over_nil, s42]) (by decide) (fun h => ?_) (fun h => ?_)
    · have h' := of_decide_eq_true h
      obtain ⟨p, hp⟩ : ∃ p : Nat, prec = (p : Int) := ⟨prec.toNat, by omega⟩
      have hp15 : p < 15 := by omega
      subst hp
      clear h h' s42
      obtain ⟨q, hq⟩ : ∃ q : Nat, mj / 2 ^ (60 - p * 4) = q := ⟨_, rfl⟩
      obtain ⟨X, hX⟩ : ∃ X : Nat, (mj * 2 ^ (p * 4) % 2 ^ 60 ||| q % 2) = X := ⟨_, rfl⟩
      have hp2' : 2 ^ (60 - p * 4) * 2 ^ (p * 4) = 2 ^ 60 := by rw [← Nat.pow_add]; congr 1; omega
      have hpp : 0 < 2 ^ (60 - p * 4) := Nat.two_pow_pos _
      have hq1 : q * 2 ^ (60 - p * 4) ≤ mj := by rw [← hq]; exact Nat.div_mul_le_self _ _
      have hq2 : q < 2 ^ 61 := by
        refine Nat.lt_of_le_of_lt ?_ hm61
        rw [← hq]; exact Nat.div_le_self _ _
      have hq3 : (q + 1) * 2 ^ (60 - p * 4) ≤ mj + 2 ^ 60 := by
        rw [Nat.add_mul, Nat.one_mul]
        have : 2 ^ (60 - p * 4) ≤ 2 ^ 60 := Nat.pow_le_pow_right (by omega) (by omega)
        omega
      have hqi : (mj : Int) / 2 ^ (60 - p * 4) = (q : Int) := by rw [← hq]; simp
      have hXi : bits .or .u64 (bits .and .u64 (IntKind.u64.wrap ((mj : Int) * 2 ^ (p * 4))) 1152921504606846975) (bits .and .u64 (q : Int) 1) = (X : Int) := by
        have e1 : IntKind.u64.wrap ((mj : Int) * 2 ^ (p * 4)) = ((mj * 2 ^ (p * 4) % 18446744073709551616 : Nat) : Int) := by
          rw [IntKind.wrap_u64]; simp
        rw [e1, u64_and_m60 _ (by omega), u64_and1 _ (by omega)]
        have := u64_or_nat (mj * 2 ^ (p * 4) % 18446744073709551616 % 1152921504606846976) (q % 2) (by omega) (by omega)
        rw [this, show mj * 2 ^ (p * 4) % 18446744073709551616 % 1152921504606846976 = mj * 2 ^ (p * 4) % 2 ^ 60 by omega, hX]
      have hxr : ∀ r : Nat, (if 576460752303423488 < X then q + 1 else q) * 2 ^ (60 - p * 4) = r → xRnd (p : Int) mj e1 = if r / 2 ^ 61 % 2 = 0 then (r, e1) else (r / 2, e1 + 1) := by
        intro r hr
        unfold xRnd
        rw [if_pos (by omega)]
        simp only [Int.toNat_natCast, hq, hX, hr]
      have HXR := Lib.hid hxr
      clear hxr hX hq hp2' hpp
      by_cases hc : 576460752303423488 < X
      · have hci : (576460752303423488 : Int) < (X : Int) := by omega
        obtain ⟨r, hr⟩ : ∃ r : Nat, (q + 1) * 2 ^ (60 - p * 4) = r := ⟨_, rfl⟩
        have hxr := HXR.out r (by rw [if_pos hc, hr])
        have hrb : r < 18446744073709551616 := by omega
        have hri : IntKind.u64.wrap (((q : Int) + 1) * 2 ^ (60 - p * 4)) = (r : Int) := by
          have : ((q : Int) + 1) * 2 ^ (60 - p * 4) = (r : Int) := by rw [← hr]; simp
          rw [this, IntKind.wrap_u64]; omega
        have HXR2 := Lib.hid hxr
        clear hr hq1 hq3 hxr HXR
        by_cases hb : r / 2 ^ 61 % 2 = 0
        · have hbi : bits .and .u64 (r : Int) 2305843009213693952 = (0 : Int) := by rw [u64_and_p61 r hrb]; omega
          have hxr := HXR2.out
          rw [if_pos hb] at hxr
          clear hb
          ((repeat (go_wp2_with fail; first | (refine cdY ?_ ?_; focus (simp [ov, *]; done)) | (refine cdN ?_ ?_; focus (simp [ov, *]; done)))); go_wp2_with fail)
          exact got HR (by rw [hxr]; simp [ov, *])
        · have hbi : bits .and .u64 (r : Int) 2305843009213693952 = (2305843009213693952 : Int) := by rw [u64_and_p61 r hrb]; omega
          have hxr := HXR2.out
          rw [if_neg hb] at hxr
          clear hb
          ((repeat (go_wp2_with fail; first | (refine cdY ?_ ?_; focus (simp [ov, *]; done)) | (refine cdN ?_ ?_; focus (simp [ov, *]; done)))); go_wp2_with fail)
          exact got HR (by rw [hxr]; simp [ov, *])
      · have hci : decide ((576460752303423488 : Int) < (X : Int)) = false := by simp; omega
        obtain ⟨r, hr⟩ : ∃ r : Nat, q * 2 ^ (60 - p * 4) = r := ⟨_, rfl⟩
        have hxr := HXR.out r (by rw [if_neg hc, hr])
        have hrb : r < 18446744073709551616 := by omega
        have hri : IntKind.u64.wrap ((q : Int) * 2 ^ (60 - p * 4)) = (r : Int) := by
          have : (q : Int) * 2 ^ (60 - p * 4) = (r : Int) := by rw [← hr]; simp
          rw [this, IntKind.wrap_u64]; omega
        have HXR2 := Lib.hid hxr
        clear hr hq1 hq3 hxr HXR
        by_cases hb : r / 2 ^ 61 % 2 = 0
        · have hbi : bits .and .u64 (r : Int) 2305843009213693952 = (0 : Int) := by rw [u64_and_p61 r hrb]; omega
          have hxr := HXR2.out
          rw [if_pos hb] at hxr
          clear hb
          ((repeat (go_wp2_with fail; first | (refine cdY ?_ ?_; focus (simp [ov, *]; done)) | (refine cdN ?_ ?_; focus (simp [ov, *]; done)))); go_wp2_with fail)
          exact got HR (by rw [hxr]; simp [ov, *])
        · have hbi : bits .and .u64 (r : Int) 2305843009213693952 = (2305843009213693952 : Int) := by rw [u64_and_p61 r hrb]; omega
          have hxr := HXR2.out
          rw [if_neg hb] at hxr
          clear hb
          ((repeat (go_wp2_with fail; first | (refine cdY ?_ ?_; focus (simp [ov, *]; done)) | (refine cdN ?_ ?_; focus (simp [ov, *]; done)))); go_wp2_with fail)
          exact got HR (by rw [hxr]; simp [ov, *])
    · have hx0 : xRnd prec mj e1 = (mj, e1) := by unfold xRnd; rw [if_neg (of_decide_eq_false h)]
      go_wp2_with fail
      exact got HR (by rw [hx0]; simp [ov, *])
  clear s0 s1 s2 s3 s4 s5 s42 σ
  rintro σ w' ⟨s0, s1, s2, s3, s4, s5, rfl⟩
  have hrb := xRnd_bd prec mj e1 hm61
  obtain ⟨mR, hmR⟩ : ∃ mR, (xRnd prec mj e1).1 = mR := ⟨_, rfl⟩
  obtain ⟨eR, heR⟩ : ∃ eR, (xRnd prec mj e1).2 = eR := ⟨_, rfl⟩
  have HMR := Lib.hid hmR
  have HER := Lib.hid heR
  have hrb1 : mR < 4611686018427387904 := by rw [← hmR]; exact hrb.1
  have hrb2 : -2060 ≤ eR ∧ eR ≤ 2001 := by rw [← heR]; omega
  rw [hmR] at s4
  rw [heR] at s5
  clear hmR heR hrb
  go_wp2_with fail
  refine cut_F (fun s' w' => s' 17 = .string (hexA (f == 88)) ∧ s' 0 = dst ∧ s' 1 = .int .i64 prec ∧ s' 2 = .int .u8 f ∧ s' 3 = .bool neg ∧ s' 4 = .int .u64 (mR : Int) ∧ s' 5 = .int .i64 eR ∧ w = w') ?_ ?_
  · intro R2 K2 HR hK2
    refine cond_F (f == 88) (by simp [ov, *]) (by decide) (fun h => ?_) (fun h => ?_)
    · go_wp2_with fail
      exact got HR (by simp [over_cons, over_nil, hexA, *])
    · go_wp2_with fail
      exact got HR (by simp [over_cons, over_nil, hexA, *])
  clear s0 s1 s2 s3 s4 s5 σ
  rintro σ w' ⟨s17, s0, s1, s2, s3, s4, s5, rfl⟩
  go_wp2_with fail
  refine cut_F (fun s' w' => ∃ v, s' 0 = v ∧ Ap T w dst dst [] w' v (xs ++ eSign neg) ∧ s' 17 = .string (hexA (f == 88)) ∧ s' 1 = .int .i64 prec ∧ s' 2 = .int .u8 f ∧ s' 4 = .int .u64 (mR : Int) ∧ s' 5 = .int .i64 eR) ?_ ?_
  · intro R' K' HR hK'
    refine cond_F neg (by simp [ov, *]) (by decide) (fun h => ?_) (fun h => ?_)
    · subst h
      go_wp2_with (at_builtin; refine wpList_appF rfl _ _ _ _ rfl (by decide) (by decide) byteTy (hap.own.alloc _) (by simp [ov, *]) _ (by simp [ov, *]) [45] (src_new Tryz.underlying51 [45] _) (by simp only [List.length_append, List.length_cons, List.length_nil, List.length_replicate] at *; omega) ?_; intro v w' ho1 hs1; replace hap := hap.step ho1 hs1; clear ho1 hs1)
      exact got HR ⟨v, by simp [ov, *], hap, by simp [ov, *], by simp [ov, *], by simp [ov, *], by simp [ov, *], by simp [ov, *]⟩
    · subst h
      go_wp2_with fail
      exact got HR ⟨dst, by simp [ov, *], hap.to (by simp [eSign]), by simp [ov, *], by simp [ov, *], by simp [ov, *], by simp [ov, *], by simp [ov, *]⟩
  clear s0 s1 s2 s3 s4 s5 s17 σ hap
  rintro σ w1 ⟨v1, s0, hap, s17, s1, s2, s4, s5⟩
  have hsl : (eSign neg).length ≤ 1 := by cases neg <;> simp [eSign]
  obtain ⟨sg, hsg⟩ : ∃ sg, eSign neg = sg := ⟨_, rfl⟩
  rw [hsg] at hap hsl
  have HSG := Lib.hid hsg
  clear hsg
  have hlb : bits .and .u64 ((mR : Int) / 1152921504606846976) 1 = ((mR / 1152921504606846976 % 2 : Nat) : Int) := by
    have := u64_and1 (mR / 1152921504606846976) (by omega)
    simpa using this
  have hld : mR / 1152921504606846976 % 2 < 2 := Nat.mod_lt _ (by omega)
  obtain ⟨ld, hld'⟩ : ∃ ld, mR / 1152921504606846976 % 2 = ld := ⟨_, rfl⟩
  rw [hld'] at hlb hld
  have HLD := Lib.hid hld'
  obtain ⟨m2, hm2⟩ : ∃ m2, mR * 16 % 18446744073709551616 = m2 := ⟨_, rfl⟩
  have hm2b : m2 < 18446744073709551616 := by rw [← hm2]; exact Nat.mod_lt _ (by omega)
  have hm2i : IntKind.u64.wrap ((mR : Int) * 16) = (m2 : Int) := by rw [IntKind.wrap_u64, ← hm2]; simp
  have HM2 := Lib.hid hm2
  clear hld' hm2
  go_upto_region 24 with (at_builtin; refine wpList_appF rfl _ _ _ _ rfl (by decide) (by decide) byteTy (hap.own.alloc _) (by simp [ov, *]) _ (by simp [ov, *]) [UInt8.ofNat ((48 : Int)).toNat, UInt8.ofNat (f).toNat, UInt8.ofNat (48 + (ld : Int)).toNat] (src_three_at Tryz.underlying51 ((48 : Int)) (f) (48 + (ld : Int)) (by omega) (by omega) (by omega) (by omega) (by omega) (by omega) _) (by simp only [List.length_append, List.length_cons, List.length_nil, List.length_replicate] at *; omega) ?_; intro v w' ho1 hs1; replace hap := hap.step ho1 hs1; clear ho1 hs1)
  refine cut_F (fun s' w'' => s' 94 = .bool (decide (prec < 0 ∧ m2 ≠ 0)) ∧ s' 0 = v ∧ s' 17 = .string (hexA (f == 88)) ∧ s' 1 = .int .i64 prec ∧ s' 2 = .int .u8 f ∧ s' 4 = .int .u64 (m2 : Int) ∧ s' 5 = .int .i64 eR ∧ w' = w'') ?_ ?_
  · intro R2 K2 HR hK2
    by_cases h1 : prec < 0
    · by_cases h0 : m2 = 0
      · go_wp2_with fail
        exact got HR (by simp [ov, *])
      · have h0' : ((m2 : Int) != 0) = true := by simp [h0]
        go_wp2_with fail
        exact got HR (by simp [ov, *])
    · have h1' : decide (prec < 0) = false := by simpa using h1
      go_wp2_with fail
      exact got HR (by simp [ov, *])
  clear s0 s1 s2 s4 s5 s17 σ
  rintro σ w3 ⟨s94, s0, s17, s1, s2, s4, s5, rfl⟩
  have hXs : (xs ++ sg ++ [UInt8.ofNat (Int.toNat 48), UInt8.ofNat f.toNat, UInt8.ofNat (48 + (ld : Int)).toNat]).length ≤ xs.length + 4 := by
    simp only [List.length_append, List.length_cons, List.length_nil]; omega
  obtain ⟨out, hout⟩ : ∃ out, xs ++ sg ++ [UInt8.ofNat (Int.toNat 48), UInt8.ofNat f.toNat, UInt8.ofNat (48 + (ld : Int)).toNat] = out := ⟨_, rfl⟩
  rw [hout] at hap hXs
  have HOUT := Lib.hid hout
  clear hout
  obtain ⟨up, hup⟩ : ∃ up, (f == 88) = up := ⟨_, rfl⟩
  rw [hup] at s17
  have HUP := Lib.hid hup
  clear hup
  go_wp2_with fail
  refine cut_F (fun s' w' => ∃ v, s' 0 = v ∧ Ap T w dst dst [] w' v (out ++ xFrac up prec m2) ∧ s' 2 = .int .u8 f ∧ s' 5 = .int .i64 eR) ?_ ?_
  · intro R' K' HR hK'
    refine cond_F _ (by rw [over_nil, s94]) (by decide) (fun h => ?_) (fun h => ?_)
    · have hfr : xFrac up prec m2 = 46 :: hexZ up 16 m2 := by unfold xFrac; rw [if_pos (of_decide_eq_true h)]
      clear h s94
      have HFR := Lib.hid hfr
      clear hfr
      go_wp2_with (at_builtin; refine wpList_appF rfl _ _ _ _ rfl (by decide) (by decide) byteTy (hap.own.alloc _) (by simp [ov, *]) _ (by simp [ov, *]) [46] (src_new Tryz.underlying51 [46] _) (by simp only [List.length_append, List.length_cons, List.length_nil, List.length_replicate] at *; omega) ?_; intro v w' ho1 hs1; replace hap := hap.step ho1 hs1; clear ho1 hs1)
      refine loop_F (fun k s' w' => ∃ (i mi : Nat) (v : Value) (l : List UInt8), i ≤ 16 ∧ k = 16 - i ∧ mi = m2 * 16 ^ i % 18446744073709551616 ∧ l.length ≤ i ∧ l ++ hexZ up (16 - i) mi = hexZ up 16 m2 ∧ s' 0 = v ∧ Ap T w dst dst [] w' v (out ++ [46] ++ l) ∧ s' 2 = .int .u8 f ∧ s' 5 = .int .i64 eR ∧ s' 4 = .int .u64 (mi : Int) ∧ s' 17 = .string (hexA up)) 16 ⟨0, m2, _, [], Nat.zero_le _, rfl, by omega, by simp, rfl, rfl, (hap.to (by simp)).at (by simp [ov, *]), by simp [ov, *], by simp [ov, *], by simp [ov, *], by simp [ov, *]⟩ ?_
      clear s0 s1 s2 s4 s5 s17 σ hap
      rintro k σ wk ⟨i, mi, vk, l, hi, rfl, hmi, hll, hlz, s0, hap, s2, s5, s4, s17⟩ RK KK HRK hKK
      have hmib : mi < 18446744073709551616 := by rw [hmi]; exact Nat.mod_lt _ (by omega)
      have HMI := Lib.hid hmi
      have HLZ := Lib.hid hlz
      clear hmi hlz
      by_cases hz : mi = 0
      · have hlz := HLZ.out
        have e0 : hexZ up (16 - i) mi = [] := by
          rw [hz]; cases h : 16 - i <;> simp [hexZ]
        rw [e0, List.append_nil] at hlz
        have HLL := Lib.hid hlz
        clear hlz e0
        subst hz
        ((repeat (go_wp2_with fail; first | (refine cdY ?_ ?_; focus (simp [ov, *]; done)) | (refine cdN ?_ ?_; focus (simp [ov, *]; done)))); go_wp2_with fail)
        exact got HR ⟨vk, by simp [ov, *], hap.to (by rw [HFR.out, HLL.out]; simp), by simp [ov, *], by simp [ov, *]⟩
      · have hi16 : i < 16 := by
          by_cases h : i < 16
          · exact h
          · have : i = 16 := by omega
            have hm := HMI.out
            rw [this] at hm
            omega
        have hsz := hexA_size up
        have hdi : bits .and .u64 ((mi : Int) / 1152921504606846976) 15 = ((mi / 1152921504606846976 % 16 : Nat) : Int) := by
          have := u64_and15 (mi / 1152921504606846976) (by omega)
          simpa using this
        have hdb : mi / 1152921504606846976 % 16 < 16 := Nat.mod_lt _ (by omega)
        obtain ⟨d, hd⟩ : ∃ d, mi / 1152921504606846976 % 16 = d := ⟨_, rfl⟩
        rw [hd] at hdi hdb
        have HD := Lib.hid hd
        clear hd
        have hzi : ((mi : Int) != 0) = true := by simp [hz]
        obtain ⟨mn, hmn⟩ : ∃ mn, mi * 16 % 18446744073709551616 = mn := ⟨_, rfl⟩
        have hmni : IntKind.u64.wrap ((mi : Int) * 16) = (mn : Int) := by rw [IntKind.wrap_u64, ← hmn]; simp
        have HMN := Lib.hid hmn
        clear hmn
        ((repeat (go_wp2_with (first | (at_builtin; refine wpList_appF rfl _ _ _ _ rfl (by decide) (by decide) byteTy (hap.own.alloc _) (by simp [ov, *]) _ (by simp [ov, *]) [(hexA up)[d]'(by omega)] (src_new Tryz.underlying51 [(hexA up)[d]'(by omega)] _) (by simp only [List.length_append, List.length_cons, List.length_nil, List.length_replicate] at *; omega) ?_; intro v w' ho1 hs1; replace hap := hap.step ho1 hs1; clear ho1 hs1)); first | (refine cdY ?_ ?_; focus (simp [ov, *]; done)) | (refine cdN ?_ ?_; focus (simp [ov, *]; done)))); go_wp2_with (first | (at_builtin; refine wpList_appF rfl _ _ _ _ rfl (by decide) (by decide) byteTy (hap.own.alloc _) (by simp [ov, *]) _ (by simp [ov, *]) [(hexA up)[d]'(by omega)] (src_new Tryz.underlying51 [(hexA up)[d]'(by omega)] _) (by simp only [List.length_append, List.length_cons, List.length_nil, List.length_replicate] at *; omega) ?_; intro v w' ho1 hs1; replace hap := hap.step ho1 hs1; clear ho1 hs1)))
        exact gotk HRK (16 - (i + 1)) (by omega) ⟨i + 1, mn, v, l ++ [(hexA up)[d]'(by omega)], by omega, rfl, by rw [← HMN.out, HMI.out, Nat.pow_succ, ← Nat.mul_assoc]; generalize m2 * 16 ^ i = z; omega, by simp; omega, by
          rw [← HLZ.out, show 16 - i = (16 - (i + 1)) + 1 by omega]
          conv => rhs; unfold hexZ
          rw [if_neg hz, hexD_is, ← HD.out, ← HMN.out]
          simp, by simp [over_cons, over_nil], hap.to (by simp), by simp [ov, *], by simp [ov, *], by simp [ov, *], by simp [ov, *]⟩
    · have hn := of_decide_eq_false h
      clear s94
      by_cases hp : 0 < prec
      · obtain ⟨N, hN⟩ : ∃ N : Nat, prec = (N : Int) := ⟨prec.toNat, by omega⟩
        subst hN
        have hfr : xFrac up (N : Int) m2 = 46 :: hexN up N m2 := by unfold xFrac; rw [if_neg hn, if_pos hp, Int.toNat_natCast]
        have HFR := Lib.hid hfr
        have hNp : 0 < N := by omega
        clear h hn hfr
        go_wp2_with fail
        refine cond_yes (by simp [ov, *]) (by decide) ?_
        go_wp2_with (at_builtin; refine wpList_appF rfl _ _ _ _ rfl (by decide) (by decide) byteTy (hap.own.alloc _) (by simp [ov, *]) _ (by simp [ov, *]) [46] (src_new Tryz.underlying51 [46] _) (by simp only [List.length_append, List.length_cons, List.length_nil, List.length_replicate] at *; omega) ?_; intro v w' ho1 hs1; replace hap := hap.step ho1 hs1; clear ho1 hs1)
        refine loop_F (fun k s' w' => ∃ (i mi : Nat) (v : Value) (l : List UInt8), i ≤ N ∧ k = N - i ∧ mi < 18446744073709551616 ∧ l.length = i ∧ l ++ hexN up (N - i) mi = hexN up N m2 ∧ s' 0 = v ∧ Ap T w dst dst [] w' v (out ++ [46] ++ l) ∧ s' 1 = .int .i64 (N : Int) ∧ s' 18 = .int .i64 (i : Int) ∧ s' 2 = .int .u8 f ∧ s' 5 = .int .i64 eR ∧ s' 4 = .int .u64 (mi : Int) ∧ s' 17 = .string (hexA up)) N ⟨0, m2, _, [], Nat.zero_le _, rfl, by omega, by simp, rfl, rfl, (hap.to (by simp)).at (by simp [ov, *]), by simp [ov, *], by simp [ov, *], by simp [ov, *], by simp [ov, *], by simp [ov, *], by simp [ov, *]⟩ ?_
        clear s0 s1 s2 s4 s5 s17 σ hap
        rintro k σ wk ⟨i, mi, vk, l, hi, rfl, hmib, hll, hlz, s0, hap, s1, s18, s2, s5, s4, s17⟩ RK KK HRK hKK
        have HLZ := Lib.hid hlz
        clear hlz
        by_cases hz : i < N
        · have hsz := hexA_size up
          have hdi : bits .and .u64 ((mi : Int) / 1152921504606846976) 15 = ((mi / 1152921504606846976 % 16 : Nat) : Int) := by
            have := u64_and15 (mi / 1152921504606846976) (by omega)
            simpa using this
          have hdb : mi / 1152921504606846976 % 16 < 16 := Nat.mod_lt _ (by omega)
          obtain ⟨d, hd⟩ : ∃ d, mi / 1152921504606846976 % 16 = d := ⟨_, rfl⟩
          rw [hd] at hdi hdb
          have HD := Lib.hid hd
          clear hd
          obtain ⟨mn, hmn⟩ : ∃ mn, mi * 16 % 18446744073709551616 = mn := ⟨_, rfl⟩
          have hmni : IntKind.u64.wrap ((mi : Int) * 16) = (mn : Int) := by rw [IntKind.wrap_u64, ← hmn]; simp
          have hmnb : mn < 18446744073709551616 := by rw [← hmn]; exact Nat.mod_lt _ (by omega)
          have HMN := Lib.hid hmn
          clear hmn
          ((repeat (go_wp2_with (first | (at_builtin; refine wpList_appF rfl _ _ _ _ rfl (by decide) (by decide) byteTy (hap.own.alloc _) (by simp [ov, *]) _ (by simp [ov, *]) [(hexA up)[d]'(by omega)] (src_new Tryz.underlying51 [(hexA up)[d]'(by omega)] _) (by simp only [List.length_append, List.length_cons, List.length_nil, List.length_replicate] at *; omega) ?_; intro v w' ho1 hs1; replace hap := hap.step ho1 hs1; clear ho1 hs1)); first | (refine cdY ?_ ?_; focus (simp [ov, *]; done)) | (refine cdN ?_ ?_; focus (simp [ov, *]; done)))); go_wp2_with (first | (at_builtin; refine wpList_appF rfl _ _ _ _ rfl (by decide) (by decide) byteTy (hap.own.alloc _) (by simp [ov, *]) _ (by simp [ov, *]) [(hexA up)[d]'(by omega)] (src_new Tryz.underlying51 [(hexA up)[d]'(by omega)] _) (by simp only [List.length_append, List.length_cons, List.length_nil, List.length_replicate] at *; omega) ?_; intro v w' ho1 hs1; replace hap := hap.step ho1 hs1; clear ho1 hs1)))
          exact gotk HRK (N - (i + 1)) (by omega) ⟨i + 1, mn, v, l ++ [(hexA up)[d]'(by omega)], by omega, rfl, hmnb, by simp; omega, by
            rw [← HLZ.out, show N - i = (N - (i + 1)) + 1 by omega]
            conv => rhs; unfold hexN
            rw [hexD_is, ← HD.out, ← HMN.out]
            simp, by simp [over_cons, over_nil], hap.to (by simp), by simp [ov, *], by simp [ov, *], by simp [ov, *], by simp [ov, *], by simp [ov, *], by simp [ov, *]⟩
        have hiN : i = N := by omega
        have hif : decide (i < N) = false := by simpa using hz
        have hlz := HLZ.out
        rw [hiN, Nat.sub_self, show hexN up 0 mi = [] from rfl, List.append_nil] at hlz
        have HLL := Lib.hid hlz
        clear hlz
        ((repeat (go_wp2_with fail; first | (refine cdY ?_ ?_; focus (simp [ov, *]; done)) | (refine cdN ?_ ?_; focus (simp [ov, *]; done)))); go_wp2_with fail)
        exact got HR ⟨vk, by simp [ov, *], hap.to (by rw [HFR.out, HLL.out]; simp), by simp [ov, *], by simp [ov, *]⟩
      · have hfr : xFrac up prec m2 = [] := by unfold xFrac; rw [if_neg hn, if_neg hp]
        have hpi : decide (0 < prec) = false := by simpa using hp
        clear h hn
        ((repeat (go_wp2_with fail; first | (refine cdY ?_ ?_; focus (simp [ov, *]; done)) | (refine cdN ?_ ?_; focus (simp [ov, *]; done)))); go_wp2_with fail)
        exact got HR ⟨v, by simp [ov, *], hap.to (by rw [hfr]; simp), by simp [ov, *], by simp [ov, *]⟩
  clear s0 s1 s2 s4 s5 s17 s94 σ hap
  rintro σ w3 ⟨v3, s0, hap, s2, s5⟩
  have hfl : (xFrac up prec m2).length ≤ 100020 := by
    unfold xFrac
    split
    · have := hexZ_len up 16 m2; simp; omega
    · split
      · simp [hexN_len]; omega
      · simp
  obtain ⟨fr, hfr⟩ : ∃ fr, xFrac up prec m2 = fr := ⟨_, rfl⟩
  rw [hfr] at hap hfl
  have HFR := Lib.hid hfr
  clear hfr
  go_wp2_with (first | (go_at_call 147; refine (Tryz.internal_strconv_lower _ _).mono ?_; rintro e w' ⟨rfl, rfl⟩))
  refine cut_F (fun s' w'' => s' 19 = .int .u8 (if f = 88 then 80 else 112) ∧ s' 0 = v3 ∧ s' 5 = .int .i64 eR ∧ w' = w'') ?_ ?_
  · intro R2 K2 HR hK2
    rcases HF.out with hf | hf
    · have hl : bits .or .u8 120 32 = (120 : Int) := by decide
      subst hf
      ((repeat (go_wp2_with fail; first | (refine cdY ?_ ?_; focus (simp [ov, *]; done)) | (refine cdN ?_ ?_; focus (simp [ov, *]; done)))); go_wp2_with fail)
      exact got HR (by simp [ov, *])
    · have hl : bits .or .u8 88 32 = (120 : Int) := by decide
      subst hf
      ((repeat (go_wp2_with fail; first | (refine cdY ?_ ?_; focus (simp [ov, *]; done)) | (refine cdN ?_ ?_; focus (simp [ov, *]; done)))); go_wp2_with fail)
      exact got HR (by simp [ov, *])
  clear s0 s2 s5 σ
  rintro σ w4 ⟨s19, s0, s5, rfl⟩
  obtain ⟨pc, hpc⟩ : ∃ pc : Int, (if f = 88 then 80 else 112) = pc := ⟨_, rfl⟩
  have hpcb : 0 ≤ pc ∧ pc < 256 := by rw [← hpc]; split <;> omega
  rw [hpc] at s19
  have HPC := Lib.hid hpc
  clear hpc
  go_wp2_with (at_builtin; refine wpList_appF rfl _ _ _ _ rfl (by decide) (by decide) byteTy (hap.own.alloc _) (by simp [ov, *]) _ (by simp [ov, *]) [UInt8.ofNat (pc).toNat] (src_one_at Tryz.underlying51 (pc) (by omega) (by omega) _) (by simp only [List.length_append, List.length_cons, List.length_nil, List.length_replicate] at *; omega) ?_; intro v w' ho1 hs1; replace hap := hap.step ho1 hs1; clear ho1 hs1)
  refine cut_F (fun s' w'' => s' 19 = .int .u8 (if eR < 0 then 45 else 43) ∧ s' 0 = v ∧ s' 5 = .int .i64 (eR.natAbs : Int) ∧ w' = w'') ?_ ?_
  · intro R2 K2 HR hK2
    by_cases h : eR < 0
    · have ha : -eR = (eR.natAbs : Int) := by omega
      ((repeat (go_wp2_with fail; first | (refine cdY ?_ ?_; focus (simp [ov, *]; done)) | (refine cdN ?_ ?_; focus (simp [ov, *]; done)))); go_wp2_with fail)
      exact got HR (by simp [ov, *])
    · have h' : decide (eR < 0) = false := by simpa using h
      have ha : eR = (eR.natAbs : Int) := by omega
      have HA := Lib.hid ha
      clear ha
      ((repeat (go_wp2_with fail; first | (refine cdY ?_ ?_; focus (simp [ov, *]; done)) | (refine cdN ?_ ?_; focus (simp [ov, *]; done)))); go_wp2_with fail)
      exact got HR (by simp [ov, *]; omega)
  clear s0 s19 s5 σ
  rintro σ w4 ⟨s19, s0, s5, rfl⟩
  obtain ⟨sc, hsc⟩ : ∃ sc : Int, (if eR < 0 then 45 else 43) = sc := ⟨_, rfl⟩
  have hscb : 0 ≤ sc ∧ sc < 256 := by rw [← hsc]; split <;> omega
  rw [hsc] at s19
  have HSC := Lib.hid hsc
  clear hsc
  obtain ⟨a, ha⟩ : ∃ a : Nat, eR.natAbs = a := ⟨_, rfl⟩
  have hab : a ≤ 2060 := by omega
  rw [ha] at s5
  have HA := Lib.hid ha
  clear ha
  have hfinal : ∀ tl : List UInt8, UInt8.ofNat sc.toNat :: tl = xExp eR → out ++ fr ++ [UInt8.ofNat pc.toNat] ++ [UInt8.ofNat sc.toNat] ++ tl = xs ++ xL neg prec f m mb e := by
    intro tl htl
    unfold xL xFin
    rw [HE0.out, HM1.out, HNORM.out]
    dsimp only
    rw [HMR.out, HER.out, ← htl, HUP.out, HSG.out]
    rw [show mR * 16 % 2 ^ 64 = m2 from HM2.out, HFR.out, show mR / 2 ^ 60 % 2 = ld from HLD.out, ← HOUT.out]
    have : UInt8.ofNat pc.toNat = if f = 88 then 80 else 112 := by rw [← HPC.out]; split <;> rfl
    rw [this]
    have h2 : (48 + (ld : Int)).toNat = 48 + ld := by omega
    rw [h2]
    simp
  have hexp : ∀ tl : List UInt8, (if a < 100 then [UInt8.ofNat (48 + a / 10), UInt8.ofNat (48 + a % 10)]
    else if a < 1000 then [UInt8.ofNat (48 + a / 100), UInt8.ofNat (48 + a / 10 % 10), UInt8.ofNat (48 + a % 10)]
    else [UInt8.ofNat (48 + a / 1000), UInt8.ofNat (48 + a / 100 % 10), UInt8.ofNat (48 + a / 10 % 10), UInt8.ofNat (48 + a % 10)]) = tl → UInt8.ofNat sc.toNat :: tl = xExp eR := by
    intro tl htl
    unfold xExp
    rw [HA.out, htl, ← HSC.out]
    split <;> rfl
  have HFINAL := Lib.hid hfinal
  have HEXP := Lib.hid hexp
  clear hfinal hexp
  by_cases h100 : a < 100
  · have h100i : (a : Int) < 100 := by omega
    ((repeat (go_wp2_with (first | (at_builtin; refine wpList_appF rfl _ _ _ _ rfl (by decide) (by decide) byteTy (hap.own.alloc _) (by simp [ov, *]) _ (by simp [ov, *]) [UInt8.ofNat (sc).toNat] (src_one_at Tryz.underlying51 (sc) (by omega) (by omega) _) (by simp only [List.length_append, List.length_cons, List.length_nil, List.length_replicate] at *; omega) ?_; intro v w' ho1 hs1; replace hap := hap.step ho1 hs1; clear ho1 hs1) | (at_builtin; refine wpList_appF rfl _ _ _ _ rfl (by decide) (by decide) byteTy (hap.own.alloc _) (by simp [ov, *]) _ (by simp [ov, *]) [UInt8.ofNat ((a : Int) / 10 + 48).toNat, UInt8.ofNat ((a : Int) % 10 + 48).toNat] (src_two_at Tryz.underlying51 ((a : Int) / 10 + 48) ((a : Int) % 10 + 48) (by omega) (by omega) (by omega) (by omega) _) (by simp only [List.length_append, List.length_cons, List.length_nil, List.length_replicate] at *; omega) ?_; intro v w' ho1 hs1; replace hap := hap.step ho1 hs1; clear ho1 hs1)); first | (refine cdY ?_ ?_; focus (simp [ov, *]; done)) | (refine cdN ?_ ?_; focus (simp [ov, *]; done)))); go_wp2_with (first | (at_builtin; refine wpList_appF rfl _ _ _ _ rfl (by decide) (by decide) byteTy (hap.own.alloc _) (by simp [ov, *]) _ (by simp [ov, *]) [UInt8.ofNat (sc).toNat] (src_one_at Tryz.underlying51 (sc) (by omega) (by omega) _) (by simp only [List.length_append, List.length_cons, List.length_nil, List.length_replicate] at *; omega) ?_; intro v w' ho1 hs1; replace hap := hap.step ho1 hs1; clear ho1 hs1) | (at_builtin; refine wpList_appF rfl _ _ _ _ rfl (by decide) (by decide) byteTy (hap.own.alloc _) (by simp [ov, *]) _ (by simp [ov, *]) [UInt8.ofNat ((a : Int) / 10 + 48).toNat, UInt8.ofNat ((a : Int) % 10 + 48).toNat] (src_two_at Tryz.underlying51 ((a : Int) / 10 + 48) ((a : Int) % 10 + 48) (by omega) (by omega) (by omega) (by omega) _) (by simp only [List.length_append, List.length_cons, List.length_nil, List.length_replicate] at *; omega) ?_; intro v w' ho1 hs1; replace hap := hap.step ho1 hs1; clear ho1 hs1)))
    refine ret_F v rfl (by decide) (by simp [over_cons]) ⟨v, rfl, ?_, hap.stp⟩
    refine cast (congrArg (OwnB T w' v) (HFINAL.out _ (HEXP.out _ ?_))) hap.own
    rw [if_pos h100, show ((a : Int) / 10 + 48).toNat = 48 + a / 10 by omega, show ((a : Int) % 10 + 48).toNat = 48 + a % 10 by omega]
  · have h100' : decide ((a : Int) < 100) = false := by simp; omega
    by_cases h1000 : a < 1000
    · have h1000i : (a : Int) < 1000 := by omega
      ((repeat (go_wp2_with (first | (at_builtin; refine wpList_appF rfl _ _ _ _ rfl (by decide) (by decide) byteTy (hap.own.alloc _) (by simp [ov, *]) _ (by simp [ov, *]) [UInt8.ofNat (sc).toNat] (src_one_at Tryz.underlying51 (sc) (by omega) (by omega) _) (by simp only [List.length_append, List.length_cons, List.length_nil, List.length_replicate] at *; omega) ?_; intro v w' ho1 hs1; replace hap := hap.step ho1 hs1; clear ho1 hs1) | (at_builtin; refine wpList_appF rfl _ _ _ _ rfl (by decide) (by decide) byteTy (hap.own.alloc _) (by simp [ov, *]) _ (by simp [ov, *]) [UInt8.ofNat ((a : Int) / 100 + 48).toNat, UInt8.ofNat ((a : Int) / 10 % 10 + 48).toNat, UInt8.ofNat ((a : Int) % 10 + 48).toNat] (src_three_at Tryz.underlying51 ((a : Int) / 100 + 48) ((a : Int) / 10 % 10 + 48) ((a : Int) % 10 + 48) (by omega) (by omega) (by omega) (by omega) (by omega) (by omega) _) (by simp only [List.length_append, List.length_cons, List.length_nil, List.length_replicate] at *; omega) ?_; intro v w' ho1 hs1; replace hap := hap.step ho1 hs1; clear ho1 hs1)); first | (refine cdY ?_ ?_; focus (simp [ov, *]; done)) | (refine cdN ?_ ?_; focus (simp [ov, *]; done)))); go_wp2_with (first | (at_builtin; refine wpList_appF rfl _ _ _ _ rfl (by decide) (by decide) byteTy (hap.own.alloc _) (by simp [ov, *]) _ (by simp [ov, *]) [UInt8.ofNat (sc).toNat] (src_one_at Tryz.underlying51 (sc) (by omega) (by omega) _) (by simp only [List.length_append, List.length_cons, List.length_nil, List.length_replicate] at *; omega) ?_; intro v w' ho1 hs1; replace hap := hap.step ho1 hs1; clear ho1 hs1) | (at_builtin; refine wpList_appF rfl _ _ _ _ rfl (by decide) (by decide) byteTy (hap.own.alloc _) (by simp [ov, *]) _ (by simp [ov, *]) [UInt8.ofNat ((a : Int) / 100 + 48).toNat, UInt8.ofNat ((a : Int) / 10 % 10 + 48).toNat, UInt8.ofNat ((a : Int) % 10 + 48).toNat] (src_three_at Tryz.underlying51 ((a : Int) / 100 + 48) ((a : Int) / 10 % 10 + 48) ((a : Int) % 10 + 48) (by omega) (by omega) (by omega) (by omega) (by omega) (by omega) _) (by simp only [List.length_append, List.length_cons, List.length_nil, List.length_replicate] at *; omega) ?_; intro v w' ho1 hs1; replace hap := hap.step ho1 hs1; clear ho1 hs1)))
      refine ret_F v rfl (by decide) (by simp [over_cons]) ⟨v, rfl, ?_, hap.stp⟩
      refine cast (congrArg (OwnB T w' v) (HFINAL.out _ (HEXP.out _ ?_))) hap.own
      rw [if_neg h100, if_pos h1000, show ((a : Int) / 100 + 48).toNat = 48 + a / 100 by omega, show ((a : Int) / 10 % 10 + 48).toNat = 48 + a / 10 % 10 by omega, show ((a : Int) % 10 + 48).toNat = 48 + a % 10 by omega]
    · have h1000' : decide ((a : Int) < 1000) = false := by simp; omega
      ((repeat (go_wp2_with (first | (at_builtin; refine wpList_appF rfl _ _ _ _ rfl (by decide) (by decide) byteTy (hap.own.alloc _) (by simp [ov, *]) _ (by simp [ov, *]) [UInt8.ofNat (sc).toNat] (src_one_at Tryz.underlying51 (sc) (by omega) (by omega) _) (by simp only [List.length_append, List.length_cons, List.length_nil, List.length_replicate] at *; omega) ?_; intro v w' ho1 hs1; replace hap := hap.step ho1 hs1; clear ho1 hs1) | (at_builtin; refine wpList_appF rfl _ _ _ _ rfl (by decide) (by decide) byteTy (hap.own.alloc _) (by simp [ov, *]) _ (by simp [ov, *]) [UInt8.ofNat ((a : Int) / 1000 + 48).toNat, UInt8.ofNat ((a : Int) / 100 % 10 + 48).toNat, UInt8.ofNat ((a : Int) / 10 % 10 + 48).toNat, UInt8.ofNat ((a : Int) % 10 + 48).toNat] (src_four_at Tryz.underlying51 ((a : Int) / 1000 + 48) ((a : Int) / 100 % 10 + 48) ((a : Int) / 10 % 10 + 48) ((a : Int) % 10 + 48) (by omega) (by omega) (by omega) (by omega) (by omega) (by omega) (by omega) (by omega) _) (by simp only [List.length_append, List.length_cons, List.length_nil, List.length_replicate] at *; omega) ?_; intro v w' ho1 hs1; replace hap := hap.step ho1 hs1; clear ho1 hs1)); first | (refine cdY ?_ ?_; focus (simp [ov, *]; done)) | (refine cdN ?_ ?_; focus (simp [ov, *]; done)))); go_wp2_with (first | (at_builtin; refine wpList_appF rfl _ _ _ _ rfl (by decide) (by decide) byteTy (hap.own.alloc _) (by simp [ov, *]) _ (by simp [ov, *]) [UInt8.ofNat (sc).toNat] (src_one_at Tryz.underlying51 (sc) (by omega) (by omega) _) (by simp only [List.length_append, List.length_cons, List.length_nil, List.length_replicate] at *; omega) ?_; intro v w' ho1 hs1; replace hap := hap.step ho1 hs1; clear ho1 hs1) | (at_builtin; refine wpList_appF rfl _ _ _ _ rfl (by decide) (by decide) byteTy (hap.own.alloc _) (by simp [ov, *]) _ (by simp [ov, *]) [UInt8.ofNat ((a : Int) / 1000 + 48).toNat, UInt8.ofNat ((a : Int) / 100 % 10 + 48).toNat, UInt8.ofNat ((a : Int) / 10 % 10 + 48).toNat, UInt8.ofNat ((a : Int) % 10 + 48).toNat] (src_four_at Tryz.underlying51 ((a : Int) / 1000 + 48) ((a : Int) / 100 % 10 + 48) ((a : Int) / 10 % 10 + 48) ((a : Int) % 10 + 48) (by omega) (by omega) (by omega) (by omega) (by omega) (by omega) (by omega) (by omega) _) (by simp only [List.length_append, List.length_cons, List.length_nil, List.length_replicate] at *; omega) ?_; intro v w' ho1 hs1; replace hap := hap.step ho1 hs1; clear ho1 hs1)))
      refine ret_F v rfl (by decide) (by simp [over_cons]) ⟨v, rfl, ?_, hap.stp⟩
      refine cast (congrArg (OwnB T w' v) (HFINAL.out _ (HEXP.out _ ?_))) hap.own
      rw [if_neg h100, if_neg h1000, show ((a : Int) / 1000 + 48).toNat = 48 + a / 1000 by omega, show ((a : Int) / 100 % 10 + 48).toNat = 48 + a / 100 % 10 by omega, show ((a : Int) / 10 % 10 + 48).toNat = 48 + a / 10 % 10 by omega, show ((a : Int) % 10 + 48).toNat = 48 + a % 10 by omega]
end Go.Proofs.YticlnihjhcepkaaGreatDoor

/-
  Plain: what ftoa32 and ftoa64 write.
-/
namespace Go.Proofs.YticlnihjhcepkaaGreatDoor
open Go.RowKit
set_option linter.unusedSimpArgs false
set_option linter.unusedVariables false

/-- The sign, the field of the exponent, the field of the fraction; the significand and the exponent. -/
def flNeg (eb mb b : Nat) : Bool := decide (b / 2 ^ (eb + mb) ≠ 0)
def flE (eb mb b : Nat) : Nat := b / 2 ^ mb % 2 ^ eb
def flF (mb b : Nat) : Nat := b % 2 ^ mb
def flMant (eb mb b : Nat) : Nat := if flE eb mb b = 0 then flF mb b else flF mb b + 2 ^ mb
def flExp (eb mb : Nat) (bias : Int) (b : Nat) : Int := (if flE eb mb b = 0 then 1 else (flE eb mb b : Int)) + bias

/-- Digits, the place of the point, the precision, and whether they are the shortest. -/
structure Pick where
  ds : List UInt8
  dp : Int
  prec : Int
  sh : Bool

def efgP (neg : Bool) (f : Int) (P : Pick) : List UInt8 := efgL neg P.ds P.dp (gAdj P.dp P.ds.length P.prec f P.sh).1 (gAdj P.dp P.ds.length P.prec f P.sh).2

/-- The digits of d without the zeros at the end. -/
def dsOf (d : Nat) : List UInt8 := (digs d (nDig d)).take (trimZ (digs d (nDig d)) (nDig d))
theorem dsOf_length (d : Nat) : (dsOf d).length = trimZ (digs d (nDig d)) (nDig d) := by
  unfold dsOf
  rw [List.length_take, digs_length]
  have := trimZ_le (digs d (nDig d)) (nDig d)
  omega

/-- The shift that brings the first bit to the top. -/
def shS (m : Nat) : Nat := 64 - Lib.bitLen m

def shPrec (nd dp prec f : Int) : Int := if f = 101 ∨ f = 69 then max (nd - 1) 0 else if f = 102 then max (nd - dp) 0 else if f = 103 ∨ f = 71 then nd else prec

/-- The shortest digits. -/
def pkShort (Z : Nat) (ME : Int) (m : Nat) (e prec f : Int) : Pick :=
  let r := shortF Z ME (m * 2 ^ shS m) (e - shS m)
  ⟨dsOf r.1, nDig r.1 + r.2, shPrec (dsOf r.1).length (nDig r.1 + r.2) prec f, true⟩

/-- The number of digits that the quick way is asked for. -/
def fixPrec (prec f : Int) : Int := if (f = 103 ∨ f = 71) ∧ prec = 0 then 1 else prec
def fixDig (exp prec f : Int) : Int :=
  if f = 102 then (if 0 ≤ exp then 1 + (1 + exp) * 78913 / 262144 + prec else 1 + prec - -exp * 78913 / 262144)
  else if f = 101 ∨ f = 69 then prec + 1 else if f = 103 ∨ f = 71 then fixPrec prec f else 1

def pkFix (m : Nat) (e digits prec f : Int) : Pick :=
  if 0 < digits then
    let r := fwf (m * 2 ^ shS m) (e - shS m) digits prec (f == 102)
    if r.1 ≠ 0 then ⟨dsOf r.1, nDig r.1 + r.2, prec, false⟩ else ⟨[], 0, prec, false⟩
  else ⟨[], 0, prec, false⟩

/-- The exact decimal. -/
def slowN (m : Nat) (e : Int) : Nat × Int := shD (core m) (tz m) e
def slowR (m : Nat) (e prec f : Int) : Nat × Int :=
  rndD (slowN m e).1 (slowN m e).2 (if f = 101 ∨ f = 69 then prec + 1 else if f = 102 then (slowN m e).2 + nDig (slowN m e).1 + prec else prec)
def pkDec (r : Nat × Int) (prec : Int) : Pick := if r.1 = 0 then ⟨[], 0, prec, false⟩ else ⟨digs (core r.1) (nDig (core r.1)), r.2 + tz r.1 + nDig (core r.1), prec, false⟩

def pick (Z : Nat) (ME : Int) (mb : Nat) (m : Nat) (exp prec f : Int) : Pick :=
  if m = 0 then ⟨[], 0, prec, decide (prec < 0)⟩
  else if prec < 0 then pkShort Z ME m (exp - mb) prec f
  else if fixDig exp prec f ≤ 18 then pkFix m (exp - mb) (fixDig exp prec f) (fixPrec prec f) f
  else pkDec (slowR m (exp - mb) (fixPrec prec f) f) (fixPrec prec f)

/-- What is written of the bits b in the format f with the precision prec. -/
def ftoaL (eb mb : Nat) (bias : Int) (Z : Nat) (ME : Int) (b : Nat) (f prec : Int) : List UInt8 :=
  if flE eb mb b = 2 ^ eb - 1 then (if flF mb b ≠ 0 then [78, 97, 78] else if flNeg eb mb b then [45, 73, 110, 102] else [43, 73, 110, 102])
  else if f = 98 then fmtBL (flNeg eb mb b) (flMant eb mb b) (flExp eb mb bias b - mb)
  else if f = 120 ∨ f = 88 then xL (flNeg eb mb b) prec f (flMant eb mb b) mb (flExp eb mb bias b)
  else efgP (flNeg eb mb b) f (pick Z ME mb (flMant eb mb b) (flExp eb mb bias b) prec f)

def ftoa64L (b : Nat) (f prec : Int) : List UInt8 := ftoaL 11 52 (-1023) 11 (-1085) b f prec
def ftoa32L (b : Nat) (f prec : Int) : List UInt8 := ftoaL 8 23 (-127) 40 (-189) b f prec

/-- Bounds. -/
theorem shortF_bd (Z : Nat) (ME : Int) (m : Nat) (e : Int) (hZ : Z = 11 ∧ ME = -1085 ∧ -1137 ≤ e ∧ e ≤ 960 ∨ Z = 40 ∧ ME = -189 ∧ -212 ≤ e ∧ e ≤ 64) (hm : m < 18446744073709551616) : (shortF Z ME m e).1 < 18446744073709551616 ∧ -400 ≤ (shortF Z ME m e).2 ∧ (shortF Z ME m e).2 ≤ 400 := by
  have hc1 : -390 ≤ (shC Z ME m e).1 ∧ (shC Z ME m e).1 ≤ 390 := by
    unfold shC
    rcases hZ with ⟨rfl, rfl, h1, h2⟩ | ⟨rfl, rfl, h1, h2⟩ <;> (repeat' split) <;> dsimp only <;> omega
  unfold shortF
  dsimp only
  have hr : ∀ u, uRound u < 18446744073709551616 := fun u => by unfold uRound; omega
  have hcl : ∀ u, uCeil u < 18446744073709551616 := fun u => by unfold uCeil; omega
  have hfl : ∀ u d, uFloor (uNudge u d) < 18446744073709551616 := fun u d => by unfold uFloor uNudge; omega
  have h3 := hfl (usE (shC Z ME m e).2.2.1 e (shC Z ME m e).1) (-((shC Z ME m e).2.2.2 : Int))
  split
  · dsimp only; omega
  · split
    · dsimp only; have := hr (usE m e (shC Z ME m e).1); omega
    · dsimp only; have := hcl (uNudge (usE (shC Z ME m e).2.1 e (shC Z ME m e).1) (shC Z ME m e).2.2.2); omega

theorem fwf_bd (m : Nat) (e n prec : Int) (isF : Bool) (hx1 : -1200 ≤ e) (hx2 : e ≤ 1000) (hn1 : 1 ≤ n) (hn2 : n ≤ 18) (hp1 : 0 ≤ prec) (hp2 : prec ≤ 100000) :
    (fwf m e n prec isF).1 < 18446744073709551616 ∧ -400 ≤ (fwf m e n prec isF).2 ∧ (fwf m e n prec isF).2 ≤ 400 := by
  have hr : ∀ u, uRound u < 18446744073709551616 := fun u => by unfold uRound; omega
  have h2 : -390 ≤ (fwU m e n).2 ∧ (fwU m e n).2 ≤ 390 := by
    unfold fwU
    dsimp only
    split <;> dsimp only <;> omega
  unfold fwf
  dsimp only
  split
  · rename_i h
    simp only [Bool.and_eq_true, decide_eq_true_eq] at h
    dsimp only
    have := hr (uDivs (fwU m e n).1 ((fwU m e n).2 - prec).toNat)
    omega
  · dsimp only
    have := hr (fwU m e n).1
    omega
theorem nDig_two_pow (n m : Nat) (h : m < 2 ^ n) (hn : n ≤ 1024) : nDig m ≤ 309 := by
  have h1 : m < 10 ^ 309 := Nat.lt_of_lt_of_le h (Nat.le_trans (Nat.pow_le_pow_right (by omega) hn) (by decide +kernel))
  by_cases h0 : m = 0
  · subst h0; rw [nDig_zero]; omega
  · have h2 := nDig_low h0
    have h3 := (Nat.pow_lt_pow_iff_right (by omega : 1 < 10)).1 (Nat.lt_of_le_of_lt h2 h1)
    omega
theorem nDig_five_pow (n m : Nat) (h : m < 2 ^ 53) (hn : n ≤ 1074) : nDig (m * 5 ^ n) ≤ 767 := by
  have h1 : m * 5 ^ n < 10 ^ 767 := Nat.lt_of_lt_of_le (Nat.mul_lt_mul_of_pos_right h (Nat.pow_pos (by omega))) (Nat.le_trans (Nat.mul_le_mul_left _ (Nat.pow_le_pow_right (by omega) hn)) (by decide +kernel))
  by_cases h0 : m * 5 ^ n = 0
  · rw [h0, nDig_zero]; omega
  · have h2 := nDig_low h0
    have h3 := (Nat.pow_lt_pow_iff_right (by omega : 1 < 10)).1 (Nat.lt_of_le_of_lt h2 h1)
    omega

theorem ten_le_five (n : Nat) : 10 ^ (n / 2) ≤ 5 ^ n := by
  have h1 : (10 : Nat) ^ (n / 2) ≤ 25 ^ (n / 2) := Nat.pow_le_pow_left (by omega) _
  have h2 : (25 : Nat) ^ (n / 2) = 5 ^ (2 * (n / 2)) := by rw [Nat.pow_mul]
  have h3 : (5 : Nat) ^ (2 * (n / 2)) ≤ 5 ^ n := Nat.pow_le_pow_right (by omega) (by omega)
  omega

theorem slowN_bd (m : Nat) (e : Int) (hm0 : m ≠ 0) (hm : m < 2 ^ 53) (he1 : -1074 ≤ e) (he2 : e ≤ 971) :
    (slowN m e).1 % 10 ≠ 0 ∧ nDig (slowN m e).1 ≤ 767 ∧ -1074 ≤ (slowN m e).2 ∧ (slowN m e).2 ≤ 800 ∧ -540 ≤ (slowN m e).2 + nDig (slowN m e).1 ∧ (slowN m e).2 + nDig (slowN m e).1 ≤ 800 := by
  unfold slowN shD
  by_cases h0 : 0 ≤ e
  · rw [if_pos h0]
    dsimp only
    obtain ⟨k, rfl⟩ : ∃ k : Nat, e = (k : Int) := ⟨e.toNat, by omega⟩
    rw [Int.toNat_natCast]
    have h1 := core_mul m (2 ^ k) hm0 (Nat.ne_of_gt (Nat.pow_pos (by omega)))
    have hM0 : m * 2 ^ k ≠ 0 := Nat.mul_ne_zero hm0 (Nat.ne_of_gt (Nat.pow_pos (by omega)))
    have h2 := nDig_core (m * 2 ^ k) hM0
    have h3 := nDig_two_pow (53 + k) (m * 2 ^ k) (by rw [Nat.pow_add]; exact Nat.mul_lt_mul_of_pos_right hm (Nat.pow_pos (by omega))) (by omega)
    have h4 := nDig_pos hM0
    rw [h1.1]
    refine ⟨(core_spec _ hM0).2, by omega, by omega, by omega, by omega, by omega⟩
  · rw [if_neg h0]
    dsimp only
    obtain ⟨n, rfl⟩ : ∃ n : Nat, e = -(n : Int) := ⟨(-e).toNat, by omega⟩
    rw [Int.neg_neg, Int.toNat_natCast]
    have h1 := core_mul m (5 ^ n) hm0 (Nat.ne_of_gt (Nat.pow_pos (by omega)))
    have hM0 : m * 5 ^ n ≠ 0 := Nat.mul_ne_zero hm0 (Nat.ne_of_gt (Nat.pow_pos (by omega)))
    have h2 := nDig_core (m * 5 ^ n) hM0
    have h3 := nDig_five_pow n m hm (by omega)
    have h4 : n / 2 < nDig (m * 5 ^ n) := by
      have h5 := lt_pow_nDig (m * 5 ^ n)
      have h6 : 10 ^ (n / 2) ≤ m * 5 ^ n := Nat.le_trans (ten_le_five n) (Nat.le_mul_of_pos_left _ (by omega))
      exact (Nat.pow_lt_pow_iff_right (by omega : 1 < 10)).1 (Nat.lt_of_le_of_lt h6 h5)
    rw [h1.1]
    refine ⟨(core_spec _ hM0).2, by omega, by omega, by omega, by omega, by omega⟩

theorem rndD_bd (N : Nat) (p n : Int) (hN : N % 10 ≠ 0) (h0 : (rndD N p n).1 ≠ 0) :
    nDig (rndD N p n).1 ≤ nDig N + 1 ∧ p + nDig N ≤ (rndD N p n).2 + nDig (rndD N p n).1 ∧ (rndD N p n).2 + nDig (rndD N p n).1 ≤ p + nDig N + 1 := by
  have hN0 : N ≠ 0 := by intro e; rw [e] at hN; simp at hN
  unfold rndD at h0 ⊢
  by_cases h : 0 ≤ n ∧ n < nDig N
  · rw [if_pos h] at h0 ⊢
    dsimp only at h0 ⊢
    obtain ⟨k, rfl⟩ : ∃ k : Nat, n = (k : Int) := ⟨n.toNat, by omega⟩
    rw [Int.toNat_natCast] at h0 ⊢
    obtain ⟨L, hL⟩ : ∃ L, nDig N = L := ⟨_, rfl⟩
    have h1 := nDig_low hN0
    have h2 := lt_pow_nDig N
    rw [hL] at h h0 h1 h2 ⊢
    have hk : k < L := by omega
    have pp : 0 < 10 ^ (L - k) := Nat.pow_pos (by omega)
    have hq : N / 10 ^ (L - k) < 10 ^ k := by
      rw [Nat.div_lt_iff_lt_mul pp, ← Nat.pow_add, show k + (L - k) = L by omega]; exact h2
    have hup : rndQ N (L - k) ≤ 10 ^ k := by unfold rndQ; split <;> omega
    have hlow : 1 ≤ k → 10 ^ (k - 1) ≤ rndQ N (L - k) := by
      intro hk1
      have : 10 ^ (k - 1) ≤ N / 10 ^ (L - k) := by
        rw [Nat.le_div_iff_mul_le pp, ← Nat.pow_add, show k - 1 + (L - k) = L - 1 by omega]; exact h1
      unfold rndQ; omega
    have hu : nDig (rndQ N (L - k)) ≤ k + 1 := by
      have h5 := nDig_low h0
      have h6 := (Nat.pow_le_pow_iff_right (by omega : 1 < 10)).1 (Nat.le_trans h5 hup)
      omega
    have hl : k ≤ nDig (rndQ N (L - k)) := by
      rcases Nat.eq_zero_or_pos k with h | h
      · omega
      · have h5 := lt_pow_nDig (rndQ N (L - k))
        have h6 := (Nat.pow_lt_pow_iff_right (by omega : 1 < 10)).1 (Nat.lt_of_le_of_lt (hlow h) h5)
        omega
    omega
  · rw [if_neg h]; dsimp only; omega

/-- What the slow way hands to the writer. -/
theorem pkDec_is (m : Nat) (e prec f : Int) (hm0 : m ≠ 0) (hm : m < 2 ^ 53) (he1 : -1074 ≤ e) (he2 : e ≤ 971) :
    ∃ ds dp, pkDec (slowR m e prec f) prec = ⟨ds, dp, prec, false⟩ ∧ ds.length ≤ 800 ∧ -900 ≤ dp ∧ dp ≤ 900 ∧ (ds = [] → dp = 0) ∧
      ∀ (w : World) (g : Nat) (ng : Bool), DecV w g (slowR m e prec f).1 (slowR m e prec f).2 ng → ∃ bs, bs.take ds.length = ds ∧ Dec w g bs (ds.length : Nat) dp ng false := by
  obtain ⟨h1, h2, h3, h4, h5, h6⟩ := slowN_bd m e hm0 hm he1 he2
  unfold pkDec
  by_cases h0 : (slowR m e prec f).1 = 0
  · rw [if_pos h0]
    refine ⟨[], 0, rfl, by simp, by omega, by omega, fun _ => rfl, fun w g ng hd => ?_⟩
    obtain ⟨bs, hb⟩ := hd.zero h0
    exact ⟨bs, by simp, hb⟩
  · rw [if_neg h0]
    have h7 := rndD_bd (slowN m e).1 (slowN m e).2 _ h1 h0
    have h8 := nDig_core (slowR m e prec f).1 h0
    have h9 := nDig_pos (core_ne (slowR m e prec f).1 h0)
    refine ⟨_, _, rfl, ?_, ?_, ?_, fun hh => ?_, fun w g ng hd => ?_⟩
    · rw [digs_length]; unfold slowR at *; omega
    · unfold slowR at *; omega
    · unfold slowR at *; omega
    · have := congrArg List.length hh
      rw [digs_length] at this
      simp at this
      omega
    · obtain ⟨_, bs, hb, hdd⟩ := hd.pos h0
      rw [digs_length]
      exact ⟨bs, hb, hdd⟩
end Go.Proofs.YticlnihjhcepkaaGreatDoor

/-
  What the walks of ftoa64 and ftoa32 share.
-/
namespace Go.Proofs.YticlnihjhcepkaaGreatDoor
open Go.RowKit
set_option linter.unusedSimpArgs false
set_option linter.unusedVariables false

theorem wpList_appFc {P : Program} {ops : Array Oper} {rest : List Oper} {o : Oper} {Q : Exit → Act → World → Prop} {w : World} {n : Nat} {env : List (Nat × Value)} {σ : Nat → Value} (hgd : o.guard = none) (ks : Nat) (xv : Value) (t tx : TypeId)
    (ho : o.op = .call { callee := .builtin .append, args := #[.tmp ks, .const xv], argTypes := #[t, tx] }) (hks : ks < n) (hty : ByteTy P t) {T : Nat} {v : Value} {xs : List UInt8} (hown : OwnB T w v xs) (hs : over env σ ks = v)
    (ys : List UInt8) (hsrc : Src P 1 tx xv ys.length (ys.map encB) w) (hb : xs.length + ys.length ≤ 140737489400000)
    (h : ∀ v' w', OwnB T w' v' (xs ++ ys) → Stp w v w' v' → wpList P ops Q rest ((Fr n env σ).put o.dst v') w') : wpList P ops Q (o :: rest) (Fr n env σ) w :=
  wpList_appB hgd (.tmp ks) (.const xv) t tx ho hty hown ((Fr_eval n env σ ks hks).trans hs) xv rfl ys hsrc hb h

theorem rebase_F {P : Program} {n : Nat} {env : List (Nat × Value)} {s : Nat → Value} {w : World} {Q : Exit → Act → World → Prop} {c : Code} (R : (Nat → Value) → Prop) (h : R (over env s)) (k : ∀ s', R s' → c.wp P Q (Fr n [] s') w) : c.wp P Q (Fr n env s) w := by
  rw [Fr_base]; exact k _ h
theorem bitLen_bd (m : Nat) (h : m < 18446744073709551616) (h0 : m ≠ 0) : 1 ≤ Lib.bitLen m ∧ 2 ^ (Lib.bitLen m - 1) ≤ m ∧ m < 2 ^ Lib.bitLen m ∧ Lib.bitLen m ≤ 64 :=
  ⟨(Lib.bitLenAux_bounds 64 m h h0).1, (Lib.bitLenAux_bounds 64 m h h0).2.1, (Lib.bitLenAux_bounds 64 m h h0).2.2, Lib.bitLen_le m 64 (by omega) h⟩
theorem len64_is (m : Nat) (w : World) (h : m < 18446744073709551616) : Calls Tryz.prog 134 #[.int .u64 (m : Int)] w fun e w' => e = .returned (.int .i64 (Lib.bitLen m : Nat)) ∧ w = w' :=
  (Tryz.bits_Len64 (m : Int) w (by omega) (by omega)).mono fun _ _ h => ⟨by rw [h.1, Int.toNat_natCast], h.2.symm⟩
theorem Stp.drewN0 (w : World) (v : Value) (n : Nat) : Stp w v (w.drewN n) v := (Stp.refl w v).drewN n

/-- What lies untouched while a function fills blocks of its own: dst with its bytes, the tables. -/
structure Keep (T : Nat) (w : World) (dst : Value) (xs : List UInt8) (w' : World) : Prop where
  own : OwnB T w' dst xs
  stp : Stp w dst w' dst
  env : Env T w'
theorem Keep.alloc {T : Nat} {w w' : World} {dst : Value} {xs : List UInt8} (h : Keep T w dst xs w') (o : Obj) : Keep T w dst xs (w'.alloc o) := ⟨h.own.alloc o, h.stp.alloc o, h.env.alloc o⟩
theorem Keep.drewN {T : Nat} {w w' : World} {dst : Value} {xs : List UInt8} (h : Keep T w dst xs w') (n : Nat) : Keep T w dst xs (w'.drewN n) := ⟨h.own.drewN n, h.stp.drewN n, h.env.drewN n⟩
theorem Keep.drew {T : Nat} {w w' : World} {dst : Value} {xs : List UInt8} (h : Keep T w dst xs w') : Keep T w dst xs w'.drew := h.drewN 1
theorem Keep.grown0 {T : Nat} {w w' w2 : World} {dst : Value} {xs : List UInt8} (h : Keep T w dst xs w') (hg : w'.grownBy w2 none) : Keep T w dst xs w2 := ⟨h.own.grown0 hg, h.stp.trans (Stp.of0 dst hg), h.env.grown hg (by simp)⟩
theorem Keep.write {T g : Nat} {w w' w2 : World} {dst : Value} {xs : List UInt8} (h : Keep T w dst xs w') (hg : w'.grownBy w2 (some g)) (h1 : w.heap.size ≤ g) (h2 : T ≤ g) (h3 : dst.ownBlock ≠ some g) : Keep T w dst xs w2 :=
  ⟨h.own.grown hg h3, ⟨grown_trans h.stp.1 hg (fun j e hj => by cases e; omega), fun _ e _ => e⟩, h.env.grown hg (fun k e => by cases e; exact h2)⟩

theorem ext_f64bits (b : Nat) (w : World) : (callFunc 130 #[.float .f64 b]).run Tryz.prog w = .ok (.value (.int .u64 b)) w := by kernel_rfl
theorem ext_f32bits (b : Nat) (w : World) : (callFunc 129 #[.float .f32 b]).run Tryz.prog w = .ok (.value (.int .u32 b)) w := by kernel_rfl
theorem u64_and_low (n k : Nat) (m : Int) (hm : m = (2 ^ k : Nat) - 1) (hk : k ≤ 63) (hn : n < 18446744073709551616) : bits .and .u64 (n : Int) m = ((n % 2 ^ k : Nat) : Int) := by
  have p : 0 < 2 ^ k := Nat.pow_pos (by omega)
  have hk60 : 2 ^ k ≤ 2 ^ 63 := Nat.pow_le_pow_right (by omega) hk
  have h := u64_and_nat n (2 ^ k - 1) hn (by omega)
  rw [Nat.and_two_pow_sub_one_eq_mod] at h
  rw [← h, hm]
  congr 1
  omega
theorem i64_and_low (n k : Nat) (m : Int) (hm : m = (2 ^ k : Nat) - 1) (hk : k ≤ 20) (hn : n < 9223372036854775808) : bits .and .i64 (n : Int) m = ((n % 2 ^ k : Nat) : Int) := by
  have p : 0 < 2 ^ k := Nat.pow_pos (by omega)
  have hk60 : 2 ^ k ≤ 2 ^ 20 := Nat.pow_le_pow_right (by omega) hk
  have h1 : (BitVec.ofInt 64 m).toNat = 2 ^ k - 1 := by rw [BitVec.toNat_ofInt, hm]; omega
  have h0 : (BitVec.ofInt 64 (n : Int)).toNat = n := by rw [BitVec.toNat_ofInt]; omega
  have key : (BitVec.ofInt 64 (n : Int) &&& BitVec.ofInt 64 m).toNat = n % 2 ^ k := by
    rw [BitVec.toNat_and, h0, h1, Nat.and_two_pow_sub_one_eq_mod]
  have hmod : n % 2 ^ k ≤ n := Nat.mod_le _ _
  show IntKind.i64.wrap ((BitVec.ofInt 64 (n : Int) &&& BitVec.ofInt 64 m).toNat : Nat) = _
  rw [key, IntKind.wrap_i64]
  omega
theorem u64_or_top (n k : Nat) (hn : n < 2 ^ k) (hk : k ≤ 62) : bits .or .u64 (n : Int) ((2 ^ k : Nat) : Int) = ((n + 2 ^ k : Nat) : Int) := by
  have hk60 : 2 ^ k ≤ 2 ^ 62 := Nat.pow_le_pow_right (by omega) hk
  have h := u64_or_nat n (2 ^ k) (by omega) (by omega)
  rw [h]
  congr 1
  have := Nat.two_pow_add_eq_or_of_lt hn 1
  rw [Nat.mul_one] at this
  rw [Nat.add_comm, this, Nat.or_comm]

theorem zero75 : Tryz.zeroCells169 = ((List.replicate 800 (0 : UInt8)).map encB ++ [Value.int .i64 0, Value.int .i64 0, Value.bool false, Value.bool false]).toArray := by kernel_rfl
theorem Dec.new (w : World) : Dec (w.alloc (Obj.cells Tryz.zeroCells169 169)) w.heap.size (List.replicate 800 0) 0 0 false false := by
  refine ⟨List.length_replicate, ?_⟩
  have h := Row.new w ((List.replicate 800 (0 : UInt8)).map encB ++ [Value.int .i64 0, Value.int .i64 0, Value.bool false, Value.bool false]) 169
  rw [← zero75] at h
  exact h

end Go.Proofs.YticlnihjhcepkaaGreatDoor
