/-
  Walks of spec/format.go: Format at infinities and at what is no number, and at the formats b and x.
-/
import Derived.Test.YticlnihjhcepkaaGreatDoorCNf1
import Derived.Test.YticlnihjhcepkaaGreatDoorGg
import Derived.Test.YticlnihjhcepkaaGreatDoorCLf0
import Derived.Test.YticlnihjhcepkaaGreatDoorGp
namespace Go.Proofs.YticlnihjhcepkaaGreatDoor
open Go.RowKit
set_option linter.unusedSimpArgs false
set_option linter.unusedVariables false
attribute [local go_sem] undef

theorem decT_dec (v : Nat) : Lib.decDigits v = decT v := by
  induction v using Nat.strongRecOn with
  | _ v ih =>
    rw [Lib.decDigits]
    by_cases h : v < 10
    · rw [dif_pos h]
      unfold decT
      by_cases h0 : v = 0
      · subst h0; rfl
      · rw [if_neg h0, decS_pos h0, show v / 10 = 0 by omega, decS_zero, show v % 10 = v by omega]; rfl
    · rw [dif_neg h, ih (v / 10) (by omega)]
      unfold decT
      rw [if_neg (by omega), if_neg (by omega), decS_pos (show v ≠ 0 by omega)]

theorem fmtB_text (neg : Bool) (m : Nat) (e : Int) : fmtBL neg m e = eSign neg ++ (decT m ++ expT 112 e true) := by
  unfold fmtBL expT Lib.itoa eSign
  rw [decT_dec]
  congr 2
  by_cases h : e < 0
  · rw [if_neg (by omega), if_pos h, if_pos h, decT_dec]
    simp
  · rw [if_pos (by omega), if_neg h, if_neg h, decT_dec, show e.toNat = e.natAbs by omega]
    simp

/-- The texts of an infinity and of what is no number. -/
def kindT (kd : Int) (neg : Bool) : List UInt8 := if kd = 2 then [78, 97, 78] else if neg then [45, 73, 110, 102] else [43, 73, 110, 102]

set_option maxRecDepth 100000 in
set_option maxHeartbeats 8000000 in
theorem formatK_any (size : Int) (b : Nat) (neg : Bool) (kd f prec : Int) (w : World) (hkd : kd = 1 ∨ kd = 2)
    (hI : ∀ W, Calls Tryz.prog 47 #[.int .i64 size, .int .u64 (b : Int)] W fun e w' => e = .returned (.bool neg) ∧ W = w')
    (hK : ∀ W, Calls Tryz.prog 23 #[.int .i64 size, .int .u64 (b : Int)] W fun e w' => e = .returned (.int .i64 kd) ∧ W = w') :
    Calls Tryz.prog 32 #[.int .i64 size, .int .u64 (b : Int), .int .u8 f, .int .i64 prec] w fun e w' => e = .returned (.string ⟨(kindT kd neg).toArray⟩) ∧ w.grownBy w' none := by
  have HI := Lib.hid hI
  have HK := Lib.hid hK
  clear hI hK
  refine calls_F Tryz.func32 rfl (by rw [Tryz.ntmps32]; simp) ?_
  intro σ hσ
  rw [Tryz.ntmps32]
  have s0 : σ 0 = .int .i64 size := hσ 0 (by simp)
  have s1 : σ 1 = .int .u64 (b : Int) := hσ 1 (by simp)
  have s2 : σ 2 = .int .u8 f := hσ 2 (by simp)
  have s3 : σ 3 = .int .i64 prec := hσ 3 (by simp)
  clear hσ
  go_wp2_with fail
  refine (HI.out _).mono ?_
  rintro r w1 ⟨rfl, rfl⟩
  rcases hkd with rfl | rfl
  · cases neg
    · ((repeat (go_wp2_with fail; first | (refine cdY ?_ ?_; focus (simp [ov, *]; done)) | (refine cdN ?_ ?_; focus (simp [ov, *]; done)))); go_wp2_with fail)
      refine (HK.out _).mono ?_
      rintro r w1 ⟨rfl, rfl⟩
      ((repeat (go_wp2_with fail; first | (refine cdY ?_ ?_; focus (simp [ov, *]; done)) | (refine cdN ?_ ?_; focus (simp [ov, *]; done)))); go_wp2_with fail)
      exact ret_F (.string ⟨(kindT 1 false).toArray⟩) rfl (by decide) (by simp only [over_cons, over_nil]; rfl) ⟨rfl, grown_refl w none⟩
    · ((repeat (go_wp2_with fail; first | (refine cdY ?_ ?_; focus (simp [ov, *]; done)) | (refine cdN ?_ ?_; focus (simp [ov, *]; done)))); go_wp2_with fail)
      refine (HK.out _).mono ?_
      rintro r w1 ⟨rfl, rfl⟩
      ((repeat (go_wp2_with fail; first | (refine cdY ?_ ?_; focus (simp [ov, *]; done)) | (refine cdN ?_ ?_; focus (simp [ov, *]; done)))); go_wp2_with fail)
      exact ret_F (.string ⟨(kindT 1 true).toArray⟩) rfl (by decide) (by simp only [over_cons, over_nil]; rfl) ⟨rfl, grown_refl w none⟩
  · cases neg
    · ((repeat (go_wp2_with fail; first | (refine cdY ?_ ?_; focus (simp [ov, *]; done)) | (refine cdN ?_ ?_; focus (simp [ov, *]; done)))); go_wp2_with fail)
      refine (HK.out _).mono ?_
      rintro r w1 ⟨rfl, rfl⟩
      ((repeat (go_wp2_with fail; first | (refine cdY ?_ ?_; focus (simp [ov, *]; done)) | (refine cdN ?_ ?_; focus (simp [ov, *]; done)))); go_wp2_with fail)
      exact ret_F (.string ⟨(kindT 2 false).toArray⟩) rfl (by decide) (by simp only [over_cons, over_nil]; rfl) ⟨rfl, grown_refl w none⟩
    · ((repeat (go_wp2_with fail; first | (refine cdY ?_ ?_; focus (simp [ov, *]; done)) | (refine cdN ?_ ?_; focus (simp [ov, *]; done)))); go_wp2_with fail)
      refine (HK.out _).mono ?_
      rintro r w1 ⟨rfl, rfl⟩
      ((repeat (go_wp2_with fail; first | (refine cdY ?_ ?_; focus (simp [ov, *]; done)) | (refine cdN ?_ ?_; focus (simp [ov, *]; done)))); go_wp2_with fail)
      exact ret_F (.string ⟨(kindT 2 true).toArray⟩) rfl (by decide) (by simp only [over_cons, over_nil]; rfl) ⟨rfl, grown_refl w none⟩

set_option maxRecDepth 100000 in
set_option maxHeartbeats 8000000 in
theorem binary_any (size : Int) (b m : Nat) (e0 : Int) (w : World) (hm : m < 18446744073709551616) (he1 : -2000 ≤ e0) (he2 : e0 ≤ 2000)
    (hP : ∀ W, Calls Tryz.prog 44 #[.int .i64 size, .int .u64 (b : Int)] W fun e w' => e = .returned (.tuple #[.int .u64 (m : Int), .int .i64 e0]) ∧ W.grownBy w' none) :
    Calls Tryz.prog 69 #[.int .i64 size, .int .u64 (b : Int)] w fun e w' => e = .returned (.string ⟨(decT m ++ expT 112 e0 true).toArray⟩) ∧ w.grownBy w' none := by
  have HP := Lib.hid hP
  have HO := Lib.hid (fun W => natOf_any m W hm)
  have HT := Lib.hid (fun V W (h : NatV W V m) => natText_any V m W h (Nat.le_trans (natL_len_le (k := 3) (by omega)) (by omega)))
  have HX := Lib.hid (fun W => (exponentText_any 112 e0 true W (by omega) (by omega) : Calls Tryz.prog 64 #[.int .u8 112, .int .i64 e0, .bool true] W _))
  have c1 := cat_mk (decT m) (expT 112 e0 true)
  have hdl : (decT m).length ≤ 100 := by rw [← decT_dec]; have := decDigits_le m hm; omega
  have hxl : (expT 112 e0 true).length ≤ 100 := by
    unfold expT
    have := decT_len e0.natAbs (by omega)
    rw [List.length_cons, List.length_cons]
    split
    · rw [List.length_cons]; omega
    · omega
  have z1 : (⟨(decT m).toArray⟩ : ByteArray).size = (decT m).length := by simp [ByteArray.size]
  have z2 : (⟨(expT 112 e0 true).toArray⟩ : ByteArray).size = (expT 112 e0 true).length := by simp [ByteArray.size]
  generalize decT m = p at *
  generalize expT 112 e0 true = q at *
  clear hP
  refine calls_F Tryz.func69 rfl (by rw [Tryz.ntmps69]; simp) ?_
  intro σ hσ
  rw [Tryz.ntmps69]
  have s0 : σ 0 = .int .i64 size := hσ 0 (by simp)
  have s1 : σ 1 = .int .u64 (b : Int) := hσ 1 (by simp)
  clear hσ
  ((repeat (go_wp2_with fail; first | (refine cdY ?_ ?_; focus (simp [ov, *]; done)) | (refine cdN ?_ ?_; focus (simp [ov, *]; done)))); go_wp2_with fail)
  refine (HP.out _).mono ?_
  rintro r w1 ⟨rfl, hg1⟩
  have HG1 := Lib.hid hg1
  clear hg1
  ((repeat (go_wp2_with fail; first | (refine cdY ?_ ?_; focus (simp [ov, *]; done)) | (refine cdN ?_ ?_; focus (simp [ov, *]; done)))); go_wp2_with fail)
  refine (HO.out _).mono ?_
  rintro r w2 ⟨v2, rfl, hv2, hg2⟩
  have HV2 := Lib.hid hv2
  have HG2 := Lib.hid (grown_none_tr HG1.out hg2)
  clear hv2 hg2
  ((repeat (go_wp2_with fail; first | (refine cdY ?_ ?_; focus (simp [ov, *]; done)) | (refine cdN ?_ ?_; focus (simp [ov, *]; done)))); go_wp2_with fail)
  refine (HT.out _ _ HV2.out).mono ?_
  rintro r w3 ⟨rfl, hg3⟩
  have HG3 := Lib.hid (grown_none_tr HG2.out hg3)
  clear hg3
  ((repeat (go_wp2_with fail; first | (refine cdY ?_ ?_; focus (simp [ov, *]; done)) | (refine cdN ?_ ?_; focus (simp [ov, *]; done)))); go_wp2_with fail)
  refine (HX.out _).mono ?_
  rintro r w4 ⟨rfl, hg4⟩
  have HG4 := Lib.hid (grown_none_tr HG3.out hg4)
  clear hg4
  ((repeat (go_wp2_with fail; first | (refine cdY ?_ ?_; focus (simp [ov, *]; done)) | (refine cdN ?_ ?_; focus (simp [ov, *]; done)))); go_wp2_with fail)
  exact ret_F (.string ⟨(p ++ q).toArray⟩) rfl (by decide) (by simp [ov, *]) ⟨rfl, HG4.out⟩

set_option maxRecDepth 100000 in
set_option maxHeartbeats 8000000 in
theorem formatB_any (size : Int) (b : Nat) (neg : Bool) (N D : Nat) (f prec : Int) (res : List UInt8) (w : World) (hf : f = 98) (hrl : res.length ≤ 1000000)
    (hI : ∀ W, Calls Tryz.prog 47 #[.int .i64 size, .int .u64 (b : Int)] W fun e w' => e = .returned (.bool neg) ∧ W = w')
    (hK : ∀ W, Calls Tryz.prog 23 #[.int .i64 size, .int .u64 (b : Int)] W fun e w' => e = .returned (.int .i64 0) ∧ W = w')
    (hV : ∀ W, Calls Tryz.prog 24 #[.int .i64 size, .int .u64 (b : Int)] W fun x w' => ∃ vn vd, x = .returned (.tuple #[.agg #[.bool neg, vn, vd], .bool true]) ∧ NatV w' vn N ∧ NatV w' vd D ∧ W.grownBy w' none)
    (hH : ∀ W, Calls Tryz.prog 69 #[.int .i64 size, .int .u64 (b : Int)] W fun e w' => e = .returned (.string ⟨res.toArray⟩) ∧ W.grownBy w' none) :
    Calls Tryz.prog 32 #[.int .i64 size, .int .u64 (b : Int), .int .u8 f, .int .i64 prec] w fun e w' => e = .returned (.string ⟨(eSign neg ++ res).toArray⟩) ∧ w.grownBy w' none := by
  have HI := Lib.hid hI
  have HK := Lib.hid hK
  have HV := Lib.hid hV
  have HH := Lib.hid hH
  clear hI hK hV hH
  refine calls_F Tryz.func32 rfl (by rw [Tryz.ntmps32]; simp) ?_
  intro σ hσ
  rw [Tryz.ntmps32]
  have s0 : σ 0 = .int .i64 size := hσ 0 (by simp)
  have s1 : σ 1 = .int .u64 (b : Int) := hσ 1 (by simp)
  have s2 : σ 2 = .int .u8 f := hσ 2 (by simp)
  have s3 : σ 3 = .int .i64 prec := hσ 3 (by simp)
  clear hσ
  go_wp2_with fail
  refine (HI.out _).mono ?_
  rintro r w1 ⟨rfl, rfl⟩
  go_wp2_with fail
  refine cut_F (fun s' w' => s' 0 = .int .i64 size ∧ s' 1 = .int .u64 (b : Int) ∧ s' 2 = .int .u8 f ∧ s' 3 = .int .i64 prec ∧ s' 9 = .string ⟨(eSign neg).toArray⟩ ∧ w = w') ?_ ?_
  · intro R' K' HR hK'
    cases neg
    · ((repeat (go_wp2_with fail; first | (refine cdY ?_ ?_; focus (simp [ov, *]; done)) | (refine cdN ?_ ?_; focus (simp [ov, *]; done)))); go_wp2_with fail)
      exact got HR (by simp [over_cons, over_nil, eSign, *])
    · ((repeat (go_wp2_with fail; first | (refine cdY ?_ ?_; focus (simp [ov, *]; done)) | (refine cdN ?_ ?_; focus (simp [ov, *]; done)))); go_wp2_with fail)
      exact got HR (by simp [over_cons, over_nil, eSign, *])
  clear s0 s1 s2 s3 σ HI
  rintro σ w' ⟨s0, s1, s2, s3, s9, rfl⟩
  go_wp2_with fail
  refine (HK.out _).mono ?_
  rintro r w1 ⟨rfl, rfl⟩
  ((repeat (go_wp2_with fail; first | (refine cdY ?_ ?_; focus (simp [ov, *]; done)) | (refine cdN ?_ ?_; focus (simp [ov, *]; done)))); go_wp2_with fail)
  refine (HV.out _).mono ?_
  rintro r w2 ⟨vn, vd, rfl, hvn, hvd, hg2⟩
  have HG2 := Lib.hid hg2
  obtain ⟨an, cn, rfl⟩ := hvn.len
  obtain ⟨ad, cd, rfl⟩ := hvd.len
  clear hvn hvd hg2
  generalize (natL N).length = LN at *
  generalize (natL D).length = LD at *
  have HGA := Lib.hid (fun o => grown_none_tr HG2.out (World.grownBy_alloc w2 o none))
  have hsl : (eSign neg).length ≤ 1 := eSign_len neg
  obtain ⟨sg, hsg⟩ : ∃ sg, eSign neg = sg := ⟨_, rfl⟩
  rw [hsg] at s9 hsl
  have HSG := Lib.hid hsg
  clear hsg
  have c1 := cat_mk sg res
  have z1 : (⟨sg.toArray⟩ : ByteArray).size = sg.length := by simp [ByteArray.size]
  have z2 : (⟨res.toArray⟩ : ByteArray).size = res.length := by simp [ByteArray.size]
  generalize sg.length = l1 at *
  generalize res.length = l2 at *
  subst hf
  all_goals
    ((repeat (go_wp2_with fail; first | (refine cdY ?_ ?_; focus (simp [ov, *]; done)) | (refine cdN ?_ ?_; focus (simp [ov, *]; done)))); go_wp2_with fail)
    refine (HH.out _).mono ?_
    rintro r w4 ⟨rfl, hg4⟩
    have HG4 := Lib.hid (grown_none_tr (HGA.out _) hg4)
    clear hg4
    ((repeat (go_wp2_with fail; first | (refine cdY ?_ ?_; focus (simp [ov, *]; done)) | (refine cdN ?_ ?_; focus (simp [ov, *]; done)))); go_wp2_with fail)
    exact ret_F (.string ⟨(sg ++ res).toArray⟩) rfl (by decide) (by simp [ov, *]) ⟨by rw [HSG.out], HG4.out⟩
theorem hexadL_len (up : Bool) (m : Nat) (e prec : Int) (hp : prec ≤ 6000) (hm : m < 2 ^ 53) (he1 : -2000 ≤ e) (he2 : e ≤ 2000) : (hexadL up m e prec).length ≤ 20000 := by
  have hE : ∀ c, hxE m c ≤ 1 := fun c => by unfold hxE; split <;> omega
  have hpt : ∀ l : List UInt8, (ptL l).length ≤ l.length + 1 := fun l => by unfold ptL; split <;> simp; omega
  have hex : ∀ (lt : UInt8) (x : Int), -9999 ≤ x → x ≤ 9999 → (expT lt x false).length ≤ 100 := fun lt x h1 h2 => by
    rw [expT_xExp lt x h1 h2, List.length_cons]
    unfold xExp
    rw [List.length_cons]
    split
    · simp
    · split <;> simp
  unfold hexadL
  rw [List.length_append]
  by_cases h0 : m = 0
  · rw [if_pos h0, List.length_append]
    have h1 := hpt (48 :: List.replicate prec.toNat 48)
    have h2 := hex (if up then 80 else 112) 0 (by omega) (by omega)
    simp only [List.length_cons, List.length_replicate, List.length_nil] at *
    omega
  · rw [if_neg h0, List.length_append]
    have hl : m.log2 < 53 := (Nat.log2_lt h0).2 hm
    have hc : hxCnt m prec ≤ 6000 := by unfold hxCnt; split <;> omega
    have h1 := hpt (hxT up (hxF m (hxCnt m prec)) (hxCnt m prec + 1))
    rw [hxT_len] at h1
    have h3 := hE (hxCnt m prec)
    have h2 := hex (if up then 80 else 112) (e + m.log2 + hxE m (hxCnt m prec)) (by omega) (by omega)
    simp only [List.length_cons, List.length_nil] at *
    omega

/-- The library's text in the formats x and X. -/
theorem ftoa64L_x (b : Nat) (f prec : Int) (hb : b < 18446744073709551616) (hfin : b % 9223372036854775808 < 9218868437227405312) (hf : f = 120 ∨ f = 88) (hp : -1 ≤ prec) :
    ftoa64L b f prec = eSign (decide (9223372036854775808 ≤ b)) ++ hexadL (f == 88) (m64 b) (e64 b) prec := by
  unfold ftoa64L ftoaL
  rw [if_neg (fin64_E b hfin), if_neg (by rcases hf with h | h <;> omega), if_pos hf, neg64_is b hb]
  have h1 := e64_bd b hfin
  have h2 := m64_lt b
  unfold e64 at h1 ⊢
  unfold m64 at h2 ⊢
  exact xL_hexad _ prec f (flMant 11 52 b) 52 _ hf hp (by omega) h2 (by omega) (by omega)

/-- The library's text in the formats x and X. -/
theorem ftoa32L_x (b : Nat) (f prec : Int) (hb : b < 4294967296) (hfin : b % 2147483648 < 2139095040) (hf : f = 120 ∨ f = 88) (hp : -1 ≤ prec) :
    ftoa32L b f prec = eSign (decide (2147483648 ≤ b)) ++ hexadL (f == 88) (m32 b) (e32 b) prec := by
  unfold ftoa32L ftoaL
  rw [if_neg (fin32_E b hfin), if_neg (by rcases hf with h | h <;> omega), if_pos hf, neg32_is b hb]
  have h1 := e32_bd b hfin
  have h2 := m32_lt b
  unfold e32 at h1 ⊢
  unfold m32 at h2 ⊢
  exact xL_hexad _ prec f (flMant 8 23 b) 23 _ hf hp (by omega) h2 (by omega) (by omega)

end Go.Proofs.YticlnihjhcepkaaGreatDoor
