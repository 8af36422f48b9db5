/-
  Lemmas and walks of functions, several texts in one.
-/
import Derived.Test.YthkcfpmlgoomfaaDoorGa
import Derived.Test.YthkcfpmlgoomfaaDoorGg
import Derived.Test.YthkcfpmlgoomfaaDoorGb
import Derived.Test.YthkcfpmlgoomfaaDoorGc
import Derived.Laws.ResultCell
/-
  Plain: how the reference reads a text.
-/
namespace Go.Proofs.YthkcfpmlgoomfaaDoor
set_option linter.unusedSimpArgs false
set_option linter.unusedVariables false

def lowB (c : UInt8) : UInt8 := if 65 ≤ c.toNat ∧ c.toNat ≤ 90 then UInt8.ofNat (c.toNat + 32) else c
def lowL (s : List UInt8) : List UInt8 := s.map lowB

/-- A digit of a base (10 or 16). -/
def dig (b : Nat) (c : UInt8) : Option Nat :=
  if 48 ≤ c.toNat ∧ c.toNat ≤ 57 then some (c.toNat - 48) else if (97 ≤ c.toNat ∧ c.toNat ≤ 102) ∧ b = 16 then some (c.toNat - 87) else none
def isD (b : Nat) (c : UInt8) : Bool := (dig b c).isSome
def digI (b : Nat) (c : UInt8) : Int := match dig b c with
  | some d => (d : Int)
  | none => -1

theorem dig_lt {b : Nat} {c : UInt8} {d : Nat} (h : dig b c = some d) : d < 16 := by
  unfold dig at h
  split at h
  · cases h; omega
  · split at h
    · cases h; omega
    · cases h
theorem digI_ge {b : Nat} {c : UInt8} (h : isD b c = true) : 0 ≤ digI b c := by
  unfold isD at h
  unfold digI
  cases hd : dig b c with
  | none => rw [hd] at h; cases h
  | some d => simp
theorem digI_lt {b : Nat} {c : UInt8} (h : isD b c = false) : digI b c = -1 := by
  unfold isD at h
  unfold digI
  cases hd : dig b c with
  | none => rfl
  | some d => rw [hd] at h; cases h

/-- How many bytes the digits go on, where an underscore may stand between two. -/
def runT (b : Nat) : List UInt8 → Nat
  | [] => 0
  | [c] => if isD b c then 1 else 0
  | c :: d :: r => if isD b c then 1 + runT b (d :: r) else if c = 95 ∧ isD b d = true then 2 + runT b r else 0
def runN (b : Nat) : List UInt8 → Nat
  | [] => 0
  | c :: r => if isD b c then 1 + runT b r else 0

theorem runT_yes (b : Nat) (c : UInt8) (r : List UInt8) (h : isD b c = true) : runT b (c :: r) = 1 + runT b r := by
  cases r with
  | nil => simp [runT, h]
  | cons d r => rw [runT, if_pos h]
theorem runT_under (b : Nat) (d : UInt8) (r : List UInt8) (h : isD b 95 = false) (hd : isD b d = true) : runT b (95 :: d :: r) = 2 + runT b r := by
  rw [runT, if_neg (by rw [h]; simp), if_pos ⟨rfl, hd⟩]
theorem isD_under (b : Nat) : isD b 95 = false := by
  unfold isD dig
  rw [if_neg (by decide), if_neg (by rintro ⟨h, _⟩; revert h; decide)]
  rfl
theorem runT_no (b : Nat) (c : UInt8) (r : List UInt8) (h : isD b c = false) (h2 : ∀ d r', r = d :: r' → ¬ (c = 95 ∧ isD b d = true)) : runT b (c :: r) = 0 := by
  cases r with
  | nil => simp [runT, h]
  | cons d r => rw [runT, if_neg (by rw [h]; simp), if_neg (h2 d r rfl)]
theorem runT_le (b : Nat) : ∀ s, runT b s ≤ s.length
  | [] => by simp [runT]
  | [c] => by rw [runT]; split <;> simp
  | c :: d :: r => by
    have h1 := runT_le b (d :: r)
    have h2 := runT_le b r
    rw [runT]
    simp only [List.length_cons] at *
    split
    · omega
    · split <;> omega
theorem runN_le (b : Nat) (s : List UInt8) : runN b s ≤ s.length := by
  cases s with
  | nil => simp [runN]
  | cons c r =>
    have := runT_le b r
    rw [runN, List.length_cons]
    split <;> omega

def dgStep (b : Nat) (out : List Nat) (c : UInt8) : List Nat := match dig b c with
  | some d => if 0 < d ∨ out ≠ [] then out ++ [d] else out
  | none => out
/-- The digits without zeros in front. -/
def dgL (b : Nat) (s : List UInt8) : List Nat := s.foldl (dgStep b) []
def cntL (b : Nat) (s : List UInt8) : Nat := s.countP (isD b)

theorem txtake (s : List UInt8) (i : Nat) (h : i < s.length) : s.take (i + 1) = s.take i ++ [s.getD i 0] := by
  rw [List.take_add_one, List.getElem?_eq_getElem h, List.getD_eq_getElem?_getD, List.getElem?_eq_getElem h]; rfl
theorem txdrop (s : List UInt8) (i : Nat) (h : i < s.length) : s.drop i = s.getD i 0 :: s.drop (i + 1) := by
  rw [List.drop_eq_getElem_cons h, List.getD_eq_getElem?_getD, List.getElem?_eq_getElem h]; rfl
theorem dgStep_len (b : Nat) (out : List Nat) (c : UInt8) : (dgStep b out c).length ≤ out.length + 1 := by
  unfold dgStep
  split
  · split
    · simp
    · omega
  · omega
theorem dgL_snoc (b : Nat) (s : List UInt8) (i : Nat) (h : i < s.length) : dgL b (s.take (i + 1)) = dgStep b (dgL b (s.take i)) (s.getD i 0) := by
  unfold dgL
  rw [txtake s i h, List.foldl_append]; rfl
theorem dgL_len (b : Nat) (s : List UInt8) : (dgL b s).length ≤ s.length := by
  have key : ∀ (l : List UInt8) (o : List Nat), (l.foldl (dgStep b) o).length ≤ o.length + l.length := by
    intro l
    induction l with
    | nil => intro o; simp
    | cons c r ih => intro o; rw [List.foldl_cons, List.length_cons]; have := ih (dgStep b o c); have := dgStep_len b o c; omega
  have := key s []
  simpa [dgL] using this
theorem dgL_lt (b : Nat) (s : List UInt8) : ∀ d ∈ dgL b s, d < 16 := by
  have key : ∀ (l : List UInt8) (o : List Nat), (∀ d ∈ o, d < 16) → ∀ d ∈ l.foldl (dgStep b) o, d < 16 := by
    intro l
    induction l with
    | nil => intro o h; exact h
    | cons c r ih =>
      intro o h
      rw [List.foldl_cons]
      refine ih _ ?_
      unfold dgStep
      split
      · rename_i d hd
        split
        · intro x hx
          rcases List.mem_append.1 hx with hx | hx
          · exact h x hx
          · rw [List.mem_singleton.1 hx]; exact dig_lt hd
        · exact h
      · exact h
  exact key s [] (by intro d hd; cases hd)
theorem cntL_snoc (b : Nat) (s : List UInt8) (i : Nat) (h : i < s.length) : cntL b (s.take (i + 1)) = cntL b (s.take i) + if isD b (s.getD i 0) then 1 else 0 := by
  unfold cntL
  rw [txtake s i h, List.countP_append, List.countP_singleton]
theorem cntL_le (b : Nat) (s : List UInt8) : cntL b s ≤ s.length := List.countP_le_length

/-- An exponent: a letter, perhaps a sign, and digits. -/
def expoN (l : List Nat) : Nat := l.foldl (fun n d => min (n * 10 + d) 1000000000000000) 0
/-- A sign is taken off. -/
def sgL : List UInt8 → Bool × List UInt8
  | [] => (false, [])
  | x :: r => if x = 43 then (false, r) else if x = 45 then (true, r) else (false, x :: r)
def expoT (neg : Bool) (t : List UInt8) : Option Int :=
  if t = [] ∨ runN 10 t ≠ t.length then none else some (if neg then -(expoN (dgL 10 t) : Int) else (expoN (dgL 10 t) : Int))
def expoL (letter : UInt8) : List UInt8 → Option Int
  | [] => none
  | c :: r => if c ≠ letter then none else expoT (sgL r).1 (sgL r).2
theorem expoN_le (l : List Nat) : expoN l ≤ 1000000000000000 := by
  unfold expoN
  have key : ∀ (l : List Nat) (n : Nat), n ≤ 1000000000000000 → l.foldl (fun n d => min (n * 10 + d) 1000000000000000) n ≤ 1000000000000000 := by
    intro l
    induction l with
    | nil => intro n h; exact h
    | cons d r ih => intro n h; rw [List.foldl_cons]; exact ih _ (Nat.min_le_right _ _)
  exact key l 0 (by omega)
theorem expoN_snoc (l : List Nat) (i : Nat) (h : i < l.length) : expoN (l.take (i + 1)) = min (expoN (l.take i) * 10 + l.getD i 0) 1000000000000000 := by
  unfold expoN
  rw [List.take_add_one, List.getElem?_eq_getElem h, List.getD_eq_getElem?_getD, List.getElem?_eq_getElem h, List.foldl_append]
  rfl
end Go.Proofs.YthkcfpmlgoomfaaDoor

/-
  Walks of spec/text.go: lower, digit, lowered.
-/
namespace Go.Proofs.YthkcfpmlgoomfaaDoor
open Go.RowKit
set_option linter.unusedSimpArgs false
set_option linter.unusedVariables false

set_option maxHeartbeats 1000000 in
theorem lower_any (c : UInt8) (w : World) :
    Calls Tryd.prog 79 #[.int .u8 (c.toNat : Int)] w fun e w' => e = .returned (.int .u8 ((lowB c).toNat : Int)) ∧ w = w' := by
  have hc := c.toNat_lt
  refine calls_F Tryd.func79 rfl (by rw [Tryd.ntmps79]; simp) ?_
  intro σ hσ
  rw [Tryd.ntmps79]
  have s0 : σ 0 = .int .u8 (c.toNat : Int) := hσ 0 (by simp)
  clear hσ
  by_cases h1 : 65 ≤ c.toNat ∧ c.toNat ≤ 90
  · obtain ⟨h1a, h1b⟩ := h1
    have e : ((lowB c).toNat : Int) = (c.toNat : Int) + 32 := by
      unfold lowB
      rw [if_pos ⟨h1a, h1b⟩, UInt8.toNat_ofNat']
      omega
    have HE := Lib.hid e
    clear e
    have h1a' : (65 : Int) ≤ (c.toNat : Int) := by omega
    have h1b' : (c.toNat : Int) ≤ 90 := by omega
    generalize c.toNat = n at *
    ((repeat (go_wp2_with fail; first | (refine cond_yes ?hc (by decide) ?_; (case hc => (simp [over_cons, over_nil, *]; done))) | (refine cond_no ?hc (by decide) ?_; (case hc => (simp [over_cons, over_nil, *]; done))))); go_wp2_with fail)
    exact ret_F (.int .u8 ((n : Int) + 32)) rfl (by decide) (by simp [over_cons, over_nil, *]) ⟨by rw [HE.out], rfl⟩
  · have e : lowB c = c := by unfold lowB; rw [if_neg h1]
    rw [e]
    clear e
    by_cases h2 : 65 ≤ c.toNat
    · have h2' : (65 : Int) ≤ (c.toNat : Int) := by omega
      have h3' : decide ((c.toNat : Int) ≤ 90) = false := by simp; omega
      have h3'' : decide (c.toNat ≤ 90) = false := by simp; omega
      clear h1
      generalize c.toNat = n at *
      ((repeat (go_wp2_with fail; first | (refine cond_yes ?hc (by decide) ?_; (case hc => (simp [over_cons, over_nil, *]; done))) | (refine cond_no ?hc (by decide) ?_; (case hc => (simp [over_cons, over_nil, *]; done))))); go_wp2_with fail)
      exact ret_F (.int .u8 (n : Int)) rfl (by decide) (by simp [over_cons, over_nil, *]) ⟨rfl, rfl⟩
    · have h2' : decide ((65 : Int) ≤ (c.toNat : Int)) = false := by simp; omega
      have h2'' : decide (65 ≤ c.toNat) = false := by simp; omega
      clear h1
      generalize c.toNat = n at *
      ((repeat (go_wp2_with fail; first | (refine cond_yes ?hc (by decide) ?_; (case hc => (simp [over_cons, over_nil, *]; done))) | (refine cond_no ?hc (by decide) ?_; (case hc => (simp [over_cons, over_nil, *]; done))))); go_wp2_with fail)
      exact ret_F (.int .u8 (n : Int)) rfl (by decide) (by simp [over_cons, over_nil, *]) ⟨rfl, rfl⟩

theorem digI_dec {b : Nat} {c : UInt8} (h1 : 48 ≤ c.toNat) (h2 : c.toNat ≤ 57) : digI b c = (c.toNat : Int) - 48 := by
  unfold digI dig; rw [if_pos ⟨h1, h2⟩]; simp; omega
theorem digI_hex {c : UInt8} (h1 : 97 ≤ c.toNat) (h2 : c.toNat ≤ 102) : digI 16 c = (c.toNat : Int) - 97 + 10 := by
  unfold digI dig; rw [if_neg (by omega), if_pos ⟨⟨h1, h2⟩, rfl⟩]; simp; omega
theorem digI_hex10 {c : UInt8} (h1 : 97 ≤ c.toNat) (h2 : c.toNat ≤ 102) : digI 10 c = -1 := by
  unfold digI dig; rw [if_neg (by omega), if_neg (by omega)]
theorem digI_no {b : Nat} {c : UInt8} (h1 : ¬ (48 ≤ c.toNat ∧ c.toNat ≤ 57)) (h2 : ¬ (97 ≤ c.toNat ∧ c.toNat ≤ 102)) : digI b c = -1 := by
  unfold digI dig; rw [if_neg h1, if_neg (fun h => h2 h.1)]

theorem ge_cases (a b n : Nat) : (a ≤ n ∧ n ≤ b) ∨ (n < a) ∨ (b < n ∧ a ≤ n) := by omega

set_option maxHeartbeats 4000000 in
theorem digit_any (b : Nat) (hb : b = 10 ∨ b = 16) (c : UInt8) (w : World) :
    Calls Tryd.prog 80 #[.int .u8 (c.toNat : Int), .int .i64 (b : Int)] w fun e w' => e = .returned (.int .i64 (digI b c)) ∧ w = w' := by
  have hc := c.toNat_lt
  refine calls_F Tryd.func80 rfl (by rw [Tryd.ntmps80]; simp) ?_
  intro σ hσ
  rw [Tryd.ntmps80]
  have s0 : σ 0 = .int .u8 (c.toNat : Int) := hσ 0 (by simp)
  have s1 : σ 1 = .int .i64 (b : Int) := hσ 1 (by simp)
  clear hσ
  rcases ge_cases 48 57 c.toNat with ⟨h1, h2⟩ | h1 | ⟨h1, h2⟩
  · have HE := Lib.hid (digI_dec (b := b) h1 h2)
    have a1 : (48 : Int) ≤ (c.toNat : Int) := by omega
    have a2 : (c.toNat : Int) ≤ 57 := by omega
    have a3 : decide ((97 : Int) ≤ (c.toNat : Int)) = false := by simp; omega
    have a4 : decide (97 ≤ c.toNat) = false := by simp; omega
    have a5 : (c.toNat : Int) - 48 < (b : Int) := by omega
    clear hb
    generalize c.toNat = n at *
    ((repeat (go_wp2_with fail; first | (refine cond_yes ?hc (by decide) ?_; (case hc => (simp [over_cons, over_nil, *]; done))) | (refine cond_no ?hc (by decide) ?_; (case hc => (simp [over_cons, over_nil, *]; done))))); go_wp2_with fail)
    exact ret_F (.int .i64 ((n : Int) - 48)) rfl (by decide) (by simp [over_cons, over_nil, *]) ⟨by rw [HE.out], rfl⟩
  · have HE := Lib.hid (digI_no (b := b) (c := c) (by omega) (by omega))
    have a1 : decide ((48 : Int) ≤ (c.toNat : Int)) = false := by simp; omega
    have a2 : decide (48 ≤ c.toNat) = false := by simp; omega
    have a3 : decide ((97 : Int) ≤ (c.toNat : Int)) = false := by simp; omega
    have a4 : decide (97 ≤ c.toNat) = false := by simp; omega
    have a5 : (-1 : Int) < (b : Int) := by omega
    clear hb
    generalize c.toNat = n at *
    ((repeat (go_wp2_with fail; first | (refine cond_yes ?hc (by decide) ?_; (case hc => (simp [over_cons, over_nil, *]; done))) | (refine cond_no ?hc (by decide) ?_; (case hc => (simp [over_cons, over_nil, *]; done))))); go_wp2_with fail)
    exact ret_F (.int .i64 (-1)) rfl (by decide) (by simp [over_cons, over_nil, *]) ⟨by rw [HE.out], rfl⟩
  · have a1 : (48 : Int) ≤ (c.toNat : Int) := by omega
    have a2 : decide ((c.toNat : Int) ≤ 57) = false := by simp; omega
    have a2' : decide (c.toNat ≤ 57) = false := by simp; omega
    rcases ge_cases 97 102 c.toNat with ⟨h3, h4⟩ | h3 | ⟨h3, h4⟩
    · have a3 : (97 : Int) ≤ (c.toNat : Int) := by omega
      have a4 : (c.toNat : Int) ≤ 102 := by omega
      rcases hb with rfl | rfl
      · have HE := Lib.hid (digI_hex10 h3 h4)
        have a5 : decide ((c.toNat : Int) - 97 + 10 < 10) = false := by simp; omega
        have a6 : decide ((c.toNat : Int) - 97 < 0) = false := by simp; omega
        generalize c.toNat = n at *
        ((repeat (go_wp2_with fail; first | (refine cond_yes ?hc (by decide) ?_; (case hc => (simp [over_cons, over_nil, *]; done))) | (refine cond_no ?hc (by decide) ?_; (case hc => (simp [over_cons, over_nil, *]; done))))); go_wp2_with fail)
        exact ret_F (.int .i64 (-1)) rfl (by decide) (by simp [over_cons, over_nil, *]) ⟨by rw [HE.out], rfl⟩
      · have HE := Lib.hid (digI_hex h3 h4)
        have a5 : (c.toNat : Int) - 97 + 10 < 16 := by omega
        generalize c.toNat = n at *
        ((repeat (go_wp2_with fail; first | (refine cond_yes ?hc (by decide) ?_; (case hc => (simp [over_cons, over_nil, *]; done))) | (refine cond_no ?hc (by decide) ?_; (case hc => (simp [over_cons, over_nil, *]; done))))); go_wp2_with fail)
        exact ret_F (.int .i64 ((n : Int) - 97 + 10)) rfl (by decide) (by simp [over_cons, over_nil, *]) ⟨by rw [HE.out], rfl⟩
    · have HE := Lib.hid (digI_no (b := b) (c := c) (by omega) (by omega))
      have a3 : decide ((97 : Int) ≤ (c.toNat : Int)) = false := by simp; omega
      have a4 : decide (97 ≤ c.toNat) = false := by simp; omega
      have a5 : (-1 : Int) < (b : Int) := by omega
      clear hb
      generalize c.toNat = n at *
      ((repeat (go_wp2_with fail; first | (refine cond_yes ?hc (by decide) ?_; (case hc => (simp [over_cons, over_nil, *]; done))) | (refine cond_no ?hc (by decide) ?_; (case hc => (simp [over_cons, over_nil, *]; done))))); go_wp2_with fail)
      exact ret_F (.int .i64 (-1)) rfl (by decide) (by simp [over_cons, over_nil, *]) ⟨by rw [HE.out], rfl⟩
    · have HE := Lib.hid (digI_no (b := b) (c := c) (by omega) (by omega))
      have a3 : (97 : Int) ≤ (c.toNat : Int) := by omega
      have a4 : decide ((c.toNat : Int) ≤ 102) = false := by simp; omega
      have a4' : decide (c.toNat ≤ 102) = false := by simp; omega
      have a5 : (-1 : Int) < (b : Int) := by omega
      clear hb
      generalize c.toNat = n at *
      ((repeat (go_wp2_with fail; first | (refine cond_yes ?hc (by decide) ?_; (case hc => (simp [over_cons, over_nil, *]; done))) | (refine cond_no ?hc (by decide) ?_; (case hc => (simp [over_cons, over_nil, *]; done))))); go_wp2_with fail)
      exact ret_F (.int .i64 (-1)) rfl (by decide) (by simp [over_cons, over_nil, *]) ⟨by rw [HE.out], rfl⟩
end Go.Proofs.YthkcfpmlgoomfaaDoor

/-
  Walks of spec/text.go: lowered, digitsOf, countOf.
-/
namespace Go.Proofs.YthkcfpmlgoomfaaDoor
open Go.RowKit
set_option linter.unusedSimpArgs false
set_option linter.unusedVariables false

theorem lowL_snoc (s : List UInt8) (i : Nat) (h : i < s.length) : lowL (s.take (i + 1)) = lowL (s.take i) ++ [lowB (s.getD i 0)] := by
  unfold lowL
  rw [txtake s i h, List.map_append]; rfl

set_option maxRecDepth 100000 in
set_option maxHeartbeats 1000000 in
theorem lowered_any (s : List UInt8) (w : World) (hs : s.length ≤ 4000000) :
    Calls Tryd.prog 65 #[.string ⟨s.toArray⟩] w fun e w' => e = .returned (.string ⟨(lowL s).toArray⟩) ∧ w.grownBy w' none := by
  refine calls_F Tryd.func65 rfl (by rw [Tryd.ntmps65]; simp) ?_
  intro σ hσ
  rw [Tryd.ntmps65]
  have s0 : σ 0 = .string ⟨s.toArray⟩ := hσ 0 (by simp)
  clear hσ
  have hsz : (⟨s.toArray⟩ : ByteArray).size = s.length := by simp [ByteArray.size]
  obtain ⟨N, hN⟩ : ∃ N, s.length = N := ⟨_, rfl⟩
  rw [hN] at hsz hs
  have HN := Lib.hid hN
  clear hN
  have hown0 : OwnB w.heap.size (w.alloc (Obj.cells #[] 5)) (.slice (some ⟨w.heap.size, 0, none⟩) 0 0) [] := by
    refine ⟨⟨w.heap.size, [], rfl, Row.new w [] _, by simp [maxLen]⟩, fun k hk => ?_⟩
    simp [Value.ownBlock] at hk
    omega
  have HOWN := Lib.hid hown0
  clear hown0
  ((repeat (go_wp2_with fail; first | (refine cond_yes ?hc (by decide) ?_; (case hc => (simp [over_cons, over_nil, *]; done))) | (refine cond_no ?hc (by decide) ?_; (case hc => (simp [over_cons, over_nil, *]; done))))); go_wp2_with fail)
  refine loop_F (fun kk s' w' => ∃ (i : Nat) (v : Value), i ≤ N ∧ kk = N - i ∧ s' 0 = .string ⟨s.toArray⟩ ∧ s' 4 = .int .i64 (i : Int) ∧ s' 3 = v ∧ OwnB w.heap.size w' v (lowL (s.take i)) ∧ w.grownBy w' none) N
    ⟨0, _, Nat.zero_le _, rfl, by simp [over_cons, over_nil, *], by simp [over_cons, over_nil, *], by simp [over_cons, over_nil, *], HOWN.out, World.grownBy_alloc w _ none⟩ ?_
  clear s0 σ HOWN
  rintro kk σ wk ⟨i, v, hi, hkk, s0, s4, s3, hown, hg⟩ RK KK HRK hKK
  have HKK := Lib.hid hkk
  have HOWN := Lib.hid hown
  have HG := Lib.hid hg
  have hul : (lowL (s.take i)).length ≤ 4000000 := by unfold lowL; rw [List.length_map, List.length_take]; omega
  clear hkk hown hg
  by_cases hiN : i < N
  · have hidx : ∀ h : i < (⟨s.toArray⟩ : ByteArray).size, (⟨s.toArray⟩ : ByteArray)[i]'h = s.getD i 0 := by
      intro h
      rw [List.getD_eq_getElem?_getD, List.getElem?_eq_getElem (by rw [HN.out]; exact hiN)]
      rfl
    have HTS := Lib.hid (lowL_snoc s i (by rw [HN.out]; exact hiN))
    have hiN' : (i : Int) < (N : Int) := by omega
    generalize s.getD i 0 = c at *
    have HL := Lib.hid (fun W => lower_any c W)
    ((repeat (go_wp2_with (first | (at_builtin; refine wpList_appF rfl _ _ _ _ rfl (by decide) (by decide) byteTy (HOWN.out.alloc _) (by simp [over_cons, over_nil, *]) _ (by simp [over_cons, over_nil, *]) [lowB c] (src_new Tryd.underlying71 [lowB c] _) (by simp only [List.length_append, List.length_cons, List.length_nil, List.length_replicate] at *; omega) ?_; intro v2 w2 ho1 hs1) | (refine (HL.out _).mono ?_; rintro e w8 ⟨rfl, rfl⟩)); first | (refine cond_yes ?hc (by decide) ?_; (case hc => (simp [over_cons, over_nil, *]; done))) | (refine cond_no ?hc (by decide) ?_; (case hc => (simp [over_cons, over_nil, *]; done))))); go_wp2_with (first | (at_builtin; refine wpList_appF rfl _ _ _ _ rfl (by decide) (by decide) byteTy (HOWN.out.alloc _) (by simp [over_cons, over_nil, *]) _ (by simp [over_cons, over_nil, *]) [lowB c] (src_new Tryd.underlying71 [lowB c] _) (by simp only [List.length_append, List.length_cons, List.length_nil, List.length_replicate] at *; omega) ?_; intro v2 w2 ho1 hs1) | (refine (HL.out _).mono ?_; rintro e w8 ⟨rfl, rfl⟩)))
    refine gotk HRK (N - (i + 1)) (by have := HKK.out; omega) ⟨i + 1, v2, by omega, rfl, by simp [over_cons, over_nil, *], by simp [over_cons, over_nil], by simp [over_cons, over_nil, *], by rw [HTS.out]; exact ho1, ?_⟩
    refine grown_trans (grown_none_trans HG.out (World.grownBy_alloc wk _ none)) hs1.1 (fun j e hj => ?_)
    have := HOWN.out.2 j e
    omega
  · have hiN' : decide (i < N) = false := by simpa using hiN
    have hall : s.take i = s := List.take_of_length_le (by rw [HN.out]; omega)
    rw [hall] at HOWN
    have hcv := str_of_own HOWN.out
    clear hall
    ((repeat (go_wp2_with fail; first | (refine cond_yes ?hc (by decide) ?_; (case hc => (simp [over_cons, over_nil, *]; done))) | (refine cond_no ?hc (by decide) ?_; (case hc => (simp [over_cons, over_nil, *]; done))))); go_wp2_with fail)
    exact ret_F _ rfl (by decide) (by simp [over_cons, over_nil, *]) ⟨rfl, HG.out⟩

set_option maxRecDepth 100000 in
set_option maxHeartbeats 2000000 in
theorem countOf_any (b : Nat) (hb : b = 10 ∨ b = 16) (s : List UInt8) (w : World) (hs : s.length ≤ 4000000) :
    Calls Tryd.prog 84 #[.string ⟨s.toArray⟩, .int .i64 (b : Int)] w fun e w' => e = .returned (.int .i64 (cntL b s : Int)) ∧ w = w' := by
  have HD := Lib.hid (fun c W => digit_any b hb c W)
  clear hb
  refine calls_F Tryd.func84 rfl (by rw [Tryd.ntmps84]; simp) ?_
  intro σ hσ
  rw [Tryd.ntmps84]
  have s0 : σ 0 = .string ⟨s.toArray⟩ := hσ 0 (by simp)
  have s1 : σ 1 = .int .i64 (b : Int) := hσ 1 (by simp)
  clear hσ
  have hsz : (⟨s.toArray⟩ : ByteArray).size = s.length := by simp [ByteArray.size]
  obtain ⟨N, hN⟩ : ∃ N, s.length = N := ⟨_, rfl⟩
  rw [hN] at hsz hs
  have HN := Lib.hid hN
  clear hN
  ((repeat (go_wp2_with fail; first | (refine cond_yes ?hc (by decide) ?_; (case hc => (simp [over_cons, over_nil, *]; done))) | (refine cond_no ?hc (by decide) ?_; (case hc => (simp [over_cons, over_nil, *]; done))))); go_wp2_with fail)
  refine loop_F (fun kk s' w' => ∃ (i n : Nat), i ≤ N ∧ kk = N - i ∧ n = cntL b (s.take i) ∧ n ≤ i ∧ s' 0 = .string ⟨s.toArray⟩ ∧ s' 1 = .int .i64 (b : Int) ∧ s' 5 = .int .i64 (n : Int) ∧ s' 6 = .int .i64 (i : Int) ∧ w = w') N
    ⟨0, 0, Nat.zero_le _, rfl, by simp [cntL], Nat.le_refl _, by simp [over_cons, over_nil, *], by simp [over_cons, over_nil, *], by simp [over_cons, over_nil, *], by simp [over_cons, over_nil, *], rfl⟩ ?_
  clear s0 s1 σ
  rintro kk σ wk ⟨i, n, hi, hkk, hn, hni, s0, s1, s5, s6, rfl⟩ RK KK HRK hKK
  have HKK := Lib.hid hkk
  have HC := Lib.hid hn
  clear hkk hn
  by_cases hiN : i < N
  · have hidx : ∀ h : i < (⟨s.toArray⟩ : ByteArray).size, (⟨s.toArray⟩ : ByteArray)[i]'h = s.getD i 0 := by
      intro h
      rw [List.getD_eq_getElem?_getD, List.getElem?_eq_getElem (by rw [HN.out]; exact hiN)]
      rfl
    have hts := cntL_snoc b s i (by rw [HN.out]; exact hiN)
    have hiN' : (i : Int) < (N : Int) := by omega
    generalize s.getD i 0 = c at *
    have HL := Lib.hid (HD.out c)
    by_cases hd : isD b c = true
    · rw [if_pos hd] at hts
      have hge := digI_ge hd
      have HTS := Lib.hid hts
      clear hts hd
      generalize digI b c = z at *
      ((repeat (go_wp2_with (first | (refine (HL.out _).mono ?_; rintro e w8 ⟨rfl, rfl⟩)); first | (refine cond_yes ?hc (by decide) ?_; (case hc => (simp [over_cons, over_nil, *]; done))) | (refine cond_no ?hc (by decide) ?_; (case hc => (simp [over_cons, over_nil, *]; done))))); go_wp2_with (first | (refine (HL.out _).mono ?_; rintro e w8 ⟨rfl, rfl⟩)))
      exact gotk HRK (N - (i + 1)) (by have := HKK.out; omega) ⟨i + 1, n + 1, by omega, rfl, by rw [HTS.out, HC.out], by omega, by simp [over_cons, over_nil, *], by simp [over_cons, over_nil, *], by simp [over_cons, over_nil], by simp [over_cons, over_nil], rfl⟩
    · have hd' : isD b c = false := by simpa using hd
      rw [if_neg hd] at hts
      have HTS := Lib.hid hts
      have hz := digI_lt hd'
      clear hts hd hd'
      rw [hz] at HL
      ((repeat (go_wp2_with (first | (refine (HL.out _).mono ?_; rintro e w8 ⟨rfl, rfl⟩)); first | (refine cond_yes ?hc (by decide) ?_; (case hc => (simp [over_cons, over_nil, *]; done))) | (refine cond_no ?hc (by decide) ?_; (case hc => (simp [over_cons, over_nil, *]; done))))); go_wp2_with (first | (refine (HL.out _).mono ?_; rintro e w8 ⟨rfl, rfl⟩)))
      exact gotk HRK (N - (i + 1)) (by have := HKK.out; omega) ⟨i + 1, n, by omega, rfl, by rw [HTS.out, HC.out]; omega, by omega, by simp [over_cons, over_nil, *], by simp [over_cons, over_nil, *], by simp [over_cons, over_nil, *], by simp [over_cons, over_nil], rfl⟩
  · have hiN' : decide (i < N) = false := by simpa using hiN
    have hall : s.take i = s := List.take_of_length_le (by rw [HN.out]; omega)
    rw [hall] at HC
    clear hall
    ((repeat (go_wp2_with fail; first | (refine cond_yes ?hc (by decide) ?_; (case hc => (simp [over_cons, over_nil, *]; done))) | (refine cond_no ?hc (by decide) ?_; (case hc => (simp [over_cons, over_nil, *]; done))))); go_wp2_with fail)
    exact ret_F (.int .i64 (n : Int)) rfl (by decide) (by simp [over_cons, over_nil, *]) ⟨by rw [HC.out], rfl⟩
end Go.Proofs.YthkcfpmlgoomfaaDoor

/-
  Walks of spec/text.go: digitsOf, run.
-/
namespace Go.Proofs.YthkcfpmlgoomfaaDoor
open Go.RowKit
set_option linter.unusedSimpArgs false
set_option linter.unusedVariables false

attribute [local go_sem] undef

theorem str_idx (s : List UInt8) (i : Nat) (hi : i < s.length) : ∀ h : i < (⟨s.toArray⟩ : ByteArray).size, (⟨s.toArray⟩ : ByteArray)[i]'h = s.getD i 0 := by
  intro h
  rw [List.getD_eq_getElem?_getD, List.getElem?_eq_getElem hi]
  rfl

set_option maxRecDepth 100000 in
set_option maxHeartbeats 4000000 in
theorem digitsOf_any (b : Nat) (hb : b = 10 ∨ b = 16) (s : List UInt8) (w : World) (hs : s.length ≤ 4000000) :
    Calls Tryd.prog 82 #[.string ⟨s.toArray⟩, .int .i64 (b : Int)] w fun e w' => ∃ v', e = .returned v' ∧ OwnI w.heap.size w' v' (dgL b s) ∧ w.grownBy w' none := by
  have HD := Lib.hid (fun c W => digit_any b hb c W)
  clear hb
  have HO0 := Lib.hid (OwnI.fresh0 (T := w.heap.size) (w := w) (Nat.le_refl _) 3)
  have HG0 := Lib.hid (World.grownBy_alloc w (.cells #[] 3) none)
  refine calls_F Tryd.func82 rfl (by rw [Tryd.ntmps82]; simp) ?_
  intro σ hσ
  rw [Tryd.ntmps82]
  have s0 : σ 0 = .string ⟨s.toArray⟩ := hσ 0 (by simp)
  have s1 : σ 1 = .int .i64 (b : Int) := hσ 1 (by simp)
  clear hσ
  have hsz : (⟨s.toArray⟩ : ByteArray).size = s.length := by simp [ByteArray.size]
  obtain ⟨N, hN⟩ : ∃ N, s.length = N := ⟨_, rfl⟩
  rw [hN] at hsz hs
  have HN := Lib.hid hN
  clear hN
  ((repeat (go_wp2_with fail; first | (refine cond_yes ?hc (by decide) ?_; (case hc => (simp [over_cons, over_nil, *]; done))) | (refine cond_no ?hc (by decide) ?_; (case hc => (simp [over_cons, over_nil, *]; done))))); go_wp2_with fail)
  refine loop_F (fun kk s' w' => ∃ (i : Nat) (v : Value) (l : List Nat), i ≤ N ∧ kk = N - i ∧ l = dgL b (s.take i) ∧ s' 0 = .string ⟨s.toArray⟩ ∧ s' 1 = .int .i64 (b : Int) ∧ s' 5 = v ∧ s' 6 = .int .i64 (i : Int) ∧ OwnI w.heap.size w' v l ∧ w.grownBy w' none) N
    ⟨0, _, [], Nat.zero_le _, rfl, by simp [dgL], by simp [over_cons, over_nil, *], by simp [over_cons, over_nil, *], by simp [over_cons, over_nil, *], by simp [over_cons, over_nil, *], HO0.out, HG0.out⟩ ?_
  clear s0 s1 σ HO0 HG0
  rintro kk σ wk ⟨i, v, l, hi, hkk, hl, s0, s1, s5, s6, hown, hg⟩ RK KK HRK hKK
  have HKK := Lib.hid hkk
  have HC := Lib.hid hl
  have HG := Lib.hid hg
  have hll : l.length ≤ 4000000 := by have := dgL_len b (s.take i); rw [List.length_take] at this; rw [hl]; omega
  clear hkk hl hg
  by_cases hiN : i < N
  · have hidx := str_idx s i (by rw [HN.out]; exact hiN)
    have hts := dgL_snoc b s i (by rw [HN.out]; exact hiN)
    rw [← HC.out] at hts
    have hiN' : (i : Int) < (N : Int) := by omega
    generalize s.getD i 0 = c at *
    have hL := HD.out c
    unfold dgStep at hts
    unfold digI at hL
    cases hdc : dig b c with
    | none =>
      rw [hdc] at hts hL
      have HTS := Lib.hid hts
      have HL := Lib.hid hL
      have HO := Lib.hid hown
      clear hts hL hown hdc
      ((repeat (go_wp2_with (first | (refine (HL.out _).mono ?_; rintro e w8 ⟨rfl, rfl⟩)); first | (refine cond_yes ?hc (by decide) ?_; (case hc => (simp [over_cons, over_nil, *]; done))) | (refine cond_no ?hc (by decide) ?_; (case hc => (simp [over_cons, over_nil, *]; done))))); go_wp2_with (first | (refine (HL.out _).mono ?_; rintro e w8 ⟨rfl, rfl⟩)))
      exact gotk HRK (N - (i + 1)) (by have := HKK.out; omega) ⟨i + 1, v, l, by omega, rfl, HTS.out.symm, by simp [over_cons, over_nil, *], by simp [over_cons, over_nil, *], by simp [over_cons, over_nil, *], by simp [over_cons, over_nil], HO.out, HG.out⟩
    | some d =>
      have hd16 := dig_lt hdc
      rw [hdc] at hts hL
      have hts' : dgL b (s.take (i + 1)) = if 0 < d ∨ l ≠ [] then l ++ [d] else l := hts
      clear hts hdc
      by_cases hd0 : 0 < d
      · rw [if_pos (Or.inl hd0)] at hts'
        have HTS := Lib.hid hts'
        have HL := Lib.hid hL
        have HO := Lib.hid hown
        have hd1 : (0 : Int) < (d : Int) := by omega
        clear hts' hL hown
        ((repeat (go_wp2_with (first | (at_builtin; refine wpList_appI rfl _ _ _ _ rfl (by decide) (by decide) intTy (HO.out.alloc _) (by simp [over_cons, over_nil, *]) _ (by simp [over_cons, over_nil, *]) [d] (src_intZ Tryd.underlying31 _ d _ rfl) (by simp; omega) ?_; intro v1 w1 ho1 hs1) | (refine (HL.out _).mono ?_; rintro e w8 ⟨rfl, rfl⟩)); first | (refine cond_yes ?hc (by decide) ?_; (case hc => (simp [over_cons, over_nil, *]; done))) | (refine cond_no ?hc (by decide) ?_; (case hc => (simp [over_cons, over_nil, *]; done))))); go_wp2_with (first | (at_builtin; refine wpList_appI rfl _ _ _ _ rfl (by decide) (by decide) intTy (HO.out.alloc _) (by simp [over_cons, over_nil, *]) _ (by simp [over_cons, over_nil, *]) [d] (src_intZ Tryd.underlying31 _ d _ rfl) (by simp; omega) ?_; intro v1 w1 ho1 hs1) | (refine (HL.out _).mono ?_; rintro e w8 ⟨rfl, rfl⟩)))
        exact gotk HRK (N - (i + 1)) (by have := HKK.out; omega) ⟨i + 1, v1, l ++ [d], by omega, rfl, HTS.out.symm, by simp [over_cons, over_nil, *], by simp [over_cons, over_nil, *], by simp [over_cons, over_nil, *], by simp [over_cons, over_nil], ho1, grown_ownI (Nat.le_refl _) (grown_none_tr HG.out (World.grownBy_alloc wk _ none)) (HO.out.alloc _) hs1⟩
      · have hd1 : d = 0 := by omega
        subst hd1
        obtain ⟨g, cc, rfl, hb1, hb2, hb3, hb4⟩ := hown.block
        obtain ⟨M, hM⟩ : ∃ M, l.length = M := ⟨_, rfl⟩
        rw [hM] at hown s5 hb3 hll
        by_cases hlz : l = []
        · subst hlz
          rw [if_neg (by simp)] at hts'
          simp only [List.length_nil] at hM
          subst hM
          have HTS := Lib.hid hts'
          have HL := Lib.hid hL
          have HO := Lib.hid hown
          clear hts' hL hown
          ((repeat (go_wp2_with (first | (refine (HL.out _).mono ?_; rintro e w8 ⟨rfl, rfl⟩)); first | (refine cond_yes ?hc (by decide) ?_; (case hc => (simp [over_cons, over_nil, *]; done))) | (refine cond_no ?hc (by decide) ?_; (case hc => (simp [over_cons, over_nil, *]; done))))); go_wp2_with (first | (refine (HL.out _).mono ?_; rintro e w8 ⟨rfl, rfl⟩)))
          exact gotk HRK (N - (i + 1)) (by have := HKK.out; omega) ⟨i + 1, _, [], by omega, rfl, HTS.out.symm, by simp [over_cons, over_nil, *], by simp [over_cons, over_nil, *], by simp [over_cons, over_nil, *], by simp [over_cons, over_nil], HO.out, HG.out⟩
        · rw [if_pos (Or.inr hlz)] at hts'
          have hM0 : 0 < M := by rw [← hM]; exact List.length_pos_iff.2 hlz
          have HTS := Lib.hid hts'
          have HL := Lib.hid hL
          have HO := Lib.hid hown
          have HM := Lib.hid hM
          have hM1 : (0 : Int) < (M : Int) := by omega
          clear hts' hL hown hlz hM hb1 hb2 hb3 hb4
          ((repeat (go_wp2_with (first | (at_builtin; refine wpList_appI rfl _ _ _ _ rfl (by decide) (by decide) intTy (HO.out.alloc _) (by simp [over_cons, over_nil, *]) _ (by simp [over_cons, over_nil, *]) [0] (src_intZ Tryd.underlying31 _ 0 _ rfl) (by rw [HM.out]; simp; omega) ?_; intro v1 w1 ho1 hs1) | (refine (HL.out _).mono ?_; rintro e w8 ⟨rfl, rfl⟩)); first | (refine cond_yes ?hc (by decide) ?_; (case hc => (simp [over_cons, over_nil, *]; done))) | (refine cond_no ?hc (by decide) ?_; (case hc => (simp [over_cons, over_nil, *]; done))))); go_wp2_with (first | (at_builtin; refine wpList_appI rfl _ _ _ _ rfl (by decide) (by decide) intTy (HO.out.alloc _) (by simp [over_cons, over_nil, *]) _ (by simp [over_cons, over_nil, *]) [0] (src_intZ Tryd.underlying31 _ 0 _ rfl) (by rw [HM.out]; simp; omega) ?_; intro v1 w1 ho1 hs1) | (refine (HL.out _).mono ?_; rintro e w8 ⟨rfl, rfl⟩)))
          exact gotk HRK (N - (i + 1)) (by have := HKK.out; omega) ⟨i + 1, v1, l ++ [0], by omega, rfl, HTS.out.symm, by simp [over_cons, over_nil, *], by simp [over_cons, over_nil, *], by simp [over_cons, over_nil, *], by simp [over_cons, over_nil], ho1, grown_ownI (Nat.le_refl _) (grown_none_tr HG.out (World.grownBy_alloc wk _ none)) (HO.out.alloc _) hs1⟩
  · have hiN' : decide (i < N) = false := by simpa using hiN
    have hall : s.take i = s := List.take_of_length_le (by rw [HN.out]; omega)
    rw [hall] at HC
    have HO := Lib.hid hown
    clear hall hown
    ((repeat (go_wp2_with fail; first | (refine cond_yes ?hc (by decide) ?_; (case hc => (simp [over_cons, over_nil, *]; done))) | (refine cond_no ?hc (by decide) ?_; (case hc => (simp [over_cons, over_nil, *]; done))))); go_wp2_with fail)
    exact ret_F v rfl (by decide) (by simp [over_cons, over_nil, *]) ⟨v, rfl, by rw [← HC.out]; exact HO.out, HG.out⟩

end Go.Proofs.YthkcfpmlgoomfaaDoor

/-
  Walk of spec/text.go: run.
-/
namespace Go.Proofs.YthkcfpmlgoomfaaDoor
open Go.RowKit
set_option linter.unusedSimpArgs false
set_option linter.unusedVariables false
attribute [local go_sem] undef

set_option maxRecDepth 100000 in
set_option maxHeartbeats 20000000 in
theorem run_any (b : Nat) (hb : b = 10 ∨ b = 16) (s : List UInt8) (i0 : Nat) (w : World) (hs : s.length ≤ 4000000) (hi0 : i0 ≤ s.length) :
    Calls Tryd.prog 81 #[.string ⟨s.toArray⟩, .int .i64 (i0 : Int), .int .i64 (b : Int)] w fun e w' => e = .returned (.int .i64 ((i0 + runN b (s.drop i0) : Nat) : Int)) ∧ w = w' := by
  have HD := Lib.hid (fun c W => digit_any b hb c W)
  clear hb
  refine calls_F Tryd.func81 rfl (by rw [Tryd.ntmps81]; simp) ?_
  intro σ hσ
  rw [Tryd.ntmps81]
  have s0 : σ 0 = .string ⟨s.toArray⟩ := hσ 0 (by simp)
  have s1 : σ 1 = .int .i64 (i0 : Int) := hσ 1 (by simp)
  have s2 : σ 2 = .int .i64 (b : Int) := hσ 2 (by simp)
  clear hσ
  have hsz : (⟨s.toArray⟩ : ByteArray).size = s.length := by simp [ByteArray.size]
  obtain ⟨N, hN⟩ : ∃ N, s.length = N := ⟨_, rfl⟩
  rw [hN] at hsz hs hi0
  have HN := Lib.hid hN
  clear hN
  by_cases hiN : i0 < N
  case neg =>
    have e0 : i0 = N := by omega
    subst e0
    have e : runN b (s.drop i0) = 0 := by rw [List.drop_of_length_le (by rw [HN.out]; exact Nat.le_refl _)]; rfl
    rw [e, Nat.add_zero]
    clear e hiN
    ((repeat (go_wp2_with fail; first | (refine cond_yes ?hc (by decide) ?_; (case hc => (simp [over_cons, over_nil, *]; done))) | (refine cond_no ?hc (by decide) ?_; (case hc => (simp [over_cons, over_nil, *]; done))))); go_wp2_with fail)
    exact ret_F (.int .i64 (i0 : Int)) rfl (by decide) (by simp [over_cons, over_nil, *]) ⟨rfl, rfl⟩
  have hidx := str_idx s i0 (by rw [HN.out]; exact hiN)
  have hdr := txdrop s i0 (by rw [HN.out]; exact hiN)
  rw [hdr]
  clear hdr
  have hiN' : (i0 : Int) < (N : Int) := by omega
  have hiN2 : decide ((N : Int) ≤ (i0 : Int)) = false := by simp; omega
  have hiN3 : decide (N ≤ i0) = false := by simp; omega
  generalize s.getD i0 0 = c at *
  have hL := HD.out c
  by_cases hd : isD b c = true
  case neg =>
    have hd' : isD b c = false := by simpa using hd
    rw [digI_lt hd'] at hL
    have HL := Lib.hid hL
    have e : runN b (c :: s.drop (i0 + 1)) = 0 := by rw [runN, if_neg hd]
    rw [e, Nat.add_zero]
    clear e hd hd' hL
    ((repeat (go_wp2_with (first | (refine (HL.out _).mono ?_; rintro e w8 ⟨rfl, rfl⟩)); first | (refine cond_yes ?hc (by decide) ?_; (case hc => (simp [over_cons, over_nil, *]; done))) | (refine cond_no ?hc (by decide) ?_; (case hc => (simp [over_cons, over_nil, *]; done))))); go_wp2_with (first | (refine (HL.out _).mono ?_; rintro e w8 ⟨rfl, rfl⟩)))
    exact ret_F (.int .i64 (i0 : Int)) rfl (by decide) (by simp [over_cons, over_nil, *]) ⟨rfl, rfl⟩
  have e : runN b (c :: s.drop (i0 + 1)) = 1 + runT b (s.drop (i0 + 1)) := by rw [runN, if_pos hd]
  rw [e]
  have hge := digI_ge hd
  have hlt0 : decide (digI b c < 0) = false := by simp; omega
  obtain ⟨E, hE⟩ : ∃ E, i0 + (1 + runT b (s.drop (i0 + 1))) = E := ⟨_, rfl⟩
  rw [hE]
  have HE := Lib.hid (show i0 + 1 + runT b (s.drop (i0 + 1)) = E by omega)
  have HL := Lib.hid hL
  clear e hE hL hd hge
  generalize digI b c = z at *
  ((repeat (go_wp2_with (first | (refine (HL.out _).mono ?_; rintro e w8 ⟨rfl, rfl⟩)); first | (refine cond_yes ?hc (by decide) ?_; (case hc => (simp [over_cons, over_nil, *]; done))) | (refine cond_no ?hc (by decide) ?_; (case hc => (simp [over_cons, over_nil, *]; done))))); go_wp2_with (first | (refine (HL.out _).mono ?_; rintro e w8 ⟨rfl, rfl⟩)))
  refine loop_F (fun kk s' w' => ∃ (i : Nat), i ≤ N ∧ kk = N - i ∧ i + runT b (s.drop i) = E ∧ s' 0 = .string ⟨s.toArray⟩ ∧ s' 1 = .int .i64 (i : Int) ∧ s' 2 = .int .i64 (b : Int) ∧ w = w') (N - (i0 + 1))
    ⟨i0 + 1, by omega, rfl, HE.out, by simp [over_cons, over_nil, *], by simp [over_cons, over_nil], by simp [over_cons, over_nil, *], rfl⟩ ?_
  clear s0 s1 s2 σ HE HL hidx hiN hiN' hiN2 hiN3 hlt0 z
  rintro kk σ wk ⟨i, hi, hkk, hE, s0, s1, s2, rfl⟩ RK KK HRK hKK
  have HKK := Lib.hid hkk
  clear hkk
  by_cases hiN : i < N
  case neg =>
    have e0 : i = N := by omega
    subst e0
    have e : runT b (s.drop i) = 0 := by rw [List.drop_of_length_le (by rw [HN.out]; exact Nat.le_refl _)]; rfl
    rw [e, Nat.add_zero] at hE
    subst hE
    clear e hiN
    ((repeat (go_wp2_with fail; first | (refine cond_yes ?hc (by decide) ?_; (case hc => (simp [over_cons, over_nil, *]; done))) | (refine cond_no ?hc (by decide) ?_; (case hc => (simp [over_cons, over_nil, *]; done))))); go_wp2_with fail)
    exact ret_F (.int .i64 (i : Int)) rfl (by decide) (by simp [over_cons, over_nil, *]) ⟨rfl, rfl⟩
  have hidx := str_idx s i (by rw [HN.out]; exact hiN)
  have hdr := txdrop s i (by rw [HN.out]; exact hiN)
  rw [hdr] at hE
  clear hdr
  have hiN' : (i : Int) < (N : Int) := by omega
  generalize s.getD i 0 = x at *
  have hL := HD.out x
  by_cases hd : isD b x = true
  · rw [runT_yes b x _ hd] at hE
    have hge := digI_ge hd
    have HE := Lib.hid hE
    have HL := Lib.hid hL
    clear hE hL hd
    generalize digI b x = z at *
    ((repeat (go_wp2_with (first | (refine (HL.out _).mono ?_; rintro e w8 ⟨rfl, rfl⟩)); first | (refine cond_yes ?hc (by decide) ?_; (case hc => (simp [over_cons, over_nil, *]; done))) | (refine cond_no ?hc (by decide) ?_; (case hc => (simp [over_cons, over_nil, *]; done))))); go_wp2_with (first | (refine (HL.out _).mono ?_; rintro e w8 ⟨rfl, rfl⟩)))
    exact gotk HRK (N - (i + 1)) (by have := HKK.out; omega) ⟨i + 1, by omega, rfl, by have := HE.out; omega, by simp [over_cons, over_nil, *], by simp [over_cons, over_nil], by simp [over_cons, over_nil, *], rfl⟩
  · have hd' : isD b x = false := by simpa using hd
    have hzx := digI_lt hd'
    rw [hzx] at hL
    have HL := Lib.hid hL
    clear hL hd
    by_cases hx : x.toNat = 95
    case neg =>
      rw [runT_no b x _ hd' (by rintro d r' _ ⟨rfl, _⟩; exact hx rfl), Nat.add_zero] at hE
      subst hE
      have hx1 : ((x.toNat : Int) == 95) = false := by rw [beq_eq_false_iff_ne]; omega
      have hx2 : (x.toNat == 95) = false := by rw [beq_eq_false_iff_ne]; omega
      clear hd'
      ((repeat (go_wp2_with (first | (refine (HL.out _).mono ?_; rintro e w8 ⟨rfl, rfl⟩)); first | (refine cond_yes ?hc (by decide) ?_; (case hc => (simp [over_cons, over_nil, *]; done))) | (refine cond_no ?hc (by decide) ?_; (case hc => (simp [over_cons, over_nil, *]; done))))); go_wp2_with (first | (refine (HL.out _).mono ?_; rintro e w8 ⟨rfl, rfl⟩)))
      exact ret_F (.int .i64 (i : Int)) rfl (by decide) (by simp [over_cons, over_nil, *]) ⟨rfl, rfl⟩
    have hx0 : x = 95 := UInt8.toNat_inj.1 hx
    have hx1 : ((x.toNat : Int) == 95) = true := by rw [beq_iff_eq]; omega
    have hx2 : (x.toNat == 95) = true := by rw [beq_iff_eq]; exact hx
    clear hx
    by_cases hi1 : i + 1 < N
    case neg =>
      have e : s.drop (i + 1) = [] := List.drop_of_length_le (by rw [HN.out]; omega)
      rw [e, runT_no b x _ hd' (by intro d r' h; cases h), Nat.add_zero] at hE
      subst hE
      clear hx0
      have h1 : decide ((i : Int) + 1 < (N : Int)) = false := by simp; omega
      have h2 : decide (i + 1 < N) = false := by simp; omega
      clear hd' e
      ((repeat (go_wp2_with (first | (refine (HL.out _).mono ?_; rintro e w8 ⟨rfl, rfl⟩)); first | (refine cond_yes ?hc (by decide) ?_; (case hc => (simp [over_cons, over_nil, *]; done))) | (refine cond_no ?hc (by decide) ?_; (case hc => (simp [over_cons, over_nil, *]; done))))); go_wp2_with (first | (refine (HL.out _).mono ?_; rintro e w8 ⟨rfl, rfl⟩)))
      exact ret_F (.int .i64 (i : Int)) rfl (by decide) (by simp [over_cons, over_nil, *]) ⟨rfl, rfl⟩
    have hidx2 := str_idx s (i + 1) (by rw [HN.out]; exact hi1)
    have hdr := txdrop s (i + 1) (by rw [HN.out]; exact hi1)
    rw [hdr] at hE
    clear hdr
    have h1 : (i : Int) + 1 < (N : Int) := by omega
    generalize s.getD (i + 1) 0 = y at *
    have hL2 := HD.out y
    rw [hx0] at hE hd'
    clear hx0
    by_cases hdy : isD b y = true
    · rw [runT_under b y _ hd' hdy] at hE
      have hge := digI_ge hdy
      have HE := Lib.hid hE
      clear hE hL2 hdy hd' HL
      ((repeat (go_wp2_with (first | (refine (HD.out _ _).mono ?_; rintro e w8 ⟨rfl, rfl⟩)); first | (refine cond_yes ?hc (by decide) ?_; (case hc => (simp [over_cons, over_nil, *]; done))) | (refine cond_no ?hc (by decide) ?_; (case hc => (simp [over_cons, over_nil, *]; done))))); go_wp2_with (first | (refine (HD.out _ _).mono ?_; rintro e w8 ⟨rfl, rfl⟩)))
      exact gotk HRK (N - (i + 2)) (by have := HKK.out; omega) ⟨i + 2, by omega, rfl, by have h9 := HE.out; rw [show i + 1 + 1 = i + 2 from rfl] at h9; omega, by simp [over_cons, over_nil, *], by simp [over_cons, over_nil], by simp [over_cons, over_nil, *], rfl⟩
    · have hdy' : isD b y = false := by simpa using hdy
      rw [runT_no b 95 _ hd' (by intro d r' h; cases h; rintro ⟨_, h⟩; exact hdy h), Nat.add_zero] at hE
      subst hE
      have hzy := digI_lt hdy'
      clear hL2 hdy hd' hdy' HL
      ((repeat (go_wp2_with (first | (refine (HD.out _ _).mono ?_; rintro e w8 ⟨rfl, rfl⟩)); first | (refine cond_yes ?hc (by decide) ?_; (case hc => (simp [over_cons, over_nil, *]; done))) | (refine cond_no ?hc (by decide) ?_; (case hc => (simp [over_cons, over_nil, *]; done))))); go_wp2_with (first | (refine (HD.out _ _).mono ?_; rintro e w8 ⟨rfl, rfl⟩)))
      exact ret_F (.int .i64 (i : Int)) rfl (by decide) (by simp [over_cons, over_nil, *]) ⟨rfl, rfl⟩
end Go.Proofs.YthkcfpmlgoomfaaDoor

/-
  Walk of spec/text.go: exponent.
-/
namespace Go.Proofs.YthkcfpmlgoomfaaDoor
open Go.RowKit
set_option linter.unusedSimpArgs false
set_option linter.unusedVariables false
attribute [local go_sem] undef

/-- Behind the sign: the digits, and their number. -/
def ExpEnd (neg : Bool) (s : List UInt8) (k : Nat) : Option Int := expoT neg (s.drop k)

theorem expo_sign (letter : UInt8) (s : List UInt8) (h : 1 < s.length) (h0 : s.getD 0 0 = letter) :
    (s.getD 1 0 = 43 ∧ expoL letter s = ExpEnd false s 2) ∨ (s.getD 1 0 = 45 ∧ expoL letter s = ExpEnd true s 2) ∨ (s.getD 1 0 ≠ 43 ∧ s.getD 1 0 ≠ 45 ∧ expoL letter s = ExpEnd false s 1) := by
  match s, h with
  | c :: x :: r, _ =>
    have hc : c = letter := h0
    subst hc
    show (x = 43 ∧ _) ∨ (x = 45 ∧ _) ∨ (x ≠ 43 ∧ x ≠ 45 ∧ _)
    by_cases h1 : x = 43
    · left; refine ⟨h1, ?_⟩; subst h1; show (if c ≠ c then none else _) = _; rw [if_neg (by simp)]; rfl
    · right
      by_cases h2 : x = 45
      · left; refine ⟨h2, ?_⟩; subst h2; show (if c ≠ c then none else _) = _; rw [if_neg (by simp)]; rfl
      · right; refine ⟨h1, h2, ?_⟩; show (if c ≠ c then none else expoT (sgL (x :: r)).1 (sgL (x :: r)).2) = _; rw [if_neg (by simp), sgL, if_neg h1, if_neg h2]; rfl
theorem expo_one (letter : UInt8) (s : List UInt8) (h : s.length = 1) (h0 : s.getD 0 0 = letter) : expoL letter s = ExpEnd false s 1 := by
  match s, h with
  | [c], _ =>
    have hc : c = letter := h0
    subst hc
    show (if c ≠ c then none else _) = _; rw [if_neg (by simp)]; rfl
theorem expo_ne (letter : UInt8) (s : List UInt8) (h : s.length ≠ 0) (h0 : s.getD 0 0 ≠ letter) : expoL letter s = none := by
  match s, h with
  | [], h => exact absurd rfl h
  | c :: r, _ => show (if c ≠ letter then none else _) = none; exact if_pos h0

def optI (o : Option Int) : Value := .tuple #[.int .i64 (o.getD 0), .bool o.isSome]

theorem u8_eq (x y : UInt8) (h : x = y) : ((x.toNat : Int) == (y.toNat : Int)) = true ∧ (x.toNat == y.toNat) = true := by subst h; simp
theorem u8_ne (x y : UInt8) (h : x ≠ y) : ((x.toNat : Int) == (y.toNat : Int)) = false ∧ (x.toNat == y.toNat) = false := by
  have h1 : x.toNat ≠ y.toNat := fun e => h (UInt8.toNat_inj.1 e)
  exact ⟨by rw [beq_eq_false_iff_ne]; omega, by rw [beq_eq_false_iff_ne]; exact h1⟩

set_option maxRecDepth 100000 in
set_option maxHeartbeats 10000000 in
theorem exponent_any (letter : UInt8) (s : List UInt8) (w : World) (hs : s.length ≤ 4000000) :
    Calls Tryd.prog 83 #[.string ⟨s.toArray⟩, .int .u8 (letter.toNat : Int)] w fun e w' => e = .returned (optI (expoL letter s)) ∧ w.grownBy w' none := by
  refine calls_F Tryd.func83 rfl (by rw [Tryd.ntmps83]; simp) ?_
  intro σ hσ
  rw [Tryd.ntmps83]
  have s0 : σ 0 = .string ⟨s.toArray⟩ := hσ 0 (by simp)
  have s1 : σ 1 = .int .u8 (letter.toNat : Int) := hσ 1 (by simp)
  clear hσ
  have hsz : (⟨s.toArray⟩ : ByteArray).size = s.length := by simp [ByteArray.size]
  obtain ⟨N, hN⟩ : ∃ N, s.length = N := ⟨_, rfl⟩
  rw [hN] at hsz hs
  have HN := Lib.hid hN
  by_cases hN0 : N = 0
  · have e : s = [] := List.length_eq_zero_iff.1 (by rw [hN]; exact hN0)
    subst e
    clear hN
    ((repeat (go_wp2_with fail; first | (refine cond_yes ?hc (by decide) ?_; (case hc => (simp [over_cons, over_nil, *]; done))) | (refine cond_no ?hc (by decide) ?_; (case hc => (simp [over_cons, over_nil, *]; done))))); go_wp2_with fail)
    exact ret_F2 (.int .i64 0) (.bool false) rfl (by decide) (by decide) (by simp [over_cons, over_nil, *]) (by simp [over_cons, over_nil, *]) ⟨rfl, grown_refl w none⟩
  have hemp : s.isEmpty = false := by
    cases s with
    | nil => exact absurd hN.symm hN0
    | cons a r => rfl
  clear hN
  have hidx := str_idx s 0 (by rw [HN.out]; omega)
  have hN1 : (0 : Int) < (N : Int) := by omega
  have hN2 : 0 < N := by omega
  obtain ⟨c, hc⟩ : ∃ c, s.getD 0 0 = c := ⟨_, rfl⟩
  rw [hc] at hidx
  have HC := Lib.hid hc
  clear hc
  by_cases hcl : c = letter
  case neg =>
    obtain ⟨q1, q2⟩ := u8_ne c letter hcl
    have q3 : ((c.toNat : Int) != (letter.toNat : Int)) = true := by rw [bne, q1]; rfl
    have q4 : (c.toNat != letter.toNat) = true := by rw [bne, q2]; rfl
    have HE := Lib.hid (expo_ne letter s (by rw [HN.out]; exact hN0) (by rw [HC.out]; exact hcl))
    clear hcl
    ((repeat (go_wp2_with fail; first | (refine cond_yes ?hc (by decide) ?_; (case hc => (simp [over_cons, over_nil, *]; done))) | (refine cond_no ?hc (by decide) ?_; (case hc => (simp [over_cons, over_nil, *]; done))))); go_wp2_with fail)
    exact ret_F2 (.int .i64 0) (.bool false) rfl (by decide) (by decide) (by simp [over_cons, over_nil, *]) (by simp [over_cons, over_nil, *]) ⟨by rw [HE.out]; rfl, grown_refl w none⟩
  have q3 : ((c.toNat : Int) != (letter.toNat : Int)) = false := by subst hcl; simp
  have q4 : (c.toNat != letter.toNat) = false := by subst hcl; simp
  have HCL := Lib.hid hcl
  clear hcl
  obtain ⟨neg, k, hk1, hkN, HE, hcase⟩ : ∃ (neg : Bool) (k : Nat), 1 ≤ k ∧ k ≤ N ∧ Hid (expoL letter s = ExpEnd neg s k) ∧ ((k = 1 ∧ neg = false ∧ N = 1) ∨ (k = 1 ∧ neg = false ∧ 1 < N ∧ s.getD 1 0 ≠ 43 ∧ s.getD 1 0 ≠ 45) ∨ (k = 2 ∧ neg = false ∧ 1 < N ∧ s.getD 1 0 = 43) ∨ (k = 2 ∧ neg = true ∧ 1 < N ∧ s.getD 1 0 = 45)) := by
    by_cases hN9 : N = 1
    · exact ⟨false, 1, Nat.le_refl _, by omega, expo_one letter s (by rw [HN.out]; exact hN9) (by rw [HC.out]; exact HCL.out), Or.inl ⟨rfl, rfl, hN9⟩⟩
    · rcases expo_sign letter s (by rw [HN.out]; omega) (by rw [HC.out]; exact HCL.out) with ⟨a, b⟩ | ⟨a, b⟩ | ⟨a, b, c⟩
      · exact ⟨false, 2, by omega, by omega, b, Or.inr (Or.inr (Or.inl ⟨rfl, rfl, by omega, a⟩))⟩
      · exact ⟨true, 2, by omega, by omega, b, Or.inr (Or.inr (Or.inr ⟨rfl, rfl, by omega, a⟩))⟩
      · exact ⟨false, 1, by omega, by omega, c, Or.inr (Or.inl ⟨rfl, rfl, by omega, a, b⟩)⟩
  clear hN0
  ((repeat (go_upto_region 5 with fail; first | (refine cond_yes ?hc (by decide) ?_; (case hc => (simp [over_cons, over_nil, *]; done))) | (refine cond_no ?hc (by decide) ?_; (case hc => (simp [over_cons, over_nil, *]; done))))); go_upto_region 5 with fail)
  refine cut_F (fun s' w' => s' 34 = .bool (k == 2) ∧ s' 0 = .string ⟨s.toArray⟩ ∧ s' 6 = .int .i64 1 ∧ s' 7 = .bool false ∧ w = w') ?_ ?_
  · intro R' K' HR hK'
    rcases hcase with ⟨rfl, rfl, rfl⟩ | ⟨rfl, rfl, h1, h43, h45⟩ | ⟨rfl, rfl, h1, h43⟩ | ⟨rfl, rfl, h1, h45⟩
    · ((repeat (go_wp2_with fail; first | (refine cond_yes ?hc (by decide) ?_; (case hc => (simp [over_cons, over_nil, *]; done))) | (refine cond_no ?hc (by decide) ?_; (case hc => (simp [over_cons, over_nil, *]; done))))); go_wp2_with fail)
      exact got HR (by simp [over_cons, over_nil, *])
    · have hidx1 := str_idx s 1 (by rw [HN.out]; exact h1)
      generalize s.getD 1 0 = x at *
      have n43 : x.toNat ≠ 43 := fun e => h43 (UInt8.toNat_inj.1 e)
      have n45 : x.toNat ≠ 45 := fun e => h45 (UInt8.toNat_inj.1 e)
      have p1a : ((x.toNat : Int) == 43) = false := by rw [beq_eq_false_iff_ne]; omega
      have p1b : (x.toNat == 43) = false := by rw [beq_eq_false_iff_ne]; exact n43
      have p2a : ((x.toNat : Int) == 45) = false := by rw [beq_eq_false_iff_ne]; omega
      have p2b : (x.toNat == 45) = false := by rw [beq_eq_false_iff_ne]; exact n45
      clear n43 n45 h43 h45
      have h1' : (1 : Int) < (N : Int) := by omega
      ((repeat (go_wp2_with fail; first | (refine cond_yes ?hc (by decide) ?_; (case hc => (simp [over_cons, over_nil, *]; done))) | (refine cond_no ?hc (by decide) ?_; (case hc => (simp [over_cons, over_nil, *]; done))))); go_wp2_with fail)
      exact got HR (by simp [over_cons, over_nil, *])
    · have hidx1 := str_idx s 1 (by rw [HN.out]; exact h1)
      rw [h43] at hidx1
      clear h43
      have h1' : (1 : Int) < (N : Int) := by omega
      ((repeat (go_wp2_with fail; first | (refine cond_yes ?hc (by decide) ?_; (case hc => (simp [over_cons, over_nil, *]; done))) | (refine cond_no ?hc (by decide) ?_; (case hc => (simp [over_cons, over_nil, *]; done))))); go_wp2_with fail)
      exact got HR (by simp [over_cons, over_nil, *])
    · have hidx1 := str_idx s 1 (by rw [HN.out]; exact h1)
      rw [h45] at hidx1
      clear h45
      have h1' : (1 : Int) < (N : Int) := by omega
      ((repeat (go_wp2_with fail; first | (refine cond_yes ?hc (by decide) ?_; (case hc => (simp [over_cons, over_nil, *]; done))) | (refine cond_no ?hc (by decide) ?_; (case hc => (simp [over_cons, over_nil, *]; done))))); go_wp2_with fail)
      exact got HR (by simp [over_cons, over_nil, *])
  clear s0 s1 σ
  rintro σ w' ⟨s34, s0, s6, s7, rfl⟩
  go_wp2_with fail
  refine cut_F (fun s' w' => s' 0 = .string ⟨s.toArray⟩ ∧ s' 6 = .int .i64 (k : Int) ∧ s' 7 = .bool neg ∧ w = w') ?_ ?_
  · intro R' K' HR hK'
    rcases hcase with ⟨rfl, rfl, rfl⟩ | ⟨rfl, rfl, h1, h43, h45⟩ | ⟨rfl, rfl, h1, h43⟩ | ⟨rfl, rfl, h1, h45⟩
    · refine cond_no (by simp [over_cons, over_nil, *]) (by decide) ?_
      ((repeat (go_wp2_with fail; first | (refine cond_yes ?hc (by decide) ?_; (case hc => (simp [over_cons, over_nil, *]; done))) | (refine cond_no ?hc (by decide) ?_; (case hc => (simp [over_cons, over_nil, *]; done))))); go_wp2_with fail)
      exact got HR (by simp [over_cons, over_nil, *])
    · refine cond_no (by simp [over_cons, over_nil, *]) (by decide) ?_
      clear h43 h45
      ((repeat (go_wp2_with fail; first | (refine cond_yes ?hc (by decide) ?_; (case hc => (simp [over_cons, over_nil, *]; done))) | (refine cond_no ?hc (by decide) ?_; (case hc => (simp [over_cons, over_nil, *]; done))))); go_wp2_with fail)
      exact got HR (by simp [over_cons, over_nil, *])
    · refine cond_yes (by simp [over_cons, over_nil, *]) (by decide) ?_
      have hidx1 := str_idx s 1 (by rw [HN.out]; exact h1)
      rw [h43] at hidx1
      clear h43
      have h1' : (1 : Int) < (N : Int) := by omega
      ((repeat (go_wp2_with fail; first | (refine cond_yes ?hc (by decide) ?_; (case hc => (simp [over_cons, over_nil, *]; done))) | (refine cond_no ?hc (by decide) ?_; (case hc => (simp [over_cons, over_nil, *]; done))))); go_wp2_with fail)
      exact got HR (by simp [over_cons, over_nil, *])
    · refine cond_yes (by simp [over_cons, over_nil, *]) (by decide) ?_
      have hidx1 := str_idx s 1 (by rw [HN.out]; exact h1)
      rw [h45] at hidx1
      clear h45
      have h1' : (1 : Int) < (N : Int) := by omega
      ((repeat (go_wp2_with fail; first | (refine cond_yes ?hc (by decide) ?_; (case hc => (simp [over_cons, over_nil, *]; done))) | (refine cond_no ?hc (by decide) ?_; (case hc => (simp [over_cons, over_nil, *]; done))))); go_wp2_with fail)
      exact got HR (by simp [over_cons, over_nil, *])
  clear s34 s0 s6 s7 σ hcase HCL HC q3 q4 hidx hemp hN1 hN2
  rintro σ w' ⟨s0, s6, s7, rfl⟩
  have hrun := run_any 10 (Or.inl rfl) s k w (by rw [HN.out]; exact hs) (by rw [HN.out]; exact hkN)
  rw [show ((10 : Nat) : Int) = 10 from rfl] at hrun
  have hEle := runN_le 10 (s.drop k)
  rw [List.length_drop, HN.out] at hEle
  obtain ⟨E, hE⟩ : ∃ E, k + runN 10 (s.drop k) = E := ⟨_, rfl⟩
  rw [hE] at hrun
  have HRUN := Lib.hid hrun
  have hEN : E ≤ N := by omega
  have HEE := Lib.hid hE
  clear hrun hE hEle
  by_cases hkn : k = N
  · subst hkn
    have hres : expoL letter s = none := by
      rw [HE.out]
      unfold ExpEnd expoT
      rw [if_pos (Or.inl (List.drop_of_length_le (by rw [HN.out]; exact Nat.le_refl _)))]
    have HRES := Lib.hid hres
    clear hres
    ((repeat (go_wp2_with fail; first | (refine cond_yes ?hc (by decide) ?_; (case hc => (simp [over_cons, over_nil, *]; done))) | (refine cond_no ?hc (by decide) ?_; (case hc => (simp [over_cons, over_nil, *]; done))))); go_wp2_with fail)
    exact ret_F2 (.int .i64 0) (.bool false) rfl (by decide) (by decide) (by simp [over_cons, over_nil, *]) (by simp [over_cons, over_nil, *]) ⟨by rw [HRES.out]; rfl, grown_refl w none⟩
  have r1 : ((k : Int) == (N : Int)) = false := by rw [beq_eq_false_iff_ne]; omega
  have r2 : (k == N) = false := by rw [beq_eq_false_iff_ne]; omega
  by_cases hEn : E = N
  case neg =>
    have hres : expoL letter s = none := by
      rw [HE.out]
      unfold ExpEnd expoT
      rw [if_pos (Or.inr (by rw [List.length_drop, HN.out]; have := HEE.out; omega))]
    have HRES := Lib.hid hres
    have r3 : ((E : Int) != (N : Int)) = true := by rw [bne_iff_ne]; omega
    have r4 : (E != N) = true := by rw [bne_iff_ne]; omega
    clear hres
    ((repeat (go_wp2_with (first | (refine HRUN.out.mono ?_; rintro e w8 ⟨rfl, rfl⟩)); first | (refine cond_yes ?hc (by decide) ?_; (case hc => (simp [over_cons, over_nil, *]; done))) | (refine cond_no ?hc (by decide) ?_; (case hc => (simp [over_cons, over_nil, *]; done))))); go_wp2_with (first | (refine HRUN.out.mono ?_; rintro e w8 ⟨rfl, rfl⟩)))
    exact ret_F2 (.int .i64 0) (.bool false) rfl (by decide) (by decide) (by simp [over_cons, over_nil, *]) (by simp [over_cons, over_nil, *]) ⟨by rw [HRES.out]; rfl, grown_refl w none⟩
  subst hEn
  have hres : expoL letter s = some (if neg then -(expoN (dgL 10 (s.drop k)) : Int) else (expoN (dgL 10 (s.drop k)) : Int)) := by
    rw [HE.out]
    unfold ExpEnd expoT
    rw [if_neg]
    rintro (h | h)
    · have := congrArg List.length h
      rw [List.length_drop, HN.out, List.length_nil] at this
      omega
    · rw [List.length_drop, HN.out] at h
      have := HEE.out
      omega
  have HRES := Lib.hid hres
  have hext : (⟨s.toArray⟩ : ByteArray).extract k E = ⟨(s.drop k).toArray⟩ := by
    apply ByteArray.ext
    simp [ByteArray.data_extract]
    exact List.take_of_length_le (by rw [List.length_drop, HN.out]; exact Nat.le_refl _)
  have hdg := digitsOf_any 10 (Or.inl rfl) (s.drop k) w (by rw [List.length_drop, HN.out]; omega)
  rw [show ((10 : Nat) : Int) = 10 from rfl] at hdg
  have HDG := Lib.hid hdg
  have hdl := dgL_len 10 (s.drop k)
  rw [List.length_drop, HN.out] at hdl
  have HDD := Lib.hid (dgL_lt 10 (s.drop k))
  clear hres hdg
  generalize dgL 10 (s.drop k) = l at *
  obtain ⟨M, hM⟩ : ∃ M, l.length = M := ⟨_, rfl⟩
  rw [hM] at hdl
  have HM := Lib.hid hM
  clear hM
  ((repeat (go_wp2_with (first | (refine HRUN.out.mono ?_; rintro e w8 ⟨rfl, rfl⟩) | (refine HDG.out.mono ?_; rintro e w8 ⟨v8, rfl, ho8, hg8⟩; obtain ⟨g8, c8, hv8, b1, b2, b3, b4⟩ := ho8.block; rw [HM.out] at hv8 b3; subst hv8)); first | (refine cond_yes ?hc (by decide) ?_; (case hc => (simp [over_cons, over_nil, *]; done))) | (refine cond_no ?hc (by decide) ?_; (case hc => (simp [over_cons, over_nil, *]; done))))); go_wp2_with (first | (refine HRUN.out.mono ?_; rintro e w8 ⟨rfl, rfl⟩) | (refine HDG.out.mono ?_; rintro e w8 ⟨v8, rfl, ho8, hg8⟩; obtain ⟨g8, c8, hv8, b1, b2, b3, b4⟩ := ho8.block; rw [HM.out] at hv8 b3; subst hv8)))
  have HO := Lib.hid ho8
  have HG := Lib.hid hg8
  clear ho8 hg8
  refine loop_F (fun kk s' w' => ∃ (i n : Nat), i ≤ M ∧ kk = M - i ∧ n = expoN (l.take i) ∧ n ≤ 1000000000000000 ∧ s' 7 = .bool neg ∧ s' 8 = .int .i64 (n : Int) ∧ s' 56 = .slice (some ⟨g8, 0, none⟩) M c8 ∧ s' 57 = .int .i64 (M : Int) ∧ s' 58 = .int .i64 (i : Int) ∧ w8.grownBy w' none) M
    ⟨0, 0, Nat.zero_le _, rfl, rfl, by omega, by simp [over_cons, over_nil, *], by simp [over_cons, over_nil, *], by simp [over_cons, over_nil, *], by simp [over_cons, over_nil, *], by simp [over_cons, over_nil, *], grown_refl w8 none⟩ ?_
  clear s0 s6 s7 σ HRUN HEE HDG
  rintro kk σ wk ⟨i, n, hi, hkk, hn, hn1, s7, s8, s56, s57, s58, hgk⟩ RK KK HRK hKK
  have HKK := Lib.hid hkk
  have HNN := Lib.hid hn
  have HGK := Lib.hid hgk
  clear hkk hn hgk
  by_cases hiM : i < M
  · obtain ⟨d, hd⟩ : ∃ d, l[i]? = some d := ⟨l[i]'(by rw [HM.out]; exact hiM), List.getElem?_eq_getElem _⟩
    have hcj := (HO.out.grown0 HGK.out).cell i d hd
    unfold encI at hcj
    have hd16 := HDD.out d (List.mem_of_getElem? hd)
    have hts := expoN_snoc l i (by rw [HM.out]; exact hiM)
    have hgd : l.getD i 0 = d := by rw [List.getD_eq_getElem?_getD, hd]; rfl
    rw [hgd, ← HNN.out] at hts
    have HTS := Lib.hid hts
    have hiM' : (i : Int) < (M : Int) := by omega
    clear hd hgd hts
    by_cases hmin : n * 10 + d ≤ 1000000000000000
    · have hmi : min ((n : Int) * 10 + (d : Int)) 1000000000000000 = (n : Int) * 10 + (d : Int) := by omega
      ((repeat (go_wp2_with fail; first | (refine cond_yes ?hc (by decide) ?_; (case hc => (simp [over_cons, over_nil, *]; done))) | (refine cond_no ?hc (by decide) ?_; (case hc => (simp [over_cons, over_nil, *]; done))))); go_wp2_with fail)
      exact gotk HRK (M - (i + 1)) (by have := HKK.out; omega) ⟨i + 1, n * 10 + d, by omega, rfl, by rw [HTS.out]; omega, by omega, by simp [over_cons, over_nil, *], by simp [over_cons, over_nil, *], by simp [over_cons, over_nil, *], by simp [over_cons, over_nil, *], by simp [over_cons, over_nil], HGK.out⟩
    · have hmi : min ((n : Int) * 10 + (d : Int)) 1000000000000000 = 1000000000000000 := by omega
      ((repeat (go_wp2_with fail; first | (refine cond_yes ?hc (by decide) ?_; (case hc => (simp [over_cons, over_nil, *]; done))) | (refine cond_no ?hc (by decide) ?_; (case hc => (simp [over_cons, over_nil, *]; done))))); go_wp2_with fail)
      exact gotk HRK (M - (i + 1)) (by have := HKK.out; omega) ⟨i + 1, 1000000000000000, by omega, rfl, by rw [HTS.out]; omega, by omega, by simp [over_cons, over_nil, *], by simp [over_cons, over_nil, *], by simp [over_cons, over_nil, *], by simp [over_cons, over_nil, *], by simp [over_cons, over_nil], HGK.out⟩
  · have hiM' : decide (i < M) = false := by simpa using hiM
    have hall : l.take i = l := List.take_of_length_le (by rw [HM.out]; omega)
    have hfin : expoN l = n := by rw [HNN.out, hall]
    have HF := Lib.hid hfin
    clear hall hfin
    cases neg with
    | true =>
      ((repeat (go_wp2_with fail; first | (refine cond_yes ?hc (by decide) ?_; (case hc => (simp [over_cons, over_nil, *]; done))) | (refine cond_no ?hc (by decide) ?_; (case hc => (simp [over_cons, over_nil, *]; done))))); go_wp2_with fail)
      exact ret_F2 (.int .i64 (-(n : Int))) (.bool true) rfl (by decide) (by decide) (by simp [over_cons, over_nil, *]) (by simp [over_cons, over_nil, *]) ⟨by rw [HRES.out, HF.out]; rfl, grown_none_tr HG.out HGK.out⟩
    | false =>
      ((repeat (go_wp2_with fail; first | (refine cond_yes ?hc (by decide) ?_; (case hc => (simp [over_cons, over_nil, *]; done))) | (refine cond_no ?hc (by decide) ?_; (case hc => (simp [over_cons, over_nil, *]; done))))); go_wp2_with fail)
      exact ret_F2 (.int .i64 (n : Int)) (.bool true) rfl (by decide) (by decide) (by simp [over_cons, over_nil, *]) (by simp [over_cons, over_nil, *]) ⟨by rw [HRES.out, HF.out]; rfl, grown_none_tr HG.out HGK.out⟩
end Go.Proofs.YthkcfpmlgoomfaaDoor

/-
  Regions that draw: two operations of which either may come up.
-/
namespace Go.Proofs.YthkcfpmlgoomfaaDoor
open Go.RowKit
set_option linter.unusedSimpArgs false
set_option linter.unusedVariables false

section
variable {P : Program} {ops : Array Oper} {Q : Exit → Act → World → Prop} {md : Region.Mode} {S : World → Prop} {n : Nat} {env : List (Nat × Value)} {s : Nat → Value} {w : World} {fuel : Nat} {listed : Array Bool}

theorem two_F (i j : Nat) {oi oj : Oper} (hi : ops[i]? = some oi) (hj : ops[j]? = some oj) (hr : Region.ready md ops listed = [i, j]) (hwi : Region.wanted oi (yielded ops (Fr n env s).tmps) = true) (hwj : Region.wanted oj (yielded ops (Fr n env s).tmps) = true)
    (h1 : ∀ K : Act → World → Prop, Hid (∀ env w', S w' → wpAnyH P md ops Q S fuel (listed.setIfInBounds i true) (Fr n env s) w' → K (Fr n env s) w') → Oper.wp P oi (Fr n env s) w K Q)
    (h2 : ∀ K : Act → World → Prop, Hid (∀ env w', S w' → wpAnyH P md ops Q S fuel (listed.setIfInBounds j true) (Fr n env s) w' → K (Fr n env s) w') → Oper.wp P oj (Fr n env s) w K Q) : wpAnyH P md ops Q S (fuel + 1) listed (Fr n env s) w := by
  refine wpAnyH_ready hr (by simp) ?_
  refine AllReadyH.cons hi (fun K hK => ?_) (AllReadyH.cons hj (fun K hK => ?_) AllReadyH.nil)
  · rw [if_pos hwi]
    exact h1 K (fun env w' hS hW => hK.out _ _ hS (fun _ => hW))
  · rw [if_pos hwj]
    exact h2 K (fun env w' hS hW => hK.out _ _ hS (fun _ => hW))
end
end Go.Proofs.YthkcfpmlgoomfaaDoor

/-
  Walk of spec/text.go: number.
-/
namespace Go.Proofs.YthkcfpmlgoomfaaDoor
open Go.RowKit
set_option linter.unusedSimpArgs false
set_option linter.unusedVariables false
attribute [local go_sem] undef

/-- Where the digits begin, and the base. -/
def hexH (s : List UInt8) : Prop := 1 < s.length ∧ s.getD 0 0 = 48 ∧ s.getD 1 0 = 120
def undH (s : List UInt8) : Prop := 3 < s.length ∧ s.getD 2 0 = 95 ∧ isD 16 (s.getD 3 0) = true
instance (s : List UInt8) : Decidable (hexH s) := by unfold hexH; infer_instance
instance (s : List UInt8) : Decidable (undH s) := by unfold undH; infer_instance
def nBase (s : List UInt8) : Nat := if hexH s then 16 else 10
def nFrom (s : List UInt8) : Nat := if hexH s then (if undH s then 3 else 2) else 0
def nI1 (s : List UInt8) : Nat := nFrom s + runN (nBase s) (s.drop (nFrom s))
def nFirst (s : List UInt8) : List UInt8 := (s.drop (nFrom s)).take (runN (nBase s) (s.drop (nFrom s)))
def nPt (s : List UInt8) : Prop := nI1 s < s.length ∧ s.getD (nI1 s) 0 = 46
instance (s : List UInt8) : Decidable (nPt s) := by unfold nPt; infer_instance
def nI2 (s : List UInt8) : Nat := if nPt s then nI1 s + 1 + runN (nBase s) (s.drop (nI1 s + 1)) else nI1 s
def nSecond (s : List UInt8) : List UInt8 := if nPt s then (s.drop (nI1 s + 1)).take (runN (nBase s) (s.drop (nI1 s + 1))) else []
def nDigits (s : List UInt8) : List Nat := dgL (nBase s) (nFirst s ++ nSecond s)
def nLetter (s : List UInt8) : UInt8 := if nBase s = 16 then 112 else 101
def nPer (s : List UInt8) : Nat := if nBase s = 16 then 4 else 1
def nExp (s : List UInt8) : Option Int := if nI2 s < s.length ∨ nBase s = 16 then expoL (nLetter s) (s.drop (nI2 s)) else some 0
/-- The exponent of a number's text, if the text is well-formed. -/
def numE (s : List UInt8) : Option Int := if nFirst s = [] ∧ nSecond s = [] then none else (nExp s).map (fun x => x - ((nPer s * cntL (nBase s) (nSecond s) : Nat) : Int))

theorem nBase_or (s : List UInt8) : nBase s = 10 ∨ nBase s = 16 := by unfold nBase; split <;> simp
theorem nFrom_le (s : List UInt8) : nFrom s ≤ s.length := by
  unfold nFrom
  split
  · rename_i h
    split
    · rename_i h2; have := h2.1; omega
    · have := h.1; omega
  · omega
theorem nI1_le (s : List UInt8) : nI1 s ≤ s.length := by
  unfold nI1
  have h1 := nFrom_le s
  have h2 := runN_le (nBase s) (s.drop (nFrom s))
  rw [List.length_drop] at h2
  omega
theorem nI2_le (s : List UInt8) : nI2 s ≤ s.length := by
  unfold nI2
  split
  · rename_i h
    have h1 := h.1
    have h2 := runN_le (nBase s) (s.drop (nI1 s + 1))
    rw [List.length_drop] at h2
    omega
  · exact nI1_le s

theorem str_cut (s : List UInt8) (a n : Nat) (h : a + n ≤ s.length) : (⟨s.toArray⟩ : ByteArray).extract a (a + n) = ⟨((s.drop a).take n).toArray⟩ := by
  apply ByteArray.ext
  simp [ByteArray.data_extract]
theorem str_cat (a b : List UInt8) : (⟨a.toArray⟩ : ByteArray) ++ ⟨b.toArray⟩ = ⟨(a ++ b).toArray⟩ := by
  apply ByteArray.ext
  simp [ByteArray.data_append]

theorem u8_is (x : UInt8) (n : Nat) (h : x.toNat = n) : ((x.toNat : Int) == (n : Int)) = true ∧ (x.toNat == n) = true := by subst h; simp
theorem u8_not (x : UInt8) (n : Nat) (h : x.toNat ≠ n) : ((x.toNat : Int) == (n : Int)) = false ∧ (x.toNat == n) = false := ⟨by rw [beq_eq_false_iff_ne]; omega, by rw [beq_eq_false_iff_ne]; exact h⟩

theorem expoL_bd (lt : UInt8) (s : List UInt8) (x : Int) (h : expoL lt s = some x) : -1000000000000000 ≤ x ∧ x ≤ 1000000000000000 := by
  cases s with
  | nil => simp [expoL] at h
  | cons c r =>
    simp only [expoL] at h
    by_cases hc : c ≠ lt
    · rw [if_pos hc] at h; cases h
    · rw [if_neg hc] at h
      unfold expoT at h
      by_cases h2 : (sgL r).2 = [] ∨ runN 10 (sgL r).2 ≠ (sgL r).2.length
      · rw [if_pos h2] at h; cases h
      · rw [if_neg h2] at h
        have h9 := expoN_le (dgL 10 (sgL r).2)
        have := Option.some.inj h
        rw [← this]; split <;> omega

def textZ : List Value := [.int .i64 0, .bool false, .int .i64 0, .slice none 0 0, .int .i64 0]

def NumPost (s : List UInt8) (w : World) (e : Ending) (w' : World) : Prop := w.grownBy w' none ∧
      match numE s with
      | none => e = .returned (.tuple #[.agg textZ.toArray, .bool false])
      | some x => ∃ v, e = .returned (.tuple #[.agg #[.int .i64 0, .bool false, .int .i64 (nBase s : Int), v, .int .i64 x], .bool true]) ∧ OwnI w.heap.size w' v (nDigits s)
theorem numPost_none {s : List UInt8} {w w' : World} (h : numE s = none) (hg : w.grownBy w' none) : NumPost s w (.returned (.tuple #[.agg textZ.toArray, .bool false])) w' := by
  unfold NumPost; rw [h]; exact ⟨hg, rfl⟩
theorem numPost_some {s : List UInt8} {w w' : World} {x : Int} {v : Value} (h : numE s = some x) (hg : w.grownBy w' none) (hr : OwnI w.heap.size w' v (nDigits s)) : NumPost s w (.returned (.tuple #[.agg #[.int .i64 0, .bool false, .int .i64 (nBase s : Int), v, .int .i64 x], .bool true])) w' := by
  unfold NumPost; rw [h]; exact ⟨hg, v, rfl, hr⟩
theorem OwnI.other {T : Nat} {w : World} {v : Value} {xs : List Nat} (h : OwnI T w v xs) {a : Addr} (hne : v.ownBlock ≠ Option.some a.block) (u : Value) : OwnI T (w.setCell a u) v xs := ⟨h.1.setCell_other hne u, h.2⟩
theorem ret_cell_F {P : Program} {fn : Func} {R : Ending → World → Prop} {n : Nat} {env : List (Nat × Value)} {s : Nat → Value} {w : World} {p u : Nat} {ty : TypeId} {B : Nat} (v x : Value) (hr : fn.results = #[.cell p ty, .tmp u]) (hp : p < n) (hu : u < n) (hpv : over env s p = .pointer (Option.some ⟨B, 0, Option.none⟩)) (hx : over env s u = x)
    (hl : (loadVar ty ⟨B, 0, Option.none⟩).run P w = .ok v w) (hR : R (.returned (.tuple #[v, x])) w) : bodyPost P fn R .ret (Fr n env s) w := by
  refine bodyPost_ret (v := .tuple #[v, x]) ?_ (Fr_defers ..) hR
  rw [results_cell_tmp hr, Fr_getD n env s p hp, Fr_getD n env s u hu, hpv, hx]
  simp [asAddr, hl, Result.andThen]

set_option maxRecDepth 100000 in
set_option maxHeartbeats 10000000 in
theorem number_any (s : List UInt8) (w : World) (hs : s.length ≤ 2000000) :
    Calls Tryd.prog 66 #[.string ⟨s.toArray⟩] w (NumPost s w) := by
  have HRN := Lib.hid (fun (i : Nat) (hi : i ≤ s.length) (W : World) => run_any (nBase s) (nBase_or s) s i W (by omega) hi)
  have HDG := Lib.hid (fun c W => digit_any 16 (Or.inr rfl) c W)
  refine calls_F Tryd.func66 rfl (by rw [Tryd.ntmps66]; simp) ?_
  intro σ hσ
  rw [Tryd.ntmps66]
  have s0 : σ 0 = .string ⟨s.toArray⟩ := hσ 0 (by simp)
  clear hσ
  have hsz : (⟨s.toArray⟩ : ByteArray).size = s.length := by simp [ByteArray.size]
  obtain ⟨N, hN⟩ : ∃ N, s.length = N := ⟨_, rfl⟩
  rw [hN] at hsz hs
  have HN := Lib.hid hN
  clear hN
  obtain ⟨w1, hw1⟩ : ∃ w1, w.alloc (.cells textZ.toArray 60) = w1 := ⟨_, rfl⟩
  have hrB := Row.new w textZ 60
  have hgB := World.grownBy_alloc w (.cells textZ.toArray 60) none
  rw [hw1] at hrB hgB
  unfold textZ at hw1
  have HRB := Lib.hid hrB
  have HGB := Lib.hid hgB
  clear hrB hgB
  obtain ⟨B, hB⟩ : ∃ B, w.heap.size = B := ⟨_, rfl⟩
  go_upto_region 3 with fail
  clear hw1
  rw [hB] at HRB
  have HB := Lib.hid hB
  clear hB
  refine cut_F (fun s' w' => s' 27 = .bool (decide (hexH s)) ∧ s' 0 = .string ⟨s.toArray⟩ ∧ s' 2 = .pointer (some ⟨B, 0, none⟩) ∧ s' 4 = .int .i64 10 ∧ s' 5 = .int .i64 0 ∧ w1 = w') ?_ ?_
  · intro R' K' HR hK'
    by_cases h1 : 1 < N
    case neg =>
      have hx : decide (hexH s) = false := by rw [decide_eq_false_iff_not]; unfold hexH; rw [HN.out]; exact fun h => h1 h.1
      have h1' : decide ((1 : Int) < (N : Int)) = false := by simp; omega
      have h1'' : decide (1 < N) = false := by simp; omega
      rw [hx] at HR
      clear hx
      ((repeat (go_wp2_with fail; first | (refine cond_yes ?hc (by decide) ?_; (case hc => (simp [over_cons, over_nil, *]; done))) | (refine cond_no ?hc (by decide) ?_; (case hc => (simp [over_cons, over_nil, *]; done))))); go_wp2_with fail)
      exact got HR (by simp [over_cons, over_nil, *])
    have hidx0 := str_idx s 0 (by rw [HN.out]; omega)
    have hidx1 := str_idx s 1 (by rw [HN.out]; omega)
    have h1' : (1 : Int) < (N : Int) := by omega
    have h0' : (0 : Int) < (N : Int) := by omega
    have h0'' : 0 < N := by omega
    obtain ⟨a, ha⟩ : ∃ a, s.getD 0 0 = a := ⟨_, rfl⟩
    obtain ⟨b, hb⟩ : ∃ b, s.getD 1 0 = b := ⟨_, rfl⟩
    rw [ha] at hidx0
    rw [hb] at hidx1
    by_cases ha1 : a.toNat = 48
    case neg =>
      have hx : decide (hexH s) = false := by rw [decide_eq_false_iff_not]; unfold hexH; rw [ha]; rintro ⟨_, h, _⟩; exact ha1 (by rw [h]; rfl)
      rw [hx] at HR
      have p1 : ((a.toNat : Int) == 48) = false := by rw [beq_eq_false_iff_ne]; omega
      have p2 : (a.toNat == 48) = false := by rw [beq_eq_false_iff_ne]; exact ha1
      clear hx ha hb ha1
      ((repeat (go_wp2_with fail; first | (refine cond_yes ?hc (by decide) ?_; (case hc => (simp [over_cons, over_nil, *]; done))) | (refine cond_no ?hc (by decide) ?_; (case hc => (simp [over_cons, over_nil, *]; done))))); go_wp2_with fail)
      exact got HR (by simp [over_cons, over_nil, *])
    have p1 : ((a.toNat : Int) == 48) = true := by rw [beq_iff_eq]; omega
    have p2 : (a.toNat == 48) = true := by rw [beq_iff_eq]; exact ha1
    by_cases hb1 : b.toNat = 120
    case neg =>
      have hx : decide (hexH s) = false := by rw [decide_eq_false_iff_not]; unfold hexH; rw [hb]; rintro ⟨_, _, h⟩; exact hb1 (by rw [h]; rfl)
      rw [hx] at HR
      have p3 : ((b.toNat : Int) == 120) = false := by rw [beq_eq_false_iff_ne]; omega
      have p4 : (b.toNat == 120) = false := by rw [beq_eq_false_iff_ne]; exact hb1
      clear hx ha hb ha1 hb1
      ((repeat (go_wp2_with fail; first | (refine cond_yes ?hc (by decide) ?_; (case hc => (simp [over_cons, over_nil, *]; done))) | (refine cond_no ?hc (by decide) ?_; (case hc => (simp [over_cons, over_nil, *]; done))))); go_wp2_with fail)
      exact got HR (by simp [over_cons, over_nil, *])
    have hx : decide (hexH s) = true := by rw [decide_eq_true_iff]; unfold hexH; rw [HN.out, ha, hb]; exact ⟨h1, UInt8.toNat_inj.1 ha1, UInt8.toNat_inj.1 hb1⟩
    rw [hx] at HR
    have p3 : ((b.toNat : Int) == 120) = true := by rw [beq_iff_eq]; omega
    have p4 : (b.toNat == 120) = true := by rw [beq_iff_eq]; exact hb1
    clear hx ha hb ha1 hb1
    ((repeat (go_wp2_with fail; first | (refine cond_yes ?hc (by decide) ?_; (case hc => (simp [over_cons, over_nil, *]; done))) | (refine cond_no ?hc (by decide) ?_; (case hc => (simp [over_cons, over_nil, *]; done))))); go_wp2_with fail)
    exact got HR (by simp [over_cons, over_nil, *])
  clear s0 σ
  rintro σ w' ⟨s27, s0, s2, s4, s5, rfl⟩
  go_wp2_with fail
  refine cut_F (fun s' w' => s' 0 = .string ⟨s.toArray⟩ ∧ s' 2 = .pointer (some ⟨B, 0, none⟩) ∧ s' 4 = .int .i64 (nBase s : Int) ∧ s' 5 = .int .i64 (nFrom s : Int) ∧ w1 = w') ?_ ?_
  · intro R' K' HR hK'
    refine cond_F _ (by rw [over_nil, s27]) (by decide) (fun h => ?_) (fun h => ?_)
    case refine_2 =>
      have hx := of_decide_eq_false h
      have e1 : nBase s = 10 := by unfold nBase; rw [if_neg hx]
      have e2 : nFrom s = 0 := by unfold nFrom; rw [if_neg hx]
      rw [e1, e2] at HR
      clear h hx e1 e2
      ((repeat (go_wp2_with fail; first | (refine cond_yes ?hc (by decide) ?_; (case hc => (simp [over_cons, over_nil, *]; done))) | (refine cond_no ?hc (by decide) ?_; (case hc => (simp [over_cons, over_nil, *]; done))))); go_wp2_with fail)
      exact got HR (by simp [over_cons, over_nil, *])
    have hx := of_decide_eq_true h
    have e1 : nBase s = 16 := by unfold nBase; rw [if_pos hx]
    have e2 : nFrom s = if undH s then 3 else 2 := by unfold nFrom; rw [if_pos hx]
    rw [e1, e2] at HR
    have hN2 : 1 < N := by have := hx.1; rw [HN.out] at this; exact this
    clear h hx e1 e2 s27
    go_upto_region 6 with fail
    by_cases h3 : 3 < N
    case neg =>
      rw [if_neg (by unfold undH; rw [HN.out]; exact fun h => h3 h.1)] at HR
      have h3' : decide ((3 : Int) < (N : Int)) = false := by simp; omega
      have h3'' : decide (3 < N) = false := by simp; omega
      ((repeat (go_wp2_with fail; first | (refine cond_yes ?hc (by decide) ?_; (case hc => (simp [over_cons, over_nil, *]; done))) | (refine cond_no ?hc (by decide) ?_; (case hc => (simp [over_cons, over_nil, *]; done))))); go_wp2_with fail)
      exact got HR (by simp [over_cons, over_nil, *])
    have hidx2 := str_idx s 2 (by rw [HN.out]; omega)
    have hidx3 := str_idx s 3 (by rw [HN.out]; omega)
    have h3' : (3 : Int) < (N : Int) := by omega
    have h2' : (2 : Int) < (N : Int) := by omega
    have h2'' : 2 < N := by omega
    obtain ⟨a, ha⟩ : ∃ a, s.getD 2 0 = a := ⟨_, rfl⟩
    obtain ⟨b, hb⟩ : ∃ b, s.getD 3 0 = b := ⟨_, rfl⟩
    rw [ha] at hidx2
    rw [hb] at hidx3
    by_cases ha1 : a.toNat = 95
    case neg =>
      rw [if_neg (by unfold undH; rw [ha]; rintro ⟨_, h, _⟩; exact ha1 (by rw [h]; rfl))] at HR
      have p1 : ((a.toNat : Int) == 95) = false := by rw [beq_eq_false_iff_ne]; omega
      have p2 : (a.toNat == 95) = false := by rw [beq_eq_false_iff_ne]; exact ha1
      clear ha hb ha1
      ((repeat (go_wp2_with fail; first | (refine cond_yes ?hc (by decide) ?_; (case hc => (simp [over_cons, over_nil, *]; done))) | (refine cond_no ?hc (by decide) ?_; (case hc => (simp [over_cons, over_nil, *]; done))))); go_wp2_with fail)
      exact got HR (by simp [over_cons, over_nil, *])
    have p1 : ((a.toNat : Int) == 95) = true := by rw [beq_iff_eq]; omega
    have p2 : (a.toNat == 95) = true := by rw [beq_iff_eq]; exact ha1
    have hL := HDG.out b
    rw [show ((16 : Nat) : Int) = 16 from rfl] at hL
    by_cases hb1 : isD 16 b = true
    · rw [if_pos (by unfold undH; rw [HN.out, ha, hb]; exact ⟨h3, UInt8.toNat_inj.1 ha1, hb1⟩)] at HR
      have hge := digI_ge hb1
      have HL := Lib.hid hL
      clear hL ha hb ha1 hb1
      generalize digI 16 b = z at *
      ((repeat (go_wp2_with (first | (refine (HL.out _).mono ?_; rintro e w8 ⟨rfl, rfl⟩)); first | (refine cond_yes ?hc (by decide) ?_; (case hc => (simp [over_cons, over_nil, *]; done))) | (refine cond_no ?hc (by decide) ?_; (case hc => (simp [over_cons, over_nil, *]; done))))); go_wp2_with (first | (refine (HL.out _).mono ?_; rintro e w8 ⟨rfl, rfl⟩)))
      exact got HR (by simp [over_cons, over_nil, *])
    · rw [if_neg (by unfold undH; rw [hb]; rintro ⟨_, _, h⟩; exact hb1 h)] at HR
      rw [digI_lt (by simpa using hb1)] at hL
      have HL := Lib.hid hL
      clear hL ha hb ha1 hb1
      ((repeat (go_wp2_with (first | (refine (HL.out _).mono ?_; rintro e w8 ⟨rfl, rfl⟩)); first | (refine cond_yes ?hc (by decide) ?_; (case hc => (simp [over_cons, over_nil, *]; done))) | (refine cond_no ?hc (by decide) ?_; (case hc => (simp [over_cons, over_nil, *]; done))))); go_wp2_with (first | (refine (HL.out _).mono ?_; rintro e w8 ⟨rfl, rfl⟩)))
      exact got HR (by simp [over_cons, over_nil, *])
  clear s27 s0 s2 s4 s5 σ HDG
  rintro σ w' ⟨s0, s2, s4, s5, rfl⟩
  have hi0 := nFrom_le s
  have hi1 := nI1_le s
  have hi01 : nFrom s ≤ nI1 s := by unfold nI1; omega
  rw [HN.out] at hi0 hi1
  have hc1 : (⟨s.toArray⟩ : ByteArray).extract (nFrom s) (nI1 s) = ⟨(nFirst s).toArray⟩ := str_cut s (nFrom s) _ (by have := nI1_le s; unfold nI1 at this; exact this)
  have hR1 : ∀ W, Calls Tryd.prog 81 #[.string ⟨s.toArray⟩, .int .i64 (nFrom s : Int), .int .i64 (nBase s : Int)] W fun e w' => e = .returned (.int .i64 (nI1 s : Int)) ∧ W = w' := by
    intro W
    have := HRN.out (nFrom s) (nFrom_le s) W
    have e : nI1 s = nFrom s + runN (nBase s) (s.drop (nFrom s)) := rfl
    rw [← e] at this
    exact this
  have hR2 : nPt s → ∀ W, Calls Tryd.prog 81 #[.string ⟨s.toArray⟩, .int .i64 ((nI1 s : Int) + 1), .int .i64 (nBase s : Int)] W fun e w' => e = .returned (.int .i64 (nI2 s : Int)) ∧ W = w' := by
    intro hp W
    have := HRN.out (nI1 s + 1) hp.1 W
    have e : nI2 s = nI1 s + 1 + runN (nBase s) (s.drop (nI1 s + 1)) := by unfold nI2; rw [if_pos hp]
    rw [← e, show ((nI1 s + 1 : Nat) : Int) = (nI1 s : Int) + 1 from by omega] at this
    exact this
  have hc2 : nPt s → (⟨s.toArray⟩ : ByteArray).extract (nI1 s + 1) (nI2 s) = ⟨(nSecond s).toArray⟩ := by
    intro hp
    have e : nI2 s = nI1 s + 1 + runN (nBase s) (s.drop (nI1 s + 1)) := by unfold nI2; rw [if_pos hp]
    have e2 : nSecond s = (s.drop (nI1 s + 1)).take (runN (nBase s) (s.drop (nI1 s + 1))) := by unfold nSecond; rw [if_pos hp]
    rw [e, e2]
    exact str_cut s _ _ (by rw [← e]; exact nI2_le s)
  have hI12 : nPt s → nI1 s + 1 ≤ nI2 s := by intro hp; unfold nI2; rw [if_pos hp]; omega
  have hI2N := nI2_le s
  rw [HN.out] at hI2N
  have hq1 : ¬ nPt s → nI2 s = nI1 s := fun h => by unfold nI2; rw [if_neg h]
  have hq2 : ¬ nPt s → nSecond s = [] := fun h => by unfold nSecond; rw [if_neg h]
  have hpt : nPt s ↔ nI1 s < N ∧ s.getD (nI1 s) 0 = 46 := by unfold nPt; rw [HN.out]
  clear HRN
  obtain ⟨i0, e0⟩ : ∃ i0, nFrom s = i0 := ⟨_, rfl⟩
  obtain ⟨i1, e1⟩ : ∃ i1, nI1 s = i1 := ⟨_, rfl⟩
  obtain ⟨i2, e2⟩ : ∃ i2, nI2 s = i2 := ⟨_, rfl⟩
  obtain ⟨b, eb⟩ : ∃ b, nBase s = b := ⟨_, rfl⟩
  obtain ⟨f1, ef1⟩ : ∃ f, nFirst s = f := ⟨_, rfl⟩
  obtain ⟨f2, ef2⟩ : ∃ f, nSecond s = f := ⟨_, rfl⟩
  rw [e0, e1] at hi01
  rw [e0] at hi0 s5
  rw [e1] at hi1 hpt hI12 hq1
  rw [e2] at hI2N hI12 hq1
  rw [eb] at s4
  rw [e0, e1, ef1] at hc1
  rw [e1, e2, ef2] at hc2
  rw [ef2] at hq2
  rw [e0, e1, eb] at hR1
  rw [e1, e2, eb] at hR2
  have HR1 := Lib.hid hR1
  have HR2 := Lib.hid hR2
  have HC2 := Lib.hid hc2
  have E0 := Lib.hid e0
  have E1 := Lib.hid e1
  have E2 := Lib.hid e2
  have EB := Lib.hid eb
  have EF1 := Lib.hid ef1
  have EF2 := Lib.hid ef2
  have HI12 := Lib.hid hI12
  have HQ1 := Lib.hid hq1
  have HQ2 := Lib.hid hq2
  have HPT := Lib.hid hpt
  clear e0 e1 e2 eb ef1 ef2 hR1 hR2 hc2 hI12 hq1 hq2 hpt
  have j1 : (i0 : Int) ≤ (i1 : Int) := by omega
  have j2 : (i1 : Int) ≤ (N : Int) := by omega
  go_wp2_with fail
  refine (HR1.out _).mono ?_
  rintro e w8 ⟨rfl, rfl⟩
  go_upto_region 12 with fail
  refine cut_F (fun s' w' => s' 68 = .bool (decide (nPt s)) ∧ s' 0 = .string ⟨s.toArray⟩ ∧ s' 2 = .pointer (some ⟨B, 0, none⟩) ∧ s' 4 = .int .i64 (b : Int) ∧ s' 5 = .int .i64 (i1 : Int) ∧ s' 7 = .string ⟨f1.toArray⟩ ∧ s' 8 = .string ⟨#[]⟩ ∧ w1 = w') ?_ ?_
  · intro R' K' HR hK'
    by_cases h1 : i1 < N
    case neg =>
      have hx : decide (nPt s) = false := by rw [decide_eq_false_iff_not, HPT.out]; exact fun h => h1 h.1
      have h1' : decide ((i1 : Int) < (N : Int)) = false := by simp; omega
      have h1'' : decide (i1 < N) = false := by simp; omega
      rw [hx] at HR
      clear hx
      ((repeat (go_wp2_with fail; first | (refine cond_yes ?hc (by decide) ?_; (case hc => (simp [over_cons, over_nil, *]; done))) | (refine cond_no ?hc (by decide) ?_; (case hc => (simp [over_cons, over_nil, *]; done))))); go_wp2_with fail)
      exact got HR (by simp [over_cons, over_nil, *])
    have hidx1 := str_idx s i1 (by rw [HN.out]; omega)
    have h1' : (i1 : Int) < (N : Int) := by omega
    obtain ⟨a, ha⟩ : ∃ a, s.getD i1 0 = a := ⟨_, rfl⟩
    rw [ha] at hidx1
    by_cases ha1 : a.toNat = 46
    · have hx : decide (nPt s) = true := by rw [decide_eq_true_iff, HPT.out, ha]; exact ⟨h1, UInt8.toNat_inj.1 ha1⟩
      rw [hx] at HR
      have p1 : ((a.toNat : Int) == 46) = true := by rw [beq_iff_eq]; omega
      have p2 : (a.toNat == 46) = true := by rw [beq_iff_eq]; exact ha1
      clear hx ha ha1
      ((repeat (go_wp2_with fail; first | (refine cond_yes ?hc (by decide) ?_; (case hc => (simp [over_cons, over_nil, *]; done))) | (refine cond_no ?hc (by decide) ?_; (case hc => (simp [over_cons, over_nil, *]; done))))); go_wp2_with fail)
      exact got HR (by simp [over_cons, over_nil, *])
    · have hx : decide (nPt s) = false := by rw [decide_eq_false_iff_not, HPT.out, ha]; rintro ⟨_, h⟩; exact ha1 (by rw [h]; rfl)
      rw [hx] at HR
      have p1 : ((a.toNat : Int) == 46) = false := by rw [beq_eq_false_iff_ne]; omega
      have p2 : (a.toNat == 46) = false := by rw [beq_eq_false_iff_ne]; exact ha1
      clear hx ha ha1
      ((repeat (go_wp2_with fail; first | (refine cond_yes ?hc (by decide) ?_; (case hc => (simp [over_cons, over_nil, *]; done))) | (refine cond_no ?hc (by decide) ?_; (case hc => (simp [over_cons, over_nil, *]; done))))); go_wp2_with fail)
      exact got HR (by simp [over_cons, over_nil, *])
  clear s0 s2 s4 s5 σ HR1 hc1 j1
  rintro σ w' ⟨s68, s0, s2, s4, s5, s7, s8, rfl⟩
  go_wp2_with fail
  refine cut_F (fun s' w' => s' 0 = .string ⟨s.toArray⟩ ∧ s' 2 = .pointer (some ⟨B, 0, none⟩) ∧ s' 4 = .int .i64 (b : Int) ∧ s' 5 = .int .i64 (i2 : Int) ∧ s' 7 = .string ⟨f1.toArray⟩ ∧ s' 8 = .string ⟨f2.toArray⟩ ∧ w1 = w') ?_ ?_
  · intro R' K' HR hK'
    refine cond_F _ (by rw [over_nil, s68]) (by decide) (fun h => ?_) (fun h => ?_)
    · have hx := of_decide_eq_true h
      have hcut := HC2.out hx
      have h1 := HI12.out hx
      have HR2' := Lib.hid (HR2.out hx)
      have k1 : (i1 : Int) + 1 ≤ (i2 : Int) := by omega
      have k2 : (i2 : Int) ≤ (N : Int) := by omega
      clear h hx s68
      go_wp2_with fail
      refine (HR2'.out _).mono ?_
      rintro e w8 ⟨rfl, rfl⟩
      ((repeat (go_wp2_with fail; first | (refine cond_yes ?hc (by decide) ?_; (case hc => (simp [over_cons, over_nil, *]; done))) | (refine cond_no ?hc (by decide) ?_; (case hc => (simp [over_cons, over_nil, *]; done))))); go_wp2_with fail)
      exact got HR (by simp [over_cons, over_nil, *])
    · have hx := of_decide_eq_false h
      have g1 := HQ1.out hx
      have g2 := HQ2.out hx
      subst g1
      subst g2
      clear h hx s68
      ((repeat (go_wp2_with fail; first | (refine cond_yes ?hc (by decide) ?_; (case hc => (simp [over_cons, over_nil, *]; done))) | (refine cond_no ?hc (by decide) ?_; (case hc => (simp [over_cons, over_nil, *]; done))))); go_wp2_with fail)
      exact got HR (by simp [over_cons, over_nil, *])
  clear s68 s0 s2 s4 s5 s7 s8 σ HR2 HC2 HI12 HQ1 HQ2 HPT hi1 hi0 hi01 j2
  rintro σ w' ⟨s0, s2, s4, s5, s7, s8, rfl⟩
  by_cases hemp : f1 = [] ∧ f2 = []
  · obtain ⟨rfl, rfl⟩ := hemp
    have hne : numE s = none := by unfold numE; rw [EF1.out, EF2.out, if_pos ⟨rfl, rfl⟩]
    have HNE := Lib.hid hne
    clear hne
    have k0 := HRB.out.cell 0
    have k1 := HRB.out.cell 1
    have k2 := HRB.out.cell 2
    have k3 := HRB.out.cell 3
    have k4 := HRB.out.cell 4
    have t0 := HRB.out.frozen 0
    have t1 := HRB.out.frozen 1
    have t2 := HRB.out.frozen 2
    have t3 := HRB.out.frozen 3
    have t4 := HRB.out.frozen 4
    unfold textZ at k0 k1 k2 k3 k4
    simp only [List.getElem?_cons_zero, List.getElem?_cons_succ] at k0 k1 k2 k3 k4
    ((repeat (go_wp2_with fail; first | (refine cond_yes ?hc (by decide) ?_; (case hc => (simp [over_cons, over_nil, *]; done))) | (refine cond_no ?hc (by decide) ?_; (case hc => (simp [over_cons, over_nil, *]; done))))); go_wp2_with fail)
    have hrow := ((((HRB.out.setCell 0 (.int .i64 0)).setCell 1 (.bool false)).setCell 2 (.int .i64 0)).setCell 3 (.slice none 0 0)).setCell 4 (.int .i64 0)
    obtain ⟨ty, hrow⟩ := hrow
    refine ret_cell_F (B := B) (.agg textZ.toArray) (.bool false) rfl (by decide) (by decide) (by simp [over_cons, over_nil, *]) (by simp [over_cons, over_nil, *]) ?_ (numPost_none HNE.out ?_)
    · exact run_loadVar_row (P := Tryd.prog) _ B ty 60 _ (0, 0) _ hrow Tryd.underlying60 rfl (by kernel_rfl)
    · have hBw := HB.out
      exact grown_setN (grown_setN (grown_setN (grown_setN (grown_setN HGB.out _ (by show w.heap.size ≤ B; omega)) _ (by show w.heap.size ≤ B; omega)) _ (by show w.heap.size ≤ B; omega)) _ (by show w.heap.size ≤ B; omega)) _ (by show w.heap.size ≤ B; omega)
  have hemp1 : (f1.isEmpty && f2.isEmpty) = false := by
    cases f1 with
    | nil =>
      cases f2 with
      | nil => exact absurd ⟨rfl, rfl⟩ hemp
      | cons a r => rfl
    | cons a r => rfl
  have hcat := str_cat f1 f2
  have hfl : (f1 ++ f2).length ≤ 4000000 := by
    have h1 : (nFirst s).length ≤ s.length := by unfold nFirst; rw [List.length_take, List.length_drop]; omega
    have h2 : (nSecond s).length ≤ s.length := by unfold nSecond; split; rw [List.length_take, List.length_drop]; omega; simp
    rw [EF1.out, HN.out] at h1
    rw [EF2.out, HN.out] at h2
    rw [List.length_append]
    omega
  have hbo : b = 10 ∨ b = 16 := by rw [← EB.out]; exact nBase_or s
  obtain ⟨ff, hff⟩ : ∃ ff, f1 ++ f2 = ff := ⟨_, rfl⟩
  rw [hff] at hcat hfl
  have HFF := Lib.hid hff
  clear hff
  have HDO := Lib.hid (digitsOf_any b hbo ff w1 hfl)
  have hlen := dgL_len b ff
  obtain ⟨l, hl⟩ : ∃ l, dgL b ff = l := ⟨_, rfl⟩
  rw [hl] at HDO hlen
  have HLD := Lib.hid hl
  have hll : l.length ≤ 4000000 := by omega
  have HEM := Lib.hid hemp
  clear hl hlen hfl hemp
  go_upto_region 16 with fail
  refine cut_F (fun s' w' => s' 84 = .bool false ∧ s' 0 = .string ⟨s.toArray⟩ ∧ s' 2 = .pointer (some ⟨B, 0, none⟩) ∧ s' 4 = .int .i64 (b : Int) ∧ s' 5 = .int .i64 (i2 : Int) ∧ s' 7 = .string ⟨f1.toArray⟩ ∧ s' 8 = .string ⟨f2.toArray⟩ ∧ w1 = w') ?_ ?_
  · intro R' K' HR hK'
    clear hcat
    by_cases h1 : f1.isEmpty = true
    · have h2 : f2.isEmpty = false := by rw [h1] at hemp1; simpa using hemp1
      clear hemp1
      ((repeat (go_wp2_with fail; first | (refine cond_yes ?hc (by decide) ?_; (case hc => (simp [over_cons, over_nil, *]; done))) | (refine cond_no ?hc (by decide) ?_; (case hc => (simp [over_cons, over_nil, *]; done))))); go_wp2_with fail)
      exact got HR (by simp [over_cons, over_nil, *])
    · have h1' : f1.isEmpty = false := by simpa using h1
      clear hemp1 h1
      ((repeat (go_wp2_with fail; first | (refine cond_yes ?hc (by decide) ?_; (case hc => (simp [over_cons, over_nil, *]; done))) | (refine cond_no ?hc (by decide) ?_; (case hc => (simp [over_cons, over_nil, *]; done))))); go_wp2_with fail)
      exact got HR (by simp [over_cons, over_nil, *])
  clear s0 s2 s4 s5 s7 s8 σ hemp1
  rintro σ w' ⟨s84, s0, s2, s4, s5, s7, s8, rfl⟩
  go_wp2_with fail
  refine cond_no (by rw [over_nil, s84]) (by decide) ?_
  clear s84
  have zf1 : (⟨f1.toArray⟩ : ByteArray).size = f1.length := by simp [ByteArray.size]
  have zf2 : (⟨f2.toArray⟩ : ByteArray).size = f2.length := by simp [ByteArray.size]
  have hzz : f1.length + f2.length ≤ 4000000 := by
    have h1 : (nFirst s).length ≤ s.length := by unfold nFirst; rw [List.length_take, List.length_drop]; omega
    have h2 : (nSecond s).length ≤ s.length := by unfold nSecond; split; rw [List.length_take, List.length_drop]; omega; simp
    rw [EF1.out, HN.out] at h1
    rw [EF2.out, HN.out] at h2
    omega
  have HCO := Lib.hid (fun W => countOf_any b hbo f2 W (by omega))
  obtain ⟨cn, hcn⟩ : ∃ cn, cntL b f2 = cn := ⟨_, rfl⟩
  have hcl : cn ≤ 4000000 := by have := cntL_le b f2; omega
  rw [hcn] at HCO
  have HCN := Lib.hid hcn
  clear hcn
  generalize f1.length = lf1 at *
  generalize f2.length = lf2 at *
  go_wp2_with fail
  refine HDO.out.mono ?_
  rintro e w2 ⟨v2, rfl, ho2, hg2⟩
  obtain ⟨g, c, hv2, hg3, hg4, hg5, hg6⟩ := ho2.block
  obtain ⟨L, hL⟩ : ∃ L, l.length = L := ⟨_, rfl⟩
  rw [hL] at hv2 hll hg5
  subst hv2
  obtain ⟨D, hD⟩ : ∃ D, w2.heap.size = D := ⟨_, rfl⟩
  obtain ⟨w3, hw3⟩ : ∃ w3, w2.alloc (.cells #[.int .i64 0, .bool false, .int .i64 (b : Int), .slice (some ⟨g, 0, none⟩) L c, .int .i64 0] 60) = w3 := ⟨_, rfl⟩
  have hrD := Row.new w2 [.int .i64 0, .bool false, .int .i64 (b : Int), .slice (some ⟨g, 0, none⟩) L c, .int .i64 0] 60
  have hgD := World.grownBy_alloc w2 (.cells #[.int .i64 0, .bool false, .int .i64 (b : Int), .slice (some ⟨g, 0, none⟩) L c, .int .i64 0] 60) none
  have ho3 := ho2.alloc (.cells #[.int .i64 0, .bool false, .int .i64 (b : Int), .slice (some ⟨g, 0, none⟩) L c, .int .i64 0] 60)
  have hrB3 := (HRB.out.grown hg2 (by simp)).grown hgD (by simp)
  have hrD' : Row (w2.alloc (.cells #[.int .i64 0, .bool false, .int .i64 (b : Int), .slice (some ⟨g, 0, none⟩) L c, .int .i64 0] 60)) w2.heap.size [.int .i64 0, .bool false, .int .i64 (b : Int), .slice (some ⟨g, 0, none⟩) L c, .int .i64 0] := hrD
  rw [hw3] at hrD' hgD ho3 hrB3
  rw [hD] at hrD' hg4
  have hBlt := HRB.out.lt
  have HRB3 := Lib.hid hrB3
  have HRD := Lib.hid hrD'
  have HO3 := Lib.hid ho3
  have HG3 := Lib.hid (grown_none_tr HGB.out (grown_none_tr hg2 hgD))
  have hgB : ¬ (g = B) := by omega
  have hgD2 : ¬ (g = D) := by omega
  have hBD : ¬ (B = D) := by have := HRB.out.lt; have := hg2.size; omega
  have HW3 := Lib.hid hw3
  have HDD := Lib.hid hD
  have hDB : w.heap.size ≤ D := by rw [← hD]; exact Nat.le_trans HGB.out.size hg2.size
  have HL := Lib.hid hL
  clear hw3 hD hrD hrD' hgD ho2 ho3 hrB3 hL hg2 hg3 hg4 hg5 hg6 hBlt HDO
  go_wp2_with fail
  rw [HW3.out, HDD.out]
  obtain ⟨lt, hlt⟩ : ∃ lt, nLetter s = lt := ⟨_, rfl⟩
  obtain ⟨per, hper⟩ : ∃ per, nPer s = per := ⟨_, rfl⟩
  have hlt' : lt = if b = 16 then 112 else 101 := by rw [← hlt]; unfold nLetter; rw [EB.out]
  have hper' : per = if b = 16 then 4 else 1 := by rw [← hper]; unfold nPer; rw [EB.out]
  have hp4 : per ≤ 4 := by rw [hper']; split <;> omega
  have HLT := Lib.hid hlt
  have HPER := Lib.hid hper
  clear hlt hper HDD
  refine cut_F (fun s' w' => s' 0 = .string ⟨s.toArray⟩ ∧ s' 2 = .pointer (some ⟨B, 0, none⟩) ∧ s' 4 = .int .i64 (b : Int) ∧ s' 5 = .int .i64 (i2 : Int) ∧ s' 8 = .string ⟨f2.toArray⟩ ∧ s' 10 = .pointer (some ⟨D, 0, none⟩) ∧ s' 11 = .int .u8 (lt.toNat : Int) ∧ s' 12 = .int .i64 (per : Int) ∧ w3 = w') ?_ ?_
  · intro R' K' HR hK'
    rcases hbo with rfl | rfl
    · rw [if_neg (by decide)] at hlt' hper'
      subst hlt'
      subst hper'
      ((repeat (go_wp2_with fail; first | (refine cond_yes ?hc (by decide) ?_; (case hc => (simp [over_cons, over_nil, *]; done))) | (refine cond_no ?hc (by decide) ?_; (case hc => (simp [over_cons, over_nil, *]; done))))); go_wp2_with fail)
      exact got HR ⟨by simp [over_cons, over_nil, *], by simp [over_cons, over_nil, *], by simp [over_cons, over_nil, *], by simp [over_cons, over_nil, *], by simp [over_cons, over_nil, *], by simp [over_cons, over_nil, *], by simp [over_cons, over_nil, *], by simp [over_cons, over_nil, *], rfl⟩
    · rw [if_pos rfl] at hlt' hper'
      subst hlt'
      subst hper'
      ((repeat (go_wp2_with fail; first | (refine cond_yes ?hc (by decide) ?_; (case hc => (simp [over_cons, over_nil, *]; done))) | (refine cond_no ?hc (by decide) ?_; (case hc => (simp [over_cons, over_nil, *]; done))))); go_wp2_with fail)
      exact got HR ⟨by simp [over_cons, over_nil, *], by simp [over_cons, over_nil, *], by simp [over_cons, over_nil, *], by simp [over_cons, over_nil, *], by simp [over_cons, over_nil, *], by simp [over_cons, over_nil, *], by simp [over_cons, over_nil], by simp [over_cons, over_nil], rfl⟩
  clear s0 s2 s4 s5 s7 s8 σ hlt' hper'
  rintro σ w' ⟨s0, s2, s4, s5, s8, s10, s11, s12, rfl⟩
  go_upto_region 24 with fail
  refine cut_F (fun s' w' => s' 102 = .bool (decide (i2 < N ∨ b = 16)) ∧ s' 0 = .string ⟨s.toArray⟩ ∧ s' 2 = .pointer (some ⟨B, 0, none⟩) ∧ s' 4 = .int .i64 (b : Int) ∧ s' 5 = .int .i64 (i2 : Int) ∧ s' 8 = .string ⟨f2.toArray⟩ ∧ s' 10 = .pointer (some ⟨D, 0, none⟩) ∧ s' 11 = .int .u8 (lt.toNat : Int) ∧ s' 12 = .int .i64 (per : Int) ∧ w3 = w') ?_ ?_
  · intro R' K' HR hK'
    by_cases h1 : i2 < N
    · have h1' : (i2 : Int) < (N : Int) := by omega
      have hx : decide (i2 < N ∨ b = 16) = true := decide_eq_true (Or.inl h1)
      rw [hx] at HR
      clear hx
      ((repeat (go_wp2_with fail; first | (refine cond_yes ?hc (by decide) ?_; (case hc => (simp [over_cons, over_nil, *]; done))) | (refine cond_no ?hc (by decide) ?_; (case hc => (simp [over_cons, over_nil, *]; done))))); go_wp2_with fail)
      exact got HR ⟨by simp [over_cons, over_nil, *], by simp [over_cons, over_nil, *], by simp [over_cons, over_nil, *], by simp [over_cons, over_nil, *], by simp [over_cons, over_nil, *], by simp [over_cons, over_nil, *], by simp [over_cons, over_nil, *], by simp [over_cons, over_nil, *], by simp [over_cons, over_nil, *], rfl⟩
    · have h1' : decide ((i2 : Int) < (N : Int)) = false := by simp; omega
      have h1'' : decide (i2 < N) = false := by simp; omega
      rcases hbo with rfl | rfl
      · have hx : decide (i2 < N ∨ 10 = 16) = false := decide_eq_false (by omega)
        rw [hx] at HR
        clear hx
        ((repeat (go_wp2_with fail; first | (refine cond_yes ?hc (by decide) ?_; (case hc => (simp [over_cons, over_nil, *]; done))) | (refine cond_no ?hc (by decide) ?_; (case hc => (simp [over_cons, over_nil, *]; done))))); go_wp2_with fail)
        exact got HR ⟨by simp [over_cons, over_nil, *], by simp [over_cons, over_nil, *], by simp [over_cons, over_nil, *], by simp [over_cons, over_nil, *], by simp [over_cons, over_nil, *], by simp [over_cons, over_nil, *], by simp [over_cons, over_nil, *], by simp [over_cons, over_nil, *], by simp [over_cons, over_nil, *], rfl⟩
      · have hx : decide (i2 < N ∨ 16 = 16) = true := decide_eq_true (Or.inr rfl)
        rw [hx] at HR
        clear hx
        ((repeat (go_wp2_with fail; first | (refine cond_yes ?hc (by decide) ?_; (case hc => (simp [over_cons, over_nil, *]; done))) | (refine cond_no ?hc (by decide) ?_; (case hc => (simp [over_cons, over_nil, *]; done))))); go_wp2_with fail)
        exact got HR ⟨by simp [over_cons, over_nil, *], by simp [over_cons, over_nil, *], by simp [over_cons, over_nil, *], by simp [over_cons, over_nil, *], by simp [over_cons, over_nil, *], by simp [over_cons, over_nil, *], by simp [over_cons, over_nil, *], by simp [over_cons, over_nil, *], by simp [over_cons, over_nil, *], rfl⟩
  clear s0 s2 s4 s5 s8 s10 s11 s12 σ
  rintro σ w' ⟨s102, s0, s2, s4, s5, s8, s10, s11, s12, rfl⟩
  have hexpo : nExp s = if i2 < N ∨ b = 16 then expoL lt (s.drop i2) else some 0 := by unfold nExp; rw [E2.out, EB.out, HN.out, HLT.out]
  have hcutE : (⟨s.toArray⟩ : ByteArray).extract i2 N = ⟨(s.drop i2).toArray⟩ := by
    have := str_cut s i2 (N - i2) (by rw [HN.out]; omega)
    rw [show i2 + (N - i2) = N by omega] at this
    rw [this, List.take_of_length_le (by rw [List.length_drop, HN.out]; omega)]
  have HEX := Lib.hid (fun W => exponent_any lt (s.drop i2) W (by rw [List.length_drop, HN.out]; omega))
  have HXP := Lib.hid hexpo
  clear hexpo
  have hTw : w.heap.size ≤ w1.heap.size := HGB.out.size
  have HO4 : Hid (OwnI w.heap.size w3 (.slice (some ⟨g, 0, none⟩) L c) l) := Lib.hid ⟨HO3.out.1, fun k hk => by have := HO3.out.2 k hk; omega⟩
  have HBw := HB.out
  clear HO3 hTw
  go_wp2_with fail
  refine cut_F (fun s' w' => ∃ x, nExp s = some x ∧ s' 0 = .string ⟨s.toArray⟩ ∧ s' 2 = .pointer (some ⟨B, 0, none⟩) ∧ s' 4 = .int .i64 (b : Int) ∧ s' 8 = .string ⟨f2.toArray⟩ ∧ s' 10 = .pointer (some ⟨D, 0, none⟩) ∧ s' 12 = .int .i64 (per : Int) ∧ Row w' B textZ ∧ Row w' D [.int .i64 0, .bool false, .int .i64 (b : Int), .slice (some ⟨g, 0, none⟩) L c, .int .i64 x] ∧ OwnI w.heap.size w' (.slice (some ⟨g, 0, none⟩) L c) l ∧ w.grownBy w' none) ?_ ?_
  · intro R' K' HR hK'
    refine cond_F _ (by rw [over_nil, s102]) (by decide) (fun h => ?_) (fun h => ?_)
    case refine_2 =>
      have hx := HXP.out
      rw [if_neg (of_decide_eq_false h)] at hx
      clear h s102
      ((repeat (go_wp2_with fail; first | (refine cond_yes ?hc (by decide) ?_; (case hc => (simp [over_cons, over_nil, *]; done))) | (refine cond_no ?hc (by decide) ?_; (case hc => (simp [over_cons, over_nil, *]; done))))); go_wp2_with fail)
      exact got HR ⟨0, hx, by simp [over_cons, over_nil, *], by simp [over_cons, over_nil, *], by simp [over_cons, over_nil, *], by simp [over_cons, over_nil, *], by simp [over_cons, over_nil, *], by simp [over_cons, over_nil, *], HRB3.out, HRD.out, HO4.out, HG3.out⟩
    have hx := HXP.out
    rw [if_pos (of_decide_eq_true h)] at hx
    have HX := Lib.hid hx
    clear h s102 hx
    have hi2N : (i2 : Int) ≤ (N : Int) := by omega
    go_wp2_with fail
    refine (HEX.out _).mono ?_
    rintro e w5 ⟨rfl, hg5⟩
    have HRB5 := Lib.hid (HRB3.out.grown hg5 (by simp))
    have HRD5 := Lib.hid (HRD.out.grown hg5 (by simp))
    have HO5 := Lib.hid (HO4.out.grown0 hg5)
    have HG5 := Lib.hid (grown_none_tr HG3.out hg5)
    clear hg5
    cases hE : expoL lt (s.drop i2) with
    | none =>
      have hne : numE s = none := by unfold numE; rw [HX.out, hE]; split <;> rfl
      have HNE := Lib.hid hne
      clear hne hE
      have k0 := HRB5.out.cell 0
      have k1 := HRB5.out.cell 1
      have k2 := HRB5.out.cell 2
      have k3 := HRB5.out.cell 3
      have k4 := HRB5.out.cell 4
      have t0 := HRB5.out.frozen 0
      have t1 := HRB5.out.frozen 1
      have t2 := HRB5.out.frozen 2
      have t3 := HRB5.out.frozen 3
      have t4 := HRB5.out.frozen 4
      unfold textZ at k0 k1 k2 k3 k4
      simp only [List.getElem?_cons_zero, List.getElem?_cons_succ] at k0 k1 k2 k3 k4
      unfold optI
      simp only [Option.getD_none, Option.isSome_none]
      ((repeat (go_wp2_with fail; first | (refine cond_yes ?hc (by decide) ?_; (case hc => (simp [over_cons, over_nil, *]; done))) | (refine cond_no ?hc (by decide) ?_; (case hc => (simp [over_cons, over_nil, *]; done))))); go_wp2_with fail)
      obtain ⟨ty, hrow⟩ := ((((HRB5.out.setCell 0 (.int .i64 0)).setCell 1 (.bool false)).setCell 2 (.int .i64 0)).setCell 3 (.slice none 0 0)).setCell 4 (.int .i64 0)
      refine ret_cell_F (B := B) (.agg textZ.toArray) (.bool false) rfl (by decide) (by decide) (by simp [over_cons, over_nil, *]) (by simp [over_cons, over_nil, *]) ?_ (numPost_none HNE.out ?_)
      · exact run_loadVar_row (P := Tryd.prog) _ B ty 60 _ (0, 0) _ hrow Tryd.underlying60 rfl (by kernel_rfl)
      · exact grown_setN (grown_setN (grown_setN (grown_setN (grown_setN HG5.out _ (by show w.heap.size ≤ B; omega)) _ (by show w.heap.size ≤ B; omega)) _ (by show w.heap.size ≤ B; omega)) _ (by show w.heap.size ≤ B; omega)) _ (by show w.heap.size ≤ B; omega)
    | some x =>
      have HX2 := Lib.hid (HX.out.trans hE)
      clear hE
      have m4 := HRD5.out.cell 4
      have g4 := HRD5.out.frozen 4
      simp only [List.getElem?_cons_zero, List.getElem?_cons_succ] at m4
      unfold optI
      simp only [Option.getD_some, Option.isSome_some]
      ((repeat (go_wp2_with fail; first | (refine cond_yes ?hc (by decide) ?_; (case hc => (simp [over_cons, over_nil, *]; done))) | (refine cond_no ?hc (by decide) ?_; (case hc => (simp [over_cons, over_nil, *]; done))))); go_wp2_with fail)
      refine got HR ⟨x, HX2.out, by simp [over_cons, over_nil, *], by simp [over_cons, over_nil, *], by simp [over_cons, over_nil, *], by simp [over_cons, over_nil, *], by simp [over_cons, over_nil, *], by simp [over_cons, over_nil, *], HRB5.out.setCell_other (a := ⟨D, 4, none⟩) hBD _, HRD5.out.setCell 4 (.int .i64 x), HO5.out.other (a := ⟨D, 4, none⟩) (by intro e; simp [Value.ownBlock] at e; exact hgD2 e) _, grown_setN HG5.out _ hDB⟩
  clear s102 s0 s2 s4 s5 s8 s10 s11 s12 σ HXP HEX hcutE HRB3 HRD HG3 HO4
  rintro σ w4 ⟨x, hx, s0, s2, s4, s8, s10, s12, hrB, hrD, ho, hg⟩
  have hxb : -1000000000000000 ≤ x ∧ x ≤ 1000000000000000 := by
    unfold nExp at hx
    split at hx
    · exact expoL_bd _ _ _ hx
    · have := Option.some.inj hx
      omega
  have HX := Lib.hid hx
  have HRB := Lib.hid hrB
  have HRD := Lib.hid hrD
  have HO := Lib.hid ho
  have HG := Lib.hid hg
  have m4 := HRD.out.cell 4
  have g4 := HRD.out.frozen 4
  simp only [List.getElem?_cons_zero, List.getElem?_cons_succ] at m4
  clear hx hrB hrD ho hg
  obtain ⟨q, hq⟩ : ∃ q, per * cn = q := ⟨_, rfl⟩
  have hq1 : q ≤ 16000000 := by rw [← hq]; exact Nat.le_trans (Nat.mul_le_mul hp4 hcl) (by decide)
  have hqi : (per : Int) * (cn : Int) = (q : Int) := by rw [← hq]; exact (Int.natCast_mul per cn).symm
  have HQ := Lib.hid hq
  clear hq
  go_upto_region 29 with fail
  refine cut_F (fun s' w' => s' 2 = .pointer (some ⟨B, 0, none⟩) ∧ s' 10 = .pointer (some ⟨D, 0, none⟩) ∧ Row w' B textZ ∧ Row w' D [.int .i64 0, .bool false, .int .i64 (b : Int), .slice (some ⟨g, 0, none⟩) L c, .int .i64 (x - (q : Int))] ∧ OwnI w.heap.size w' (.slice (some ⟨g, 0, none⟩) L c) l ∧ w.grownBy w' none) ?_ ?_
  · intro R' K' HR hK'
    have hw1 : IntKind.i64.wrap (q : Int) = (q : Int) := wrapIS q (by omega)
    have hw2 : IntKind.i64.wrap (x - (q : Int)) = x - (q : Int) := by rw [IntKind.wrap_i64]; omega
    refine wp_region_noPanic ?_
    refine wp_region_held_drew (S := fun _ => True) (by kernel_rfl) trivial (fun hHeld => ?_)
    ((refine take_F 0 116 (oi := ?_) (v := ?_) ?_ ?_ (by kernel_rfl) (by kernel_rfl) (by kernel_rfl) (fun _ _ _ _ _ h => h) ?_ (by assumption) ?_ ?_; rotate_left 2; (focus ((simp only [List.getElem?_toArray, List.getElem?_cons_succ, List.getElem?_cons_zero]); rfl)); (focus rfl); (focus (first | rfl | (simp only [Region.wanted, yielded, List.getElem?_toArray, List.getElem?_cons_succ, List.getElem?_cons_zero, Option.bind_some, Option.map_some, Fr_get?, over_cons, over_nil]; rfl) | go_simp)); (focus ((intro w hSw; go_simp; try with_reducible rfl)))); (refine take_F 2 118 (oi := ?_) (v := ?_) ?_ ?_ (by kernel_rfl) (by kernel_rfl) (by kernel_rfl) (fun _ _ _ _ _ h => h) ?_ (by assumption) ?_ ?_; rotate_left 2; (focus ((simp only [List.getElem?_toArray, List.getElem?_cons_succ, List.getElem?_cons_zero]); rfl)); (focus rfl); (focus (first | rfl | (simp only [Region.wanted, yielded, List.getElem?_toArray, List.getElem?_cons_succ, List.getElem?_cons_zero, Option.bind_some, Option.map_some, Fr_get?, over_cons, over_nil]; rfl) | go_simp)); (focus ((intro w hSw; go_simp; try with_reducible rfl)))); (refine take_F 3 119 (oi := ?_) (v := ?_) ?_ ?_ (by kernel_rfl) (by kernel_rfl) (by kernel_rfl) (fun _ _ _ _ _ h => h) ?_ (by assumption) ?_ ?_; rotate_left 2; (focus ((simp only [List.getElem?_toArray, List.getElem?_cons_succ, List.getElem?_cons_zero]); rfl)); (focus rfl); (focus (first | rfl | (simp only [Region.wanted, yielded, List.getElem?_toArray, List.getElem?_cons_succ, List.getElem?_cons_zero, Option.bind_some, Option.map_some, Fr_get?, over_cons, over_nil]; rfl) | go_simp)); (focus ((intro w hSw; go_simp; try with_reducible rfl)))); (refine take_F 4 120 (oi := ?_) (v := ?_) ?_ ?_ (by kernel_rfl) (by kernel_rfl) (by kernel_rfl) (fun _ _ _ _ _ h => h) ?_ (by assumption) ?_ ?_; rotate_left 2; (focus ((simp only [List.getElem?_toArray, List.getElem?_cons_succ, List.getElem?_cons_zero]); rfl)); (focus rfl); (focus (first | rfl | (simp only [Region.wanted, yielded, List.getElem?_toArray, List.getElem?_cons_succ, List.getElem?_cons_zero, Option.bind_some, Option.map_some, Fr_get?, over_cons, over_nil]; rfl) | go_simp)); (focus ((intro w hSw; go_simp; try with_reducible rfl)))))
    (refine two_F 1 5 (oi := ?_) (oj := ?_) ?_ ?_ (by kernel_rfl) ?_ ?_ ?_ ?_; rotate_left 2; (focus ((simp only [List.getElem?_toArray, List.getElem?_cons_succ, List.getElem?_cons_zero]); rfl)); (focus ((simp only [List.getElem?_toArray, List.getElem?_cons_succ, List.getElem?_cons_zero]); rfl)); (focus (first | rfl | go_simp)); (focus (first | rfl | go_simp)))
    · (intro K hK; go_simp; (skip); go_wp2_with fail; replace hHeld := trivial; refine hK.out _ _ hHeld ?_; clear hK K)
      (refine only_F 5 (oi := ?_) ?_ (by kernel_rfl) ?_ ?_; rotate_left 1; (focus ((simp only [List.getElem?_toArray, List.getElem?_cons_succ, List.getElem?_cons_zero]); rfl)); (focus (first | rfl | go_simp)); intro K hK; go_simp; (refine (HCO.out _).mono ?_; rintro e w9 ⟨rfl, rfl⟩); go_wp2_with fail; replace hHeld := trivial; refine hK.out _ _ hHeld ?_; clear hK K)
      ((refine take_F 6 122 (oi := ?_) (v := ?_) ?_ ?_ (by kernel_rfl) (by kernel_rfl) (by kernel_rfl) (fun _ _ _ _ _ h => h) ?_ (by assumption) ?_ ?_; rotate_left 2; (focus ((simp only [List.getElem?_toArray, List.getElem?_cons_succ, List.getElem?_cons_zero]); rfl)); (focus rfl); (focus (first | rfl | (simp only [Region.wanted, yielded, List.getElem?_toArray, List.getElem?_cons_succ, List.getElem?_cons_zero, Option.bind_some, Option.map_some, Fr_get?, over_cons, over_nil]; rfl) | go_simp)); (focus ((intro w hSw; go_simp; try with_reducible rfl)))); (refine take_F 7 123 (oi := ?_) (v := ?_) ?_ ?_ (by kernel_rfl) (by kernel_rfl) (by kernel_rfl) (fun _ _ _ _ _ h => h) ?_ (by assumption) ?_ ?_; rotate_left 2; (focus ((simp only [List.getElem?_toArray, List.getElem?_cons_succ, List.getElem?_cons_zero]); rfl)); (focus rfl); (focus (first | rfl | (simp only [Region.wanted, yielded, List.getElem?_toArray, List.getElem?_cons_succ, List.getElem?_cons_zero, Option.bind_some, Option.map_some, Fr_get?, over_cons, over_nil]; rfl) | go_simp)); (focus ((intro w hSw; go_simp; try with_reducible rfl)))); (refine take_F 8 124 (oi := ?_) (v := ?_) ?_ ?_ (by kernel_rfl) (by kernel_rfl) (by kernel_rfl) (fun _ _ _ _ _ h => h) ?_ (by assumption) ?_ ?_; rotate_left 2; (focus ((simp only [List.getElem?_toArray, List.getElem?_cons_succ, List.getElem?_cons_zero]); rfl)); (focus rfl); (focus (first | rfl | (simp only [Region.wanted, yielded, List.getElem?_toArray, List.getElem?_cons_succ, List.getElem?_cons_zero, Option.bind_some, Option.map_some, Fr_get?, over_cons, over_nil]; rfl) | go_simp)); (focus ((intro w hSw; go_simp; try with_reducible rfl)))))
      (refine only_F 9 (oi := ?_) ?_ (by kernel_rfl) ?_ ?_; rotate_left 1; (focus ((simp only [List.getElem?_toArray, List.getElem?_cons_succ, List.getElem?_cons_zero]); rfl)); (focus (first | rfl | go_simp)); intro K hK; go_simp; (skip); go_wp2_with fail; replace hHeld := trivial; refine hK.out _ _ hHeld ?_; clear hK K)
      refine wpAnyH_done (by kernel_rfl) ?_ _
      refine NoPanic.normal ?_
      exact hK' _ _ _ (got HR ⟨by simp [over_cons, over_nil, *], by simp [over_cons, over_nil, *], (HRB.out.setCell_other (a := ⟨D, 4, none⟩) hBD _).drew, (HRD.out.setCell 4 (.int .i64 (x - (q : Int)))).drew, (HO.out.other (a := ⟨D, 4, none⟩) (by intro e; simp [Value.ownBlock] at e; exact hgD2 e) _).drew, grown_none_tr (grown_setN HG.out _ hDB) (grown_drewN _ 1 none)⟩)
    · (intro K hK; go_simp; (refine (HCO.out _).mono ?_; rintro e w9 ⟨rfl, rfl⟩); go_wp2_with fail; replace hHeld := trivial; refine hK.out _ _ hHeld ?_; clear hK K)
      ((refine take_F 6 122 (oi := ?_) (v := ?_) ?_ ?_ (by kernel_rfl) (by kernel_rfl) (by kernel_rfl) (fun _ _ _ _ _ h => h) ?_ (by assumption) ?_ ?_; rotate_left 2; (focus ((simp only [List.getElem?_toArray, List.getElem?_cons_succ, List.getElem?_cons_zero]); rfl)); (focus rfl); (focus (first | rfl | (simp only [Region.wanted, yielded, List.getElem?_toArray, List.getElem?_cons_succ, List.getElem?_cons_zero, Option.bind_some, Option.map_some, Fr_get?, over_cons, over_nil]; rfl) | go_simp)); (focus ((intro w hSw; go_simp; try with_reducible rfl)))))
      (refine only_F 1 (oi := ?_) ?_ (by kernel_rfl) ?_ ?_; rotate_left 1; (focus ((simp only [List.getElem?_toArray, List.getElem?_cons_succ, List.getElem?_cons_zero]); rfl)); (focus (first | rfl | go_simp)); intro K hK; go_simp; (skip); go_wp2_with fail; replace hHeld := trivial; refine hK.out _ _ hHeld ?_; clear hK K)
      ((refine take_F 7 123 (oi := ?_) (v := ?_) ?_ ?_ (by kernel_rfl) (by kernel_rfl) (by kernel_rfl) (fun _ _ _ _ _ h => h) ?_ (by assumption) ?_ ?_; rotate_left 2; (focus ((simp only [List.getElem?_toArray, List.getElem?_cons_succ, List.getElem?_cons_zero]); rfl)); (focus rfl); (focus (first | rfl | (simp only [Region.wanted, yielded, List.getElem?_toArray, List.getElem?_cons_succ, List.getElem?_cons_zero, Option.bind_some, Option.map_some, Fr_get?, over_cons, over_nil]; rfl) | go_simp)); (focus ((intro w hSw; go_simp; try with_reducible rfl)))); (refine take_F 8 124 (oi := ?_) (v := ?_) ?_ ?_ (by kernel_rfl) (by kernel_rfl) (by kernel_rfl) (fun _ _ _ _ _ h => h) ?_ (by assumption) ?_ ?_; rotate_left 2; (focus ((simp only [List.getElem?_toArray, List.getElem?_cons_succ, List.getElem?_cons_zero]); rfl)); (focus rfl); (focus (first | rfl | (simp only [Region.wanted, yielded, List.getElem?_toArray, List.getElem?_cons_succ, List.getElem?_cons_zero, Option.bind_some, Option.map_some, Fr_get?, over_cons, over_nil]; rfl) | go_simp)); (focus ((intro w hSw; go_simp; try with_reducible rfl)))))
      (refine only_F 9 (oi := ?_) ?_ (by kernel_rfl) ?_ ?_; rotate_left 1; (focus ((simp only [List.getElem?_toArray, List.getElem?_cons_succ, List.getElem?_cons_zero]); rfl)); (focus (first | rfl | go_simp)); intro K hK; go_simp; (skip); go_wp2_with fail; replace hHeld := trivial; refine hK.out _ _ hHeld ?_; clear hK K)
      refine wpAnyH_done (by kernel_rfl) ?_ _
      refine NoPanic.normal ?_
      exact hK' _ _ _ (got HR ⟨by simp [over_cons, over_nil, *], by simp [over_cons, over_nil, *], (HRB.out.setCell_other (a := ⟨D, 4, none⟩) hBD _).drew, (HRD.out.setCell 4 (.int .i64 (x - (q : Int)))).drew, (HO.out.other (a := ⟨D, 4, none⟩) (by intro e; simp [Value.ownBlock] at e; exact hgD2 e) _).drew, grown_none_tr (grown_setN HG.out _ hDB) (grown_drewN _ 1 none)⟩)
  clear s0 s2 s4 s8 s10 s12 σ m4 g4 HRB HRD HO HG
  rintro σ w5 ⟨s2, s10, hrB, hrD, ho, hg⟩
  have hnum : numE s = some (x - (q : Int)) := by
    unfold numE
    rw [EF1.out, EF2.out, if_neg HEM.out, HX.out, EB.out, HPER.out, HCN.out, HQ.out]
    rfl
  have hdig : nDigits s = l := by unfold nDigits; rw [EF1.out, EF2.out, EB.out, HFF.out, HLD.out]
  have HNUM := Lib.hid hnum
  have HDIG := Lib.hid hdig
  have HRB := Lib.hid hrB
  have HRD := Lib.hid hrD
  have HO := Lib.hid ho
  have HG := Lib.hid hg
  have k0 := HRB.out.cell 0
  have k1 := HRB.out.cell 1
  have k2 := HRB.out.cell 2
  have k3 := HRB.out.cell 3
  have k4 := HRB.out.cell 4
  have t0 := HRB.out.frozen 0
  have t1 := HRB.out.frozen 1
  have t2 := HRB.out.frozen 2
  have t3 := HRB.out.frozen 3
  have t4 := HRB.out.frozen 4
  have m0 := HRD.out.cell 0
  have m1 := HRD.out.cell 1
  have m2 := HRD.out.cell 2
  have m3 := HRD.out.cell 3
  have m4 := HRD.out.cell 4
  unfold textZ at k0 k1 k2 k3 k4
  simp only [List.getElem?_cons_zero, List.getElem?_cons_succ] at k0 k1 k2 k3 k4 m0 m1 m2 m3 m4
  clear hnum hdig hrB hrD ho hg
  obtain ⟨y, hy⟩ : ∃ y, x - (q : Int) = y := ⟨_, rfl⟩
  rw [hy] at HNUM m4
  clear hy HX HRD HCO HCN HQ hqi hxb
  ((repeat (go_wp2_with fail; first | (refine cond_yes ?hc (by decide) ?_; (case hc => (simp [over_cons, over_nil, *]; done))) | (refine cond_no ?hc (by decide) ?_; (case hc => (simp [over_cons, over_nil, *]; done))))); go_wp2_with fail)
  obtain ⟨ty, hrow⟩ := ((((HRB.out.setCell 0 (.int .i64 0)).setCell 1 (.bool false)).setCell 2 (.int .i64 (b : Int))).setCell 3 (.slice (some ⟨g, 0, none⟩) L c)).setCell 4 (.int .i64 y)
  refine ret_cell_F (B := B) (.agg #[.int .i64 0, .bool false, .int .i64 (b : Int), .slice (some ⟨g, 0, none⟩) L c, .int .i64 y]) (.bool true) rfl (by decide) (by decide) (by simp [over_cons, over_nil, *]) (by simp [over_cons, over_nil, *]) ?_ ?_
  · exact run_loadVar_row (P := Tryd.prog) _ B ty 60 _ (0, 0) _ hrow Tryd.underlying60 rfl (by kernel_rfl)
  · have hne : ∀ k : Nat, (Value.slice (some ⟨g, 0, none⟩) L c).ownBlock ≠ some (⟨B, k, none⟩ : Addr).block := by intro k e; simp [Value.ownBlock] at e; exact hgB e
    have := numPost_some (w := w) HNUM.out (grown_setN (grown_setN (grown_setN (grown_setN (grown_setN HG.out (a := ⟨B, 0, none⟩) (.int .i64 0) (by show w.heap.size ≤ B; omega)) (a := ⟨B, 1, none⟩) (.bool false) (by show w.heap.size ≤ B; omega)) (a := ⟨B, 2, none⟩) (.int .i64 (b : Int)) (by show w.heap.size ≤ B; omega)) (a := ⟨B, 3, none⟩) (.slice (some ⟨g, 0, none⟩) L c) (by show w.heap.size ≤ B; omega)) (a := ⟨B, 4, none⟩) (.int .i64 y) (by show w.heap.size ≤ B; omega))
      (v := .slice (some ⟨g, 0, none⟩) L c) (by rw [HDIG.out]; exact ((((HO.out.other (hne 0) _).other (hne 1) _).other (hne 2) _).other (hne 3) _).other (hne 4) _)
    rw [EB.out] at this
    exact this
end Go.Proofs.YthkcfpmlgoomfaaDoor
