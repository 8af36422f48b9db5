/-
  Frames as functions: 'Fr n env s': a frame of n slots that holds env's values, and s's elsewhere. The walk's cost does not grow with the number of slots.
-/
import Derived.WalkKit
import Derived.WalkSpells
import Derived.Deep.Cut
import Derived.Deep.LoopGhost
namespace Go.Proofs.YtffooimnioigdaaDoor
open Go.RowKit
set_option linter.unusedSimpArgs false
set_option linter.unusedVariables false

def over : List (Nat × Value) → (Nat → Value) → Nat → Value
  | [], s, k => s k
  | (j, v) :: r, s, k => if k = j then v else over r s k

def lst (env : List (Nat × Value)) (s : Nat → Value) : Nat → Nat → List Value
  | 0, _ => []
  | m + 1, k => over env s k :: lst env s m (k + 1)

theorem lst_length (env : List (Nat × Value)) (s : Nat → Value) : ∀ m k, (lst env s m k).length = m
  | 0, _ => rfl
  | m + 1, k => by rw [lst, List.length_cons, lst_length env s m (k + 1)]

theorem lst_get (env : List (Nat × Value)) (s : Nat → Value) : ∀ m k i, i < m → (lst env s m k)[i]? = some (over env s (k + i))
  | 0, _, _, h => by omega
  | m + 1, k, 0, _ => rfl
  | m + 1, k, i + 1, h => by rw [lst, List.getElem?_cons_succ, lst_get env s m (k + 1) i (by omega)]; congr 2; omega

def Fr (n : Nat) (env : List (Nat × Value)) (s : Nat → Value) : Act := ⟨⟨lst env s n 0⟩, []⟩

theorem Fr_size (n : Nat) (env : List (Nat × Value)) (s : Nat → Value) : (Fr n env s).tmps.size = n := by
  show (lst env s n 0).length = n
  exact lst_length ..

theorem Fr_get? (n : Nat) (env : List (Nat × Value)) (s : Nat → Value) (k : Nat) (h : k < n) : (Fr n env s).tmps[k]? = some (over env s k) := by
  show (lst env s n 0).toArray[k]? = _
  rw [List.getElem?_toArray, lst_get _ _ _ _ _ h, Nat.zero_add]

theorem Fr_getD (n : Nat) (env : List (Nat × Value)) (s : Nat → Value) (k : Nat) (h : k < n) : (Fr n env s).tmps.getD k undef = over env s k := by
  rw [Array.getD_eq_getD_getElem?, Fr_get? n env s k h]
  rfl

theorem Fr_eval (n : Nat) (env : List (Nat × Value)) (s : Nat → Value) (k : Nat) (h : k < n) : (Fr n env s).eval (.tmp k) = over env s k := Fr_getD n env s k h

theorem over_cons (j : Nat) (v : Value) (r : List (Nat × Value)) (s : Nat → Value) (k : Nat) : over ((j, v) :: r) s k = if k = j then v else over r s k := rfl
theorem over_nil (s : Nat → Value) (k : Nat) : over [] s k = s k := rfl

theorem Fr_put (n : Nat) (env : List (Nat × Value)) (s : Nat → Value) (d : Nat) (v : Value) : (Fr n env s).put (some d) v = Fr n ((d, v) :: env) s := by
  show (⟨(lst env s n 0).toArray.setIfInBounds d v, []⟩ : Act) = ⟨(lst ((d, v) :: env) s n 0).toArray, []⟩
  congr 1
  apply Array.ext_getElem?
  intro i
  rw [Array.getElem?_setIfInBounds]
  simp only [List.size_toArray, lst_length, List.getElem?_toArray]
  rcases Nat.lt_or_ge i n with hi | hi
  · rw [lst_get _ _ _ _ _ hi, lst_get _ _ _ _ _ hi, Nat.zero_add, over_cons]
    by_cases h : d = i
    · subst h; simp [hi]
    · rw [if_neg h, if_neg (fun e => h e.symm)]
  · rw [List.getElem?_eq_none (by rw [lst_length]; exact hi), List.getElem?_eq_none (by rw [lst_length]; exact hi)]
    by_cases h : d = i
    · subst h; rw [if_pos rfl, if_neg (by omega)]
    · rw [if_neg h]

theorem Fr_put_none (n : Nat) (env : List (Nat × Value)) (s : Nat → Value) (v : Value) : (Fr n env s).put none v = Fr n env s := rfl

theorem lst_base (env : List (Nat × Value)) (s : Nat → Value) : ∀ m k, lst env s m k = lst [] (over env s) m k
  | 0, _ => rfl
  | m + 1, k => by rw [lst, lst, lst_base env s m (k + 1), over_nil]

theorem Fr_base (n : Nat) (env : List (Nat × Value)) (s : Nat → Value) : Fr n env s = Fr n [] (over env s) := by
  show (⟨⟨lst env s n 0⟩, []⟩ : Act) = ⟨⟨lst [] (over env s) n 0⟩, []⟩
  rw [lst_base]

theorem Fr_set (n : Nat) (env : List (Nat × Value)) (s : Nat → Value) (d : Nat) (v : Value) : (Fr n env s).tmps.setIfInBounds d v = (Fr n ((d, v) :: env) s).tmps := congrArg Act.tmps (Fr_put n env s d v)
theorem Fr_defers (n : Nat) (env : List (Nat × Value)) (s : Nat → Value) : (Fr n env s).defers = [] := rfl
theorem Fr_mk (n : Nat) (env : List (Nat × Value)) (s : Nat → Value) : Act.mk (Fr n env s).tmps [] = Fr n env s := rfl
attribute [go_sem ↓] Fr_set Fr_defers Fr_mk Fr_size Fr_get?
attribute [go_sem ↓] Fr_eval Fr_getD Fr_put Fr_put_none
attribute [go_sem] over_cons over_nil

/-- A call, from its frame as a function on. -/
theorem calls_F {P : Program} {f : FuncId} {fn : Func} {c : Code} {args : Array Value} {w : World} {R : Ending → World → Prop} (hf : P.funcs[f]? = some fn) (hb : fn.body = some c) (hn : args.size ≤ fn.ntmps)
    (h : ∀ s : Nat → Value, (∀ k, k < args.size → s k = args.getD k undef) → c.wp P (bodyPost P fn R) (Fr fn.ntmps [] s) w) : Calls P f args w R := by
  refine calls_of_wp hf hb ?_
  have e : (⟨args ++ Array.replicate (fn.ntmps - args.size) undef, []⟩ : Act) = Fr fn.ntmps [] (fun k => args.getD k undef) := by
    show _ = (⟨(Fr fn.ntmps [] (fun k => args.getD k undef)).tmps, []⟩ : Act)
    congr 1
    apply Array.ext_getElem?
    intro i
    rcases Nat.lt_or_ge i fn.ntmps with hi | hi
    · rw [Fr_get? _ _ _ _ hi, over_nil, Array.getElem?_append]
      by_cases h : i < args.size
      · rw [if_pos h]; simp [Array.getD, h]
      · rw [if_neg h, Array.getElem?_replicate, if_pos (by omega)]; simp [Array.getD, h]
    · rw [Array.getElem?_eq_none (by simp; omega), Array.getElem?_eq_none (by rw [Fr_size]; exact hi)]
  rw [e]
  exact h _ (fun _ _ => rfl)

/-- A relation of the frame and the world, which the walk does not open. -/
structure Got (R : (Nat → Value) → World → Prop) (env : List (Nat × Value)) (s : Nat → Value) (w : World) : Prop where
  out : R (over env s) w
/-- The relation of a loop at a smaller number. -/
structure Gotk (R : Nat → (Nat → Value) → World → Prop) (k : Nat) (env : List (Nat × Value)) (s : Nat → Value) (w : World) : Prop where
  out : ∃ k', k' < k ∧ R k' (over env s) w

theorem got {R R' : (Nat → Value) → World → Prop} (H : Hid (∀ s w, R s w → R' s w)) {env : List (Nat × Value)} {s : Nat → Value} {w : World} (h : R (over env s) w) : Got R' env s w := ⟨H.out _ _ h⟩
theorem gotk {R R' : Nat → (Nat → Value) → World → Prop} (H : Hid (∀ k s w, R k s w → R' k s w)) {k : Nat} {env : List (Nat × Value)} {s : Nat → Value} {w : World} (k' : Nat) (hk : k' < k) (h : R k' (over env s) w) : Gotk R' k env s w := ⟨k', hk, H.out _ _ _ h⟩

section
variable {P : Program} {n : Nat} {env : List (Nat × Value)} {s : Nat → Value} {w : World} {Q : Exit → Act → World → Prop}

theorem cond_F {t : Nat} {c1 c2 : Code} (b : Bool) (hb : over env s t = .bool b) (ht : t < n)
    (h1 : b = true → c1.wp P Q (Fr n env s) w) (h2 : b = false → c2.wp P Q (Fr n env s) w) : (Code.cond (.tmp t) c1 c2).wp P Q (Fr n env s) w := by
  have e : (Fr n env s).eval (.tmp t) = .bool b := (Fr_eval n env s t ht).trans hb
  cases b
  · exact wp_cond_split e (fun h => by cases h) (fun _ => h2 rfl)
  · exact wp_cond_split e (fun _ => h1 rfl) (fun h => by cases h)

theorem cond_yes {t : Nat} {c1 c2 : Code} (hb : over env s t = .bool true) (ht : t < n) (h1 : c1.wp P Q (Fr n env s) w) : (Code.cond (.tmp t) c1 c2).wp P Q (Fr n env s) w :=
  cond_F true hb ht (fun _ => h1) (fun h => by cases h)

theorem cond_no {t : Nat} {c1 c2 : Code} (hb : over env s t = .bool false) (ht : t < n) (h2 : c2.wp P Q (Fr n env s) w) : (Code.cond (.tmp t) c1 c2).wp P Q (Fr n env s) w :=
  cond_F false hb ht (fun h => by cases h) (fun _ => h2)

/-- Ways that meet again. -/
theorem cut_F {c : Code} {K : Act → World → Prop} (R : (Nat → Value) → World → Prop)
    (first : ∀ (R' : (Nat → Value) → World → Prop) (K' : Act → World → Prop), Hid (∀ s w, R s w → R' s w) → (∀ env' s' w', Got R' env' s' w' → K' (Fr n env' s') w') → c.wp P (Exit.then K' Q) (Fr n env s) w)
    (rest : ∀ s' w', R s' w' → K (Fr n [] s') w') : c.wp P (Exit.then K Q) (Fr n env s) w :=
  first R K (fun _ _ h => h) (fun env' s' w' h => by rw [Fr_base]; exact rest _ _ h.out)

/-- A loop: a relation that bears a number, which every round lowers. -/
theorem loop_F {c : Code} (R : Nat → (Nat → Value) → World → Prop) (k0 : Nat) (h0 : R k0 (over env s) w)
    (round : ∀ k s' w', R k s' w' → ∀ (R' : Nat → (Nat → Value) → World → Prop) (K' : Act → World → Prop), Hid (∀ k s w, R k s w → R' k s w) → (∀ env' s'' w'', Gotk R' k env' s'' w'' → K' (Fr n env' s'') w'') → c.wp P (Exit.then K' Q) (Fr n [] s') w') : (Code.loop c).wp P Q (Fr n env s) w := by
  refine wp_loop_ghost (fun k a w => ∃ s', a = Fr n [] s' ∧ R k s' w) k0 ⟨over env s, Fr_base .., h0⟩ ?_
  rintro k a w ⟨s', rfl, hR⟩
  refine round k s' w hR R _ (fun _ _ _ h => h) ?_
  rintro env' s'' w'' ⟨k', hk, hR'⟩
  exact ⟨k', hk, over env' s'', Fr_base .., hR'⟩

theorem ret_F {fn : Func} {R : Ending → World → Prop} {t : Nat} (v : Value) (hr : fn.results = #[.tmp t]) (ht : t < n) (hv : over env s t = v) (hR : R (.returned v) w) : bodyPost P fn R .ret (Fr n env s) w := by
  refine bodyPost_ret (v := v) ?_ rfl hR
  rw [results_tmp hr, Fr_getD n env s t ht, hv]

theorem ret_F2 {fn : Func} {R : Ending → World → Prop} {t u : Nat} (v x : Value) (hr : fn.results = #[.tmp t, .tmp u]) (ht : t < n) (hu : u < n) (hv : over env s t = v) (hx : over env s u = x) (hR : R (.returned (.tuple #[v, x])) w) : bodyPost P fn R .ret (Fr n env s) w := by
  refine bodyPost_ret (v := .tuple #[v, x]) ?_ rfl hR
  rw [results_tmp2 hr, Fr_getD n env s t ht, Fr_getD n env s u hu, hv, hx]

theorem end_F {fn : Func} {R : Ending → World → Prop} (hr : fn.results = #[]) (hR : R (.returned (.tuple #[])) w) : bodyPost P fn R .normal (Fr n env s) w :=
  bodyPost_end (results_none hr _ _ _) rfl hR
theorem end_F_ret {fn : Func} {R : Ending → World → Prop} (hr : fn.results = #[]) (hR : R (.returned (.tuple #[])) w) : bodyPost P fn R .ret (Fr n env s) w :=
  bodyPost_ret (results_none hr _ _ _) rfl hR

end
attribute [irreducible] Fr over
end Go.Proofs.YtffooimnioigdaaDoor
