/-
  Plain: sums of votes over sites; what the maps read as.
-/
import Derived.Maps.Own
import Derived.Maps.OwnSet
import Derived.Maps.Views
import Derived.RowKit
namespace Go.Proofs.Qxb6616362a
open Go.RowKit Go.Maps
set_option linter.unusedVariables false
set_option linter.unusedSimpArgs false

/-- The votes of those sites that p picks. -/
def sumP (p : Int → Bool) : List Int → List Int → Int
  | z :: zs, v :: vs => (if p z then v else 0) + sumP p zs vs
  | _, _ => 0

theorem sumP_nil (p : Int → Bool) (vs : List Int) : sumP p [] vs = 0 := by cases vs <;> rfl

theorem sumP_congr {p q : Int → Bool} : ∀ (zs vs : List Int), (∀ y ∈ zs, p y = q y) → sumP p zs vs = sumP q zs vs
  | [], vs, _ => by rw [sumP_nil, sumP_nil]
  | z :: zs, [], _ => rfl
  | z :: zs, v :: vs, h => by
    simp only [sumP]
    rw [h z (by simp), sumP_congr zs vs (fun y hy => h y (by simp [hy]))]

theorem sumP_zero {p : Int → Bool} : ∀ (zs vs : List Int), (∀ y ∈ zs, p y = false) → sumP p zs vs = 0
  | [], vs, _ => sumP_nil _ _
  | z :: zs, [], _ => rfl
  | z :: zs, v :: vs, h => by
    simp only [sumP]
    rw [h z (by simp), sumP_zero zs vs (fun y hy => h y (by simp [hy]))]
    simp

theorem sumP_or {p : Int → Bool} {x : Int} (hx : p x = false) : ∀ (zs vs : List Int), sumP (fun y => p y || y == x) zs vs = sumP p zs vs + sumP (fun y => y == x) zs vs
  | [], vs => by simp [sumP_nil]
  | z :: zs, [] => rfl
  | z :: zs, v :: vs => by
    simp only [sumP]
    rw [sumP_or hx zs vs]
    by_cases e : z = x
    · subst e
      simp [hx]; omega
    · by_cases hp : p z = true
      · simp [e, hp]; omega
      · simp [e, hp]

theorem sumP_split (p : Int → Bool) : ∀ (zs vs : List Int), sumP p zs vs + sumP (fun y => !p y) zs vs = sumP (fun _ => true) zs vs
  | [], vs => by simp [sumP_nil]
  | z :: zs, [] => rfl
  | z :: zs, v :: vs => by
    simp only [sumP]
    rw [← sumP_split p zs vs]
    by_cases hp : p z = true
    · simp [hp]; omega
    · simp [hp]; omega

theorem sumP_snoc (p : Int → Bool) (z v : Int) : ∀ (zs vs : List Int), zs.length = vs.length → sumP p (zs ++ [z]) (vs ++ [v]) = sumP p zs vs + (if p z then v else 0)
  | [], [], _ => by simp [sumP]
  | z' :: zs, v' :: vs, h => by
    simp only [List.cons_append, sumP]
    rw [sumP_snoc p z v zs vs (by simpa using h)]
    omega

theorem sumP_not_mem {x : Int} (zs vs : List Int) (h : x ∉ zs) : sumP (fun y => y == x) zs vs = 0 :=
  sumP_zero zs vs fun y hy => by
    by_cases e : y = x
    · subst e; exact absurd hy h
    · simp [e]

/-- Strictly ascending. -/
def Asc (zs : List Int) : Prop := ∀ i j, i < j → j < zs.length → zs.getD i 0 < zs.getD j 0

theorem take_snoc (l : List Int) (k : Nat) (h : k < l.length) : l.take (k + 1) = l.take k ++ [l.getD k 0] := by
  rw [List.take_succ_eq_append_getElem h]
  simp [List.getD, h]

theorem mem_take {l : List Int} {k : Nat} {x : Int} (h : x ∈ l.take k) : ∃ i, i < k ∧ i < l.length ∧ l.getD i 0 = x := by
  obtain ⟨i, hi, rfl⟩ := List.getElem_of_mem h
  simp at hi
  exact ⟨i, by omega, by omega, by simp [List.getD, (by omega : i < l.length)]⟩

theorem getD_mem {l : List Int} {i : Nat} (h : i < l.length) : l.getD i 0 ∈ l := by
  simp only [List.getD, List.getElem?_eq_getElem h, Option.getD_some]
  exact List.getElem_mem h

theorem asc_new {zs : List Int} (h : Asc zs) (k : Nat) (hk : k < zs.length) : zs.getD k 0 ∉ zs.take k := fun hm => by
  obtain ⟨i, hi, _, e⟩ := mem_take hm
  have := h i k hi hk
  omega

theorem sumP_take_at {x : Int} {zs vs : List Int} (ha : Asc zs) (hl : zs.length = vs.length) (j : Nat) (hj : j < zs.length) (hx : zs.getD j 0 = x) :
    ∀ k, j < k → k ≤ zs.length → sumP (fun y => y == x) (zs.take k) (vs.take k) = vs.getD j 0
  | 0, h, _ => by omega
  | k + 1, h, hk => by
    rw [take_snoc zs k (by omega), take_snoc vs k (by omega), sumP_snoc _ _ _ _ _ (by simp; omega)]
    by_cases e : j = k
    · subst e
      rw [sumP_not_mem _ _ (by rw [← hx]; exact asc_new ha j hj)]
      simp only [hx]
      simp
    · rw [sumP_take_at ha hl j hj hx k (by omega) (by omega)]
      have hne : zs.getD k 0 ≠ x := by
        have := ha j k (by omega) (by omega)
        omega
      simp only [beq_iff_eq, hne, if_false]
      omega

theorem sumP_at {x : Int} {zs vs : List Int} (ha : Asc zs) (hl : zs.length = vs.length) (j : Nat) (hj : j < zs.length) (hx : zs.getD j 0 = x) : sumP (fun y => y == x) zs vs = vs.getD j 0 := by
  have := sumP_take_at ha hl j hj hx zs.length hj (Nat.le_refl _)
  rwa [List.take_length, hl, List.take_length] at this

/-- The sum of the first k votes. -/
def tot (vs : List Int) (k : Nat) : Int := (vs.take k).sum
theorem tot_succ (vs : List Int) (k : Nat) (h : k < vs.length) : tot vs (k + 1) = tot vs k + vs.getD k 0 := by
  unfold tot
  rw [take_snoc vs k h]
  simp
theorem sumP_true : ∀ (zs vs : List Int), zs.length = vs.length → sumP (fun _ => true) zs vs = vs.sum
  | [], [], _ => rfl
  | z :: zs, v :: vs, h => by
    simp only [sumP, List.sum_cons]
    rw [sumP_true zs vs (by simpa using h)]
    simp

theorem wrap_add (a b : Int) : wrap64 (wrap64 a + b) = wrap64 (a + b) := by unfold wrap64; omega
theorem wrap_add' (a b : Int) : wrap64 (wrap64 a + wrap64 b) = wrap64 (a + b) := by unfold wrap64; omega
theorem wrap_sub (a b : Int) : wrap64 (wrap64 a - wrap64 b) = wrap64 (a - b) := by unfold wrap64; omega
theorem wf_bounds {v : Int} (h : (Lit.int .i64 v).wf = true) : -9223372036854775808 ≤ v ∧ v ≤ 9223372036854775807 := by
  simp [Lit.wf, IntKind.min, IntKind.max, IntKind.signed, IntKind.bits] at h
  omega
theorem wrap_wf {v : Int} (h : (Lit.int .i64 v).wf = true) : wrap64 v = v := by
  have := wf_bounds h
  unfold wrap64
  omega

/-! ### The maps -/
section
variable {H : Type}

/-- The map of the copies: the sites zs with the votes vs. -/
structure MapIs (D : DataW H) (zs vs : List Int) : Prop where
  isMap : IsMap D
  has : ∀ y ∈ zs, Maps.has D (.int .i64 y) = true
  here : ∀ x c, (∀ zd, D.atKey (.int .i64 x) zd = .lit (.int .i64 c)) → sumP (fun y => y == x) zs vs = c

theorem mapIs_start : MapIs (.map [] : DataW H) [] [] :=
  ⟨isMap_empty, fun y hy => by simp at hy, fun x c h => by
    have := h (.lit (.int .i64 (c + 1)))
    have e : (DataW.map [] : DataW H).atKey (.int .i64 x) (.lit (.int .i64 (c + 1))) = .lit (.int .i64 (c + 1)) := atKey_of_not_has rfl _
    rw [e] at this
    simp at this
    omega⟩

theorem keyLit (x : Int) : WideAt.IsKeyLit (Lit.int .i64 x) := trivial
theorem lit_ne {x y : Int} (h : x ≠ y) : (Lit.int .i64 x) ≠ .int .i64 y := fun e => h (by cases e; rfl)

theorem mapIs_step {D : DataW H} {zs vs : List Int} (h : MapIs D zs vs) (hl : zs.length = vs.length) (z v : Int) (hz : z ∉ zs) : MapIs (D.put (.int .i64 z) (.lit (.int .i64 v))) (zs ++ [z]) (vs ++ [v]) := by
  refine ⟨h.isMap.put _ _, fun y hy => ?_, fun x c hx => ?_⟩
  · by_cases e : y = z
    · subst e
      exact has_put_same h.isMap (keyLit y) _
    · rw [has_put_other (lit_ne e)]
      exact h.has y (by simpa [e] using hy)
  · rw [sumP_snoc _ _ _ _ _ hl]
    by_cases e : x = z
    · subst e
      rw [sumP_not_mem zs vs hz]
      have := hx (.lit (.int .i64 0))
      rw [atKey_put_same h.isMap (keyLit x)] at this
      simp at this
      simp [this]
    · have hne : ¬ z = x := fun e' => e e'.symm
      simp only [beq_iff_eq, hne, if_false]
      rw [h.here x c (fun zd => by rw [← hx zd, atKey_put_other (lit_ne e)])]
      omega

/-- A set of sites: just those on the list. -/
structure SetIs (D : DataW H) (xs : List Int) : Prop where
  isMap : IsMap D
  here : ∀ x, D.atKey (.int .i64 x) (.lit (.bool false)) = .lit (.bool (decide (x ∈ xs)))

theorem setIs_start : SetIs (.map [] : DataW H) [] := ⟨isMap_empty, fun x => by
  have e : (DataW.map [] : DataW H).atKey (.int .i64 x) (.lit (.bool false)) = .lit (.bool false) := atKey_of_not_has rfl _
  rw [e]
  simp⟩

theorem setIs_step {D : DataW H} {xs : List Int} (h : SetIs D xs) (z : Int) : SetIs (D.put (.int .i64 z) (.lit (.bool true))) (xs ++ [z]) := by
  refine ⟨h.isMap.put _ _, fun x => ?_⟩
  by_cases e : x = z
  · subst e
    rw [atKey_put_same h.isMap (keyLit x)]
    simp
  · rw [atKey_put_other (lit_ne e), h.here x]
    simp [e]
end

/-- In the range: what has come so far. -/
def doneP (left : Lit → Bool) (P : Int → Bool) : Int → Bool := fun y => !left (.int .i64 y) && P y

theorem doneP_start {H : Type} {D : DataW H} {zs vs : List Int} (h : MapIs D zs vs) (P : Int → Bool) : sumP (doneP (Maps.has D) P) zs vs = 0 :=
  sumP_zero zs vs fun y hy => by simp [doneP, h.has y hy]

theorem sameKey_int (y x : Int) : (Lit.int .i64 y).sameKey (.int .i64 x) = (y == x) := by
  by_cases e : y = x
  · subst e
    simp [Lit.sameKey]
  · simp [Lit.sameKey, e]

theorem doneP_step {H : Type} {D : DataW H} {zs vs : List Int} (h : MapIs D zs vs) {left : Lit → Bool} (P : Int → Bool) {x c : Int} (hl : left (.int .i64 x) = true) (hat : ∀ zd, D.atKey (.int .i64 x) zd = .lit (.int .i64 c)) :
    sumP (doneP (fun z => left z && !z.sameKey (.int .i64 x)) P) zs vs = sumP (doneP left P) zs vs + (if P x then c else 0) := by
  have hc := h.here x c hat
  cases hp : P x with
  | true =>
    have e : sumP (doneP (fun z => left z && !z.sameKey (.int .i64 x)) P) zs vs = sumP (fun y => doneP left P y || y == x) zs vs := sumP_congr zs vs fun y _ => by
      simp only [doneP, sameKey_int]
      by_cases e : y = x
      · subst e; simp [hp]
      · have e' : (y == x) = false := by simpa using e
        simp [e']
    rw [e, sumP_or (by simp [doneP, hl]) zs vs, hc]
    simp
  | false =>
    have e : sumP (doneP (fun z => left z && !z.sameKey (.int .i64 x)) P) zs vs = sumP (doneP left P) zs vs := sumP_congr zs vs fun y _ => by
      simp only [doneP, sameKey_int]
      by_cases e : y = x
      · subst e; simp [hp]
      · have e' : (y == x) = false := by simpa using e
        simp [e']
    rw [e]
    simp

theorem doneP_end {left : Lit → Bool} (P : Int → Bool) (hl : ∀ kl, left kl = false) (zs vs : List Int) : sumP (doneP left P) zs vs = sumP P zs vs :=
  sumP_congr zs vs fun y _ => by simp [doneP, hl]

end Go.Proofs.Qxb6616362a
