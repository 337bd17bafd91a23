/-
  NewLog (36), (*Log).Inputs (38).
-/
import Derived.Test.Qxb6616313aBuildWalk
namespace Go.Proofs.Qxb6616313a
open Go.RowKit
set_option linter.unusedVariables false
set_option linter.unusedSimpArgs false

theorem info158 : (Try.prog.info? 158).map (fun i => (i.zero, i.size, i.bytes)) = some (some (.pointer none), 1, 8) := by kernel_rfl
theorem info75 : (Try.prog.info? 75).map (fun i => (i.zero, i.size, i.bytes)) = some (some (.agg #[.string ⟨#[]⟩, .slice none 0 0, .int .i64 0]), 3, 48) := by kernel_rfl

set_option maxHeartbeats 400000 in
theorem newLog (a : Option Addr) (n : Nat) (w : World) (hl : n ≤ 16384) :
    Calls Try.prog 36 #[.slice a n n] w fun e w' => e = .returned (.pointer (some ⟨w.heap.size + 1, 0, none⟩)) ∧ w'.cell? ⟨w.heap.size + 1, 0, none⟩ = some (.slice a n n) ∧ Below w.heap.size w w' ∧ w.heap.size + 1 < w'.heap.size := by
  have hmk := run_make_row' (P := Try.prog) 82 158 (.pointer none) 8 Try.underlying82 info158 rfl .i64 .i64 n (by omega) (by omega)
  go_enter Try.func36, Try.ntmps36
  go_wp2
  go_ret
  exact ⟨rfl, by go_simp, ((Below.refl _ _).alloc (Nat.le_refl _) _).alloc (by simp) _, by simp⟩

/-- The three cells of an input. -/
def ic (x : Pt) (j : Nat) : Value := if j = 0 then .string x.inm else if j = 1 then x.dv else .int .i64 x.o

/-- What a row of inputs holds behind k rounds. -/
def ib (xs : List Pt) (D : Nat → Value) (k : Nat) : Nat → Value := fun c => if c / 3 < k then ic { xs.getD (c / 3) Pt.none with dv := D (c / 3) } (c % 3) else ic Pt.none (c % 3)

def storeInput (w : World) (g k : Nat) (x : Pt) (v : Value) : World :=
  ((w.setCell ⟨g, k * 3, none⟩ (.string x.inm)).setCell ⟨g, k * 3 + 1, none⟩ v).setCell ⟨g, k * 3 + 2, none⟩ (.int .i64 x.o)

theorem ib_step {w : World} {g n k : Nat} {xs : List Pt} {D : Nat → Value} {X : Pt} (hX : xs.getD k Pt.none = X) (h : w.rowIs g 75 n (ib xs D k)) :
    (storeInput w g k X (D k)).rowIs g 75 n (ib xs D (k + 1)) := by
  subst hX
  refine (((h.set _ _).set _ _).set _ _).congr fun c _ => ?_
  by_cases hq : c / 3 = k
  · obtain ⟨j, hj, hc⟩ : ∃ j, j < 3 ∧ c = k * 3 + j := ⟨c % 3, by omega, by omega⟩
    subst hc
    have h1 : (k * 3 + j) / 3 = k := by omega
    have h2 : (k * 3 + j) % 3 = j := by omega
    have hk : k < k + 1 := by omega
    simp only [ib, h1, h2, hk, if_true]
    have hjj : j = 0 ∨ j = 1 ∨ j = 2 := by omega
    rcases hjj with rfl | rfl | rfl <;> simp [ic]
  · have e0 : c ≠ k * 3 := by omega
    have e1 : ∀ j, j < 3 → c ≠ k * 3 + j := fun j hj => by omega
    simp only [e0, e1 1 (by omega), e1 2 (by omega), if_false]
    unfold ib
    by_cases hk : c / 3 < k
    · have hk' : c / 3 < k + 1 := by omega
      simp only [hk, hk', if_true]
    · have hk' : ¬ c / 3 < k + 1 := by omega
      simp only [hk, hk', if_false]

theorem ib_zero (w : World) (n : Nat) (xs : List Pt) (D : Nat → Value) : (w.alloc (.cells (madeCells #[.string ⟨#[]⟩, .slice none 0 0, .int .i64 0] (n * 3)) 75)).rowIs w.heap.size 75 (n * 3) (ib xs D 0) := by
  refine rowIs_madeN w _ _ _ _ (by decide) fun i _ => ?_
  have h : i % 3 = 0 ∨ i % 3 = 1 ∨ i % 3 = 2 := by omega
  rcases h with h | h | h <;> simp [ib, ic, Pt.none, h]

theorem storeInput_below {B : Nat} {w w' : World} (h : Below B w w') {g : Nat} (hg : B ≤ g) (k : Nat) (x : Pt) (v : Value) : Below B w (storeInput w' g k x v) :=
  by unfold storeInput; exact ((h.setCell hg _).setCell hg _).setCell hg _

theorem ib_cell {w : World} {g n k : Nat} {xs : List Pt} {D : Nat → Value} (h : w.rowIs g 75 (n * 3) (ib xs D k)) (i j : Nat) (hi : i < n) (hj : j < 3) :
    w.cell? ⟨g, i * 3 + j, none⟩ = some (if i < k then ic { xs.getD i Pt.none with dv := D i } j else ic Pt.none j) := by
  have h3 := h.cell (i := i * 3 + j) (by omega)
  have h1 : (i * 3 + j) / 3 = i := by omega
  have h2 : (i * 3 + j) % 3 = j := by omega
  simpa [ib, h1, h2] using h3

theorem Built.below {w w' : World} {g : Nat} {xs : List Pt} {D : Nat → Value} (h : Built w g xs D) (hb : Below w.heap.size w w') : Built w' g xs D :=
  ⟨row_below h.row hb, h.sl, fun i hi => (h.d i hi).below hb⟩

/-- The eleven cells of part i. -/
structure PartCells (w : World) (g i : Nat) (x : Pt) (v : Value) : Prop where
  z0 : w.cell? ⟨g, i * 11, none⟩ = some (.string x.nm)
  z1 : w.cell? ⟨g, i * 11 + 1, none⟩ = some (.string x.inm)
  z2 : w.cell? ⟨g, i * 11 + 2, none⟩ = some v
  z3 : w.cell? ⟨g, i * 11 + 3, none⟩ = some (.int .i64 x.o)
  z4 : w.cell? ⟨g, i * 11 + 4, none⟩ = some (.pointer none)
  z5 : w.cell? ⟨g, i * 11 + 5, none⟩ = some (.bool false)
  z6 : w.cell? ⟨g, i * 11 + 6, none⟩ = some (.int .i64 0)
  z7 : w.cell? ⟨g, i * 11 + 7, none⟩ = some (.string ⟨#[]⟩)
  z8 : w.cell? ⟨g, i * 11 + 8, none⟩ = some (.slice none 0 0)
  z9 : w.cell? ⟨g, i * 11 + 9, none⟩ = some (.int .i64 0)
  z10 : w.cell? ⟨g, i * 11 + 10, none⟩ = some (.pointer none)

theorem Built.cells {w : World} {g : Nat} {xs : List Pt} {D : Nat → Value} (h : Built w g xs D) (i : Nat) (hi : i < xs.length) : PartCells w g i (xs.getD i Pt.none) (D i) := by
  have hc := fun j hj => bp_cell h.row i j hi hj
  constructor
  · simpa [pc, hi] using hc 0 (by omega)
  · simpa [pc, hi] using hc 1 (by omega)
  · simpa [pc, hi] using hc 2 (by omega)
  · simpa [pc, hi] using hc 3 (by omega)
  · simpa [pc, hi] using hc 4 (by omega)
  · simpa [pc, hi] using hc 5 (by omega)
  · simpa [pc, hi] using hc 6 (by omega)
  · simpa [pc, hi] using hc 7 (by omega)
  · simpa [pc, hi] using hc 8 (by omega)
  · simpa [pc, hi] using hc 9 (by omega)
  · simpa [pc, hi] using hc 10 (by omega)

set_option maxRecDepth 100000 in
set_option maxHeartbeats 2000000 in
theorem inputs_full (p g : Nat) (xs : List Pt) (D : Nat → Value) (w : World) (hl : xs.length ≤ 16384) (hpl : p < w.heap.size) (hp : w.cell? ⟨p, 0, none⟩ = some (.slice (some ⟨g, 0, none⟩) xs.length xs.length)) (hB : Built w g xs D) :
    Calls Try.prog 38 #[.pointer (some ⟨p, 0, none⟩)] w fun e w' => e = .returned (.slice (some ⟨w.heap.size, 0, none⟩) xs.length xs.length) ∧ w'.rowIs w.heap.size 75 (xs.length * 3) (ib xs D xs.length) ∧ Below w.heap.size w w' := by
  have hmk := make_rows (P := Try.prog) 72 75 _ _ 3 48 Try.underlying72 info75 rfl xs.length (by omega) (by omega)
  go_enter Try.func38, Try.ntmps38
  go_wp2
  go_loopw [17] (fun i wr => ∃ (k : Nat), k ≤ xs.length ∧ i = .int .i64 k ∧ wr.rowIs w.heap.size 75 (xs.length * 3) (ib xs D k) ∧ Below w.heap.size w wr) (fun i _ => xs.length - (intOf i).toNat)
  case atStart => exact ⟨0, Nat.zero_le _, rfl, ib_zero _ _ _ _, (Below.refl _ _).alloc (Nat.le_refl _) _⟩
  case round =>
    obtain ⟨k, hk, rfl, hrow, hbel⟩ := hrel
    by_cases hkl : k < xs.length
    · obtain ⟨z0, z1, z2, z3, z4, z5, z6, z7, z8, z9, z10⟩ := (hB.below hbel).cells k hkl
      obtain ⟨a, n, c, hDk⟩ := hB.sl k hkl
      have hgl := hrow.lt
      have q0 : wr.cell? ⟨w.heap.size, k * 3, none⟩ = some (.string ⟨#[]⟩) := by simpa [ic, Pt.none] using ib_cell hrow k 0 hkl (by omega)
      have q1 : wr.cell? ⟨w.heap.size, k * 3 + 1, none⟩ = some (.slice none 0 0) := by simpa [ic, Pt.none] using ib_cell hrow k 1 hkl (by omega)
      have q2 : wr.cell? ⟨w.heap.size, k * 3 + 2, none⟩ = some (.int .i64 0) := by simpa [ic, Pt.none] using ib_cell hrow k 2 hkl (by omega)
      have qf := hrow.frozen
      have HR : Hid (∀ X, xs.getD k Pt.none = X → ∀ o, ((storeInput wr w.heap.size k X (D k)).alloc o).rowIs w.heap.size 75 (xs.length * 3) (ib xs D (k + 1)) ∧ Below w.heap.size w ((storeInput wr w.heap.size k X (D k)).alloc o)) := fun X hX o => ⟨(ib_step hX hrow).alloc o, (storeInput_below hbel (Nat.le_refl _) _ _ _).alloc (storeInput_below hbel (Nat.le_refl _) _ _ _).size o⟩
      clear hrow hbel hmk hB hp
      rw [hDk] at z2
      generalize hX : xs.getD k Pt.none = X at *
      have R := HR.out X rfl
      rw [hDk] at R
      have HR2 := R
      clear HR R hX hDk
      go_wp2
      go_roundw
      case rel => exact ⟨k + 1, by omega, by go_num, (HR2 _).1, (HR2 _).2⟩
      case measure => simp [intOf]; omega
    · clear hmk
      go_wp2
      go_ret
      have e : k = xs.length := by omega
      subst e
      exact ⟨rfl, hrow, hbel⟩

set_option maxHeartbeats 400000 in
theorem inputs_zero (p g : Nat) (w : World) (hp : w.cell? ⟨p, 0, none⟩ = some (.slice (some ⟨g, 0, none⟩) 0 0)) :
    Calls Try.prog 38 #[.pointer (some ⟨p, 0, none⟩)] w fun e w' => e = .returned (.slice (some ⟨w.heap.size, 0, none⟩) 0 0) ∧ w' = w.alloc (.cells #[] 75) := by
  have hmk : ∀ w : World, (Instr.makeSlice 72 (.int .i64 0) (.int .i64 0)).run Try.prog w = .ok (.slice (some ⟨w.heap.size, 0, none⟩) 0 0) (w.alloc (.cells #[] 75)) := fun _ => by kernel_rfl
  have hp' : ∀ o, (w.alloc o).cell? ⟨p, 0, none⟩ = some (.slice (some ⟨g, 0, none⟩) 0 0) := fun o => (World.cell?_alloc_lt _ _ _ (World.block_lt_of_cell? w _ hp)).trans hp
  go_enter Try.func38, Try.ntmps38
  go_wp2
  refine wp_loop_rounds 1 ?_
  rw [rounds_succ]
  go_wp2
  go_ret
  exact ⟨rfl, rfl⟩

end Go.Proofs.Qxb6616313a
