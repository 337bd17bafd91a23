/-
  zzBuildParts (35): the rows that it lays; its walk.
-/
import Derived.Test.Qxb6616313aClone
import Derived.Deep.RegionHeld3
namespace Go.Proofs.Qxb6616313a
open Go.RowKit
set_option linter.unusedVariables false
set_option linter.unusedSimpArgs false

/-- 'make([]T, n)' of whatever element. -/
theorem make_rows {P : Program} (t e : TypeId) (z : Value) (zc : Array Value) (size bytes : Nat) (ht : P.underlying t = some (.slice e)) (hinfo : (P.info? e).map (fun i => (i.zero, i.size, i.bytes)) = some (some z, size, bytes)) (hz : z.cells = zc)
    (n : Nat) (hb : bytes * n ≤ 281474976710656) (hn : n ≤ 9223372036854775807) (w : World) :
    (Instr.makeSlice t (.int .i64 (n : Int)) (.int .i64 (n : Int))).run P w = .ok (.slice (some ⟨w.heap.size, 0, none⟩) n n) (w.alloc (.cells (madeCells zc (n * size)) e)) := by
  obtain ⟨i, hi, hzz⟩ := Option.map_eq_some_iff.1 hinfo
  simp only [Prod.mk.injEq] at hzz
  obtain ⟨hz0, hs, hbb⟩ := hzz
  have hb' : (i.bytes : Int) * (n : Int) ≤ 281474976710656 := by
    rw [hbb]
    have h : ((bytes * n : Nat) : Int) ≤ 281474976710656 := by omega
    rwa [Int.natCast_mul] at h
  have hr := run_make (P := P) w t e i z ht hi hz0 .i64 .i64 n n (by omega) (Int.le_refl _) hb' (by omega)
  simp only [Int.toNat_natCast, hs, hz] at hr
  exact hr

theorem rowIs_madeN (w : World) (zc : Array Value) (m : Nat) (t : TypeId) (f : Nat → Value) (h0 : 0 < zc.size) (hf : ∀ i, i < m → zc[i % zc.size]? = some (f i)) : (w.alloc (.cells (madeCells zc m) t)).rowIs w.heap.size t m f := by
  refine ⟨_, Deep.blk_alloc_new _ _, size_madeCells _ _, fun i hi => ?_⟩
  have hlt : i % zc.size < zc.size := Nat.mod_lt _ h0
  have := hf i hi
  rw [Array.getElem?_eq_getElem hlt] at this
  simp [madeCells, hi, getElem!_pos, hlt]
  simpa using this

theorem info110 : (Try.prog.info? 110).map (fun i => (i.zero, i.size, i.bytes)) = some (some (.agg #[.string ⟨#[]⟩, .string ⟨#[]⟩, .slice none 0 0, .int .i64 0, .pointer none, .bool false, .int .i64 0, .string ⟨#[]⟩, .slice none 0 0, .int .i64 0, .pointer none]), 11, 144) := by kernel_rfl

/-- The eleven cells of a part. -/
def pc (x : Pt) (j : Nat) : Value :=
  if j = 0 then .string x.nm else if j = 1 then .string x.inm else if j = 2 then x.dv else if j = 3 then .int .i64 x.o else if j = 4 then .pointer none else if j = 5 then .bool false else if j = 6 then .int .i64 0
  else if j = 7 then .string ⟨#[]⟩ else if j = 8 then .slice none 0 0 else if j = 9 then .int .i64 0 else .pointer none

/-- What a row of parts holds behind k rounds. -/
def bp (xs : List Pt) (D : Nat → Value) (k : Nat) : Nat → Value := fun c => if c / 11 < k then pc { xs.getD (c / 11) Pt.none with dv := D (c / 11) } (c % 11) else pc Pt.none (c % 11)

def upd (D : Nat → Value) (k : Nat) (v : Value) : Nat → Value := fun i => if i = k then v else D i

/-- Part number k stored into the row at g. -/
def storePart (w : World) (g k : Nat) (x : Pt) (v : Value) : World :=
  (((((((((((w.setCell ⟨g, k * 11, none⟩ (.string x.nm)).setCell ⟨g, k * 11 + 1, none⟩ (.string x.inm)).setCell ⟨g, k * 11 + 2, none⟩ v).setCell ⟨g, k * 11 + 3, none⟩ (.int .i64 x.o)).setCell ⟨g, k * 11 + 4, none⟩ (.pointer none)).setCell ⟨g, k * 11 + 5, none⟩ (.bool false)).setCell ⟨g, k * 11 + 6, none⟩ (.int .i64 0)).setCell ⟨g, k * 11 + 7, none⟩ (.string ⟨#[]⟩)).setCell ⟨g, k * 11 + 8, none⟩ (.slice none 0 0)).setCell ⟨g, k * 11 + 9, none⟩ (.int .i64 0)).setCell ⟨g, k * 11 + 10, none⟩ (.pointer none))

theorem bp_step {w : World} {g n k : Nat} {xs : List Pt} {D : Nat → Value} (v : Value) (h : w.rowIs g 110 n (bp xs D k)) :
    (storePart w g k (xs.getD k Pt.none) v).rowIs g 110 n (bp xs (upd D k v) (k + 1)) := by
  refine (((((((((((h.set _ _).set _ _).set _ _).set _ _).set _ _).set _ _).set _ _).set _ _).set _ _).set _ _).set _ _).congr fun c _ => ?_
  by_cases hq : c / 11 = k
  · obtain ⟨j, hj, hc⟩ : ∃ j, j < 11 ∧ c = k * 11 + j := ⟨c % 11, by omega, by omega⟩
    subst hc
    have h1 : (k * 11 + j) / 11 = k := by omega
    have h2 : (k * 11 + j) % 11 = j := by omega
    have hk : k < k + 1 := by omega
    simp only [bp, upd, h1, h2, hk, if_true]
    have hjj : j = 0 ∨ j = 1 ∨ j = 2 ∨ j = 3 ∨ j = 4 ∨ j = 5 ∨ j = 6 ∨ j = 7 ∨ j = 8 ∨ j = 9 ∨ j = 10 := by omega
    rcases hjj with rfl | rfl | rfl | rfl | rfl | rfl | rfl | rfl | rfl | rfl | rfl <;> simp [pc]
  · have e0 : c ≠ k * 11 := by omega
    have e1 : ∀ j, j < 11 → c ≠ k * 11 + j := fun j hj => by omega
    simp only [e0, e1 1 (by omega), e1 2 (by omega), e1 3 (by omega), e1 4 (by omega), e1 5 (by omega), e1 6 (by omega), e1 7 (by omega), e1 8 (by omega), e1 9 (by omega), e1 10 (by omega), if_false]
    unfold bp upd
    by_cases hk : c / 11 < k
    · have hk' : c / 11 < k + 1 := by omega
      simp only [hk, hk', if_true, hq, if_false]
    · have hk' : ¬ c / 11 < k + 1 := by omega
      simp only [hk, hk', if_false]

theorem bp_zero (w : World) (n : Nat) (xs : List Pt) (D : Nat → Value) : (w.alloc (.cells (madeCells #[.string ⟨#[]⟩, .string ⟨#[]⟩, .slice none 0 0, .int .i64 0, .pointer none, .bool false, .int .i64 0, .string ⟨#[]⟩, .slice none 0 0, .int .i64 0, .pointer none] (n * 11)) 110)).rowIs w.heap.size 110 (n * 11) (bp xs D 0) := by
  refine rowIs_madeN w _ _ _ _ (by decide) fun i _ => ?_
  have h : i % 11 = 0 ∨ i % 11 = 1 ∨ i % 11 = 2 ∨ i % 11 = 3 ∨ i % 11 = 4 ∨ i % 11 = 5 ∨ i % 11 = 6 ∨ i % 11 = 7 ∨ i % 11 = 8 ∨ i % 11 = 9 ∨ i % 11 = 10 := by omega
  rcases h with h | h | h | h | h | h | h | h | h | h | h <;> simp [bp, pc, Pt.none, h]

theorem storePart_below {B : Nat} {w w' : World} (h : Below B w w') {g : Nat} (hg : B ≤ g) (k : Nat) (x : Pt) (v : Value) : Below B w (storePart w' g k x v) :=
  by unfold storePart; exact ((((((((((h.setCell hg _).setCell hg _).setCell hg _).setCell hg _).setCell hg _).setCell hg _).setCell hg _).setCell hg _).setCell hg _).setCell hg _).setCell hg _

/-- A cell of the row, part by part. -/
theorem bp_cell {w : World} {g n k : Nat} {xs : List Pt} {D : Nat → Value} (h : w.rowIs g 110 (n * 11) (bp xs D k)) (i j : Nat) (hi : i < n) (hj : j < 11) :
    w.cell? ⟨g, i * 11 + j, none⟩ = some (if i < k then pc { xs.getD i Pt.none with dv := D i } j else pc Pt.none j) := by
  have h3 := h.cell (i := i * 11 + j) (by omega)
  have h1 : (i * 11 + j) / 11 = i := by omega
  have h2 : (i * 11 + j) % 11 = j := by omega
  simpa [bp, h1, h2] using h3

end Go.Proofs.Qxb6616313a
