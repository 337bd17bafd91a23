/-
  The walk of zzBuildParts (35).
-/
import Derived.Test.Qxb6616313aBuild
namespace Go.Proofs.Qxb6616313a
open Go.RowKit
set_option linter.unusedVariables false
set_option linter.unusedSimpArgs false

/-- A row of parts that the call has built: number i has part i's data, its text's slice is D i. -/
structure Built (w : World) (g : Nat) (xs : List Pt) (D : Nat → Value) : Prop where
  row : w.rowIs g 110 (xs.length * 11) (bp xs D xs.length)
  sl : ∀ i, i < xs.length → ∃ a n c, D i = .slice a n c
  d : ∀ i, i < xs.length → BytesAt w (D i) (xs.getD i Pt.none).zs

theorem slice_upd {D : Nat → Value} {k : Nat} {a : Option Addr} {n c : Nat} (h : ∀ i, i < k → ∃ a n c, D i = .slice a n c) : ∀ i, i < k + 1 → ∃ a' n' c', upd D k (.slice a n c) i = .slice a' n' c' := fun i hi => by
  unfold upd
  by_cases e : i = k
  · simp [e]
  · simpa [e] using h i (by omega)

theorem bytes_upd {w w' : World} {xs : List Pt} {D : Nat → Value} {k : Nat} {v : Value} (h : ∀ i, i < k → BytesAt w' (D i) (xs.getD i Pt.none).zs) (hv : BytesAt w' v (xs.getD k Pt.none).zs) : ∀ i, i < k + 1 → BytesAt w' (upd D k v i) (xs.getD i Pt.none).zs := fun i hi => by
  unfold upd
  by_cases e : i = k
  · subst e; simpa using hv
  · simpa [e] using h i (by omega)

/-- Stores into the row at g do not touch what the texts' slices lead to, if those lie elsewhere. -/
def BytesOff (g : Nat) (w : World) (v : Value) (zs : List Int) : Prop :=
  (∀ j, 0 ≤ zs.getD j 0 ∧ zs.getD j 0 ≤ 255) ∧ zs.length ≤ maxLen ∧ ∃ a cap, v = .slice a zs.length cap ∧ (0 < zs.length → ∃ b off, a = some ⟨b, off, none⟩ ∧ b ≠ g ∧ b < w.heap.size ∧ ∀ j, j < zs.length → w.cell? ⟨b, off + j, none⟩ = some (.int .u8 (zs.getD j 0)))

theorem BytesOff.at {g : Nat} {w : World} {v : Value} {zs : List Int} (h : BytesOff g w v zs) : BytesAt w v zs := by
  obtain ⟨h1, h2, a, cap, hv, hc⟩ := h
  refine ⟨h1, h2, a, cap, hv, fun h0 => ?_⟩
  obtain ⟨b, off, ha, _, hlt, hcc⟩ := hc h0
  exact ⟨b, off, ha, hlt, hcc⟩

theorem BytesOff.below {g : Nat} {w w' : World} {v : Value} {zs : List Int} (h : BytesOff g w v zs) (hb : Below w.heap.size w w') : BytesOff g w' v zs := by
  obtain ⟨h1, h2, a, cap, hv, hc⟩ := h
  refine ⟨h1, h2, a, cap, hv, fun h0 => ?_⟩
  obtain ⟨b, off, ha, hne, hlt, hcc⟩ := hc h0
  exact ⟨b, off, ha, hne, Nat.lt_of_lt_of_le hlt hb.size, fun j hj => (hb.cell (p := ⟨b, off + j, none⟩) hlt).trans (hcc j hj)⟩

theorem BytesOff.drew {g : Nat} {w : World} {v : Value} {zs : List Int} (h : BytesOff g w v zs) : BytesOff g w.drew v zs := h

theorem BytesOff.setCell {g : Nat} {w : World} {v : Value} {zs : List Int} (h : BytesOff g w v zs) (o : Nat) (u : Value) : BytesOff g (w.setCell ⟨g, o, none⟩ u) v zs := by
  obtain ⟨h1, h2, a, cap, hv, hc⟩ := h
  refine ⟨h1, h2, a, cap, hv, fun h0 => ?_⟩
  obtain ⟨b, off, ha, hne, hlt, hcc⟩ := hc h0
  refine ⟨b, off, ha, hne, by rw [Deep.nblk_setCell]; exact hlt, fun j hj => ?_⟩
  rw [← hcc j hj]
  exact World.cell?_of_block (Deep.blk_setCell_other _ _ _ _ hne)

theorem BytesOff.stored {g : Nat} {w : World} {v : Value} {zs : List Int} (h : BytesOff g w v zs) (k : Nat) (x : Pt) (u : Value) : BytesOff g (storePart w g k x u) v zs := by
  unfold storePart
  exact ((((((((((h.setCell _ _).setCell _ _).setCell _ _).setCell _ _).setCell _ _).setCell _ _).setCell _ _).setCell _ _).setCell _ _).setCell _ _).setCell _ _

/-- zzCloneBytes: the copy lies in new memory. -/
theorem clone_off (v : Value) (zs : List Int) (w : World) (hb : BytesAt w v zs) (hl : zs.length ≤ 1048576) :
    Calls Try.prog 22 #[v] w fun e w' => ∃ a n cap, e = .returned (.slice a n cap) ∧ (∀ g, g < w.heap.size → BytesOff g w' (.slice a n cap) zs) ∧ Below w.heap.size w w' := by
  obtain ⟨h1, h2, a, cap, rfl, hc⟩ := hb
  by_cases h0 : 0 < zs.length
  · obtain ⟨b, off, rfl, hlt, hcc⟩ := hc h0
    refine (clone_full b off cap zs w h1 hl hlt hcc).mono fun e w' ⟨he, hr, hb⟩ => ?_
    refine ⟨_, _, _, he, fun g hg => ⟨h1, h2, _, _, rfl, fun _ => ⟨w.heap.size, 0, rfl, by omega, hr.lt, fun j hj => ?_⟩⟩, hb⟩
    have := hr.cell hj
    simp only [cl, hj, if_true] at this
    rw [Nat.zero_add]
    exact this
  · have e0 : zs.length = 0 := by omega
    have hz : zs = [] := List.eq_nil_of_length_eq_zero e0
    subst hz
    cases a with
    | none =>
      refine (clone_none cap w).mono fun e w' ⟨he, hw⟩ => ?_
      subst hw
      exact ⟨_, _, _, he, fun g _ => ⟨h1, h2, _, _, rfl, fun h => absurd h h0⟩, Below.refl _ _⟩
    | some x =>
      refine (clone_empty x cap w).mono fun e w' ⟨he, hb⟩ => ?_
      exact ⟨_, _, _, he, fun g _ => ⟨h1, h2, _, _, rfl, fun h => absurd h h0⟩, hb⟩

/-- The eleven cells into which part k will go. -/
structure Blank (w : World) (g k : Nat) : Prop where
  z0 : w.cell? ⟨g, k * 11, none⟩ = some (.string ⟨#[]⟩)
  z1 : w.cell? ⟨g, k * 11 + 1, none⟩ = some (.string ⟨#[]⟩)
  z2 : w.cell? ⟨g, k * 11 + 2, none⟩ = some (.slice none 0 0)
  z3 : w.cell? ⟨g, k * 11 + 3, none⟩ = some (.int .i64 0)
  z4 : w.cell? ⟨g, k * 11 + 4, none⟩ = some (.pointer none)
  z5 : w.cell? ⟨g, k * 11 + 5, none⟩ = some (.bool false)
  z6 : w.cell? ⟨g, k * 11 + 6, none⟩ = some (.int .i64 0)
  z7 : w.cell? ⟨g, k * 11 + 7, none⟩ = some (.string ⟨#[]⟩)
  z8 : w.cell? ⟨g, k * 11 + 8, none⟩ = some (.slice none 0 0)
  z9 : w.cell? ⟨g, k * 11 + 9, none⟩ = some (.int .i64 0)
  z10 : w.cell? ⟨g, k * 11 + 10, none⟩ = some (.pointer none)
  fr : ∀ o, w.frozen? ⟨g, o, none⟩ = false

theorem blank_of {w : World} {g n k : Nat} {xs : List Pt} {D : Nat → Value} (h : w.rowIs g 110 (n * 11) (bp xs D k)) (hk : k < n) : Blank w g k := by
  have hc := fun j hj => bp_cell h k j hk hj
  refine ⟨?_, ?_, ?_, ?_, ?_, ?_, ?_, ?_, ?_, ?_, ?_, h.frozen⟩
  · simpa [pc, Pt.none] using hc 0 (by omega)
  · simpa [pc, Pt.none] using hc 1 (by omega)
  · simpa [pc, Pt.none] using hc 2 (by omega)
  · simpa [pc, Pt.none] using hc 3 (by omega)
  · simpa [pc, Pt.none] using hc 4 (by omega)
  · simpa [pc, Pt.none] using hc 5 (by omega)
  · simpa [pc, Pt.none] using hc 6 (by omega)
  · simpa [pc, Pt.none] using hc 7 (by omega)
  · simpa [pc, Pt.none] using hc 8 (by omega)
  · simpa [pc, Pt.none] using hc 9 (by omega)
  · simpa [pc, Pt.none] using hc 10 (by omega)

theorem far {g b : Nat} (h : g ≠ b) (w : World) (o off : Nat) (v : Value) : (w.setCell ⟨g, o, none⟩ v).cell? ⟨b, off, none⟩ = w.cell? ⟨b, off, none⟩ := World.cell?_setCell_far w _ _ v h

theorem row_below {w w' : World} {g : Nat} {t : TypeId} {n : Nat} {f : Nat → Value} (h : w.rowIs g t n f) (hb : Below w.heap.size w w') : w'.rowIs g t n f :=
  h.of_block (hb.block _ h.lt)

theorem build_step {w wr W2 : World} {xs : List Pt} {D : Nat → Value} {k : Nat} {v : Value} {X : Pt} (hX : xs.getD k Pt.none = X) (hrow : wr.rowIs w.heap.size 110 (xs.length * 11) (bp xs D k)) (hd : ∀ i, i < k → BytesOff w.heap.size wr (D i) (xs.getD i Pt.none).zs)
    (hO : ∀ g, g < wr.drew.heap.size → BytesOff g W2 v X.zs) (hB : Below wr.drew.heap.size wr.drew W2) (hbel : Below w.heap.size w wr) :
    (storePart W2 w.heap.size k X v).rowIs w.heap.size 110 (xs.length * 11) (bp xs (upd D k v) (k + 1)) ∧ (∀ i, i < k + 1 → BytesOff w.heap.size (storePart W2 w.heap.size k X v) (upd D k v i) (xs.getD i Pt.none).zs) ∧ Below w.heap.size w (storePart W2 w.heap.size k X v) := by
  have hlt := hrow.lt
  refine ⟨?_, fun i hi => ?_, ?_⟩
  · have := bp_step v (row_below hrow.drew hB)
    rw [hX] at this
    exact this
  · unfold upd
    by_cases e : i = k
    · subst e
      rw [hX]
      simpa using (hO _ hlt).stored i X v
    · have := ((hd i (by omega)).drew.below hB).stored k X v
      simpa [e] using this
  · exact storePart_below (hbel.drew.trans (hB.mono (Nat.le_of_lt hlt))) (Nat.le_refl _) k X v

set_option maxRecDepth 100000 in
set_option maxHeartbeats 4000000 in
theorem build_full (b off cap : Nat) (xs : List Pt) (w : World) (hp : PartsAt w b off xs) (hs : Small xs) :
    Calls Try.prog 35 #[.slice (some ⟨b, off, none⟩) xs.length cap] w fun e w' => ∃ D, e = .returned (.slice (some ⟨w.heap.size, 0, none⟩) xs.length xs.length) ∧ Built w' w.heap.size xs D ∧ Below w.heap.size w w' := by
  have hl := hs.1
  have hmk := make_rows (P := Try.prog) 67 110 _ _ 11 144 Try.underlying67 info110 rfl xs.length (by omega) (by omega)
  go_enter Try.func35, Try.ntmps35
  go_wp2
  go_loopw [4] (fun i wr => ∃ (k : Nat) (D : Nat → Value), k ≤ xs.length ∧ i = .int .i64 k ∧ wr.rowIs w.heap.size 110 (xs.length * 11) (bp xs D k) ∧ (∀ i, i < k → ∃ a n c, D i = .slice a n c) ∧ (∀ i, i < k → BytesOff w.heap.size wr (D i) (xs.getD i Pt.none).zs) ∧ Below w.heap.size w wr) (fun i _ => xs.length - (intOf i).toNat)
  case atStart => exact ⟨0, fun _ => .nilIface, Nat.zero_le _, rfl, bp_zero _ _ _ _, fun i hi => by omega, fun i hi => by omega, (Below.refl _ _).alloc (Nat.le_refl _) _⟩
  case round =>
    obtain ⟨k, D, hk, rfl, hrow, hsl, hd, hbel⟩ := hrel
    by_cases hkl : k < xs.length
    · have e0 : wr.cell? ⟨b, off + k * 4, none⟩ = _ := (hbel.cell (p := ⟨b, off + k * 4, none⟩) hp.lt).trans (hp.c0 k hkl)
      have e1 : wr.cell? ⟨b, off + k * 4 + 1, none⟩ = _ := (hbel.cell (p := ⟨b, off + k * 4 + 1, none⟩) hp.lt).trans (hp.c1 k hkl)
      have e2 : wr.cell? ⟨b, off + k * 4 + 2, none⟩ = _ := (hbel.cell (p := ⟨b, off + k * 4 + 2, none⟩) hp.lt).trans (hp.c2 k hkl)
      have e3 : wr.cell? ⟨b, off + k * 4 + 3, none⟩ = _ := (hbel.cell (p := ⟨b, off + k * 4 + 3, none⟩) hp.lt).trans (hp.c3 k hkl)
      have i1 : (k : Int) < (xs.length : Int) := by omega
      have i2 : (0 : Int) ≤ (k : Int) := by omega
      have hXb := hp.d k hkl
      have hXl := (hs.2 k hkl).2
      have hgl := hrow.lt
      have cC : ∀ W : World, Below w.heap.size w W → Calls Try.prog 22 #[(xs.getD k Pt.none).dv] W fun e w' => ∃ a n cap, e = .returned (.slice a n cap) ∧ (∀ g, g < W.heap.size → BytesOff g w' (.slice a n cap) (xs.getD k Pt.none).zs) ∧ Below W.heap.size W w' := fun W hW => clone_off _ _ W (hXb.below hW) hXl
      have HR : Hid (wr.rowIs w.heap.size 110 (xs.length * 11) (bp xs D k)) := hrow
      have HD : Hid (∀ i, i < k → BytesOff w.heap.size wr (D i) (xs.getD i Pt.none).zs) := hd
      have HS : Hid (∀ i, i < k → ∃ a n c, D i = .slice a n c) := hsl
      have hble := hp.lt
      have hgb : w.heap.size ≠ b := by omega
      clear hmk hrow hd hsl hXb hXl hp hs
      generalize hX : xs.getD k Pt.none = X at *
      have HX : Hid (xs.getD k Pt.none = X) := hX
      clear hX
      go_wp2_with fail
      go_region_held3 (fun W => W.cell? ⟨b, off + k * 4, none⟩ = some (.string X.nm) ∧ W.cell? ⟨b, off + k * 4 + 1, none⟩ = some (.string X.inm) ∧ W.cell? ⟨b, off + k * 4 + 2, none⟩ = some X.dv ∧ W.cell? ⟨b, off + k * 4 + 3, none⟩ = some (.int .i64 X.o))
        (first | with_reducible exact ⟨y0, y1, y2, y3⟩ | (simp only [World.cell?_drew, e0, e1, e2, e3, and_self]; done) | (simp only [World.cell?_drew, far hgb, y0, y1, y2, y3, and_self]; done))
        (first | (go_at_call 22; refine (cC _ ?_).mono ?_; exact hbel.drew; rintro e W2 ⟨a2, n2, c2, rfl, hO2, hB2⟩; have y0 := (hB2.cell (p := ⟨b, off + k * 4, none⟩) (by simp; omega)).trans e0; have y1 := (hB2.cell (p := ⟨b, off + k * 4 + 1, none⟩) (by simp; omega)).trans e1; have y2 := (hB2.cell (p := ⟨b, off + k * 4 + 2, none⟩) (by simp; omega)).trans e2; have y3 := (hB2.cell (p := ⟨b, off + k * 4 + 3, none⟩) (by simp; omega)).trans e3; have hBK := blank_of (row_below HR.out.drew hB2) hkl; obtain ⟨z0, z1, z2, z3, z4, z5, z6, z7, z8, z9, z10, zf⟩ := hBK))
      go_wp2
      have R := build_step HX.out HR.out HD.out hO2 hB2 hbel
      go_roundw
      case rel => exact ⟨k + 1, upd D k (.slice a2 n2 c2), by omega, by go_num, R.1, slice_upd HS.out, R.2.1, R.2.2⟩
      case measure => simp [intOf]; omega
    · clear hmk
      go_wp2
      go_ret
      have e : k = xs.length := by omega
      subst e
      exact ⟨D, rfl, ⟨hrow, hsl, fun i hi => (hd i hi).at⟩, hbel⟩

set_option maxHeartbeats 400000 in
theorem build_zero (a : Option Addr) (cap : Nat) (w : World) : Calls Try.prog 35 #[.slice a 0 cap] w fun e w' => e = .returned (.slice (some ⟨w.heap.size, 0, none⟩) 0 0) ∧ w' = w.alloc (.cells #[] 110) := by
  have hmk : ∀ w : World, (Instr.makeSlice 67 (.int .i64 0) (.int .i64 0)).run Try.prog w = .ok (.slice (some ⟨w.heap.size, 0, none⟩) 0 0) (w.alloc (.cells #[] 110)) := fun _ => by kernel_rfl
  go_enter Try.func35, Try.ntmps35
  go_wp2
  refine wp_loop_rounds 1 ?_
  rw [rounds_succ]
  go_wp2
  go_ret
  exact ⟨rfl, rfl⟩

end Go.Proofs.Qxb6616313a
