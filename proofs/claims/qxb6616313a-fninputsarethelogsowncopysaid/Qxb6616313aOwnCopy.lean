/-
  The walk of FnInputsAreTheLogsOwnCopy (7).
-/
import Derived.Test.Qxb6616313aNewLog
namespace Go.Proofs.Qxb6616313a
open Go.RowKit
set_option linter.unusedVariables false
set_option linter.unusedSimpArgs false

/-- The row at q still holds the inputs from number k on. -/
def From (w : World) (q n k : Nat) (xs : List Pt) (D : Nat → Value) : Prop :=
  ∃ f, w.rowIs q 75 (n * 3) f ∧ ∀ c, k * 3 ≤ c → c < n * 3 → f c = ib xs D n c

theorem From.start {w : World} {q n : Nat} {xs : List Pt} {D : Nat → Value} (h : w.rowIs q 75 (n * 3) (ib xs D n)) : From w q n 0 xs D := ⟨_, h, fun c _ _ => rfl⟩

theorem From.cell {w : World} {q n k : Nat} {xs : List Pt} {D : Nat → Value} (h : From w q n k xs D) (hk : k < n) (j : Nat) (hj : j < 3) : w.cell? ⟨q, k * 3 + j, none⟩ = some (ic { xs.getD k Pt.none with dv := D k } j) := by
  obtain ⟨f, hr, hf⟩ := h
  rw [hr.cell (i := k * 3 + j) (by omega), hf _ (by omega) (by omega)]
  have h1 : (k * 3 + j) / 3 = k := by omega
  have h2 : (k * 3 + j) % 3 = j := by omega
  simp [ib, h1, h2, hk]

theorem From.frozen {w : World} {q n k : Nat} {xs : List Pt} {D : Nat → Value} (h : From w q n k xs D) (o : Nat) : w.frozen? ⟨q, o, none⟩ = false := by
  obtain ⟨f, hr, _⟩ := h
  exact hr.frozen o

theorem From.step {w : World} {q n k : Nat} {xs : List Pt} {D : Nat → Value} (h : From w q n k xs D) (v0 v1 v2 : Value) :
    From (((w.setCell ⟨q, k * 3, none⟩ v0).setCell ⟨q, k * 3 + 1, none⟩ v1).setCell ⟨q, k * 3 + 2, none⟩ v2) q n (k + 1) xs D := by
  obtain ⟨f, hr, hf⟩ := h
  refine ⟨_, ((hr.set _ _).set _ _).set _ _, fun c h1 h2 => ?_⟩
  have e0 : c ≠ k * 3 := by omega
  have e1 : c ≠ k * 3 + 1 := by omega
  have e2 : c ≠ k * 3 + 2 := by omega
  simp only [e0, e1, e2, if_false]
  exact hf c (by omega) h2

set_option maxHeartbeats 1000000 in
theorem law7_zero (a : Option Addr) (cap : Nat) (w : World) :
    Calls Try.prog 7 #[.slice a 0 cap] w fun e w' => e = .returned (.bool true) ∧ Below w.heap.size w w' := by
  have q69 := eq69
  go_enter Try.func7, Try.ntmps7
  go_wp2_with fail
  refine (bytes39_zero a cap _).mono ?_
  rintro e w1 ⟨rfl, rfl⟩
  go_wp2_with fail
  refine (tooBig_zero a cap _).mono ?_
  rintro e w2 ⟨rfl, rfl⟩
  go_wp2_with fail
  refine (build_zero a cap _).mono ?_
  rintro e w3 ⟨rfl, hw3⟩
  have hb3 : Below w2.heap.size w2 w3 := by rw [hw3]; exact (Below.refl _ _).alloc (Nat.le_refl _) _
  clear hw3
  go_wp2_with fail
  refine (newLog _ 0 _ (by omega)).mono ?_
  rintro e w4 ⟨rfl, hc4, hb4, hz4⟩
  have hB4 := hb3.trans (hb4.mono hb3.size)
  clear hb3 hb4
  go_wp2_with fail
  refine (inputs_zero _ _ _ (by exact hc4)).mono ?_
  rintro e w5 ⟨rfl, hw5⟩
  have hB5 : Below w2.heap.size w2 w5 := by rw [hw5]; exact hB4.alloc hB4.size _
  have hc5 := (World.cell?_alloc_lt w4 (.cells #[] 75) _ (World.block_lt_of_cell? w4 _ hc4)).trans hc4
  rw [← hw5] at hc5
  clear hw5 hB4 hc4
  go_wp2
  refine wp_loop_rounds 1 ?_
  rw [rounds_succ]
  go_wp2_with fail
  refine (inputs_zero _ _ _ (by exact hc5)).mono ?_
  rintro e w7 ⟨rfl, hw7⟩
  have hB7 : Below w2.heap.size w2 w7 := by rw [hw7]; exact hB5.alloc hB5.size _
  clear hw7 hB5 hc5
  go_wp2_with fail
  refine (are_zero _ _ _ _ _).mono ?_
  rintro e w6 ⟨rfl, m, hw6⟩
  have hB6 : Below w2.heap.size w2 w6 := by rw [hw6]; exact below_drewN hB7 _
  clear hw6 hB7
  go_wp2
  go_ret
  exact ⟨rfl, hB6⟩

set_option maxHeartbeats 2000000 in
theorem law7_main (b off cap : Nat) (xs : List Pt) (w : World) (hl : xs.length ≤ maxLen) (hp : PartsAt w b off xs) :
    Calls Try.prog 7 #[.slice (some ⟨b, off, none⟩) xs.length cap] w fun e w' => e = .returned (.bool true) ∧ Below w.heap.size w w' := by
  have q69 := eq69
  go_enter Try.func7, Try.ntmps7
  go_wp2_with fail
  refine (bytes39 b off cap xs _ hl hp).mono ?_
  rintro e w1 ⟨he, hw⟩
  subst hw
  rcases he with rfl | rfl
  case inr =>
    go_wp2
    go_ret
    exact ⟨rfl, Below.refl _ _⟩
  go_wp2_with fail
  by_cases hbig : 16384 < xs.length
  · refine (tooBig_len _ _ _ _ hbig hl).mono ?_
    rintro e w2 ⟨rfl, rfl⟩
    go_wp2
    go_ret
    exact ⟨rfl, Below.refl _ _⟩
  refine (tooBig b off cap xs _ (by omega) hp).mono ?_
  rintro e w2 ⟨hw, he⟩
  subst hw
  rcases he with rfl | ⟨rfl, hs⟩
  case inl =>
    go_wp2
    go_ret
    exact ⟨rfl, Below.refl _ _⟩
  have hl2 := hs.1
  go_wp2_with fail
  refine (build_full b off cap xs _ hp hs).mono ?_
  rintro e w3 ⟨D, rfl, hB3, hb3⟩
  go_wp2_with fail
  refine (newLog _ _ _ hl2).mono ?_
  rintro e w4 ⟨rfl, hc4, hb4, hz4⟩
  have hB4 := hB3.below hb4
  have hW4 := hb3.trans (hb4.mono hb3.size)
  clear hb3 hb4 hB3
  go_wp2_with fail
  refine (inputs_full _ _ xs D _ hl2 (by exact hz4) (by exact hc4) (by exact hB4)).mono ?_
  rintro e w5 ⟨rfl, hr5, hb5⟩
  have hF5 := From.start hr5
  clear hr5
  go_wp2_with fail
  go_loopw [6] (fun i wr => ∃ k : Nat, k ≤ xs.length ∧ i = .int .i64 k ∧ From wr w4.heap.size xs.length k xs D ∧ Below w4.heap.size w4 wr) (fun i _ => xs.length - (intOf i).toNat)
  case atStart => exact ⟨0, Nat.zero_le _, rfl, hF5, hb5⟩
  case round =>
    obtain ⟨k, hk, rfl, hfr, hbr⟩ := hrel
    clear hF5 hb5
    by_cases hkl : k < xs.length
    · obtain ⟨sa, sn, sc, hDk⟩ := hB4.sl k hkl
      have u0 : wr.cell? ⟨w4.heap.size, k * 3, none⟩ = some (.string (xs.getD k Pt.none).inm) := by simpa [ic] using hfr.cell hkl 0 (by omega)
      have u1 : wr.cell? ⟨w4.heap.size, k * 3 + 1, none⟩ = some (D k) := by simpa [ic] using hfr.cell hkl 1 (by omega)
      have u2 : wr.cell? ⟨w4.heap.size, k * 3 + 2, none⟩ = some (.int .i64 (xs.getD k Pt.none).o) := by simpa [ic] using hfr.cell hkl 2 (by omega)
      rw [hDk] at u1
      have uf := hfr.frozen
      have hsz := (hs.2 k hkl).1
      have HN : Hid (∀ v0 v1 v2, From (((wr.setCell ⟨w4.heap.size, k * 3, none⟩ v0).setCell ⟨w4.heap.size, k * 3 + 1, none⟩ v1).setCell ⟨w4.heap.size, k * 3 + 2, none⟩ v2) w4.heap.size xs.length (k + 1) xs D ∧ Below w4.heap.size w4 (((wr.setCell ⟨w4.heap.size, k * 3, none⟩ v0).setCell ⟨w4.heap.size, k * 3 + 1, none⟩ v1).setCell ⟨w4.heap.size, k * 3 + 2, none⟩ v2)) := fun v0 v1 v2 => ⟨hfr.step v0 v1 v2, ((hbr.setCell (Nat.le_refl _) _).setCell (Nat.le_refl _) _).setCell (Nat.le_refl _) _⟩
      clear hfr hbr hDk hp hs hB4 hW4 hc4 hz4
      generalize xs.getD k Pt.none = X at *
      go_wp2
      go_roundw
      case rel => exact ⟨k + 1, by omega, by go_num, (HN.out _ _ _).1, (HN.out _ _ _).2⟩
      case measure => simp [intOf]; omega
    · have hBr := hB4.below hbr
      have hWr := hW4.trans (hbr.mono hW4.size)
      have hcr := (hbr.cell (p := ⟨w3.heap.size + 1, 0, none⟩) hz4).trans hc4
      have hzr : w3.heap.size + 1 < wr.heap.size := Nat.lt_of_lt_of_le hz4 hbr.size
      clear hfr hbr hB4 hW4 hc4 hz4
      go_wp2_with fail
      refine (inputs_full _ _ xs D _ hl2 (by exact hzr) (by exact hcr) (by exact hBr)).mono ?_
      rintro e w7 ⟨rfl, hr7, hb7⟩
      have hB7 := hBr.below hb7
      have hW7 := hWr.trans (hb7.mono hWr.size)
      have hp7 := hp.below hW7
      clear hb7 hBr hWr hcr hzr
      go_wp2_with fail
      refine (are_full _ b off cap xs D _ hl2 (by exact hp7) (by exact hr7) (by exact hB7.d)).mono ?_
      rintro e w8 ⟨rfl, m, hw8⟩
      have hW8 := below_drewN hW7 m
      rw [← hw8] at hW8
      clear hw8 hW7 hp7 hr7 hB7
      go_wp2
      go_ret
      exact ⟨rfl, hW8⟩

theorem law7 (a : Option Addr) (cap : Nat) (xs : List Pt) (w : World) (hP : Parts w a cap xs) :
    Calls Try.prog 7 #[.slice a xs.length cap] w fun e w' => e = .returned (.bool true) ∧ Below w.heap.size w w' := by
  by_cases h0 : 0 < xs.length
  · obtain ⟨b, off, rfl, hp⟩ := hP.2 h0
    exact law7_main b off cap xs w hP.1 hp
  · have e0 : xs.length = 0 := by omega
    rw [e0]
    exact law7_zero a cap w

end Go.Proofs.Qxb6616313a
