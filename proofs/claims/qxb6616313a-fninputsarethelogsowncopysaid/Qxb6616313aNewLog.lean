/-
  The walk of FnNewLogInputsAreThePartsInputs (6).
-/
import Derived.Test.Qxb6616313aAre
namespace Go.Proofs.Qxb6616313a
open Go.RowKit
set_option linter.unusedVariables false
set_option linter.unusedSimpArgs false

theorem PartsAt.below {w w' : World} {b off : Nat} {xs : List Pt} (h : PartsAt w b off xs) (hb : Below w.heap.size w w') : PartsAt w' b off xs :=
  ⟨Nat.lt_of_lt_of_le h.lt hb.size, fun i hi => (hb.cell (p := ⟨b, _, none⟩) h.lt).trans (h.c0 i hi), fun i hi => (hb.cell (p := ⟨b, _, none⟩) h.lt).trans (h.c1 i hi), fun i hi => (hb.cell (p := ⟨b, _, none⟩) h.lt).trans (h.c2 i hi), fun i hi => (hb.cell (p := ⟨b, _, none⟩) h.lt).trans (h.c3 i hi), fun i hi => (h.d i hi).below hb, h.s0, h.s1⟩

theorem eq69 (p : Addr) (w : World) : (binOp .eql 69 (.pointer (some p)) (.pointer none)).run Try.prog w = .ok (.bool false) w := by kernel_rfl

set_option maxHeartbeats 1000000 in
theorem law6_zero (a : Option Addr) (cap : Nat) (w : World) :
    Calls Try.prog 6 #[.slice a 0 cap] w fun e w' => e = .returned (.bool true) ∧ Below w.heap.size w w' := by
  have q69 := eq69
  go_enter Try.func6, Try.ntmps6
  go_wp2_with fail
  refine (bytes33_zero a cap _).mono ?_
  rintro e w1 ⟨rfl, rfl⟩
  go_wp2_with fail
  refine (tooBig_zero a cap _).mono ?_
  rintro e w2 ⟨rfl, rfl⟩
  go_wp2_with fail
  refine (build_zero a cap _).mono ?_
  rintro e w3 ⟨rfl, hw3⟩
  have hb3 : Below w2.heap.size w2 w3 := by rw [hw3]; exact (Below.refl _ _).alloc (Nat.le_refl _) _
  clear hw3
  go_wp2_with fail
  refine (newLog _ 0 _ (by omega)).mono ?_
  rintro e w4 ⟨rfl, hc4, hb4, hz4⟩
  have hB4 := hb3.trans (hb4.mono hb3.size)
  clear hb3 hb4
  go_wp2_with fail
  refine (inputs_zero _ _ _ (by exact hc4)).mono ?_
  rintro e w5 ⟨rfl, hw5⟩
  have hB5 : Below w2.heap.size w2 w5 := by rw [hw5]; exact hB4.alloc hB4.size _
  clear hw5 hB4 hc4
  go_wp2_with fail
  refine (are_zero _ _ _ _ _).mono ?_
  rintro e w6 ⟨rfl, m, hw6⟩
  have hB6 : Below w2.heap.size w2 w6 := by rw [hw6]; exact below_drewN hB5 _
  clear hw6 hB5
  go_wp2
  go_ret
  exact ⟨rfl, hB6⟩

set_option maxHeartbeats 1000000 in
theorem law6_main (b off cap : Nat) (xs : List Pt) (w : World) (hl : xs.length ≤ maxLen) (hp : PartsAt w b off xs) :
    Calls Try.prog 6 #[.slice (some ⟨b, off, none⟩) xs.length cap] w fun e w' => e = .returned (.bool true) ∧ Below w.heap.size w w' := by
  have q69 := eq69
  go_enter Try.func6, Try.ntmps6
  go_wp2_with fail
  refine (bytes33 b off cap xs _ hl hp).mono ?_
  rintro e w1 ⟨he, hw⟩
  subst hw
  rcases he with rfl | rfl
  case inr =>
    go_wp2
    go_ret
    exact ⟨rfl, Below.refl _ _⟩
  go_wp2_with fail
  by_cases hbig : 16384 < xs.length
  · refine (tooBig_len _ _ _ _ hbig hl).mono ?_
    rintro e w2 ⟨rfl, rfl⟩
    go_wp2
    go_ret
    exact ⟨rfl, Below.refl _ _⟩
  refine (tooBig b off cap xs _ (by omega) hp).mono ?_
  rintro e w2 ⟨hw, he⟩
  subst hw
  rcases he with rfl | ⟨rfl, hs⟩
  case inl =>
    go_wp2
    go_ret
    exact ⟨rfl, Below.refl _ _⟩
  have hl2 := hs.1
  go_wp2_with fail
  refine (build_full b off cap xs _ hp hs).mono ?_
  rintro e w3 ⟨D, rfl, hB3, hb3⟩
  go_wp2_with fail
  refine (newLog _ _ _ hl2).mono ?_
  rintro e w4 ⟨rfl, hc4, hb4, hz4⟩
  have hB4 := hB3.below hb4
  have hW4 := hb3.trans (hb4.mono hb3.size)
  clear hb3 hb4 hB3
  go_wp2_with fail
  refine (inputs_full _ _ xs D _ hl2 (by exact hz4) (by exact hc4) (by exact hB4)).mono ?_
  rintro e w5 ⟨rfl, hr5, hb5⟩
  have hB5 := hB4.below hb5
  have hW5 := hW4.trans (hb5.mono hW4.size)
  have hp5 := hp.below hW5
  clear hb5 hB4 hW4 hc4 hz4
  go_wp2_with fail
  refine (are_full _ b off cap xs D _ hl2 (by exact hp5) (by exact hr5) (by exact hB5.d)).mono ?_
  rintro e w6 ⟨rfl, m, hw6⟩
  have hW6 := below_drewN hW5 m
  rw [← hw6] at hW6
  clear hw6 hW5 hp5 hr5 hB5
  go_wp2
  go_ret
  exact ⟨rfl, hW6⟩

theorem law6 (a : Option Addr) (cap : Nat) (xs : List Pt) (w : World) (hP : Parts w a cap xs) :
    Calls Try.prog 6 #[.slice a xs.length cap] w fun e w' => e = .returned (.bool true) ∧ Below w.heap.size w w' := by
  by_cases h0 : 0 < xs.length
  · obtain ⟨b, off, rfl, hp⟩ := hP.2 h0
    exact law6_main b off cap xs w hP.1 hp
  · have e0 : xs.length = 0 := by omega
    rw [e0]
    exact law6_zero a cap w

end Go.Proofs.Qxb6616313a
