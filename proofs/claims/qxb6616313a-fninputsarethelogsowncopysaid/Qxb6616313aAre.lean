/-
  zzInputsAre (37).
-/
import Derived.Test.Qxb6616313aInputs
namespace Go.Proofs.Qxb6616313a
open Go.RowKit
set_option linter.unusedVariables false
set_option linter.unusedSimpArgs false

set_option maxRecDepth 100000 in
set_option maxHeartbeats 4000000 in
theorem are_full (q b off cap : Nat) (xs : List Pt) (D : Nat → Value) (w : World) (hl : xs.length ≤ 16384) (hp : PartsAt w b off xs) (hr : w.rowIs q 75 (xs.length * 3) (ib xs D xs.length)) (hd : ∀ i, i < xs.length → BytesAt w (D i) (xs.getD i Pt.none).zs) :
    Calls Try.prog 37 #[.slice (some ⟨q, 0, none⟩) xs.length xs.length, .slice (some ⟨b, off, none⟩) xs.length cap] w fun e w' => e = .returned (.bool true) ∧ ∃ m, w' = w.drewN m := by
  go_enter Try.func37, Try.ntmps37
  go_wp2
  go_loopw [5] (fun i wr => ∃ k m : Nat, k ≤ xs.length ∧ i = .int .i64 k ∧ wr = w.drewN m) (fun i _ => xs.length - (intOf i).toNat)
  case atStart => exact ⟨0, 0, Nat.zero_le _, rfl, rfl⟩
  case round =>
    obtain ⟨k, m, hk, rfl, hwr⟩ := hrel
    by_cases hkl : k < xs.length
    · have hcc : ∀ p, wr.cell? p = w.cell? p := fun p => by rw [hwr]; rfl
      have e1 := (hcc _).trans (hp.c1 k hkl)
      have e2 := (hcc _).trans (hp.c2 k hkl)
      have e3 := (hcc _).trans (hp.c3 k hkl)
      have q0 : wr.cell? ⟨q, k * 3, none⟩ = some (.string (xs.getD k Pt.none).inm) := (hcc _).trans (by simpa [ic, hkl] using ib_cell hr k 0 hkl (by omega))
      have q1 : wr.cell? ⟨q, k * 3 + 1, none⟩ = some (D k) := (hcc _).trans (by simpa [ic, hkl] using ib_cell hr k 1 hkl (by omega))
      have q2 : wr.cell? ⟨q, k * 3 + 2, none⟩ = some (.int .i64 (xs.getD k Pt.none).o) := (hcc _).trans (by simpa [ic, hkl] using ib_cell hr k 2 hkl (by omega))
      have hs : ∀ m', Calls Try.prog 44 #[D k, (xs.getD k Pt.none).dv] (wr.drewN m') fun e w' => e = .returned (.bool true) ∧ ∃ m'', w' = (wr.drewN m').drewN m'' := fun m' => same _ _ _ _ (by rw [hwr]; exact hd k hkl) (by rw [hwr]; exact hp.d k hkl)
      have i1 : (k : Int) < (xs.length : Int) := by omega
      have i2 : (0 : Int) ≤ (k : Int) := by omega
      have HW : Hid (∀ j, ∃ m', wr.drewN j = w.drewN m') := fun j => ⟨m + j, by rw [hwr, World.drewN_drewN]⟩
      clear hp hr hd hwr hcc
      generalize xs.getD k Pt.none = X at *
      generalize D k = V at *
      go_wp2_with fail
      go_quiet ((go_at_call 44; exact Calls.quiet_of (hs _)))
      go_wp2
      go_roundw
      case rel =>
        obtain ⟨m', hm'⟩ := HW.out nq
        exact ⟨k + 1, m', by omega, by go_num, hm'⟩
      case measure => simp [intOf]; omega
    · subst hwr
      go_wp2
      go_ret
      exact ⟨rfl, _, rfl⟩

set_option maxHeartbeats 400000 in
theorem are_zero (a a' : Option Addr) (cap cap' : Nat) (w : World) :
    Calls Try.prog 37 #[.slice a 0 cap, .slice a' 0 cap'] w fun e w' => e = .returned (.bool true) ∧ ∃ m, w' = w.drewN m := by
  go_enter Try.func37, Try.ntmps37
  go_wp2
  refine wp_loop_rounds 1 ?_
  rw [rounds_succ]
  go_wp2
  go_ret
  exact ⟨rfl, 0, rfl⟩

end Go.Proofs.Qxb6616313a
