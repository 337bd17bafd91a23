/-
  zzBytes_.. (33, 39); the same contracts at the empty slice.
-/
import Derived.Test.Qxb6616313aParts
namespace Go.Proofs.Qxb6616313a
open Go.RowKit
set_option linter.unusedVariables false

set_option maxHeartbeats 4000000 in
theorem bytes33 (b off cap : Nat) (xs : List Pt) (w : World) (hl : xs.length ≤ maxLen) (hp : PartsAt w b off xs) :
    Calls Try.prog 33 #[.slice (some ⟨b, off, .none⟩) xs.length cap] w fun e w' => (e = .returned (.bool true) ∨ e = .returned (.bool false)) ∧ w' = w := by
  unfold maxLen at hl
  by_cases h1 : 1048576 < xs.length
  · go_enter Try.func33, Try.ntmps33
    go_wp2
    go_ret
    exact ⟨.inr rfl, rfl⟩
  go_enter Try.func33, Try.ntmps33
  go_wp2_with fail
  go_loop [3, 4] (fun s i => ∃ (k : Nat) (z : Int), k ≤ xs.length ∧ i = .int .i64 k ∧ s = .int .i64 z ∧ 0 ≤ z ∧ z ≤ 1048576) (fun _ i => xs.length - (intOf i).toNat)
  case atStart => exact ⟨0, _, Nat.zero_le _, rfl, rfl, by omega, by omega⟩
  case round =>
    obtain ⟨k, z, hk, rfl, rfl, z0, z1⟩ := hrel
    by_cases hlt : k < xs.length
    · have e0 := hp.c0 k hlt
      have e1 := hp.c1 k hlt
      have e2 := hp.c2 k hlt
      obtain ⟨hz, hzl, da, dcap, hdv, _⟩ := hp.d k hlt
      rw [hdv] at e2
      have t0 := hp.s0 k hlt
      have t1 := hp.s1 k hlt
      unfold maxLen at t0 t1 hzl
      clear hz hdv
      generalize xs.getD k Pt.none = X at *
      go_wp2
      all_goals first
        | (go_ret
           exact ⟨.inr rfl, rfl⟩)
        | (go_round
           case rel => exact ⟨k + 1, _, by omega, by go_num, rfl, by omega, by omega⟩
           case measure => simp [intOf]; omega)
    · go_wp2
      go_ret
      exact ⟨.inl rfl, rfl⟩

set_option maxHeartbeats 400000 in
theorem bytes33_zero (a : Option Addr) (cap : Nat) (w : World) :
    Calls Try.prog 33 #[.slice a 0 cap] w fun e w' => e = .returned (.bool true) ∧ w' = w := by
  go_enter Try.func33, Try.ntmps33
  go_wp2
  refine wp_loop_rounds 1 ?_
  rw [rounds_succ]
  go_wp2
  go_ret
  exact ⟨rfl, rfl⟩

set_option maxHeartbeats 4000000 in
theorem bytes39 (b off cap : Nat) (xs : List Pt) (w : World) (hl : xs.length ≤ maxLen) (hp : PartsAt w b off xs) :
    Calls Try.prog 39 #[.slice (some ⟨b, off, .none⟩) xs.length cap] w fun e w' => (e = .returned (.bool true) ∨ e = .returned (.bool false)) ∧ w' = w := by
  unfold maxLen at hl
  by_cases h1 : 1048576 < xs.length
  · go_enter Try.func39, Try.ntmps39
    go_wp2
    go_ret
    exact ⟨.inr rfl, rfl⟩
  go_enter Try.func39, Try.ntmps39
  go_wp2_with fail
  go_loop [3, 4] (fun s i => ∃ (k : Nat) (z : Int), k ≤ xs.length ∧ i = .int .i64 k ∧ s = .int .i64 z ∧ 0 ≤ z ∧ z ≤ 1048576) (fun _ i => xs.length - (intOf i).toNat)
  case atStart => exact ⟨0, _, Nat.zero_le _, rfl, rfl, by omega, by omega⟩
  case round =>
    obtain ⟨k, z, hk, rfl, rfl, z0, z1⟩ := hrel
    by_cases hlt : k < xs.length
    · have e0 := hp.c0 k hlt
      have e1 := hp.c1 k hlt
      have e2 := hp.c2 k hlt
      obtain ⟨hz, hzl, da, dcap, hdv, _⟩ := hp.d k hlt
      rw [hdv] at e2
      have t0 := hp.s0 k hlt
      have t1 := hp.s1 k hlt
      unfold maxLen at t0 t1 hzl
      clear hz hdv
      generalize xs.getD k Pt.none = X at *
      go_wp2
      all_goals first
        | (go_ret
           exact ⟨.inr rfl, rfl⟩)
        | (go_round
           case rel => exact ⟨k + 1, _, by omega, by go_num, rfl, by omega, by omega⟩
           case measure => simp [intOf]; omega)
    · go_wp2
      go_ret
      exact ⟨.inl rfl, rfl⟩

set_option maxHeartbeats 400000 in
theorem bytes39_zero (a : Option Addr) (cap : Nat) (w : World) :
    Calls Try.prog 39 #[.slice a 0 cap] w fun e w' => e = .returned (.bool true) ∧ w' = w := by
  go_enter Try.func39, Try.ntmps39
  go_wp2
  refine wp_loop_rounds 1 ?_
  rw [rounds_succ]
  go_wp2
  go_ret
  exact ⟨rfl, rfl⟩

set_option maxHeartbeats 400000 in
theorem tooBig_zero (a : Option Addr) (cap : Nat) (w : World) :
    Calls Try.prog 34 #[.slice a 0 cap] w fun e w' => e = .returned (.bool false) ∧ w' = w := by
  go_enter Try.func34, Try.ntmps34
  go_wp2_with fail
  refine (addN64_yes _ _ (by omega) (by omega) (by omega)).mono ?_
  rintro e w1 ⟨rfl, rfl⟩
  go_wp2
  refine wp_loop_rounds 1 ?_
  rw [rounds_succ]
  go_wp2
  go_ret
  exact ⟨rfl, rfl⟩

set_option maxHeartbeats 400000 in
theorem tooBig_len (a : Option Addr) (n cap : Nat) (w : World) (h : 16384 < n) (hl : n ≤ maxLen) :
    Calls Try.prog 34 #[.slice a n cap] w fun e w' => e = .returned (.bool true) ∧ w' = w := by
  unfold maxLen at hl
  go_enter Try.func34, Try.ntmps34
  go_wp2_with fail
  refine (addN64_no _ _ (by omega) (by omega) (by omega)).mono ?_
  rintro e w1 ⟨rfl, rfl⟩
  go_wp2
  go_ret
  exact ⟨rfl, rfl⟩

end Go.Proofs.Qxb6616313a
