/-
  The early ways out of the second law.
-/
import Derived.Test.Qxb6616362aShare
import Derived.Test.Qxb6616362aMoreAny
namespace Go.Proofs.Qxb6616362a
open Go.RowKit
set_option linter.unusedVariables false
set_option linter.unusedSimpArgs false

set_option maxHeartbeats 1000000 in
theorem share_early (s : ByteArray) (r q : Int) (a3 a4 a5 : Option Addr) (n3 n4 n5 c3 c4 c5 : Nat) (w : World) (hs : s.size ≤ maxLen) (h3 : n3 ≤ maxLen) (h4 : n4 ≤ maxLen) (h5 : n5 ≤ maxLen)
    (h : 65536 < s.size ∨ (s.size ≤ 65536 ∧ 32768 < n3) ∨ (s.size ≤ 65536 ∧ n3 ≤ 32768 ∧ 32768 < n4) ∨ (s.size ≤ 65536 ∧ n3 ≤ 32768 ∧ n4 ≤ 32768 ∧ 32768 < n5) ∨ (s.size ≤ 65536 ∧ n3 ≤ 32768 ∧ n4 ≤ 32768 ∧ n5 ≤ 32768 ∧ n4 ≠ n3)) :
    Calls Try.prog 6 #[.string s, .int .i64 r, .int .i64 q, .slice a3 n3 c3, .slice a4 n4 c4, .slice a5 n5 c5] w fun e w' => e = .returned (.bool true) ∧ Below w.heap.size w w' := by
  have hsz : s.size ≤ 9223372036854775807 := by unfold maxLen at hs; omega
  have hz3 : n3 ≤ 9223372036854775807 := by unfold maxLen at h3; omega
  have hz4 : n4 ≤ 9223372036854775807 := by unfold maxLen at h4; omega
  have hz5 : n5 ≤ 9223372036854775807 := by unfold maxLen at h5; omega
  rcases h with h | ⟨g1, h⟩ | ⟨g1, g2, h⟩ | ⟨g1, g2, g3, h⟩ | ⟨g1, g2, g3, g4, h⟩
  case inr.inr.inr.inr =>
    have hne : ((n4 : Int) != (n3 : Int)) = true := by simp; omega
    go_enter Try.func6, Try.ntmps6
    go_wp2_with fail
    refine (bytes17 s r q a3 a4 a5 _ _ _ c3 c4 c5 _ hs h3 h4 h5).mono ?_
    rintro e w1 ⟨he, hw⟩
    subst hw
    rcases he with rfl | rfl
    · go_wp2
      go_ret
      exact ⟨rfl, Below.refl _ _⟩
    · go_wp2
      go_ret
      exact ⟨rfl, Below.refl _ _⟩
  all_goals
    go_enter Try.func6, Try.ntmps6
    go_wp2_with fail
    refine (bytes17 s r q a3 a4 a5 _ _ _ c3 c4 c5 _ hs h3 h4 h5).mono ?_
    rintro e w1 ⟨he, hw⟩
    subst hw
    rcases he with rfl | rfl
    · go_wp2
      go_ret
      exact ⟨rfl, Below.refl _ _⟩
    · go_wp2
      go_ret
      exact ⟨rfl, Below.refl _ _⟩

theorem share_any (s : ByteArray) (r q : Int) (a3 a4 a5 : Option Addr) (c3 c4 c5 : Nat) (zs vs xs : List Int) (w : World) (hs : s.size ≤ maxLen) (h3 : Ints w a3 zs) (h4 : Ints w a4 vs) (h5 : Ints w a5 xs) :
    Calls Try.prog 6 #[.string s, .int .i64 r, .int .i64 q, .slice a3 zs.length c3, .slice a4 vs.length c4, .slice a5 xs.length c5] w fun e w' => e = .returned (.bool true) ∧ Below w.heap.size w w' := by
  by_cases hh : 65536 < s.size ∨ (s.size ≤ 65536 ∧ 32768 < zs.length) ∨ (s.size ≤ 65536 ∧ zs.length ≤ 32768 ∧ 32768 < vs.length) ∨ (s.size ≤ 65536 ∧ zs.length ≤ 32768 ∧ vs.length ≤ 32768 ∧ 32768 < xs.length) ∨ (s.size ≤ 65536 ∧ zs.length ≤ 32768 ∧ vs.length ≤ 32768 ∧ xs.length ≤ 32768 ∧ vs.length ≠ zs.length)
  · exact share_early s r q a3 a4 a5 _ _ _ c3 c4 c5 w hs h3.len h4.len h5.len hh
  · exact share_main s r q a3 a4 a5 c3 c4 c5 zs vs xs w (by omega) (by omega) (by omega) (by omega) h3 h4 h5

end Go.Proofs.Qxb6616362a
