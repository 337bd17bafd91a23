/-
  The early ways out; the slices as the row hands them.
-/
import Derived.Test.Qxb6616362aMore
import Derived.OpenShut
namespace Go.Proofs.Qxb6616362a
open Go.RowKit
set_option linter.unusedVariables false
set_option linter.unusedSimpArgs false

set_option maxHeartbeats 1000000 in
theorem more_early (s : ByteArray) (r q : Int) (a3 a4 a5 : Option Addr) (n3 n4 n5 c3 c4 c5 : Nat) (x : Int) (w : World) (hs : s.size ≤ maxLen) (h3 : n3 ≤ maxLen) (h4 : n4 ≤ maxLen) (h5 : n5 ≤ maxLen)
    (h : 65536 < s.size ∨ (s.size ≤ 65536 ∧ 32768 < n3) ∨ (s.size ≤ 65536 ∧ n3 ≤ 32768 ∧ 32768 < n4) ∨ (s.size ≤ 65536 ∧ n3 ≤ 32768 ∧ n4 ≤ 32768 ∧ 32768 < n5) ∨ (s.size ≤ 65536 ∧ n3 ≤ 32768 ∧ n4 ≤ 32768 ∧ n5 ≤ 32768 ∧ n4 ≠ n3)) :
    Calls Try.prog 3 #[.string s, .int .i64 r, .int .i64 q, .slice a3 n3 c3, .slice a4 n4 c4, .slice a5 n5 c5, .int .i64 x] w fun e w' => e = .returned (.bool true) ∧ Below w.heap.size w w' := by
  have hsz : s.size ≤ 9223372036854775807 := by unfold maxLen at hs; omega
  have hz3 : n3 ≤ 9223372036854775807 := by unfold maxLen at h3; omega
  have hz4 : n4 ≤ 9223372036854775807 := by unfold maxLen at h4; omega
  have hz5 : n5 ≤ 9223372036854775807 := by unfold maxLen at h5; omega
  rcases h with h | ⟨g1, h⟩ | ⟨g1, g2, h⟩ | ⟨g1, g2, g3, h⟩ | ⟨g1, g2, g3, g4, h⟩
  case inr.inr.inr.inr =>
    have hne : ((n4 : Int) != (n3 : Int)) = true := by simp; omega
    go_enter Try.func3, Try.ntmps3
    go_wp2_with fail
    refine (bytes7 s r q a3 a4 a5 _ _ _ c3 c4 c5 x _ hs h3 h4 h5).mono ?_
    rintro e w1 ⟨he, hw⟩
    subst hw
    rcases he with rfl | rfl
    · go_wp2
      go_ret
      exact ⟨rfl, Below.refl _ _⟩
    · go_wp2
      go_ret
      exact ⟨rfl, Below.refl _ _⟩
  all_goals
    go_enter Try.func3, Try.ntmps3
    go_wp2_with fail
    refine (bytes7 s r q a3 a4 a5 _ _ _ c3 c4 c5 x _ hs h3 h4 h5).mono ?_
    rintro e w1 ⟨he, hw⟩
    subst hw
    rcases he with rfl | rfl
    · go_wp2
      go_ret
      exact ⟨rfl, Below.refl _ _⟩
    · go_wp2
      go_ret
      exact ⟨rfl, Below.refl _ _⟩

theorem more_any (s : ByteArray) (r q : Int) (a3 a4 a5 : Option Addr) (c3 c4 c5 : Nat) (zs vs xs : List Int) (x : Int) (w : World) (hs : s.size ≤ maxLen) (hx : (Lit.int .i64 x).wf = true) (h3 : Ints w a3 zs) (h4 : Ints w a4 vs) (h5 : Ints w a5 xs) :
    Calls Try.prog 3 #[.string s, .int .i64 r, .int .i64 q, .slice a3 zs.length c3, .slice a4 vs.length c4, .slice a5 xs.length c5, .int .i64 x] w fun e w' => e = .returned (.bool true) ∧ Below w.heap.size w w' := by
  by_cases hh : 65536 < s.size ∨ (s.size ≤ 65536 ∧ 32768 < zs.length) ∨ (s.size ≤ 65536 ∧ zs.length ≤ 32768 ∧ 32768 < vs.length) ∨ (s.size ≤ 65536 ∧ zs.length ≤ 32768 ∧ vs.length ≤ 32768 ∧ 32768 < xs.length) ∨ (s.size ≤ 65536 ∧ zs.length ≤ 32768 ∧ vs.length ≤ 32768 ∧ xs.length ≤ 32768 ∧ vs.length ≠ zs.length)
  · exact more_early s r q a3 a4 a5 _ _ _ c3 c4 c5 x w hs h3.len h4.len h5.len hh
  · exact more_main s r q a3 a4 a5 c3 c4 c5 zs vs xs x w (by omega) (by omega) (by omega) (by omega) hx h3 h4 h5

/-- From the row's words on a slice of integers to the walks'. -/
theorem ints_of {w : World} {a : Option Addr} {len cap : Nat} {zs : List Int} (h : (a = none ∧ len = 0 ∧ cap = 0 ∧ zs = []) ∨
    ∃ x, a = some x ∧ len ≤ cap ∧ cap ≤ maxLen ∧ zs.length = cap ∧ (∀ i, i < zs.length → w.cell? (x.add i) = some (.int .i64 (zs.getD i 0))) ∧ ∀ n ∈ zs, (Lit.int .i64 n).wf = true) : ∃ ys, ys.length = len ∧ Ints w a ys := by
  rcases h with ⟨rfl, rfl, rfl, rfl⟩ | ⟨x, rfl, hl, hm, hz, hc, hw⟩
  · exact ⟨[], rfl, by simp, fun i => by simp; decide, fun h => by simp at h⟩
  · have hlen : (zs.take len).length = len := by simp; omega
    have hget : ∀ i, i < len → (zs.take len).getD i 0 = zs.getD i 0 := fun i hi => by simp [List.getD, hi]
    refine ⟨zs.take len, hlen, by rw [hlen]; omega, fun i => ?_, fun h0 => ?_⟩
    · by_cases hi : i < len
      · rw [hget i hi]
        exact hw _ (getD_mem (by omega))
      · have : (zs.take len).getD i 0 = 0 := by simp [List.getD, List.getElem?_eq_none (by rw [hlen]; omega : (zs.take len).length ≤ i)]
        rw [this]
        decide
    · rw [hlen] at h0
      obtain ⟨b, off, rfl, hcc⟩ := ints_at hc (by omega)
      refine ⟨b, off, rfl, World.block_lt_of_cell? w _ (hcc 0 (by omega)), fun i hi => ?_⟩
      rw [hlen] at hi
      rw [hget i hi]
      exact hcc i (by omega)

end Go.Proofs.Qxb6616362a
