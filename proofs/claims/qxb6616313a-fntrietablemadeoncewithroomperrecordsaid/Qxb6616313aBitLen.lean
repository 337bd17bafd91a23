/-
  bits.Len64 (52), bits.Len (50), newNodeTable (49), NewTrieTable (45): what they lay; not how great the limit is.
-/
import Derived.Test.Qxb6616313aProg
import Derived.WalkKit
import Derived.WalkSpells
namespace Go.Proofs.Qxb6616313a
open Go.RowKit
set_option linter.unusedVariables false

def IsInt (e : Ending) : Prop := ∃ r : Int, e = .returned (.int .i64 r)

set_option maxHeartbeats 4000000 in
set_option maxRecDepth 100000 in
theorem len64 (x : Int) (w : World) (h0 : 0 ≤ x) (h1 : x ≤ 65536) :
    Calls Try.prog 52 #[.int .u64 x] w fun e w' => IsInt e ∧ w' = w := by
  go_enter Try.func52, Try.ntmps52
  go_wp2
  all_goals (go_ret; exact ⟨⟨_, rfl⟩, rfl⟩)

set_option maxHeartbeats 400000 in
theorem len (x : Int) (w : World) (h0 : 0 ≤ x) (h1 : x ≤ 65536) :
    Calls Try.prog 50 #[.int .u64 x] w fun e w' => IsInt e ∧ w' = w := by
  go_enter Try.func50, Try.ntmps50
  go_wp2_with fail
  refine (len64 x _ h0 h1).mono ?_
  rintro e w' ⟨⟨r, rfl⟩, rfl⟩
  go_wp2
  go_ret
  exact ⟨⟨_, rfl⟩, rfl⟩

set_option maxHeartbeats 400000 in
theorem newTable (n : Nat) (w : World) (h : n ≤ 65536) :
    Calls Try.prog 49 #[.int .i64 (n : Int)] w fun e w' => e = .returned (.pointer (some ⟨w.heap.size, 0, none⟩)) ∧ Below w.heap.size w w' ∧ w.heap.size < w'.heap.size := by
  go_enter Try.func49, Try.ntmps49
  go_wp2_with fail
  refine (len _ _ (by omega) (by omega)).mono ?_
  rintro e w' ⟨⟨r, rfl⟩, rfl⟩
  go_wp2
  all_goals (go_ret; exact ⟨rfl, (Below.refl _ _).alloc (Nat.le_refl _) _, by simp⟩)

set_option maxHeartbeats 400000 in
theorem newTries (n : Nat) (w : World) (h : n ≤ 65536) :
    Calls Try.prog 45 #[.int .i64 (n : Int)] w fun e w' => (∃ t, e = .returned (.pointer (some ⟨t, 0, none⟩)) ∧ w.heap.size ≤ t) ∧ Below w.heap.size w w' := by
  go_enter Try.func45, Try.ntmps45
  go_wp2_with fail
  refine (newTable n _ h).mono ?_
  rintro e w1 ⟨rfl, hb, hz⟩
  go_wp2
  go_ret
  exact ⟨⟨_, rfl, Nat.le_of_lt hz⟩, hb.alloc hb.size _⟩

end Go.Proofs.Qxb6616313a
