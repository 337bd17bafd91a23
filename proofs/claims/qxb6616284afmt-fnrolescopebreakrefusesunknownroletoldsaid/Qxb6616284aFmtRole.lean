/-
  The walk of FnRoleScopeBreakRefusesUnknownRole (function 3), over whatever F answers fmt.
-/
import Derived.Test.Qxb6616284aFmtRows
import Derived.Test.Qxb6616284aFmtFacts
import Derived.WalkKit
import Derived.WalkSpells
namespace Go.Proofs.Qxb6616284aFmt
open Go.RowKit Go.Extern.Stop Go.Stop Go.Extern

/-- What fmt is asked: the format 'role %s is not known', the operand a string. -/
def roleReading (nm : List UInt8) : List (List UInt8) :=
  [[114, 111, 108, 101, 32, 37, 115, 32, 105, 115, 32, 110, 111, 116, 32, 107, 110, 111, 119, 110], Tryf.shape9, FmtStop.pack nm]

set_option maxHeartbeats 400000 in
theorem role14 (F : Interp) (nm sc : ByteArray) (w : World) (hF : F.answers w.tape) :
    Calls Tryf.prog 14 #[.agg #[.string nm, .string sc], .pointer none] w fun e w' =>
      e = .returned (.string (FmtStop.textOf (F "fmt.Sprintf" (roleReading nm.data.toList) 0))) ∧ Below w.heap.size w w' := by
  have hF' := answers_open hF
  go_enter Tryf.func14, Tryf.ntmps14
  go_wp2
  apply rows_value Tryf.nextTurns
  case hr =>
    go_simp
    exact ⟨rfl, rfl⟩
  case h =>
    go_wp2
    go_ret
    exact ⟨rfl, (((Below.refl _ _).alloc (Nat.le_refl _) _).alloc (by simp) _).drew⟩

set_option maxHeartbeats 400000 in
theorem role7 (F : Interp) (nm sc : ByteArray) (w : World) (hF : F.answers w.tape) :
    Calls Tryf.prog 7 #[.agg #[.string nm, .string sc], .pointer none] w fun e w' =>
      e = .returned (.string (FmtStop.textOf (F "fmt.Sprintf" (roleReading nm.data.toList) 0))) ∧ Below w.heap.size w w' := by
  go_enter Tryf.func7, Tryf.ntmps7
  go_wp2_with fail
  refine (role14 F nm sc _ (by exact hF)).mono ?_
  rintro e w1 ⟨rfl, hb⟩
  go_wp2
  go_ret
  exact ⟨rfl, ((Below.refl _ _).alloc (Nat.le_refl _) _).trans (hb.mono (by simp))⟩

/-- Within the bound on the length: what comes back is the test that the text is not empty. -/
theorem role3 (F : Interp) (nm : ByteArray) (w : World) (hF : F.answers w.tape) (hne : (FmtStop.textOf (F "fmt.Sprintf" (roleReading nm.data.toList) 0)).toList.isEmpty = false) :
    Calls Tryf.prog 3 #[.string nm] w fun e w' => e = .returned (.bool true) ∧ Below w.heap.size w w' := by
  by_cases h : nm.size ≤ 1048576
  · have h1 : ¬ (1048576 : Int) < (nm.size : Int) := by omega
    go_enter Tryf.func3, Tryf.ntmps3
    go_wp2_with (first | (go_at_call 7; refine (role7 F nm _ _ (by exact hF)).mono ?_; rintro e w1 ⟨rfl, hb⟩) | go_in)
    go_ret
    exact ⟨rfl, ((Below.refl _ _).alloc (Nat.le_refl _) _).trans (hb.mono (by simp))⟩
  · have h1 : (1048576 : Int) < (nm.size : Int) := by omega
    go_enter Tryf.func3, Tryf.ntmps3
    go_wp2
    go_ret
    exact ⟨rfl, Below.refl _ _⟩

end Go.Proofs.Qxb6616284aFmt
