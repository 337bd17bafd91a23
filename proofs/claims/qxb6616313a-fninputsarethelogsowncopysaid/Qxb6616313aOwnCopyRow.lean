/-
  The row of FnInputsAreTheLogsOwnCopy.
-/
import Derived.Test.Qxb6616313aRows
import Derived.Test.Qxb6616313aOwnCopy
import Derived.Test.Qxb6616313aOpen
import Derived.ShutString
import Derived.ChangeOld
import Derived.Below
import Derived.Carry
namespace Go.Proofs.Qxb6616313a
open Go.ChangeShapes Go.WideShapes Go.ChangeAt Go.RowKit

theorem owncopy_own : ownKnob Try.prog.godebug = none := by kernel_rfl
theorem owncopy_laidOut : laidOutB Try.prog = true := by kernel_rfl

set_option maxRecDepth 100000 in
theorem owncopy_lifted (os : Os) (started : os.Started) (H : Type) (enc : TypeId × Value → H) :
    ReturnsInHanded {} Try.checked os 7 .any (Rows.fnInputsAreTheLogsOwnCopySpec.pre6 enc Try.prog Try.f7 Rows.fnInputsAreTheLogsOwnCopyRow.domain false) (Rows.fnInputsAreTheLogsOwnCopySpec.post enc Try.prog Try.f7 false true false false) := by
  refine returnsInHanded_of_change (C := Try.checked) owncopy_own started (by kernel_rfl) Try.func7
    (ChangeSpec.witness6 (enc := enc) (C := Try.checked) false ⟨#[], #[.slice none 0 0], []⟩ 8 (by kernel_rfl) (by kernel_rfl) (by kernel_rfl) (by kernel_rfl)) ?_
  intro W base args ds gs before hval0 hW hcnd _
  have hval : ∀ (j : Nat) t v, Try.f7.params[j]? = some t → args[j]? = some v → Value.okWide Try.prog W .any base t v := hval0
  have hW' := hW
  obtain ⟨p, q, hA0, hV, rfl, hfz, hnd⟩ := hW
  have hA : DataW.TrodAll enc Try.prog W 0 (fun _ => true) true Try.f7.params.toList args.toList ds p := hA0
  rw [Try.params7] at hA hval
  obtain ⟨v0, d0, rfl, rfl, h0⟩ := trodAll_one hA
  obtain ⟨rfl, rfl⟩ := trodVars_none hV
  obtain ⟨a0, len0, cap0, rfl⟩ := okWide_slice Try.underlying65 (hval 0 65 v0 rfl rfl)
  have k0 := h0
  have lt0 : ∀ x ∈ p, x.block < W.heap.size := by obtain ⟨m, hm⟩ := k0; exact DataW.trod_lt m _ _ _ hm
  obtain ⟨xs, hlen, hP⟩ : ∃ xs, xs.length = len0 ∧ Parts W a0 cap0 xs := by
    obtain ⟨fuel, hf⟩ := h0
    exact open_parts (by simpa [Value.cells] using hf)
  clear hA0 hval0
  subst hlen
  refine (law7 a0 cap0 xs W hP).mono fun e W' ⟨he, bel⟩ => ?_
  subst he
  exact ⟨_, rfl, _, _, _, [], p, [], hW', trodAll_mk1 (shut_bool Try.underlying4 _), trodAll_mk1 (Below.trod owncopy_laidOut (by kernel_rfl) (of_decide_eq_true (by kernel_rfl)) k0 bel lt0), rfl, bel.frame _, fun h => by cases h⟩

theorem owncopy_over : Rows.fnInputsAreTheLogsOwnCopyRow.holds Try.pinned (OpenSpec.ofChange Rows.fnInputsAreTheLogsOwnCopySpec) :=
  OpenClaim.holds_of_wide 7 Try.f7 rfl rfl rfl rfl rfl rfl rfl ⟨rfl, rfl, rfl, rfl, rfl⟩ rfl rfl rfl rfl rfl (by kernel_rfl) Try.func7 (by kernel_rfl)
    (of_decide_eq_true (by kernel_rfl)) (by unfold Func.isWrapper; first | (rw [if_pos (by decide +kernel)]; kernel_rfl) | (rw [if_neg (by decide +kernel)]; exact ⟨rfl, rfl⟩))
    (fun os started H enc _ => owncopy_lifted os started H enc)

/-- THE STATEMENT. -/
theorem owncopy_holds : Rows.FnInputsAreTheLogsOwnCopySaid := owncopy_over
end Go.Proofs.Qxb6616313a
