/-
  The told card of FnRoleScopeBreakRefusesUnknownRole.
-/
import Derived.Test.Qxb6616284aFmtRole
import Derived.Test.Qxb6616284aFmtCards
import Derived.ProofKit
import Derived.Stop.JoinedAt
import Derived.Stop.Texts
import Derived.Stop.JoinedTold
import Derived.Stop.FmtTextKit
import Derived.Stop.FmtTextVerbs
import Derived.SizedLaws
import Derived.SevenToldRow
namespace Go.Proofs.Qxb6616284aFmt
open Go.ChangeShapes Go.WideShapes Go.ChangeAt Go.RowKit Go.Kit
open Go.ChangeMaps (open_string shut_string)
open Go.Extern.Stop Go.Stop Go.Extern

theorem role_own : ownKnob Tryf.prog.godebug = none := by kernel_rfl

theorem role_parse : (FmtText.parse [114, 111, 108, 101, 32, 37, 115, 32, 105, 115, 32, 110, 111, 116, 32, 107, 110, 111, 119, 110]).map FmtText.glue = some [.lit [114, 111, 108, 101, 32], .verb {} 115, .lit [32, 105, 115, 32, 110, 111, 116, 32, 107, 110, 111, 119, 110]] := by rfl

/-- The text: 'role NAME is not known'. -/
def roleText (nm : List UInt8) : List UInt8 := [114, 111, 108, 101, 32] ++ nm ++ [32, 105, 115, 32, 110, 111, 116, 32, 107, 110, 111, 119, 110]

theorem role_text (nm : List UInt8) (hs : nm.length < 2 ^ 64) : FmtText.text "fmt.Sprintf" (roleReading nm) = some (roleText nm) := by
  have hn := FmtText.operand_str_at (sh := Tryf.shape9) rfl rfl nm hs
  rw [roleReading, FmtText.text_sprintf_glued role_parse (FmtText.operands_cons hn FmtText.operands_nil)]
  simp [FmtText.render, FmtText.printArg_s_str, roleText]

set_option maxRecDepth 100000 in
theorem role_lifted (os : Os) (started : os.Started) (H : Type) (enc : TypeId × Value → H) :
    ReturnsInTold none {} Tryf.checked os 3 .any Input.okWide ((OpenSpec.ofChange Rows.fnRoleScopeBreakRefusesUnknownRoleSpec).preRow enc Tryf.prog Tryf.f3 [] false []) (fun F => ((OpenSpec.ofChange Rows.fnRoleScopeBreakRefusesUnknownRoleSpec).at F).post enc Tryf.prog Tryf.f3 false true false false) (aloneAtReturn Tryf.prog) nothingAlways := by
  refine returnsInTold_of_row (C := Tryf.checked) (s := OpenSpec.ofChange Rows.fnRoleScopeBreakRefusesUnknownRoleSpec) (by kernel_rfl) role_own started (by kernel_rfl) Tryf.func3
    (OpenSpec.witness_stopped (enc := enc) (C := Tryf.checked) false ⟨#[], #[.string ⟨#[]⟩], []⟩ 8 (by kernel_rfl) (by kernel_rfl) (by kernel_rfl) (by kernel_rfl)) ?_
  intro F W base args ds gs before _ hF hval0 hW _ _ hsz _ _
  have hval : ∀ (j : Nat) t v, Tryf.f3.params[j]? = some t → args[j]? = some v → Value.okWide Tryf.prog W .any base t v := hval0
  have hW' := hW
  obtain ⟨p, q, hA0, hV, rfl, hfz, hnd⟩ := hW
  have hA : DataW.TrodAll enc Tryf.prog W 0 (fun _ => true) true Tryf.f3.params.toList args.toList ds p := hA0
  rw [Tryf.params3] at hA hval
  obtain ⟨v0, d0, rfl, rfl, h0⟩ := trodAll_one hA
  obtain ⟨rfl, rfl⟩ := trodVars_none hV
  obtain ⟨nm, rfl, rfl, rfl, wnm⟩ := open_string Tryf.underlying9 (hval 0 9 v0 rfl rfl) h0
  clear hA0 hval0
  have hlen : nm.data.toList.length ≤ reachBytes := sized_string hsz (j := 0) (t := 9) rfl rfl
  have hr47 := reachBytes_lt
  have ht := told_string F (role_text nm.data.toList (by omega)) (by simp [roleText]; simp at hlen; omega)
  have hne : (FmtStop.textOf (F.told "fmt.Sprintf" (roleReading nm.data.toList) 0)).toList.isEmpty = false := by
    rw [ByteArray.toList_eq, textOf_list, ht]
    simp [roleText]
  refine (role3 F.told nm W hF hne).mono fun e W' ⟨he, hw⟩ => ?_
  subst he
  refine ⟨_, rfl, _, _, _, [], [], [], hW', ?_, ?_, rfl, hw.frame _, fun h => by cases h⟩
  · exact trodAll_mk1 (shut_bool Tryf.underlying4 _)
  · exact trodAll_mk1 (shut_string Tryf.underlying9 wnm)

theorem role_laidOut : laidOutB Tryf.pinned.checked.prog = true := by kernel_rfl
theorem role_stopKnobs : Tryf.pinned.checked.prog.stopKnobs = [] := by kernel_rfl
theorem role_quiet (os : Os) : Stop.quiet Tryf.pinned.checked.prog os := by
  intro k hk
  rw [role_stopKnobs] at hk
  cases hk

/-- THE STATEMENT. -/
theorem role_holds : Rows.FnRoleScopeBreakRefusesUnknownRoleToldSaid :=
  Claim7.holds_of_told_any (c := Rows.fnRoleScopeBreakRefusesUnknownRoleRow) 3 Tryf.f3 _ [] [] _ _ _ (by kernel_rfl) rfl rfl rfl role_laidOut (by kernel_rfl) rfl ⟨rfl, rfl, rfl, rfl, rfl, rfl, rfl⟩ rfl rfl (by kernel_rfl) (by kernel_rfl) Tryf.func3 (by kernel_rfl)
    (of_decide_eq_true (by kernel_rfl)) (of_decide_eq_true (by kernel_rfl)) (by kernel_rfl) rfl role_stopKnobs.symm (by kernel_rfl)
    (by kernel_rfl) (by kernel_rfl) (by kernel_rfl) (by kernel_rfl) (by kernel_rfl) (by kernel_rfl) (by kernel_rfl) (by kernel_rfl) (by kernel_rfl) rfl (by kernel_rfl) rfl rfl
    rfl rfl
    rfl (by kernel_rfl) (by kernel_rfl) (by kernel_rfl) (by decide) (by kernel_rfl)
    (OpenClaim.moreEntering_of (by kernel_rfl) (by kernel_rfl) (by kernel_rfl) (by kernel_rfl) (by kernel_rfl) (by kernel_rfl) (by kernel_rfl) (by kernel_rfl) (by kernel_rfl) (by kernel_rfl))
    ⟨_, WideRow.started_initial, role_quiet _⟩
    (fun os started _ H enc _ => role_lifted os started H enc)

end Go.Proofs.Qxb6616284aFmt
