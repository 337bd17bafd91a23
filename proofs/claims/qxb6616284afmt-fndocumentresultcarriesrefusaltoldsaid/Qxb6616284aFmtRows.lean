/-
  No cell of these rows narrows 'for every input' (looked for: loops, veiled, ifaces, maps, wideKeys, modest, calm, conditions, laid).
  DERIVED. THE GIVEN ROWS OF THIS SEAT. 3 by the template 'for every input the law returns true; each argument reads behind the call as it read before'; 0 by the template 'total and deterministic' (their statements: Qxb6616284aFmtTotals.lean).
  GIVEN WITH THE SEED: the statements are not yours to turn. If you find one false, say at which input.
  Laid BY PROGRAM, IN A SANDBOX (cutbox-rows.mjs): the forced cells as the released guide's own fill.sh prints them over the translation c2b321b43a1fd2e6… (all of the seat's roots in one cut). By AI agents, Wed Nov 11 2026. No macro, syntax, notation, axiom, sorry.
-/
import Derived.Test.Qxb6616284aFmtChecked
import GoSem.Claim
import GoSem.ClaimJoined
import GoSem.ClaimMapViews
import Derived.JoinedTies
import Derived.KernelRfl
namespace Go.Proofs.Qxb6616284aFmt
/- THE CELL 'sum', in the pinned program and in every row, IS THE sha256 OF THE DUMP (.gsa) THAT Qxb6616284aFmtProg.lean LOADS. Nothing in Lean hashes anything: it is a label: what it is worth is what the hold of that sum in a sandbox is worth. -/
noncomputable def Tryf.pinned : Pinned := { name := "qxb6616284afmt", sum := "c2b321b43a1fd2e640bf3e763ef8a44d939593b0afdccc88e67703978de84a27", checked := Tryf.checked }
namespace Rows
def none {H : Type} : Left H := { results := [], args := [] }

/-- 'zzlaws_pkg_resource_b1.FnRoleScopeBreakRefusesUnknownRole': WHATEVER THE INPUT: true; the input reads as it did. -/
def fnRoleScopeBreakRefusesUnknownRoleSpec : ChangeSpec := { name := "fnRoleScopeBreakRefusesUnknownRole", fn := fun _ => fun
  | [d] => { results := [.lit (.bool true)], args := [d] }
  | _ => none }
def fnRoleScopeBreakRefusesUnknownRoleRow : OpenClaim := { program := "qxb6616284afmt", sum := "c2b321b43a1fd2e640bf3e763ef8a44d939593b0afdccc88e67703978de84a27", func := "example.com/middelburg/middelburg/zzlaws_pkg_resource_b1.FnRoleScopeBreakRefusesUnknownRole", spec := "fnRoleScopeBreakRefusesUnknownRole", stops := ["fmt.Sprintf, its operands' methods called"], inPlace := ["fmt.Sprintf"], unfollowed := true, recurses := true, apart := false }
/-- NO THEOREM (fmt's text is open here; it may be false): for the released tool's asking of the row's closed facts alone. THE STATEMENT IS 'FnRoleScopeBreakRefusesUnknownRoleToldSaid' (Qxb6616284aFmtCards.lean). -/
def FnRoleScopeBreakRefusesUnknownRoleFormAsk : Prop := fnRoleScopeBreakRefusesUnknownRoleRow.holds Tryf.pinned (OpenSpec.ofChange fnRoleScopeBreakRefusesUnknownRoleSpec)

/-- ITS FALSE NEIGHBOUR: 'it returns false'. Refute it at one input. -/
def fnRoleScopeBreakRefusesUnknownRoleWrong : ChangeSpec := { name := "fnRoleScopeBreakRefusesUnknownRole", fn := fun _ => fun
  | [d] => { results := [.lit (.bool false)], args := [d] }
  | _ => none }
def FnRoleScopeBreakRefusesUnknownRoleWrongFormAsk : Prop := fnRoleScopeBreakRefusesUnknownRoleRow.holds Tryf.pinned (OpenSpec.ofChange fnRoleScopeBreakRefusesUnknownRoleWrong)

/-- 'zzlaws_pkg_resource_b1.FnDocumentResultLabelIsRefOrPlace': WHATEVER THE INPUT: true; the input reads as it did. -/
def fnDocumentResultLabelIsRefOrPlaceSpec : ChangeSpec := { name := "fnDocumentResultLabelIsRefOrPlace", fn := fun _ => fun
  | [d1, d2, d3, d4, d5] => { results := [.lit (.bool true)], args := [d1, d2, d3, d4, d5] }
  | _ => none }
def fnDocumentResultLabelIsRefOrPlaceRow : OpenClaim := { program := "qxb6616284afmt", sum := "c2b321b43a1fd2e640bf3e763ef8a44d939593b0afdccc88e67703978de84a27", func := "example.com/middelburg/middelburg/zzlaws_pkg_resource_b1.FnDocumentResultLabelIsRefOrPlace", spec := "fnDocumentResultLabelIsRefOrPlace", stops := ["fmt.Sprintf, its operands' methods called"], inPlace := ["fmt.Sprintf"], unfollowed := true, recurses := true, apart := false }
/-- NO THEOREM (fmt's text is open here; it may be false): for the released tool's asking of the row's closed facts alone. THE STATEMENT IS 'FnDocumentResultLabelIsRefOrPlaceToldSaid' (Qxb6616284aFmtCards.lean). -/
def FnDocumentResultLabelIsRefOrPlaceFormAsk : Prop := fnDocumentResultLabelIsRefOrPlaceRow.holds Tryf.pinned (OpenSpec.ofChange fnDocumentResultLabelIsRefOrPlaceSpec)

/-- ITS FALSE NEIGHBOUR: 'it returns false'. Refute it at one input. -/
def fnDocumentResultLabelIsRefOrPlaceWrong : ChangeSpec := { name := "fnDocumentResultLabelIsRefOrPlace", fn := fun _ => fun
  | [d1, d2, d3, d4, d5] => { results := [.lit (.bool false)], args := [d1, d2, d3, d4, d5] }
  | _ => none }
def FnDocumentResultLabelIsRefOrPlaceWrongFormAsk : Prop := fnDocumentResultLabelIsRefOrPlaceRow.holds Tryf.pinned (OpenSpec.ofChange fnDocumentResultLabelIsRefOrPlaceWrong)

/-- 'zzlaws_pkg_resource_b1.FnDocumentResultCarriesRefusal': WHATEVER THE INPUT: true; the input reads as it did. -/
def fnDocumentResultCarriesRefusalSpec : ChangeSpec := { name := "fnDocumentResultCarriesRefusal", fn := fun _ => fun
  | [d1, d2, d3, d4] => { results := [.lit (.bool true)], args := [d1, d2, d3, d4] }
  | _ => none }
def fnDocumentResultCarriesRefusalRow : OpenClaim := { program := "qxb6616284afmt", sum := "c2b321b43a1fd2e640bf3e763ef8a44d939593b0afdccc88e67703978de84a27", func := "example.com/middelburg/middelburg/zzlaws_pkg_resource_b1.FnDocumentResultCarriesRefusal", spec := "fnDocumentResultCarriesRefusal", stops := ["fmt.Sprintf, its operands' methods called"], inPlace := ["fmt.Sprintf"], unfollowed := true, recurses := true, apart := false }
/-- NO THEOREM (fmt's text is open here; it may be false): for the released tool's asking of the row's closed facts alone. THE STATEMENT IS 'FnDocumentResultCarriesRefusalToldSaid' (Qxb6616284aFmtCards.lean). -/
def FnDocumentResultCarriesRefusalFormAsk : Prop := fnDocumentResultCarriesRefusalRow.holds Tryf.pinned (OpenSpec.ofChange fnDocumentResultCarriesRefusalSpec)

/-- ITS FALSE NEIGHBOUR: 'it returns false'. Refute it at one input. -/
def fnDocumentResultCarriesRefusalWrong : ChangeSpec := { name := "fnDocumentResultCarriesRefusal", fn := fun _ => fun
  | [d1, d2, d3, d4] => { results := [.lit (.bool false)], args := [d1, d2, d3, d4] }
  | _ => none }
def FnDocumentResultCarriesRefusalWrongFormAsk : Prop := fnDocumentResultCarriesRefusalRow.holds Tryf.pinned (OpenSpec.ofChange fnDocumentResultCarriesRefusalWrong)

end Rows
end Go.Proofs.Qxb6616284aFmt
