/-
  DERIVED. GIVEN WITH THE SEED: THE CARDS: each row of Qxb6616284aFmtRows.lean that lists a variable, with what it lists TIED to the program's text (the seventh form; the later family's looks); each row that meets fmt, with fmt's text TOLD by the authors' own Lean function (tested against real Go, not proved from fmt's source: count such statements apart). THE CARD IS WHAT COUNTS. Prove the row's statement (the work); the ties are given (Qxb6616284aFmtTie.lean); close each card by the builder's one call (the guide's Derived/Test/ToyasCard.lean, 'card_holds'). Laid BY PROGRAM, IN A SANDBOX (cutbox-door.mjs). By AI agents, Wed Nov 11 2026. No macro, syntax, notation, axiom, sorry.
-/
import Derived.Test.Qxb6616284aFmtRows
import GoSem.ClaimSeven
namespace Go.Proofs.Qxb6616284aFmt
namespace Rows

/-- THE TOLD CARD OF 'zzlaws_pkg_resource_b1.FnRoleScopeBreakRefusesUnknownRole'. -/
def fnRoleScopeBreakRefusesUnknownRoleCard : Claim7 := { stood := { row := fnRoleScopeBreakRefusesUnknownRoleRow, standIns := [], harness := (true, "b3ef36980f88fa5ab4a4a21d7750ac12de44c544e0d806a0bd9f8971c7a159cf"), looks := false }, told := true, goes := false }
def FnRoleScopeBreakRefusesUnknownRoleToldSaid : Prop := Claim7.holds Tryf.pinned (.plain (OpenSpec.ofChange fnRoleScopeBreakRefusesUnknownRoleSpec)) fnRoleScopeBreakRefusesUnknownRoleCard
/-- ITS FALSE NEIGHBOUR. Refute it at one input. -/
def FnRoleScopeBreakRefusesUnknownRoleToldWrongFalsely : Prop := Claim7.holds Tryf.pinned (.plain (OpenSpec.ofChange fnRoleScopeBreakRefusesUnknownRoleWrong)) fnRoleScopeBreakRefusesUnknownRoleCard

/-- THE TOLD CARD OF 'zzlaws_pkg_resource_b1.FnDocumentResultLabelIsRefOrPlace'. -/
def fnDocumentResultLabelIsRefOrPlaceCard : Claim7 := { stood := { row := fnDocumentResultLabelIsRefOrPlaceRow, standIns := [], harness := (true, "b3ef36980f88fa5ab4a4a21d7750ac12de44c544e0d806a0bd9f8971c7a159cf"), looks := false }, told := true, goes := false }
def FnDocumentResultLabelIsRefOrPlaceToldSaid : Prop := Claim7.holds Tryf.pinned (.plain (OpenSpec.ofChange fnDocumentResultLabelIsRefOrPlaceSpec)) fnDocumentResultLabelIsRefOrPlaceCard
/-- ITS FALSE NEIGHBOUR. Refute it at one input. -/
def FnDocumentResultLabelIsRefOrPlaceToldWrongFalsely : Prop := Claim7.holds Tryf.pinned (.plain (OpenSpec.ofChange fnDocumentResultLabelIsRefOrPlaceWrong)) fnDocumentResultLabelIsRefOrPlaceCard

/-- THE TOLD CARD OF 'zzlaws_pkg_resource_b1.FnDocumentResultCarriesRefusal'. -/
def fnDocumentResultCarriesRefusalCard : Claim7 := { stood := { row := fnDocumentResultCarriesRefusalRow, standIns := [], harness := (true, "b3ef36980f88fa5ab4a4a21d7750ac12de44c544e0d806a0bd9f8971c7a159cf"), looks := false }, told := true, goes := false }
def FnDocumentResultCarriesRefusalToldSaid : Prop := Claim7.holds Tryf.pinned (.plain (OpenSpec.ofChange fnDocumentResultCarriesRefusalSpec)) fnDocumentResultCarriesRefusalCard
/-- ITS FALSE NEIGHBOUR. Refute it at one input. -/
def FnDocumentResultCarriesRefusalToldWrongFalsely : Prop := Claim7.holds Tryf.pinned (.plain (OpenSpec.ofChange fnDocumentResultCarriesRefusalWrong)) fnDocumentResultCarriesRefusalCard
end Rows
end Go.Proofs.Qxb6616284aFmt
