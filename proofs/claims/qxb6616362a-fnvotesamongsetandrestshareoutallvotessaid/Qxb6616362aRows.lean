/-
  No cell of these rows narrows 'for every input' (looked for: loops, veiled, ifaces, maps, wideKeys, modest, calm, conditions, laid).
  DERIVED. THE GIVEN ROWS OF THIS SEAT. 4 by the template 'for every input the law returns true; each argument reads behind the call as it read before'; 0 by the template 'total and deterministic' (their statements: Qxb6616362aTotals.lean).
  GIVEN WITH THE SEED: the statements are not yours to turn. If you find one false, say at which input.
  Laid BY PROGRAM, IN A SANDBOX (cutbox-rows.mjs): the forced cells as the released guide's own fill.sh prints them over the translation ead04136f2c0b630… (all of the seat's roots in one cut). By AI agents, Wed Nov 11 2026. No macro, syntax, notation, axiom, sorry.
-/
import Derived.Test.Qxb6616362aChecked
import GoSem.Claim
import GoSem.ClaimJoined
import GoSem.ClaimMapViews
import Derived.JoinedTies
import Derived.KernelRfl
namespace Go.Proofs.Qxb6616362a
/- THE CELL 'sum', in the pinned program and in every row, IS THE sha256 OF THE DUMP (.gsa) THAT Qxb6616362aProg.lean LOADS. Nothing in Lean hashes anything: it is a label: what it is worth is what the hold of that sum in a sandbox is worth. -/
noncomputable def Try.pinned : Pinned := { name := "qxb6616362a", sum := "ead04136f2c0b630bb97f97a8dc223ca63945553993b9b353530600d3c056c6a", checked := Try.checked }
namespace Rows
def none {H : Type} : Left H := { results := [], args := [] }

/-- 'zzlaws_internal_protocol_b1.FnVotesAmongOneSiteMoreAddsJustItsVotes': WHATEVER THE INPUT: true; the input reads as it did. -/
def fnVotesAmongOneSiteMoreAddsJustItsVotesSpec : ChangeSpec := { name := "fnVotesAmongOneSiteMoreAddsJustItsVotes", fn := fun _ => fun
  | [d1, d2, d3, d4, d5, d6, d7] => { results := [.lit (.bool true)], args := [d1, d2, d3, d4, d5, d6, d7] }
  | _ => none }
def fnVotesAmongOneSiteMoreAddsJustItsVotesRow : OpenClaim := { program := "qxb6616362a", sum := "ead04136f2c0b630bb97f97a8dc223ca63945553993b9b353530600d3c056c6a", func := "example.com/quorate/quorate/zzlaws_internal_protocol_b1.FnVotesAmongOneSiteMoreAddsJustItsVotes", spec := "fnVotesAmongOneSiteMoreAddsJustItsVotes", unfollowed := true, recurses := true, apart := false }
def FnVotesAmongOneSiteMoreAddsJustItsVotesSaid : Prop := fnVotesAmongOneSiteMoreAddsJustItsVotesRow.holds Try.pinned (OpenSpec.ofChange fnVotesAmongOneSiteMoreAddsJustItsVotesSpec)

/-- ITS FALSE NEIGHBOUR: 'it returns false'. Refute it at one input. -/
def fnVotesAmongOneSiteMoreAddsJustItsVotesWrong : ChangeSpec := { name := "fnVotesAmongOneSiteMoreAddsJustItsVotes", fn := fun _ => fun
  | [d1, d2, d3, d4, d5, d6, d7] => { results := [.lit (.bool false)], args := [d1, d2, d3, d4, d5, d6, d7] }
  | _ => none }
def FnVotesAmongOneSiteMoreAddsJustItsVotesWrongFalsely : Prop := fnVotesAmongOneSiteMoreAddsJustItsVotesRow.holds Try.pinned (OpenSpec.ofChange fnVotesAmongOneSiteMoreAddsJustItsVotesWrong)

/-- 'zzlaws_internal_protocol_b1.FnIfVersionTwiceKeepsOnlyTheLast': WHATEVER THE INPUT: true; the input reads as it did. -/
def fnIfVersionTwiceKeepsOnlyTheLastSpec : ChangeSpec := { name := "fnIfVersionTwiceKeepsOnlyTheLast", fn := fun _ => fun
  | [d1, d2, d3, d4, d5, d6, d7] => { results := [.lit (.bool true)], args := [d1, d2, d3, d4, d5, d6, d7] }
  | _ => none }
def fnIfVersionTwiceKeepsOnlyTheLastRow : OpenClaim := { program := "qxb6616362a", sum := "ead04136f2c0b630bb97f97a8dc223ca63945553993b9b353530600d3c056c6a", func := "example.com/quorate/quorate/zzlaws_internal_protocol_b1.FnIfVersionTwiceKeepsOnlyTheLast", spec := "fnIfVersionTwiceKeepsOnlyTheLast", apart := false }
def FnIfVersionTwiceKeepsOnlyTheLastSaid : Prop := fnIfVersionTwiceKeepsOnlyTheLastRow.holds Try.pinned (OpenSpec.ofChange fnIfVersionTwiceKeepsOnlyTheLastSpec)

/-- ITS FALSE NEIGHBOUR: 'it returns false'. Refute it at one input. -/
def fnIfVersionTwiceKeepsOnlyTheLastWrong : ChangeSpec := { name := "fnIfVersionTwiceKeepsOnlyTheLast", fn := fun _ => fun
  | [d1, d2, d3, d4, d5, d6, d7] => { results := [.lit (.bool false)], args := [d1, d2, d3, d4, d5, d6, d7] }
  | _ => none }
def FnIfVersionTwiceKeepsOnlyTheLastWrongFalsely : Prop := fnIfVersionTwiceKeepsOnlyTheLastRow.holds Try.pinned (OpenSpec.ofChange fnIfVersionTwiceKeepsOnlyTheLastWrong)

/-- 'zzlaws_internal_protocol_b1.FnIfVersionVariantsOfOneOpStayApart': WHATEVER THE INPUT: true; the input reads as it did. -/
def fnIfVersionVariantsOfOneOpStayApartSpec : ChangeSpec := { name := "fnIfVersionVariantsOfOneOpStayApart", fn := fun _ => fun
  | [d1, d2, d3, d4, d5, d6, d7] => { results := [.lit (.bool true)], args := [d1, d2, d3, d4, d5, d6, d7] }
  | _ => none }
def fnIfVersionVariantsOfOneOpStayApartRow : OpenClaim := { program := "qxb6616362a", sum := "ead04136f2c0b630bb97f97a8dc223ca63945553993b9b353530600d3c056c6a", func := "example.com/quorate/quorate/zzlaws_internal_protocol_b1.FnIfVersionVariantsOfOneOpStayApart", spec := "fnIfVersionVariantsOfOneOpStayApart", apart := false }
def FnIfVersionVariantsOfOneOpStayApartSaid : Prop := fnIfVersionVariantsOfOneOpStayApartRow.holds Try.pinned (OpenSpec.ofChange fnIfVersionVariantsOfOneOpStayApartSpec)

/-- ITS FALSE NEIGHBOUR: 'it returns false'. Refute it at one input. -/
def fnIfVersionVariantsOfOneOpStayApartWrong : ChangeSpec := { name := "fnIfVersionVariantsOfOneOpStayApart", fn := fun _ => fun
  | [d1, d2, d3, d4, d5, d6, d7] => { results := [.lit (.bool false)], args := [d1, d2, d3, d4, d5, d6, d7] }
  | _ => none }
def FnIfVersionVariantsOfOneOpStayApartWrongFalsely : Prop := fnIfVersionVariantsOfOneOpStayApartRow.holds Try.pinned (OpenSpec.ofChange fnIfVersionVariantsOfOneOpStayApartWrong)

/-- 'zzlaws_internal_protocol_b1.FnVotesAmongSetAndRestShareOutAllVotes': WHATEVER THE INPUT: true; the input reads as it did. -/
def fnVotesAmongSetAndRestShareOutAllVotesSpec : ChangeSpec := { name := "fnVotesAmongSetAndRestShareOutAllVotes", fn := fun _ => fun
  | [d1, d2, d3, d4, d5, d6] => { results := [.lit (.bool true)], args := [d1, d2, d3, d4, d5, d6] }
  | _ => none }
def fnVotesAmongSetAndRestShareOutAllVotesRow : OpenClaim := { program := "qxb6616362a", sum := "ead04136f2c0b630bb97f97a8dc223ca63945553993b9b353530600d3c056c6a", func := "example.com/quorate/quorate/zzlaws_internal_protocol_b1.FnVotesAmongSetAndRestShareOutAllVotes", spec := "fnVotesAmongSetAndRestShareOutAllVotes", unfollowed := true, recurses := true, apart := false }
def FnVotesAmongSetAndRestShareOutAllVotesSaid : Prop := fnVotesAmongSetAndRestShareOutAllVotesRow.holds Try.pinned (OpenSpec.ofChange fnVotesAmongSetAndRestShareOutAllVotesSpec)

/-- ITS FALSE NEIGHBOUR: 'it returns false'. Refute it at one input. -/
def fnVotesAmongSetAndRestShareOutAllVotesWrong : ChangeSpec := { name := "fnVotesAmongSetAndRestShareOutAllVotes", fn := fun _ => fun
  | [d1, d2, d3, d4, d5, d6] => { results := [.lit (.bool false)], args := [d1, d2, d3, d4, d5, d6] }
  | _ => none }
def FnVotesAmongSetAndRestShareOutAllVotesWrongFalsely : Prop := fnVotesAmongSetAndRestShareOutAllVotesRow.holds Try.pinned (OpenSpec.ofChange fnVotesAmongSetAndRestShareOutAllVotesWrong)

end Rows
end Go.Proofs.Qxb6616362a
