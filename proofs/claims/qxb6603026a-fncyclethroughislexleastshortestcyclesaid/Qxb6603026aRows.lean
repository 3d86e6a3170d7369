/-
  No cell of these rows narrows 'for every input' (looked for: loops, veiled, ifaces, maps, wideKeys, modest, calm, conditions, laid).
  DERIVED. THE GIVEN ROWS OF THIS SEAT. 6 by the template 'for every input the law returns true; each argument reads behind the call as it read before'; 0 by the template 'total and deterministic' (their statements: Qxb6603026aTotals.lean).
  GIVEN WITH THE SEED: the statements are not yours to turn. If you find one false, say at which input.
  Laid BY PROGRAM, IN A SANDBOX (cutbox-rows.mjs): the forced cells as the released guide's own fill.sh prints them over the translation 44f8ca1df1417817… (all of the seat's roots in one cut). By AI agents, Wed Nov 11 2026. No macro, syntax, notation, axiom, sorry.
-/
import Derived.Test.Qxb6603026aChecked
import GoSem.Claim
import GoSem.ClaimJoined
import GoSem.ClaimMapViews
import Derived.JoinedTies
import Derived.KernelRfl
namespace Go.Proofs.Qxb6603026a
/- THE CELL 'sum', in the pinned program and in every row, IS THE sha256 OF THE DUMP (.gsa) THAT Qxb6603026aProg.lean LOADS. Nothing in Lean hashes anything: it is a label: what it is worth is what the hold of that sum in a sandbox is worth. -/
noncomputable def Try.pinned : Pinned := { name := "qxb6603026a", sum := "44f8ca1df1417817557bd6556565f91e70283ecdc18263e1d2b6facf76f0cd61", checked := Try.checked }
namespace Rows
def none {H : Type} : Left H := { results := [], args := [] }

/-- 'zzlaws_internal_definition_b1.FnGroupsMatchKosarajuModel': WHATEVER THE INPUT: true; the input reads as it did. -/
def fnGroupsMatchKosarajuModelSpec : ChangeSpec := { name := "fnGroupsMatchKosarajuModel", fn := fun _ => fun
  | [d] => { results := [.lit (.bool true)], args := [d] }
  | _ => none }
def fnGroupsMatchKosarajuModelRow : OpenClaim := { program := "qxb6603026a", sum := "44f8ca1df1417817557bd6556565f91e70283ecdc18263e1d2b6facf76f0cd61", func := "example.com/amends/amends/zzlaws_internal_definition_b1.FnGroupsMatchKosarajuModel", spec := "fnGroupsMatchKosarajuModel", unfollowed := true, recurses := true, plainKeys := false, apart := false }
def FnGroupsMatchKosarajuModelSaid : Prop := fnGroupsMatchKosarajuModelRow.holds Try.pinned (OpenSpec.ofChange fnGroupsMatchKosarajuModelSpec)

/-- ITS FALSE NEIGHBOUR: 'it returns false'. Refute it at one input. -/
def fnGroupsMatchKosarajuModelWrong : ChangeSpec := { name := "fnGroupsMatchKosarajuModel", fn := fun _ => fun
  | [d] => { results := [.lit (.bool false)], args := [d] }
  | _ => none }
def FnGroupsMatchKosarajuModelWrongFalsely : Prop := fnGroupsMatchKosarajuModelRow.holds Try.pinned (OpenSpec.ofChange fnGroupsMatchKosarajuModelWrong)

/-- 'zzlaws_internal_definition_b1.FnGroupsAreOrderedStronglyConnectedParts': WHATEVER THE INPUT: true; the input reads as it did. -/
def fnGroupsAreOrderedStronglyConnectedPartsSpec : ChangeSpec := { name := "fnGroupsAreOrderedStronglyConnectedParts", fn := fun _ => fun
  | [d] => { results := [.lit (.bool true)], args := [d] }
  | _ => none }
def fnGroupsAreOrderedStronglyConnectedPartsRow : OpenClaim := { program := "qxb6603026a", sum := "44f8ca1df1417817557bd6556565f91e70283ecdc18263e1d2b6facf76f0cd61", func := "example.com/amends/amends/zzlaws_internal_definition_b1.FnGroupsAreOrderedStronglyConnectedParts", spec := "fnGroupsAreOrderedStronglyConnectedParts", unfollowed := true, recurses := true, plainKeys := false, apart := false }
def FnGroupsAreOrderedStronglyConnectedPartsSaid : Prop := fnGroupsAreOrderedStronglyConnectedPartsRow.holds Try.pinned (OpenSpec.ofChange fnGroupsAreOrderedStronglyConnectedPartsSpec)

/-- ITS FALSE NEIGHBOUR: 'it returns false'. Refute it at one input. -/
def fnGroupsAreOrderedStronglyConnectedPartsWrong : ChangeSpec := { name := "fnGroupsAreOrderedStronglyConnectedParts", fn := fun _ => fun
  | [d] => { results := [.lit (.bool false)], args := [d] }
  | _ => none }
def FnGroupsAreOrderedStronglyConnectedPartsWrongFalsely : Prop := fnGroupsAreOrderedStronglyConnectedPartsRow.holds Try.pinned (OpenSpec.ofChange fnGroupsAreOrderedStronglyConnectedPartsWrong)

/-- 'zzlaws_internal_definition_b1.FnCycleThroughIsLexLeastShortestCycle': WHATEVER THE INPUT: true; the input reads as it did. -/
def fnCycleThroughIsLexLeastShortestCycleSpec : ChangeSpec := { name := "fnCycleThroughIsLexLeastShortestCycle", fn := fun _ => fun
  | [d1, d2, d3] => { results := [.lit (.bool true)], args := [d1, d2, d3] }
  | _ => none }
def fnCycleThroughIsLexLeastShortestCycleRow : OpenClaim := { program := "qxb6603026a", sum := "44f8ca1df1417817557bd6556565f91e70283ecdc18263e1d2b6facf76f0cd61", func := "example.com/amends/amends/zzlaws_internal_definition_b1.FnCycleThroughIsLexLeastShortestCycle", spec := "fnCycleThroughIsLexLeastShortestCycle", plainKeys := false, apart := false }
def FnCycleThroughIsLexLeastShortestCycleSaid : Prop := fnCycleThroughIsLexLeastShortestCycleRow.holds Try.pinned (OpenSpec.ofChange fnCycleThroughIsLexLeastShortestCycleSpec)

/-- ITS FALSE NEIGHBOUR: 'it returns false'. Refute it at one input. -/
def fnCycleThroughIsLexLeastShortestCycleWrong : ChangeSpec := { name := "fnCycleThroughIsLexLeastShortestCycle", fn := fun _ => fun
  | [d1, d2, d3] => { results := [.lit (.bool false)], args := [d1, d2, d3] }
  | _ => none }
def FnCycleThroughIsLexLeastShortestCycleWrongFalsely : Prop := fnCycleThroughIsLexLeastShortestCycleRow.holds Try.pinned (OpenSpec.ofChange fnCycleThroughIsLexLeastShortestCycleWrong)

/-- 'zzlaws_internal_definition_b1.FnCycleThroughStaysInsideEachGroup': WHATEVER THE INPUT: true; the input reads as it did. -/
def fnCycleThroughStaysInsideEachGroupSpec : ChangeSpec := { name := "fnCycleThroughStaysInsideEachGroup", fn := fun _ => fun
  | [d] => { results := [.lit (.bool true)], args := [d] }
  | _ => none }
def fnCycleThroughStaysInsideEachGroupRow : OpenClaim := { program := "qxb6603026a", sum := "44f8ca1df1417817557bd6556565f91e70283ecdc18263e1d2b6facf76f0cd61", func := "example.com/amends/amends/zzlaws_internal_definition_b1.FnCycleThroughStaysInsideEachGroup", spec := "fnCycleThroughStaysInsideEachGroup", unfollowed := true, recurses := true, plainKeys := false, apart := false }
def FnCycleThroughStaysInsideEachGroupSaid : Prop := fnCycleThroughStaysInsideEachGroupRow.holds Try.pinned (OpenSpec.ofChange fnCycleThroughStaysInsideEachGroupSpec)

/-- ITS FALSE NEIGHBOUR: 'it returns false'. Refute it at one input. -/
def fnCycleThroughStaysInsideEachGroupWrong : ChangeSpec := { name := "fnCycleThroughStaysInsideEachGroup", fn := fun _ => fun
  | [d] => { results := [.lit (.bool false)], args := [d] }
  | _ => none }
def FnCycleThroughStaysInsideEachGroupWrongFalsely : Prop := fnCycleThroughStaysInsideEachGroupRow.holds Try.pinned (OpenSpec.ofChange fnCycleThroughStaysInsideEachGroupWrong)

/-- 'zzlaws_internal_definition_b1.FnIndexTokensMatchGrammarParser': WHATEVER THE INPUT: true; the input reads as it did. -/
def fnIndexTokensMatchGrammarParserSpec : ChangeSpec := { name := "fnIndexTokensMatchGrammarParser", fn := fun _ => fun
  | [d] => { results := [.lit (.bool true)], args := [d] }
  | _ => none }
def fnIndexTokensMatchGrammarParserRow : OpenClaim := { program := "qxb6603026a", sum := "44f8ca1df1417817557bd6556565f91e70283ecdc18263e1d2b6facf76f0cd61", func := "example.com/amends/amends/zzlaws_internal_definition_b1.FnIndexTokensMatchGrammarParser", spec := "fnIndexTokensMatchGrammarParser", inPlace := ["internal/bytealg.IndexByteString"], recurses := true, plainKeys := false, apart := false }
def FnIndexTokensMatchGrammarParserSaid : Prop := fnIndexTokensMatchGrammarParserRow.holds Try.pinned (OpenSpec.ofChange fnIndexTokensMatchGrammarParserSpec)

/-- ITS FALSE NEIGHBOUR: 'it returns false'. Refute it at one input. -/
def fnIndexTokensMatchGrammarParserWrong : ChangeSpec := { name := "fnIndexTokensMatchGrammarParser", fn := fun _ => fun
  | [d] => { results := [.lit (.bool false)], args := [d] }
  | _ => none }
def FnIndexTokensMatchGrammarParserWrongFalsely : Prop := fnIndexTokensMatchGrammarParserRow.holds Try.pinned (OpenSpec.ofChange fnIndexTokensMatchGrammarParserWrong)

/-- 'zzlaws_internal_definition_b1.FnIndexTokensNestAndCoverTheText': WHATEVER THE INPUT: true; the input reads as it did. -/
def fnIndexTokensNestAndCoverTheTextSpec : ChangeSpec := { name := "fnIndexTokensNestAndCoverTheText", fn := fun _ => fun
  | [d] => { results := [.lit (.bool true)], args := [d] }
  | _ => none }
def fnIndexTokensNestAndCoverTheTextRow : OpenClaim := { program := "qxb6603026a", sum := "44f8ca1df1417817557bd6556565f91e70283ecdc18263e1d2b6facf76f0cd61", func := "example.com/amends/amends/zzlaws_internal_definition_b1.FnIndexTokensNestAndCoverTheText", spec := "fnIndexTokensNestAndCoverTheText", inPlace := ["internal/bytealg.IndexByteString"], recurses := true, plainKeys := false, apart := false }
def FnIndexTokensNestAndCoverTheTextSaid : Prop := fnIndexTokensNestAndCoverTheTextRow.holds Try.pinned (OpenSpec.ofChange fnIndexTokensNestAndCoverTheTextSpec)

/-- ITS FALSE NEIGHBOUR: 'it returns false'. Refute it at one input. -/
def fnIndexTokensNestAndCoverTheTextWrong : ChangeSpec := { name := "fnIndexTokensNestAndCoverTheText", fn := fun _ => fun
  | [d] => { results := [.lit (.bool false)], args := [d] }
  | _ => none }
def FnIndexTokensNestAndCoverTheTextWrongFalsely : Prop := fnIndexTokensNestAndCoverTheTextRow.holds Try.pinned (OpenSpec.ofChange fnIndexTokensNestAndCoverTheTextWrong)

end Rows
end Go.Proofs.Qxb6603026a
