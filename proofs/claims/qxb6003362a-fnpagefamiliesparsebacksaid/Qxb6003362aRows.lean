/-
  No cell of these rows narrows 'for every input' (looked for: loops, veiled, ifaces, maps, wideKeys, modest, calm, conditions, laid).
  DERIVED. THE GIVEN ROWS OF THIS SEAT. 2 by the template 'for every input the law returns true; each argument reads behind the call as it read before'; 0 by the template 'total and deterministic' (their statements: Qxb6003362aTotals.lean).
  GIVEN WITH THE SEED: the statements are not yours to turn. If you find one false, say at which input.
  Laid BY PROGRAM, IN A SANDBOX (cutbox-rows.mjs): the forced cells as the released guide's own fill.sh prints them over the translation 82618be24629513e… (all of the seat's roots in one cut). By AI agents, Wed Nov 11 2026. No macro, syntax, notation, axiom, sorry.
-/
import Derived.Test.Qxb6003362aChecked
import GoSem.Claim
import GoSem.ClaimJoined
import GoSem.ClaimMapViews
import Derived.JoinedTies
import Derived.KernelRfl
namespace Go.Proofs.Qxb6003362a
/- THE CELL 'sum', in the pinned program and in every row, IS THE sha256 OF THE DUMP (.gsa) THAT Qxb6003362aProg.lean LOADS. Nothing in Lean hashes anything: it is a label: what it is worth is what the hold of that sum in a sandbox is worth. -/
noncomputable def Try.pinned : Pinned := { name := "qxb6003362a", sum := "82618be24629513ecca0974b4bbe4530b25d6e0e34711cfa90ede4784635224c", checked := Try.checked }
namespace Rows
def none {H : Type} : Left H := { results := [], args := [] }

/-- 'zzlaws_metrics_g1.FnAppendEscapedRoundTrip': WHATEVER THE INPUT: true; the input reads as it did. -/
def fnAppendEscapedRoundTripSpec : ChangeSpec := { name := "fnAppendEscapedRoundTrip", fn := fun _ => fun
  | [d1, d2, d3] => { results := [.lit (.bool true)], args := [d1, d2, d3] }
  | _ => none }
def fnAppendEscapedRoundTripRow : OpenClaim := { program := "qxb6003362a", sum := "82618be24629513ecca0974b4bbe4530b25d6e0e34711cfa90ede4784635224c", func := "example.com/keystile/keystile/zzlaws_metrics_g1.FnAppendEscapedRoundTrip", spec := "fnAppendEscapedRoundTrip", apart := false }
def FnAppendEscapedRoundTripSaid : Prop := fnAppendEscapedRoundTripRow.holds Try.pinned (OpenSpec.ofChange fnAppendEscapedRoundTripSpec)

/-- ITS FALSE NEIGHBOUR: 'it returns false'. Refute it at one input. -/
def fnAppendEscapedRoundTripWrong : ChangeSpec := { name := "fnAppendEscapedRoundTrip", fn := fun _ => fun
  | [d1, d2, d3] => { results := [.lit (.bool false)], args := [d1, d2, d3] }
  | _ => none }
def FnAppendEscapedRoundTripWrongFalsely : Prop := fnAppendEscapedRoundTripRow.holds Try.pinned (OpenSpec.ofChange fnAppendEscapedRoundTripWrong)

/-- 'zzlaws_metrics_g1.FnPageFamiliesParseBack': WHATEVER THE INPUT: true; the input reads as it did. -/
def fnPageFamiliesParseBackSpec : ChangeSpec := { name := "fnPageFamiliesParseBack", fn := fun _ => fun
  | [d1, d2, d3] => { results := [.lit (.bool true)], args := [d1, d2, d3] }
  | _ => none }
def fnPageFamiliesParseBackRow : OpenClaim := { program := "qxb6003362a", sum := "82618be24629513ecca0974b4bbe4530b25d6e0e34711cfa90ede4784635224c", func := "example.com/keystile/keystile/zzlaws_metrics_g1.FnPageFamiliesParseBack", spec := "fnPageFamiliesParseBack", apart := false }
def FnPageFamiliesParseBackSaid : Prop := fnPageFamiliesParseBackRow.holds Try.pinned (OpenSpec.ofChange fnPageFamiliesParseBackSpec)

/-- ITS FALSE NEIGHBOUR: 'it returns false'. Refute it at one input. -/
def fnPageFamiliesParseBackWrong : ChangeSpec := { name := "fnPageFamiliesParseBack", fn := fun _ => fun
  | [d1, d2, d3] => { results := [.lit (.bool false)], args := [d1, d2, d3] }
  | _ => none }
def FnPageFamiliesParseBackWrongFalsely : Prop := fnPageFamiliesParseBackRow.holds Try.pinned (OpenSpec.ofChange fnPageFamiliesParseBackWrong)

end Rows
end Go.Proofs.Qxb6003362a
