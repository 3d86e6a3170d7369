/-
  No cell of these rows narrows 'for every input' (looked for: loops, veiled, ifaces, maps, wideKeys, modest, calm, conditions, laid).
  DERIVED. THE GIVEN ROWS OF THIS SEAT. 8 by the template 'for every input the law returns true; each argument reads behind the call as it read before'; 0 by the template 'total and deterministic' (their statements: Qxb6003464aTotals.lean).
  GIVEN WITH THE SEED: the statements are not yours to turn. If you find one false, say at which input.
  Laid BY PROGRAM, IN A SANDBOX (cutbox-rows.mjs): the forced cells as the released guide's own fill.sh prints them over the translation dc3f9aebe4d3bbdb… (all of the seat's roots in one cut). By AI agents, Wed Nov 11 2026. No macro, syntax, notation, axiom, sorry.
-/
import Derived.Test.Qxb6003464aChecked
import GoSem.Claim
import GoSem.ClaimJoined
import GoSem.ClaimMapViews
import Derived.JoinedTies
import Derived.KernelRfl
namespace Go.Proofs.Qxb6003464a
/- THE CELL 'sum', in the pinned program and in every row, IS THE sha256 OF THE DUMP (.gsa) THAT Qxb6003464aProg.lean LOADS. Nothing in Lean hashes anything: it is a label: what it is worth is what the hold of that sum in a sandbox is worth. -/
noncomputable def Try.pinned : Pinned := { name := "qxb6003464a", sum := "dc3f9aebe4d3bbdb76eadc7311b8b09ccea9e45a3cd3fc7794c5e548e6f66540", checked := Try.checked }
namespace Rows
def none {H : Type} : Left H := { results := [], args := [] }

/-- 'zzlaws_internal_alloc_b2.FnWidenSkipExact': WHATEVER THE INPUT: true; the input reads as it did. -/
def fnWidenSkipExactSpec : ChangeSpec := { name := "fnWidenSkipExact", fn := fun _ => fun
  | [d1, d2, d3] => { results := [.lit (.bool true)], args := [d1, d2, d3] }
  | _ => none }
def fnWidenSkipExactRow : OpenClaim := { program := "qxb6003464a", sum := "dc3f9aebe4d3bbdb76eadc7311b8b09ccea9e45a3cd3fc7794c5e548e6f66540", func := "example.com/allotment/allotment/zzlaws_internal_alloc_b2.FnWidenSkipExact", spec := "fnWidenSkipExact", apart := false }
def FnWidenSkipExactSaid : Prop := fnWidenSkipExactRow.holds Try.pinned (OpenSpec.ofChange fnWidenSkipExactSpec)

/-- ITS FALSE NEIGHBOUR: 'it returns false'. Refute it at one input. -/
def fnWidenSkipExactWrong : ChangeSpec := { name := "fnWidenSkipExact", fn := fun _ => fun
  | [d1, d2, d3] => { results := [.lit (.bool false)], args := [d1, d2, d3] }
  | _ => none }
def FnWidenSkipExactWrongFalsely : Prop := fnWidenSkipExactRow.holds Try.pinned (OpenSpec.ofChange fnWidenSkipExactWrong)

/-- 'zzlaws_internal_alloc_b2.FnWidenOrderAndStaleFree': WHATEVER THE INPUT: true; the input reads as it did. -/
def fnWidenOrderAndStaleFreeSpec : ChangeSpec := { name := "fnWidenOrderAndStaleFree", fn := fun _ => fun
  | [d1, d2, d3, d4, d5, d6, d7] => { results := [.lit (.bool true)], args := [d1, d2, d3, d4, d5, d6, d7] }
  | _ => none }
def fnWidenOrderAndStaleFreeRow : OpenClaim := { program := "qxb6003464a", sum := "dc3f9aebe4d3bbdb76eadc7311b8b09ccea9e45a3cd3fc7794c5e548e6f66540", func := "example.com/allotment/allotment/zzlaws_internal_alloc_b2.FnWidenOrderAndStaleFree", spec := "fnWidenOrderAndStaleFree", apart := false }
def FnWidenOrderAndStaleFreeSaid : Prop := fnWidenOrderAndStaleFreeRow.holds Try.pinned (OpenSpec.ofChange fnWidenOrderAndStaleFreeSpec)

/-- ITS FALSE NEIGHBOUR: 'it returns false'. Refute it at one input. -/
def fnWidenOrderAndStaleFreeWrong : ChangeSpec := { name := "fnWidenOrderAndStaleFree", fn := fun _ => fun
  | [d1, d2, d3, d4, d5, d6, d7] => { results := [.lit (.bool false)], args := [d1, d2, d3, d4, d5, d6, d7] }
  | _ => none }
def FnWidenOrderAndStaleFreeWrongFalsely : Prop := fnWidenOrderAndStaleFreeRow.holds Try.pinned (OpenSpec.ofChange fnWidenOrderAndStaleFreeWrong)

/-- 'zzlaws_internal_alloc_b2.FnWidenOfConcatIsMax': WHATEVER THE INPUT: true; the input reads as it did. -/
def fnWidenOfConcatIsMaxSpec : ChangeSpec := { name := "fnWidenOfConcatIsMax", fn := fun _ => fun
  | [d1, d2] => { results := [.lit (.bool true)], args := [d1, d2] }
  | _ => none }
def fnWidenOfConcatIsMaxRow : OpenClaim := { program := "qxb6003464a", sum := "dc3f9aebe4d3bbdb76eadc7311b8b09ccea9e45a3cd3fc7794c5e548e6f66540", func := "example.com/allotment/allotment/zzlaws_internal_alloc_b2.FnWidenOfConcatIsMax", spec := "fnWidenOfConcatIsMax", apart := false }
def FnWidenOfConcatIsMaxSaid : Prop := fnWidenOfConcatIsMaxRow.holds Try.pinned (OpenSpec.ofChange fnWidenOfConcatIsMaxSpec)

/-- ITS FALSE NEIGHBOUR: 'it returns false'. Refute it at one input. -/
def fnWidenOfConcatIsMaxWrong : ChangeSpec := { name := "fnWidenOfConcatIsMax", fn := fun _ => fun
  | [d1, d2] => { results := [.lit (.bool false)], args := [d1, d2] }
  | _ => none }
def FnWidenOfConcatIsMaxWrongFalsely : Prop := fnWidenOfConcatIsMaxRow.holds Try.pinned (OpenSpec.ofChange fnWidenOfConcatIsMaxWrong)

/-- 'zzlaws_internal_alloc_b2.FnListLenCountsEveryItem': WHATEVER THE INPUT: true; the input reads as it did. -/
def fnListLenCountsEveryItemSpec : ChangeSpec := { name := "fnListLenCountsEveryItem", fn := fun _ => fun
  | [d1, d2] => { results := [.lit (.bool true)], args := [d1, d2] }
  | _ => none }
def fnListLenCountsEveryItemRow : OpenClaim := { program := "qxb6003464a", sum := "dc3f9aebe4d3bbdb76eadc7311b8b09ccea9e45a3cd3fc7794c5e548e6f66540", func := "example.com/allotment/allotment/zzlaws_internal_alloc_b2.FnListLenCountsEveryItem", spec := "fnListLenCountsEveryItem", apart := false }
def FnListLenCountsEveryItemSaid : Prop := fnListLenCountsEveryItemRow.holds Try.pinned (OpenSpec.ofChange fnListLenCountsEveryItemSpec)

/-- ITS FALSE NEIGHBOUR: 'it returns false'. Refute it at one input. -/
def fnListLenCountsEveryItemWrong : ChangeSpec := { name := "fnListLenCountsEveryItem", fn := fun _ => fun
  | [d1, d2] => { results := [.lit (.bool false)], args := [d1, d2] }
  | _ => none }
def FnListLenCountsEveryItemWrongFalsely : Prop := fnListLenCountsEveryItemRow.holds Try.pinned (OpenSpec.ofChange fnListLenCountsEveryItemWrong)

/-- 'zzlaws_internal_alloc_b2.FnListLenInsertAddsOne': WHATEVER THE INPUT: true; the input reads as it did. -/
def fnListLenInsertAddsOneSpec : ChangeSpec := { name := "fnListLenInsertAddsOne", fn := fun _ => fun
  | [d1, d2, d3, d4] => { results := [.lit (.bool true)], args := [d1, d2, d3, d4] }
  | _ => none }
def fnListLenInsertAddsOneRow : OpenClaim := { program := "qxb6003464a", sum := "dc3f9aebe4d3bbdb76eadc7311b8b09ccea9e45a3cd3fc7794c5e548e6f66540", func := "example.com/allotment/allotment/zzlaws_internal_alloc_b2.FnListLenInsertAddsOne", spec := "fnListLenInsertAddsOne", apart := false }
def FnListLenInsertAddsOneSaid : Prop := fnListLenInsertAddsOneRow.holds Try.pinned (OpenSpec.ofChange fnListLenInsertAddsOneSpec)

/-- ITS FALSE NEIGHBOUR: 'it returns false'. Refute it at one input. -/
def fnListLenInsertAddsOneWrong : ChangeSpec := { name := "fnListLenInsertAddsOne", fn := fun _ => fun
  | [d1, d2, d3, d4] => { results := [.lit (.bool false)], args := [d1, d2, d3, d4] }
  | _ => none }
def FnListLenInsertAddsOneWrongFalsely : Prop := fnListLenInsertAddsOneRow.holds Try.pinned (OpenSpec.ofChange fnListLenInsertAddsOneWrong)

/-- 'zzlaws_internal_alloc_b2.FnCountRepairAgreesWithFull': WHATEVER THE INPUT: true; the input reads as it did. -/
def fnCountRepairAgreesWithFullSpec : ChangeSpec := { name := "fnCountRepairAgreesWithFull", fn := fun _ => fun
  | [d1, d2, d3] => { results := [.lit (.bool true)], args := [d1, d2, d3] }
  | _ => none }
def fnCountRepairAgreesWithFullRow : OpenClaim := { program := "qxb6003464a", sum := "dc3f9aebe4d3bbdb76eadc7311b8b09ccea9e45a3cd3fc7794c5e548e6f66540", func := "example.com/allotment/allotment/zzlaws_internal_alloc_b2.FnCountRepairAgreesWithFull", spec := "fnCountRepairAgreesWithFull", apart := false }
def FnCountRepairAgreesWithFullSaid : Prop := fnCountRepairAgreesWithFullRow.holds Try.pinned (OpenSpec.ofChange fnCountRepairAgreesWithFullSpec)

/-- ITS FALSE NEIGHBOUR: 'it returns false'. Refute it at one input. -/
def fnCountRepairAgreesWithFullWrong : ChangeSpec := { name := "fnCountRepairAgreesWithFull", fn := fun _ => fun
  | [d1, d2, d3] => { results := [.lit (.bool false)], args := [d1, d2, d3] }
  | _ => none }
def FnCountRepairAgreesWithFullWrongFalsely : Prop := fnCountRepairAgreesWithFullRow.holds Try.pinned (OpenSpec.ofChange fnCountRepairAgreesWithFullWrong)

/-- 'zzlaws_internal_alloc_b2.FnCountIdempotent': WHATEVER THE INPUT: true; the input reads as it did. -/
def fnCountIdempotentSpec : ChangeSpec := { name := "fnCountIdempotent", fn := fun _ => fun
  | [d1, d2, d3] => { results := [.lit (.bool true)], args := [d1, d2, d3] }
  | _ => none }
def fnCountIdempotentRow : OpenClaim := { program := "qxb6003464a", sum := "dc3f9aebe4d3bbdb76eadc7311b8b09ccea9e45a3cd3fc7794c5e548e6f66540", func := "example.com/allotment/allotment/zzlaws_internal_alloc_b2.FnCountIdempotent", spec := "fnCountIdempotent", apart := false }
def FnCountIdempotentSaid : Prop := fnCountIdempotentRow.holds Try.pinned (OpenSpec.ofChange fnCountIdempotentSpec)

/-- ITS FALSE NEIGHBOUR: 'it returns false'. Refute it at one input. -/
def fnCountIdempotentWrong : ChangeSpec := { name := "fnCountIdempotent", fn := fun _ => fun
  | [d1, d2, d3] => { results := [.lit (.bool false)], args := [d1, d2, d3] }
  | _ => none }
def FnCountIdempotentWrongFalsely : Prop := fnCountIdempotentRow.holds Try.pinned (OpenSpec.ofChange fnCountIdempotentWrong)

/-- 'zzlaws_internal_alloc_b2.FnCountTouchesOnlyEndsFrom': WHATEVER THE INPUT: true; the input reads as it did. -/
def fnCountTouchesOnlyEndsFromSpec : ChangeSpec := { name := "fnCountTouchesOnlyEndsFrom", fn := fun _ => fun
  | [d1, d2, d3, d4, d5] => { results := [.lit (.bool true)], args := [d1, d2, d3, d4, d5] }
  | _ => none }
def fnCountTouchesOnlyEndsFromRow : OpenClaim := { program := "qxb6003464a", sum := "dc3f9aebe4d3bbdb76eadc7311b8b09ccea9e45a3cd3fc7794c5e548e6f66540", func := "example.com/allotment/allotment/zzlaws_internal_alloc_b2.FnCountTouchesOnlyEndsFrom", spec := "fnCountTouchesOnlyEndsFrom", apart := false }
def FnCountTouchesOnlyEndsFromSaid : Prop := fnCountTouchesOnlyEndsFromRow.holds Try.pinned (OpenSpec.ofChange fnCountTouchesOnlyEndsFromSpec)

/-- ITS FALSE NEIGHBOUR: 'it returns false'. Refute it at one input. -/
def fnCountTouchesOnlyEndsFromWrong : ChangeSpec := { name := "fnCountTouchesOnlyEndsFrom", fn := fun _ => fun
  | [d1, d2, d3, d4, d5] => { results := [.lit (.bool false)], args := [d1, d2, d3, d4, d5] }
  | _ => none }
def FnCountTouchesOnlyEndsFromWrongFalsely : Prop := fnCountTouchesOnlyEndsFromRow.holds Try.pinned (OpenSpec.ofChange fnCountTouchesOnlyEndsFromWrong)

end Rows
end Go.Proofs.Qxb6003464a
