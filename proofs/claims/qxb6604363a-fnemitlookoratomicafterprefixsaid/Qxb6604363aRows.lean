/-
  No cell of these rows narrows 'for every input' (looked for: loops, veiled, ifaces, maps, wideKeys, modest, calm, conditions, laid).
  DERIVED. THE GIVEN ROWS OF THIS SEAT. 8 by the template 'for every input the law returns true; each argument reads behind the call as it read before'; 0 by the template 'total and deterministic' (their statements: Qxb6604363aTotals.lean).
  GIVEN WITH THE SEED: the statements are not yours to turn. If you find one false, say at which input.
  Laid BY PROGRAM, IN A SANDBOX (cutbox-rows.mjs): the forced cells as the released guide's own fill.sh prints them over the translation 73c7c0ba042532df… (all of the seat's roots in one cut). By AI agents, Wed Nov 11 2026. No macro, syntax, notation, axiom, sorry.
-/
import Derived.Test.Qxb6604363aChecked
import GoSem.Claim
import GoSem.ClaimJoined
import GoSem.ClaimMapViews
import Derived.JoinedTies
import Derived.KernelRfl
namespace Go.Proofs.Qxb6604363a
/- THE CELL 'sum', in the pinned program and in every row, IS THE sha256 OF THE DUMP (.gsa) THAT Qxb6604363aProg.lean LOADS. Nothing in Lean hashes anything: it is a label: what it is worth is what the hold of that sum in a sandbox is worth. -/
noncomputable def Try.pinned : Pinned := { name := "qxb6604363a", sum := "73c7c0ba042532df827d8b0050ff7c20a665d6f209840e8a03265463e1682b1a", checked := Try.checked }
namespace Rows
def none {H : Type} : Left H := { results := [], args := [] }

/-- 'zzlaws_internal_regex_b1.FnByteSetAddIsSetInsert': WHATEVER THE INPUT: true; the input reads as it did. -/
def fnByteSetAddIsSetInsertSpec : ChangeSpec := { name := "fnByteSetAddIsSetInsert", fn := fun _ => fun
  | [d1, d2] => { results := [.lit (.bool true)], args := [d1, d2] }
  | _ => none }
def fnByteSetAddIsSetInsertRow : OpenClaim := { program := "qxb6604363a", sum := "73c7c0ba042532df827d8b0050ff7c20a665d6f209840e8a03265463e1682b1a", func := "example.com/narrow-gate/narrow-gate/zzlaws_internal_regex_b1.FnByteSetAddIsSetInsert", spec := "fnByteSetAddIsSetInsert", plainKeys := false, apart := false }
def FnByteSetAddIsSetInsertSaid : Prop := fnByteSetAddIsSetInsertRow.holds Try.pinned (OpenSpec.ofChange fnByteSetAddIsSetInsertSpec)

/-- ITS FALSE NEIGHBOUR: 'it returns false'. Refute it at one input. -/
def fnByteSetAddIsSetInsertWrong : ChangeSpec := { name := "fnByteSetAddIsSetInsert", fn := fun _ => fun
  | [d1, d2] => { results := [.lit (.bool false)], args := [d1, d2] }
  | _ => none }
def FnByteSetAddIsSetInsertWrongFalsely : Prop := fnByteSetAddIsSetInsertRow.holds Try.pinned (OpenSpec.ofChange fnByteSetAddIsSetInsertWrong)

/-- 'zzlaws_internal_regex_b1.FnByteSetAddAgreesWithHasAndCount': WHATEVER THE INPUT: true; the input reads as it did. -/
def fnByteSetAddAgreesWithHasAndCountSpec : ChangeSpec := { name := "fnByteSetAddAgreesWithHasAndCount", fn := fun _ => fun
  | [d1, d2] => { results := [.lit (.bool true)], args := [d1, d2] }
  | _ => none }
def fnByteSetAddAgreesWithHasAndCountRow : OpenClaim := { program := "qxb6604363a", sum := "73c7c0ba042532df827d8b0050ff7c20a665d6f209840e8a03265463e1682b1a", func := "example.com/narrow-gate/narrow-gate/zzlaws_internal_regex_b1.FnByteSetAddAgreesWithHasAndCount", spec := "fnByteSetAddAgreesWithHasAndCount", plainKeys := false, apart := false }
def FnByteSetAddAgreesWithHasAndCountSaid : Prop := fnByteSetAddAgreesWithHasAndCountRow.holds Try.pinned (OpenSpec.ofChange fnByteSetAddAgreesWithHasAndCountSpec)

/-- ITS FALSE NEIGHBOUR: 'it returns false'. Refute it at one input. -/
def fnByteSetAddAgreesWithHasAndCountWrong : ChangeSpec := { name := "fnByteSetAddAgreesWithHasAndCount", fn := fun _ => fun
  | [d1, d2] => { results := [.lit (.bool false)], args := [d1, d2] }
  | _ => none }
def FnByteSetAddAgreesWithHasAndCountWrongFalsely : Prop := fnByteSetAddAgreesWithHasAndCountRow.holds Try.pinned (OpenSpec.ofChange fnByteSetAddAgreesWithHasAndCountWrong)

/-- 'zzlaws_internal_regex_b1.FnByteSetAddRangeIsIntervalUnion': WHATEVER THE INPUT: true; the input reads as it did. -/
def fnByteSetAddRangeIsIntervalUnionSpec : ChangeSpec := { name := "fnByteSetAddRangeIsIntervalUnion", fn := fun _ => fun
  | [d1, d2, d3] => { results := [.lit (.bool true)], args := [d1, d2, d3] }
  | _ => none }
def fnByteSetAddRangeIsIntervalUnionRow : OpenClaim := { program := "qxb6604363a", sum := "73c7c0ba042532df827d8b0050ff7c20a665d6f209840e8a03265463e1682b1a", func := "example.com/narrow-gate/narrow-gate/zzlaws_internal_regex_b1.FnByteSetAddRangeIsIntervalUnion", spec := "fnByteSetAddRangeIsIntervalUnion", plainKeys := false, apart := false }
def FnByteSetAddRangeIsIntervalUnionSaid : Prop := fnByteSetAddRangeIsIntervalUnionRow.holds Try.pinned (OpenSpec.ofChange fnByteSetAddRangeIsIntervalUnionSpec)

/-- ITS FALSE NEIGHBOUR: 'it returns false'. Refute it at one input. -/
def fnByteSetAddRangeIsIntervalUnionWrong : ChangeSpec := { name := "fnByteSetAddRangeIsIntervalUnion", fn := fun _ => fun
  | [d1, d2, d3] => { results := [.lit (.bool false)], args := [d1, d2, d3] }
  | _ => none }
def FnByteSetAddRangeIsIntervalUnionWrongFalsely : Prop := fnByteSetAddRangeIsIntervalUnionRow.holds Try.pinned (OpenSpec.ofChange fnByteSetAddRangeIsIntervalUnionWrong)

/-- 'zzlaws_internal_regex_b1.FnByteSetAddRangeCountsSplitsAndAgreesWithAdd': WHATEVER THE INPUT: true; the input reads as it did. -/
def fnByteSetAddRangeCountsSplitsAndAgreesWithAddSpec : ChangeSpec := { name := "fnByteSetAddRangeCountsSplitsAndAgreesWithAdd", fn := fun _ => fun
  | [d1, d2, d3] => { results := [.lit (.bool true)], args := [d1, d2, d3] }
  | _ => none }
def fnByteSetAddRangeCountsSplitsAndAgreesWithAddRow : OpenClaim := { program := "qxb6604363a", sum := "73c7c0ba042532df827d8b0050ff7c20a665d6f209840e8a03265463e1682b1a", func := "example.com/narrow-gate/narrow-gate/zzlaws_internal_regex_b1.FnByteSetAddRangeCountsSplitsAndAgreesWithAdd", spec := "fnByteSetAddRangeCountsSplitsAndAgreesWithAdd", plainKeys := false, apart := false }
def FnByteSetAddRangeCountsSplitsAndAgreesWithAddSaid : Prop := fnByteSetAddRangeCountsSplitsAndAgreesWithAddRow.holds Try.pinned (OpenSpec.ofChange fnByteSetAddRangeCountsSplitsAndAgreesWithAddSpec)

/-- ITS FALSE NEIGHBOUR: 'it returns false'. Refute it at one input. -/
def fnByteSetAddRangeCountsSplitsAndAgreesWithAddWrong : ChangeSpec := { name := "fnByteSetAddRangeCountsSplitsAndAgreesWithAdd", fn := fun _ => fun
  | [d1, d2, d3] => { results := [.lit (.bool false)], args := [d1, d2, d3] }
  | _ => none }
def FnByteSetAddRangeCountsSplitsAndAgreesWithAddWrongFalsely : Prop := fnByteSetAddRangeCountsSplitsAndAgreesWithAddRow.holds Try.pinned (OpenSpec.ofChange fnByteSetAddRangeCountsSplitsAndAgreesWithAddWrong)

/-- 'zzlaws_internal_regex_b1.FnSlotLayoutTilesExactly': WHATEVER THE INPUT: true; the input reads as it did. -/
def fnSlotLayoutTilesExactlySpec : ChangeSpec := { name := "fnSlotLayoutTilesExactly", fn := fun _ => fun
  | [d1, d2] => { results := [.lit (.bool true)], args := [d1, d2] }
  | _ => none }
def fnSlotLayoutTilesExactlyRow : OpenClaim := { program := "qxb6604363a", sum := "73c7c0ba042532df827d8b0050ff7c20a665d6f209840e8a03265463e1682b1a", func := "example.com/narrow-gate/narrow-gate/zzlaws_internal_regex_b1.FnSlotLayoutTilesExactly", spec := "fnSlotLayoutTilesExactly", plainKeys := false, apart := false }
def FnSlotLayoutTilesExactlySaid : Prop := fnSlotLayoutTilesExactlyRow.holds Try.pinned (OpenSpec.ofChange fnSlotLayoutTilesExactlySpec)

/-- ITS FALSE NEIGHBOUR: 'it returns false'. Refute it at one input. -/
def fnSlotLayoutTilesExactlyWrong : ChangeSpec := { name := "fnSlotLayoutTilesExactly", fn := fun _ => fun
  | [d1, d2] => { results := [.lit (.bool false)], args := [d1, d2] }
  | _ => none }
def FnSlotLayoutTilesExactlyWrongFalsely : Prop := fnSlotLayoutTilesExactlyRow.holds Try.pinned (OpenSpec.ofChange fnSlotLayoutTilesExactlyWrong)

/-- 'zzlaws_internal_regex_b1.FnSlotDistinctAndOrdered': WHATEVER THE INPUT: true; the input reads as it did. -/
def fnSlotDistinctAndOrderedSpec : ChangeSpec := { name := "fnSlotDistinctAndOrdered", fn := fun _ => fun
  | [d1, d2, d3, d4, d5] => { results := [.lit (.bool true)], args := [d1, d2, d3, d4, d5] }
  | _ => none }
def fnSlotDistinctAndOrderedRow : OpenClaim := { program := "qxb6604363a", sum := "73c7c0ba042532df827d8b0050ff7c20a665d6f209840e8a03265463e1682b1a", func := "example.com/narrow-gate/narrow-gate/zzlaws_internal_regex_b1.FnSlotDistinctAndOrdered", spec := "fnSlotDistinctAndOrdered", plainKeys := false, apart := false }
def FnSlotDistinctAndOrderedSaid : Prop := fnSlotDistinctAndOrderedRow.holds Try.pinned (OpenSpec.ofChange fnSlotDistinctAndOrderedSpec)

/-- ITS FALSE NEIGHBOUR: 'it returns false'. Refute it at one input. -/
def fnSlotDistinctAndOrderedWrong : ChangeSpec := { name := "fnSlotDistinctAndOrdered", fn := fun _ => fun
  | [d1, d2, d3, d4, d5] => { results := [.lit (.bool false)], args := [d1, d2, d3, d4, d5] }
  | _ => none }
def FnSlotDistinctAndOrderedWrongFalsely : Prop := fnSlotDistinctAndOrderedRow.holds Try.pinned (OpenSpec.ofChange fnSlotDistinctAndOrderedWrong)

/-- 'zzlaws_internal_regex_b1.FnEmitClassesNumberedByFirstSight': WHATEVER THE INPUT: true; the input reads as it did. -/
def fnEmitClassesNumberedByFirstSightSpec : ChangeSpec := { name := "fnEmitClassesNumberedByFirstSight", fn := fun _ => fun
  | [d1, d2] => { results := [.lit (.bool true)], args := [d1, d2] }
  | _ => none }
def fnEmitClassesNumberedByFirstSightRow : OpenClaim := { program := "qxb6604363a", sum := "73c7c0ba042532df827d8b0050ff7c20a665d6f209840e8a03265463e1682b1a", func := "example.com/narrow-gate/narrow-gate/zzlaws_internal_regex_b1.FnEmitClassesNumberedByFirstSight", spec := "fnEmitClassesNumberedByFirstSight", recurses := true, plainKeys := false, apart := false }
def FnEmitClassesNumberedByFirstSightSaid : Prop := fnEmitClassesNumberedByFirstSightRow.holds Try.pinned (OpenSpec.ofChange fnEmitClassesNumberedByFirstSightSpec)

/-- ITS FALSE NEIGHBOUR: 'it returns false'. Refute it at one input. -/
def fnEmitClassesNumberedByFirstSightWrong : ChangeSpec := { name := "fnEmitClassesNumberedByFirstSight", fn := fun _ => fun
  | [d1, d2] => { results := [.lit (.bool false)], args := [d1, d2] }
  | _ => none }
def FnEmitClassesNumberedByFirstSightWrongFalsely : Prop := fnEmitClassesNumberedByFirstSightRow.holds Try.pinned (OpenSpec.ofChange fnEmitClassesNumberedByFirstSightWrong)

/-- 'zzlaws_internal_regex_b1.FnEmitLookOrAtomicAfterPrefix': WHATEVER THE INPUT: true; the input reads as it did. -/
def fnEmitLookOrAtomicAfterPrefixSpec : ChangeSpec := { name := "fnEmitLookOrAtomicAfterPrefix", fn := fun _ => fun
  | [d1, d2, d3, d4, d5, d6] => { results := [.lit (.bool true)], args := [d1, d2, d3, d4, d5, d6] }
  | _ => none }
def fnEmitLookOrAtomicAfterPrefixRow : OpenClaim := { program := "qxb6604363a", sum := "73c7c0ba042532df827d8b0050ff7c20a665d6f209840e8a03265463e1682b1a", func := "example.com/narrow-gate/narrow-gate/zzlaws_internal_regex_b1.FnEmitLookOrAtomicAfterPrefix", spec := "fnEmitLookOrAtomicAfterPrefix", recurses := true, plainKeys := false, apart := false }
def FnEmitLookOrAtomicAfterPrefixSaid : Prop := fnEmitLookOrAtomicAfterPrefixRow.holds Try.pinned (OpenSpec.ofChange fnEmitLookOrAtomicAfterPrefixSpec)

/-- ITS FALSE NEIGHBOUR: 'it returns false'. Refute it at one input. -/
def fnEmitLookOrAtomicAfterPrefixWrong : ChangeSpec := { name := "fnEmitLookOrAtomicAfterPrefix", fn := fun _ => fun
  | [d1, d2, d3, d4, d5, d6] => { results := [.lit (.bool false)], args := [d1, d2, d3, d4, d5, d6] }
  | _ => none }
def FnEmitLookOrAtomicAfterPrefixWrongFalsely : Prop := fnEmitLookOrAtomicAfterPrefixRow.holds Try.pinned (OpenSpec.ofChange fnEmitLookOrAtomicAfterPrefixWrong)

end Rows
end Go.Proofs.Qxb6604363a
