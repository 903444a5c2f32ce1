/-
  No cell of these rows narrows 'for every input' (looked for: loops, veiled, ifaces, maps, wideKeys, modest, calm, conditions, laid).
  DERIVED. THE GIVEN ROWS OF THIS SEAT. 4 by the template 'for every input the law returns true; each argument reads behind the call as it read before'; 0 by the template 'total and deterministic' (their statements: Qxb6604369aTotals.lean).
  GIVEN WITH THE SEED: the statements are not yours to turn. If you find one false, say at which input.
  Laid BY PROGRAM, IN A SANDBOX (cutbox-rows.mjs): the forced cells as the released guide's own fill.sh prints them over the translation 4c77ed354d5ab8f8… (all of the seat's roots in one cut). By AI agents, Wed Nov 11 2026. No macro, syntax, notation, axiom, sorry.
-/
import Derived.Test.Qxb6604369aChecked
import GoSem.Claim
import GoSem.ClaimJoined
import GoSem.ClaimMapViews
import Derived.JoinedTies
import Derived.KernelRfl
namespace Go.Proofs.Qxb6604369a
/- THE CELL 'sum', in the pinned program and in every row, IS THE sha256 OF THE DUMP (.gsa) THAT Qxb6604369aProg.lean LOADS. Nothing in Lean hashes anything: it is a label: what it is worth is what the hold of that sum in a sandbox is worth. -/
noncomputable def Try.pinned : Pinned := { name := "qxb6604369a", sum := "4c77ed354d5ab8f8caf8c13f075146468073efaf8879981d7bbaeff19562cdea", checked := Try.checked }
namespace Rows
def none {H : Type} : Left H := { results := [], args := [] }

/-- 'zzlaws_internal_wal_b1.FnPayloadsTileTheRecords': WHATEVER THE INPUT: true; the input reads as it did. -/
def fnPayloadsTileTheRecordsSpec : ChangeSpec := { name := "fnPayloadsTileTheRecords", fn := fun _ => fun
  | [d1, d2] => { results := [.lit (.bool true)], args := [d1, d2] }
  | _ => none }
def fnPayloadsTileTheRecordsRow : OpenClaim := { program := "qxb6604369a", sum := "4c77ed354d5ab8f8caf8c13f075146468073efaf8879981d7bbaeff19562cdea", func := "example.com/holdfast/holdfast/zzlaws_internal_wal_b1.FnPayloadsTileTheRecords", spec := "fnPayloadsTileTheRecords", unfollowed := true, recurses := true, named := ["encoding/binary.LittleEndian"], apart := false }
def FnPayloadsTileTheRecordsSaid : Prop := fnPayloadsTileTheRecordsRow.holds Try.pinned (OpenSpec.ofChange fnPayloadsTileTheRecordsSpec)

/-- ITS FALSE NEIGHBOUR: 'it returns false'. Refute it at one input. -/
def fnPayloadsTileTheRecordsWrong : ChangeSpec := { name := "fnPayloadsTileTheRecords", fn := fun _ => fun
  | [d1, d2] => { results := [.lit (.bool false)], args := [d1, d2] }
  | _ => none }
def FnPayloadsTileTheRecordsWrongFalsely : Prop := fnPayloadsTileTheRecordsRow.holds Try.pinned (OpenSpec.ofChange fnPayloadsTileTheRecordsWrong)

/-- 'zzlaws_internal_wal_b1.FnPayloadsSplitAtRecordBoundary': WHATEVER THE INPUT: true; the input reads as it did. -/
def fnPayloadsSplitAtRecordBoundarySpec : ChangeSpec := { name := "fnPayloadsSplitAtRecordBoundary", fn := fun _ => fun
  | [d1, d2, d3] => { results := [.lit (.bool true)], args := [d1, d2, d3] }
  | _ => none }
def fnPayloadsSplitAtRecordBoundaryRow : OpenClaim := { program := "qxb6604369a", sum := "4c77ed354d5ab8f8caf8c13f075146468073efaf8879981d7bbaeff19562cdea", func := "example.com/holdfast/holdfast/zzlaws_internal_wal_b1.FnPayloadsSplitAtRecordBoundary", spec := "fnPayloadsSplitAtRecordBoundary", unfollowed := true, recurses := true, named := ["encoding/binary.LittleEndian"], apart := false }
def FnPayloadsSplitAtRecordBoundarySaid : Prop := fnPayloadsSplitAtRecordBoundaryRow.holds Try.pinned (OpenSpec.ofChange fnPayloadsSplitAtRecordBoundarySpec)

/-- ITS FALSE NEIGHBOUR: 'it returns false'. Refute it at one input. -/
def fnPayloadsSplitAtRecordBoundaryWrong : ChangeSpec := { name := "fnPayloadsSplitAtRecordBoundary", fn := fun _ => fun
  | [d1, d2, d3] => { results := [.lit (.bool false)], args := [d1, d2, d3] }
  | _ => none }
def FnPayloadsSplitAtRecordBoundaryWrongFalsely : Prop := fnPayloadsSplitAtRecordBoundaryRow.holds Try.pinned (OpenSpec.ofChange fnPayloadsSplitAtRecordBoundaryWrong)

/-- 'zzlaws_internal_wal_b1.FnSnapshotsGiveEachPartsRecords': WHATEVER THE INPUT: true; the input reads as it did. -/
def fnSnapshotsGiveEachPartsRecordsSpec : ChangeSpec := { name := "fnSnapshotsGiveEachPartsRecords", fn := fun _ => fun
  | [d] => { results := [.lit (.bool true)], args := [d] }
  | _ => none }
def fnSnapshotsGiveEachPartsRecordsRow : OpenClaim := { program := "qxb6604369a", sum := "4c77ed354d5ab8f8caf8c13f075146468073efaf8879981d7bbaeff19562cdea", func := "example.com/holdfast/holdfast/zzlaws_internal_wal_b1.FnSnapshotsGiveEachPartsRecords", spec := "fnSnapshotsGiveEachPartsRecords", unfollowed := true, recurses := true, apart := false }
def FnSnapshotsGiveEachPartsRecordsSaid : Prop := fnSnapshotsGiveEachPartsRecordsRow.holds Try.pinned (OpenSpec.ofChange fnSnapshotsGiveEachPartsRecordsSpec)

/-- ITS FALSE NEIGHBOUR: 'it returns false'. Refute it at one input. -/
def fnSnapshotsGiveEachPartsRecordsWrong : ChangeSpec := { name := "fnSnapshotsGiveEachPartsRecords", fn := fun _ => fun
  | [d] => { results := [.lit (.bool false)], args := [d] }
  | _ => none }
def FnSnapshotsGiveEachPartsRecordsWrongFalsely : Prop := fnSnapshotsGiveEachPartsRecordsRow.holds Try.pinned (OpenSpec.ofChange fnSnapshotsGiveEachPartsRecordsWrong)

/-- 'zzlaws_internal_wal_b1.FnSnapshotsTakenOnceInOrder': WHATEVER THE INPUT: true; the input reads as it did. -/
def fnSnapshotsTakenOnceInOrderSpec : ChangeSpec := { name := "fnSnapshotsTakenOnceInOrder", fn := fun _ => fun
  | [d] => { results := [.lit (.bool true)], args := [d] }
  | _ => none }
def fnSnapshotsTakenOnceInOrderRow : OpenClaim := { program := "qxb6604369a", sum := "4c77ed354d5ab8f8caf8c13f075146468073efaf8879981d7bbaeff19562cdea", func := "example.com/holdfast/holdfast/zzlaws_internal_wal_b1.FnSnapshotsTakenOnceInOrder", spec := "fnSnapshotsTakenOnceInOrder", unfollowed := true, recurses := true, apart := false }
def FnSnapshotsTakenOnceInOrderSaid : Prop := fnSnapshotsTakenOnceInOrderRow.holds Try.pinned (OpenSpec.ofChange fnSnapshotsTakenOnceInOrderSpec)

/-- ITS FALSE NEIGHBOUR: 'it returns false'. Refute it at one input. -/
def fnSnapshotsTakenOnceInOrderWrong : ChangeSpec := { name := "fnSnapshotsTakenOnceInOrder", fn := fun _ => fun
  | [d] => { results := [.lit (.bool false)], args := [d] }
  | _ => none }
def FnSnapshotsTakenOnceInOrderWrongFalsely : Prop := fnSnapshotsTakenOnceInOrderRow.holds Try.pinned (OpenSpec.ofChange fnSnapshotsTakenOnceInOrderWrong)

end Rows
end Go.Proofs.Qxb6604369a
