/-
  No cell of these rows narrows 'for every input' (looked for: loops, veiled, ifaces, maps, wideKeys, modest, calm, conditions, laid).
  DERIVED. THE GIVEN ROWS OF THIS SEAT. 4 by the template 'for every input the law returns true; each argument reads behind the call as it read before'; 0 by the template 'total and deterministic' (their statements: Qxb6604404aTotals.lean).
  GIVEN WITH THE SEED: the statements are not yours to turn. If you find one false, say at which input.
  Laid BY PROGRAM, IN A SANDBOX (cutbox-rows.mjs): the forced cells as the released guide's own fill.sh prints them over the translation 10a71fc232763f3f… (all of the seat's roots in one cut). By AI agents, Wed Nov 11 2026. No macro, syntax, notation, axiom, sorry.
-/
import Derived.Test.Qxb6604404aChecked
import GoSem.Claim
import GoSem.ClaimJoined
import GoSem.ClaimMapViews
import Derived.JoinedTies
import Derived.KernelRfl
namespace Go.Proofs.Qxb6604404a
/- THE CELL 'sum', in the pinned program and in every row, IS THE sha256 OF THE DUMP (.gsa) THAT Qxb6604404aProg.lean LOADS. Nothing in Lean hashes anything: it is a label: what it is worth is what the hold of that sum in a sandbox is worth. -/
noncomputable def Try.pinned : Pinned := { name := "qxb6604404a", sum := "10a71fc232763f3f8e1afe580dc38f55c6581c10ccda2895b8a5995aeb91bea4", checked := Try.checked }
namespace Rows
def none {H : Type} : Left H := { results := [], args := [] }

/-- 'zzlaws_root_b1.FnNarrowestIsTheFewestListedCandidate': WHATEVER THE INPUT: true; the input reads as it did. -/
def fnNarrowestIsTheFewestListedCandidateSpec : ChangeSpec := { name := "fnNarrowestIsTheFewestListedCandidate", fn := fun _ => fun
  | [d1, d2, d3, d4, d5, d6, d7, d8] => { results := [.lit (.bool true)], args := [d1, d2, d3, d4, d5, d6, d7, d8] }
  | _ => none }
def fnNarrowestIsTheFewestListedCandidateRow : OpenClaim := { program := "qxb6604404a", sum := "10a71fc232763f3f8e1afe580dc38f55c6581c10ccda2895b8a5995aeb91bea4", func := "example.com/waymark/waymark/zzlaws_root_b1.FnNarrowestIsTheFewestListedCandidate", spec := "fnNarrowestIsTheFewestListedCandidate", unfollowed := true, recurses := true, plainKeys := false, apart := false }
def FnNarrowestIsTheFewestListedCandidateSaid : Prop := fnNarrowestIsTheFewestListedCandidateRow.holds Try.pinned (OpenSpec.ofChange fnNarrowestIsTheFewestListedCandidateSpec)

/-- ITS FALSE NEIGHBOUR: 'it returns false'. Refute it at one input. -/
def fnNarrowestIsTheFewestListedCandidateWrong : ChangeSpec := { name := "fnNarrowestIsTheFewestListedCandidate", fn := fun _ => fun
  | [d1, d2, d3, d4, d5, d6, d7, d8] => { results := [.lit (.bool false)], args := [d1, d2, d3, d4, d5, d6, d7, d8] }
  | _ => none }
def FnNarrowestIsTheFewestListedCandidateWrongFalsely : Prop := fnNarrowestIsTheFewestListedCandidateRow.holds Try.pinned (OpenSpec.ofChange fnNarrowestIsTheFewestListedCandidateWrong)

/-- 'zzlaws_root_b1.FnNarrowestNeverWidensWithAnotherPick': WHATEVER THE INPUT: true; the input reads as it did. -/
def fnNarrowestNeverWidensWithAnotherPickSpec : ChangeSpec := { name := "fnNarrowestNeverWidensWithAnotherPick", fn := fun _ => fun
  | [d1, d2, d3, d4, d5, d6, d7, d8, d9] => { results := [.lit (.bool true)], args := [d1, d2, d3, d4, d5, d6, d7, d8, d9] }
  | _ => none }
def fnNarrowestNeverWidensWithAnotherPickRow : OpenClaim := { program := "qxb6604404a", sum := "10a71fc232763f3f8e1afe580dc38f55c6581c10ccda2895b8a5995aeb91bea4", func := "example.com/waymark/waymark/zzlaws_root_b1.FnNarrowestNeverWidensWithAnotherPick", spec := "fnNarrowestNeverWidensWithAnotherPick", unfollowed := true, recurses := true, plainKeys := false, apart := false }
def FnNarrowestNeverWidensWithAnotherPickSaid : Prop := fnNarrowestNeverWidensWithAnotherPickRow.holds Try.pinned (OpenSpec.ofChange fnNarrowestNeverWidensWithAnotherPickSpec)

/-- ITS FALSE NEIGHBOUR: 'it returns false'. Refute it at one input. -/
def fnNarrowestNeverWidensWithAnotherPickWrong : ChangeSpec := { name := "fnNarrowestNeverWidensWithAnotherPick", fn := fun _ => fun
  | [d1, d2, d3, d4, d5, d6, d7, d8, d9] => { results := [.lit (.bool false)], args := [d1, d2, d3, d4, d5, d6, d7, d8, d9] }
  | _ => none }
def FnNarrowestNeverWidensWithAnotherPickWrongFalsely : Prop := fnNarrowestNeverWidensWithAnotherPickRow.holds Try.pinned (OpenSpec.ofChange fnNarrowestNeverWidensWithAnotherPickWrong)

/-- 'zzlaws_root_b1.FnRulesKeyDecodesBack': WHATEVER THE INPUT: true; the input reads as it did. -/
def fnRulesKeyDecodesBackSpec : ChangeSpec := { name := "fnRulesKeyDecodesBack", fn := fun _ => fun
  | [d] => { results := [.lit (.bool true)], args := [d] }
  | _ => none }
def fnRulesKeyDecodesBackRow : OpenClaim := { program := "qxb6604404a", sum := "10a71fc232763f3f8e1afe580dc38f55c6581c10ccda2895b8a5995aeb91bea4", func := "example.com/waymark/waymark/zzlaws_root_b1.FnRulesKeyDecodesBack", spec := "fnRulesKeyDecodesBack", plainKeys := false, apart := false }
def FnRulesKeyDecodesBackSaid : Prop := fnRulesKeyDecodesBackRow.holds Try.pinned (OpenSpec.ofChange fnRulesKeyDecodesBackSpec)

/-- ITS FALSE NEIGHBOUR: 'it returns false'. Refute it at one input. -/
def fnRulesKeyDecodesBackWrong : ChangeSpec := { name := "fnRulesKeyDecodesBack", fn := fun _ => fun
  | [d] => { results := [.lit (.bool false)], args := [d] }
  | _ => none }
def FnRulesKeyDecodesBackWrongFalsely : Prop := fnRulesKeyDecodesBackRow.holds Try.pinned (OpenSpec.ofChange fnRulesKeyDecodesBackWrong)

/-- 'zzlaws_root_b1.FnRulesKeyTellsListsApart': WHATEVER THE INPUT: true; the input reads as it did. -/
def fnRulesKeyTellsListsApartSpec : ChangeSpec := { name := "fnRulesKeyTellsListsApart", fn := fun _ => fun
  | [d1, d2] => { results := [.lit (.bool true)], args := [d1, d2] }
  | _ => none }
def fnRulesKeyTellsListsApartRow : OpenClaim := { program := "qxb6604404a", sum := "10a71fc232763f3f8e1afe580dc38f55c6581c10ccda2895b8a5995aeb91bea4", func := "example.com/waymark/waymark/zzlaws_root_b1.FnRulesKeyTellsListsApart", spec := "fnRulesKeyTellsListsApart", plainKeys := false, apart := false }
def FnRulesKeyTellsListsApartSaid : Prop := fnRulesKeyTellsListsApartRow.holds Try.pinned (OpenSpec.ofChange fnRulesKeyTellsListsApartSpec)

/-- ITS FALSE NEIGHBOUR: 'it returns false'. Refute it at one input. -/
def fnRulesKeyTellsListsApartWrong : ChangeSpec := { name := "fnRulesKeyTellsListsApart", fn := fun _ => fun
  | [d1, d2] => { results := [.lit (.bool false)], args := [d1, d2] }
  | _ => none }
def FnRulesKeyTellsListsApartWrongFalsely : Prop := fnRulesKeyTellsListsApartRow.holds Try.pinned (OpenSpec.ofChange fnRulesKeyTellsListsApartWrong)

end Rows
end Go.Proofs.Qxb6604404a
