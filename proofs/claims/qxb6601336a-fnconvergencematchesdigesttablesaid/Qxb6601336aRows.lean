/-
  No cell of these rows narrows 'for every input' (looked for: loops, veiled, ifaces, maps, wideKeys, modest, calm, conditions, laid).
  DERIVED. THE GIVEN ROWS OF THIS SEAT. 4 by the template 'for every input the law returns true; each argument reads behind the call as it read before'; 0 by the template 'total and deterministic' (their statements: Qxb6601336aTotals.lean).
  GIVEN WITH THE SEED: the statements are not yours to turn. If you find one false, say at which input.
  Laid BY PROGRAM, IN A SANDBOX (cutbox-rows.mjs): the forced cells as the released guide's own fill.sh prints them over the translation c92023f2de953c82… (all of the seat's roots in one cut). By AI agents, Wed Nov 11 2026. No macro, syntax, notation, axiom, sorry.
-/
import Derived.Test.Qxb6601336aChecked
import GoSem.Claim
import GoSem.ClaimJoined
import GoSem.ClaimMapViews
import Derived.JoinedTies
import Derived.KernelRfl
namespace Go.Proofs.Qxb6601336a
/- THE CELL 'sum', in the pinned program and in every row, IS THE sha256 OF THE DUMP (.gsa) THAT Qxb6601336aProg.lean LOADS. Nothing in Lean hashes anything: it is a label: what it is worth is what the hold of that sum in a sandbox is worth. -/
noncomputable def Try.pinned : Pinned := { name := "qxb6601336a", sum := "c92023f2de953c82619580508c1f14f43449fe1165870aaff587a1d4660db7c2", checked := Try.checked }
namespace Rows
def none {H : Type} : Left H := { results := [], args := [] }

/-- 'zzlaws_internal_record_b1.FnConvergenceMatchesDigestTable': WHATEVER THE INPUT: true; the input reads as it did. -/
def fnConvergenceMatchesDigestTableSpec : ChangeSpec := { name := "fnConvergenceMatchesDigestTable", fn := fun _ => fun
  | [d1, d2, d3] => { results := [.lit (.bool true)], args := [d1, d2, d3] }
  | _ => none }
def fnConvergenceMatchesDigestTableRow : OpenClaim := { program := "qxb6601336a", sum := "c92023f2de953c82619580508c1f14f43449fe1165870aaff587a1d4660db7c2", func := "example.com/causeline/causeline/zzlaws_internal_record_b1.FnConvergenceMatchesDigestTable", spec := "fnConvergenceMatchesDigestTable", plainKeys := false, apart := false }
def FnConvergenceMatchesDigestTableSaid : Prop := fnConvergenceMatchesDigestTableRow.holds Try.pinned (OpenSpec.ofChange fnConvergenceMatchesDigestTableSpec)

/-- ITS FALSE NEIGHBOUR: 'it returns false'. Refute it at one input. -/
def fnConvergenceMatchesDigestTableWrong : ChangeSpec := { name := "fnConvergenceMatchesDigestTable", fn := fun _ => fun
  | [d1, d2, d3] => { results := [.lit (.bool false)], args := [d1, d2, d3] }
  | _ => none }
def FnConvergenceMatchesDigestTableWrongFalsely : Prop := fnConvergenceMatchesDigestTableRow.holds Try.pinned (OpenSpec.ofChange fnConvergenceMatchesDigestTableWrong)

/-- 'zzlaws_internal_record_b1.FnConvergenceOrderFree': WHATEVER THE INPUT: true; the input reads as it did. -/
def fnConvergenceOrderFreeSpec : ChangeSpec := { name := "fnConvergenceOrderFree", fn := fun _ => fun
  | [d1, d2, d3] => { results := [.lit (.bool true)], args := [d1, d2, d3] }
  | _ => none }
def fnConvergenceOrderFreeRow : OpenClaim := { program := "qxb6601336a", sum := "c92023f2de953c82619580508c1f14f43449fe1165870aaff587a1d4660db7c2", func := "example.com/causeline/causeline/zzlaws_internal_record_b1.FnConvergenceOrderFree", spec := "fnConvergenceOrderFree", plainKeys := false, apart := false }
def FnConvergenceOrderFreeSaid : Prop := fnConvergenceOrderFreeRow.holds Try.pinned (OpenSpec.ofChange fnConvergenceOrderFreeSpec)

/-- ITS FALSE NEIGHBOUR: 'it returns false'. Refute it at one input. -/
def fnConvergenceOrderFreeWrong : ChangeSpec := { name := "fnConvergenceOrderFree", fn := fun _ => fun
  | [d1, d2, d3] => { results := [.lit (.bool false)], args := [d1, d2, d3] }
  | _ => none }
def FnConvergenceOrderFreeWrongFalsely : Prop := fnConvergenceOrderFreeRow.holds Try.pinned (OpenSpec.ofChange fnConvergenceOrderFreeWrong)

/-- 'zzlaws_internal_record_b1.FnCompletenessMoreAppliedLosesNoMore': WHATEVER THE INPUT: true; the input reads as it did. -/
def fnCompletenessMoreAppliedLosesNoMoreSpec : ChangeSpec := { name := "fnCompletenessMoreAppliedLosesNoMore", fn := fun _ => fun
  | [d1, d2, d3, d4, d5, d6] => { results := [.lit (.bool true)], args := [d1, d2, d3, d4, d5, d6] }
  | _ => none }
def fnCompletenessMoreAppliedLosesNoMoreRow : OpenClaim := { program := "qxb6601336a", sum := "c92023f2de953c82619580508c1f14f43449fe1165870aaff587a1d4660db7c2", func := "example.com/causeline/causeline/zzlaws_internal_record_b1.FnCompletenessMoreAppliedLosesNoMore", spec := "fnCompletenessMoreAppliedLosesNoMore", plainKeys := false, apart := false }
def FnCompletenessMoreAppliedLosesNoMoreSaid : Prop := fnCompletenessMoreAppliedLosesNoMoreRow.holds Try.pinned (OpenSpec.ofChange fnCompletenessMoreAppliedLosesNoMoreSpec)

/-- ITS FALSE NEIGHBOUR: 'it returns false'. Refute it at one input. -/
def fnCompletenessMoreAppliedLosesNoMoreWrong : ChangeSpec := { name := "fnCompletenessMoreAppliedLosesNoMore", fn := fun _ => fun
  | [d1, d2, d3, d4, d5, d6] => { results := [.lit (.bool false)], args := [d1, d2, d3, d4, d5, d6] }
  | _ => none }
def FnCompletenessMoreAppliedLosesNoMoreWrongFalsely : Prop := fnCompletenessMoreAppliedLosesNoMoreRow.holds Try.pinned (OpenSpec.ofChange fnCompletenessMoreAppliedLosesNoMoreWrong)

/-- 'zzlaws_internal_record_b1.FnNewReplayNodesHoldOwnVectors': WHATEVER THE INPUT: true; the input reads as it did. -/
def fnNewReplayNodesHoldOwnVectorsSpec : ChangeSpec := { name := "fnNewReplayNodesHoldOwnVectors", fn := fun _ => fun
  | [d1, d2, d3, d4, d5, d6] => { results := [.lit (.bool true)], args := [d1, d2, d3, d4, d5, d6] }
  | _ => none }
def fnNewReplayNodesHoldOwnVectorsRow : OpenClaim := { program := "qxb6601336a", sum := "c92023f2de953c82619580508c1f14f43449fe1165870aaff587a1d4660db7c2", func := "example.com/causeline/causeline/zzlaws_internal_record_b1.FnNewReplayNodesHoldOwnVectors", spec := "fnNewReplayNodesHoldOwnVectors", plainKeys := false, apart := false }
def FnNewReplayNodesHoldOwnVectorsSaid : Prop := fnNewReplayNodesHoldOwnVectorsRow.holds Try.pinned (OpenSpec.ofChange fnNewReplayNodesHoldOwnVectorsSpec)

/-- ITS FALSE NEIGHBOUR: 'it returns false'. Refute it at one input. -/
def fnNewReplayNodesHoldOwnVectorsWrong : ChangeSpec := { name := "fnNewReplayNodesHoldOwnVectors", fn := fun _ => fun
  | [d1, d2, d3, d4, d5, d6] => { results := [.lit (.bool false)], args := [d1, d2, d3, d4, d5, d6] }
  | _ => none }
def FnNewReplayNodesHoldOwnVectorsWrongFalsely : Prop := fnNewReplayNodesHoldOwnVectorsRow.holds Try.pinned (OpenSpec.ofChange fnNewReplayNodesHoldOwnVectorsWrong)

end Rows
end Go.Proofs.Qxb6601336a
