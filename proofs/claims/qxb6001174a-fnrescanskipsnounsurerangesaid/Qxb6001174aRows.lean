/-
  No cell of these rows narrows 'for every input' (looked for: loops, veiled, ifaces, maps, wideKeys, modest, calm, conditions, laid).
  DERIVED. THE GIVEN ROWS OF THIS SEAT. 6 by the template 'for every input the law returns true; each argument reads behind the call as it read before'; 0 by the template 'total and deterministic' (their statements: Qxb6001174aTotals.lean).
  GIVEN WITH THE SEED: the statements are not yours to turn. If you find one false, say at which input.
  Laid BY PROGRAM, IN A SANDBOX (cutbox-rows.mjs): the forced cells as the released guide's own fill.sh prints them over the translation 214843c1281ce67b… (all of the seat's roots in one cut). By AI agents, Wed Nov 11 2026. No macro, syntax, notation, axiom, sorry.
-/
import Derived.Test.Qxb6001174aChecked
import GoSem.Claim
import GoSem.ClaimJoined
import GoSem.ClaimMapViews
import Derived.JoinedTies
import Derived.KernelRfl
namespace Go.Proofs.Qxb6001174a
/- THE CELL 'sum', in the pinned program and in every row, IS THE sha256 OF THE DUMP (.gsa) THAT Qxb6001174aProg.lean LOADS. Nothing in Lean hashes anything: it is a label: what it is worth is what the hold of that sum in a sandbox is worth. -/
noncomputable def Try.pinned : Pinned := { name := "qxb6001174a", sum := "214843c1281ce67b37c93bdfb0a045c8a7a0363eab69671f6c2a61d1a2894fb0", checked := Try.checked }
namespace Rows
def none {H : Type} : Left H := { results := [], args := [] }

/-- 'zzlaws_root_b1.FnPassingCodeClassesPass': WHATEVER THE INPUT: true; the input reads as it did. -/
def fnPassingCodeClassesPassSpec : ChangeSpec := { name := "fnPassingCodeClassesPass", fn := fun _ => fun
  | [d] => { results := [.lit (.bool true)], args := [d] }
  | _ => none }
def fnPassingCodeClassesPassRow : OpenClaim := { program := "qxb6001174a", sum := "214843c1281ce67b37c93bdfb0a045c8a7a0363eab69671f6c2a61d1a2894fb0", func := "example.com/stream-steps/stream-steps/zzlaws_root_b1.FnPassingCodeClassesPass", spec := "fnPassingCodeClassesPass", apart := false }
def FnPassingCodeClassesPassSaid : Prop := fnPassingCodeClassesPassRow.holds Try.pinned (OpenSpec.ofChange fnPassingCodeClassesPassSpec)

/-- ITS FALSE NEIGHBOUR: 'it returns false'. Refute it at one input. -/
def fnPassingCodeClassesPassWrong : ChangeSpec := { name := "fnPassingCodeClassesPass", fn := fun _ => fun
  | [d] => { results := [.lit (.bool false)], args := [d] }
  | _ => none }
def FnPassingCodeClassesPassWrongFalsely : Prop := fnPassingCodeClassesPassRow.holds Try.pinned (OpenSpec.ofChange fnPassingCodeClassesPassWrong)

/-- 'zzlaws_root_b1.FnNestingDepthWrapAddsOne': WHATEVER THE INPUT: true; the input reads as it did. -/
def fnNestingDepthWrapAddsOneSpec : ChangeSpec := { name := "fnNestingDepthWrapAddsOne", fn := fun _ => fun
  | [d] => { results := [.lit (.bool true)], args := [d] }
  | _ => none }
def fnNestingDepthWrapAddsOneRow : OpenClaim := { program := "qxb6001174a", sum := "214843c1281ce67b37c93bdfb0a045c8a7a0363eab69671f6c2a61d1a2894fb0", func := "example.com/stream-steps/stream-steps/zzlaws_root_b1.FnNestingDepthWrapAddsOne", spec := "fnNestingDepthWrapAddsOne", apart := false }
def FnNestingDepthWrapAddsOneSaid : Prop := fnNestingDepthWrapAddsOneRow.holds Try.pinned (OpenSpec.ofChange fnNestingDepthWrapAddsOneSpec)

/-- ITS FALSE NEIGHBOUR: 'it returns false'. Refute it at one input. -/
def fnNestingDepthWrapAddsOneWrong : ChangeSpec := { name := "fnNestingDepthWrapAddsOne", fn := fun _ => fun
  | [d] => { results := [.lit (.bool false)], args := [d] }
  | _ => none }
def FnNestingDepthWrapAddsOneWrongFalsely : Prop := fnNestingDepthWrapAddsOneRow.holds Try.pinned (OpenSpec.ofChange fnNestingDepthWrapAddsOneWrong)

/-- 'zzlaws_root_b1.FnNestingDepthStringsHideBrackets': WHATEVER THE INPUT: true; the input reads as it did. -/
def fnNestingDepthStringsHideBracketsSpec : ChangeSpec := { name := "fnNestingDepthStringsHideBrackets", fn := fun _ => fun
  | [d] => { results := [.lit (.bool true)], args := [d] }
  | _ => none }
def fnNestingDepthStringsHideBracketsRow : OpenClaim := { program := "qxb6001174a", sum := "214843c1281ce67b37c93bdfb0a045c8a7a0363eab69671f6c2a61d1a2894fb0", func := "example.com/stream-steps/stream-steps/zzlaws_root_b1.FnNestingDepthStringsHideBrackets", spec := "fnNestingDepthStringsHideBrackets", apart := false }
def FnNestingDepthStringsHideBracketsSaid : Prop := fnNestingDepthStringsHideBracketsRow.holds Try.pinned (OpenSpec.ofChange fnNestingDepthStringsHideBracketsSpec)

/-- ITS FALSE NEIGHBOUR: 'it returns false'. Refute it at one input. -/
def fnNestingDepthStringsHideBracketsWrong : ChangeSpec := { name := "fnNestingDepthStringsHideBrackets", fn := fun _ => fun
  | [d] => { results := [.lit (.bool false)], args := [d] }
  | _ => none }
def FnNestingDepthStringsHideBracketsWrongFalsely : Prop := fnNestingDepthStringsHideBracketsRow.holds Try.pinned (OpenSpec.ofChange fnNestingDepthStringsHideBracketsWrong)

/-- 'zzlaws_root_b1.FnNestingDepthBoundedByOpeners': WHATEVER THE INPUT: true; the input reads as it did. -/
def fnNestingDepthBoundedByOpenersSpec : ChangeSpec := { name := "fnNestingDepthBoundedByOpeners", fn := fun _ => fun
  | [d] => { results := [.lit (.bool true)], args := [d] }
  | _ => none }
def fnNestingDepthBoundedByOpenersRow : OpenClaim := { program := "qxb6001174a", sum := "214843c1281ce67b37c93bdfb0a045c8a7a0363eab69671f6c2a61d1a2894fb0", func := "example.com/stream-steps/stream-steps/zzlaws_root_b1.FnNestingDepthBoundedByOpeners", spec := "fnNestingDepthBoundedByOpeners", apart := false }
def FnNestingDepthBoundedByOpenersSaid : Prop := fnNestingDepthBoundedByOpenersRow.holds Try.pinned (OpenSpec.ofChange fnNestingDepthBoundedByOpenersSpec)

/-- ITS FALSE NEIGHBOUR: 'it returns false'. Refute it at one input. -/
def fnNestingDepthBoundedByOpenersWrong : ChangeSpec := { name := "fnNestingDepthBoundedByOpeners", fn := fun _ => fun
  | [d] => { results := [.lit (.bool false)], args := [d] }
  | _ => none }
def FnNestingDepthBoundedByOpenersWrongFalsely : Prop := fnNestingDepthBoundedByOpenersRow.holds Try.pinned (OpenSpec.ofChange fnNestingDepthBoundedByOpenersWrong)

/-- 'zzlaws_root_b1.FnRescanIdempotentKeepsRest': WHATEVER THE INPUT: true; the input reads as it did. -/
def fnRescanIdempotentKeepsRestSpec : ChangeSpec := { name := "fnRescanIdempotentKeepsRest", fn := fun _ => fun
  | [d1, d2, d3] => { results := [.lit (.bool true)], args := [d1, d2, d3] }
  | _ => none }
def fnRescanIdempotentKeepsRestRow : OpenClaim := { program := "qxb6001174a", sum := "214843c1281ce67b37c93bdfb0a045c8a7a0363eab69671f6c2a61d1a2894fb0", func := "example.com/stream-steps/stream-steps/zzlaws_root_b1.FnRescanIdempotentKeepsRest", spec := "fnRescanIdempotentKeepsRest", apart := false }
def FnRescanIdempotentKeepsRestSaid : Prop := fnRescanIdempotentKeepsRestRow.holds Try.pinned (OpenSpec.ofChange fnRescanIdempotentKeepsRestSpec)

/-- ITS FALSE NEIGHBOUR: 'it returns false'. Refute it at one input. -/
def fnRescanIdempotentKeepsRestWrong : ChangeSpec := { name := "fnRescanIdempotentKeepsRest", fn := fun _ => fun
  | [d1, d2, d3] => { results := [.lit (.bool false)], args := [d1, d2, d3] }
  | _ => none }
def FnRescanIdempotentKeepsRestWrongFalsely : Prop := fnRescanIdempotentKeepsRestRow.holds Try.pinned (OpenSpec.ofChange fnRescanIdempotentKeepsRestWrong)

/-- 'zzlaws_root_b1.FnRescanSkipsNoUnsureRange': WHATEVER THE INPUT: true; the input reads as it did. -/
def fnRescanSkipsNoUnsureRangeSpec : ChangeSpec := { name := "fnRescanSkipsNoUnsureRange", fn := fun _ => fun
  | [d1, d2, d3] => { results := [.lit (.bool true)], args := [d1, d2, d3] }
  | _ => none }
def fnRescanSkipsNoUnsureRangeRow : OpenClaim := { program := "qxb6001174a", sum := "214843c1281ce67b37c93bdfb0a045c8a7a0363eab69671f6c2a61d1a2894fb0", func := "example.com/stream-steps/stream-steps/zzlaws_root_b1.FnRescanSkipsNoUnsureRange", spec := "fnRescanSkipsNoUnsureRange", apart := false }
def FnRescanSkipsNoUnsureRangeSaid : Prop := fnRescanSkipsNoUnsureRangeRow.holds Try.pinned (OpenSpec.ofChange fnRescanSkipsNoUnsureRangeSpec)

/-- ITS FALSE NEIGHBOUR: 'it returns false'. Refute it at one input. -/
def fnRescanSkipsNoUnsureRangeWrong : ChangeSpec := { name := "fnRescanSkipsNoUnsureRange", fn := fun _ => fun
  | [d1, d2, d3] => { results := [.lit (.bool false)], args := [d1, d2, d3] }
  | _ => none }
def FnRescanSkipsNoUnsureRangeWrongFalsely : Prop := fnRescanSkipsNoUnsureRangeRow.holds Try.pinned (OpenSpec.ofChange fnRescanSkipsNoUnsureRangeWrong)

end Rows
end Go.Proofs.Qxb6001174a
