/-
  No cell of these rows narrows 'for every input' (looked for: loops, veiled, ifaces, maps, wideKeys, modest, calm, conditions, laid).
  DERIVED. THE GIVEN ROWS OF THIS SEAT. 5 by the template 'for every input the law returns true; each argument reads behind the call as it read before'; 0 by the template 'total and deterministic' (their statements: Qxb6600037aTotals.lean).
  GIVEN WITH THE SEED: the statements are not yours to turn. If you find one false, say at which input.
  Laid BY PROGRAM, IN A SANDBOX (cutbox-rows.mjs): the forced cells as the released guide's own fill.sh prints them over the translation 8f07e93bdbc03666… (all of the seat's roots in one cut). By AI agents, Wed Nov 11 2026. No macro, syntax, notation, axiom, sorry.
-/
import Derived.Test.Qxb6600037aChecked
import GoSem.Claim
import GoSem.ClaimJoined
import GoSem.ClaimMapViews
import Derived.JoinedTies
import Derived.KernelRfl
namespace Go.Proofs.Qxb6600037a
/- THE CELL 'sum', in the pinned program and in every row, IS THE sha256 OF THE DUMP (.gsa) THAT Qxb6600037aProg.lean LOADS. Nothing in Lean hashes anything: it is a label: what it is worth is what the hold of that sum in a sandbox is worth. -/
noncomputable def Try.pinned : Pinned := { name := "qxb6600037a", sum := "8f07e93bdbc036663aea3b6e77e793e39af1987c3bee86ea8ec1338d1beacf09", checked := Try.checked }
namespace Rows
def none {H : Type} : Left H := { results := [], args := [] }

/-- 'zzlaws_ofdfile_b1.FnAllDigitsConcatenation': WHATEVER THE INPUT: true; the input reads as it did. -/
def fnAllDigitsConcatenationSpec : ChangeSpec := { name := "fnAllDigitsConcatenation", fn := fun _ => fun
  | [d1, d2] => { results := [.lit (.bool true)], args := [d1, d2] }
  | _ => none }
def fnAllDigitsConcatenationRow : OpenClaim := { program := "qxb6600037a", sum := "8f07e93bdbc036663aea3b6e77e793e39af1987c3bee86ea8ec1338d1beacf09", func := "example.com/custodex/custodex/zzlaws_ofdfile_b1.FnAllDigitsConcatenation", spec := "fnAllDigitsConcatenation", apart := false }
def FnAllDigitsConcatenationSaid : Prop := fnAllDigitsConcatenationRow.holds Try.pinned (OpenSpec.ofChange fnAllDigitsConcatenationSpec)

/-- ITS FALSE NEIGHBOUR: 'it returns false'. Refute it at one input. -/
def fnAllDigitsConcatenationWrong : ChangeSpec := { name := "fnAllDigitsConcatenation", fn := fun _ => fun
  | [d1, d2] => { results := [.lit (.bool false)], args := [d1, d2] }
  | _ => none }
def FnAllDigitsConcatenationWrongFalsely : Prop := fnAllDigitsConcatenationRow.holds Try.pinned (OpenSpec.ofChange fnAllDigitsConcatenationWrong)

/-- 'zzlaws_ofdfile_b1.FnAllDigitsImpliesGB18030': WHATEVER THE INPUT: true; the input reads as it did. -/
def fnAllDigitsImpliesGB18030Spec : ChangeSpec := { name := "fnAllDigitsImpliesGB18030", fn := fun _ => fun
  | [d] => { results := [.lit (.bool true)], args := [d] }
  | _ => none }
def fnAllDigitsImpliesGB18030Row : OpenClaim := { program := "qxb6600037a", sum := "8f07e93bdbc036663aea3b6e77e793e39af1987c3bee86ea8ec1338d1beacf09", func := "example.com/custodex/custodex/zzlaws_ofdfile_b1.FnAllDigitsImpliesGB18030", spec := "fnAllDigitsImpliesGB18030", unfollowed := true, recurses := true, apart := false }
def FnAllDigitsImpliesGB18030Said : Prop := fnAllDigitsImpliesGB18030Row.holds Try.pinned (OpenSpec.ofChange fnAllDigitsImpliesGB18030Spec)

/-- ITS FALSE NEIGHBOUR: 'it returns false'. Refute it at one input. -/
def fnAllDigitsImpliesGB18030Wrong : ChangeSpec := { name := "fnAllDigitsImpliesGB18030", fn := fun _ => fun
  | [d] => { results := [.lit (.bool false)], args := [d] }
  | _ => none }
def FnAllDigitsImpliesGB18030WrongFalsely : Prop := fnAllDigitsImpliesGB18030Row.holds Try.pinned (OpenSpec.ofChange fnAllDigitsImpliesGB18030Wrong)

/-- 'zzlaws_ofdfile_b1.FnGB18030MatchesSegmentationModel': WHATEVER THE INPUT: true; the input reads as it did. -/
def fnGB18030MatchesSegmentationModelSpec : ChangeSpec := { name := "fnGB18030MatchesSegmentationModel", fn := fun _ => fun
  | [d] => { results := [.lit (.bool true)], args := [d] }
  | _ => none }
def fnGB18030MatchesSegmentationModelRow : OpenClaim := { program := "qxb6600037a", sum := "8f07e93bdbc036663aea3b6e77e793e39af1987c3bee86ea8ec1338d1beacf09", func := "example.com/custodex/custodex/zzlaws_ofdfile_b1.FnGB18030MatchesSegmentationModel", spec := "fnGB18030MatchesSegmentationModel", unfollowed := true, recurses := true, apart := false }
def FnGB18030MatchesSegmentationModelSaid : Prop := fnGB18030MatchesSegmentationModelRow.holds Try.pinned (OpenSpec.ofChange fnGB18030MatchesSegmentationModelSpec)

/-- ITS FALSE NEIGHBOUR: 'it returns false'. Refute it at one input. -/
def fnGB18030MatchesSegmentationModelWrong : ChangeSpec := { name := "fnGB18030MatchesSegmentationModel", fn := fun _ => fun
  | [d] => { results := [.lit (.bool false)], args := [d] }
  | _ => none }
def FnGB18030MatchesSegmentationModelWrongFalsely : Prop := fnGB18030MatchesSegmentationModelRow.holds Try.pinned (OpenSpec.ofChange fnGB18030MatchesSegmentationModelWrong)

/-- 'zzlaws_ofdfile_b1.FnGB18030ValidPrefixCancels': WHATEVER THE INPUT: true; the input reads as it did. -/
def fnGB18030ValidPrefixCancelsSpec : ChangeSpec := { name := "fnGB18030ValidPrefixCancels", fn := fun _ => fun
  | [d1, d2] => { results := [.lit (.bool true)], args := [d1, d2] }
  | _ => none }
def fnGB18030ValidPrefixCancelsRow : OpenClaim := { program := "qxb6600037a", sum := "8f07e93bdbc036663aea3b6e77e793e39af1987c3bee86ea8ec1338d1beacf09", func := "example.com/custodex/custodex/zzlaws_ofdfile_b1.FnGB18030ValidPrefixCancels", spec := "fnGB18030ValidPrefixCancels", unfollowed := true, recurses := true, apart := false }
def FnGB18030ValidPrefixCancelsSaid : Prop := fnGB18030ValidPrefixCancelsRow.holds Try.pinned (OpenSpec.ofChange fnGB18030ValidPrefixCancelsSpec)

/-- ITS FALSE NEIGHBOUR: 'it returns false'. Refute it at one input. -/
def fnGB18030ValidPrefixCancelsWrong : ChangeSpec := { name := "fnGB18030ValidPrefixCancels", fn := fun _ => fun
  | [d1, d2] => { results := [.lit (.bool false)], args := [d1, d2] }
  | _ => none }
def FnGB18030ValidPrefixCancelsWrongFalsely : Prop := fnGB18030ValidPrefixCancelsRow.holds Try.pinned (OpenSpec.ofChange fnGB18030ValidPrefixCancelsWrong)

/-- 'zzlaws_ofdfile_b1.FnGB18030EncodedAcceptedTruncatedRefused': WHATEVER THE INPUT: true; the input reads as it did. -/
def fnGB18030EncodedAcceptedTruncatedRefusedSpec : ChangeSpec := { name := "fnGB18030EncodedAcceptedTruncatedRefused", fn := fun _ => fun
  | [d1, d2, d3] => { results := [.lit (.bool true)], args := [d1, d2, d3] }
  | _ => none }
def fnGB18030EncodedAcceptedTruncatedRefusedRow : OpenClaim := { program := "qxb6600037a", sum := "8f07e93bdbc036663aea3b6e77e793e39af1987c3bee86ea8ec1338d1beacf09", func := "example.com/custodex/custodex/zzlaws_ofdfile_b1.FnGB18030EncodedAcceptedTruncatedRefused", spec := "fnGB18030EncodedAcceptedTruncatedRefused", unfollowed := true, recurses := true, apart := false }
def FnGB18030EncodedAcceptedTruncatedRefusedSaid : Prop := fnGB18030EncodedAcceptedTruncatedRefusedRow.holds Try.pinned (OpenSpec.ofChange fnGB18030EncodedAcceptedTruncatedRefusedSpec)

/-- ITS FALSE NEIGHBOUR: 'it returns false'. Refute it at one input. -/
def fnGB18030EncodedAcceptedTruncatedRefusedWrong : ChangeSpec := { name := "fnGB18030EncodedAcceptedTruncatedRefused", fn := fun _ => fun
  | [d1, d2, d3] => { results := [.lit (.bool false)], args := [d1, d2, d3] }
  | _ => none }
def FnGB18030EncodedAcceptedTruncatedRefusedWrongFalsely : Prop := fnGB18030EncodedAcceptedTruncatedRefusedRow.holds Try.pinned (OpenSpec.ofChange fnGB18030EncodedAcceptedTruncatedRefusedWrong)

end Rows
end Go.Proofs.Qxb6600037a
