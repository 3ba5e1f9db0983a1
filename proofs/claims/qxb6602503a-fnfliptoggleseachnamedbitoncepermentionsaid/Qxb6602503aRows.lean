/-
  No cell of these rows narrows 'for every input' (looked for: loops, veiled, ifaces, maps, wideKeys, modest, calm, conditions, laid).
  DERIVED. THE GIVEN ROWS OF THIS SEAT. 4 by the template 'for every input the law returns true; each argument reads behind the call as it read before'; 0 by the template 'total and deterministic' (their statements: Qxb6602503aTotals.lean).
  GIVEN WITH THE SEED: the statements are not yours to turn. If you find one false, say at which input.
  Laid BY PROGRAM, IN A SANDBOX (cutbox-rows.mjs): the forced cells as the released guide's own fill.sh prints them over the translation 09aab2e4efe70a71… (all of the seat's roots in one cut). By AI agents, Wed Nov 11 2026. No macro, syntax, notation, axiom, sorry.
-/
import Derived.Test.Qxb6602503aChecked
import GoSem.Claim
import GoSem.ClaimJoined
import GoSem.ClaimMapViews
import Derived.JoinedTies
import Derived.KernelRfl
namespace Go.Proofs.Qxb6602503a
/- THE CELL 'sum', in the pinned program and in every row, IS THE sha256 OF THE DUMP (.gsa) THAT Qxb6602503aProg.lean LOADS. Nothing in Lean hashes anything: it is a label: what it is worth is what the hold of that sum in a sandbox is worth. -/
noncomputable def Try.pinned : Pinned := { name := "qxb6602503a", sum := "09aab2e4efe70a71de3bdeaf5c1401d18280d199529b8fb7c86cfc0753d18cbb", checked := Try.checked }
namespace Rows
def none {H : Type} : Left H := { results := [], args := [] }

/-- 'zzlaws_internal_blocksum_b1.FnReachNeverGrowsWithMoreBits': WHATEVER THE INPUT: true; the input reads as it did. -/
def fnReachNeverGrowsWithMoreBitsSpec : ChangeSpec := { name := "fnReachNeverGrowsWithMoreBits", fn := fun _ => fun
  | [d1, d2] => { results := [.lit (.bool true)], args := [d1, d2] }
  | _ => none }
def fnReachNeverGrowsWithMoreBitsRow : OpenClaim := { program := "qxb6602503a", sum := "09aab2e4efe70a71de3bdeaf5c1401d18280d199529b8fb7c86cfc0753d18cbb", func := "example.com/rotwatch/rotwatch/zzlaws_internal_blocksum_b1.FnReachNeverGrowsWithMoreBits", spec := "fnReachNeverGrowsWithMoreBits", apart := false }
def FnReachNeverGrowsWithMoreBitsSaid : Prop := fnReachNeverGrowsWithMoreBitsRow.holds Try.pinned (OpenSpec.ofChange fnReachNeverGrowsWithMoreBitsSpec)

/-- ITS FALSE NEIGHBOUR: 'it returns false'. Refute it at one input. -/
def fnReachNeverGrowsWithMoreBitsWrong : ChangeSpec := { name := "fnReachNeverGrowsWithMoreBits", fn := fun _ => fun
  | [d1, d2] => { results := [.lit (.bool false)], args := [d1, d2] }
  | _ => none }
def FnReachNeverGrowsWithMoreBitsWrongFalsely : Prop := fnReachNeverGrowsWithMoreBitsRow.holds Try.pinned (OpenSpec.ofChange fnReachNeverGrowsWithMoreBitsWrong)

/-- 'zzlaws_internal_blocksum_b1.FnFlipTogglesEachNamedBitOncePerMention': WHATEVER THE INPUT: true; the input reads as it did. -/
def fnFlipTogglesEachNamedBitOncePerMentionSpec : ChangeSpec := { name := "fnFlipTogglesEachNamedBitOncePerMention", fn := fun _ => fun
  | [d1, d2] => { results := [.lit (.bool true)], args := [d1, d2] }
  | _ => none }
def fnFlipTogglesEachNamedBitOncePerMentionRow : OpenClaim := { program := "qxb6602503a", sum := "09aab2e4efe70a71de3bdeaf5c1401d18280d199529b8fb7c86cfc0753d18cbb", func := "example.com/rotwatch/rotwatch/zzlaws_internal_blocksum_b1.FnFlipTogglesEachNamedBitOncePerMention", spec := "fnFlipTogglesEachNamedBitOncePerMention", apart := false }
def FnFlipTogglesEachNamedBitOncePerMentionSaid : Prop := fnFlipTogglesEachNamedBitOncePerMentionRow.holds Try.pinned (OpenSpec.ofChange fnFlipTogglesEachNamedBitOncePerMentionSpec)

/-- ITS FALSE NEIGHBOUR: 'it returns false'. Refute it at one input. -/
def fnFlipTogglesEachNamedBitOncePerMentionWrong : ChangeSpec := { name := "fnFlipTogglesEachNamedBitOncePerMention", fn := fun _ => fun
  | [d1, d2] => { results := [.lit (.bool false)], args := [d1, d2] }
  | _ => none }
def FnFlipTogglesEachNamedBitOncePerMentionWrongFalsely : Prop := fnFlipTogglesEachNamedBitOncePerMentionRow.holds Try.pinned (OpenSpec.ofChange fnFlipTogglesEachNamedBitOncePerMentionWrong)

/-- 'zzlaws_internal_blocksum_b1.FnFlipTwiceRestoresBlock': WHATEVER THE INPUT: true; the input reads as it did. -/
def fnFlipTwiceRestoresBlockSpec : ChangeSpec := { name := "fnFlipTwiceRestoresBlock", fn := fun _ => fun
  | [d1, d2] => { results := [.lit (.bool true)], args := [d1, d2] }
  | _ => none }
def fnFlipTwiceRestoresBlockRow : OpenClaim := { program := "qxb6602503a", sum := "09aab2e4efe70a71de3bdeaf5c1401d18280d199529b8fb7c86cfc0753d18cbb", func := "example.com/rotwatch/rotwatch/zzlaws_internal_blocksum_b1.FnFlipTwiceRestoresBlock", spec := "fnFlipTwiceRestoresBlock", apart := false }
def FnFlipTwiceRestoresBlockSaid : Prop := fnFlipTwiceRestoresBlockRow.holds Try.pinned (OpenSpec.ofChange fnFlipTwiceRestoresBlockSpec)

/-- ITS FALSE NEIGHBOUR: 'it returns false'. Refute it at one input. -/
def fnFlipTwiceRestoresBlockWrong : ChangeSpec := { name := "fnFlipTwiceRestoresBlock", fn := fun _ => fun
  | [d1, d2] => { results := [.lit (.bool false)], args := [d1, d2] }
  | _ => none }
def FnFlipTwiceRestoresBlockWrongFalsely : Prop := fnFlipTwiceRestoresBlockRow.holds Try.pinned (OpenSpec.ofChange fnFlipTwiceRestoresBlockWrong)

/-- 'zzlaws_internal_blocksum_b1.FnFlipOfConcatenationIsFlipOfEachInEitherOrder': WHATEVER THE INPUT: true; the input reads as it did. -/
def fnFlipOfConcatenationIsFlipOfEachInEitherOrderSpec : ChangeSpec := { name := "fnFlipOfConcatenationIsFlipOfEachInEitherOrder", fn := fun _ => fun
  | [d1, d2, d3] => { results := [.lit (.bool true)], args := [d1, d2, d3] }
  | _ => none }
def fnFlipOfConcatenationIsFlipOfEachInEitherOrderRow : OpenClaim := { program := "qxb6602503a", sum := "09aab2e4efe70a71de3bdeaf5c1401d18280d199529b8fb7c86cfc0753d18cbb", func := "example.com/rotwatch/rotwatch/zzlaws_internal_blocksum_b1.FnFlipOfConcatenationIsFlipOfEachInEitherOrder", spec := "fnFlipOfConcatenationIsFlipOfEachInEitherOrder", apart := false }
def FnFlipOfConcatenationIsFlipOfEachInEitherOrderSaid : Prop := fnFlipOfConcatenationIsFlipOfEachInEitherOrderRow.holds Try.pinned (OpenSpec.ofChange fnFlipOfConcatenationIsFlipOfEachInEitherOrderSpec)

/-- ITS FALSE NEIGHBOUR: 'it returns false'. Refute it at one input. -/
def fnFlipOfConcatenationIsFlipOfEachInEitherOrderWrong : ChangeSpec := { name := "fnFlipOfConcatenationIsFlipOfEachInEitherOrder", fn := fun _ => fun
  | [d1, d2, d3] => { results := [.lit (.bool false)], args := [d1, d2, d3] }
  | _ => none }
def FnFlipOfConcatenationIsFlipOfEachInEitherOrderWrongFalsely : Prop := fnFlipOfConcatenationIsFlipOfEachInEitherOrderRow.holds Try.pinned (OpenSpec.ofChange fnFlipOfConcatenationIsFlipOfEachInEitherOrderWrong)

end Rows
end Go.Proofs.Qxb6602503a
