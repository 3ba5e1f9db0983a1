/-
  No cell of these rows narrows 'for every input' (looked for: loops, veiled, ifaces, maps, wideKeys, modest, calm, conditions, laid).
  DERIVED. THE GIVEN ROWS OF THIS SEAT. 6 by the template 'for every input the law returns true; each argument reads behind the call as it read before'; 0 by the template 'total and deterministic' (their statements: Qxb6602438aTotals.lean).
  GIVEN WITH THE SEED: the statements are not yours to turn. If you find one false, say at which input.
  Laid BY PROGRAM, IN A SANDBOX (cutbox-rows.mjs): the forced cells as the released guide's own fill.sh prints them over the translation c78b6b1ff4fad823… (all of the seat's roots in one cut). By AI agents, Wed Nov 11 2026. No macro, syntax, notation, axiom, sorry.
-/
import Derived.Test.Qxb6602438aChecked
import GoSem.Claim
import GoSem.ClaimJoined
import GoSem.ClaimMapViews
import Derived.JoinedTies
import Derived.KernelRfl
namespace Go.Proofs.Qxb6602438a
/- THE CELL 'sum', in the pinned program and in every row, IS THE sha256 OF THE DUMP (.gsa) THAT Qxb6602438aProg.lean LOADS. Nothing in Lean hashes anything: it is a label: what it is worth is what the hold of that sum in a sandbox is worth. -/
noncomputable def Try.pinned : Pinned := { name := "qxb6602438a", sum := "c78b6b1ff4fad823f115ad39d5e3cf0b1f87e37001fdf79d7f48b0d4adb4795d", checked := Try.checked }
namespace Rows
def none {H : Type} : Left H := { results := [], args := [] }

/-- 'zzlaws_internal_ignore_b1.FnMatchGlobEqualsTableModel': WHATEVER THE INPUT: true; the input reads as it did. -/
def fnMatchGlobEqualsTableModelSpec : ChangeSpec := { name := "fnMatchGlobEqualsTableModel", fn := fun _ => fun
  | [d1, d2] => { results := [.lit (.bool true)], args := [d1, d2] }
  | _ => none }
def fnMatchGlobEqualsTableModelRow : OpenClaim := { program := "qxb6602438a", sum := "c78b6b1ff4fad823f115ad39d5e3cf0b1f87e37001fdf79d7f48b0d4adb4795d", func := "example.com/tideline/tideline/zzlaws_internal_ignore_b1.FnMatchGlobEqualsTableModel", spec := "fnMatchGlobEqualsTableModel", apart := false }
def FnMatchGlobEqualsTableModelSaid : Prop := fnMatchGlobEqualsTableModelRow.holds Try.pinned (OpenSpec.ofChange fnMatchGlobEqualsTableModelSpec)

/-- ITS FALSE NEIGHBOUR: 'it returns false'. Refute it at one input. -/
def fnMatchGlobEqualsTableModelWrong : ChangeSpec := { name := "fnMatchGlobEqualsTableModel", fn := fun _ => fun
  | [d1, d2] => { results := [.lit (.bool false)], args := [d1, d2] }
  | _ => none }
def FnMatchGlobEqualsTableModelWrongFalsely : Prop := fnMatchGlobEqualsTableModelRow.holds Try.pinned (OpenSpec.ofChange fnMatchGlobEqualsTableModelWrong)

/-- 'zzlaws_internal_ignore_b1.FnMatchGlobSplitLiteralKeepsAnswer': WHATEVER THE INPUT: true; the input reads as it did. -/
def fnMatchGlobSplitLiteralKeepsAnswerSpec : ChangeSpec := { name := "fnMatchGlobSplitLiteralKeepsAnswer", fn := fun _ => fun
  | [d1, d2, d3, d4, d5] => { results := [.lit (.bool true)], args := [d1, d2, d3, d4, d5] }
  | _ => none }
def fnMatchGlobSplitLiteralKeepsAnswerRow : OpenClaim := { program := "qxb6602438a", sum := "c78b6b1ff4fad823f115ad39d5e3cf0b1f87e37001fdf79d7f48b0d4adb4795d", func := "example.com/tideline/tideline/zzlaws_internal_ignore_b1.FnMatchGlobSplitLiteralKeepsAnswer", spec := "fnMatchGlobSplitLiteralKeepsAnswer", apart := false }
def FnMatchGlobSplitLiteralKeepsAnswerSaid : Prop := fnMatchGlobSplitLiteralKeepsAnswerRow.holds Try.pinned (OpenSpec.ofChange fnMatchGlobSplitLiteralKeepsAnswerSpec)

/-- ITS FALSE NEIGHBOUR: 'it returns false'. Refute it at one input. -/
def fnMatchGlobSplitLiteralKeepsAnswerWrong : ChangeSpec := { name := "fnMatchGlobSplitLiteralKeepsAnswer", fn := fun _ => fun
  | [d1, d2, d3, d4, d5] => { results := [.lit (.bool false)], args := [d1, d2, d3, d4, d5] }
  | _ => none }
def FnMatchGlobSplitLiteralKeepsAnswerWrongFalsely : Prop := fnMatchGlobSplitLiteralKeepsAnswerRow.holds Try.pinned (OpenSpec.ofChange fnMatchGlobSplitLiteralKeepsAnswerWrong)

/-- 'zzlaws_internal_ignore_b1.FnMatchGlobTrailingRunExtendsMatch': WHATEVER THE INPUT: true; the input reads as it did. -/
def fnMatchGlobTrailingRunExtendsMatchSpec : ChangeSpec := { name := "fnMatchGlobTrailingRunExtendsMatch", fn := fun _ => fun
  | [d1, d2, d3] => { results := [.lit (.bool true)], args := [d1, d2, d3] }
  | _ => none }
def fnMatchGlobTrailingRunExtendsMatchRow : OpenClaim := { program := "qxb6602438a", sum := "c78b6b1ff4fad823f115ad39d5e3cf0b1f87e37001fdf79d7f48b0d4adb4795d", func := "example.com/tideline/tideline/zzlaws_internal_ignore_b1.FnMatchGlobTrailingRunExtendsMatch", spec := "fnMatchGlobTrailingRunExtendsMatch", apart := false }
def FnMatchGlobTrailingRunExtendsMatchSaid : Prop := fnMatchGlobTrailingRunExtendsMatchRow.holds Try.pinned (OpenSpec.ofChange fnMatchGlobTrailingRunExtendsMatchSpec)

/-- ITS FALSE NEIGHBOUR: 'it returns false'. Refute it at one input. -/
def fnMatchGlobTrailingRunExtendsMatchWrong : ChangeSpec := { name := "fnMatchGlobTrailingRunExtendsMatch", fn := fun _ => fun
  | [d1, d2, d3] => { results := [.lit (.bool false)], args := [d1, d2, d3] }
  | _ => none }
def FnMatchGlobTrailingRunExtendsMatchWrongFalsely : Prop := fnMatchGlobTrailingRunExtendsMatchRow.holds Try.pinned (OpenSpec.ofChange fnMatchGlobTrailingRunExtendsMatchWrong)

/-- 'zzlaws_internal_ignore_b1.FnMatchElemsEqualsTableModel': WHATEVER THE INPUT: true; the input reads as it did. -/
def fnMatchElemsEqualsTableModelSpec : ChangeSpec := { name := "fnMatchElemsEqualsTableModel", fn := fun _ => fun
  | [d1, d2] => { results := [.lit (.bool true)], args := [d1, d2] }
  | _ => none }
def fnMatchElemsEqualsTableModelRow : OpenClaim := { program := "qxb6602438a", sum := "c78b6b1ff4fad823f115ad39d5e3cf0b1f87e37001fdf79d7f48b0d4adb4795d", func := "example.com/tideline/tideline/zzlaws_internal_ignore_b1.FnMatchElemsEqualsTableModel", spec := "fnMatchElemsEqualsTableModel", apart := false }
def FnMatchElemsEqualsTableModelSaid : Prop := fnMatchElemsEqualsTableModelRow.holds Try.pinned (OpenSpec.ofChange fnMatchElemsEqualsTableModelSpec)

/-- ITS FALSE NEIGHBOUR: 'it returns false'. Refute it at one input. -/
def fnMatchElemsEqualsTableModelWrong : ChangeSpec := { name := "fnMatchElemsEqualsTableModel", fn := fun _ => fun
  | [d1, d2] => { results := [.lit (.bool false)], args := [d1, d2] }
  | _ => none }
def FnMatchElemsEqualsTableModelWrongFalsely : Prop := fnMatchElemsEqualsTableModelRow.holds Try.pinned (OpenSpec.ofChange fnMatchElemsEqualsTableModelWrong)

/-- 'zzlaws_internal_ignore_b1.FnMatchElemsTrailingDoubleStarExtendsMatch': WHATEVER THE INPUT: true; the input reads as it did. -/
def fnMatchElemsTrailingDoubleStarExtendsMatchSpec : ChangeSpec := { name := "fnMatchElemsTrailingDoubleStarExtendsMatch", fn := fun _ => fun
  | [d1, d2, d3] => { results := [.lit (.bool true)], args := [d1, d2, d3] }
  | _ => none }
def fnMatchElemsTrailingDoubleStarExtendsMatchRow : OpenClaim := { program := "qxb6602438a", sum := "c78b6b1ff4fad823f115ad39d5e3cf0b1f87e37001fdf79d7f48b0d4adb4795d", func := "example.com/tideline/tideline/zzlaws_internal_ignore_b1.FnMatchElemsTrailingDoubleStarExtendsMatch", spec := "fnMatchElemsTrailingDoubleStarExtendsMatch", apart := false }
def FnMatchElemsTrailingDoubleStarExtendsMatchSaid : Prop := fnMatchElemsTrailingDoubleStarExtendsMatchRow.holds Try.pinned (OpenSpec.ofChange fnMatchElemsTrailingDoubleStarExtendsMatchSpec)

/-- ITS FALSE NEIGHBOUR: 'it returns false'. Refute it at one input. -/
def fnMatchElemsTrailingDoubleStarExtendsMatchWrong : ChangeSpec := { name := "fnMatchElemsTrailingDoubleStarExtendsMatch", fn := fun _ => fun
  | [d1, d2, d3] => { results := [.lit (.bool false)], args := [d1, d2, d3] }
  | _ => none }
def FnMatchElemsTrailingDoubleStarExtendsMatchWrongFalsely : Prop := fnMatchElemsTrailingDoubleStarExtendsMatchRow.holds Try.pinned (OpenSpec.ofChange fnMatchElemsTrailingDoubleStarExtendsMatchWrong)

/-- 'zzlaws_internal_ignore_b1.FnMatchElemsDoubledDoubleStarCollapses': WHATEVER THE INPUT: true; the input reads as it did. -/
def fnMatchElemsDoubledDoubleStarCollapsesSpec : ChangeSpec := { name := "fnMatchElemsDoubledDoubleStarCollapses", fn := fun _ => fun
  | [d1, d2, d3] => { results := [.lit (.bool true)], args := [d1, d2, d3] }
  | _ => none }
def fnMatchElemsDoubledDoubleStarCollapsesRow : OpenClaim := { program := "qxb6602438a", sum := "c78b6b1ff4fad823f115ad39d5e3cf0b1f87e37001fdf79d7f48b0d4adb4795d", func := "example.com/tideline/tideline/zzlaws_internal_ignore_b1.FnMatchElemsDoubledDoubleStarCollapses", spec := "fnMatchElemsDoubledDoubleStarCollapses", apart := false }
def FnMatchElemsDoubledDoubleStarCollapsesSaid : Prop := fnMatchElemsDoubledDoubleStarCollapsesRow.holds Try.pinned (OpenSpec.ofChange fnMatchElemsDoubledDoubleStarCollapsesSpec)

/-- ITS FALSE NEIGHBOUR: 'it returns false'. Refute it at one input. -/
def fnMatchElemsDoubledDoubleStarCollapsesWrong : ChangeSpec := { name := "fnMatchElemsDoubledDoubleStarCollapses", fn := fun _ => fun
  | [d1, d2, d3] => { results := [.lit (.bool false)], args := [d1, d2, d3] }
  | _ => none }
def FnMatchElemsDoubledDoubleStarCollapsesWrongFalsely : Prop := fnMatchElemsDoubledDoubleStarCollapsesRow.holds Try.pinned (OpenSpec.ofChange fnMatchElemsDoubledDoubleStarCollapsesWrong)

end Rows
end Go.Proofs.Qxb6602438a
