/-
  No cell of these rows narrows 'for every input' (looked for: loops, veiled, ifaces, maps, wideKeys, modest, calm, conditions, laid).
  DERIVED. THE GIVEN ROWS OF THIS SEAT. 3 by the template 'for every input the law returns true; each argument reads behind the call as it read before'; 0 by the template 'total and deterministic' (their statements: Qxb6602382aTotals.lean).
  GIVEN WITH THE SEED: the statements are not yours to turn. If you find one false, say at which input.
  Laid BY PROGRAM, IN A SANDBOX (cutbox-rows.mjs): the forced cells as the released guide's own fill.sh prints them over the translation fad8fe7977b92c6c… (all of the seat's roots in one cut). By AI agents, Wed Nov 11 2026. No macro, syntax, notation, axiom, sorry.
-/
import Derived.Test.Qxb6602382aChecked
import GoSem.Claim
import GoSem.ClaimJoined
import GoSem.ClaimMapViews
import Derived.JoinedTies
import Derived.KernelRfl
namespace Go.Proofs.Qxb6602382a
/- THE CELL 'sum', in the pinned program and in every row, IS THE sha256 OF THE DUMP (.gsa) THAT Qxb6602382aProg.lean LOADS. Nothing in Lean hashes anything: it is a label: what it is worth is what the hold of that sum in a sandbox is worth. -/
noncomputable def Try.pinned : Pinned := { name := "qxb6602382a", sum := "fad8fe7977b92c6c57e01fbf0f1fb988088c211182342bebee68ff289c8a67a1", checked := Try.checked }
namespace Rows
def none {H : Type} : Left H := { results := [], args := [] }

/-- 'zzlaws_num_b1.FnPlainMatchesGrammar': WHATEVER THE INPUT: true; the input reads as it did. -/
def fnPlainMatchesGrammarSpec : ChangeSpec := { name := "fnPlainMatchesGrammar", fn := fun _ => fun
  | [d] => { results := [.lit (.bool true)], args := [d] }
  | _ => none }
def fnPlainMatchesGrammarRow : OpenClaim := { program := "qxb6602382a", sum := "fad8fe7977b92c6c57e01fbf0f1fb988088c211182342bebee68ff289c8a67a1", func := "example.com/zhaomu/zhaomu/zzlaws_num_b1.FnPlainMatchesGrammar", spec := "fnPlainMatchesGrammar", apart := false }
def FnPlainMatchesGrammarSaid : Prop := fnPlainMatchesGrammarRow.holds Try.pinned (OpenSpec.ofChange fnPlainMatchesGrammarSpec)

/-- ITS FALSE NEIGHBOUR: 'it returns false'. Refute it at one input. -/
def fnPlainMatchesGrammarWrong : ChangeSpec := { name := "fnPlainMatchesGrammar", fn := fun _ => fun
  | [d] => { results := [.lit (.bool false)], args := [d] }
  | _ => none }
def FnPlainMatchesGrammarWrongFalsely : Prop := fnPlainMatchesGrammarRow.holds Try.pinned (OpenSpec.ofChange fnPlainMatchesGrammarWrong)

/-- 'zzlaws_num_b1.FnPlainMinusSign': WHATEVER THE INPUT: true; the input reads as it did. -/
def fnPlainMinusSignSpec : ChangeSpec := { name := "fnPlainMinusSign", fn := fun _ => fun
  | [d] => { results := [.lit (.bool true)], args := [d] }
  | _ => none }
def fnPlainMinusSignRow : OpenClaim := { program := "qxb6602382a", sum := "fad8fe7977b92c6c57e01fbf0f1fb988088c211182342bebee68ff289c8a67a1", func := "example.com/zhaomu/zhaomu/zzlaws_num_b1.FnPlainMinusSign", spec := "fnPlainMinusSign", apart := false }
def FnPlainMinusSignSaid : Prop := fnPlainMinusSignRow.holds Try.pinned (OpenSpec.ofChange fnPlainMinusSignSpec)

/-- ITS FALSE NEIGHBOUR: 'it returns false'. Refute it at one input. -/
def fnPlainMinusSignWrong : ChangeSpec := { name := "fnPlainMinusSign", fn := fun _ => fun
  | [d] => { results := [.lit (.bool false)], args := [d] }
  | _ => none }
def FnPlainMinusSignWrongFalsely : Prop := fnPlainMinusSignRow.holds Try.pinned (OpenSpec.ofChange fnPlainMinusSignWrong)

/-- 'zzlaws_num_b1.FnPlainDecimalPoint': WHATEVER THE INPUT: true; the input reads as it did. -/
def fnPlainDecimalPointSpec : ChangeSpec := { name := "fnPlainDecimalPoint", fn := fun _ => fun
  | [d1, d2] => { results := [.lit (.bool true)], args := [d1, d2] }
  | _ => none }
def fnPlainDecimalPointRow : OpenClaim := { program := "qxb6602382a", sum := "fad8fe7977b92c6c57e01fbf0f1fb988088c211182342bebee68ff289c8a67a1", func := "example.com/zhaomu/zhaomu/zzlaws_num_b1.FnPlainDecimalPoint", spec := "fnPlainDecimalPoint", apart := false }
def FnPlainDecimalPointSaid : Prop := fnPlainDecimalPointRow.holds Try.pinned (OpenSpec.ofChange fnPlainDecimalPointSpec)

/-- ITS FALSE NEIGHBOUR: 'it returns false'. Refute it at one input. -/
def fnPlainDecimalPointWrong : ChangeSpec := { name := "fnPlainDecimalPoint", fn := fun _ => fun
  | [d1, d2] => { results := [.lit (.bool false)], args := [d1, d2] }
  | _ => none }
def FnPlainDecimalPointWrongFalsely : Prop := fnPlainDecimalPointRow.holds Try.pinned (OpenSpec.ofChange fnPlainDecimalPointWrong)

end Rows
end Go.Proofs.Qxb6602382a
