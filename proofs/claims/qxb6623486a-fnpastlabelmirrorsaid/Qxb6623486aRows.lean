/-
  No cell of these rows narrows 'for every input' (looked for: loops, veiled, ifaces, maps, wideKeys, modest, calm, conditions, laid).
  DERIVED. THE GIVEN ROWS OF THIS SEAT. 2 by the template 'for every input the law returns true; each argument reads behind the call as it read before'; 0 by the template 'total and deterministic' (their statements: Qxb6623486aTotals.lean).
  GIVEN WITH THE SEED: the statements are not yours to turn. If you find one false, say at which input.
  Laid BY PROGRAM, IN A SANDBOX (cutbox-rows.mjs): the forced cells as the released guide's own fill.sh prints them over the translation f697af861e77e34f… (all of the seat's roots in one cut). By AI agents, Wed Nov 11 2026. No macro, syntax, notation, axiom, sorry.
-/
import Derived.Test.Qxb6623486aChecked
import GoSem.Claim
import GoSem.ClaimJoined
import GoSem.ClaimMapViews
import Derived.JoinedTies
import Derived.KernelRfl
namespace Go.Proofs.Qxb6623486a
/- THE CELL 'sum', in the pinned program and in every row, IS THE sha256 OF THE DUMP (.gsa) THAT Qxb6623486aProg.lean LOADS. Nothing in Lean hashes anything: it is a label: what it is worth is what the hold of that sum in a sandbox is worth. -/
noncomputable def Try.pinned : Pinned := { name := "qxb6623486a", sum := "f697af861e77e34f8c31a818ff279f76b7d7d3f6f7df9aabd32857bbcc21390b", checked := Try.checked }
namespace Rows
def none {H : Type} : Left H := { results := [], args := [] }

/-- 'zzlaws_root_b1.FnPastLabelWhole': WHATEVER THE INPUT: true; the input reads as it did. -/
def fnPastLabelWholeSpec : ChangeSpec := { name := "fnPastLabelWhole", fn := fun _ => fun
  | [d1, d2, d3] => { results := [.lit (.bool true)], args := [d1, d2, d3] }
  | _ => none }
def fnPastLabelWholeRow : OpenClaim := { program := "qxb6623486a", sum := "f697af861e77e34f8c31a818ff279f76b7d7d3f6f7df9aabd32857bbcc21390b", func := "example.com/regla/regla/zzlaws_root_b1.FnPastLabelWhole", spec := "fnPastLabelWhole", apart := false }
def FnPastLabelWholeSaid : Prop := fnPastLabelWholeRow.holds Try.pinned (OpenSpec.ofChange fnPastLabelWholeSpec)

/-- ITS FALSE NEIGHBOUR: 'it returns false'. Refute it at one input. -/
def fnPastLabelWholeWrong : ChangeSpec := { name := "fnPastLabelWhole", fn := fun _ => fun
  | [d1, d2, d3] => { results := [.lit (.bool false)], args := [d1, d2, d3] }
  | _ => none }
def FnPastLabelWholeWrongFalsely : Prop := fnPastLabelWholeRow.holds Try.pinned (OpenSpec.ofChange fnPastLabelWholeWrong)

/-- 'zzlaws_root_b1.FnPastLabelMirror': WHATEVER THE INPUT: true; the input reads as it did. -/
def fnPastLabelMirrorSpec : ChangeSpec := { name := "fnPastLabelMirror", fn := fun _ => fun
  | [d1, d2] => { results := [.lit (.bool true)], args := [d1, d2] }
  | _ => none }
def fnPastLabelMirrorRow : OpenClaim := { program := "qxb6623486a", sum := "f697af861e77e34f8c31a818ff279f76b7d7d3f6f7df9aabd32857bbcc21390b", func := "example.com/regla/regla/zzlaws_root_b1.FnPastLabelMirror", spec := "fnPastLabelMirror", apart := false }
def FnPastLabelMirrorSaid : Prop := fnPastLabelMirrorRow.holds Try.pinned (OpenSpec.ofChange fnPastLabelMirrorSpec)

/-- ITS FALSE NEIGHBOUR: 'it returns false'. Refute it at one input. -/
def fnPastLabelMirrorWrong : ChangeSpec := { name := "fnPastLabelMirror", fn := fun _ => fun
  | [d1, d2] => { results := [.lit (.bool false)], args := [d1, d2] }
  | _ => none }
def FnPastLabelMirrorWrongFalsely : Prop := fnPastLabelMirrorRow.holds Try.pinned (OpenSpec.ofChange fnPastLabelMirrorWrong)

end Rows
end Go.Proofs.Qxb6623486a
