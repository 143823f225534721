/-
  No cell of these rows narrows 'for every input' (looked for: loops, veiled, ifaces, maps, wideKeys, modest, calm, conditions, laid).
  DERIVED. THE GIVEN ROWS OF THIS SEAT. 2 by the template 'for every input the law returns true; each argument reads behind the call as it read before'; 0 by the template 'total and deterministic' (their statements: Qxb6617224aTotals.lean).
  GIVEN WITH THE SEED: the statements are not yours to turn. If you find one false, say at which input.
  Laid BY PROGRAM, IN A SANDBOX (cutbox-rows.mjs): the forced cells as the released guide's own fill.sh prints them over the translation de17a3e7e9a9dacc… (all of the seat's roots in one cut). By AI agents, Wed Nov 11 2026. No macro, syntax, notation, axiom, sorry.
-/
import Derived.Test.Qxb6617224aChecked
import GoSem.Claim
import GoSem.ClaimJoined
import GoSem.ClaimMapViews
import Derived.JoinedTies
import Derived.KernelRfl
namespace Go.Proofs.Qxb6617224a
/- THE CELL 'sum', in the pinned program and in every row, IS THE sha256 OF THE DUMP (.gsa) THAT Qxb6617224aProg.lean LOADS. Nothing in Lean hashes anything: it is a label: what it is worth is what the hold of that sum in a sandbox is worth. -/
noncomputable def Try.pinned : Pinned := { name := "qxb6617224a", sum := "de17a3e7e9a9dacc86f4ba1a5e762e336062eee42989c4a8cf021fc5eec9f8f2", checked := Try.checked }
namespace Rows
def none {H : Type} : Left H := { results := [], args := [] }

/-- 'zzlaws_pkg_decimal_b1.FnParseIntSplitAtAnyPlace': WHATEVER THE INPUT: true; the input reads as it did. -/
def fnParseIntSplitAtAnyPlaceSpec : ChangeSpec := { name := "fnParseIntSplitAtAnyPlace", fn := fun _ => fun
  | [d1, d2] => { results := [.lit (.bool true)], args := [d1, d2] }
  | _ => none }
def fnParseIntSplitAtAnyPlaceRow : OpenClaim := { program := "qxb6617224a", sum := "de17a3e7e9a9dacc86f4ba1a5e762e336062eee42989c4a8cf021fc5eec9f8f2", func := "example.com/moraine/moraine/zzlaws_pkg_decimal_b1.FnParseIntSplitAtAnyPlace", spec := "fnParseIntSplitAtAnyPlace", apart := false }
def FnParseIntSplitAtAnyPlaceSaid : Prop := fnParseIntSplitAtAnyPlaceRow.holds Try.pinned (OpenSpec.ofChange fnParseIntSplitAtAnyPlaceSpec)

/-- ITS FALSE NEIGHBOUR: 'it returns false'. Refute it at one input. -/
def fnParseIntSplitAtAnyPlaceWrong : ChangeSpec := { name := "fnParseIntSplitAtAnyPlace", fn := fun _ => fun
  | [d1, d2] => { results := [.lit (.bool false)], args := [d1, d2] }
  | _ => none }
def FnParseIntSplitAtAnyPlaceWrongFalsely : Prop := fnParseIntSplitAtAnyPlaceRow.holds Try.pinned (OpenSpec.ofChange fnParseIntSplitAtAnyPlaceWrong)

/-- 'zzlaws_pkg_decimal_b1.FnIntIsTheIntegerValue': WHATEVER THE INPUT: true; the input reads as it did. -/
def fnIntIsTheIntegerValueSpec : ChangeSpec := { name := "fnIntIsTheIntegerValue", fn := fun _ => fun
  | [d1, d2, d3, d4] => { results := [.lit (.bool true)], args := [d1, d2, d3, d4] }
  | _ => none }
def fnIntIsTheIntegerValueRow : OpenClaim := { program := "qxb6617224a", sum := "de17a3e7e9a9dacc86f4ba1a5e762e336062eee42989c4a8cf021fc5eec9f8f2", func := "example.com/moraine/moraine/zzlaws_pkg_decimal_b1.FnIntIsTheIntegerValue", spec := "fnIntIsTheIntegerValue", apart := false }
def FnIntIsTheIntegerValueSaid : Prop := fnIntIsTheIntegerValueRow.holds Try.pinned (OpenSpec.ofChange fnIntIsTheIntegerValueSpec)

/-- ITS FALSE NEIGHBOUR: 'it returns false'. Refute it at one input. -/
def fnIntIsTheIntegerValueWrong : ChangeSpec := { name := "fnIntIsTheIntegerValue", fn := fun _ => fun
  | [d1, d2, d3, d4] => { results := [.lit (.bool false)], args := [d1, d2, d3, d4] }
  | _ => none }
def FnIntIsTheIntegerValueWrongFalsely : Prop := fnIntIsTheIntegerValueRow.holds Try.pinned (OpenSpec.ofChange fnIntIsTheIntegerValueWrong)

end Rows
end Go.Proofs.Qxb6617224a
