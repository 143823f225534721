/-
  No cell of these rows narrows 'for every input' (looked for: loops, veiled, ifaces, maps, wideKeys, modest, calm, conditions, laid).
  DERIVED. THE GIVEN ROWS OF THIS SEAT. 3 by the template 'for every input the law returns true; each argument reads behind the call as it read before'; 0 by the template 'total and deterministic' (their statements: Qxb6617320aTotals.lean).
  GIVEN WITH THE SEED: the statements are not yours to turn. If you find one false, say at which input.
  Laid BY PROGRAM, IN A SANDBOX (cutbox-rows.mjs): the forced cells as the released guide's own fill.sh prints them over the translation 44269b6e553a7f3e… (all of the seat's roots in one cut). By AI agents, Wed Nov 11 2026. No macro, syntax, notation, axiom, sorry.
-/
import Derived.Test.Qxb6617320aChecked
import GoSem.Claim
import GoSem.ClaimJoined
import GoSem.ClaimMapViews
import Derived.JoinedTies
import Derived.KernelRfl
namespace Go.Proofs.Qxb6617320a
/- THE CELL 'sum', in the pinned program and in every row, IS THE sha256 OF THE DUMP (.gsa) THAT Qxb6617320aProg.lean LOADS. Nothing in Lean hashes anything: it is a label: what it is worth is what the hold of that sum in a sandbox is worth. -/
noncomputable def Try.pinned : Pinned := { name := "qxb6617320a", sum := "44269b6e553a7f3e1c74ac7b078c47b8b48705585301ebbe6ea8f5321ab82808", checked := Try.checked }
namespace Rows
def none {H : Type} : Left H := { results := [], args := [] }

/-- 'zzlaws_internal_shell_b1.FnNumberReadsDigitPrefix': WHATEVER THE INPUT: true; the input reads as it did. -/
def fnNumberReadsDigitPrefixSpec : ChangeSpec := { name := "fnNumberReadsDigitPrefix", fn := fun _ => fun
  | [d1, d2, d3, d4] => { results := [.lit (.bool true)], args := [d1, d2, d3, d4] }
  | _ => none }
def fnNumberReadsDigitPrefixRow : OpenClaim := { program := "qxb6617320a", sum := "44269b6e553a7f3e1c74ac7b078c47b8b48705585301ebbe6ea8f5321ab82808", func := "example.com/hookwright/hookwright/zzlaws_internal_shell_b1.FnNumberReadsDigitPrefix", spec := "fnNumberReadsDigitPrefix", apart := false }
def FnNumberReadsDigitPrefixSaid : Prop := fnNumberReadsDigitPrefixRow.holds Try.pinned (OpenSpec.ofChange fnNumberReadsDigitPrefixSpec)

/-- ITS FALSE NEIGHBOUR: 'it returns false'. Refute it at one input. -/
def fnNumberReadsDigitPrefixWrong : ChangeSpec := { name := "fnNumberReadsDigitPrefix", fn := fun _ => fun
  | [d1, d2, d3, d4] => { results := [.lit (.bool false)], args := [d1, d2, d3, d4] }
  | _ => none }
def FnNumberReadsDigitPrefixWrongFalsely : Prop := fnNumberReadsDigitPrefixRow.holds Try.pinned (OpenSpec.ofChange fnNumberReadsDigitPrefixWrong)

/-- 'zzlaws_internal_shell_b1.FnCommandStringEndOfOptions': WHATEVER THE INPUT: true; the input reads as it did. -/
def fnCommandStringEndOfOptionsSpec : ChangeSpec := { name := "fnCommandStringEndOfOptions", fn := fun _ => fun
  | [d] => { results := [.lit (.bool true)], args := [d] }
  | _ => none }
def fnCommandStringEndOfOptionsRow : OpenClaim := { program := "qxb6617320a", sum := "44269b6e553a7f3e1c74ac7b078c47b8b48705585301ebbe6ea8f5321ab82808", func := "example.com/hookwright/hookwright/zzlaws_internal_shell_b1.FnCommandStringEndOfOptions", spec := "fnCommandStringEndOfOptions", inPlace := ["internal/bytealg.IndexByteString", "internal/bytealg.IndexString"], named := ["internal/bytealg.MaxLen"], apart := false }
def FnCommandStringEndOfOptionsSaid : Prop := fnCommandStringEndOfOptionsRow.holds Try.pinned (OpenSpec.ofChange fnCommandStringEndOfOptionsSpec)

/-- ITS FALSE NEIGHBOUR: 'it returns false'. Refute it at one input. -/
def fnCommandStringEndOfOptionsWrong : ChangeSpec := { name := "fnCommandStringEndOfOptions", fn := fun _ => fun
  | [d] => { results := [.lit (.bool false)], args := [d] }
  | _ => none }
def FnCommandStringEndOfOptionsWrongFalsely : Prop := fnCommandStringEndOfOptionsRow.holds Try.pinned (OpenSpec.ofChange fnCommandStringEndOfOptionsWrong)

/-- 'zzlaws_internal_shell_b1.FnCommandStringOptionArguments': WHATEVER THE INPUT: true; the input reads as it did. -/
def fnCommandStringOptionArgumentsSpec : ChangeSpec := { name := "fnCommandStringOptionArguments", fn := fun _ => fun
  | [d1, d2] => { results := [.lit (.bool true)], args := [d1, d2] }
  | _ => none }
def fnCommandStringOptionArgumentsRow : OpenClaim := { program := "qxb6617320a", sum := "44269b6e553a7f3e1c74ac7b078c47b8b48705585301ebbe6ea8f5321ab82808", func := "example.com/hookwright/hookwright/zzlaws_internal_shell_b1.FnCommandStringOptionArguments", spec := "fnCommandStringOptionArguments", inPlace := ["internal/bytealg.IndexByteString", "internal/bytealg.IndexString"], named := ["internal/bytealg.MaxLen"], apart := false }
def FnCommandStringOptionArgumentsSaid : Prop := fnCommandStringOptionArgumentsRow.holds Try.pinned (OpenSpec.ofChange fnCommandStringOptionArgumentsSpec)

/-- ITS FALSE NEIGHBOUR: 'it returns false'. Refute it at one input. -/
def fnCommandStringOptionArgumentsWrong : ChangeSpec := { name := "fnCommandStringOptionArguments", fn := fun _ => fun
  | [d1, d2] => { results := [.lit (.bool false)], args := [d1, d2] }
  | _ => none }
def FnCommandStringOptionArgumentsWrongFalsely : Prop := fnCommandStringOptionArgumentsRow.holds Try.pinned (OpenSpec.ofChange fnCommandStringOptionArgumentsWrong)

end Rows
end Go.Proofs.Qxb6617320a
