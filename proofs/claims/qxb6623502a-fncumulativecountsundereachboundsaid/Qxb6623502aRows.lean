/-
  No cell of these rows narrows 'for every input' (looked for: loops, veiled, ifaces, maps, wideKeys, modest, calm, conditions, laid).
  DERIVED. THE GIVEN ROWS OF THIS SEAT. 1 by the template 'for every input the law returns true; each argument reads behind the call as it read before'; 0 by the template 'total and deterministic' (their statements: Qxb6623502aTotals.lean).
  GIVEN WITH THE SEED: the statements are not yours to turn. If you find one false, say at which input.
  Laid BY PROGRAM, IN A SANDBOX (cutbox-rows.mjs): the forced cells as the released guide's own fill.sh prints them over the translation ff056677233cee10… (all of the seat's roots in one cut). By AI agents, Wed Nov 11 2026. No macro, syntax, notation, axiom, sorry.
-/
import Derived.Test.Qxb6623502aChecked
import GoSem.Claim
import GoSem.ClaimJoined
import GoSem.ClaimMapViews
import Derived.JoinedTies
import Derived.KernelRfl
namespace Go.Proofs.Qxb6623502a
/- THE CELL 'sum', in the pinned program and in every row, IS THE sha256 OF THE DUMP (.gsa) THAT Qxb6623502aProg.lean LOADS. Nothing in Lean hashes anything: it is a label: what it is worth is what the hold of that sum in a sandbox is worth. -/
noncomputable def Try.pinned : Pinned := { name := "qxb6623502a", sum := "ff056677233cee102e6b331b0e6a0ba17a21573f06554fd74f73f4c08cfcff4d", checked := Try.checked }
namespace Rows
def none {H : Type} : Left H := { results := [], args := [] }

/-- 'zzlaws_internal_stats_b1.FnCumulativeCountsUnderEachBound': WHATEVER THE INPUT: true; the input reads as it did. -/
def fnCumulativeCountsUnderEachBoundSpec : ChangeSpec := { name := "fnCumulativeCountsUnderEachBound", fn := fun _ => fun
  | [d1, d2, d3, d4, d5] => { results := [.lit (.bool true)], args := [d1, d2, d3, d4, d5] }
  | _ => none }
def fnCumulativeCountsUnderEachBoundRow : OpenClaim := { program := "qxb6623502a", sum := "ff056677233cee102e6b331b0e6a0ba17a21573f06554fd74f73f4c08cfcff4d", func := "example.com/tidewire/tidewire/zzlaws_internal_stats_b1.FnCumulativeCountsUnderEachBound", spec := "fnCumulativeCountsUnderEachBound", inPlace := ["sync/atomic.StoreInt64", "sync/atomic.LoadInt64"], apart := false }
def FnCumulativeCountsUnderEachBoundSaid : Prop := fnCumulativeCountsUnderEachBoundRow.holds Try.pinned (OpenSpec.ofChange fnCumulativeCountsUnderEachBoundSpec)

/-- ITS FALSE NEIGHBOUR: 'it returns false'. Refute it at one input. -/
def fnCumulativeCountsUnderEachBoundWrong : ChangeSpec := { name := "fnCumulativeCountsUnderEachBound", fn := fun _ => fun
  | [d1, d2, d3, d4, d5] => { results := [.lit (.bool false)], args := [d1, d2, d3, d4, d5] }
  | _ => none }
def FnCumulativeCountsUnderEachBoundWrongFalsely : Prop := fnCumulativeCountsUnderEachBoundRow.holds Try.pinned (OpenSpec.ofChange fnCumulativeCountsUnderEachBoundWrong)

end Rows
end Go.Proofs.Qxb6623502a
