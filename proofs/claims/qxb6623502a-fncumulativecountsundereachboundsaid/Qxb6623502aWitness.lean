import Derived.Test.Qxb6623502aRows
import Derived.WalkKit
import Derived.ProofKit
import Derived.OpenShut
import Derived.ChangeOld
namespace Go.Proofs.Qxb6623502a.fnCumulative
open Go.ChangeShapes Go.WideShapes Go.ChangeAt Go.RowKit

theorem cells22 : Try.prog.cellsOf 22 = 2048 := by kernel_rfl
theorem cells2 : Try.prog.cellsOf 2 = 1 := by kernel_rfl

/-- One start that fits: a histogram of zeros, no bounds. -/
def wi : Input := ⟨#[], #[.agg (Array.replicate 2048 (.int .i64 0)), .int .i64 0, .int .i64 0, .int .i64 0, .slice none 0 0], []⟩

theorem w_hv (os : Os) : (World.plainHolding Try.checked.prog os wi).variablesB Try.checked.prog = true := by kernel_rfl
theorem w_hr (os : Os) : ((World.plainHolding Try.checked.prog os wi).heap.toList.drop Try.checked.prog.globals.size).take ((begin Try.checked.prog (fun _ _ => 0) default).world.heap.size - Try.checked.prog.globals.size) =
      (begin Try.checked.prog (fun _ _ => 0) default).world.heap.toList.drop Try.checked.prog.globals.size := by kernel_rfl

theorem mapM_const {α β : Type} (f : α → Option β) (c : β) : ∀ l : List α, (∀ i ∈ l, f i = some c) → l.mapM f = some (List.replicate l.length c)
  | [], _ => rfl
  | a :: l, h => by
    have h1 := h a (List.mem_cons_self ..)
    have h2 := mapM_const f c l (fun i hi => h i (List.mem_cons_of_mem _ hi))
    rw [List.mapM_cons, h1, h2]
    rfl

theorem types22 : Try.prog.cellTypes Try.prog.depth 22 = some (List.replicate 2048 2) := by kernel_rfl

section
variable {H : Type} {enc : TypeId × Value → H}

theorem flat_nil (x : DataW H) : ∀ n : Nat, (List.replicate n (x, ([] : List MemPlace))).flatMap (fun y => y.2) = []
  | 0 => rfl
  | n + 1 => by
    rw [List.replicate_succ, List.flatMap_cons, flat_nil x n]
    rfl

theorem zero_trod (w : World) (sp : Nat → Bool) : DataW.Trod enc Try.prog w 0 sp true 22 (.agg (Array.replicate 2048 (.int .i64 0))) (.agg (List.replicate 2048 (.lit (.int .i64 0)))) [] := by
  refine ⟨2, ?_⟩
  show DataW.trod enc Try.prog w 0 sp true 2 22 (Array.replicate 2048 (Value.int .i64 0)).toList = _
  rw [Array.toList_replicate]
  unfold DataW.trod
  rw [Try.underlying22]
  have hm : ((List.range 2048).mapM fun i => DataW.trod enc Try.prog w 0 sp true 1 2 (((List.replicate 2048 (Value.int .i64 0)).drop (i * Try.prog.cellsOf 2)).take (Try.prog.cellsOf 2))) = some (List.replicate 2048 (.lit (.int .i64 0), [])) := by
    have h := mapM_const (fun i => DataW.trod enc Try.prog w 0 sp true 1 2 (((List.replicate 2048 (Value.int .i64 0)).drop (i * Try.prog.cellsOf 2)).take (Try.prog.cellsOf 2))) (.lit (.int .i64 0), []) (List.range 2048) (fun i hi => by
      have hi2 : i < 2048 := List.mem_range.1 hi
      have e : ((List.replicate 2048 (Value.int .i64 0)).drop (i * Try.prog.cellsOf 2)).take (Try.prog.cellsOf 2) = [.int .i64 0] := by
        rw [cells2, Nat.mul_one, List.drop_replicate, List.take_replicate, Nat.min_eq_left (by omega)]
        rfl
      show DataW.trod enc Try.prog w 0 sp true 1 2 _ = _
      rw [e]
      unfold DataW.trod
      rw [Try.underlying2]
      rfl)
    rw [List.length_range] at h
    exact h
  have hl : (List.replicate 2048 (Value.int .i64 0)).length = Try.prog.cellsOf 22 := by rw [cells22, List.length_replicate]
  show (if (List.replicate 2048 (Value.int .i64 0)).length = Try.prog.cellsOf 22 then _ else none) = _
  rw [if_pos hl, hm]
  show some (_, _) = some (_, _)
  rw [List.map_replicate, flat_nil]

theorem zero_weights : ∀ n : Nat, DataW.weightsAll (H := H) Try.prog 2 (List.replicate n (.lit (.int .i64 0))) = []
  | 0 => rfl
  | n + 1 => by
    rw [List.replicate_succ]
    unfold DataW.weightsAll
    rw [zero_weights n]
    rfl

theorem zero_okWide (w : World) (base : Nat) : Value.okWide Try.prog w .any base 22 (.agg (Array.replicate 2048 (.int .i64 0))) := by
  unfold Value.okWide
  rw [Try.underlying22]
  refine ⟨_, rfl, by rw [cells22, Array.size_replicate], _, types22, ⟨1, by rw [Array.size_replicate, List.length_replicate]⟩, fun i v hv => ⟨2, ?_, ?_⟩⟩
  · rw [List.length_replicate, List.getElem?_replicate, if_pos (Nat.mod_lt _ (by omega))]
  · rw [Array.getElem?_replicate] at hv
    split at hv
    · cases hv
      unfold Cell.okWide
      rw [Try.underlying2]
      show Cell.ok Try.prog w .any base 2 (.int .i64 0)
      unfold Cell.ok
      rw [Try.underlying2]
      exact ⟨rfl, by unfold IntKind.has; decide⟩
    · cases hv

theorem int_okWide (w : World) (base : Nat) : Value.okWide Try.prog w .any base 2 (.int .i64 0) := by
  unfold Value.okWide
  rw [Try.underlying2]
  show Cell.okWide Try.prog w .any base 2 (.int .i64 0)
  unfold Cell.okWide
  rw [Try.underlying2]
  show Cell.ok Try.prog w .any base 2 (.int .i64 0)
  unfold Cell.ok
  rw [Try.underlying2]
  exact ⟨rfl, by unfold IntKind.has; decide⟩

theorem nil_okWide (w : World) (base : Nat) : Value.okWide Try.prog w .any base 23 (.slice none 0 0) := by
  unfold Value.okWide
  rw [Try.underlying23]
  show Cell.okWide Try.prog w .any base 23 (.slice none 0 0)
  unfold Cell.okWide
  rw [Try.underlying23]
  show Cell.ok Try.prog w .any base 23 (.slice none 0 0)
  unfold Cell.ok
  rw [Try.underlying23]
  trivial

theorem zero_weight22 : DataW.weights (H := H) Try.prog 22 (.agg (List.replicate 2048 (.lit (.int .i64 0)))) = [] := by
  unfold DataW.weights
  rw [Try.underlying22]
  exact zero_weights 2048

theorem zero_reach : (DataW.weightsEach (H := H) Try.prog (Try.f3.params.toList ++ (OpenSpec.ofChange Rows.fnCumulativeCountsUnderEachBoundSpec).bare.plain.varTypes Try.prog)
    ([.agg (List.replicate 2048 (.lit (.int .i64 0))), .lit (.int .i64 0), .lit (.int .i64 0), .lit (.int .i64 0), .nil] ++ [])).all (· ≤ reachBytes) = true := by
  rw [Try.params3]
  show (DataW.weights (H := H) Try.prog 22 (.agg (List.replicate 2048 (.lit (.int .i64 0)))) ++ DataW.weightsEach (H := H) Try.prog _ _).all _ = true
  rw [zero_weight22]
  rfl

theorem zero_whole (w : World) : DataW.Whole enc Try.prog Try.f3.params.toList Rows.fnCumulativeCountsUnderEachBoundSpec.vars false w wi.args.toList
    [.agg (List.replicate 2048 (.lit (.int .i64 0))), .lit (.int .i64 0), .lit (.int .i64 0), .lit (.int .i64 0), .nil] [] [] := by
  rw [Try.params3]
  refine ⟨[], [], ?_, rfl, rfl, fun b off h => (by cases h), fun h => (by cases h)⟩
  exact trodAll_cons_mk (p := []) (p' := []) (zero_trod w _) (trodAll_cons_mk (p := []) (p' := []) (shut_int Try.underlying2 (by decide)) (trodAll_cons_mk (p := []) (p' := []) (shut_int Try.underlying2 (by decide)) (trodAll_cons_mk (p := []) (p' := []) (shut_int Try.underlying2 (by decide)) (trodAll_cons_mk (p := []) (p' := []) (shut_slice_nil Try.underlying23) trodAll_mk0))))

set_option maxRecDepth 100000 in
theorem witness (os : Os) : ∃ (w : World) (tape : Tape) (i : Input), w.os = os ∧ (w.forCall tape i).Shaped Try.checked.prog ∧ i.vars = [] ∧ Input.okWide Try.checked.prog (w.forCall tape i) .any w.heap.size 3 i ∧
      Rows.fnCumulativeCountsUnderEachBoundSpec.pre6 enc Try.prog Try.f3 Rows.fnCumulativeCountsUnderEachBoundRow.domain false (w.forCall tape i).memory i.args ∧ ({ modest := false } : Assume).holds Try.checked.prog (lone (Frame.enter Try.checked.prog 3 i.args .normal) [] (w.forCall tape i)) := by
  refine ⟨World.holding Try.checked.prog os wi, fun _ _ => 0, ⟨#[], wi.args, []⟩, rfl, World.shaped_of_B (w_hv os) (w_hr os), rfl, ?_, ⟨⟨_, _, _, zero_whole _, rfl⟩, by kernel_rfl, _, _, _, zero_whole _, ?_⟩, ?_⟩
  · refine ⟨fun o h => ?_, fun gv h => (by cases h), by kernel_rfl, Try.f3, Try.func3, by kernel_rfl, by kernel_rfl, by kernel_rfl, by kernel_rfl, ?_⟩
    · simp at h
    · intro j t v ht hv
      rw [Try.params3] at ht
      match j, ht, hv with
      | 0, ht, hv => cases ht; cases hv; exact zero_okWide _ _
      | 1, ht, hv => cases ht; cases hv; exact int_okWide _ _
      | 2, ht, hv => cases ht; cases hv; exact int_okWide _ _
      | 3, ht, hv => cases ht; cases hv; exact int_okWide _ _
      | 4, ht, hv => cases ht; cases hv; exact nil_okWide _ _
      | n + 5, ht, hv => simp at ht
  · exact zero_reach
  · simp only [Assume.holds]
    exact ⟨by simp, by simp, fun _ => Modest.zero, by simp, by simp⟩
end
end Go.Proofs.Qxb6623502a.fnCumulative
