import Derived.Test.Qxb6623486aPlain
import Derived.Test.Qxb6623486aRows
import Derived.WalkKit
import Derived.WalkSpells
import Derived.ProofKit
import Derived.Deep.OwnRows
import Derived.Deep.QuietTactic
import Derived.BigQuiet
import Derived.Deep.Light
import Derived.Laws.IdiomStrings
namespace Go.Proofs.Qxb6623486a.Parts
open Go.RowKit

theorem info5 : (Try.prog.info? 5).map (fun i => (i.zero, i.size, i.bytes)) = some (some (.int .u8 0), 1, 1) := by kernel_rfl

set_option maxHeartbeats 400000 in
theorem rev7 (a0 : ByteArray) (w : World) (h0 : a0.size ≤ 4194304) :
    Calls Try.prog 7 #[.string a0] w fun e w' => e = .returned (.string (rv a0)) ∧ Grown w w' := by
  have hmk := run_make_row' (P := Try.prog) 27 5 (.int .u8 0) 1 Try.underlying27 info5 rfl .i64 .i64 a0.size (by omega) (by omega)
  go_enter Try.func7, Try.ntmps7
  go_wp2
  go_loopw [4] (fun i wr => ∃ k : Nat, k ≤ a0.size ∧ i = .int .i64 k ∧ Hid (wr.rowIs w.heap.size 5 a0.size (fun j => if a0.size - k ≤ j then .int .u8 ((a0.data.toList.getD (a0.size - 1 - j) 0).toNat : Int) else .int .u8 0)) ∧ Grown w wr) (fun i _ => a0.size - (intOf i).toNat)
  case atStart =>
    refine ⟨0, Nat.zero_le _, rfl, ?_, (Grown.refl _).alloc _ _⟩
    exact (World.rowIs_made w (.int .u8 0) a0.size 5).congr fun i hi => by rw [if_neg (by omega)]
  case round =>
    obtain ⟨k, hk, rfl, hrow, hg⟩ := hrel
    by_cases hlt : k < a0.size
    · have hc := hrow.out.cell (i := a0.size - 1 - k) (by omega)
      rw [if_neg (by omega)] at hc
      have hf := hrow.out.frozen (a0.size - 1 - k)
      go_wp2
      go_roundw
      case rel =>
        refine ⟨k + 1, by omega, by go_num, ?_, hg.setCell (Nat.le_refl _) _⟩
        refine (hrow.out.set (a0.size - 1 - k) _).congr fun i hi => ?_
        by_cases e : i = a0.size - 1 - k
        · have e2 : a0.size - 1 - i = k := by omega
          rw [if_pos e, if_pos (by omega), e2]
          have e3 : a0.data.toList.getD k 0 = a0[k] := by
            rw [List.getD_eq_getElem?_getD, List.getElem?_eq_getElem (by rw [← Lib.size_eq]; exact hlt)]
            rfl
          rw [e3]
        · rw [if_neg e]
          by_cases e4 : a0.size - k ≤ i
          · rw [if_pos e4, if_pos (by omega)]
          · rw [if_neg e4, if_neg (by omega)]
      case measure => simp [intOf]; omega
    · have hcv : (convert 27 9 (.slice (some ⟨w.heap.size, 0, none⟩) a0.size a0.size)).run Try.prog wr = .ok (.string (rv a0)) wr := by
        have el : a0.data.toList.reverse.length = a0.size := by rw [List.length_reverse]; exact (Lib.size_eq a0).symm
        have h := run_convert_bytes_back (P := Try.prog) wr 27 9 5 ⟨w.heap.size, 0, none⟩ a0.size a0.data.toList.reverse Try.underlying27 Try.underlying5 Try.underlying9 (fun j hj => by
          have hj2 : j < a0.size := by rw [← el]; exact hj
          have hc := hrow.out.cell hj2
          rw [if_pos (by omega)] at hc
          have ea : (⟨w.heap.size, 0, none⟩ : Addr).add j = ⟨w.heap.size, j, none⟩ := by simp [Addr.add]; intro h; omega
          rw [ea, hc, List.getElem_reverse, List.getD_eq_getElem?_getD, List.getElem?_eq_getElem (by rw [← Lib.size_eq]; omega)]
          simp only [Option.getD_some]
          simp only [← Lib.size_eq])
        rw [el] at h
        exact h
      go_wp2
      go_ret
      exact ⟨rfl, hg⟩
end Go.Proofs.Qxb6623486a.Parts
