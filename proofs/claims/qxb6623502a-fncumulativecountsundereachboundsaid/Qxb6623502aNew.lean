import Derived.Test.Qxb6623502aLeaf
import Derived.Deep.RegionWith
import Derived.Deep.RegionHeld3
namespace Go.Proofs.Qxb6623502a.Parts
open Go.RowKit

theorem hid {p : Prop} (h : p) : Hid p := h

def zq : Array Value := Array.replicate 2051 (.int .i64 0)

theorem zq_size : zq.size = 2051 := by unfold zq; rw [Array.size_replicate]

theorem zq_at (i : Nat) (h : i < 2051) : zq[i]? = some (.int .i64 0) := by
  unfold zq; rw [Array.getElem?_replicate, if_pos h]

theorem zero41 (w : World) : (zeroValue 41).run Try.prog w = .ok (.agg zq) w := by kernel_rfl

/-- The meter's cells: the buckets, then the sum, the greatest, the window. -/
def qf (X : Nat → Int) (a b c : Int) : Nat → Value := fun i => if i < 2048 then .int .i64 (X i) else if i = 2048 then .int .i64 a else if i = 2049 then .int .i64 b else .int .i64 c

set_option maxHeartbeats 1000000 in
theorem new5 (xs : Array Value) (X : Nat → Int) (a b c : Int) (w : World) (hxs : xs.size = 2048) (hx : ∀ i, i < 2048 → xs[i]? = some (.int .i64 (X i))) :
    Calls Try.prog 5 #[.agg xs, .int .i64 a, .int .i64 b, .int .i64 c] w fun e w' => e = .returned (.pointer (some ⟨w.heap.size + 1, 0, none⟩)) ∧ w'.rowIs (w.heap.size + 1) 41 2051 (qf X a b c) ∧ w'.heap.size = w.heap.size + 2 ∧ Below w.heap.size w w' := by
  have hz := zero41
  have HX : Hid (∀ i, i < 2048 → xs[i]? = some (.int .i64 (X i))) := hx
  have HS : Hid (xs.size = 2048) := hxs
  clear hx hxs
  go_enter Try.func5, Try.ntmps5
  go_wp2
  go_loopw [10, 13] (fun _ i wr => ∃ k : Nat, k ≤ 2048 ∧ i = .int .i64 k ∧ Hid (wr.rowIs (w.heap.size + 1) 41 2051 (fun j => if j < k then .int .i64 (X j) else .int .i64 0)) ∧ Hid (wr.rowIs w.heap.size 22 2048 (fun j => .int .i64 (X j))) ∧ Hid (Below w.heap.size w wr) ∧ Hid (wr.heap.size = w.heap.size + 2)) (fun _ i _ => 2048 - (intOf i).toNat)
  case atStart =>
    refine ⟨0, Nat.zero_le _, rfl, ?_, ?_, ?_, ?_⟩
    · have h := World.rowIs_alloc (w.alloc (.cells xs 22)) zq 41 (fun _ => .int .i64 0) (fun i hi => zq_at i (by rw [← zq_size]; exact hi))
      rw [zq_size, show (w.alloc (.cells xs 22)).heap.size = w.heap.size + 1 by simp] at h
      exact h.congr fun i _ => by rw [if_neg (Nat.not_lt_zero _)]
    · have h := World.rowIs_alloc w xs 22 (fun j => .int .i64 (X j)) (fun i hi => HX.out i (by rw [← HS.out]; exact hi))
      rw [HS.out] at h
      exact h.alloc _
    · exact ((Below.refl _ w).alloc (Nat.le_refl _) _).alloc (by simp) _
    · simp [Hid]
  case round =>
    obtain ⟨k, hk, rfl, hq, hb, hbl, hsz⟩ := hrel
    by_cases hlt : k < 2048
    · have c1 := hq.out.cell (i := k) (by omega)
      rw [if_neg (by omega)] at c1
      have f1 := hq.out.frozen k
      have c2 := hb.out.cell (i := k) hlt
      have i1 : (0 : Int) ≤ (k : Int) := by omega
      have i2 : (k : Int) < 2048 := by omega
      go_wp2
      go_region_with (go_at_call 8; refine (store8 (w.heap.size + 1) k (X k) (.int .i64 0) _ (by exact c1) (by exact f1)).mono ?_; rintro e w' ⟨rfl, rfl⟩)
      go_wp2
      go_roundw
      case rel =>
        refine ⟨k + 1, by omega, by go_num, ?_, ?_, ?_, ?_⟩
        · refine (hq.out.set k _).drew.congr fun j hj => ?_
          by_cases e : j = k
          · rw [if_pos e, if_pos (by omega), e]
          · rw [if_neg e]
            by_cases e2 : j < k
            · rw [if_pos e2, if_pos (by omega)]
            · rw [if_neg e2, if_neg (by omega)]
        · exact (hb.out.setOther (by simp) _).drew
        · exact (hbl.out.setCell (by simp) _).drew
        · have := hsz.out
          simp [Hid, World.setCell, this]
      case measure => simp [intOf]; omega
    · have hk2 : k = 2048 := by omega
      subst hk2
      clear hlt
      have r0 := hq.out
      have C0 := hid (r0.cell (i := 2048) (by omega))
      have F0 := hid (r0.frozen 2048)
      have r1 := r0.set 2048 (.int .i64 a)
      have C1 := hid (r1.cell (i := 2049) (by omega))
      have F1 := hid (r1.frozen 2049)
      have r2 := r1.set 2049 (.int .i64 b)
      have C2 := hid (r2.cell (i := 2050) (by omega))
      have F2 := hid (r2.frozen 2050)
      have R3 := hid (r2.set 2050 (.int .i64 c))
      clear r0 r1 r2
      go_wp2_with fail
      refine (store8 (w.heap.size + 1) 2048 a _ wr C0.out F0.out).mono ?_
      rintro e w1 ⟨rfl, rfl⟩
      go_wp2_with fail
      refine (store8 (w.heap.size + 1) 2049 b _ _ C1.out F1.out).mono ?_
      rintro e w1 ⟨rfl, rfl⟩
      go_wp2_with fail
      refine (store8 (w.heap.size + 1) 2050 c _ _ C2.out F2.out).mono ?_
      rintro e w1 ⟨rfl, rfl⟩
      go_wp2_with fail
      go_ret
      refine ⟨rfl, R3.out.congr fun j hj => ?_, ?_, ?_⟩
      · unfold qf
        by_cases e0 : j = 2050
        · rw [if_pos e0, if_neg (by omega), if_neg (by omega), if_neg (by omega)]
        · rw [if_neg e0]
          by_cases e1 : j = 2049
          · rw [if_pos e1, if_neg (by omega), if_neg (by omega), if_pos e1]
          · rw [if_neg e1]
            by_cases e2 : j = 2048
            · rw [if_pos e2, if_neg (by omega), if_pos e2]
            · rw [if_neg e2, if_pos (by omega), if_pos (by omega)]
      · have := hsz.out
        simp [World.setCell, this]
      · exact ((hbl.out.setCell (by simp) _).setCell (by simp) _).setCell (by simp) _
end Go.Proofs.Qxb6623502a.Parts
