import Derived.Test.Qxb6623502aCum
import Derived.Test.Qxb6623502aCopy
import Derived.Laws.Rows
namespace Go.Proofs.Qxb6623502a.Parts
open Go.RowKit

def zp : Array Value := Array.replicate 2049 (.int .i64 0)

theorem zp_size : zp.size = 2049 := by unfold zp; rw [Array.size_replicate]

theorem zp_at (i : Nat) (h : i < 2049) : zp[i]? = some (.int .i64 0) := by
  unfold zp; rw [Array.getElem?_replicate, if_pos h]

theorem zero32 (w : World) : (zeroValue 32).run Try.prog w = .ok (.agg zp) w := by kernel_rfl

theorem ret_bool {a b : Bool} (h : a = b) : Ending.returned (.bool a) = .returned (.bool b) := by rw [h]

theorem info25 : (Try.prog.info? 25).map (fun i => (i.zero, i.size, i.bytes)) = some (some (.int .u64 0), 1, 8) := by kernel_rfl
theorem size25 : (Try.prog.info? 25).map (·.size) = some 1 := by kernel_rfl
theorem size22 : (Try.prog.info? 22).map (·.size) = some 2048 := by kernel_rfl

set_option maxHeartbeats 400000 in
theorem bytes4 (xs : Array Value) (a b c : Int) (sl : Option Addr) (len cap : Nat) (w : World) (hl : len ≤ maxLen) :
    Calls Try.prog 4 #[.agg xs, .int .i64 a, .int .i64 b, .int .i64 c, .slice sl len cap] w fun e w' => e = .returned (.bool (decide (len ≤ 1048576))) ∧ w' = w.alloc (.cells xs 22) := by
  unfold maxLen at hl
  go_enter Try.func4, Try.ntmps4
  go_wp2
  all_goals
    go_ret
    exact ⟨ret_bool (by simp; omega), rfl⟩

set_option maxHeartbeats 400000 in
theorem cum6 (qb len cap : Nat) (sl : Option Addr) (X z : Nat → Int) (a b c : Int) (w : World)
    (hq : w.rowIs qb 41 2051 (qf X a b c))
    (hsl : 0 < len → ∃ bb, sl = some ⟨bb, 0, none⟩ ∧ bb < w.heap.size ∧ ∀ k, k < len → w.cell? ⟨bb, k, none⟩ = some (.int .u64 (z k)))
    (hz0 : ∀ k, k < len → 0 ≤ z k ∧ z k ≤ 18446744073709551615)
    (hsort : ∀ j k, j ≤ k → k < len → z j ≤ z k) (hlen : len ≤ 65536) :
    Calls Try.prog 6 #[.pointer (some ⟨qb, 0, none⟩), .slice sl len cap] w fun e w' => e = .returned (.tuple #[.slice (some ⟨w.heap.size, 0, none⟩) (len + 1) (len + 1), .int .i64 a]) ∧ w'.rowIs w.heap.size 2 (len + 1) (cf X z len) ∧ Below w.heap.size w w' := by
  have H := hid (cum9 qb len cap sl X z a b c w hq hsl hz0 hsort hlen)
  clear hq hsl hz0 hsort
  go_enter Try.func6, Try.ntmps6
  go_wp2_with fail
  refine H.out.mono ?_
  rintro e w' ⟨rfl, h1, h2⟩
  have H1 := hid h1
  have H2 := hid h2
  clear h1 h2
  go_wp2
  go_ret2
  exact ⟨rfl, H1.out, H2.out⟩

theorem lt_cell {w : World} {a : Addr} {v : Value} (h : w.cell? a = some v) : a.block < w.heap.size := block_lt_of_cell h

/-- The sums so far. -/
def pf (X : Nat → Int) (k : Nat) : Nat → Value := fun j => if j ≤ k then .int .i64 (psum X j) else .int .i64 0

theorem pf_start (X : Nat → Int) (j : Nat) : Value.int .i64 0 = pf X 0 j := by
  unfold pf
  by_cases e : j ≤ 0
  · rw [if_pos e, show j = 0 by omega]; rfl
  · rw [if_neg e]

theorem pf_step (X : Nat → Int) (k j : Nat) : (if j = k + 1 then Value.int .i64 (psum X (k + 1)) else pf X k j) = pf X (k + 1) j := by
  unfold pf
  by_cases e : j = k + 1
  · rw [if_pos e, if_pos (by omega), e]
  · rw [if_neg e]
    by_cases e2 : j ≤ k
    · rw [if_pos e2, if_pos (by omega)]
    · rw [if_neg e2, if_neg (by omega)]

theorem drewN_more {a b : World} {q : Nat} (h : a = b.drewN q) (n : Nat) : Hid (a.drewN n = b.drewN (q + n)) := by
  subst h
  show (b.drewN q).drewN n = b.drewN (q + n)
  unfold World.drewN
  simp only [Nat.add_assoc]

theorem sorted_all (z : Nat → Int) (len : Nat) (h : ∀ j, j + 1 < len → z j ≤ z (j + 1)) : ∀ j k, j ≤ k → k < len → z j ≤ z k := by
  intro j k hjk hk
  induction k with
  | zero => rw [show j = 0 by omega]; exact Int.le_refl _
  | succ k ih =>
    by_cases e : j = k + 1
    · rw [e]; exact Int.le_refl _
    · have h1 := ih (by omega) (by omega)
      have h2 := h k hk
      omega

set_option maxHeartbeats 4000000 in
theorem walk_in (xs : Array Value) (X : Nat → Int) (s m n : Int) (sl : Option Addr) (len cap : Nat) (z : Nat → Int) (w : World) (hxs : xs.size = 2048) (hx : ∀ i, i < 2048 → xs[i]? = some (.int .i64 (X i)))
    (hsrc : 0 < len → ∃ ad, sl = some ad ∧ ∀ j, j < len → w.cell? (ad.add j) = some (.int .u64 (z j))) (hz0 : ∀ k, k < len → 0 ≤ z k ∧ z k ≤ 18446744073709551615) (hlen : len ≤ 65536) :
    Calls Try.prog 3 #[.agg xs, .int .i64 s, .int .i64 m, .int .i64 n, .slice sl len cap] w fun e w' => e = .returned (.bool true) ∧ Below w.heap.size w w' := by
  have hd : decide (len ≤ 1048576) = true := by simp; omega
  have hmk := run_make_row' (P := Try.prog) 23 25 (.int .u64 0) 8 Try.underlying23 info25 rfl .i64 .i64 len (by omega) (by omega)
  have hzz := zero32
  have HX := hid hx
  have HS := hid hxs
  have HSRC := hid hsrc
  have HZ := hid hz0
  clear hx hxs hsrc hz0
  have HI : Hid ((Try.prog.info? 22).map (·.size) = some xs.size) := by rw [HS.out]; exact size22
  have HG : Hid ((w.alloc (.cells xs 22)).heap[w.heap.size]? = some (.cells xs 22 (0, 0))) := heap_alloc_new w _
  have HB : Hid (Below w.heap.size w (((w.alloc (.cells xs 22)).alloc (.cells xs 22)).alloc (.cells (madeCells #[.int .u64 0] len) 25))) :=
    (((Below.refl _ w).alloc (Nat.le_refl _) _).alloc (by simp) _).alloc (by simp; omega) _
  have HR : Hid ((((w.alloc (.cells xs 22)).alloc (.cells xs 22)).alloc (.cells (madeCells #[.int .u64 0] len) 25)).rowIs (w.heap.size + 2) 25 len (fun _ => .int .u64 0)) := by
    have h := World.rowIs_made ((w.alloc (.cells xs 22)).alloc (.cells xs 22)) (.int .u64 0) len 25
    rw [show ((w.alloc (.cells xs 22)).alloc (.cells xs 22)).heap.size = w.heap.size + 2 by simp] at h
    exact h
  have HC : Hid (0 < len → ∃ a', sl = some a' ∧ ∀ j, j < len → (((w.alloc (.cells xs 22)).alloc (.cells xs 22)).alloc (.cells (madeCells #[.int .u64 0] len) 25)).cell? (a'.add j) = some (.int .u64 (z j))) := by
    intro h
    obtain ⟨ad, e, hc⟩ := HSRC.out h
    exact ⟨ad, e, fun j hj => by rw [HB.out.cell (lt_cell (hc j hj)), hc j hj]⟩
  have HO : Hid ((((w.alloc (.cells xs 22)).alloc (.cells xs 22)).alloc (.cells (madeCells #[.int .u64 0] len) 25)).heap[w.heap.size]? = some (.cells xs 22 (0, 0))) := by
    show _ = _
    rw [Below.heap_alloc _ _ _ (by simp; omega), Below.heap_alloc _ _ _ (by simp), heap_alloc_new]
  have HO2 : Hid (((w.alloc (.cells xs 22)).alloc (.cells xs 22)).heap[w.heap.size]? = some (.cells xs 22 (0, 0))) := by
    show _ = _
    rw [Below.heap_alloc _ _ _ (by simp), heap_alloc_new]
  have HB2 : Hid (Below w.heap.size w ((w.alloc (.cells xs 22)).alloc (.cells xs 22))) := ((Below.refl _ w).alloc (Nat.le_refl _) _).alloc (by simp) _
  rcases sl with _ | ad
  · have hneq := fun w => run_neq_slice_nil_any (P := Try.prog) w 23 25 none len cap 0 0 Try.underlying23
    go_enter Try.func3, Try.ntmps3
    go_wp2_with (refine wpList_load_row rfl 22 _ rfl w.heap.size rfl 22 xs (0, 0) _ HG.out Try.underlying22 rfl HI.out ?_)
    refine (bytes4 xs s m n none len cap _ (by unfold maxLen; omega)).mono ?_
    rintro e w1 ⟨rfl, rfl⟩
    go_wp2_with fail
    have HSL : Hid (0 < len → ∃ bb, (none : Option Addr) = some ⟨bb, 0, none⟩ ∧ bb < ((w.alloc (.cells xs 22)).alloc (.cells xs 22)).heap.size ∧ ∀ k, k < len → ((w.alloc (.cells xs 22)).alloc (.cells xs 22)).cell? ⟨bb, k, none⟩ = some (.int .u64 (z k))) := by
      intro h
      obtain ⟨_, e, _⟩ := HSRC.out h
      cases e
    clear hneq hmk HC HR HB HSRC HG HO
    generalize (w.alloc (.cells xs 22)).alloc (.cells xs 22) = w2 at *
    generalize (none : Option Addr) = sl2 at *
    go_loopw [10, 12] (fun v10 v12 wr => v10 = .bool false ∧ ∃ k q : Nat, k ≤ 65536 ∧ v12 = .int .i64 ((k : Int) + 1) ∧ Hid (∀ j, j < k → j + 1 < len → z j ≤ z (j + 1)) ∧ wr = w2.drewN q) (fun _ v12 _ => len + 1 - (intOf v12).toNat)
    case atStart => exact ⟨rfl, 0, 0, by omega, rfl, fun j hj => absurd hj (Nat.not_lt_zero _), rfl⟩
    case round =>
      obtain ⟨rfl, k, q, hk, rfl, hso, rfl⟩ := hrel
      by_cases hlt : k + 1 < len
      · obtain ⟨bb, rfl, hbb, hcell⟩ := HSL.out (by omega)
        have c1 := hcell (k + 1) hlt
        have c0 := hcell k (by omega)
        have z1 := HZ.out (k + 1) hlt
        have z0 := HZ.out k (by omega)
        have HCL := hid hcell
        clear hcell
        by_cases hz : z (k + 1) < z k
        · go_wp2_with fail
          go_quiet (fail)
          go_wp2
          go_ret
          exact ⟨rfl, bl_drewN (bl_drewN HB2.out _) _⟩
        · go_wp2_with fail
          go_quiet (fail)
          go_wp2
          go_roundw
          case rel =>
            refine ⟨rfl, k + 1, q + nq, by omega, by go_num, fun j hj h2 => ?_, rfl⟩
            by_cases e : j = k
            · subst e; omega
            · exact hso.out j (by omega) h2
          case measure => simp [intOf]; omega
      · have hst := hid (sorted_all z len (fun j hj => hso.out j (by omega) hj))
        have HO3 : Hid ((w2.drewN q).heap[w.heap.size]? = some (.cells xs 22 (0, 0))) := HO2.out
        have HB3 : Hid (Below w.heap.size w (w2.drewN q)) := bl_drewN HB2.out q
        have HSL3 : Hid (0 < len → ∃ bb, sl2 = some ⟨bb, 0, none⟩ ∧ bb < (w2.drewN q).heap.size ∧ ∀ k, k < len → (w2.drewN q).cell? ⟨bb, k, none⟩ = some (.int .u64 (z k))) := HSL.out
        have hN3 : w.heap.size < (w2.drewN q).heap.size := (Array.getElem?_eq_some_iff.1 HO3.out).1
        generalize w2.drewN q = w3 at *
        clear HSL HB2 HO2 hso hk
        go_wp2_with (refine wpList_load_row rfl 22 _ rfl w.heap.size rfl 22 xs (0, 0) _ HO3.out Try.underlying22 rfl HI.out ?_)
        refine (new5 xs X s m n _ HS.out HX.out).mono ?_
        rintro e w4 ⟨rfl, q4, s4, b4⟩
        have Q4 := hid q4
        have S4 := hid s4
        have B4 := hid b4
        clear q4 s4 b4
        go_wp2_with fail
        refine (cum6 (w3.heap.size + 1) len _ _ X z s m n _ Q4.out ?_ HZ.out hst.out hlen).mono ?_
        · intro h
          obtain ⟨bb, e, hbb, hc⟩ := HSL3.out h
          exact ⟨bb, e, by have := B4.out.size; omega, fun k hk => (B4.out.cell (p := ⟨bb, k, none⟩) hbb).trans (hc k hk)⟩
        rintro e w5 ⟨rfl, r5, b5⟩
        have R5 := hid r5
        have B5 := hid b5
        clear r5 b5
        have hP4 : w.heap.size < w4.heap.size := by have := B4.out.size; omega
        have hP5 : w4.heap.size < w5.heap.size := R5.out.lt
        have HX5 : Hid (∀ i, i < 2048 → w5.cell? ⟨w.heap.size, i, none⟩ = some (.int .i64 (X i))) := fun i hi => by
          rw [B5.out.cell (p := ⟨w.heap.size, i, none⟩) hP4, B4.out.cell (p := ⟨w.heap.size, i, none⟩) hN3, cell_of_row w3 w.heap.size i xs 22 (0, 0) HO3.out, HX.out i hi]
        have HSL5 : Hid (0 < len → ∃ bb, sl2 = some ⟨bb, 0, none⟩ ∧ bb < w5.heap.size ∧ ∀ k, k < len → w5.cell? ⟨bb, k, none⟩ = some (.int .u64 (z k))) := by
          intro h
          obtain ⟨bb, e, hbb, hc⟩ := HSL3.out h
          have hb4 : bb < w4.heap.size := by have := B4.out.size; omega
          refine ⟨bb, e, by omega, fun k hk => ?_⟩
          rw [B5.out.cell (p := ⟨bb, k, none⟩) hb4, B4.out.cell (p := ⟨bb, k, none⟩) hbb, hc k hk]
        have HBW : Hid (Below w.heap.size w w5) := (HB3.out.trans (B4.out.mono (by omega))).trans (B5.out.mono (by omega))
        clear HSL3 HO3 HB3 B4 B5 Q4 S4 HX HS HI hst hN3
        go_wp2
        go_loopw [17] (fun v17 wr => ∃ k : Nat, k ≤ 2048 ∧ v17 = .int .i64 (k : Int) ∧ Hid (wr.rowIs w5.heap.size 32 2049 (pf X k)) ∧ Hid (Below w5.heap.size w5 wr)) (fun v17 _ => 2048 - (intOf v17).toNat)
        case atStart =>
          refine ⟨0, Nat.zero_le _, rfl, ?_, (Below.refl _ w5).alloc (Nat.le_refl _) _⟩
          have h := World.rowIs_alloc w5 zp 32 (fun _ => .int .i64 0) (fun i hi => zp_at i (by rw [← zp_size]; exact hi))
          rw [zp_size] at h
          exact h.congr fun j _ => pf_start X j
        case round =>
          obtain ⟨k2, hk2, rfl, hrow, hbl⟩ := hrel
          by_cases hlt2 : k2 < 2048
          · have c1 := hrow.out.cell (i := k2) (by omega)
            have c2 := hrow.out.cell (i := k2 + 1) (by omega)
            have f2 := hrow.out.frozen (k2 + 1)
            have c3 := (hbl.out.cell (p := ⟨w.heap.size, k2, none⟩) (by show w.heap.size < w5.heap.size; omega)).trans (HX5.out k2 hlt2)
            unfold pf at c1 c2
            rw [if_pos (Nat.le_refl _)] at c1
            rw [if_neg (by omega)] at c2
            have i1 : (0 : Int) ≤ (k2 : Int) := by omega
            have i2 : (k2 : Int) < 2048 := by omega
            clear hlt hlt2
            go_wp2
            go_region
            go_wp2
            go_roundw
            case rel =>
              refine ⟨k2 + 1, by omega, by go_num, ?_, (hbl.out.setCell (Nat.le_refl _) _).drew⟩
              exact (hrow.out.set (k2 + 1) _).drew.congr fun j _ => pf_step X k2 j
            case measure => simp [intOf]; omega
          · have hk3 : k2 = 2048 := by omega
            subst hk3
            clear hlt2 hlt hk2
            have R6 : Hid (∀ j, j < 2049 → wr.cell? ⟨w5.heap.size, j, none⟩ = some (.int .i64 (psum X j))) := fun j hj => by
              rw [hrow.out.cell hj]
              unfold pf
              rw [if_pos (by omega)]
            have C6 : Hid (∀ k, k < len → wr.cell? ⟨w4.heap.size, k, none⟩ = some (.int .i64 (psum X (blw (z k))))) := fun k hk => by
              rw [hbl.out.cell (p := ⟨w4.heap.size, k, none⟩) hP5, R5.out.cell (by omega)]
              unfold cf
              rw [if_pos hk]
            have C7 : Hid (wr.cell? ⟨w4.heap.size, len, none⟩ = some (.int .i64 (psum X 2048))) := by
              show _ = _
              rw [hbl.out.cell (p := ⟨w4.heap.size, len, none⟩) hP5, R5.out.cell (by omega)]
              unfold cf
              rw [if_neg (Nat.lt_irrefl _)]
            have HSL6 : Hid (0 < len → ∃ bb, sl2 = some ⟨bb, 0, none⟩ ∧ ∀ k, k < len → wr.cell? ⟨bb, k, none⟩ = some (.int .u64 (z k))) := by
              intro h
              obtain ⟨bb, e, hbb, hc⟩ := HSL5.out h
              exact ⟨bb, e, fun k hk => (hbl.out.cell (p := ⟨bb, k, none⟩) hbb).trans (hc k hk)⟩
            have HBX : Hid (Below w.heap.size w wr) := HBW.out.trans (hbl.out.mono (by omega))
            clear HSL5 HX5 HBW R5 hrow hbl
            go_wp2
            go_loopw [10, 18] (fun v10 v18 ws => v10 = .bool false ∧ ∃ k q : Nat, k ≤ len ∧ v18 = .int .i64 (k : Int) ∧ Hid (ws = wr.drewN q)) (fun _ v18 _ => len - (intOf v18).toNat)
            case atStart => exact ⟨rfl, 0, 0, Nat.zero_le _, rfl, rfl⟩
            case round =>
              obtain ⟨rfl, k3, q3, hk3, rfl, hw⟩ := hrel
              by_cases hlt3 : k3 < len
              · obtain ⟨bb, rfl, hcell⟩ := HSL6.out (by omega)
                have c1 := (congrArg (fun w : World => w.cell? ⟨bb, k3, none⟩) hw.out).trans (hcell k3 hlt3)
                have c2 := (congrArg (fun w : World => w.cell? ⟨w4.heap.size, k3, none⟩) hw.out).trans (C6.out k3 hlt3)
                have z0 := HZ.out k3 hlt3
                have hbw := blw_le (z k3)
                have c3 := (congrArg (fun w : World => w.cell? ⟨w5.heap.size, blw (z k3), none⟩) hw.out).trans (R6.out (blw (z k3)) (by omega))
                have HB7 := hid (fun w => below7 (z k3) w z0.1 z0.2)
                have HCL := hid hcell
                clear hcell
                have i1 : (blw (z k3) : Int) < 2049 := by omega
                have i2 : (k3 : Int) < (len : Int) + 1 := by omega
                have i3 : (k3 : Int) < (len : Int) := by omega
                have i4 : (0 : Int) ≤ (k3 : Int) := by omega
                go_wp2_with fail
                go_quiet ((go_at_call 7; go_must (exact Calls.quiet_of_same (HB7.out _))))
                go_wp2
                go_roundw
                case rel => exact ⟨rfl, k3 + 1, q3 + nq, by omega, by go_num, drewN_more hw.out nq⟩
                case measure => simp [intOf]; omega
              · have c1 := (congrArg (fun w : World => w.cell? ⟨w4.heap.size, len, none⟩) hw.out).trans C7.out
                have c2 := (congrArg (fun w : World => w.cell? ⟨w5.heap.size, 2048, none⟩) hw.out).trans (R6.out 2048 (by omega))
                have hk4 : Hid (k3 = len) := by show k3 = len; omega
                have i2 : (len : Int) < (len : Int) + 1 := by omega
                go_wp2
                go_quiet (fail)
                go_wp2
                go_ret
                have hbx := bl_drewN HBX.out q3
                rw [← hw.out] at hbx
                exact ⟨rfl, bl_drewN hbx nq⟩
  · have hneq := fun w => run_neq_slice_nil_any (P := Try.prog) w 23 25 (some ad) len cap 0 0 Try.underlying23
    go_enter Try.func3, Try.ntmps3
    go_wp2_with (refine wpList_load_row rfl 22 _ rfl w.heap.size rfl 22 xs (0, 0) _ HG.out Try.underlying22 rfl HI.out ?_)
    refine (bytes4 xs s m n (some ad) len cap _ (by unfold maxLen; omega)).mono ?_
    rintro e w1 ⟨rfl, rfl⟩
    go_wp2_with (refine wpList_copy_row rfl _ _ 23 23 rfl 25 Try.underlying23 size25 (some ad) len cap (w.heap.size + 2) rfl rfl 25 (fun _ => .int .u64 0) (fun k => .int .u64 (z k)) HR.out HC.out (fun _ => rfl) w.heap.size w HB.out (by omega) ?_; intro w2 R2 B2 O2 S2)
    clear hneq hmk HC HR HB HSRC HB2 HO2
    have HB2 := hid B2
    have HO2 : Hid (w2.heap[w.heap.size]? = some (.cells xs 22 (0, 0))) := (O2 _ (by omega)).trans HO.out
    have HSL : Hid (0 < len → ∃ bb, some (⟨w.heap.size + 1 + 1, 0, none⟩ : Addr) = some ⟨bb, 0, none⟩ ∧ bb < w2.heap.size ∧ ∀ k, k < len → w2.cell? ⟨bb, k, none⟩ = some (.int .u64 (z k))) :=
      fun _ => ⟨w.heap.size + 2, rfl, R2.out.lt, fun k hk => R2.out.cell hk⟩
    clear B2 O2 S2 R2 HO HG
    generalize some (⟨w.heap.size + 1 + 1, 0, none⟩ : Addr) = sl2 at *
    go_loopw [10, 12] (fun v10 v12 wr => v10 = .bool false ∧ ∃ k q : Nat, k ≤ 65536 ∧ v12 = .int .i64 ((k : Int) + 1) ∧ Hid (∀ j, j < k → j + 1 < len → z j ≤ z (j + 1)) ∧ wr = w2.drewN q) (fun _ v12 _ => len + 1 - (intOf v12).toNat)
    case atStart => exact ⟨rfl, 0, 0, by omega, rfl, fun j hj => absurd hj (Nat.not_lt_zero _), rfl⟩
    case round =>
      obtain ⟨rfl, k, q, hk, rfl, hso, rfl⟩ := hrel
      by_cases hlt : k + 1 < len
      · obtain ⟨bb, rfl, hbb, hcell⟩ := HSL.out (by omega)
        have c1 := hcell (k + 1) hlt
        have c0 := hcell k (by omega)
        have z1 := HZ.out (k + 1) hlt
        have z0 := HZ.out k (by omega)
        have HCL := hid hcell
        clear hcell
        by_cases hz : z (k + 1) < z k
        · go_wp2_with fail
          go_quiet (fail)
          go_wp2
          go_ret
          exact ⟨rfl, bl_drewN (bl_drewN HB2.out _) _⟩
        · go_wp2_with fail
          go_quiet (fail)
          go_wp2
          go_roundw
          case rel =>
            refine ⟨rfl, k + 1, q + nq, by omega, by go_num, fun j hj h2 => ?_, rfl⟩
            by_cases e : j = k
            · subst e; omega
            · exact hso.out j (by omega) h2
          case measure => simp [intOf]; omega
      · have hst := hid (sorted_all z len (fun j hj => hso.out j (by omega) hj))
        have HO3 : Hid ((w2.drewN q).heap[w.heap.size]? = some (.cells xs 22 (0, 0))) := HO2.out
        have HB3 : Hid (Below w.heap.size w (w2.drewN q)) := bl_drewN HB2.out q
        have HSL3 : Hid (0 < len → ∃ bb, sl2 = some ⟨bb, 0, none⟩ ∧ bb < (w2.drewN q).heap.size ∧ ∀ k, k < len → (w2.drewN q).cell? ⟨bb, k, none⟩ = some (.int .u64 (z k))) := HSL.out
        have hN3 : w.heap.size < (w2.drewN q).heap.size := (Array.getElem?_eq_some_iff.1 HO3.out).1
        generalize w2.drewN q = w3 at *
        clear HSL HB2 HO2 hso hk
        go_wp2_with (refine wpList_load_row rfl 22 _ rfl w.heap.size rfl 22 xs (0, 0) _ HO3.out Try.underlying22 rfl HI.out ?_)
        refine (new5 xs X s m n _ HS.out HX.out).mono ?_
        rintro e w4 ⟨rfl, q4, s4, b4⟩
        have Q4 := hid q4
        have S4 := hid s4
        have B4 := hid b4
        clear q4 s4 b4
        go_wp2_with fail
        refine (cum6 (w3.heap.size + 1) len _ _ X z s m n _ Q4.out ?_ HZ.out hst.out hlen).mono ?_
        · intro h
          obtain ⟨bb, e, hbb, hc⟩ := HSL3.out h
          exact ⟨bb, e, by have := B4.out.size; omega, fun k hk => (B4.out.cell (p := ⟨bb, k, none⟩) hbb).trans (hc k hk)⟩
        rintro e w5 ⟨rfl, r5, b5⟩
        have R5 := hid r5
        have B5 := hid b5
        clear r5 b5
        have hP4 : w.heap.size < w4.heap.size := by have := B4.out.size; omega
        have hP5 : w4.heap.size < w5.heap.size := R5.out.lt
        have HX5 : Hid (∀ i, i < 2048 → w5.cell? ⟨w.heap.size, i, none⟩ = some (.int .i64 (X i))) := fun i hi => by
          rw [B5.out.cell (p := ⟨w.heap.size, i, none⟩) hP4, B4.out.cell (p := ⟨w.heap.size, i, none⟩) hN3, cell_of_row w3 w.heap.size i xs 22 (0, 0) HO3.out, HX.out i hi]
        have HSL5 : Hid (0 < len → ∃ bb, sl2 = some ⟨bb, 0, none⟩ ∧ bb < w5.heap.size ∧ ∀ k, k < len → w5.cell? ⟨bb, k, none⟩ = some (.int .u64 (z k))) := by
          intro h
          obtain ⟨bb, e, hbb, hc⟩ := HSL3.out h
          have hb4 : bb < w4.heap.size := by have := B4.out.size; omega
          refine ⟨bb, e, by omega, fun k hk => ?_⟩
          rw [B5.out.cell (p := ⟨bb, k, none⟩) hb4, B4.out.cell (p := ⟨bb, k, none⟩) hbb, hc k hk]
        have HBW : Hid (Below w.heap.size w w5) := (HB3.out.trans (B4.out.mono (by omega))).trans (B5.out.mono (by omega))
        clear HSL3 HO3 HB3 B4 B5 Q4 S4 HX HS HI hst hN3
        go_wp2
        go_loopw [17] (fun v17 wr => ∃ k : Nat, k ≤ 2048 ∧ v17 = .int .i64 (k : Int) ∧ Hid (wr.rowIs w5.heap.size 32 2049 (pf X k)) ∧ Hid (Below w5.heap.size w5 wr)) (fun v17 _ => 2048 - (intOf v17).toNat)
        case atStart =>
          refine ⟨0, Nat.zero_le _, rfl, ?_, (Below.refl _ w5).alloc (Nat.le_refl _) _⟩
          have h := World.rowIs_alloc w5 zp 32 (fun _ => .int .i64 0) (fun i hi => zp_at i (by rw [← zp_size]; exact hi))
          rw [zp_size] at h
          exact h.congr fun j _ => pf_start X j
        case round =>
          obtain ⟨k2, hk2, rfl, hrow, hbl⟩ := hrel
          by_cases hlt2 : k2 < 2048
          · have c1 := hrow.out.cell (i := k2) (by omega)
            have c2 := hrow.out.cell (i := k2 + 1) (by omega)
            have f2 := hrow.out.frozen (k2 + 1)
            have c3 := (hbl.out.cell (p := ⟨w.heap.size, k2, none⟩) (by show w.heap.size < w5.heap.size; omega)).trans (HX5.out k2 hlt2)
            unfold pf at c1 c2
            rw [if_pos (Nat.le_refl _)] at c1
            rw [if_neg (by omega)] at c2
            have i1 : (0 : Int) ≤ (k2 : Int) := by omega
            have i2 : (k2 : Int) < 2048 := by omega
            clear hlt hlt2
            go_wp2
            go_region
            go_wp2
            go_roundw
            case rel =>
              refine ⟨k2 + 1, by omega, by go_num, ?_, (hbl.out.setCell (Nat.le_refl _) _).drew⟩
              exact (hrow.out.set (k2 + 1) _).drew.congr fun j _ => pf_step X k2 j
            case measure => simp [intOf]; omega
          · have hk3 : k2 = 2048 := by omega
            subst hk3
            clear hlt2 hlt hk2
            have R6 : Hid (∀ j, j < 2049 → wr.cell? ⟨w5.heap.size, j, none⟩ = some (.int .i64 (psum X j))) := fun j hj => by
              rw [hrow.out.cell hj]
              unfold pf
              rw [if_pos (by omega)]
            have C6 : Hid (∀ k, k < len → wr.cell? ⟨w4.heap.size, k, none⟩ = some (.int .i64 (psum X (blw (z k))))) := fun k hk => by
              rw [hbl.out.cell (p := ⟨w4.heap.size, k, none⟩) hP5, R5.out.cell (by omega)]
              unfold cf
              rw [if_pos hk]
            have C7 : Hid (wr.cell? ⟨w4.heap.size, len, none⟩ = some (.int .i64 (psum X 2048))) := by
              show _ = _
              rw [hbl.out.cell (p := ⟨w4.heap.size, len, none⟩) hP5, R5.out.cell (by omega)]
              unfold cf
              rw [if_neg (Nat.lt_irrefl _)]
            have HSL6 : Hid (0 < len → ∃ bb, sl2 = some ⟨bb, 0, none⟩ ∧ ∀ k, k < len → wr.cell? ⟨bb, k, none⟩ = some (.int .u64 (z k))) := by
              intro h
              obtain ⟨bb, e, hbb, hc⟩ := HSL5.out h
              exact ⟨bb, e, fun k hk => (hbl.out.cell (p := ⟨bb, k, none⟩) hbb).trans (hc k hk)⟩
            have HBX : Hid (Below w.heap.size w wr) := HBW.out.trans (hbl.out.mono (by omega))
            clear HSL5 HX5 HBW R5 hrow hbl
            go_wp2
            go_loopw [10, 18] (fun v10 v18 ws => v10 = .bool false ∧ ∃ k q : Nat, k ≤ len ∧ v18 = .int .i64 (k : Int) ∧ Hid (ws = wr.drewN q)) (fun _ v18 _ => len - (intOf v18).toNat)
            case atStart => exact ⟨rfl, 0, 0, Nat.zero_le _, rfl, rfl⟩
            case round =>
              obtain ⟨rfl, k3, q3, hk3, rfl, hw⟩ := hrel
              by_cases hlt3 : k3 < len
              · obtain ⟨bb, rfl, hcell⟩ := HSL6.out (by omega)
                have c1 := (congrArg (fun w : World => w.cell? ⟨bb, k3, none⟩) hw.out).trans (hcell k3 hlt3)
                have c2 := (congrArg (fun w : World => w.cell? ⟨w4.heap.size, k3, none⟩) hw.out).trans (C6.out k3 hlt3)
                have z0 := HZ.out k3 hlt3
                have hbw := blw_le (z k3)
                have c3 := (congrArg (fun w : World => w.cell? ⟨w5.heap.size, blw (z k3), none⟩) hw.out).trans (R6.out (blw (z k3)) (by omega))
                have HB7 := hid (fun w => below7 (z k3) w z0.1 z0.2)
                have HCL := hid hcell
                clear hcell
                have i1 : (blw (z k3) : Int) < 2049 := by omega
                have i2 : (k3 : Int) < (len : Int) + 1 := by omega
                have i3 : (k3 : Int) < (len : Int) := by omega
                have i4 : (0 : Int) ≤ (k3 : Int) := by omega
                go_wp2_with fail
                go_quiet ((go_at_call 7; go_must (exact Calls.quiet_of_same (HB7.out _))))
                go_wp2
                go_roundw
                case rel => exact ⟨rfl, k3 + 1, q3 + nq, by omega, by go_num, drewN_more hw.out nq⟩
                case measure => simp [intOf]; omega
              · have c1 := (congrArg (fun w : World => w.cell? ⟨w4.heap.size, len, none⟩) hw.out).trans C7.out
                have c2 := (congrArg (fun w : World => w.cell? ⟨w5.heap.size, 2048, none⟩) hw.out).trans (R6.out 2048 (by omega))
                have hk4 : Hid (k3 = len) := by show k3 = len; omega
                have i2 : (len : Int) < (len : Int) + 1 := by omega
                go_wp2
                go_quiet (fail)
                go_wp2
                go_ret
                have hbx := bl_drewN HBX.out q3
                rw [← hw.out] at hbx
                exact ⟨rfl, bl_drewN hbx nq⟩
end Go.Proofs.Qxb6623502a.Parts
