import Derived.Test.Qxb6623502aNew
namespace Go.Proofs.Qxb6623502a.Parts
open Go.RowKit

theorem info2 : (Try.prog.info? 2).map (fun i => (i.zero, i.size, i.bytes)) = some (some (.int .i64 0), 1, 8) := by kernel_rfl

/-- What cumulative lays into its counts. -/
def cf (X z : Nat → Int) (len : Nat) : Nat → Value := fun k => if k < len then .int .i64 (psum X (blw (z k))) else .int .i64 (psum X 2048)

/-- The counts so far: the first b are laid. -/
def cg (X z : Nat → Int) (b : Nat) : Nat → Value := fun k => if k < b then .int .i64 (psum X (blw (z k))) else .int .i64 0

theorem cg_step (X z : Nat → Int) (b i : Nat) (h : blw (z b) = i) (k : Nat) : (if k = b then Value.int .i64 (psum X i) else cg X z b k) = cg X z (b + 1) k := by
  unfold cg
  by_cases e : k = b
  · rw [if_pos e, if_pos (by omega), e, h]
  · rw [if_neg e]
    by_cases e2 : k < b
    · rw [if_pos e2, if_pos (by omega)]
    · rw [if_neg e2, if_neg (by omega)]

/-- The counts behind the buckets: the first b are as they will be. -/
def ch (X z : Nat → Int) (len b : Nat) : Nat → Value := fun k => if k < b then cf X z len k else .int .i64 0

theorem ch_start (X z : Nat → Int) (len b : Nat) (hb : b ≤ len) (k : Nat) : cg X z b k = ch X z len b k := by
  unfold cg ch cf
  by_cases e : k < b
  · rw [if_pos e, if_pos e, if_pos (by omega)]
  · rw [if_neg e, if_neg e]

theorem ch_step (X z : Nat → Int) (len b : Nat) (h : b < len → 2048 ≤ blw (z b)) (k : Nat) : (if k = b then Value.int .i64 (psum X 2048) else ch X z len b k) = ch X z len (b + 1) k := by
  unfold ch
  by_cases e : k = b
  · rw [if_pos e, if_pos (by omega), e]
    unfold cf
    by_cases e2 : b < len
    · have h1 := h e2
      have h2 := blw_le (z b)
      rw [if_pos e2, show blw (z b) = 2048 by omega]
    · rw [if_neg e2]
  · rw [if_neg e]
    by_cases e2 : k < b
    · rw [if_pos e2, if_pos (by omega)]
    · rw [if_neg e2, if_neg (by omega)]

theorem ch_end (X z : Nat → Int) (len k : Nat) (hk : k < len + 1) : ch X z len (len + 1) k = cf X z len k := by
  unfold ch
  rw [if_pos hk]

theorem bl_drewN {B : Nat} {a w : World} (h : Below B a w) (n : Nat) : Below B a (w.drewN n) := ⟨h.os, h.tape, h.output, h.size, h.block⟩

/-- No bound from b on lies under bucket i's end: so none has its count at i. -/
theorem un_next (z : Nat → Int) (len b i : Nat) (hi : i < 2048) (hz0 : ∀ k, k < len → 0 ≤ z k ∧ z k ≤ 18446744073709551615) (hsort : ∀ j k, j ≤ k → k < len → z j ≤ z k)
    (h : b < len → (bend i : Int) ≤ z b) (k : Nat) (h1 : b ≤ k) (h2 : k < len) : i + 1 ≤ blw (z k) := by
  have e1 := h (by omega)
  have e2 := hsort b k h1 h2
  exact (blw_law (z k) (hz0 k h2).1 i hi).1 (by omega)

set_option maxHeartbeats 4000000 in
theorem cum9 (qb len cap : Nat) (sl : Option Addr) (X z : Nat → Int) (a b c : Int) (w : World)
    (hq : w.rowIs qb 41 2051 (qf X a b c))
    (hsl : 0 < len → ∃ bb, sl = some ⟨bb, 0, none⟩ ∧ bb < w.heap.size ∧ ∀ k, k < len → w.cell? ⟨bb, k, none⟩ = some (.int .u64 (z k)))
    (hz0 : ∀ k, k < len → 0 ≤ z k ∧ z k ≤ 18446744073709551615)
    (hsort : ∀ j k, j ≤ k → k < len → z j ≤ z k) (hlen : len ≤ 65536) :
    Calls Try.prog 9 #[.pointer (some ⟨qb, 0, none⟩), .slice sl len cap] w fun e w' => e = .returned (.tuple #[.slice (some ⟨w.heap.size, 0, none⟩) (len + 1) (len + 1), .int .i64 a]) ∧ w'.rowIs w.heap.size 2 (len + 1) (cf X z len) ∧ Below w.heap.size w w' := by
  have hmk : ∀ w : World, (Instr.makeSlice 28 (.int .i64 ((len : Int) + 1)) (.int .i64 ((len : Int) + 1))).run Try.prog w = .ok (.slice (some ⟨w.heap.size, 0, none⟩) (len + 1) (len + 1)) (w.alloc (.cells (madeCells #[.int .i64 0] (len + 1)) 2)) := fun w => by
    have h := run_make_row' (P := Try.prog) 28 2 (.int .i64 0) 8 Try.underlying28 info2 rfl .i64 .i64 (len + 1) (by omega) (by omega) w
    rwa [show ((len + 1 : Nat) : Int) = (len : Int) + 1 by omega] at h
  have HQ := hid hq
  have hqlt := hq.lt
  have HSL := hid hsl
  have HZ := hid hz0
  have HST := hid hsort
  clear hq hsl hz0 hsort
  go_enter Try.func9, Try.ntmps9
  go_wp2
  go_loopw [6, 7, 8, 13] (fun v6 v7 _ v13 wr => ∃ i b : Nat, i ≤ 2048 ∧ b ≤ len ∧ v6 = .int .i64 b ∧ v7 = .int .i64 (psum X i) ∧ v13 = .int .i64 i ∧ Hid (wr.rowIs w.heap.size 2 (len + 1) (cg X z b)) ∧ Hid (Below w.heap.size w wr) ∧ Hid (∀ k, b ≤ k → k < len → i ≤ blw (z k))) (fun _ _ _ v13 _ => 2048 - (intOf v13).toNat)
  case atStart =>
    refine ⟨0, 0, Nat.zero_le _, Nat.zero_le _, rfl, rfl, rfl, ?_, (Below.refl _ w).alloc (Nat.le_refl _) _, fun _ _ _ => Nat.zero_le _⟩
    exact (World.rowIs_made w (.int .i64 0) (len + 1) 2).congr fun i _ => by unfold cg; rw [if_neg (Nat.not_lt_zero _)]
  case round =>
    obtain ⟨i, b, hi, hb, rfl, rfl, rfl, hrow, hbl, hun⟩ := hrel
    by_cases hlt : i < 2048
    · have i1 : (0 : Int) ≤ (i : Int) := by omega
      have i2 : (i : Int) < 2048 := by omega
      go_wp2
      go_loopw [6] (fun v6 ws => ∃ b : Nat, b ≤ len ∧ v6 = .int .i64 b ∧ Hid (ws.rowIs w.heap.size 2 (len + 1) (cg X z b)) ∧ Hid (Below w.heap.size w ws) ∧ Hid (∀ k, b ≤ k → k < len → i ≤ blw (z k))) (fun v6 _ => len - (intOf v6).toNat)
      case atStart => exact ⟨b, hb, rfl, hrow, hbl, hun⟩
      case round =>
        clear hrow hbl hun hb
        obtain ⟨b2, hb, rfl, hrow, hbl, hun⟩ := hrel
        have cq : Hid (∀ ws, Below w.heap.size w ws → ws.cell? ⟨qb, i, none⟩ = some (.int .i64 (X i))) := fun ws h => by
          rw [h.cell (p := ⟨qb, i, none⟩) hqlt, HQ.out.cell (i := i) (by omega)]
          unfold qf
          rw [if_pos hlt]
        by_cases hbl2 : b2 < len
        · obtain ⟨bb, rfl, hbb, hcell⟩ := HSL.out (by omega)
          have cz := (hbl.out.cell (p := ⟨bb, b2, none⟩) hbb).trans (hcell b2 hbl2)
          have zb := HZ.out b2 hbl2
          have HC := hid hcell
          clear hcell
          by_cases hlss : z b2 < (bend i : Int)
          · have hcc := hrow.out.cell (i := b2) (by omega)
            have hcf := hrow.out.frozen b2
            unfold cg at hcc
            rw [if_neg (Nat.lt_irrefl _)] at hcc
            go_wp2_with fail
            go_quiet ((go_at_call 11; exact Calls.quiet_of_same (end11 _ _ hlt)))
            go_wp2
            go_roundw
            case rel =>
              have e0 : blw (z b2) = i := by
                have h1 := hun.out b2 (Nat.le_refl _) hbl2
                have h2 := blw_law (z b2) zb.1 i hlt
                omega
              refine ⟨b2 + 1, by omega, by go_num, ?_, (bl_drewN hbl.out nq).setCell (Nat.le_refl _) _, fun k h1 h2 => hun.out k (by omega) h2⟩
              have hrow' : (wr.drewN nq).rowIs w.heap.size 2 (len + 1) (cg X z b2) := hrow.out
              exact (hrow'.set b2 _).congr fun k _ => cg_step X z b2 i e0 k
            case measure => simp [intOf]; omega
          · have hd : decide (z b2 < (bend i : Int)) = false := by simpa using hlss
            have hun2 := hid (un_next z len b2 i hlt HZ.out HST.out (fun _ => by omega))
            go_wp2_with fail
            go_quiet ((go_at_call 11; exact Calls.quiet_of_same (end11 _ _ hlt)))
            go_wp2_with fail
            refine (load12 qb i (X i) _ (cq.out _ (bl_drewN hbl.out nq))).mono ?_
            rintro e w1 ⟨rfl, rfl⟩
            go_wp2
            go_roundw
            case rel => exact ⟨i + 1, b2, by omega, hb, rfl, rfl, by go_num, hrow.out, bl_drewN hbl.out nq, hun2.out⟩
            case measure => simp [intOf]; omega
        · have hd : decide ((b2 : Int) < (len : Int)) = false := by simp; omega
          have hun2 := hid (un_next z len b2 i hlt HZ.out HST.out (fun h => absurd h hbl2))
          go_wp2_with fail
          go_quiet (fail)
          go_wp2_with fail
          refine (load12 qb i (X i) _ (cq.out _ (bl_drewN hbl.out nq))).mono ?_
          rintro e w1 ⟨rfl, rfl⟩
          go_wp2
          go_roundw
          case rel => exact ⟨i + 1, b2, by omega, hb, rfl, rfl, by go_num, hrow.out, bl_drewN hbl.out nq, hun2.out⟩
          case measure => simp [intOf]; omega
    · have hk2 : i = 2048 := by omega
      subst hk2
      clear hlt
      go_wp2
      go_loopw [6] (fun v6 ws => ∃ b3 : Nat, b ≤ b3 ∧ b3 ≤ len + 1 ∧ v6 = .int .i64 b3 ∧ Hid (ws.rowIs w.heap.size 2 (len + 1) (ch X z len b3)) ∧ Hid (Below w.heap.size w ws)) (fun v6 _ => len + 1 - (intOf v6).toNat)
      case atStart => exact ⟨b, Nat.le_refl _, by omega, rfl, hrow.out.congr fun k _ => ch_start X z len b hb k, hbl⟩
      case round =>
        clear hrow hbl
        obtain ⟨b3, hb3, hb4, rfl, hrow, hbl⟩ := hrel
        by_cases h5 : b3 < len + 1
        · have hcc := hrow.out.cell (i := b3) h5
          have hcf := hrow.out.frozen b3
          unfold ch at hcc
          rw [if_neg (Nat.lt_irrefl _)] at hcc
          go_wp2
          go_roundw
          case rel =>
            refine ⟨b3 + 1, by omega, by omega, by go_num, ?_, hbl.out.setCell (Nat.le_refl _) _⟩
            exact (hrow.out.set b3 _).congr fun k _ => ch_step X z len b3 (fun h => hun.out b3 hb3 h) k
          case measure => simp [intOf]; omega
        · have cs : Hid (∀ ws, Below w.heap.size w ws → ws.cell? ⟨qb, 2048, none⟩ = some (.int .i64 a)) := fun ws h => by
            rw [h.cell (p := ⟨qb, 2048, none⟩) hqlt, HQ.out.cell (i := 2048) (by omega)]
            unfold qf
            rw [if_neg (by omega), if_pos rfl]
          have e3 := hid (show b3 = len + 1 by omega)
          go_wp2_with fail
          refine (load12 qb 2048 a _ (cs.out _ hbl.out)).mono ?_
          rintro e w1 ⟨rfl, rfl⟩
          go_wp2
          go_ret2
          have e4 := e3.out
          subst e4
          exact ⟨rfl, hrow.out.congr fun k hk => ch_end X z len k hk, hbl.out⟩
end Go.Proofs.Qxb6623502a.Parts
