import Derived.Test.Qxb6617224aLeaf
namespace Go.Proofs.Qxb6617224a.Parts
open Go.RowKit

theorem info5 : (Try.prog.info? 5).map (fun i => (i.zero, i.size, i.bytes)) = some (some (.int .u8 0), 1, 1) := by kernel_rfl
theorem size5 : (Try.prog.info? 5).map (·.size) = some 1 := by kernel_rfl

/-- 'make([]byte, 0, n)'. -/
theorem make0 (n : Nat) (h : n ≤ 2097152) (w : World) :
    (Instr.makeSlice 22 (.int .i64 0) (.int .i64 (n : Int))).run Try.prog w = .ok (.slice (some ⟨w.heap.size, 0, none⟩) 0 n) (w.alloc (.cells (madeCells #[.int .u8 0] n) 5)) := by
  obtain ⟨i, hi, hzz⟩ := Option.map_eq_some_iff.1 info5
  simp only [Prod.mk.injEq] at hzz
  obtain ⟨hz, hs, hb⟩ := hzz
  have hr := run_make (P := Try.prog) w 22 5 i (.int .u8 0) Try.underlying22 hi hz .i64 .i64 0 n (Int.le_refl _) (by omega) (by rw [hb]; omega) (by omega)
  rw [hs, Nat.mul_one, Int.toNat_natCast] at hr
  exact hr

/-- The two texts glued. -/
def gl (f g : Nat → Int) (m : Nat) : Nat → Int := fun j => if j < m then f j else g (j - m)

theorem gl_digits (f g : Nat → Int) (m n : Nat) (hf : ∀ j, j < m → isD (f j) = true) (hg : ∀ j, j < n → isD (g j) = true) (j : Nat) (hj : j < m + n) : isD (gl f g m j) = true := by
  unfold gl
  by_cases e : j < m
  · rw [if_pos e]; exact hf j e
  · rw [if_neg e]; exact hg (j - m) (by omega)

theorem gl_val (f g : Nat → Int) (m n : Nat) : val (gl f g m) (m + n) = val f m * p10 n + val g n := by
  refine val_glue f g (gl f g m) m (fun j hj => ?_) n (fun j hj => ?_)
  · unfold gl; rw [if_pos hj]
  · unfold gl; rw [if_neg (by omega), show m + j - m = j by omega]

theorem glued_ok (f g : Nat → Int) (m n : Nat) (h : m + n ≤ 18) (hf : ∀ j, j < m → isD (f j) = true) (hg : ∀ j, j < n → isD (g j) = true) :
    (pv (gl f g m) (m + n) == wrap64 (wrap64 (pv f m * p10 n) + pv g n)) = true := by
  have e1 : pv (gl f g m) (m + n) = val (gl f g m) (m + n) := by unfold pv; rw [if_pos h]
  have e2 : pv f m = val f m := by unfold pv; rw [if_pos (by omega)]
  have e3 : pv g n = val g n := by unfold pv; rw [if_pos (by omega)]
  have hb := val_max (gl f g m) (m + n) h (gl_digits f g m n hf hg)
  have b1 := val_bound f m hf
  have b2 := val_bound g n hg
  have b3 := p10_pos n
  rw [e1, e2, e3]
  rw [gl_val] at hb ⊢
  have b4 : 0 ≤ val f m * p10 n := Int.mul_nonneg b1.1 (by omega)
  generalize val f m * p10 n = y at *
  rw [beq_iff_eq]
  unfold wrap64
  omega

theorem pv_ok (f : Nat → Int) (m : Nat) (h : m ≤ 18) (hf : ∀ j, j < m → isD (f j) = true) : 0 ≤ pv f m ∧ pv f m < p10 m := by
  unfold pv; rw [if_pos h]; exact val_bound f m hf

theorem pv_no (f : Nat → Int) (m : Nat) (h : ¬ m ≤ 18) : pv f m = 0 := by
  unfold pv; rw [if_neg h]

set_option maxHeartbeats 400000 in
theorem split_far (s0 s1 : Option Addr) (l0 c0 l1 c1 : Nat) (w : World) (h0 : l0 ≤ maxLen) (h1 : l1 ≤ maxLen) (h : ¬ l0 + l1 ≤ 1048576) :
    Calls Try.prog 3 #[.slice s0 l0 c0, .slice s1 l1 c1] w fun e w' => e = .returned (.bool true) ∧ Below w.heap.size w w' := by
  have hd : decide (l0 + l1 ≤ 1048576) = false := by simpa using h
  go_enter Try.func3, Try.ntmps3
  go_wp2_with fail
  refine (bytes5 s0 s1 l0 c0 l1 c1 _ h0 h1).mono ?_
  rintro e w' ⟨rfl, rfl⟩
  go_wp2_with fail
  go_ret
  exact ⟨rfl, Below.refl _ _⟩

set_option maxHeartbeats 400000 in
theorem split_none0 (s0 s1 : Option Addr) (l0 c0 l1 c1 : Nat) (w : World) (h0 : l0 ≤ maxLen) (h1 : l1 ≤ maxLen) (h : l0 + l1 ≤ 1048576) (hz : l0 = 0) :
    Calls Try.prog 3 #[.slice s0 l0 c0, .slice s1 l1 c1] w fun e w' => e = .returned (.bool true) ∧ Below w.heap.size w w' := by
  have hd : decide (l0 + l1 ≤ 1048576) = true := by simpa using h
  have l1' : ((l0 : Int) == 0) = true := by simp; omega
  have hB := hid (bytes5 s0 s1 l0 c0 l1 c1 w h0 h1)
  clear hz
  go_enter Try.func3, Try.ntmps3
  go_wp2_with fail
  refine hB.out.mono ?_
  rintro e w' ⟨rfl, rfl⟩
  go_wp2_with fail
  go_ret
  exact ⟨rfl, Below.refl _ _⟩

set_option maxHeartbeats 400000 in
theorem split_none1 (s0 s1 : Option Addr) (l0 c0 l1 c1 : Nat) (w : World) (h0 : l0 ≤ maxLen) (h1 : l1 ≤ maxLen) (h : l0 + l1 ≤ 1048576) (hz : l0 ≠ 0) (hz1 : l1 = 0) :
    Calls Try.prog 3 #[.slice s0 l0 c0, .slice s1 l1 c1] w fun e w' => e = .returned (.bool true) ∧ Below w.heap.size w w' := by
  have hd : decide (l0 + l1 ≤ 1048576) = true := by simpa using h
  have l1' : ((l0 : Int) == 0) = false := by simp; omega
  have l2' : ((l1 : Int) == 0) = true := by simp; omega
  have hB := hid (bytes5 s0 s1 l0 c0 l1 c1 w h0 h1)
  clear hz hz1
  go_enter Try.func3, Try.ntmps3
  go_wp2_with fail
  refine hB.out.mono ?_
  rintro e w' ⟨rfl, rfl⟩
  go_wp2_with fail
  go_ret
  exact ⟨rfl, Below.refl _ _⟩

set_option maxHeartbeats 400000 in
theorem split_nd0 (b0 o0 b1 o1 l0 c0 l1 c1 : Nat) (f : Nat → Int) (w : World) (h0 : l0 ≤ maxLen) (h1 : l1 ≤ maxLen) (h : l0 + l1 ≤ 1048576) (hz : l0 ≠ 0) (hz1 : l1 ≠ 0)
    (hc : ∀ j, j < l0 → w.cell? ⟨b0, o0 + j, none⟩ = some (.int .u8 (f j))) (hb : ∀ j, j < l0 → 0 ≤ f j ∧ f j ≤ 255) (hA : allD f l0 = false) :
    Calls Try.prog 3 #[.slice (some ⟨b0, o0, none⟩) l0 c0, .slice (some ⟨b1, o1, none⟩) l1 c1] w fun e w' => e = .returned (.bool true) ∧ Below w.heap.size w w' := by
  have hd : decide (l0 + l1 ≤ 1048576) = true := by simpa using h
  have l1' : ((l0 : Int) == 0) = false := by simp; omega
  have l2' : ((l1 : Int) == 0) = false := by simp; omega
  have hB := hid (bytes5 (some ⟨b0, o0, none⟩) (some ⟨b1, o1, none⟩) l0 c0 l1 c1 w h0 h1)
  have hD := hid (digits6 b0 o0 l0 c0 f w (by omega) hc hb)
  clear hz hz1 hc hb
  go_enter Try.func3, Try.ntmps3
  go_wp2_with fail
  refine hB.out.mono ?_
  rintro e w' ⟨rfl, rfl⟩
  go_wp2_with fail
  refine hD.out.mono ?_
  rintro e w' ⟨rfl, rfl⟩
  go_wp2_with fail
  go_ret
  exact ⟨rfl, Below.refl _ _⟩

set_option maxHeartbeats 400000 in
theorem split_nd1 (b0 o0 b1 o1 l0 c0 l1 c1 : Nat) (f g : Nat → Int) (w : World) (h0 : l0 ≤ maxLen) (h1 : l1 ≤ maxLen) (h : l0 + l1 ≤ 1048576) (hz : l0 ≠ 0) (hz1 : l1 ≠ 0)
    (hc : ∀ j, j < l0 → w.cell? ⟨b0, o0 + j, none⟩ = some (.int .u8 (f j))) (hb : ∀ j, j < l0 → 0 ≤ f j ∧ f j ≤ 255) (hA : allD f l0 = true)
    (hc1 : ∀ j, j < l1 → w.cell? ⟨b1, o1 + j, none⟩ = some (.int .u8 (g j))) (hb1 : ∀ j, j < l1 → 0 ≤ g j ∧ g j ≤ 255) (hA1 : allD g l1 = false) :
    Calls Try.prog 3 #[.slice (some ⟨b0, o0, none⟩) l0 c0, .slice (some ⟨b1, o1, none⟩) l1 c1] w fun e w' => e = .returned (.bool true) ∧ Below w.heap.size w w' := by
  have hd : decide (l0 + l1 ≤ 1048576) = true := by simpa using h
  have l1' : ((l0 : Int) == 0) = false := by simp; omega
  have l2' : ((l1 : Int) == 0) = false := by simp; omega
  have hB := hid (bytes5 (some ⟨b0, o0, none⟩) (some ⟨b1, o1, none⟩) l0 c0 l1 c1 w h0 h1)
  have hD := hid (digits6 b0 o0 l0 c0 f w (by omega) hc hb)
  have hD1 := hid (digits6 b1 o1 l1 c1 g w (by omega) hc1 hb1)
  clear hz hz1 hc hb hc1 hb1
  go_enter Try.func3, Try.ntmps3
  go_wp2_with fail
  refine hB.out.mono ?_
  rintro e w' ⟨rfl, rfl⟩
  go_wp2_with fail
  refine hD.out.mono ?_
  rintro e w' ⟨rfl, rfl⟩
  go_wp2_with fail
  refine hD1.out.mono ?_
  rintro e w' ⟨rfl, rfl⟩
  go_wp2_with fail
  go_ret
  exact ⟨rfl, Below.refl _ _⟩
end Go.Proofs.Qxb6617224a.Parts
