import Derived.Test.Qxb6617224aSplit
namespace Go.Proofs.Qxb6617224a.Parts
open Go.RowKit

theorem lt_cell {w : World} {a : Addr} {v : Value} (h : w.cell? a = some v) : a.block < w.heap.size := block_lt_of_cell h

/-- The cells of a slice that came in, still there. -/
theorem src_keep {N : Nat} {w w2 : World} (B : Below N w w2) {b o l : Nat} {g : Nat → Int} (hb : b < N) (hc : ∀ j, j < l → w.cell? ⟨b, o + j, none⟩ = some (.int .u8 (g j))) :
    0 < l → ∃ ad, some (⟨b, o, none⟩ : Addr) = some ad ∧ ∀ j, j < l → w2.cell? (ad.add j) = some (.int .u8 (g j)) :=
  fun _ => ⟨_, rfl, fun j hj => by rw [addr_add, B.cell (p := ⟨b, o + j, none⟩) hb]; exact hc j hj⟩

/-- The cells of a row, as a source. -/
theorem src_row {w : World} {b t l : Nat} {F : Nat → Value} (h : w.rowIs b t l F) (j : Nat) (hj : j < l) : w.cell? ((⟨b, 0, none⟩ : Addr).add j) = some (F j) := by
  rw [addr_add, Nat.zero_add]
  exact h.cell hj

theorem row_cells {w : World} {b t l : Nat} {f : Nat → Int} (h : w.rowIs b t l (fun j => .int .u8 (f j))) (j : Nat) (hj : j < l) : w.cell? ⟨b, 0 + j, none⟩ = some (.int .u8 (f j)) := by
  rw [Nat.zero_add]
  exact h.cell hj

theorem row_other {w w2 : World} {b t l k : Nat} {F : Nat → Value} (h : w.rowIs b t l F) (O : ∀ i, i ≠ k → w2.heap[i]? = w.heap[i]?) (hb : b ≠ k) : w2.rowIs b t l F := h.of_block (O b hb)

theorem glue_rows {w : World} {b l0 l1 : Nat} {f g : Nat → Int}
    (h : w.rowIs b 5 (l0 + l1) (fun j => if l0 ≤ j ∧ j < l0 + l1 then Value.int .u8 (g (j - l0)) else if 0 ≤ j ∧ j < 0 + l0 then Value.int .u8 (f (j - 0)) else .int .u8 0)) :
    w.rowIs b 5 (l0 + l1) (fun j => .int .u8 (gl f g l0 j)) := by
  refine h.congr fun j hj => ?_
  unfold gl
  by_cases e : j < l0
  · rw [if_neg (by omega), if_pos (by omega), if_pos e]
    rfl
  · rw [if_pos (by omega), if_neg e]

theorem info5' : ∃ i, Try.prog.info? 5 = some i ∧ i.size = 1 := by
  obtain ⟨i, hi, hzz⟩ := Option.map_eq_some_iff.1 size5
  exact ⟨i, hi, hzz⟩

set_option maxRecDepth 100000 in
set_option maxHeartbeats 4000000 in
theorem split_main (b0 o0 b1 o1 l0 c0 l1 c1 : Nat) (f g : Nat → Int) (w : World) (h0 : l0 ≤ maxLen) (h1 : l1 ≤ maxLen) (h : l0 + l1 ≤ 1048576) (hz : l0 ≠ 0) (hz1 : l1 ≠ 0)
    (hc : ∀ j, j < l0 → w.cell? ⟨b0, o0 + j, none⟩ = some (.int .u8 (f j))) (hb : ∀ j, j < l0 → 0 ≤ f j ∧ f j ≤ 255) (hA : allD f l0 = true)
    (hc1 : ∀ j, j < l1 → w.cell? ⟨b1, o1 + j, none⟩ = some (.int .u8 (g j))) (hb1 : ∀ j, j < l1 → 0 ≤ g j ∧ g j ≤ 255) (hA1 : allD g l1 = true) :
    Calls Try.prog 3 #[.slice (some ⟨b0, o0, none⟩) l0 c0, .slice (some ⟨b1, o1, none⟩) l1 c1] w fun e w' => e = .returned (.bool true) ∧ Below w.heap.size w w' := by
  have hd : decide (l0 + l1 ≤ 1048576) = true := by simpa using h
  have l1' : ((l0 : Int) == 0) = false := by simp; omega
  have l2' : ((l1 : Int) == 0) = false := by simp; omega
  have hB := hid (bytes5 (some ⟨b0, o0, none⟩) (some ⟨b1, o1, none⟩) l0 c0 l1 c1 w h0 h1)
  have hD := hid (digits6 b0 o0 l0 c0 f w (by omega) hc hb)
  have hD1 := hid (digits6 b1 o1 l1 c1 g w (by omega) hc1 hb1)
  have DF := hid ((allD_iff f l0).1 hA)
  have DG := hid ((allD_iff g l1).1 hA1)
  have bl0 : b0 < w.heap.size := lt_cell (hc 0 (by omega))
  have bl1 : b1 < w.heap.size := lt_cell (hc1 0 (by omega))
  have p0 : 1 ≤ l0 := by omega
  have p1 : 1 ≤ l1 := by omega
  have HC := hid hc
  have HC1 := hid hc1
  have hneq := fun w => run_neq_slice_nil_any (P := Try.prog) w 22 5 (some ⟨b0, o0, none⟩) l0 c0 0 0 Try.underlying22
  have hneq1 := fun w => run_neq_slice_nil_any (P := Try.prog) w 22 5 (some ⟨b1, o1, none⟩) l1 c1 0 0 Try.underlying22
  have hmk := run_make_row' (P := Try.prog) 22 5 (.int .u8 0) 1 Try.underlying22 info5 rfl .i64 .i64 l0 (by omega) (by omega)
  have hmk1 := run_make_row' (P := Try.prog) 22 5 (.int .u8 0) 1 Try.underlying22 info5 rfl .i64 .i64 l1 (by omega) (by omega)
  have hmk2 : ∀ w : World, (Instr.makeSlice 22 (.int .i64 0) (.int .i64 ((l0 : Int) + (l1 : Int)))).run Try.prog w = .ok (.slice (some ⟨w.heap.size, 0, none⟩) 0 (l0 + l1)) (w.alloc (.cells (madeCells #[.int .u8 0] (l0 + l1)) 5)) := fun w => by
    have h := make0 (l0 + l1) (by omega) w
    rwa [show ((l0 + l1 : Nat) : Int) = (l0 : Int) + (l1 : Int) by omega] at h
  clear hz hz1 hc hb hc1 hb1
  -- the first copy
  have B1 := hid ((Below.refl w.heap.size w).alloc (Nat.le_refl _) (.cells (madeCells #[.int .u8 0] l0) 5))
  have R1 := hid (World.rowIs_made w (.int .u8 0) l0 5)
  have S1 := hid (src_keep B1.out bl0 HC.out)
  obtain ⟨i5, hi5, hs5⟩ := info5'
  have HI5 := hid hi5
  have HS5 := hid hs5
  clear hi5 hs5
  go_enter Try.func3, Try.ntmps3
  go_wp2_with fail
  refine hB.out.mono ?_
  rintro e w' ⟨rfl, rfl⟩
  go_wp2_with fail
  refine hD.out.mono ?_
  rintro e w' ⟨rfl, rfl⟩
  go_wp2_with fail
  refine hD1.out.mono ?_
  rintro e w' ⟨rfl, rfl⟩
  clear hB hD hD1
  go_wp2_with (first
    | (refine wpList_copy_row rfl (.tmp 50) (.tmp 51) 22 22 rfl 5 Try.underlying22 size5 (some ⟨b0, o0, none⟩) l0 c0 w'.heap.size rfl rfl 5 (fun _ => .int .u8 0) (fun k => .int .u8 (f k)) R1.out S1.out (fun _ => rfl) w'.heap.size w' B1.out (Nat.le_refl _) ?_; intro w2 R2 b2 o2 z2; have B2 := hid b2; have O2 := hid o2; have Z2 := hid z2; have N2 : w'.heap.size < w2.heap.size := R2.out.lt; clear b2 o2 z2; have B3 := hid (B2.out.alloc (Nat.le_of_lt N2) (.cells (madeCells #[.int .u8 0] l1) 5)); have R3 := hid (World.rowIs_made w2 (.int .u8 0) l1 5); have S3 := hid (src_keep B3.out bl1 HC1.out))
    | (refine wpList_copy_row rfl (.tmp 59) (.tmp 60) 22 22 rfl 5 Try.underlying22 size5 (some ⟨b1, o1, none⟩) l1 c1 w2.heap.size rfl rfl 5 (fun _ => .int .u8 0) (fun k => .int .u8 (g k)) R3.out S3.out (fun _ => rfl) w'.heap.size w' B3.out (Nat.le_of_lt N2) ?_; intro w3 R4 b4 o4 z4; have B4 := hid b4; have O4 := hid o4; have Z4 := hid z4; clear b4 o4 z4))
  have RA : Hid (w3.rowIs w'.heap.size 5 l0 (fun j => .int .u8 (f j))) := row_other (R2.out.alloc _) O4.out (by omega)
  have N3 : w2.heap.size < w3.heap.size := R4.out.lt
  clear R1 S1 B1 R3 S3 B3 O2 O4 Z2 Z4 R2 B2 HC HC1 hmk hmk1 hneq hneq1
  refine (parse7_any w'.heap.size 0 l0 l0 f _ p0 (row_cells RA.out) DF.out).mono ?_
  rintro e w4 ⟨rfl, rfl⟩
  go_wp2_with fail
  refine (parse7_any w2.heap.size 0 l1 l1 g _ p1 (row_cells R4.out) DG.out).mono ?_
  rintro e w4 ⟨rfl, rfl⟩
  have B5 := hid (B4.out.alloc (by omega) (.cells (madeCells #[.int .u8 0] (l0 + l1)) 5))
  have RN := hid (World.rowIs_made w4 (.int .u8 0) (l0 + l1) 5)
  have RA5 := hid (RA.out.alloc (.cells (madeCells #[.int .u8 0] (l0 + l1)) 5))
  have RB5 := hid (R4.out.alloc (.cells (madeCells #[.int .u8 0] (l0 + l1)) 5))
  clear RA R4 B4
  go_wp2_with (first
    | (at_builtin; refine wpList_append_row rfl (.tmp 79) (.tmp 80) 22 rfl 5 i5 Try.underlying22 HI5.out HS5.out w4.heap.size 0 (l0 + l1) l0 l0 ⟨w'.heap.size, 0, none⟩ rfl rfl (fun _ => .int .u8 0) (fun k => .int .u8 (f k)) RN.out (src_row RA5.out) (fun _ => rfl) (by omega) l0 (by omega) w'.heap.size w' B5.out (by omega) ?_; intro w5 R6 b6 o6 z6; have B6 := hid b6; have RB6 := hid (row_other RB5.out o6 (by omega)); clear b6 o6 z6)
    | (at_builtin; refine wpList_append_row rfl (.tmp 82) (.tmp 83) 22 rfl 5 i5 Try.underlying22 HI5.out HS5.out w4.heap.size l0 (l0 + l1) l1 l1 ⟨w2.heap.size, 0, none⟩ rfl rfl _ (fun k => .int .u8 (g k)) R6.out (src_row RB6.out) (fun _ => rfl) (by omega) (l0 + l1) rfl w'.heap.size w' B6.out (by omega) ?_; intro w6 R7 b7 o7 z7; have B7 := hid b7; clear b7 o7 z7))
  have RG := hid (glue_rows R7.out)
  clear R7 RN RA5 RB5 RB6 R6 B6 B5
  refine (parse7_any w4.heap.size 0 (l0 + l1) (l0 + l1) (gl f g l0) _ (by omega) (row_cells RG.out) (gl_digits f g l0 l1 DF.out DG.out)).mono ?_
  rintro e w7 ⟨rfl, rfl⟩
  have V0 := hid (pv_ok f l0)
  have V1 := hid (pv_ok g l1)
  have W0 := hid (pv_no f l0)
  have W1 := hid (pv_no g l1)
  have WG := hid (pv_no (gl f g l0) (l0 + l1))
  have OK := hid (glued_ok f g l0 l1)
  clear RG hmk2
  generalize pv (gl f g l0) (l0 + l1) = vab at *
  generalize pv f l0 = va at *
  generalize pv g l1 = vb at *
  by_cases a0 : l0 ≤ 18
  · have a0' : decide (l0 ≤ 18) = true := by simpa using a0
    have a0i : (l0 : Int) ≤ 18 := by omega
    have va0 := V0.out a0 DF.out
    by_cases a1 : l1 ≤ 18
    · have a1' : decide (l1 ≤ 18) = true := by simpa using a1
      have a1i : (l1 : Int) ≤ 18 := by omega
      have vb0 := V1.out a1 DG.out
      by_cases a2 : l0 + l1 ≤ 18
      · have a2' : decide (l0 + l1 ≤ 18) = true := by simpa using a2
        have a2i : (l0 : Int) + (l1 : Int) ≤ 18 := by omega
        go_wp2_with fail
        refine (pow8 l0 _ a0).mono ?_
        rintro e w8 ⟨rfl, rfl⟩
        go_wp2_with fail
        refine (pow8 l1 _ a1).mono ?_
        rintro e w8 ⟨rfl, rfl⟩
        go_wp2_with fail
        refine (pow8 l1 _ a1).mono ?_
        rintro e w8 ⟨rfl, rfl⟩
        go_wp2
        go_ret
        exact ⟨ret_bool (OK.out a2 DF.out DG.out), B7.out⟩
      · have a2' : decide (l0 + l1 ≤ 18) = false := by simpa using a2
        have a2i : (18 : Int) < (l0 : Int) + (l1 : Int) := by omega
        have e2 := WG.out a2
        subst e2
        clear WG OK a2
        go_wp2_with fail
        refine (pow8 l0 _ a0).mono ?_
        rintro e w8 ⟨rfl, rfl⟩
        go_wp2_with fail
        refine (pow8 l1 _ a1).mono ?_
        rintro e w8 ⟨rfl, rfl⟩
        go_wp2
        go_ret
        exact ⟨rfl, B7.out⟩
    · have a1' : decide (l1 ≤ 18) = false := by simpa using a1
      have a1i : (18 : Int) < (l1 : Int) := by omega
      have a2' : decide (l0 + l1 ≤ 18) = false := by simp; omega
      have a2i : (18 : Int) < (l0 : Int) + (l1 : Int) := by omega
      have e2 := WG.out (by omega)
      have e1 := W1.out a1
      subst e2 e1
      clear WG OK W1 V1 a1
      go_wp2_with fail
      refine (pow8 l0 _ a0).mono ?_
      rintro e w8 ⟨rfl, rfl⟩
      go_wp2
      go_ret
      exact ⟨rfl, B7.out⟩
  · have a0' : decide (l0 ≤ 18) = false := by simpa using a0
    have a0i : (18 : Int) < (l0 : Int) := by omega
    have a2' : decide (l0 + l1 ≤ 18) = false := by simp; omega
    have a2i : (18 : Int) < (l0 : Int) + (l1 : Int) := by omega
    have e2 := WG.out (by omega)
    have e0 := W0.out a0
    subst e2 e0
    clear WG OK W0 V0 a0
    by_cases a1 : l1 ≤ 18
    · have a1' : decide (l1 ≤ 18) = true := by simpa using a1
      have a1i : (l1 : Int) ≤ 18 := by omega
      have vb0 := V1.out a1 DG.out
      go_wp2_with fail
      refine (pow8 l1 _ a1).mono ?_
      rintro e w8 ⟨rfl, rfl⟩
      go_wp2
      go_ret
      exact ⟨rfl, B7.out⟩
    · have a1' : decide (l1 ≤ 18) = false := by simpa using a1
      have a1i : (18 : Int) < (l1 : Int) := by omega
      have e1 := W1.out a1
      subst e1
      clear W1 V1 a1
      go_wp2
      go_ret
      exact ⟨rfl, B7.out⟩
end Go.Proofs.Qxb6617224a.Parts
