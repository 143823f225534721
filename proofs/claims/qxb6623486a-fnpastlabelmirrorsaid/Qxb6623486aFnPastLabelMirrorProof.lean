import Derived.Test.Qxb6623486aRows
import Derived.Test.Qxb6623486aPlain
import Derived.Test.Qxb6623486aParts
import Derived.Test.Qxb6623486aRev
import Derived.Test.Qxb6623486aMirror
import Derived.WalkKit
import Derived.WalkSpells
import Derived.ProofKit
import Derived.OpenShut
import Derived.ShutString
import Derived.Deep.Light
namespace Go.Proofs.Qxb6623486a.fnPastLabelMirror
open Go.ChangeShapes Go.WideShapes Go.ChangeAt Go.RowKit
open Go.ChangeMaps (open_string shut_string)
open Go.Proofs.Qxb6623486a.Parts
set_option linter.unusedVariables false

/-! ### The walk, a case at a time -/

set_option maxHeartbeats 400000 in
theorem walk_far (r l : ByteArray) (w0 : r.size ≤ maxLen) (w1 : l.size ≤ maxLen) (w : World) (h : ¬ r.size + l.size ≤ 1048576) :
    Calls Try.prog 4 #[.string r, .string l] w fun e w' => e = .returned (.bool true) ∧ Grown w w' := by
  have hd : decide (r.size + l.size ≤ 1048576) = false := by simpa using h
  go_enter Try.func4, Try.ntmps4
  go_wp2_with fail
  refine (bytes8 r l _ w0 w1).mono ?_
  rintro e w' ⟨rfl, rfl⟩
  go_wp2_with fail
  go_ret
  exact ⟨rfl, Grown.refl _⟩

set_option maxHeartbeats 400000 in
theorem walk_big (r l : ByteArray) (w0 : r.size ≤ maxLen) (w1 : l.size ≤ maxLen) (w : World) (h : r.size + l.size ≤ 1048576) (h2 : 524288 < r.size ∨ 524288 < l.size) :
    Calls Try.prog 4 #[.string r, .string l] w fun e w' => e = .returned (.bool true) ∧ Grown w w' := by
  have hd : decide (r.size + l.size ≤ 1048576) = true := by simpa using h
  by_cases h3 : 524288 < r.size
  · go_enter Try.func4, Try.ntmps4
    go_wp2_with fail
    refine (bytes8 r l _ w0 w1).mono ?_
    rintro e w' ⟨rfl, rfl⟩
    go_wp2_with fail
    go_ret
    exact ⟨rfl, Grown.refl _⟩
  · have h4 : 524288 < l.size := by omega
    clear h2
    go_enter Try.func4, Try.ntmps4
    go_wp2_with fail
    refine (bytes8 r l _ w0 w1).mono ?_
    rintro e w' ⟨rfl, rfl⟩
    go_wp2_with fail
    go_ret
    exact ⟨rfl, Grown.refl _⟩

set_option maxHeartbeats 800000 in
theorem walk_yes (r l : ByteArray) (w0 : r.size ≤ maxLen) (w1 : l.size ≤ maxLen) (w : World) (h : r.size + l.size ≤ 1048576) (h2 : r.size ≤ 524288) (h3 : l.size ≤ 524288)
    (h4 : (pl r l true).2 = true) :
    Calls Try.prog 4 #[.string r, .string l] w fun e w' => e = .returned (.bool true) ∧ Grown w w' := by
  have hd : decide (r.size + l.size ≤ 1048576) = true := by simpa using h
  have hy : Hid (((pl r l true).1.toList == (rv (pl (rv r) l false).1).toList) = true) := by rw [mirror_yes r l h4]; exact beq_self_eq_true _
  have hok : Hid ((pl (rv r) l false).2 = true) := (mirror_ok r l).trans h4
  have hsz : (pl (rv r) l false).1.size ≤ 524288 := Nat.le_trans (left_le _ _ _) (by rw [rv_size]; exact h2)
  have h4' : Hid ((pl r l true).2 = true) := h4
  have hrr : (rv r).size ≤ maxLen := by rw [rv_size]; exact w0
  have hrl : (rv l).size ≤ 524288 := by rw [rv_size]; exact h3
  have hD : Hid (pl (r ++ rv l) l true = (r, true)) := trip_back r l
  have hE : Hid (pl (l ++ r) l false = (r, true)) := trip_fwd r l
  clear h4
  go_enter Try.func4, Try.ntmps4
  go_wp2_with fail
  refine (bytes8 r l _ w0 w1).mono ?_
  rintro e w' ⟨rfl, rfl⟩
  go_wp2_with fail
  refine (past6 r l true _ w0).mono ?_
  rintro e w1' ⟨rfl, hg1⟩
  rw [h4'.out]
  generalize (pl r l true).1 = lb at *
  go_wp2_with fail
  refine (rev7 r _ (by omega)).mono ?_
  rintro e w2' ⟨rfl, hg2⟩
  go_wp2_with fail
  refine (past6 (rv r) l false _ hrr).mono ?_
  rintro e w3' ⟨rfl, hg3⟩
  rw [hok.out]
  generalize (pl (rv r) l false).1 = lf at *
  go_wp2_with fail
  refine (rev7 lf _ (by omega)).mono ?_
  rintro e w4' ⟨rfl, hg4⟩
  have hy' := hy.out
  clear hy hok h4'
  generalize rv lf = vlf at *
  go_wp2_with fail
  refine (rev7 l _ (by omega)).mono ?_
  rintro e w5' ⟨rfl, hg5⟩
  generalize rv l = rl at *
  go_wp2_with fail
  refine (past6 (r ++ rl) l true _ (by rw [app_size]; unfold maxLen; omega)).mono ?_
  rw [hD.out]
  rintro e w6' ⟨rfl, hg6⟩
  go_wp2_with fail
  refine (past6 (l ++ r) l false _ (by rw [app_size]; unfold maxLen; omega)).mono ?_
  rw [hE.out]
  rintro e w7' ⟨rfl, hg7⟩
  go_wp2_with fail
  go_ret
  exact ⟨rfl, grown_trans (grown_trans (grown_trans (grown_trans (grown_trans (grown_trans hg1 hg2) hg3) hg4) hg5) hg6) hg7⟩

set_option maxHeartbeats 800000 in
theorem walk_no (r l : ByteArray) (w0 : r.size ≤ maxLen) (w1 : l.size ≤ maxLen) (w : World) (h : r.size + l.size ≤ 1048576) (h2 : r.size ≤ 524288) (h3 : l.size ≤ 524288)
    (h4 : (pl r l true).2 = false) :
    Calls Try.prog 4 #[.string r, .string l] w fun e w' => e = .returned (.bool true) ∧ Grown w w' := by
  have hd : decide (r.size + l.size ≤ 1048576) = true := by simpa using h
  have hno : Hid (pl r l true = (⟨#[]⟩, false)) := mirror_no r l h4
  have hok : Hid ((pl (rv r) l false).2 = false) := (mirror_ok r l).trans h4
  have hrr : (rv r).size ≤ maxLen := by rw [rv_size]; exact w0
  have hrl : (rv l).size ≤ 524288 := by rw [rv_size]; exact h3
  have hD : Hid (pl (r ++ rv l) l true = (r, true)) := trip_back r l
  have hE : Hid (pl (l ++ r) l false = (r, true)) := trip_fwd r l
  clear h4
  go_enter Try.func4, Try.ntmps4
  go_wp2_with fail
  refine (bytes8 r l _ w0 w1).mono ?_
  rintro e w' ⟨rfl, rfl⟩
  go_wp2_with fail
  refine (past6 r l true _ w0).mono ?_
  rw [hno.out]
  rintro e w1' ⟨rfl, hg1⟩
  go_wp2_with fail
  refine (rev7 r _ (by omega)).mono ?_
  rintro e w2' ⟨rfl, hg2⟩
  go_wp2_with fail
  refine (past6 (rv r) l false _ hrr).mono ?_
  rintro e w3' ⟨rfl, hg3⟩
  rw [hok.out]
  generalize (pl (rv r) l false).1 = lf at *
  clear hok
  go_wp2_with fail
  refine (rev7 l _ (by omega)).mono ?_
  rintro e w5' ⟨rfl, hg5⟩
  generalize rv l = rl at *
  go_wp2_with fail
  refine (past6 (r ++ rl) l true _ (by rw [app_size]; unfold maxLen; omega)).mono ?_
  rw [hD.out]
  rintro e w6' ⟨rfl, hg6⟩
  go_wp2_with fail
  refine (past6 (l ++ r) l false _ (by rw [app_size]; unfold maxLen; omega)).mono ?_
  rw [hE.out]
  rintro e w7' ⟨rfl, hg7⟩
  go_wp2_with fail
  go_ret
  exact ⟨rfl, grown_trans (grown_trans (grown_trans (grown_trans (grown_trans hg1 hg2) hg3) hg5) hg6) hg7⟩

theorem walk (a0 : ByteArray) (a1 : ByteArray) (w0 : a0.size ≤ maxLen) (w1 : a1.size ≤ maxLen) (w : World) :
    Calls Try.prog 4 #[.string a0, .string a1] w fun e w' => e = .returned (.bool true) ∧ Grown w w' := by
  by_cases h : a0.size + a1.size ≤ 1048576
  · by_cases h2 : 524288 < a0.size ∨ 524288 < a1.size
    · exact walk_big a0 a1 w0 w1 w h h2
    · cases h5 : (pl a0 a1 true).2 with
      | true => exact walk_yes a0 a1 w0 w1 w h (by omega) (by omega) h5
      | false => exact walk_no a0 a1 w0 w1 w h (by omega) (by omega) h5
  · exact walk_far a0 a1 w0 w1 w h

theorem own : ownKnob Try.prog.godebug = none := by kernel_rfl

/-! ### THE ROW's STEP: WRITTEN OUT: LEAVE IT -/
set_option maxRecDepth 100000 in
theorem lifted (os : Os) (started : os.Started) (H : Type) (enc : TypeId × Value → H) :
    ReturnsInHanded {} Try.checked os 4 .any (Rows.fnPastLabelMirrorSpec.pre6 enc Try.prog Try.f4 Rows.fnPastLabelMirrorRow.domain false) (Rows.fnPastLabelMirrorSpec.post enc Try.prog Try.f4 false true false false) := by
  refine returnsInHanded_of_change (C := Try.checked) own started (by kernel_rfl) Try.func4
    (ChangeSpec.witness6 (enc := enc) (C := Try.checked) false ⟨#[], #[.string ByteArray.empty, .string ByteArray.empty], []⟩ 8 (by kernel_rfl) (by kernel_rfl) (by kernel_rfl) (by kernel_rfl)) ?_
  intro W base args ds gs before hval0 hW hcnd _
  have hval : ∀ (j : Nat) t v, Try.f4.params[j]? = some t → args[j]? = some v → Value.okWide Try.prog W .any base t v := hval0
  have hW' := hW
  obtain ⟨p, q, hA0, hV, rfl, hfz, hnd⟩ := hW
  have hA : DataW.TrodAll enc Try.prog W 0 (fun _ => true) true Try.f4.params.toList args.toList ds p := hA0
  rw [Try.params4] at hA hval
  obtain ⟨v0, vs0, d0, ds0, p0, q0, hargs, rfl, rfl, h0, r0⟩ := trodAll_cons hA
  obtain ⟨v1, vs1, d1, ds1, p1, q1, rfl, rfl, rfl, h1, r1⟩ := trodAll_cons r0
  obtain ⟨rfl, rfl, rfl⟩ := trodAll_nil r1
  obtain rfl : args = #[v0, v1] := by cases args; simp_all
  obtain ⟨rfl, rfl⟩ := trodVars_none hV
  obtain ⟨a0, rfl, rfl, rfl, w0⟩ := open_string Try.underlying9 (hval 0 9 v0 rfl rfl) h0
  obtain ⟨a1, rfl, rfl, rfl, w1⟩ := open_string Try.underlying9 (hval 1 9 v1 rfl rfl) h1
  clear hA0 hval0
  simp only [List.append_nil] at hW'
  refine (walk a0 a1 w0 w1 W).mono fun e W' ⟨he, hg⟩ => ?_
  subst he
  exact ⟨_, rfl, post_of_same (pa := []) (pv := []) hW' (fun _ _ _ => (trodAll_cons_mk (shut_bool Try.underlying4 _) trodAll_mk0)) (fun sp _ => (trodAll_cons_mk (shut_string Try.underlying9 w0) (trodAll_cons_mk (shut_string Try.underlying9 w1) trodAll_mk0))) (fun _ _ => rfl) rfl
    (hg.frame _) hg.2.1 (ok_one (by kernel_rfl) rfl (okWide_bool_mk Try.underlying4 _))⟩

theorem over : Rows.fnPastLabelMirrorRow.holds Try.pinned (OpenSpec.ofChange Rows.fnPastLabelMirrorSpec) :=
  OpenClaim.holds_of_wide 4 Try.f4 rfl rfl rfl rfl rfl rfl rfl ⟨rfl, rfl, rfl, rfl, rfl⟩ rfl rfl rfl rfl rfl (by kernel_rfl) Try.func4 (by kernel_rfl)
    (of_decide_eq_true (by kernel_rfl)) (by unfold Func.isWrapper; first | (rw [if_pos (by decide +kernel)]; kernel_rfl) | (rw [if_neg (by decide +kernel)]; exact ⟨rfl, rfl⟩))
    (fun os started H enc _ => lifted os started H enc)

/-- ████ THE STATEMENT ████ -/
theorem proved : Rows.FnPastLabelMirrorSaid :=
  over
#print axioms proved
end Go.Proofs.Qxb6623486a.fnPastLabelMirror
