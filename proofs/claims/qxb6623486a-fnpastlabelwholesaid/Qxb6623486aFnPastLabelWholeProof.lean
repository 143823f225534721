import Derived.Test.Qxb6623486aRows
import Derived.Test.Qxb6623486aPlain
import Derived.Test.Qxb6623486aParts
import Derived.Test.Qxb6623486aRev
import Derived.WalkKit
import Derived.WalkSpells
import Derived.ProofKit
import Derived.OpenShut
import Derived.ShutString
import Derived.Deep.Light
namespace Go.Proofs.Qxb6623486a.fnPastLabelWhole
open Go.ChangeShapes Go.WideShapes Go.ChangeAt Go.RowKit
open Go.ChangeMaps (open_string shut_string)
open Go.Proofs.Qxb6623486a.Parts
set_option linter.unusedVariables false

/-! ### The walk, a case at a time -/

set_option maxHeartbeats 400000 in
theorem walk_far (r l : ByteArray) (b : Bool) (w0 : r.size ≤ maxLen) (w1 : l.size ≤ maxLen) (w : World) (h : ¬ r.size + l.size ≤ 1048576) :
    Calls Try.prog 3 #[.string r, .string l, .bool b] w fun e w' => e = .returned (.bool true) ∧ Grown w w' := by
  have hd : decide (r.size + l.size ≤ 1048576) = false := by simpa using h
  go_enter Try.func3, Try.ntmps3
  go_wp2_with fail
  refine (bytes5 r l b _ w0 w1).mono ?_
  rintro e w' ⟨rfl, rfl⟩
  go_wp2_with fail
  go_ret
  exact ⟨rfl, Grown.refl _⟩

set_option maxHeartbeats 400000 in
theorem walk_big (r l : ByteArray) (b : Bool) (w0 : r.size ≤ maxLen) (w1 : l.size ≤ maxLen) (w : World) (h : r.size + l.size ≤ 1048576) (h2 : 524288 < r.size ∨ 524288 < l.size) :
    Calls Try.prog 3 #[.string r, .string l, .bool b] w fun e w' => e = .returned (.bool true) ∧ Grown w w' := by
  have hd : decide (r.size + l.size ≤ 1048576) = true := by simpa using h
  by_cases h3 : 524288 < r.size
  · go_enter Try.func3, Try.ntmps3
    go_wp2_with fail
    refine (bytes5 r l b _ w0 w1).mono ?_
    rintro e w' ⟨rfl, rfl⟩
    go_wp2_with fail
    go_ret
    exact ⟨rfl, Grown.refl _⟩
  · have h4 : 524288 < l.size := by omega
    clear h2
    go_enter Try.func3, Try.ntmps3
    go_wp2_with fail
    refine (bytes5 r l b _ w0 w1).mono ?_
    rintro e w' ⟨rfl, rfl⟩
    go_wp2_with fail
    go_ret
    exact ⟨rfl, Grown.refl _⟩

set_option maxHeartbeats 400000 in
theorem walk_long (r l : ByteArray) (b : Bool) (w0 : r.size ≤ maxLen) (w1 : l.size ≤ maxLen) (w : World) (h : r.size + l.size ≤ 1048576) (h2 : r.size ≤ 524288) (h3 : l.size ≤ 524288) (h4 : r.size < l.size) :
    Calls Try.prog 3 #[.string r, .string l, .bool b] w fun e w' => e = .returned (.bool true) ∧ Grown w w' := by
  have hd : decide (r.size + l.size ≤ 1048576) = true := by simpa using h
  have hp : Hid (pl r l b = (⟨#[]⟩, false)) := by simp [pl, h4, Hid]
  go_enter Try.func3, Try.ntmps3
  go_wp2_with fail
  refine (bytes5 r l b _ w0 w1).mono ?_
  rintro e w' ⟨rfl, rfl⟩
  go_wp2_with fail
  refine (past6 r l b _ w0).mono ?_
  rw [hp.out]
  rintro e w1' ⟨rfl, hg⟩
  go_wp2_with fail
  go_ret
  exact ⟨rfl, hg⟩

set_option maxHeartbeats 400000 in
theorem walk_fwd (r l : ByteArray) (w0 : r.size ≤ maxLen) (w1 : l.size ≤ maxLen) (w : World) (h : r.size + l.size ≤ 1048576) (h2 : r.size ≤ 524288) (h3 : l.size ≤ 524288) (h4 : l.size ≤ r.size) :
    Calls Try.prog 3 #[.string r, .string l, .bool false] w fun e w' => e = .returned (.bool true) ∧ Grown w w' := by
  have hd : decide (r.size + l.size ≤ 1048576) = true := by simpa using h
  have hp : Hid (pl r l false = (r.extract l.size r.size, (r.extract 0 l.size).toList == l.toList)) := by
    simp [pl, show ¬ r.size < l.size by omega, Hid]
  have hb1 := fwd_tail r l h4
  have hb2 : Hid _ := fwd_glue r l h4
  go_enter Try.func3, Try.ntmps3
  go_wp2_with fail
  refine (bytes5 r l false _ w0 w1).mono ?_
  rintro e w' ⟨rfl, rfl⟩
  go_wp2_with fail
  refine (past6 r l false _ w0).mono ?_
  rw [hp.out]
  rintro e w1' ⟨rfl, hg⟩
  go_wp2_with fail
  go_ret
  exact ⟨ret_bool hb2.out, hg⟩

set_option maxHeartbeats 400000 in
theorem walk_hit (r l : ByteArray) (w0 : r.size ≤ maxLen) (w1 : l.size ≤ maxLen) (w : World) (h : r.size + l.size ≤ 1048576) (h2 : r.size ≤ 524288) (h3 : l.size ≤ 524288) (h4 : l.size ≤ r.size)
    (h5 : ((r.extract (r.size - l.size) r.size).toList == (rv l).toList) = true) :
    Calls Try.prog 3 #[.string r, .string l, .bool true] w fun e w' => e = .returned (.bool true) ∧ Grown w w' := by
  have hd : decide (r.size + l.size ≤ 1048576) = true := by simpa using h
  have hp : Hid (pl r l true = (r.extract 0 (r.size - l.size), true)) := by
    simp only [Hid, pl, if_neg (show ¬ r.size < l.size by omega), h5, if_true]
  have hb1 := back_glue r l h4 h5
  go_enter Try.func3, Try.ntmps3
  go_wp2_with fail
  refine (bytes5 r l true _ w0 w1).mono ?_
  rintro e w' ⟨rfl, rfl⟩
  go_wp2_with fail
  refine (past6 r l true _ w0).mono ?_
  rw [hp.out]
  rintro e w1' ⟨rfl, hg⟩
  go_wp2_with fail
  refine (rev7 l _ (by omega)).mono ?_
  rintro e w2' ⟨rfl, hg2⟩
  have hrl : (rv l).size ≤ 524288 := by rw [rv_size]; exact h3
  generalize rv l = rl at *
  go_wp2_with fail
  go_ret
  exact ⟨rfl, grown_trans hg hg2⟩

set_option maxHeartbeats 400000 in
theorem walk_miss (r l : ByteArray) (w0 : r.size ≤ maxLen) (w1 : l.size ≤ maxLen) (w : World) (h : r.size + l.size ≤ 1048576) (h2 : r.size ≤ 524288) (h3 : l.size ≤ 524288) (h4 : l.size ≤ r.size)
    (h5 : ((r.extract (r.size - l.size) r.size).toList == (rv l).toList) = false) :
    Calls Try.prog 3 #[.string r, .string l, .bool true] w fun e w' => e = .returned (.bool true) ∧ Grown w w' := by
  have hd : decide (r.size + l.size ≤ 1048576) = true := by simpa using h
  have hp : Hid (pl r l true = (⟨#[]⟩, false)) := by
    simp [Hid, pl, h5]
  go_enter Try.func3, Try.ntmps3
  go_wp2_with fail
  refine (bytes5 r l true _ w0 w1).mono ?_
  rintro e w' ⟨rfl, rfl⟩
  go_wp2_with fail
  refine (past6 r l true _ w0).mono ?_
  rw [hp.out]
  rintro e w1' ⟨rfl, hg⟩
  go_wp2_with fail
  refine (rev7 l _ (by omega)).mono ?_
  rintro e w2' ⟨rfl, hg2⟩
  generalize rv l = rl at *
  go_wp2_with fail
  go_ret
  exact ⟨rfl, grown_trans hg hg2⟩

theorem walk (a0 : ByteArray) (a1 : ByteArray) (a2 : Bool) (w0 : a0.size ≤ maxLen) (w1 : a1.size ≤ maxLen) (w : World) :
    Calls Try.prog 3 #[.string a0, .string a1, .bool a2] w fun e w' => e = .returned (.bool true) ∧ Grown w w' := by
  by_cases h : a0.size + a1.size ≤ 1048576
  · by_cases h2 : 524288 < a0.size ∨ 524288 < a1.size
    · exact walk_big a0 a1 a2 w0 w1 w h h2
    · by_cases h4 : a0.size < a1.size
      · exact walk_long a0 a1 a2 w0 w1 w h (by omega) (by omega) h4
      · cases a2 with
        | false => exact walk_fwd a0 a1 w0 w1 w h (by omega) (by omega) (by omega)
        | true =>
          cases h5 : ((a0.extract (a0.size - a1.size) a0.size).toList == (rv a1).toList) with
          | true => exact walk_hit a0 a1 w0 w1 w h (by omega) (by omega) (by omega) h5
          | false => exact walk_miss a0 a1 w0 w1 w h (by omega) (by omega) (by omega) h5
  · exact walk_far a0 a1 a2 w0 w1 w h

theorem own : ownKnob Try.prog.godebug = none := by kernel_rfl

/-! ### THE ROW's STEP: WRITTEN OUT: LEAVE IT -/
set_option maxRecDepth 100000 in
theorem lifted (os : Os) (started : os.Started) (H : Type) (enc : TypeId × Value → H) :
    ReturnsInHanded {} Try.checked os 3 .any (Rows.fnPastLabelWholeSpec.pre6 enc Try.prog Try.f3 Rows.fnPastLabelWholeRow.domain false) (Rows.fnPastLabelWholeSpec.post enc Try.prog Try.f3 false true false false) := by
  refine returnsInHanded_of_change (C := Try.checked) own started (by kernel_rfl) Try.func3
    (ChangeSpec.witness6 (enc := enc) (C := Try.checked) false ⟨#[], #[.string ByteArray.empty, .string ByteArray.empty, .bool false], []⟩ 8 (by kernel_rfl) (by kernel_rfl) (by kernel_rfl) (by kernel_rfl)) ?_
  intro W base args ds gs before hval0 hW hcnd _
  have hval : ∀ (j : Nat) t v, Try.f3.params[j]? = some t → args[j]? = some v → Value.okWide Try.prog W .any base t v := hval0
  have hW' := hW
  obtain ⟨p, q, hA0, hV, rfl, hfz, hnd⟩ := hW
  have hA : DataW.TrodAll enc Try.prog W 0 (fun _ => true) true Try.f3.params.toList args.toList ds p := hA0
  rw [Try.params3] at hA hval
  obtain ⟨v0, vs0, d0, ds0, p0, q0, hargs, rfl, rfl, h0, r0⟩ := trodAll_cons hA
  obtain ⟨v1, vs1, d1, ds1, p1, q1, rfl, rfl, rfl, h1, r1⟩ := trodAll_cons r0
  obtain ⟨v2, vs2, d2, ds2, p2, q2, rfl, rfl, rfl, h2, r2⟩ := trodAll_cons r1
  obtain ⟨rfl, rfl, rfl⟩ := trodAll_nil r2
  obtain rfl : args = #[v0, v1, v2] := by cases args; simp_all
  obtain ⟨rfl, rfl⟩ := trodVars_none hV
  obtain ⟨a0, rfl, rfl, rfl, w0⟩ := open_string Try.underlying9 (hval 0 9 v0 rfl rfl) h0
  obtain ⟨a1, rfl, rfl, rfl, w1⟩ := open_string Try.underlying9 (hval 1 9 v1 rfl rfl) h1
  obtain ⟨a2, rfl, rfl, rfl⟩ := open_bool Try.underlying4 (hval 2 4 v2 rfl rfl) h2
  clear hA0 hval0
  simp only [List.append_nil] at hW'
  refine (walk a0 a1 a2 w0 w1 W).mono fun e W' ⟨he, hg⟩ => ?_
  subst he
  exact ⟨_, rfl, post_of_same (pa := []) (pv := []) hW' (fun _ _ _ => (trodAll_cons_mk (shut_bool Try.underlying4 _) trodAll_mk0)) (fun sp _ => (trodAll_cons_mk (shut_string Try.underlying9 w0) (trodAll_cons_mk (shut_string Try.underlying9 w1) (trodAll_cons_mk (shut_bool Try.underlying4 _) trodAll_mk0)))) (fun _ _ => rfl) rfl
    (hg.frame _) hg.2.1 (ok_one (by kernel_rfl) rfl (okWide_bool_mk Try.underlying4 _))⟩

theorem over : Rows.fnPastLabelWholeRow.holds Try.pinned (OpenSpec.ofChange Rows.fnPastLabelWholeSpec) :=
  OpenClaim.holds_of_wide 3 Try.f3 rfl rfl rfl rfl rfl rfl rfl ⟨rfl, rfl, rfl, rfl, rfl⟩ rfl rfl rfl rfl rfl (by kernel_rfl) Try.func3 (by kernel_rfl)
    (of_decide_eq_true (by kernel_rfl)) (by unfold Func.isWrapper; first | (rw [if_pos (by decide +kernel)]; kernel_rfl) | (rw [if_neg (by decide +kernel)]; exact ⟨rfl, rfl⟩))
    (fun os started H enc _ => lifted os started H enc)

/-- ████ THE STATEMENT ████ -/
theorem proved : Rows.FnPastLabelWholeSaid :=
  over
#print axioms proved
end Go.Proofs.Qxb6623486a.fnPastLabelWhole
