import Derived.Test.Qxb6617224aRows
import Derived.Test.Qxb6617224aPlain
import Derived.Test.Qxb6617224aCopy
import Derived.Test.Qxb6617224aLeaf
import Derived.Test.Qxb6617224aPad
import Derived.Test.Qxb6617224aInt
import Derived.Test.Qxb6617224aIntLaw
import Derived.Test.Qxb6617224aIntMain
import Derived.WalkKit
import Derived.ProofKit
import Derived.OpenShut
import Derived.ShutString
namespace Go.Proofs.Qxb6617224a.fnIntIsTheIntegerValue
open Go.ChangeShapes Go.WideShapes Go.ChangeAt Go.RowKit
open Go.ChangeMaps (open_string shut_string)
open Go.Proofs.Qxb6617224a.Parts
set_option linter.unusedVariables false      -- a walk need not use every 'w<i>' (that an integer argument fits its kind)

theorem own : ownKnob Try.prog.godebug = none := by kernel_rfl

theorem walk (a0 : Int) (a1 : ByteArray) (a2 : Int) (a3 : Int) (w0 : (Lit.int .i64 a0).wf = true) (w1 : a1.size ≤ maxLen) (w2 : (Lit.int .i64 a2).wf = true) (w3 : (Lit.int .i64 a3).wf = true) (w : World) :
    Calls Try.prog 4 #[.int .i64 a0, .string a1, .int .i64 a2, .int .i64 a3] w fun e w' => e = .returned (.bool true) ∧ Grown w w' := by
  by_cases h : a1.size ≤ 1048576
  · by_cases ha : a0 < -1 ∨ 1 < a0
    · exact law_sign a0 a1 a2 a3 w w1 h ha
    · by_cases hm : (a0 = 0 ∧ a1.size ≠ 0) ∨ (a0 ≠ 0 ∧ a1.size = 0)
      · exact law_apart a0 a1 a2 a3 w w1 h (by omega) (by omega) hm
      · by_cases hz : a0 = 0
        · subst hz
          exact law_zero a1 a2 a3 w w1 (by omega)
        · have h2 : a1.size ≠ 0 := by omega
          cases hA : allD (bf a1) a1.size with
          | false => exact law_nodigit a0 a1 a2 a3 w w1 h (by omega) (by omega) hz h2 hA
          | true =>
            by_cases he : bf a1 0 = 48 ∨ bf a1 (a1.size - 1) = 48
            · exact law_edge a0 a1 a2 a3 w w1 h (by omega) (by omega) hz h2 hA he
            · have n0 : bf a1 0 ≠ 48 := fun x => he (.inl x)
              have n1 : bf a1 (a1.size - 1) ≠ 48 := fun x => he (.inr x)
              by_cases hb : a2 < a1.size ∨ 18 < a2
              · exact law_out a0 a1 a2 a3 w w1 h (by omega) (by omega) hz h2 hA n0 n1 hb
              · obtain ⟨E, rfl⟩ : ∃ E : Nat, a2 = E := ⟨a2.toNat, by omega⟩
                exact law_in a0 a1 E a3 w w1 h (by omega) (by omega) hz h2 hA n0 n1 (by omega) (by omega)
  · exact law_far a0 a1 a2 a3 w w1 h

/-! ### THE ROW's STEP: WRITTEN OUT: LEAVE IT -/
set_option maxRecDepth 100000 in
theorem lifted (os : Os) (started : os.Started) (H : Type) (enc : TypeId × Value → H) :
    ReturnsInHanded {} Try.checked os 4 .any (Rows.fnIntIsTheIntegerValueSpec.pre6 enc Try.prog Try.f4 Rows.fnIntIsTheIntegerValueRow.domain false) (Rows.fnIntIsTheIntegerValueSpec.post enc Try.prog Try.f4 false true false false) := by
  refine returnsInHanded_of_change (C := Try.checked) own started (by kernel_rfl) Try.func4
    (ChangeSpec.witness6 (enc := enc) (C := Try.checked) false ⟨#[], #[.int .i64 0, .string ByteArray.empty, .int .i64 0, .int .i64 0], []⟩ 8 (by kernel_rfl) (by kernel_rfl) (by kernel_rfl) (by kernel_rfl)) ?_
  intro W base args ds gs before hval0 hW hcnd _
  have hval : ∀ (j : Nat) t v, Try.f4.params[j]? = some t → args[j]? = some v → Value.okWide Try.prog W .any base t v := hval0
  have hW' := hW
  obtain ⟨p, q, hA0, hV, rfl, hfz, hnd⟩ := hW
  have hA : DataW.TrodAll enc Try.prog W 0 (fun _ => true) true Try.f4.params.toList args.toList ds p := hA0
  rw [Try.params4] at hA hval
  obtain ⟨v0, vs0, d0, ds0, p0, q0, hargs, rfl, rfl, h0, r0⟩ := trodAll_cons hA
  obtain ⟨v1, vs1, d1, ds1, p1, q1, rfl, rfl, rfl, h1, r1⟩ := trodAll_cons r0
  obtain ⟨v2, vs2, d2, ds2, p2, q2, rfl, rfl, rfl, h2, r2⟩ := trodAll_cons r1
  obtain ⟨v3, vs3, d3, ds3, p3, q3, rfl, rfl, rfl, h3, r3⟩ := trodAll_cons r2
  obtain ⟨rfl, rfl, rfl⟩ := trodAll_nil r3
  obtain rfl : args = #[v0, v1, v2, v3] := by cases args; simp_all
  obtain ⟨rfl, rfl⟩ := trodVars_none hV
  obtain ⟨a0, rfl, rfl, rfl, w0⟩ := open_int Try.underlying3 (hval 0 3 v0 rfl rfl) h0
  obtain ⟨a1, rfl, rfl, rfl, w1⟩ := open_string Try.underlying9 (hval 1 9 v1 rfl rfl) h1
  obtain ⟨a2, rfl, rfl, rfl, w2⟩ := open_int Try.underlying2 (hval 2 2 v2 rfl rfl) h2
  obtain ⟨a3, rfl, rfl, rfl, w3⟩ := open_int Try.underlying3 (hval 3 3 v3 rfl rfl) h3
  clear hA0 hval0
  simp only [List.append_nil] at hW'
  refine (walk a0 a1 a2 a3 w0 w1 w2 w3 W).mono fun e W' ⟨he, hg⟩ => ?_
  subst he
  exact ⟨_, rfl, post_of_same (pa := []) (pv := []) hW' (fun _ _ _ => (trodAll_cons_mk (shut_bool Try.underlying4 _) trodAll_mk0)) (fun sp _ => (trodAll_cons_mk (shut_int Try.underlying3 w0) (trodAll_cons_mk (shut_string Try.underlying9 w1) (trodAll_cons_mk (shut_int Try.underlying2 w2) (trodAll_cons_mk (shut_int Try.underlying3 w3) trodAll_mk0))))) (fun _ _ => rfl) rfl
    (hg.frame _) hg.2.1 (ok_one (by kernel_rfl) rfl (okWide_bool_mk Try.underlying4 _))⟩

theorem over : Rows.fnIntIsTheIntegerValueRow.holds Try.pinned (OpenSpec.ofChange Rows.fnIntIsTheIntegerValueSpec) :=
  OpenClaim.holds_of_wide 4 Try.f4 rfl rfl rfl rfl rfl rfl rfl ⟨rfl, rfl, rfl, rfl, rfl⟩ rfl rfl rfl rfl rfl (by kernel_rfl) Try.func4 (by kernel_rfl)
    (of_decide_eq_true (by kernel_rfl)) (by unfold Func.isWrapper; first | (rw [if_pos (by decide +kernel)]; kernel_rfl) | (rw [if_neg (by decide +kernel)]; exact ⟨rfl, rfl⟩))
    (fun os started H enc _ => lifted os started H enc)

/-- ████ THE STATEMENT ████ -/
theorem proved : Rows.FnIntIsTheIntegerValueSaid :=
  over
#print axioms proved
end Go.Proofs.Qxb6617224a.fnIntIsTheIntegerValue
