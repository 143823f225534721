import Derived.Test.Qxb6623486aRows
import Derived.Test.Qxb6623486aPlain
import Derived.WalkKit
import Derived.WalkSpells
import Derived.ProofKit
import Derived.Deep.OwnRows
import Derived.Deep.QuietTactic
import Derived.BigQuiet
import Derived.Deep.Light
import Derived.Laws.IdiomStrings
namespace Go.Proofs.Qxb6623486a.Parts
open Go.RowKit

/-! ### The callees' contracts -/

set_option maxHeartbeats 400000 in
theorem bytes5 (a0 a1 : ByteArray) (a2 : Bool) (w : World) (h0 : a0.size ≤ maxLen) (h1 : a1.size ≤ maxLen) :
    Calls Try.prog 5 #[.string a0, .string a1, .bool a2] w fun e w' => e = .returned (.bool (decide (a0.size + a1.size ≤ 1048576))) ∧ w' = w := by
  unfold maxLen at h0 h1
  go_enter Try.func5, Try.ntmps5
  go_wp2
  all_goals
    go_ret
    exact ⟨ret_bool (by simp; omega), rfl⟩

set_option maxHeartbeats 400000 in
theorem bytes8 (a0 a1 : ByteArray) (w : World) (h0 : a0.size ≤ maxLen) (h1 : a1.size ≤ maxLen) :
    Calls Try.prog 8 #[.string a0, .string a1] w fun e w' => e = .returned (.bool (decide (a0.size + a1.size ≤ 1048576))) ∧ w' = w := by
  unfold maxLen at h0 h1
  go_enter Try.func8, Try.ntmps8
  go_wp2
  all_goals
    go_ret
    exact ⟨ret_bool (by simp; omega), rfl⟩

set_option maxHeartbeats 400000 in
theorem past9_long (a0 a1 : ByteArray) (a2 : Bool) (w : World) (hl : a0.size < a1.size) :
    Calls Try.prog 9 #[.string a0, .string a1, .bool a2] w fun e w' => e = .returned (.tuple #[.string ⟨#[]⟩, .bool false]) ∧ Grown w w' := by
  go_enter Try.func9, Try.ntmps9
  go_wp2
  go_ret2
  exact ⟨rfl, Grown.refl _⟩

set_option maxHeartbeats 400000 in
theorem past9_fwd (a0 a1 : ByteArray) (w : World) (hl : a1.size ≤ a0.size) :
    Calls Try.prog 9 #[.string a0, .string a1, .bool false] w fun e w' => e = .returned (.tuple #[.string (a0.extract a1.size a0.size), .bool ((a0.extract 0 a1.size).toList == a1.toList)]) ∧ Grown w w' := by
  go_enter Try.func9, Try.ntmps9
  go_wp2
  go_quiet (fail)
  go_wp2
  go_ret2
  exact ⟨rfl, grown_drewN (Grown.refl _) _⟩

set_option maxHeartbeats 400000 in
theorem past9_back (a0 a1 : ByteArray) (w : World) (h0 : a0.size ≤ maxLen) (hl : a1.size ≤ a0.size) :
    Calls Try.prog 9 #[.string a0, .string a1, .bool true] w fun e w' => e = .returned (.tuple #[.string (if (a0.extract (a0.size - a1.size) a0.size).toList == (rv a1).toList then a0.extract 0 (a0.size - a1.size) else ⟨#[]⟩), .bool ((a0.extract (a0.size - a1.size) a0.size).toList == (rv a1).toList)]) ∧ Grown w w' := by
  have HT : Hid (((a0.extract (a0.size - a1.size) a0.size).toList == (rv a1).toList) = true ↔ ∀ j (hj : j < a1.size), (a0[a0.size - 1 - j]'(by omega)).toNat = a1[j].toNat) := tail_iff a0 a1 hl
  generalize ((a0.extract (a0.size - a1.size) a0.size).toList == (rv a1).toList) = T at *
  have HL0 : ∃ L : ByteArray, L = if T = true then a0.extract 0 (a0.size - a1.size) else ⟨#[]⟩ := ⟨_, rfl⟩
  obtain ⟨L, HL1⟩ := HL0
  rw [← HL1]
  have HL : Hid (L = if T = true then a0.extract 0 (a0.size - a1.size) else ⟨#[]⟩) := HL1
  clear HL1
  unfold maxLen at h0
  go_enter Try.func9, Try.ntmps9
  go_wp2
  go_loopw [8, 28] (fun _ i wr => ∃ k : Nat, k ≤ a1.size ∧ i = .int .i64 k ∧ Hid (∀ j (hj : j < a1.size), j < k → (a0[a0.size - 1 - j]'(by omega)).toNat = a1[j].toNat) ∧ Grown w wr) (fun _ i _ => a1.size - (intOf i).toNat)
  case atStart => exact ⟨0, Nat.zero_le _, rfl, fun j _ hj => absurd hj (Nat.not_lt_zero _), Grown.refl _⟩
  case round =>
    obtain ⟨k, hk, rfl, hall, hg⟩ := hrel
    by_cases hlt : k < a1.size
    · have e1 : IntKind.i64.wrap ((a0.size : Int) - 1) = (a0.size : Int) - 1 := by rw [IntKind.wrap_i64]; omega
      have e2 : IntKind.i64.wrap ((a0.size : Int) - 1 - (k : Int)) = ((a0.size - 1 - k : Nat) : Int) := by rw [IntKind.wrap_i64]; omega
      have e3 : a0.size - 1 - k < a0.size := by omega
      go_wp2
      go_quiet (fail)
      go_wp2
      · have hne : ((a0[a0.size - 1 - k].toNat : Int) != (a1[k].toNat : Int)) = true := by assumption
        go_ret2
        have hT : T = false := by
          rw [Bool.eq_false_iff]
          intro hT
          have := HT.out.1 hT k hlt
          rw [bne_iff_ne] at hne
          exact hne (by rw [this])
        have hL := HL.out
        subst hT
        rw [if_neg (by decide)] at hL
        subst hL
        exact ⟨rfl, grown_drewN hg _⟩
      · have hne : ((a0[a0.size - 1 - k].toNat : Int) != (a1[k].toNat : Int)) = false := by assumption
        go_roundw
        case rel =>
          refine ⟨k + 1, by omega, by go_num, fun j hj hjk => ?_, grown_drewN hg _⟩
          by_cases e : j = k
          · subst e
            have h9 : (a0[a0.size - 1 - j].toNat : Int) = (a1[j].toNat : Int) := by simpa using hne
            omega
          · exact hall.out j hj (by omega)
        case measure => simp [intOf]; omega
    · go_wp2
      go_ret2
      have hT : T = true := HT.out.2 fun j hj => hall.out j hj (by omega)
      have hL := HL.out
      subst hT
      rw [if_pos rfl] at hL
      subst hL
      exact ⟨rfl, hg⟩

theorem past9 (r l : ByteArray) (back : Bool) (w : World) (h0 : r.size ≤ maxLen) :
    Calls Try.prog 9 #[.string r, .string l, .bool back] w fun e w' => e = .returned (.tuple #[.string (pl r l back).1, .bool (pl r l back).2]) ∧ Grown w w' := by
  by_cases hl : r.size < l.size
  · have e : pl r l back = (⟨#[]⟩, false) := by simp [pl, hl]
    rw [e]
    exact past9_long r l back w hl
  · cases back with
    | false =>
      have e : pl r l false = (r.extract l.size r.size, (r.extract 0 l.size).toList == l.toList) := by simp [pl, hl]
      rw [e]
      exact past9_fwd r l w (by omega)
    | true =>
      have e : pl r l true = (if (r.extract (r.size - l.size) r.size).toList == (rv l).toList then r.extract 0 (r.size - l.size) else ⟨#[]⟩, (r.extract (r.size - l.size) r.size).toList == (rv l).toList) := by
        unfold pl
        rw [if_neg hl, if_pos rfl]
        cases (r.extract (r.size - l.size) r.size).toList == (rv l).toList <;> rfl
      rw [e]
      exact past9_back r l w h0 (by omega)

set_option maxHeartbeats 400000 in
theorem past6 (r l : ByteArray) (back : Bool) (w : World) (h0 : r.size ≤ maxLen) :
    Calls Try.prog 6 #[.string r, .string l, .bool back] w fun e w' => e = .returned (.tuple #[.string (pl r l back).1, .bool (pl r l back).2]) ∧ Grown w w' := by
  have H := past9 r l back w h0
  generalize pl r l back = p at *
  obtain ⟨p1, p2⟩ := p
  have HC : Hid (Calls Try.prog 9 #[.string r, .string l, .bool back] w fun e w' => e = .returned (.tuple #[.string p1, .bool p2]) ∧ Grown w w') := H
  clear H
  go_enter Try.func6, Try.ntmps6
  go_wp2_with fail
  refine HC.out.mono ?_
  rintro e w' ⟨rfl, hg⟩
  go_wp2
  go_ret2
  exact ⟨rfl, hg⟩

end Go.Proofs.Qxb6623486a.Parts
