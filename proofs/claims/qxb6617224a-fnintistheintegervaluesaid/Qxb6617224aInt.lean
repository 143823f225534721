import Derived.Test.Qxb6617224aLeaf
import Derived.Test.Qxb6617224aPad
import Derived.Lib.Strings
namespace Go.Proofs.Qxb6617224a.Parts
open Go.RowKit
set_option linter.unusedVariables false

set_option maxHeartbeats 400000 in
theorem bytes9 (a : Int) (s : ByteArray) (b c : Int) (w : World) (h0 : s.size ≤ maxLen) :
    Calls Try.prog 9 #[.int .i64 a, .string s, .int .i64 b, .int .i64 c] w fun e w' => e = .returned (.bool (decide (s.size ≤ 1048576))) ∧ w' = w := by
  unfold maxLen at h0
  go_enter Try.func9, Try.ntmps9
  go_wp2
  all_goals
    go_ret
    exact ⟨ret_bool (by simp; omega), rfl⟩

/-- The bytes of a text, as numbers. -/
def bf (s : ByteArray) : Nat → Int := fun j => ((s.data.toList.getD j 0).toNat : Int)

theorem bf_at (s : ByteArray) (k : Nat) (h : k < s.size) : (s[k].toNat : Int) = bf s k := by
  unfold bf
  rw [List.getD_eq_getElem?_getD, List.getElem?_eq_getElem (by rw [← Lib.size_eq]; exact h)]
  rfl

theorem bf_bd (s : ByteArray) (k : Nat) : 0 ≤ bf s k ∧ bf s k ≤ 255 := by
  unfold bf
  have := UInt8.toNat_lt (s.data.toList.getD k 0)
  omega

set_option maxHeartbeats 400000 in
theorem text10 (s : ByteArray) (w : World) (hlen : s.size ≤ 1048576) :
    Calls Try.prog 10 #[.string s] w fun e w' => e = .returned (.bool (allD (bf s) s.size)) ∧ w' = w := by
  generalize hA : allD (bf s) s.size = A
  have HA := hid hA
  clear hA
  go_enter Try.func10, Try.ntmps10
  go_wp2
  go_loop [2, 3] (fun r i => r = .bool false ∧ ∃ k : Nat, k ≤ s.size ∧ i = .int .i64 k ∧ Hid (∀ j, j < k → isD (bf s j) = true)) (fun _ i => s.size - (intOf i).toNat)
  case atStart => exact ⟨rfl, 0, Nat.zero_le _, rfl, fun j hj => absurd hj (Nat.not_lt_zero _)⟩
  case round =>
    obtain ⟨rfl, k, hk, rfl, hall⟩ := hrel
    by_cases hlt : k < s.size
    · have b1 := bf_bd s k
      have e1 := bf_at s k hlt
      cases hD : isD (bf s k) with
      | true =>
        go_wp2_with (go_at_call 13; refine (digit13 _ _ b1.1 b1.2).mono ?_; rintro e w' ⟨rfl, rfl⟩)
        go_round
        case rel =>
          refine ⟨rfl, k + 1, by omega, by go_num, fun j hj => ?_⟩
          by_cases e : j = k
          · rw [e]; exact hD
          · exact hall.out j (by omega)
        case measure => simp [intOf]; omega
      | false =>
        have hno := hid (allD_no (bf s) s.size k hlt hD)
        go_wp2_with (go_at_call 13; refine (digit13 _ _ b1.1 b1.2).mono ?_; rintro e w' ⟨rfl, rfl⟩)
        go_ret
        exact ⟨ret_bool (by rw [← HA.out, hno.out]), rfl⟩
    · have hy := hid ((allD_iff (bf s) s.size).2 (fun j hj => hall.out j (by omega)))
      go_wp2
      go_ret
      exact ⟨ret_bool (by rw [← HA.out, hy.out]), rfl⟩

set_option maxHeartbeats 400000 in
theorem make11 (a : Int) (s : ByteArray) (b c : Int) (w : World) :
    Calls Try.prog 11 #[.int .i64 a, .string s, .int .i64 b, .int .i64 c] w fun e w' => e = .returned (.agg #[.int .i64 a, .string s, .int .i64 b, .int .i64 c]) ∧ Grown w w' := by
  go_enter Try.func11, Try.ntmps11
  go_wp2
  exact bodyPost_ret (v := .agg #[.int .i64 a, .string s, .int .i64 b, .int .i64 c]) (by simp [results, Try.results11, go_sem]) rfl ⟨rfl, (Grown.refl _).alloc _ _⟩

set_option maxHeartbeats 400000 in
theorem int12_zero (s : ByteArray) (b c : Int) (w : World) :
    Calls Try.prog 12 #[.agg #[.int .i64 0, .string s, .int .i64 b, .int .i64 c]] w fun e w' => e = .returned (.tuple #[.int .i64 0, .bool true]) ∧ Grown w w' := by
  go_enter Try.func12, Try.ntmps12
  go_wp2
  go_ret2
  exact ⟨rfl, (Grown.refl _).alloc _ _⟩

set_option maxHeartbeats 800000 in
theorem int12_out (a : Int) (s : ByteArray) (b c : Int) (w : World) (hs : s.size ≤ 1048576) (ha : (a == 0) = false) (hb : b < s.size ∨ 18 < b) :
    Calls Try.prog 12 #[.agg #[.int .i64 a, .string s, .int .i64 b, .int .i64 c]] w fun e w' => e = .returned (.tuple #[.int .i64 0, .bool false]) ∧ Grown w w' := by
  by_cases h1 : b < s.size
  · clear hb
    go_enter Try.func12, Try.ntmps12
    go_wp2
    go_ret2
    exact ⟨rfl, (Grown.refl _).alloc _ _⟩
  · have h2 : 18 < b := by omega
    clear hb
    go_enter Try.func12, Try.ntmps12
    go_wp2
    go_ret2
    exact ⟨rfl, (Grown.refl _).alloc _ _⟩

set_option maxHeartbeats 1000000 in
theorem int12_in (a : Int) (s : ByteArray) (E : Nat) (c : Int) (w : World) (ha : (a == 0) = false) (h1 : s.size ≤ E) (h2 : E ≤ 18) (hd : ∀ j, j < s.size → isD (bf s j) = true) :
    Calls Try.prog 12 #[.agg #[.int .i64 a, .string s, .int .i64 E, .int .i64 c]] w fun e w' => e = .returned (.tuple #[.int .i64 (wrap64 (a * val (pd (bf s) s.size) E)), .bool true]) ∧ Grown w w' := by
  have HD := hid (pd_digits (bf s) s.size hd)
  have HF : Hid (∀ j, j < s.size → pd (bf s) s.size j = bf s j) := fun j hj => by unfold pd; rw [if_pos hj]
  have HN : Hid (∀ j, ¬ j < s.size → pd (bf s) s.size j = 48) := fun j hj => by unfold pd; rw [if_neg hj]
  have HDD := hid hd
  generalize pd (bf s) s.size = F at *
  generalize hV : val F E = V
  have HV := hid hV
  clear hd hV
  go_enter Try.func12, Try.ntmps12
  go_wp2
  go_loopw [4, 5, 22] (fun n _ i ws => ∃ k : Nat, k ≤ E ∧ i = .int .i64 k ∧ n = .int .i64 (val F k) ∧ ws = w.alloc (.cells #[.int .i64 a, .string s, .int .i64 E, .int .i64 c] 31)) (fun _ _ i _ => E - (intOf i).toNat)
  case atStart => exact ⟨0, Nat.zero_le _, rfl, rfl, rfl⟩
  case round =>
    obtain ⟨k, hk, rfl, rfl, rfl⟩ := hrel
    by_cases hlt : k < E
    · have b1 := val_max F k (by omega) (fun j _ => HD.out j)
      have b2 := val_max F (k + 1) (by omega) (fun j _ => HD.out j)
      have b3 : val F (k + 1) = val F k * 10 + (F k - 48) := rfl
      have gF := (isD_iff _).1 (HD.out k)
      have HB := hid b3
      have b4 : val F k ≤ 100000000000000000 := by omega
      clear b2 b3
      by_cases hin : k < s.size
      · have e1 := bf_at s k hin
        have e2 := hid (HF.out k hin)
        have g1 : 48 ≤ bf s k ∧ bf s k ≤ 57 := by rw [← e2.out]; exact gF
        clear gF
        go_wp2
        go_roundw
        case rel => exact ⟨k + 1, by omega, by go_num, by rw [HB.out, e2.out], trivial⟩
        case measure => simp [intOf]; omega
      · have e2 := hid (HN.out k hin)
        clear gF
        go_wp2
        go_roundw
        case rel => exact ⟨k + 1, by omega, by go_num, by rw [HB.out, e2.out]; go_num, trivial⟩
        case measure => simp [intOf]; omega
    · have hj2 := hid (show k = E by omega)
      go_wp2
      go_ret2
      exact ⟨by rw [← HV.out, ← hj2.out]; rfl, (Grown.refl _).alloc _ _⟩
end Go.Proofs.Qxb6617224a.Parts
