import Derived.Test.Qxb6617320aRows
import Derived.Test.Qxb6617320aPlain
import Derived.WalkKit
import Derived.WalkSpells
import Derived.WalkLawsBesides
import Derived.ProofKit
import Derived.Deep.OwnRows
import Derived.Deep.Light
namespace Go.Proofs.Qxb6617320a.Parts
open Go.RowKit
set_option linter.unusedVariables false

set_option maxHeartbeats 400000 in
theorem bytes6 (s : ByteArray) (a b c : Int) (w : World) (h0 : s.size ≤ maxLen) :
    Calls Try.prog 6 #[.string s, .int .i64 a, .int .i64 b, .int .i64 c] w fun e w' => e = .returned (.bool (decide (s.size ≤ 1048576))) ∧ w' = w := by
  unfold maxLen at h0
  go_enter Try.func6, Try.ntmps6
  go_wp2
  all_goals
    go_ret
    exact ⟨ret_bool (by simp; omega), rfl⟩

theorem dg1 (c : Int) (h : 48 ≤ c ∧ c ≤ 57) : dg c = c - 48 := by unfold dg; rw [if_pos h]
theorem dg2 (c : Int) (h1 : ¬ (48 ≤ c ∧ c ≤ 57)) (h : 97 ≤ c ∧ c ≤ 102) : dg c = c - 87 := by unfold dg; rw [if_neg h1, if_pos h]
theorem dg3 (c : Int) (h1 : ¬ (48 ≤ c ∧ c ≤ 57)) (h2 : ¬ (97 ≤ c ∧ c ≤ 102)) (h : 65 ≤ c ∧ c ≤ 70) : dg c = c - 55 := by unfold dg; rw [if_neg h1, if_neg h2, if_pos h]
theorem dg4 (c : Int) (h1 : ¬ (48 ≤ c ∧ c ≤ 57)) (h2 : ¬ (97 ≤ c ∧ c ≤ 102)) (h : ¬ (65 ≤ c ∧ c ≤ 70)) : dg c = 16 := by unfold dg; rw [if_neg h1, if_neg h2, if_neg h]

set_option maxHeartbeats 800000 in
theorem digit17 (c : Int) (w : World) (h0 : 0 ≤ c) (h1 : c ≤ 255) :
    Calls Try.prog 17 #[.int .u8 c] w fun e w' => e = .returned (.int .i64 (dg c)) ∧ w' = w := by
  generalize hG : dg c = G
  have HG := hid hG
  clear hG
  go_enter Try.func17, Try.ntmps17
  go_wp2
  all_goals
    go_ret
    refine ⟨ret_int ?_, rfl⟩
    rw [← HG.out]
    first
      | (rw [dg1 c (by omega)]; done)
      | (rw [dg2 c (by omega) (by omega)]; omega)
      | (rw [dg3 c (by omega) (by omega) (by omega)]; omega)
      | (rw [dg4 c (by omega) (by omega) (by omega)]; done)

theorem lo_at (k : Nat) (h : k < 16) : (((⟨#[48, 49, 50, 51, 52, 53, 54, 55, 56, 57, 97, 98, 99, 100, 101, 102]⟩ : ByteArray)[k]'(by show k < 16; exact h)).toNat : Int) = lo k := by
  have : ∀ k : Fin 16, (((⟨#[48, 49, 50, 51, 52, 53, 54, 55, 56, 57, 97, 98, 99, 100, 101, 102]⟩ : ByteArray)[k.1]'(by show k.1 < 16; exact k.2)).toNat : Int) = lo k.1 := by decide
  exact this ⟨k, h⟩

theorem up_at (k : Nat) (h : k < 16) : (((⟨#[48, 49, 50, 51, 52, 53, 54, 55, 56, 57, 65, 66, 67, 68, 69, 70]⟩ : ByteArray)[k]'(by show k < 16; exact h)).toNat : Int) = up k := by
  have : ∀ k : Fin 16, (((⟨#[48, 49, 50, 51, 52, 53, 54, 55, 56, 57, 65, 66, 67, 68, 69, 70]⟩ : ByteArray)[k.1]'(by show k.1 < 16; exact k.2)).toNat : Int) = up k.1 := by decide
  exact this ⟨k, h⟩

set_option maxHeartbeats 800000 in
theorem hex8 (c : Int) (w : World) (h0 : 0 ≤ c) (h1 : c ≤ 255) :
    Calls Try.prog 8 #[.int .u8 c] w fun e w' => e = .returned (.int .i64 (dg c)) ∧ w' = w := by
  generalize hG : dg c = G
  have HG := hid hG
  clear hG
  go_enter Try.func8, Try.ntmps8
  go_wp2
  go_loop [2, 3] (fun r i => r = .int .i64 0 ∧ ∃ k : Nat, k ≤ 16 ∧ i = .int .i64 k ∧ Hid (∀ j, j < k → lo j ≠ c ∧ up j ≠ c)) (fun _ i => 16 - (intOf i).toNat)
  case atStart => exact ⟨rfl, 0, Nat.zero_le _, rfl, fun j hj => absurd hj (Nat.not_lt_zero _)⟩
  case round =>
    obtain ⟨rfl, k, hk, rfl, hall⟩ := hrel
    by_cases hlt : k < 16
    · have e1 := lo_at k hlt
      have e2 := up_at k hlt
      by_cases hl : lo k = c
      · have t1 : (lo k == c) = true := by simpa using hl
        have hh := hid (dg_hit c k hlt (.inl hl))
        clear hl
        go_wp2
        go_ret
        exact ⟨ret_int (by rw [← HG.out, hh.out]), rfl⟩
      · have t1 : (lo k == c) = false := by simpa using hl
        by_cases hu : up k = c
        · have t2 : (up k == c) = true := by simpa using hu
          have hh := hid (dg_hit c k hlt (.inr hu))
          clear hl hu
          go_wp2
          go_ret
          exact ⟨ret_int (by rw [← HG.out, hh.out]), rfl⟩
        · have t2 : (up k == c) = false := by simpa using hu
          have hlu := hid (And.intro hl hu)
          clear hl hu
          go_wp2
          go_round
          case rel =>
            refine ⟨rfl, k + 1, by omega, by go_num, fun j hj => ?_⟩
            by_cases e : j = k
            · rw [e]; exact hlu.out
            · exact hall.out j (by omega)
          case measure => simp [intOf]; omega
    · have hh := hid (dg_miss c (fun j hj => hall.out j (by omega)))
      go_wp2
      go_ret
      exact ⟨ret_int (by rw [← HG.out, hh.out]), rfl⟩

set_option maxHeartbeats 400000 in
theorem pow9 (b : Int) (e : Nat) (w : World) (he : e ≤ 1048576) :
    Calls Try.prog 9 #[.int .i64 b, .int .i64 e] w fun r w' => r = .returned (.int .i64 (pw b e)) ∧ w' = w := by
  go_enter Try.func9, Try.ntmps9
  go_wp2
  go_loop [5, 6] (fun p i => ∃ j : Nat, j ≤ e ∧ i = .int .i64 j ∧ p = .int .i64 (pw b j)) (fun _ i => e - (intOf i).toNat)
  case atStart => exact ⟨0, Nat.zero_le _, rfl, rfl⟩
  case round =>
    obtain ⟨j, hj, rfl, rfl⟩ := hrel
    by_cases hlt : j < e
    · go_wp2
      go_round
      case rel => exact ⟨j + 1, by omega, by go_num, rfl⟩
      case measure => simp [intOf]; omega
    · have hj2 := hid (show j = e by omega)
      go_wp2
      go_ret
      exact ⟨ret_int (by rw [hj2.out]), rfl⟩

/-- The bound on the digits that number reads. -/
def lm (len : Nat) (most : Int) : Nat := if most < 0 then 0 else if most < len then most.toNat else len

theorem lm_lt (len : Nat) (most : Int) (k : Nat) : k < lm len most ↔ (k : Int) < most ∧ k < len := by
  unfold lm
  split
  · omega
  · split
    · omega
    · omega

set_option maxHeartbeats 1000000 in
theorem num15 (s : ByteArray) (b most : Int) (f : Nat → Int) (w : World) (hs : s.size ≤ 1048576) (hb1 : 1 ≤ b) (hb2 : b ≤ 16) (hm1 : -9223372036854775808 ≤ most) (hm2 : most ≤ 9223372036854775807)
    (hf : ∀ j (h : j < s.size), (s[j].toNat : Int) = f j) :
    Calls Try.prog 15 #[.string s, .int .i64 b, .int .i64 most] w fun e w' => e = .returned (.tuple #[.int .i64 (nv f b (pre f b (lm s.size most))), .int .i64 (pre f b (lm s.size most))]) ∧ w' = w := by
  have HF := hid hf
  have HL := hid (lm_lt s.size most)
  have HU := hid (pre_uniq f b (lm s.size most))
  generalize lm s.size most = L at *
  generalize pre f b L = D at *
  clear hf
  go_enter Try.func15, Try.ntmps15
  go_wp2
  go_loop [6, 7] (fun n i => ∃ k : Nat, k ≤ L ∧ k ≤ 1048576 ∧ i = .int .i64 k ∧ n = .int .i64 (nv f b k) ∧ Hid (∀ j, j < k → dg (f j) < b)) (fun _ i => L - (intOf i).toNat)
  case atStart => exact ⟨0, Nat.zero_le _, Nat.zero_le _, rfl, rfl, fun j hj => absurd hj (Nat.not_lt_zero _)⟩
  case round =>
    obtain ⟨k, hk, hk2, rfl, rfl, hall⟩ := hrel
    by_cases hlt : k < L
    · have h1 := (HL.out k).1 hlt
      have h2 := h1.1
      have h3 : k < s.size := h1.2
      have e1 := HF.out k h3
      have b1 : 0 ≤ f k ∧ f k ≤ 255 := by rw [← e1]; have := UInt8.toNat_lt s[k]; omega
      have db := dg_bd (f k)
      clear h1
      by_cases hd : dg (f k) < b
      · go_wp2_with (go_at_call 17; refine (digit17 _ _ b1.1 b1.2).mono ?_; rintro e w' ⟨rfl, rfl⟩)
        go_round
        case rel =>
          refine ⟨k + 1, by omega, by omega, by go_num, rfl, fun j hj => ?_⟩
          by_cases e : j = k
          · rw [e]; exact hd
          · exact hall.out j (by omega)
        case measure => simp [intOf]; omega
      · have hD := hid (HU.out k hk hall.out (fun _ => by omega))
        go_wp2_with (go_at_call 17; refine (digit17 _ _ b1.1 b1.2).mono ?_; rintro e w' ⟨rfl, rfl⟩)
        go_ret2
        have e2 := hD.out
        subst e2
        exact ⟨rfl, rfl⟩
    · have h1 : ¬ ((k : Int) < most ∧ k < s.size) := fun h => hlt ((HL.out k).2 h)
      have hD := hid (HU.out k hk hall.out (fun h => absurd h hlt))
      by_cases h2 : (k : Int) < most
      · have h3 : ¬ k < s.size := fun h => h1 ⟨h2, h⟩
        clear h1 hlt
        go_wp2
        go_ret2
        have e2 := hD.out
        subst e2
        exact ⟨rfl, rfl⟩
      · clear h1 hlt
        go_wp2
        go_ret2
        have e2 := hD.out
        subst e2
        exact ⟨rfl, rfl⟩

set_option maxHeartbeats 400000 in
theorem num7 (s : ByteArray) (b most : Int) (f : Nat → Int) (w : World) (hs : s.size ≤ 1048576) (hb1 : 1 ≤ b) (hb2 : b ≤ 16) (hm1 : -9223372036854775808 ≤ most) (hm2 : most ≤ 9223372036854775807)
    (hf : ∀ j (h : j < s.size), (s[j].toNat : Int) = f j) (L : Nat) (hL : lm s.size most = L) :
    Calls Try.prog 7 #[.string s, .int .i64 b, .int .i64 most] w fun e w' => e = .returned (.tuple #[.int .i64 (nv f b (pre f b L)), .int .i64 (pre f b L)]) ∧ w' = w := by
  have H := hid (num15 s b most f w hs hb1 hb2 hm1 hm2 hf)
  rw [hL] at H
  generalize pre f b L = D at *
  generalize nv f b D = V at *
  clear hf hL
  go_enter Try.func7, Try.ntmps7
  go_wp2_with fail
  refine H.out.mono ?_
  rintro e w' ⟨rfl, rfl⟩
  go_wp2
  go_ret2
  exact ⟨rfl, rfl⟩
end Go.Proofs.Qxb6617320a.Parts
