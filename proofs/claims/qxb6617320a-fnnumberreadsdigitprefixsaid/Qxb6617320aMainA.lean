import Derived.Test.Qxb6617320aMain
namespace Go.Proofs.Qxb6617320a.Parts
open Go.RowKit
set_option linter.unusedVariables false

theorem zero7 (s : ByteArray) (b m : Int) (w : World) (hs : s.size ≤ 1048576) (hb1 : 1 ≤ b) (hb2 : b ≤ 16) (hm1 : -9223372036854775808 ≤ m) (hm : m ≤ 0) :
    Calls Try.prog 7 #[.string s, .int .i64 b, .int .i64 m] w fun e w' => e = .returned (.tuple #[.int .i64 0, .int .i64 0]) ∧ w' = w := by
  have hl : lm s.size m = 0 := by
    by_cases h : m < 0
    · exact lm_neg s.size m h
    · have e : m = ((0 : Nat) : Int) := by omega
      rw [e]
      exact lm_in s.size 0 (Nat.zero_le _)
  exact num7 s b m (bf s) w hs hb1 hb2 hm1 (by omega) (bf_at s) 0 hl

set_option maxRecDepth 100000 in
set_option maxHeartbeats 4000000 in
theorem law_A (s : ByteArray) (b : Int) (m : Int) (c : Nat) (w : World) (h0 : s.size ≤ maxLen) (hs : s.size ≤ 1048576) (hb1 : 1 ≤ b) (hb2 : b ≤ 16) (hm1 : -9223372036854775808 ≤ m) (hm : m < 0) (hc : c ≤ s.size) :
    Calls Try.prog 3 #[.string s, .int .i64 b, .int .i64 m, .int .i64 (c : Int)] w fun e w' => e = .returned (.bool true) ∧ Grown w w' := by
  have hdd : decide (s.size ≤ 1048576) = true := by simpa using hs
  have y1 : m < (s.size : Int) := by omega
  have y2 : m < (c : Int) := by omega
  have P9 := hid (fun w => pow9 b 0 w (by omega))
  go_enter Try.func3, Try.ntmps3
  go_wp2_with fail
  refine (bytes6 s b _ _ _ h0).mono ?_
  rintro e w1 ⟨rfl, rfl⟩
  go_wp2_with fail
  refine (zero7 s b m _ hs hb1 hb2 hm1 (by omega)).mono ?_
  rintro e w1 ⟨rfl, rfl⟩
  go_wp2_with fail
  go_loop [8, 12] (fun v8 i => v8 = .bool false ∧ i = .int .i64 0) (fun _ _ => 0)
  case atStart => exact ⟨rfl, rfl⟩
  case round =>
    obtain ⟨rfl, rfl⟩ := hrel
    go_wp2_with fail
    refine (zero7 s b 0 _ hs hb1 hb2 (by omega) (by omega)).mono ?_
    rintro e w2 ⟨rfl, rfl⟩
    go_wp2_with fail
    refine (zero7 s b m _ hs hb1 hb2 hm1 (by omega)).mono ?_
    rintro e w2 ⟨rfl, rfl⟩
    go_wp2_with fail
    refine (P9.out _).mono ?_
    rintro e w2 ⟨rfl, rfl⟩
    go_wp2
    go_ret
    exact ⟨rfl, Grown.refl _⟩
end Go.Proofs.Qxb6617320a.Parts
