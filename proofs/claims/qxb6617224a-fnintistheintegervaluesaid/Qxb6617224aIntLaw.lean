import Derived.Test.Qxb6617224aInt
namespace Go.Proofs.Qxb6617224a.Parts
open Go.RowKit
set_option linter.unusedVariables false

theorem grown_trans {a b c : World} (h : Grown a b) (k : Grown b c) : Grown a c := by
  obtain ⟨h1, hf, hs⟩ := h
  obtain ⟨k1, kf, ks⟩ := k
  exact ⟨World.keptBut_trans h1 k1, fun x => (kf x).trans (hf x), Nat.le_trans hs ks⟩

set_option maxHeartbeats 400000 in
theorem law_far (a : Int) (s : ByteArray) (b c : Int) (w : World) (h0 : s.size ≤ maxLen) (h : ¬ s.size ≤ 1048576) :
    Calls Try.prog 4 #[.int .i64 a, .string s, .int .i64 b, .int .i64 c] w fun e w' => e = .returned (.bool true) ∧ Grown w w' := by
  have hd : decide (s.size ≤ 1048576) = false := by simpa using h
  go_enter Try.func4, Try.ntmps4
  go_wp2_with fail
  refine (bytes9 a s b c _ h0).mono ?_
  rintro e w' ⟨rfl, rfl⟩
  go_wp2_with fail
  go_ret
  exact ⟨rfl, Grown.refl _⟩

set_option maxHeartbeats 800000 in
theorem law_sign (a : Int) (s : ByteArray) (b c : Int) (w : World) (h0 : s.size ≤ maxLen) (h : s.size ≤ 1048576) (ha : a < -1 ∨ 1 < a) :
    Calls Try.prog 4 #[.int .i64 a, .string s, .int .i64 b, .int .i64 c] w fun e w' => e = .returned (.bool true) ∧ Grown w w' := by
  have hd : decide (s.size ≤ 1048576) = true := by simpa using h
  by_cases h1 : a < -1
  · clear ha
    go_enter Try.func4, Try.ntmps4
    go_wp2_with fail
    refine (bytes9 a s b c _ h0).mono ?_
    rintro e w' ⟨rfl, rfl⟩
    go_wp2_with fail
    go_ret
    exact ⟨rfl, Grown.refl _⟩
  · have h2 : 1 < a := by omega
    clear ha
    go_enter Try.func4, Try.ntmps4
    go_wp2_with fail
    refine (bytes9 a s b c _ h0).mono ?_
    rintro e w' ⟨rfl, rfl⟩
    go_wp2_with fail
    go_ret
    exact ⟨rfl, Grown.refl _⟩

theorem empty_iff (s : ByteArray) : s.toList.isEmpty = decide (s.size = 0) := by
  rw [Lib.toList_data, Lib.size_eq, Bool.eq_iff_iff, List.isEmpty_iff, decide_eq_true_eq, List.length_eq_zero_iff]

set_option maxHeartbeats 800000 in
theorem law_apart (a : Int) (s : ByteArray) (b c : Int) (w : World) (h0 : s.size ≤ maxLen) (h : s.size ≤ 1048576) (ha : -1 ≤ a) (ha1 : a ≤ 1) (hm : (a = 0 ∧ s.size ≠ 0) ∨ (a ≠ 0 ∧ s.size = 0)) :
    Calls Try.prog 4 #[.int .i64 a, .string s, .int .i64 b, .int .i64 c] w fun e w' => e = .returned (.bool true) ∧ Grown w w' := by
  have hd : decide (s.size ≤ 1048576) = true := by simpa using h
  have he := empty_iff s
  rcases hm with ⟨h1, h2⟩ | ⟨h1, h2⟩
  · have t1 : (a == 0) = true := by simpa using h1
    have t2 : s.toList.isEmpty = false := by rw [he]; simpa using h2
    clear he h1 h2
    go_enter Try.func4, Try.ntmps4
    go_wp2_with fail
    refine (bytes9 a s b c _ h0).mono ?_
    rintro e w' ⟨rfl, rfl⟩
    go_wp2_with fail
    go_ret
    exact ⟨rfl, Grown.refl _⟩
  · have t1 : (a == 0) = false := by simpa using h1
    have t2 : s.toList.isEmpty = true := by rw [he]; simpa using h2
    clear he h1 h2
    go_enter Try.func4, Try.ntmps4
    go_wp2_with fail
    refine (bytes9 a s b c _ h0).mono ?_
    rintro e w' ⟨rfl, rfl⟩
    go_wp2_with fail
    go_ret
    exact ⟨rfl, Grown.refl _⟩

set_option maxHeartbeats 800000 in
theorem law_zero (s : ByteArray) (b c : Int) (w : World) (h0 : s.size ≤ maxLen) (h : s.size = 0) :
    Calls Try.prog 4 #[.int .i64 0, .string s, .int .i64 b, .int .i64 c] w fun e w' => e = .returned (.bool true) ∧ Grown w w' := by
  have hd : decide (s.size ≤ 1048576) = true := by simp; omega
  have t2 : s.toList.isEmpty = true := by rw [empty_iff]; simpa using h
  have hs : s.size ≤ 1048576 := by omega
  have tx := text10 s w hs
  have eA : allD (bf s) s.size = true := by rw [h]; rfl
  rw [eA] at tx
  have TX := hid tx
  clear h tx eA
  go_enter Try.func4, Try.ntmps4
  go_wp2_with fail
  refine (bytes9 0 s b c _ h0).mono ?_
  rintro e w' ⟨rfl, rfl⟩
  go_wp2_with fail
  refine TX.out.mono ?_
  rintro e w' ⟨rfl, rfl⟩
  go_wp2_with fail
  refine (make11 0 s b c _).mono ?_
  rintro e w1 ⟨rfl, hg1⟩
  go_wp2_with fail
  refine (int12_zero s b c _).mono ?_
  rintro e w2 ⟨rfl, hg2⟩
  go_wp2
  go_ret
  exact ⟨rfl, grown_trans hg1 hg2⟩

set_option maxHeartbeats 800000 in
theorem law_nodigit (a : Int) (s : ByteArray) (b c : Int) (w : World) (h0 : s.size ≤ maxLen) (h : s.size ≤ 1048576) (ha : -1 ≤ a) (ha1 : a ≤ 1) (h1 : a ≠ 0) (h2 : s.size ≠ 0) (hA : allD (bf s) s.size = false) :
    Calls Try.prog 4 #[.int .i64 a, .string s, .int .i64 b, .int .i64 c] w fun e w' => e = .returned (.bool true) ∧ Grown w w' := by
  have hd : decide (s.size ≤ 1048576) = true := by simpa using h
  have t1 : (a == 0) = false := by simpa using h1
  have t2 : s.toList.isEmpty = false := by rw [empty_iff]; simpa using h2
  have tx := text10 s w h
  rw [hA] at tx
  have TX := hid tx
  clear h1 h2 tx hA
  go_enter Try.func4, Try.ntmps4
  go_wp2_with fail
  refine (bytes9 a s b c _ h0).mono ?_
  rintro e w' ⟨rfl, rfl⟩
  go_wp2_with fail
  refine TX.out.mono ?_
  rintro e w' ⟨rfl, rfl⟩
  go_wp2_with fail
  go_ret
  exact ⟨rfl, Grown.refl _⟩

set_option maxHeartbeats 800000 in
theorem law_edge (a : Int) (s : ByteArray) (b c : Int) (w : World) (h0 : s.size ≤ maxLen) (h : s.size ≤ 1048576) (ha : -1 ≤ a) (ha1 : a ≤ 1) (h1 : a ≠ 0) (h2 : s.size ≠ 0) (hA : allD (bf s) s.size = true)
    (hz : bf s 0 = 48 ∨ bf s (s.size - 1) = 48) :
    Calls Try.prog 4 #[.int .i64 a, .string s, .int .i64 b, .int .i64 c] w fun e w' => e = .returned (.bool true) ∧ Grown w w' := by
  have hd : decide (s.size ≤ 1048576) = true := by simpa using h
  have t1 : (a == 0) = false := by simpa using h1
  have t2 : s.toList.isEmpty = false := by rw [empty_iff]; simpa using h2
  have tx := text10 s w h
  rw [hA] at tx
  have TX := hid tx
  have p1 : 0 < s.size := by omega
  have e0 := bf_at s 0 p1
  have e1 := bf_at s (s.size - 1) (by omega)
  clear h1 h2 tx hA
  by_cases z0 : bf s 0 = 48
  · have z0' : (bf s 0 == 48) = true := by simpa using z0
    clear hz z0
    go_enter Try.func4, Try.ntmps4
    go_wp2_with fail
    refine (bytes9 a s b c _ h0).mono ?_
    rintro e w' ⟨rfl, rfl⟩
    go_wp2_with fail
    refine TX.out.mono ?_
    rintro e w' ⟨rfl, rfl⟩
    go_wp2_with fail
    go_ret
    exact ⟨rfl, Grown.refl _⟩
  · have z0' : (bf s 0 == 48) = false := by simpa using z0
    have z1' : (bf s (s.size - 1) == 48) = true := by
      rcases hz with hz | hz
      · exact absurd hz z0
      · simpa using hz
    clear hz z0
    go_enter Try.func4, Try.ntmps4
    go_wp2_with fail
    refine (bytes9 a s b c _ h0).mono ?_
    rintro e w' ⟨rfl, rfl⟩
    go_wp2_with fail
    refine TX.out.mono ?_
    rintro e w' ⟨rfl, rfl⟩
    go_wp2_with fail
    go_ret
    exact ⟨rfl, Grown.refl _⟩
end Go.Proofs.Qxb6617224a.Parts
