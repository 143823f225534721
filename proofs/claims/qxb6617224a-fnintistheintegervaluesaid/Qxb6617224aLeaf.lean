import Derived.Test.Qxb6617224aRows
import Derived.Test.Qxb6617224aPlain
import Derived.Test.Qxb6617224aCopy
import Derived.WalkKit
import Derived.WalkSpells
import Derived.WalkLawsBesides
import Derived.ProofKit
import Derived.Deep.OwnRows
import Derived.Deep.Light
namespace Go.Proofs.Qxb6617224a.Parts
open Go.RowKit

set_option maxHeartbeats 400000 in
theorem digit13 (c : Int) (w : World) (h0 : 0 ≤ c) (h1 : c ≤ 255) :
    Calls Try.prog 13 #[.int .u8 c] w fun e w' => e = .returned (.bool (isD c)) ∧ w' = w := by
  have hD := hid (show isD c = (decide (48 ≤ c) && decide (c ≤ 57)) from rfl)
  by_cases h2 : 48 ≤ c
  · by_cases h3 : c ≤ 57
    · go_enter Try.func13, Try.ntmps13
      go_wp2
      go_ret
      exact ⟨ret_bool (by rw [hD.out]; simp [h2, h3]), rfl⟩
    · go_enter Try.func13, Try.ntmps13
      go_wp2
      go_ret
      exact ⟨ret_bool (by rw [hD.out]; simp [h2, h3]), rfl⟩
  · go_enter Try.func13, Try.ntmps13
    go_wp2
    go_ret
    exact ⟨ret_bool (by rw [hD.out]; simp; omega), rfl⟩

set_option maxHeartbeats 400000 in
theorem pow8 (k : Nat) (w : World) (h : k ≤ 18) :
    Calls Try.prog 8 #[.int .i64 k] w fun e w' => e = .returned (.int .i64 (p10 k)) ∧ w' = w := by
  go_enter Try.func8, Try.ntmps8
  go_wp2
  go_loop [3, 4] (fun p i => ∃ j : Nat, j ≤ k ∧ i = .int .i64 j ∧ p = .int .i64 (p10 j)) (fun _ i => k - (intOf i).toNat)
  case atStart => exact ⟨0, Nat.zero_le _, rfl, rfl⟩
  case round =>
    obtain ⟨j, hj, rfl, rfl⟩ := hrel
    by_cases hlt : j < k
    · have b1 := p10_pos j
      have b2 := p10_max (k := j + 1) (by omega)
      have b3 : p10 (j + 1) = p10 j * 10 := rfl
      have HB := hid b3
      have b4 : p10 j ≤ 100000000000000000 := by omega
      clear b2 b3
      go_wp2
      go_round
      case rel => exact ⟨j + 1, by omega, by go_num, by rw [HB.out]⟩
      case measure => simp [intOf]; omega
    · have hj2 := hid (show j = k by omega)
      go_wp2
      go_ret
      exact ⟨ret_int (by rw [hj2.out]), rfl⟩

set_option maxHeartbeats 400000 in
theorem bytes5 (s0 s1 : Option Addr) (l0 c0 l1 c1 : Nat) (w : World) (h0 : l0 ≤ maxLen) (h1 : l1 ≤ maxLen) :
    Calls Try.prog 5 #[.slice s0 l0 c0, .slice s1 l1 c1] w fun e w' => e = .returned (.bool (decide (l0 + l1 ≤ 1048576))) ∧ w' = w := by
  unfold maxLen at h0 h1
  go_enter Try.func5, Try.ntmps5
  go_wp2
  all_goals
    go_ret
    exact ⟨ret_bool (by simp; omega), rfl⟩

set_option maxHeartbeats 400000 in
theorem digits6 (b o len cap : Nat) (f : Nat → Int) (w : World) (hlen : len ≤ 1048576) (hc : ∀ j, j < len → w.cell? ⟨b, o + j, none⟩ = some (.int .u8 (f j))) (hb : ∀ j, j < len → 0 ≤ f j ∧ f j ≤ 255) :
    Calls Try.prog 6 #[.slice (some ⟨b, o, none⟩) len cap] w fun e w' => e = .returned (.bool (allD f len)) ∧ w' = w := by
  have HC := hid hc
  have HB := hid hb
  clear hc hb
  generalize hA : allD f len = A
  have HA := hid hA
  clear hA
  go_enter Try.func6, Try.ntmps6
  go_wp2
  go_loop [2, 3] (fun r i => r = .bool false ∧ ∃ k : Nat, k ≤ len ∧ i = .int .i64 k ∧ Hid (∀ j, j < k → isD (f j) = true)) (fun _ i => len - (intOf i).toNat)
  case atStart => exact ⟨rfl, 0, Nat.zero_le _, rfl, fun j hj => absurd hj (Nat.not_lt_zero _)⟩
  case round =>
    obtain ⟨rfl, k, hk, rfl, hall⟩ := hrel
    by_cases hlt : k < len
    · have c1 := HC.out k hlt
      have b1 := HB.out k hlt
      cases hD : isD (f k) with
      | true =>
        go_wp2_with (go_at_call 13; refine (digit13 _ _ b1.1 b1.2).mono ?_; rintro e w' ⟨rfl, rfl⟩)
        go_round
        case rel =>
          refine ⟨rfl, k + 1, by omega, by go_num, fun j hj => ?_⟩
          by_cases e : j = k
          · rw [e]; exact hD
          · exact hall.out j (by omega)
        case measure => simp [intOf]; omega
      | false =>
        have hno := hid (allD_no f len k hlt hD)
        go_wp2_with (go_at_call 13; refine (digit13 _ _ b1.1 b1.2).mono ?_; rintro e w' ⟨rfl, rfl⟩)
        go_ret
        exact ⟨ret_bool (by rw [← HA.out, hno.out]), rfl⟩
    · have hy := hid ((allD_iff f len).2 (fun j hj => hall.out j (by omega)))
      go_wp2
      go_ret
      exact ⟨ret_bool (by rw [← HA.out, hy.out]), rfl⟩

/-- ParseInt at a text of digits, one at least, eighteen at most. -/
theorem d0 (f : Nat → Int) (len : Nat) (h : ∀ j, j < len → isD (f j) = true) (h1 : 1 ≤ len) : 48 ≤ f 0 := ((isD_iff _).1 (h 0 (by omega))).1

set_option maxHeartbeats 1000000 in
theorem parse7 (b o len cap : Nat) (f : Nat → Int) (w : World) (h1 : 1 ≤ len) (hlen : len ≤ 18) (hc : ∀ j, j < len → w.cell? ⟨b, o + j, none⟩ = some (.int .u8 (f j))) (hd : ∀ j, j < len → isD (f j) = true) :
    Calls Try.prog 7 #[.slice (some ⟨b, o, none⟩) len cap] w fun e w' => e = .returned (.tuple #[.int .i64 (val f len), .bool true]) ∧ w' = w := by
  have c0 := hc 0 (by omega)
  rw [Nat.add_zero] at c0
  have g0 := (isD_iff _).1 (hd 0 (by omega))
  have ne : (f 0 == 45) = false := by simp; omega
  have l0 : (0 : Int) < (len : Int) := by omega
  have l1 : ((len : Int) == 0) = false := by simp; omega
  have HC := hid hc
  have HD := hid hd
  clear hc hd
  generalize hV : val f len = V
  have HV := hid hV
  clear hV
  go_enter Try.func7, Try.ntmps7
  go_wp2
  go_loop [2, 3, 5, 7, 30] (fun v2 v3 n _ i => v2 = .int .i64 0 ∧ v3 = .bool false ∧ ∃ k : Nat, k ≤ len ∧ i = .int .i64 k ∧ n = .int .i64 (val f k)) (fun _ _ _ _ i => len - (intOf i).toNat)
  case atStart => exact ⟨rfl, rfl, 0, Nat.zero_le _, rfl, rfl⟩
  case round =>
    obtain ⟨rfl, rfl, k, hk, rfl, rfl⟩ := hrel
    by_cases hlt : k < len
    · have c1 := HC.out k hlt
      have g1 := (isD_iff _).1 (HD.out k hlt)
      have b1 := val_max f k (by omega) (fun j hj => HD.out j (by omega))
      have b2 := val_max f (k + 1) (by omega) (fun j hj => HD.out j (by omega))
      have b3 : val f (k + 1) = val f k * 10 + (f k - 48) := rfl
      have HB := hid b3
      have b4 : val f k ≤ 100000000000000000 := by omega
      clear b2 b3
      go_wp2
      go_round
      case rel => exact ⟨rfl, rfl, k + 1, by omega, by go_num, by rw [HB.out]⟩
      case measure => simp [intOf]; omega
    · have hj2 := hid (show k = len by omega)
      go_wp2
      go_ret2
      exact ⟨by rw [← HV.out, ← hj2.out]; rfl, rfl⟩

set_option maxHeartbeats 1000000 in
/-- ParseInt at a text of digits, nineteen at least. -/
theorem parse7_long (b o len cap : Nat) (f : Nat → Int) (w : World) (hlen : 18 < len) (hc : ∀ j, j < len → w.cell? ⟨b, o + j, none⟩ = some (.int .u8 (f j))) (hd : ∀ j, j < len → isD (f j) = true) :
    Calls Try.prog 7 #[.slice (some ⟨b, o, none⟩) len cap] w fun e w' => e = .returned (.tuple #[.int .i64 0, .bool false]) ∧ w' = w := by
  have c0 := hc 0 (by omega)
  rw [Nat.add_zero] at c0
  have g0 := (isD_iff _).1 (hd 0 (by omega))
  have ne : (f 0 == 45) = false := by simp; omega
  have l0 : (0 : Int) < (len : Int) := by omega
  have l1 : ((len : Int) == 0) = false := by simp; omega
  have l2 : (18 : Int) < (len : Int) := by omega
  clear hc hd
  go_enter Try.func7, Try.ntmps7
  go_wp2
  go_ret2
  exact ⟨rfl, rfl⟩

/-- Both in one. -/
def pv (f : Nat → Int) (len : Nat) : Int := if len ≤ 18 then val f len else 0

theorem parse7_any (b o len cap : Nat) (f : Nat → Int) (w : World) (h1 : 1 ≤ len) (hc : ∀ j, j < len → w.cell? ⟨b, o + j, none⟩ = some (.int .u8 (f j))) (hd : ∀ j, j < len → isD (f j) = true) :
    Calls Try.prog 7 #[.slice (some ⟨b, o, none⟩) len cap] w fun e w' => e = .returned (.tuple #[.int .i64 (pv f len), .bool (decide (len ≤ 18))]) ∧ w' = w := by
  by_cases h : len ≤ 18
  · have e1 : pv f len = val f len := by unfold pv; rw [if_pos h]
    have e2 : decide (len ≤ 18) = true := by simpa using h
    rw [e1, e2]
    exact parse7 b o len cap f w h1 h hc hd
  · have e1 : pv f len = 0 := by unfold pv; rw [if_neg h]
    have e2 : decide (len ≤ 18) = false := by simpa using h
    rw [e1, e2]
    exact parse7_long b o len cap f w (by omega) hc hd
end Go.Proofs.Qxb6617224a.Parts
