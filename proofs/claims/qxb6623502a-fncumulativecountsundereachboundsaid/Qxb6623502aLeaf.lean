import Derived.Test.Qxb6623502aRows
import Derived.Test.Qxb6623502aPlain
import Derived.WalkKit
import Derived.WalkSpells
import Derived.WalkLawsBesides
import Derived.ProofKit
import Derived.Deep.OwnRows
import Derived.Deep.QuietTactic
import Derived.BigQuiet
import Derived.Deep.Light
import Derived.Laws.LoneSync
namespace Go.Proofs.Qxb6623502a.Parts
open Go.RowKit

set_option maxHeartbeats 400000 in
theorem store8 (b o : Nat) (v : Int) (old : Value) (w : World) (hc : w.cell? ⟨b, o, none⟩ = some old) (hf : w.frozen? ⟨b, o, none⟩ = false) :
    Calls Try.prog 8 #[.pointer (some ⟨b, o, none⟩), .int .i64 v] w fun e w' => e = .returned (.tuple #[]) ∧ w' = w.setCell ⟨b, o, none⟩ (.int .i64 v) := by
  have hst := run_call_store (P := Try.prog) Try.func10 (by kernel_rfl) (by kernel_rfl) (by kernel_rfl) (by kernel_rfl) (k := .i64) (y := v) hc hf
  go_enter Try.func8, Try.ntmps8
  go_wp2
  go_end0
  exact ⟨rfl, rfl⟩

set_option maxHeartbeats 400000 in
theorem load12 (b o : Nat) (v : Int) (w : World) (hc : w.cell? ⟨b, o, none⟩ = some (.int .i64 v)) :
    Calls Try.prog 12 #[.pointer (some ⟨b, o, none⟩)] w fun e w' => e = .returned (.int .i64 v) ∧ w' = w := by
  have hl := run_call_load (P := Try.prog) Try.func13 (by kernel_rfl) (by kernel_rfl) (by kernel_rfl) .i64 (by kernel_rfl) hc
  go_enter Try.func12, Try.ntmps12
  go_wp2
  go_ret
  exact ⟨rfl, rfl⟩

set_option maxHeartbeats 400000 in
theorem end11_lo (i : Int) (w : World) (h0 : 0 ≤ i) (hi : i < 128) :
    Calls Try.prog 11 #[.int .i64 i] w fun e w' => e = .returned (.int .u64 (i + 1)) ∧ w' = w := by
  go_enter Try.func11, Try.ntmps11
  go_wp2
  go_ret
  exact ⟨rfl, rfl⟩

set_option maxHeartbeats 400000 in
theorem end11_hi (i : Int) (w : World) (h0 : 128 ≤ i) (hi : i < 2048) :
    Calls Try.prog 11 #[.int .i64 i] w fun e w' => e = .returned (.int .u64 (IntKind.u64.wrap ((i % 64 + 64 + 1) * 2 ^ ((i / 64).toNat - 1)))) ∧ w' = w := by
  go_enter Try.func11, Try.ntmps11
  go_wp2
  go_ret
  exact ⟨rfl, rfl⟩

theorem end_raw (i : Nat) (h0 : ¬ i < 128) (hi : i < 2048) : IntKind.u64.wrap (((i : Int) % 64 + 64 + 1) * 2 ^ (((i : Int) / 64).toNat - 1)) = (bend i : Int) := by
  have hm := bend_max i hi
  have hb := bend_hi i h0
  have e1 : ((i : Int) / 64).toNat - 1 = i / 64 - 1 := by omega
  have e2 : ((i : Int) % 64 + 64 + 1) = ((i % 64 + 65 : Nat) : Int) := by omega
  have e3 : (2 : Int) ^ (i / 64 - 1) = ((2 ^ (i / 64 - 1) : Nat) : Int) := by simp
  rw [e1, e2, e3, ← Int.natCast_mul, ← hb, IntKind.wrap_u64]
  omega

theorem end11 (i : Nat) (w : World) (hi : i < 2048) :
    Calls Try.prog 11 #[.int .i64 i] w fun e w' => e = .returned (.int .u64 (bend i)) ∧ w' = w := by
  by_cases h : i < 128
  · have := end11_lo (i : Int) w (by omega) (by omega)
    rw [bend_lo i h]
    exact this
  · have := end11_hi (i : Int) w (by omega) (by omega)
    rw [end_raw i h hi] at this
    exact this

set_option maxHeartbeats 400000 in
theorem below7_lo (v : Int) (w : World) (h0 : 0 ≤ v) (h1 : v < 128) :
    Calls Try.prog 7 #[.int .u64 v] w fun e w' => e = .returned (.int .i64 v) ∧ w' = w := by
  go_enter Try.func7, Try.ntmps7
  go_wp2
  go_ret
  exact ⟨rfl, rfl⟩

theorem pow_pos' (k : Nat) : (0 : Int) < 2 ^ k := by
  have : (2 : Int) ^ k = ((2 ^ k : Nat) : Int) := by simp
  rw [this]
  have := Nat.two_pow_pos k
  omega

theorem half_step (v : Int) (k : Nat) : v / 2 ^ k / 2 = v / 2 ^ (k + 1) := by
  rw [Int.pow_succ, Int.ediv_ediv_of_nonneg (Int.le_of_lt (pow_pos' k))]

theorem pow_cast (k : Nat) : (2 : Int) ^ k = ((2 ^ k : Nat) : Int) := by simp

theorem one_iff (v : Int) (k : Nat) (h0 : 0 ≤ v) (h1 : v / 2 ^ k = 1) : 2 ^ k ≤ v.toNat ∧ v.toNat < 2 ^ (k + 1) := by
  have hp := Nat.two_pow_pos k
  rw [pow_cast] at h1
  have e : v = (v.toNat : Int) := by omega
  rw [e, ← Int.natCast_ediv] at h1
  have h2 : v.toNat / 2 ^ k = 1 := by omega
  rw [Nat.pow_succ]
  have h3 := Nat.div_add_mod v.toNat (2 ^ k)
  have h4 := Nat.mod_lt v.toNat hp
  rw [h2] at h3
  omega

theorem ge_one_k (v : Int) (k : Nat) (h0 : 0 ≤ v) (hm : v ≤ 18446744073709551615) (h : 1 ≤ v / 2 ^ k) : k ≤ 63 := by
  rw [pow_cast] at h
  have e : v = (v.toNat : Int) := by omega
  rw [e, ← Int.natCast_ediv] at h
  have hp := Nat.two_pow_pos k
  have h2 : 1 ≤ v.toNat / 2 ^ k := by omega
  rw [Nat.le_div_iff_mul_le hp] at h2
  by_cases hk : k ≤ 63
  · exact hk
  · have h3 : 2 ^ 64 ≤ 2 ^ k := pow_le (by omega)
    have h4 : 2 ^ 64 = 18446744073709551616 := by decide
    omega

theorem low_raw (v : Int) (k : Nat) (h0 : 0 ≤ v) (k7 : 7 ≤ k) (h37 : k < 37) (h1 : 2 ^ k ≤ v.toNat) (h2 : v.toNat < 2 ^ (k + 1)) :
    wrap64 (wrap64 (64 * ((k : Int) - 5) + wrap64 (v / 2 ^ (k - 6))) - 64) = ((64 * (k - 5) + v.toNat / 2 ^ (k - 6) - 64 : Nat) : Int) := by
  have hs := shift_bounds v.toNat k (by omega) h1 h2
  have e : v / 2 ^ (k - 6) = ((v.toNat / 2 ^ (k - 6) : Nat) : Int) := by
    rw [pow_cast, Int.natCast_ediv]
    congr 1
    omega
  rw [e]
  generalize v.toNat / 2 ^ (k - 6) = y at *
  unfold wrap64
  omega

theorem blw_hi (v : Int) (k : Nat) (h128 : 128 ≤ v) (h37 : 37 ≤ k) (h1 : 2 ^ k ≤ v.toNat) (h2 : v.toNat < 2 ^ (k + 1)) : blw v = 2048 := by
  unfold blw
  rw [log_unique _ k h1 h2, if_neg (by omega), if_pos h37]

theorem blw_mid (v : Int) (k : Nat) (h128 : 128 ≤ v) (h37 : k < 37) (h1 : 2 ^ k ≤ v.toNat) (h2 : v.toNat < 2 ^ (k + 1)) : blw v = 64 * (k - 5) + v.toNat / 2 ^ (k - 6) - 64 := by
  unfold blw
  rw [log_unique _ k h1 h2, if_neg (by omega), if_neg (by omega)]

theorem k_ge7 (v : Int) (k : Nat) (h128 : 128 ≤ v) (h2 : v.toNat < 2 ^ (k + 1)) : 7 ≤ k := by
  by_cases h : 7 ≤ k
  · exact h
  · have h3 : 2 ^ (k + 1) ≤ 2 ^ 7 := pow_le (by omega)
    omega

theorem ret_int {k : IntKind} {a b : Int} (h : a = b) : Ending.returned (.int k a) = .returned (.int k b) := by rw [h]

set_option maxHeartbeats 400000 in
theorem below7_hi (v : Int) (w : World) (h0 : 128 ≤ v) (h1 : v ≤ 18446744073709551615):
    Calls Try.prog 7 #[.int .u64 v] w fun e w' => e = .returned (.int .i64 (blw v)) ∧ w' = w := by
  generalize hB : blw v = B
  have HB : Hid (blw v = B) := hB
  clear hB
  go_enter Try.func7, Try.ntmps7
  go_wp2
  go_loop [3, 4] (fun e x => ∃ k : Nat, k ≤ 63 ∧ e = .int .i64 k ∧ ∃ y : Int, x = .int .u64 y ∧ 1 ≤ y ∧ y ≤ 18446744073709551615 ∧ Hid (v / 2 ^ k = y)) (fun _ x => (intOf x).toNat)
  case atStart => exact ⟨0, by omega, rfl, v, rfl, by omega, by omega, by simp [Hid]⟩
  case round =>
    obtain ⟨k, hk, rfl, x, rfl, h2, h3, hx0⟩ := hrel
    by_cases hx : 1 < x
    · go_wp2
      go_round
      case rel =>
        have hy : v / 2 ^ (k + 1) = x / 2 := by rw [← half_step, hx0.out]
        have hk1 : k + 1 ≤ 63 := ge_one_k v (k + 1) (by omega) h1 (by rw [hy]; omega)
        exact ⟨k + 1, hk1, by go_num, x / 2, rfl, by omega, by omega, hy⟩
      case measure => simp [intOf]; omega
    · have hx1 : Hid (2 ^ k ≤ v.toNat ∧ v.toNat < 2 ^ (k + 1)) := one_iff v k (by omega) (by rw [hx0.out]; omega)
      have k7n := k_ge7 v k h0 hx1.out.2
      have k7 : (7 : Int) ≤ (k : Int) := by omega
      by_cases h37 : (37 : Int) ≤ (k : Int)
      · go_wp2
        go_ret
        exact ⟨ret_int (by rw [← HB.out, blw_hi v k h0 (by omega) hx1.out.1 hx1.out.2]; rfl), rfl⟩
      · have h37' : (k : Int) < 37 := by omega
        have hv : v < 137438953472 := by
          have h5 : 2 ^ (k + 1) ≤ 2 ^ 37 := pow_le (by omega)
          have h6 : 2 ^ 37 = 137438953472 := by decide
          have := hx1.out.2
          omega
        go_wp2
        go_ret
        exact ⟨ret_int (by rw [← HB.out, blw_mid v k h0 (by omega) hx1.out.1 hx1.out.2]; exact low_raw v k (by omega) k7n (by omega) hx1.out.1 hx1.out.2), rfl⟩

theorem below7 (v : Int) (w : World) (h0 : 0 ≤ v) (h1 : v ≤ 18446744073709551615) :
    Calls Try.prog 7 #[.int .u64 v] w fun e w' => e = .returned (.int .i64 (blw v)) ∧ w' = w := by
  by_cases h : v < 128
  · have e : (blw v : Int) = v := by unfold blw; rw [if_pos h]; omega
    rw [e]
    exact below7_lo v w h0 h
  · exact below7_hi v w (by omega) h1
end Go.Proofs.Qxb6623502a.Parts
