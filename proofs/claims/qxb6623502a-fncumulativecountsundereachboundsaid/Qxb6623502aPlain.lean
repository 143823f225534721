import Derived.Below
import Derived.Deep.Quiet
import Derived.Deep.OwnRows
import Derived.IntWalk
namespace Go.Proofs.Qxb6623502a.Parts
open Go.RowKit

/-- The least delay above those of bucket i. -/
def bend (i : Nat) : Nat := if i < 128 then i + 1 else (i % 64 + 65) * 2 ^ (i / 64 - 1)

/-- How many buckets lie wholly under v. -/
def blw (v : Int) : Nat :=
  if v < 128 then v.toNat
  else if 37 ≤ Nat.log2 v.toNat then 2048
  else 64 * (Nat.log2 v.toNat - 5) + v.toNat / 2 ^ (Nat.log2 v.toNat - 6) - 64

/-- The wrapping sum of the first j numbers. -/
def psum (X : Nat → Int) : Nat → Int
  | 0 => 0
  | j + 1 => wrap64 (psum X j + X j)

theorem bend_lo (i : Nat) (h : i < 128) : bend i = i + 1 := by unfold bend; rw [if_pos h]

theorem bend_hi (i : Nat) (h : ¬ i < 128) : bend i = (i % 64 + 65) * 2 ^ (i / 64 - 1) := by unfold bend; rw [if_neg h]

theorem pow_le {a b : Nat} (h : a ≤ b) : 2 ^ a ≤ 2 ^ b := Nat.pow_le_pow_right (by omega) h

theorem bend_max (i : Nat) (h : i < 2048) : bend i ≤ 137438953472 := by
  by_cases hl : i < 128
  · rw [bend_lo i hl]; omega
  · rw [bend_hi i hl]
    have h1 : 2 ^ (i / 64 - 1) ≤ 2 ^ 30 := pow_le (by omega)
    have h2 := Nat.mul_le_mul (show i % 64 + 65 ≤ 128 by omega) h1
    have h3 : 128 * 2 ^ 30 = 137438953472 := by decide
    omega

theorem log_bounds (n : Nat) (h : 128 ≤ n) : 7 ≤ Nat.log2 n ∧ 2 ^ Nat.log2 n ≤ n ∧ n < 2 ^ (Nat.log2 n + 1) := by
  have h0 : n ≠ 0 := by omega
  refine ⟨(Nat.le_log2 h0).2 (by omega), Nat.log2_self_le h0, Nat.lt_log2_self⟩

theorem log_unique (n k : Nat) (h1 : 2 ^ k ≤ n) (h2 : n < 2 ^ (k + 1)) : Nat.log2 n = k := by
  have h0 : n ≠ 0 := by have := Nat.one_le_two_pow (n := k); omega
  have a : k ≤ Nat.log2 n := (Nat.le_log2 h0).2 h1
  have b : Nat.log2 n < k + 1 := (Nat.log2_lt h0).2 h2
  omega

theorem pow_split (k : Nat) (h : 6 ≤ k) : 2 ^ k = 64 * 2 ^ (k - 6) := by
  have : k = (k - 6) + 6 := by omega
  rw [this, Nat.pow_add]
  simp only [Nat.add_sub_cancel]
  omega

theorem shift_bounds (n k : Nat) (hk : 6 ≤ k) (h1 : 2 ^ k ≤ n) (h2 : n < 2 ^ (k + 1)) : 64 ≤ n / 2 ^ (k - 6) ∧ n / 2 ^ (k - 6) < 128 := by
  have hp := pow_split k hk
  have hq : 0 < 2 ^ (k - 6) := Nat.two_pow_pos _
  have h3 : 2 ^ (k + 1) = 2 ^ k * 2 := Nat.pow_succ ..
  constructor
  · rw [Nat.le_div_iff_mul_le hq]; omega
  · rw [Nat.div_lt_iff_lt_mul hq]; omega

theorem blw_le (v : Int) : blw v ≤ 2048 := by
  unfold blw
  split
  · omega
  · split
    · omega
    · have hb := log_bounds v.toNat (by omega)
      have hs := shift_bounds v.toNat (Nat.log2 v.toNat) (by omega) hb.2.1 hb.2.2
      omega

theorem blw_law (v : Int) (h0 : 0 ≤ v) (i : Nat) (hi : i < 2048) : (bend i : Int) ≤ v ↔ i < blw v := by
  have ev : (bend i : Int) ≤ v ↔ bend i ≤ v.toNat := by omega
  rw [ev]
  unfold blw
  by_cases hv : v < 128
  · rw [if_pos hv]
    by_cases hl : i < 128
    · rw [bend_lo i hl]; omega
    · rw [bend_hi i hl]
      have h1 : 2 ^ 1 ≤ 2 ^ (i / 64 - 1) := pow_le (by omega)
      have h2 := Nat.mul_le_mul (show 65 ≤ i % 64 + 65 by omega) h1
      omega
  · rw [if_neg hv]
    generalize hn : v.toNat = n at *
    have hn128 : 128 ≤ n := by omega
    obtain ⟨k7, kl, kh⟩ := log_bounds n hn128
    generalize Nat.log2 n = k at *
    by_cases h37 : 37 ≤ k
    · rw [if_pos h37]
      have h1 : 2 ^ 37 ≤ 2 ^ k := pow_le h37
      have h2 := bend_max i hi
      have h3 : 2 ^ 37 = 137438953472 := by decide
      omega
    · rw [if_neg h37]
      have hs := shift_bounds n k (by omega) kl kh
      by_cases hl : i < 128
      · rw [bend_lo i hl]; omega
      · rw [bend_hi i hl]
        have hp := pow_split k (by omega)
        have hk1 : 2 ^ (k + 1) = 2 ^ k * 2 := Nat.pow_succ ..
        rcases Nat.lt_trichotomy (i / 64 - 1) (k - 6) with ht | ht | ht
        · have h1 : 2 ^ (i / 64 - 1 + 1) ≤ 2 ^ (k - 6) := pow_le (by omega)
          rw [Nat.pow_succ] at h1
          have h2 := Nat.mul_le_mul_right (2 ^ (i / 64 - 1)) (show i % 64 + 65 ≤ 128 by omega)
          omega
        · rw [ht, ← Nat.le_div_iff_mul_le (Nat.two_pow_pos _)]
          omega
        · have h1 : 2 ^ (k - 6 + 1) ≤ 2 ^ (i / 64 - 1) := pow_le (by omega)
          rw [Nat.pow_succ] at h1
          have h2 := Nat.mul_le_mul (show 65 ≤ i % 64 + 65 by omega) h1
          omega

end Go.Proofs.Qxb6623502a.Parts
