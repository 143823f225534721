import Derived.Below
import Derived.Deep.Quiet
import Derived.Deep.OwnRows
import Derived.IntWalk
import Derived.Lib.Strings
namespace Go.Proofs.Qxb6617320a.Parts
open Go.RowKit

theorem hid {p : Prop} (h : p) : Hid p := h
theorem ret_bool {a b : Bool} (h : a = b) : Ending.returned (.bool a) = .returned (.bool b) := by rw [h]
theorem ret_int {k : IntKind} {a b : Int} (h : a = b) : Ending.returned (.int k a) = .returned (.int k b) := by rw [h]

/-- The value of a byte as a hex digit; 16 where it is none. -/
def dg (c : Int) : Int :=
  if 48 ≤ c ∧ c ≤ 57 then c - 48 else if 97 ≤ c ∧ c ≤ 102 then c - 87 else if 65 ≤ c ∧ c ≤ 70 then c - 55 else 16

theorem dg_bd (c : Int) : 0 ≤ dg c ∧ dg c ≤ 16 := by
  unfold dg
  repeat' split
  all_goals omega

/-- The two tables of digits. -/
def lo (k : Nat) : Int := if k < 10 then 48 + k else 87 + k
def up (k : Nat) : Int := if k < 10 then 48 + k else 55 + k

theorem dg_hit (c : Int) (k : Nat) (hk : k < 16) (h : lo k = c ∨ up k = c) : dg c = k := by
  unfold lo up at h
  unfold dg
  by_cases e : k < 10
  · rw [if_pos e, if_pos e] at h
    rw [if_pos (by omega)]
    omega
  · rw [if_neg e, if_neg e] at h
    rcases h with h | h
    · rw [if_neg (by omega), if_pos (by omega)]
      omega
    · rw [if_neg (by omega), if_neg (by omega), if_pos (by omega)]
      omega

theorem dg_miss (c : Int) (h : ∀ k, k < 16 → lo k ≠ c ∧ up k ≠ c) : dg c = 16 := by
  unfold dg
  by_cases h1 : 48 ≤ c ∧ c ≤ 57
  · have := (h (c - 48).toNat (by omega)).1
    unfold lo at this
    rw [if_pos (by omega)] at this
    omega
  · rw [if_neg h1]
    by_cases h2 : 97 ≤ c ∧ c ≤ 102
    · have := (h (c - 87).toNat (by omega)).1
      unfold lo at this
      rw [if_neg (by omega)] at this
      omega
    · rw [if_neg h2]
      by_cases h3 : 65 ≤ c ∧ c ≤ 70
      · have := (h (c - 55).toNat (by omega)).2
        unfold up at this
        rw [if_neg (by omega)] at this
        omega
      · rw [if_neg h3]

/-- How many of the first l are digits below b, from the first on. -/
def pre (f : Nat → Int) (b : Int) : Nat → Nat
  | 0 => 0
  | l + 1 => if pre f b l = l ∧ dg (f l) < b then l + 1 else pre f b l

theorem pre_le (f : Nat → Int) (b : Int) (l : Nat) : pre f b l ≤ l := by
  induction l with
  | zero => exact Nat.le_refl _
  | succ l ih => unfold pre; split <;> omega

theorem pre_all (f : Nat → Int) (b : Int) (l : Nat) : ∀ j, j < pre f b l → dg (f j) < b := by
  induction l with
  | zero => intro j hj; exact absurd hj (Nat.not_lt_zero _)
  | succ l ih =>
    intro j hj
    unfold pre at hj
    split at hj
    · rename_i h
      by_cases e : j = l
      · rw [e]; exact h.2
      · exact ih j (by omega)
    · exact ih j hj

theorem pre_stop (f : Nat → Int) (b : Int) (l : Nat) (h : pre f b l < l) : b ≤ dg (f (pre f b l)) := by
  induction l with
  | zero => exact absurd h (Nat.not_lt_zero _)
  | succ l ih =>
    have hle := pre_le f b l
    by_cases e : pre f b l = l ∧ dg (f l) < b
    · have h2 : pre f b (l + 1) = l + 1 := by unfold pre; rw [if_pos e]
      omega
    · have h2 : pre f b (l + 1) = pre f b l := by
        show (if _ then _ else _) = _
        rw [if_neg e]
      rw [h2] at h ⊢
      by_cases e2 : pre f b l = l
      · rw [e2]
        have : ¬ dg (f l) < b := fun h3 => e ⟨e2, h3⟩
        omega
      · exact ih (by omega)

theorem pre_uniq (f : Nat → Int) (b : Int) (l m : Nat) (h1 : m ≤ l) (h2 : ∀ j, j < m → dg (f j) < b) (h3 : m < l → b ≤ dg (f m)) : pre f b l = m := by
  have a1 := pre_le f b l
  have a2 := pre_all f b l
  have a3 := pre_stop f b l
  rcases Nat.lt_trichotomy (pre f b l) m with h | h | h
  · have x1 := a3 (by omega)
    have x2 := h2 _ h
    omega
  · exact h
  · have x1 := a2 m h
    have x2 := h3 (by omega)
    omega

/-- The wrapping value of the first m digits. -/
def nv (f : Nat → Int) (b : Int) : Nat → Int
  | 0 => 0
  | m + 1 => wrap64 (wrap64 (nv f b m * b) + dg (f m))

/-- b to the e, wrapping. -/
def pw (b : Int) : Nat → Int
  | 0 => 1
  | e + 1 => wrap64 (pw b e * b)

theorem wrap_eq (a : Int) : ∃ q : Int, wrap64 a = a + q * 18446744073709551616 := by
  unfold wrap64
  refine ⟨-((a + 9223372036854775808) / 18446744073709551616), ?_⟩
  omega

theorem wrap_mod (a q : Int) : wrap64 (a + q * 18446744073709551616) = wrap64 a := by
  unfold wrap64
  omega

theorem wrap_add (a c : Int) : wrap64 (wrap64 a + c) = wrap64 (a + c) := by
  obtain ⟨q, hq⟩ := wrap_eq a
  rw [hq, show a + q * 18446744073709551616 + c = a + c + q * 18446744073709551616 by omega, wrap_mod]

theorem wrap_mul (a c : Int) : wrap64 (wrap64 a * c) = wrap64 (a * c) := by
  obtain ⟨q, hq⟩ := wrap_eq a
  rw [hq, Int.add_mul, show q * 18446744073709551616 * c = q * c * 18446744073709551616 by rw [Int.mul_assoc, Int.mul_comm 18446744073709551616 c, Int.mul_assoc], wrap_mod]

theorem nv_succ (f : Nat → Int) (b : Int) (m : Nat) : nv f b (m + 1) = wrap64 (nv f b m * b + dg (f m)) := by
  show wrap64 (wrap64 (nv f b m * b) + dg (f m)) = _
  rw [wrap_add]

theorem nv_glue (f : Nat → Int) (b : Int) (k : Nat) : ∀ m, nv f b (k + m) = wrap64 (nv f b k * pw b m + nv (fun j => f (k + j)) b m)
  | 0 => by
    show nv f b k = wrap64 (nv f b k * 1 + 0)
    rw [Int.mul_one, Int.add_zero]
    cases k with
    | zero => show (0 : Int) = wrap64 0; unfold wrap64; omega
    | succ k => rw [nv_succ]; unfold wrap64; omega
  | m + 1 => by
    have ih := nv_glue f b k m
    have e1 : nv f b (k + (m + 1)) = wrap64 (nv f b (k + m) * b + dg (f (k + m))) := nv_succ f b (k + m)
    have e2 := nv_succ (fun j => f (k + j)) b m
    have e3 : pw b (m + 1) = wrap64 (pw b m * b) := rfl
    rw [e1, ih, e2, e3]
    generalize nv f b k = x
    generalize nv (fun j => f (k + j)) b m = y
    generalize pw b m = p
    generalize dg (f (k + m)) = d
    have l1 : wrap64 (wrap64 (x * p + y) * b + d) = wrap64 ((x * p + y) * b + d) := by
      rw [← wrap_add (wrap64 (x * p + y) * b), wrap_mul, wrap_add]
    have l2 : wrap64 (x * wrap64 (p * b) + wrap64 (y * b + d)) = wrap64 (x * (p * b) + (y * b + d)) := by
      rw [Int.mul_comm x, ← wrap_add (wrap64 (p * b) * x), wrap_mul, wrap_add, Int.add_comm, wrap_add, Int.add_comm, Int.mul_comm x]
    have l3 : (x * p + y) * b + d = x * (p * b) + (y * b + d) := by
      rw [Int.add_mul, Int.mul_assoc]
      omega
    rw [l1, l2, l3]

end Go.Proofs.Qxb6617320a.Parts
