import Derived.Below
import Derived.Deep.Quiet
import Derived.Deep.OwnRows
import Derived.IntWalk
namespace Go.Proofs.Qxb6617224a.Parts
open Go.RowKit

theorem hid {p : Prop} (h : p) : Hid p := h
theorem ret_bool {a b : Bool} (h : a = b) : Ending.returned (.bool a) = .returned (.bool b) := by rw [h]
theorem ret_int {k : IntKind} {a b : Int} (h : a = b) : Ending.returned (.int k a) = .returned (.int k b) := by rw [h]

/-- A digit's byte. -/
def isD (c : Int) : Bool := decide (48 ≤ c) && decide (c ≤ 57)

theorem isD_iff (c : Int) : isD c = true ↔ 48 ≤ c ∧ c ≤ 57 := by simp [isD]

/-- Are the first n all digits? -/
def allD (f : Nat → Int) : Nat → Bool
  | 0 => true
  | n + 1 => allD f n && isD (f n)

theorem allD_iff (f : Nat → Int) : ∀ n, allD f n = true ↔ ∀ j, j < n → isD (f j) = true
  | 0 => by simp [allD]
  | n + 1 => by
    unfold allD
    rw [Bool.and_eq_true, allD_iff f n]
    constructor
    · intro ⟨h1, h2⟩ j hj
      by_cases e : j = n
      · rw [e]; exact h2
      · exact h1 j (by omega)
    · intro h
      exact ⟨fun j hj => h j (by omega), h n (by omega)⟩

theorem allD_no (f : Nat → Int) (n k : Nat) (hk : k < n) (h : isD (f k) = false) : allD f n = false := by
  rw [Bool.eq_false_iff]
  intro hn
  rw [(allD_iff f n).1 hn k hk] at h
  cases h

/-- Ten to the k. -/
def p10 : Nat → Int
  | 0 => 1
  | k + 1 => p10 k * 10

/-- The value of the first k digits. -/
def val (f : Nat → Int) : Nat → Int
  | 0 => 0
  | k + 1 => val f k * 10 + (f k - 48)

theorem p10_pos (k : Nat) : 1 ≤ p10 k := by
  induction k with
  | zero => exact Int.le_refl _
  | succ k ih => unfold p10; omega

theorem p10_mono (k d : Nat) : p10 k ≤ p10 (k + d) := by
  induction d with
  | zero => exact Int.le_refl _
  | succ d ih =>
    show p10 k ≤ p10 (k + d) * 10
    have := p10_pos (k + d)
    omega

theorem p10_le {k n : Nat} (h : k ≤ n) : p10 k ≤ p10 n := by
  have := p10_mono k (n - k)
  rwa [show k + (n - k) = n by omega] at this

theorem p10_18 : p10 18 = 1000000000000000000 := by decide

theorem p10_max {k : Nat} (h : k ≤ 18) : p10 k ≤ 1000000000000000000 := by
  have := p10_le h
  rwa [p10_18] at this

theorem p10_add (a b : Nat) : p10 (a + b) = p10 a * p10 b := by
  induction b with
  | zero => show p10 a = p10 a * 1; omega
  | succ b ih =>
    show p10 (a + b) * 10 = p10 a * (p10 b * 10)
    rw [ih, Int.mul_assoc]

theorem val_bound (f : Nat → Int) (k : Nat) (h : ∀ j, j < k → isD (f j) = true) : 0 ≤ val f k ∧ val f k < p10 k := by
  induction k with
  | zero => exact ⟨Int.le_refl _, show (0 : Int) < 1 by decide⟩
  | succ k ih =>
    have h1 := ih (fun j hj => h j (by omega))
    have h2 := (isD_iff _).1 (h k (by omega))
    unfold val p10
    omega

theorem val_max (f : Nat → Int) (k : Nat) (hk : k ≤ 18) (h : ∀ j, j < k → isD (f j) = true) : 0 ≤ val f k ∧ val f k < 1000000000000000000 := by
  have h1 := val_bound f k h
  have h2 := p10_max hk
  omega

theorem val_congr (f g : Nat → Int) (k : Nat) (h : ∀ j, j < k → f j = g j) : val f k = val g k := by
  induction k with
  | zero => rfl
  | succ k ih =>
    unfold val
    rw [ih (fun j hj => h j (by omega)), h k (by omega)]

/-- Two texts glued. -/
theorem val_glue (f g h : Nat → Int) (m : Nat) (hf : ∀ j, j < m → h j = f j) : ∀ n, (∀ j, j < n → h (m + j) = g j) → val h (m + n) = val f m * p10 n + val g n
  | 0, _ => by
    show val h m = val f m * 1 + 0
    rw [val_congr h f m hf]
    omega
  | n + 1, hg => by
    have ih := val_glue f g h m hf n (fun j hj => hg j (by omega))
    show val h (m + n) * 10 + (h (m + n) - 48) = val f m * (p10 n * 10) + (val g n * 10 + (g n - 48))
    rw [ih, hg n (by omega), Int.add_mul, Int.mul_assoc]
    omega

end Go.Proofs.Qxb6617224a.Parts
