import Derived.Test.Qxb6617320aLaw
namespace Go.Proofs.Qxb6617320a.Parts
open Go.RowKit
set_option linter.unusedVariables false

theorem lm_one (len : Nat) (h : 1 ≤ len) : lm len 1 = 1 := by
  unfold lm
  rw [if_neg (by omega)]
  split
  · rfl
  · omega

theorem lm_in (len K : Nat) (h : K ≤ len) : lm len (K : Int) = K := by
  unfold lm
  rw [if_neg (by omega)]
  split
  · omega
  · omega

theorem lm_past (len : Nat) (m : Int) (h : (len : Int) ≤ m) : lm len m = len := by
  unfold lm
  rw [if_neg (by omega), if_neg (by omega)]

theorem lm_neg (len : Nat) (m : Int) (h : m < 0) : lm len m = 0 := by
  unfold lm
  rw [if_pos h]

/-- All that the walk wants of the plain law, over plain variables: D and N: the whole reading; D1 and N1: up to the cut; D2 and N2: behind it; P: the power. -/
structure Facts (f : Nat → Int) (b : Int) (L K D D1 : Nat) (N N1 : Int) : Prop where
  all : ∀ j, j < D → dg (f j) < b
  stop : D < L → b ≤ dg (f D)
  past : D1 < K → D = D1 ∧ N = N1
  within : ¬ D1 < K → D1 = K ∧ D = K + pre (fun j => f (K + j)) b (L - K) ∧ N = wrap64 (wrap64 (N1 * pw b (pre (fun j => f (K + j)) b (L - K))) + nv (fun j => f (K + j)) b (pre (fun j => f (K + j)) b (L - K)))
  one : 1 ≤ D → pre f b 1 = 1 ∧ nv f b 1 = dg (f 0)

theorem facts (f : Nat → Int) (b : Int) (L K : Nat) (h : K ≤ L) : Facts f b L K (pre f b L) (pre f b K) (nv f b (pre f b L)) (nv f b (pre f b K)) := by
  refine ⟨pre_all f b L, pre_stop f b L, fun h1 => ?_, fun h1 => ?_, fun h1 => ⟨first_one f b L h1, first_val f b⟩⟩
  · have e := cut_past f b L K h h1
    exact ⟨e, by rw [e]⟩
  · have e := cut_in f b L K h h1
    have e1 : pre f b K = K := by have := pre_le f b K; omega
    exact ⟨e1, e, by rw [e, e1]; exact cut_val f b K _⟩

theorem one4 (s : ByteArray) (b : Int) (hs : s.size ≤ 1048576) (hb1 : 1 ≤ b) (hb2 : b ≤ 16) (h : 0 < s.size) (P : pre (bf s) b 1 = 1 ∧ nv (bf s) b 1 = dg (bf s 0)) (w : World) :
    Calls Try.prog 7 #[.string s, .int .i64 b, .int .i64 1] w fun e w' => e = .returned (.tuple #[.int .i64 (dg (bf s 0)), .int .i64 1]) ∧ w' = w := by
  have c := num7 s b 1 (bf s) w hs hb1 hb2 (by omega) (by omega) (bf_at s) 1 (lm_one s.size h)
  rw [P.1, P.2] at c
  exact c

end Go.Proofs.Qxb6617320a.Parts
