import Derived.Test.Qxb6617320aLeaf
namespace Go.Proofs.Qxb6617320a.Parts
open Go.RowKit
set_option linter.unusedVariables false

/-- The bytes of a text, as numbers. -/
def bf (s : ByteArray) : Nat → Int := fun j => ((s.data.toList.getD j 0).toNat : Int)

theorem bf_at (s : ByteArray) (k : Nat) (h : k < s.size) : (s[k].toNat : Int) = bf s k := by
  unfold bf
  rw [List.getD_eq_getElem?_getD, List.getElem?_eq_getElem (by rw [← Lib.size_eq]; exact h)]
  rfl

theorem bf_bd (s : ByteArray) (k : Nat) : 0 ≤ bf s k ∧ bf s k ≤ 255 := by
  unfold bf
  have := UInt8.toNat_lt (s.data.toList.getD k 0)
  omega

theorem bf_cut (s : ByteArray) (K j : Nat) (h : j < (s.extract K s.size).size) : (((s.extract K s.size)[j]).toNat : Int) = bf s (K + j) := by
  rw [bf_at]
  unfold bf
  rw [Lib.extract_data, List.getD_eq_getElem?_getD, List.getD_eq_getElem?_getD, List.getElem?_take, List.getElem?_drop]
  rw [if_pos (by rw [Lib.size_eq, Lib.extract_data, List.length_take] at h; omega)]

/-! ### The plain law -/

/-- The cut lies past the stop: the reading up to the cut is the whole reading. -/
theorem cut_past (f : Nat → Int) (b : Int) (L K : Nat) (hK : K ≤ L) (h : pre f b K < K) : pre f b L = pre f b K :=
  pre_uniq f b L (pre f b K) (by have := pre_le f b K; omega) (pre_all f b K) (fun _ => pre_stop f b K h)

/-- The cut lies within the digits: the rest is read behind it. -/
theorem cut_in (f : Nat → Int) (b : Int) (L K : Nat) (hK : K ≤ L) (h : ¬ pre f b K < K) : pre f b L = K + pre (fun j => f (K + j)) b (L - K) := by
  have hk : pre f b K = K := by have := pre_le f b K; omega
  have a1 := pre_le (fun j => f (K + j)) b (L - K)
  refine pre_uniq f b L _ (by omega) (fun j hj => ?_) (fun hlt => ?_)
  · by_cases e : j < K
    · exact pre_all f b K j (by omega)
    · have := pre_all (fun j => f (K + j)) b (L - K) (j - K) (by omega)
      simp only [show K + (j - K) = j by omega] at this
      exact this
  · exact pre_stop (fun j => f (K + j)) b (L - K) (by omega)

theorem cut_val (f : Nat → Int) (b : Int) (K d2 : Nat) : nv f b (K + d2) = wrap64 (wrap64 (nv f b K * pw b d2) + nv (fun j => f (K + j)) b d2) := by
  rw [nv_glue, wrap_add]

theorem first_one (f : Nat → Int) (b : Int) (L : Nat) (h : 1 ≤ pre f b L) : pre f b 1 = 1 :=
  pre_uniq f b 1 1 (Nat.le_refl _) (fun j hj => pre_all f b L j (by omega)) (fun h => absurd h (Nat.lt_irrefl _))

theorem first_val (f : Nat → Int) (b : Int) : nv f b 1 = dg (f 0) := by
  rw [nv_succ]
  show wrap64 (0 * b + dg (f 0)) = _
  have := dg_bd (f 0)
  rw [Int.zero_mul]
  unfold wrap64
  omega

/-! ### The early ways -/

set_option maxRecDepth 100000 in
set_option maxHeartbeats 400000 in
theorem law_far (s : ByteArray) (a b c : Int) (w : World) (h0 : s.size ≤ maxLen) (h : ¬ s.size ≤ 1048576) :
    Calls Try.prog 3 #[.string s, .int .i64 a, .int .i64 b, .int .i64 c] w fun e w' => e = .returned (.bool true) ∧ Grown w w' := by
  have hd : decide (s.size ≤ 1048576) = false := by simpa using h
  go_enter Try.func3, Try.ntmps3
  go_wp2_with fail
  refine (bytes6 s a b c _ h0).mono ?_
  rintro e w' ⟨rfl, rfl⟩
  go_wp2_with fail
  go_ret
  exact ⟨rfl, Grown.refl _⟩

set_option maxRecDepth 100000 in
set_option maxHeartbeats 800000 in
theorem law_base (s : ByteArray) (a b c : Int) (w : World) (h0 : s.size ≤ maxLen) (h : s.size ≤ 1048576) (ha : a < 1 ∨ 16 < a) :
    Calls Try.prog 3 #[.string s, .int .i64 a, .int .i64 b, .int .i64 c] w fun e w' => e = .returned (.bool true) ∧ Grown w w' := by
  have hd : decide (s.size ≤ 1048576) = true := by simpa using h
  by_cases h1 : a < 1
  · clear ha
    go_enter Try.func3, Try.ntmps3
    go_wp2_with fail
    refine (bytes6 s a b c _ h0).mono ?_
    rintro e w' ⟨rfl, rfl⟩
    go_wp2_with fail
    go_ret
    exact ⟨rfl, Grown.refl _⟩
  · have h2 : 16 < a := by omega
    clear ha
    go_enter Try.func3, Try.ntmps3
    go_wp2_with fail
    refine (bytes6 s a b c _ h0).mono ?_
    rintro e w' ⟨rfl, rfl⟩
    go_wp2_with fail
    go_ret
    exact ⟨rfl, Grown.refl _⟩

set_option maxRecDepth 100000 in
set_option maxHeartbeats 800000 in
theorem law_cut (s : ByteArray) (a b c : Int) (w : World) (h0 : s.size ≤ maxLen) (h : s.size ≤ 1048576) (ha : 1 ≤ a) (ha2 : a ≤ 16) (hc : c < 0 ∨ s.size < c) :
    Calls Try.prog 3 #[.string s, .int .i64 a, .int .i64 b, .int .i64 c] w fun e w' => e = .returned (.bool true) ∧ Grown w w' := by
  have hd : decide (s.size ≤ 1048576) = true := by simpa using h
  by_cases h1 : c < 0
  · clear hc
    go_enter Try.func3, Try.ntmps3
    go_wp2_with fail
    refine (bytes6 s a b c _ h0).mono ?_
    rintro e w' ⟨rfl, rfl⟩
    go_wp2_with fail
    go_ret
    exact ⟨rfl, Grown.refl _⟩
  · have h2 : (s.size : Int) < c := by omega
    clear hc
    go_enter Try.func3, Try.ntmps3
    go_wp2_with fail
    refine (bytes6 s a b c _ h0).mono ?_
    rintro e w' ⟨rfl, rfl⟩
    go_wp2_with fail
    go_ret
    exact ⟨rfl, Grown.refl _⟩
end Go.Proofs.Qxb6617320a.Parts
