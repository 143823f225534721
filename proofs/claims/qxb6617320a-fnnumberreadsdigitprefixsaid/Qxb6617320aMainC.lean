import Derived.Test.Qxb6617320aMain
namespace Go.Proofs.Qxb6617320a.Parts
open Go.RowKit
set_option linter.unusedVariables false

set_option maxRecDepth 100000 in
set_option maxHeartbeats 4000000 in
theorem law_C (s : ByteArray) (b : Int) (M K : Nat) (w : World) (h0 : s.size ≤ maxLen) (hs : s.size ≤ 1048576) (hb1 : 1 ≤ b) (hb2 : b ≤ 16) (hm : M < s.size) (hK : K ≤ M) :
    Calls Try.prog 3 #[.string s, .int .i64 b, .int .i64 (M : Int), .int .i64 (K : Int)] w fun e w' => e = .returned (.bool true) ∧ Grown w w' := by
  have hdd : decide (s.size ≤ 1048576) = true := by simpa using hs
  have HLm : Hid (lm s.size (M : Int) = M) := lm_in s.size M (by omega)
  have HKm : Hid (lm s.size (K : Int) = K) := lm_in s.size K (by omega)
  have hKL : K ≤ M := by omega
  have hLs : M ≤ s.size := by omega
  have FA := hid (facts (bf s) b M K hKL)
  have q1 := pre_le (bf s) b M
  have q2 := pre_le (bf s) b K
  have q3 := pre_le (fun j => bf s (K + j)) b (M - K)
  have CALL1 := hid (fun w => num7 s b (M : Int) (bf s) w hs hb1 hb2 (by omega) (by omega) (bf_at s) M HLm.out)
  have CALL2 := hid (fun w => num7 s b (K : Int) (bf s) w hs hb1 hb2 (by omega) (by omega) (bf_at s) K HKm.out)
  have CALL3 := hid (fun w => num7 (s.extract K s.size) b ((M : Int) - (K : Int)) (fun j => bf s (K + j)) w (by simp; omega) hb1 hb2 (by omega) (by omega) (bf_cut s K) (M - K) (by rw [show (M : Int) - (K : Int) = ((M - K : Nat) : Int) by omega, lm_in _ _ (by simp; omega)]))
  generalize nv (bf s) b (pre (bf s) b M) = N at *
  generalize nv (bf s) b (pre (bf s) b K) = N1 at *
  generalize pre (bf s) b M = D at *
  generalize pre (bf s) b K = D1 at *
  have x1 : decide (M < D) = false := decide_eq_false (by omega)
  have x2 : decide ((M : Int) < (D : Int)) = false := decide_eq_false (by omega)
  have x3 : decide ((D : Int) < 0) = false := decide_eq_false (by omega)
  go_enter Try.func3, Try.ntmps3
  go_wp2_with fail
  refine (bytes6 s b _ _ _ h0).mono ?_
  rintro e w1 ⟨rfl, rfl⟩
  go_wp2_with fail
  refine (CALL1.out _).mono ?_
  rintro e w1 ⟨rfl, rfl⟩
  go_wp2_with fail
  go_loop [8, 12] (fun v8 i => v8 = .bool false ∧ ∃ k : Nat, k ≤ D ∧ i = .int .i64 k) (fun _ i => D - (intOf i).toNat)
  case atStart => exact ⟨rfl, 0, Nat.zero_le _, rfl⟩
  case round =>
    obtain ⟨rfl, k9, hk9, rfl⟩ := hrel
    by_cases hlt9 : k9 < D
    · have hks : k9 < s.size := by omega
      have es := bf_at s k9 hks
      have bd := bf_bd s k9
      have da := FA.out.all k9 hlt9
      go_wp2_with (go_at_call 8; refine (hex8 _ _ bd.1 bd.2).mono ?_; rintro e w' ⟨rfl, rfl⟩)
      go_round
      case rel => exact ⟨rfl, k9 + 1, by omega, by go_num⟩
      case measure => simp [intOf]; omega
    · by_cases hdl : D < M
      · have i3 : (D : Int) < (M : Int) := by omega
        have hds : D < s.size := by omega
        have es := bf_at s D hds
        have bd := bf_bd s D
        have da := FA.out.stop hdl
        go_wp2_with fail
        refine (hex8 _ _ bd.1 bd.2).mono ?_
        rintro e w2 ⟨rfl, rfl⟩
        clear es bd
        go_wp2_with fail
        refine (CALL2.out _).mono ?_
        rintro e w3 ⟨rfl, rfl⟩
        by_cases hpast : D1 < K
        · have i4 : (D1 : Int) < (K : Int) := by omega
          have pp := FA.out.past hpast
          have t1 : (N != N1) = false := by rw [pp.2]; simp
          have t2 : ((D : Int) != (D1 : Int)) = false := by rw [pp.1]; simp
          clear pp hpast
          by_cases hd1 : 1 ≤ D
          · have i1 : (1 : Int) ≤ (D : Int) := by omega
            have sz1 : 0 < s.size := by omega
            have es := bf_at s 0 sz1
            have bd := bf_bd s 0
            have C4 := hid (one4 s b hs hb1 hb2 sz1 (FA.out.one hd1))
            clear hd1
            go_wp2_with fail
            refine (C4.out _).mono ?_
            rintro e w5 ⟨rfl, rfl⟩
            go_wp2_with fail
            refine (hex8 _ _ bd.1 bd.2).mono ?_
            rintro e w5 ⟨rfl, rfl⟩
            go_wp2
            go_ret
            exact ⟨rfl, Grown.refl _⟩
          · have i1 : (D : Int) < 1 := by omega
            go_wp2
            go_ret
            exact ⟨rfl, Grown.refl _⟩
        · have i4 : (K : Int) ≤ (D1 : Int) := by omega
          have pp := FA.out.within hpast
          obtain ⟨p1, p2, p3⟩ := pp
          generalize nv (fun j => bf s (K + j)) b (pre (fun j => bf s (K + j)) b (M - K)) = N2 at *
          generalize pre (fun j => bf s (K + j)) b (M - K) = D2 at *
          have t1 : (N != wrap64 (wrap64 (N1 * pw b D2) + N2)) = false := by rw [← p3]; simp
          have t2 : ((D : Int) != (D1 : Int) + (D2 : Int)) = false := by rw [bne_eq_false_iff_eq]; omega
          have i5 : (D2 : Int) ≤ (s.size : Int) - (K : Int) := by omega
          have i6 : D2 ≤ 1048576 := by omega
          clear p1 p2 p3 hpast
          go_wp2_with fail
          refine (CALL3.out _).mono ?_
          rintro e w4 ⟨rfl, rfl⟩
          go_wp2_with fail
          refine (pow9 b D2 _ i6).mono ?_
          rintro e w4 ⟨rfl, rfl⟩
          by_cases hd1 : 1 ≤ D
          · have i1 : (1 : Int) ≤ (D : Int) := by omega
            have sz1 : 0 < s.size := by omega
            have es := bf_at s 0 sz1
            have bd := bf_bd s 0
            have C4 := hid (one4 s b hs hb1 hb2 sz1 (FA.out.one hd1))
            clear hd1
            go_wp2_with fail
            refine (C4.out _).mono ?_
            rintro e w5 ⟨rfl, rfl⟩
            go_wp2_with fail
            refine (hex8 _ _ bd.1 bd.2).mono ?_
            rintro e w5 ⟨rfl, rfl⟩
            go_wp2
            go_ret
            exact ⟨rfl, Grown.refl _⟩
          · have i1 : (D : Int) < 1 := by omega
            go_wp2
            go_ret
            exact ⟨rfl, Grown.refl _⟩
      · have i3 : (M : Int) ≤ (D : Int) := by omega
        go_wp2_with fail
        refine (CALL2.out _).mono ?_
        rintro e w3 ⟨rfl, rfl⟩
        by_cases hpast : D1 < K
        · have i4 : (D1 : Int) < (K : Int) := by omega
          have pp := FA.out.past hpast
          exact absurd pp.1 (by omega)
        · have i4 : (K : Int) ≤ (D1 : Int) := by omega
          have pp := FA.out.within hpast
          obtain ⟨p1, p2, p3⟩ := pp
          generalize nv (fun j => bf s (K + j)) b (pre (fun j => bf s (K + j)) b (M - K)) = N2 at *
          generalize pre (fun j => bf s (K + j)) b (M - K) = D2 at *
          have t1 : (N != wrap64 (wrap64 (N1 * pw b D2) + N2)) = false := by rw [← p3]; simp
          have t2 : ((D : Int) != (D1 : Int) + (D2 : Int)) = false := by rw [bne_eq_false_iff_eq]; omega
          have i5 : (D2 : Int) ≤ (s.size : Int) - (K : Int) := by omega
          have i6 : D2 ≤ 1048576 := by omega
          clear p1 p2 p3 hpast
          go_wp2_with fail
          refine (CALL3.out _).mono ?_
          rintro e w4 ⟨rfl, rfl⟩
          go_wp2_with fail
          refine (pow9 b D2 _ i6).mono ?_
          rintro e w4 ⟨rfl, rfl⟩
          by_cases hd1 : 1 ≤ D
          · have i1 : (1 : Int) ≤ (D : Int) := by omega
            have sz1 : 0 < s.size := by omega
            have es := bf_at s 0 sz1
            have bd := bf_bd s 0
            have C4 := hid (one4 s b hs hb1 hb2 sz1 (FA.out.one hd1))
            clear hd1
            go_wp2_with fail
            refine (C4.out _).mono ?_
            rintro e w5 ⟨rfl, rfl⟩
            go_wp2_with fail
            refine (hex8 _ _ bd.1 bd.2).mono ?_
            rintro e w5 ⟨rfl, rfl⟩
            go_wp2
            go_ret
            exact ⟨rfl, Grown.refl _⟩
          · have i1 : (D : Int) < 1 := by omega
            go_wp2
            go_ret
            exact ⟨rfl, Grown.refl _⟩
end Go.Proofs.Qxb6617320a.Parts
