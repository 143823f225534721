import Derived.Test.Qxb6617224aIntLaw
namespace Go.Proofs.Qxb6617224a.Parts
open Go.RowKit
set_option linter.unusedVariables false

set_option maxHeartbeats 1000000 in
theorem law_out (a : Int) (s : ByteArray) (b c : Int) (w : World) (h0 : s.size ≤ maxLen) (h : s.size ≤ 1048576) (ha : -1 ≤ a) (ha1 : a ≤ 1) (h1 : a ≠ 0) (h2 : s.size ≠ 0) (hA : allD (bf s) s.size = true)
    (hz0 : bf s 0 ≠ 48) (hz1 : bf s (s.size - 1) ≠ 48) (hb : b < s.size ∨ 18 < b) :
    Calls Try.prog 4 #[.int .i64 a, .string s, .int .i64 b, .int .i64 c] w fun e w' => e = .returned (.bool true) ∧ Grown w w' := by
  have hd : decide (s.size ≤ 1048576) = true := by simpa using h
  have t1 : (a == 0) = false := by simpa using h1
  have t2 : s.toList.isEmpty = false := by rw [empty_iff]; simpa using h2
  have tx := text10 s w h
  rw [hA] at tx
  have TX := hid tx
  have p1 : 0 < s.size := by omega
  have e0 := bf_at s 0 p1
  have e1 := bf_at s (s.size - 1) (by omega)
  have z0' : (bf s 0 == 48) = false := by simpa using hz0
  have z1' : (bf s (s.size - 1) == 48) = false := by simpa using hz1
  have HO := hid (fun w => int12_out a s b c w h t1 hb)
  clear h1 h2 tx hA hz0 hz1
  by_cases hb1 : b < s.size
  · clear hb
    go_enter Try.func4, Try.ntmps4
    go_wp2_with fail
    refine (bytes9 a s b c _ h0).mono ?_
    rintro e w' ⟨rfl, rfl⟩
    go_wp2_with fail
    refine TX.out.mono ?_
    rintro e w' ⟨rfl, rfl⟩
    go_wp2_with fail
    refine (make11 a s b c _).mono ?_
    rintro e w1 ⟨rfl, hg1⟩
    go_wp2_with fail
    refine (HO.out _).mono ?_
    rintro e w2 ⟨rfl, hg2⟩
    go_wp2
    go_ret
    exact ⟨rfl, grown_trans hg1 hg2⟩
  · have hb2 : 18 < b := by omega
    clear hb
    go_enter Try.func4, Try.ntmps4
    go_wp2_with fail
    refine (bytes9 a s b c _ h0).mono ?_
    rintro e w' ⟨rfl, rfl⟩
    go_wp2_with fail
    refine TX.out.mono ?_
    rintro e w' ⟨rfl, rfl⟩
    go_wp2_with fail
    refine (make11 a s b c _).mono ?_
    rintro e w1 ⟨rfl, hg1⟩
    go_wp2_with fail
    refine (HO.out _).mono ?_
    rintro e w2 ⟨rfl, hg2⟩
    go_wp2
    go_ret
    exact ⟨rfl, grown_trans hg1 hg2⟩

set_option maxHeartbeats 2000000 in
theorem law_in (a : Int) (s : ByteArray) (E : Nat) (c : Int) (w : World) (h0 : s.size ≤ maxLen) (h : s.size ≤ 1048576) (ha : -1 ≤ a) (ha1 : a ≤ 1) (h1 : a ≠ 0) (h2 : s.size ≠ 0) (hA : allD (bf s) s.size = true)
    (hz0 : bf s 0 ≠ 48) (hz1 : bf s (s.size - 1) ≠ 48) (hE1 : s.size ≤ E) (hE2 : E ≤ 18) :
    Calls Try.prog 4 #[.int .i64 a, .string s, .int .i64 E, .int .i64 c] w fun e w' => e = .returned (.bool true) ∧ Grown w w' := by
  have hd : decide (s.size ≤ 1048576) = true := by simpa using h
  have t1 : (a == 0) = false := by simpa using h1
  have t2 : s.toList.isEmpty = false := by rw [empty_iff]; simpa using h2
  have tx := text10 s w h
  rw [hA] at tx
  have TX := hid tx
  have p1 : 0 < s.size := by omega
  have e0 := bf_at s 0 p1
  have e1 := bf_at s (s.size - 1) (by omega)
  have z0' : (bf s 0 == 48) = false := by simpa using hz0
  have z1' : (bf s (s.size - 1) == 48) = false := by simpa using hz1
  have hdg := (allD_iff (bf s) s.size).1 hA
  have HO := hid (fun w => int12_in a s E c w t1 hE1 hE2 hdg)
  have HT0 := hid (tv_start (bf s) s.size E hE1)
  have HTE := hid (tv_end (pd (bf s) s.size) E)
  have HTB := hid (fun i (hi : i ≤ E) => tv_bound (pd (bf s) s.size) E i hE2 hi (pd_digits (bf s) s.size hdg))
  have HTR := hid (fun i (hi : i + 1 ≤ E) => tv_raw (pd (bf s) s.size) E i hE2 hi (pd_digits (bf s) s.size hdg))
  have HF : Hid (∀ j, j < s.size → pd (bf s) s.size j = bf s j) := fun j hj => by unfold pd; rw [if_pos hj]
  have HDG := hid hdg
  generalize pd (bf s) s.size = F at *
  have e2 : (E : Int) - (s.size : Int) = ((E - s.size : Nat) : Int) := by omega
  clear h2 tx hA hz0 hz1 hdg
  go_enter Try.func4, Try.ntmps4
  go_wp2_with fail
  refine (bytes9 a s E c _ h0).mono ?_
  rintro e w' ⟨rfl, rfl⟩
  go_wp2_with fail
  refine TX.out.mono ?_
  rintro e w' ⟨rfl, rfl⟩
  go_wp2_with fail
  refine (make11 a s E c _).mono ?_
  rintro e w1 ⟨rfl, hg1⟩
  go_wp2_with fail
  refine (HO.out _).mono ?_
  rintro e w2 ⟨rfl, hg2⟩
  go_wp2_with fail
  refine (pow8 (E - s.size) _ (by omega)).mono ?_
  rintro e w3 ⟨rfl, rfl⟩
  go_wp2
  clear e0 e1
  go_loop [12, 13, 14] (fun v p i => ∃ k : Nat, k ≤ s.size ∧ i = .int .i64 ((k : Int) - 1) ∧ v = .int .i64 (tv F E k) ∧ p = .int .i64 (p10 (E - k))) (fun _ _ i => ((intOf i) + 1).toNat)
  case atStart => exact ⟨s.size, Nat.le_refl _, rfl, by rw [HT0.out], rfl⟩
  case round =>
    obtain ⟨k, hk, rfl, rfl, rfl⟩ := hrel
    cases k with
    | zero =>
      have v0 := (HTB.out 0 (Nat.zero_le _))
      rw [HTE.out] at v0 ⊢
      have m1 : ((0 : Nat) : Int) - 1 = -1 := rfl
      rw [m1]
      generalize val F E = V at *
      by_cases hneg : a < 0
      · have ea : a = -1 := by omega
        subst ea
        go_wp2
        go_ret
        refine ⟨ret_bool ?_, grown_trans hg1 hg2⟩
        rw [beq_iff_eq]
        unfold wrap64
        omega
      · have ea : a = 1 := by omega
        subst ea
        go_wp2
        go_ret
        refine ⟨ret_bool ?_, grown_trans hg1 hg2⟩
        rw [beq_iff_eq]
        unfold wrap64
        omega
    | succ j =>
      have hj : j < s.size := by omega
      have e3 : ((j + 1 : Nat) : Int) - 1 = (j : Int) := by omega
      rw [e3]
      have ej := bf_at s j hj
      have g1 := (isD_iff _).1 (HDG.out j hj)
      have TR := hid (HTR.out j (by omega))
      have FJ := hid (HF.out j hj)
      have bp := p10_pos (E - (j + 1))
      have bq : p10 (E - (j + 1)) ≤ 100000000000000000 := by
        have := p10_le (show E - (j + 1) ≤ 17 by omega)
        have e17 : p10 17 = 100000000000000000 := by decide
        rw [e17] at this
        exact this
      have HP : Hid (p10 (E - j) = p10 (E - (j + 1)) * 10) := by
        rw [show E - j = (E - (j + 1)) + 1 by omega]
        rfl
      clear e3
      go_wp2
      go_round
      case rel => exact ⟨j, by omega, by go_num, by rw [← TR.out, FJ.out], by rw [HP.out]⟩
      case measure => simp [intOf]
end Go.Proofs.Qxb6617224a.Parts
