import Derived.Test.Qxb6623486aPlain
namespace Go.Proofs.Qxb6623486a.Parts
open Go.RowKit

theorem rv_data (s : ByteArray) : (rv s).data.toList = s.data.toList.reverse := by
  rw [← Lib.toList_data, rv_list]

theorem bytes_ext {a b : ByteArray} (h : a.data.toList = b.data.toList) : a = b := by
  rw [← Lib.mk_data a, ← Lib.mk_data b, h]

theorem app_size (a b : ByteArray) : (a ++ b).size = a.size + b.size := by
  simp

theorem app_data (a b : ByteArray) : (a ++ b).data.toList = a.data.toList ++ b.data.toList := by
  rw [← Lib.toList_data, app_list]

/-- The two oks are one test. -/
theorem mirror_test (r l : ByteArray) (hl : l.size ≤ r.size) :
    ((r.extract (r.size - l.size) r.size).toList == (rv l).toList) = (((rv r).extract 0 l.size).toList == l.toList) := by
  have er : r.size = r.data.toList.length := Lib.size_eq r
  rw [Bool.eq_iff_iff, beq_iff_eq, beq_iff_eq, Lib.extract_toList, Lib.extract_toList, rv_list, rv_data, Lib.toList_data]
  rw [List.take_of_length_le (by rw [List.length_drop]; omega), List.drop_zero, Nat.sub_zero, List.take_reverse, ← er]
  constructor
  · intro h
    rw [h, List.reverse_reverse]
  · intro h
    rw [← h, List.reverse_reverse]

theorem mirror_left (r l : ByteArray) (hl : l.size ≤ r.size) : r.extract 0 (r.size - l.size) = rv ((rv r).extract l.size (rv r).size) := by
  have er : r.size = r.data.toList.length := Lib.size_eq r
  apply bytes_ext
  have e1 : (r.extract 0 (r.size - l.size)).data.toList = List.take (r.size - l.size) r.data.toList := by
    rw [Lib.extract_data, List.drop_zero, Nat.sub_zero]
  have e2 : ((rv r).extract l.size (rv r).size).data.toList = List.drop l.size r.data.toList.reverse := by
    rw [Lib.extract_data, rv_data, rv_size]
    exact List.take_of_length_le (by rw [List.length_drop, List.length_reverse]; omega)
  rw [e1, rv_data, e2, List.drop_reverse, List.reverse_reverse, er]

theorem pl_long (r l : ByteArray) (b : Bool) (h : r.size < l.size) : pl r l b = (⟨#[]⟩, false) := by
  unfold pl; rw [if_pos h]

theorem pl_fwd (r l : ByteArray) (h : ¬ r.size < l.size) : pl r l false = (r.extract l.size r.size, (r.extract 0 l.size).toList == l.toList) := by
  unfold pl; rw [if_neg h]; rfl

theorem pl_hit (r l : ByteArray) (h : ¬ r.size < l.size) (k : ((r.extract (r.size - l.size) r.size).toList == (rv l).toList) = true) : pl r l true = (r.extract 0 (r.size - l.size), true) := by
  unfold pl; rw [if_neg h, if_pos rfl, if_pos k]

theorem pl_miss (r l : ByteArray) (h : ¬ r.size < l.size) (k : ((r.extract (r.size - l.size) r.size).toList == (rv l).toList) = false) : pl r l true = (⟨#[]⟩, false) := by
  unfold pl; rw [if_neg h, if_pos rfl, if_neg (by rw [k]; exact Bool.false_ne_true)]

theorem mirror_no (r l : ByteArray) (h : (pl r l true).2 = false) : pl r l true = (⟨#[]⟩, false) := by
  by_cases h1 : r.size < l.size
  · exact pl_long r l true h1
  · cases h2 : ((r.extract (r.size - l.size) r.size).toList == (rv l).toList) with
    | true => rw [pl_hit r l h1 h2] at h; cases h
    | false => exact pl_miss r l h1 h2

theorem mirror_ok (r l : ByteArray) : (pl (rv r) l false).2 = (pl r l true).2 := by
  by_cases h1 : r.size < l.size
  · rw [pl_long r l true h1, pl_long (rv r) l false (by rw [rv_size]; exact h1)]
  · rw [pl_fwd (rv r) l (by rw [rv_size]; exact h1)]
    show (((rv r).extract 0 l.size).toList == l.toList) = _
    rw [← mirror_test r l (by omega)]
    cases h2 : ((r.extract (r.size - l.size) r.size).toList == (rv l).toList) with
    | true => rw [pl_hit r l h1 h2]
    | false => rw [pl_miss r l h1 h2]

theorem mirror_yes (r l : ByteArray) (h : (pl r l true).2 = true) : (pl r l true).1 = rv (pl (rv r) l false).1 := by
  by_cases h1 : r.size < l.size
  · rw [pl_long r l true h1] at h; cases h
  · rw [pl_fwd (rv r) l (by rw [rv_size]; exact h1)]
    cases h2 : ((r.extract (r.size - l.size) r.size).toList == (rv l).toList) with
    | true => rw [pl_hit r l h1 h2]; exact mirror_left r l (by omega)
    | false => rw [pl_miss r l h1 h2] at h; cases h

theorem left_le (r l : ByteArray) (b : Bool) : (pl r l b).1.size ≤ r.size := by
  unfold pl
  split
  · exact Nat.zero_le _
  · split
    · split
      · show (r.extract 0 (r.size - l.size)).size ≤ _
        simp
      · exact Nat.zero_le _
    · show (r.extract l.size r.size).size ≤ _
      simp

theorem trip_back (r l : ByteArray) : pl (r ++ rv l) l true = (r, true) := by
  have er : r.size = r.data.toList.length := Lib.size_eq r
  unfold pl
  rw [app_size, rv_size, if_neg (by omega), if_pos rfl, Nat.add_sub_cancel]
  rw [if_pos]
  · have : (r ++ rv l).extract 0 r.size = r := by
      apply bytes_ext
      rw [Lib.extract_data, app_data, List.drop_zero, Nat.sub_zero, List.take_left' er.symm]
    rw [this]
  · rw [beq_iff_eq, Lib.extract_toList, app_data, rv_list, rv_data, List.drop_left' er.symm]
    apply List.take_of_length_le
    rw [List.length_reverse, ← Lib.size_eq]
    omega

theorem trip_fwd (r l : ByteArray) : pl (l ++ r) l false = (r, true) := by
  have er : r.size = r.data.toList.length := Lib.size_eq r
  have el : l.size = l.data.toList.length := Lib.size_eq l
  unfold pl
  rw [app_size, if_neg (by omega), if_neg (by decide)]
  have e1 : (l ++ r).extract l.size (l.size + r.size) = r := by
    apply bytes_ext
    rw [Lib.extract_data, app_data, List.drop_left' el.symm]
    exact List.take_of_length_le (by omega)
  have e2 : ((l ++ r).extract 0 l.size).toList = l.toList := by
    rw [Lib.extract_toList, app_data, List.drop_zero, Nat.sub_zero, List.take_left' el.symm, Lib.toList_data]
  rw [e1, e2, beq_self_eq_true]

end Go.Proofs.Qxb6623486a.Parts
