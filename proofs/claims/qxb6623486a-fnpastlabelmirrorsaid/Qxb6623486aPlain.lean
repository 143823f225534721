import Derived.Lib.Strings
import Derived.Below
import Derived.Deep.Quiet
namespace Go.Proofs.Qxb6623486a.Parts
open Go.RowKit

/-! ### Small facts -/

theorem grown_trans {a b c : World} (h : Grown a b) (k : Grown b c) : Grown a c := by
  obtain ⟨h1, hf, hs⟩ := h
  obtain ⟨k1, kf, ks⟩ := k
  exact ⟨World.keptBut_trans h1 k1, fun x => (kf x).trans (hf x), Nat.le_trans hs ks⟩

theorem grown_drewN {a b : World} (h : Grown a b) : ∀ n : Nat, Grown a (b.drewN n) := by
  intro n
  induction n generalizing b with
  | zero => exact h
  | succ n ih => exact ih h.drew

theorem ret_bool {a b : Bool} (h : a = b) : Ending.returned (.bool a) = .returned (.bool b) := by rw [h]

/-- The bytes of s, back to front. -/
def rv (s : ByteArray) : ByteArray := ⟨s.data.toList.reverse.toArray⟩

theorem rv_size (s : ByteArray) : (rv s).size = s.size := by
  rw [Lib.size_eq, Lib.size_eq]
  show s.data.toList.reverse.toArray.toList.length = _
  rw [List.toList_toArray, List.length_reverse]

theorem rv_list (s : ByteArray) : (rv s).toList = s.data.toList.reverse := by
  rw [Lib.toList_data]; simp [rv]

/-- What pastLabel answers. -/
def pl (r l : ByteArray) (back : Bool) : ByteArray × Bool :=
  if r.size < l.size then (⟨#[]⟩, false)
  else if back then
    if (r.extract (r.size - l.size) r.size).toList == (rv l).toList then (r.extract 0 (r.size - l.size), true) else (⟨#[]⟩, false)
  else (r.extract l.size r.size, (r.extract 0 l.size).toList == l.toList)

/-- 'r, read from its end, goes on with l', byte for byte. -/
theorem tail_iff (r l : ByteArray) (hl : l.size ≤ r.size) :
    ((r.extract (r.size - l.size) r.size).toList == (rv l).toList) = true ↔ ∀ j (hj : j < l.size), (r[r.size - 1 - j]'(by omega)).toNat = l[j].toNat := by
  rw [beq_iff_eq, Lib.extract_toList, rv_list]
  have er : r.size = r.data.toList.length := Lib.size_eq r
  have el : l.size = l.data.toList.length := Lib.size_eq l
  constructor
  · intro h j hj
    have h2 := congrArg (fun x : List UInt8 => x[l.size - 1 - j]?) h
    simp only [List.getElem?_take, List.getElem?_drop] at h2
    rw [if_pos (by omega), List.getElem?_reverse (by omega)] at h2
    rw [List.getElem?_eq_getElem (by omega), List.getElem?_eq_getElem (by omega)] at h2
    have h3 := Option.some.inj h2
    have e1 : r.size - l.size + (l.size - 1 - j) = r.size - 1 - j := by omega
    have e2 : l.data.toList.length - 1 - (l.size - 1 - j) = j := by omega
    simp only [e1, e2] at h3
    exact congrArg UInt8.toNat h3
  · intro h
    apply List.ext_getElem
    · simp; omega
    · intro i h1 h2
      simp at h1 h2
      rw [List.getElem_take, List.getElem_drop, List.getElem_reverse]
      have := h (l.size - 1 - i) (by omega)
      have h3 := UInt8.toNat_inj.1 this
      have e1 : r.size - 1 - (l.size - 1 - i) = r.size - l.size + i := by omega
      simp only [e1] at h3
      have e2 : l.data.toList.length - 1 - i = l.size - 1 - i := by omega
      simp only [e2]
      exact h3

/-! ### Gluing -/

theorem app_list (a b : ByteArray) : (a ++ b).toList = a.data.toList ++ b.data.toList := by
  rw [Lib.toList_data]; simp

theorem ext_list (a : ByteArray) : a.extract 0 a.size = a := by simp

theorem fwd_tail (r l : ByteArray) (hl : l.size ≤ r.size) : ((r.extract (r.size - (r.size - l.size)) r.size).toList == (r.extract l.size r.size).toList) = true := by
  rw [show r.size - (r.size - l.size) = l.size by omega]
  simp

theorem fwd_glue (r l : ByteArray) (hl : l.size ≤ r.size) : (((r.extract 0 l.size).toList == l.toList) == ((l ++ r.extract l.size r.size).toList == r.toList)) = true := by
  rw [beq_iff_eq, Bool.eq_iff_iff, beq_iff_eq, beq_iff_eq, app_list, Lib.extract_toList, Lib.extract_data, Lib.toList_data, Lib.toList_data]
  have er : r.size = r.data.toList.length := Lib.size_eq r
  have el : l.size = l.data.toList.length := Lib.size_eq l
  rw [List.drop_zero, Nat.sub_zero, List.take_of_length_le (l := List.drop l.size r.data.toList) (by rw [List.length_drop]; omega)]
  constructor
  · intro h
    rw [← h]
    have e : (List.take l.size r.data.toList).length = l.size := by rw [List.length_take]; omega
    exact List.take_append_drop _ _
  · intro h
    rw [← h, List.take_left' el.symm]

theorem back_glue (r l : ByteArray) (hl : l.size ≤ r.size) (h : ((r.extract (r.size - l.size) r.size).toList == (rv l).toList) = true) : ((r.extract 0 (r.size - l.size) ++ rv l).toList == r.toList) = true := by
  rw [beq_iff_eq, Lib.extract_toList, rv_list] at h
  rw [beq_iff_eq, app_list, Lib.extract_data, Lib.toList_data]
  have er : r.size = r.data.toList.length := Lib.size_eq r
  rw [List.take_of_length_le (by rw [List.length_drop]; omega)] at h
  have e : (rv l).data.toList = l.data.toList.reverse := by rw [← Lib.toList_data, rv_list]
  rw [e, ← h, List.drop_zero, Nat.sub_zero, List.take_append_drop]

end Go.Proofs.Qxb6623486a.Parts
