import Derived.Laws.CopyOwn
import Derived.Deep.OwnRows
import Derived.OwnWalk
namespace Go.Proofs.Qxb6617224a.Parts
open Go.RowKit

theorem addr_add (b o j : Nat) : (⟨b, o, none⟩ : Addr).add j = ⟨b, o + j, none⟩ := by
  unfold Addr.add
  split <;> simp_all

/-- 'copy(dst, src)' where dst is a whole row of the call's own and src has as many elements. -/
theorem wpList_copy_row {P : Program} {w : World} {ops : Array Oper} {rest : List Oper} {o : Oper} {a : Act} {Q : Exit → Act → World → Prop} (hgd : o.guard = none) (d s : Operand) (dT sT : TypeId)
    (ho : o.op = .call { callee := .builtin .copy, args := #[d, s], argTypes := #[dT, sT] }) (elem : TypeId) (hu : P.underlying dT = some (.slice elem)) (hsz : (P.info? elem).map (·.size) = some 1)
    (sp : Option Addr) (n sCap g : Nat) (hd : a.eval d = .slice (some ⟨g, 0, none⟩) n n) (hs : a.eval s = .slice sp n sCap)
    (t : TypeId) (f0 f : Nat → Value) (hrow : w.rowIs g t n f0) (hsrc : 0 < n → ∃ ad, sp = some ad ∧ ∀ j, j < n → w.cell? (ad.add j) = some (f j)) (h1 : ∀ j, (f j).oneCell' = true)
    (B : Nat) (w0 : World) (hb : Below B w0 w) (hBg : B ≤ g)
    (h : ∀ w', Hid (w'.rowIs g t n f) → Below B w0 w' → (∀ k, k ≠ g → w'.heap[k]? = w.heap[k]?) → w'.heap.size = w.heap.size → wpList P ops Q rest (a.put o.dst (goInt n)) w') :
    wpList P ops Q (o :: rest) a w := by
  by_cases h0 : n = 0
  · refine wpList_copy_nothing hgd d s dT sT ho elem hu hsz _ _ n n n sCap hd hs (by rw [h0]; rfl) ?_
    have e : goInt 0 = goInt n := by rw [h0]; rfl
    rw [e]
    refine h w ?_ hb (fun _ _ => rfl) rfl
    exact hrow.congr fun i hi => by omega
  · obtain ⟨ad, rfl, hc⟩ := hsrc (by omega)
    obtain ⟨cur, hg, hcs, hcf⟩ := hrow
    have hl : ((List.range n).map f).length = n := by simp
    refine wpList_copy_own hgd d s dT sT ho elem hu hsz g 0 n n ad n sCap hd hs cur t hg ((List.range n).map f) (by rw [hl]; exact (Nat.min_self n).symm) (fun j v hv => ?_) (by rw [hl]; omega) (fun v hv => ?_) ?_
    · have hj : j < n := by
        have := (List.getElem?_eq_some_iff.1 hv).1
        rw [hl] at this
        exact this
      rw [hc j hj]
      rw [List.getElem?_map, List.getElem?_range hj] at hv
      exact hv
    · obtain ⟨j, _, rfl⟩ := List.mem_map.1 hv
      exact h1 j
    · rw [hl]
      have e : (cur.toList.take 0 ++ ((List.range n).map f ++ cur.toList.drop (0 + n))) = (List.range n).map f := by
        rw [List.take_zero, List.nil_append, Nat.zero_add, List.drop_eq_nil_of_le (by simp [hcs]), List.append_nil]
      rw [e]
      refine h _ ?_ (below_setRow hb hBg _) (fun k hk => setRow_other w g k _ hk) (by simp [World.setRow])
      refine ⟨((List.range n).map f).toArray, setRow_heap w g _ _ t _ hg, by simp, fun i hi => ?_⟩
      rw [List.getElem?_toArray, List.getElem?_map, List.getElem?_range hi]
      rfl

/-- 'append(dst, src...)' where dst is a row of the call's own with room, and src has an element at least. -/
theorem wpList_append_row {P : Program} {w : World} {ops : Array Oper} {rest : List Oper} {o : Oper} {a : Act} {Q : Exit → Act → World → Prop} (hgd : o.guard = none) (d s : Operand) (t : TypeId)
    (ho : o.op = .call { callee := .builtin .append, args := #[d, s], argTypes := #[t, t] }) (e : TypeId) (i : TypeInfo) (hu : P.underlying t = some (.slice e)) (hi : P.info? e = some i) (hsz : i.size = 1)
    (g n cap m c : Nat) (ad : Addr) (hd : a.eval d = .slice (some ⟨g, 0, none⟩) n cap) (hs : a.eval s = .slice (some ad) m c)
    (f0 f : Nat → Value) (hrow : w.rowIs g e cap f0) (hsrc : ∀ j, j < m → w.cell? (ad.add j) = some (f j)) (h1 : ∀ j, (f j).oneCell' = true) (hroom : n + m ≤ cap) (r : Nat) (hrr : n + m = r)
    (B : Nat) (w0 : World) (hb : Below B w0 w) (hBg : B ≤ g)
    (h : ∀ w', Hid (w'.rowIs g e cap (fun j => if n ≤ j ∧ j < n + m then f (j - n) else f0 j)) → Below B w0 w' → (∀ k, k ≠ g → w'.heap[k]? = w.heap[k]?) → w'.heap.size = w.heap.size → wpList P ops Q rest (a.put o.dst (.slice (some ⟨g, 0, none⟩) r cap)) w') :
    wpList P ops Q (o :: rest) a w := by
  obtain ⟨cur, hg, hcs, hcf⟩ := hrow
  have hl : ((List.range m).map f).length = m := by simp
  have hr := run_append_room (P := P) w t o.type e i hu hi g n cap cur hg ad m c ((List.range m).map f) (by rw [hl, hsz, Nat.mul_one]) (fun j v hv => by
      have hj : j < m := by
        have := (List.getElem?_eq_some_iff.1 hv).1
        rw [hl] at this
        exact this
      rw [hsrc j hj]
      rw [List.getElem?_map, List.getElem?_range hj] at hv
      exact hv) (fun v hv => by
      obtain ⟨j, _, rfl⟩ := List.mem_map.1 hv
      exact h1 j) hroom (by rw [hl, hsz, Nat.mul_one]; omega)
  rw [hsz, Nat.mul_one, hl, hrr] at hr
  obtain ⟨L, hL⟩ : ∃ L, L = cur.toList.take n ++ (List.range m).map f ++ cur.toList.drop r := ⟨_, rfl⟩
  rw [← hL] at hr
  rw [← hrr] at hL
  have hlen : L.length = cap := by
    rw [hL]
    simp [hcs]
    omega
  have hat : ∀ j, j < cap → L[j]? = some (if n ≤ j ∧ j < n + m then f (j - n) else f0 j) := by
    intro j hj
    have hlt : (cur.toList.take n).length = n := by simp [hcs]; omega
    have hl2 : (cur.toList.take n ++ (List.range m).map f).length = n + m := by rw [List.length_append, hlt, hl]
    rw [hL]
    by_cases c1 : j < n
    · rw [if_neg (by omega), List.getElem?_append_left (by rw [hl2]; omega), List.getElem?_append_left (by rw [hlt]; exact c1), List.getElem?_take, if_pos c1, Array.getElem?_toList]
      exact hcf j hj
    · by_cases c2 : j < n + m
      · rw [if_pos ⟨by omega, c2⟩, List.getElem?_append_left (by rw [hl2]; exact c2), List.getElem?_append_right (by rw [hlt]; omega), hlt, List.getElem?_map, List.getElem?_range (by omega)]
        rfl
      · rw [if_neg (by omega), List.getElem?_append_right (by rw [hl2]; omega), hl2, List.getElem?_drop, Array.getElem?_toList, show n + m + (j - (n + m)) = j by omega]
        exact hcf j hj
  clear hL
  refine wpList_plain hgd fun K hK => ?_
  unfold Oper.wp
  simp [execOp, ho, resolve, invoke, builtin, hd, hs, hr, Result.andThen]
  refine hK _ _ (h _ ?_ (below_setRow hb hBg _) (fun k hk => setRow_other w g k _ hk) (by simp [World.setRow]))
  exact ⟨L.toArray, setRow_heap w g _ _ e _ hg, by simpa using hlen, fun j hj => by rw [List.getElem?_toArray]; exact hat j hj⟩

end Go.Proofs.Qxb6617224a.Parts
