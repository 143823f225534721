import Derived.Laws.CopyOwn
import Derived.Deep.OwnRows
namespace Go.Proofs.Qxb6623502a.Parts
open Go.RowKit

theorem addr_add (b o j : Nat) : (⟨b, o, none⟩ : Addr).add j = ⟨b, o + j, none⟩ := by
  unfold Addr.add
  split <;> simp_all

/-- 'copy(dst, src)' where dst is a whole row of the call's own and src has as many elements. -/
theorem wpList_copy_row {P : Program} {w : World} {ops : Array Oper} {rest : List Oper} {o : Oper} {a : Act} {Q : Exit → Act → World → Prop} (hgd : o.guard = none) (d s : Operand) (dT sT : TypeId)
    (ho : o.op = .call { callee := .builtin .copy, args := #[d, s], argTypes := #[dT, sT] }) (elem : TypeId) (hu : P.underlying dT = some (.slice elem)) (hsz : (P.info? elem).map (·.size) = some 1)
    (sp : Option Addr) (n sCap g : Nat) (hd : a.eval d = .slice (some ⟨g, 0, none⟩) n n) (hs : a.eval s = .slice sp n sCap)
    (t : TypeId) (f0 f : Nat → Value) (hrow : w.rowIs g t n f0) (hsrc : 0 < n → ∃ ad, sp = some ad ∧ ∀ j, j < n → w.cell? (ad.add j) = some (f j)) (h1 : ∀ j, (f j).oneCell' = true)
    (B : Nat) (w0 : World) (hb : Below B w0 w) (hBg : B ≤ g)
    (h : ∀ w', Hid (w'.rowIs g t n f) → Below B w0 w' → (∀ k, k ≠ g → w'.heap[k]? = w.heap[k]?) → w'.heap.size = w.heap.size → wpList P ops Q rest (a.put o.dst (goInt n)) w') :
    wpList P ops Q (o :: rest) a w := by
  by_cases h0 : n = 0
  · refine wpList_copy_nothing hgd d s dT sT ho elem hu hsz _ _ n n n sCap hd hs (by rw [h0]; rfl) ?_
    have e : goInt 0 = goInt n := by rw [h0]; rfl
    rw [e]
    refine h w ?_ hb (fun _ _ => rfl) rfl
    exact hrow.congr fun i hi => by omega
  · obtain ⟨ad, rfl, hc⟩ := hsrc (by omega)
    obtain ⟨cur, hg, hcs, hcf⟩ := hrow
    have hl : ((List.range n).map f).length = n := by simp
    refine wpList_copy_own hgd d s dT sT ho elem hu hsz g 0 n n ad n sCap hd hs cur t hg ((List.range n).map f) (by rw [hl]; exact (Nat.min_self n).symm) (fun j v hv => ?_) (by rw [hl]; omega) (fun v hv => ?_) ?_
    · have hj : j < n := by
        have := (List.getElem?_eq_some_iff.1 hv).1
        rw [hl] at this
        exact this
      rw [hc j hj]
      rw [List.getElem?_map, List.getElem?_range hj] at hv
      exact hv
    · obtain ⟨j, _, rfl⟩ := List.mem_map.1 hv
      exact h1 j
    · rw [hl]
      have e : (cur.toList.take 0 ++ ((List.range n).map f ++ cur.toList.drop (0 + n))) = (List.range n).map f := by
        rw [List.take_zero, List.nil_append, Nat.zero_add, List.drop_eq_nil_of_le (by simp [hcs]), List.append_nil]
      rw [e]
      refine h _ ?_ (below_setRow hb hBg _) (fun k hk => setRow_other w g k _ hk) (by simp [World.setRow])
      refine ⟨((List.range n).map f).toArray, setRow_heap w g _ _ t _ hg, by simp, fun i hi => ?_⟩
      rw [List.getElem?_toArray, List.getElem?_map, List.getElem?_range hi]
      rfl

end Go.Proofs.Qxb6623502a.Parts
