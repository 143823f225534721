import Derived.Test.Qxb6617224aPlain
namespace Go.Proofs.Qxb6617224a.Parts
open Go.RowKit

/-! ### A text padded with zeros on its right -/

def pd (f : Nat → Int) (len : Nat) : Nat → Int := fun j => if j < len then f j else 48

theorem pd_digits (f : Nat → Int) (len : Nat) (h : ∀ j, j < len → isD (f j) = true) (j : Nat) : isD (pd f len j) = true := by
  unfold pd
  by_cases e : j < len
  · rw [if_pos e]; exact h j e
  · rw [if_neg e]; decide

/-- The value of the digits from i on, at their places below E. -/
def tv (F : Nat → Int) (E i : Nat) : Int := val F E - val F i * p10 (E - i)

theorem tv_start (f : Nat → Int) (len E : Nat) (h : len ≤ E) : tv (pd f len) E len = 0 := by
  have e := val_glue (pd f len) (fun _ => 48) (pd f len) len (fun _ _ => rfl) (E - len) (fun j _ => by unfold pd; rw [if_neg (by omega)])
  have z : ∀ n, val (fun _ => 48) n = 0 := by
    intro n
    induction n with
    | zero => rfl
    | succ n ih => unfold val; rw [ih]; rfl
  rw [z, show len + (E - len) = E by omega] at e
  unfold tv
  rw [e]
  omega

theorem tv_step (F : Nat → Int) (E i : Nat) (h : i + 1 ≤ E) : tv F E i = tv F E (i + 1) + (F i - 48) * p10 (E - (i + 1)) := by
  unfold tv
  have e1 : val F (i + 1) = val F i * 10 + (F i - 48) := rfl
  have e2 : p10 (E - i) = p10 (E - (i + 1)) * 10 := by
    rw [show E - i = (E - (i + 1)) + 1 by omega]
    rfl
  rw [e1, e2, Int.add_mul, Int.mul_assoc, Int.mul_comm 10]
  omega

theorem tv_end (F : Nat → Int) (E : Nat) : tv F E 0 = val F E := by
  unfold tv
  show val F E - 0 * _ = _
  omega

theorem tv_bound (F : Nat → Int) (E i : Nat) (hE : E ≤ 18) (h : i ≤ E) (hF : ∀ j, isD (F j) = true) : 0 ≤ tv F E i ∧ tv F E i < 1000000000000000000 := by
  have hv := val_max F E hE (fun j _ => hF j)
  have hg := val_glue F (fun j => F (i + j)) F i (fun _ _ => rfl) (E - i) (fun _ _ => rfl)
  rw [show i + (E - i) = E by omega] at hg
  have ht := val_bound (fun j => F (i + j)) (E - i) (fun j _ => hF (i + j))
  have hi := val_bound F i (fun j _ => hF j)
  have hp := p10_pos (E - i)
  have hm : 0 ≤ val F i * p10 (E - i) := Int.mul_nonneg hi.1 (by omega)
  unfold tv
  omega

theorem tv_raw (F : Nat → Int) (E i : Nat) (hE : E ≤ 18) (h : i + 1 ≤ E) (hF : ∀ j, isD (F j) = true) :
    wrap64 (tv F E (i + 1) + wrap64 ((F i - 48) * p10 (E - (i + 1)))) = tv F E i := by
  have b0 := tv_bound F E i hE (by omega) hF
  have b1 := tv_bound F E (i + 1) hE h hF
  have hs := tv_step F E i h
  generalize (F i - 48) * p10 (E - (i + 1)) = y at *
  unfold wrap64
  omega

end Go.Proofs.Qxb6617224a.Parts
