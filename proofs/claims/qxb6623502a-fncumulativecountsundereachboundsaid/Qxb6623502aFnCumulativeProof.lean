import Derived.Test.Qxb6623502aRows
import Derived.Test.Qxb6623502aPlain
import Derived.Test.Qxb6623502aLeaf
import Derived.Test.Qxb6623502aNew
import Derived.Test.Qxb6623502aCum
import Derived.Test.Qxb6623502aCopy
import Derived.Test.Qxb6623502aMain
import Derived.Test.Qxb6623502aWitness
import Derived.WalkKit
import Derived.ProofKit
import Derived.OpenShut
import Derived.ShutString
import Derived.ChangeOld
import Derived.Below
namespace Go.Proofs.Qxb6623502a.fnCumulative
open Go.ChangeShapes Go.WideShapes Go.ChangeAt Go.RowKit
open Go.ChangeMaps (open_string shut_string)
open Go.Proofs.Qxb6623502a.Parts
set_option linter.unusedVariables false

theorem own : ownKnob Try.prog.godebug = none := by kernel_rfl
theorem laidOut : laidOutB Try.prog = true := by kernel_rfl

/-- What the walk is told of a slice of integers that came in. -/
def IsRow (k : IntKind) (w : World) (a : Option Addr) (len cap : Nat) (zs : List Int) : Prop :=
  (a = none ∧ len = 0 ∧ cap = 0 ∧ zs = []) ∨
  ∃ x, a = some x ∧ len ≤ cap ∧ cap ≤ maxLen ∧ zs.length = cap ∧ (∀ i, i < zs.length → w.cell? (x.add i) = some (.int k (zs.getD i 0))) ∧ ∀ n ∈ zs, (Lit.int k n).wf = true

set_option maxHeartbeats 1000000 in
theorem walk_far (xs : Array Value) (s m n : Int) (sl : Option Addr) (len cap : Nat) (w : World) (hxs : xs.size = 2048) (hlen : len ≤ maxLen) (h : ¬ len ≤ 1048576) :
    Calls Try.prog 3 #[.agg xs, .int .i64 s, .int .i64 m, .int .i64 n, .slice sl len cap] w fun e w' => e = .returned (.bool true) ∧ Below w.heap.size w w' := by
  have hd : decide (len ≤ 1048576) = false := by simpa using h
  have HI : Hid ((Try.prog.info? 22).map (·.size) = some xs.size) := by rw [hxs]; exact size22
  have HG : Hid ((w.alloc (.cells xs 22)).heap[w.heap.size]? = some (.cells xs 22 (0, 0))) := heap_alloc_new w _
  have HB2 : Hid (Below w.heap.size w ((w.alloc (.cells xs 22)).alloc (.cells xs 22))) := ((Below.refl _ w).alloc (Nat.le_refl _) _).alloc (by simp) _
  clear hxs
  go_enter Try.func3, Try.ntmps3
  go_wp2_with (refine wpList_load_row rfl 22 _ rfl w.heap.size rfl 22 xs (0, 0) _ HG.out Try.underlying22 rfl HI.out ?_)
  refine (bytes4 xs s m n sl len cap _ hlen).mono ?_
  rintro e w1 ⟨rfl, rfl⟩
  go_wp2_with fail
  go_ret
  exact ⟨rfl, HB2.out⟩

set_option maxHeartbeats 1000000 in
theorem walk_big (xs : Array Value) (s m n : Int) (sl : Option Addr) (len cap : Nat) (w : World) (hxs : xs.size = 2048) (hlen : len ≤ maxLen) (h : len ≤ 1048576) (h2 : ¬ len ≤ 65536) :
    Calls Try.prog 3 #[.agg xs, .int .i64 s, .int .i64 m, .int .i64 n, .slice sl len cap] w fun e w' => e = .returned (.bool true) ∧ Below w.heap.size w w' := by
  have hd : decide (len ≤ 1048576) = true := by simpa using h
  have h3 : (65536 : Int) < (len : Int) := by omega
  have HI : Hid ((Try.prog.info? 22).map (·.size) = some xs.size) := by rw [hxs]; exact size22
  have HG : Hid ((w.alloc (.cells xs 22)).heap[w.heap.size]? = some (.cells xs 22 (0, 0))) := heap_alloc_new w _
  have HB2 : Hid (Below w.heap.size w ((w.alloc (.cells xs 22)).alloc (.cells xs 22))) := ((Below.refl _ w).alloc (Nat.le_refl _) _).alloc (by simp) _
  clear hxs h2
  go_enter Try.func3, Try.ntmps3
  go_wp2_with (refine wpList_load_row rfl 22 _ rfl w.heap.size rfl 22 xs (0, 0) _ HG.out Try.underlying22 rfl HI.out ?_)
  refine (bytes4 xs s m n sl len cap _ hlen).mono ?_
  rintro e w1 ⟨rfl, rfl⟩
  go_wp2_with fail
  go_ret
  exact ⟨rfl, HB2.out⟩

theorem walk (xs : Array Value) (X : Nat → Int) (s m n : Int) (a : Option Addr) (len cap : Nat) (zs : List Int) (w : World) (hxs : xs.size = 2048) (hx : ∀ i, i < 2048 → xs[i]? = some (.int .i64 (X i)))
    (hr : IsRow .u64 w a len cap zs) :
    Calls Try.prog 3 #[.agg xs, .int .i64 s, .int .i64 m, .int .i64 n, .slice a len cap] w fun e w' => e = .returned (.bool true) ∧ Below w.heap.size w w' := by
  have hmax : len ≤ maxLen := by
    rcases hr with ⟨_, h, _, _⟩ | ⟨_, _, h1, h2, _⟩
    · rw [h]; exact Nat.zero_le _
    · exact Nat.le_trans h1 h2
  by_cases h1 : len ≤ 1048576
  · by_cases h2 : len ≤ 65536
    · refine walk_in xs X s m n a len cap (fun j => zs.getD j 0) w hxs hx ?_ ?_ h2
      · intro h
        rcases hr with ⟨_, h0, _, _⟩ | ⟨x, e, hl, _, hz, hc, _⟩
        · omega
        · exact ⟨x, e, fun j hj => hc j (by omega)⟩
      · intro k hk
        rcases hr with ⟨_, h0, _, _⟩ | ⟨x, e, hl, _, hz, hc, hw⟩
        · omega
        · have hmem : zs.getD k 0 ∈ zs := by
            rw [List.getD_eq_getElem?_getD, List.getElem?_eq_getElem (by omega)]
            exact List.getElem_mem _
          exact bounds_u64 (hw _ hmem)
    · exact walk_big xs s m n a len cap w hxs hmax h1 h2
  · exact walk_far xs s m n a len cap w hxs hmax h1

/-- An array of numbers by value: its cells, each a number. -/
theorem open_arr {H : Type} {enc : TypeId × Value → H} {w : World} {base : Nat} {sp : Nat → Bool} {held : Bool} {fuel : Nat} {cs : Array Value} {x : DataW H × List MemPlace}
    (hf : DataW.trod enc Try.prog w base sp held fuel 22 cs.toList = some x) : cs.size = 2048 ∧ ∃ X : Nat → Int, ∀ i, i < 2048 → cs[i]? = some (.int .i64 (X i)) := by
  obtain ⟨ys, m, rfl, rfl, hlen, hl, hel⟩ := DataW.trod_array Try.underlying22 hf
  rw [cells22] at hlen
  have hsz : cs.size = 2048 := by simpa using hlen
  refine ⟨hsz, fun i => match cs[i]? with | some (.int _ q) => q | _ => 0, fun i hi => ?_⟩
  have h := hel i hi
  rw [cells2, Nat.mul_one, List.getElem?_eq_getElem (by rw [hl]; exact hi)] at h
  obtain ⟨q, e, _, _⟩ := DataW.trod_int Try.underlying2 h
  have e2 : cs[i]? = some (.int .i64 q) := by
    have h3 : cs.toList[i]? = some (.int .i64 q) := by
      have h4 := congrArg (fun l : List Value => l[0]?) e
      simpa [List.getElem?_take, List.getElem?_drop] using h4
    simpa using h3
  simp only [e2]

set_option maxRecDepth 100000 in
theorem lifted (os : Os) (started : os.Started) (H : Type) (enc : TypeId × Value → H) :
    ReturnsInHanded {} Try.checked os 3 .any (Rows.fnCumulativeCountsUnderEachBoundSpec.pre6 enc Try.prog Try.f3 Rows.fnCumulativeCountsUnderEachBoundRow.domain false) (Rows.fnCumulativeCountsUnderEachBoundSpec.post enc Try.prog Try.f3 false true false false) := by
  refine returnsInHanded_of_change (C := Try.checked) own started (by kernel_rfl) Try.func3
    (witness os) ?_
  intro W base args ds gs before hval0 hW hcnd _
  have hval : ∀ (j : Nat) t v, Try.f3.params[j]? = some t → args[j]? = some v → Value.okWide Try.prog W .any base t v := hval0
  have hW' := hW
  obtain ⟨p, q, hA0, hV, rfl, hfz, hnd⟩ := hW
  have hA : DataW.TrodAll enc Try.prog W 0 (fun _ => true) true Try.f3.params.toList args.toList ds p := hA0
  rw [Try.params3] at hA hval
  obtain ⟨v0, vs0, d0, ds0, p0, q0, hargs, rfl, rfl, h0, r0⟩ := trodAll_cons hA
  obtain ⟨v1, vs1, d1, ds1, p1, q1, rfl, rfl, rfl, h1, r1⟩ := trodAll_cons r0
  obtain ⟨v2, vs2, d2, ds2, p2, q2, rfl, rfl, rfl, h2, r2⟩ := trodAll_cons r1
  obtain ⟨v3, vs3, d3, ds3, p3, q3, rfl, rfl, rfl, h3, r3⟩ := trodAll_cons r2
  obtain ⟨v4, vs4, d4, ds4, p4, q4, rfl, rfl, rfl, h4, r4⟩ := trodAll_cons r3
  obtain ⟨rfl, rfl, rfl⟩ := trodAll_nil r4
  obtain rfl : args = #[v0, v1, v2, v3, v4] := by cases args; simp_all
  obtain ⟨rfl, rfl⟩ := trodVars_none hV
  obtain ⟨cs, rfl, hsz, _⟩ : ∃ cs, v0 = .agg cs ∧ cs.size = Try.prog.cellsOf 22 ∧ Row.okWide Try.prog W .any base 22 cs := by
    have := hval 0 22 v0 rfl rfl
    simpa [Value.okWide, Try.underlying22] using this
  have k0 := h0
  have lt0 : ∀ x ∈ p0, x.block < W.heap.size := by obtain ⟨mm, hm⟩ := k0; exact DataW.trod_lt mm _ _ _ hm
  obtain ⟨hxs, X, hx⟩ : cs.size = 2048 ∧ ∃ X : Nat → Int, ∀ i, i < 2048 → cs[i]? = some (.int .i64 (X i)) := by
    obtain ⟨fuel, hf⟩ := h0
    exact open_arr hf
  have k1 := h1
  have lt1 : ∀ x ∈ p1, x.block < W.heap.size := by obtain ⟨mm, hm⟩ := k1; exact DataW.trod_lt mm _ _ _ hm
  have k2 := h2
  have lt2 : ∀ x ∈ p2, x.block < W.heap.size := by obtain ⟨mm, hm⟩ := k2; exact DataW.trod_lt mm _ _ _ hm
  have k3 := h3
  have lt3 : ∀ x ∈ p3, x.block < W.heap.size := by obtain ⟨mm, hm⟩ := k3; exact DataW.trod_lt mm _ _ _ hm
  obtain ⟨a1, rfl, _, _, w1⟩ := open_int Try.underlying2 (hval 1 2 v1 rfl rfl) h1
  obtain ⟨a2, rfl, _, _, w2⟩ := open_int Try.underlying2 (hval 2 2 v2 rfl rfl) h2
  obtain ⟨a3, rfl, _, _, w3⟩ := open_int Try.underlying2 (hval 3 2 v3 rfl rfl) h3
  obtain ⟨a4, len4, cap4, rfl⟩ := okWide_slice Try.underlying23 (hval 4 23 v4 rfl rfl)
  have k4 := h4
  have lt4 : ∀ x ∈ p4, x.block < W.heap.size := by obtain ⟨mm, hm⟩ := k4; exact DataW.trod_lt mm _ _ _ hm
  obtain ⟨z4, w4⟩ : ∃ zs, IsRow .u64 W a4 len4 cap4 zs := by
    obtain ⟨fuel, hf⟩ := h4
    rcases open_ints Try.underlying23 Try.underlying25 (by kernel_rfl) hf with ⟨hcs, _⟩ | ⟨x, l, c, zs, hcs, _, hl, hm, hz, _, hcell, hwz⟩
    · simp [Value.cells] at hcs
      obtain ⟨rfl, rfl, rfl⟩ := hcs
      exact ⟨[], .inl ⟨rfl, rfl, rfl, rfl⟩⟩
    · simp [Value.cells] at hcs
      obtain ⟨rfl, rfl, rfl⟩ := hcs
      exact ⟨zs, .inr ⟨_, rfl, hl, hm, by simpa using hz, hcell, hwz⟩⟩
  clear hA0 hval0
  refine (walk cs X a1 a2 a3 a4 len4 cap4 z4 W hxs hx w4).mono fun e W' ⟨he, bel⟩ => ?_
  subst he
  exact ⟨_, rfl, _, _, _, [], _, [], hW', trodAll_mk1 (shut_bool Try.underlying4 _),
    (trodAll_cons_mk (Below.trod laidOut (by kernel_rfl) (of_decide_eq_true (by kernel_rfl)) k0 bel lt0) (trodAll_cons_mk (Below.trod laidOut (by kernel_rfl) (of_decide_eq_true (by kernel_rfl)) k1 bel lt1) (trodAll_cons_mk (Below.trod laidOut (by kernel_rfl) (of_decide_eq_true (by kernel_rfl)) k2 bel lt2) (trodAll_cons_mk (Below.trod laidOut (by kernel_rfl) (of_decide_eq_true (by kernel_rfl)) k3 bel lt3) (trodAll_cons_mk (Below.trod laidOut (by kernel_rfl) (of_decide_eq_true (by kernel_rfl)) k4 bel lt4) trodAll_mk0))))), rfl, bel.frame _, fun h => by cases h⟩

theorem over : Rows.fnCumulativeCountsUnderEachBoundRow.holds Try.pinned (OpenSpec.ofChange Rows.fnCumulativeCountsUnderEachBoundSpec) :=
  OpenClaim.holds_of_wide 3 Try.f3 rfl rfl rfl rfl rfl rfl rfl ⟨rfl, rfl, rfl, rfl, rfl⟩ rfl rfl rfl rfl rfl (by kernel_rfl) Try.func3 (by kernel_rfl)
    (of_decide_eq_true (by kernel_rfl)) (by unfold Func.isWrapper; first | (rw [if_pos (by decide +kernel)]; kernel_rfl) | (rw [if_neg (by decide +kernel)]; exact ⟨rfl, rfl⟩))
    (fun os started H enc _ => lifted os started H enc)

theorem proved : Rows.FnCumulativeCountsUnderEachBoundSaid :=
  over
#print axioms proved
end Go.Proofs.Qxb6623502a.fnCumulative
