/- ring.Between at three arrays of 20 bytes: it returns what 'Plain.betw' says; it makes three boxes and draws, nothing more. -/
import Derived.Test.Qxb6000078aCmp
import Derived.Deep.QuietTactic
import Derived.Deep.RegionWith
import Derived.BigQuiet
namespace Go.Proofs.Qxb6000078a
open Go.RowKit Plain

theorem three_new (w : World) (X A B : Obj) :
    (((w.alloc X).alloc A).alloc B).heap[w.heap.size]? = some X ∧ (((w.alloc X).alloc A).alloc B).heap[w.heap.size + 1]? = some A ∧ (((w.alloc X).alloc A).alloc B).heap[w.heap.size + 1 + 1]? = some B ∧
    Below w.heap.size w (((w.alloc X).alloc A).alloc B) := by
  refine ⟨?_, ?_, ?_, ?_⟩
  · show (((w.heap.push X).push A).push B)[w.heap.size]? = _
    simp only [Array.getElem?_push, Array.size_push]
    rw [if_neg (by omega), if_neg (by omega), if_pos trivial]
  · show (((w.heap.push X).push A).push B)[w.heap.size + 1]? = _
    simp only [Array.getElem?_push, Array.size_push]
    rw [if_neg (by omega), if_pos trivial]
  · show (((w.heap.push X).push A).push B)[w.heap.size + 1 + 1]? = _
    simp only [Array.getElem?_push, Array.size_push]
    rw [if_pos trivial]
  · exact (((Below.refl _ _).alloc (Nat.le_refl _) _).alloc (by simp) _).alloc (by simp; omega) _

theorem heap_drewN (w : World) (n : Nat) : (w.drewN n).heap = w.heap := by
  induction n with
  | zero => rfl
  | succ n ih => exact ih

theorem below_drewN' {B : Nat} {a w : World} (n : Nat) (h : Below B a w) : Below B a (w.drewN n) := by
  induction n with
  | zero => exact h
  | succ n ih => exact ih.drew

/-- the three boxes lie in W -/
structure Three (w W : World) (x a b : List UInt8) : Prop where
  x : W.heap[w.heap.size]? = some (.cells (bcs x) 25 (0, 0))
  a : W.heap[w.heap.size + 1]? = some (.cells (bcs a) 25 (0, 0))
  b : W.heap[w.heap.size + 1 + 1]? = some (.cells (bcs b) 25 (0, 0))
  bel : Below w.heap.size w W

theorem Three.drewN {w W : World} {x a b : List UInt8} (h : Three w W x a b) (n : Nat) : Three w (W.drewN n) x a b :=
  ⟨by rw [heap_drewN]; exact h.x, by rw [heap_drewN]; exact h.a, by rw [heap_drewN]; exact h.b, below_drewN' n h.bel⟩

theorem three_boxes (w : World) (x a b : List UInt8) : Three w (((w.alloc (.cells (bcs x) 25)).alloc (.cells (bcs a) 25)).alloc (.cells (bcs b) 25)) x a b := by
  obtain ⟨h1, h2, h3, h4⟩ := three_new w (.cells (bcs x) 25) (.cells (bcs a) 25) (.cells (bcs b) 25)
  exact ⟨h1, h2, h3, h4⟩

set_option maxHeartbeats 1000000 in
theorem between_any (w : World) (x a b : List UInt8) (hx : x.length = 20) (ha : a.length = 20) (hb : b.length = 20) :
    Calls Try.prog 16 #[.agg (bcs x), .agg (bcs a), .agg (bcs b)] w fun e w' => e = .returned (.bool (betw x a b)) ∧ Below w.heap.size w w' := by
  have c1 : Hid (∀ W : World, Three w W x a b → Calls Try.prog 21 #[.slice (some ⟨w.heap.size + 1, 0, none⟩) 20 20, .slice (some ⟨w.heap.size + 1 + 1, 0, none⟩) 20 20] W fun e w' => e = .returned (.int .i64 (Lib.compareBytes a b)) ∧ w' = W) :=
    fun W hh => compare_any W (w.heap.size + 1) (w.heap.size + 1 + 1) a b 25 25 (0, 0) (0, 0) ha hb hh.a hh.b
  have c2 : Hid (∀ W : World, Three w W x a b → Calls Try.prog 21 #[.slice (some ⟨w.heap.size + 1, 0, none⟩) 20 20, .slice (some ⟨w.heap.size, 0, none⟩) 20 20] W fun e w' => e = .returned (.int .i64 (Lib.compareBytes a x)) ∧ w' = W) :=
    fun W hh => compare_any W (w.heap.size + 1) (w.heap.size) a x 25 25 (0, 0) (0, 0) ha hx hh.a hh.x
  have c3 : Hid (∀ W : World, Three w W x a b → Calls Try.prog 21 #[.slice (some ⟨w.heap.size, 0, none⟩) 20 20, .slice (some ⟨w.heap.size + 1 + 1, 0, none⟩) 20 20] W fun e w' => e = .returned (.int .i64 (Lib.compareBytes x b)) ∧ w' = W) :=
    fun W hh => compare_any W (w.heap.size) (w.heap.size + 1 + 1) x b 25 25 (0, 0) (0, 0) hx hb hh.x hh.b
  have eb : betw x a b = if Lib.compareBytes a b < 0 then decide (Lib.compareBytes a x < 0) && decide (Lib.compareBytes x b ≤ 0) else decide (Lib.compareBytes a x < 0) || decide (Lib.compareBytes x b ≤ 0) := rfl
  rw [eb]
  have H3 : Hid _ := three_boxes w x a b
  clear eb hx ha hb
  generalize Lib.compareBytes a b = C1 at c1 ⊢
  generalize Lib.compareBytes a x = C2 at c2 ⊢
  generalize Lib.compareBytes x b = C3 at c3 ⊢
  by_cases h1 : C1 < 0 <;> by_cases h2 : C2 < 0
  all_goals
    simp only [h1, h2, if_true, if_false, decide_true, decide_false, Bool.true_and, Bool.false_and, Bool.true_or, Bool.false_or]
    first | have d1 := decide_eq_false h1 | have d1 := decide_eq_true h1
    first | have d2 := decide_eq_false h2 | have d2 := decide_eq_true h2
    clear h1 h2
    go_enter Try.func16, Try.ntmps16
    go_wp2
    have h3 := H3.out
    generalize (((w.alloc (.cells (bcs x) 25)).alloc (.cells (bcs a) 25)).alloc (.cells (bcs b) 25)) = W3 at h3 ⊢
    have K3 : Hid _ := h3
    clear h3 H3
    go_quiet ((go_at_call 21; exact Calls.quiet_of_same (c1.out _ (K3.out.drewN _))))
    have h4 := K3.out.drewN nq
    generalize W3.drewN nq = W4 at h4 ⊢
    have K4 : Hid _ := h4
    clear h4
    go_wp2
    go_quiet ((go_at_call 21; first | (with_reducible exact Calls.quiet_of_same (c3.out _ (K4.out.drewN _))) | (with_reducible exact Calls.quiet_of_same (c2.out _ (K4.out.drewN _)))))
    go_wp2
    go_ret
    exact ⟨rfl, below_drewN' _ K4.out.bel⟩
end Go.Proofs.Qxb6000078a
