/- 'ZZTree': the input copied, the probabilities copied, 'tree', the probabilities copied back. -/
import Derived.Test.Qxb6001347aTree
import Derived.Test.Qxb6001347aZero
import Derived.Laws.CopyOwn
namespace Go.Proofs.Qxb6001347a
open Go.RowKit Plain

theorem run_zero59 (w : World) : (zeroValue 59).run Try.prog w = .ok (.agg zb) w := by
  have h : (typeInfo 59).run Try.prog w = .ok Try.t59 w := Try.typeInfo59 w
  simp only [zeroValue, Sem.run_bind, h, Result.andThen, t59_zero, Sem.run_pure]

theorem run_alloc59 (w : World) : (Instr.alloc 59 true (.tuple #[])).run Try.prog w = .ok (.pointer (some ⟨w.heap.size, 0, none⟩)) (w.alloc (.cells zb 59)) := by
  have hc : (Value.agg zb).cells = zb := rfl
  simp [Instr.alloc, run_zero59, newVar, newRow, hc]

theorem wpList_alloc59 {w : World} {ops : Array Oper} {rest : List Oper} {o : Oper} {a : Act} {Q : Exit → Act → World → Prop} (hgd : o.guard = none) (hop : o.op = Op.alloc 59) (Z : Array Value) (hZ : zb = Z)
    (h : wpList Try.prog ops Q rest (a.put o.dst (.pointer (some ⟨w.heap.size, 0, none⟩))) (w.alloc (.cells Z 59))) : wpList Try.prog ops Q (o :: rest) a w := by
  subst hZ
  refine wpList_plain hgd fun K hK => ?_
  have hrun := run_alloc59 w
  unfold Oper.wp
  simp [execOp, hop, hrun, Result.andThen]
  exact hK _ _ h

/-- new numbers, all 0 -/
def uz (n : Nat) : Array Value := madeCells (Value.int .u16 0).cells n
theorem size_uz (n : Nat) : (uz n).size = n := size_madeCells _ _
theorem info52 : (Try.prog.info? 52).map (fun i => (i.zero, i.size, i.bytes)) = some (some (.int .u16 0), 1, 2) := by kernel_rfl
theorem info30 : (Try.prog.info? 30).map (fun i => (i.zero, i.size, i.bytes)) = some (some (.int .u16 0), 1, 2) := by kernel_rfl
theorem run_mk60 (n : Nat) (hn : n ≤ 65536) (w : World) : (Instr.makeSlice 60 (.int .i64 (n : Int)) (.int .i64 (n : Int))).run Try.prog w = .ok (.slice (some ⟨w.heap.size, 0, none⟩) n n) (w.alloc (.cells (uz n) 52)) := by
  obtain ⟨i, hi, hz0, hz1, hz2⟩ := info_parts info52
  have hr := run_make (P := Try.prog) w 60 52 i (.int .u16 0) Try.underlying60 hi hz0 .i64 .i64 n n (by omega) (by omega) (by rw [hz2]; omega) (by omega)
  rw [hz1] at hr
  simpa [uz] using hr
theorem run_mk37 (n : Nat) (hn : n ≤ 65536) (w : World) : (Instr.makeSlice 37 (.int .i64 (n : Int)) (.int .i64 (n : Int))).run Try.prog w = .ok (.slice (some ⟨w.heap.size, 0, none⟩) n n) (w.alloc (.cells (uz n) 30)) := by
  obtain ⟨i, hi, hz0, hz1, hz2⟩ := info_parts info30
  have hr := run_make (P := Try.prog) w 37 30 i (.int .u16 0) Try.underlying37 hi hz0 .i64 .i64 n n (by omega) (by omega) (by rw [hz2]; omega) (by omega)
  rw [hz1] at hr
  simpa [uz] using hr

/-- the copy of n probabilities P into block B (of type t) as far as it has come -/
def Cp (t B n : Nat) (P : List Nat) (k : Nat) (w wr : World) : Prop :=
  (∃ cur : Array Value, wr.heap[B]? = some (.cells cur t (0, 0)) ∧ cur.size = n ∧ ∀ j, j < k → cur[j]? = some (.int .u16 ((P.getD j 0 : Nat) : Int))) ∧ Below B w wr

theorem Cp.step {t B n : Nat} {P : List Nat} {k : Nat} {w wr : World} (h : Cp t B n P k w wr) (hk : k < n) :
    Cp t B n P (k + 1) w (wr.setCell ⟨B, k, none⟩ (.int .u16 ((P.getD k 0 : Nat) : Int))) := by
  obtain ⟨⟨cur, h1, h2, h3⟩, hb⟩ := h
  refine ⟨⟨_, heap_setCell_same h1, by simpa using h2, fun j hj => ?_⟩, hb.setCell (Nat.le_refl _) _⟩
  rw [Array.getElem?_setIfInBounds]
  split
  · rename_i e
    subst e
    rw [if_pos (by omega)]
  · rename_i e
    exact h3 j (by omega)

theorem Cp.start (t n : Nat) (P : List Nat) (w : World) : Cp t w.heap.size n P 0 w (w.alloc (.cells (uz n) t)) :=
  ⟨⟨uz n, heap_alloc_new w _, size_uz n, fun j hj => by omega⟩, (Below.refl _ w).alloc (Nat.le_refl _) _⟩

theorem Cp.done {t B n : Nat} {P : List Nat} {w wr : World} (h : Cp t B n P n w wr) (hl : P.length = n) : wr.heap[B]? = some (.cells (pv P) t (0, 0)) := by
  obtain ⟨⟨cur, h1, h2, h3⟩, hb⟩ := h
  rw [h1]
  have : cur = pv P := by
    apply Array.ext_getElem?
    intro j
    by_cases hj : j < n
    · rw [h3 j hj, pv_get P j (by omega)]
    · rw [Array.getElem?_eq_none (by omega), Array.getElem?_eq_none (by simp [pv]; omega)]
  rw [this]

theorem Cp.facts {t B n : Nat} {P : List Nat} {k : Nat} {w wr : World} (h : Cp t B n P k w wr) (hk : k < n) : (∃ u, wr.cell? ⟨B, k, none⟩ = some u) ∧ wr.frozen? ⟨B, k, none⟩ = false := by
  obtain ⟨⟨cur, h1, h2, h3⟩, hb⟩ := h
  refine ⟨⟨cur[k]'(by omega), ?_⟩, by simp [World.frozen?, h1]⟩
  rw [cell_of_row wr B k _ t (0, 0) h1, Array.getElem?_eq_getElem (by omega)]

end Go.Proofs.Qxb6001347a
