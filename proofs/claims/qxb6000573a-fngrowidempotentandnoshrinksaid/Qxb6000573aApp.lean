/- 'append(x, make([]uint64, m)...)': the translation's append of m zeros. -/
import Derived.Test.Qxb6000573aMem
import Derived.Deep.RegionHeld3
import Derived.Deep.AppendLies
namespace Go.Proofs.Qxb6000573a
open Go.RowKit

theorem info40 : (Try.prog.info? 40).map (fun i => (i.zero, i.size, i.bytes)) = some (some (.int .u64 0), 1, 8) := by kernel_rfl
theorem info32 : (Try.prog.info? 32).map (fun i => (i.zero, i.size, i.bytes)) = some (some (.slice none 0 0), 1, 24) := by kernel_rfl

theorem zeros_size (m : Nat) : (Builtin.zeroCells (Value.int .u64 0).cells m).size = m := by
  rw [size_zeroCells]; exact Nat.mul_one m

theorem zeros_get (m j : Nat) (h : j < m) : (Builtin.zeroCells (Value.int .u64 0).cells m)[j]? = some (.int .u64 0) := by
  have hs : (Value.int .u64 0).cells.size = 1 := rfl
  simp only [Builtin.zeroCells, Array.getElem?_map, hs]
  rw [Array.getElem?_range, if_pos (by omega)]
  simp [Value.cells, Nat.mod_one]

theorem AllU_zeros (m : Nat) : AllU (Builtin.zeroCells (Value.int .u64 0).cells m) := fun j hj => by
  rw [zeros_size] at hj
  exact ⟨0, zeros_get m j hj⟩

theorem AllU_append {a b : Array Value} (ha : AllU a) (hb : AllU b) : AllU (a ++ b) := fun j hj => by
  rw [Array.getElem?_append]
  split
  · rename_i h; exact ha j h
  · rename_i h
    rw [Array.size_append] at hj
    exact hb (j - a.size) (by omega)

theorem zeros_one (m : Nat) : ∀ v ∈ (Builtin.zeroCells (Value.int .u64 0).cells m).toList, v.oneCell' = true := by
  intro v hv
  obtain ⟨j, hj, e⟩ := List.getElem_of_mem hv
  have h1 := zeros_get m j (by rw [Array.length_toList, zeros_size] at hj; exact hj)
  have h2 : (Builtin.zeroCells (Value.int .u64 0).cells m)[j]? = some v := by
    rw [← Array.getElem?_toList, List.getElem?_eq_getElem hj, e]
  rw [h1] at h2
  simp at h2
  rw [← h2]
  rfl

theorem AllU_iff (cur : Array Value) : AllU cur ↔ ∀ v ∈ cur.toList, ∃ n : Int, v = .int .u64 n := by
  constructor
  · intro h v hv
    obtain ⟨j, hj, e⟩ := List.getElem_of_mem hv
    obtain ⟨n, hn⟩ := h j (by simpa using hj)
    rw [← Array.getElem?_toList, List.getElem?_eq_getElem hj, e] at hn
    exact ⟨n, by simpa using hn⟩
  · intro h j hj
    obtain ⟨n, hn⟩ := h cur[j] (by simp)
    exact ⟨n, by rw [Array.getElem?_eq_getElem hj, hn]⟩

theorem run_append_zeros (w : World) (S g n c m : Nat) (hr : URow w g c) (hn : n ≤ c) (hSg : S ≤ g) (hm : 0 < m) (hb : n + m ≤ 2000) (ty : TypeId) :
    ∃ g' c' w', (Builtin.append_ #[32, 3] ty #[.slice (some ⟨g, 0, none⟩) n c, .int .i64 m]).run Try.prog w = .ok (.slice (some ⟨g', 0, none⟩) (n + m) c') w' ∧ URow w' g' c' ∧ n + m ≤ c' ∧ S ≤ g' ∧ UK S w w' := by
  obtain ⟨i, hi, hz0, hz1, hz2⟩ := info_parts info40
  obtain ⟨cur, h1, h2, h3⟩ := hr
  have hlt := lt_of_heap h1
  have e3 : Try.prog.underlying 3 = some (.int .i64) := Try.underlying3
  have e32 : Try.prog.underlying 32 = some (.slice 40) := Try.underlying32
  have hl0 : ¬ ((m : Int) < 0) := by omega
  have hw : IntKind.i64.wrap (m : Int) = m := by rw [IntKind.wrap_i64]; omega
  have h48 : ¬ (281474976710656 < (m : Int) * 8) := by omega
  have hm0 : m ≠ 0 := by omega
  by_cases hroom : n + m ≤ c
  · have hst := run_storeCells_at Try.prog g n 40 (Builtin.zeroCells (Value.int .u64 0).cells m).toList 0 cur w h1 (by rw [Array.length_toList, zeros_size]; omega) (zeros_one m)
    simp only [Nat.add_zero] at hst
    refine ⟨g, c, w.setRow g (cur.toList.take n ++ (Builtin.zeroCells (Value.int .u64 0).cells m).toList ++ cur.toList.drop (n + (Builtin.zeroCells (Value.int .u64 0).cells m).toList.length)).toArray, ?_, ?_, hroom, hSg, ?_⟩
    · simp [Builtin.append_, run_underlying e32, run_underlying e3, sizeOf, typeInfo, zeroValue, hi, hz0, hz1, hz2, asInt, asIntOf, hw, hl0, h48, hm0, hroom, Addr.add_lit, hst]
    · refine ⟨_, setRow_heap w g cur _ 40 (0, 0) h1, ?_, ?_⟩
      · simp only [List.size_toArray, List.length_append, List.length_take, List.length_drop, Array.length_toList, zeros_size]
        omega
      · rw [AllU_iff]
        have q1 := (AllU_iff _).1 h3
        have q2 := (AllU_iff _).1 (AllU_zeros m)
        intro v hv
        rcases List.mem_append.1 hv with hv | hv
        · rcases List.mem_append.1 hv with hv | hv
          · exact q1 v (List.mem_of_mem_take hv)
          · exact q2 v hv
        · exact q1 v (List.mem_of_mem_drop hv)
    · refine ⟨⟨rfl, rfl, rfl, by simp, fun k hk => setRow_other w g k _ (by omega)⟩, fun k hk => ?_⟩
      by_cases e : k = g
      · subst e
        refine .inr ⟨cur, _, h1, setRow_heap w k cur _ 40 (0, 0) h1, ?_, fun _ => ?_⟩
        · simp only [List.size_toArray, List.length_append, List.length_take, List.length_drop, Array.length_toList, zeros_size]
          omega
        · rw [AllU_iff]
          have q1 := (AllU_iff _).1 h3
          have q2 := (AllU_iff _).1 (AllU_zeros m)
          intro v hv
          rcases List.mem_append.1 hv with hv | hv
          · rcases List.mem_append.1 hv with hv | hv
            · exact q1 v (List.mem_of_mem_take hv)
            · exact q2 v hv
          · exact q1 v (List.mem_of_mem_drop hv)
      · exact .inl (setRow_other w g k _ e)
  · have hnroom : ¬ (n + m ≤ c) := hroom
    have h63' : ¬ (9223372036854775807 < (n : Int) + (m : Int)) := by omega
    have h48' : ¬ (281474976710656 < Builtin.nextslicecap (n + m) c * 8) := by have := growslice_fits (need := n + m) (old := c) (bytes := 8) (by omega) (by omega); omega
    have hfo := run_firstCells_some (P := Try.prog) w.drew 1 n ⟨g, 0, none⟩ n c (cur.toList.take n) (by simp; omega) (by
      intro j v hv
      have hj : j < n := by
        have := (List.getElem?_eq_some_iff.1 hv).1
        simp at this
        omega
      have hadd : (⟨g, 0, none⟩ : Addr).add j = ⟨g, j, none⟩ := by unfold Addr.add; split <;> simp_all
      rw [hadd]
      show w.cell? ⟨g, j, none⟩ = some v
      rw [cell_of_row w g j cur 40 (0, 0) h1]
      simpa [hj] using hv)
    refine ⟨w.heap.size, grownCap w (n + m) c 40, w.drew.alloc (.cells ((cur.toList.take n).toArray ++ (Builtin.zeroCells (Value.int .u64 0).cells m) ++ Builtin.zeroCells (Value.int .u64 0).cells (grownCap w (n + m) c 40 - (n + m))) 40), ?_, ?_, ?_, ?_, ?_⟩
    · simp [Builtin.append_, run_underlying e32, run_underlying e3, sizeOf, typeInfo, zeroValue, hi, hz0, hz1, hz2, asInt, asIntOf, hw, hl0, h48, hm0, hnroom, h63', h48', Question.forced, hfo, newRow, grownCap]
    · refine ⟨_, heap_alloc_new w.drew _, ?_, ?_⟩
      · simp only [Array.size_append, List.size_toArray, List.length_take, Array.length_toList, zeros_size]
        have := grownCap_ge w (n + m) c 40
        omega
      · refine AllU_append (AllU_append ?_ (AllU_zeros _)) (AllU_zeros _)
        rw [AllU_iff]
        exact fun v hv => (AllU_iff _).1 h3 v (List.mem_of_mem_take (by simpa using hv))
    · exact grownCap_ge w (n + m) c 40
    · omega
    · exact ((UK.refl S w).drew).alloc (by simp; omega) _

end Go.Proofs.Qxb6000573a
