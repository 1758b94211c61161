/- The levels, copied. -/
import Derived.Test.Qxb6000573aRun
namespace Go.Proofs.Qxb6000573a
open Go.RowKit Plain

/-- new slices, all nil -/
def sz (n : Nat) : Array Value := madeCells (Value.slice none 0 0).cells n
theorem size_sz (n : Nat) : (sz n).size = n := size_madeCells _ _
theorem run_mk26 (n : Nat) (hn : n ≤ 2000) (w : World) : (Instr.makeSlice 26 (.int .i64 (n : Int)) (.int .i64 (n : Int))).run Try.prog w = .ok (.slice (some ⟨w.heap.size, 0, none⟩) n n) (w.alloc (.cells (sz n) 32)) := by
  obtain ⟨i, hi, hz0, hz1, hz2⟩ := info_parts info32
  have hr := run_make (P := Try.prog) w 26 32 i (.slice none 0 0) Try.underlying26 hi hz0 .i64 .i64 n n (by omega) (by omega) (by rw [hz2]; omega) (by omega)
  rw [hz1] at hr
  simpa [sz] using hr

/-- the copy's outer row, its first k levels copied -/
structure CL (w : World) (ls : List Lv) (k : Nat) (wr : World) : Prop where
  bel : Below w.heap.size w wr
  row : ∃ cur : Array Value, wr.heap[w.heap.size]? = some (.cells cur 32 (0, 0)) ∧ cur.size = ls.length ∧ ∀ k' (h : k' < ls.length), k' < k → ∃ H, cur[k']? = some (.slice (some ⟨H, 0, none⟩) ls[k'].n ls[k'].n) ∧ w.heap.size < H ∧ H < wr.heap.size ∧
    ∀ j, j < ls[k'].n → wr.cell? ⟨H, j, none⟩ = w.cell? ⟨ls[k'].g, j, none⟩

/-- one level's copy, its first j words copied; wo: the world ahead of its making -/
structure CJ (w wo : World) (g n j : Nat) (wr : World) : Prop where
  bel : Below wo.heap.size wo wr
  row : ∃ cu : Array Value, wr.heap[wo.heap.size]? = some (.cells cu 40 (0, 0)) ∧ cu.size = n ∧ ∀ j', j' < j → cu[j']? = w.cell? ⟨g, j', none⟩

theorem CL.start (w : World) (ls : List Lv) : CL w ls 0 (w.alloc (.cells (sz ls.length) 32)) :=
  ⟨(Below.refl _ _).alloc (Nat.le_refl _) _, ⟨sz ls.length, heap_alloc_new w _, size_sz _, fun k' _ h => by omega⟩⟩

theorem CJ.start (w wo : World) (g n : Nat) : CJ w wo g n 0 (wo.alloc (.cells (uz n) 40)) :=
  ⟨(Below.refl _ _).alloc (Nat.le_refl _) _, ⟨uz n, heap_alloc_new wo _, size_uz _, fun j' h => by omega⟩⟩

theorem CJ.step {w wo wr : World} {g n j : Nat} (h : CJ w wo g n j wr) (hj : j < n) (v : Value) (hv : w.cell? ⟨g, j, none⟩ = some v) : CJ w wo g n (j + 1) (wr.setCell ⟨wo.heap.size, j, none⟩ v) := by
  obtain ⟨hb, cu, h1, h2, h3⟩ := h
  refine ⟨hb.setCell (Nat.le_refl _) _, ⟨_, heap_setCell_same h1, by simpa using h2, fun j' hj' => ?_⟩⟩
  rw [Array.getElem?_setIfInBounds]
  split
  · rename_i e
    subst e
    rw [if_pos (by omega), hv]
  · exact h3 j' (by omega)

theorem CL.step {w wo wr : World} {ls : List Lv} {k : Nat} (h : CL w ls k wo) (hk : k < ls.length) (hj : CJ w wo ls[k].g ls[k].n ls[k].n wr) :
    CL w ls (k + 1) (wr.setCell ⟨w.heap.size, k, none⟩ (.slice (some ⟨wo.heap.size, 0, none⟩) ls[k].n ls[k].n)) := by
  obtain ⟨hb, cur, h1, h2, h3⟩ := h
  obtain ⟨gb, cu, g1, g2, g3⟩ := hj
  have hlt := lt_of_heap h1
  have hlt2 := lt_of_heap g1
  have h1' : wr.heap[w.heap.size]? = some (.cells cur 32 (0, 0)) := by rw [gb.block _ hlt]; exact h1
  have hC : ∀ (H j : Nat), H ≠ w.heap.size → (wr.setCell ⟨w.heap.size, k, none⟩ (.slice (some ⟨wo.heap.size, 0, none⟩) ls[k].n ls[k].n)).cell? ⟨H, j, none⟩ = wr.cell? ⟨H, j, none⟩ := by
    intro H j hne
    exact World.cell?_of_block (Below.heap_setCell _ _ _ _ hne)
  refine ⟨(hb.trans (gb.mono (by have := hb.size; omega))).setCell (Nat.le_refl _) _, ⟨_, heap_setCell_same h1', by simpa using h2, fun k' hk' hlt' => ?_⟩⟩
  rw [Array.getElem?_setIfInBounds]
  split
  · rename_i e
    subst e
    rw [if_pos (by omega)]
    refine ⟨wo.heap.size, rfl, hlt, by simpa using hlt2, fun j hj => ?_⟩
    rw [hC _ _ (by omega), cell_of_row wr _ j cu 40 (0, 0) g1]
    exact g3 j hj
  · rename_i e
    obtain ⟨H, q1, q2, q3, q4⟩ := h3 k' hk' (by omega)
    refine ⟨H, q1, q2, by have := gb.size; simp; omega, fun j hj => ?_⟩
    rw [hC _ _ (by omega), gb.cell (p := ⟨H, j, none⟩) q3]
    exact q4 j hj

def ClonedL (e : Ending) (w : World) (ls : List Lv) (w' : World) : Prop := e = .returned (.slice (some ⟨w.heap.size, 0, none⟩) ls.length ls.length) ∧ CL w ls ls.length w'

set_option maxRecDepth 10000 in
set_option maxHeartbeats 1000000 in
theorem cloneLevels_any (S : Nat) (w : World) (ao : Option Addr) (cap : Nat) (ls : List Lv) (h : SetAt S w ao cap ls) (hgd : Gd (lens ls)) (hbd : ∀ x ∈ (lens ls).head?, x ≤ 1025) :
    Calls Try.prog 21 #[.slice ao ls.length cap] w fun e w' => ClonedL e w ls w' := by
  obtain ⟨hn, hlen, hpos⟩ := lens_bd hgd hbd
  have hnil := fun (x : Option Addr) (l cc : Nat) (v : World) => Lib.run_eql_slice_nil (P := Try.prog) v 26 32 x l cc 0 0 Try.underlying26
  have hmk := run_mk26 ls.length (by omega)
  obtain ⟨G, rfl, hSG, hcap, hfr, hcell⟩ := h.at hpos
  have HI : Hid _ := h
  have HN : Hid _ := hn
  have HC : Hid _ := hcell
  have HST : Hid _ := CL.start w ls
  have hGlt : G < w.heap.size := by have := hcell 0 hpos; exact World.block_lt_of_cell? w _ this
  clear h hgd hbd hn hcell hfr hcap hSG
  go_enter Try.func21, Try.ntmps21
  go_wp2
  go_loopw [4] (fun i wr => ∃ k : Nat, k ≤ ls.length ∧ i = .int .i64 k ∧ CL w ls k wr) (fun i _ => ls.length - (intOf i).toNat)
  case atStart => exact ⟨0, Nat.zero_le _, rfl, HST.out⟩
  case round =>
    obtain ⟨k, hk, rfl, hcl⟩ := hrel
    have HL : Hid _ := hcl
    by_cases hlt : k < ls.length
    · have hck : wr.cell? ⟨G, k, none⟩ = some (.slice (some ⟨ls[k].g, 0, none⟩) ls[k].n ls[k].c) := by rw [hcl.bel.cell (p := ⟨G, k, none⟩) hGlt]; exact HC.out k hlt
      have hnk := HN.out ls[k] (List.getElem_mem hlt)
      have hin := HI.out.inner ls[k] (List.getElem_mem hlt)
      have hmk2 := run_mk ls[k].n (by omega)
      have HSTJ : Hid _ := CJ.start w wr ls[k].g ls[k].n
      have HSTEP : Hid (∀ wz, CJ w wr ls[k].g ls[k].n ls[k].n wz → CL w ls (k + 1) (wz.setCell ⟨w.heap.size, k, none⟩ (.slice (some ⟨wr.heap.size, 0, none⟩) ls[k].n ls[k].n))) := fun wz hz => HL.out.step hlt hz
      obtain ⟨cur, hrow, hcs, hrest⟩ := hcl.row
      have HROW : Hid (∃ v, ∀ wz, Below wr.heap.size wr wz → wz.cell? ⟨w.heap.size, k, none⟩ = some v ∧ wz.frozen? ⟨w.heap.size, k, none⟩ = false) := ⟨cur[k], fun wz hz => by
        have hb := hz.block w.heap.size (lt_of_heap hrow)
        rw [hrow] at hb
        exact ⟨by rw [cell_of_row wz _ k cur 32 (0, 0) hb]; simp, frozen_of_open hb⟩⟩
      have hwlt : w.heap.size < wr.heap.size := lt_of_heap hrow
      have HB : Hid _ := hcl.bel
      clear hcl hrow hcs hrest cur HL hmk HST
      have hglt : ls[k].g < w.heap.size := by obtain ⟨cu, q, _⟩ := hin.2.2.2; exact lt_of_heap q
      have HW : Hid (∀ j, j < ls[k].n → ∃ v : Int, w.cell? ⟨ls[k].g, j, none⟩ = some (.int .u64 v)) := fun j hj => hin.2.2.2.cell j (by have := hin.2.2.1; omega)
      clear hin
      generalize ls[k].n = n at *
      generalize ls[k].g = g at *
      generalize ls[k].c = c at *
      obtain ⟨wo, rfl⟩ : ∃ wo : World, wo = wr := ⟨_, rfl⟩
      go_wp2
      go_loopw [6] (fun i wz => ∃ j : Nat, j ≤ n ∧ i = .int .i64 j ∧ CJ w wo g n j wz) (fun i _ => n - (intOf i).toNat)
      case atStart => exact ⟨0, Nat.zero_le _, rfl, HSTJ.out⟩
      case round =>
        clear HSTJ hmk2
        obtain ⟨j, hj, rfl, hcj⟩ := hrel
        have HJ : Hid _ := hcj
        have hck2 : wr.cell? ⟨G, k, none⟩ = some (.slice (some ⟨g, 0, none⟩) n c) := by rw [hcj.bel.cell (p := ⟨G, k, none⟩) (show G < wo.heap.size by omega)]; exact hck
        by_cases hjn : j < n
        · obtain ⟨v, hv⟩ := HW.out j hjn
          have HV : Hid _ := hv
          have hv2 : wr.cell? ⟨g, j, none⟩ = some (.int .u64 v) := by
            rw [hcj.bel.cell (p := ⟨g, j, none⟩) (show g < wo.heap.size by omega), HB.out.cell (p := ⟨g, j, none⟩) hglt]; exact hv
          obtain ⟨cu, q1, q2, q3⟩ := hcj.row
          have hcell : wr.cell? ⟨wo.heap.size, j, none⟩ = some cu[j] := by rw [cell_of_row wr wo.heap.size j cu 40 (0, 0) q1]; simp
          have hfr : wr.frozen? ⟨wo.heap.size, j, none⟩ = false := frozen_of_open q1
          generalize cu[j] = old at *
          clear hv hcj q1 q2 q3 hck
          go_wp2
          go_roundw
          case rel => exact ⟨j + 1, by omega, by go_num, HJ.out.step hjn _ HV.out⟩
          case measure => simp [intOf]; omega
        · obtain ⟨old, hrow⟩ := HROW.out
          obtain ⟨hc1, hc2⟩ := hrow wr hcj.bel
          have ejn : j = n := by omega
          have HE : Hid (CJ w wo g n n wr) := ejn ▸ HJ.out
          clear hcj hrow ejn hck
          go_wp2
          go_roundw
          case rel => exact ⟨k + 1, by omega, by go_num, HSTEP.out _ HE.out⟩
          case measure => simp [intOf]; omega
    · clear hcl
      go_wp2
      go_ret
      have e : k = ls.length := by omega
      exact ⟨rfl, e ▸ HL.out⟩

end Go.Proofs.Qxb6000573a
