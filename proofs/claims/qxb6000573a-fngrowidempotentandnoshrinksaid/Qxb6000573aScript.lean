/- The script: its keys looked at, copied, run. -/
import Derived.Test.Qxb6000573aAddRem
namespace Go.Proofs.Qxb6000573a
open Go.RowKit Plain

/-- a slice of integers of n elements, its numbers zs, at blocks below B -/
def OpsAt (w : World) (B : Nat) (a : Option Addr) (n : Nat) (zs : List Int) : Prop :=
  n = 0 ∨ ∃ b off, a = some ⟨b, off, none⟩ ∧ b < B ∧ ∀ k, k < n → w.cell? ⟨b, off + k, none⟩ = some (.int .i64 (zs.getD k 0))

/-- it returns a bool, and p holds where that is true -/
def RetB (e : Ending) (p : Prop) : Prop := ∃ b : Bool, e = .returned (.bool b) ∧ (b = true → p)

set_option maxHeartbeats 400000 in
theorem zzBytes_any (a : Option Addr) (n c : Nat) (i j : Int) (w : World) (hn : n ≤ maxLen) :
    Calls Try.prog 29 #[.slice a n c, .int .i64 i, .int .i64 j] w fun e w' => RetB e (n ≤ 1048576) ∧ w' = w := by
  unfold maxLen at hn
  by_cases h : n ≤ 1048576
  · go_enter Try.func29, Try.ntmps29
    go_wp2
    go_ret
    exact ⟨⟨true, rfl, fun _ => h⟩, rfl⟩
  · go_enter Try.func29, Try.ntmps29
    go_wp2
    go_ret
    exact ⟨⟨false, rfl, fun h => (by cases h)⟩, rfl⟩

set_option maxHeartbeats 400000 in
theorem keysOK_any (B : Nat) (a : Option Addr) (n c : Nat) (zs : List Int) (w : World) (hn : n ≤ 1048576) (h : OpsAt w B a n zs) :
    Calls Try.prog 11 #[.slice a n c] w fun e w' => RetB e (∀ k, k < n → zs.getD k 0 ≤ 65536) ∧ w' = w := by
  rcases h with rfl | ⟨b, off, rfl, _, hc⟩
  · go_enter Try.func11, Try.ntmps11
    go_wp2
    refine wp_loop_rounds 1 ?_
    rw [rounds_succ]
    go_wp2
    go_ret
    exact ⟨⟨true, rfl, fun _ k hk => by omega⟩, rfl⟩
  · have HC : Hid _ := hc
    clear hc
    go_enter Try.func11, Try.ntmps11
    go_wp2
    go_loop [3] (fun i => ∃ k : Nat, k ≤ n ∧ i = .int .i64 k ∧ ∀ j, j < k → zs.getD j 0 ≤ 65536) (fun i => n - (intOf i).toNat)
    case atStart => exact ⟨0, Nat.zero_le _, rfl, fun j hj => by omega⟩
    case round =>
      obtain ⟨k, hk, rfl, hall⟩ := hrel
      have HA : Hid _ := hall
      clear hall
      by_cases hlt : k < n
      · have hck := HC.out k hlt
        obtain ⟨z, hz⟩ : ∃ z, zs.getD k 0 = z := ⟨_, rfl⟩
        rw [hz] at hck
        have HZ : Hid _ := hz
        clear hz
        by_cases hz2 : z ≤ 65536
        · go_wp2
          go_round
          case rel =>
            refine ⟨k + 1, by omega, by go_num, fun j hj => ?_⟩
            by_cases e : j = k
            · subst e; rw [HZ.out]; exact hz2
            · exact HA.out j (by omega)
          case measure => simp [intOf]; omega
        · go_wp2
          go_ret
          exact ⟨⟨false, rfl, fun h => (by cases h)⟩, rfl⟩
      · go_wp2
        go_ret
        exact ⟨⟨true, rfl, fun _ j hj => HA.out j (by omega)⟩, rfl⟩

/-- new numbers, all 0 -/
def iz (n : Nat) : Array Value := madeCells (Value.int .i64 0).cells n
theorem size_iz (n : Nat) : (iz n).size = n := size_madeCells _ _
theorem info3 : (Try.prog.info? 3).map (fun i => (i.zero, i.size, i.bytes)) = some (some (.int .i64 0), 1, 8) := by kernel_rfl
theorem run_mk22 (n : Nat) (hn : n ≤ 1048576) (w : World) : (Instr.makeSlice 22 (.int .i64 (n : Int)) (.int .i64 (n : Int))).run Try.prog w = .ok (.slice (some ⟨w.heap.size, 0, none⟩) n n) (w.alloc (.cells (iz n) 3)) := by
  obtain ⟨i, hi, hz0, hz1, hz2⟩ := info_parts info3
  have hr := run_make (P := Try.prog) w 22 3 i (.int .i64 0) Try.underlying22 hi hz0 .i64 .i64 n n (by omega) (by omega) (by rw [hz2]; omega) (by omega)
  rw [hz1] at hr
  simpa [iz] using hr

/-- the copy as far as it has come -/
def Copied (B : Nat) (w wr : World) (n : Nat) (zs : List Int) (k : Nat) : Prop :=
  (∃ cur : Array Value, wr.heap[B]? = some (.cells cur 3 (0, 0)) ∧ cur.size = n ∧ ∀ j, j < k → cur[j]? = some (.int .i64 (zs.getD j 0))) ∧ Below B w wr

theorem Copied.step {B : Nat} {w wr : World} {n : Nat} {zs : List Int} {k : Nat} (h : Copied B w wr n zs k) (hk : k < n) :
    Copied B w (wr.setCell ⟨B, k, none⟩ (.int .i64 (zs.getD k 0))) n zs (k + 1) := by
  obtain ⟨⟨cur, h1, h2, h3⟩, hb⟩ := h
  refine ⟨⟨_, heap_setCell_same h1, by simpa using h2, fun j hj => ?_⟩, hb.setCell (Nat.le_refl _) _⟩
  rw [Array.getElem?_setIfInBounds]
  split
  · rename_i e
    subst e
    rw [if_pos (by omega)]
  · rename_i e
    exact h3 j (by omega)

/-- what the copy comes back as -/
def Cloned (e : Ending) (n : Nat) (zs : List Int) (w' : World) : Prop := ∃ a' c', e = .returned (.slice a' n c') ∧ OpsAt w' w'.heap.size a' n zs

set_option maxHeartbeats 400000 in
theorem cloneInts_any (a : Option Addr) (n c : Nat) (zs : List Int) (w : World) (hn : n ≤ 1048576) (h : OpsAt w w.heap.size a n zs) (hnil0 : a = none → n = 0) :
    Calls Try.prog 12 #[.slice a n c] w fun e w' => Cloned e n zs w' ∧ Below w.heap.size w w' := by
  have hnil := fun (x : Option Addr) (l cc : Nat) (v : World) => Lib.run_eql_slice_nil (P := Try.prog) v 22 3 x l cc 0 0 Try.underlying22
  have hmk := run_mk22 n hn
  cases a with
  | none =>
    obtain rfl := hnil0 rfl
    clear hnil0
    go_enter Try.func12, Try.ntmps12
    go_wp2
    go_ret
    exact ⟨⟨none, 0, rfl, .inl rfl⟩, Below.refl _ _⟩
  | some x =>
    clear hnil0
    rcases h with rfl | ⟨b, off, e, hbB, hc⟩
    · have hmk0 : ∀ v : World, (Instr.makeSlice 22 (.int .i64 0) (.int .i64 0)).run Try.prog v = .ok (.slice (some ⟨v.heap.size, 0, none⟩) 0 0) (v.alloc (.cells (iz 0) 3)) := hmk
      clear hmk
      go_enter Try.func12, Try.ntmps12
      go_wp2
      refine wp_loop_rounds 1 ?_
      rw [rounds_succ]
      go_wp2
      go_ret
      exact ⟨⟨_, _, rfl, .inl rfl⟩, (Below.refl _ _).alloc (Nat.le_refl _) _⟩
    · simp only [Option.some.injEq] at e
      subst e
      have HC : Hid _ := hc
      have hst : Copied w.heap.size w (w.alloc (.cells (iz n) 3)) n zs 0 := ⟨⟨iz n, heap_alloc_new w _, size_iz n, fun j hj => by omega⟩, (Below.refl _ _).alloc (Nat.le_refl _) _⟩
      have HST : Hid _ := hst
      clear hc hst
      go_enter Try.func12, Try.ntmps12
      go_wp2
      go_loopw [4] (fun i wr => ∃ k : Nat, k ≤ n ∧ i = .int .i64 k ∧ Copied w.heap.size w wr n zs k) (fun i _ => n - (intOf i).toNat)
      case atStart => exact ⟨0, Nat.zero_le _, rfl, HST.out⟩
      case round =>
        obtain ⟨k, hk, rfl, hcp⟩ := hrel
        have HP : Hid _ := hcp
        by_cases hlt : k < n
        · have hck : wr.cell? ⟨b, off + k, none⟩ = some (.int .i64 (zs.getD k 0)) := by rw [hcp.2.cell (p := ⟨b, off + k, none⟩) hbB]; exact HC.out k hlt
          obtain ⟨⟨cur, h1, h2, h3⟩, _⟩ := hcp
          have hcell : wr.cell? ⟨w.heap.size, k, none⟩ = some cur[k] := by rw [cell_of_row wr w.heap.size k cur 3 (0, 0) h1]; simp
          have hfr : wr.frozen? ⟨w.heap.size, k, none⟩ = false := frozen_of_open h1
          generalize cur[k] = old at *
          have HS : Hid _ := Copied.step HP.out hlt
          obtain ⟨z, hz⟩ : ∃ z, zs.getD k 0 = z := ⟨_, rfl⟩
          rw [hz] at hck HS
          clear h1 h2 h3 hz hmk
          go_wp2
          go_roundw
          case rel => exact ⟨k + 1, by omega, by go_num, HS.out⟩
          case measure => simp [intOf]; omega
        · clear hcp hmk
          go_wp2
          go_ret
          have hkn : k = n := by omega
          subst hkn
          obtain ⟨⟨cur, h1, h2, h3⟩, hb⟩ := HP.out
          refine ⟨⟨_, _, rfl, .inr ⟨w.heap.size, 0, rfl, lt_of_heap h1, fun j hj => ?_⟩⟩, hb⟩
          rw [Nat.zero_add, cell_of_row wr w.heap.size j cur 3 (0, 0) h1]
          exact h3 j hj

end Go.Proofs.Qxb6000573a
