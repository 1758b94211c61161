/- 'ZZTree' walked. -/
import Derived.Test.Qxb6001347aZzt
namespace Go.Proofs.Qxb6001347a
open Go.RowKit Plain

/-- what 'ZZTree' leaves -/
def ZRet (N sym : Nat) (P : List Nat) (w : World) (en : Ending) (w' : World) : Prop :=
  ∃ a b c : Int, ∃ B : Nat, en = .returned (.tuple #[.int .u32 a, .int .u32 b, .int .i64 c, .int .u32 (sym : Int), .slice (some ⟨B, 0, none⟩) N N]) ∧ w.heap.size ≤ B ∧ w'.heap[B]? = some (.cells (pv P) 30 (0, 0)) ∧ Below w.heap.size w w'

theorem repl_list (n : Nat) (v : Value) : ∃ Z : List Value, (List.replicate n v).toArray = Z.toArray ∧ Z.length = n ∧ ∀ i, i < n → Z[i]? = some v :=
  ⟨_, rfl, List.length_replicate, fun i hi => by simp [hi]⟩

theorem zb_list : ∃ Z : List Value, zb = Z.toArray ∧ Z.length = 65536 ∧ ∀ i, i < 65536 → Z[i]? = some (Value.int .u8 0) := repl_list 65536 (.int .u8 0)

theorem copy_in (g : Nat) (w : World) (l c : Nat) (bs Z : List Value) (hZl : Z.length = 65536) (hZ0 : ∀ i, i < 65536 → Z[i]? = some (Value.int .u8 0)) (inp : Nat → Nat) (hbs : bs.length = l) (hl : l ≤ 100) (hone : ∀ u ∈ bs, u.oneCell' = true) (hcs : ∀ j v, bs[j]? = some v → w.cell? ((⟨g, 0, none⟩ : Addr).add j) = some v) (hin : ∀ j : Nat, bs[j]?.getD (Value.int .u8 0) = Value.int .u8 ((inp j : Nat) : Int)) :
    ∃ w1, (Builtin.copy_ #[22, 22] 3 #[.slice (some ⟨w.heap.size, 0, none⟩) 65536 65536, .slice (some ⟨g, 0, none⟩) l c]).run Try.prog (w.alloc (.cells Z.toArray 59)) = .ok (.int .i64 (l : Int)) w1 ∧
      Hid (InAt w1 w.heap.size inp ∧ w.heap.size < w1.heap.size ∧ Below w.heap.size w w1) := by
  have hrow := heap_alloc_new w (.cells Z.toArray 59)
  have hmin : bs.length = Nat.min l 65536 := by rw [hbs]; exact (Nat.min_eq_left (by omega)).symm
  have hrun := run_copy_row (P := Try.prog) (w.alloc (.cells Z.toArray 59)) 22 22 3 5 w.heap.size 0 65536 65536 ⟨g, 0, none⟩ l c Z.toArray 59 bs Try.underlying22 (by kernel_rfl) hrow hmin
    (fun j v hv => by
      have := hcs j v hv
      rw [Addr.add_lit] at this ⊢
      have hlt := World.block_lt_of_cell? w _ this
      rw [World.cell?_of_block (w := w) (Below.heap_alloc w _ _ hlt)]
      exact this) (by simp; omega) hone
  refine ⟨_, hrun.trans (by rw [hbs]; rfl), ⟨fun i hi => ?_, ?_, ?_⟩⟩
  · rw [cell_of_row _ _ i _ 59 (0, 0) (setRow_heap _ _ _ _ 59 _ hrow)]
    have := hin i
    by_cases h : i < bs.length
    · simp [List.getElem?_append, h] at this ⊢
      exact this
    · have h2 := hZ0 i (by omega)
      have h3 : bs[i]? = none := List.getElem?_eq_none (by omega)
      rw [h3] at this
      simp only [Option.getD_none] at this
      simp only [List.take_zero, List.nil_append, List.getElem?_toArray, List.getElem?_append, h, if_false, List.getElem?_drop]
      rw [← this, hbs, show 0 + l + (i - l) = i by omega]
      exact h2
  · simp
  · exact below_setRow ((Below.refl _ w).alloc (Nat.le_refl _) _) (Nat.le_refl _) _

/-- the decoder that 'tree' gave back, laid in a box of its own -/
def boxW (w : World) (a b c : Int) : World := w.alloc (.cells #[.int .u32 a, .int .u32 b, .int .i64 c] 54)

theorem boxW_size (w : World) (a b c : Int) : (boxW w a b c).heap.size = w.heap.size + 1 := by simp [boxW]

theorem boxW_row (w : World) (a b c : Int) : (boxW w a b c).heap[w.heap.size]? = some (.cells #[.int .u32 a, .int .u32 b, .int .i64 c] 54 (0, 0)) := heap_alloc_new w _

theorem boxW_below (w : World) (a b c : Int) : Below w.heap.size w (boxW w a b c) := (Below.refl _ w).alloc (Nat.le_refl _) _

set_option maxRecDepth 10000 in
set_option maxHeartbeats 1000000 in
theorem zztree_any (g A : Nat) (w : World) (n sym : Nat) (P0 : List Nat) (X L : Nat) (inp : Nat → Nat) (code l c c' : Nat) (bs : List Value) (hs : Setting n sym P0 X L inp) (hd0 : Dec X L e0 ⟨4294967295, code, 5⟩)
    (hbs : bs.length = l) (hl : l ≤ 100) (hone : ∀ u ∈ bs, u.oneCell' = true) (hcs : ∀ j v, bs[j]? = some v → w.cell? ((⟨g, 0, none⟩ : Addr).add j) = some v) (hin : ∀ j : Nat, bs[j]?.getD (Value.int .u8 0) = Value.int .u8 ((inp j : Nat) : Int)) (hps : w.heap[A]? = some (.cells (pv P0) 30 (0, 0))) :
    Calls Try.prog 24 #[.int .u32 4294967295, .int .u32 (code : Int), .int .i64 5, .slice (some ⟨g, 0, none⟩) l c, .slice (some ⟨A, 0, none⟩) (2 ^ n) c', .int .u64 (n : Int)] w fun en w' => ZRet (2 ^ n) sym (Pk n sym P0 n) w en w' := by
  obtain ⟨Z, hZ, hZl, hZ0⟩ := zb_list
  obtain ⟨w1, hcopy, HW1⟩ := copy_in g w l c bs Z hZl hZ0 inp hbs hl hone hcs hin
  have hpw := hs.pow
  have hlen := hs.len
  have HS : Hid _ := hs
  have HCS : Hid _ := hcs
  have HIN : Hid _ := hin
  have HONE : Hid _ := hone
  clear hs hcs hin hone hZl hZ0
  obtain ⟨N, hN⟩ : ∃ N, 2 ^ n = N := ⟨_, rfl⟩
  rw [hN] at hpw hlen ⊢
  have HN : Hid _ := hN
  clear hN
  have hmk := run_mk60 N hpw
  have hmk2 := run_mk37 N hpw
  have HZ : Hid _ := hZ
  clear hZ
  go_enter Try.func24, Try.ntmps24
  go_wp2_with (with_reducible refine wpList_alloc59 rfl rfl Z.toArray HZ.out ?_)
  go_loopw [32] (fun iv wr => ∃ k : Nat, k ≤ N ∧ iv = .int .i64 k ∧ Cp 52 w1.heap.size N P0 k w1 wr) (fun iv _ => N - (intOf iv).toNat)
  case atStart => exact ⟨0, Nat.zero_le _, rfl, Cp.start 52 N P0 w1⟩
  case round =>
    obtain ⟨k, hk, rfl, hcp⟩ := hrel
    have HCP : Hid _ := hcp
    have hAI : A < w1.heap.size := by
      have := lt_of_heap hps
      have := HW1.out.2.1
      omega
    by_cases hkN : k < N
    · obtain ⟨⟨u, hu⟩, hfr⟩ := hcp.facts hkN
      have hsrc : wr.cell? ⟨A, k, none⟩ = some (.int .u16 ((P0.getD k 0 : Nat) : Int)) := by
        rw [hcp.2.cell (p := ⟨A, k, none⟩) hAI, HW1.out.2.2.cell (p := ⟨A, k, none⟩) (lt_of_heap hps), cell_of_row w A k _ 30 (0, 0) hps]
        exact pv_get P0 k (by omega)
      have hst : Hid _ := hcp.step hkN
      clear hcp
      obtain ⟨x, hx⟩ : ∃ x, P0.getD k 0 = x := ⟨_, rfl⟩
      rw [hx] at hsrc hst
      clear hx
      go_wp2
      go_roundw
      case rel => exact ⟨k + 1, by omega, by go_num, hst.out⟩
      case measure => simp [intOf]; omega
    · obtain rfl : k = N := by omega
      have hQ := Cp.done hcp hlen
      have hIn : InAt wr w.heap.size inp := fun i hi => by
        rw [hcp.2.cell (p := ⟨w.heap.size, i, none⟩) HW1.out.2.1]
        exact HW1.out.1 i hi
      have HT : Hid _ := tree_any w.heap.size w1.heap.size wr n sym P0 X L inp k ⟨4294967295, code, 5⟩ HS.out hd0 HW1.out.2.1 hIn hQ
      have HPL : Hid ((Pk n sym P0 n).length = k) := by
        have := (HS.out.pk n (Nat.le_refl n)).1
        rw [HN.out] at this
        exact this
      rw [HN.out] at HT
      unfold dv at HT
      simp only at HT
      clear hQ hIn hcp
      have HB1 : Hid (Below w1.heap.size w1 wr) := HCP.out.2
      clear HCP HS HCS HIN HONE HZ hcopy hmk
      go_wp2_with fail
      refine Calls.mono HT.out ?_
      rintro en w2 ⟨ra, rb, rc, rfl, hq2, hb2⟩
      have hw1 := HW1.out.2.1
      have hQlt := lt_of_heap hq2
      have hpl : (Pk n sym P0 n).length = k := HPL.out
      obtain ⟨P1, hP1⟩ : ∃ P1, Pk n sym P0 n = P1 := ⟨_, rfl⟩
      rw [hP1] at hq2 hpl
      have HP1 : Hid _ := hP1
      have HBW : Hid (Below w.heap.size w w2) := (HW1.out.2.2.trans (HB1.out.mono (Nat.le_of_lt hw1))).trans (hb2.mono (Nat.le_of_lt hw1))
      have HQ2 : Hid (w2.heap[w1.heap.size]? = some (.cells (pv P1) 52 (0, 0))) := hq2
      clear hP1 hb2 hq2 HT HB1
      go_wp2
      go_loopw [58] (fun iv wx => ∃ j : Nat, j ≤ k ∧ iv = .int .i64 j ∧ Cp 30 (w2.heap.size + 1) k P1 j (boxW w2 ra rb rc) wx) (fun iv _ => k - (intOf iv).toNat)
      case atStart =>
        refine ⟨0, Nat.zero_le _, rfl, ?_⟩
        have := Cp.start 30 k P1 (boxW w2 ra rb rc)
        rw [boxW_size] at this
        exact this
      case round =>
        obtain ⟨j, hj, rfl, hcp⟩ := hrel
        have HCP : Hid _ := hcp
        have hq : ∀ j, j < k → wr.cell? ⟨w1.heap.size, j, none⟩ = some (.int .u16 ((P1.getD j 0 : Nat) : Int)) := fun j hj => by
          have h1 := hcp.2.cell (p := ⟨w1.heap.size, j, none⟩) (by simp; omega)
          have h2 := (boxW_below w2 ra rb rc).cell (p := ⟨w1.heap.size, j, none⟩) hQlt
          rw [h1, h2, cell_of_row w2 w1.heap.size j _ 52 (0, 0) HQ2.out]
          exact pv_get P1 j (by omega)
        by_cases hjk : j < k
        · obtain ⟨⟨u, hu⟩, hfr⟩ := Cp.facts hcp hjk
          have hsrc := hq j hjk
          have hst : Hid _ := Cp.step hcp hjk
          clear hcp hq
          obtain ⟨x, hx⟩ : ∃ x, P1.getD j 0 = x := ⟨_, rfl⟩
          rw [hx] at hsrc hst
          clear hx
          go_wp2
          go_roundw
          case rel => exact ⟨j + 1, by omega, by go_num, hst.out⟩
          case measure => simp [intOf]; omega
        · obtain rfl : j = k := by omega
          have hrow : wr.heap[w2.heap.size]? = some (.cells #[.int .u32 ra, .int .u32 rb, .int .i64 rc] 54 (0, 0)) := by
            rw [hcp.2.block _ (by omega)]
            exact boxW_row w2 ra rb rc
          have r0 : wr.cell? ⟨w2.heap.size, 0, none⟩ = some (.int .u32 ra) := by rw [cell_of_row wr _ _ _ 54 (0, 0) hrow]; rfl
          have r1 : wr.cell? ⟨w2.heap.size, 1, none⟩ = some (.int .u32 rb) := by rw [cell_of_row wr _ _ _ 54 (0, 0) hrow]; rfl
          have r2 : wr.cell? ⟨w2.heap.size, 2, none⟩ = some (.int .i64 rc) := by rw [cell_of_row wr _ _ _ 54 (0, 0) hrow]; rfl
          have HD : Hid _ := Cp.done hcp hpl
          have HBF : Hid (Below w.heap.size w wr) := by
            have := HBW.out.size
            exact (HBW.out.trans ((boxW_below w2 ra rb rc).mono this)).trans (hcp.2.mono (by omega))
          clear hrow hcp hq HCP
          go_wp2
          go_quiet (fail)
          go_wp2
          have hsz := HBW.out.size
          rw [HP1.out]
          exact bodyPost_ret (v := .tuple #[.int .u32 ra, .int .u32 rb, .int .i64 rc, .int .u32 (sym : Int), .slice (some ⟨w2.heap.size + 1, 0, none⟩) j j]) (by simp [results, Try.results24, go_sem]) rfl ⟨ra, rb, rc, _, rfl, by omega, by rw [heap_drewN']; exact HD.out, below_drewN' _ HBF.out⟩

end Go.Proofs.Qxb6001347a
