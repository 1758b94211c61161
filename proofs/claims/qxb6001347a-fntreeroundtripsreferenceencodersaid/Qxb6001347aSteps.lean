/- The encoder's two loops, a round each; what stands behind them. -/
import Derived.Test.Qxb6001347aSmall
import Derived.Test.Qxb6001347aSet
namespace Go.Proofs.Qxb6001347a
open Go.RowKit Plain

/-- the encoder at block S, its probabilities at block A, j bits behind it -/
def ERel (n sym : Nat) (P0 : List Nat) (S A : Nat) (wb : World) (j : Nat) (wr : World) : Prop := NowP S A wb (encSt n sym P0 j).1 (Pk n sym P0 j) wr
/-- all bits behind it, and j bytes let out -/
def FRel (n sym : Nat) (P0 : List Nat) (S A : Nat) (wb : World) (j : Nat) (wr : World) : Prop := NowP S A wb (fl n sym P0 j) (Pk n sym P0 n) wr

/-- what a step leaves -/
def Stepped (R : World → Prop) (en : Ending) (w' : World) : Prop := en = .returned (.tuple #[]) ∧ R w'

theorem step_bit {n sym : Nat} {P0 : List Nat} {S A : Nat} {wb : World} {j : Nat} {wr : World} (hp : Pre n sym P0) (hb : Band P0) (hj : j < n) (h : ERel n sym P0 S A wb j wr) (N c m b : Nat) (hN : 2 ^ n = N) (hm : m = mK n sym j) (hbt : b = bitK n sym j) :
    Calls Try.prog 21 #[.pointer (some ⟨S, 0, none⟩), .slice (some ⟨A, 0, none⟩) N c, .int .u32 (m : Int), .int .u32 (b : Int)] wr fun en w' => Stepped (ERel n sym P0 S A wb (j + 1)) en w' := by
  subst hm hbt
  obtain ⟨v, hep, hbel⟩ := h
  obtain ⟨hsi, hband, hlen, hN1, _⟩ := enc_ok hp.symlt hp.len hb j (by omega)
  have hl2 : (Pk n sym P0 j).length = 2 ^ n := hlen
  have h16 := hp.n16
  have hml := mK_lt n sym j hp.symlt (by omega)
  have hpw : 2 ^ (j + 1) ≤ 2 ^ n := Nat.pow_le_pow_right (by omega) (by omega)
  have hNb : (encSt n sym P0 j).1.out.length + (encSt n sym P0 j).1.cs ≤ 1 + j := hN1
  have hbd : 31 ≤ (Pk n sym P0 j).getD (mK n sym j) 0 ∧ (Pk n sym P0 j).getD (mK n sym j) 0 ≤ 2017 := hband (mK n sym j) (mK_pos n sym j) (by show _ < (Pk n sym P0 j).length; omega)
  refine (encodeBit_any S A wr _ v _ hep hsi (mK n sym j) (bitK n sym j) N c (by omega) (by omega) hbd.1 hbd.2 (bitK_01 n sym j) (by omega) (by omega)).mono ?_
  rintro en w' ⟨h1, v', h2, h3⟩
  exact ⟨h1, v', h2, hbel.trans h3⟩

theorem flush_start {n sym : Nat} {P0 : List Nat} {S A : Nat} {wb wr : World} (h : ERel n sym P0 S A wb n wr) : FRel n sym P0 S A wb 0 wr := h

theorem step_flush {n sym : Nat} {P0 : List Nat} {S A : Nat} {wb : World} {j : Nat} {wr : World} (hp : Pre n sym P0) (hb : Band P0) (hj : j < 5) (h : FRel n sym P0 S A wb j wr) :
    Calls Try.prog 22 #[.pointer (some ⟨S, 0, none⟩)] wr fun en w' => Stepped (FRel n sym P0 S A wb (j + 1)) en w' := by
  obtain ⟨v, hep, hbel⟩ := h
  obtain ⟨he, hN⟩ := hp.flN hb j
  have hN2 : (fl n sym P0 j).out.length + (fl n sym P0 j).cs ≤ 17 + j := hN
  refine (hep.shift 1 he (by omega) (by omega)).mono ?_
  rintro en w' ⟨h1, v', h2, h3⟩
  exact ⟨h1, v', h2, hbel.trans h3⟩

/-- the first state -/
theorem enc_start (n sym : Nat) (P0 : List Nat) (A : Nat) (wb : World) (hA : wb.heap[A]? = some (.cells (pv P0) 30 (0, 0))) :
    ERel n sym P0 wb.heap.size A wb 0 (wb.alloc (.cells #[.int .u64 0, .int .u32 4294967295, .int .u8 0, .int .i64 1, .slice none 0 0] 42)) := by
  have hlt := lt_of_heap hA
  refine ⟨.slice none 0 0, ⟨⟨heap_alloc_new wb _, World.ownsRow_nil _ _ _ _⟩, ?_, hlt⟩, (Below.refl _ wb).alloc (by omega) _⟩
  rw [Below.heap_alloc _ _ _ hlt]
  exact hA

/-- the encoder's bytes at block g -/
structure OutAt (S g l cap : Nat) (O : List Nat) (wr : World) : Prop where
  ptr : wr.cell? ⟨S, 4, none⟩ = some (.slice (some ⟨g, 0, none⟩) l cap)
  len : O.length = l
  cells : ∀ i, i < l → wr.cell? ⟨g, i, none⟩ = some (.int .u8 ((O.getD i 0 : Nat) : Int))

theorem FRel.outAt {n sym : Nat} {P0 : List Nat} {S A : Nat} {wb : World} {wr : World} (hp : Pre n sym P0) (hb : Band P0) (h : FRel n sym P0 S A wb 5 wr) :
    ∃ g l cap, OutAt S g l cap (fl n sym P0 5).out wr ∧ 5 ≤ l ∧ l ≤ 100 := by
  obtain ⟨v, hep, _⟩ := h
  obtain ⟨hs, h1, h2⟩ := hp.setting hb
  have h3 := hs.small
  have hrow := hep.enc.row
  rcases hrow.2 with ⟨_, h0⟩ | ⟨g, cap, cur, rfl, _, _⟩
  · omega
  · refine ⟨g, _, cap, ⟨hep.enc.cells.2.2.2.2, rfl, fun i hi => ?_⟩, by omega, by omega⟩
    rw [hrow.cellAt i (by omega)]
    simp [bv, hi]

theorem OutAt.bs {S g l cap : Nat} {O : List Nat} {wr : World} (h : OutAt S g l cap O wr) (V : World) (hV : V.heap = wr.heap) :
    (bv O).length = l ∧ (∀ u ∈ bv O, u.oneCell' = true) ∧ (∀ j v, (bv O)[j]? = some v → V.cell? ((⟨g, 0, none⟩ : Addr).add j) = some v) ∧ ∀ j : Nat, (bv O)[j]?.getD (Value.int .u8 0) = Value.int .u8 ((O.getD j 0 : Nat) : Int) := by
  refine ⟨by simp [bv, h.len], fun u hu => ?_, fun j v hv => ?_, fun j => ?_⟩
  · obtain ⟨_, _, rfl⟩ := List.mem_map.1 hu
    rfl
  · have hj : j < O.length := by
      have := (List.getElem?_eq_some_iff.1 hv).1
      simpa [bv] using this
    rw [Addr.add_lit, Nat.zero_add, World.cell?_of_block (w := wr) (by rw [hV]), h.cells j (by rw [← h.len]; exact hj)]
    rw [← hv]
    simp [bv, hj]
  · by_cases hj : j < O.length
    · simp [bv, hj]
    · have e : O[j]? = none := List.getElem?_eq_none (by omega)
      simp [bv, e]

theorem OutAt.byte {S g l cap : Nat} {O : List Nat} {wr : World} (h : OutAt S g l cap O wr) (V : World) (hV : V.heap = wr.heap) (i : Nat) (hi : i < l) :
    Calls Try.prog 23 #[.slice (some ⟨g, 0, none⟩) l cap, .int .i64 (i : Int)] V fun e w' => e = .returned (.int .u8 ((O.getD i 0 : Nat) : Int)) ∧ w' = V :=
  byteAt_any g l cap i _ V hi (by rw [World.cell?_of_block (w := wr) (by rw [hV])]; exact h.cells i hi)

end Go.Proofs.Qxb6001347a
