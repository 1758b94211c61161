/- 'encodeBit' computes 'Plain.encBit' on the encoder in memory and adapts the probability. -/
import Derived.Test.Qxb6001347aShift
namespace Go.Proofs.Qxb6001347a
open Go.RowKit Plain

/-- probabilities as cells -/
def pv (P : List Nat) : Array Value := (P.map fun (p : Nat) => Value.int .u16 ((p : Nat) : Int)).toArray

theorem pv_get (P : List Nat) (m : Nat) (h : m < P.length) : (pv P)[m]? = some (.int .u16 ((P.getD m 0 : Nat) : Int)) := by
  simp [pv, h]

theorem pv_set (P : List Nat) (m x : Nat) : (pv P).setIfInBounds m (.int .u16 (x : Int)) = pv (P.set m x) := by
  apply Array.ext'
  simp [pv, List.map_set]

/-- the encoder at block S, its probabilities at block A -/
structure EP (S A : Nat) (w : World) (e : E) (v : Value) (P : List Nat) : Prop where
  enc : EncAt S w e v
  pr : w.heap[A]? = some (.cells (pv P) 30 (0, 0))
  lt : A < S

theorem EP.setS {S A : Nat} {w : World} {e : E} {v : Value} {P : List Nat} (h : EP S A w e v P) (j : Nat) (x : Value) : (w.setCell ⟨S, j, none⟩ x).heap[A]? = some (.cells (pv P) 30 (0, 0)) := by
  have := h.lt
  rw [Below.heap_setCell _ _ _ _ (by simp; omega)]
  exact h.pr

theorem EP.setRng {S A : Nat} {w : World} {e : E} {v : Value} {P : List Nat} (h : EP S A w e v P) (r : Nat) : EP S A (w.setCell ⟨S, 1, none⟩ (.int .u32 (r : Int))) { e with rng := r } v P := by
  have b := (h.enc.toBox.set (.int .u32 (r : Int))).2.1
  exact ⟨⟨b.box, b.row⟩, h.setS 1 _, h.lt⟩

theorem EP.setLow {S A : Nat} {w : World} {e : E} {v : Value} {P : List Nat} (h : EP S A w e v P) (r : Nat) : EP S A (w.setCell ⟨S, 0, none⟩ (.int .u64 (r : Int))) { e with low := r } v P := by
  have b := (h.enc.toBox.set (.int .u64 (r : Int))).1
  exact ⟨⟨b.box, b.row⟩, h.setS 0 _, h.lt⟩

theorem EP.setProb {S A : Nat} {w : World} {e : E} {v : Value} {P : List Nat} (h : EP S A w e v P) (m x : Nat) : EP S A (w.setCell ⟨A, m, none⟩ (.int .u16 (x : Int))) e v (P.set m x) := by
  have hlt := h.lt
  refine ⟨⟨?_, ?_⟩, ?_, hlt⟩
  · rw [Below.heap_setCell _ _ _ _ (by simp; omega)]; exact h.enc.box
  · refine ownsRow_same h.enc.row (fun k cur q => ?_)
    have hne : k ≠ A := fun e => by rw [e, h.pr] at q; simp at q
    rw [Below.heap_setCell _ _ _ _ hne]; exact q
  · rw [heap_setCell_same h.pr, pv_set]

theorem EP.facts {S A : Nat} {w : World} {e : E} {v : Value} {P : List Nat} (h : EP S A w e v P) :
    w.cell? ⟨S, 0, none⟩ = some (.int .u64 (e.low : Int)) ∧ w.cell? ⟨S, 1, none⟩ = some (.int .u32 (e.rng : Int)) ∧ (∀ j, w.frozen? ⟨S, j, none⟩ = false) ∧ (∀ j, w.frozen? ⟨A, j, none⟩ = false) ∧ ∀ m, m < P.length → w.cell? ⟨A, m, none⟩ = some (.int .u16 ((P.getD m 0 : Nat) : Int)) := by
  refine ⟨h.enc.cells.1, h.enc.cells.2.1, h.enc.free, fun j => ?_, fun m hm => ?_⟩
  · simp [World.frozen?, h.pr]
  · rw [cell_of_row w A m _ 30 (0, 0) h.pr]; exact pv_get P m hm

/-- behind a call: the encoder's state is e', its probabilities P' -/
def NowP (S A : Nat) (w : World) (e' : E) (P' : List Nat) (w' : World) : Prop := ∃ v', EP S A w' e' v' P' ∧ Below A w w'

theorem EP.shift {S A : Nat} {w : World} {e : E} {v : Value} {P : List Nat} (h : EP S A w e v P) (r : Nat) (he : EI e r) (hcs : e.cs ≤ 1000) (hol : e.out.length ≤ 1000) :
    Calls Try.prog 22 #[.pointer (some ⟨S, 0, none⟩)] w fun en w' => en = .returned (.tuple #[]) ∧ NowP S A w (shiftLow e) P w' := by
  refine (shiftLow_any S w e v h.enc r he hcs hol).mono fun en w' ⟨h1, v', h2, h3⟩ => ⟨h1, v', ⟨h2, ?_, h.lt⟩, h3.mono (Nat.le_of_lt h.lt)⟩
  rw [h3.block A h.lt]
  exact h.pr

set_option maxRecDepth 10000 in
set_option maxHeartbeats 1000000 in
theorem encodeBit_zero (S A : Nat) (w : World) (e : E) (v : Value) (P : List Nat) (h : EP S A w e v P) (hsi : SI e) (m b : Nat) (n c : Nat) (hm : m < P.length) (hn : P.length = n) (hp1 : 31 ≤ P.getD m 0) (hp2 : P.getD m 0 ≤ 2017) (hb : b = 0) (hcs : e.cs ≤ 500) (hol : e.out.length ≤ 500) :
    Calls Try.prog 21 #[.pointer (some ⟨S, 0, none⟩), .slice (some ⟨A, 0, none⟩) n c, .int .u32 (m : Int), .int .u32 (b : Int)] w fun en w' => en = .returned (.tuple #[]) ∧ NowP S A w (encBit e (P.getD m 0) b) (P.set m (upd (P.getD m 0) b)) w' := by
  obtain ⟨c0, c1, fS, fA, cA⟩ := h.facts
  have cm := cA m hm
  clear cA
  obtain ⟨p, hp⟩ : ∃ p, P.getD m 0 = p := ⟨_, rfl⟩
  rw [hp] at cm hp1 hp2 ⊢
  have f0 := fS 0
  have f1 := fS 1
  have fm := fA m
  have hmI : (m : Int) < (n : Int) := by omega
  have tb : ((b : Int) == 0) = true := by rw [hb]; rfl
  have hpre := encPre_ok hsi hp1 hp2 b
  have hbd : IntKind.u32.wrap ((e.rng : Int) / 2048 * (p : Int)) = ((bound e.rng p : Nat) : Int) := by
    rw [IntKind.wrap_u32]
    have h1 := bound_hi hsi.lo hp2
    have h2 := hsi.hi
    have e1 : (e.rng : Int) / 2048 * (p : Int) = ((bound e.rng p : Nat) : Int) := by unfold bound; rw [Int.natCast_mul]; rfl
    rw [e1]
    omega
  have n1 : ¬ S = A := by have := h.lt; omega
  have n2 : ¬ A = S := by have := h.lt; omega
  obtain ⟨low, rng, cache, cs, out⟩ := e
  have hbr := bound_hi hsi.lo hp2
  have hrl := hsi.lo
  have hrh := hsi.hi
  have hsum := hsi.ei.sum
  have HPRE : Hid _ := hpre
  simp only at c0 c1 hbd hbr hrl hrh hsum hcs hol
  have HENC : Hid (encBit ⟨low, rng, cache, cs, out⟩ p b = norm ⟨low, bound rng p, cache, cs, out⟩) := by
    show encBit _ _ _ = _
    unfold encBit encPre
    rw [if_pos hb]
  have HP2 : Hid (encPre ⟨low, rng, cache, cs, out⟩ p b = ⟨low, bound rng p, cache, cs, out⟩) := by
    show encPre _ _ _ = _
    unfold encPre
    rw [if_pos hb]
  generalize bound rng p = bd at *
  have HEP : Hid (EP S A ((w.setCell ⟨S, 1, none⟩ (.int .u32 (bd : Int))).setCell ⟨A, m, none⟩ (.int .u16 ((p : Int) + (2048 - (p : Int)) / 32))) ⟨low, bd, cache, cs, out⟩ v (P.set m (upd p b))) := by
    have q := (h.setRng bd).setProb m (upd p b)
    have e : ((upd p b : Nat) : Int) = (p : Int) + (2048 - (p : Int)) / 32 := by unfold upd; rw [if_pos hb]; omega
    rw [e] at q
    exact q
  have HBEL : Hid (Below A w ((w.setCell ⟨S, 1, none⟩ (.int .u32 (bd : Int))).setCell ⟨A, m, none⟩ (.int .u16 ((p : Int) + (2048 - (p : Int)) / 32)))) := ((Below.refl A w).setCell (Nat.le_of_lt h.lt) _).setCell (Nat.le_refl A) _
  have hlow : (low : Int) + (bd : Int) < 18446744073709551616 := by omega
  have hr1 : (bd : Int) ≤ (rng : Int) := by omega
  have hr2 : (rng : Int) < 4294967296 := by omega
  have HL : Hid _ := h.lt
  clear h hsi fS fA hp hpre hsum hbr hrl
  by_cases h24 : bd < 16777216
  · have t5 : decide ((bd : Int) < 16777216) = true := by rw [decide_eq_true_iff]; omega
    have HSH : Hid (Calls Try.prog 22 #[.pointer (some ⟨S, 0, none⟩)] (((w.setCell ⟨S, 1, none⟩ (.int .u32 (bd : Int))).setCell ⟨A, m, none⟩ (.int .u16 ((p : Int) + (2048 - (p : Int)) / 32))).setCell ⟨S, 1, none⟩ (.int .u32 ((bd : Int) * 256))) fun en w' => en = .returned (.tuple #[]) ∧ NowP S A (((w.setCell ⟨S, 1, none⟩ (.int .u32 (bd : Int))).setCell ⟨A, m, none⟩ (.int .u16 ((p : Int) + (2048 - (p : Int)) / 32))).setCell ⟨S, 1, none⟩ (.int .u32 ((bd : Int) * 256))) (encBit ⟨low, rng, cache, cs, out⟩ p b) (P.set m (upd p b)) w') := by
      have q := HEP.out.setRng ((bd) * 256)
      have e : (((bd) * 256 : Nat) : Int) = (bd : Int) * 256 := by omega
      rw [e] at q
      have q2 := HPRE.out.1
      rw [HP2.out] at q2
      have q3 := q.shift (bd) ⟨q2.cs1, q2.cache, q2.bytes, q2.sum, q2.full, q2.r1⟩ (by simp only; omega) (by simp only; omega)
      rw [HENC.out]
      unfold norm
      rw [if_pos h24]
      exact q3
    have HBEL2 : Hid (Below A w (((w.setCell ⟨S, 1, none⟩ (.int .u32 (bd : Int))).setCell ⟨A, m, none⟩ (.int .u16 ((p : Int) + (2048 - (p : Int)) / 32))).setCell ⟨S, 1, none⟩ (.int .u32 ((bd : Int) * 256)))) := HBEL.out.setCell (Nat.le_of_lt HL.out) _
    clear HEP HBEL
    go_enter Try.func21, Try.ntmps21
    go_wp2_with fail
    refine Calls.mono HSH.out ?_
    rintro en w' ⟨rfl, hnow⟩
    have HNOW : Hid _ := hnow
    clear hnow
    go_wp2
    go_end0
    obtain ⟨v', q1, q2⟩ := HNOW.out
    exact ⟨rfl, v', q1, HBEL2.out.trans q2⟩
  · have t5 : decide ((bd : Int) < 16777216) = false := by rw [decide_eq_false_iff_not]; omega
    have HR : Hid (NowP S A w (encBit ⟨low, rng, cache, cs, out⟩ p b) (P.set m (upd p b)) ((w.setCell ⟨S, 1, none⟩ (.int .u32 (bd : Int))).setCell ⟨A, m, none⟩ (.int .u16 ((p : Int) + (2048 - (p : Int)) / 32)))) := by
      refine ⟨v, ?_, HBEL.out⟩
      rw [HENC.out]
      unfold norm
      rw [if_neg h24]
      exact HEP.out
    clear HEP HBEL
    go_enter Try.func21, Try.ntmps21
    go_wp2_with fail
    go_end0
    exact ⟨rfl, HR.out⟩

set_option maxRecDepth 10000 in
set_option maxHeartbeats 1000000 in
theorem encodeBit_one (S A : Nat) (w : World) (e : E) (v : Value) (P : List Nat) (h : EP S A w e v P) (hsi : SI e) (m b : Nat) (n c : Nat) (hm : m < P.length) (hn : P.length = n) (hp1 : 31 ≤ P.getD m 0) (hp2 : P.getD m 0 ≤ 2017) (hb : b = 1) (hcs : e.cs ≤ 500) (hol : e.out.length ≤ 500) :
    Calls Try.prog 21 #[.pointer (some ⟨S, 0, none⟩), .slice (some ⟨A, 0, none⟩) n c, .int .u32 (m : Int), .int .u32 (b : Int)] w fun en w' => en = .returned (.tuple #[]) ∧ NowP S A w (encBit e (P.getD m 0) b) (P.set m (upd (P.getD m 0) b)) w' := by
  obtain ⟨c0, c1, fS, fA, cA⟩ := h.facts
  have cm := cA m hm
  clear cA
  obtain ⟨p, hp⟩ : ∃ p, P.getD m 0 = p := ⟨_, rfl⟩
  rw [hp] at cm hp1 hp2 ⊢
  have f0 := fS 0
  have f1 := fS 1
  have fm := fA m
  have hmI : (m : Int) < (n : Int) := by omega
  have tb : ((b : Int) == 0) = false := by rw [hb]; rfl
  have hpre := encPre_ok hsi hp1 hp2 b
  have hbd : IntKind.u32.wrap ((e.rng : Int) / 2048 * (p : Int)) = ((bound e.rng p : Nat) : Int) := by
    rw [IntKind.wrap_u32]
    have h1 := bound_hi hsi.lo hp2
    have h2 := hsi.hi
    have e1 : (e.rng : Int) / 2048 * (p : Int) = ((bound e.rng p : Nat) : Int) := by unfold bound; rw [Int.natCast_mul]; rfl
    rw [e1]
    omega
  have n1 : ¬ S = A := by have := h.lt; omega
  have n2 : ¬ A = S := by have := h.lt; omega
  obtain ⟨low, rng, cache, cs, out⟩ := e
  have hbr := bound_hi hsi.lo hp2
  have hrl := hsi.lo
  have hrh := hsi.hi
  have hsum := hsi.ei.sum
  have HPRE : Hid _ := hpre
  simp only at c0 c1 hbd hbr hrl hrh hsum hcs hol
  have HENC : Hid (encBit ⟨low, rng, cache, cs, out⟩ p b = norm ⟨low + bound rng p, rng - bound rng p, cache, cs, out⟩) := by
    show encBit _ _ _ = _
    unfold encBit encPre
    rw [if_neg (by omega)]
  have HP2 : Hid (encPre ⟨low, rng, cache, cs, out⟩ p b = ⟨low + bound rng p, rng - bound rng p, cache, cs, out⟩) := by
    show encPre _ _ _ = _
    unfold encPre
    rw [if_neg (by omega)]
  generalize bound rng p = bd at *
  have HEP : Hid (EP S A (((w.setCell ⟨S, 0, none⟩ (.int .u64 ((low : Int) + (bd : Int)))).setCell ⟨S, 1, none⟩ (.int .u32 ((rng : Int) - (bd : Int)))).setCell ⟨A, m, none⟩ (.int .u16 ((p : Int) - (p : Int) / 32))) ⟨low + bd, rng - bd, cache, cs, out⟩ v (P.set m (upd p b))) := by
    have q := ((h.setLow (low + bd)).setRng (rng - bd)).setProb m (upd p b)
    have e : ((upd p b : Nat) : Int) = (p : Int) - (p : Int) / 32 := by unfold upd; rw [if_neg (by omega)]; omega
    have e2 : ((low + bd : Nat) : Int) = (low : Int) + (bd : Int) := by omega
    have e3 : ((rng - bd : Nat) : Int) = (rng : Int) - (bd : Int) := by omega
    rw [e, e2, e3] at q
    exact q
  have HBEL : Hid (Below A w (((w.setCell ⟨S, 0, none⟩ (.int .u64 ((low : Int) + (bd : Int)))).setCell ⟨S, 1, none⟩ (.int .u32 ((rng : Int) - (bd : Int)))).setCell ⟨A, m, none⟩ (.int .u16 ((p : Int) - (p : Int) / 32)))) := (((Below.refl A w).setCell (Nat.le_of_lt h.lt) _).setCell (Nat.le_of_lt h.lt) _).setCell (Nat.le_refl A) _
  have hlow : (low : Int) + (bd : Int) < 18446744073709551616 := by omega
  have hr1 : (bd : Int) ≤ (rng : Int) := by omega
  have hr2 : (rng : Int) < 4294967296 := by omega
  have HL : Hid _ := h.lt
  clear h hsi fS fA hp hpre hsum hbr hrl
  by_cases h24 : rng - bd < 16777216
  · have t5 : decide (((rng : Int) - (bd : Int)) < 16777216) = true := by rw [decide_eq_true_iff]; omega
    have HSH : Hid (Calls Try.prog 22 #[.pointer (some ⟨S, 0, none⟩)] ((((w.setCell ⟨S, 0, none⟩ (.int .u64 ((low : Int) + (bd : Int)))).setCell ⟨S, 1, none⟩ (.int .u32 ((rng : Int) - (bd : Int)))).setCell ⟨A, m, none⟩ (.int .u16 ((p : Int) - (p : Int) / 32))).setCell ⟨S, 1, none⟩ (.int .u32 (((rng : Int) - (bd : Int)) * 256))) fun en w' => en = .returned (.tuple #[]) ∧ NowP S A ((((w.setCell ⟨S, 0, none⟩ (.int .u64 ((low : Int) + (bd : Int)))).setCell ⟨S, 1, none⟩ (.int .u32 ((rng : Int) - (bd : Int)))).setCell ⟨A, m, none⟩ (.int .u16 ((p : Int) - (p : Int) / 32))).setCell ⟨S, 1, none⟩ (.int .u32 (((rng : Int) - (bd : Int)) * 256))) (encBit ⟨low, rng, cache, cs, out⟩ p b) (P.set m (upd p b)) w') := by
      have q := HEP.out.setRng ((rng - bd) * 256)
      have e : (((rng - bd) * 256 : Nat) : Int) = ((rng : Int) - (bd : Int)) * 256 := by omega
      rw [e] at q
      have q2 := HPRE.out.1
      rw [HP2.out] at q2
      have q3 := q.shift (rng - bd) ⟨q2.cs1, q2.cache, q2.bytes, q2.sum, q2.full, q2.r1⟩ (by simp only; omega) (by simp only; omega)
      rw [HENC.out]
      unfold norm
      rw [if_pos h24]
      exact q3
    have HBEL2 : Hid (Below A w ((((w.setCell ⟨S, 0, none⟩ (.int .u64 ((low : Int) + (bd : Int)))).setCell ⟨S, 1, none⟩ (.int .u32 ((rng : Int) - (bd : Int)))).setCell ⟨A, m, none⟩ (.int .u16 ((p : Int) - (p : Int) / 32))).setCell ⟨S, 1, none⟩ (.int .u32 (((rng : Int) - (bd : Int)) * 256)))) := HBEL.out.setCell (Nat.le_of_lt HL.out) _
    clear HEP HBEL
    go_enter Try.func21, Try.ntmps21
    go_wp2_with fail
    refine Calls.mono HSH.out ?_
    rintro en w' ⟨rfl, hnow⟩
    have HNOW : Hid _ := hnow
    clear hnow
    go_wp2
    go_end0
    obtain ⟨v', q1, q2⟩ := HNOW.out
    exact ⟨rfl, v', q1, HBEL2.out.trans q2⟩
  · have t5 : decide (((rng : Int) - (bd : Int)) < 16777216) = false := by rw [decide_eq_false_iff_not]; omega
    have HR : Hid (NowP S A w (encBit ⟨low, rng, cache, cs, out⟩ p b) (P.set m (upd p b)) (((w.setCell ⟨S, 0, none⟩ (.int .u64 ((low : Int) + (bd : Int)))).setCell ⟨S, 1, none⟩ (.int .u32 ((rng : Int) - (bd : Int)))).setCell ⟨A, m, none⟩ (.int .u16 ((p : Int) - (p : Int) / 32)))) := by
      refine ⟨v, ?_, HBEL.out⟩
      rw [HENC.out]
      unfold norm
      rw [if_neg h24]
      exact HEP.out
    clear HEP HBEL
    go_enter Try.func21, Try.ntmps21
    go_wp2_with fail
    go_end0
    exact ⟨rfl, HR.out⟩

theorem encodeBit_any (S A : Nat) (w : World) (e : E) (v : Value) (P : List Nat) (h : EP S A w e v P) (hsi : SI e) (m b : Nat) (n c : Nat) (hm : m < P.length) (hn : P.length = n) (hp1 : 31 ≤ P.getD m 0) (hp2 : P.getD m 0 ≤ 2017) (hb : b = 0 ∨ b = 1) (hcs : e.cs ≤ 500) (hol : e.out.length ≤ 500) :
    Calls Try.prog 21 #[.pointer (some ⟨S, 0, none⟩), .slice (some ⟨A, 0, none⟩) n c, .int .u32 (m : Int), .int .u32 (b : Int)] w fun en w' => en = .returned (.tuple #[]) ∧ NowP S A w (encBit e (P.getD m 0) b) (P.set m (upd (P.getD m 0) b)) w' := by
  rcases hb with hb | hb
  · exact encodeBit_zero S A w e v P h hsi m b n c hm hn hp1 hp2 hb hcs hol
  · exact encodeBit_one S A w e v P h hsi m b n c hm hn hp1 hp2 hb hcs hol

end Go.Proofs.Qxb6001347a
