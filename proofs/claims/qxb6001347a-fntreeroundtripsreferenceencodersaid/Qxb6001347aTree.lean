/- 'tree': the decoder gives back the symbol and leaves the probabilities as the encoder left its own. -/
import Derived.Test.Qxb6001347aDec
import Derived.Test.Qxb6001347aRound
import Derived.Deep.RegionWith
namespace Go.Proofs.Qxb6001347a
open Go.RowKit Plain

/-- memory inside 'tree': the decoder at block R, the result's box behind it, the probabilities at block Q -/
structure TM (Q R : Nat) (w wr : World) (d : D) (P : List Nat) : Prop where
  rc : wr.heap[R]? = some (.cells #[.int .u32 (d.rng : Int), .int .u32 (d.code : Int), .int .i64 (d.ip : Int)] 54 (0, 0))
  rb : wr.heap[R + 1]? = some (.cells #[.int .u32 0, .int .u32 0, .int .i64 0] 54 (0, 0))
  ps : wr.heap[Q]? = some (.cells (pv P) 52 (0, 0))
  bel : Below Q w wr
  lt : Q < R

theorem TM.below {Q R : Nat} {w wr w1 : World} {d : D} {P : List Nat} (h : TM Q R w wr d P) (hb : Below wr.heap.size wr w1) : TM Q R w w1 d P := by
  have h1 := lt_of_heap h.rb
  have h2 := h.lt
  exact ⟨by rw [hb.block _ (by omega)]; exact h.rc, by rw [hb.block _ (by omega)]; exact h.rb, by rw [hb.block _ (by omega)]; exact h.ps, h.bel.trans (hb.mono (by omega)), h.lt⟩

theorem TM.setProb {Q R : Nat} {w wr : World} {d : D} {P : List Nat} (h : TM Q R w wr d P) (m x : Nat) : TM Q R w (wr.setCell ⟨Q, m, none⟩ (.int .u16 (x : Int))) d (P.set m x) := by
  have h2 := h.lt
  refine ⟨?_, ?_, ?_, h.bel.setCell (Nat.le_refl Q) _, h.lt⟩
  · rw [Below.heap_setCell _ _ _ _ (by simp; omega)]; exact h.rc
  · rw [Below.heap_setCell _ _ _ _ (by simp; omega)]; exact h.rb
  · rw [heap_setCell_same h.ps, pv_set]

theorem TM.setRc {Q R : Nat} {w wr : World} {d : D} {P : List Nat} (h : TM Q R w wr d P) (d' : D) :
    TM Q R w (((wr.setCell ⟨R, 0, none⟩ (.int .u32 (d'.rng : Int))).setCell ⟨R, 1, none⟩ (.int .u32 (d'.code : Int))).setCell ⟨R, 2, none⟩ (.int .i64 (d'.ip : Int))) d' P := by
  have h2 := h.lt
  refine ⟨?_, ?_, ?_, ((h.bel.setCell (Nat.le_of_lt h2) _).setCell (Nat.le_of_lt h2) _).setCell (Nat.le_of_lt h2) _, h2⟩
  · rw [heap_setCell_same (heap_setCell_same (heap_setCell_same h.rc))]; rfl
  · rw [Below.heap_setCell _ _ _ _ (by simp), Below.heap_setCell _ _ _ _ (by simp), Below.heap_setCell _ _ _ _ (by simp)]; exact h.rb
  · rw [Below.heap_setCell _ _ _ _ (by simp; omega), Below.heap_setCell _ _ _ _ (by simp; omega), Below.heap_setCell _ _ _ _ (by simp; omega)]; exact h.ps

theorem TM.facts {Q R : Nat} {w wr : World} {d : D} {P : List Nat} (h : TM Q R w wr d P) :
    wr.cell? ⟨R, 0, none⟩ = some (.int .u32 (d.rng : Int)) ∧ wr.cell? ⟨R, 1, none⟩ = some (.int .u32 (d.code : Int)) ∧ wr.cell? ⟨R, 2, none⟩ = some (.int .i64 (d.ip : Int)) ∧ (∀ j, wr.frozen? ⟨R, j, none⟩ = false) ∧ (∀ j, wr.frozen? ⟨R + 1, j, none⟩ = false) ∧ (∀ j, wr.frozen? ⟨Q, j, none⟩ = false) ∧
    wr.cell? ⟨R + 1, 0, none⟩ = some (.int .u32 0) ∧ wr.cell? ⟨R + 1, 1, none⟩ = some (.int .u32 0) ∧ wr.cell? ⟨R + 1, 2, none⟩ = some (.int .i64 0) ∧ ∀ m, m < P.length → wr.cell? ⟨Q, m, none⟩ = some (.int .u16 ((P.getD m 0 : Nat) : Int)) := by
  refine ⟨?_, ?_, ?_, fun j => by simp [World.frozen?, h.rc], fun j => by simp [World.frozen?, h.rb], fun j => by simp [World.frozen?, h.ps], ?_, ?_, ?_, fun m hm => ?_⟩
  · rw [cell_of_row wr R _ _ 54 (0, 0) h.rc]; rfl
  · rw [cell_of_row wr R _ _ 54 (0, 0) h.rc]; rfl
  · rw [cell_of_row wr R _ _ 54 (0, 0) h.rc]; rfl
  · rw [cell_of_row wr (R + 1) _ _ 54 (0, 0) h.rb]; rfl
  · rw [cell_of_row wr (R + 1) _ _ 54 (0, 0) h.rb]; rfl
  · rw [cell_of_row wr (R + 1) _ _ 54 (0, 0) h.rb]; rfl
  · rw [cell_of_row wr Q m _ 52 (0, 0) h.ps]; exact pv_get P m hm

/-- the input array, read from block I -/
def InAt (w : World) (I : Nat) (inp : Nat → Nat) : Prop := ∀ i, i < 60000 → w.cell? ⟨I, i, none⟩ = some (.int .u8 ((inp i : Nat) : Int))

/-- what 'tree' leaves -/
def TreeRet (Q : Nat) (w : World) (sym : Nat) (P : List Nat) (en : Ending) (w' : World) : Prop :=
  ∃ a b c : Int, en = .returned (.tuple #[.agg #[.int .u32 a, .int .u32 b, .int .i64 c], .int .u32 (sym : Int)]) ∧ w'.heap[Q]? = some (.cells (pv P) 52 (0, 0)) ∧ Below Q w w'

/-- the loop's head -/
def TRel (n sym : Nat) (P0 : List Nat) (X L Q R : Nat) (w : World) (k x : Nat) (wr : World) : Prop :=
  (k < n → x = (Pk n sym P0 k).getD (mK n sym k) 0) ∧ ∃ d, Dec X L (preSt n sym P0 k) d ∧ TM Q R w wr d (Pk n sym P0 k)

theorem pow_shl (n : Nat) (h : n ≤ 16) : IntKind.u32.wrap ((2 : Int) ^ n) = ((2 ^ n : Nat) : Int) := by
  have h1 : 2 ^ n ≤ 2 ^ 16 := Nat.pow_le_pow_right (by omega) h
  have e : ((2 : Int) ^ n) = (((2 ^ n : Nat)) : Int) := by rw [Int.natCast_pow]; rfl
  rw [IntKind.wrap_u32, e]
  generalize (2 : Nat) ^ n = Z at *
  omega

theorem heap_drewN' (w : World) (n : Nat) : (w.drewN n).heap = w.heap := by
  induction n with
  | zero => rfl
  | succ n ih => exact ih

theorem below_drewN' {B : Nat} {a w : World} (n : Nat) (h : Below B a w) : Below B a (w.drewN n) := by
  induction n with
  | zero => exact h
  | succ n ih => exact ih.drew

theorem or_bit (m b : Nat) (hm : m ≤ 65536) (hb : b < 2) : bits .or .u32 ((m : Int) * 2) (b : Int) = ((2 * m + b : Nat) : Int) := by
  have e : (m : Int) * 2 = ((m * 2 : Nat) : Int) := by omega
  rw [e, or_u32_nat (m * 2) b (by omega) (by omega)]
  have h : m <<< 1 ||| b = m <<< 1 + b := (Nat.shiftLeft_add_eq_or_of_lt (by omega) m).symm
  rw [Nat.shiftLeft_eq] at h
  have h2 : m * 2 ||| b = m * 2 + b := h
  rw [h2]
  omega

theorem sub_pow (n sym m : Nat) (hn : n ≤ 16) (hs : sym < 2 ^ n) (hm : m = 2 ^ n + sym) : ((m : Int) - 2 ^ n % 4294967296) % 4294967296 = (sym : Int) := by
  have h1 : 2 ^ n ≤ 2 ^ 16 := Nat.pow_le_pow_right (by omega) hn
  have e : ((2 : Int) ^ n) = (((2 ^ n : Nat)) : Int) := by rw [Int.natCast_pow]; rfl
  rw [e]
  generalize (2 : Nat) ^ n = Z at *
  omega

theorem TM.out {Q R : Nat} {w wr : World} {d : D} {P : List Nat} (h : TM Q R w wr d P) (x y z : Value) :
    (((wr.setCell ⟨R + 1, 0, none⟩ x).setCell ⟨R + 1, 1, none⟩ y).setCell ⟨R + 1, 2, none⟩ z).heap[Q]? = some (.cells (pv P) 52 (0, 0)) ∧ Below Q w (((wr.setCell ⟨R + 1, 0, none⟩ x).setCell ⟨R + 1, 1, none⟩ y).setCell ⟨R + 1, 2, none⟩ z) := by
  have h2 := h.lt
  refine ⟨?_, ((h.bel.setCell (by simp; omega) _).setCell (by simp; omega) _).setCell (by simp; omega) _⟩
  rw [Below.heap_setCell _ _ _ _ (by simp; omega), Below.heap_setCell _ _ _ _ (by simp; omega), Below.heap_setCell _ _ _ _ (by simp; omega)]
  exact h.ps

/-- one round's two calls, in memory -/
theorem TM.normCall {I Q R : Nat} {w W : World} {d : D} {P : List Nat} (h : TM Q R w W d P) {inp : Nat → Nat} (hI : I < Q) (hin : InAt w I inp) (hb : ∀ i, inp i < 256) (h1 : d.code < d.rng) (h2 : d.rng < 4294967296) (h3 : d.ip < 60000) (V : World) (hV : V.heap = W.heap) :
    Calls Try.prog 31 #[dv d, .pointer (some ⟨I, 0, none⟩)] V fun en w' => RetV V (dv (dnorm inp d)) en w' := by
  have hlt := lt_of_heap h.ps
  refine normalize_any I V d inp (by rw [hV]; omega) ?_ (hb _) h3 h1 h2
  have e : V.cell? ⟨I, d.ip, none⟩ = W.cell? ⟨I, d.ip, none⟩ := World.cell?_of_block (by rw [hV])
  rw [e, h.bel.cell (p := ⟨I, d.ip, none⟩) hI]
  exact hin _ h3

theorem TM.bitCall {Q R : Nat} {w V : World} {d : D} {P : List Nat} (h : TM Q R w V d P) (d1 : D) (m p : Nat) (hm : m < P.length) (hp : P.getD m 0 = p) (hp1 : 31 ≤ p) (hp2 : p ≤ 2017) (h1 : 16777216 ≤ d1.rng) (h2 : d1.rng < 4294967296) (h3 : d1.code < 4294967296) :
    Calls Try.prog 28 #[dv d1, .pointer (some ⟨Q, m, none⟩), .int .u32 (p : Int)] V fun en w' => en = .returned (.tuple #[dv (dbit d1 p).1, .int .u32 (((dbit d1 p).2 : Nat) : Int)]) ∧ TM Q R w w' d (P.set m (upd p (dbit d1 p).2)) := by
  obtain ⟨_, _, _, _, _, fQ, _, _, _, cQ⟩ := h.facts
  have hc := cQ m hm
  rw [hp] at hc
  refine (bitOf_any Q m V d1 p (lt_of_heap h.ps) hc (fQ m) hp1 hp2 h1 h2 h3).mono fun en w' ⟨q1, q2⟩ => ⟨q1, ?_⟩
  refine (h.setProb m (upd p (dbit d1 p).2)).below ?_
  simpa using q2

theorem and_mask (a n N : Nat) (h : 2 ^ n = N) (hN : N ≤ 65536) (h2 : 2 ≤ N) (ha : a < 200000) : bits .and .u32 (a : Int) ((N : Int) - 1) = ((a % N : Nat) : Int) := by
  have e : (N : Int) - 1 = ((N - 1 : Nat) : Int) := by omega
  rw [e, and_u32_nat a (N - 1) (by omega) (by omega)]
  have := Nat.and_two_pow_sub_one_eq_mod a n
  rw [h] at this
  rw [this]

theorem TM.start (Q : Nat) (w : World) (d : D) (P : List Nat) (hps : w.heap[Q]? = some (.cells (pv P) 52 (0, 0))) (nq : Nat) :
    TM Q w.heap.size w (((w.alloc (.cells #[.int .u32 (d.rng : Int), .int .u32 (d.code : Int), .int .i64 (d.ip : Int)] 54)).alloc (.cells #[.int .u32 0, .int .u32 0, .int .i64 0] 54)).drewN nq) d P := by
  have hlt := lt_of_heap hps
  refine ⟨?_, ?_, ?_, below_drewN' _ (((Below.refl Q w).alloc (by omega) _).alloc (by simp; omega) _), hlt⟩
  · rw [heap_drewN', Below.heap_alloc _ _ _ (by simp)]; exact heap_alloc_new w _
  · rw [heap_drewN']
    have := heap_alloc_new (w.alloc (.cells #[.int .u32 (d.rng : Int), .int .u32 (d.code : Int), .int .i64 (d.ip : Int)] 54)) (.cells #[.int .u32 0, .int .u32 0, .int .i64 0] 54)
    simpa using this
  · rw [heap_drewN', Below.heap_alloc _ _ _ (by simp; omega), Below.heap_alloc _ _ _ hlt]; exact hps

set_option maxRecDepth 10000 in
set_option maxHeartbeats 1000000 in
theorem tree_any (I Q : Nat) (w : World) (n sym : Nat) (P0 : List Nat) (X L : Nat) (inp : Nat → Nat) (c : Nat) (d0 : D) (hs : Setting n sym P0 X L inp) (hd0 : Dec X L e0 d0) (hIQ : I < Q) (hin : InAt w I inp) (hps : w.heap[Q]? = some (.cells (pv P0) 52 (0, 0))) :
    Calls Try.prog 29 #[dv d0, .pointer (some ⟨I, 0, none⟩), .slice (some ⟨Q, 0, none⟩) (2 ^ n) c, .int .u64 (n : Int)] w fun en w' => TreeRet Q w sym (Pk n sym P0 n) en w' := by
  have hQlt : Q < w.heap.size := lt_of_heap hps
  have hpw := hs.pow
  have h2n : 2 ≤ 2 ^ n := by
    have : 2 ^ 1 ≤ 2 ^ n := Nat.pow_le_pow_right (by omega) hs.n1
    omega
  have hc1 : w.cell? ⟨Q, 1, none⟩ = some (.int .u16 ((P0.getD 1 0 : Nat) : Int)) := by
    rw [cell_of_row w Q 1 _ 52 (0, 0) hps]; exact pv_get P0 1 (by rw [hs.len]; omega)
  obtain ⟨x0, hx0⟩ : ∃ x, P0.getD 1 0 = x := ⟨_, rfl⟩
  rw [hx0] at hc1
  have hn16 := hs.n16
  have HS : Hid _ := hs
  have HIN : Hid _ := hin
  have HX0 : Hid _ := hx0
  have HST : Hid (∀ nq, TRel n sym P0 X L Q w.heap.size w 0 x0 (((w.alloc (.cells #[.int .u32 (d0.rng : Int), .int .u32 (d0.code : Int), .int .i64 (d0.ip : Int)] 54)).alloc (.cells #[.int .u32 0, .int .u32 0, .int .i64 0] 54)).drewN nq)) := fun nq =>
    ⟨fun _ => by rw [mK_zero n sym hs.symlt]; exact hx0.symm, d0, hd0, TM.start Q w d0 P0 hps nq⟩
  have hx0b : (x0 : Int) < 65536 := by have := hs.u16 1; omega
  clear hs hin hx0 hps
  obtain ⟨N, hN⟩ : ∃ N, 2 ^ n = N := ⟨_, rfl⟩
  rw [hN] at hpw h2n ⊢
  have HN : Hid _ := hN
  clear hN
  unfold dv
  obtain ⟨r0, c0, i0⟩ := d0
  simp only at *
  have n1 : ¬ Q = w.heap.size := by omega
  have n2 : ¬ Q = w.heap.size + 1 := by omega
  go_enter Try.func29, Try.ntmps29
  go_wp2
  go_quiet (fail)
  go_wp2
  go_loopw [11, 12, 25] (fun mv vv iv wr => ∃ (k x m : Nat), k ≤ n ∧ iv = .int .u64 k ∧ mv = .int .u32 m ∧ m = mK n sym k ∧ vv = .int .u32 x ∧ x < 65536 ∧ TRel n sym P0 X L Q w.heap.size w k x wr) (fun _ _ iv _ => n - (intOf iv).toNat)
  case atStart => exact ⟨0, x0, 1, Nat.zero_le _, rfl, rfl, (mK_zero n sym HS.out.symlt).symm, rfl, by omega, HST.out _⟩
  case round =>
    clear HST hc1 HX0 hx0b
    obtain ⟨k, x, m, hk, rfl, rfl, hm, rfl, hx, hxk, d, hdec, htm⟩ := hrel
    have HM : Hid _ := hm
    have HXK : Hid _ := hxk
    have HDEC : Hid _ := hdec
    have HTM : Hid _ := htm
    clear hm hxk
    by_cases hkn : k < n
    · have hm2 := HS.out.m_lt k hkn
      rw [← HM.out, HN.out] at hm2
      obtain ⟨c0', c1', c2', fR, fR1, fQ, _, _, _, cQ⟩ := htm.facts
      have hpk := HS.out.pk k hk
      have hlen : (Pk n sym P0 k).length = N := by rw [hpk.1]; exact HN.out
      rw [hlen] at cQ
      have cz := cQ ((2 * m) % N) (Nat.mod_lt _ (by omega))
      have co := cQ ((2 * m + 1) % N) (Nat.mod_lt _ (by omega))
      have bz := HS.out.pk16 k hk ((2 * m) % N)
      have bo := HS.out.pk16 k hk ((2 * m + 1) % N)
      obtain ⟨xz, hxz⟩ : ∃ y, (Pk n sym P0 k).getD ((2 * m) % N) 0 = y := ⟨_, rfl⟩
      obtain ⟨xo, hxo⟩ : ∃ y, (Pk n sym P0 k).getD ((2 * m + 1) % N) 0 = y := ⟨_, rfl⟩
      rw [hxz] at cz bz
      rw [hxo] at co bo
      have HXZ : Hid (∀ b : Nat, b = 0 → (Pk n sym P0 k).getD ((2 * m + b) % N) 0 = xz) := fun b hb => by subst hb; exact hxz
      have HXO : Hid (∀ b : Nat, b = 1 → (Pk n sym P0 k).getD ((2 * m + b) % N) 0 = xo) := fun b hb => by subst hb; exact hxo
      have e1 : IntKind.u32.wrap (2 * (m : Int)) = 2 * (m : Int) := by rw [IntKind.wrap_u32]; omega
      have e3 : IntKind.u32.wrap (2 * (m : Int) + 1) = 2 * (m : Int) + 1 := by rw [IntKind.wrap_u32]; omega
      have e2 : bits .and .u32 (2 * (m : Int)) ((N : Int) - 1) = (((2 * m) % N : Nat) : Int) := and_mask (2 * m) n N HN.out hpw h2n (by omega)
      have e4 : bits .and .u32 (2 * (m : Int) + 1) ((N : Int) - 1) = (((2 * m + 1) % N : Nat) : Int) := and_mask (2 * m + 1) n N HN.out hpw h2n (by omega)
      have hz1 : (2 * m) % N < N := Nat.mod_lt _ (by omega)
      have ho1 : (2 * m + 1) % N < N := Nat.mod_lt _ (by omega)
      clear hxz hxo cQ
      generalize (2 * m) % N = z0 at *
      generalize (2 * m + 1) % N = z1 at *
      have hz2 : (z0 : Int) < (N : Int) := by omega
      have ho2 : (z1 : Int) < (N : Int) := by omega
      have bzI : (xz : Int) < 65536 := by omega
      have boI : (xo : Int) < 65536 := by omega
      obtain ⟨b1, b2, b3⟩ := HS.out.bounds k hk d hdec
      obtain ⟨g1, g2, g3, g4, g5⟩ := HS.out.norm_round k hkn d hdec
      have hpb := HS.out.p_band k hkn
      have hxp := HXK.out hkn
      rw [← hxp] at g4 g5 hpb
      have hmlen : m < (Pk n sym P0 k).length := by omega
      have hpm : (Pk n sym P0 k).getD m 0 = x := by rw [HM.out]; exact hxp.symm
      obtain ⟨d1, hd1⟩ : ∃ d1, dnorm inp d = d1 := ⟨_, rfl⟩
      obtain ⟨d2, hd2⟩ : ∃ d2, (dbit d1 x).1 = d2 := ⟨_, rfl⟩
      obtain ⟨b, hb⟩ : ∃ b, bitK n sym k = b := ⟨_, rfl⟩
      rw [hd1] at g1 g2 g3 g4 g5
      rw [hd2] at g5
      rw [hb] at g4
      have HNORM : Hid (∀ V : World, V.heap = wr.heap → Calls Try.prog 31 #[dv d, .pointer (some ⟨I, 0, none⟩)] V fun en w' => RetV V (dv d1) en w') := fun V hV => by
        have := htm.normCall hIQ HIN.out HS.out.byte b1 b2 b3 V hV
        rw [hd1] at this
        exact this
      have HBIT : Hid (∀ V : World, TM Q w.heap.size w V d (Pk n sym P0 k) → Calls Try.prog 28 #[dv d1, .pointer (some ⟨Q, m, none⟩), .int .u32 (x : Int)] V fun en w' => en = .returned (.tuple #[dv d2, .int .u32 (b : Int)]) ∧ TM Q w.heap.size w w' d ((Pk n sym P0 k).set m (upd x b))) := fun V hV => by
        have := hV.bitCall d1 m x hmlen hpm hpb.1 hpb.2 g1 g2 g3
        rw [hd2, g4] at this
        exact this
      have HFIN : Hid (∀ V : World, TM Q w.heap.size w V d2 ((Pk n sym P0 k).set m (upd x b)) → ∀ y, (k + 1 < n → y = (Pk n sym P0 k).getD ((2 * m + b) % N) 0) → TRel n sym P0 X L Q w.heap.size w (k + 1) y V) := fun V hV y hy => by
        refine ⟨fun h => ?_, d2, g5, ?_⟩
        · rw [hy h, ← HS.out.next_v k h, HM.out, hb, HN.out]
        · rw [Pk_succ, hb, ← HM.out, hpm]
          exact hV
      have HB : Hid _ := hb
      have hb01 := bitK_01 n sym k
      rw [hb] at hb01
      clear hpk hlen hpb hxp hmlen hpm hd1 hd2 hb g1 g2 g3 g4 g5 b1 b2 b3 htm hdec HDEC
      unfold dv at HNORM HBIT
      obtain ⟨r, cd, ip⟩ := d
      obtain ⟨r1, cd1, ip1⟩ := d1
      obtain ⟨r2, cd2, ip2⟩ := d2
      simp only at HNORM HBIT
      go_wp2
      go_quiet (fail)
      have HTM2 : Hid (TM Q w.heap.size w (wr.drewN nq) ⟨r, cd, ip⟩ (Pk n sym P0 k)) := HTM.out.below (below_drewN' _ (Below.refl _ _))
      go_wp2
      obtain ⟨s0, s1, s2, fR, _, _, _, _, _, _⟩ := HTM2.out.facts
      simp only at s0 s1 s2
      have HNORM2 : Hid (∀ V : World, V.heap = (wr.drewN nq).heap → Calls Try.prog 31 #[.agg #[.int .u32 (r : Int), .int .u32 (cd : Int), .int .i64 (ip : Int)], .pointer (some ⟨I, 0, none⟩)] V fun en w' => RetV V (.agg #[.int .u32 (r1 : Int), .int .u32 (cd1 : Int), .int .i64 (ip1 : Int)]) en w') := fun V hV => HNORM.out V (hV.trans (heap_drewN' wr nq))
      clear HNORM c0' c1' c2' cz co fR1 fQ
      generalize wr.drewN nq = W at *
      have hmI : (m : Int) < (N : Int) := by omega
      have em1 : IntKind.u32.wrap ((m : Int) * 2) = (m : Int) * 2 := by rw [IntKind.wrap_u32]; omega
      have em2 := or_bit m b (by omega) (by omega)
      have hmk : 2 * m + b = mK n sym (k + 1) := by rw [mK_succ n sym k hkn, ← HM.out, HB.out]
      have HMK : Hid _ := hmk
      clear hmk e1 e2 e3 e4
      have k64 : (k : Int) < 16 := by omega
      go_region_with (first | (go_at_call 31; refine Calls.mono (HNORM2.out _ rfl) ?_; rintro en w1 ⟨rfl, hb1⟩; have HTM3 : Hid _ := TM.below (wr := W.drew) (TM.below HTM2.out (Below.refl _ _).drew) hb1; clear hb1) | (go_at_call 28; refine Calls.mono (HBIT.out _ HTM3.out) ?_; rintro en w2 ⟨rfl, htm4⟩; obtain ⟨a0, a1, a2, fA, _, _, _, _, _, _⟩ := htm4.facts; have HTM4 : Hid _ := htm4; clear htm4))
      rcases hb01 with hb0 | hb0
      · have tb : ((b : Int) != 0) = false := by rw [hb0]; rfl
        have HB0 : Hid _ := hb0
        clear hb0
        go_wp2
        go_roundw
        case rel => exact ⟨k + 1, xz, 2 * m + b, by omega, by go_num, rfl, HMK.out, rfl, bz, HFIN.out _ (HTM4.out.setRc ⟨r2, cd2, ip2⟩) xz (fun _ => (HXZ.out b HB0.out).symm)⟩
        case measure => simp [intOf]; omega
      · have tb : ((b : Int) != 0) = true := by rw [hb0]; rfl
        have HB0 : Hid _ := hb0
        clear hb0
        go_wp2
        go_roundw
        case rel => exact ⟨k + 1, xo, 2 * m + b, by omega, by go_num, rfl, HMK.out, rfl, bo, HFIN.out _ (HTM4.out.setRc ⟨r2, cd2, ip2⟩) xo (fun _ => (HXO.out b HB0.out).symm)⟩
        case measure => simp [intOf]; omega
    · obtain ⟨c0', c1', c2', fR, fR1, fQ, k0, k1, k2, _⟩ := htm.facts
      have q0 := fR1 0
      have q1 := fR1 1
      have q2 := fR1 2
      have ekn : k = n := by omega
      subst ekn
      have HE : Hid (((m : Int) - 2 ^ k % 4294967296) % 4294967296 = (sym : Int)) := sub_pow k sym m hn16 HS.out.symlt (by rw [HM.out, mK_end])
      have HO : Hid _ := htm.out (.int .u32 (d.rng : Int)) (.int .u32 (d.code : Int)) (.int .i64 (d.ip : Int))
      clear fR fR1 fQ htm hdec
      go_wp2
      rw [HE.out]
      exact bodyPost_ret (v := .tuple #[.agg #[.int .u32 (d.rng : Int), .int .u32 (d.code : Int), .int .i64 (d.ip : Int)], .int .u32 (sym : Int)]) (by simp [results, Try.results29, go_sem, k0, k1, k2]) rfl ⟨_, _, _, rfl, HO.out.1, HO.out.2⟩

end Go.Proofs.Qxb6001347a
