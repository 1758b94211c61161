/- THE PLAIN LAW, third part: one round of the decoder's tree. -/
import Derived.Test.Qxb6001347aCoder
namespace Go.Proofs.Qxb6001347a.Plain

/-- a symbol of n bits, coded into X, a number of L bytes -/
structure Setting (n sym : Nat) (P0 : List Nat) (X L : Nat) (inp : Nat → Nat) : Prop where
  n1 : 1 ≤ n
  n16 : n ≤ 16
  symlt : sym < 2 ^ n
  len : P0.length = 2 ^ n
  band : Band P0
  hin : In X L (encSt n sym P0 n).1
  dig : ∀ i, i < L → inp i = X / 256 ^ (L - 1 - i) % 256
  small : L ≤ 100
  byte : ∀ i, inp i < 256
  u16 : ∀ i, P0.getD i 0 < 65536

/-- the probabilities behind k bits -/
def Pk (n sym : Nat) (P0 : List Nat) (k : Nat) : List Nat := (encSt n sym P0 k).2

theorem Pk_succ (n sym : Nat) (P0 : List Nat) (k : Nat) : Pk n sym P0 (k + 1) = (Pk n sym P0 k).set (mK n sym k) (upd ((Pk n sym P0 k).getD (mK n sym k) 0) (bitK n sym k)) := rfl

variable {n sym : Nat} {P0 : List Nat} {X L : Nat} {inp : Nat → Nat}

theorem Setting.pow (h : Setting n sym P0 X L inp) : 2 ^ n ≤ 65536 := by
  have : 2 ^ n ≤ 2 ^ 16 := Nat.pow_le_pow_right (by omega) h.n16
  omega

theorem Setting.pk (h : Setting n sym P0 X L inp) (k : Nat) (hk : k ≤ n) : (Pk n sym P0 k).length = 2 ^ n ∧ Band (Pk n sym P0 k) := by
  have := enc_ok h.symlt h.len h.band k hk
  exact ⟨this.2.2.1, this.2.1⟩

theorem Setting.pk16 (h : Setting n sym P0 X L inp) : ∀ k, k ≤ n → ∀ i, (Pk n sym P0 k).getD i 0 < 65536
  | 0, _, i => h.u16 i
  | k + 1, hk, i => by
    have ih := h.pk16 k (by omega) i
    have hl := h.pk k (by omega)
    have hm1 := mK_lt n sym k h.symlt (by omega)
    have hm2 : 2 ^ (k + 1) ≤ 2 ^ n := Nat.pow_le_pow_right (by omega) (by omega)
    have hp := hl.2 (mK n sym k) (mK_pos n sym k) (by omega)
    have hu := upd_band hp.1 hp.2 (bitK n sym k)
    rw [Pk_succ]
    by_cases e : mK n sym k = i
    · subst e
      have hlt : mK n sym k < (Pk n sym P0 k).length := by omega
      simp [hlt] at hu ⊢
      omega
    · simp [List.getElem?_set_ne e] at ih ⊢
      exact ih

theorem Setting.m_lt (h : Setting n sym P0 X L inp) (k : Nat) (hk : k < n) : mK n sym k < 2 ^ n := by
  have h1 := mK_lt n sym k h.symlt (by omega)
  have h2 : 2 ^ (k + 1) ≤ 2 ^ n := Nat.pow_le_pow_right (by omega) (by omega)
  omega

theorem Setting.p_band (h : Setting n sym P0 X L inp) (k : Nat) (hk : k < n) : 31 ≤ (Pk n sym P0 k).getD (mK n sym k) 0 ∧ (Pk n sym P0 k).getD (mK n sym k) 0 ≤ 2017 := by
  have h1 := h.pk k (by omega)
  exact h1.2 _ (mK_pos n sym k) (by have := h.m_lt k hk; omega)

theorem Setting.bounds (h : Setting n sym P0 X L inp) (k : Nat) (hk : k ≤ n) (d : D) (hd : Dec X L (preSt n sym P0 k) d) : d.code < d.rng ∧ d.rng < 4294967296 ∧ d.ip < 60000 := by
  have h1 := in_k h.symlt h.len h.band h.hin k hk
  have h2 := hd.lt h1.2
  have h3 := h1.2.len
  have h4 := h.small
  have h5 := hd.ip
  have h6 := hd.rng
  refine ⟨by omega, ?_, by omega⟩
  rw [h6]
  cases k with
  | zero => show e0.rng < _; decide
  | succ j =>
    have q := enc_ok h.symlt h.len h.band j (by omega)
    have hp := h.p_band j (by omega)
    exact (encPre_ok q.1 hp.1 hp.2 _).2.2

theorem Setting.norm_round (h : Setting n sym P0 X L inp) (k : Nat) (hk : k < n) (d : D) (hd : Dec X L (preSt n sym P0 k) d) :
    16777216 ≤ (dnorm inp d).rng ∧ (dnorm inp d).rng < 4294967296 ∧ (dnorm inp d).code < 4294967296 ∧
    (dbit (dnorm inp d) ((Pk n sym P0 k).getD (mK n sym k) 0)).2 = bitK n sym k ∧ Dec X L (preSt n sym P0 (k + 1)) (dbit (dnorm inp d) ((Pk n sym P0 k).getD (mK n sym k) 0)).1 := by
  have h1 := in_k h.symlt h.len h.band h.hin k (by omega)
  have h2 := in_k h.symlt h.len h.band h.hin (k + 1) (by omega)
  have q := enc_ok h.symlt h.len h.band k (by omega)
  have e := norm_pre n sym P0 k
  have hn : Dec X L (encSt n sym P0 k).1 (dnorm inp d) := by
    rw [e]
    exact dec_norm inp h.dig q.2.2.2.2 hd (by rw [← e]; exact h1.1)
  have hb := dec_bit (bitK_01 n sym k) hn (p := (Pk n sym P0 k).getD (mK n sym k) 0) h2.2
  have hl := hn.lt h1.1
  have hr := hn.rng
  have s1 := q.1.lo
  have s2 := q.1.hi
  exact ⟨by omega, by omega, by omega, hb.1, hb.2⟩

/-- what was loaded ahead is the next probability -/
theorem Setting.next_v (h : Setting n sym P0 X L inp) (k : Nat) (hk : k + 1 < n) : (Pk n sym P0 k).getD ((2 * mK n sym k + bitK n sym k) % 2 ^ n) 0 = (Pk n sym P0 (k + 1)).getD (mK n sym (k + 1)) 0 := by
  have h1 := mK_succ n sym k (by omega)
  have h2 := h.m_lt (k + 1) hk
  have h3 := mK_pos n sym k
  rw [Pk_succ, ← h1, Nat.mod_eq_of_lt h2]
  have hne : mK n sym k ≠ mK n sym (k + 1) := by omega
  simp [List.getElem?_set_ne hne]

end Go.Proofs.Qxb6001347a.Plain
