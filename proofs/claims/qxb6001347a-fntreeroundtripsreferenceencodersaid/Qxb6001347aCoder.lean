/- THE PLAIN LAW, second part: bits coded and decoded. -/
import Derived.Test.Qxb6001347aPlain
set_option linter.unusedVariables false
namespace Go.Proofs.Qxb6001347a.Plain

def bound (r p : Nat) : Nat := r / 2048 * p

def encPre (e : E) (p b : Nat) : E := if b = 0 then { e with rng := bound e.rng p } else { e with low := e.low + bound e.rng p, rng := e.rng - bound e.rng p }
/-- the range widened, a byte let out -/
def sh (e : E) : E := shiftLow { e with rng := e.rng * 256 }
def norm (e : E) : E := if e.rng < 16777216 then sh e else e
def encBit (e : E) (p b : Nat) : E := norm (encPre e p b)
def upd (p b : Nat) : Nat := if b = 0 then p + (2048 - p) / 32 else p - p / 32

theorem sh_N (e : E) (h : 1 ≤ e.cs) : N (sh e) = N e + 1 := shift_N { e with rng := e.rng * 256 } h
theorem sh_rng (e : E) : (sh e).rng = e.rng * 256 := shift_rng { e with rng := e.rng * 256 }
theorem sh_T (e : E) (h : EI e e.rng) : T (sh e) = 256 * T e := shift_T { e with rng := e.rng * 256 } e.rng ⟨h.cs1, h.cache, h.bytes, h.sum, h.full, h.r1⟩
theorem sh_EI (e : E) (h : EI e e.rng) (hr : e.rng ≤ 16777216) : EI (sh e) (256 * e.rng) := shift_EI { e with rng := e.rng * 256 } e.rng ⟨h.cs1, h.cache, h.bytes, h.sum, h.full, h.r1⟩ hr

structure SI (e : E) : Prop where
  ei : EI e e.rng
  lo : 16777216 ≤ e.rng
  hi : e.rng < 4294967296

theorem bound_lo {r p : Nat} (hr : 16777216 ≤ r) (hp : 31 ≤ p) : 253952 ≤ bound r p := by
  have h1 : 8192 ≤ r / 2048 := by omega
  have := Nat.mul_le_mul h1 hp
  unfold bound
  omega

theorem bound_hi {r p : Nat} (hr : 16777216 ≤ r) (hp : p ≤ 2017) : bound r p + 253952 ≤ r := by
  have h1 : r / 2048 * p ≤ r / 2048 * 2017 := Nat.mul_le_mul_left _ hp
  unfold bound
  omega

theorem encPre_ok {e : E} {p : Nat} (h : SI e) (hp : 31 ≤ p) (hp2 : p ≤ 2017) (b : Nat) : EI (encPre e p b) (encPre e p b).rng ∧ 65536 ≤ (encPre e p b).rng ∧ (encPre e p b).rng < 4294967296 := by
  have h1 := bound_lo h.lo hp
  have h2 := bound_hi h.lo hp2
  have h3 := h.hi
  have hs := h.ei.sum
  have hf := h.ei.full
  unfold encPre
  split
  · refine ⟨⟨h.ei.cs1, h.ei.cache, h.ei.bytes, ?_, fun q => ?_, ?_⟩, ?_, ?_⟩ <;> simp only
    · omega
    · have := hf q; omega
    · omega
    · omega
    · omega
  · refine ⟨⟨h.ei.cs1, h.ei.cache, h.ei.bytes, ?_, fun q => ?_, ?_⟩, ?_, ?_⟩ <;> simp only
    · omega
    · have := hf q; omega
    · omega
    · omega
    · omega

theorem norm_ok {e : E} (h : EI e e.rng) (h1 : 65536 ≤ e.rng) (h2 : e.rng < 4294967296) : SI (norm e) := by
  unfold norm
  split
  · rename_i hlt
    have h4 := sh_EI e h (by omega)
    have h5 := sh_rng e
    refine ⟨?_, by omega, by omega⟩
    have e1 : 256 * e.rng = (sh e).rng := by omega
    rw [← e1]
    exact h4
  · exact ⟨h, by omega, h2⟩

/-- X, a number of L bytes, lies in e's interval -/
structure In (X L : Nat) (e : E) : Prop where
  len : N e + 4 ≤ L
  lo : T e * 256 ^ (L - 4 - N e) ≤ X
  hi : X < (T e + e.rng) * 256 ^ (L - 4 - N e)

theorem in_norm {X L : Nat} {e : E} (he : EI e e.rng) (h : In X L (norm e)) : In X L e := by
  unfold norm at h
  split at h
  · obtain ⟨l1, l2, l3⟩ := h
    rw [sh_N e he.cs1] at l1 l2 l3
    rw [sh_T e he] at l2 l3
    rw [sh_rng] at l3
    have ep : L - 4 - N e = (L - 4 - (N e + 1)) + 1 := by omega
    refine ⟨by omega, ?_, ?_⟩
    · rw [ep, Nat.pow_succ, Nat.mul_comm (256 ^ _) 256, ← Nat.mul_assoc, Nat.mul_comm (T e) 256]
      exact l2
    · rw [ep, Nat.pow_succ, Nat.mul_comm (256 ^ _) 256, ← Nat.mul_assoc, Nat.mul_comm (T e + e.rng) 256, Nat.mul_add, Nat.mul_comm 256 e.rng]
      exact l3
  · exact h

theorem pre_N (e : E) (p b : Nat) : N (encPre e p b) = N e := by
  unfold encPre
  split <;> rfl

theorem pre_T (e : E) (p b : Nat) : T (encPre e p b) = T e + (if b = 0 then 0 else bound e.rng p) := by
  by_cases hb : b = 0
  · simp only [encPre, T, dig, if_pos hb]
    omega
  · simp only [encPre, T, dig, if_neg hb]
    omega

theorem pre_rng (e : E) (p b : Nat) : (encPre e p b).rng = if b = 0 then bound e.rng p else e.rng - bound e.rng p := by
  unfold encPre
  split <;> rfl

theorem in_pre {X L : Nat} {e : E} {p b : Nat} (hb : bound e.rng p ≤ e.rng) (h : In X L (encPre e p b)) : In X L e := by
  obtain ⟨l1, l2, l3⟩ := h
  rw [pre_N] at l1 l2 l3
  rw [pre_T] at l2 l3
  rw [pre_rng] at l3
  refine ⟨l1, Nat.le_trans (Nat.mul_le_mul_right _ ?_) l2, Nat.lt_of_lt_of_le l3 (Nat.mul_le_mul_right _ ?_)⟩
  · omega
  · split <;> omega

theorem In.div {X L : Nat} {e : E} (h : In X L e) : T e ≤ X / 256 ^ (L - 4 - N e) ∧ X / 256 ^ (L - 4 - N e) < T e + e.rng := by
  have hp : 0 < 256 ^ (L - 4 - N e) := Nat.pow_pos (by omega)
  exact ⟨(Nat.le_div_iff_mul_le hp).2 h.lo, (Nat.div_lt_iff_lt_mul hp).2 h.hi⟩

/-! ### the decoder -/
structure D where
  rng : Nat
  code : Nat
  ip : Nat

structure Dec (X L : Nat) (e : E) (d : D) : Prop where
  rng : d.rng = e.rng
  ip : d.ip = N e + 4
  code : d.code + T e = X / 256 ^ (L - 4 - N e)

def dnorm (inp : Nat → Nat) (d : D) : D := if d.rng < 16777216 then ⟨d.rng * 256, d.code * 256 + inp d.ip, d.ip + 1⟩ else d

theorem Dec.lt {X L : Nat} {e : E} {d : D} (h : Dec X L e d) (hin : In X L e) : d.code < e.rng := by
  have h1 := hin.div
  have h2 := h.code
  omega

theorem dec_norm {X L : Nat} {e : E} {d : D} (inp : Nat → Nat) (hi : ∀ i, i < L → inp i = X / 256 ^ (L - 1 - i) % 256) (he : EI e e.rng) (h : Dec X L e d) (hin : In X L (norm e)) : Dec X L (norm e) (dnorm inp d) := by
  unfold dnorm
  rw [h.rng]
  unfold norm at hin ⊢
  split
  · rename_i hlt
    rw [if_pos hlt] at hin
    have l1 := hin.len
    have hip := h.ip
    have hN := sh_N e he.cs1
    have hT := sh_T e he
    have hR := sh_rng e
    rw [hN] at l1
    refine ⟨by rw [hR], by rw [hN]; simp only; omega, ?_⟩
    rw [hN, hT]
    simp only
    rw [hi d.ip (by omega)]
    have hc := h.code
    have ep : L - 4 - N e = (L - 4 - (N e + 1)) + 1 := by omega
    have eq : L - 1 - d.ip = L - 4 - (N e + 1) := by omega
    rw [ep, Nat.pow_succ, ← Nat.div_div_eq_div_mul] at hc
    rw [eq]
    generalize X / 256 ^ (L - 4 - (N e + 1)) = Y at *
    omega
  · rename_i hlt
    rw [if_neg hlt] at hin
    exact h

def dbit (d : D) (p : Nat) : D × Nat := if d.code < bound d.rng p then (⟨bound d.rng p, d.code, d.ip⟩, 0) else (⟨d.rng - bound d.rng p, d.code - bound d.rng p, d.ip⟩, 1)

theorem dec_bit {X L : Nat} {e : E} {d : D} {p b : Nat} (hb : b = 0 ∨ b = 1) (h : Dec X L e d) (hin : In X L (encPre e p b)) : (dbit d p).2 = b ∧ Dec X L (encPre e p b) (dbit d p).1 := by
  have h1 := hin.div
  have hc := h.code
  have hN := pre_N e p b
  have hT := pre_T e p b
  have hR := pre_rng e p b
  rw [hN, hT, hR] at h1
  unfold dbit
  rw [h.rng]
  rcases hb with rfl | rfl
  · simp only [if_true] at h1 hT hR
    rw [if_pos (by omega)]
    refine ⟨rfl, ?_, ?_, ?_⟩
    · rw [hR]
    · rw [hN]; exact h.ip
    · rw [hN, hT, Nat.add_zero]; exact hc
  · simp only [Nat.one_ne_zero, if_false] at h1 hT hR
    rw [if_neg (by omega)]
    refine ⟨rfl, ?_, ?_, ?_⟩
    · rw [hR]
    · rw [hN]; exact h.ip
    · rw [hN, hT]
      simp only
      omega

/-! ### the symbol's bits and its path -/
def bitK (n sym k : Nat) : Nat := sym / 2 ^ (n - 1 - k) % 2
def mK (n sym k : Nat) : Nat := 2 ^ k + sym / 2 ^ (n - k)

theorem mK_succ (n sym k : Nat) (hk : k < n) : mK n sym (k + 1) = 2 * mK n sym k + bitK n sym k := by
  unfold mK bitK
  have e1 : n - (k + 1) = n - 1 - k := by omega
  have e2 : n - k = (n - 1 - k) + 1 := by omega
  rw [e1, e2, Nat.pow_succ, Nat.pow_succ, ← Nat.div_div_eq_div_mul]
  generalize sym / 2 ^ (n - 1 - k) = Y
  generalize 2 ^ k = Z
  omega

theorem mK_zero (n sym : Nat) (h : sym < 2 ^ n) : mK n sym 0 = 1 := by
  unfold mK
  rw [Nat.sub_zero, Nat.div_eq_of_lt h]

theorem mK_end (n sym : Nat) : mK n sym n = 2 ^ n + sym := by
  unfold mK
  simp

theorem mK_lt (n sym k : Nat) (h : sym < 2 ^ n) (hk : k ≤ n) : mK n sym k < 2 ^ (k + 1) := by
  unfold mK
  have h1 : sym / 2 ^ (n - k) < 2 ^ k := by
    rw [Nat.div_lt_iff_lt_mul (Nat.pow_pos (by omega)), ← Nat.pow_add]
    rw [show k + (n - k) = n by omega]
    exact h
  rw [Nat.pow_succ]
  omega

theorem mK_pos (n sym k : Nat) : 1 ≤ mK n sym k := by
  unfold mK
  have : 0 < 2 ^ k := Nat.pow_pos (by omega)
  generalize sym / 2 ^ (n - k) = Y
  omega

theorem bitK_01 (n sym k : Nat) : bitK n sym k = 0 ∨ bitK n sym k = 1 := by
  unfold bitK
  omega

def e0 : E := ⟨0, 4294967295, 0, 1, []⟩

/-- the encoder behind k bits: its state, its probabilities -/
def encSt (n sym : Nat) (P0 : List Nat) : Nat → E × List Nat
  | 0 => (e0, P0)
  | k + 1 => (encBit (encSt n sym P0 k).1 ((encSt n sym P0 k).2.getD (mK n sym k) 0) (bitK n sym k), (encSt n sym P0 k).2.set (mK n sym k) (upd ((encSt n sym P0 k).2.getD (mK n sym k) 0) (bitK n sym k)))

/-- .. ahead of the last normalizing -/
def preSt (n sym : Nat) (P0 : List Nat) : Nat → E
  | 0 => e0
  | k + 1 => encPre (encSt n sym P0 k).1 ((encSt n sym P0 k).2.getD (mK n sym k) 0) (bitK n sym k)

theorem norm_pre (n sym : Nat) (P0 : List Nat) : ∀ k, (encSt n sym P0 k).1 = norm (preSt n sym P0 k)
  | 0 => rfl
  | k + 1 => rfl

/-- probabilities in the band -/
def Band (P : List Nat) : Prop := ∀ i, 1 ≤ i → i < P.length → 31 ≤ P.getD i 0 ∧ P.getD i 0 ≤ 2017

theorem upd_band {p : Nat} (h1 : 31 ≤ p) (h2 : p ≤ 2017) (b : Nat) : 31 ≤ upd p b ∧ upd p b ≤ 2017 := by
  unfold upd
  split <;> omega

theorem band_set {P : List Nat} (h : Band P) (m b : Nat) (hm : 1 ≤ m) (hm2 : m < P.length) : Band (P.set m (upd (P.getD m 0) b)) := by
  intro i h1 h2
  rw [List.length_set] at h2
  by_cases e : i = m
  · subst e
    have := h i h1 h2
    have hu := upd_band this.1 this.2 b
    simp [h2] at hu ⊢
    exact hu
  · have := h i h1 h2
    simp [List.getElem?_set_ne (Ne.symm e)] at this ⊢
    exact this

theorem si_e0 : SI e0 := ⟨⟨by simp [e0], by simp [e0], by simp [e0], by simp [e0], by simp [e0], by simp [e0]⟩, by simp [e0], by simp [e0]⟩

theorem enc_ok {n sym : Nat} {P0 : List Nat} (hs : sym < 2 ^ n) (hl : P0.length = 2 ^ n) (hb : Band P0) : ∀ k, k ≤ n → SI (encSt n sym P0 k).1 ∧ Band (encSt n sym P0 k).2 ∧ (encSt n sym P0 k).2.length = 2 ^ n ∧ N (encSt n sym P0 k).1 ≤ 1 + k ∧ EI (preSt n sym P0 k) (preSt n sym P0 k).rng
  | 0, _ => ⟨si_e0, hb, hl, by simp [encSt, N, e0], si_e0.ei⟩
  | k + 1, hk => by
    obtain ⟨h1, h2, h3, h4, h5⟩ := enc_ok hs hl hb k (by omega)
    have hm := mK_lt n sym k hs (by omega)
    have hm2 : 2 ^ (k + 1) ≤ 2 ^ n := Nat.pow_le_pow_right (by omega) (by omega)
    have hp := h2 (mK n sym k) (mK_pos n sym k) (by omega)
    have q := encPre_ok h1 hp.1 hp.2 (bitK n sym k)
    refine ⟨norm_ok q.1 q.2.1 q.2.2, band_set h2 _ _ (mK_pos n sym k) (by omega), by simp [encSt, h3], ?_, q.1⟩
    show N (norm (encPre _ _ _)) ≤ _
    unfold norm
    split
    · rw [sh_N _ q.1.cs1, pre_N]
      omega
    · rw [pre_N]
      omega

theorem in_all {n sym X L : Nat} {P0 : List Nat} (hs : sym < 2 ^ n) (hl : P0.length = 2 ^ n) (hb : Band P0) (hin : In X L (encSt n sym P0 n).1) : ∀ j, j ≤ n → In X L (encSt n sym P0 (n - j)).1
  | 0, _ => hin
  | j + 1, hj => by
    have ih := in_all hs hl hb hin j (by omega)
    obtain ⟨k, hk⟩ : ∃ k, n - j = k + 1 := ⟨n - j - 1, by omega⟩
    have e : n - (j + 1) = k := by omega
    rw [hk] at ih
    rw [e]
    obtain ⟨h1, h2, h3, h4, h5⟩ := enc_ok hs hl hb k (by omega)
    have h6 := (enc_ok hs hl hb (k + 1) (by omega)).2.2.2.2
    have hm := mK_lt n sym k hs (by omega)
    have hm2 : 2 ^ (k + 1) ≤ 2 ^ n := Nat.pow_le_pow_right (by omega) (by omega)
    have hp := h2 (mK n sym k) (mK_pos n sym k) (by omega)
    have hbd := bound_hi h1.lo hp.2
    exact in_pre (by omega) (in_norm h6 ih)

theorem in_k {n sym X L : Nat} {P0 : List Nat} (hs : sym < 2 ^ n) (hl : P0.length = 2 ^ n) (hb : Band P0) (hin : In X L (encSt n sym P0 n).1) (k : Nat) (hk : k ≤ n) : In X L (encSt n sym P0 k).1 ∧ In X L (preSt n sym P0 k) := by
  have := in_all hs hl hb hin (n - k) (by omega)
  rw [show n - (n - k) = k by omega] at this
  refine ⟨this, ?_⟩
  rw [norm_pre] at this
  exact in_norm (enc_ok hs hl hb k hk).2.2.2.2 this

/-- the decoder's start -/
theorem dec_start {X L : Nat} (hin : In X L e0) (inp : Nat → Nat) (hi : ∀ i, i < L → inp i = X / 256 ^ (L - 1 - i) % 256) :
    Dec X L e0 ⟨4294967295, inp 1 * 16777216 + inp 2 * 65536 + inp 3 * 256 + inp 4, 5⟩ := by
  have h1 := hin.div
  have hl := hin.len
  have eN : N e0 = 1 := rfl
  have eT : T e0 = 0 := rfl
  have eR : e0.rng = 4294967295 := rfl
  rw [eN] at hl
  rw [eN, eT, eR] at h1
  refine ⟨rfl, rfl, ?_⟩
  rw [eN, eT]
  simp only
  rw [hi 1 (by omega), hi 2 (by omega), hi 3 (by omega), hi 4 (by omega)]
  have p4 : L - 1 - 4 = L - 4 - 1 := by omega
  have p3 : L - 1 - 3 = (L - 4 - 1) + 1 := by omega
  have p2 : L - 1 - 2 = (L - 4 - 1) + 1 + 1 := by omega
  have p1 : L - 1 - 1 = (L - 4 - 1) + 1 + 1 + 1 := by omega
  rw [p4, p3, p2, p1, Nat.pow_succ, Nat.pow_succ, Nat.pow_succ, ← Nat.div_div_eq_div_mul, ← Nat.div_div_eq_div_mul, ← Nat.div_div_eq_div_mul]
  generalize X / 256 ^ (L - 4 - 1) = Y at *
  omega

end Go.Proofs.Qxb6001347a.Plain
