/- THE PLAIN LAW: the range coder, no Go in sight. -/
set_option linter.unusedVariables false
namespace Go.Proofs.Qxb6001347a.Plain

/-! ### bytes as a number -/
def val (l : List Nat) : Nat := l.foldl (fun a b => a * 256 + b) 0

theorem val_snoc (l : List Nat) (b : Nat) : val (l ++ [b]) = val l * 256 + b := by simp [val]

/-- a, then b c-1 times -/
def pendL (a b : Nat) : Nat → List Nat
  | 0 => []
  | c + 1 => a :: List.replicate c b

theorem pendL_len (a b : Nat) : ∀ c, (pendL a b c).length = c
  | 0 => rfl
  | c + 1 => by simp [pendL]

theorem pendL_snoc (a b c : Nat) : pendL a b (c + 2) = pendL a b (c + 1) ++ [b] := by
  simp [pendL, List.replicate_succ']

theorem pendL_carry (l : List Nat) (a : Nat) : ∀ c, val (l ++ pendL (a + 1) 0 (c + 1)) = val (l ++ pendL a 255 (c + 1)) + 1
  | 0 => by
    show val (l ++ [a + 1]) = val (l ++ [a]) + 1
    rw [val_snoc, val_snoc]
    omega
  | c + 1 => by
    rw [pendL_snoc, pendL_snoc, ← List.append_assoc, ← List.append_assoc, val_snoc, val_snoc, pendL_carry l a c]
    omega

theorem pendL_lt {a b : Nat} (ha : a < 256) (hb : b < 256) : ∀ c, ∀ x ∈ pendL a b c, x < 256
  | 0, x, hx => by simp [pendL] at hx
  | c + 1, x, hx => by
    simp only [pendL, List.mem_cons, List.mem_replicate] at hx
    omega

/-- the first bytes of a number -/
theorem val_take (l : List Nat) (h : ∀ b ∈ l, b < 256) : ∀ j, j ≤ l.length → val (l.take (l.length - j)) = val l / 256 ^ j
  | 0, _ => by simp
  | j + 1, hj => by
    have ih := val_take l h j (by omega)
    have e : l.length - j = (l.length - (j + 1)) + 1 := by omega
    have hlt : l.length - (j + 1) < l.length := by omega
    rw [e, List.take_succ_eq_append_getElem hlt, val_snoc] at ih
    have hb : l[l.length - (j + 1)] < 256 := h _ (List.getElem_mem hlt)
    rw [Nat.pow_succ, ← Nat.div_div_eq_div_mul, ← ih]
    omega

/-- the digits of a number -/
theorem digit (l : List Nat) (h : ∀ b ∈ l, b < 256) (i : Nat) (hi : i < l.length) : val l / 256 ^ (l.length - 1 - i) % 256 = l.getD i 0 := by
  have h1 := val_take l h (l.length - 1 - i) (by omega)
  have e : l.length - (l.length - 1 - i) = i + 1 := by omega
  rw [e, List.take_succ_eq_append_getElem hi, val_snoc] at h1
  have hb : l[i] < 256 := h _ (List.getElem_mem hi)
  rw [← h1]
  simp [hi]
  omega

/-! ### the encoder -/
structure E where
  low : Nat
  rng : Nat
  cache : Nat
  cs : Nat
  out : List Nat

def dig (e : E) : List Nat := e.out ++ pendL e.cache 255 e.cs
def T (e : E) : Nat := val (dig e) * 4294967296 + e.low
def N (e : E) : Nat := e.out.length + e.cs

def shiftLow (e : E) : E :=
  if e.low % 4294967296 < 4278190080 ∨ e.low / 4294967296 ≠ 0 then
    ⟨e.low % 16777216 * 256, e.rng, e.low / 16777216 % 256, 1, e.out ++ pendL ((e.cache + e.low / 4294967296) % 256) ((255 + e.low / 4294967296) % 256) e.cs⟩
  else ⟨e.low % 16777216 * 256, e.rng, e.cache, e.cs + 1, e.out⟩

/-- the interval stays inside the digits that are pending -/
structure EI (e : E) (r : Nat) : Prop where
  cs1 : 1 ≤ e.cs
  cache : e.cache < 256
  bytes : ∀ b ∈ e.out, b < 256
  sum : e.low + r ≤ 8589934592
  full : e.cache = 255 → e.low + r ≤ 4294967296
  r1 : 1 ≤ r

theorem shift_N (e : E) (h : 1 ≤ e.cs) : N (shiftLow e) = N e + 1 := by
  unfold shiftLow N
  split
  · simp [pendL_len]
  · simp
    omega

theorem shift_rng (e : E) : (shiftLow e).rng = e.rng := by
  unfold shiftLow
  split <;> rfl

theorem shift_low (e : E) : (shiftLow e).low = e.low % 16777216 * 256 := by
  unfold shiftLow
  split <;> rfl

theorem shift_T (e : E) (r : Nat) (h : EI e r) : T (shiftLow e) = 256 * T e := by
  have hs := h.sum
  have hr := h.r1
  have hc := h.cache
  have hf := h.full
  obtain ⟨c, hc1⟩ : ∃ c, e.cs = c + 1 := ⟨e.cs - 1, by have := h.cs1; omega⟩
  unfold shiftLow T dig
  split
  · rename_i hfl
    have ep : ∀ x, pendL x 255 1 = [x] := fun _ => rfl
    simp only [ep]
    rw [val_snoc]
    by_cases hcar : e.low / 4294967296 = 0
    · rw [hcar]
      have e1 : (e.cache + 0) % 256 = e.cache := by omega
      have e2 : (255 + 0) % 256 = 255 := rfl
      rw [e1, e2]
      omega
    · have hcar1 : e.low / 4294967296 = 1 := by omega
      have hne : e.cache ≠ 255 := fun h => by have := hf h; omega
      rw [hcar1]
      have e1 : (e.cache + 1) % 256 = e.cache + 1 := by omega
      have e2 : (255 + 1) % 256 = 0 := rfl
      rw [e1, e2, hc1, pendL_carry]
      omega
  · rename_i hfl
    simp only
    rw [hc1]
    rw [pendL_snoc, ← List.append_assoc, val_snoc]
    omega

theorem shift_EI (e : E) (r : Nat) (h : EI e r) (hr : r ≤ 16777216) : EI (shiftLow e) (256 * r) := by
  have hs := h.sum
  have hr1 := h.r1
  have hc := h.cache
  have hf := h.full
  have hc1 := h.cs1
  unfold shiftLow
  split
  · rename_i hfl
    refine ⟨by simp, by simp; omega, ?_, by simp; omega, ?_, by omega⟩
    · intro b hb
      rcases List.mem_append.1 hb with hb | hb
      · exact h.bytes b hb
      · exact pendL_lt (by omega) (by omega) _ b hb
    · simp
      intro h255
      omega
  · rename_i hfl
    refine ⟨by simp, hc, h.bytes, by simp; omega, ?_, by omega⟩
    simp
    intro h255
    have := hf h255
    omega

theorem EI.mono {e : E} {r r' : Nat} (h : EI e r) (h1 : 1 ≤ r') (h2 : r' ≤ r) : EI e r' :=
  ⟨h.cs1, h.cache, h.bytes, by have := h.sum; omega, fun q => by have := h.full q; omega, h1⟩

/-! ### the flush -/
def flush (e : E) : Nat → E
  | 0 => e
  | k + 1 => shiftLow (flush e k)

theorem flush_ok (e : E) (h : EI e 1) : ∀ k, EI (flush e k) 1 ∧ T (flush e k) = 256 ^ k * T e ∧ N (flush e k) = N e + k
  | 0 => ⟨h, by simp [flush], rfl⟩
  | k + 1 => by
    obtain ⟨h1, h2, h3⟩ := flush_ok e h k
    refine ⟨(shift_EI _ 1 h1 (by omega)).mono (by omega) (by omega), ?_, ?_⟩
    · show T (shiftLow (flush e k)) = _
      rw [shift_T _ 1 h1, h2, Nat.pow_succ, Nat.mul_comm (256 ^ k) 256, Nat.mul_assoc]
    · show N (shiftLow (flush e k)) = _
      rw [shift_N _ h1.cs1, h3]
      omega

theorem flush_low (e : E) : (flush e 4).low = 0 := by
  have h1 : (flush e 1).low = e.low % 16777216 * 256 := shift_low _
  have h2 : (flush e 2).low = (flush e 1).low % 16777216 * 256 := shift_low _
  have h3 : (flush e 3).low = (flush e 2).low % 16777216 * 256 := shift_low _
  have h4 : (flush e 4).low = (flush e 3).low % 16777216 * 256 := shift_low _
  omega

/-- behind the flush the bytes are the interval's low end -/
theorem flush_out (e : E) (h : EI e 1) : val (flush e 5).out = T e ∧ (flush e 5).out.length = N e + 4 ∧ ∀ b ∈ (flush e 5).out, b < 256 := by
  obtain ⟨h1, h2, h3⟩ := flush_ok e h 5
  have h4 := flush_low e
  have e5 : flush e 5 = ⟨0, (flush e 4).rng, 0, 1, (flush e 5).out⟩ := by
    show shiftLow (flush e 4) = ⟨0, (flush e 4).rng, 0, 1, (shiftLow (flush e 4)).out⟩
    unfold shiftLow
    rw [h4]
    rw [if_pos (by omega)]
  refine ⟨?_, ?_, h1.bytes⟩
  · have hT : T (flush e 5) = val (flush e 5).out * 256 * 4294967296 := by
      conv => lhs; rw [e5]
      show val ((flush e 5).out ++ [0]) * 4294967296 + 0 = _
      rw [val_snoc]
      omega
    rw [hT] at h2
    omega
  · have hN : N (flush e 5) = (flush e 5).out.length + 1 := by
      conv => lhs; rw [e5]
      rfl
    omega

end Go.Proofs.Qxb6001347a.Plain
