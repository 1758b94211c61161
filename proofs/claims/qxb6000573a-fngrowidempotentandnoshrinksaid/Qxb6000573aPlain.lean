/- THE PLAIN LAW of 'grow', on the levels' lengths alone; no Go in sight. -/
set_option linter.unusedVariables false
namespace Go.Proofs.Qxb6000573a.Plain

/-- the levels' lengths: each is the number of 64s of the one below, the last is 1, no other is -/
def Gd : List Nat → Prop
  | [] => False
  | [n] => n = 1
  | n :: m :: r => 1 < n ∧ m = (n + 63) / 64 ∧ Gd (m :: r)

/-- the levels' lengths as far as they are settled, and what the next one must be -/
def Chain : List Nat → Nat → Prop
  | [], _ => True
  | [x], need => 1 < x ∧ need = (x + 63) / 64
  | x :: y :: r, need => 1 < x ∧ y = (x + 63) / 64 ∧ Chain (y :: r) need

def bd (k : Nat) : Nat := if k = 0 then 1025 else if k = 1 then 17 else 1

theorem chain_snoc : ∀ (p : List Nat) (need : Nat), Chain p need → 1 < need → Chain (p ++ [need]) ((need + 63) / 64)
  | [], need, _, h => ⟨h, rfl⟩
  | [x], need, h, h1 => ⟨h.1, h.2, h1, rfl⟩
  | x :: y :: r, need, h, h1 => ⟨h.1, h.2.1, chain_snoc (y :: r) need h.2.2 h1⟩

theorem chain_good : ∀ (p : List Nat), Chain p 1 → Gd (p ++ [1])
  | [], _ => rfl
  | [x], h => ⟨h.1, h.2, rfl⟩
  | x :: y :: r, h => ⟨h.1, h.2.1, chain_good (y :: r) h.2.2⟩

theorem good_pos : ∀ {l : List Nat}, Gd l → ∀ m ∈ l, 1 ≤ m
  | [n], h, m, hm => by simp at hm; simp [Gd] at h; omega
  | n :: m' :: r, h, m, hm => by
    rcases List.mem_cons.1 hm with rfl | hm
    · have := h.1; omega
    · exact good_pos h.2.2 m hm

theorem good_one {q : List Nat} (h : Gd (1 :: q)) : q = [] := by
  cases q with
  | nil => rfl
  | cons m r => have := h.1; omega

theorem good_last {m : Nat} (h : Gd [m]) : m = 1 := h

theorem good_tail {m a : Nat} {r : List Nat} (h : Gd (m :: a :: r)) : a = (m + 63) / 64 ∧ Gd (a :: r) := h.2

/-- THE LOOP of 'grow' at its k-th round's head: t the words that level 0 must have, need those that level k must have, ns the levels' lengths -/
structure PI (t k need : Nat) (ns : List Nat) : Prop where
  k2 : k ≤ 2
  kl : k ≤ ns.length
  need1 : 1 ≤ need
  need2 : need ≤ bd k
  chain : Chain (ns.take k) need
  suf : ns.drop k = [] ∨ Gd (ns.drop k)
  le : 1 ≤ k → ∀ m ∈ (ns.drop k).head?, m ≤ need
  zero : k = 0 → need = t ∧ ∀ m ∈ ns.head?, m ≤ 1025
  first : 1 ≤ k → ∀ x ∈ ns.head?, t ≤ x ∧ x ≤ 1025

theorem PI.start {t : Nat} {ns : List Nat} (h1 : 1 ≤ t) (h2 : t ≤ 1025) (hs : ns = [] ∨ Gd ns) (hb : ∀ m ∈ ns.head?, m ≤ 1025) : PI t 0 t ns :=
  ⟨by omega, by omega, h1, by simpa [bd] using h2, by simp [Chain], by simpa using hs, fun h => by omega, fun _ => ⟨rfl, hb⟩, fun h => by omega⟩

theorem bd_next (k n : Nat) (hk : k ≤ 2) (h : n ≤ bd k) (h1 : 1 < n) : k + 1 ≤ 2 ∧ (n + 63) / 64 ≤ bd (k + 1) := by
  unfold bd at *
  rcases (by omega : k = 0 ∨ k = 1 ∨ k = 2) with rfl | rfl | rfl <;> simp at * <;> omega

theorem take_split (ns : List Nat) (k : Nat) (hk : k < ns.length) : ns.drop k = ns[k] :: ns.drop (k + 1) := List.drop_eq_getElem_cons hk

theorem set_take (ns : List Nat) (k n : Nat) (hk : k < ns.length) : (ns.set k n).take (k + 1) = ns.take k ++ [n] := by
  rw [List.take_succ_eq_append_getElem (by simpa using hk), List.take_set_of_le (Nat.le_refl _)]
  simp

theorem set_drop (ns : List Nat) (k n : Nat) : (ns.set k n).drop (k + 1) = ns.drop (k + 1) := List.drop_set_of_lt (by omega)

/-- level k lies there: it is made as long as it must be; what is done is done -/
theorem PI.done_old {t k need : Nat} {ns : List Nat} (h : PI t k need ns) (hk : k + 1 = ns.length) (hn : max (ns.getD k 0) need = 1) : Gd (ns.set k 1) ∧ ∀ x ∈ (ns.set k 1).head?, t ≤ x ∧ x ≤ 1025 := by
  have hk' : k < ns.length := by omega
  have hneed : need = 1 := by have := h.need1; omega
  have e : ns.set k 1 = ns.take k ++ [1] := by
    have h1 := set_take ns k 1 hk'
    rw [List.take_of_length_le (by simp; omega)] at h1
    exact h1
  have hc := h.chain
  rw [hneed] at hc
  refine ⟨by rw [e]; exact chain_good _ hc, ?_⟩
  intro x hx
  by_cases h0 : k = 0
  · subst h0
    have := (h.zero rfl).1
    cases ns with
    | nil => simp at hk'
    | cons a r => simp at hx; omega
  · refine h.first (by omega) x ?_
    cases ns with
    | nil => simp at hk'
    | cons a r =>
      cases k with
      | zero => omega
      | succ j => simpa using hx

theorem PI.next_old {t k need : Nat} {ns : List Nat} (h : PI t k need ns) (hk : k < ns.length) (hn : ¬ (k + 1 = ns.length ∧ max (ns.getD k 0) need = 1)) :
    PI t (k + 1) ((max (ns.getD k 0) need + 63) / 64) (ns.set k (max (ns.getD k 0) need)) ∧ 1 < max (ns.getD k 0) need := by
  have hg : ns.getD k 0 = ns[k] := by simp [hk]
  rw [hg] at hn ⊢
  have hsuf : Gd (ns[k] :: ns.drop (k + 1)) := by
    rcases h.suf with h' | h'
    · rw [take_split ns k hk] at h'; cases h'
    · rwa [take_split ns k hk] at h'
  have hpos := good_pos hsuf ns[k] List.mem_cons_self
  have hN1 : 1 < max ns[k] need := by
    by_cases hl : k + 1 = ns.length
    · have := h.need1
      have : max ns[k] need ≠ 1 := fun e => hn ⟨hl, e⟩
      omega
    · have hd : ns.drop (k + 1) ≠ [] := by
        intro e
        have := congrArg List.length e
        simp at this
        omega
      have : ns[k] ≠ 1 := fun e => hd (good_one (e ▸ hsuf))
      omega
  have hbd : max ns[k] need ≤ bd k := by
    have h2 := h.need2
    by_cases h0 : k = 0
    · subst h0
      have h3 := (h.zero rfl).2 ns[0] (by rw [List.head?_eq_getElem?]; simp [hk])
      simp [bd] at h2 ⊢
      omega
    · have h3 := h.le (by omega) ns[k] (by rw [take_split ns k hk]; simp)
      omega
  have hb2 := bd_next k _ h.k2 hbd hN1
  refine ⟨⟨hb2.1, by simp; omega, by omega, hb2.2, ?_, ?_, ?_, fun h => by omega, ?_⟩, hN1⟩
  · rw [set_take ns k _ hk]
    by_cases h0 : k = 0
    · subst h0
      exact ⟨hN1, rfl⟩
    · have h3 := h.le (by omega) ns[k] (by rw [take_split ns k hk]; simp)
      have e : max ns[k] need = need := by omega
      rw [e] at hN1 ⊢
      exact chain_snoc _ _ h.chain hN1
  · rw [set_drop]
    cases hd : ns.drop (k + 1) with
    | nil => exact .inl rfl
    | cons a r =>
      rw [hd] at hsuf
      exact .inr (good_tail hsuf).2
  · intro _ m hm
    rw [set_drop] at hm
    cases hd : ns.drop (k + 1) with
    | nil => rw [hd] at hm; simp at hm
    | cons a r =>
      rw [hd] at hm hsuf
      simp at hm
      subst hm
      have := (good_tail hsuf).1
      omega
  · intro _ x hx
    by_cases h0 : k = 0
    · subst h0
      have h1 := (h.zero rfl).1
      have h3 := (h.zero rfl).2 ns[0] (by rw [List.head?_eq_getElem?]; simp [hk])
      cases ns with
      | nil => simp at hk
      | cons a r =>
        simp at hx h3 hbd
        have : need ≤ 1025 := by simpa [bd] using h.need2
        subst hx
        omega
    · refine h.first (by omega) x ?_
      cases ns with
      | nil => simp at hk
      | cons a r =>
        cases k with
        | zero => omega
        | succ j => simpa using hx

theorem PI.done_new {t k : Nat} {ns : List Nat} (h : PI t k 1 ns) (hk : k = ns.length) : Gd (ns ++ [1]) ∧ ∀ x ∈ (ns ++ [1]).head?, t ≤ x ∧ x ≤ 1025 := by
  have hc := h.chain
  rw [List.take_of_length_le (by omega)] at hc
  refine ⟨chain_good _ hc, ?_⟩
  intro x hx
  by_cases h0 : k = 0
  · have h1 := (h.zero h0).1
    have : ns = [] := List.eq_nil_of_length_eq_zero (by omega)
    subst this
    simp at hx
    omega
  · refine h.first (by omega) x ?_
    cases ns with
    | nil => simp at hk; omega
    | cons a r => simpa using hx

theorem PI.next_new {t k need : Nat} {ns : List Nat} (h : PI t k need ns) (hk : k = ns.length) (hn : need ≠ 1) : PI t (k + 1) ((need + 63) / 64) (ns ++ [need]) := by
  have h1 : 1 < need := by have := h.need1; omega
  have hb2 := bd_next k _ h.k2 h.need2 h1
  have hc := h.chain
  rw [List.take_of_length_le (by omega)] at hc
  refine ⟨hb2.1, by simp; omega, by omega, hb2.2, ?_, .inl (List.drop_of_length_le (by simp; omega)), ?_, fun h => by omega, ?_⟩
  · rw [List.take_of_length_le (by simp; omega)]
    exact chain_snoc _ _ hc h1
  · intro _ m hm
    rw [List.drop_of_length_le (by simp; omega)] at hm
    simp at hm
  · intro _ x hx
    by_cases h0 : k = 0
    · have h1 := (h.zero h0).1
      have h2 : need ≤ 1025 := by have := h.need2; rw [h0] at this; simpa [bd] using this
      have : ns = [] := List.eq_nil_of_length_eq_zero (by omega)
      subst this
      simp at hx
      omega
    · refine h.first (by omega) x ?_
      cases ns with
      | nil => simp at hk; omega
      | cons a r => simpa using hx

end Go.Proofs.Qxb6000573a.Plain
