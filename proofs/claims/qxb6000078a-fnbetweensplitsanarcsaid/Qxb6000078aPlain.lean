/- THE PLAIN LAW, no Go in sight: bytes read as big-endian numbers; the arcs of a ring. -/
import Derived.Lib.Bytealg
namespace Go.Proofs.Qxb6000078a.Plain
open Go.Lib (compareBytes)

/-- a list of bytes as a big-endian number -/
def val : List UInt8 → Nat
  | [] => 0
  | a :: as => a.toNat * 256 ^ as.length + val as

theorem val_lt : ∀ l : List UInt8, val l < 256 ^ l.length
  | [] => by simp [val]
  | a :: as => by
    have ih := val_lt as
    have ha : a.toNat < 256 := a.toNat_lt
    have hK : (a.toNat + 1) * 256 ^ as.length ≤ 256 * 256 ^ as.length := Nat.mul_le_mul_right _ (by omega)
    have e : 256 ^ (a :: as).length = 256 * 256 ^ as.length := by rw [List.length_cons, Nat.pow_succ, Nat.mul_comm]
    rw [e]
    unfold val
    rw [Nat.add_mul] at hK
    omega

theorem cmp_val : ∀ (a b : List UInt8), a.length = b.length →
    (val a < val b ∧ compareBytes a b = -1) ∨ (val a = val b ∧ compareBytes a b = 0 ∧ a = b) ∨ (val b < val a ∧ compareBytes a b = 1)
  | [], [], _ => by simp [val, compareBytes]
  | [], _ :: _, h => by simp at h
  | _ :: _, [], h => by simp at h
  | x :: a, y :: b, h => by
    have hl : a.length = b.length := by simpa using h
    have ih := cmp_val a b hl
    have la := val_lt a
    have lb := val_lt b
    unfold val compareBytes
    rw [hl] at la
    rw [hl]
    by_cases h1 : x < y
    · have h1' : x.toNat < y.toNat := UInt8.lt_iff_toNat_lt.1 h1
      have hK : (x.toNat + 1) * 256 ^ b.length ≤ y.toNat * 256 ^ b.length := Nat.mul_le_mul_right _ (by omega)
      rw [Nat.add_mul] at hK
      rw [if_pos h1]
      exact .inl ⟨by omega, rfl⟩
    · by_cases h2 : y < x
      · have h2' : y.toNat < x.toNat := UInt8.lt_iff_toNat_lt.1 h2
        have hK : (y.toNat + 1) * 256 ^ b.length ≤ x.toNat * 256 ^ b.length := Nat.mul_le_mul_right _ (by omega)
        rw [Nat.add_mul] at hK
        rw [if_neg h1, if_pos h2]
        exact .inr (.inr ⟨by omega, rfl⟩)
      · have hxy : x = y := by
          have a1 := mt UInt8.lt_iff_toNat_lt.2 h1
          have a2 := mt UInt8.lt_iff_toNat_lt.2 h2
          exact UInt8.toNat_inj.1 (by omega)
        subst hxy
        rw [if_neg h1, if_neg h2]
        rcases ih with ⟨i1, i2⟩ | ⟨i1, i2, i3⟩ | ⟨i1, i2⟩
        · exact .inl ⟨by omega, i2⟩
        · exact .inr (.inl ⟨by omega, i2, by rw [i3]⟩)
        · exact .inr (.inr ⟨by omega, i2⟩)

/-- what 'Between' computes -/
def betw (x a b : List UInt8) : Bool :=
  if compareBytes a b < 0 then decide (compareBytes a x < 0) && decide (compareBytes x b ≤ 0)
  else decide (compareBytes a x < 0) || decide (compareBytes x b ≤ 0)

theorem cmp_lt {a b : List UInt8} (h : a.length = b.length) : compareBytes a b < 0 ↔ val a < val b := by
  rcases cmp_val a b h with ⟨h1, h2⟩ | ⟨h1, h2, _⟩ | ⟨h1, h2⟩ <;> rw [h2] <;> omega

theorem cmp_le {a b : List UInt8} (h : a.length = b.length) : compareBytes a b ≤ 0 ↔ val a ≤ val b := by
  rcases cmp_val a b h with ⟨h1, h2⟩ | ⟨h1, h2, _⟩ | ⟨h1, h2⟩ <;> rw [h2] <;> omega

theorem val_ne {a b : List UInt8} (h : a.length = b.length) (hne : a ≠ b) : val a ≠ val b := by
  rcases cmp_val a b h with ⟨h1, h2⟩ | ⟨h1, h2, h3⟩ | ⟨h1, h2⟩
  · omega
  · exact absurd h3 hne
  · omega

theorem betw_val {x a b : List UInt8} (h1 : x.length = 20) (h2 : a.length = 20) (h3 : b.length = 20) :
    betw x a b = if val a < val b then decide (val a < val x) && decide (val x ≤ val b) else decide (val a < val x) || decide (val x ≤ val b) := by
  unfold betw
  simp only [cmp_lt (a := a) (b := b) (by omega), cmp_lt (a := a) (b := x) (by omega), cmp_le (a := x) (b := b) (by omega)]

/-- THE LAW -/
theorem splits {x a b c : List UInt8} (hx : x.length = 20) (ha : a.length = 20) (hb : b.length = 20) (hc : c.length = 20)
    (hab : a ≠ b) (hbc : b ≠ c) (hac : a ≠ c) (h : betw b a c = true) :
    (betw x a c == ((betw x a b || betw x b c) && !(betw x a b && betw x b c))) = true := by
  have n1 := val_ne (by omega) hab
  have n2 := val_ne (by omega) hbc
  have n3 := val_ne (by omega) hac
  rw [betw_val hb ha hc] at h
  rw [betw_val hx ha hb, betw_val hx hb hc, betw_val hx ha hc]
  generalize val x = X at *
  generalize val a = A at *
  generalize val b = B at *
  generalize val c = C at *
  by_cases h1 : A < C <;> by_cases h2 : A < B <;> by_cases h3 : B < C <;> by_cases h4 : A < X <;> by_cases h5 : X ≤ C <;> by_cases h6 : X ≤ B <;> by_cases h7 : B < X <;> by_cases h8 : B ≤ C <;>
    simp [h1, h2, h3, h4, h5, h6, h7, h8] at h ⊢ <;> omega

end Go.Proofs.Qxb6000078a.Plain
