/- The law's own function: the ways on which it answers true at once. -/
import Derived.Test.Qxb6001347aSteps
namespace Go.Proofs.Qxb6001347a
open Go.RowKit Plain

theorem shl_i64 (n : Nat) (h : n ≤ 16) : IntKind.i64.wrap ((2 : Int) ^ n) = ((2 ^ n : Nat) : Int) := by
  have h1 : 2 ^ n ≤ 2 ^ 16 := Nat.pow_le_pow_right (by omega) h
  have e : ((2 : Int) ^ n) = (((2 ^ n : Nat)) : Int) := by rw [Int.natCast_pow]; rfl
  rw [IntKind.wrap_i64, e]
  generalize (2 : Nat) ^ n = Z at *
  omega

set_option maxRecDepth 10000 in
set_option maxHeartbeats 1000000 in
theorem early_range (a : Option Addr) (len cap : Nat) (n sym : Int) (w : World) (hl : len ≤ maxLen) (h : 65536 < len ∨ n < 1 ∨ 16 < n) :
    Calls Try.prog 9 #[.slice a len cap, .int .u64 n, .int .u32 sym] w fun e w' => e = .returned (.bool true) ∧ Below w.heap.size w w' := by
  have KZ : Hid _ := zzBytes_any a len cap n sym w hl
  unfold maxLen at hl
  by_cases h0 : 65536 < len
  · clear h
    go_enter Try.func9, Try.ntmps9
    go_wp2_with fail
    refine Calls.mono KZ.out ?_
    rintro e w0 ⟨⟨b, rfl, _⟩, rfl⟩
    clear KZ
    have h1 : (65536 : Int) < (len : Int) := by omega
    cases b <;> (go_wp2; go_ret; exact ⟨rfl, Below.refl _ _⟩)
  · have h1 : ¬ ((65536 : Int) < (len : Int)) := by omega
    rcases (show n < 1 ∨ (1 ≤ n ∧ 16 < n) from by omega) with h2 | ⟨h2, h3⟩
    all_goals
      clear h
      go_enter Try.func9, Try.ntmps9
      go_wp2_with fail
      refine Calls.mono KZ.out ?_
      rintro e w0 ⟨⟨b, rfl, _⟩, rfl⟩
      clear KZ
      cases b <;> (go_wp2; go_ret; exact ⟨rfl, Below.refl _ _⟩)

set_option maxRecDepth 10000 in
set_option maxHeartbeats 1000000 in
theorem early_len (a : Option Addr) (len cap : Nat) (n sym : Nat) (w : World) (hl : len ≤ 65536) (hn1 : 1 ≤ n) (hn : n ≤ 16) (h : len ≠ 2 ^ n ∨ (len = 2 ^ n ∧ 2 ^ n ≤ sym)) :
    Calls Try.prog 9 #[.slice a len cap, .int .u64 (n : Int), .int .u32 (sym : Int)] w fun e w' => e = .returned (.bool true) ∧ Below w.heap.size w w' := by
  have KZ : Hid _ := zzBytes_any a len cap n sym w (by unfold maxLen; omega)
  have e1 := shl_i64 n hn
  have e2 := pow_shl n hn
  have h1 : decide ((65536 : Int) < (len : Int)) = false := decide_eq_false (by omega)
  have h2 : decide ((n : Int) < 1) = false := decide_eq_false (by omega)
  have h3 : decide ((16 : Int) < (n : Int)) = false := decide_eq_false (by omega)
  generalize 2 ^ n = N at *
  rcases h with h | ⟨h, h'⟩
  · have h4 : ((len : Int) != (N : Int)) = true := by simp; omega
    clear h hl
    go_enter Try.func9, Try.ntmps9
    go_wp2_with fail
    refine Calls.mono KZ.out ?_
    rintro e w0 ⟨⟨b, rfl, _⟩, rfl⟩
    clear KZ
    cases b <;> (go_wp2; go_ret; exact ⟨rfl, Below.refl _ _⟩)
  · have h4 : ((len : Int) != (N : Int)) = false := by simp; omega
    have h5 : decide ((N : Int) ≤ (sym : Int)) = true := decide_eq_true (by omega)
    clear h hl
    go_enter Try.func9, Try.ntmps9
    go_wp2_with fail
    refine Calls.mono KZ.out ?_
    rintro e w0 ⟨⟨b, rfl, _⟩, rfl⟩
    clear KZ
    cases b
    · go_wp2
      go_ret
      exact ⟨rfl, Below.refl _ _⟩
    · go_wp2
      go_ret
      exact ⟨rfl, Below.refl _ _⟩

end Go.Proofs.Qxb6001347a
