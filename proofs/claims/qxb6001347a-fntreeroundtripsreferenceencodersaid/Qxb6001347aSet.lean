/- THE PLAIN LAW's end: what the flushed encoder wrote is a number in its interval. -/
import Derived.Test.Qxb6001347aRound
namespace Go.Proofs.Qxb6001347a.Plain

/-- what is asked of the inputs -/
structure Pre (n sym : Nat) (P0 : List Nat) : Prop where
  n1 : 1 ≤ n
  n16 : n ≤ 16
  symlt : sym < 2 ^ n
  len : P0.length = 2 ^ n
  u16 : ∀ i, P0.getD i 0 < 65536

/-- the encoder behind its last bit, and k bytes let out -/
def fl (n sym : Nat) (P0 : List Nat) (k : Nat) : E := flush (encSt n sym P0 n).1 k

variable {n sym : Nat} {P0 : List Nat}

theorem Pre.ei (h : Pre n sym P0) (hb : Band P0) : EI (encSt n sym P0 n).1 1 := by
  have := (enc_ok h.symlt h.len hb n (Nat.le_refl n)).1
  exact this.ei.mono (by omega) (by have := this.lo; omega)

theorem Pre.flN (h : Pre n sym P0) (hb : Band P0) (k : Nat) : EI (fl n sym P0 k) 1 ∧ N (fl n sym P0 k) ≤ 17 + k := by
  obtain ⟨h1, _, h3⟩ := flush_ok _ (h.ei hb) k
  have h4 := (enc_ok h.symlt h.len hb n (Nat.le_refl n)).2.2.2.1
  have := h.n16
  refine ⟨h1, ?_⟩
  unfold fl
  omega

theorem Pre.setting (h : Pre n sym P0) (hb : Band P0) :
    Setting n sym P0 (T (encSt n sym P0 n).1) (N (encSt n sym P0 n).1 + 4) (fun i => (fl n sym P0 5).out.getD i 0) ∧ (fl n sym P0 5).out.length = N (encSt n sym P0 n).1 + 4 ∧ 1 ≤ N (encSt n sym P0 n).1 := by
  have hok := enc_ok h.symlt h.len hb n (Nat.le_refl n)
  obtain ⟨f1, f2, f3⟩ := flush_out _ (h.ei hb)
  have h16 := h.n16
  have hr := hok.1.lo
  have hN := hok.2.2.2.1
  have hcs := hok.1.ei.cs1
  refine ⟨⟨h.n1, h.n16, h.symlt, h.len, hb, ⟨Nat.le_refl _, ?_, ?_⟩, fun i hi => ?_, by omega, fun i => ?_, h.u16⟩, f2, ?_⟩
  · have e : N (encSt n sym P0 n).1 + 4 - 4 - N (encSt n sym P0 n).1 = 0 := by omega
    rw [e]
    simp
  · have e : N (encSt n sym P0 n).1 + 4 - 4 - N (encSt n sym P0 n).1 = 0 := by omega
    rw [e]
    simp
    omega
  · have := digit _ f3 i (by omega)
    rw [f1, f2] at this
    exact this.symm
  · show (flush _ 5).out.getD i 0 < 256
    by_cases hi : i < (flush (encSt n sym P0 n).1 5).out.length
    · rw [List.getD_eq_getElem?_getD, List.getElem?_eq_getElem hi]
      exact f3 _ (List.getElem_mem hi)
    · rw [List.getD_eq_getElem?_getD, List.getElem?_eq_none (by omega)]
      simp
  · unfold N
    omega

end Go.Proofs.Qxb6001347a.Plain
