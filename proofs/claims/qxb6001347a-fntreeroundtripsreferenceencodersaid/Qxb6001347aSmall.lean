/- 'zzBytes', 'byteAt', 'cloneU16'. -/
import Derived.Test.Qxb6001347aZzw
import Derived.Lib.Slices
namespace Go.Proofs.Qxb6001347a
open Go.RowKit Plain

/-- it returns a bool, and p holds where that is true -/
def RetP (e : Ending) (p : Prop) : Prop := ∃ b : Bool, e = .returned (.bool b) ∧ (b = true → p)

set_option maxHeartbeats 400000 in
theorem zzBytes_any (a : Option Addr) (n c : Nat) (i j : Int) (w : World) (hn : n ≤ maxLen) :
    Calls Try.prog 19 #[.slice a n c, .int .u64 i, .int .u32 j] w fun e w' => RetP e (n ≤ 1048576) ∧ w' = w := by
  unfold maxLen at hn
  by_cases h : n ≤ 1048576
  · go_enter Try.func19, Try.ntmps19
    go_wp2
    go_ret
    exact ⟨⟨true, rfl, fun _ => h⟩, rfl⟩
  · go_enter Try.func19, Try.ntmps19
    go_wp2
    go_ret
    exact ⟨⟨false, rfl, fun h => (by cases h)⟩, rfl⟩

theorem byteAt_any (g l c i : Nat) (b : Int) (w : World) (hi : i < l) (hc : w.cell? ⟨g, i, none⟩ = some (.int .u8 b)) :
    Calls Try.prog 23 #[.slice (some ⟨g, 0, none⟩) l c, .int .i64 (i : Int)] w fun e w' => e = .returned (.int .u8 b) ∧ w' = w := by
  have h1 : (i : Int) < (l : Int) := by omega
  go_enter Try.func23, Try.ntmps23
  go_wp2
  go_ret
  exact ⟨rfl, rfl⟩

/-- what the clone leaves -/
def ClRet (n : Nat) (P : List Nat) (w : World) (en : Ending) (w' : World) : Prop :=
  en = .returned (.slice (some ⟨w.heap.size, 0, none⟩) n n) ∧ w'.heap[w.heap.size]? = some (.cells (pv P) 30 (0, 0)) ∧ Below w.heap.size w w'

set_option maxHeartbeats 400000 in
theorem clone_any (b off n c : Nat) (P : List Nat) (w : World) (hn : n ≤ 65536) (hP : P.length = n) (hb : b < w.heap.size) (hc : ∀ k, k < n → w.cell? ⟨b, off + k, none⟩ = some (.int .u16 ((P.getD k 0 : Nat) : Int))) :
    Calls Try.prog 20 #[.slice (some ⟨b, off, none⟩) n c] w fun e w' => ClRet n P w e w' := by
  have hnil := fun (x : Option Addr) (l cc : Nat) (v : World) => Lib.run_eql_slice_nil (P := Try.prog) v 37 30 x l cc 0 0 Try.underlying37
  have hmk := run_mk37 n hn
  have HC : Hid _ := hc
  have HST : Hid _ := Cp.start 30 n P w
  clear hc
  go_enter Try.func20, Try.ntmps20
  go_wp2
  go_loopw [4] (fun iv wr => ∃ k : Nat, k ≤ n ∧ iv = .int .i64 k ∧ Cp 30 w.heap.size n P k w wr) (fun iv _ => n - (intOf iv).toNat)
  case atStart => exact ⟨0, Nat.zero_le _, rfl, HST.out⟩
  case round =>
    obtain ⟨k, hk, rfl, hcp⟩ := hrel
    by_cases hkn : k < n
    · obtain ⟨⟨u, hu⟩, hfr⟩ := Cp.facts hcp hkn
      have hsrc : wr.cell? ⟨b, off + k, none⟩ = some (.int .u16 ((P.getD k 0 : Nat) : Int)) := by
        rw [hcp.2.cell (p := ⟨b, off + k, none⟩) hb]
        exact HC.out k hkn
      have hst : Hid _ := Cp.step hcp hkn
      clear hcp
      obtain ⟨x, hx⟩ : ∃ x, P.getD k 0 = x := ⟨_, rfl⟩
      rw [hx] at hsrc hst
      clear hx
      go_wp2
      go_roundw
      case rel => exact ⟨k + 1, by omega, by go_num, hst.out⟩
      case measure => simp [intOf]; omega
    · obtain rfl : k = n := by omega
      have HD : Hid _ := Cp.done hcp hP
      have HB : Hid (Below w.heap.size w wr) := hcp.2
      clear hcp
      go_wp2
      go_ret
      exact ⟨rfl, HD.out, HB.out⟩

end Go.Proofs.Qxb6001347a
