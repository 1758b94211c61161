/- 'grow' where there is room already: it changes nothing. -/
import Derived.Test.Qxb6000573aApp
import Derived.Test.Qxb6000573aPlain
import Derived.Deep.LoopGhost
namespace Go.Proofs.Qxb6000573a
open Go.RowKit Plain

def lens (ls : List Lv) : List Nat := ls.map (·.n)

theorem good_next : ∀ {l : List Nat} (_ : Gd l) (k : Nat) (_ : k + 1 < l.length), l[k + 1]! = (l[k]! + 63) / 64
  | n :: m :: r, h, 0, _ => h.2.1
  | n :: m :: r, h, k + 1, hk => by
    have := good_next h.2.2 k (by simpa using hk)
    simpa using this

theorem good_end : ∀ {l : List Nat} (_ : Gd l) (k : Nat) (_ : k < l.length), (l[k]! = 1 ↔ k + 1 = l.length)
  | [n], h, 0, _ => by simp [Gd] at h; simp [h]
  | n :: m :: r, h, 0, _ => by
    have := h.1
    simp
    omega
  | n :: m :: r, h, k + 1, hk => by
    have := good_end h.2.2 k (by simpa using hk)
    simpa using this

theorem lens_get (ls : List Lv) (k : Nat) (hk : k < ls.length) : (lens ls)[k]! = ls[k].n := by
  simp [lens, hk]

theorem good_len : ∀ {l : List Nat} (_ : Gd l), l.length ≤ l[0]!
  | [n], h => by simp [Gd] at h; simp [h]
  | n :: m :: r, h => by
    have := good_len h.2.2
    have h1 := h.1
    have h2 := h.2.1
    simp at this ⊢
    omega

set_option maxRecDepth 20000 in
set_option maxHeartbeats 400000 in
theorem grow_noop (S : Nat) (w : World) (ao : Option Addr) (cap : Nat) (ls : List Lv) (i : Int) (h : SetAt S w ao cap ls) (hg : Gd (lens ls)) (hi : 0 ≤ i) (hi2 : i ≤ 65536)
    (hb : ∀ l ∈ ls, l.n ≤ 1025) (h0 : (i / 64).toNat + 1 ≤ (lens ls)[0]!) :
    Calls Try.prog 30 #[.pointer (some ⟨S, 0, none⟩), .int .i64 i] w fun e w' => e = .returned (.tuple #[]) ∧ w' = w := by
  have hpos : 0 < ls.length := by
    cases ls with
    | nil => simp [lens, Gd] at hg
    | cons a r => simp
  obtain ⟨G, rfl, hSG, hcap, hfr, hcell⟩ := h.at hpos
  have hlen3 : ls.length ≤ 1025 := by
    have h1 := good_len hg
    rw [lens_get ls 0 hpos] at h1
    have h2 := hb ls[0] (by simp)
    simp [lens] at h1
    omega
  have hcS := h.cellS
  have HC : Hid _ := hcell
  have HG : Hid _ := hg
  have HB : Hid _ := hb
  have H0 : Hid _ := h0
  clear h hcell hfr hg hcap hSG hb h0
  go_enter Try.func30, Try.ntmps30
  go_wp2
  go_loop [4, 5] (fun need k => ∃ (kk nn : Nat), ∃ hk : kk < ls.length, nn ≤ ls[kk].n ∧ k = .int .i64 kk ∧ need = .int .i64 nn) (fun _ k => ls.length - (intOf k).toNat)
  case atStart =>
    exact ⟨0, (i / 64).toNat + 1, hpos, by have := H0.out; rw [lens_get ls 0 hpos] at this; exact this, rfl, by congr 1; omega⟩
  case round =>
    obtain ⟨k, nn, hk, hnn, rfl, rfl⟩ := hrel
    have hc := HC.out k hk
    have hn1025 := HB.out ls[k] (List.getElem_mem hk)
    have hend := good_end HG.out k (by simpa [lens] using hk)
    have hnext := good_next HG.out k
    rw [lens_get ls k hk] at hend hnext
    have hll : (lens ls).length = ls.length := by simp [lens]
    rw [hll] at hend hnext
    have HN : Hid (∀ h : k + 1 < ls.length, ls[k + 1].n = (ls[k].n + 63) / 64) := fun h => by rw [← hnext h, lens_get ls (k + 1) h]
    clear hnext
    have hpos1 : 1 ≤ ls[k].n := by
      have := good_pos HG.out ls[k].n (List.mem_map.2 ⟨ls[k], List.getElem_mem hk, rfl⟩)
      exact this
    generalize ls[k].n = n at *
    generalize ls[k].g = g at *
    generalize ls[k].c = c at *
    have t1 : ((k : Int) == (ls.length : Int)) = false := by rw [beq_eq_false_iff_ne]; omega
    have t2 : (nn : Int) ≤ (n : Int) := by omega
    by_cases hlast : k + 1 = ls.length
    · have hn := hend.2 hlast
      subst hn
      have t3 : ((k : Int) == (ls.length : Int) - 1) = true := by rw [beq_iff_eq]; omega
      clear hend HN hlast hll
      go_wp2
      refine bodyPost_ret (results_none rfl _ _ _) rfl ?_
      exact ⟨rfl, rfl⟩
    · have hn : n ≠ 1 := fun e => hlast (hend.1 e)
      have t3 : ((k : Int) == (ls.length : Int) - 1) = false := by rw [beq_eq_false_iff_ne]; omega
      have hlt : k + 1 < ls.length := by omega
      have HL : Hid _ := hlt
      clear hend hlast hll hn hlt
      go_wp2
      go_round
      case rel => exact ⟨k + 1, (n + 63) / 64, HL.out, by rw [HN.out HL.out]; exact Nat.le_refl _, by go_num, by go_num⟩
      case measure => have := HL.out; simp [intOf]; omega

end Go.Proofs.Qxb6000573a
