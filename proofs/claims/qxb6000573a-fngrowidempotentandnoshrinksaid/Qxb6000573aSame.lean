/- The copy compared with the levels. -/
import Derived.Test.Qxb6000573aClone
import Derived.Deep.QuietTactic
namespace Go.Proofs.Qxb6000573a
open Go.RowKit Plain

/-- w' is w behind some draws -/
def Drawn (w w' : World) : Prop := ∃ m, w' = w.drewN m

theorem heap_drewN (w : World) (n : Nat) : (w.drewN n).heap = w.heap := by
  induction n with
  | zero => rfl
  | succ n ih => exact ih

theorem Drawn.refl (w : World) : Drawn w w := ⟨0, rfl⟩
theorem Drawn.more {w w' : World} (h : Drawn w w') (n : Nat) : Drawn w (w'.drewN n) := by
  obtain ⟨m, rfl⟩ := h
  exact ⟨m + n, by rw [World.drewN_drewN]⟩
theorem Drawn.heap {w w' : World} (h : Drawn w w') : w'.heap = w.heap := by
  obtain ⟨m, rfl⟩ := h
  exact heap_drewN w m
theorem Drawn.cell {w w' : World} (h : Drawn w w') (a : Addr) : w'.cell? a = w.cell? a := World.cell?_of_block (by rw [h.heap])
theorem Drawn.trans {a b c : World} (h : Drawn a b) (k : Drawn b c) : Drawn a c := by
  obtain ⟨m, rfl⟩ := k
  exact h.more m
theorem Drawn.below {w w' : World} (h : Drawn w w') (B : Nat) : Below B w w' := by
  obtain ⟨m, rfl⟩ := h
  induction m with
  | zero => exact Below.refl _ _
  | succ n ih => exact ih.drew

/-- the copy at block C reads as the levels at block G -/
def Same (w : World) (C G : Nat) (ls : List Lv) : Prop := ∀ k (h : k < ls.length), ∃ H, w.cell? ⟨C, k, none⟩ = some (.slice (some ⟨H, 0, none⟩) ls[k].n ls[k].n) ∧ w.cell? ⟨G, k, none⟩ = some (.slice (some ⟨ls[k].g, 0, none⟩) ls[k].n ls[k].c) ∧
  ∀ j, j < ls[k].n → ∃ v : Int, w.cell? ⟨H, j, none⟩ = some (.int .u64 v) ∧ w.cell? ⟨ls[k].g, j, none⟩ = some (.int .u64 v)

set_option maxHeartbeats 400000 in
theorem sameShape_any (w : World) (C G cap : Nat) (ls : List Lv) (h : Same w C G ls) (hn : ∀ l ∈ ls, l.n ≤ 1025) (hlen : ls.length ≤ 1025) :
    Calls Try.prog 25 #[.slice (some ⟨C, 0, none⟩) ls.length ls.length, .slice (some ⟨G, 0, none⟩) ls.length cap] w fun e w' => e = .returned (.bool true) ∧ Drawn w w' := by
  have HS : Hid _ := h
  have HN : Hid _ := hn
  clear h hn
  have t0 : ((ls.length : Int) != (ls.length : Int)) = false := by simp
  go_enter Try.func25, Try.ntmps25
  go_wp2
  go_loopw [5] (fun i wr => ∃ k : Nat, k ≤ ls.length ∧ i = .int .i64 k ∧ Drawn w wr) (fun i _ => ls.length - (intOf i).toNat)
  case atStart => exact ⟨0, Nat.zero_le _, rfl, Drawn.refl _⟩
  case round =>
    obtain ⟨k, hk, rfl, hd⟩ := hrel
    have HD : Hid _ := hd
    by_cases hlt : k < ls.length
    · obtain ⟨H, c1, c2, _⟩ := HS.out k hlt
      rw [← hd.cell] at c1 c2
      have hnk := HN.out ls[k] (List.getElem_mem hlt)
      clear hd
      generalize ls[k].n = n at *
      generalize ls[k].g = g at *
      generalize ls[k].c = c at *
      have t1 : ((n : Int) != (n : Int)) = false := by simp
      go_wp2
      go_quiet (fail)
      go_wp2
      go_roundw
      case rel => exact ⟨k + 1, by omega, by go_num, Drawn.more HD.out _⟩
      case measure => simp [intOf]; omega
    · clear hd
      go_wp2
      go_ret
      exact ⟨rfl, HD.out⟩

set_option maxHeartbeats 400000 in
theorem sameLevels_any (w : World) (C G cap : Nat) (ls : List Lv) (h : Same w C G ls) (hn : ∀ l ∈ ls, l.n ≤ 1025) (hlen : ls.length ≤ 1025) :
    Calls Try.prog 22 #[.slice (some ⟨C, 0, none⟩) ls.length ls.length, .slice (some ⟨G, 0, none⟩) ls.length cap] w fun e w' => e = .returned (.bool true) ∧ Drawn w w' := by
  have HS : Hid _ := h
  have HN : Hid _ := hn
  have HSH : Hid _ := sameShape_any w C G cap ls h hn hlen
  clear h hn
  go_enter Try.func22, Try.ntmps22
  go_wp2_with fail
  refine Calls.mono HSH.out ?_
  rintro e w1 ⟨rfl, hd1⟩
  clear HSH
  have HD1 : Hid _ := hd1
  clear hd1
  go_wp2
  go_loopw [5] (fun i wr => ∃ k : Nat, k ≤ ls.length ∧ i = .int .i64 k ∧ Drawn w wr) (fun i _ => ls.length - (intOf i).toNat)
  case atStart => exact ⟨0, Nat.zero_le _, rfl, HD1.out⟩
  case round =>
    obtain ⟨k, hk, rfl, hd⟩ := hrel
    have HD : Hid _ := hd
    clear hd HD1
    by_cases hlt : k < ls.length
    · obtain ⟨H, c1, c2, c3⟩ := HS.out k hlt
      have hnk := HN.out ls[k] (List.getElem_mem hlt)
      have C1 : Hid _ := c1
      have C2 : Hid _ := c2
      have C3 : Hid _ := c3
      clear c1 c2 c3
      generalize ls[k].n = n at *
      generalize ls[k].g = g at *
      generalize ls[k].c = c at *
      obtain ⟨wo, rfl⟩ : ∃ wo : World, wo = wr := ⟨_, rfl⟩
      go_wp2
      go_loopw [6] (fun i wr => ∃ j : Nat, j ≤ n ∧ i = .int .i64 j ∧ Drawn w wr) (fun i _ => n - (intOf i).toNat)
      case atStart => exact ⟨0, Nat.zero_le _, rfl, HD.out⟩
      case round =>
        clear HD
        obtain ⟨j, hj, rfl, hd⟩ := hrel
        have HD : Hid _ := hd
        have c1 := C1.out
        have c2 := C2.out
        rw [← hd.cell] at c1 c2
        by_cases hjn : j < n
        · obtain ⟨v, v1, v2⟩ := C3.out j hjn
          rw [← hd.cell] at v1 v2
          clear hd
          have t1 : (v != v) = false := by simp
          go_wp2
          go_quiet (fail)
          go_wp2
          go_roundw
          case rel => exact ⟨j + 1, by omega, by go_num, Drawn.more HD.out _⟩
          case measure => simp [intOf]; omega
        · clear hd
          go_wp2
          go_roundw
          case rel => exact ⟨k + 1, by omega, by go_num, HD.out⟩
          case measure => simp [intOf]; omega
    · go_wp2
      go_ret
      exact ⟨rfl, HD.out⟩

end Go.Proofs.Qxb6000573a
