/- The script, run. -/
import Derived.Test.Qxb6000573aScript
namespace Go.Proofs.Qxb6000573a
open Go.RowKit Plain

theorem Inv.step {S : Nat} {w w1 w2 : World} (hb : Below S w w1) (h : Inv S w1 w2) : Inv S w w2 := by
  obtain ⟨ao, cap, ls, h1, h2, h3, h4⟩ := h
  exact ⟨ao, cap, ls, h1, h2, h3, hb.trans h4⟩

theorem inv_add {S : Nat} {w wr : World} (h : Inv S w wr) (i : Int) (hi : 0 ≤ i) (hi2 : i ≤ 65536) :
    Calls Try.prog 20 #[.pointer (some ⟨S, 0, none⟩), .int .i64 i] wr fun e w' => e = .returned (.tuple #[]) ∧ Inv S w w' := by
  obtain ⟨ao, cap, ls, h1, h2, h3, h4⟩ := h
  exact (add_any S wr ao cap ls i h1 h2 h3 hi hi2).mono fun e w' ⟨he, hv⟩ => ⟨he, Inv.step h4 hv⟩

theorem inv_remove {S : Nat} {w wr : World} (h : Inv S w wr) (i : Int) (hi : 0 ≤ i) (hi2 : i ≤ 9223372036854775807) :
    Calls Try.prog 24 #[.pointer (some ⟨S, 0, none⟩), .int .i64 i] wr fun e w' => e = .returned (.tuple #[]) ∧ Inv S w w' := by
  obtain ⟨ao, cap, ls, h1, h2, h3, h4⟩ := h
  exact (remove_any S wr ao cap ls i h1 h2 h3 hi hi2).mono fun e w' ⟨he, hv⟩ => ⟨he, Inv.step h4 hv⟩

theorem not_neg (z : Int) (h1 : -9223372036854775808 ≤ z) (h2 : z < 0) : bits .xor .i64 (-1) z = -z - 1 := by
  show IntKind.i64.wrap ((BitVec.ofInt 64 (-1) ^^^ BitVec.ofInt 64 z).toNat : Int) = _
  have e : BitVec.ofInt 64 (-1) = BitVec.allOnes 64 := by decide
  rw [e, BitVec.allOnes_xor, BitVec.toNat_not, IntKind.wrap_i64]
  have h3 : (BitVec.ofInt 64 z).toNat = (z + 18446744073709551616).toNat := by
    rw [BitVec.toNat_ofInt]
    have : z % ((2 ^ 64 : Nat) : Int) = z + 18446744073709551616 := by omega
    rw [this]
  rw [h3]
  omega

set_option maxHeartbeats 400000 in
theorem runScript_any (S : Nat) (a : Option Addr) (n c : Nat) (zs : List Int) (w : World) (hn : n ≤ 1048576) (h : OpsAt w S a n zs) (hinv : Inv S w w) (hk : ∀ k, k < n → zs.getD k 0 ≤ 65536) (hlo : ∀ k, k < n → -9223372036854775808 ≤ zs.getD k 0) :
    Calls Try.prog 13 #[.pointer (some ⟨S, 0, none⟩), .slice a n c] w fun e w' => e = .returned (.tuple #[]) ∧ Inv S w w' := by
  have HI : Hid _ := hinv
  clear hinv
  rcases h with rfl | ⟨b, off, rfl, hbS, hc⟩
  · go_enter Try.func13, Try.ntmps13
    go_wp2
    refine wp_loop_rounds 1 ?_
    rw [rounds_succ]
    go_wp2
    go_end0
    exact ⟨rfl, HI.out⟩
  · have HC : Hid _ := hc
    have HK : Hid _ := hk
    have HLO : Hid _ := hlo
    clear hc hk hlo
    go_enter Try.func13, Try.ntmps13
    go_wp2
    go_loopw [4] (fun i wr => ∃ k : Nat, k ≤ n ∧ i = .int .i64 k ∧ Inv S w wr) (fun i _ => n - (intOf i).toNat)
    case atStart => exact ⟨0, Nat.zero_le _, rfl, HI.out⟩
    case round =>
      clear HI
      obtain ⟨k, hkn, rfl, hinv⟩ := hrel
      have HV : Hid _ := hinv
      by_cases hlt : k < n
      · have hck : wr.cell? ⟨b, off + k, none⟩ = some (.int .i64 (zs.getD k 0)) := by
          obtain ⟨_, _, _, _, _, _, hb⟩ := hinv
          rw [hb.cell (p := ⟨b, off + k, none⟩) hbS]; exact HC.out k hlt
        have hz1 := HK.out k hlt
        have hz2 := HLO.out k hlt
        generalize zs.getD k 0 = z at *
        clear hinv
        by_cases hz : 0 ≤ z
        · have HA : Hid _ := inv_add HV.out z hz hz1
          clear hz2
          go_wp2_with fail
          refine Calls.mono HA.out ?_
          rintro e w2 ⟨rfl, hv2⟩
          have HV2 : Hid _ := hv2
          clear hv2
          go_wp2
          go_roundw
          case rel => exact ⟨k + 1, by omega, by go_num, HV2.out⟩
          case measure => simp [intOf]; omega
        · have hneg : z < 0 := by omega
          have HR : Hid _ := inv_remove HV.out (bits .xor .i64 (-1) z) (by rw [not_neg z hz2 hneg]; omega) (by rw [not_neg z hz2 hneg]; omega)
          clear hz2 hz hz1
          go_wp2_with fail
          refine Calls.mono HR.out ?_
          rintro e w2 ⟨rfl, hv2⟩
          have HV2 : Hid _ := hv2
          clear hv2
          go_wp2
          go_roundw
          case rel => exact ⟨k + 1, by omega, by go_num, HV2.out⟩
          case measure => simp [intOf]; omega
      · clear hinv
        go_wp2
        go_end0
        exact ⟨rfl, HV.out⟩

end Go.Proofs.Qxb6000573a
