/- The law's own walk. -/
import Derived.Test.Qxb6001569aDig
namespace Go.Proofs.Qxb6001569a
open Go.RowKit

set_option maxHeartbeats 1000000 in
theorem walk (a0 : ByteArray) (a1 : Int) (a2 : Int) (w0 : a0.size ≤ maxLen) (w1 : (Lit.int .i64 a1).wf = true) (w2 : (Lit.int .u8 a2).wf = true) (w : World) :
    Calls Try.prog 5 #[.string a0, .int .i64 a1, .int .u8 a2] w fun e w' => e = .returned (.bool true) ∧ Below w.heap.size w w' := by
  have hz := zzBytes_any a0 a1 a2 w w0
  have hc : 0 ≤ a2 ∧ a2 < 256 := by
    simp [Lit.wf] at w2
    have e1 : IntKind.u8.min = 0 := rfl
    have e2 : IntKind.u8.max = 255 := rfl
    omega
  obtain ⟨c0, c1⟩ := hc
  unfold maxLen at w0
  go_enter Try.func5, Try.ntmps5
  go_wp2_with fail
  go_at_call 9
  refine hz.mono ?_
  rintro e w1 ⟨⟨b, rfl, hb⟩, rfl⟩
  cases b
  · go_wp2
    go_ret
    exact ⟨rfl, Below.refl _ _⟩
  · have hsz := hb rfl
    clear hb hz
    by_cases hd : 48 ≤ a2 ∧ a2 ≤ 57
    · obtain ⟨hd1, hd2⟩ := hd
      go_wp2
      go_ret
      exact ⟨rfl, Below.refl _ _⟩
    by_cases hi : 0 ≤ a1 ∧ a1 ≤ a0.size
    · obtain ⟨k, rfl⟩ : ∃ k : Nat, a1 = k := ⟨a1.toNat, by omega⟩
      have hk : k ≤ a0.size := by omega
      obtain ⟨ti, hti, hz0, hz1, hz2⟩ := info_parts info5
      clear w1 hi
      have hlen := put_length a0 k a2 hk
      have hfor : ∀ V : World, Calls Try.prog 7 #[.string ⟨(put a0 k a2).toArray⟩] V fun e w' => e = .returned (.bool false) ∧ w' = V := fun V => by
        have hp : k < (⟨(put a0 k a2).toArray⟩ : ByteArray).size := by show k < (put a0 k a2).toArray.size; simp [hlen]; omega
        have := put_at a0 k a2 hk c0 c1 hp
        refine zzIsDigits_foreign _ k V ?_ hp ?_
        · show (put a0 k a2).toArray.size ≤ maxLen
          simp [hlen, maxLen]
          omega
        · omega
      rcases (show a2 < 48 ∨ 57 < a2 from by omega) with h | h
      all_goals
        clear hd w2
        go_wp2_with (first
          | (at_make; refine wpList_make_own _ rfl _ _ 26 rfl w1.heap.size 5 ti (.int .u8 0) 1 Try.underlying26 hti hz0 hz1 _ _ _ (a0.size + 1) rfl rfl (by omega) (by rw [hz2]; omega) (by unfold maxLen; omega) (Nat.le_refl _) ?_; intro wa hown1 hgrow1)
          | (at_builtin; refine wpList_append_str _ rfl (.tmp 34) (.tmp 37) rfl w1.heap.size w1.heap.size 0 (a0.size + 1) [] rfl hown1 (a0.extract 0 k) rfl k (by simp; omega) (by omega) ?_; intro wb hown2 hgrow2; rw [List.nil_append] at hown2)
          | (at_builtin; refine wpList_append_fits _ rfl (.tmp 39) (.tmp 41) 26 rfl w1.heap.size 5 ti 1 Try.underlying26 hti hz1 w1.heap.size k (a0.size + 1) _ rfl (hown2.alloc _) ⟨wb.heap.size, 0, none⟩ 1 1 [.int .u8 a2] rfl rfl (one_new wb a2) (one_one a2) (by omega) ?_; intro wc hown3 hgrow3)
          | (at_builtin; refine wpList_append_str _ rfl (.tmp 43) (.tmp 46) rfl w1.heap.size w1.heap.size (k + 1) (a0.size + 1) _ rfl hown3 (a0.extract k a0.size) rfl (a0.size + 1) (by simp; omega) (by omega) ?_; intro wd hown4 hgrow4; rw [put_cells a0 k a2 c0 c1] at hown4; have hcv := run_back _ _ _ _ _ _ hlen hown4)
          | (go_at_call 7; refine (hfor _).mono ?_; rintro e w9 ⟨rfl, rfl⟩))
        go_ret
        exact ⟨rfl, below_chain hgrow1 hgrow2 hgrow3 hgrow4⟩
    · rcases (show a1 < 0 ∨ (a0.size : Int) < a1 from by omega) with h1 | h1
      all_goals
        rcases (show a2 < 48 ∨ 57 < a2 from by omega) with h | h
      all_goals
        go_wp2
        go_ret
        exact ⟨rfl, Below.refl _ _⟩

end Go.Proofs.Qxb6001569a
