/- THE LAW's WALK -/
import Derived.Test.Qxb6000078aEql
namespace Go.Proofs.Qxb6000078a
open Go.RowKit Plain

/-- the four boxes lie in W -/
structure Four (w W : World) (x a b c : List UInt8) : Prop where
  x : W.heap[w.heap.size]? = some (.cells (bcs x) 24 (0, 0))
  a : W.heap[w.heap.size + 1]? = some (.cells (bcs a) 24 (0, 0))
  b : W.heap[w.heap.size + 1 + 1]? = some (.cells (bcs b) 24 (0, 0))
  c : W.heap[w.heap.size + 1 + 1 + 1]? = some (.cells (bcs c) 24 (0, 0))
  size : w.heap.size + 4 ≤ W.heap.size
  bel : Below w.heap.size w W

theorem Four.below {w W W' : World} {x a b c : List UInt8} (h : Four w W x a b c) (hb : Below W.heap.size W W') : Four w W' x a b c := by
  have := h.size
  have := hb.size
  exact ⟨by rw [hb.block _ (by omega)]; exact h.x, by rw [hb.block _ (by omega)]; exact h.a, by rw [hb.block _ (by omega)]; exact h.b, by rw [hb.block _ (by omega)]; exact h.c, by omega, h.bel.trans (hb.mono (by omega))⟩

theorem four_boxes (w : World) (x a b c : List UInt8) : Four w ((((w.alloc (.cells (bcs x) 24)).alloc (.cells (bcs a) 24)).alloc (.cells (bcs b) 24)).alloc (.cells (bcs c) 24)) x a b c := by
  obtain ⟨h1, h2, h3, h4⟩ := three_new w (.cells (bcs x) 24) (.cells (bcs a) 24) (.cells (bcs b) 24)
  have hs : (((w.alloc (.cells (bcs x) 24)).alloc (.cells (bcs a) 24)).alloc (.cells (bcs b) 24)).heap.size = w.heap.size + 1 + 1 + 1 := by simp
  generalize (((w.alloc (.cells (bcs x) 24)).alloc (.cells (bcs a) 24)).alloc (.cells (bcs b) 24)) = V at *
  refine ⟨?_, ?_, ?_, ?_, ?_, ?_⟩
  · rw [Below.heap_alloc _ _ _ (by omega)]; exact h1
  · rw [Below.heap_alloc _ _ _ (by omega)]; exact h2
  · rw [Below.heap_alloc _ _ _ (by omega)]; exact h3
  · rw [← hs]; exact heap_alloc_new _ _
  · simp; omega
  · exact h4.alloc (by omega) _

theorem size24 (x : List UInt8) (h : x.length = 20) : (Try.prog.info? 24).map (·.size) = some (bcs x).size := by
  rw [bcs_size, h]; kernel_rfl

set_option maxHeartbeats 1000000 in
theorem walk_distinct (w : World) (x a b c : List UInt8) (hx : x.length = 20) (ha : a.length = 20) (hb : b.length = 20) (hc : c.length = 20) (hab : a ≠ b) (hbc : b ≠ c) (hac : a ≠ c) :
    Calls Try.prog 9 #[.agg (bcs x), .agg (bcs a), .agg (bcs b), .agg (bcs c)] w fun e w' => e = .returned (.bool true) ∧ Below w.heap.size w w' := by
  have H4 : Hid _ := four_boxes w x a b c
  have e1 : ∀ v, (Op.equalIn 10000 24 (.agg (bcs a)) (.agg (bcs b))).run Try.prog v = .ok false v := fun v => by rw [run_eq24 v a b ha hb]; simp [hab]
  have e2 : ∀ v, (Op.equalIn 10000 24 (.agg (bcs b)) (.agg (bcs c))).run Try.prog v = .ok false v := fun v => by rw [run_eq24 v b c hb hc]; simp [hbc]
  have e3 : ∀ v, (Op.equalIn 10000 24 (.agg (bcs a)) (.agg (bcs c))).run Try.prog v = .ok false v := fun v => by rw [run_eq24 v a c ha hc]; simp [hac]
  have SA : Hid _ := size24 a ha
  have SB : Hid _ := size24 b hb
  have SC : Hid _ := size24 c hc
  have SX : Hid _ := size24 x hx
  have k0 : Hid (∀ W : World, Calls Try.prog 16 #[.agg (bcs b), .agg (bcs a), .agg (bcs c)] W fun e w' => e = .returned (.bool (betw b a c)) ∧ Below W.heap.size W w') := fun W => between_any W b a c hb ha hc
  have k1 : Hid (∀ W : World, Calls Try.prog 16 #[.agg (bcs x), .agg (bcs a), .agg (bcs b)] W fun e w' => e = .returned (.bool (betw x a b)) ∧ Below W.heap.size W w') := fun W => between_any W x a b hx ha hb
  have k2 : Hid (∀ W : World, Calls Try.prog 16 #[.agg (bcs x), .agg (bcs b), .agg (bcs c)] W fun e w' => e = .returned (.bool (betw x b c)) ∧ Below W.heap.size W w') := fun W => between_any W x b c hx hb hc
  have k3 : Hid (∀ W : World, Calls Try.prog 16 #[.agg (bcs x), .agg (bcs a), .agg (bcs c)] W fun e w' => e = .returned (.bool (betw x a c)) ∧ Below W.heap.size W w') := fun W => between_any W x a c hx ha hc
  have law : Hid (betw b a c = true → (betw x a c == ((betw x a b || betw x b c) && !(betw x a b && betw x b c))) = true) := fun h => splits hx ha hb hc hab hbc hac h
  clear hx ha hb hc hab hbc hac
  generalize betw b a c = R0 at k0 law
  generalize betw x a b = R1 at k1 law
  generalize betw x b c = R2 at k2 law
  generalize betw x a c = R3 at k3 law
  cases R0
  · clear k1 k2 k3 law
    go_enter Try.func9, Try.ntmps9
    go_wp2_with (first | (refine wpList_load_row_g 24 _ rfl _ rfl _ _ _ _ H4.out.a Try.underlying24 rfl SA.out rfl ?_) | (refine wpList_load_row_g 24 _ rfl _ rfl _ _ _ _ H4.out.b Try.underlying24 rfl SB.out rfl ?_) | (refine wpList_load_row_g 24 _ rfl _ rfl _ _ _ _ H4.out.c Try.underlying24 rfl SC.out rfl ?_))
    refine (k0.out _).mono ?_
    rintro e W1 ⟨rfl, hb1⟩
    have H5 : Hid _ := H4.out.below hb1
    clear hb1
    go_wp2
    go_ret
    exact ⟨rfl, H5.out.bel⟩
  · have law1 := law.out rfl
    cases R1 <;> cases R2 <;> cases R3 <;> first | (exact absurd law1 (by decide)) | skip
    all_goals
      clear law1 law
      go_enter Try.func9, Try.ntmps9
      go_wp2_with (first | (refine wpList_load_row_g 24 _ rfl _ rfl _ _ _ _ H4.out.a Try.underlying24 rfl SA.out rfl ?_) | (refine wpList_load_row_g 24 _ rfl _ rfl _ _ _ _ H4.out.b Try.underlying24 rfl SB.out rfl ?_) | (refine wpList_load_row_g 24 _ rfl _ rfl _ _ _ _ H4.out.c Try.underlying24 rfl SC.out rfl ?_))
      refine (k0.out _).mono ?_
      rintro e W1 ⟨rfl, hb1⟩
      have H5 : Hid _ := H4.out.below hb1
      clear hb1 H4
      go_wp2_with (first | (refine wpList_load_row_g 24 _ rfl _ rfl _ _ _ _ H5.out.x Try.underlying24 rfl SX.out rfl ?_) | (refine wpList_load_row_g 24 _ rfl _ rfl _ _ _ _ H5.out.a Try.underlying24 rfl SA.out rfl ?_) | (refine wpList_load_row_g 24 _ rfl _ rfl _ _ _ _ H5.out.b Try.underlying24 rfl SB.out rfl ?_) | (refine wpList_load_row_g 24 _ rfl _ rfl _ _ _ _ H5.out.c Try.underlying24 rfl SC.out rfl ?_))
      refine (k1.out _).mono ?_
      rintro e W2 ⟨rfl, hb2⟩
      have H6 : Hid _ := H5.out.below hb2
      clear hb2 H5
      go_wp2_with (first | (refine wpList_load_row_g 24 _ rfl _ rfl _ _ _ _ H6.out.x Try.underlying24 rfl SX.out rfl ?_) | (refine wpList_load_row_g 24 _ rfl _ rfl _ _ _ _ H6.out.a Try.underlying24 rfl SA.out rfl ?_) | (refine wpList_load_row_g 24 _ rfl _ rfl _ _ _ _ H6.out.b Try.underlying24 rfl SB.out rfl ?_) | (refine wpList_load_row_g 24 _ rfl _ rfl _ _ _ _ H6.out.c Try.underlying24 rfl SC.out rfl ?_))
      refine (k2.out _).mono ?_
      rintro e W3 ⟨rfl, hb3⟩
      have H7 : Hid _ := H6.out.below hb3
      clear hb3 H6
      go_wp2_with (first | (refine wpList_load_row_g 24 _ rfl _ rfl _ _ _ _ H7.out.x Try.underlying24 rfl SX.out rfl ?_) | (refine wpList_load_row_g 24 _ rfl _ rfl _ _ _ _ H7.out.a Try.underlying24 rfl SA.out rfl ?_) | (refine wpList_load_row_g 24 _ rfl _ rfl _ _ _ _ H7.out.b Try.underlying24 rfl SB.out rfl ?_) | (refine wpList_load_row_g 24 _ rfl _ rfl _ _ _ _ H7.out.c Try.underlying24 rfl SC.out rfl ?_))
      refine (k3.out _).mono ?_
      rintro e W4 ⟨rfl, hb4⟩
      have H8 : Hid _ := H7.out.below hb4
      clear hb4 H7
      go_wp2
      go_ret
      exact ⟨rfl, H8.out.bel⟩

set_option maxHeartbeats 400000 in
theorem walk_ab (w : World) (x a b c : List UInt8) (hx : x.length = 20) (ha : a.length = 20) (hb : b.length = 20) (hc : c.length = 20) (hab : a = b) :
    Calls Try.prog 9 #[.agg (bcs x), .agg (bcs a), .agg (bcs b), .agg (bcs c)] w fun e w' => e = .returned (.bool true) ∧ Below w.heap.size w w' := by
  have H4 : Hid _ := four_boxes w x a b c
  have e1 : ∀ v, (Op.equalIn 10000 24 (.agg (bcs a)) (.agg (bcs b))).run Try.prog v = .ok true v := fun v => by rw [run_eq24 v a b ha hb]; simp [hab]
  clear hab
  have SA : Hid _ := size24 a ha
  have SB : Hid _ := size24 b hb
  have SC : Hid _ := size24 c hc
  have SX : Hid _ := size24 x hx
  clear hx ha hb hc
  go_enter Try.func9, Try.ntmps9
  go_wp2_with (first | (refine wpList_load_row_g 24 _ rfl _ rfl _ _ _ _ H4.out.a Try.underlying24 rfl SA.out rfl ?_) | (refine wpList_load_row_g 24 _ rfl _ rfl _ _ _ _ H4.out.b Try.underlying24 rfl SB.out rfl ?_))
  go_ret
  exact ⟨rfl, H4.out.bel⟩

set_option maxHeartbeats 400000 in
theorem walk_bc (w : World) (x a b c : List UInt8) (hx : x.length = 20) (ha : a.length = 20) (hb : b.length = 20) (hc : c.length = 20) (hab : a ≠ b) (hbc : b = c) :
    Calls Try.prog 9 #[.agg (bcs x), .agg (bcs a), .agg (bcs b), .agg (bcs c)] w fun e w' => e = .returned (.bool true) ∧ Below w.heap.size w w' := by
  have H4 : Hid _ := four_boxes w x a b c
  have e1 : ∀ v, (Op.equalIn 10000 24 (.agg (bcs a)) (.agg (bcs b))).run Try.prog v = .ok false v := fun v => by rw [run_eq24 v a b ha hb]; simp [hab]
  clear hab
  have e2 : ∀ v, (Op.equalIn 10000 24 (.agg (bcs b)) (.agg (bcs c))).run Try.prog v = .ok true v := fun v => by rw [run_eq24 v b c hb hc]; simp [hbc]
  clear hbc
  have SA : Hid _ := size24 a ha
  have SB : Hid _ := size24 b hb
  have SC : Hid _ := size24 c hc
  have SX : Hid _ := size24 x hx
  clear hx ha hb hc
  go_enter Try.func9, Try.ntmps9
  go_wp2_with (first | (refine wpList_load_row_g 24 _ rfl _ rfl _ _ _ _ H4.out.a Try.underlying24 rfl SA.out rfl ?_) | (refine wpList_load_row_g 24 _ rfl _ rfl _ _ _ _ H4.out.b Try.underlying24 rfl SB.out rfl ?_) | (refine wpList_load_row_g 24 _ rfl _ rfl _ _ _ _ H4.out.c Try.underlying24 rfl SC.out rfl ?_))
  go_ret
  exact ⟨rfl, H4.out.bel⟩

set_option maxHeartbeats 400000 in
theorem walk_ac (w : World) (x a b c : List UInt8) (hx : x.length = 20) (ha : a.length = 20) (hb : b.length = 20) (hc : c.length = 20) (hab : a ≠ b) (hbc : b ≠ c) (hac : a = c) :
    Calls Try.prog 9 #[.agg (bcs x), .agg (bcs a), .agg (bcs b), .agg (bcs c)] w fun e w' => e = .returned (.bool true) ∧ Below w.heap.size w w' := by
  have H4 : Hid _ := four_boxes w x a b c
  have e1 : ∀ v, (Op.equalIn 10000 24 (.agg (bcs a)) (.agg (bcs b))).run Try.prog v = .ok false v := fun v => by rw [run_eq24 v a b ha hb]; simp [hab]
  clear hab
  have e2 : ∀ v, (Op.equalIn 10000 24 (.agg (bcs b)) (.agg (bcs c))).run Try.prog v = .ok false v := fun v => by rw [run_eq24 v b c hb hc]; simp [hbc]
  clear hbc
  have e3 : ∀ v, (Op.equalIn 10000 24 (.agg (bcs a)) (.agg (bcs c))).run Try.prog v = .ok true v := fun v => by rw [run_eq24 v a c ha hc]; simp [hac]
  clear hac
  have SA : Hid _ := size24 a ha
  have SB : Hid _ := size24 b hb
  have SC : Hid _ := size24 c hc
  have SX : Hid _ := size24 x hx
  clear hx ha hb hc
  go_enter Try.func9, Try.ntmps9
  go_wp2_with (first | (refine wpList_load_row_g 24 _ rfl _ rfl _ _ _ _ H4.out.a Try.underlying24 rfl SA.out rfl ?_) | (refine wpList_load_row_g 24 _ rfl _ rfl _ _ _ _ H4.out.b Try.underlying24 rfl SB.out rfl ?_) | (refine wpList_load_row_g 24 _ rfl _ rfl _ _ _ _ H4.out.c Try.underlying24 rfl SC.out rfl ?_))
  go_ret
  exact ⟨rfl, H4.out.bel⟩

theorem walk_all (w : World) (x a b c : List UInt8) (hx : x.length = 20) (ha : a.length = 20) (hb : b.length = 20) (hc : c.length = 20) :
    Calls Try.prog 9 #[.agg (bcs x), .agg (bcs a), .agg (bcs b), .agg (bcs c)] w fun e w' => e = .returned (.bool true) ∧ Below w.heap.size w w' := by
  by_cases hab : a = b
  · exact walk_ab w x a b c hx ha hb hc hab
  · by_cases hbc : b = c
    · exact walk_bc w x a b c hx ha hb hc hab hbc
    · by_cases hac : a = c
      · exact walk_ac w x a b c hx ha hb hc hab hbc hac
      · exact walk_distinct w x a b c hx ha hb hc hab hbc hac

end Go.Proofs.Qxb6000078a
