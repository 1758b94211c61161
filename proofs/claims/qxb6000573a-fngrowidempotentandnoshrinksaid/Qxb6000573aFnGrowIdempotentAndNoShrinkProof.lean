/- THE STATEMENT 'Rows.FnGrowIdempotentAndNoShrinkSaid': the frame is the seat's own shell; the walk is filled in. -/
import Derived.Test.Qxb6000573aRows
import Derived.Test.Qxb6000573aLaw
import Derived.WalkKit
import Derived.ProofKit
import Derived.OpenShut
import Derived.ShutString
import Derived.ChangeOld
import Derived.Below
namespace Go.Proofs.Qxb6000573a.fnGrowIdempotentAndNoShrink
open Go.ChangeShapes Go.WideShapes Go.ChangeAt Go.RowKit
open Go.ChangeMaps (open_string shut_string)
set_option linter.unusedVariables false

theorem own : ownKnob Try.prog.godebug = none := by kernel_rfl
theorem laidOut : laidOutB Try.prog = true := by kernel_rfl

/-- WHAT THE WALK IS TOLD OF A SLICE OF INTEGERS THAT CAME IN: it is nil; or it leads to a row of 'cap' cells, the numbers 'zs' (the first 'len' are its elements, the rest its spare room), each fitting its kind. -/
def IsRow (k : IntKind) (w : World) (a : Option Addr) (len cap : Nat) (zs : List Int) : Prop :=
  (a = none ∧ len = 0 ∧ cap = 0 ∧ zs = []) ∨
  ∃ x, a = some x ∧ len ≤ cap ∧ cap ≤ maxLen ∧ zs.length = cap ∧ (∀ i, i < zs.length → w.cell? (x.add i) = some (.int k (zs.getD i 0))) ∧ ∀ n ∈ zs, (Lit.int k n).wf = true

/-! ### STEP 1: THE WALK -/
theorem ops_of_row {w : World} {a : Option Addr} {len cap : Nat} {zs : List Int} (h : IsRow .i64 w a len cap zs) :
    OpsAt w w.heap.size a len zs ∧ (a = none → len = 0) ∧ len ≤ maxLen ∧ ∀ k, k < len → -9223372036854775808 ≤ zs.getD k 0 := by
  rcases h with ⟨rfl, rfl, rfl, rfl⟩ | ⟨x, rfl, h1, h2, h3, h4, h5⟩
  · exact ⟨.inl rfl, fun _ => rfl, Nat.zero_le _, fun k hk => by omega⟩
  · refine ⟨?_, fun e => by simp at e, by omega, fun k hk => ?_⟩
    · by_cases h0 : len = 0
      · exact .inl h0
      · obtain ⟨b, off, rfl, hc⟩ := ints_at h4 (by omega)
        refine .inr ⟨b, off, rfl, ?_, fun k hk => ?_⟩
        · exact World.block_lt_of_cell? w _ (hc 0 (by omega))
        · exact hc k (by omega)
    · have hk' : k < zs.length := by omega
      have := bounds_i64 (h5 zs[k] (List.getElem_mem hk'))
      rw [show zs.getD k 0 = zs[k] from by simp [hk']]
      exact this.1

set_option maxHeartbeats 400000 in
theorem walk_long (a : Option Addr) (n c : Nat) (i j : Int) (w : World) (hm : n ≤ maxLen) (hn : 131072 < n) :
    Calls Try.prog 9 #[.slice a n c, .int .i64 i, .int .i64 j] w fun e w' => e = .returned (.bool true) ∧ Below w.heap.size w w' := by
  have KZ : Hid _ := zzBytes_any a n c i j w hm
  unfold maxLen at hm
  go_enter Try.func9, Try.ntmps9
  go_wp2_with fail
  refine Calls.mono KZ.out ?_
  rintro e w0 ⟨⟨b, rfl, _⟩, rfl⟩
  clear KZ
  cases b
  · go_wp2
    go_ret
    exact ⟨rfl, Below.refl _ _⟩
  · go_wp2
    go_ret
    exact ⟨rfl, Below.refl _ _⟩

set_option maxHeartbeats 400000 in
theorem walk_out (a : Option Addr) (n c : Nat) (i j : Int) (w : World) (hn : n ≤ 131072) (h : i < 0 ∨ (0 ≤ i ∧ 65536 < i) ∨ (0 ≤ i ∧ i ≤ 65536 ∧ j < 0) ∨ (0 ≤ i ∧ i ≤ 65536 ∧ 0 ≤ j ∧ 65536 < j)) :
    Calls Try.prog 9 #[.slice a n c, .int .i64 i, .int .i64 j] w fun e w' => e = .returned (.bool true) ∧ Below w.heap.size w w' := by
  have KZ : Hid _ := zzBytes_any a n c i j w (by unfold maxLen; omega)
  rcases h with h | ⟨h0, h⟩ | ⟨h0, h1, h⟩ | ⟨h0, h1, h2, h⟩
  all_goals
    go_enter Try.func9, Try.ntmps9
    go_wp2_with fail
    refine Calls.mono KZ.out ?_
    rintro e w0 ⟨⟨b, rfl, _⟩, rfl⟩
    clear KZ
    cases b
    · go_wp2
      go_ret
      exact ⟨rfl, Below.refl _ _⟩
    · go_wp2
      go_ret
      exact ⟨rfl, Below.refl _ _⟩

theorem walk (a0 : Option Addr) (len0 cap0 : Nat) (z0 : List Int) (a1 : Int) (a2 : Int) (w : World) (w0 : IsRow .i64 w a0 len0 cap0 z0) (w1 : (Lit.int .i64 a1).wf = true) (w2 : (Lit.int .i64 a2).wf = true) :
    Calls Try.prog 9 #[.slice a0 len0 cap0, .int .i64 a1, .int .i64 a2] w fun e w' => e = .returned (.bool true) ∧ Below w.heap.size w w' := by
  obtain ⟨h1, h2, h3, h4⟩ := ops_of_row w0
  by_cases hn : len0 ≤ 131072
  · by_cases hr : 0 ≤ a1 ∧ a1 ≤ 65536 ∧ 0 ≤ a2 ∧ a2 ≤ 65536
    · exact walk_main a0 len0 cap0 z0 a1 a2 w hn h1 h2 h4 hr.1 hr.2.1 hr.2.2.1 hr.2.2.2
    · exact walk_out a0 len0 cap0 a1 a2 w hn (by omega)
  · exact walk_long a0 len0 cap0 a1 a2 w h3 (by omega)

/-! ### THE ROW's STEP: WRITTEN OUT: LEAVE IT -/
set_option maxRecDepth 100000 in
theorem lifted (os : Os) (started : os.Started) (H : Type) (enc : TypeId × Value → H) :
    ReturnsInHanded {} Try.checked os 9 .any (Rows.fnGrowIdempotentAndNoShrinkSpec.pre6 enc Try.prog Try.f9 Rows.fnGrowIdempotentAndNoShrinkRow.domain false) (Rows.fnGrowIdempotentAndNoShrinkSpec.post enc Try.prog Try.f9 false true false false) := by
  refine returnsInHanded_of_change (C := Try.checked) own started (by kernel_rfl) Try.func9
    (ChangeSpec.witness6 (enc := enc) (C := Try.checked) false ⟨#[], #[.slice none 0 0, .int .i64 0, .int .i64 0], []⟩ 8 (by kernel_rfl) (by kernel_rfl) (by kernel_rfl) (by kernel_rfl)) ?_
  intro W base args ds gs before hval0 hW hcnd _
  have hval : ∀ (j : Nat) t v, Try.f9.params[j]? = some t → args[j]? = some v → Value.okWide Try.prog W .any base t v := hval0
  have hW' := hW
  obtain ⟨p, q, hA0, hV, rfl, hfz, hnd⟩ := hW
  have hA : DataW.TrodAll enc Try.prog W 0 (fun _ => true) true Try.f9.params.toList args.toList ds p := hA0
  rw [Try.params9] at hA hval
  obtain ⟨v0, vs0, d0, ds0, p0, q0, hargs, rfl, rfl, h0, r0⟩ := trodAll_cons hA
  obtain ⟨v1, vs1, d1, ds1, p1, q1, rfl, rfl, rfl, h1, r1⟩ := trodAll_cons r0
  obtain ⟨v2, vs2, d2, ds2, p2, q2, rfl, rfl, rfl, h2, r2⟩ := trodAll_cons r1
  obtain ⟨rfl, rfl, rfl⟩ := trodAll_nil r2
  obtain rfl : args = #[v0, v1, v2] := by cases args; simp_all
  obtain ⟨rfl, rfl⟩ := trodVars_none hV
  obtain ⟨a0, len0, cap0, rfl⟩ := okWide_slice Try.underlying22 (hval 0 22 v0 rfl rfl)
  have k0 := h0
  have lt0 : ∀ x ∈ p0, x.block < W.heap.size := by obtain ⟨m, hm⟩ := k0; exact DataW.trod_lt m _ _ _ hm
  obtain ⟨z0, w0⟩ : ∃ zs, IsRow .i64 W a0 len0 cap0 zs := by
    obtain ⟨fuel, hf⟩ := h0
    rcases open_ints Try.underlying22 Try.underlying3 (by kernel_rfl) hf with ⟨hcs, _⟩ | ⟨x, l, c, zs, hcs, _, hl, hm, hz, _, hcell, hwz⟩
    · simp [Value.cells] at hcs
      obtain ⟨rfl, rfl, rfl⟩ := hcs
      exact ⟨[], .inl ⟨rfl, rfl, rfl, rfl⟩⟩
    · simp [Value.cells] at hcs
      obtain ⟨rfl, rfl, rfl⟩ := hcs
      exact ⟨zs, .inr ⟨_, rfl, hl, hm, by simpa using hz, hcell, hwz⟩⟩
  obtain ⟨a1, rfl, rfl, rfl, w1⟩ := open_int Try.underlying3 (hval 1 3 v1 rfl rfl) h1
  obtain ⟨a2, rfl, rfl, rfl, w2⟩ := open_int Try.underlying3 (hval 2 3 v2 rfl rfl) h2
  clear hA0 hval0
  refine (walk a0 len0 cap0 z0 a1 a2 W w0 w1 w2).mono fun e W' ⟨he, bel⟩ => ?_
  subst he
  exact ⟨_, rfl, _, _, _, [], _, [], hW', trodAll_mk1 (shut_bool Try.underlying4 _), (trodAll_cons_mk (Below.trod laidOut (by kernel_rfl) (of_decide_eq_true (by kernel_rfl)) k0 bel lt0) (trodAll_cons_mk (shut_int Try.underlying3 w1) (trodAll_cons_mk (shut_int Try.underlying3 w2) trodAll_mk0))), rfl, bel.frame _, fun h => by cases h⟩

theorem over : Rows.fnGrowIdempotentAndNoShrinkRow.holds Try.pinned (OpenSpec.ofChange Rows.fnGrowIdempotentAndNoShrinkSpec) :=
  OpenClaim.holds_of_wide 9 Try.f9 rfl rfl rfl rfl rfl rfl rfl ⟨rfl, rfl, rfl, rfl, rfl⟩ rfl rfl rfl rfl rfl (by kernel_rfl) Try.func9 (by kernel_rfl)
    (of_decide_eq_true (by kernel_rfl)) (by unfold Func.isWrapper; first | (rw [if_pos (by decide +kernel)]; kernel_rfl) | (rw [if_neg (by decide +kernel)]; exact ⟨rfl, rfl⟩))
    (fun os started H enc _ => lifted os started H enc)

/-- ████ THE STATEMENT ████ -/
theorem proved : Rows.FnGrowIdempotentAndNoShrinkSaid := over
#print axioms proved
end Go.Proofs.Qxb6000573a.fnGrowIdempotentAndNoShrink
