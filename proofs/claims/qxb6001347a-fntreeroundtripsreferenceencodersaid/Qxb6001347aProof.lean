/- The statement, out of its walks. -/
import Derived.Test.Qxb6001347aRows
import Derived.Test.Qxb6001347aMain
import Derived.WalkKit
import Derived.ProofKit
import Derived.OpenShut
import Derived.ShutString
import Derived.ChangeOld
import Derived.Below
namespace Go.Proofs.Qxb6001347a.fnTreeRoundTripsReferenceEncoder
open Go.ChangeShapes Go.WideShapes Go.ChangeAt Go.RowKit
open Go.ChangeMaps (open_string shut_string)
set_option linter.unusedVariables false

theorem own : ownKnob Try.prog.godebug = none := by kernel_rfl
theorem laidOut : laidOutB Try.prog = true := by kernel_rfl

/-- WHAT THE WALK IS TOLD OF A SLICE OF INTEGERS THAT CAME IN: it is nil; or it leads to a row of 'cap' cells, the numbers 'zs' (the first 'len' are its elements, the rest its spare room), each fitting its kind. -/
def IsRow (k : IntKind) (w : World) (a : Option Addr) (len cap : Nat) (zs : List Int) : Prop :=
  (a = none ∧ len = 0 ∧ cap = 0 ∧ zs = []) ∨
  ∃ x, a = some x ∧ len ≤ cap ∧ cap ≤ maxLen ∧ zs.length = cap ∧ (∀ i, i < zs.length → w.cell? (x.add i) = some (.int k (zs.getD i 0))) ∧ ∀ n ∈ zs, (Lit.int k n).wf = true

/-! ### STEP 1: THE WALK -/
open Plain

/-- the numbers of a slice of uint16, as naturals -/
theorem row_nat {w : World} {x : Addr} {len cap : Nat} {zs : List Int} (h1 : len ≤ cap) (h3 : zs.length = cap) (h4 : ∀ i, i < zs.length → w.cell? (x.add i) = some (.int .u16 (zs.getD i 0))) (h5 : ∀ n ∈ zs, (Lit.int .u16 n).wf = true) (h0 : 0 < len) :
    ∃ b off, ∃ P0 : List Nat, x = ⟨b, off, none⟩ ∧ b < w.heap.size ∧ P0.length = len ∧ (∀ i, P0.getD i 0 < 65536) ∧ ∀ k, k < len → w.cell? ⟨b, off + k, none⟩ = some (.int .u16 ((P0.getD k 0 : Nat) : Int)) := by
  obtain ⟨b, off, e, hc⟩ := ints_at h4 (by omega)
  have hbd : ∀ z ∈ zs, 0 ≤ z ∧ z < 65536 := fun z hz => by
    have := h5 z hz
    simp [Lit.wf] at this
    have e1 : IntKind.u16.min = 0 := rfl
    have e2 : IntKind.u16.max = 65535 := rfl
    omega
  refine ⟨b, off, (zs.take len).map Int.toNat, e, World.block_lt_of_cell? w _ (hc 0 (by omega)), by simp; omega, fun i => ?_, fun k hk => ?_⟩
  · by_cases hi : i < (zs.take len).length
    · have hz := hbd _ (List.mem_of_mem_take (List.getElem_mem hi))
      rw [List.getD_eq_getElem?_getD, List.getElem?_map, List.getElem?_eq_getElem hi]
      simp only [Option.map_some, Option.getD_some]
      omega
    · rw [List.getD_eq_getElem?_getD, List.getElem?_eq_none (by rw [List.length_map]; omega)]
      simp
  · have hk' : k < zs.length := by omega
    have hz := hbd zs[k] (List.getElem_mem hk')
    rw [hc k hk']
    have e1 : zs.getD k 0 = zs[k] := by simp [hk']
    have e2 : ((zs.take len).map Int.toNat).getD k 0 = zs[k].toNat := by simp [hk, hk']
    rw [e1, e2]
    congr 2
    omega

theorem walk (a0 : Option Addr) (len0 cap0 : Nat) (z0 : List Int) (a1 : Int) (a2 : Int) (w : World) (w0 : IsRow .u16 w a0 len0 cap0 z0) (w1 : (Lit.int .u64 a1).wf = true) (w2 : (Lit.int .u32 a2).wf = true) :
    Calls Try.prog 9 #[.slice a0 len0 cap0, .int .u64 a1, .int .u32 a2] w fun e w' => e = .returned (.bool true) ∧ Below w.heap.size w w' := by
  have hm : len0 ≤ maxLen := by
    rcases w0 with ⟨_, rfl, _, _⟩ | ⟨_, _, h1, h2, _⟩
    · exact Nat.zero_le _
    · exact Nat.le_trans h1 h2
  have hs0 : 0 ≤ a2 := by
    simp [Lit.wf] at w2
    have e1 : IntKind.u32.min = 0 := rfl
    omega
  by_cases hr : 65536 < len0 ∨ a1 < 1 ∨ 16 < a1
  · exact early_range a0 len0 cap0 a1 a2 w hm hr
  obtain ⟨n, rfl⟩ : ∃ n : Nat, a1 = n := ⟨a1.toNat, by omega⟩
  obtain ⟨sym, rfl⟩ : ∃ s : Nat, a2 = s := ⟨a2.toNat, by omega⟩
  have hn1 : 1 ≤ n := by omega
  have hn16 : n ≤ 16 := by omega
  have hl : len0 ≤ 65536 := by omega
  by_cases hq : len0 ≠ 2 ^ n ∨ (len0 = 2 ^ n ∧ 2 ^ n ≤ sym)
  · exact early_len a0 len0 cap0 n sym w hl hn1 hn16 hq
  have hle : len0 = 2 ^ n := by
    by_cases h : len0 = 2 ^ n
    · exact h
    · exact absurd (.inl h) hq
  have hsy : sym < 2 ^ n := by
    by_cases h : sym < 2 ^ n
    · exact h
    · exact absurd (.inr ⟨hle, by omega⟩) hq
  have hpos : 0 < 2 ^ n := Nat.pow_pos (by omega)
  rcases w0 with ⟨_, rfl, _, _⟩ | ⟨x, rfl, h1, _, h3, h4, h5⟩
  · omega
  · obtain ⟨b, off, P0, rfl, hb, hpl, hu, hc⟩ := row_nat h1 h3 h4 h5 (by omega)
    rw [hle] at hpl hc ⊢
    exact main_any b off cap0 n sym P0 w ⟨hn1, hn16, hsy, hpl, hu⟩ hb hc

/-! ### THE ROW's STEP: WRITTEN OUT: LEAVE IT -/
set_option maxRecDepth 100000 in
theorem lifted (os : Os) (started : os.Started) (H : Type) (enc : TypeId × Value → H) :
    ReturnsInHanded {} Try.checked os 9 .any (Rows.fnTreeRoundTripsReferenceEncoderSpec.pre6 enc Try.prog Try.f9 Rows.fnTreeRoundTripsReferenceEncoderRow.domain false) (Rows.fnTreeRoundTripsReferenceEncoderSpec.post enc Try.prog Try.f9 false true false false) := by
  refine returnsInHanded_of_change (C := Try.checked) own started (by kernel_rfl) Try.func9
    (ChangeSpec.witness6 (enc := enc) (C := Try.checked) false ⟨#[], #[.slice none 0 0, .int .u64 0, .int .u32 0], []⟩ 8 (by kernel_rfl) (by kernel_rfl) (by kernel_rfl) (by kernel_rfl)) ?_
  intro W base args ds gs before hval0 hW hcnd _
  have hval : ∀ (j : Nat) t v, Try.f9.params[j]? = some t → args[j]? = some v → Value.okWide Try.prog W .any base t v := hval0
  have hW' := hW
  obtain ⟨p, q, hA0, hV, rfl, hfz, hnd⟩ := hW
  have hA : DataW.TrodAll enc Try.prog W 0 (fun _ => true) true Try.f9.params.toList args.toList ds p := hA0
  rw [Try.params9] at hA hval
  obtain ⟨v0, vs0, d0, ds0, p0, q0, hargs, rfl, rfl, h0, r0⟩ := trodAll_cons hA
  obtain ⟨v1, vs1, d1, ds1, p1, q1, rfl, rfl, rfl, h1, r1⟩ := trodAll_cons r0
  obtain ⟨v2, vs2, d2, ds2, p2, q2, rfl, rfl, rfl, h2, r2⟩ := trodAll_cons r1
  obtain ⟨rfl, rfl, rfl⟩ := trodAll_nil r2
  obtain rfl : args = #[v0, v1, v2] := by cases args; simp_all
  obtain ⟨rfl, rfl⟩ := trodVars_none hV
  obtain ⟨a0, len0, cap0, rfl⟩ := okWide_slice Try.underlying37 (hval 0 37 v0 rfl rfl)
  have k0 := h0
  have lt0 : ∀ x ∈ p0, x.block < W.heap.size := by obtain ⟨m, hm⟩ := k0; exact DataW.trod_lt m _ _ _ hm
  obtain ⟨z0, w0⟩ : ∃ zs, IsRow .u16 W a0 len0 cap0 zs := by
    obtain ⟨fuel, hf⟩ := h0
    rcases open_ints Try.underlying37 Try.underlying30 (by kernel_rfl) hf with ⟨hcs, _⟩ | ⟨x, l, c, zs, hcs, _, hl, hm, hz, _, hcell, hwz⟩
    · simp [Value.cells] at hcs
      obtain ⟨rfl, rfl, rfl⟩ := hcs
      exact ⟨[], .inl ⟨rfl, rfl, rfl, rfl⟩⟩
    · simp [Value.cells] at hcs
      obtain ⟨rfl, rfl, rfl⟩ := hcs
      exact ⟨zs, .inr ⟨_, rfl, hl, hm, by simpa using hz, hcell, hwz⟩⟩
  obtain ⟨a1, rfl, rfl, rfl, w1⟩ := open_int Try.underlying35 (hval 1 35 v1 rfl rfl) h1
  obtain ⟨a2, rfl, rfl, rfl, w2⟩ := open_int Try.underlying29 (hval 2 29 v2 rfl rfl) h2
  clear hA0 hval0
  refine (walk a0 len0 cap0 z0 a1 a2 W w0 w1 w2).mono fun e W' ⟨he, bel⟩ => ?_
  subst he
  exact ⟨_, rfl, _, _, _, [], _, [], hW', trodAll_mk1 (shut_bool Try.underlying4 _), (trodAll_cons_mk (Below.trod laidOut (by kernel_rfl) (of_decide_eq_true (by kernel_rfl)) k0 bel lt0) (trodAll_cons_mk (shut_int Try.underlying35 w1) (trodAll_cons_mk (shut_int Try.underlying29 w2) trodAll_mk0))), rfl, bel.frame _, fun h => by cases h⟩

theorem over : Rows.fnTreeRoundTripsReferenceEncoderRow.holds Try.pinned (OpenSpec.ofChange Rows.fnTreeRoundTripsReferenceEncoderSpec) :=
  OpenClaim.holds_of_wide 9 Try.f9 rfl rfl rfl rfl rfl rfl rfl ⟨rfl, rfl, rfl, rfl, rfl⟩ rfl rfl rfl rfl rfl (by kernel_rfl) Try.func9 (by kernel_rfl)
    (of_decide_eq_true (by kernel_rfl)) (by unfold Func.isWrapper; first | (rw [if_pos (by decide +kernel)]; kernel_rfl) | (rw [if_neg (by decide +kernel)]; exact ⟨rfl, rfl⟩))
    (fun os started H enc _ => lifted os started H enc)

/-- ████ THE STATEMENT ████ -/
theorem proved : Rows.FnTreeRoundTripsReferenceEncoderSaid := over
#print axioms proved
end Go.Proofs.Qxb6001347a.fnTreeRoundTripsReferenceEncoder
