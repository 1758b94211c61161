/- THE STATEMENT 'Rows.FnBetweenSplitsAnArcSaid': the frame is the guide's own (the shell for a law over slices), turned to four arrays of 20 bytes. -/
import Derived.Test.Qxb6000078aRows
import Derived.Test.Qxb6000078aLaw
import Derived.WalkKit
import Derived.ProofKit
import Derived.OpenShut
import Derived.ShutString
import Derived.ChangeOld
import Derived.Below
namespace Go.Proofs.Qxb6000078a.fnBetweenSplitsAnArc
open Go.ChangeShapes Go.WideShapes Go.ChangeAt Go.RowKit
set_option linter.unusedVariables false

theorem own : ownKnob Try.prog.godebug = none := by kernel_rfl
theorem laidOut : laidOutB Try.prog = true := by kernel_rfl
theorem cells24 : Try.prog.cellsOf 24 = 20 := by kernel_rfl
theorem cells5 : Try.prog.cellsOf 5 = 1 := by kernel_rfl

/-- a list of cells, each a byte -/
theorem bytes_of : ∀ (l : List Value), (∀ i, i < l.length → ∃ n : Int, l[i]? = some (.int .u8 n) ∧ 0 ≤ n ∧ n ≤ 255) → ∃ xs : List UInt8, l = xs.map fun b => Value.int .u8 b.toNat
  | [], _ => ⟨[], rfl⟩
  | v :: l, h => by
    obtain ⟨n, hn, h0, h1⟩ := h 0 (by simp)
    obtain ⟨xs, hxs⟩ := bytes_of l (fun i hi => by have := h (i + 1) (by simp; omega); simpa using this)
    refine ⟨UInt8.ofNat n.toNat :: xs, ?_⟩
    simp at hn
    subst hn
    rw [List.map_cons, ← hxs]
    have e : ((UInt8.ofNat n.toNat).toNat : Int) = n := by
      rw [UInt8.toNat_ofNat_of_lt' (by simp [UInt8.size]; omega)]
      omega
    rw [e]

/-- an argument that is an array of 20 bytes, opened -/
theorem open_b20 {H : Type} {enc : TypeId × Value → H} {W : World} {base : Nat} {v : Value} {d : DataW H} {p : List MemPlace} (hv : Value.okWide Try.prog W .any base 24 v)
    (h : DataW.Trod enc Try.prog W 0 (fun _ => true) true 24 v d p) : ∃ xs : List UInt8, xs.length = 20 ∧ v = .agg (bcs xs) := by
  obtain ⟨cs, rfl, hsz, _⟩ : ∃ cs, v = .agg cs ∧ cs.size = Try.prog.cellsOf 24 ∧ Row.okWide Try.prog W .any base 24 cs := by
    simpa [Value.okWide, Try.underlying24] using hv
  rw [cells24] at hsz
  obtain ⟨fuel, hf⟩ := h
  obtain ⟨ys, m, _, _, _, hl, hel⟩ := DataW.trod_array Try.underlying24 hf
  obtain ⟨l⟩ := cs
  have hsz' : l.length = 20 := hsz
  obtain ⟨xs, hxs⟩ := bytes_of l (fun i hi => by
    have hi20 : i < 20 := by omega
    have := hel i hi20
    rw [List.getElem?_eq_getElem (by omega), cells5, Nat.mul_one] at this
    obtain ⟨n, hn, _, hw⟩ := DataW.trod_int Try.underlying5 this
    have hb := bounds_u8 hw
    refine ⟨n, ?_, hb.1, hb.2⟩
    have h2 : (List.take 1 (List.drop i l))[0]? = some (Value.int .u8 n) := by
      have : (Value.agg ⟨l⟩).cells.toList = l := rfl
      rw [this] at hn
      rw [hn]; rfl
    simpa using h2)
  refine ⟨xs, ?_, ?_⟩
  · have := congrArg List.length hxs
    simp at this
    omega
  · rw [hxs]; rfl

/-! ### THE ROW's STEP -/
set_option maxRecDepth 100000 in
theorem lifted (os : Os) (started : os.Started) (H : Type) (enc : TypeId × Value → H) :
    ReturnsInHanded {} Try.checked os 9 .any (Rows.fnBetweenSplitsAnArcSpec.pre6 enc Try.prog Try.f9 Rows.fnBetweenSplitsAnArcRow.domain false) (Rows.fnBetweenSplitsAnArcSpec.post enc Try.prog Try.f9 false true false false) := by
  refine returnsInHanded_of_change (C := Try.checked) own started (by kernel_rfl) Try.func9
    (ChangeSpec.witness6 (enc := enc) (C := Try.checked) false ⟨#[], #[.agg #[.int .u8 0, .int .u8 0, .int .u8 0, .int .u8 0, .int .u8 0, .int .u8 0, .int .u8 0, .int .u8 0, .int .u8 0, .int .u8 0, .int .u8 0, .int .u8 0, .int .u8 0, .int .u8 0, .int .u8 0, .int .u8 0, .int .u8 0, .int .u8 0, .int .u8 0, .int .u8 0], .agg #[.int .u8 0, .int .u8 0, .int .u8 0, .int .u8 0, .int .u8 0, .int .u8 0, .int .u8 0, .int .u8 0, .int .u8 0, .int .u8 0, .int .u8 0, .int .u8 0, .int .u8 0, .int .u8 0, .int .u8 0, .int .u8 0, .int .u8 0, .int .u8 0, .int .u8 0, .int .u8 0], .agg #[.int .u8 0, .int .u8 0, .int .u8 0, .int .u8 0, .int .u8 0, .int .u8 0, .int .u8 0, .int .u8 0, .int .u8 0, .int .u8 0, .int .u8 0, .int .u8 0, .int .u8 0, .int .u8 0, .int .u8 0, .int .u8 0, .int .u8 0, .int .u8 0, .int .u8 0, .int .u8 0], .agg #[.int .u8 0, .int .u8 0, .int .u8 0, .int .u8 0, .int .u8 0, .int .u8 0, .int .u8 0, .int .u8 0, .int .u8 0, .int .u8 0, .int .u8 0, .int .u8 0, .int .u8 0, .int .u8 0, .int .u8 0, .int .u8 0, .int .u8 0, .int .u8 0, .int .u8 0, .int .u8 0]], []⟩ 8 (by kernel_rfl) (by kernel_rfl) (by kernel_rfl) (by kernel_rfl)) ?_
  intro W base args ds gs before hval0 hW hcnd _
  have hval : ∀ (j : Nat) t v, Try.f9.params[j]? = some t → args[j]? = some v → Value.okWide Try.prog W .any base t v := hval0
  have hW' := hW
  obtain ⟨p, q, hA0, hV, rfl, hfz, hnd⟩ := hW
  have hA : DataW.TrodAll enc Try.prog W 0 (fun _ => true) true Try.f9.params.toList args.toList ds p := hA0
  rw [Try.params9] at hA hval
  obtain ⟨v0, vs0, d0, ds0, p0, q0, hargs, rfl, rfl, h0, r0⟩ := trodAll_cons hA
  obtain ⟨v1, vs1, d1, ds1, p1, q1, rfl, rfl, rfl, h1, r1⟩ := trodAll_cons r0
  obtain ⟨v2, vs2, d2, ds2, p2, q2, rfl, rfl, rfl, h2, r2⟩ := trodAll_cons r1
  obtain ⟨v3, vs3, d3, ds3, p3, q3, rfl, rfl, rfl, h3, r3⟩ := trodAll_cons r2
  obtain ⟨rfl, rfl, rfl⟩ := trodAll_nil r3
  obtain rfl : args = #[v0, v1, v2, v3] := by cases args; simp_all
  obtain ⟨rfl, rfl⟩ := trodVars_none hV
  have k0 := h0
  have lt0 : ∀ x ∈ p0, x.block < W.heap.size := by obtain ⟨m, hm⟩ := k0; exact DataW.trod_lt m _ _ _ hm
  obtain ⟨x0, l0, rfl⟩ := open_b20 (hval 0 24 v0 rfl rfl) h0
  have k1 := h1
  have lt1 : ∀ x ∈ p1, x.block < W.heap.size := by obtain ⟨m, hm⟩ := k1; exact DataW.trod_lt m _ _ _ hm
  obtain ⟨x1, l1, rfl⟩ := open_b20 (hval 1 24 v1 rfl rfl) h1
  have k2 := h2
  have lt2 : ∀ x ∈ p2, x.block < W.heap.size := by obtain ⟨m, hm⟩ := k2; exact DataW.trod_lt m _ _ _ hm
  obtain ⟨x2, l2, rfl⟩ := open_b20 (hval 2 24 v2 rfl rfl) h2
  have k3 := h3
  have lt3 : ∀ x ∈ p3, x.block < W.heap.size := by obtain ⟨m, hm⟩ := k3; exact DataW.trod_lt m _ _ _ hm
  obtain ⟨x3, l3, rfl⟩ := open_b20 (hval 3 24 v3 rfl rfl) h3
  clear hA0 hval0
  refine (walk_all W x0 x1 x2 x3 l0 l1 l2 l3).mono fun e W' ⟨he, bel⟩ => ?_
  subst he
  exact ⟨_, rfl, _, _, _, [], _, [], hW', trodAll_mk1 (shut_bool Try.underlying4 _), (trodAll_cons_mk (Below.trod laidOut (by kernel_rfl) (of_decide_eq_true (by kernel_rfl)) k0 bel lt0) (trodAll_cons_mk (Below.trod laidOut (by kernel_rfl) (of_decide_eq_true (by kernel_rfl)) k1 bel lt1) (trodAll_cons_mk (Below.trod laidOut (by kernel_rfl) (of_decide_eq_true (by kernel_rfl)) k2 bel lt2) (trodAll_cons_mk (Below.trod laidOut (by kernel_rfl) (of_decide_eq_true (by kernel_rfl)) k3 bel lt3) trodAll_mk0)))), rfl, bel.frame _, fun h => by cases h⟩

theorem over : Rows.fnBetweenSplitsAnArcRow.holds Try.pinned (OpenSpec.ofChange Rows.fnBetweenSplitsAnArcSpec) :=
  OpenClaim.holds_of_wide 9 Try.f9 rfl rfl rfl rfl rfl rfl rfl ⟨rfl, rfl, rfl, rfl, rfl⟩ rfl rfl rfl rfl rfl (by kernel_rfl) Try.func9 (by kernel_rfl)
    (of_decide_eq_true (by kernel_rfl)) (by unfold Func.isWrapper; first | (rw [if_pos (by decide +kernel)]; kernel_rfl) | (rw [if_neg (by decide +kernel)]; exact ⟨rfl, rfl⟩))
    (fun os started H enc _ => lifted os started H enc)

/-- THE STATEMENT -/
theorem proved : Rows.FnBetweenSplitsAnArcSaid := over
#print axioms proved
end Go.Proofs.Qxb6000078a.fnBetweenSplitsAnArc
