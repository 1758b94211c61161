/- '==' of two arrays of 20 bytes; a whole array loaded under a guard. -/
import Derived.Test.Qxb6000078aBetw
import Derived.ChangeKeysEq
namespace Go.Proofs.Qxb6000078a
open Go.RowKit Plain

theorem bcs_get (x : List UInt8) (k : Nat) (hk : k < x.length) : (bcs x)[k]? = some (.int .u8 (x[k].toNat : Int)) := by
  simp [bcs, hk]

theorem run_eqItemsB (w : World) (x y : List UInt8) (hl : x.length = y.length) : ∀ (m k : Nat), m + k = x.length →
    (Op.eqItems 9999 5 1 (bcs x) (bcs y) (List.range' k m)).run Try.prog w = .ok (decide (x.drop k = y.drop k)) w
  | 0, k, h => by
    rw [List.drop_of_length_le (by omega), List.drop_of_length_le (by omega)]
    simp [Op.eqItems]
  | m + 1, k, h => by
    have hk : k < x.length := by omega
    have hk' : k < y.length := by omega
    have ih := run_eqItemsB w x y hl m (k + 1) (by omega)
    have p1 := run_part_plain (P := Try.prog) w (e := 5) (by kernel_rfl) (by rw [Nat.mul_one]; exact bcs_get x k hk : (bcs x)[k * 1]? = _)
    have p2 := run_part_plain (P := Try.prog) w (e := 5) (by kernel_rfl) (by rw [Nat.mul_one]; exact bcs_get y k hk' : (bcs y)[k * 1]? = _)
    have p3 := run_equalIn_int (P := Try.prog) (w := w) 9998 5 .u8 .u8 (x[k].toNat : Int) (y[k].toNat : Int) Try.underlying5
    rw [List.range'_succ]
    simp only [Op.eqItems, Sem.run_bind, p1, p2, Result.andThen_ok]
    rw [show (9999 : Nat) = 9998 + 1 from rfl, p3]
    simp only [Result.andThen_ok]
    have hd : (x.drop k = y.drop k) ↔ (x[k] = y[k] ∧ x.drop (k + 1) = y.drop (k + 1)) := by
      rw [List.drop_eq_getElem_cons hk, List.drop_eq_getElem_cons hk', List.cons.injEq]
    by_cases he : x[k] = y[k]
    · have hd' : decide (x.drop k = y.drop k) = decide (x.drop (k + 1) = y.drop (k + 1)) := decide_eq_decide.2 (by rw [hd]; exact ⟨fun h => h.2, fun h => ⟨he, h⟩⟩)
      rw [he, hd']
      simp only [beq_self_eq_true, Bool.not_true, Bool.false_eq_true, if_false]
      exact ih
    · have hne : ((x[k].toNat : Int) == (y[k].toNat : Int)) = false := by
        rw [beq_eq_false_iff_ne]
        intro h2
        exact he (UInt8.toNat_inj.1 (by omega))
      have hd' : decide (x.drop k = y.drop k) = false := decide_eq_false (by rw [hd]; exact fun h => he h.1)
      rw [hne, hd']
      simp only [Bool.not_false, if_true, Sem.run_pure]

theorem run_eq24 (w : World) (x y : List UInt8) (hx : x.length = 20) (hy : y.length = 20) :
    (Op.equalIn 10000 24 (.agg (bcs x)) (.agg (bcs y))).run Try.prog w = .ok (decide (x = y)) w := by
  obtain ⟨i, hi⟩ : ∃ i, Try.prog.info? 5 = some i := Option.isSome_iff_exists.1 (by kernel_rfl)
  have hc : Try.prog.cellsOf 5 = 1 := by kernel_rfl
  rw [show (10000 : Nat) = 9999 + 1 from rfl, run_equalIn_array w 9999 (bcs x) (bcs y) Try.underlying24 hi, hc, List.range_eq_range']
  have h := run_eqItemsB w x y (by omega) 20 0 (by omega)
  simpa using h

/-- 'wpList_load_row' under a guard that lets it run -/
theorem wpList_load_row_g {P : Program} {ops : Array Oper} {rest : List Oper} {o : Oper} {a : Act} {w : World} {Q : Exit → Act → World → Prop} (ty : TypeId) (x : Operand) (ho : o.op = .load ty x)
    (g : Nat) (hx : a.eval x = .pointer (some ⟨g, 0, none⟩)) (t : TypeId) (cs : Array Value) (fr : Nat × Nat) (d : TypeDesc) (hg : w.heap[g]? = some (.cells cs t fr))
    (hu : P.underlying ty = some d) (hd : (match d with | .struct _ | .array _ _ => true | _ => false) = true) (hi : (P.info? ty).map (·.size) = some cs.size)
    (hgd : Region.wanted o (yielded ops a.tmps) = true)
    (h : wpList P ops Q rest (a.put o.dst (.agg cs)) w) : wpList P ops Q (o :: rest) a w :=
  wpList_step fun K hK => by
    simp only [hgd, if_true]
    exact wp_load_row ty x ho g hx t cs fr d hg hu hd hi (hK _ _ h)

end Go.Proofs.Qxb6000078a
