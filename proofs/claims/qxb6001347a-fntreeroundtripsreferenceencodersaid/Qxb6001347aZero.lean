/- THE ZERO VALUE OF [65536]byte, behind a name that nothing opens. -/
import Derived.Test.Qxb6001347aRows
import Derived.WalkKit
import Derived.KernelRfl
namespace Go.Proofs.Qxb6001347a

/-- l is n zero bytes -/
def chk : List Value → Nat → Bool
  | [], 0 => true
  | .int .u8 (.ofNat 0) :: l, n + 1 => chk l n
  | _, _ => false

theorem chk_ok : ∀ (l : List Value) (n : Nat), chk l n = true → l = List.replicate n (.int .u8 0)
  | [], 0, _ => rfl
  | [], n + 1, h => by simp [chk] at h
  | v :: l, 0, h => by simp [chk] at h
  | v :: l, n + 1, h => by
    unfold chk at h
    split at h
    · rename_i e1 e2
      cases e1
    · rename_i e1 e2
      injection e1 with e3 e4
      injection e2 with e5
      subst e4 e5
      rw [List.replicate_succ, chk_ok l n h, e3]
      rfl
    · cases h

def chkZ (i : TypeInfo) : Bool := match i.zero with | some (.agg zs) => chk zs.toList 65536 | _ => false

/-- 65536 zero bytes -/
def zb : Array Value := (List.replicate 65536 (Value.int .u8 0)).toArray

theorem chkZ_ok {i : TypeInfo} (h : chkZ i = true) : i.zero = some (.agg zb) := by
  unfold chkZ at h
  split at h
  · rename_i zs e
    rw [e]
    have := chk_ok _ _ h
    have e2 : zs = zb := by
      unfold zb
      rw [← this]
    rw [e2]
  · simp at h

theorem t59_chk : chkZ Try.t59 = true := by kernel_rfl
theorem t59_zero : Try.t59.zero = some (.agg zb) := chkZ_ok t59_chk

end Go.Proofs.Qxb6001347a
