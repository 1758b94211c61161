/- bytes.Compare at two rows of bytes that are known; the world stays. -/
import Derived.Test.Qxb6000078aRows
import Derived.Test.Qxb6000078aPlain
import Derived.WalkKit
import Derived.WalkSpells
import Derived.Lib.BytesEntry
namespace Go.Proofs.Qxb6000078a
open Go.RowKit

/-- the cells of an array of bytes -/
def bcs (xs : List UInt8) : Array Value := (xs.map fun b => Value.int .u8 b.toNat).toArray

theorem bcs_size (xs : List UInt8) : (bcs xs).size = xs.length := by simp [bcs]

theorem run_loadB {P : Program} (w : World) (g n : Nat) (xs : List UInt8) (t : TypeId) (fr : Nat × Nat) (hx : xs.length = n) (hg : w.heap[g]? = some (.cells (bcs xs) t fr)) :
    (Extern.Bytes.loadBytes ⟨g, 0, none⟩ n .empty).run P w = .ok ⟨xs.toArray⟩ w := by
  have hl := Lib.run_loadBytesX (P := P) w (xs.map fun b => (b.toNat : Int)) ⟨g, 0, none⟩ .empty (fun j x hj => by
    have e : (⟨g, 0, none⟩ : Addr).add j = ⟨g, j, none⟩ := by unfold Addr.add; split <;> simp_all
    rw [e, cell_of_row w g j _ t fr hg]
    simp [bcs] at hj ⊢
    obtain ⟨a, ha, hb⟩ := hj
    exact ⟨a, ha, by rw [← hb]⟩)
  rw [List.length_map, hx] at hl
  rw [hl]
  congr 1
  apply ByteArray.ext
  show (#[] : Array UInt8) ++ (Lib.bytesOf (xs.map fun b => (b.toNat : Int))).toArray = xs.toArray
  have e : (xs.map fun b => (b.toNat : Int)).map (fun n => UInt8.ofNat n.toNat) = xs := by
    rw [List.map_map]
    conv => rhs; rw [← List.map_id xs]
    exact List.map_congr_left fun b _ => by simp
  simp only [Lib.bytesOf] at e ⊢
  rw [show (xs.map fun b => (b.toNat : Int)).map (fun n => n.toNat.toUInt8) = xs from e]
  simp

theorem run_compareB {P : Program} (w : World) (g h : Nat) (xs ys : List UInt8) (t t' : TypeId) (fr fr' : Nat × Nat) (n m c d : Nat) (hx : xs.length = n) (hy : ys.length = m)
    (hg : w.heap[g]? = some (.cells (bcs xs) t fr)) (hh : w.heap[h]? = some (.cells (bcs ys) t' fr')) :
    (Extern.BytealgCompare.compare #[.slice (some ⟨g, 0, none⟩) n c, .slice (some ⟨h, 0, none⟩) m d]).run P w = .ok (.int .i64 (Lib.compareBytes xs ys)) w := by
  have l1 := run_loadB (P := P) w g n xs t fr hx hg
  have l2 := run_loadB (P := P) w h m ys t' fr' hy hh
  change Sem.run P (do pure (goInt (Extern.BytealgCompare.cmp (← Extern.Bytes.bytesOf (.slice (some ⟨g, 0, none⟩) n c)) (← Extern.Bytes.bytesOf (.slice (some ⟨h, 0, none⟩) m d))))) w = _
  simp only [Extern.Bytes.bytesOf, Sem.run_bind, Sem.run_pure, l1, l2, Result.andThen]
  rw [Lib.cmp_eq]
  rfl

set_option maxHeartbeats 400000 in
theorem compare_any (w : World) (g h : Nat) (xs ys : List UInt8) (t t' : TypeId) (fr fr' : Nat × Nat) (hx : xs.length = 20) (hy : ys.length = 20)
    (hg : w.heap[g]? = some (.cells (bcs xs) t fr)) (hh : w.heap[h]? = some (.cells (bcs ys) t' fr')) :
    Calls Try.prog 21 #[.slice (some ⟨g, 0, none⟩) 20 20, .slice (some ⟨h, 0, none⟩) 20 20] w fun e w' => e = .returned (.int .i64 (Lib.compareBytes xs ys)) ∧ w' = w := by
  have hr := run_compareB (P := Try.prog) w g h xs ys t t' fr fr' 20 20 20 20 hx hy hg hh
  have HR : Hid _ := hr
  clear hr hg hh hx hy
  go_enter Try.func21, Try.ntmps21
  go_wp2
  rw [run_callFunc_extern Try.func22 (by kernel_rfl) (by kernel_rfl) (by kernel_rfl) (e := Extern.BytealgCompare.compare) (by kernel_rfl), HR.out]
  simp only [Result.andThen]
  rw [Oper.upon_value]
  go_wp2
  go_ret
  exact ⟨rfl, rfl⟩

end Go.Proofs.Qxb6000078a
