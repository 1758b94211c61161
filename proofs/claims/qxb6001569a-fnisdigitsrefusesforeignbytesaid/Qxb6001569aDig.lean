/- 'isDigits' at a text with a foreign byte; 'append' of a string within the capacity. -/
import Derived.Test.Qxb6001569aRows
import Derived.WalkKit
import Derived.ProofKit
import Derived.OwnWalk
import Derived.Laws.IdiomStrings
import Derived.Below
namespace Go.Proofs.Qxb6001569a
open Go.RowKit

set_option maxHeartbeats 400000 in
theorem isDigits_foreign (s : ByteArray) (p : Nat) (w : World) (hs : s.size ≤ maxLen) (hp : p < s.size) (hb : s[p].toNat < 48 ∨ 57 < s[p].toNat) :
    Calls Try.prog 10 #[.string s] w fun e w' => e = .returned (.bool false) ∧ w' = w := by
  unfold maxLen at hs
  go_enter Try.func10, Try.ntmps10
  go_wp2
  go_loop [3] (fun i => ∃ k : Nat, k ≤ p ∧ i = .int .i64 k) (fun i => s.size - (intOf i).toNat)
  case atStart => exact ⟨0, Nat.zero_le _, rfl⟩
  case round =>
    obtain ⟨k, hk, rfl⟩ := hrel
    have hlt : k < s.size := by omega
    go_wp2
    · go_ret
      exact ⟨rfl, rfl⟩
    · rename_i h
      have hne : k ≠ p := by
        intro e
        subst e
        omega
      go_round
      case rel => exact ⟨k + 1, by omega, by go_num⟩
      case measure => simp [intOf]; omega
    · go_ret
      exact ⟨rfl, rfl⟩

theorem zzIsDigits_foreign (s : ByteArray) (p : Nat) (w : World) (hs : s.size ≤ maxLen) (hp : p < s.size) (hb : s[p].toNat < 48 ∨ 57 < s[p].toNat) :
    Calls Try.prog 7 #[.string s] w fun e w' => e = .returned (.bool false) ∧ w' = w := by
  have hc := fun w => isDigits_foreign s p w hs hp hb
  clear hb hs
  go_enter Try.func7, Try.ntmps7
  go_wp2_with fail
  go_at_call 10
  refine (hc _).mono ?_
  rintro e w1 ⟨rfl, rfl⟩
  go_wp2
  go_ret
  exact ⟨rfl, rfl⟩

def RetB (e : Ending) (p : Prop) : Prop := ∃ b : Bool, e = .returned (.bool b) ∧ (b = true → p)

theorem zzBytes_any (s : ByteArray) (i c : Int) (w : World) (hs : s.size ≤ maxLen) :
    Calls Try.prog 9 #[.string s, .int .i64 i, .int .u8 c] w fun e w' => RetB e (s.size ≤ 1048576) ∧ w' = w := by
  unfold maxLen at hs
  by_cases h : s.size ≤ 1048576
  · go_enter Try.func9, Try.ntmps9
    go_wp2
    go_ret
    exact ⟨⟨true, rfl, fun _ => h⟩, rfl⟩
  · go_enter Try.func9, Try.ntmps9
    go_wp2
    go_ret
    exact ⟨⟨false, rfl, fun h => (by cases h)⟩, rfl⟩

/-- the bytes as cells -/
def cellsOf (l : List UInt8) : List Value := l.map fun b => Value.int .u8 (b.toNat : Int)

theorem cellsOf_one (l : List UInt8) : ∀ u ∈ cellsOf l, u.oneCell' = true := by
  intro u hu
  obtain ⟨_, _, rfl⟩ := List.mem_map.1 hu
  rfl

theorem info5 : (Try.prog.info? 5).map (fun i => (i.zero, i.size, i.bytes)) = some (some (.int .u8 0), 1, 1) := by kernel_rfl

/-- 'append(b, s...)', s a string, within the capacity -/
theorem run_append_str (w : World) (base ty : Nat) (g n cap : Nat) (xs : List Value) (hown : w.ownsRow base 5 1 (.slice (some ⟨g, 0, none⟩) n cap) n xs) (s : ByteArray) (hroom : n + s.size ≤ cap) :
    ∃ w', (Builtin.append_ #[26, 9] ty #[.slice (some ⟨g, 0, none⟩) n cap, .string s]).run Try.prog w = .ok (.slice (some ⟨g, 0, none⟩) (n + s.size) cap) w' ∧
      w'.ownsRow base 5 1 (.slice (some ⟨g, 0, none⟩) (n + s.size) cap) (n + s.size) (xs ++ cellsOf s.data.toList) ∧ w.grownBy w' (some g) := by
  obtain ⟨i, hi, hz0, hz1, hz2⟩ := info_parts info5
  have hl : (cellsOf s.data.toList).length = s.size := by simp [cellsOf]
  have hlen : (xs ++ cellsOf s.data.toList).length = (n + s.size) * 1 := by rw [List.length_append, hown.1, hl]; omega
  rcases hown.2 with ⟨h, _⟩ | ⟨g', cap', cur, h, hbg, hg, hnc, hcm, hcs, htake⟩
  · simp at h
  · simp only [Value.slice.injEq, Option.some.injEq, Addr.mk.injEq, and_true, true_and] at h
    obtain ⟨rfl, rfl⟩ := h
    have e9 : Try.prog.underlying 9 = some .string := Try.underlying9
    have e26 : Try.prog.underlying 26 = some (.slice 5) := Try.underlying26
    have hst := run_storeCells_at Try.prog g n 5 (cellsOf s.data.toList) 0 cur w hg (by rw [hl]; omega) (cellsOf_one _)
    simp only [Nat.add_zero, List.append_assoc] at hst
    have hx : List.take s.size (List.map (fun b => Value.int .u8 (b.toNat : Int)) s.data.toList) = cellsOf s.data.toList := List.take_of_length_le (by simp)
    refine ⟨w.setRow g (cur.toList.take n ++ cellsOf s.data.toList ++ cur.toList.drop (n + (cellsOf s.data.toList).length)).toArray, ?_, ⟨hlen, .inr ⟨g, cap, _, rfl, hbg, setRow_heap w g cur _ 5 _ hg, hroom, hcm, ?_, ?_⟩⟩, ⟨rfl, rfl, rfl, by simp, fun k _ hk => setRow_other w g k _ (fun e => hk (by simp [e]))⟩⟩
    · simp [Builtin.append_, run_underlying e26, run_underlying e9, sizeOf, typeInfo, hi, hz1, Builtin.lenOf, Builtin.firstCells, hroom, Addr.add_lit, hx, hst]
    · simp only [List.size_toArray, List.length_append, List.length_take, List.length_drop, Array.length_toList]
      omega
    · have htake' : cur.toList.take n = xs := by simpa using htake
      rw [htake', ← hlen]
      exact List.take_left

theorem wpList_append_str (w : World) {ops : Array Oper} {rest : List Oper} {o : Oper} {a : Act} {Q : Exit → Act → World → Prop}
    (hgd : o.guard = none) (s x : Operand) (hop : o.op = Op.call { callee := Callee.builtin Builtin.append, args := #[s, x], argTypes := #[26, 9] })
    (base g n cap : Nat) (xs : List Value) (hs : a.eval s = .slice (some ⟨g, 0, none⟩) n cap) (hown : w.ownsRow base 5 1 (.slice (some ⟨g, 0, none⟩) n cap) n xs) (str : ByteArray) (hx : a.eval x = .string str) (n2 : Nat) (hn2 : n + str.size = n2) (hroom : n2 ≤ cap)
    (hK : ∀ w', w'.ownsRow base 5 1 (.slice (some ⟨g, 0, none⟩) n2 cap) n2 (xs ++ cellsOf str.data.toList) → w.grownBy w' (some g) → wpList Try.prog ops Q rest (a.put o.dst (.slice (some ⟨g, 0, none⟩) n2 cap)) w') :
    wpList Try.prog ops Q (o :: rest) a w := by
  subst hn2
  refine wpList_plain hgd fun K hK' => ?_
  obtain ⟨w', hrun, r1, r2⟩ := run_append_str w base o.type g n cap xs hown str hroom
  unfold Oper.wp
  simp [execOp, hop, resolve, invoke, builtin, hs, hx, hrun, Result.andThen]
  exact hK' _ _ (hK w' r1 r2)

/-- 'string(b)' of an owned row -/
theorem run_back (w : World) (base g n cap : Nat) (l : List UInt8) (hl : l.length = n) (hown : w.ownsRow base 5 1 (.slice (some ⟨g, 0, none⟩) n cap) n (cellsOf l)) :
    (convert 26 9 (.slice (some ⟨g, 0, none⟩) n cap)).run Try.prog w = .ok (.string ⟨l.toArray⟩) w := by
  subst hl
  refine run_convert_bytes_back w 26 9 5 ⟨g, 0, none⟩ cap l Try.underlying26 Try.underlying5 Try.underlying9 fun j hj => ?_
  rw [Addr.add_lit, Nat.zero_add, hown.cellAt j (by omega)]
  simp [cellsOf, List.getElem?_eq_getElem hj]

theorem one_new (w : World) (c : Int) : ∀ j u, [Value.int .u8 c][j]? = some u → (w.alloc (.cells #[.int .u8 c] 5)).cell? ((⟨w.heap.size, 0, none⟩ : Addr).add j) = some u := by
  intro j u hu
  obtain rfl : j = 0 := by
    have := (List.getElem?_eq_some_iff.1 hu).1
    simp at this
    omega
  rw [Addr.add_lit, cell_of_row _ _ _ _ 5 (0, 0) (heap_alloc_new w _)]
  simpa using hu

theorem one_one (c : Int) : ∀ u ∈ [Value.int .u8 c], u.oneCell' = true := by
  intro u hu
  rw [List.mem_singleton] at hu
  subst hu
  rfl

/-- only new blocks -/
theorem below_chain {w w1 w2 w3 w4 : World} {o : Obj} (h1 : w.grownBy w1 none) (h2 : w1.grownBy w2 (some w.heap.size)) (h3 : (w2.alloc o).grownBy w3 (some w.heap.size)) (h4 : w3.grownBy w4 (some w.heap.size)) : Below w.heap.size w w4 := by
  have s1 := h1.size
  have s2 := h2.size
  have s3 := h3.size
  simp at s3
  have hr : ∀ k, some w.heap.size = some k → w.heap.size ≤ k := fun k e => by cases e; exact Nat.le_refl _
  exact (((((Below.refl _ w).grown h1 (Nat.le_refl _) (fun k e => by cases e)).grown h2 s1 hr).alloc (by omega) o).grown h3 (by simp; omega) hr).grown h4 (by omega) hr

/-- the text with the byte put in -/
def put (s : ByteArray) (k : Nat) (c : Int) : List UInt8 := (s.extract 0 k).data.toList ++ UInt8.ofNat c.toNat :: (s.extract k s.size).data.toList

theorem put_length (s : ByteArray) (k : Nat) (c : Int) (hk : k ≤ s.size) : (put s k c).length = s.size + 1 := by
  simp [put]
  omega

theorem put_cells (s : ByteArray) (k : Nat) (c : Int) (h0 : 0 ≤ c) (h1 : c < 256) : cellsOf (s.extract 0 k).data.toList ++ [.int .u8 c] ++ cellsOf (s.extract k s.size).data.toList = cellsOf (put s k c) := by
  simp [cellsOf, put]
  omega

theorem put_at (s : ByteArray) (k : Nat) (c : Int) (hk : k ≤ s.size) (h0 : 0 ≤ c) (h1 : c < 256) (hp : k < (⟨(put s k c).toArray⟩ : ByteArray).size) : (((⟨(put s k c).toArray⟩ : ByteArray)[k].toNat : Nat) : Int) = c := by
  have e : (⟨(put s k c).toArray⟩ : ByteArray)[k] = (put s k c)[k]'(by rw [put_length s k c hk]; omega) := rfl
  have hl : (s.extract 0 k).data.toList.length = k := by simp; omega
  have e2 : (put s k c)[k]'(by rw [put_length s k c hk]; omega) = UInt8.ofNat c.toNat := by
    unfold put
    rw [List.getElem_append_right (by omega)]
    have h00 : k - (s.extract 0 k).data.toList.length = 0 := by omega
    simp only [h00, List.getElem_cons_zero]
  rw [e, e2, UInt8.toNat_ofNat']
  omega

end Go.Proofs.Qxb6001569a
