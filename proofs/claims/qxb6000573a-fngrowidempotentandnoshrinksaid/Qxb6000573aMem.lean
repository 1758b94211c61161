/- THE SET IN MEMORY: levels as rows of uint64; what a step that writes only uint64 words keeps. -/
import Derived.Test.Qxb6000573aRows
import Derived.WalkKit
import Derived.WalkSpells
import Derived.WalkLawsBesides
namespace Go.Proofs.Qxb6000573a
open Go.RowKit

/-- every cell is a uint64 -/
def AllU (cur : Array Value) : Prop := ∀ j, j < cur.size → ∃ n : Int, cur[j]? = some (.int .u64 n)

/-- block g is an open row of c uint64 cells -/
def URow (w : World) (g c : Nat) : Prop := ∃ cur : Array Value, w.heap[g]? = some (.cells cur 40 (0, 0)) ∧ cur.size = c ∧ AllU cur

/-- w' is w, but that uint64 rows may hold other uint64 words, and there may be new blocks; below S nothing has turned -/
structure UK (S : Nat) (w w' : World) : Prop where
  bel : Below S w w'
  blk : ∀ k, k < w.heap.size → w'.heap[k]? = w.heap[k]? ∨ ∃ cur cur' : Array Value, w.heap[k]? = some (.cells cur 40 (0, 0)) ∧ w'.heap[k]? = some (.cells cur' 40 (0, 0)) ∧ cur'.size = cur.size ∧ (AllU cur → AllU cur')

theorem lt_of_heap {w : World} {k : Nat} {o : Obj} (h : w.heap[k]? = some o) : k < w.heap.size := (Array.getElem?_eq_some_iff.1 h).1

theorem UK.refl (S : Nat) (w : World) : UK S w w := ⟨Below.refl _ _, fun _ _ => .inl rfl⟩

theorem UK.trans {S : Nat} {a b c : World} (h : UK S a b) (k : UK S b c) : UK S a c := by
  refine ⟨h.bel.trans k.bel, fun j hj => ?_⟩
  have hs := h.bel.size
  rcases h.blk j hj with h1 | ⟨cur, cur', h1, h2, h3, h4⟩
  · rcases k.blk j (by omega) with k1 | ⟨d, d', k1, k2, k3, k4⟩
    · exact .inl (k1.trans h1)
    · exact .inr ⟨d, d', h1 ▸ k1, k2, k3, k4⟩
  · rcases k.blk j (by omega) with k1 | ⟨d, d', k1, k2, k3, k4⟩
    · exact .inr ⟨cur, cur', h1, k1.trans h2, h3, h4⟩
    · rw [h2] at k1
      simp only [Option.some.injEq, Obj.cells.injEq, and_true] at k1
      subst k1
      exact .inr ⟨cur, d', h1, k2, k3.trans h3, fun q => k4 (h4 q)⟩

theorem UK.alloc {S : Nat} {a w : World} (h : UK S a w) (hS : S ≤ w.heap.size) (o : Obj) : UK S a (w.alloc o) :=
  h.trans ⟨(Below.refl _ _).alloc hS o, fun k hk => .inl (Below.heap_alloc w o k hk)⟩

theorem UK.drew {S : Nat} {a w : World} (h : UK S a w) : UK S a w.drew := h.trans ⟨(Below.refl _ _).drew, fun _ _ => .inl rfl⟩

theorem heap_setCell_same {w : World} {g j : Nat} {cur : Array Value} {t : TypeId} {fr : Nat × Nat} {v : Value} (h : w.heap[g]? = some (.cells cur t fr)) :
    (w.setCell ⟨g, j, none⟩ v).heap[g]? = some (.cells (cur.setIfInBounds j v) t fr) := by
  simp [World.setCell, Array.getElem?_modify, h]

theorem AllU.set {cur : Array Value} (h : AllU cur) (j : Nat) (n : Int) : AllU (cur.setIfInBounds j (.int .u64 n)) := by
  intro i hi
  rw [Array.size_setIfInBounds] at hi
  rw [Array.getElem?_setIfInBounds]
  split
  · rename_i e
    subst e
    rw [if_pos hi]
    exact ⟨n, rfl⟩
  · exact h i hi

/-- a uint64 stored into a uint64 row -/
theorem UK.store {S : Nat} {a w : World} (h : UK S a w) {g c : Nat} (hr : URow w g c) (hg : S ≤ g) (j : Nat) (n : Int) : UK S a (w.setCell ⟨g, j, none⟩ (.int .u64 n)) := by
  obtain ⟨cur, h1, h2, h3⟩ := hr
  refine h.trans ⟨(Below.refl _ _).setCell hg _, fun k hk => ?_⟩
  by_cases e : k = g
  · subst e
    exact .inr ⟨cur, _, h1, heap_setCell_same h1, by simp, fun q => q.set j n⟩
  · exact .inl (Below.heap_setCell w _ _ k e)

theorem UK.urow {S : Nat} {w w' : World} (h : UK S w w') {g c : Nat} (hr : URow w g c) : URow w' g c := by
  obtain ⟨cur, h1, h2, h3⟩ := hr
  rcases h.blk g (lt_of_heap h1) with k | ⟨d, d', k1, k2, k3, k4⟩
  · exact ⟨cur, k.trans h1, h2, h3⟩
  · rw [h1] at k1
    simp only [Option.some.injEq, Obj.cells.injEq, and_true] at k1
    subst k1
    exact ⟨d', k2, k3.trans h2, k4 h3⟩

theorem UK.other {S : Nat} {w w' : World} (h : UK S w w') {g : Nat} {cs : Array Value} {t : TypeId} {fr : Nat × Nat} (hg : w.heap[g]? = some (.cells cs t fr)) (ht : t ≠ 40) : w'.heap[g]? = some (.cells cs t fr) := by
  rcases h.blk g (lt_of_heap hg) with k | ⟨d, d', k1, k2, k3, k4⟩
  · exact k.trans hg
  · rw [hg] at k1
    simp only [Option.some.injEq, Obj.cells.injEq] at k1
    exact absurd k1.2.1 ht

theorem URow.cell {w : World} {g c : Nat} (hr : URow w g c) (j : Nat) (hj : j < c) : ∃ n : Int, w.cell? ⟨g, j, none⟩ = some (.int .u64 n) := by
  obtain ⟨cur, h1, h2, h3⟩ := hr
  obtain ⟨n, hn⟩ := h3 j (by omega)
  exact ⟨n, by rw [cell_of_row w g j cur 40 (0, 0) h1]; exact hn⟩

theorem frozen_of_open {w : World} {g j : Nat} {cur : Array Value} {t : TypeId} (h : w.heap[g]? = some (.cells cur t (0, 0))) : w.frozen? ⟨g, j, none⟩ = false := by
  simp [World.frozen?, h]

theorem URow.free {w : World} {g c : Nat} (hr : URow w g c) (j : Nat) : w.frozen? ⟨g, j, none⟩ = false := by
  obtain ⟨cur, h1, _⟩ := hr
  exact frozen_of_open h1

/-- a level: its block, its length, its capacity -/
structure Lv where
  g : Nat
  n : Nat
  c : Nat

def Lv.val (l : Lv) : Value := .slice (some ⟨l.g, 0, none⟩) l.n l.c

def Lv.ok (S : Nat) (w : World) (l : Lv) : Prop := S ≤ l.g ∧ 1 ≤ l.n ∧ l.n ≤ l.c ∧ URow w l.g l.c

/-- THE SET at block S, its levels ls -/
structure SetAt (S : Nat) (w : World) (ao : Option Addr) (cap : Nat) (ls : List Lv) : Prop where
  box : w.heap[S]? = some (.cells #[.slice ao ls.length cap] 28 (0, 0))
  outer : w.ownsRow S 32 1 (.slice ao ls.length cap) ls.length (ls.map Lv.val)
  inner : ∀ l ∈ ls, l.ok S w

theorem ownsRow_block {w : World} {S : Nat} {e : TypeId} {ao : Option Addr} {n cap : Nat} {xs : List Value} (h : w.ownsRow S e 1 (.slice ao n cap) n xs) (hn : 0 < n) :
    ∃ G cur, ao = some ⟨G, 0, none⟩ ∧ S ≤ G ∧ w.heap[G]? = some (.cells cur e (0, 0)) ∧ n ≤ cap ∧ cur.size = cap ∧ cur.toList.take n = xs := by
  rcases h.2 with ⟨h', h2⟩ | ⟨g', cap', cur, h', hS, hg, hc, hm, hs, htake⟩
  · omega
  · simp only [Value.slice.injEq, true_and] at h'
    obtain ⟨rfl, rfl⟩ := h'
    exact ⟨g', cur, rfl, hS, hg, hc, by simpa using hs, by simpa using htake⟩

theorem ownsRow_same {w w' : World} {S : Nat} {e : TypeId} {v : Value} {n : Nat} {xs : List Value} (h : w.ownsRow S e 1 v n xs)
    (hb : ∀ (k : Nat) (cur : Array Value), w.heap[k]? = some (Obj.cells cur e (0, 0)) → w'.heap[k]? = some (Obj.cells cur e (0, 0))) : w'.ownsRow S e 1 v n xs := by
  refine ⟨h.1, ?_⟩
  rcases h.2 with hn | ⟨g, cap, cur, h1, h2, h3, h4⟩
  · exact .inl hn
  · exact .inr ⟨g, cap, cur, h1, h2, hb g cur h3, h4⟩

theorem SetAt.uk {S : Nat} {w w' : World} {ao : Option Addr} {cap : Nat} {ls : List Lv} (h : SetAt S w ao cap ls) (k : UK S w w') : SetAt S w' ao cap ls :=
  ⟨k.other h.box (by decide), ownsRow_same h.outer (fun _ _ q => k.other q (by decide)), fun l hl => ⟨(h.inner l hl).1, (h.inner l hl).2.1, (h.inner l hl).2.2.1, k.urow (h.inner l hl).2.2.2⟩⟩

theorem SetAt.cellS {S : Nat} {w : World} {ao : Option Addr} {cap : Nat} {ls : List Lv} (h : SetAt S w ao cap ls) : w.cell? ⟨S, 0, none⟩ = some (.slice ao ls.length cap) := by
  rw [cell_of_row w S 0 _ 28 (0, 0) h.box]; rfl

theorem SetAt.freeS {S : Nat} {w : World} {ao : Option Addr} {cap : Nat} {ls : List Lv} (h : SetAt S w ao cap ls) : w.frozen? ⟨S, 0, none⟩ = false := frozen_of_open h.box

/-- the outer row's block -/
theorem SetAt.at {S : Nat} {w : World} {ao : Option Addr} {cap : Nat} {ls : List Lv} (h : SetAt S w ao cap ls) (hn : 0 < ls.length) :
    ∃ G, ao = some ⟨G, 0, none⟩ ∧ S ≤ G ∧ ls.length ≤ cap ∧ (∀ j, w.frozen? ⟨G, j, none⟩ = false) ∧ ∀ k (hk : k < ls.length), w.cell? ⟨G, k, none⟩ = some (.slice (some ⟨ls[k].g, 0, none⟩) ls[k].n ls[k].c) := by
  obtain ⟨G, cur, h1, h2, h3, h4, h5, h6⟩ := ownsRow_block h.outer hn
  refine ⟨G, h1, h2, h4, fun j => frozen_of_open h3, fun k hk => ?_⟩
  rw [cell_of_row w G k cur 32 (0, 0) h3]
  have := congrArg (fun l => l[k]?) h6
  simp only [List.getElem?_take, if_pos hk, List.getElem?_map, List.getElem?_eq_getElem hk] at this
  simpa [Lv.val] using this

/-- one level's header written anew -/
theorem SetAt.setLevel {S : Nat} {w w1 : World} {G cap : Nat} {ls : List Lv} (h : SetAt S w (some ⟨G, 0, none⟩) cap ls) (hk : UK S w w1) (k : Nat) (hkl : k < ls.length) (l : Lv) (hl : l.ok S w1) :
    SetAt S (w1.setCell ⟨G, k, none⟩ (.slice (some ⟨l.g, 0, none⟩) l.n l.c)) (some ⟨G, 0, none⟩) cap (ls.set k l) := by
  have h1 := h.uk hk
  obtain ⟨G', cur, e1, h2, h3, h4, h5, h6⟩ := ownsRow_block h1.outer (by omega)
  simp only [Option.some.injEq, Addr.mk.injEq, and_true] at e1
  subst e1
  have hSG : S ≠ G := fun e => by
    have := h1.box
    rw [e, h3] at this
    simp at this
  refine ⟨?_, ?_, ?_⟩
  · rw [Below.heap_setCell _ _ _ _ hSG, List.length_set]
    exact h1.box
  · rw [List.length_set]
    refine ⟨by simp, .inr ⟨G, cap, cur.setIfInBounds k l.val, rfl, h2, heap_setCell_same h3, h4, ?_, by simpa using h5, ?_⟩⟩
    · rcases h1.outer.2 with ⟨h', _⟩ | ⟨g', cap', cur', h', _, _, _, hm, _⟩
      · simp at h'
      · simp only [Value.slice.injEq, true_and] at h'
        omega
    · rw [Array.toList_setIfInBounds, Nat.mul_one, List.take_set, h6, List.map_set]
  · intro l' hl'
    have keep : ∀ {g c : Nat}, URow w1 g c → URow (w1.setCell ⟨G, k, none⟩ (.slice (some ⟨l.g, 0, none⟩) l.n l.c)) g c := by
      intro g c ⟨cu, q1, q2, q3⟩
      have hne : g ≠ G := fun e => by
        rw [e, h3] at q1
        simp at q1
      exact ⟨cu, by rw [Below.heap_setCell _ _ _ _ hne]; exact q1, q2, q3⟩
    rcases List.mem_or_eq_of_mem_set hl' with hm | rfl
    · have := h1.inner l' hm
      exact ⟨this.1, this.2.1, this.2.2.1, keep this.2.2.2⟩
    · exact ⟨hl.1, hl.2.1, hl.2.2.1, keep hl.2.2.2⟩

/-- a level appended on top -/
theorem SetAt.addLevel {S : Nat} {w w1 w2 : World} {ao ao' : Option Addr} {cap cap' : Nat} {ls : List Lv} (h : SetAt S w ao cap ls) (hk : UK S w w1) (l : Lv) (hl : l.ok S w1)
    (hown : w2.ownsRow S 32 1 (.slice ao' (ls.length + 1) cap') (ls.length + 1) (ls.map Lv.val ++ [l.val])) (hg : w1.grownBy w2 (Value.slice ao ls.length cap).ownBlock) :
    SetAt S (w2.setCell ⟨S, 0, none⟩ (.slice ao' (ls.length + 1) cap')) ao' cap' (ls ++ [l]) := by
  have h1 := h.uk hk
  have notG : ∀ {k : Nat} {cs : Array Value} {t : TypeId}, w1.heap[k]? = some (.cells cs t (0, 0)) → t ≠ 32 → some k ≠ (Value.slice ao ls.length cap).ownBlock := by
    intro k cs t hk ht e
    rcases h1.outer.2 with ⟨h', _⟩ | ⟨g', cap'', cur', h', _, hg', _⟩
    · rw [h'] at e; simp [Value.ownBlock] at e
    · rw [h'] at e
      simp only [Value.ownBlock, Option.some.injEq] at e
      subst e
      rw [hk] at hg'
      simp only [Option.some.injEq, Obj.cells.injEq] at hg'
      exact ht hg'.2.1
  have hbox : w2.heap[S]? = some (.cells #[.slice ao ls.length cap] 28 (0, 0)) := by
    rw [hg.block S (lt_of_heap h1.box) (notG h1.box (by decide))]
    exact h1.box
  refine ⟨?_, ?_, ?_⟩
  · rw [heap_setCell_same hbox]
    simp
  · rw [List.length_append, List.map_append]
    refine ownsRow_same hown (fun k cur q => ?_)
    have hne : k ≠ S := fun e => by
      rw [e, hbox] at q
      simp at q
    rw [Below.heap_setCell _ _ _ _ hne]
    exact q
  · intro l' hl'
    have keep : ∀ {g c : Nat}, URow w1 g c → URow (w2.setCell ⟨S, 0, none⟩ (.slice ao' (ls.length + 1) cap')) g c := by
      intro g c ⟨cu, q1, q2, q3⟩
      have q4 : w2.heap[g]? = some (.cells cu 40 (0, 0)) := by
        rw [hg.block g (lt_of_heap q1) (notG q1 (by decide))]
        exact q1
      have hne : g ≠ S := fun e => by
        rw [e, hbox] at q4
        simp at q4
      exact ⟨cu, by rw [Below.heap_setCell _ _ _ _ hne]; exact q4, q2, q3⟩
    rcases List.mem_append.1 hl' with hm | hm
    · have := h1.inner l' hm
      exact ⟨this.1, this.2.1, this.2.2.1, keep this.2.2.2⟩
    · simp at hm
      subst hm
      exact ⟨hl.1, hl.2.1, hl.2.2.1, keep hl.2.2.2⟩

end Go.Proofs.Qxb6000573a
