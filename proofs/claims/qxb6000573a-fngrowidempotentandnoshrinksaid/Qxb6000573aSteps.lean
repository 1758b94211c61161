/- TWO STEPS OF 'grow' AS LAWS FOR A REGION THAT DRAWS ITS ORDER: a level put on top; a level made longer. -/
import Derived.Test.Qxb6000573aNoop
import Derived.Deep.RegionLaw
namespace Go.Proofs.Qxb6000573a
open Go.RowKit Plain

/-- new words, all 0 -/
def uz (n : Nat) : Array Value := madeCells (Value.int .u64 0).cells n
theorem size_uz (n : Nat) : (uz n).size = n := size_madeCells _ _
theorem AllU_uz (n : Nat) : AllU (uz n) := by
  intro j hj
  rw [size_uz] at hj
  refine ⟨0, ?_⟩
  have hs : (Value.int .u64 0).cells.size = 1 := rfl
  simp only [uz, madeCells, Array.getElem?_map, hs]
  rw [Array.getElem?_range, if_pos hj]
  simp [Value.cells, Nat.mod_one]
theorem run_mk (n : Nat) (hn : n ≤ 2000) (w : World) : (Instr.makeSlice 32 (.int .i64 (n : Int)) (.int .i64 (n : Int))).run Try.prog w = .ok (.slice (some ⟨w.heap.size, 0, none⟩) n n) (w.alloc (.cells (uz n) 40)) := by
  obtain ⟨i, hi, hz0, hz1, hz2⟩ := info_parts info40
  have hr := run_make (P := Try.prog) w 32 40 i (.int .u64 0) Try.underlying32 hi hz0 .i64 .i64 n n (by omega) (by omega) (by rw [hz2]; omega) (by omega)
  rw [hz1] at hr
  simpa [uz] using hr

theorem pi_len {t k need : Nat} {ns : List Nat} (h : PI t k need ns) : ns.length ≤ 1027 := by
  have h1 := h.k2
  have h2 := h.kl
  have h3 := h.need2
  have hb : need ≤ 1025 := by unfold bd at h3; split at h3 <;> (try split at h3) <;> omega
  rcases h.suf with h4 | h4
  · have := congrArg List.length h4
    simp at this
    omega
  · have h5 := good_len h4
    have h6 : (ns.drop k)[0]! ≤ 1025 := by
      cases hd : ns.drop k with
      | nil => simp
      | cons a r =>
        by_cases h0 : k = 0
        · have := (h.zero h0).2 a (by rw [h0] at hd; simp at hd; simp [hd])
          simpa using this
        · have := h.le (by omega) a (by simp [hd])
          simp
          omega
    have h7 : (ns.drop k).length = ns.length - k := by simp
    omega

theorem step_addLevel {ops : Array Oper} {o : Oper} {a : Act} {K : Act → World → Prop} {Q : Exit → Act → World → Prop} {E : Prop} {wx : World} (hgd : o.guard = none) (s x : Operand)
    (ho : o.op = .call { callee := .builtin .append, args := #[s, x], argTypes := #[26, 26] })
    (S : Nat) (wr : World) (ao : Option Addr) (cap : Nat) (ls : List Lv) (hset : SetAt S wr ao cap ls) (hlen : ls.length ≤ 1100)
    (hs : a.eval s = .slice ao ls.length cap) (B g need : Nat) (hx : a.eval x = .slice (some ⟨B, 0, none⟩) 1 1)
    (hbox : wx.heap[B]? = some (.cells #[.slice (some ⟨g, 0, none⟩) need need] 32 (0, 0))) (huk : UK S wr wx) (hl : Lv.ok S wx ⟨g, need, need⟩)
    (h : ∀ G' cap' w2, w2.cell? ⟨S, 0, none⟩ = some (.slice ao ls.length cap) → w2.frozen? ⟨S, 0, none⟩ = false →
      Hid (SetAt S (w2.setCell ⟨S, 0, none⟩ (.slice (some ⟨G', 0, none⟩) (ls.length + 1) cap')) (some ⟨G', 0, none⟩) cap' (ls ++ [⟨g, need, need⟩]) ∧ Below S wr (w2.setCell ⟨S, 0, none⟩ (.slice (some ⟨G', 0, none⟩) (ls.length + 1) cap'))) →
      K (a.put o.dst (.slice (some ⟨G', 0, none⟩) (ls.length + 1) cap')) w2) :
    if Region.wanted o (yielded ops a.tmps) = true then Oper.wp Try.prog o a wx K Q else E := by
  obtain ⟨i0, hi0, hz0, hz1, hz2⟩ := info_parts info32
  have h1 := hset.uk huk
  have hSlt : S < wx.heap.size := lt_of_heap h1.box
  refine step_append_lies wx hgd s x 26 ho S 32 i0 (.slice none 0 0) 1 24 Try.underlying26 hi0 hz0 hz1 hz2 rfl (by omega) (.slice ao ls.length cap) ls.length (ls.map Lv.val) hs h1.outer ⟨B, 0, none⟩ 1 1 [.slice (some ⟨g, 0, none⟩) need need] hx rfl
    (World.news_of_block hbox) (by intro u hu; simp at hu; subst hu; rfl) (by omega) (by unfold maxLen; omega) (by omega) (by omega) wx.heap.size rfl ?_
  intro G' cap' w2 hown hgrow hat hlt
  have hne : some S ≠ (Value.slice ao ls.length cap).ownBlock := by
    intro e
    rcases h1.outer.2 with ⟨h', _⟩ | ⟨g', cap'', cur', h', _, hg', _⟩
    · rw [h'] at e; simp [Value.ownBlock] at e
    · rw [h'] at e
      simp only [Value.ownBlock, Option.some.injEq] at e
      subst e
      rw [h1.box] at hg'
      simp at hg'
  refine h G' cap' w2 ?_ ?_ ⟨?_, ?_⟩
  · rw [hgrow.cell_far ⟨S, 0, none⟩ hSlt hne]; exact h1.cellS
  · rw [hgrow.frozen_far ⟨S, 0, none⟩ hSlt hne]; exact h1.freeS
  · exact hset.addLevel huk ⟨g, need, need⟩ hl hown hgrow
  · refine (huk.bel.trans ?_).setCell (Nat.le_refl S) _
    refine (Below.refl S wx).grown hgrow (by omega) ?_
    intro k hk
    exact (h1.outer.lt k hk).1

theorem step_extend {ops : Array Oper} {o : Oper} {a : Act} {K : Act → World → Prop} {Q : Exit → Act → World → Prop} {E : Prop} {wx : World} (hgd : o.guard = none) (s x : Operand)
    (ho : o.op = .call { callee := .builtin .append, args := #[s, x], argTypes := #[32, 3] })
    (S : Nat) (wr : World) (G cap : Nat) (ls : List Lv) (hset : SetAt S wr (some ⟨G, 0, none⟩) cap ls) (k : Nat) (hk : k < ls.length) (g n c : Nat) (hl : ls[k] = ⟨g, n, c⟩)
    (hs : a.eval s = .slice (some ⟨g, 0, none⟩) n c) (X : Int) (m : Nat) (hx : a.eval x = .int .i64 X) (hX : X = (m : Int)) (hm : 0 < m) (hb : n + m ≤ 2000) (huk : UK S wr wx)
    (h : ∀ g' c' w2, w2.cell? ⟨S, 0, none⟩ = some (.slice (some ⟨G, 0, none⟩) ls.length cap) → w2.cell? ⟨G, k, none⟩ = some (.slice (some ⟨g, 0, none⟩) n c) → w2.frozen? ⟨G, k, none⟩ = false →
      Hid (SetAt S (w2.setCell ⟨G, k, none⟩ (.slice (some ⟨g', 0, none⟩) (n + m) c')) (some ⟨G, 0, none⟩) cap (ls.set k ⟨g', n + m, c'⟩) ∧ Below S wr (w2.setCell ⟨G, k, none⟩ (.slice (some ⟨g', 0, none⟩) (n + m) c'))) →
      K (a.put o.dst (.slice (some ⟨g', 0, none⟩) (n + m) c')) w2) :
    if Region.wanted o (yielded ops a.tmps) = true then Oper.wp Try.prog o a wx K Q else E := by
  subst hX
  have hw : Region.wanted o (yielded ops a.tmps) = true := by simp [Region.wanted, hgd]
  rw [if_pos hw]
  have h1 := hset.uk huk
  have hin := h1.inner ls[k] (List.getElem_mem hk)
  rw [hl] at hin
  obtain ⟨g', c', w2, hr, hu, hc, hS, huk2⟩ := run_append_zeros wx S g n c m hin.2.2.2 hin.2.2.1 hin.1 hm hb o.type
  have h2 := h1.uk huk2
  obtain ⟨G', e, hSG, _, hfr, hcell⟩ := h2.at (by omega)
  simp only [Option.some.injEq, Addr.mk.injEq, and_true] at e
  subst e
  unfold Oper.wp execOp
  simp only [ho, resolve, invoke, builtin, Sem.run_bind, Sem.run_pure, Result.andThen_ok, List.map_toArray, List.map_cons, List.map_nil, hs, hx, hr]
  refine h g' c' w2 h2.cellS ?_ (hfr k) ⟨?_, ?_⟩
  · rw [hcell k hk, hl]
  · have hn1 := hin.2.1
    exact hset.setLevel (huk.trans huk2) k hk ⟨g', n + m, c'⟩ ⟨hS, by simp at hn1 ⊢; omega, hc, hu⟩
  · exact (huk.bel.trans huk2.bel).setCell hSG _

end Go.Proofs.Qxb6000573a
