/- THE LAW's WALK -/
import Derived.Test.Qxb6000573aSame
namespace Go.Proofs.Qxb6000573a
open Go.RowKit Plain

set_option maxHeartbeats 400000 in
theorem levels_any (S : Nat) (w : World) (v : Value) (h : w.cell? ⟨S, 0, none⟩ = some v) (hv : ∃ ao n cap, v = .slice ao n cap) :
    Calls Try.prog 14 #[.pointer (some ⟨S, 0, none⟩)] w fun e w' => e = .returned v ∧ w' = w := by
  obtain ⟨ao, n, cap, rfl⟩ := hv
  go_enter Try.func14, Try.ntmps14
  go_wp2
  go_ret
  exact ⟨rfl, rfl⟩

set_option maxHeartbeats 400000 in
theorem zzgrow_any (S : Nat) (w : World) (i : Int) (h : Inv S w w) (hi : 0 ≤ i) (hi2 : i ≤ 65536) :
    Calls Try.prog 27 #[.pointer (some ⟨S, 0, none⟩), .int .i64 i] w fun e w' => e = .returned (.tuple #[]) ∧ Grew S w w' ((i / 64).toNat + 1) := by
  obtain ⟨ao, cap, ls, h1, h2, h3, h4⟩ := h
  have HG : Hid _ := grow_any S w ao cap ls i h1 h2 h3 hi hi2
  clear h1 h2 h3 h4
  go_enter Try.func27, Try.ntmps27
  go_wp2_with fail
  refine Calls.mono HG.out ?_
  rintro e w1 ⟨rfl, hg⟩
  have H : Hid _ := hg
  clear hg HG
  go_wp2
  go_end0
  exact ⟨rfl, H.out⟩

set_option maxHeartbeats 400000 in
theorem zzgrow_noop (S : Nat) (w : World) (ao : Option Addr) (cap : Nat) (ls : List Lv) (i : Int) (h : SetAt S w ao cap ls) (hg : Gd (lens ls)) (hi : 0 ≤ i) (hi2 : i ≤ 65536)
    (hb : ∀ l ∈ ls, l.n ≤ 1025) (h0 : (i / 64).toNat + 1 ≤ (lens ls)[0]!) :
    Calls Try.prog 27 #[.pointer (some ⟨S, 0, none⟩), .int .i64 i] w fun e w' => e = .returned (.tuple #[]) ∧ w' = w := by
  have HG : Hid _ := grow_noop S w ao cap ls i h hg hi hi2 hb h0
  clear h hg hb h0
  go_enter Try.func27, Try.ntmps27
  go_wp2_with fail
  refine Calls.mono HG.out ?_
  rintro e w1 ⟨rfl, rfl⟩
  clear HG
  go_wp2
  go_end0
  exact ⟨rfl, rfl⟩

theorem uk_of_below {S : Nat} {w w' : World} (h : Below w.heap.size w w') (hS : S ≤ w.heap.size) : UK S w w' :=
  ⟨h.mono hS, fun k hk => .inl (h.block k hk)⟩

theorem same_of_clone {S : Nat} {w w' : World} {G cap : Nat} {ls : List Lv} (h : SetAt S w (some ⟨G, 0, none⟩) cap ls) (hc : CL w ls ls.length w') : Same w' w.heap.size G ls := by
  intro k hk
  obtain ⟨cur, h1, h2, h3⟩ := hc.row
  obtain ⟨H, q1, q2, q3, q4⟩ := h3 k hk hk
  obtain ⟨G', e, _, _, _, hcell⟩ := h.at (by omega)
  simp only [Option.some.injEq, Addr.mk.injEq, and_true] at e
  subst e
  have hin := h.inner ls[k] (List.getElem_mem hk)
  have hglt : ls[k].g < w.heap.size := by obtain ⟨cu, q, _⟩ := hin.2.2.2; exact lt_of_heap q
  have hGlt : G < w.heap.size := World.block_lt_of_cell? w _ (hcell k hk)
  refine ⟨H, ?_, ?_, fun j hj => ?_⟩
  · rw [cell_of_row w' _ k cur 32 (0, 0) h1]; exact q1
  · rw [hc.bel.cell (p := ⟨G, k, none⟩) hGlt]; exact hcell k hk
  · obtain ⟨v, hv⟩ := hin.2.2.2.cell j (by have := hin.2.2.1; omega)
    refine ⟨v, ?_, ?_⟩
    · rw [q4 j hj]; exact hv
    · rw [hc.bel.cell (p := ⟨ls[k].g, j, none⟩) hglt]; exact hv

/-- what stands behind grow(hi): all that follows -/
structure Tail (S : Nat) (w4 : World) (lo hi : Int) (ao : Option Addr) (cap : Nat) (ls : List Lv) : Prop where
  set : SetAt S w4 ao cap ls
  gd : Gd (lens ls)
  bd : ∀ x ∈ (lens ls).head?, x ≤ 1025
  hd : (hi / 64).toNat + 1 ≤ (lens ls)[0]!
  lo0 : 0 ≤ lo
  lohi : lo ≤ hi
  hi1 : hi ≤ 65536

theorem Tail.noop {S : Nat} {w4 w5 : World} {lo hi : Int} {ao : Option Addr} {cap : Nat} {ls : List Lv} (h : Tail S w4 lo hi ao cap ls) (hb : Below w4.heap.size w4 w5) (i : Int) (hi1 : 0 ≤ i) (hi2 : i ≤ hi) :
    Calls Try.prog 27 #[.pointer (some ⟨S, 0, none⟩), .int .i64 i] w5 fun e w' => e = .returned (.tuple #[]) ∧ w' = w5 := by
  have hS : S < w4.heap.size := lt_of_heap h.set.box
  have h1 := h.hd
  have h2 := h.hi1
  exact zzgrow_noop S w5 ao cap ls i (h.set.uk (uk_of_below hb (by omega))) h.gd hi1 (by omega) (lens_bd h.gd h.bd).1 (by omega)

theorem opsAt_alloc {w : World} {a : Option Addr} {n : Nat} {zs : List Int} (h : OpsAt w w.heap.size a n zs) (o : Obj) : OpsAt (w.alloc o) w.heap.size a n zs := by
  rcases h with h | ⟨b, off, h1, h2, h3⟩
  · exact .inl h
  · refine .inr ⟨b, off, h1, h2, fun k hk => ?_⟩
    rw [((Below.refl w.heap.size w).alloc (Nat.le_refl _) o).cell (p := ⟨b, off + k, none⟩) h2]
    exact h3 k hk

theorem inv_new (w : World) : Inv w.heap.size (w.alloc (.cells #[.slice none 0 0] 28)) (w.alloc (.cells #[.slice none 0 0] 28)) :=
  ⟨none, 0, [], ⟨heap_alloc_new w _, World.ownsRow_nil _ _ _ _, fun l hl => by simp at hl⟩, .inl rfl, fun x hx => by simp [lens] at hx, Below.refl _ _⟩

theorem inv_self {S : Nat} {w w' : World} (h : Inv S w w') : Inv S w' w' := by
  obtain ⟨ao, cap, ls, h1, h2, h3, _⟩ := h
  exact ⟨ao, cap, ls, h1, h2, h3, Below.refl _ _⟩

theorem inv_below {S : Nat} {w w' : World} (h : Inv S w w') : Below S w w' := by
  obtain ⟨_, _, _, _, _, _, h4⟩ := h
  exact h4

theorem grew_tail {S : Nat} {w w' : World} {lo hi : Int} (h : Grew S w w' ((hi / 64).toNat + 1)) (h0 : 0 ≤ lo) (h1 : lo ≤ hi) (h2 : hi ≤ 65536) : (∃ ao cap ls, Tail S w' lo hi ao cap ls) ∧ Below S w w' := by
  obtain ⟨ao, cap, ls, q1, q2, q3, q4⟩ := h
  refine ⟨⟨ao, cap, ls, q1, q2, fun x hx => (q3 x hx).2, ?_, h0, h1, h2⟩, q4⟩
  have hpos : 0 < ls.length := by
    cases ls with
    | nil => simp [lens, Gd] at q2
    | cons a r => simp
  have := (q3 ls[0].n (by rw [List.head?_eq_getElem?]; simp [lens, hpos])).1
  rw [lens_get ls 0 hpos]
  exact this

set_option maxRecDepth 10000 in
set_option maxHeartbeats 1000000 in
theorem walk_main (a : Option Addr) (n c : Nat) (zs : List Int) (i j : Int) (w : World) (hn : n ≤ 131072) (hops : OpsAt w w.heap.size a n zs) (hnil : a = none → n = 0) (hlo : ∀ k, k < n → -9223372036854775808 ≤ zs.getD k 0)
    (hi0 : 0 ≤ i) (hi1 : i ≤ 65536) (hj0 : 0 ≤ j) (hj1 : j ≤ 65536) :
    Calls Try.prog 9 #[.slice a n c, .int .i64 i, .int .i64 j] w fun e w' => e = .returned (.bool true) ∧ Below w.heap.size w w' := by
  have KZ : Hid _ := zzBytes_any a n c i j w (by unfold maxLen; omega)
  have KK : Hid _ := keysOK_any w.heap.size a n c zs w (by omega) hops
  have KC : Hid _ := cloneInts_any a n c zs w (by omega) hops hnil
  have HLO : Hid _ := hlo
  clear hops hnil hlo
  go_enter Try.func9, Try.ntmps9
  go_wp2_with fail
  refine Calls.mono KZ.out ?_
  rintro e w0 ⟨⟨b, rfl, _⟩, rfl⟩
  clear KZ
  cases b
  · go_wp2
    go_ret
    exact ⟨rfl, Below.refl _ _⟩
  · go_wp2_with fail
    refine Calls.mono KK.out ?_
    rintro e w0 ⟨⟨b, rfl, hk⟩, rfl⟩
    clear KK
    cases b
    · clear hk
      go_wp2
      go_ret
      exact ⟨rfl, Below.refl _ _⟩
    · have HK : Hid _ := hk rfl
      clear hk
      go_wp2_with fail
      refine Calls.mono KC.out ?_
      rintro e w1 ⟨⟨a', c', rfl, hops1⟩, hb1⟩
      clear KC
      have HINV : Hid _ := inv_new w1
      have HRS : Hid _ := runScript_any w1.heap.size a' n c' zs (w1.alloc (.cells #[.slice none 0 0] 28)) (by omega) (opsAt_alloc hops1 _) (inv_new w1) HK.out HLO.out
      have HB1 : Hid _ := hb1.alloc (by have := hb1.size; omega) (.cells #[.slice none 0 0] 28)
      have hsz : w0.heap.size ≤ w1.heap.size := hb1.size
      clear hops1 hb1 HK HLO HINV
      by_cases hij : i ≤ j
      · go_wp2_with fail
        refine Calls.mono HRS.out ?_
        rintro e w3 ⟨rfl, hv3⟩
        clear HRS
        have HB3 : Hid _ := HB1.out.trans ((inv_below hv3).mono hsz)
        have HG : Hid _ := zzgrow_any w1.heap.size w3 j (inv_self hv3) (by omega) (by omega)
        clear hv3 HB1
        go_wp2_with fail
        refine Calls.mono HG.out ?_
        rintro e w4 ⟨rfl, hg4⟩
        clear HG
        obtain ⟨⟨ao, cap, ls, ht⟩, hb4⟩ := grew_tail hg4 (lo := i) (by omega) (by omega) (by omega)
        have HB4 : Hid _ := HB3.out.trans (hb4.mono hsz)
        have HT : Hid _ := ht
        have HLV : Hid _ := levels_any w1.heap.size w4 _ ht.set.cellS ⟨_, _, _, rfl⟩
        have HCL : Hid _ := cloneLevels_any w1.heap.size w4 ao cap ls ht.set ht.gd ht.bd
        have hsz4 : w0.heap.size ≤ w4.heap.size := by have := lt_of_heap ht.set.box; omega
        clear hg4 hb4 ht HB3
        go_wp2_with fail
        refine Calls.mono HLV.out ?_
        rintro e w4' ⟨rfl, rfl⟩
        clear HLV
        go_wp2_with fail
        refine Calls.mono HCL.out ?_
        rintro e w5 ⟨rfl, hcl⟩
        clear HCL
        have hpos := (lens_bd HT.out.gd HT.out.bd).2.2
        obtain ⟨G, rfl, _, _, _, _⟩ := HT.out.set.at hpos
        have HB5 : Hid _ := HB4.out.trans (hcl.bel.mono hsz4)
        have HN1 : Hid _ := HT.out.noop hcl.bel i (by omega) (by omega)
        have HN2 : Hid _ := HT.out.noop hcl.bel j (by omega) (by omega)
        have hS : w1.heap.size < w4'.heap.size := lt_of_heap HT.out.set.box
        have HLV2 : Hid _ := levels_any w1.heap.size w5 _ (HT.out.set.uk (uk_of_below hcl.bel (by omega))).cellS ⟨_, _, _, rfl⟩
        have HSM : Hid _ := sameLevels_any w5 w4'.heap.size G cap ls (same_of_clone HT.out.set hcl) (lens_bd HT.out.gd HT.out.bd).1 (lens_bd HT.out.gd HT.out.bd).2.1
        clear hcl hpos hS HT HB4
        go_wp2_with fail
        refine Calls.mono HN1.out ?_
        rintro e w6 ⟨rfl, rfl⟩
        clear HN1
        go_wp2_with fail
        refine Calls.mono HN2.out ?_
        rintro e w7 ⟨rfl, rfl⟩
        clear HN2
        go_wp2_with fail
        refine Calls.mono HLV2.out ?_
        rintro e w8 ⟨rfl, rfl⟩
        clear HLV2
        go_wp2_with fail
        refine Calls.mono HSM.out ?_
        rintro e w9 ⟨rfl, hd⟩
        clear HSM
        have HB9 : Hid _ := HB5.out.trans (hd.below _)
        clear hd HB5
        go_wp2
        go_ret
        exact ⟨rfl, HB9.out⟩
      · go_wp2_with fail
        refine Calls.mono HRS.out ?_
        rintro e w3 ⟨rfl, hv3⟩
        clear HRS
        have HB3 : Hid _ := HB1.out.trans ((inv_below hv3).mono hsz)
        have HG : Hid _ := zzgrow_any w1.heap.size w3 i (inv_self hv3) (by omega) (by omega)
        clear hv3 HB1
        go_wp2_with fail
        refine Calls.mono HG.out ?_
        rintro e w4 ⟨rfl, hg4⟩
        clear HG
        obtain ⟨⟨ao, cap, ls, ht⟩, hb4⟩ := grew_tail hg4 (lo := j) (by omega) (by omega) (by omega)
        have HB4 : Hid _ := HB3.out.trans (hb4.mono hsz)
        have HT : Hid _ := ht
        have HLV : Hid _ := levels_any w1.heap.size w4 _ ht.set.cellS ⟨_, _, _, rfl⟩
        have HCL : Hid _ := cloneLevels_any w1.heap.size w4 ao cap ls ht.set ht.gd ht.bd
        have hsz4 : w0.heap.size ≤ w4.heap.size := by have := lt_of_heap ht.set.box; omega
        clear hg4 hb4 ht HB3
        go_wp2_with fail
        refine Calls.mono HLV.out ?_
        rintro e w4' ⟨rfl, rfl⟩
        clear HLV
        go_wp2_with fail
        refine Calls.mono HCL.out ?_
        rintro e w5 ⟨rfl, hcl⟩
        clear HCL
        have hpos := (lens_bd HT.out.gd HT.out.bd).2.2
        obtain ⟨G, rfl, _, _, _, _⟩ := HT.out.set.at hpos
        have HB5 : Hid _ := HB4.out.trans (hcl.bel.mono hsz4)
        have HN1 : Hid _ := HT.out.noop hcl.bel j (by omega) (by omega)
        have HN2 : Hid _ := HT.out.noop hcl.bel i (by omega) (by omega)
        have hS : w1.heap.size < w4'.heap.size := lt_of_heap HT.out.set.box
        have HLV2 : Hid _ := levels_any w1.heap.size w5 _ (HT.out.set.uk (uk_of_below hcl.bel (by omega))).cellS ⟨_, _, _, rfl⟩
        have HSM : Hid _ := sameLevels_any w5 w4'.heap.size G cap ls (same_of_clone HT.out.set hcl) (lens_bd HT.out.gd HT.out.bd).1 (lens_bd HT.out.gd HT.out.bd).2.1
        clear hcl hpos hS HT HB4
        go_wp2_with fail
        refine Calls.mono HN1.out ?_
        rintro e w6 ⟨rfl, rfl⟩
        clear HN1
        go_wp2_with fail
        refine Calls.mono HN2.out ?_
        rintro e w7 ⟨rfl, rfl⟩
        clear HN2
        go_wp2_with fail
        refine Calls.mono HLV2.out ?_
        rintro e w8 ⟨rfl, rfl⟩
        clear HLV2
        go_wp2_with fail
        refine Calls.mono HSM.out ?_
        rintro e w9 ⟨rfl, hd⟩
        clear HSM
        have HB9 : Hid _ := HB5.out.trans (hd.below _)
        clear hd HB5
        go_wp2
        go_ret
        exact ⟨rfl, HB9.out⟩

end Go.Proofs.Qxb6000573a
