/- 'shiftLow' computes 'Plain.shiftLow' on the encoder in memory. -/
import Derived.Test.Qxb6001347aCoder
import Derived.Test.Qxb6001347aRows
import Derived.WalkKit
import Derived.WalkSpells
import Derived.WalkLawsBesides
import Derived.Deep.AppendLies
import Derived.Deep.LoopGhost
import Derived.Deep.DeepCutAuto
namespace Go.Proofs.Qxb6001347a
open Go.RowKit Plain

/-- a list of bytes as cells -/
def bv (l : List Nat) : List Value := l.map fun (b : Nat) => Value.int .u8 ((b : Nat) : Int)

/-- THE ENCODER at block S -/
structure EncAt (S : Nat) (w : World) (e : E) (v : Value) : Prop where
  box : w.heap[S]? = some (.cells #[.int .u64 (e.low : Int), .int .u32 (e.rng : Int), .int .u8 (e.cache : Int), .int .i64 (e.cs : Int), v] 42 (0, 0))
  row : w.ownsRow S 5 1 v e.out.length (bv e.out)

theorem EncAt.cells {S : Nat} {w : World} {e : E} {v : Value} (h : EncAt S w e v) :
    w.cell? ⟨S, 0, none⟩ = some (.int .u64 (e.low : Int)) ∧ w.cell? ⟨S, 1, none⟩ = some (.int .u32 (e.rng : Int)) ∧ w.cell? ⟨S, 2, none⟩ = some (.int .u8 (e.cache : Int)) ∧ w.cell? ⟨S, 3, none⟩ = some (.int .i64 (e.cs : Int)) ∧ w.cell? ⟨S, 4, none⟩ = some v := by
  refine ⟨?_, ?_, ?_, ?_, ?_⟩ <;> rw [cell_of_row w S _ _ 42 (0, 0) h.box] <;> rfl

theorem EncAt.free {S : Nat} {w : World} {e : E} {v : Value} (h : EncAt S w e v) (j : Nat) : w.frozen? ⟨S, j, none⟩ = false := by
  simp [World.frozen?, h.box]

/-- the loop's bytes: the first j of the pending ones -/
theorem pend_step (A B cs c : Nat) (h1 : 1 ≤ c) (h2 : c ≤ cs) : (pendL A B cs).take (cs - (c - 1)) = (pendL A B cs).take (cs - c) ++ [if c = cs then A else B] := by
  have e : cs - (c - 1) = (cs - c) + 1 := by omega
  have hl := pendL_len A B cs
  rw [e, List.take_succ_eq_append_getElem (by omega)]
  congr 2
  obtain ⟨d, rfl⟩ : ∃ d, cs = d + 1 := ⟨cs - 1, by omega⟩
  simp only [pendL]
  by_cases hc : c = d + 1
  · subst hc
    simp
  · rw [if_neg hc]
    obtain ⟨f, hf⟩ : ∃ f, d + 1 - c = f + 1 := ⟨d - c, by omega⟩
    simp only [hf, List.getElem_cons_succ, List.getElem_replicate]

theorem info5 : (Try.prog.info? 5).map (fun i => (i.zero, i.size, i.bytes)) = some (some (.int .u8 0), 1, 1) := by kernel_rfl

theorem heap_setCell_same {w : World} {g j : Nat} {cur : Array Value} {t : TypeId} {fr : Nat × Nat} {v : Value} (h : w.heap[g]? = some (.cells cur t fr)) :
    (w.setCell ⟨g, j, none⟩ v).heap[g]? = some (.cells (cur.setIfInBounds j v) t fr) := by
  simp [World.setCell, Array.getElem?_modify, h]

theorem lt_of_heap {w : World} {k : Nat} {o : Obj} (h : w.heap[k]? = some o) : k < w.heap.size := (Array.getElem?_eq_some_iff.1 h).1

theorem ownsRow_same {w w' : World} {S : Nat} {e : TypeId} {v : Value} {n : Nat} {xs : List Value} (h : w.ownsRow S e 1 v n xs)
    (hb : ∀ (k : Nat) (cur : Array Value), w.heap[k]? = some (Obj.cells cur e (0, 0)) → w'.heap[k]? = some (Obj.cells cur e (0, 0))) : w'.ownsRow S e 1 v n xs := by
  refine ⟨h.1, ?_⟩
  rcases h.2 with hn | ⟨g, cap, cur, h1, h2, h3, h4⟩
  · exact .inl hn
  · exact .inr ⟨g, cap, cur, h1, h2, hb g cur h3, h4⟩

/-- an encoder told by its five cells -/
structure Box (S : Nat) (w : World) (lo rg ca cz v : Value) (out : List Nat) (u : Value) : Prop where
  box : w.heap[S]? = some (.cells #[lo, rg, ca, cz, v] 42 (0, 0))
  row : w.ownsRow S 5 1 u out.length (bv out)

theorem Box.set {S : Nat} {w : World} {lo rg ca cz v u : Value} {out : List Nat} (h : Box S w lo rg ca cz v out u) (x : Value) :
    Box S (w.setCell ⟨S, 0, none⟩ x) x rg ca cz v out u ∧ Box S (w.setCell ⟨S, 1, none⟩ x) lo x ca cz v out u ∧ Box S (w.setCell ⟨S, 2, none⟩ x) lo rg x cz v out u ∧ Box S (w.setCell ⟨S, 3, none⟩ x) lo rg ca x v out u ∧ Box S (w.setCell ⟨S, 4, none⟩ x) lo rg ca cz x out u := by
  have row : ∀ j, (w.setCell ⟨S, j, none⟩ x).ownsRow S 5 1 u out.length (bv out) := fun j => ownsRow_same h.row (fun k cur q => by
    have hne : k ≠ S := fun e => by rw [e, h.box] at q; simp at q
    rw [Below.heap_setCell _ _ _ _ hne]; exact q)
  refine ⟨⟨?_, row 0⟩, ⟨?_, row 1⟩, ⟨?_, row 2⟩, ⟨?_, row 3⟩, ⟨?_, row 4⟩⟩ <;> rw [heap_setCell_same h.box] <;> rfl

theorem Box.cells {S : Nat} {w : World} {lo rg ca cz v u : Value} {out : List Nat} (h : Box S w lo rg ca cz v out u) :
    w.cell? ⟨S, 0, none⟩ = some lo ∧ w.cell? ⟨S, 1, none⟩ = some rg ∧ w.cell? ⟨S, 2, none⟩ = some ca ∧ w.cell? ⟨S, 3, none⟩ = some cz ∧ w.cell? ⟨S, 4, none⟩ = some v := by
  refine ⟨?_, ?_, ?_, ?_, ?_⟩ <;> rw [cell_of_row w S _ _ 42 (0, 0) h.box] <;> rfl

theorem Box.free {S : Nat} {w : World} {lo rg ca cz v u : Value} {out : List Nat} (h : Box S w lo rg ca cz v out u) (j : Nat) : w.frozen? ⟨S, j, none⟩ = false := by
  simp [World.frozen?, h.box]

theorem EncAt.toBox {S : Nat} {w : World} {e : E} {v : Value} (h : EncAt S w e v) : Box S w (.int .u64 (e.low : Int)) (.int .u32 (e.rng : Int)) (.int .u8 (e.cache : Int)) (.int .i64 (e.cs : Int)) v e.out v := ⟨h.box, h.row⟩

/-- 'e.out = append(e.out, b)': the append -/
theorem wpList_push {ops : Array Oper} {rest : List Oper} {o : Oper} {a : Act} {Q : Exit → Act → World → Prop} {wx : World} (hgd : o.guard = none) (s x : Operand)
    (ho : o.op = .call { callee := .builtin .append, args := #[s, x], argTypes := #[22, 22] }) (S : Nat) (lo rg ca cz v : Value) (out : List Nat) (h : Box S wx lo rg ca cz v out v) (hlen : out.length ≤ 3000)
    (hs : a.eval s = v) (B b : Nat) (hx : a.eval x = .slice (some ⟨B, 0, none⟩) 1 1) (hbox : wx.heap[B]? = some (.cells #[.int .u8 (b : Int)] 5 (0, 0)))
    (hk : ∀ G' cap' w2, Hid (Box S w2 lo rg ca cz v (out ++ [b]) (.slice (some ⟨G', 0, none⟩) (out.length + 1) cap') ∧ Below S wx w2) → w2.cell? ⟨S, 3, none⟩ = some cz → w2.cell? ⟨S, 4, none⟩ = some v → w2.frozen? ⟨S, 3, none⟩ = false → w2.frozen? ⟨S, 4, none⟩ = false →
      wpList Try.prog ops Q rest (a.put o.dst (.slice (some ⟨G', 0, none⟩) (out.length + 1) cap')) w2) : wpList Try.prog ops Q (o :: rest) a wx := by
  obtain ⟨i0, hi0, hz0, hz1, hz2⟩ := info_parts info5
  have hSlt : S < wx.heap.size := lt_of_heap h.box
  refine wpList_append_lies wx hgd s x 22 ho S 5 i0 (.int .u8 0) 1 1 Try.underlying22 hi0 hz0 hz1 hz2 rfl (by omega) v out.length (bv out) hs h.row ⟨B, 0, none⟩ 1 1 [.int .u8 (b : Int)] hx rfl
    (World.news_of_block hbox) (by intro u hu; simp at hu; subst hu; rfl) (by omega) (by unfold maxLen; omega) (by omega) (by omega) wx.heap.size rfl ?_
  intro G' cap' w2 hown hgrow hat hlt
  have hne : some S ≠ v.ownBlock := by
    intro e
    rcases h.row.2 with ⟨h', _⟩ | ⟨g', cap'', cur', h', _, hg', _⟩
    · rw [h'] at e; simp [Value.ownBlock] at e
    · rw [h'] at e
      simp only [Value.ownBlock, Option.some.injEq] at e
      subst e
      rw [h.box] at hg'
      simp at hg'
  have hb2 : w2.heap[S]? = some (.cells #[lo, rg, ca, cz, v] 42 (0, 0)) := by rw [hgrow.block S hSlt hne]; exact h.box
  have B2 : Box S w2 lo rg ca cz v (out ++ [b]) (.slice (some ⟨G', 0, none⟩) (out.length + 1) cap') := ⟨hb2, by
    have e : bv (out ++ [b]) = bv out ++ [.int .u8 (b : Int)] := by simp [bv]
    rw [e, List.length_append]
    exact hown⟩
  refine hk G' cap' w2 ⟨B2, ?_⟩ B2.cells.2.2.2.1 B2.cells.2.2.2.2 (B2.free 3) (B2.free 4)
  exact (Below.refl S wx).grown hgrow (by omega) (fun k hk => (h.row.lt k hk).1)

theorem Box.alloc {S : Nat} {w : World} {lo rg ca cz v u : Value} {out : List Nat} (h : Box S w lo rg ca cz v out u) (o : Obj) : Box S (w.alloc o) lo rg ca cz v out u :=
  ⟨by rw [Below.heap_alloc _ _ _ (lt_of_heap h.box)]; exact h.box, h.row.alloc o⟩

/-- behind a call: the encoder's state is e' -/
def Now (S : Nat) (w : World) (e' : E) (w' : World) : Prop := ∃ v', EncAt S w' e' v' ∧ Below S w w'

/-- the loop at its head: g bytes are still to be let out -/
def FlRel (S : Nat) (w : World) (low rng cache cs car : Nat) (out : List Nat) (g : Nat) (u : Value) (wr : World) : Prop :=
  Box S wr (.int .u64 (low : Int)) (.int .u32 (rng : Int)) (.int .u8 (cache : Int)) (.int .i64 (g : Int)) u (out ++ (pendL (cache + car) ((255 + car) % 256) cs).take (cs - g)) u ∧ Below S w wr

theorem and_u64_nat (a b : Nat) (ha : a < 18446744073709551616) (hb : b < 18446744073709551616) : bits .and .u64 (a : Int) (b : Int) = ((a &&& b : Nat) : Int) := by
  have hx : a &&& b ≤ a := Nat.and_le_left
  have h1 : (BitVec.ofInt 64 (a : Int)).toNat = a := by
    rw [BitVec.ofInt_natCast, BitVec.toNat_ofNat]; exact Nat.mod_eq_of_lt (by omega)
  have h2 : (BitVec.ofInt 64 (b : Int)).toNat = b := by
    rw [BitVec.ofInt_natCast, BitVec.toNat_ofNat]; exact Nat.mod_eq_of_lt (by omega)
  show IntKind.u64.wrap ((BitVec.ofInt 64 (a : Int) &&& BitVec.ofInt 64 (b : Int)).toNat : Int) = _
  rw [BitVec.toNat_and, h1, h2, IntKind.wrap_u64]
  omega

theorem low_next (low : Nat) (h : low < 8589934592) : IntKind.u64.wrap (bits BinOp.and IntKind.u64 (low : Int) 16777215 * 256) = ((low % 16777216 * 256 : Nat) : Int) := by
  have e : bits BinOp.and IntKind.u64 (low : Int) ((16777215 : Nat) : Int) = ((low &&& 16777215 : Nat) : Int) := and_u64_nat low 16777215 (by omega) (by omega)
  have e2 : low &&& 16777215 = low % 16777216 := Nat.and_two_pow_sub_one_eq_mod low 24
  rw [e2] at e
  have e3 : bits BinOp.and IntKind.u64 (low : Int) 16777215 = ((low % 16777216 : Nat) : Int) := e
  rw [e3, IntKind.wrap_u64]
  omega

/-- the loop is left -/
theorem fl_end {S : Nat} {w : World} {low rng cache cs car : Nat} {out : List Nat} {u : Value} {wr : World} (h : FlRel S w low rng cache cs car out 0 u wr) (hl : low < 8589934592) :
    Now S w ⟨low % 16777216 * 256, rng, low / 16777216 % 256, 1, out ++ pendL (cache + car) ((255 + car) % 256) cs⟩
      (((wr.setCell ⟨S, 2, none⟩ (.int .u8 ((low : Int) / 16777216 % 256))).setCell ⟨S, 3, none⟩ (.int .i64 1)).setCell ⟨S, 0, none⟩ (.int .u64 (IntKind.u64.wrap (bits BinOp.and IntKind.u64 (low : Int) 16777215 * 256)))) := by
  obtain ⟨hb, hbel⟩ := h
  rw [low_next low hl]
  have b1 := (hb.set (.int .u8 ((low : Int) / 16777216 % 256))).2.2.1
  have b2 := (b1.set (.int .i64 1)).2.2.2.1
  have b3 := (b2.set (.int .u64 ((low % 16777216 * 256 : Nat) : Int))).1
  have e : out ++ (pendL (cache + car) ((255 + car) % 256) cs).take (cs - 0) = out ++ pendL (cache + car) ((255 + car) % 256) cs := by
    rw [List.take_of_length_le (by rw [pendL_len]; omega)]
  rw [e] at b3
  have e4 : (low : Int) / 16777216 % 256 = ((low / 16777216 % 256 : Nat) : Int) := by omega
  rw [e4] at b3 ⊢
  exact ⟨u, ⟨b3.box, b3.row⟩, ((hbel.setCell (Nat.le_refl S) _).setCell (Nat.le_refl S) _).setCell (Nat.le_refl S) _⟩

/-- one byte let out -/
theorem fl_step {S : Nat} {w : World} {low rng cache cs car : Nat} {out ol : List Nat} {u : Value} {wr w2 : World} {f b G' cap' : Nat} (hf : f + 1 ≤ cs) (hbel : Below S w wr)
    (hol : out ++ (pendL (cache + car) ((255 + car) % 256) cs).take (cs - (f + 1)) = ol) (hb : b = if f + 1 = cs then cache + car else (255 + car) % 256)
    (h : Box S w2 (.int .u64 (low : Int)) (.int .u32 (rng : Int)) (.int .u8 (cache : Int)) (.int .i64 ((f + 1 : Nat) : Int)) u (ol ++ [b]) (.slice (some ⟨G', 0, none⟩) (ol.length + 1) cap')) (h2 : Below S wr w2) :
    FlRel S w low rng cache cs car out f (.slice (some ⟨G', 0, none⟩) (ol.length + 1) cap') ((w2.setCell ⟨S, 4, none⟩ (.slice (some ⟨G', 0, none⟩) (ol.length + 1) cap')).setCell ⟨S, 3, none⟩ (.int .i64 (f : Int))) := by
  have b1 := (h.set (.slice (some ⟨G', 0, none⟩) (ol.length + 1) cap')).2.2.2.2
  have b2 := (b1.set (.int .i64 (f : Int))).2.2.2.1
  have e := pend_step (cache + car) ((255 + car) % 256) cs (f + 1) (by omega) hf
  have e2 : out ++ (pendL (cache + car) ((255 + car) % 256) cs).take (cs - f) = ol ++ [b] := by
    rw [← hol, hb, List.append_assoc]
    congr 1
  refine ⟨?_, ((hbel.trans h2).setCell (Nat.le_refl S) _).setCell (Nat.le_refl S) _⟩
  rw [e2]
  exact b2

set_option maxRecDepth 10000 in
set_option maxHeartbeats 1000000 in
theorem flush_loop (S : Nat) (w : World) (low rng cache cs : Nat) (out : List Nat) (v : Value) (car : Nat) (h : EncAt S w ⟨low, rng, cache, cs, out⟩ v) (hcs : cs ≤ 1000) (hol : out.length ≤ 1000) (hc : cache + car < 256) (hlow : low / 4294967296 = car) (hl : low < 8589934592)
    (hfl : low < 4278190080 ∨ (4294967296 ≤ low ∧ low < 8573157376) ∨ 8573157376 ≤ low) :
    Calls Try.prog 22 #[.pointer (some ⟨S, 0, none⟩)] w fun en w' => en = .returned (.tuple #[]) ∧ Now S w ⟨low % 16777216 * 256, rng, low / 16777216 % 256, 1, out ++ pendL (cache + car) ((255 + car) % 256) cs⟩ w' := by
  have hB0 := h.toBox
  simp only at hB0
  obtain ⟨c0, c1, c2, c3, c4⟩ := hB0.cells
  have hk : (low : Int) / 4294967296 = (car : Int) := by omega
  have HB : Hid _ := hB0
  clear h hB0
  have hlI : (low : Int) < 8589934592 := by omega
  have HLN : Hid _ := hlow
  have HL2 : Hid _ := hl
  have HFL : Hid _ := hfl
  have hcI : (cache : Int) + (car : Int) < 256 := by omega
  clear hlow hl
  rcases hfl with hfl | ⟨hfl, hfl2⟩ | hfl
  · have hf : (low : Int) < 4278190080 := by omega
    clear hfl
    go_enter Try.func22, Try.ntmps22
    go_wp2
    go_loopg [3] cs (fun g t wr => ∃ (u : Value) (tm : Nat), g ≤ cs ∧ t = .int .u8 (tm : Int) ∧ tm = (if g = cs then cache else 255) ∧ FlRel S w low rng cache cs car out g u wr)
    case atStart => exact ⟨v, cache, Nat.le_refl _, rfl, by rw [if_pos rfl], by simpa [FlRel] using HB.out, Below.refl _ _⟩
    case round =>
      have HCI : Hid _ := hcI
      clear HB c0 c1 c2 c3 c4 hk hlI hcI hf hc
      obtain ⟨u, tm, hg, rfl, htm, hfr⟩ := hrel
      have HT : Hid _ := htm
      have HFR : Hid _ := hfr
      obtain ⟨hbx, hbel⟩ := hfr
      obtain ⟨c0, c1, c2, c3, c4⟩ := hbx.cells
      have f0 := hbx.free 0
      have f2 := hbx.free 2
      have f3 := hbx.free 3
      have HB : Hid _ := hbx
      have HBEL : Hid _ := hbel
      clear hbx hbel htm
      by_cases h0 : gk = 0
      · subst h0
        go_wp2
        go_end0
        exact ⟨rfl, fl_end HFR.out HL2.out⟩
      · obtain ⟨f, rfl⟩ : ∃ f, gk = f + 1 := ⟨gk - 1, by omega⟩
        obtain ⟨b, hb⟩ : ∃ b : Nat, b = (if f + 1 = cs then cache + car else (255 + car) % 256) := ⟨_, rfl⟩
        obtain ⟨ol, hol2⟩ : ∃ ol, out ++ (pendL (cache + car) ((255 + car) % 256) cs).take (cs - (f + 1)) = ol := ⟨_, rfl⟩
        have hbw : IntKind.u8.wrap ((tm : Int) + (car : Int)) = (b : Int) := by
          rw [IntKind.wrap_u8, hb, HT.out]
          have := HCI.out
          split <;> omega
        have HBB : Hid _ := hb
        have hlen : ol.length ≤ 3000 := by
          have := pendL_len (cache + car) ((255 + car) % 256) cs
          rw [← hol2]
          simp
          omega
        have hb2 := HB.out
        rw [hol2] at hb2
        have HA : Hid (∀ o, Box S (wr.alloc o) (.int .u64 (low : Int)) (.int .u32 (rng : Int)) (.int .u8 (cache : Int)) (.int .i64 ((f + 1 : Nat) : Int)) u ol u) := fun o => hb2.alloc o
        have HAL : Hid (Below S wr (wr.alloc (.cells #[.int .u8 (b : Int)] 5))) := (Below.refl S wr).alloc (Nat.le_of_lt (lt_of_heap hb2.box)) _
        have HNB : Hid ((wr.alloc (.cells #[.int .u8 (b : Int)] 5)).heap[wr.heap.size]? = some (.cells #[.int .u8 (b : Int)] 5)) := heap_alloc_new wr _
        have HLEN : Hid _ := hlen
        have HOL : Hid _ := hol2
        clear hb hlen h0 hb2 hol2
        go_wp2_with (at_builtin; refine wpList_push rfl _ _ rfl S _ _ _ _ u ol (HA.out _) HLEN.out rfl wr.heap.size b rfl HNB.out ?_; intro G' cap' w2 F2 q3 q4 r3 r4)
        go_roundg f
        case measure => omega
        case rel => exact ⟨_, 255, by omega, rfl, by rw [if_neg (by omega)], fl_step hg HBEL.out HOL.out HBB.out F2.out.1 (HAL.out.trans F2.out.2)⟩
  · have hf : (low : Int) - 4294967296 < 4278190080 := by omega
    have t1 : IntKind.u32.wrap (low : Int) = (low : Int) - 4294967296 := by rw [IntKind.wrap_u32]; omega
    clear hfl hfl2
    go_enter Try.func22, Try.ntmps22
    go_wp2
    go_loopg [3] cs (fun g t wr => ∃ (u : Value) (tm : Nat), g ≤ cs ∧ t = .int .u8 (tm : Int) ∧ tm = (if g = cs then cache else 255) ∧ FlRel S w low rng cache cs car out g u wr)
    case atStart => exact ⟨v, cache, Nat.le_refl _, rfl, by rw [if_pos rfl], by simpa [FlRel] using HB.out, Below.refl _ _⟩
    case round =>
      have HCI : Hid _ := hcI
      clear HB c0 c1 c2 c3 c4 hk hlI hcI hf t1 hc
      obtain ⟨u, tm, hg, rfl, htm, hfr⟩ := hrel
      have HT : Hid _ := htm
      have HFR : Hid _ := hfr
      obtain ⟨hbx, hbel⟩ := hfr
      obtain ⟨c0, c1, c2, c3, c4⟩ := hbx.cells
      have f0 := hbx.free 0
      have f2 := hbx.free 2
      have f3 := hbx.free 3
      have HB : Hid _ := hbx
      have HBEL : Hid _ := hbel
      clear hbx hbel htm
      by_cases h0 : gk = 0
      · subst h0
        go_wp2
        go_end0
        exact ⟨rfl, fl_end HFR.out HL2.out⟩
      · obtain ⟨f, rfl⟩ : ∃ f, gk = f + 1 := ⟨gk - 1, by omega⟩
        obtain ⟨b, hb⟩ : ∃ b : Nat, b = (if f + 1 = cs then cache + car else (255 + car) % 256) := ⟨_, rfl⟩
        obtain ⟨ol, hol2⟩ : ∃ ol, out ++ (pendL (cache + car) ((255 + car) % 256) cs).take (cs - (f + 1)) = ol := ⟨_, rfl⟩
        have hbw : IntKind.u8.wrap ((tm : Int) + (car : Int)) = (b : Int) := by
          rw [IntKind.wrap_u8, hb, HT.out]
          have := HCI.out
          split <;> omega
        have HBB : Hid _ := hb
        have hlen : ol.length ≤ 3000 := by
          have := pendL_len (cache + car) ((255 + car) % 256) cs
          rw [← hol2]
          simp
          omega
        have hb2 := HB.out
        rw [hol2] at hb2
        have HA : Hid (∀ o, Box S (wr.alloc o) (.int .u64 (low : Int)) (.int .u32 (rng : Int)) (.int .u8 (cache : Int)) (.int .i64 ((f + 1 : Nat) : Int)) u ol u) := fun o => hb2.alloc o
        have HAL : Hid (Below S wr (wr.alloc (.cells #[.int .u8 (b : Int)] 5))) := (Below.refl S wr).alloc (Nat.le_of_lt (lt_of_heap hb2.box)) _
        have HNB : Hid ((wr.alloc (.cells #[.int .u8 (b : Int)] 5)).heap[wr.heap.size]? = some (.cells #[.int .u8 (b : Int)] 5)) := heap_alloc_new wr _
        have HLEN : Hid _ := hlen
        have HOL : Hid _ := hol2
        clear hb hlen h0 hb2 hol2
        go_wp2_with (at_builtin; refine wpList_push rfl _ _ rfl S _ _ _ _ u ol (HA.out _) HLEN.out rfl wr.heap.size b rfl HNB.out ?_; intro G' cap' w2 F2 q3 q4 r3 r4)
        go_roundg f
        case measure => omega
        case rel => exact ⟨_, 255, by omega, rfl, by rw [if_neg (by omega)], fl_step hg HBEL.out HOL.out HBB.out F2.out.1 (HAL.out.trans F2.out.2)⟩
  · have hf : decide ((low : Int) - 4294967296 < 4278190080) = false := by rw [decide_eq_false_iff_not]; omega
    have t1 : IntKind.u32.wrap (low : Int) = (low : Int) - 4294967296 := by rw [IntKind.wrap_u32]; omega
    have t2 : ((car : Int) != 0) = true := by
      have := HLN.out
      simp
      omega
    clear hfl
    go_enter Try.func22, Try.ntmps22
    go_wp2
    go_loopg [3] cs (fun g t wr => ∃ (u : Value) (tm : Nat), g ≤ cs ∧ t = .int .u8 (tm : Int) ∧ tm = (if g = cs then cache else 255) ∧ FlRel S w low rng cache cs car out g u wr)
    case atStart => exact ⟨v, cache, Nat.le_refl _, rfl, by rw [if_pos rfl], by simpa [FlRel] using HB.out, Below.refl _ _⟩
    case round =>
      have HCI : Hid _ := hcI
      clear HB c0 c1 c2 c3 c4 hk hlI hcI hf t1 t2 hc
      obtain ⟨u, tm, hg, rfl, htm, hfr⟩ := hrel
      have HT : Hid _ := htm
      have HFR : Hid _ := hfr
      obtain ⟨hbx, hbel⟩ := hfr
      obtain ⟨c0, c1, c2, c3, c4⟩ := hbx.cells
      have f0 := hbx.free 0
      have f2 := hbx.free 2
      have f3 := hbx.free 3
      have HB : Hid _ := hbx
      have HBEL : Hid _ := hbel
      clear hbx hbel htm
      by_cases h0 : gk = 0
      · subst h0
        go_wp2
        go_end0
        exact ⟨rfl, fl_end HFR.out HL2.out⟩
      · obtain ⟨f, rfl⟩ : ∃ f, gk = f + 1 := ⟨gk - 1, by omega⟩
        obtain ⟨b, hb⟩ : ∃ b : Nat, b = (if f + 1 = cs then cache + car else (255 + car) % 256) := ⟨_, rfl⟩
        obtain ⟨ol, hol2⟩ : ∃ ol, out ++ (pendL (cache + car) ((255 + car) % 256) cs).take (cs - (f + 1)) = ol := ⟨_, rfl⟩
        have hbw : IntKind.u8.wrap ((tm : Int) + (car : Int)) = (b : Int) := by
          rw [IntKind.wrap_u8, hb, HT.out]
          have := HCI.out
          split <;> omega
        have HBB : Hid _ := hb
        have hlen : ol.length ≤ 3000 := by
          have := pendL_len (cache + car) ((255 + car) % 256) cs
          rw [← hol2]
          simp
          omega
        have hb2 := HB.out
        rw [hol2] at hb2
        have HA : Hid (∀ o, Box S (wr.alloc o) (.int .u64 (low : Int)) (.int .u32 (rng : Int)) (.int .u8 (cache : Int)) (.int .i64 ((f + 1 : Nat) : Int)) u ol u) := fun o => hb2.alloc o
        have HAL : Hid (Below S wr (wr.alloc (.cells #[.int .u8 (b : Int)] 5))) := (Below.refl S wr).alloc (Nat.le_of_lt (lt_of_heap hb2.box)) _
        have HNB : Hid ((wr.alloc (.cells #[.int .u8 (b : Int)] 5)).heap[wr.heap.size]? = some (.cells #[.int .u8 (b : Int)] 5)) := heap_alloc_new wr _
        have HLEN : Hid _ := hlen
        have HOL : Hid _ := hol2
        clear hb hlen h0 hb2 hol2
        go_wp2_with (at_builtin; refine wpList_push rfl _ _ rfl S _ _ _ _ u ol (HA.out _) HLEN.out rfl wr.heap.size b rfl HNB.out ?_; intro G' cap' w2 F2 q3 q4 r3 r4)
        go_roundg f
        case measure => omega
        case rel => exact ⟨_, 255, by omega, rfl, by rw [if_neg (by omega)], fl_step hg HBEL.out HOL.out HBB.out F2.out.1 (HAL.out.trans F2.out.2)⟩

/-- nothing is let out -/
theorem pend_end {S : Nat} {w : World} {low rng cache cs : Nat} {out : List Nat} {v : Value} (h : EncAt S w ⟨low, rng, cache, cs, out⟩ v) (hl : low < 8589934592) :
    Now S w ⟨low % 16777216 * 256, rng, cache, cs + 1, out⟩
      ((w.setCell ⟨S, 3, none⟩ (.int .i64 ((cs : Int) + 1))).setCell ⟨S, 0, none⟩ (.int .u64 (IntKind.u64.wrap (bits BinOp.and IntKind.u64 (low : Int) 16777215 * 256)))) := by
  rw [low_next low hl]
  have b2 := (h.toBox.set (.int .i64 ((cs : Int) + 1))).2.2.2.1
  have b3 := (b2.set (.int .u64 ((low % 16777216 * 256 : Nat) : Int))).1
  exact ⟨v, ⟨b3.box, b3.row⟩, ((Below.refl S w).setCell (Nat.le_refl S) _).setCell (Nat.le_refl S) _⟩

set_option maxRecDepth 10000 in
set_option maxHeartbeats 1000000 in
theorem pend_walk (S : Nat) (w : World) (low rng cache cs : Nat) (out : List Nat) (v : Value) (h : EncAt S w ⟨low, rng, cache, cs, out⟩ v) (hcs : cs ≤ 1000) (h1 : 4278190080 ≤ low) (h2 : low < 4294967296) :
    Calls Try.prog 22 #[.pointer (some ⟨S, 0, none⟩)] w fun en w' => en = .returned (.tuple #[]) ∧ Now S w ⟨low % 16777216 * 256, rng, cache, cs + 1, out⟩ w' := by
  have hB0 := h.toBox
  simp only at hB0
  obtain ⟨c0, c1, c2, c3, c4⟩ := hB0.cells
  have f0 := hB0.free 0
  have f3 := hB0.free 3
  have hk : (low : Int) / 4294967296 = 0 := by omega
  have t1 : IntKind.u32.wrap (low : Int) = (low : Int) := by rw [IntKind.wrap_u32]; omega
  have hf : decide ((low : Int) < 4278190080) = false := by rw [decide_eq_false_iff_not]; omega
  have HE : Hid _ := pend_end h (by omega)
  clear h hB0 h1 h2
  go_enter Try.func22, Try.ntmps22
  go_wp2
  go_end0
  exact ⟨rfl, HE.out⟩

theorem shiftLow_any (S : Nat) (w : World) (e : E) (v : Value) (h : EncAt S w e v) (r : Nat) (he : EI e r) (hcs : e.cs ≤ 1000) (hol : e.out.length ≤ 1000) :
    Calls Try.prog 22 #[.pointer (some ⟨S, 0, none⟩)] w fun en w' => en = .returned (.tuple #[]) ∧ Now S w (shiftLow e) w' := by
  obtain ⟨low, rng, cache, cs, out⟩ := e
  have h1 := he.sum
  have h2 := he.full
  have h3 := he.r1
  have h4 := he.cache
  simp only at h1 h2 h3 h4 hcs hol
  unfold shiftLow
  simp only
  by_cases hfl : low % 4294967296 < 4278190080 ∨ low / 4294967296 ≠ 0
  · rw [if_pos hfl]
    have hc : cache + low / 4294967296 < 256 := by
      by_cases h5 : cache = 255
      · have := h2 h5; omega
      · omega
    have e1 : (cache + low / 4294967296) % 256 = cache + low / 4294967296 := by omega
    rw [e1]
    exact flush_loop S w low rng cache cs out v (low / 4294967296) h hcs hol hc rfl (by omega) (by omega)
  · rw [if_neg hfl]
    exact pend_walk S w low rng cache cs out v h hcs (by omega) (by omega)

end Go.Proofs.Qxb6001347a
