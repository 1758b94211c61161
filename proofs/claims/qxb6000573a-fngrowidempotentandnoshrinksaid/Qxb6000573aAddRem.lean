/- 'Add' and 'Remove' keep the set's shape. -/
import Derived.Test.Qxb6000573aGrow
namespace Go.Proofs.Qxb6000573a
open Go.RowKit Plain

/-- the set's shape behind a call, and that nothing below S has turned -/
def Inv (S : Nat) (w w' : World) : Prop :=
  ∃ ao cap ls, SetAt S w' ao cap ls ∧ (lens ls = [] ∨ Gd (lens ls)) ∧ (∀ x ∈ (lens ls).head?, x ≤ 1025) ∧ Below S w w'

theorem gd_all : ∀ {l : List Nat} (_ : Gd l), ∀ x ∈ l, x ≤ l[0]!
  | [n], _, x, hx => by simp at hx; simp [hx]
  | n :: m :: r, h, x, hx => by
    rcases List.mem_cons.1 hx with rfl | hx
    · simp
    · have := gd_all h.2.2 x hx
      have h1 := h.1
      have h2 := h.2.1
      simp at this ⊢
      omega

theorem lens_bd {ls : List Lv} (hg : Gd (lens ls)) (hb : ∀ x ∈ (lens ls).head?, x ≤ 1025) : (∀ l ∈ ls, l.n ≤ 1025) ∧ ls.length ≤ 1025 ∧ 0 < ls.length := by
  have hpos : 0 < ls.length := by
    cases ls with
    | nil => simp [lens, Gd] at hg
    | cons a r => simp
  have h0 : (lens ls)[0]! ≤ 1025 := by
    rw [lens_get ls 0 hpos]
    exact hb ls[0].n (by rw [List.head?_eq_getElem?]; simp [lens, hpos])
  refine ⟨fun l hl => ?_, ?_, hpos⟩
  · have := gd_all hg l.n (List.mem_map.2 ⟨l, hl, rfl⟩)
    omega
  · have := good_len hg
    simp [lens] at this h0
    omega

theorem next_idx {ls : List Lv} (hg : Gd (lens ls)) (k : Nat) (hk : k < ls.length) (x : Nat) (hx : x / 64 < ls[k].n) : ∀ h : k + 1 < ls.length, x / 64 / 64 < ls[k + 1].n := by
  intro h
  have := good_next hg k (by simpa [lens] using h)
  rw [lens_get ls k hk, lens_get ls (k + 1) h] at this
  omega

theorem fin_inv {S : Nat} {w w1 w2 : World} {ao : Option Addr} {cap : Nat} {ls : List Lv} (h : SetAt S w1 ao cap ls) (hg : Gd (lens ls)) (hb : ∀ x ∈ (lens ls).head?, x ≤ 1025) (hB : Below S w w1) (hu : UK S w1 w2) : Inv S w w2 :=
  ⟨_, _, _, h.uk hu, .inr hg, hb, hB.trans hu.bel⟩

set_option maxRecDepth 20000 in
set_option maxHeartbeats 1000000 in
theorem add_any (S : Nat) (w : World) (ao : Option Addr) (cap : Nat) (ls : List Lv) (i : Int) (h : SetAt S w ao cap ls) (hg : lens ls = [] ∨ Gd (lens ls)) (hb : ∀ x ∈ (lens ls).head?, x ≤ 1025) (hi : 0 ≤ i) (hi2 : i ≤ 65536) :
    Calls Try.prog 20 #[.pointer (some ⟨S, 0, none⟩), .int .i64 i] w fun e w' => e = .returned (.tuple #[]) ∧ Inv S w w' := by
  have HG : Hid _ := grow_any S w ao cap ls i h hg hb hi hi2
  clear h hg hb ao cap ls
  go_enter Try.func20, Try.ntmps20
  go_wp2_with fail
  refine Calls.mono HG.out ?_
  rintro e w1 ⟨rfl, ao, cap, ls, hset, hgd, hbd, hbel⟩
  clear HG
  obtain ⟨hn, hlen, hpos⟩ := lens_bd hgd (fun x hx => (hbd x hx).2)
  have hcS := hset.cellS
  obtain ⟨G, rfl, hSG, hcap, hfr, hcell⟩ := hset.at hpos
  obtain ⟨x0, rfl⟩ : ∃ x : Nat, i = x := ⟨i.toNat, by omega⟩
  have hx0 : x0 / 64 < ls[0].n := by
    have := (hbd ls[0].n (by rw [List.head?_eq_getElem?]; simp [lens, hpos])).1
    omega
  have HI : Hid _ := hset
  have HGD : Hid _ := hgd
  have HN : Hid _ := hn
  have HC : Hid _ := hcell
  have HB : Hid _ := hbel
  have HBD : Hid (∀ x ∈ (lens ls).head?, x ≤ 1025) := fun x hx => (hbd x hx).2
  have HX0 : Hid _ := hx0
  clear hset hgd hn hcell hbel hbd hx0 hfr hcap hSG
  go_wp2
  go_loopw [1, 16] (fun iv idx wr => ∃ (k x : Nat), k ≤ ls.length ∧ idx = .int .i64 k ∧ iv = .int .i64 x ∧ x ≤ 65536 ∧ (∀ h : k < ls.length, x / 64 < ls[k].n) ∧ UK S w1 wr) (fun _ idx _ => ls.length - (intOf idx).toNat)
  case atStart => exact ⟨0, x0, Nat.zero_le _, rfl, rfl, by omega, fun _ => HX0.out, UK.refl _ _⟩
  case round =>
    obtain ⟨k, x, hk, rfl, rfl, hx, hxn, huk⟩ := hrel
    by_cases hlt : k < ls.length
    · have hxk := hxn hlt
      have hl := HI.out.inner ls[k] (List.getElem_mem hlt)
      have hnk := HN.out ls[k] (List.getElem_mem hlt)
      have hnext := next_idx HGD.out k hlt x hxk
      obtain ⟨G2, e, _, _, _, hcell2⟩ := (HI.out.uk huk).at hpos
      simp only [Option.some.injEq, Addr.mk.injEq, and_true] at e
      subst e
      have hck := hcell2 k hlt
      have hur := huk.urow hl.2.2.2
      obtain ⟨v, hv⟩ := hur.cell (x / 64) (by have := hl.2.2.1; omega)
      have hf := hur.free (x / 64)
      have HL : Hid _ := hl
      have HU : Hid _ := huk
      have HNX : Hid _ := hnext
      have HR : Hid _ := hur
      clear hcell2 hl huk hnext hxn hur
      generalize ls[k].n = n at *
      generalize ls[k].g = g at *
      generalize ls[k].c = c at *
      have ex : ((x : Int) / 64).toNat = x / 64 := by omega
      have ex2 : (x : Int) / 64 < (n : Int) := by omega
      have ex3 : (0 : Int) ≤ (x : Int) / 64 := by omega
      by_cases hv0 : v = 0
      · subst hv0
        go_wp2
        go_region
        go_wp2
        go_roundw
        case rel => exact ⟨k + 1, x / 64, by omega, by go_num, by go_num, by omega, HNX.out, (HU.out.store HR.out HL.out.1 (x / 64) _).drew⟩
        case measure => simp [intOf]; omega
      · have tv : (v != 0) = true := by simpa using hv0
        clear hv0
        go_wp2
        go_region
        go_wp2
        refine bodyPost_ret (results_none rfl _ _ _) rfl ?_
        exact ⟨rfl, fin_inv HI.out HGD.out HBD.out HB.out (HU.out.store HR.out HL.out.1 (x / 64) _).drew⟩
    · go_wp2
      go_end0
      exact ⟨rfl, _, _, _, HI.out.uk huk, .inr HGD.out, HBD.out, HB.out.trans huk.bel⟩

set_option maxRecDepth 20000 in
set_option maxHeartbeats 1000000 in
theorem remove_loop (S : Nat) (w : World) (ao : Option Addr) (cap : Nat) (ls : List Lv) (x0 : Nat) (h : SetAt S w ao cap ls) (hgd : Gd (lens ls)) (hbd : ∀ x ∈ (lens ls).head?, x ≤ 1025) (hi2 : x0 ≤ 9223372036854775807) (hpos : 0 < ls.length) (hx0 : x0 / 64 < ls[0].n) :
    Calls Try.prog 24 #[.pointer (some ⟨S, 0, none⟩), .int .i64 x0] w fun e w' => e = .returned (.tuple #[]) ∧ Inv S w w' := by
  obtain ⟨hn, hlen, _⟩ := lens_bd hgd hbd
  have hcS := h.cellS
  obtain ⟨G, rfl, hSG, hcap, hfr, hcell⟩ := h.at hpos
  have hc0 := hcell 0 hpos
  have HI : Hid _ := h
  have HGD : Hid _ := hgd
  have HN : Hid _ := hn
  have HBD : Hid (∀ x ∈ (lens ls).head?, x ≤ 1025) := hbd
  have HX0 : Hid _ := hx0
  have t0 : ((ls.length : Int) == 0) = false := by rw [beq_eq_false_iff_ne]; omega
  have t1 : (x0 : Int) / 64 < (ls[0].n : Int) := by omega
  have hxb : x0 / 64 ≤ 65536 := by have := hn ls[0] (by simp); omega
  clear h hgd hn hcell hbd hx0 hfr hcap hSG
  obtain ⟨g0, n0, c0, hl0⟩ : ∃ g n c, ls[0] = (⟨g, n, c⟩ : Lv) := ⟨_, _, _, rfl⟩
  rw [hl0] at hc0 t1
  simp only at hc0 t1
  clear hl0
  go_enter Try.func24, Try.ntmps24
  go_wp2
  go_loopw [1, 30] (fun iv idx wr => ∃ (k x : Nat), k ≤ ls.length ∧ idx = .int .i64 k ∧ iv = .int .i64 x ∧ x ≤ 9223372036854775807 ∧ (∀ h : k < ls.length, x / 64 < ls[k].n) ∧ UK S w wr) (fun _ idx _ => ls.length - (intOf idx).toNat)
  case atStart => exact ⟨0, x0, Nat.zero_le _, rfl, rfl, by omega, fun _ => HX0.out, UK.refl _ _⟩
  case round =>
    obtain ⟨k, x, hk, rfl, rfl, hx, hxn, huk⟩ := hrel
    by_cases hlt : k < ls.length
    · have hxk := hxn hlt
      have hl := HI.out.inner ls[k] (List.getElem_mem hlt)
      have hnk := HN.out ls[k] (List.getElem_mem hlt)
      have hnext := next_idx HGD.out k hlt x hxk
      obtain ⟨G2, e, _, _, _, hcell2⟩ := (HI.out.uk huk).at hpos
      simp only [Option.some.injEq, Addr.mk.injEq, and_true] at e
      subst e
      have hck := hcell2 k hlt
      have hur := huk.urow hl.2.2.2
      obtain ⟨v, hv⟩ := hur.cell (x / 64) (by have := hl.2.2.1; omega)
      have hf := hur.free (x / 64)
      have HL : Hid _ := hl
      have HU : Hid _ := huk
      have HNX : Hid _ := hnext
      have HR : Hid _ := hur
      clear hcell2 hl huk hnext hxn hur
      generalize ls[k].n = n at *
      generalize ls[k].g = g at *
      generalize ls[k].c = c at *
      have ex : ((x : Int) / 64).toNat = x / 64 := by omega
      have ex2 : (x : Int) / 64 < (n : Int) := by omega
      have ex3 : (0 : Int) ≤ (x : Int) / 64 := by omega
      go_wp2
      go_region
      go_wp2
      · refine bodyPost_ret (results_none rfl _ _ _) rfl ?_
        exact ⟨rfl, fin_inv HI.out HGD.out HBD.out (Below.refl S w) (HU.out.store HR.out HL.out.1 (x / 64) _).drew⟩
      · go_roundw
        case rel => exact ⟨k + 1, x / 64, by omega, by go_num, by go_num, by omega, HNX.out, (HU.out.store HR.out HL.out.1 (x / 64) _).drew⟩
        case measure => simp [intOf]; omega
    · go_wp2
      go_end0
      exact ⟨rfl, _, _, _, HI.out.uk huk, .inr HGD.out, HBD.out, huk.bel⟩

set_option maxRecDepth 20000 in
set_option maxHeartbeats 400000 in
theorem remove_none (S : Nat) (w : World) (ao : Option Addr) (cap : Nat) (x0 : Nat) (h : SetAt S w ao cap []) :
    Calls Try.prog 24 #[.pointer (some ⟨S, 0, none⟩), .int .i64 x0] w fun e w' => e = .returned (.tuple #[]) ∧ Inv S w w' := by
  have hcS := h.cellS
  simp only [List.length_nil] at hcS
  have HI : Hid _ := h
  clear h
  go_enter Try.func24, Try.ntmps24
  go_wp2
  refine bodyPost_ret (results_none rfl _ _ _) rfl ?_
  exact ⟨rfl, _, _, _, HI.out, .inl rfl, fun x hx => by simp [lens] at hx, Below.refl _ _⟩

set_option maxRecDepth 20000 in
set_option maxHeartbeats 400000 in
theorem remove_past (S : Nat) (w : World) (ao : Option Addr) (cap : Nat) (ls : List Lv) (x0 : Nat) (h : SetAt S w ao cap ls) (hgd : Gd (lens ls)) (hbd : ∀ x ∈ (lens ls).head?, x ≤ 1025) (hi2 : x0 ≤ 9223372036854775807) (hpos : 0 < ls.length) (hx0 : ls[0].n ≤ x0 / 64) :
    Calls Try.prog 24 #[.pointer (some ⟨S, 0, none⟩), .int .i64 x0] w fun e w' => e = .returned (.tuple #[]) ∧ Inv S w w' := by
  obtain ⟨hn, hlen, _⟩ := lens_bd hgd hbd
  have hcS := h.cellS
  obtain ⟨G, rfl, hSG, hcap, hfr, hcell⟩ := h.at hpos
  have hc0 := hcell 0 hpos
  have HI : Hid _ := h
  have HGD : Hid _ := hgd
  have HBD : Hid (∀ x ∈ (lens ls).head?, x ≤ 1025) := hbd
  have t0 : ((ls.length : Int) == 0) = false := by rw [beq_eq_false_iff_ne]; omega
  have t1 : (ls[0].n : Int) ≤ (x0 : Int) / 64 := by omega
  clear h hgd hn hcell hbd hx0 hfr hcap hSG
  obtain ⟨g0, n0, c0, hl0⟩ : ∃ g n c, ls[0] = (⟨g, n, c⟩ : Lv) := ⟨_, _, _, rfl⟩
  rw [hl0] at hc0 t1
  simp only at hc0 t1
  clear hl0
  go_enter Try.func24, Try.ntmps24
  go_wp2
  refine bodyPost_ret (results_none rfl _ _ _) rfl ?_
  exact ⟨rfl, fin_inv HI.out HGD.out HBD.out (Below.refl S w) (UK.refl _ _)⟩

theorem remove_any (S : Nat) (w : World) (ao : Option Addr) (cap : Nat) (ls : List Lv) (i : Int) (h : SetAt S w ao cap ls) (hg : lens ls = [] ∨ Gd (lens ls)) (hb : ∀ x ∈ (lens ls).head?, x ≤ 1025) (hi : 0 ≤ i) (hi2 : i ≤ 9223372036854775807) :
    Calls Try.prog 24 #[.pointer (some ⟨S, 0, none⟩), .int .i64 i] w fun e w' => e = .returned (.tuple #[]) ∧ Inv S w w' := by
  obtain ⟨x0, rfl⟩ : ∃ x : Nat, i = x := ⟨i.toNat, by omega⟩
  by_cases hpos : 0 < ls.length
  · have hgd : Gd (lens ls) := by
      rcases hg with hg | hg
      · have := congrArg List.length hg
        simp [lens] at this
        simp [this] at hpos
      · exact hg
    by_cases hx : x0 / 64 < ls[0].n
    · exact remove_loop S w ao cap ls x0 h hgd hb (by omega) hpos hx
    · exact remove_past S w ao cap ls x0 h hgd hb (by omega) hpos (by omega)
  · have : ls = [] := List.eq_nil_of_length_eq_zero (by omega)
    subst this
    exact remove_none S w ao cap x0 h

end Go.Proofs.Qxb6000573a
