/- 'grow': every level gets the words that it must have. -/
import Derived.Test.Qxb6000573aSteps
import Derived.BigQuiet
import Derived.Deep.DeepCutAuto
namespace Go.Proofs.Qxb6000573a
open Go.RowKit Plain

def Grew (S : Nat) (w w' : World) (t : Nat) : Prop :=
  ∃ ao cap ls, SetAt S w' ao cap ls ∧ Gd (lens ls) ∧ (∀ x ∈ (lens ls).head?, t ≤ x ∧ x ≤ 1025) ∧ Below S w w'

/-- behind the round's first statement: level k is as long as it must be -/
def Rk (S : Nat) (w : World) (t k : Nat) (wx : World) : Prop :=
  ∃ ao cap ls, SetAt S wx ao cap ls ∧ Below S w wx ∧ ∃ hk : k < ls.length, 1 ≤ ls[k].n ∧ ls[k].n ≤ 1025 ∧ ls.length ≤ 1100 ∧
    (k + 1 = ls.length → ls[k].n = 1 → Gd (lens ls) ∧ ∀ x ∈ (lens ls).head?, t ≤ x ∧ x ≤ 1025) ∧
    (¬ (k + 1 = ls.length ∧ ls[k].n = 1) → PI t (k + 1) ((ls[k].n + 63) / 64) (lens ls))

theorem need_le {t k need : Nat} {ns : List Nat} (h : PI t k need ns) : need ≤ 1025 := by
  have := h.need2
  unfold bd at this
  split at this <;> (try split at this) <;> omega

theorem chain_last : ∀ (p : List Nat) (need : Nat), Chain p need → 0 < p.length → need = (p[p.length - 1]! + 63) / 64 ∧ p[p.length - 1]! ≤ p[0]!
  | [x], need, h, _ => ⟨h.2, by simp⟩
  | x :: y :: r, need, h, _ => by
    have ih := chain_last (y :: r) need h.2.2 (by simp)
    have e : (x :: y :: r)[(x :: y :: r).length - 1]! = (y :: r)[(y :: r).length - 1]! := by simp
    rw [e]
    refine ⟨ih.1, ?_⟩
    have h1 := h.1
    have h2 := h.2.1
    have h3 := ih.2
    simp only [List.getElem!_cons_zero] at h3 ⊢
    omega

theorem pi_last {t k need : Nat} {ls : List Lv} (hp : PI t k need (lens ls)) (hk : k = ls.length) (_hk0 : k ≠ 0) (h : k - 1 < ls.length) : need = (ls[k - 1].n + 63) / 64 ∧ ls[k - 1].n ≤ 1025 := by
  have hc := hp.chain
  have hl : (lens ls).length = ls.length := by simp [lens]
  rw [List.take_of_length_le (by omega)] at hc
  have := chain_last _ _ hc (by omega)
  rw [hl, ← hk, lens_get ls (k - 1) h, lens_get ls 0 (by omega)] at this
  have hf := hp.first (by omega) ls[0].n (by rw [List.head?_eq_getElem?]; simp [lens, show 0 < ls.length by omega])
  omega

theorem lens_self (ls : List Lv) (k : Nat) (h : k < ls.length) (n : Nat) (hn : ls[k].n = n) : (lens ls).set k n = lens ls := by
  subst hn
  unfold lens
  rw [← List.map_set]
  simp

/-- a level put on top -/
theorem rk_new {S : Nat} {w wx : World} {t k need : Nat} {ao : Option Addr} {cap g : Nat} {ls : List Lv} (hp : PI t k need (lens ls)) (hk : k = ls.length) (hset : SetAt S wx ao cap (ls ++ [⟨g, need, need⟩])) (hb : Below S w wx) : Rk S w t k wx := by
  have hlen := pi_len hp
  have hn1 := hp.need1
  have hn2 := need_le hp
  have hl : (lens ls).length = ls.length := by simp [lens]
  have el : lens (ls ++ [⟨g, need, need⟩]) = lens ls ++ [need] := by simp [lens]
  have ek : ∀ h, ((ls ++ [(⟨g, need, need⟩ : Lv)])[k]'h).n = need := by
    intro h
    subst hk
    simp
  refine ⟨ao, cap, _, hset, hb, by simp; omega, ?_, ?_, by simp; omega, ?_, ?_⟩
  · rw [ek]; exact hn1
  · rw [ek]; exact hn2
  · intro _ h1
    rw [ek] at h1
    rw [el, h1]
    rw [h1] at hp
    exact hp.done_new (by omega)
  · intro hn
    rw [ek] at hn ⊢
    rw [el]
    refine hp.next_new (by omega) (fun e => hn ⟨by simp; omega, e⟩)

/-- a level that lay there, made longer or left -/
theorem rk_old {S : Nat} {w wx : World} {t k need : Nat} {ao : Option Addr} {cap : Nat} {ls ls' : List Lv} (hp : PI t k need (lens ls)) (hk : k < ls.length) (n' : Nat) (hn' : n' = max ls[k].n need)
    (hlen' : ls'.length = ls.length) (hl' : lens ls' = (lens ls).set k n') (hset : SetAt S wx ao cap ls') (hb : Below S w wx) : Rk S w t k wx := by
  have hlen := pi_len hp
  have hl : (lens ls).length = ls.length := by simp [lens]
  have hg : (lens ls).getD k 0 = ls[k].n := by simp [lens, hk]
  have hk' : k < ls'.length := by omega
  have ek : ls'[k].n = n' := by
    have h1 := congrArg (fun l : List Nat => l[k]?) hl'
    simp only [lens, List.getElem?_map, List.getElem?_eq_getElem hk', List.getElem?_set_self (show k < (List.map (fun x => x.n) ls).length by simpa using hk)] at h1
    simpa using h1
  have hn1 := hp.need1
  have hn2 := need_le hp
  have hbd : n' ≤ 1025 := by
    by_cases h0 : k = 0
    · subst h0
      have := (hp.zero rfl).2 ls[0].n (by rw [List.head?_eq_getElem?]; simp [lens, hk])
      omega
    · have := hp.le (by omega) ls[k].n (by rw [List.head?_drop]; simp [lens, hk])
      omega
  refine ⟨ao, cap, ls', hset, hb, hk', by omega, by omega, by omega, ?_, ?_⟩
  · intro h1 h2
    rw [ek] at h2
    have := hp.done_old (by omega) (by rw [hg]; omega)
    rw [hl', h2]
    exact this
  · intro hn
    rw [ek] at hn ⊢
    rw [hl', hn']
    have := hp.next_old (by omega) (by rw [hg]; intro h; exact hn ⟨by omega, by omega⟩)
    rw [hg] at this
    exact this.1

set_option maxRecDepth 20000 in
set_option maxHeartbeats 1000000 in
theorem grow_any (S : Nat) (w : World) (ao : Option Addr) (cap : Nat) (ls : List Lv) (i : Int) (h : SetAt S w ao cap ls) (hg : lens ls = [] ∨ Gd (lens ls)) (hb : ∀ x ∈ (lens ls).head?, x ≤ 1025) (hi : 0 ≤ i) (hi2 : i ≤ 65536) :
    Calls Try.prog 30 #[.pointer (some ⟨S, 0, none⟩), .int .i64 i] w fun e w' => e = .returned (.tuple #[]) ∧ Grew S w w' ((i / 64).toNat + 1) := by
  have hst : PI ((i / 64).toNat + 1) 0 ((i / 64).toNat + 1) (lens ls) := PI.start (by omega) (by omega) hg hb
  have HI : Hid _ := h
  have HS : Hid _ := hst
  clear h hst hg hb
  go_enter Try.func30, Try.ntmps30
  go_wp2
  go_loopw [4, 5] (fun need k wr => ∃ (kk nn : Nat) (ao : Option Addr) (cap : Nat) (ls : List Lv), k = .int .i64 kk ∧ need = .int .i64 nn ∧ SetAt S wr ao cap ls ∧ PI ((i / 64).toNat + 1) kk nn (lens ls) ∧ Below S w wr) (fun _ k _ => 3 - (intOf k).toNat)
  case atStart =>
    exact ⟨0, (i / 64).toNat + 1, ao, cap, ls, rfl, by congr 1; omega, HI.out, HS.out, Below.refl _ _⟩
  case round =>
    clear HI HS
    obtain ⟨k, need, ao, cap, ls, rfl, rfl, hset, hpi, hbel⟩ := hrel
    have hlenl : (lens ls).length = ls.length := by simp [lens]
    have hk2 := hpi.k2
    have hkl := hpi.kl
    have hn1 := hpi.need1
    have hn2 : need ≤ 1025 := need_le hpi
    rw [hlenl] at hkl
    have hlen4 : ls.length ≤ 1027 := by have := pi_len hpi; omega
    have hcS := hset.cellS
    have hfS := hset.freeS
    have HI : Hid _ := hset
    have HP : Hid _ := hpi
    have HB : Hid _ := hbel
    clear hset hpi hbel hlenl
    go_upto_if 20 with (fail)
    go_cut [] (fun wx => Rk S w ((i / 64).toNat + 1) k wx)
    case first =>
      by_cases hnew : k = ls.length
      · have t1 : ((k : Int) == (ls.length : Int)) = true := by rw [beq_iff_eq]; omega
        have HN : Hid _ := hnew
        clear hnew
        have hmk := run_mk need (by omega)
        have hSlt : S < wr.heap.size := lt_of_heap HI.out.box
        go_upto_region 4 with (fail)
        go_cut [] (fun wx => ∃ G' cap' g, SetAt S wx (some ⟨G', 0, none⟩) cap' (ls ++ [⟨g, need, need⟩]) ∧ Below S wr wx)
        case first =>
          have HU : Hid (∀ B, UK S wr ((wr.alloc (.cells (uz need) 40)).alloc B).drew ∧ Lv.ok S ((wr.alloc (.cells (uz need) 40)).alloc B).drew ⟨wr.heap.size, need, need⟩ ∧ ((wr.alloc (.cells (uz need) 40)).alloc B).drew.heap[wr.heap.size + 1]? = some B) := fun B =>
            ⟨(((UK.refl S wr).alloc (by omega) _).alloc (by simp; omega) B).drew, ⟨by simp; omega, hn1, Nat.le_refl _, ⟨uz need, by
              show ((wr.alloc (.cells (uz need) 40)).alloc B).heap[wr.heap.size]? = _
              rw [Below.heap_alloc _ _ _ (by simp)]; exact heap_alloc_new wr _, size_uz _, AllU_uz _⟩⟩, by
              have := heap_alloc_new (wr.alloc (.cells (uz need) 40)) B
              show ((wr.alloc (.cells (uz need) 40)).alloc B).heap[wr.heap.size + 1]? = some B
              simpa using this⟩
          go_region_law ((refine step_addLevel (by rfl) _ _ (by rfl) S wr ao cap ls HI.out (by omega) (by rfl) (wr.heap.size + 1) wr.heap.size need (by rfl) ((HU.out _).2.2) ((HU.out _).1) ((HU.out _).2.1) ?_; intro G' cap' w2 hc2 hf2 F2))
          all_goals
            go_wp2_with fail
            go_meet
            exact ⟨G', cap', wr.heap.size, F2.out⟩
        case rest =>
          obtain ⟨G', cap', g, hset2, hbel2⟩ := hcut
          by_cases hk0 : k = 0
          · subst hk0
            clear hmk
            go_wp2
            go_meet
            exact rk_new HP.out HN.out hset2 (HB.out.trans hbel2)
          · have hkl1 : k - 1 < ls.length := by omega
            have hpos : 0 < (ls ++ [(⟨g, need, need⟩ : Lv)]).length := by simp
            obtain ⟨G, e, hSG, hcap, hfr, hcell⟩ := hset2.at hpos
            simp only [Option.some.injEq, Addr.mk.injEq, and_true] at e
            subst e
            have hcS2 := hset2.cellS
            have hc1 := hcell (k - 1) (by simp; omega)
            have hck := hcell k (by have := HN.out; simp; omega)
            have e1 : (ls ++ [(⟨g, need, need⟩ : Lv)])[k - 1]'(by simp; omega) = ls[k - 1] := by rw [List.getElem_append_left hkl1]
            have e2 : (ls ++ [(⟨g, need, need⟩ : Lv)])[k]'(by have := HN.out; simp; omega) = ⟨g, need, need⟩ := by have := HN.out; subst this; simp
            rw [e1] at hc1
            rw [e2] at hck
            have hin1 := hset2.inner ls[k - 1] (by simp)
            have hink := hset2.inner ⟨g, need, need⟩ (by simp)
            obtain ⟨hn64, hnb⟩ := pi_last HP.out HN.out hk0 hkl1
            generalize ls[k - 1] = l1 at *
            clear e1 e2 hcell hmk hfr
            rw [List.length_append] at hcS2
            simp only [List.length_cons, List.length_nil] at hcS2
            have HS2 : Hid _ := hset2
            have HI1 : Hid _ := hin1
            have HIk : Hid _ := hink
            have HBx : Hid _ := hbel2
            have H64 : Hid _ := hn64
            clear hset2 hin1 hink hbel2 hn64
            have ek : ((k : Int) - 1).toNat = k - 1 := by omega
            have HBc : Hid (Below S w wc) := HB.out.trans HBx.out
            clear HB HBx HI
            go_wp2
            go_loopw [43] (fun idx v => ∃ j : Nat, j ≤ l1.n ∧ idx = .int .i64 j ∧ UK S wc v) (fun idx _ => l1.n - (intOf idx).toNat)
            case atStart => exact ⟨0, Nat.zero_le _, rfl, UK.refl _ _⟩
            case round =>
              obtain ⟨j, hj, rfl, huk⟩ := hrel
              have HU : Hid _ := huk
              by_cases hlt : j < l1.n
              · obtain ⟨v, hv⟩ := (huk.urow HI1.out.2.2.2).cell j (by have := HI1.out.2.2.1; omega)
                have hjd : j / 64 < need := by have := H64.out; omega
                obtain ⟨v2, hv2⟩ := (huk.urow HIk.out.2.2.2).cell (j / 64) (by simpa using hjd)
                have hfk := (huk.urow HIk.out.2.2.2).free (j / 64)
                have hSr := (HS2.out.uk huk).cellS
                rw [List.length_append] at hSr
                simp only [List.length_cons, List.length_nil] at hSr
                obtain ⟨G2, e, _, _, _, hcell⟩ := (HS2.out.uk huk).at (by simp)
                simp only [Option.some.injEq, Addr.mk.injEq, and_true] at e
                subst e
                have hckr : wr.cell? ⟨G', k, none⟩ = some (.slice (some ⟨g, 0, none⟩) need need) := by
                  rw [hcell k (by have := HN.out; simp; omega)]
                  have := HN.out
                  subst this
                  simp
                clear hcell huk
                have ej : ((j : Int) / 64).toNat = j / 64 := by omega
                have ej2 : (j : Int) / 64 < (need : Int) := by omega
                have ej3 : (0 : Int) ≤ (j : Int) / 64 := by omega
                have hkk : k < ls.length + 1 := by have := HN.out; omega
                by_cases hv0 : v = 0
                · subst hv0
                  go_wp2
                  go_roundw
                  case rel => exact ⟨j + 1, by omega, by go_num, HU.out⟩
                  case measure => simp [intOf]; omega
                · have tv : (v != 0) = true := by simpa using hv0
                  clear hv0
                  go_wp2
                  go_region
                  go_wp2
                  go_roundw
                  case rel => exact ⟨j + 1, by omega, by go_num, (HU.out.store (HU.out.urow HIk.out.2.2.2) HIk.out.1 (j / 64) _).drew⟩
                  case measure => simp [intOf]; omega
              · clear huk
                go_wp2
                go_meet
                exact rk_new HP.out HN.out (HS2.out.uk HU.out) (HBc.out.trans HU.out.bel)
      · have hkl2 : k < ls.length := by omega
        have t1 : ((k : Int) == (ls.length : Int)) = false := by rw [beq_eq_false_iff_ne]; omega
        clear hnew
        obtain ⟨G, rfl, hSG, hcap, hfr, hcell⟩ := HI.out.at (by omega)
        have hck := hcell k hkl2
        obtain ⟨g, n, c, hl⟩ : ∃ g n c, ls[k] = (⟨g, n, c⟩ : Lv) := ⟨_, _, _, rfl⟩
        have HL : Hid _ := hl
        rw [hl] at hck
        simp only at hck
        have hfk := hfr k
        clear hcell hl hfr
        by_cases hle : need ≤ n
        · go_wp2
          go_meet
          exact rk_old HP.out hkl2 n (by have := HL.out; rw [this]; simp; omega) rfl (lens_self ls k hkl2 n (by rw [HL.out])).symm HI.out HB.out
        · have hm : IntKind.i64.wrap ((need : Int) - (n : Int)) = ((need - n : Nat) : Int) := by rw [IntKind.wrap_i64]; omega
          have HM : Hid _ := hm
          clear hm
          have hmn : n + (need - n) = need := by omega
          go_wp2
          go_region_law ((refine step_extend (by rfl) _ _ (by rfl) S wr G cap ls HI.out k hkl2 g n c HL.out (by rfl) _ (need - n) (by rfl) HM.out (by omega) (by omega) (UK.refl S wr).drew ?_; intro g' c' w2 hc2 hck2 hf2 F2))
          all_goals
            go_wp2_with fail
            go_meet
            have F3 := F2.out
            rw [hmn] at F3
            exact rk_old HP.out hkl2 need (by have := HL.out; rw [this]; simp; omega) (by simp) (by unfold lens; rw [List.map_set]) F3.1 (HB.out.trans F3.2)
    case rest =>
      obtain ⟨ao2, cap2, ls2, hset2, hbel2, hkl2, hnk1, hnk2, hlen2, hdone, hnext⟩ := hcut
      clear HI HP HB hcS hfS hkl hn1 hn2 hlen4
      obtain ⟨G, rfl, hSG, hcap, hfr, hcell⟩ := hset2.at (by omega)
      have hck := hcell k hkl2
      have hcS := hset2.cellS
      have HI2 : Hid _ := hset2
      have HB2 : Hid _ := hbel2
      obtain ⟨n, hnn⟩ : ∃ n, ls2[k].n = n := ⟨_, rfl⟩
      clear hset2 hbel2 hcell hfr hcap hSG
      rw [hnn] at hdone hnext hck hnk1 hnk2
      have HD : Hid _ := hdone
      have HX : Hid _ := hnext
      clear hdone hnext hnn
      generalize ls2[k].g = g at *
      generalize ls2[k].c = c at *
      by_cases hlast : k + 1 = ls2.length
      · have t3 : ((k : Int) == (ls2.length : Int) - 1) = true := by rw [beq_iff_eq]; omega
        by_cases hn : n = 1
        · subst hn
          have HD2 : Hid _ := HD.out hlast rfl
          clear hlast HD HX
          go_wp2
          refine bodyPost_ret (results_none rfl _ _ _) rfl ?_
          exact ⟨rfl, _, _, _, HI2.out, HD2.out.1, HD2.out.2, HB2.out⟩
        · have t4 : ((n : Int) == 1) = false := by rw [beq_eq_false_iff_ne]; omega
          have hx := HX.out (fun h => hn h.2)
          have HP2 : Hid _ := hx
          have hk3 := hx.k2
          clear hlast hn hx
          go_wp2
          go_roundw
          case rel => exact ⟨k + 1, (n + 63) / 64, _, _, _, by go_num, by go_num, HI2.out, HP2.out, HB2.out⟩
          case measure => simp [intOf]; omega
      · have t3 : ((k : Int) == (ls2.length : Int) - 1) = false := by rw [beq_eq_false_iff_ne]; omega
        have hx := HX.out (fun h => hlast h.1)
        have HP2 : Hid _ := hx
        have hk3 := hx.k2
        clear hlast hx
        go_wp2
        go_roundw
        case rel => exact ⟨k + 1, (n + 63) / 64, _, _, _, by go_num, by go_num, HI2.out, HP2.out, HB2.out⟩
        case measure => simp [intOf]; omega

end Go.Proofs.Qxb6000573a
