/- The law's own function: the way on which it encodes and decodes. -/
import Derived.Test.Qxb6001347aEarly
namespace Go.Proofs.Qxb6001347a
open Go.RowKit Plain

/-- the probabilities before k lie in the band -/
def BandTo (P0 : List Nat) (k : Nat) : Prop := ∀ j, 1 ≤ j → j < k → 31 ≤ P0.getD j 0 ∧ P0.getD j 0 ≤ 2017

theorem BandTo.step {P0 : List Nat} {k : Nat} (h : BandTo P0 k) (h1 : 31 ≤ P0.getD k 0) (h2 : P0.getD k 0 ≤ 2017) : BandTo P0 (k + 1) := fun j hj hk => by
  by_cases e : j = k
  · subst e; exact ⟨h1, h2⟩
  · exact h j hj (by omega)

theorem and_bit (sym k : Nat) (h : sym < 65536) : bits .and .u32 ((sym : Int) / 2 ^ k) 1 = ((sym / 2 ^ k % 2 : Nat) : Int) := by
  have e : (sym : Int) / 2 ^ k = ((sym / 2 ^ k : Nat) : Int) := by rw [Int.natCast_ediv, Int.natCast_pow]; rfl
  have hle : sym / 2 ^ k ≤ sym := Nat.div_le_self _ _
  have h1 : ((1 : Nat) : Int) = 1 := rfl
  rw [e, ← h1, and_u32_nat _ 1 (by omega) (by omega), Nat.and_one_is_mod]

theorem or_parts (x y k K : Nat) (hK : 2 ^ k = K) (hy : y < K) (h1 : x * K < 4294967296) (h2 : y < 4294967296) : bits .or .u32 ((x * K : Nat) : Int) (y : Int) = ((x * K + y : Nat) : Int) := by
  rw [or_u32_nat _ _ h1 h2]
  have h : x <<< k ||| y = x <<< k + y := (Nat.shiftLeft_add_eq_or_of_lt (by rw [hK]; exact hy) x).symm
  rw [Nat.shiftLeft_eq, hK] at h
  rw [h]

theorem or_four (a b c d code : Nat) (ha : a < 256) (hb : b < 256) (hc : c < 256) (hd : d < 256) (hcode : a * 16777216 + b * 65536 + c * 256 + d = code) :
    bits .or .u32 ((a : Int) * 16777216) ((b : Int) * 65536) = (a : Int) * 16777216 + (b : Int) * 65536 ∧
    bits .or .u32 ((a : Int) * 16777216 + (b : Int) * 65536) ((c : Int) * 256) = (a : Int) * 16777216 + (b : Int) * 65536 + (c : Int) * 256 ∧
    bits .or .u32 ((a : Int) * 16777216 + (b : Int) * 65536 + (c : Int) * 256) (d : Int) = (code : Int) := by
  obtain ⟨q1, q2, q3, r1, r2, f1, f2, f3⟩ : ((a * 16777216 : Nat) : Int) = (a : Int) * 16777216 ∧ (((a * 256 + b) * 65536 : Nat) : Int) = (a : Int) * 16777216 + (b : Int) * 65536 ∧
      (((a * 65536 + b * 256 + c) * 256 : Nat) : Int) = (a : Int) * 16777216 + (b : Int) * 65536 + (c : Int) * 256 ∧ ((b * 65536 : Nat) : Int) = (b : Int) * 65536 ∧ ((c * 256 : Nat) : Int) = (c : Int) * 256 ∧
      ((a * 16777216 + b * 65536 : Nat) : Int) = (a : Int) * 16777216 + (b : Int) * 65536 ∧ (((a * 256 + b) * 65536 + c * 256 : Nat) : Int) = (a : Int) * 16777216 + (b : Int) * 65536 + (c : Int) * 256 ∧
      (((a * 65536 + b * 256 + c) * 256 + d : Nat) : Int) = (code : Int) :=
    ⟨by omega, by omega, by omega, by omega, by omega, by omega, by omega, by omega⟩
  obtain ⟨g1, g2, g3, g4, g5, g6, g7, g8⟩ : b * 65536 < 16777216 ∧ a * 16777216 < 4294967296 ∧ b * 65536 < 4294967296 ∧ c * 256 < 65536 ∧ (a * 256 + b) * 65536 < 4294967296 ∧ c * 256 < 4294967296 ∧ (a * 65536 + b * 256 + c) * 256 < 4294967296 ∧ d < 4294967296 := by
    clear q1 q2 q3 r1 r2 f1 f2 f3 hcode
    exact ⟨by omega, by omega, by omega, by omega, by omega, by omega, by omega, by omega⟩
  have p1 := or_parts a (b * 65536) 24 16777216 rfl g1 g2 g3
  have p2 := or_parts (a * 256 + b) (c * 256) 16 65536 rfl g4 g5 g6
  have p3 := or_parts (a * 65536 + b * 256 + c) d 8 256 rfl hd g7 g8
  rw [q1, r1, f1] at p1
  rw [q2, r2, f2] at p2
  rw [q3, f3] at p3
  exact ⟨p1, p2, p3⟩

set_option maxRecDepth 10000 in
set_option maxHeartbeats 2000000 in
theorem main_any (b off cap n sym : Nat) (P0 : List Nat) (w : World) (hp : Pre n sym P0) (hb : b < w.heap.size) (hc : ∀ k, k < 2 ^ n → w.cell? ⟨b, off + k, none⟩ = some (.int .u16 ((P0.getD k 0 : Nat) : Int))) :
    Calls Try.prog 9 #[.slice (some ⟨b, off, none⟩) (2 ^ n) cap, .int .u64 (n : Int), .int .u32 (sym : Int)] w fun e w' => e = .returned (.bool true) ∧ Below w.heap.size w w' := by
  have hn := hp.n16
  have hn1 := hp.n1
  have hsym := hp.symlt
  have hlen := hp.len
  have e1 := shl_i64 n hn
  have e2 := pow_shl n hn
  have hN2 : 2 ≤ 2 ^ n := by
    have : 2 ^ 1 ≤ 2 ^ n := Nat.pow_le_pow_right (by omega) hn1
    omega
  have hN : 2 ^ n ≤ 65536 := by
    have : 2 ^ n ≤ 2 ^ 16 := Nat.pow_le_pow_right (by omega) hn
    omega
  have HP : Hid _ := hp
  have HC : Hid _ := hc
  clear hp hc
  obtain ⟨N, hNe⟩ : ∃ N, 2 ^ n = N := ⟨_, rfl⟩
  rw [hNe] at hN2 hN hsym hlen e1 e2 HC ⊢
  have HN : Hid _ := hNe
  clear hNe
  have KZ : Hid _ := zzBytes_any (some ⟨b, off, none⟩) N cap n sym w (by unfold maxLen; omega)
  have h1 : decide ((65536 : Int) < (N : Int)) = false := decide_eq_false (by omega)
  have h2 : decide ((n : Int) < 1) = false := decide_eq_false (by omega)
  have h3 : decide ((16 : Int) < (n : Int)) = false := decide_eq_false (by omega)
  have h4 : ¬ (N ≤ sym) := by omega
  have HLEN : Hid _ := hlen
  clear hlen
  go_enter Try.func9, Try.ntmps9
  go_wp2_with fail
  refine Calls.mono KZ.out ?_
  rintro e w0 ⟨⟨bb, rfl, _⟩, rfl⟩
  clear KZ
  cases bb
  · go_wp2
    go_ret
    exact ⟨rfl, Below.refl _ _⟩
  go_wp2
  clear h1 h2 h3 h4
  go_loop [7] (fun i => ∃ k : Nat, 1 ≤ k ∧ k ≤ N ∧ i = .int .i64 k ∧ BandTo P0 k) (fun i => N - (intOf i).toNat)
  case atStart => exact ⟨1, by omega, by omega, rfl, fun j h1 h2 => by omega⟩
  case round =>
    obtain ⟨k, hk1, hk, rfl, hband⟩ := hrel
    have HB : Hid _ := hband
    clear hband
    by_cases hkN : k < N
    · have hcell := HC.out k hkN
      obtain ⟨x, hx⟩ : ∃ x, P0.getD k 0 = x := ⟨_, rfl⟩
      rw [hx] at hcell
      have HX : Hid _ := hx
      clear hx
      have t0 : (k : Int) < (N : Int) := by omega
      rcases (show x < 31 ∨ (31 ≤ x ∧ 2017 < x) ∨ (31 ≤ x ∧ x ≤ 2017) from by omega) with q | ⟨q, q'⟩ | ⟨q, q'⟩
      · have t1 : decide ((x : Int) < 31) = true := decide_eq_true (by omega)
        go_wp2
        go_ret
        exact ⟨rfl, Below.refl _ _⟩
      · have t1 : decide ((x : Int) < 31) = false := decide_eq_false (by omega)
        have t2 : decide ((2017 : Int) < (x : Int)) = true := decide_eq_true (by omega)
        go_wp2
        go_ret
        exact ⟨rfl, Below.refl _ _⟩
      · have t1 : decide ((x : Int) < 31) = false := decide_eq_false (by omega)
        have t2 : decide ((2017 : Int) < (x : Int)) = false := decide_eq_false (by omega)
        go_wp2
        go_round
        case rel => exact ⟨k + 1, by omega, by omega, by go_num, BandTo.step HB.out (by rw [HX.out]; exact q) (by rw [HX.out]; exact q')⟩
        case measure => simp [intOf]; omega
    · obtain rfl : N = k := by omega
      have hBand : Band P0 := fun i q1 q2 => HB.out i q1 (by rw [HLEN.out] at q2; exact q2)
      have HBD : Hid _ := hBand
      have hcl : Hid _ := clone_any b off N cap P0 w0 hN HLEN.out hb HC.out
      clear hBand HB
      go_wp2_with fail
      refine Calls.mono hcl.out ?_
      rintro e wa ⟨rfl, ha, hba⟩
      have hlta := lt_of_heap ha
      have HBA : Hid _ := hba
      have HA : Hid (wa.heap[w0.heap.size]? = some (.cells (pv P0) 30 (0, 0))) := ha
      have hcl2 : Hid _ := clone_any w0.heap.size 0 N N P0 wa hN HLEN.out hlta (fun k hk => by
        rw [Nat.zero_add, cell_of_row wa _ k _ 30 (0, 0) ha]
        exact pv_get P0 k (by rw [HLEN.out]; exact hk))
      clear hcl ha hba HC
      go_wp2_with fail
      refine Calls.mono hcl2.out ?_
      rintro e wb ⟨rfl, hb', hbb⟩
      have hltb := lt_of_heap hb'
      have HST : Hid _ := enc_start n sym P0 wa.heap.size wb hb'
      have HA1 : Hid (wb.heap[w0.heap.size]? = some (.cells (pv P0) 30 (0, 0))) := by
        have e : wb.heap[w0.heap.size]? = wa.heap[w0.heap.size]? := hbb.block _ hlta
        exact e.trans HA.out
      have HBB : Hid (Below w0.heap.size w0 wb) := HBA.out.trans (hbb.mono (Nat.le_of_lt hlta))
      clear hcl2 hb' hbb HA HBA
      go_wp2
      go_loopw [10, 11] (fun mv kv wr => ∃ j m : Nat, j ≤ n ∧ mv = .int .u32 m ∧ m = mK n sym j ∧ kv = .int .i64 ((n : Int) - 1 - j) ∧ ERel n sym P0 wb.heap.size wa.heap.size wb j wr) (fun _ kv _ => (intOf kv + 1).toNat)
      case atStart =>
        refine ⟨0, 1, Nat.zero_le _, rfl, (mK_zero n sym HP.out.symlt).symm, ?_, HST.out⟩
        simp
      case round =>
        obtain ⟨j, m, hj, rfl, hm, rfl, he⟩ := hrel
        have HE : Hid _ := he
        have HM : Hid _ := hm
        clear he hm HST
        by_cases hjn : j < n
        · have eb := and_bit sym (n - 1 - j) (by omega)
          obtain ⟨bt, hbt⟩ : ∃ bt, bitK n sym j = bt := ⟨_, rfl⟩
          have hbt' : sym / 2 ^ (n - 1 - j) % 2 = bt := hbt
          rw [hbt'] at eb
          have hb01 : bt < 2 := by have := bitK_01 n sym j; omega
          have hml : m < 65536 := by
            have q1 := mK_lt n sym j HP.out.symlt (by omega)
            have q2 : 2 ^ (j + 1) ≤ 2 ^ n := Nat.pow_le_pow_right (by omega) (by omega)
            have q3 := HM.out
            have q4 := HN.out
            omega
          have em1 : IntKind.u32.wrap ((m : Int) * 2) = (m : Int) * 2 := by rw [IntKind.wrap_u32]; omega
          have em2 := or_bit m bt (by omega) hb01
          have HSB : Hid _ := step_bit HP.out HBD.out hjn HE.out N N m bt HN.out HM.out hbt.symm
          have HMK : Hid (2 * m + bt = mK n sym (j + 1)) := by rw [mK_succ n sym j hjn, ← HM.out, hbt]; exact rfl
          have hjI : (j : Int) < (n : Int) := by omega
          clear hbt hbt' hb01 HE
          go_wp2_with fail
          refine Calls.mono HSB.out ?_
          rintro e wx ⟨rfl, he'⟩
          have HE' : Hid _ := he'
          clear he' HSB
          go_wp2
          go_roundw
          case rel => exact ⟨j + 1, 2 * m + bt, by omega, rfl, HMK.out, by simp; omega, HE'.out⟩
          case measure => simp [intOf]; omega
        · obtain rfl : n = j := by omega
          have HF0 : Hid _ := flush_start HE.out
          clear HE
          have hneg : ¬ ((0 : Int) ≤ (n : Int) - 1 - (n : Int)) := by omega
          go_wp2
          go_loopw [13] (fun iv wr => ∃ i : Nat, i ≤ 5 ∧ iv = .int .i64 i ∧ FRel n sym P0 wb.heap.size wa.heap.size wb i wr) (fun iv _ => 5 - (intOf iv).toNat)
          case atStart => exact ⟨0, by omega, rfl, HF0.out⟩
          case round =>
            obtain ⟨i, hi, rfl, hf⟩ := hrel
            have HF : Hid _ := hf
            clear hf HF0
            by_cases hi5 : i < 5
            · have HSF : Hid _ := step_flush HP.out HBD.out hi5 HF.out
              clear HF
              go_wp2_with fail
              refine Calls.mono HSF.out ?_
              rintro e wx ⟨rfl, hf'⟩
              have HF' : Hid _ := hf'
              clear hf' HSF
              go_wp2
              go_roundw
              case rel => exact ⟨i + 1, by omega, by go_num, HF'.out⟩
              case measure => simp [intOf]; omega
            · obtain rfl : i = 5 := by omega
              obtain ⟨g, l, oc, hout, hl5, hl100⟩ := FRel.outAt HP.out HBD.out HF.out
              have HO : Hid _ := hout
              have hptr := hout.ptr
              obtain ⟨hset, hol, _⟩ := HP.out.setting HBD.out
              have HSET : Hid _ := hset
              have b1 := hset.byte 1
              have b2 := hset.byte 2
              have b3 := hset.byte 3
              have b4 := hset.byte 4
              have c1 : ∀ V : World, V.heap = wr.heap → Calls Try.prog 23 #[.slice (some ⟨g, 0, none⟩) l oc, .int .i64 1] V fun e w' => e = .returned (.int .u8 (((fl n sym P0 5).out.getD 1 0 : Nat) : Int)) ∧ w' = V := fun V hV => hout.byte V hV 1 (by omega)
              have c2 : ∀ V : World, V.heap = wr.heap → Calls Try.prog 23 #[.slice (some ⟨g, 0, none⟩) l oc, .int .i64 2] V fun e w' => e = .returned (.int .u8 (((fl n sym P0 5).out.getD 2 0 : Nat) : Int)) ∧ w' = V := fun V hV => hout.byte V hV 2 (by omega)
              have c3 : ∀ V : World, V.heap = wr.heap → Calls Try.prog 23 #[.slice (some ⟨g, 0, none⟩) l oc, .int .i64 3] V fun e w' => e = .returned (.int .u8 (((fl n sym P0 5).out.getD 3 0 : Nat) : Int)) ∧ w' = V := fun V hV => hout.byte V hV 3 (by omega)
              have c4 : ∀ V : World, V.heap = wr.heap → Calls Try.prog 23 #[.slice (some ⟨g, 0, none⟩) l oc, .int .i64 4] V fun e w' => e = .returned (.int .u8 (((fl n sym P0 5).out.getD 4 0 : Nat) : Int)) ∧ w' = V := fun V hV => hout.byte V hV 4 (by omega)
              have hdst : Hid _ := dec_start (in_k HP.out.symlt HP.out.len HBD.out hset.hin 0 (Nat.zero_le _)).1 _ hset.dig
              clear hset hout
              obtain ⟨o1, h1⟩ : ∃ o, (fl n sym P0 5).out.getD 1 0 = o := ⟨_, rfl⟩
              obtain ⟨o2, h2⟩ : ∃ o, (fl n sym P0 5).out.getD 2 0 = o := ⟨_, rfl⟩
              obtain ⟨o3, h3⟩ : ∃ o, (fl n sym P0 5).out.getD 3 0 = o := ⟨_, rfl⟩
              obtain ⟨o4, h4⟩ : ∃ o, (fl n sym P0 5).out.getD 4 0 = o := ⟨_, rfl⟩
              simp only [h1] at b1 c1
              simp only [h2] at b2 c2
              simp only [h3] at b3 c3
              simp only [h4] at b4 c4
              simp only [h1, h2, h3, h4] at hdst
              obtain ⟨code, hcode⟩ : ∃ code, o1 * 16777216 + o2 * 65536 + o3 * 256 + o4 = code := ⟨_, rfl⟩
              obtain ⟨r1, r2, r3⟩ := or_four o1 o2 o3 o4 code b1 b2 b3 b4 hcode
              rw [hcode] at hdst
              have s1 : IntKind.u32.wrap ((o1 : Int) * 16777216) = (o1 : Int) * 16777216 := by rw [IntKind.wrap_u32]; omega
              have s2 : IntKind.u32.wrap ((o2 : Int) * 65536) = (o2 : Int) * 65536 := by rw [IntKind.wrap_u32]; omega
              have s3 : IntKind.u32.wrap ((o3 : Int) * 256) = (o3 : Int) * 256 := by rw [IntKind.wrap_u32]; omega
              have C1 : Hid _ := c1
              have C2 : Hid _ := c2
              have C3 : Hid _ := c3
              have C4 : Hid _ := c4
              clear h1 h2 h3 h4 c1 c2 c3 c4 hcode
              obtain ⟨ve, hep, hbe⟩ := HF.out
              have HPR : Hid (wr.heap[wa.heap.size]? = some (.cells (pv (Pk n sym P0 n)) 30 (0, 0))) := hep.pr
              have HBE : Hid (Below wa.heap.size wb wr) := hbe
              have HA2 : Hid (wr.heap[w0.heap.size]? = some (.cells (pv P0) 30 (0, 0))) := by
                have e : wr.heap[w0.heap.size]? = wb.heap[w0.heap.size]? := hbe.block _ hlta
                exact e.trans HA1.out
              clear hep hbe HF HA1
              go_wp2
              go_quiet ((go_at_call 23; first | (with_reducible exact Calls.quiet_of_same (C1.out _ (heap_drewN' _ _))) | (with_reducible exact Calls.quiet_of_same (C2.out _ (heap_drewN' _ _))) | (with_reducible exact Calls.quiet_of_same (C3.out _ (heap_drewN' _ _))) | (with_reducible exact Calls.quiet_of_same (C4.out _ (heap_drewN' _ _)))))
              clear r1 r2 r3 s1 s2 s3 C1 C2 C3 C4 b1 b2 b3 b4
              obtain ⟨k1, k2, k3, k4⟩ := HO.out.bs (wr.drewN nq) (heap_drewN' _ _)
              have HZ : Hid _ := zztree_any g w0.heap.size (wr.drewN nq) n sym P0 _ _ _ code l oc N (bv (fl n sym P0 5).out) HSET.out hdst.out k1 hl100 k2 k3 k4 (by rw [heap_drewN']; exact HA2.out)
              rw [HN.out] at HZ
              clear k1 k2 k3 k4 hdst
              go_wp2_with fail
              refine Calls.mono HZ.out ?_
              rintro en w2 ⟨ra, rb, rc, B2, rfl, hB2, hrow2, hbel2⟩
              clear HZ
              have hsz : (wr.drewN nq).heap.size = wr.heap.size := by rw [heap_drewN']
              rw [hsz] at hB2 hbel2
              have hltA : wa.heap.size < wr.heap.size := lt_of_heap HPR.out
              have hrowA : w2.heap[wa.heap.size]? = some (.cells (pv (Pk n sym P0 n)) 30 (0, 0)) := by
                rw [hbel2.block _ hltA, heap_drewN']
                exact HPR.out
              have HFIN : Hid (Below w0.heap.size w0 w2) := ((HBB.out.trans (HBE.out.mono (Nat.le_of_lt hlta))).trans (below_drewN' nq (Below.refl _ _))).trans (hbel2.mono (by omega))
              have hpl : (Pk n sym P0 n).length = N := by
                have := (HSET.out.pk n (Nat.le_refl n)).1
                rw [HN.out] at this
                exact this
              obtain ⟨P1, hP1⟩ : ∃ P1, Pk n sym P0 n = P1 := ⟨_, rfl⟩
              rw [hP1] at hrow2 hrowA hpl
              have HROW2 : Hid (w2.heap[B2]? = some (.cells (pv P1) 30 (0, 0))) := hrow2
              have HROWA : Hid (w2.heap[wa.heap.size]? = some (.cells (pv P1) 30 (0, 0))) := hrowA
              have hlt2 := lt_of_heap hrow2
              have hltA2 := lt_of_heap hrowA
              clear hrow2 hrowA hP1 hbel2 HPR HBE HA2 HSET HO
              have tn : ((N : Int) != (N : Int)) = false := by simp
              have ts : ((sym : Int) != (sym : Int)) = false := by simp
              go_wp2
              go_loopw [20] (fun iv wx => ∃ i : Nat, i ≤ N ∧ iv = .int .i64 i ∧ Below w2.heap.size w2 wx) (fun iv _ => N - (intOf iv).toNat)
              case atStart => exact ⟨0, Nat.zero_le _, rfl, Below.refl _ _⟩
              case round =>
                obtain ⟨i, hi, rfl, hbx⟩ := hrel
                have HBX : Hid _ := hbx
                by_cases hiN : i < N
                · have x1 : wr.cell? ⟨B2, i, none⟩ = some (.int .u16 ((P1.getD i 0 : Nat) : Int)) := by
                    rw [hbx.cell (p := ⟨B2, i, none⟩) hlt2, cell_of_row w2 B2 i _ 30 (0, 0) HROW2.out]
                    exact pv_get P1 i (by omega)
                  have x2 : wr.cell? ⟨wa.heap.size, i, none⟩ = some (.int .u16 ((P1.getD i 0 : Nat) : Int)) := by
                    rw [hbx.cell (p := ⟨wa.heap.size, i, none⟩) hltA2, cell_of_row w2 _ i _ 30 (0, 0) HROWA.out]
                    exact pv_get P1 i (by omega)
                  obtain ⟨x, hx⟩ : ∃ x, P1.getD i 0 = x := ⟨_, rfl⟩
                  rw [hx] at x1 x2
                  clear hx hbx
                  have ti : (i : Int) < (N : Int) := by omega
                  have tx : ((x : Int) != (x : Int)) = false := by simp
                  go_wp2
                  go_quiet (fail)
                  go_wp2
                  go_roundw
                  case rel => exact ⟨i + 1, by omega, by go_num, below_drewN' _ HBX.out⟩
                  case measure => simp [intOf]; omega
                · have ti : ¬ ((i : Int) < (N : Int)) := by omega
                  clear hbx
                  go_wp2
                  go_ret
                  exact ⟨rfl, HFIN.out.trans (HBX.out.mono HFIN.out.size)⟩

end Go.Proofs.Qxb6001347a
