/- 'normalize' and 'bitOf': the decoder's two steps. -/
import Derived.Test.Qxb6001347aBit
import Derived.BigQuiet
import Derived.Deep.QuietTactic
import Derived.RegionTactic
namespace Go.Proofs.Qxb6001347a
open Go.RowKit Plain

/-- a decoder as a value -/
def dv (d : D) : Value := .agg #[.int .u32 (d.rng : Int), .int .u32 (d.code : Int), .int .i64 (d.ip : Int)]

/-- the call returns that value; nothing old has turned -/
def RetV (w : World) (x : Value) (en : Ending) (w' : World) : Prop := en = .returned x ∧ Below w.heap.size w w'

theorem or_u32_nat (a b : Nat) (ha : a < 4294967296) (hb : b < 4294967296) : bits .or .u32 (a : Int) (b : Int) = ((a ||| b : Nat) : Int) := by
  have hx : a ||| b < 2 ^ 32 := Nat.or_lt_two_pow (by omega) (by omega)
  have h1 : (BitVec.ofInt 32 (a : Int)).toNat = a := by
    rw [BitVec.ofInt_natCast, BitVec.toNat_ofNat]; exact Nat.mod_eq_of_lt (by omega)
  have h2 : (BitVec.ofInt 32 (b : Int)).toNat = b := by
    rw [BitVec.ofInt_natCast, BitVec.toNat_ofNat]; exact Nat.mod_eq_of_lt (by omega)
  show IntKind.u32.wrap ((BitVec.ofInt 32 (a : Int) ||| BitVec.ofInt 32 (b : Int)).toNat : Int) = _
  rw [BitVec.toNat_or, h1, h2, IntKind.wrap_u32]
  omega

theorem and_u32_nat (a b : Nat) (ha : a < 4294967296) (hb : b < 4294967296) : bits .and .u32 (a : Int) (b : Int) = ((a &&& b : Nat) : Int) := by
  have hx : a &&& b ≤ a := Nat.and_le_left
  have h1 : (BitVec.ofInt 32 (a : Int)).toNat = a := by
    rw [BitVec.ofInt_natCast, BitVec.toNat_ofNat]; exact Nat.mod_eq_of_lt (by omega)
  have h2 : (BitVec.ofInt 32 (b : Int)).toNat = b := by
    rw [BitVec.ofInt_natCast, BitVec.toNat_ofNat]; exact Nat.mod_eq_of_lt (by omega)
  show IntKind.u32.wrap ((BitVec.ofInt 32 (a : Int) &&& BitVec.ofInt 32 (b : Int)).toNat : Int) = _
  rw [BitVec.toNat_and, h1, h2, IntKind.wrap_u32]
  omega

theorem or_byte (code y : Nat) (hc : code < 16777216) (hy : y < 256) : bits .or .u32 ((code : Int) * 256) (y : Int) = (code : Int) * 256 + (y : Int) := by
  have e : (code : Int) * 256 = ((code * 256 : Nat) : Int) := by omega
  rw [e, or_u32_nat (code * 256) y (by omega) (by omega)]
  have h : code <<< 8 ||| y = code <<< 8 + y := (Nat.shiftLeft_add_eq_or_of_lt (by omega) code).symm
  rw [Nat.shiftLeft_eq] at h
  have h2 : code * 256 ||| y = code * 256 + y := h
  rw [h2]
  omega

theorem and_ip (ip : Nat) (h : ip < 60000) : bits .and .i64 (ip : Int) 65535 = (ip : Int) := by
  have h1 : (BitVec.ofInt 64 (ip : Int)).toNat = ip := by
    rw [BitVec.ofInt_natCast, BitVec.toNat_ofNat]; exact Nat.mod_eq_of_lt (by omega)
  have h2 : (BitVec.ofInt 64 (65535 : Int)).toNat = 65535 := by decide
  show IntKind.i64.wrap ((BitVec.ofInt 64 (ip : Int) &&& BitVec.ofInt 64 (65535 : Int)).toNat : Int) = _
  rw [BitVec.toNat_and, h1, h2]
  have e : ip &&& 65535 = ip % 65536 := Nat.and_two_pow_sub_one_eq_mod ip 16
  rw [e, IntKind.wrap_i64]
  omega

theorem below_two (w : World) (a b : Obj) : Below w.heap.size w ((w.alloc a).alloc b) := ((Below.refl _ _).alloc (Nat.le_refl _) _).alloc (by simp) _

set_option maxRecDepth 10000 in
set_option maxHeartbeats 1000000 in
theorem normalize_any (I : Nat) (w : World) (d : D) (inp : Nat → Nat) (hI : I < w.heap.size) (hc : w.cell? ⟨I, d.ip, none⟩ = some (.int .u8 ((inp d.ip : Nat) : Int))) (hb : inp d.ip < 256) (hip : d.ip < 60000) (hlt : d.code < d.rng) (hr : d.rng < 4294967296) :
    Calls Try.prog 31 #[dv d, .pointer (some ⟨I, 0, none⟩)] w fun en w' => RetV w (dv (dnorm inp d)) en w' := by
  obtain ⟨rng, code, ip⟩ := d
  simp only at *
  have hrI : (rng : Int) < 4294967296 := by omega
  by_cases h24 : rng < 16777216
  · have t5 : decide ((rng : Int) < 16777216) = true := by rw [decide_eq_true_iff]; omega
    have t6 : (rng : Int) < 16777216 := by omega
    have hcI : (code : Int) < 16777216 := by omega
    have n1 : ¬ I = w.heap.size := by omega
    have n2 : ¬ I = w.heap.size + 1 := by omega
    have HD : dnorm inp ⟨rng, code, ip⟩ = ⟨rng * 256, code * 256 + inp ip, ip + 1⟩ := by
      unfold dnorm
      rw [if_pos h24]
    rw [HD]
    generalize inp ip = y at *
    have e1 := or_byte code y (by omega) hb
    have e2 := and_ip ip hip
    have e3 : IntKind.u32.wrap ((code : Int) * 256) = (code : Int) * 256 := by rw [IntKind.wrap_u32]; omega
    have ei0 : (0 : Int) ≤ (ip : Int) := by omega
    have ei1 : (ip : Int) < 65536 := by omega
    have hyI : (y : Int) < 256 := by omega
    have ER : Hid (dv ⟨rng * 256, code * 256 + y, ip + 1⟩ = .agg #[.int .u32 ((rng : Int) * 256), .int .u32 ((code : Int) * 256 + (y : Int)), .int .i64 ((ip : Int) + 1)]) := by
      show dv _ = _
      unfold dv
      simp
    rw [ER.out]
    unfold dv
    simp only
    clear HD ER
    go_enter Try.func31, Try.ntmps31
    go_wp2
    go_region
    go_wp2
    exact bodyPost_ret (v := .agg #[.int .u32 ((rng : Int) * 256), .int .u32 ((code : Int) * 256 + (y : Int)), .int .i64 ((ip : Int) + 1)]) (by simp [results, Try.results31, go_sem]) rfl ⟨rfl, (below_two _ _ _).drew⟩
  · have t5 : decide ((rng : Int) < 16777216) = false := by rw [decide_eq_false_iff_not]; omega
    have HD : dnorm inp ⟨rng, code, ip⟩ = ⟨rng, code, ip⟩ := by
      unfold dnorm
      rw [if_neg h24]
    rw [HD]
    unfold dv
    simp only
    clear HD
    go_enter Try.func31, Try.ntmps31
    go_wp2
    exact bodyPost_ret (v := .agg #[.int .u32 (rng : Int), .int .u32 (code : Int), .int .i64 (ip : Int)]) (by simp [results, Try.results31, go_sem]) rfl ⟨rfl, below_two _ _ _⟩

/-- the call returns that value; the probability at ⟨Q, m⟩ is x now; nothing else below S has turned -/
def RetB (Q m : Nat) (w : World) (y : Value) (x : Nat) (en : Ending) (w' : World) : Prop := en = .returned y ∧ Below w.heap.size (w.setCell ⟨Q, m, none⟩ (.int .u16 (x : Int))) w'

theorem adapt0 (p : Nat) (h1 : 31 ≤ p) (h2 : p ≤ 2017) : IntKind.u16.wrap (((p : Int) + wrap32 ((31 + bits BinOp.and IntKind.u32 2017 4294967295 - (p : Int)) % 4294967296) / 32) % 4294967296) = ((p + (2048 - p) / 32 : Nat) : Int) := by
  have e : bits BinOp.and IntKind.u32 2017 4294967295 = 2017 := by decide
  rw [e, IntKind.wrap_u16]
  unfold wrap32
  omega

theorem adapt1 (p : Nat) (h1 : 31 ≤ p) (h2 : p ≤ 2017) : IntKind.u16.wrap (((p : Int) + wrap32 ((31 + bits BinOp.and IntKind.u32 2017 0 - (p : Int)) % 4294967296) / 32) % 4294967296) = ((p - p / 32 : Nat) : Int) := by
  have e : bits BinOp.and IntKind.u32 2017 0 = 0 := by decide
  rw [e, IntKind.wrap_u16]
  unfold wrap32
  omega

theorem below_bit (w : World) (Q m : Nat) (x : Value) (a b : Obj) : Below w.heap.size (w.setCell ⟨Q, m, none⟩ x) (((w.setCell ⟨Q, m, none⟩ x).alloc a).alloc b) :=
  ((Below.refl _ _).alloc (by simp) _).alloc (by simp) _

set_option maxRecDepth 10000 in
set_option maxHeartbeats 1000000 in
theorem bitOf_any (Q m : Nat) (w : World) (d : D) (p : Nat) (hQ : Q < w.heap.size) (hc : w.cell? ⟨Q, m, none⟩ = some (.int .u16 (p : Int))) (hf : w.frozen? ⟨Q, m, none⟩ = false) (hp1 : 31 ≤ p) (hp2 : p ≤ 2017) (hlo : 16777216 ≤ d.rng) (hr : d.rng < 4294967296) (hcd : d.code < 4294967296) :
    Calls Try.prog 28 #[dv d, .pointer (some ⟨Q, m, none⟩), .int .u32 (p : Int)] w fun en w' => RetB Q m w (.tuple #[dv (dbit d p).1, .int .u32 (((dbit d p).2 : Nat) : Int)]) (upd p (dbit d p).2) en w' := by
  have hbd : IntKind.u32.wrap ((d.rng : Int) / 2048 * (p : Int)) = ((bound d.rng p : Nat) : Int) := by
    rw [IntKind.wrap_u32]
    have h1 := bound_hi hlo hp2
    have e1 : (d.rng : Int) / 2048 * (p : Int) = ((bound d.rng p : Nat) : Int) := by unfold bound; rw [Int.natCast_mul]; rfl
    rw [e1]
    omega
  have hbr := bound_hi hlo hp2
  unfold dbit
  obtain ⟨rng, code, ip⟩ := d
  simp only at *
  generalize bound rng p = bd at *
  have n1 : ¬ Q = w.heap.size := by omega
  have n2 : ¬ Q = w.heap.size + 1 := by omega
  have hrI : (rng : Int) < 4294967296 := by omega
  have hcI : (code : Int) < 4294967296 := by omega
  have hb1 : (bd : Int) ≤ (rng : Int) := by omega
  by_cases hlt : code < bd
  · rw [if_pos hlt]
    have t5 : decide ((code : Int) < (bd : Int)) = true := by rw [decide_eq_true_iff]; omega
    have eu : upd p 0 = p + (2048 - p) / 32 := by unfold upd; rw [if_pos rfl]
    simp only
    rw [eu]
    unfold dv
    simp only
    go_enter Try.func28, Try.ntmps28
    go_wp2
    rw [adapt0 p hp1 hp2]
    exact bodyPost_ret (v := .tuple #[.agg #[.int .u32 (bd : Int), .int .u32 (code : Int), .int .i64 (ip : Int)], .int .u32 0]) (by simp [results, Try.results28, go_sem]) rfl ⟨rfl, below_bit _ _ _ _ _ _⟩
  · rw [if_neg hlt]
    have t5 : decide ((code : Int) < (bd : Int)) = false := by rw [decide_eq_false_iff_not]; omega
    have t6 : (bd : Int) ≤ (code : Int) := by omega
    have eu : upd p 1 = p - p / 32 := by unfold upd; rw [if_neg (by omega)]
    simp only
    rw [eu]
    have e1 : ((rng - bd : Nat) : Int) = (rng : Int) - (bd : Int) := by omega
    have e2 : ((code - bd : Nat) : Int) = (code : Int) - (bd : Int) := by omega
    unfold dv
    simp only
    rw [e1, e2]
    clear e1 e2
    go_enter Try.func28, Try.ntmps28
    go_wp2
    rw [adapt1 p hp1 hp2]
    exact bodyPost_ret (v := .tuple #[.agg #[.int .u32 ((rng : Int) - (bd : Int)), .int .u32 ((code : Int) - (bd : Int)), .int .i64 (ip : Int)], .int .u32 1]) (by simp [results, Try.results28, go_sem]) rfl ⟨rfl, below_bit _ _ _ _ _ _⟩

end Go.Proofs.Qxb6001347a
