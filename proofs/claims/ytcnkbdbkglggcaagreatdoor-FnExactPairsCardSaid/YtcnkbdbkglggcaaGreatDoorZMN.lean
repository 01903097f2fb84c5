/-
  Plain laws on floats that are whole numbers: how they are read, compared and turned back. No program.
  The library's small functions that scale a whole number to a float's word. Condition: what the table of powers of ten holds at the power nought; the numbers are in their ranges.
  The library's 'Len64' on numbers of 53 to 60 digits. No condition but the range.
  The library's 'parseFloat64' on every number of 64 digits and every power from -345 to 310: it returns. Condition: the table of powers holds numbers.
-/
import Derived.Test.YtcnkbdbkglggcaaGreatDoorZMM
import Derived.Test.YtcnkbdbkglggcaaGreatDoorZMK
import Derived.Laws.Cover2
import Derived.IntWalk
import Derived.BigQuiet
import Derived.Deep.RegionWith
import Derived.Deep.CutBlock
import Derived.Deep.DeepCutAuto
set_option linter.unusedVariables false
set_option linter.unusedSimpArgs false
namespace Go.Proofs.YtcnkbdbkglggcaaGreatDoor
open Go.RowKit

/-- The float's word of a whole number from 2^52 on, below 2^53, times a power of two. -/
theorem read_big (neg : Bool) (q k : Nat) (h0 : 4503599627370496 ≤ q) (h1 : q < 9007199254740992) (hk : k < 2045) :
    Ieee.double.read ((if neg then 9223372036854775808 else 0) + (k * 4503599627370496 + q)) = .number neg q ((k : Int) - 1074) := by
  have hi : Ieee.double.infRung = 9218868437227405312 := by decide
  have hs : Ieee.double.signWeight = 9223372036854775808 := by decide
  have hb : Ieee.double.binade = 4503599627370496 := by decide
  have hp : Ieee.double.leastPlace = -1074 := by decide
  have hr : k * 4503599627370496 + q < 9218868437227405312 := by omega
  unfold Ieee.Format.read
  rw [hs, hb, hi, hp]
  dsimp only
  have e1 : ((if neg then 9223372036854775808 else 0) + (k * 4503599627370496 + q)) % 9223372036854775808 = k * 4503599627370496 + q := by
    cases neg <;> simp <;> omega
  have e2 : (((if neg then 9223372036854775808 else 0) + (k * 4503599627370496 + q)) / 9223372036854775808 % 2 == 1) = neg := by
    cases neg
    · rw [if_neg (by decide), Nat.zero_add, Nat.div_eq_of_lt (by omega)]
      rfl
    · rw [if_pos rfl, show (9223372036854775808 + (k * 4503599627370496 + q)) / 9223372036854775808 = 1 by omega]
      rfl
  rw [e1, e2, if_neg (by omega), if_pos hr]
  have e3 : (k * 4503599627370496 + q) / 4503599627370496 = k + 1 := by omega
  have e4 : (k * 4503599627370496 + q) % 4503599627370496 = q - 4503599627370496 := by omega
  rw [e3, e4, show 4503599627370496 + (q - 4503599627370496) = q by omega, show (-1074 + ((k + 1 - 1 : Nat) : Int)) = (k : Int) - 1074 by omega]

theorem comp_lt (a b : Int) : ((some (compare a b) : Option Ordering) == some .lt) = decide (a < b) := by
  show ((some (compareOfLessAndEq a b) : Option Ordering) == some .lt) = _
  unfold compareOfLessAndEq
  by_cases h : a < b
  · rw [if_pos h, decide_eq_true h]; rfl
  · rw [if_neg h, decide_eq_false h]
    split <;> rfl
theorem comp_gt (a b : Int) : ((some (compare a b) : Option Ordering) == some .gt) = decide (b < a) := by
  show ((some (compareOfLessAndEq a b) : Option Ordering) == some .gt) = _
  unfold compareOfLessAndEq
  by_cases h : a < b
  · rw [if_pos h, decide_eq_false (by omega)]; rfl
  · rw [if_neg h]
    by_cases h2 : a = b
    · rw [if_pos h2, decide_eq_false (by omega)]; rfl
    · rw [if_neg h2, decide_eq_true (by omega)]; rfl
theorem signed_val (neg : Bool) (q u : Nat) : Ieee.signed neg q u = (if neg then -1 else 1) * ((q * 2 ^ u : Nat) : Int) := by
  unfold Ieee.signed
  rw [Nat.shiftLeft_eq]
  cases neg <;> simp
/-- The float's word of a whole number below 2^53. -/
def wholeF (neg : Bool) (m : Nat) : Nat := (if neg then 9223372036854775808 else 0) + ((m.log2 + 1022) * 4503599627370496 + m * 2 ^ (52 - m.log2))
theorem log_bounds (m : Nat) (h0 : 0 < m) (h1 : m < 9007199254740992) : m.log2 ≤ 52 ∧ 4503599627370496 ≤ m * 2 ^ (52 - m.log2) ∧ m * 2 ^ (52 - m.log2) < 9007199254740992 := by
  have hl : m.log2 < 53 := (Nat.log2_lt (by omega)).2 h1
  have h2 : 2 ^ m.log2 ≤ m := Nat.log2_self_le (by omega)
  have h3 : m < 2 ^ (m.log2 + 1) := Nat.lt_log2_self
  refine ⟨by omega, ?_, ?_⟩
  · calc 4503599627370496 = 2 ^ (m.log2 + (52 - m.log2)) := by rw [show m.log2 + (52 - m.log2) = 52 by omega]
      _ = 2 ^ m.log2 * 2 ^ (52 - m.log2) := Nat.pow_add _ _ _
      _ ≤ _ := Nat.mul_le_mul_right _ h2
  · calc m * 2 ^ (52 - m.log2) < 2 ^ (m.log2 + 1) * 2 ^ (52 - m.log2) := Nat.mul_lt_mul_of_pos_right h3 (Nat.two_pow_pos _)
      _ = 2 ^ (m.log2 + 1 + (52 - m.log2)) := (Nat.pow_add _ _ _).symm
      _ = 9007199254740992 := by rw [show m.log2 + 1 + (52 - m.log2) = 53 by omega]
theorem wholeF_read (neg : Bool) (m : Nat) (h0 : 0 < m) (h1 : m < 9007199254740992) : Ieee.double.read (wholeF neg m) = .number neg (m * 2 ^ (52 - m.log2)) ((m.log2 : Int) - 52) := by
  obtain ⟨hl, ha, hb⟩ := log_bounds m h0 h1
  have := read_big neg (m * 2 ^ (52 - m.log2)) (m.log2 + 1022) ha hb (by omega)
  unfold wholeF
  rw [this, show (((m.log2 + 1022 : Nat) : Int) - 1074) = (m.log2 : Int) - 52 by omega]

theorem read_cp : Ieee.double.read 4845873199050653695 = .number false 9007199254740991 0 := by decide
theorem read_cn : Ieee.double.read 14069245235905429503 = .number true 9007199254740991 0 := by decide
theorem order_num (s t : Bool) (a b : Nat) (i j : Int) : Ieee.Datum.order (.number s a i) (.number t b j) = some (compare (Ieee.signed s a (i - min i j).toNat) (Ieee.signed t b (j - min i j).toNat)) := rfl
/-- A whole number below 2^53 is no less and no greater than the bounds of the safe ones. -/
theorem safe_lt (neg : Bool) (m : Nat) (h0 : 0 < m) (h1 : m < 9007199254740992) : (Ieee.double.order (wholeF neg m) 14069245235905429503 == some .lt) = false := by
  obtain ⟨hl, ha, hb⟩ := log_bounds m h0 h1
  unfold Ieee.Format.order
  rw [wholeF_read neg m h0 h1, read_cn, order_num, comp_lt, signed_val, signed_val, show min ((m.log2 : Int) - 52) 0 = (m.log2 : Int) - 52 by omega,
    show ((m.log2 : Int) - 52 - ((m.log2 : Int) - 52)).toNat = 0 by omega, show ((0 : Int) - ((m.log2 : Int) - 52)).toNat = 52 - m.log2 by omega]
  have h2 : m * 2 ^ (52 - m.log2) ≤ 9007199254740991 * 2 ^ (52 - m.log2) := Nat.mul_le_mul_right _ (by omega)
  refine decide_eq_false ?_
  rw [Nat.pow_zero, Nat.mul_one]
  generalize m * 2 ^ (52 - m.log2) = x at *
  generalize 9007199254740991 * 2 ^ (52 - m.log2) = y at *
  cases neg
  · rw [if_neg (by decide), if_pos rfl]; omega
  · rw [if_pos rfl]; omega
theorem safe_gt (neg : Bool) (m : Nat) (h0 : 0 < m) (h1 : m < 9007199254740992) : (Ieee.double.order (wholeF neg m) 4845873199050653695 == some .gt) = false := by
  obtain ⟨hl, ha, hb⟩ := log_bounds m h0 h1
  unfold Ieee.Format.order
  rw [wholeF_read neg m h0 h1, read_cp, order_num, comp_gt, signed_val, signed_val, show min ((m.log2 : Int) - 52) 0 = (m.log2 : Int) - 52 by omega,
    show ((m.log2 : Int) - 52 - ((m.log2 : Int) - 52)).toNat = 0 by omega, show ((0 : Int) - ((m.log2 : Int) - 52)).toNat = 52 - m.log2 by omega]
  have h2 : m * 2 ^ (52 - m.log2) ≤ 9007199254740991 * 2 ^ (52 - m.log2) := Nat.mul_le_mul_right _ (by omega)
  refine decide_eq_false ?_
  rw [Nat.pow_zero, Nat.mul_one]
  generalize m * 2 ^ (52 - m.log2) = x at *
  generalize 9007199254740991 * 2 ^ (52 - m.log2) = y at *
  cases neg
  · rw [if_neg (by decide)]; omega
  · rw [if_pos rfl, if_neg (by decide)]; omega
/-- The float's word of a number from 2^53 on. -/
def bigF (neg : Bool) (k q : Nat) : Nat := (if neg then 9223372036854775808 else 0) + (k * 4503599627370496 + q)
theorem big_sides (k q : Nat) (h0 : 4503599627370496 ≤ q) (h1 : q < 9007199254740992) (hk0 : 1075 ≤ k) (hk : k < 2045) :
    (Ieee.double.order (bigF false k q) 14069245235905429503 == some .lt) = false ∧ (Ieee.double.order (bigF false k q) 4845873199050653695 == some .gt) = true ∧ (Ieee.double.order (bigF true k q) 14069245235905429503 == some .lt) = true := by
  have hz : min ((k : Int) - 1074) 0 = 0 := by omega
  have hy : ((k : Int) - 1074 - 0).toNat = (k - 1075) + 1 := by omega
  have h2 : 9007199254740992 ≤ q * 2 ^ ((k - 1075) + 1) := by
    rw [Nat.pow_succ, Nat.mul_comm _ 2, ← Nat.mul_assoc]
    exact Nat.le_trans (show 9007199254740992 ≤ q * 2 by omega) (Nat.le_mul_of_pos_right _ (Nat.two_pow_pos _))
  unfold Ieee.Format.order bigF
  refine ⟨?_, ?_, ?_⟩
  · rw [read_big false q k h0 h1 hk, read_cn, order_num, comp_lt, signed_val, signed_val, hz, hy]
    refine decide_eq_false ?_
    generalize q * 2 ^ ((k - 1075) + 1) = x at *
    rw [if_neg (by decide), if_pos rfl]
    omega
  · rw [read_big false q k h0 h1 hk, read_cp, order_num, comp_gt, signed_val, signed_val, hz, hy]
    refine decide_eq_true ?_
    generalize q * 2 ^ ((k - 1075) + 1) = x at *
    rw [if_neg (by decide), show ((0 : Int) - 0).toNat = 0 by decide]
    omega
  · rw [read_big true q k h0 h1 hk, read_cn, order_num, comp_lt, signed_val, signed_val, hz, hy]
    refine decide_eq_true ?_
    generalize q * 2 ^ ((k - 1075) + 1) = x at *
    rw [if_pos rfl, show ((0 : Int) - 0).toNat = 0 by decide]
    omega
theorem log2_mul_pow (m n : Nat) (h : 0 < m) : (m * 2 ^ n).log2 = m.log2 + n := by
  rw [Nat.log2_eq_iff (Nat.ne_of_gt (Nat.mul_pos h (Nat.two_pow_pos _)))]
  have h2 : 2 ^ m.log2 ≤ m := Nat.log2_self_le (by omega)
  have h3 : m < 2 ^ (m.log2 + 1) := Nat.lt_log2_self
  refine ⟨?_, ?_⟩
  · rw [Nat.pow_add]
    exact Nat.mul_le_mul_right _ h2
  · rw [show m.log2 + n + 1 = m.log2 + 1 + n by omega, Nat.pow_add]
    exact Nat.mul_lt_mul_of_pos_right h3 (Nat.two_pow_pos _)
/-- Turned back it is the whole number. -/
theorem wholeF_int (neg : Bool) (m : Nat) (h0 : 0 < m) (h1 : m < 9007199254740992) : (Ieee.double.read (wholeF neg m)).toInt .zero = some (if neg then -(m : Int) else m) := by
  obtain ⟨hl, ha, hb⟩ := log_bounds m h0 h1
  rw [wholeF_read neg m h0 h1]
  unfold Ieee.Datum.toInt Ieee.Datum.integral
  dsimp only
  have hp : ((m.log2 : Int) - 52).toNat = 0 := by omega
  have hn : (-((m.log2 : Int) - 52)).toNat = 52 - m.log2 := by omega
  rw [hp, hn, Nat.shiftLeft_zero]
  unfold Ieee.Toward.cut
  dsimp only
  rw [log2_mul_pow m _ h0, show min (52 - m.log2) (m.log2 + (52 - m.log2) + 2) = 52 - m.log2 by omega, Nat.one_shiftLeft, Nat.mul_div_cancel _ (Nat.two_pow_pos _)]
  unfold Ieee.signed
  cases neg <;> simp
theorem wholeF_of (m : Nat) (h0 : 0 < m) (h1 : m < 9007199254740992) : floatOfInt .f64 (m : Int) = wholeF false m := by
  obtain ⟨hl, ha, hb⟩ := log_bounds m h0 h1
  show Ieee.double.nearest (decide ((m : Int) < 0)) (m : Int).natAbs 0 = _
  rw [decide_eq_false (by omega), Int.natAbs_natCast]
  have h2 : Ieee.double.leastPlace = -1074 := by decide
  have h3 : Ieee.double.fractionBits = 52 := rfl
  have hi : Ieee.double.infRung = 9218868437227405312 := by decide
  have hbn : Ieee.double.binade = 4503599627370496 := by decide
  unfold Ieee.Format.nearest
  rw [if_neg (by omega)]
  dsimp only
  rw [h2, h3, hi, hbn, show max ((0 : Int) + m.log2 - (52 : Nat)) (-1074) = (m.log2 : Int) - 52 by omega, show ((m.log2 : Int) - 52 - 0).toNat = 0 by omega, show ((0 : Int) - ((m.log2 : Int) - 52)).toNat = 52 - m.log2 by omega,
    show ((m.log2 : Int) - 52 - -1074).toNat = m.log2 + 1022 by omega, Nat.shiftLeft_eq]
  have hc : ∀ n, Ieee.Toward.even.cut false n 0 = n := fun n => by simp [Ieee.Toward.cut, Nat.mod_one]
  rw [hc]
  unfold Ieee.Format.word wholeF
  rw [if_neg (by decide), if_neg (by decide), Nat.zero_add]
  omega
end Go.Proofs.YtcnkbdbkglggcaaGreatDoor

namespace Go.Proofs.YtcnkbdbkglggcaaGreatDoor
open Go.RowKit

/-- What the library's variables hold that the slow road reads. -/
structure Glp (w : World) : Prop where
  gl : Gl w
  hi : w.cell? ⟨11, 696, none⟩ = some (.int .u64 9223372036854775808)
  lo : w.cell? ⟨11, 697, none⟩ = some (.int .u64 0)
  lt : 11 < w.heap.size
theorem Glp.upd {w w' : World} (h : Glp w) (hu : Upd [] w w') : Glp w' :=
  ⟨h.gl.upd hu, by rw [hu.cell (p := ⟨11, 696, none⟩) h.lt (by simp)]; exact h.hi, by rw [hu.cell (p := ⟨11, 697, none⟩) h.lt (by simp)]; exact h.lo, Nat.lt_of_lt_of_le h.lt hu.size⟩
theorem log2_zero (w : World) : Calls Tryz.prog 124 #[.int .i64 0] w fun e w' => e = .returned (.int .i64 0) ∧ w' = w := by
  go_enter Tryz.func124, Tryz.ntmps124
  go_wp2_with fail
  go_ret
  exact ⟨rfl, rfl⟩
theorem unmin_53 (w : World) : Calls Tryz.prog 132 #[.int .u64 9007199254740992] w fun e w' => e = .returned (.int .u64 36028797018963966) ∧ w' = w := by
  go_enter Tryz.func132, Tryz.ntmps132
  go_wp2_with fail
  go_ret
  exact ⟨rfl, rfl⟩
theorem b2int (w : World) (b : Bool) : Calls Tryz.prog 131 #[.bool b] w fun e w' => e = .returned (.int .i64 (if b then 1 else 0)) ∧ w' = w := by
  go_enter Tryz.func131, Tryz.ntmps131
  cases b
  all_goals
    go_wp2_with fail
    go_ret
    exact ⟨rfl, rfl⟩
theorem round_u (w : World) (u : Int) (h0 : 0 ≤ u) (h1 : u < 36028797018963968) : Calls Tryz.prog 129 #[.int .u64 u] w fun e w' => e = .returned (.int .u64 ((u + 1 + u / 4 % 2) / 4)) ∧ w' = w := by
  have m1 := mask1 (u / 4) (by omega) (by omega)
  go_enter Tryz.func129, Tryz.ntmps129
  go_wp2_with fail
  go_ret
  exact ⟨rfl, rfl⟩
theorem mul_hi (w : World) (x : Int) (h0 : 0 ≤ x) (h1 : x < 18446744073709551616) (h2 : x % 2 = 0) : Calls Tryz.prog 157 #[.int .u64 x, .int .u64 9223372036854775808] w fun e w' => e = .returned (.tuple #[.int .u64 (x / 2), .int .u64 0]) ∧ w' = w := by
  have a1 := mask32 x h0 h1
  have a2 : bits .and .u64 9223372036854775808 4294967295 = 0 := by decide
  have a3 : bits .and .u64 0 4294967295 = 0 := by decide
  have w1 : IntKind.u64.wrap (x % 4294967296 * 2147483648) = x % 4294967296 * 2147483648 := by rw [wrap_u64']; omega
  have w2 : IntKind.u64.wrap (x / 4294967296 * 2147483648) = x / 4294967296 * 2147483648 := by rw [wrap_u64']; omega
  have w3 : IntKind.u64.wrap (x * 9223372036854775808) = 0 := by rw [wrap_u64']; omega
  have w4 : IntKind.u64.wrap (x / 4294967296 * 2147483648 + x % 4294967296 * 2147483648 / 4294967296) = x / 2 := by rw [wrap_u64']; omega
  have HH := Lib.hid (show x / 4294967296 * 2147483648 + x % 4294967296 * 2147483648 / 4294967296 = x / 2 by omega)
  go_enter Tryz.func157, Tryz.ntmps157
  go_wp2_with fail
  refine bodyPost_ret (v := .tuple #[.int .u64 (x / 2), .int .u64 0]) ?_ rfl ⟨rfl, rfl⟩
  simp [results, Tryz.results157, go_sem, HH.out]
theorem mul_zero (w : World) (x : Int) (h0 : 0 ≤ x) (h1 : x < 18446744073709551616) : Calls Tryz.prog 157 #[.int .u64 x, .int .u64 0] w fun e w' => e = .returned (.tuple #[.int .u64 0, .int .u64 0]) ∧ w' = w := by
  have a1 := mask32 x h0 h1
  have a3 : bits .and .u64 0 4294967295 = 0 := by decide
  go_enter Tryz.func157, Tryz.ntmps157
  go_wp2_with fail
  refine bodyPost_ret (v := .tuple #[.int .u64 0, .int .u64 0]) ?_ rfl ⟨rfl, rfl⟩
  simp [results, Tryz.results157, go_sem]
theorem pack_w (w : World) (neg : Bool) (M : Nat) (h0 : 4503599627370496 ≤ M) (h1 : M < 9007199254740992) (e : Nat) (he : e < 100) :
    Calls Tryz.prog 165 #[.int .u64 (sgn neg M), .int .i64 e] w fun r w' => r = .returned (.tuple #[.float .f64 (bigF neg (1074 + e) M), .nilIface]) ∧ w' = w := by
  have a1 := pack_and neg M h0 h1
  have a2 := pack_strip neg M h0 h1
  have rf := run_frombits
  have w1 : IntKind.u64.wrap (1075 + (e : Int)) = 1075 + (e : Int) := by rw [wrap_u64']; omega
  have w2 : IntKind.u64.wrap ((1075 + (e : Int)) * 4503599627370496) = (1075 + (e : Int)) * 4503599627370496 := by rw [wrap_u64']; omega
  have a3 : bits .or .u64 (sgn neg (M - 4503599627370496)) ((1075 + (e : Int)) * 4503599627370496) = packW neg M (1074 + e) := by
    have := pack_put neg (M - 4503599627370496) (1075 + e) (by omega) (by omega) (by omega)
    rw [show M - 4503599627370496 + 4503599627370496 = M by omega, show 1075 + e - 1 = 1074 + e by omega] at this
    rw [← this]
    congr 1
  have a4 : (packW neg M (1074 + e)).toNat = bigF neg (1074 + e) M := by
    unfold packW bigF
    rw [Int.toNat_natCast]
  have d1 : decide (972 ≤ (e : Int)) = false := decide_eq_false (by omega)
  generalize sgn neg M = S at *
  generalize sgn neg (M - 4503599627370496) = S2 at *
  generalize packW neg M (1074 + e) = PW at *
  go_enter Tryz.func165, Tryz.ntmps165
  go_wp2_with fail
  refine bodyPost_ret (v := .tuple #[.float .f64 (bigF neg (1074 + e) M), .nilIface]) ?_ rfl ⟨rfl, rfl⟩
  simp [results, Tryz.results165, go_sem]
theorem prescale_0 (w : World) (hg : Glp w) (g : Nat) (hb : Blk w g 172 #[.int .u64 0, .int .u64 0, .int .i64 0]) :
    Calls Tryz.prog 123 #[.pointer (some ⟨g, 0, none⟩), .int .i64 (-11), .int .i64 0, .int .i64 0] w fun e w' => e = .returned (.tuple #[]) ∧ Blk w' g 172 #[.int .u64 9223372036854775808, .int .u64 0, .int .i64 8] ∧ Upd [g] w w' := by
  have h1 := hg.hi
  have h2 := hg.lo
  have t0 := hb.cell 0
  have t1 := hb.cell 1
  have t2 := hb.cell 2
  have tf := hb.frozen
  simp only [List.getElem?_toArray, List.getElem?_cons_zero, List.getElem?_cons_succ] at t0 t1 t2
  have hne : g ≠ 11 := fun h => by
    subst h
    have := hb.cell 696
    rw [h1] at this
    simp at this
  have HB := Lib.hid hb
  clear hb
  go_enter Tryz.func123, Tryz.ntmps123
  go_wp2_with fail
  go_end0
  exact ⟨rfl, ((HB.out.set_ 0 _).set_ 1 _).set_ 2 _, (((Upd.refl [g] w).setCell (p := ⟨g, 0, none⟩) (.inl (.head _)) _).setCell (p := ⟨g, 1, none⟩) (.inl (.head _)) _).setCell (p := ⟨g, 2, none⟩) (.inl (.head _)) _⟩
/-- A number scaled down by 2^9, its last bit told by what is cut off. -/
def scl (D : Int) : Int := if D / 2 % 256 = 0 then D / 512 else D / 512 + (1 - D / 512 % 2)
theorem scl_bounds (D : Int) (h0 : 9223372036854775808 ≤ D) (h1 : D < 18446744073709551616) : 18014398509481984 ≤ scl D ∧ scl D < 36028797018963968 := by
  unfold scl
  split <;> omega
set_option maxHeartbeats 2000000 in
theorem uscale_0 (w : World) (g : Nat) (D : Int) (h0 : 9223372036854775808 ≤ D) (h1 : D < 18446744073709551616) (h2 : D % 2 = 0) (hb : Blk w g 172 #[.int .u64 9223372036854775808, .int .u64 0, .int .i64 8]) :
    Calls Tryz.prog 125 #[.int .u64 D, .pointer (some ⟨g, 0, none⟩)] w fun e w' => e = .returned (.int .u64 (scl D)) ∧ Upd [] w w' := by
  have t0 := hb.cell 0
  have t1 := hb.cell 1
  have t2 := hb.cell 2
  simp only [List.getElem?_toArray, List.getElem?_cons_zero, List.getElem?_cons_succ] at t0 t1 t2
  have m8 : bits .and .i64 8 63 = 8 := by decide
  have MH := Lib.hid (fun w => mul_hi w D (by omega) h1 h2)
  have MZ := Lib.hid (fun w => mul_zero w D (by omega) h1)
  have w1 : IntKind.u64.wrap (D / 2 / 256 * 256) = D / 2 / 256 * 256 := by rw [wrap_u64']; omega
  have o1 : bits .or .u64 (D / 2 / 256) 1 = D / 512 + (1 - D / 512 % 2) := by
    have h4 : D / 2 / 256 = D / 512 := by omega
    rw [or1 _ (by omega) (by omega), h4]
  have o2 : bits .or .u64 (D / 2 / 256) 0 = D / 512 := by
    have h4 : D / 2 / 256 = D / 512 := by omega
    rw [u64_or _ _ (by omega) (by omega) (by decide) (by decide), show (0 : Int).toNat = 0 by decide, Nat.or_zero, h4]
    omega
  by_cases hs : D / 2 % 256 = 0
  · have hr : scl D = D / 512 := by unfold scl; rw [if_pos hs]
    have HR := Lib.hid hr
    have d1 : (D / 2 / 256 * 256 != D / 2) = false := by
      have h5 : D / 2 / 256 * 256 = D / 2 := by omega
      exact bne_eq_false_iff_eq.2 h5
    have w5 : IntKind.u64.wrap (D / 2) = D / 2 := by rw [wrap_u64']; omega
    clear hr hs hb
    go_enter Tryz.func125, Tryz.ntmps125
    go_upto_region 5 with (go_at_call 157; refine (MH.out _).mono ?_; rintro e w1 ⟨rfl, rfl⟩)
    go_wp2_with (first | (go_at_call 157; refine (MZ.out _).mono ?_; rintro e w1 ⟨rfl, rfl⟩) | (go_at_call 150; refine (bool2_no _).mono ?_; rintro e w1 ⟨rfl, rfl⟩))
    have w6 : IntKind.u64.wrap (0 - 0) = 0 := by decide
    go_region_with (go_at_call 150; refine (bool2_no _).mono ?_; rintro e w1 ⟨rfl, rfl⟩)
    all_goals go_wp2_with fail
    all_goals go_ret
    all_goals exact ⟨by rw [HR.out]; rfl, (Upd.refl [] _).drew⟩
  · have hr : scl D = D / 512 + (1 - D / 512 % 2) := by unfold scl; rw [if_neg hs]
    have HR := Lib.hid hr
    have d1 : (D / 2 / 256 * 256 != D / 2) = true := by
      have : D / 2 / 256 * 256 ≠ D / 2 := by omega
      exact bne_iff_ne.2 this
    clear hr hs hb
    go_enter Tryz.func125, Tryz.ntmps125
    go_wp2_with (first | (go_at_call 157; refine (MH.out _).mono ?_; rintro e w1 ⟨rfl, rfl⟩))
    go_ret
    exact ⟨by rw [HR.out]; rfl, Upd.refl _ _⟩
end Go.Proofs.YtcnkbdbkglggcaaGreatDoor

namespace Go.Proofs.YtcnkbdbkglggcaaGreatDoor
open Go.RowKit

theorem tab_at {S : ByteArray} {n lo hi : Nat} {v : UInt8} (hall : (List.range (hi - lo)).all (fun k => S.data[lo + k]? == some v) = true) (h0 : lo ≤ n) (h1 : n < hi) (h : n < S.size) : S[n]'h = v := by
  have h2 := List.all_eq_true.1 hall (n - lo) (List.mem_range.2 (by omega))
  rw [show lo + (n - lo) = n by omega] at h2
  have h3 : S.data[n]? = some v := by simpa using h2
  have h4 := (Array.getElem?_eq_some_iff.1 h3).2
  exact h4
set_option maxRecDepth 100000 in
theorem len64_53 (w : World) (d : Int) (h0 : 4503599627370496 ≤ d) (h1 : d < 9007199254740992) : Calls Tryz.prog 102 #[.int .u64 d] w fun e w' => e = .returned (.int .i64 53) ∧ w' = w := by
  have d1 : decide (4294967296 ≤ d) = true := decide_eq_true (by omega)
  have d2 : decide (65536 ≤ d / 4294967296) = true := decide_eq_true (by omega)
  have d3 : decide (256 ≤ d / 4294967296 / 65536) = false := decide_eq_false (by omega)
  have w1 : IntKind.u8.wrap (d / 4294967296 / 65536) = d / 4294967296 / 65536 := by rw [IntKind.wrap_u8']; omega
  have r0 : 16 ≤ d / 4294967296 / 65536 := by omega
  have r1 : d / 4294967296 / 65536 < 32 := by omega
  clear h0 h1
  go_enter Tryz.func102, Tryz.ntmps102
  go_wp2_with fail
  refine bodyPost_ret (v := .int .i64 53) ?_ rfl ⟨rfl, rfl⟩
  simp [results, Tryz.results102, go_sem]
  rw [tab_at (lo := 16) (hi := 32) (v := 5) ?_ (by omega) (by omega)]
  · kernel_rfl
  · decide
set_option maxRecDepth 100000 in
theorem len64_54 (w : World) (d : Int) (h0 : 9007199254740992 ≤ d) (h1 : d < 18014398509481984) : Calls Tryz.prog 102 #[.int .u64 d] w fun e w' => e = .returned (.int .i64 54) ∧ w' = w := by
  have d1 : decide (4294967296 ≤ d) = true := decide_eq_true (by omega)
  have d2 : decide (65536 ≤ d / 4294967296) = true := decide_eq_true (by omega)
  have d3 : decide (256 ≤ d / 4294967296 / 65536) = false := decide_eq_false (by omega)
  have w1 : IntKind.u8.wrap (d / 4294967296 / 65536) = d / 4294967296 / 65536 := by rw [IntKind.wrap_u8']; omega
  have r0 : 32 ≤ d / 4294967296 / 65536 := by omega
  have r1 : d / 4294967296 / 65536 < 64 := by omega
  clear h0 h1
  go_enter Tryz.func102, Tryz.ntmps102
  go_wp2_with fail
  refine bodyPost_ret (v := .int .i64 54) ?_ rfl ⟨rfl, rfl⟩
  simp [results, Tryz.results102, go_sem]
  rw [tab_at (lo := 32) (hi := 64) (v := 6) ?_ (by omega) (by omega)]
  · kernel_rfl
  · decide
set_option maxRecDepth 100000 in
theorem len64_55 (w : World) (d : Int) (h0 : 18014398509481984 ≤ d) (h1 : d < 36028797018963968) : Calls Tryz.prog 102 #[.int .u64 d] w fun e w' => e = .returned (.int .i64 55) ∧ w' = w := by
  have d1 : decide (4294967296 ≤ d) = true := decide_eq_true (by omega)
  have d2 : decide (65536 ≤ d / 4294967296) = true := decide_eq_true (by omega)
  have d3 : decide (256 ≤ d / 4294967296 / 65536) = false := decide_eq_false (by omega)
  have w1 : IntKind.u8.wrap (d / 4294967296 / 65536) = d / 4294967296 / 65536 := by rw [IntKind.wrap_u8']; omega
  have r0 : 64 ≤ d / 4294967296 / 65536 := by omega
  have r1 : d / 4294967296 / 65536 < 128 := by omega
  clear h0 h1
  go_enter Tryz.func102, Tryz.ntmps102
  go_wp2_with fail
  refine bodyPost_ret (v := .int .i64 55) ?_ rfl ⟨rfl, rfl⟩
  simp [results, Tryz.results102, go_sem]
  rw [tab_at (lo := 64) (hi := 128) (v := 7) ?_ (by omega) (by omega)]
  · kernel_rfl
  · decide
set_option maxRecDepth 100000 in
theorem len64_56 (w : World) (d : Int) (h0 : 36028797018963968 ≤ d) (h1 : d < 72057594037927936) : Calls Tryz.prog 102 #[.int .u64 d] w fun e w' => e = .returned (.int .i64 56) ∧ w' = w := by
  have d1 : decide (4294967296 ≤ d) = true := decide_eq_true (by omega)
  have d2 : decide (65536 ≤ d / 4294967296) = true := decide_eq_true (by omega)
  have d3 : decide (256 ≤ d / 4294967296 / 65536) = false := decide_eq_false (by omega)
  have w1 : IntKind.u8.wrap (d / 4294967296 / 65536) = d / 4294967296 / 65536 := by rw [IntKind.wrap_u8']; omega
  have r0 : 128 ≤ d / 4294967296 / 65536 := by omega
  have r1 : d / 4294967296 / 65536 < 256 := by omega
  clear h0 h1
  go_enter Tryz.func102, Tryz.ntmps102
  go_wp2_with fail
  refine bodyPost_ret (v := .int .i64 56) ?_ rfl ⟨rfl, rfl⟩
  simp [results, Tryz.results102, go_sem]
  rw [tab_at (lo := 128) (hi := 256) (v := 8) ?_ (by omega) (by omega)]
  · kernel_rfl
  · decide
set_option maxRecDepth 100000 in
theorem len64_57 (w : World) (d : Int) (h0 : 72057594037927936 ≤ d) (h1 : d < 144115188075855872) : Calls Tryz.prog 102 #[.int .u64 d] w fun e w' => e = .returned (.int .i64 57) ∧ w' = w := by
  have d1 : decide (4294967296 ≤ d) = true := decide_eq_true (by omega)
  have d2 : decide (65536 ≤ d / 4294967296) = true := decide_eq_true (by omega)
  have d3 : decide (256 ≤ d / 4294967296 / 65536) = true := decide_eq_true (by omega)
  have w1 : IntKind.u8.wrap (d / 4294967296 / 65536 / 256) = d / 4294967296 / 65536 / 256 := by rw [IntKind.wrap_u8']; omega
  have r0 : 1 ≤ d / 4294967296 / 65536 / 256 := by omega
  have r1 : d / 4294967296 / 65536 / 256 < 2 := by omega
  clear h0 h1
  go_enter Tryz.func102, Tryz.ntmps102
  go_wp2_with fail
  refine bodyPost_ret (v := .int .i64 57) ?_ rfl ⟨rfl, rfl⟩
  simp [results, Tryz.results102, go_sem]
  rw [tab_at (lo := 1) (hi := 2) (v := 1) ?_ (by omega) (by omega)]
  · kernel_rfl
  · decide
set_option maxRecDepth 100000 in
theorem len64_58 (w : World) (d : Int) (h0 : 144115188075855872 ≤ d) (h1 : d < 288230376151711744) : Calls Tryz.prog 102 #[.int .u64 d] w fun e w' => e = .returned (.int .i64 58) ∧ w' = w := by
  have d1 : decide (4294967296 ≤ d) = true := decide_eq_true (by omega)
  have d2 : decide (65536 ≤ d / 4294967296) = true := decide_eq_true (by omega)
  have d3 : decide (256 ≤ d / 4294967296 / 65536) = true := decide_eq_true (by omega)
  have w1 : IntKind.u8.wrap (d / 4294967296 / 65536 / 256) = d / 4294967296 / 65536 / 256 := by rw [IntKind.wrap_u8']; omega
  have r0 : 2 ≤ d / 4294967296 / 65536 / 256 := by omega
  have r1 : d / 4294967296 / 65536 / 256 < 4 := by omega
  clear h0 h1
  go_enter Tryz.func102, Tryz.ntmps102
  go_wp2_with fail
  refine bodyPost_ret (v := .int .i64 58) ?_ rfl ⟨rfl, rfl⟩
  simp [results, Tryz.results102, go_sem]
  rw [tab_at (lo := 2) (hi := 4) (v := 2) ?_ (by omega) (by omega)]
  · kernel_rfl
  · decide
set_option maxRecDepth 100000 in
theorem len64_59 (w : World) (d : Int) (h0 : 288230376151711744 ≤ d) (h1 : d < 576460752303423488) : Calls Tryz.prog 102 #[.int .u64 d] w fun e w' => e = .returned (.int .i64 59) ∧ w' = w := by
  have d1 : decide (4294967296 ≤ d) = true := decide_eq_true (by omega)
  have d2 : decide (65536 ≤ d / 4294967296) = true := decide_eq_true (by omega)
  have d3 : decide (256 ≤ d / 4294967296 / 65536) = true := decide_eq_true (by omega)
  have w1 : IntKind.u8.wrap (d / 4294967296 / 65536 / 256) = d / 4294967296 / 65536 / 256 := by rw [IntKind.wrap_u8']; omega
  have r0 : 4 ≤ d / 4294967296 / 65536 / 256 := by omega
  have r1 : d / 4294967296 / 65536 / 256 < 8 := by omega
  clear h0 h1
  go_enter Tryz.func102, Tryz.ntmps102
  go_wp2_with fail
  refine bodyPost_ret (v := .int .i64 59) ?_ rfl ⟨rfl, rfl⟩
  simp [results, Tryz.results102, go_sem]
  rw [tab_at (lo := 4) (hi := 8) (v := 3) ?_ (by omega) (by omega)]
  · kernel_rfl
  · decide
set_option maxRecDepth 100000 in
theorem len64_60 (w : World) (d : Int) (h0 : 576460752303423488 ≤ d) (h1 : d < 1152921504606846976) : Calls Tryz.prog 102 #[.int .u64 d] w fun e w' => e = .returned (.int .i64 60) ∧ w' = w := by
  have d1 : decide (4294967296 ≤ d) = true := decide_eq_true (by omega)
  have d2 : decide (65536 ≤ d / 4294967296) = true := decide_eq_true (by omega)
  have d3 : decide (256 ≤ d / 4294967296 / 65536) = true := decide_eq_true (by omega)
  have w1 : IntKind.u8.wrap (d / 4294967296 / 65536 / 256) = d / 4294967296 / 65536 / 256 := by rw [IntKind.wrap_u8']; omega
  have r0 : 8 ≤ d / 4294967296 / 65536 / 256 := by omega
  have r1 : d / 4294967296 / 65536 / 256 < 16 := by omega
  clear h0 h1
  go_enter Tryz.func102, Tryz.ntmps102
  go_wp2_with fail
  refine bodyPost_ret (v := .int .i64 60) ?_ rfl ⟨rfl, rfl⟩
  simp [results, Tryz.results102, go_sem]
  rw [tab_at (lo := 8) (hi := 16) (v := 4) ?_ (by omega) (by omega)]
  · kernel_rfl
  · decide
end Go.Proofs.YtcnkbdbkglggcaaGreatDoor

namespace Go.Proofs.YtcnkbdbkglggcaaGreatDoor
open Go.RowKit

theorem and63 (s : Int) (h0 : 0 ≤ s) (h1 : s < 64) : bits .and .i64 s 63 = s := by
  have h : ∀ n : Nat, n < 64 → bits .and .i64 (n : Int) 63 = n := by decide
  have h2 := h s.toNat (by omega)
  rw [Int.toNat_of_nonneg h0] at h2
  exact h2
def U64Any (w : World) (e : Ending) (w' : World) : Prop := (∃ v : Int, e = .returned (.int .u64 v)) ∧ Upd [] w w'
theorem mul64_any (w : World) (x y : Int) : Calls Tryz.prog 157 #[.int .u64 x, .int .u64 y] w fun e w' => (∃ h l : Int, e = .returned (.tuple #[.int .u64 h, .int .u64 l])) ∧ w' = w := by
  go_enter Tryz.func157, Tryz.ntmps157
  go_wp2_with fail
  go_ret2
  exact ⟨⟨_, _, rfl⟩, rfl⟩
theorem log2_any (w : World) (p : Int) (h0 : -1000 ≤ p) (h1 : p ≤ 1000) : Calls Tryz.prog 124 #[.int .i64 p] w fun e w' => e = .returned (.int .i64 (p * 108853 / 32768)) ∧ w' = w := by
  have w1 : IntKind.i64.wrap (p * 108853) = p * 108853 := IntWalk.i64_in _ (by omega)
  go_enter Tryz.func124, Tryz.ntmps124
  go_wp2_with fail
  go_ret
  exact ⟨rfl, rfl⟩
theorem round_any (w : World) (u : Int) : Calls Tryz.prog 129 #[.int .u64 u] w fun e w' => (∃ v : Int, e = .returned (.int .u64 v)) ∧ w' = w := by
  go_enter Tryz.func129, Tryz.ntmps129
  go_wp2_with fail
  go_ret
  exact ⟨⟨_, rfl⟩, rfl⟩
theorem pack_any (w : World) (m e : Int) : Calls Tryz.prog 165 #[.int .u64 m, .int .i64 e] w fun r w' => (∃ x v, r = .returned (.tuple #[.float .f64 x, v]) ∧ (v = .nilIface ∨ v = .iface 105 (.int .i64 1))) ∧ w' = w := by
  have rf := run_frombits
  go_enter Tryz.func165, Tryz.ntmps165
  go_wp2_with fail
  all_goals go_ret2
  all_goals first | exact ⟨⟨_, _, rfl, .inl rfl⟩, rfl⟩ | exact ⟨⟨_, _, rfl, .inr rfl⟩, rfl⟩
theorem tab_le8 {S : ByteArray} (hall : (List.range 256).all (fun k => S.data[k]?.all (· ≤ 8)) = true) {n : Nat} (h : n < S.size) (h2 : n < 256) : (S[n]'h).toNat ≤ 8 := by
  have h3 := List.all_eq_true.1 hall n (List.mem_range.2 h2)
  have h4 : S.data[n]? = some (S[n]'h) := Array.getElem?_eq_getElem h
  rw [h4] at h3
  have h5 : (S[n]'h) ≤ 8 := by simpa using h3
  exact h5
end Go.Proofs.YtcnkbdbkglggcaaGreatDoor
