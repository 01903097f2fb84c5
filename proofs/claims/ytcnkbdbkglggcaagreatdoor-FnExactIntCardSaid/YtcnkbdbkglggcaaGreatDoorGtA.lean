/-
  Plain laws on floats that are whole numbers: how they are read, compared and turned back. No program.
-/
import Derived.Laws.Cover2
namespace Go.Proofs.YtcnkbdbkglggcaaGreatDoor
open Go.RowKit

/-- The float's word of a whole number from 2^52 on, below 2^53, times a power of two. -/
theorem read_big (neg : Bool) (q k : Nat) (h0 : 4503599627370496 ≤ q) (h1 : q < 9007199254740992) (hk : k < 2045) :
    Ieee.double.read ((if neg then 9223372036854775808 else 0) + (k * 4503599627370496 + q)) = .number neg q ((k : Int) - 1074) := by
  have hi : Ieee.double.infRung = 9218868437227405312 := by decide
  have hs : Ieee.double.signWeight = 9223372036854775808 := by decide
  have hb : Ieee.double.binade = 4503599627370496 := by decide
  have hp : Ieee.double.leastPlace = -1074 := by decide
  have hr : k * 4503599627370496 + q < 9218868437227405312 := by omega
  unfold Ieee.Format.read
  rw [hs, hb, hi, hp]
  dsimp only
  have e1 : ((if neg then 9223372036854775808 else 0) + (k * 4503599627370496 + q)) % 9223372036854775808 = k * 4503599627370496 + q := by
    cases neg <;> simp <;> omega
  have e2 : (((if neg then 9223372036854775808 else 0) + (k * 4503599627370496 + q)) / 9223372036854775808 % 2 == 1) = neg := by
    cases neg
    · rw [if_neg (by decide), Nat.zero_add, Nat.div_eq_of_lt (by omega)]
      rfl
    · rw [if_pos rfl, show (9223372036854775808 + (k * 4503599627370496 + q)) / 9223372036854775808 = 1 by omega]
      rfl
  rw [e1, e2, if_neg (by omega), if_pos hr]
  have e3 : (k * 4503599627370496 + q) / 4503599627370496 = k + 1 := by omega
  have e4 : (k * 4503599627370496 + q) % 4503599627370496 = q - 4503599627370496 := by omega
  rw [e3, e4, show 4503599627370496 + (q - 4503599627370496) = q by omega, show (-1074 + ((k + 1 - 1 : Nat) : Int)) = (k : Int) - 1074 by omega]

theorem comp_lt (a b : Int) : ((some (compare a b) : Option Ordering) == some .lt) = decide (a < b) := by
  show ((some (compareOfLessAndEq a b) : Option Ordering) == some .lt) = _
  unfold compareOfLessAndEq
  by_cases h : a < b
  · rw [if_pos h, decide_eq_true h]; rfl
  · rw [if_neg h, decide_eq_false h]
    split <;> rfl
theorem comp_gt (a b : Int) : ((some (compare a b) : Option Ordering) == some .gt) = decide (b < a) := by
  show ((some (compareOfLessAndEq a b) : Option Ordering) == some .gt) = _
  unfold compareOfLessAndEq
  by_cases h : a < b
  · rw [if_pos h, decide_eq_false (by omega)]; rfl
  · rw [if_neg h]
    by_cases h2 : a = b
    · rw [if_pos h2, decide_eq_false (by omega)]; rfl
    · rw [if_neg h2, decide_eq_true (by omega)]; rfl
theorem signed_val (neg : Bool) (q u : Nat) : Ieee.signed neg q u = (if neg then -1 else 1) * ((q * 2 ^ u : Nat) : Int) := by
  unfold Ieee.signed
  rw [Nat.shiftLeft_eq]
  cases neg <;> simp
/-- The float's word of a whole number below 2^53. -/
def wholeF (neg : Bool) (m : Nat) : Nat := (if neg then 9223372036854775808 else 0) + ((m.log2 + 1022) * 4503599627370496 + m * 2 ^ (52 - m.log2))
theorem log_bounds (m : Nat) (h0 : 0 < m) (h1 : m < 9007199254740992) : m.log2 ≤ 52 ∧ 4503599627370496 ≤ m * 2 ^ (52 - m.log2) ∧ m * 2 ^ (52 - m.log2) < 9007199254740992 := by
  have hl : m.log2 < 53 := (Nat.log2_lt (by omega)).2 h1
  have h2 : 2 ^ m.log2 ≤ m := Nat.log2_self_le (by omega)
  have h3 : m < 2 ^ (m.log2 + 1) := Nat.lt_log2_self
  refine ⟨by omega, ?_, ?_⟩
  · calc 4503599627370496 = 2 ^ (m.log2 + (52 - m.log2)) := by rw [show m.log2 + (52 - m.log2) = 52 by omega]
      _ = 2 ^ m.log2 * 2 ^ (52 - m.log2) := Nat.pow_add _ _ _
      _ ≤ _ := Nat.mul_le_mul_right _ h2
  · calc m * 2 ^ (52 - m.log2) < 2 ^ (m.log2 + 1) * 2 ^ (52 - m.log2) := Nat.mul_lt_mul_of_pos_right h3 (Nat.two_pow_pos _)
      _ = 2 ^ (m.log2 + 1 + (52 - m.log2)) := (Nat.pow_add _ _ _).symm
      _ = 9007199254740992 := by rw [show m.log2 + 1 + (52 - m.log2) = 53 by omega]
theorem wholeF_read (neg : Bool) (m : Nat) (h0 : 0 < m) (h1 : m < 9007199254740992) : Ieee.double.read (wholeF neg m) = .number neg (m * 2 ^ (52 - m.log2)) ((m.log2 : Int) - 52) := by
  obtain ⟨hl, ha, hb⟩ := log_bounds m h0 h1
  have := read_big neg (m * 2 ^ (52 - m.log2)) (m.log2 + 1022) ha hb (by omega)
  unfold wholeF
  rw [this, show (((m.log2 + 1022 : Nat) : Int) - 1074) = (m.log2 : Int) - 52 by omega]

theorem read_cp : Ieee.double.read 4845873199050653695 = .number false 9007199254740991 0 := by decide
theorem read_cn : Ieee.double.read 14069245235905429503 = .number true 9007199254740991 0 := by decide
theorem order_num (s t : Bool) (a b : Nat) (i j : Int) : Ieee.Datum.order (.number s a i) (.number t b j) = some (compare (Ieee.signed s a (i - min i j).toNat) (Ieee.signed t b (j - min i j).toNat)) := rfl
/-- A whole number below 2^53 is no less and no greater than the bounds of the safe ones. -/
theorem safe_lt (neg : Bool) (m : Nat) (h0 : 0 < m) (h1 : m < 9007199254740992) : (Ieee.double.order (wholeF neg m) 14069245235905429503 == some .lt) = false := by
  obtain ⟨hl, ha, hb⟩ := log_bounds m h0 h1
  unfold Ieee.Format.order
  rw [wholeF_read neg m h0 h1, read_cn, order_num, comp_lt, signed_val, signed_val, show min ((m.log2 : Int) - 52) 0 = (m.log2 : Int) - 52 by omega,
    show ((m.log2 : Int) - 52 - ((m.log2 : Int) - 52)).toNat = 0 by omega, show ((0 : Int) - ((m.log2 : Int) - 52)).toNat = 52 - m.log2 by omega]
  have h2 : m * 2 ^ (52 - m.log2) ≤ 9007199254740991 * 2 ^ (52 - m.log2) := Nat.mul_le_mul_right _ (by omega)
  refine decide_eq_false ?_
  rw [Nat.pow_zero, Nat.mul_one]
  generalize m * 2 ^ (52 - m.log2) = x at *
  generalize 9007199254740991 * 2 ^ (52 - m.log2) = y at *
  cases neg
  · rw [if_neg (by decide), if_pos rfl]; omega
  · rw [if_pos rfl]; omega
theorem safe_gt (neg : Bool) (m : Nat) (h0 : 0 < m) (h1 : m < 9007199254740992) : (Ieee.double.order (wholeF neg m) 4845873199050653695 == some .gt) = false := by
  obtain ⟨hl, ha, hb⟩ := log_bounds m h0 h1
  unfold Ieee.Format.order
  rw [wholeF_read neg m h0 h1, read_cp, order_num, comp_gt, signed_val, signed_val, show min ((m.log2 : Int) - 52) 0 = (m.log2 : Int) - 52 by omega,
    show ((m.log2 : Int) - 52 - ((m.log2 : Int) - 52)).toNat = 0 by omega, show ((0 : Int) - ((m.log2 : Int) - 52)).toNat = 52 - m.log2 by omega]
  have h2 : m * 2 ^ (52 - m.log2) ≤ 9007199254740991 * 2 ^ (52 - m.log2) := Nat.mul_le_mul_right _ (by omega)
  refine decide_eq_false ?_
  rw [Nat.pow_zero, Nat.mul_one]
  generalize m * 2 ^ (52 - m.log2) = x at *
  generalize 9007199254740991 * 2 ^ (52 - m.log2) = y at *
  cases neg
  · rw [if_neg (by decide)]; omega
  · rw [if_pos rfl, if_neg (by decide)]; omega
/-- The float's word of a number from 2^53 on. -/
def bigF (neg : Bool) (k q : Nat) : Nat := (if neg then 9223372036854775808 else 0) + (k * 4503599627370496 + q)
theorem big_sides (k q : Nat) (h0 : 4503599627370496 ≤ q) (h1 : q < 9007199254740992) (hk0 : 1075 ≤ k) (hk : k < 2045) :
    (Ieee.double.order (bigF false k q) 14069245235905429503 == some .lt) = false ∧ (Ieee.double.order (bigF false k q) 4845873199050653695 == some .gt) = true ∧ (Ieee.double.order (bigF true k q) 14069245235905429503 == some .lt) = true := by
  have hz : min ((k : Int) - 1074) 0 = 0 := by omega
  have hy : ((k : Int) - 1074 - 0).toNat = (k - 1075) + 1 := by omega
  have h2 : 9007199254740992 ≤ q * 2 ^ ((k - 1075) + 1) := by
    rw [Nat.pow_succ, Nat.mul_comm _ 2, ← Nat.mul_assoc]
    exact Nat.le_trans (show 9007199254740992 ≤ q * 2 by omega) (Nat.le_mul_of_pos_right _ (Nat.two_pow_pos _))
  unfold Ieee.Format.order bigF
  refine ⟨?_, ?_, ?_⟩
  · rw [read_big false q k h0 h1 hk, read_cn, order_num, comp_lt, signed_val, signed_val, hz, hy]
    refine decide_eq_false ?_
    generalize q * 2 ^ ((k - 1075) + 1) = x at *
    rw [if_neg (by decide), if_pos rfl]
    omega
  · rw [read_big false q k h0 h1 hk, read_cp, order_num, comp_gt, signed_val, signed_val, hz, hy]
    refine decide_eq_true ?_
    generalize q * 2 ^ ((k - 1075) + 1) = x at *
    rw [if_neg (by decide), show ((0 : Int) - 0).toNat = 0 by decide]
    omega
  · rw [read_big true q k h0 h1 hk, read_cn, order_num, comp_lt, signed_val, signed_val, hz, hy]
    refine decide_eq_true ?_
    generalize q * 2 ^ ((k - 1075) + 1) = x at *
    rw [if_pos rfl, show ((0 : Int) - 0).toNat = 0 by decide]
    omega
theorem log2_mul_pow (m n : Nat) (h : 0 < m) : (m * 2 ^ n).log2 = m.log2 + n := by
  rw [Nat.log2_eq_iff (Nat.ne_of_gt (Nat.mul_pos h (Nat.two_pow_pos _)))]
  have h2 : 2 ^ m.log2 ≤ m := Nat.log2_self_le (by omega)
  have h3 : m < 2 ^ (m.log2 + 1) := Nat.lt_log2_self
  refine ⟨?_, ?_⟩
  · rw [Nat.pow_add]
    exact Nat.mul_le_mul_right _ h2
  · rw [show m.log2 + n + 1 = m.log2 + 1 + n by omega, Nat.pow_add]
    exact Nat.mul_lt_mul_of_pos_right h3 (Nat.two_pow_pos _)
/-- Turned back it is the whole number. -/
theorem wholeF_int (neg : Bool) (m : Nat) (h0 : 0 < m) (h1 : m < 9007199254740992) : (Ieee.double.read (wholeF neg m)).toInt .zero = some (if neg then -(m : Int) else m) := by
  obtain ⟨hl, ha, hb⟩ := log_bounds m h0 h1
  rw [wholeF_read neg m h0 h1]
  unfold Ieee.Datum.toInt Ieee.Datum.integral
  dsimp only
  have hp : ((m.log2 : Int) - 52).toNat = 0 := by omega
  have hn : (-((m.log2 : Int) - 52)).toNat = 52 - m.log2 := by omega
  rw [hp, hn, Nat.shiftLeft_zero]
  unfold Ieee.Toward.cut
  dsimp only
  rw [log2_mul_pow m _ h0, show min (52 - m.log2) (m.log2 + (52 - m.log2) + 2) = 52 - m.log2 by omega, Nat.one_shiftLeft, Nat.mul_div_cancel _ (Nat.two_pow_pos _)]
  unfold Ieee.signed
  cases neg <;> simp
theorem wholeF_of (m : Nat) (h0 : 0 < m) (h1 : m < 9007199254740992) : floatOfInt .f64 (m : Int) = wholeF false m := by
  obtain ⟨hl, ha, hb⟩ := log_bounds m h0 h1
  show Ieee.double.nearest (decide ((m : Int) < 0)) (m : Int).natAbs 0 = _
  rw [decide_eq_false (by omega), Int.natAbs_natCast]
  have h2 : Ieee.double.leastPlace = -1074 := by decide
  have h3 : Ieee.double.fractionBits = 52 := rfl
  have hi : Ieee.double.infRung = 9218868437227405312 := by decide
  have hbn : Ieee.double.binade = 4503599627370496 := by decide
  unfold Ieee.Format.nearest
  rw [if_neg (by omega)]
  dsimp only
  rw [h2, h3, hi, hbn, show max ((0 : Int) + m.log2 - (52 : Nat)) (-1074) = (m.log2 : Int) - 52 by omega, show ((m.log2 : Int) - 52 - 0).toNat = 0 by omega, show ((0 : Int) - ((m.log2 : Int) - 52)).toNat = 52 - m.log2 by omega,
    show ((m.log2 : Int) - 52 - -1074).toNat = m.log2 + 1022 by omega, Nat.shiftLeft_eq]
  have hc : ∀ n, Ieee.Toward.even.cut false n 0 = n := fun n => by simp [Ieee.Toward.cut, Nat.mod_one]
  rw [hc]
  unfold Ieee.Format.word wholeF
  rw [if_neg (by decide), if_neg (by decide), Nat.zero_add]
  omega
end Go.Proofs.YtcnkbdbkglggcaaGreatDoor
