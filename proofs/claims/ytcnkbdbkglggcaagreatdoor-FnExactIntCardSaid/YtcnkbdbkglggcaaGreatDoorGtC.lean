/-
  Plain laws on the bits of a float's word, for the library's reading of great whole numbers. No program, no condition.
-/
import Derived.Laws.BitsLemmas
import Derived.Laws.BitsAllLaws
import Derived.Laws.Cover2
namespace Go.Proofs.YtcnkbdbkglggcaaGreatDoor
open Go.RowKit

theorem wrap_u64' (n : Int) : IntKind.u64.wrap n = n % 18446744073709551616 := by simp [IntKind.wrap, IntKind.bits, IntKind.signed]
theorem mask32 (x : Int) (h0 : 0 ≤ x) (h1 : x < 18446744073709551616) : bits .and .u64 x 4294967295 = x % 4294967296 := by
  rw [u64_and x 4294967295 h0 h1 (by decide) (by decide)]
  have h2 : (4294967295 : Int).toNat = 2 ^ 32 - 1 := by decide
  rw [h2, Nat.and_two_pow_sub_one_eq_mod]
  omega
theorem mask1 (x : Int) (h0 : 0 ≤ x) (h1 : x < 18446744073709551616) : bits .and .u64 x 1 = x % 2 := by
  rw [u64_and x 1 h0 h1 (by decide) (by decide)]
  have h2 : (1 : Int).toNat = 1 := by decide
  rw [h2, nat_mask1]
  omega
theorem or1 (x : Int) (h0 : 0 ≤ x) (h1 : x < 18446744073709551615) : bits .or .u64 x 1 = x + (1 - x % 2) := by
  rw [u64_or x 1 h0 (by omega) (by decide) (by decide)]
  have h2 : (1 : Int).toNat = 1 := by decide
  have h3 : x.toNat ||| 1 = 2 * (x.toNat / 2) + 1 := by
    have h4 : x.toNat = 2 * (x.toNat / 2) + x.toNat % 2 := by omega
    have h5 := Nat.two_pow_add_eq_or_of_lt (i := 1) (b := 1) (by decide) (x.toNat / 2)
    rcases Nat.mod_two_eq_zero_or_one x.toNat with h6 | h6
    · rw [h6] at h4
      conv => lhs; rw [h4]
      simpa using h5.symm
    · have h7 := Nat.two_pow_add_eq_or_of_lt (i := 1) (b := x.toNat % 2) (by omega) (x.toNat / 2)
      rw [h6] at h7 h4
      conv => lhs; rw [h4]
      have h8 : 2 ^ 1 * (x.toNat / 2) + 1 = 2 * (x.toNat / 2) + 1 := by omega
      rw [h8] at h7
      rw [h7, Nat.or_assoc]
      simp
  rw [h2, h3]
  omega
theorem and_low (R : Nat) (h : R < 4503599627370496) : R &&& 18442240474082181119 = R := by
  have h1 : R &&& 18442240474082181119 ≤ R := Nat.and_le_left
  have h2 := Nat.and_mod_two_pow (a := R) (b := 18442240474082181119) (n := 52)
  rw [show (18442240474082181119 : Nat) % 2 ^ 52 = 2 ^ 52 - 1 by decide, Nat.and_two_pow_sub_one_eq_mod, Nat.mod_mod, Nat.mod_eq_of_lt (show R < 2 ^ 52 by omega), Nat.mod_eq_of_lt (show (R &&& 18442240474082181119) < 2 ^ 52 by omega)] at h2
  exact h2
theorem strip0 (R : Nat) (h : R < 4503599627370496) : (4503599627370496 + R) &&& 18442240474082181119 = R := by
  have h1 := nat_join 52 4503599627370496 R (by decide) (by omega)
  rw [← h1, Nat.and_or_distrib_right, and_low R h, show (4503599627370496 : Nat) &&& 18442240474082181119 = 0 by decide, Nat.zero_or]
theorem strip1 (R : Nat) (h : R < 4503599627370496) : (9223372036854775808 + (4503599627370496 + R)) &&& 18442240474082181119 = 9223372036854775808 + R := by
  have h1 := nat_join 63 9223372036854775808 (4503599627370496 + R) (by decide) (by omega)
  have h2 := nat_join 63 9223372036854775808 R (by decide) (by omega)
  rw [← h1, Nat.and_or_distrib_right, strip0 R h, show (9223372036854775808 : Nat) &&& 18442240474082181119 = 9223372036854775808 by decide, h2]
theorem put0 (E R : Nat) (h : R < 4503599627370496) : R ||| E * 4503599627370496 = E * 4503599627370496 + R := by
  rw [Nat.or_comm]
  exact nat_join 52 _ R (by omega) (by omega)
theorem put1 (E R : Nat) (h : R < 4503599627370496) (hE : E < 2048) : (9223372036854775808 + R) ||| E * 4503599627370496 = 9223372036854775808 + (E * 4503599627370496 + R) := by
  have h2 := nat_join 63 9223372036854775808 R (by decide) (by omega)
  have h3 := nat_join 63 9223372036854775808 (E * 4503599627370496 + R) (by decide) (by omega)
  rw [← h2, Nat.or_assoc, put0 E R h, h3]
theorem bit52 (m : Nat) (h : m / 4503599627370496 % 2 = 1) : m &&& 4503599627370496 = 4503599627370496 := by
  have := nat_bit 52 m
  rw [show (2 : Nat) ^ 52 = 4503599627370496 by decide, h] at this
  omega
/-- The word that 'pack64' makes. -/
def packW (neg : Bool) (M k : Nat) : Int := (((if neg then 9223372036854775808 else 0) + (k * 4503599627370496 + M) : Nat) : Int)
/-- The sign and a number of 53 digits. -/
def sgn (neg : Bool) (M : Nat) : Int := (((if neg then 9223372036854775808 else 0) + M : Nat) : Int)
theorem sgn_or (neg : Bool) (M : Nat) (h : M < 9007199254740992) : bits .or .u64 (sgn neg 0) (M : Int) = sgn neg M := by
  cases neg
  · show bits .or .u64 ((0 : Nat) : Int) (M : Int) = ((0 + M : Nat) : Int)
    rw [u64_or_nat 0 M (by decide) (by omega), Nat.zero_or, Nat.zero_add]
  · show bits .or .u64 ((9223372036854775808 + 0 : Nat) : Int) (M : Int) = ((9223372036854775808 + M : Nat) : Int)
    rw [u64_or_nat _ M (by decide) (by omega)]
    have := nat_join 63 9223372036854775808 M (by decide) (by omega)
    rw [Nat.add_zero, this]
theorem sgn_lt (neg : Bool) (M : Nat) (h : M < 9007199254740992) : 0 ≤ sgn neg M ∧ sgn neg M < 18446744073709551616 := by
  unfold sgn
  cases neg <;> simp <;> omega
theorem pack_and (neg : Bool) (M : Nat) (h0 : 4503599627370496 ≤ M) (h1 : M < 9007199254740992) : bits .and .u64 (sgn neg M) 4503599627370496 = 4503599627370496 := by
  have hs := sgn_lt neg M h1
  rw [u64_and _ _ hs.1 hs.2 (by decide) (by decide), show (4503599627370496 : Int).toNat = 4503599627370496 by decide, bit52]
  · rfl
  · unfold sgn
    cases neg <;> simp <;> omega
theorem pack_strip (neg : Bool) (M : Nat) (h0 : 4503599627370496 ≤ M) (h1 : M < 9007199254740992) : bits .andNot .u64 (sgn neg M) 4503599627370496 = sgn neg (M - 4503599627370496) := by
  have hs := sgn_lt neg M h1
  rw [u64_andNot _ _ hs.1 hs.2 (by decide) (by decide), show 18446744073709551615 - (4503599627370496 : Int).toNat = 18442240474082181119 by decide]
  unfold sgn
  cases neg
  · have := strip0 (M - 4503599627370496) (by omega)
    rw [show 4503599627370496 + (M - 4503599627370496) = M by omega] at this
    simp [this]
  · have := strip1 (M - 4503599627370496) (by omega)
    rw [show 4503599627370496 + (M - 4503599627370496) = M by omega] at this
    simp only [if_true, Int.toNat_natCast]
    rw [this]
theorem pack_put (neg : Bool) (R E : Nat) (h : R < 4503599627370496) (hE : E < 2048) (hE2 : 1 ≤ E) : bits .or .u64 (sgn neg R) ((E * 4503599627370496 : Nat) : Int) = packW neg (R + 4503599627370496) (E - 1) := by
  have hs := sgn_lt neg R (by omega)
  rw [u64_or _ _ hs.1 hs.2 (by omega) (by omega), Int.toNat_natCast]
  unfold sgn packW
  cases neg
  · have := put0 E R h
    simp only [Bool.false_eq_true, if_false, Nat.zero_add, Int.toNat_natCast]
    rw [this]
    omega
  · have := put1 E R h hE
    simp only [if_true, Int.toNat_natCast]
    rw [this]
    omega
end Go.Proofs.YtcnkbdbkglggcaaGreatDoor
