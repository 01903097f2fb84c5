/-
  A whole number between 0 and 2^52 is a float that is not 0, and so is its opposite. Plain law, no program.
-/
import Derived.Laws.Cover2
namespace Go.Proofs.YtcnkbdbkglggcaaGreatDoor
open Go.RowKit

theorem even_cut_zero (n : Nat) : Ieee.Toward.even.cut false n 0 = n := by
  simp [Ieee.Toward.cut, Nat.mod_one]
theorem nearest_pos (m : Nat) (h0 : 0 < m) (h1 : m < 4503599627370496) : ∃ x, 1 ≤ x ∧ Ieee.double.nearest false m 0 = min x Ieee.double.infRung := by
  have hl : m.log2 < 52 := (Nat.log2_lt (by omega)).2 h1
  have hlast : max ((0 : Int) + m.log2 - (Ieee.double.fractionBits : Nat)) Ieee.double.leastPlace = (m.log2 : Int) - 52 := by
    have h2 : Ieee.double.leastPlace = -1074 := by decide
    have h3 : Ieee.double.fractionBits = 52 := rfl
    rw [h2, h3]
    omega
  unfold Ieee.Format.nearest
  rw [if_neg (by omega)]
  dsimp only
  rw [hlast, show ((m.log2 : Int) - 52 - 0).toNat = 0 by omega, even_cut_zero]
  refine ⟨_, ?_, by unfold Ieee.Format.word; rw [if_neg (by decide)]⟩
  have : m ≤ m <<< (0 - ((m.log2 : Int) - 52)).toNat := by
    rw [Nat.shiftLeft_eq]
    exact Nat.le_mul_of_pos_right _ (Nat.two_pow_pos _)
  omega
theorem order_ne (r : Nat) (h0 : 1 ≤ r) (h1 : r ≤ Ieee.double.infRung) : (Ieee.double.order r 0 != some .eq) = true := by
  have hi : Ieee.double.infRung = 9218868437227405312 := by decide
  have hs : Ieee.double.signWeight = 9223372036854775808 := by decide
  have hb : Ieee.double.binade = 4503599627370496 := by decide
  rw [hi] at h1
  have hz : Ieee.double.read 0 = .number false 0 (-1074) := by decide
  have hn : ∀ (mg : Nat) (p : Int), 0 < mg → (Ieee.Datum.order (.number false mg p) (.number false 0 (-1074)) != some .eq) = true := fun mg p hm => by
    have hx : ∀ k : Nat, compare (((mg <<< k : Nat)) : Int) ((0 <<< ((-1074 : Int) - min p (-1074)).toNat : Nat) : Int) = .gt := fun k => by
      have h3 : 0 < mg <<< k := by
        rw [Nat.shiftLeft_eq]
        exact Nat.mul_pos hm (Nat.two_pow_pos _)
      rw [Nat.zero_shiftLeft]
      show compareOfLessAndEq _ _ = _
      unfold compareOfLessAndEq
      rw [if_neg (by omega), if_neg (by omega)]
    show (some (compare (Ieee.signed false mg _) (Ieee.signed false 0 _)) != some .eq) = true
    unfold Ieee.signed
    rw [if_neg (by decide), if_neg (by decide), hx]
    rfl
  unfold Ieee.Format.order
  rw [hz]
  unfold Ieee.Format.read
  rw [hs, hb, hi, Nat.mod_eq_of_lt (show r < 9223372036854775808 by omega), Nat.div_eq_of_lt (show r < 9223372036854775808 by omega)]
  dsimp only
  split
  · exact hn _ _ (by omega)
  · split
    · exact hn _ _ (by omega)
    · split
      · rfl
      · omega
theorem float_ne (m : Nat) (h0 : 0 < m) (h1 : m < 4503599627370496) : ((FloatKind.f64).format.order (floatOfInt .f64 (m : Int)) 0 != some .eq) = true := by
  obtain ⟨x, hx1, hx⟩ := nearest_pos m h0 h1
  have hf : floatOfInt .f64 (m : Int) = min x Ieee.double.infRung := by
    rw [← hx]
    show Ieee.double.nearest (decide ((m : Int) < 0)) (m : Int).natAbs 0 = _
    rw [decide_eq_false (by omega), Int.natAbs_natCast]
  rw [hf]
  have hi : Ieee.double.infRung = 9218868437227405312 := by decide
  exact order_ne _ (by rw [hi]; omega) (by omega)
/-- Negation flips the sign bit. -/
theorem flip_add (r : Nat) (h : r < 9223372036854775808) : r ^^^ 9223372036854775808 = 9223372036854775808 + r := by
  have h1 := Nat.two_pow_add_eq_or_of_lt (i := 63) (b := r) (by omega) 1
  have h2 : r ^^^ 9223372036854775808 = 9223372036854775808 ||| r := by
    apply Nat.eq_of_testBit_eq
    intro i
    rw [Nat.testBit_xor, Nat.testBit_or]
    by_cases hi : i = 63
    · subst hi
      rw [Nat.testBit_lt_two_pow (show r < 2 ^ 63 by omega)]
      simp
    · have h3 : Nat.testBit 9223372036854775808 i = false := by
        rw [show (9223372036854775808 : Nat) = 2 ^ 63 by decide, Nat.testBit_two_pow]
        simpa using fun h => hi h.symm
      rw [h3]
      simp
  rw [h2]
  simpa using h1.symm
theorem order_ne_neg (r : Nat) (h0 : 1 ≤ r) (h1 : r ≤ Ieee.double.infRung) : (Ieee.double.order (9223372036854775808 + r) 0 != some .eq) = true := by
  have hi : Ieee.double.infRung = 9218868437227405312 := by decide
  have hs : Ieee.double.signWeight = 9223372036854775808 := by decide
  have hb : Ieee.double.binade = 4503599627370496 := by decide
  rw [hi] at h1
  have hz : Ieee.double.read 0 = .number false 0 (-1074) := by decide
  have hn : ∀ (mg : Nat) (p : Int), 0 < mg → (Ieee.Datum.order (.number true mg p) (.number false 0 (-1074)) != some .eq) = true := fun mg p hm => by
    have hx : ∀ k : Nat, compare (-((mg <<< k : Nat) : Int)) ((0 <<< ((-1074 : Int) - min p (-1074)).toNat : Nat) : Int) = .lt := fun k => by
      have h3 : 0 < mg <<< k := by
        rw [Nat.shiftLeft_eq]
        exact Nat.mul_pos hm (Nat.two_pow_pos _)
      rw [Nat.zero_shiftLeft]
      show compareOfLessAndEq _ _ = _
      unfold compareOfLessAndEq
      rw [if_pos (by omega)]
    show (some (compare (Ieee.signed true mg _) (Ieee.signed false 0 _)) != some .eq) = true
    unfold Ieee.signed
    rw [if_pos rfl, if_neg (by decide), hx]
    rfl
  unfold Ieee.Format.order
  rw [hz]
  unfold Ieee.Format.read
  rw [hs, hb, hi, show (9223372036854775808 + r) % 9223372036854775808 = r by omega, show (9223372036854775808 + r) / 9223372036854775808 = 1 by omega]
  dsimp only
  split
  · exact hn _ _ (by omega)
  · split
    · exact hn _ _ (by omega)
    · split
      · rfl
      · omega
theorem float_ne_neg (m : Nat) (h0 : 0 < m) (h1 : m < 4503599627370496) : ((FloatKind.f64).format.order (Op.negFloat .f64 (floatOfInt .f64 (m : Int))) 0 != some .eq) = true := by
  obtain ⟨x, hx1, hx⟩ := nearest_pos m h0 h1
  have hf : floatOfInt .f64 (m : Int) = min x Ieee.double.infRung := by
    rw [← hx]
    show Ieee.double.nearest (decide ((m : Int) < 0)) (m : Int).natAbs 0 = _
    rw [decide_eq_false (by omega), Int.natAbs_natCast]
  have hi : Ieee.double.infRung = 9218868437227405312 := by decide
  have hr : min x Ieee.double.infRung < 9223372036854775808 := by rw [hi]; omega
  have hg : Op.negFloat .f64 (floatOfInt .f64 (m : Int)) = 9223372036854775808 + min x Ieee.double.infRung := by
    rw [hf, ← flip_add _ hr]
    rfl
  rw [hg]
  exact order_ne_neg _ (by rw [hi]; omega) (by omega)
end Go.Proofs.YtcnkbdbkglggcaaGreatDoor
