/-
  A whole number between 0 and 2^52 is a float that is not 0, and so is its opposite. Plain law, no program.
  Floats that are no NaN: products with, and quotients by, a number that is not 0 are none either. Plain law, no program.
  The library's 'atof64exact' on every number and every power: it returns. Condition: the table of powers of ten holds numbers other than 0.
-/
import Derived.Test.YtcnkbdbkglggcaaGreatDoorZMM
import Derived.Laws.Cover2
import Derived.Laws.FloatArith
import Derived.IntWalk
namespace Go.Proofs.YtcnkbdbkglggcaaGreatDoor
open Go.RowKit

theorem even_cut_zero (n : Nat) : Ieee.Toward.even.cut false n 0 = n := by
  simp [Ieee.Toward.cut, Nat.mod_one]
theorem nearest_pos (m : Nat) (h0 : 0 < m) (h1 : m < 4503599627370496) : ∃ x, 1 ≤ x ∧ Ieee.double.nearest false m 0 = min x Ieee.double.infRung := by
  have hl : m.log2 < 52 := (Nat.log2_lt (by omega)).2 h1
  have hlast : max ((0 : Int) + m.log2 - (Ieee.double.fractionBits : Nat)) Ieee.double.leastPlace = (m.log2 : Int) - 52 := by
    have h2 : Ieee.double.leastPlace = -1074 := by decide
    have h3 : Ieee.double.fractionBits = 52 := rfl
    rw [h2, h3]
    omega
  unfold Ieee.Format.nearest
  rw [if_neg (by omega)]
  dsimp only
  rw [hlast, show ((m.log2 : Int) - 52 - 0).toNat = 0 by omega, even_cut_zero]
  refine ⟨_, ?_, by unfold Ieee.Format.word; rw [if_neg (by decide)]⟩
  have : m ≤ m <<< (0 - ((m.log2 : Int) - 52)).toNat := by
    rw [Nat.shiftLeft_eq]
    exact Nat.le_mul_of_pos_right _ (Nat.two_pow_pos _)
  omega
theorem order_ne (r : Nat) (h0 : 1 ≤ r) (h1 : r ≤ Ieee.double.infRung) : (Ieee.double.order r 0 != some .eq) = true := by
  have hi : Ieee.double.infRung = 9218868437227405312 := by decide
  have hs : Ieee.double.signWeight = 9223372036854775808 := by decide
  have hb : Ieee.double.binade = 4503599627370496 := by decide
  rw [hi] at h1
  have hz : Ieee.double.read 0 = .number false 0 (-1074) := by decide
  have hn : ∀ (mg : Nat) (p : Int), 0 < mg → (Ieee.Datum.order (.number false mg p) (.number false 0 (-1074)) != some .eq) = true := fun mg p hm => by
    have hx : ∀ k : Nat, compare (((mg <<< k : Nat)) : Int) ((0 <<< ((-1074 : Int) - min p (-1074)).toNat : Nat) : Int) = .gt := fun k => by
      have h3 : 0 < mg <<< k := by
        rw [Nat.shiftLeft_eq]
        exact Nat.mul_pos hm (Nat.two_pow_pos _)
      rw [Nat.zero_shiftLeft]
      show compareOfLessAndEq _ _ = _
      unfold compareOfLessAndEq
      rw [if_neg (by omega), if_neg (by omega)]
    show (some (compare (Ieee.signed false mg _) (Ieee.signed false 0 _)) != some .eq) = true
    unfold Ieee.signed
    rw [if_neg (by decide), if_neg (by decide), hx]
    rfl
  unfold Ieee.Format.order
  rw [hz]
  unfold Ieee.Format.read
  rw [hs, hb, hi, Nat.mod_eq_of_lt (show r < 9223372036854775808 by omega), Nat.div_eq_of_lt (show r < 9223372036854775808 by omega)]
  dsimp only
  split
  · exact hn _ _ (by omega)
  · split
    · exact hn _ _ (by omega)
    · split
      · rfl
      · omega
theorem float_ne (m : Nat) (h0 : 0 < m) (h1 : m < 4503599627370496) : ((FloatKind.f64).format.order (floatOfInt .f64 (m : Int)) 0 != some .eq) = true := by
  obtain ⟨x, hx1, hx⟩ := nearest_pos m h0 h1
  have hf : floatOfInt .f64 (m : Int) = min x Ieee.double.infRung := by
    rw [← hx]
    show Ieee.double.nearest (decide ((m : Int) < 0)) (m : Int).natAbs 0 = _
    rw [decide_eq_false (by omega), Int.natAbs_natCast]
  rw [hf]
  have hi : Ieee.double.infRung = 9218868437227405312 := by decide
  exact order_ne _ (by rw [hi]; omega) (by omega)
/-- Negation flips the sign bit. -/
theorem flip_add (r : Nat) (h : r < 9223372036854775808) : r ^^^ 9223372036854775808 = 9223372036854775808 + r := by
  have h1 := Nat.two_pow_add_eq_or_of_lt (i := 63) (b := r) (by omega) 1
  have h2 : r ^^^ 9223372036854775808 = 9223372036854775808 ||| r := by
    apply Nat.eq_of_testBit_eq
    intro i
    rw [Nat.testBit_xor, Nat.testBit_or]
    by_cases hi : i = 63
    · subst hi
      rw [Nat.testBit_lt_two_pow (show r < 2 ^ 63 by omega)]
      simp
    · have h3 : Nat.testBit 9223372036854775808 i = false := by
        rw [show (9223372036854775808 : Nat) = 2 ^ 63 by decide, Nat.testBit_two_pow]
        simpa using fun h => hi h.symm
      rw [h3]
      simp
  rw [h2]
  simpa using h1.symm
theorem order_ne_neg (r : Nat) (h0 : 1 ≤ r) (h1 : r ≤ Ieee.double.infRung) : (Ieee.double.order (9223372036854775808 + r) 0 != some .eq) = true := by
  have hi : Ieee.double.infRung = 9218868437227405312 := by decide
  have hs : Ieee.double.signWeight = 9223372036854775808 := by decide
  have hb : Ieee.double.binade = 4503599627370496 := by decide
  rw [hi] at h1
  have hz : Ieee.double.read 0 = .number false 0 (-1074) := by decide
  have hn : ∀ (mg : Nat) (p : Int), 0 < mg → (Ieee.Datum.order (.number true mg p) (.number false 0 (-1074)) != some .eq) = true := fun mg p hm => by
    have hx : ∀ k : Nat, compare (-((mg <<< k : Nat) : Int)) ((0 <<< ((-1074 : Int) - min p (-1074)).toNat : Nat) : Int) = .lt := fun k => by
      have h3 : 0 < mg <<< k := by
        rw [Nat.shiftLeft_eq]
        exact Nat.mul_pos hm (Nat.two_pow_pos _)
      rw [Nat.zero_shiftLeft]
      show compareOfLessAndEq _ _ = _
      unfold compareOfLessAndEq
      rw [if_pos (by omega)]
    show (some (compare (Ieee.signed true mg _) (Ieee.signed false 0 _)) != some .eq) = true
    unfold Ieee.signed
    rw [if_pos rfl, if_neg (by decide), hx]
    rfl
  unfold Ieee.Format.order
  rw [hz]
  unfold Ieee.Format.read
  rw [hs, hb, hi, show (9223372036854775808 + r) % 9223372036854775808 = r by omega, show (9223372036854775808 + r) / 9223372036854775808 = 1 by omega]
  dsimp only
  split
  · exact hn _ _ (by omega)
  · split
    · exact hn _ _ (by omega)
    · split
      · rfl
      · omega
theorem float_ne_neg (m : Nat) (h0 : 0 < m) (h1 : m < 4503599627370496) : ((FloatKind.f64).format.order (Op.negFloat .f64 (floatOfInt .f64 (m : Int))) 0 != some .eq) = true := by
  obtain ⟨x, hx1, hx⟩ := nearest_pos m h0 h1
  have hf : floatOfInt .f64 (m : Int) = min x Ieee.double.infRung := by
    rw [← hx]
    show Ieee.double.nearest (decide ((m : Int) < 0)) (m : Int).natAbs 0 = _
    rw [decide_eq_false (by omega), Int.natAbs_natCast]
  have hi : Ieee.double.infRung = 9218868437227405312 := by decide
  have hr : min x Ieee.double.infRung < 9223372036854775808 := by rw [hi]; omega
  have hg : Op.negFloat .f64 (floatOfInt .f64 (m : Int)) = 9223372036854775808 + min x Ieee.double.infRung := by
    rw [hf, ← flip_add _ hr]
    rfl
  rw [hg]
  exact order_ne_neg _ (by rw [hi]; omega) (by omega)
end Go.Proofs.YtcnkbdbkglggcaaGreatDoor

namespace Go.Proofs.YtcnkbdbkglggcaaGreatDoor
open Go.RowKit

/-- A float that is no NaN. -/
def NN (x : Nat) : Prop := (∃ t n j, Ieee.double.read x = .number t n j) ∨ (∃ t, Ieee.double.read x = .infinity t)
/-- A float that is a number other than 0. -/
def NZ (x : Nat) : Prop := ∃ t n j, n ≠ 0 ∧ Ieee.double.read x = .number t n j
theorem nn_word (s : Bool) (r : Nat) (h : r ≤ Ieee.double.infRung) : NN (Ieee.double.word s r) := by
  have hi : Ieee.double.infRung = 9218868437227405312 := by decide
  have hs : Ieee.double.signWeight = 9223372036854775808 := by decide
  have hm : Ieee.double.word s r % Ieee.double.signWeight = r := by
    unfold Ieee.Format.word
    rw [hs]
    rw [hi] at h
    cases s <;> simp <;> omega
  unfold NN Ieee.Format.read
  dsimp only
  rw [hm]
  split
  · exact .inl ⟨_, _, _, rfl⟩
  · split
    · exact .inl ⟨_, _, _, rfl⟩
    · split
      · exact .inr ⟨_, rfl⟩
      · omega
theorem nn_nearest (s : Bool) (m : Nat) (p : Int) : NN (Ieee.double.nearest s m p) := by
  unfold Ieee.Format.nearest
  split
  · exact nn_word _ _ (Nat.zero_le _)
  · exact nn_word _ _ (Nat.min_le_right _ _)
theorem mul_nn {x y : Nat} (hx : NN x) (hy : NZ y) : ∃ r, Ieee.double.mul x y = some r ∧ NN r := by
  obtain ⟨t, n, j, hn, hy⟩ := hy
  unfold Ieee.Format.mul
  rw [hy]
  rcases hx with ⟨s, m, i, hx⟩ | ⟨s, hx⟩
  · rw [hx]
    exact ⟨_, rfl, nn_nearest _ _ _⟩
  · rw [hx]
    unfold Ieee.Datum.product
    dsimp only
    rw [if_neg hn]
    exact ⟨_, rfl, nn_word _ _ (Nat.le_refl _)⟩
theorem div_nn {x y : Nat} (hx : NN x) (hy : NZ y) : ∃ r, Ieee.double.div x y = some r ∧ NN r := by
  obtain ⟨t, n, j, hn, hy⟩ := hy
  unfold Ieee.Format.div
  rw [hy]
  rcases hx with ⟨s, m, i, hx⟩ | ⟨s, hx⟩
  · rw [hx]
    unfold Ieee.Datum.quotient
    dsimp only
    rw [if_neg hn]
    exact ⟨_, rfl, nn_nearest _ _ _⟩
  · rw [hx]
    exact ⟨_, rfl, nn_word _ _ (Nat.le_refl _)⟩
theorem nn_whole (m : Int) : NN (floatOfInt .f64 m) := by
  show NN (Ieee.double.nearest (decide (m < 0)) m.natAbs 0)
  exact nn_nearest _ _ _
theorem whole_rung (m : Nat) : floatOfInt .f64 (m : Int) ≤ Ieee.double.infRung := by
  rw [show floatOfInt .f64 (m : Int) = Ieee.double.nearest (decide ((m : Int) < 0)) (m : Int).natAbs 0 from rfl, decide_eq_false (by omega)]
  have hw : ∀ r, Ieee.double.word false r = r := fun r => by
    unfold Ieee.Format.word
    rw [if_neg (by decide)]
  unfold Ieee.Format.nearest
  split
  · rw [hw]; exact Nat.zero_le _
  · dsimp only
    rw [hw]; exact Nat.min_le_right _ _
theorem nn_neg (m : Nat) : NN (Op.negFloat .f64 (floatOfInt .f64 (m : Int))) := by
  have hi : Ieee.double.infRung = 9218868437227405312 := by decide
  have hs : Ieee.double.signWeight = 9223372036854775808 := by decide
  have h1 := whole_rung m
  generalize floatOfInt .f64 (m : Int) = r at *
  have hw : Ieee.double.word true r = 9223372036854775808 + r := by
    unfold Ieee.Format.word
    rw [if_pos rfl, hs]
  have hg : Op.negFloat .f64 r = Ieee.double.word true r := by
    rw [hw, ← flip_add r (by rw [hi] at h1; omega)]
    rfl
  rw [hg]
  exact nn_word _ _ h1
end Go.Proofs.YtcnkbdbkglggcaaGreatDoor

namespace Go.Proofs.YtcnkbdbkglggcaaGreatDoor
open Go.RowKit

structure Pw10 (w : World) (B b o cap : Nat) : Prop where
  lt : 15 < B
  size : B ≤ w.heap.size
  bB : b < B
  sl : w.cell? ⟨15, 0, none⟩ = some (.slice (some ⟨b, o, none⟩) 23 cap)
  tab : ∀ i, i < 23 → ∃ x, w.cell? ⟨b, o + i, none⟩ = some (.float .f64 x) ∧ NZ x
theorem Pw10.upd {w w' : World} {B b o cap : Nat} (h : Pw10 w B b o cap) (hu : Upd [] w w') : Pw10 w' B b o cap := by
  have e : ∀ (x y : Nat), x < B → w'.cell? ⟨x, y, none⟩ = w.cell? ⟨x, y, none⟩ := fun x y hx =>
    hu.cell (p := ⟨x, y, none⟩) (Nat.lt_of_lt_of_le hx h.size) (by simp)
  exact ⟨h.lt, Nat.le_trans h.size hu.size, h.bB, by rw [e 15 0 h.lt]; exact h.sl, fun i hi => by rw [e _ _ h.bB]; exact h.tab i hi⟩
theorem run_mulf {x y r : Nat} (h : Ieee.double.mul x y = some r) (w : World) : (binOp .mul 32 (.float .f64 x) (.float .f64 y)).run Tryz.prog w = .ok (.float .f64 r) w := by
  refine run_float_arith w .mul 32 .f64 x y r ?_
  show (FloatKind.f64).format.mul x y = some r
  rw [show (FloatKind.f64).format = Ieee.double from rfl]
  exact h
theorem run_divf {x y r : Nat} (h : Ieee.double.div x y = some r) (w : World) : (binOp .quo 32 (.float .f64 x) (.float .f64 y)).run Tryz.prog w = .ok (.float .f64 r) w := by
  refine run_float_arith w .quo 32 .f64 x y r ?_
  show (FloatKind.f64).format.div x y = some r
  rw [show (FloatKind.f64).format = Ieee.double from rfl]
  exact h
def ExAny (w : World) (e : Ending) (w' : World) : Prop := (∃ x ok, e = .returned (.tuple #[.float .f64 x, .bool ok])) ∧ w' = w
set_option maxHeartbeats 4000000 in
theorem exact_any (w : World) (hg : Gl w) (B b o cap : Nat) (hp : Pw10 w B b o cap) (m : Nat) (ex : Int) (neg : Bool) (h0 : -1000000000 ≤ ex) (h1 : ex ≤ 1000000000) :
    Calls Tryz.prog 152 #[.int .u64 m, .int .i64 ex, .bool neg] w fun e w' => ExAny w e w' := by
  have h10 := hg.mant
  have hsl := hp.sl
  have HT := Lib.hid hp.tab
  have rn := run_negf
  clear hp hg
  go_enter Tryz.func152, Tryz.ntmps152
  by_cases hm : 4503599627370496 ≤ m
  · have d1 : ((m : Int) / 4503599627370496 != 0) = true := bne_iff_ne.2 (by omega)
    go_wp2_with fail
    go_ret2
    exact ⟨⟨_, _, rfl⟩, rfl⟩
  · have d1 : ((m : Int) / 4503599627370496 != 0) = false := bne_eq_false_iff_eq.2 (by omega)
    have HF : Hid (NN (floatOfInt .f64 (m : Int))) := nn_whole _
    have HF2 : Hid (NN (Op.negFloat .f64 (floatOfInt .f64 (m : Int)))) := nn_neg m
    cases neg
    · go_upto_region 5 with fail
      clear h10 rn d1 hm HF2
      generalize floatOfInt .f64 (m : Int) = F at *
      have HFF := HF
      clear HF
      by_cases he0 : ex = 0
      · subst he0
        go_wp2_with fail
        go_ret2
        exact ⟨⟨_, _, rfl⟩, rfl⟩
      · have d0 : (ex == 0) = false := beq_eq_false_iff_ne.2 he0
        by_cases hpos : 0 < ex
        · have d1 : decide (0 < ex) = true := decide_eq_true hpos
          by_cases h37 : ex ≤ 37
          · have d2 : decide (ex ≤ 37) = true := decide_eq_true h37
            by_cases h22 : 22 < ex
            · have d3 : decide (22 < ex) = true := decide_eq_true h22
              obtain ⟨k, hk⟩ : ∃ k : Nat, ex = (k : Int) + 22 := ⟨(ex - 22).toNat, by omega⟩
              have hk23 : k < 23 := by omega
              have hkz : (k : Int) < 23 := by omega
              have w1 : IntKind.i64.wrap (ex - 22) = (k : Int) := by rw [hk, show (k : Int) + 22 - 22 = k by omega]; exact IntWalk.i64_in _ (by omega)
              obtain ⟨T, tk, nz⟩ := HT.out k hk23
              obtain ⟨r, hr, hnn⟩ := mul_nn HFF.out nz
              have M1 := run_mulf hr
              obtain ⟨T2, tk2, nz2⟩ := HT.out 22 (by decide)
              obtain ⟨r2, hr2, hnn2⟩ := mul_nn hnn nz2
              have M2 := run_mulf hr2
              clear hr hr2 hk hnn hnn2 nz nz2 he0
              obtain ⟨b1, hb1⟩ : ∃ b : Bool, ((FloatKind.f64).format.order r 4831355200913801216 == some .gt) = b := ⟨_, rfl⟩
              obtain ⟨b2, hb2⟩ : ∃ b : Bool, ((FloatKind.f64).format.order r 14054727237768577024 == some .lt) = b := ⟨_, rfl⟩
              cases b1
              all_goals cases b2
              all_goals
                go_wp2_with fail
                go_ret2
                exact ⟨⟨_, _, rfl⟩, rfl⟩
            · have d3 : decide (22 < ex) = false := decide_eq_false h22
              obtain ⟨k, hk⟩ : ∃ k : Nat, ex = (k : Int) := ⟨ex.toNat, by omega⟩
              subst hk
              have hk23 : k < 23 := by omega
              have hkz : (k : Int) < 23 := by omega
              obtain ⟨T2, tk2, nz2⟩ := HT.out k hk23
              obtain ⟨r2, hr2, hnn2⟩ := mul_nn HFF.out nz2
              have M2 := run_mulf hr2
              clear hr2 hnn2 nz2 he0
              obtain ⟨b1, hb1⟩ : ∃ b : Bool, ((FloatKind.f64).format.order F 4831355200913801216 == some .gt) = b := ⟨_, rfl⟩
              obtain ⟨b2, hb2⟩ : ∃ b : Bool, ((FloatKind.f64).format.order F 14054727237768577024 == some .lt) = b := ⟨_, rfl⟩
              have d0' : decide (k = 0) = false := decide_eq_false (by omega)
              have d0'' : (k == 0) = false := beq_eq_false_iff_ne.2 (by omega)
              have d1' : decide (0 < k) = true := decide_eq_true (by omega)
              have d2' : decide (k ≤ 37) = true := decide_eq_true (by omega)
              have d3' : decide (22 < k) = false := decide_eq_false (by omega)
              cases b1
              all_goals cases b2
              all_goals
                go_wp2_with fail
                go_ret2
                exact ⟨⟨_, _, rfl⟩, rfl⟩
          · have d2 : decide (ex ≤ 37) = false := decide_eq_false h37
            have d4 : decide (ex < 0) = false := decide_eq_false (by omega)
            go_wp2_with fail
            go_ret2
            exact ⟨⟨_, _, rfl⟩, rfl⟩
        · have d1 : decide (0 < ex) = false := decide_eq_false hpos
          have d4 : decide (ex < 0) = true := decide_eq_true (by omega)
          by_cases h22 : -22 ≤ ex
          · have d5 : decide (-22 ≤ ex) = true := decide_eq_true h22
            obtain ⟨k, hk⟩ : ∃ k : Nat, ex = -(k : Int) := ⟨(-ex).toNat, by omega⟩
            have hk23 : k < 23 := by omega
            have hkz : (k : Int) < 23 := by omega
            have w1 : IntKind.i64.wrap (-ex) = (k : Int) := by rw [hk, Int.neg_neg]; exact IntWalk.i64_in _ (by omega)
            obtain ⟨T2, tk2, nz2⟩ := HT.out k hk23
            obtain ⟨r2, hr2, hnn2⟩ := div_nn HFF.out nz2
            have M2 := run_divf hr2
            clear hr2 hnn2 nz2 he0 hk
            go_wp2_with fail
            go_ret2
            exact ⟨⟨_, _, rfl⟩, rfl⟩
          · have d5 : decide (-22 ≤ ex) = false := decide_eq_false h22
            go_wp2_with fail
            go_ret2
            exact ⟨⟨_, _, rfl⟩, rfl⟩
    · go_upto_region 5 with fail
      clear h10 rn d1 hm HF
      generalize Op.negFloat .f64 (floatOfInt .f64 (m : Int)) = F at *
      have HFF := HF2
      clear HF2
      by_cases he0 : ex = 0
      · subst he0
        go_wp2_with fail
        go_ret2
        exact ⟨⟨_, _, rfl⟩, rfl⟩
      · have d0 : (ex == 0) = false := beq_eq_false_iff_ne.2 he0
        by_cases hpos : 0 < ex
        · have d1 : decide (0 < ex) = true := decide_eq_true hpos
          by_cases h37 : ex ≤ 37
          · have d2 : decide (ex ≤ 37) = true := decide_eq_true h37
            by_cases h22 : 22 < ex
            · have d3 : decide (22 < ex) = true := decide_eq_true h22
              obtain ⟨k, hk⟩ : ∃ k : Nat, ex = (k : Int) + 22 := ⟨(ex - 22).toNat, by omega⟩
              have hk23 : k < 23 := by omega
              have hkz : (k : Int) < 23 := by omega
              have w1 : IntKind.i64.wrap (ex - 22) = (k : Int) := by rw [hk, show (k : Int) + 22 - 22 = k by omega]; exact IntWalk.i64_in _ (by omega)
              obtain ⟨T, tk, nz⟩ := HT.out k hk23
              obtain ⟨r, hr, hnn⟩ := mul_nn HFF.out nz
              have M1 := run_mulf hr
              obtain ⟨T2, tk2, nz2⟩ := HT.out 22 (by decide)
              obtain ⟨r2, hr2, hnn2⟩ := mul_nn hnn nz2
              have M2 := run_mulf hr2
              clear hr hr2 hk hnn hnn2 nz nz2 he0
              obtain ⟨b1, hb1⟩ : ∃ b : Bool, ((FloatKind.f64).format.order r 4831355200913801216 == some .gt) = b := ⟨_, rfl⟩
              obtain ⟨b2, hb2⟩ : ∃ b : Bool, ((FloatKind.f64).format.order r 14054727237768577024 == some .lt) = b := ⟨_, rfl⟩
              cases b1
              all_goals cases b2
              all_goals
                go_wp2_with fail
                go_ret2
                exact ⟨⟨_, _, rfl⟩, rfl⟩
            · have d3 : decide (22 < ex) = false := decide_eq_false h22
              obtain ⟨k, hk⟩ : ∃ k : Nat, ex = (k : Int) := ⟨ex.toNat, by omega⟩
              subst hk
              have hk23 : k < 23 := by omega
              have hkz : (k : Int) < 23 := by omega
              obtain ⟨T2, tk2, nz2⟩ := HT.out k hk23
              obtain ⟨r2, hr2, hnn2⟩ := mul_nn HFF.out nz2
              have M2 := run_mulf hr2
              clear hr2 hnn2 nz2 he0
              obtain ⟨b1, hb1⟩ : ∃ b : Bool, ((FloatKind.f64).format.order F 4831355200913801216 == some .gt) = b := ⟨_, rfl⟩
              obtain ⟨b2, hb2⟩ : ∃ b : Bool, ((FloatKind.f64).format.order F 14054727237768577024 == some .lt) = b := ⟨_, rfl⟩
              have d0' : decide (k = 0) = false := decide_eq_false (by omega)
              have d0'' : (k == 0) = false := beq_eq_false_iff_ne.2 (by omega)
              have d1' : decide (0 < k) = true := decide_eq_true (by omega)
              have d2' : decide (k ≤ 37) = true := decide_eq_true (by omega)
              have d3' : decide (22 < k) = false := decide_eq_false (by omega)
              cases b1
              all_goals cases b2
              all_goals
                go_wp2_with fail
                go_ret2
                exact ⟨⟨_, _, rfl⟩, rfl⟩
          · have d2 : decide (ex ≤ 37) = false := decide_eq_false h37
            have d4 : decide (ex < 0) = false := decide_eq_false (by omega)
            go_wp2_with fail
            go_ret2
            exact ⟨⟨_, _, rfl⟩, rfl⟩
        · have d1 : decide (0 < ex) = false := decide_eq_false hpos
          have d4 : decide (ex < 0) = true := decide_eq_true (by omega)
          by_cases h22 : -22 ≤ ex
          · have d5 : decide (-22 ≤ ex) = true := decide_eq_true h22
            obtain ⟨k, hk⟩ : ∃ k : Nat, ex = -(k : Int) := ⟨(-ex).toNat, by omega⟩
            have hk23 : k < 23 := by omega
            have hkz : (k : Int) < 23 := by omega
            have w1 : IntKind.i64.wrap (-ex) = (k : Int) := by rw [hk, Int.neg_neg]; exact IntWalk.i64_in _ (by omega)
            obtain ⟨T2, tk2, nz2⟩ := HT.out k hk23
            obtain ⟨r2, hr2, hnn2⟩ := div_nn HFF.out nz2
            have M2 := run_divf hr2
            clear hr2 hnn2 nz2 he0 hk
            go_wp2_with fail
            go_ret2
            exact ⟨⟨_, _, rfl⟩, rfl⟩
          · have d5 : decide (-22 ≤ ex) = false := decide_eq_false h22
            go_wp2_with fail
            go_ret2
            exact ⟨⟨_, _, rfl⟩, rfl⟩
end Go.Proofs.YtcnkbdbkglggcaaGreatDoor
