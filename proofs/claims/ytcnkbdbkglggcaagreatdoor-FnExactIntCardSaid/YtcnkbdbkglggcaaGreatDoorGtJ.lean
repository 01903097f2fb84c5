/-
  The program's 'safeInt', 'parseUint' and 'parseInt' on whole numbers. Condition: at most 18 digits.
-/
import Derived.Test.YtcnkbdbkglggcaaGreatDoorGtG
import Derived.Laws.FloatArith
import Derived.WalkMore
namespace Go.Proofs.YtcnkbdbkglggcaaGreatDoor
open Go.RowKit

theorem i64_min : IntKind.i64.min = -9223372036854775808 := by decide
theorem i64_max : IntKind.i64.max = 9223372036854775807 := by decide
theorem val_of (x : Nat) (n : Int) (h : (Ieee.double.read x).toInt .zero = some n) (h0 : -9223372036854775808 ≤ n) (h1 : n ≤ 9223372036854775807) : floatToIntVal .f64 x .i64 = some n := by
  unfold floatToIntVal FloatKind.decode
  rw [show (FloatKind.f64).format = Ieee.double from rfl, h]
  dsimp only
  rw [i64_min, i64_max, if_pos ⟨h0, h1⟩]
theorem whole_val (neg : Bool) (m : Nat) (h0 : 0 < m) (h1 : m < 9007199254740992) : floatToIntVal .f64 (wholeF neg m) .i64 = some (if neg then -(m : Int) else m) := by
  refine val_of _ _ (wholeF_int neg m h0 h1) ?_ ?_
  · cases neg
    · rw [if_neg (by decide)]; omega
    · rw [if_pos rfl]; omega
  · cases neg
    · rw [if_neg (by decide)]; omega
    · rw [if_pos rfl]; omega
theorem safe_run (w : World) (x : Nat) (n : Int) (s1 : ((FloatKind.f64).format.order x 14069245235905429503 == some .lt) = false) (s2 : ((FloatKind.f64).format.order x 4845873199050653695 == some .gt) = false) (hv : floatToIntVal .f64 x .i64 = some n) :
    Calls Tryz.prog 45 #[.float .f64 x] w fun e w' => e = .returned (.tuple #[.int .i64 n, .bool true]) ∧ w' = w := by
  have cv : ∀ w, (convert 32 2 (.float .f64 x)).run Tryz.prog w = .ok (.int .i64 n) w := fun w => run_convert_float_int w 32 2 .f64 .i64 x n (by kernel_rfl) Tryz.underlying2 hv
  clear hv
  go_enter Tryz.func45, Tryz.ntmps45
  go_wp2_with fail
  go_ret2
  exact ⟨rfl, rfl⟩
theorem safe_off (w : World) (x : Nat) (s1 : ((FloatKind.f64).format.order x 14069245235905429503 == some .lt) = true ∨ ((FloatKind.f64).format.order x 14069245235905429503 == some .lt) = false ∧ ((FloatKind.f64).format.order x 4845873199050653695 == some .gt) = true) :
    Calls Tryz.prog 45 #[.float .f64 x] w fun e w' => e = .returned (.tuple #[.int .i64 0, .bool false]) ∧ w' = w := by
  go_enter Tryz.func45, Tryz.ntmps45
  rcases s1 with s1 | ⟨s1, s2⟩
  all_goals
    go_wp2_with fail
    go_ret2
    exact ⟨rfl, rfl⟩
theorem fmt_eq : (FloatKind.f64).format = Ieee.double := rfl
theorem safe_flt (w : World) (neg : Bool) (m : Nat) (h0 : 0 < m) (h1 : m < 9007199254740992) : Calls Tryz.prog 45 #[.float .f64 (wholeF neg m)] w fun e w' => e = .returned (.tuple #[.int .i64 (if neg then -(m : Int) else m), .bool true]) ∧ w' = w :=
  safe_run w _ _ (by rw [fmt_eq]; exact safe_lt neg m h0 h1) (by rw [fmt_eq]; exact safe_gt neg m h0 h1) (whole_val neg m h0 h1)
theorem safe_zero (w : World) : Calls Tryz.prog 45 #[.float .f64 0] w fun e w' => e = .returned (.tuple #[.int .i64 0, .bool true]) ∧ w' = w :=
  safe_run w 0 0 (by decide) (by decide) (val_of 0 0 (by decide) (by decide) (by decide))
theorem safe_big (w : World) (neg : Bool) (k q : Nat) (h0 : 4503599627370496 ≤ q) (h1 : q < 9007199254740992) (hk0 : 1075 ≤ k) (hk : k < 2045) : Calls Tryz.prog 45 #[.float .f64 (bigF neg k q)] w fun e w' => e = .returned (.tuple #[.int .i64 0, .bool false]) ∧ w' = w := by
  obtain ⟨b1, b2, b3⟩ := big_sides k q h0 h1 hk0 hk
  refine safe_off w _ ?_
  rw [fmt_eq]
  cases neg
  · exact .inr ⟨b1, b2⟩
  · exact .inl b3
set_option maxHeartbeats 2000000 in
theorem puint_digs (w : World) (s : ByteArray) (hd : DigsAt s 0) : Calls Tryz.prog 64 #[.string s] w fun e w' => e = .returned (.tuple #[.int .u64 (dv s 0 s.size), .bool true]) ∧ w' = w := by
  have hl := hd.lt
  have hle := hd.le
  have D := Lib.hid hd
  have e0 : ((0 : Int) == (s.size : Int)) = false := beq_eq_false_iff_ne.2 (by omega)
  have e1 : decide (s = ByteArray.empty) = false := decide_eq_false (by rintro rfl; exact absurd hl (by decide))
  clear hd
  go_enter Tryz.func64, Tryz.ntmps64
  go_wp2_with fail
  go_step3
  go_wp2_with fail
  go_loopg [4, 5] s.size (fun g v4 v5 wr => ∃ k : Nat, k ≤ s.size ∧ v4 = .int .i64 k ∧ v5 = .int .u64 (dv s 0 k) ∧ wr = w ∧ Hid (g = s.size - k))
  case atStart => exact ⟨0, by omega, rfl, rfl, rfl, rfl⟩
  case round =>
    obtain ⟨k, hk, rfl, rfl, rfl, hh⟩ := hrel
    by_cases hlt : k < s.size
    · have hk1 : 48 ≤ (s[k].toNat : Int) ∧ (s[k].toNat : Int) ≤ 57 := by
        have h1 := D.out.dig k (by omega) hlt
        have h3 := bt_lt hlt
        unfold isDig at h1
        omega
      have hv : (dv s 0 k : Int) < 100000000000000000 := by
        have h1 := dv_lt s 0 k fun x hx => D.out.dig (0 + x) (by omega) (by omega)
        have h2 : 10 ^ k ≤ 10 ^ 17 := Nat.pow_le_pow_right (by omega) (by omega)
        omega
      have hnext : ((dv s 0 (k + 1) : Nat) : Int) = (dv s 0 k : Int) * 10 + ((s[k].toNat : Int) - 48) := by
        have h3 := bt_lt hlt
        have h5 : (bt s (0 + k)).toNat = s[k].toNat := by rw [Nat.zero_add, ← h3]; rfl
        have h6 : 48 ≤ s[k].toNat := by omega
        rw [show dv s 0 (k + 1) = dv s 0 k * 10 + ((bt s (0 + k)).toNat - 48) from rfl, h5]
        omega
      have HN := Lib.hid hnext
      clear hnext
      have g48 : decide ((s[k].toNat : Int) < 48) = false := decide_eq_false (by omega)
      have g57 : decide (57 < (s[k].toNat : Int)) = false := decide_eq_false (by omega)
      have gl : decide ((dv s 0 k : Int) * 10 + ((s[k].toNat : Int) - 48) < (dv s 0 k : Int)) = false := decide_eq_false (by omega)
      go_wp2_with fail
      go_roundg (s.size - (k + 1))
      case measure => have := hh.out; omega
      case rel => exact ⟨k + 1, by omega, by go_num, by rw [HN.out], rfl, rfl⟩
    · have hE : k = s.size := by omega
      subst hE
      go_wp2_with fail
      rw [Exit.noGoto_ret]
      refine bodyPost_ret (v := .tuple #[.int .u64 (dv s 0 s.size), .bool true]) ?_ rfl ⟨rfl, rfl⟩
      simp [results, Tryz.results64, go_sem]
end Go.Proofs.YtcnkbdbkglggcaaGreatDoor
