/-
  The library's small functions that scale a whole number to a float's word. Condition: what the table of powers of ten holds at the power nought; the numbers are in their ranges.
-/
import Derived.Test.YtcnkbdbkglggcaaGreatDoorGqF
import Derived.Test.YtcnkbdbkglggcaaGreatDoorGtA
import Derived.Test.YtcnkbdbkglggcaaGreatDoorGtC
import Derived.IntWalk
import Derived.BigQuiet
import Derived.Deep.RegionWith
import Derived.Deep.CutBlock
import Derived.Deep.DeepCutAuto
namespace Go.Proofs.YtcnkbdbkglggcaaGreatDoor
open Go.RowKit

/-- What the library's variables hold that the slow road reads. -/
structure Glp (w : World) : Prop where
  gl : Gl w
  hi : w.cell? ⟨11, 696, none⟩ = some (.int .u64 9223372036854775808)
  lo : w.cell? ⟨11, 697, none⟩ = some (.int .u64 0)
  lt : 11 < w.heap.size
theorem Glp.upd {w w' : World} (h : Glp w) (hu : Upd [] w w') : Glp w' :=
  ⟨h.gl.upd hu, by rw [hu.cell (p := ⟨11, 696, none⟩) h.lt (by simp)]; exact h.hi, by rw [hu.cell (p := ⟨11, 697, none⟩) h.lt (by simp)]; exact h.lo, Nat.lt_of_lt_of_le h.lt hu.size⟩
theorem log2_zero (w : World) : Calls Tryz.prog 124 #[.int .i64 0] w fun e w' => e = .returned (.int .i64 0) ∧ w' = w := by
  go_enter Tryz.func124, Tryz.ntmps124
  go_wp2_with fail
  go_ret
  exact ⟨rfl, rfl⟩
theorem unmin_53 (w : World) : Calls Tryz.prog 132 #[.int .u64 9007199254740992] w fun e w' => e = .returned (.int .u64 36028797018963966) ∧ w' = w := by
  go_enter Tryz.func132, Tryz.ntmps132
  go_wp2_with fail
  go_ret
  exact ⟨rfl, rfl⟩
theorem b2int (w : World) (b : Bool) : Calls Tryz.prog 131 #[.bool b] w fun e w' => e = .returned (.int .i64 (if b then 1 else 0)) ∧ w' = w := by
  go_enter Tryz.func131, Tryz.ntmps131
  cases b
  all_goals
    go_wp2_with fail
    go_ret
    exact ⟨rfl, rfl⟩
theorem round_u (w : World) (u : Int) (h0 : 0 ≤ u) (h1 : u < 36028797018963968) : Calls Tryz.prog 129 #[.int .u64 u] w fun e w' => e = .returned (.int .u64 ((u + 1 + u / 4 % 2) / 4)) ∧ w' = w := by
  have m1 := mask1 (u / 4) (by omega) (by omega)
  go_enter Tryz.func129, Tryz.ntmps129
  go_wp2_with fail
  go_ret
  exact ⟨rfl, rfl⟩
theorem mul_hi (w : World) (x : Int) (h0 : 0 ≤ x) (h1 : x < 18446744073709551616) (h2 : x % 2 = 0) : Calls Tryz.prog 157 #[.int .u64 x, .int .u64 9223372036854775808] w fun e w' => e = .returned (.tuple #[.int .u64 (x / 2), .int .u64 0]) ∧ w' = w := by
  have a1 := mask32 x h0 h1
  have a2 : bits .and .u64 9223372036854775808 4294967295 = 0 := by decide
  have a3 : bits .and .u64 0 4294967295 = 0 := by decide
  have w1 : IntKind.u64.wrap (x % 4294967296 * 2147483648) = x % 4294967296 * 2147483648 := by rw [wrap_u64']; omega
  have w2 : IntKind.u64.wrap (x / 4294967296 * 2147483648) = x / 4294967296 * 2147483648 := by rw [wrap_u64']; omega
  have w3 : IntKind.u64.wrap (x * 9223372036854775808) = 0 := by rw [wrap_u64']; omega
  have w4 : IntKind.u64.wrap (x / 4294967296 * 2147483648 + x % 4294967296 * 2147483648 / 4294967296) = x / 2 := by rw [wrap_u64']; omega
  have HH := Lib.hid (show x / 4294967296 * 2147483648 + x % 4294967296 * 2147483648 / 4294967296 = x / 2 by omega)
  go_enter Tryz.func157, Tryz.ntmps157
  go_wp2_with fail
  refine bodyPost_ret (v := .tuple #[.int .u64 (x / 2), .int .u64 0]) ?_ rfl ⟨rfl, rfl⟩
  simp [results, Tryz.results157, go_sem, HH.out]
theorem mul_zero (w : World) (x : Int) (h0 : 0 ≤ x) (h1 : x < 18446744073709551616) : Calls Tryz.prog 157 #[.int .u64 x, .int .u64 0] w fun e w' => e = .returned (.tuple #[.int .u64 0, .int .u64 0]) ∧ w' = w := by
  have a1 := mask32 x h0 h1
  have a3 : bits .and .u64 0 4294967295 = 0 := by decide
  go_enter Tryz.func157, Tryz.ntmps157
  go_wp2_with fail
  refine bodyPost_ret (v := .tuple #[.int .u64 0, .int .u64 0]) ?_ rfl ⟨rfl, rfl⟩
  simp [results, Tryz.results157, go_sem]
theorem pack_w (w : World) (neg : Bool) (M : Nat) (h0 : 4503599627370496 ≤ M) (h1 : M < 9007199254740992) (e : Nat) (he : e < 100) :
    Calls Tryz.prog 165 #[.int .u64 (sgn neg M), .int .i64 e] w fun r w' => r = .returned (.tuple #[.float .f64 (bigF neg (1074 + e) M), .nilIface]) ∧ w' = w := by
  have a1 := pack_and neg M h0 h1
  have a2 := pack_strip neg M h0 h1
  have rf := run_frombits
  have w1 : IntKind.u64.wrap (1075 + (e : Int)) = 1075 + (e : Int) := by rw [wrap_u64']; omega
  have w2 : IntKind.u64.wrap ((1075 + (e : Int)) * 4503599627370496) = (1075 + (e : Int)) * 4503599627370496 := by rw [wrap_u64']; omega
  have a3 : bits .or .u64 (sgn neg (M - 4503599627370496)) ((1075 + (e : Int)) * 4503599627370496) = packW neg M (1074 + e) := by
    have := pack_put neg (M - 4503599627370496) (1075 + e) (by omega) (by omega) (by omega)
    rw [show M - 4503599627370496 + 4503599627370496 = M by omega, show 1075 + e - 1 = 1074 + e by omega] at this
    rw [← this]
    congr 1
  have a4 : (packW neg M (1074 + e)).toNat = bigF neg (1074 + e) M := by
    unfold packW bigF
    rw [Int.toNat_natCast]
  have d1 : decide (972 ≤ (e : Int)) = false := decide_eq_false (by omega)
  generalize sgn neg M = S at *
  generalize sgn neg (M - 4503599627370496) = S2 at *
  generalize packW neg M (1074 + e) = PW at *
  go_enter Tryz.func165, Tryz.ntmps165
  go_wp2_with fail
  refine bodyPost_ret (v := .tuple #[.float .f64 (bigF neg (1074 + e) M), .nilIface]) ?_ rfl ⟨rfl, rfl⟩
  simp [results, Tryz.results165, go_sem]
theorem prescale_0 (w : World) (hg : Glp w) (g : Nat) (hb : Blk w g 172 #[.int .u64 0, .int .u64 0, .int .i64 0]) :
    Calls Tryz.prog 123 #[.pointer (some ⟨g, 0, none⟩), .int .i64 (-11), .int .i64 0, .int .i64 0] w fun e w' => e = .returned (.tuple #[]) ∧ Blk w' g 172 #[.int .u64 9223372036854775808, .int .u64 0, .int .i64 8] ∧ Upd [g] w w' := by
  have h1 := hg.hi
  have h2 := hg.lo
  have t0 := hb.cell 0
  have t1 := hb.cell 1
  have t2 := hb.cell 2
  have tf := hb.frozen
  simp only [List.getElem?_toArray, List.getElem?_cons_zero, List.getElem?_cons_succ] at t0 t1 t2
  have hne : g ≠ 11 := fun h => by
    subst h
    have := hb.cell 696
    rw [h1] at this
    simp at this
  have HB := Lib.hid hb
  clear hb
  go_enter Tryz.func123, Tryz.ntmps123
  go_wp2_with fail
  go_end0
  exact ⟨rfl, ((HB.out.set_ 0 _).set_ 1 _).set_ 2 _, (((Upd.refl [g] w).setCell (p := ⟨g, 0, none⟩) (.inl (.head _)) _).setCell (p := ⟨g, 1, none⟩) (.inl (.head _)) _).setCell (p := ⟨g, 2, none⟩) (.inl (.head _)) _⟩
/-- A number scaled down by 2^9, its last bit told by what is cut off. -/
def scl (D : Int) : Int := if D / 2 % 256 = 0 then D / 512 else D / 512 + (1 - D / 512 % 2)
theorem scl_bounds (D : Int) (h0 : 9223372036854775808 ≤ D) (h1 : D < 18446744073709551616) : 18014398509481984 ≤ scl D ∧ scl D < 36028797018963968 := by
  unfold scl
  split <;> omega
set_option maxHeartbeats 2000000 in
theorem uscale_0 (w : World) (g : Nat) (D : Int) (h0 : 9223372036854775808 ≤ D) (h1 : D < 18446744073709551616) (h2 : D % 2 = 0) (hb : Blk w g 172 #[.int .u64 9223372036854775808, .int .u64 0, .int .i64 8]) :
    Calls Tryz.prog 125 #[.int .u64 D, .pointer (some ⟨g, 0, none⟩)] w fun e w' => e = .returned (.int .u64 (scl D)) ∧ Upd [] w w' := by
  have t0 := hb.cell 0
  have t1 := hb.cell 1
  have t2 := hb.cell 2
  simp only [List.getElem?_toArray, List.getElem?_cons_zero, List.getElem?_cons_succ] at t0 t1 t2
  have m8 : bits .and .i64 8 63 = 8 := by decide
  have MH := Lib.hid (fun w => mul_hi w D (by omega) h1 h2)
  have MZ := Lib.hid (fun w => mul_zero w D (by omega) h1)
  have w1 : IntKind.u64.wrap (D / 2 / 256 * 256) = D / 2 / 256 * 256 := by rw [wrap_u64']; omega
  have o1 : bits .or .u64 (D / 2 / 256) 1 = D / 512 + (1 - D / 512 % 2) := by
    have h4 : D / 2 / 256 = D / 512 := by omega
    rw [or1 _ (by omega) (by omega), h4]
  have o2 : bits .or .u64 (D / 2 / 256) 0 = D / 512 := by
    have h4 : D / 2 / 256 = D / 512 := by omega
    rw [u64_or _ _ (by omega) (by omega) (by decide) (by decide), show (0 : Int).toNat = 0 by decide, Nat.or_zero, h4]
    omega
  by_cases hs : D / 2 % 256 = 0
  · have hr : scl D = D / 512 := by unfold scl; rw [if_pos hs]
    have HR := Lib.hid hr
    have d1 : (D / 2 / 256 * 256 != D / 2) = false := by
      have h5 : D / 2 / 256 * 256 = D / 2 := by omega
      exact bne_eq_false_iff_eq.2 h5
    have w5 : IntKind.u64.wrap (D / 2) = D / 2 := by rw [wrap_u64']; omega
    clear hr hs hb
    go_enter Tryz.func125, Tryz.ntmps125
    go_upto_region 5 with (go_at_call 157; refine (MH.out _).mono ?_; rintro e w1 ⟨rfl, rfl⟩)
    go_wp2_with (first | (go_at_call 157; refine (MZ.out _).mono ?_; rintro e w1 ⟨rfl, rfl⟩) | (go_at_call 150; refine (bool2_no _).mono ?_; rintro e w1 ⟨rfl, rfl⟩))
    have w6 : IntKind.u64.wrap (0 - 0) = 0 := by decide
    go_region_with (go_at_call 150; refine (bool2_no _).mono ?_; rintro e w1 ⟨rfl, rfl⟩)
    all_goals go_wp2_with fail
    all_goals go_ret
    all_goals exact ⟨by rw [HR.out]; rfl, (Upd.refl [] _).drew⟩
  · have hr : scl D = D / 512 + (1 - D / 512 % 2) := by unfold scl; rw [if_neg hs]
    have HR := Lib.hid hr
    have d1 : (D / 2 / 256 * 256 != D / 2) = true := by
      have : D / 2 / 256 * 256 ≠ D / 2 := by omega
      exact bne_iff_ne.2 this
    clear hr hs hb
    go_enter Tryz.func125, Tryz.ntmps125
    go_wp2_with (first | (go_at_call 157; refine (MH.out _).mono ?_; rintro e w1 ⟨rfl, rfl⟩))
    go_ret
    exact ⟨by rw [HR.out]; rfl, Upd.refl _ _⟩
end Go.Proofs.YtcnkbdbkglggcaaGreatDoor
