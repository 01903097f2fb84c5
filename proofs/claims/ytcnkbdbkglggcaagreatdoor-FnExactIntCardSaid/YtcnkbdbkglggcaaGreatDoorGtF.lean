/-
  The library's 'parseFloat64' on whole numbers of 53 to 60 digits. Condition: what the table of powers of ten holds at the power nought.
-/
import Derived.Test.YtcnkbdbkglggcaaGreatDoorGtE
namespace Go.Proofs.YtcnkbdbkglggcaaGreatDoor
open Go.RowKit

/-- The 53 digits that are kept, and whether one more was cut. -/
def pfM (u : Int) : Nat := if 36028797018963966 ≤ u then 4503599627370496 else ((u + 1 + u / 4 % 2) / 4).toNat
def pfS (u : Int) : Nat := if 36028797018963966 ≤ u then 1 else 0
theorem pfM_bounds (u : Int) (h0 : 18014398509481984 ≤ u) (h1 : u < 36028797018963968) : 4503599627370496 ≤ pfM u ∧ pfM u < 9007199254740992 := by
  unfold pfM
  split <;> omega
theorem b2t (w : World) : Calls Tryz.prog 131 #[.bool true] w fun e w' => e = .returned (.int .i64 1) ∧ w' = w := b2int w true
theorem b2f (w : World) : Calls Tryz.prog 131 #[.bool false] w fun e w' => e = .returned (.int .i64 0) ∧ w' = w := b2int w false
theorem pf_round (u : Int) (h0 : 18014398509481984 ≤ u) (h1 : u < 36028797018963966) (w : World) : Calls Tryz.prog 129 #[.int .u64 u] w fun e w' => e = .returned (.int .u64 (pfM u : Int)) ∧ w' = w := by
  have h2 : (pfM u : Int) = (u + 1 + u / 4 % 2) / 4 := by
    unfold pfM
    rw [if_neg (by omega), Int.toNat_of_nonneg (by omega)]
  rw [h2]
  exact round_u w u (by omega) (by omega)
theorem pf_round1 (u : Int) (h0 : 36028797018963966 ≤ u) (w : World) : Calls Tryz.prog 129 #[.int .u64 18014398509481983] w fun e w' => e = .returned (.int .u64 (pfM u : Int)) ∧ w' = w := by
  have h2 : (pfM u : Int) = 4503599627370496 := by
    unfold pfM
    rw [if_pos h0]
    rfl
  rw [h2]
  exact round_u w 18014398509481983 (by decide) (by decide)
theorem or_self1 (u : Int) (h0 : 0 ≤ u) (h1 : u < 36028797018963968) : bits .or .u64 u (u % 2) = u := by
  rcases (by omega : u % 2 = 0 ∨ u % 2 = 1) with h | h
  · rw [h, u64_or u 0 h0 (by omega) (by decide) (by decide), show (0 : Int).toNat = 0 by decide, Nat.or_zero]
    omega
  · rw [h, or1 u h0 (by omega), h]
    omega
theorem or_top (u : Int) (h0 : 36028797018963966 ≤ u) (h1 : u < 36028797018963968) : bits .or .u64 (u / 2) (u % 2) = 18014398509481983 := by
  rcases (by omega : u = 36028797018963966 ∨ u = 36028797018963967) with rfl | rfl <;> decide

set_option maxRecDepth 100000 in
set_option maxHeartbeats 4000000 in
theorem pf64_53 (w : World) (hg : Glp w) (neg : Bool) (d : Int) (h0 : 4503599627370496 ≤ d) (h1 : d < 9007199254740992) :
    Calls Tryz.prog 153 #[.int .u64 d, .int .i64 0, .int .u64 (sgn neg 0)] w fun e w' => e = .returned (.tuple #[.float .f64 (bigF neg (1074 + (0 + pfS (scl (d * 2048)))) (pfM (scl (d * 2048)))), .nilIface]) ∧ Upd [] w w' := by
  have L := Lib.hid (fun w => len64_53 w d h0 h1)
  have w1 : IntKind.u64.wrap (d * 2048) = d * 2048 := by rw [wrap_u64']; omega
  have D0 : 9223372036854775808 ≤ d * 2048 := by omega
  have D1 : d * 2048 < 18446744073709551616 := by omega
  have D2 : d * 2048 % 2 = 0 := by omega
  obtain ⟨u0, u1⟩ := scl_bounds _ D0 D1
  have U := Lib.hid (fun w g => uscale_0 w g _ D0 D1 D2)
  obtain ⟨m0, m1⟩ := pfM_bounds _ u0 u1
  clear D0 D1 D2 h0 h1
  generalize scl (d * 2048) = u at *
  have hgl := hg.lt
  have HG := Lib.hid hg
  have SO := sgn_or neg (pfM u) m1
  have PK := Lib.hid (fun w e he => pack_w w neg (pfM u) m0 m1 e he)
  clear hg
  generalize sgn neg 0 = S0 at *
  generalize hSM : sgn neg (pfM u) = SM at *
  clear hSM
  have hb0 := Blk.new w 172 #[.int .u64 0, .int .u64 0, .int .i64 0]
  have hu0 := (Upd.refl [] w).alloc (.cells #[.int .u64 0, .int .u64 0, .int .i64 0] 172)
  have HB0 := Lib.hid hb0
  have HU0 := Lib.hid hu0
  clear hb0 hu0
  go_enter Tryz.func153, Tryz.ntmps153
  go_upto_region 6 with (first | (go_at_call 102; refine (L.out _).mono ?_; rintro e w1 ⟨rfl, rfl⟩) | (go_at_call 124; refine (log2_zero _).mono ?_; rintro e w1 ⟨rfl, rfl⟩) | (go_at_call 123; refine (prescale_0 _ (HG.out.upd HU0.out) _ HB0.out).mono ?_; rintro e w2 ⟨rfl, hb2, hu2⟩))
  have t2 := hb2.cell 2
  have HB2 := Lib.hid hb2
  clear hb2
  simp only [List.getElem?_toArray, List.getElem?_cons_zero, List.getElem?_cons_succ] at t2
  go_upto_region 9 with (go_at_call 125; refine (U.out _ _ HB2.out).mono ?_; rintro e w3 ⟨rfl, hu3⟩)
  have hup := (HU0.out.then hu2 (fun x hx => by simp only [List.mem_singleton] at hx; subst hx; exact .inr (Nat.le_refl _))).trans hu3
  have HUP := Lib.hid hup
  clear hup hu2 hu3 t2
  have m1 := mask1 u (by omega) (by omega)
  by_cases hc : 36028797018963966 ≤ u
  · have dA : decide (36028797018963966 ≤ u) = true := decide_eq_true hc
    have oA := or_top u hc u1
    have HS : Hid (pfS u = 1) := by show pfS u = 1; unfold pfS; rw [if_pos hc]
    have RT := Lib.hid (fun w => pf_round1 u hc w)
    clear hc
    go_wp2_with (first | (go_at_call 132; refine (unmin_53 _).mono ?_; rintro e w4 ⟨rfl, rfl⟩) | (go_at_call 131; refine (b2t _).mono ?_; rintro e w4 ⟨rfl, rfl⟩) | (go_at_call 129; refine (RT.out _).mono ?_; rintro e w4 ⟨rfl, rfl⟩) | (go_at_call 165; refine (PK.out _ 1 (by decide)).mono ?_; rintro e w4 ⟨rfl, rfl⟩))
    refine bodyPost_ret (v := .tuple #[.float .f64 (bigF neg (1074 + 1) (pfM u)), .nilIface]) ?_ rfl ⟨by rw [HS.out], HUP.out⟩
    simp [results, Tryz.results153, go_sem]
  · have dA : decide (36028797018963966 ≤ u) = false := decide_eq_false hc
    have oA := or_self1 u (by omega) u1
    have HS : Hid (pfS u = 0) := by show pfS u = 0; unfold pfS; rw [if_neg hc]
    have RT := Lib.hid (fun w => pf_round u u0 (by omega) w)
    clear hc
    go_wp2_with (first | (go_at_call 132; refine (unmin_53 _).mono ?_; rintro e w4 ⟨rfl, rfl⟩) | (go_at_call 131; refine (b2f _).mono ?_; rintro e w4 ⟨rfl, rfl⟩) | (go_at_call 129; refine (RT.out _).mono ?_; rintro e w4 ⟨rfl, rfl⟩) | (go_at_call 165; refine (PK.out _ 0 (by decide)).mono ?_; rintro e w4 ⟨rfl, rfl⟩))
    refine bodyPost_ret (v := .tuple #[.float .f64 (bigF neg (1074 + 0) (pfM u)), .nilIface]) ?_ rfl ⟨by rw [HS.out], HUP.out⟩
    simp [results, Tryz.results153, go_sem]

set_option maxRecDepth 100000 in
set_option maxHeartbeats 4000000 in
theorem pf64_54 (w : World) (hg : Glp w) (neg : Bool) (d : Int) (h0 : 9007199254740992 ≤ d) (h1 : d < 18014398509481984) :
    Calls Tryz.prog 153 #[.int .u64 d, .int .i64 0, .int .u64 (sgn neg 0)] w fun e w' => e = .returned (.tuple #[.float .f64 (bigF neg (1074 + (1 + pfS (scl (d * 1024)))) (pfM (scl (d * 1024)))), .nilIface]) ∧ Upd [] w w' := by
  have L := Lib.hid (fun w => len64_54 w d h0 h1)
  have w1 : IntKind.u64.wrap (d * 1024) = d * 1024 := by rw [wrap_u64']; omega
  have D0 : 9223372036854775808 ≤ d * 1024 := by omega
  have D1 : d * 1024 < 18446744073709551616 := by omega
  have D2 : d * 1024 % 2 = 0 := by omega
  obtain ⟨u0, u1⟩ := scl_bounds _ D0 D1
  have U := Lib.hid (fun w g => uscale_0 w g _ D0 D1 D2)
  obtain ⟨m0, m1⟩ := pfM_bounds _ u0 u1
  clear D0 D1 D2 h0 h1
  generalize scl (d * 1024) = u at *
  have hgl := hg.lt
  have HG := Lib.hid hg
  have SO := sgn_or neg (pfM u) m1
  have PK := Lib.hid (fun w e he => pack_w w neg (pfM u) m0 m1 e he)
  clear hg
  generalize sgn neg 0 = S0 at *
  generalize hSM : sgn neg (pfM u) = SM at *
  clear hSM
  have hb0 := Blk.new w 172 #[.int .u64 0, .int .u64 0, .int .i64 0]
  have hu0 := (Upd.refl [] w).alloc (.cells #[.int .u64 0, .int .u64 0, .int .i64 0] 172)
  have HB0 := Lib.hid hb0
  have HU0 := Lib.hid hu0
  clear hb0 hu0
  go_enter Tryz.func153, Tryz.ntmps153
  go_upto_region 6 with (first | (go_at_call 102; refine (L.out _).mono ?_; rintro e w1 ⟨rfl, rfl⟩) | (go_at_call 124; refine (log2_zero _).mono ?_; rintro e w1 ⟨rfl, rfl⟩) | (go_at_call 123; refine (prescale_0 _ (HG.out.upd HU0.out) _ HB0.out).mono ?_; rintro e w2 ⟨rfl, hb2, hu2⟩))
  have t2 := hb2.cell 2
  have HB2 := Lib.hid hb2
  clear hb2
  simp only [List.getElem?_toArray, List.getElem?_cons_zero, List.getElem?_cons_succ] at t2
  go_upto_region 9 with (go_at_call 125; refine (U.out _ _ HB2.out).mono ?_; rintro e w3 ⟨rfl, hu3⟩)
  have hup := (HU0.out.then hu2 (fun x hx => by simp only [List.mem_singleton] at hx; subst hx; exact .inr (Nat.le_refl _))).trans hu3
  have HUP := Lib.hid hup
  clear hup hu2 hu3 t2
  have m1 := mask1 u (by omega) (by omega)
  by_cases hc : 36028797018963966 ≤ u
  · have dA : decide (36028797018963966 ≤ u) = true := decide_eq_true hc
    have oA := or_top u hc u1
    have HS : Hid (pfS u = 1) := by show pfS u = 1; unfold pfS; rw [if_pos hc]
    have RT := Lib.hid (fun w => pf_round1 u hc w)
    clear hc
    go_wp2_with (first | (go_at_call 132; refine (unmin_53 _).mono ?_; rintro e w4 ⟨rfl, rfl⟩) | (go_at_call 131; refine (b2t _).mono ?_; rintro e w4 ⟨rfl, rfl⟩) | (go_at_call 129; refine (RT.out _).mono ?_; rintro e w4 ⟨rfl, rfl⟩) | (go_at_call 165; refine (PK.out _ 2 (by decide)).mono ?_; rintro e w4 ⟨rfl, rfl⟩))
    refine bodyPost_ret (v := .tuple #[.float .f64 (bigF neg (1074 + 2) (pfM u)), .nilIface]) ?_ rfl ⟨by rw [HS.out], HUP.out⟩
    simp [results, Tryz.results153, go_sem]
  · have dA : decide (36028797018963966 ≤ u) = false := decide_eq_false hc
    have oA := or_self1 u (by omega) u1
    have HS : Hid (pfS u = 0) := by show pfS u = 0; unfold pfS; rw [if_neg hc]
    have RT := Lib.hid (fun w => pf_round u u0 (by omega) w)
    clear hc
    go_wp2_with (first | (go_at_call 132; refine (unmin_53 _).mono ?_; rintro e w4 ⟨rfl, rfl⟩) | (go_at_call 131; refine (b2f _).mono ?_; rintro e w4 ⟨rfl, rfl⟩) | (go_at_call 129; refine (RT.out _).mono ?_; rintro e w4 ⟨rfl, rfl⟩) | (go_at_call 165; refine (PK.out _ 1 (by decide)).mono ?_; rintro e w4 ⟨rfl, rfl⟩))
    refine bodyPost_ret (v := .tuple #[.float .f64 (bigF neg (1074 + 1) (pfM u)), .nilIface]) ?_ rfl ⟨by rw [HS.out], HUP.out⟩
    simp [results, Tryz.results153, go_sem]

set_option maxRecDepth 100000 in
set_option maxHeartbeats 4000000 in
theorem pf64_55 (w : World) (hg : Glp w) (neg : Bool) (d : Int) (h0 : 18014398509481984 ≤ d) (h1 : d < 36028797018963968) :
    Calls Tryz.prog 153 #[.int .u64 d, .int .i64 0, .int .u64 (sgn neg 0)] w fun e w' => e = .returned (.tuple #[.float .f64 (bigF neg (1074 + (2 + pfS (scl (d * 512)))) (pfM (scl (d * 512)))), .nilIface]) ∧ Upd [] w w' := by
  have L := Lib.hid (fun w => len64_55 w d h0 h1)
  have w1 : IntKind.u64.wrap (d * 512) = d * 512 := by rw [wrap_u64']; omega
  have D0 : 9223372036854775808 ≤ d * 512 := by omega
  have D1 : d * 512 < 18446744073709551616 := by omega
  have D2 : d * 512 % 2 = 0 := by omega
  obtain ⟨u0, u1⟩ := scl_bounds _ D0 D1
  have U := Lib.hid (fun w g => uscale_0 w g _ D0 D1 D2)
  obtain ⟨m0, m1⟩ := pfM_bounds _ u0 u1
  clear D0 D1 D2 h0 h1
  generalize scl (d * 512) = u at *
  have hgl := hg.lt
  have HG := Lib.hid hg
  have SO := sgn_or neg (pfM u) m1
  have PK := Lib.hid (fun w e he => pack_w w neg (pfM u) m0 m1 e he)
  clear hg
  generalize sgn neg 0 = S0 at *
  generalize hSM : sgn neg (pfM u) = SM at *
  clear hSM
  have hb0 := Blk.new w 172 #[.int .u64 0, .int .u64 0, .int .i64 0]
  have hu0 := (Upd.refl [] w).alloc (.cells #[.int .u64 0, .int .u64 0, .int .i64 0] 172)
  have HB0 := Lib.hid hb0
  have HU0 := Lib.hid hu0
  clear hb0 hu0
  go_enter Tryz.func153, Tryz.ntmps153
  go_upto_region 6 with (first | (go_at_call 102; refine (L.out _).mono ?_; rintro e w1 ⟨rfl, rfl⟩) | (go_at_call 124; refine (log2_zero _).mono ?_; rintro e w1 ⟨rfl, rfl⟩) | (go_at_call 123; refine (prescale_0 _ (HG.out.upd HU0.out) _ HB0.out).mono ?_; rintro e w2 ⟨rfl, hb2, hu2⟩))
  have t2 := hb2.cell 2
  have HB2 := Lib.hid hb2
  clear hb2
  simp only [List.getElem?_toArray, List.getElem?_cons_zero, List.getElem?_cons_succ] at t2
  go_upto_region 9 with (go_at_call 125; refine (U.out _ _ HB2.out).mono ?_; rintro e w3 ⟨rfl, hu3⟩)
  have hup := (HU0.out.then hu2 (fun x hx => by simp only [List.mem_singleton] at hx; subst hx; exact .inr (Nat.le_refl _))).trans hu3
  have HUP := Lib.hid hup
  clear hup hu2 hu3 t2
  have m1 := mask1 u (by omega) (by omega)
  by_cases hc : 36028797018963966 ≤ u
  · have dA : decide (36028797018963966 ≤ u) = true := decide_eq_true hc
    have oA := or_top u hc u1
    have HS : Hid (pfS u = 1) := by show pfS u = 1; unfold pfS; rw [if_pos hc]
    have RT := Lib.hid (fun w => pf_round1 u hc w)
    clear hc
    go_wp2_with (first | (go_at_call 132; refine (unmin_53 _).mono ?_; rintro e w4 ⟨rfl, rfl⟩) | (go_at_call 131; refine (b2t _).mono ?_; rintro e w4 ⟨rfl, rfl⟩) | (go_at_call 129; refine (RT.out _).mono ?_; rintro e w4 ⟨rfl, rfl⟩) | (go_at_call 165; refine (PK.out _ 3 (by decide)).mono ?_; rintro e w4 ⟨rfl, rfl⟩))
    refine bodyPost_ret (v := .tuple #[.float .f64 (bigF neg (1074 + 3) (pfM u)), .nilIface]) ?_ rfl ⟨by rw [HS.out], HUP.out⟩
    simp [results, Tryz.results153, go_sem]
  · have dA : decide (36028797018963966 ≤ u) = false := decide_eq_false hc
    have oA := or_self1 u (by omega) u1
    have HS : Hid (pfS u = 0) := by show pfS u = 0; unfold pfS; rw [if_neg hc]
    have RT := Lib.hid (fun w => pf_round u u0 (by omega) w)
    clear hc
    go_wp2_with (first | (go_at_call 132; refine (unmin_53 _).mono ?_; rintro e w4 ⟨rfl, rfl⟩) | (go_at_call 131; refine (b2f _).mono ?_; rintro e w4 ⟨rfl, rfl⟩) | (go_at_call 129; refine (RT.out _).mono ?_; rintro e w4 ⟨rfl, rfl⟩) | (go_at_call 165; refine (PK.out _ 2 (by decide)).mono ?_; rintro e w4 ⟨rfl, rfl⟩))
    refine bodyPost_ret (v := .tuple #[.float .f64 (bigF neg (1074 + 2) (pfM u)), .nilIface]) ?_ rfl ⟨by rw [HS.out], HUP.out⟩
    simp [results, Tryz.results153, go_sem]

set_option maxRecDepth 100000 in
set_option maxHeartbeats 4000000 in
theorem pf64_56 (w : World) (hg : Glp w) (neg : Bool) (d : Int) (h0 : 36028797018963968 ≤ d) (h1 : d < 72057594037927936) :
    Calls Tryz.prog 153 #[.int .u64 d, .int .i64 0, .int .u64 (sgn neg 0)] w fun e w' => e = .returned (.tuple #[.float .f64 (bigF neg (1074 + (3 + pfS (scl (d * 256)))) (pfM (scl (d * 256)))), .nilIface]) ∧ Upd [] w w' := by
  have L := Lib.hid (fun w => len64_56 w d h0 h1)
  have w1 : IntKind.u64.wrap (d * 256) = d * 256 := by rw [wrap_u64']; omega
  have D0 : 9223372036854775808 ≤ d * 256 := by omega
  have D1 : d * 256 < 18446744073709551616 := by omega
  have D2 : d * 256 % 2 = 0 := by omega
  obtain ⟨u0, u1⟩ := scl_bounds _ D0 D1
  have U := Lib.hid (fun w g => uscale_0 w g _ D0 D1 D2)
  obtain ⟨m0, m1⟩ := pfM_bounds _ u0 u1
  clear D0 D1 D2 h0 h1
  generalize scl (d * 256) = u at *
  have hgl := hg.lt
  have HG := Lib.hid hg
  have SO := sgn_or neg (pfM u) m1
  have PK := Lib.hid (fun w e he => pack_w w neg (pfM u) m0 m1 e he)
  clear hg
  generalize sgn neg 0 = S0 at *
  generalize hSM : sgn neg (pfM u) = SM at *
  clear hSM
  have hb0 := Blk.new w 172 #[.int .u64 0, .int .u64 0, .int .i64 0]
  have hu0 := (Upd.refl [] w).alloc (.cells #[.int .u64 0, .int .u64 0, .int .i64 0] 172)
  have HB0 := Lib.hid hb0
  have HU0 := Lib.hid hu0
  clear hb0 hu0
  go_enter Tryz.func153, Tryz.ntmps153
  go_upto_region 6 with (first | (go_at_call 102; refine (L.out _).mono ?_; rintro e w1 ⟨rfl, rfl⟩) | (go_at_call 124; refine (log2_zero _).mono ?_; rintro e w1 ⟨rfl, rfl⟩) | (go_at_call 123; refine (prescale_0 _ (HG.out.upd HU0.out) _ HB0.out).mono ?_; rintro e w2 ⟨rfl, hb2, hu2⟩))
  have t2 := hb2.cell 2
  have HB2 := Lib.hid hb2
  clear hb2
  simp only [List.getElem?_toArray, List.getElem?_cons_zero, List.getElem?_cons_succ] at t2
  go_upto_region 9 with (go_at_call 125; refine (U.out _ _ HB2.out).mono ?_; rintro e w3 ⟨rfl, hu3⟩)
  have hup := (HU0.out.then hu2 (fun x hx => by simp only [List.mem_singleton] at hx; subst hx; exact .inr (Nat.le_refl _))).trans hu3
  have HUP := Lib.hid hup
  clear hup hu2 hu3 t2
  have m1 := mask1 u (by omega) (by omega)
  by_cases hc : 36028797018963966 ≤ u
  · have dA : decide (36028797018963966 ≤ u) = true := decide_eq_true hc
    have oA := or_top u hc u1
    have HS : Hid (pfS u = 1) := by show pfS u = 1; unfold pfS; rw [if_pos hc]
    have RT := Lib.hid (fun w => pf_round1 u hc w)
    clear hc
    go_wp2_with (first | (go_at_call 132; refine (unmin_53 _).mono ?_; rintro e w4 ⟨rfl, rfl⟩) | (go_at_call 131; refine (b2t _).mono ?_; rintro e w4 ⟨rfl, rfl⟩) | (go_at_call 129; refine (RT.out _).mono ?_; rintro e w4 ⟨rfl, rfl⟩) | (go_at_call 165; refine (PK.out _ 4 (by decide)).mono ?_; rintro e w4 ⟨rfl, rfl⟩))
    refine bodyPost_ret (v := .tuple #[.float .f64 (bigF neg (1074 + 4) (pfM u)), .nilIface]) ?_ rfl ⟨by rw [HS.out], HUP.out⟩
    simp [results, Tryz.results153, go_sem]
  · have dA : decide (36028797018963966 ≤ u) = false := decide_eq_false hc
    have oA := or_self1 u (by omega) u1
    have HS : Hid (pfS u = 0) := by show pfS u = 0; unfold pfS; rw [if_neg hc]
    have RT := Lib.hid (fun w => pf_round u u0 (by omega) w)
    clear hc
    go_wp2_with (first | (go_at_call 132; refine (unmin_53 _).mono ?_; rintro e w4 ⟨rfl, rfl⟩) | (go_at_call 131; refine (b2f _).mono ?_; rintro e w4 ⟨rfl, rfl⟩) | (go_at_call 129; refine (RT.out _).mono ?_; rintro e w4 ⟨rfl, rfl⟩) | (go_at_call 165; refine (PK.out _ 3 (by decide)).mono ?_; rintro e w4 ⟨rfl, rfl⟩))
    refine bodyPost_ret (v := .tuple #[.float .f64 (bigF neg (1074 + 3) (pfM u)), .nilIface]) ?_ rfl ⟨by rw [HS.out], HUP.out⟩
    simp [results, Tryz.results153, go_sem]

set_option maxRecDepth 100000 in
set_option maxHeartbeats 4000000 in
theorem pf64_57 (w : World) (hg : Glp w) (neg : Bool) (d : Int) (h0 : 72057594037927936 ≤ d) (h1 : d < 144115188075855872) :
    Calls Tryz.prog 153 #[.int .u64 d, .int .i64 0, .int .u64 (sgn neg 0)] w fun e w' => e = .returned (.tuple #[.float .f64 (bigF neg (1074 + (4 + pfS (scl (d * 128)))) (pfM (scl (d * 128)))), .nilIface]) ∧ Upd [] w w' := by
  have L := Lib.hid (fun w => len64_57 w d h0 h1)
  have w1 : IntKind.u64.wrap (d * 128) = d * 128 := by rw [wrap_u64']; omega
  have D0 : 9223372036854775808 ≤ d * 128 := by omega
  have D1 : d * 128 < 18446744073709551616 := by omega
  have D2 : d * 128 % 2 = 0 := by omega
  obtain ⟨u0, u1⟩ := scl_bounds _ D0 D1
  have U := Lib.hid (fun w g => uscale_0 w g _ D0 D1 D2)
  obtain ⟨m0, m1⟩ := pfM_bounds _ u0 u1
  clear D0 D1 D2 h0 h1
  generalize scl (d * 128) = u at *
  have hgl := hg.lt
  have HG := Lib.hid hg
  have SO := sgn_or neg (pfM u) m1
  have PK := Lib.hid (fun w e he => pack_w w neg (pfM u) m0 m1 e he)
  clear hg
  generalize sgn neg 0 = S0 at *
  generalize hSM : sgn neg (pfM u) = SM at *
  clear hSM
  have hb0 := Blk.new w 172 #[.int .u64 0, .int .u64 0, .int .i64 0]
  have hu0 := (Upd.refl [] w).alloc (.cells #[.int .u64 0, .int .u64 0, .int .i64 0] 172)
  have HB0 := Lib.hid hb0
  have HU0 := Lib.hid hu0
  clear hb0 hu0
  go_enter Tryz.func153, Tryz.ntmps153
  go_upto_region 6 with (first | (go_at_call 102; refine (L.out _).mono ?_; rintro e w1 ⟨rfl, rfl⟩) | (go_at_call 124; refine (log2_zero _).mono ?_; rintro e w1 ⟨rfl, rfl⟩) | (go_at_call 123; refine (prescale_0 _ (HG.out.upd HU0.out) _ HB0.out).mono ?_; rintro e w2 ⟨rfl, hb2, hu2⟩))
  have t2 := hb2.cell 2
  have HB2 := Lib.hid hb2
  clear hb2
  simp only [List.getElem?_toArray, List.getElem?_cons_zero, List.getElem?_cons_succ] at t2
  go_upto_region 9 with (go_at_call 125; refine (U.out _ _ HB2.out).mono ?_; rintro e w3 ⟨rfl, hu3⟩)
  have hup := (HU0.out.then hu2 (fun x hx => by simp only [List.mem_singleton] at hx; subst hx; exact .inr (Nat.le_refl _))).trans hu3
  have HUP := Lib.hid hup
  clear hup hu2 hu3 t2
  have m1 := mask1 u (by omega) (by omega)
  by_cases hc : 36028797018963966 ≤ u
  · have dA : decide (36028797018963966 ≤ u) = true := decide_eq_true hc
    have oA := or_top u hc u1
    have HS : Hid (pfS u = 1) := by show pfS u = 1; unfold pfS; rw [if_pos hc]
    have RT := Lib.hid (fun w => pf_round1 u hc w)
    clear hc
    go_wp2_with (first | (go_at_call 132; refine (unmin_53 _).mono ?_; rintro e w4 ⟨rfl, rfl⟩) | (go_at_call 131; refine (b2t _).mono ?_; rintro e w4 ⟨rfl, rfl⟩) | (go_at_call 129; refine (RT.out _).mono ?_; rintro e w4 ⟨rfl, rfl⟩) | (go_at_call 165; refine (PK.out _ 5 (by decide)).mono ?_; rintro e w4 ⟨rfl, rfl⟩))
    refine bodyPost_ret (v := .tuple #[.float .f64 (bigF neg (1074 + 5) (pfM u)), .nilIface]) ?_ rfl ⟨by rw [HS.out], HUP.out⟩
    simp [results, Tryz.results153, go_sem]
  · have dA : decide (36028797018963966 ≤ u) = false := decide_eq_false hc
    have oA := or_self1 u (by omega) u1
    have HS : Hid (pfS u = 0) := by show pfS u = 0; unfold pfS; rw [if_neg hc]
    have RT := Lib.hid (fun w => pf_round u u0 (by omega) w)
    clear hc
    go_wp2_with (first | (go_at_call 132; refine (unmin_53 _).mono ?_; rintro e w4 ⟨rfl, rfl⟩) | (go_at_call 131; refine (b2f _).mono ?_; rintro e w4 ⟨rfl, rfl⟩) | (go_at_call 129; refine (RT.out _).mono ?_; rintro e w4 ⟨rfl, rfl⟩) | (go_at_call 165; refine (PK.out _ 4 (by decide)).mono ?_; rintro e w4 ⟨rfl, rfl⟩))
    refine bodyPost_ret (v := .tuple #[.float .f64 (bigF neg (1074 + 4) (pfM u)), .nilIface]) ?_ rfl ⟨by rw [HS.out], HUP.out⟩
    simp [results, Tryz.results153, go_sem]

set_option maxRecDepth 100000 in
set_option maxHeartbeats 4000000 in
theorem pf64_58 (w : World) (hg : Glp w) (neg : Bool) (d : Int) (h0 : 144115188075855872 ≤ d) (h1 : d < 288230376151711744) :
    Calls Tryz.prog 153 #[.int .u64 d, .int .i64 0, .int .u64 (sgn neg 0)] w fun e w' => e = .returned (.tuple #[.float .f64 (bigF neg (1074 + (5 + pfS (scl (d * 64)))) (pfM (scl (d * 64)))), .nilIface]) ∧ Upd [] w w' := by
  have L := Lib.hid (fun w => len64_58 w d h0 h1)
  have w1 : IntKind.u64.wrap (d * 64) = d * 64 := by rw [wrap_u64']; omega
  have D0 : 9223372036854775808 ≤ d * 64 := by omega
  have D1 : d * 64 < 18446744073709551616 := by omega
  have D2 : d * 64 % 2 = 0 := by omega
  obtain ⟨u0, u1⟩ := scl_bounds _ D0 D1
  have U := Lib.hid (fun w g => uscale_0 w g _ D0 D1 D2)
  obtain ⟨m0, m1⟩ := pfM_bounds _ u0 u1
  clear D0 D1 D2 h0 h1
  generalize scl (d * 64) = u at *
  have hgl := hg.lt
  have HG := Lib.hid hg
  have SO := sgn_or neg (pfM u) m1
  have PK := Lib.hid (fun w e he => pack_w w neg (pfM u) m0 m1 e he)
  clear hg
  generalize sgn neg 0 = S0 at *
  generalize hSM : sgn neg (pfM u) = SM at *
  clear hSM
  have hb0 := Blk.new w 172 #[.int .u64 0, .int .u64 0, .int .i64 0]
  have hu0 := (Upd.refl [] w).alloc (.cells #[.int .u64 0, .int .u64 0, .int .i64 0] 172)
  have HB0 := Lib.hid hb0
  have HU0 := Lib.hid hu0
  clear hb0 hu0
  go_enter Tryz.func153, Tryz.ntmps153
  go_upto_region 6 with (first | (go_at_call 102; refine (L.out _).mono ?_; rintro e w1 ⟨rfl, rfl⟩) | (go_at_call 124; refine (log2_zero _).mono ?_; rintro e w1 ⟨rfl, rfl⟩) | (go_at_call 123; refine (prescale_0 _ (HG.out.upd HU0.out) _ HB0.out).mono ?_; rintro e w2 ⟨rfl, hb2, hu2⟩))
  have t2 := hb2.cell 2
  have HB2 := Lib.hid hb2
  clear hb2
  simp only [List.getElem?_toArray, List.getElem?_cons_zero, List.getElem?_cons_succ] at t2
  go_upto_region 9 with (go_at_call 125; refine (U.out _ _ HB2.out).mono ?_; rintro e w3 ⟨rfl, hu3⟩)
  have hup := (HU0.out.then hu2 (fun x hx => by simp only [List.mem_singleton] at hx; subst hx; exact .inr (Nat.le_refl _))).trans hu3
  have HUP := Lib.hid hup
  clear hup hu2 hu3 t2
  have m1 := mask1 u (by omega) (by omega)
  by_cases hc : 36028797018963966 ≤ u
  · have dA : decide (36028797018963966 ≤ u) = true := decide_eq_true hc
    have oA := or_top u hc u1
    have HS : Hid (pfS u = 1) := by show pfS u = 1; unfold pfS; rw [if_pos hc]
    have RT := Lib.hid (fun w => pf_round1 u hc w)
    clear hc
    go_wp2_with (first | (go_at_call 132; refine (unmin_53 _).mono ?_; rintro e w4 ⟨rfl, rfl⟩) | (go_at_call 131; refine (b2t _).mono ?_; rintro e w4 ⟨rfl, rfl⟩) | (go_at_call 129; refine (RT.out _).mono ?_; rintro e w4 ⟨rfl, rfl⟩) | (go_at_call 165; refine (PK.out _ 6 (by decide)).mono ?_; rintro e w4 ⟨rfl, rfl⟩))
    refine bodyPost_ret (v := .tuple #[.float .f64 (bigF neg (1074 + 6) (pfM u)), .nilIface]) ?_ rfl ⟨by rw [HS.out], HUP.out⟩
    simp [results, Tryz.results153, go_sem]
  · have dA : decide (36028797018963966 ≤ u) = false := decide_eq_false hc
    have oA := or_self1 u (by omega) u1
    have HS : Hid (pfS u = 0) := by show pfS u = 0; unfold pfS; rw [if_neg hc]
    have RT := Lib.hid (fun w => pf_round u u0 (by omega) w)
    clear hc
    go_wp2_with (first | (go_at_call 132; refine (unmin_53 _).mono ?_; rintro e w4 ⟨rfl, rfl⟩) | (go_at_call 131; refine (b2f _).mono ?_; rintro e w4 ⟨rfl, rfl⟩) | (go_at_call 129; refine (RT.out _).mono ?_; rintro e w4 ⟨rfl, rfl⟩) | (go_at_call 165; refine (PK.out _ 5 (by decide)).mono ?_; rintro e w4 ⟨rfl, rfl⟩))
    refine bodyPost_ret (v := .tuple #[.float .f64 (bigF neg (1074 + 5) (pfM u)), .nilIface]) ?_ rfl ⟨by rw [HS.out], HUP.out⟩
    simp [results, Tryz.results153, go_sem]

set_option maxRecDepth 100000 in
set_option maxHeartbeats 4000000 in
theorem pf64_59 (w : World) (hg : Glp w) (neg : Bool) (d : Int) (h0 : 288230376151711744 ≤ d) (h1 : d < 576460752303423488) :
    Calls Tryz.prog 153 #[.int .u64 d, .int .i64 0, .int .u64 (sgn neg 0)] w fun e w' => e = .returned (.tuple #[.float .f64 (bigF neg (1074 + (6 + pfS (scl (d * 32)))) (pfM (scl (d * 32)))), .nilIface]) ∧ Upd [] w w' := by
  have L := Lib.hid (fun w => len64_59 w d h0 h1)
  have w1 : IntKind.u64.wrap (d * 32) = d * 32 := by rw [wrap_u64']; omega
  have D0 : 9223372036854775808 ≤ d * 32 := by omega
  have D1 : d * 32 < 18446744073709551616 := by omega
  have D2 : d * 32 % 2 = 0 := by omega
  obtain ⟨u0, u1⟩ := scl_bounds _ D0 D1
  have U := Lib.hid (fun w g => uscale_0 w g _ D0 D1 D2)
  obtain ⟨m0, m1⟩ := pfM_bounds _ u0 u1
  clear D0 D1 D2 h0 h1
  generalize scl (d * 32) = u at *
  have hgl := hg.lt
  have HG := Lib.hid hg
  have SO := sgn_or neg (pfM u) m1
  have PK := Lib.hid (fun w e he => pack_w w neg (pfM u) m0 m1 e he)
  clear hg
  generalize sgn neg 0 = S0 at *
  generalize hSM : sgn neg (pfM u) = SM at *
  clear hSM
  have hb0 := Blk.new w 172 #[.int .u64 0, .int .u64 0, .int .i64 0]
  have hu0 := (Upd.refl [] w).alloc (.cells #[.int .u64 0, .int .u64 0, .int .i64 0] 172)
  have HB0 := Lib.hid hb0
  have HU0 := Lib.hid hu0
  clear hb0 hu0
  go_enter Tryz.func153, Tryz.ntmps153
  go_upto_region 6 with (first | (go_at_call 102; refine (L.out _).mono ?_; rintro e w1 ⟨rfl, rfl⟩) | (go_at_call 124; refine (log2_zero _).mono ?_; rintro e w1 ⟨rfl, rfl⟩) | (go_at_call 123; refine (prescale_0 _ (HG.out.upd HU0.out) _ HB0.out).mono ?_; rintro e w2 ⟨rfl, hb2, hu2⟩))
  have t2 := hb2.cell 2
  have HB2 := Lib.hid hb2
  clear hb2
  simp only [List.getElem?_toArray, List.getElem?_cons_zero, List.getElem?_cons_succ] at t2
  go_upto_region 9 with (go_at_call 125; refine (U.out _ _ HB2.out).mono ?_; rintro e w3 ⟨rfl, hu3⟩)
  have hup := (HU0.out.then hu2 (fun x hx => by simp only [List.mem_singleton] at hx; subst hx; exact .inr (Nat.le_refl _))).trans hu3
  have HUP := Lib.hid hup
  clear hup hu2 hu3 t2
  have m1 := mask1 u (by omega) (by omega)
  by_cases hc : 36028797018963966 ≤ u
  · have dA : decide (36028797018963966 ≤ u) = true := decide_eq_true hc
    have oA := or_top u hc u1
    have HS : Hid (pfS u = 1) := by show pfS u = 1; unfold pfS; rw [if_pos hc]
    have RT := Lib.hid (fun w => pf_round1 u hc w)
    clear hc
    go_wp2_with (first | (go_at_call 132; refine (unmin_53 _).mono ?_; rintro e w4 ⟨rfl, rfl⟩) | (go_at_call 131; refine (b2t _).mono ?_; rintro e w4 ⟨rfl, rfl⟩) | (go_at_call 129; refine (RT.out _).mono ?_; rintro e w4 ⟨rfl, rfl⟩) | (go_at_call 165; refine (PK.out _ 7 (by decide)).mono ?_; rintro e w4 ⟨rfl, rfl⟩))
    refine bodyPost_ret (v := .tuple #[.float .f64 (bigF neg (1074 + 7) (pfM u)), .nilIface]) ?_ rfl ⟨by rw [HS.out], HUP.out⟩
    simp [results, Tryz.results153, go_sem]
  · have dA : decide (36028797018963966 ≤ u) = false := decide_eq_false hc
    have oA := or_self1 u (by omega) u1
    have HS : Hid (pfS u = 0) := by show pfS u = 0; unfold pfS; rw [if_neg hc]
    have RT := Lib.hid (fun w => pf_round u u0 (by omega) w)
    clear hc
    go_wp2_with (first | (go_at_call 132; refine (unmin_53 _).mono ?_; rintro e w4 ⟨rfl, rfl⟩) | (go_at_call 131; refine (b2f _).mono ?_; rintro e w4 ⟨rfl, rfl⟩) | (go_at_call 129; refine (RT.out _).mono ?_; rintro e w4 ⟨rfl, rfl⟩) | (go_at_call 165; refine (PK.out _ 6 (by decide)).mono ?_; rintro e w4 ⟨rfl, rfl⟩))
    refine bodyPost_ret (v := .tuple #[.float .f64 (bigF neg (1074 + 6) (pfM u)), .nilIface]) ?_ rfl ⟨by rw [HS.out], HUP.out⟩
    simp [results, Tryz.results153, go_sem]

set_option maxRecDepth 100000 in
set_option maxHeartbeats 4000000 in
theorem pf64_60 (w : World) (hg : Glp w) (neg : Bool) (d : Int) (h0 : 576460752303423488 ≤ d) (h1 : d < 1152921504606846976) :
    Calls Tryz.prog 153 #[.int .u64 d, .int .i64 0, .int .u64 (sgn neg 0)] w fun e w' => e = .returned (.tuple #[.float .f64 (bigF neg (1074 + (7 + pfS (scl (d * 16)))) (pfM (scl (d * 16)))), .nilIface]) ∧ Upd [] w w' := by
  have L := Lib.hid (fun w => len64_60 w d h0 h1)
  have w1 : IntKind.u64.wrap (d * 16) = d * 16 := by rw [wrap_u64']; omega
  have D0 : 9223372036854775808 ≤ d * 16 := by omega
  have D1 : d * 16 < 18446744073709551616 := by omega
  have D2 : d * 16 % 2 = 0 := by omega
  obtain ⟨u0, u1⟩ := scl_bounds _ D0 D1
  have U := Lib.hid (fun w g => uscale_0 w g _ D0 D1 D2)
  obtain ⟨m0, m1⟩ := pfM_bounds _ u0 u1
  clear D0 D1 D2 h0 h1
  generalize scl (d * 16) = u at *
  have hgl := hg.lt
  have HG := Lib.hid hg
  have SO := sgn_or neg (pfM u) m1
  have PK := Lib.hid (fun w e he => pack_w w neg (pfM u) m0 m1 e he)
  clear hg
  generalize sgn neg 0 = S0 at *
  generalize hSM : sgn neg (pfM u) = SM at *
  clear hSM
  have hb0 := Blk.new w 172 #[.int .u64 0, .int .u64 0, .int .i64 0]
  have hu0 := (Upd.refl [] w).alloc (.cells #[.int .u64 0, .int .u64 0, .int .i64 0] 172)
  have HB0 := Lib.hid hb0
  have HU0 := Lib.hid hu0
  clear hb0 hu0
  go_enter Tryz.func153, Tryz.ntmps153
  go_upto_region 6 with (first | (go_at_call 102; refine (L.out _).mono ?_; rintro e w1 ⟨rfl, rfl⟩) | (go_at_call 124; refine (log2_zero _).mono ?_; rintro e w1 ⟨rfl, rfl⟩) | (go_at_call 123; refine (prescale_0 _ (HG.out.upd HU0.out) _ HB0.out).mono ?_; rintro e w2 ⟨rfl, hb2, hu2⟩))
  have t2 := hb2.cell 2
  have HB2 := Lib.hid hb2
  clear hb2
  simp only [List.getElem?_toArray, List.getElem?_cons_zero, List.getElem?_cons_succ] at t2
  go_upto_region 9 with (go_at_call 125; refine (U.out _ _ HB2.out).mono ?_; rintro e w3 ⟨rfl, hu3⟩)
  have hup := (HU0.out.then hu2 (fun x hx => by simp only [List.mem_singleton] at hx; subst hx; exact .inr (Nat.le_refl _))).trans hu3
  have HUP := Lib.hid hup
  clear hup hu2 hu3 t2
  have m1 := mask1 u (by omega) (by omega)
  by_cases hc : 36028797018963966 ≤ u
  · have dA : decide (36028797018963966 ≤ u) = true := decide_eq_true hc
    have oA := or_top u hc u1
    have HS : Hid (pfS u = 1) := by show pfS u = 1; unfold pfS; rw [if_pos hc]
    have RT := Lib.hid (fun w => pf_round1 u hc w)
    clear hc
    go_wp2_with (first | (go_at_call 132; refine (unmin_53 _).mono ?_; rintro e w4 ⟨rfl, rfl⟩) | (go_at_call 131; refine (b2t _).mono ?_; rintro e w4 ⟨rfl, rfl⟩) | (go_at_call 129; refine (RT.out _).mono ?_; rintro e w4 ⟨rfl, rfl⟩) | (go_at_call 165; refine (PK.out _ 8 (by decide)).mono ?_; rintro e w4 ⟨rfl, rfl⟩))
    refine bodyPost_ret (v := .tuple #[.float .f64 (bigF neg (1074 + 8) (pfM u)), .nilIface]) ?_ rfl ⟨by rw [HS.out], HUP.out⟩
    simp [results, Tryz.results153, go_sem]
  · have dA : decide (36028797018963966 ≤ u) = false := decide_eq_false hc
    have oA := or_self1 u (by omega) u1
    have HS : Hid (pfS u = 0) := by show pfS u = 0; unfold pfS; rw [if_neg hc]
    have RT := Lib.hid (fun w => pf_round u u0 (by omega) w)
    clear hc
    go_wp2_with (first | (go_at_call 132; refine (unmin_53 _).mono ?_; rintro e w4 ⟨rfl, rfl⟩) | (go_at_call 131; refine (b2f _).mono ?_; rintro e w4 ⟨rfl, rfl⟩) | (go_at_call 129; refine (RT.out _).mono ?_; rintro e w4 ⟨rfl, rfl⟩) | (go_at_call 165; refine (PK.out _ 7 (by decide)).mono ?_; rintro e w4 ⟨rfl, rfl⟩))
    refine bodyPost_ret (v := .tuple #[.float .f64 (bigF neg (1074 + 7) (pfM u)), .nilIface]) ?_ rfl ⟨by rw [HS.out], HUP.out⟩
    simp [results, Tryz.results153, go_sem]
end Go.Proofs.YtcnkbdbkglggcaaGreatDoor
