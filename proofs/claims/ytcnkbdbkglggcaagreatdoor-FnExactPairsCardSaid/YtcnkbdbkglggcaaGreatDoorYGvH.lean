/-
  The library's 'floatBits' on any decimal.
-/
import Derived.Test.YtcnkbdbkglggcaaGreatDoorZML
set_option linter.unusedVariables false
set_option linter.unusedSimpArgs false
namespace Go.Proofs.YtcnkbdbkglggcaaGreatDoor
open Go.RowKit

/-- A scope whose text stands behind a name. -/
theorem wp_scope_named {P : Program} {c : Code} {Q : Exit → Act → World → Prop} {a : Act} {w : World} (n : Nat) (h : ∀ C, Hid (C = c) → c.wp P (viaLabels P C Q n) a w) : (Code.scope c).wp P Q a w := wp_scope_via n (h c rfl)
theorem via_jump {P : Program} {C c rest : Code} {Q : Exit → Act → World → Prop} {a : Act} {w : World} {n l : Nat} (HC : Hid (C = c)) (hf : findLabel c l = some rest) (h : rest.wp P (viaLabels P C Q n) a w) : viaLabels P C Q (n + 1) (.goto l) a w := by
  have e : C = c := HC
  exact ⟨rest, by rw [e]; exact hf, h⟩
def powt (i : Nat) : Int := [1, 3, 6, 9, 13, 16, 19, 23, 26].getD i 0
theorem powt_range (i : Nat) (h : i < 9) : 1 ≤ powt i ∧ powt i ≤ 27 := by
  have : ∀ i, i < 9 → 1 ≤ powt i ∧ powt i ≤ 27 := by decide
  exact this i h
/-- What 'floatBits' reads besides the decimal. -/
structure Fpt (w : World) (B b o cap : Nat) : Prop where
  lt : 14 < B
  size : B ≤ w.heap.size
  bB : b < B
  sl : w.cell? ⟨14, 0, none⟩ = some (.slice (some ⟨b, o, none⟩) 9 cap)
  tab : ∀ i, i < 9 → w.cell? ⟨b, o + i, none⟩ = some (.int .i64 (powt i))
  i0 : w.cell? ⟨10, 0, none⟩ = some (.int .u64 52)
  i1 : w.cell? ⟨10, 1, none⟩ = some (.int .u64 11)
  i2 : w.cell? ⟨10, 2, none⟩ = some (.int .i64 (-1023))
theorem Fpt.upd {w w' : World} {B b o g : Nat} {cap : Nat} (h : Fpt w B b o cap) (hg : B ≤ g) (hu : Upd [g] w w') : Fpt w' B b o cap := by
  have e : ∀ (x y : Nat), x < B → w'.cell? ⟨x, y, none⟩ = w.cell? ⟨x, y, none⟩ := fun x y hx =>
    hu.cell (p := ⟨x, y, none⟩) (Nat.lt_of_lt_of_le hx h.size) (by simp; omega)
  have h14 := h.lt
  exact ⟨h.lt, Nat.le_trans h.size hu.size, h.bB, by rw [e 14 0 h.lt]; exact h.sl, fun i hi => by rw [e _ _ h.bB]; exact h.tab i hi, by rw [e 10 0 (by omega)]; exact h.i0, by rw [e 10 1 (by omega)]; exact h.i1, by rw [e 10 2 (by omega)]; exact h.i2⟩
def FBits (w : World) (g : Nat) (e : Ending) (w' : World) : Prop := ∃ (v : Int) (ov : Bool), e = .returned (.tuple #[.int .u64 v, .bool ov]) ∧ Upd [g] w w'
set_option maxRecDepth 100000 in
set_option maxHeartbeats 8000000 in
theorem fbits_any (w : World) (g : Nat) (f : Nat → Int) (n : Nat) (dp : Int) (ng tr : Bool) (B b o cap b2 o2 cap2 : Nat) (hT : Cht w B b o cap) (hP : Fpt w B b2 o2 cap2) (hB : B ≤ g) (hb : DB w g f n dp ng tr) (h8 : n ≤ 800) (hd : Dg f n) (hf : 1 ≤ n → f 0 ≠ 48) :
    Calls Tryz.prog 149 #[.pointer (some ⟨g, 0, none⟩), .pointer (some ⟨10, 0, none⟩)] w fun e w' => FBits w g e w' := by
  obtain ⟨wr0, hwr0⟩ : ∃ x : World, x = w := ⟨_, rfl⟩
  have HS : Hid (DB w g f n dp ng tr ∧ Upd [g] wr0 w ∧ Dg f n ∧ (1 ≤ n → f 0 ≠ 48)) := ⟨hb, by rw [hwr0]; exact Upd.refl [g] w, hd, hf⟩
  have HT0 : Hid (Cht wr0 B b o cap) := by rw [hwr0]; exact hT
  have HP0 : Hid (Fpt wr0 B b2 o2 cap2) := by rw [hwr0]; exact hP
  have HWX : Hid (∀ X, Upd [g] wr0 X → Upd [g] w X) := fun X h => by rw [hwr0] at h; exact h
  have i0 := hP.i0
  have i1 := hP.i1
  have i2 := hP.i2
  have c800 := hb.cnd
  have c801 := hb.cdp
  have c802 := hb.cng
  clear hb hd hf hwr0 hT hP
  go_enter Tryz.func149, Tryz.ntmps149
  go_wp2_with fail
  refine wp_scope_named 2 (fun C HC => ?_)
  rcases Nat.eq_zero_or_pos n with h0 | h1
  · subst h0
    go_wp2_with fail
    go_step3
    refine via_jump HC rfl ?_
    have c802 := HS.out.1.cng
    cases ng
    all_goals
      go_wp2_with fail
      go_quiet (fail)
      go_wp2_with fail
      try
        go_quiet (fail)
        go_wp2_with fail
      rw [via_ret]
      go_ret2
      exact ⟨_, _, rfl, HWX.out _ (by first | exact (HS.out.2.1).drewN _ | exact ((HS.out.2.1).drewN _).drewN _ | exact (((HS.out.2.1).drewN _).drewN _).drewN _)⟩
  · have d0 : ((n : Int) == 0) = false := beq_eq_false_iff_ne.2 (by omega)
    have d0' : (n == 0) = false := beq_eq_false_iff_ne.2 (by omega)
    by_cases h310 : 310 < dp
    · have d1 : decide (310 < dp) = true := decide_eq_true h310
      go_wp2_with fail
      go_step3
      refine via_jump HC rfl ?_
      go_wp2_with fail
      go_quiet (fail)
      go_wp2_with fail
      go_step3
      have c802 := HS.out.1.cng
      cases ng
      all_goals
        go_wp2_with fail
        go_quiet (fail)
        go_wp2_with fail
        try
          go_quiet (fail)
          go_wp2_with fail
        rw [via_ret]
        go_ret2
        exact ⟨_, _, rfl, HWX.out _ (by first | exact (HS.out.2.1).drewN _ | exact ((HS.out.2.1).drewN _).drewN _ | exact (((HS.out.2.1).drewN _).drewN _).drewN _)⟩
    · have d1 : decide (310 < dp) = false := decide_eq_false h310
      by_cases h330 : dp < -330
      · have d2 : decide (dp < -330) = true := decide_eq_true h330
        go_wp2_with fail
        go_step3
        refine via_jump HC rfl ?_
        have c802 := HS.out.1.cng
        cases ng
        all_goals
          go_wp2_with fail
          go_quiet (fail)
          go_wp2_with fail
          try
            go_quiet (fail)
            go_wp2_with fail
          rw [via_ret]
          go_ret2
          exact ⟨_, _, rfl, HWX.out _ (by first | exact (HS.out.2.1).drewN _ | exact ((HS.out.2.1).drewN _).drewN _ | exact (((HS.out.2.1).drewN _).drewN _).drewN _)⟩
      · have d2 : decide (dp < -330) = false := decide_eq_false h330
        go_upto_region 11 with fail
        clear c800 c801 c802 i0 i1 i2 d0 d0' d1 d2
        have HS2 : Hid (DB w g f n dp ng tr ∧ Upd [g] wr0 w ∧ Dg f n ∧ f 0 ≠ 48) := ⟨HS.out.1, HS.out.2.1, HS.out.2.2.1, HS.out.2.2.2 h1⟩
        clear HS
        go_loopg [6] (10 * dp + (f 0 - 48)).toNat (fun gg x6 wr => ∃ (ex : Int) (f2 : Nat → Int) (n2 : Nat) (dp2 : Int) (tr2 : Bool), x6 = .int .i64 ex ∧ 0 ≤ ex ∧ ex ≤ 84000 ∧ 1 ≤ n2 ∧ n2 ≤ 800 ∧ -1310 ≤ dp2 ∧ dp2 ≤ 310 ∧ (0 < dp2 → ex + 27 * (10 * dp2 + (f2 0 - 48)) ≤ 84000) ∧ Hid (DB wr g f2 n2 dp2 ng tr2 ∧ Upd [g] wr0 wr ∧ Dg f2 n2 ∧ f2 0 ≠ 48 ∧ gg = (10 * dp2 + (f2 0 - 48)).toNat))
        case atStart => exact ⟨0, f, n, dp, tr, rfl, by decide, by decide, h1, h8, by omega, by omega, fun h => by have := HS2.out.2.2.1 0 (by omega); omega, HS2.out.1, HS2.out.2.1, HS2.out.2.2.1, HS2.out.2.2.2, rfl⟩
        case round =>
          clear HS2
          obtain ⟨ex, f2, n2, dp2, tr2, rfl, hx0, hx1, hn1, hn8, hp0, hp1, hxm, hh⟩ := hrel
          have hP := HP0.out.upd hB hh.out.2.1
          have hs := hP.sl
          have i0 := hP.i0
          have i1 := hP.i1
          have i2 := hP.i2
          have c801 := hh.out.1.cdp
          have hd0 := hh.out.2.2.1 0 (by omega)
          have HHP := Lib.hid hP
          clear hP
          by_cases hz : 0 < dp2
          · have d1 : decide (0 < dp2) = true := decide_eq_true hz
            obtain ⟨m, hm⟩ : ∃ m : Nat, dp2 = (m : Int) := ⟨dp2.toNat, by omega⟩
            by_cases h9 : 9 ≤ m
            · have d9 : decide (9 ≤ dp2) = true := decide_eq_true (by omega)
              have w1 : IntKind.i64.wrap (ex + 27) = ex + 27 := IntWalk.i64_in _ (by omega)
              go_wp2_with fail
              go_quiet (fail)
              have HB1 : Hid (DB (wr.drewN nq) g f2 n2 dp2 ng tr2) := (hh.out.1).drewN _
              have HU1 : Hid (Upd [g] wr0 (wr.drewN nq)) := (hh.out.2.1).drewN _
              generalize wr.drewN nq = wq at *
              go_wp2_with (go_at_call 109; refine (shift_down _ g f2 n2 dp2 ng tr2 (-27) HB1.out hn1 hn8 hh.out.2.2.2.1 hh.out.2.2.1 (by decide) (by decide) (by omega) (by omega)).mono ?_; rintro e w4 ⟨rfl, f3, n3, dp3, tr3, hm1, hm2, hdb, hdg, hne, hR, hu⟩)
              have hd3 := hdg 0 (by omega)
              go_roundg (10 * dp3 + (f3 0 - 48)).toNat
              case measure => have := hh.out.2.2.2.2; have h5 := hR.1; unfold Grew at h5; omega
              case rel =>
                have h5 := hR.1
                unfold Grew at h5
                exact ⟨ex + 27, f3, n3, dp3, tr3, rfl, by omega, by omega, hm1, hm2, by omega, by omega, fun h => by omega, hdb, (HU1.out).trans hu, hdg, hne, rfl⟩
            · have d9 : decide (9 ≤ dp2) = false := decide_eq_false (by omega)
              have h9' : m < 9 := by omega
              have tb := HHP.out.tab m h9'
              have pr := powt_range m h9'
              subst hm
              have d9' : decide (9 ≤ m) = false := decide_eq_false (by omega)
              have d1' : decide (0 < m) = true := decide_eq_true (by omega)
              have z1 : (m : Int) < 9 := by omega
              obtain ⟨pw, hpw⟩ : ∃ x, x = powt m := ⟨_, rfl⟩
              rw [← hpw] at tb pr
              clear hpw
              have w1 : IntKind.i64.wrap (ex + pw) = ex + pw := IntWalk.i64_in _ (by omega)
              have w2 : IntKind.i64.wrap (-pw) = -pw := IntWalk.i64_in _ (by omega)
              go_wp2_with fail
              go_quiet (fail)
              obtain ⟨na, hna⟩ : ∃ x, x = nq := ⟨_, rfl⟩
              rw [← hna]
              clear hna nq
              go_wp2_with fail
              go_quiet (fail)
              have HB1 : Hid (DB ((wr.drewN na).drewN nq) g f2 n2 (m : Int) ng tr2) := ((hh.out.1).drewN _).drewN _
              have HU1 : Hid (Upd [g] wr0 ((wr.drewN na).drewN nq)) := ((hh.out.2.1).drewN _).drewN _
              generalize (wr.drewN na).drewN nq = wq at *
              go_wp2_with (go_at_call 109; refine (shift_down _ g f2 n2 (m : Int) ng tr2 (-pw) HB1.out hn1 hn8 hh.out.2.2.2.1 hh.out.2.2.1 (by omega) (by omega) (by omega) (by omega)).mono ?_; rintro e w4 ⟨rfl, f3, n3, dp3, tr3, hm1, hm2, hdb, hdg, hne, hR, hu⟩)
              have hd3 := hdg 0 (by omega)
              go_roundg (10 * dp3 + (f3 0 - 48)).toNat
              case measure => have := hh.out.2.2.2.2; have h5 := hR.1; unfold Grew at h5; omega
              case rel =>
                have h5 := hR.1
                unfold Grew at h5
                exact ⟨ex + pw, f3, n3, dp3, tr3, rfl, by omega, by omega, hm1, hm2, by omega, by omega, fun h => by omega, hdb, (HU1.out).trans hu, hdg, hne, rfl⟩
          · have d1 : decide (0 < dp2) = false := decide_eq_false hz
            clear hs i0 i1 i2 HHP
            go_upto_region 18 with fail
            have HS3 : Hid (DB wr g f2 n2 dp2 ng tr2 ∧ Upd [g] wr0 wr ∧ Dg f2 n2 ∧ f2 0 ≠ 48) := ⟨hh.out.1, hh.out.2.1, hh.out.2.2.1, hh.out.2.2.2.1⟩
            clear hh c801 d1 hxm
            obtain ⟨wo, hwo⟩ : ∃ wo : World, wo = wr := ⟨_, rfl⟩
            rw [← hwo] at HS3
            rw [← hwo]
            clear hwo
            go_loopg [6] (57 - f2 0 - 10 * dp2).toNat (fun gg x6 wr => ∃ (ey : Int) (f4 : Nat → Int) (n4 : Nat) (dp4 : Int) (tr4 : Bool), x6 = .int .i64 ey ∧ -360000 ≤ ey ∧ ey ≤ 84000 ∧ 1 ≤ n4 ∧ n4 ≤ 800 ∧ -1310 ≤ dp4 ∧ dp4 ≤ 600 ∧ ((dp4 ≤ 0) → -359000 ≤ ey - 27 * (57 - f4 0 - 10 * dp4)) ∧ Hid (DB wr g f4 n4 dp4 ng tr4 ∧ Upd [g] wr0 wr ∧ Dg f4 n4 ∧ f4 0 ≠ 48 ∧ gg = (57 - f4 0 - 10 * dp4).toNat))
            case atStart => exact ⟨ex, f2, n2, dp2, tr2, rfl, by omega, hx1, hn1, hn8, hp0, by omega, fun h => by omega, HS3.out.1, HS3.out.2.1, HS3.out.2.2.1, HS3.out.2.2.2, rfl⟩
            case round =>
              clear HS3
              obtain ⟨ey, f4, n4, dp4, tr4, rfl, hy0, hy1, hn3, hn9, hp2, hp3, hym, hh4⟩ := hrel
              have hP := HP0.out.upd hB hh4.out.2.1
              have hs := hP.sl
              have i0 := hP.i0
              have i1 := hP.i1
              have i2 := hP.i2
              have c801 := hh4.out.1.cdp
              have cd0 := hh4.out.1.dig 0 (by omega)
              have hd4 := hh4.out.2.2.1 0 (by omega)
              have HHP := Lib.hid hP
              clear hP
              obtain ⟨cc, hcc⟩ : ∃ x, x = f4 0 := ⟨_, rfl⟩
              rw [← hcc] at cd0 hd4 hym
              have HCC := Lib.hid hcc
              clear hcc
              by_cases hgo : dp4 < 0 ∨ (dp4 = 0 ∧ cc < 53)
              · have HGO := Lib.hid hgo
                obtain ⟨m, hm⟩ : ∃ m : Nat, -dp4 = (m : Int) := ⟨(-dp4).toNat, by omega⟩
                clear hgo
                have hdm : dp4 = -(m : Int) := by omega
                subst hdm
                have wn : IntKind.i64.wrap (-(-(m : Int))) = (m : Int) := by rw [Int.neg_neg]; exact IntWalk.i64_in _ (by omega)
                have wn2 : IntKind.i64.wrap (m : Int) = (m : Int) := IntWalk.i64_in _ (by omega)
                by_cases h9 : 9 ≤ m
                · have d9 : decide (9 ≤ (m : Int)) = true := decide_eq_true (by omega)
                  have d9' : decide (9 ≤ m) = true := decide_eq_true h9
                  have dl : decide (-(m : Int) < 0) = true := decide_eq_true (by omega)
                  have w1 : IntKind.i64.wrap (ey - 27) = ey - 27 := IntWalk.i64_in _ (by omega)
                  go_wp2_with fail
                  go_quiet (fail)
                  have HB1 : Hid (DB (wr.drewN nq) g f4 n4 (-(m : Int)) ng tr4) := (hh4.out.1).drewN _
                  have HU1 : Hid (Upd [g] wr0 (wr.drewN nq)) := (hh4.out.2.1).drewN _
                  generalize wr.drewN nq = wq at *
                  go_wp2_with (go_at_call 109; refine (shift_up _ g f4 n4 (-(m : Int)) ng tr4 27 B b o cap (HT0.out.upd hB HU1.out) hB HB1.out hn3 hn9 hh4.out.2.2.2.1 hh4.out.2.2.1 (by decide) (by decide) (by omega) (by omega)).mono ?_; rintro e w4 ⟨rfl, f5, n5, dp5, tr5, hm1, hm2, hdb, hdg, hne, hR, hu⟩)
                  have hd3 := hdg 0 (by omega)
                  have h5 := hR.1
                  unfold Grew at h5
                  rw [← HCC.out] at h5
                  go_roundg (57 - f5 0 - 10 * dp5).toNat
                  case measure => have h6 := HGO.out; have := hh4.out.2.2.2.2; rw [← HCC.out] at this; omega
                  case rel =>
                    exact ⟨ey - 27, f5, n5, dp5, tr5, rfl, by omega, by omega, hm1, hm2, by omega, by omega, fun h => by omega, hdb, (HU1.out).trans hu, hdg, hne, rfl⟩
                · have d9 : decide (9 ≤ (m : Int)) = false := decide_eq_false (by omega)
                  have d9' : decide (9 ≤ m) = false := decide_eq_false h9
                  have tb := HHP.out.tab m (by omega)
                  have pr := powt_range m (by omega)
                  have z1 : (m : Int) < 9 := by omega
                  have z1' : m < 9 := by omega
                  obtain ⟨pw, hpw⟩ : ∃ x, x = powt m := ⟨_, rfl⟩
                  rw [← hpw] at tb pr
                  clear hpw
                  have w1 : IntKind.i64.wrap (ey - pw) = ey - pw := IntWalk.i64_in _ (by omega)
                  rcases Nat.eq_zero_or_pos m with hm0 | hm0
                  · subst hm0
                    have dc : decide (cc < 53) = true := decide_eq_true (by have := HGO.out; omega)
                    replace c801 : wr.cell? ⟨g, 801, none⟩ = some (.int .i64 0) := by simpa using c801
                    replace tb : wr.cell? ⟨b2, o2, none⟩ = some (.int .i64 pw) := by simpa using tb
                    clear wn wn2 d9 d9' z1 z1'
                    go_wp2_with fail
                    go_quiet (fail)
                    obtain ⟨na, hna⟩ : ∃ x, x = nq := ⟨_, rfl⟩
                    rw [← hna]
                    clear hna nq
                    go_wp2_with fail
                    go_quiet (fail)
                    have HB1 : Hid (DB ((wr.drewN na).drewN nq) g f4 n4 (-((0 : Nat) : Int)) ng tr4) := ((hh4.out.1).drewN _).drewN _
                    have HU1 : Hid (Upd [g] wr0 ((wr.drewN na).drewN nq)) := ((hh4.out.2.1).drewN _).drewN _
                    generalize (wr.drewN na).drewN nq = wq at *
                    go_wp2_with (go_at_call 109; refine (shift_up _ g f4 n4 (-((0 : Nat) : Int)) ng tr4 pw B b o cap (HT0.out.upd hB HU1.out) hB HB1.out hn3 hn9 hh4.out.2.2.2.1 hh4.out.2.2.1 (by omega) (by omega) (by omega) (by omega)).mono ?_; rintro e w4 ⟨rfl, f5, n5, dp5, tr5, hm1, hm2, hdb, hdg, hne, hR, hu⟩)
                    have hd3 := hdg 0 (by omega)
                    have h5 := hR.1
                    unfold Grew at h5
                    rw [← HCC.out] at h5
                    go_roundg (57 - f5 0 - 10 * dp5).toNat
                    case measure => have h6 := HGO.out; have := hh4.out.2.2.2.2; rw [← HCC.out] at this; omega
                    case rel =>
                      exact ⟨ey - pw, f5, n5, dp5, tr5, rfl, by omega, by omega, hm1, hm2, by omega, by omega, fun h => by omega, hdb, (HU1.out).trans hu, hdg, hne, rfl⟩
                  · have dl : decide (-(m : Int) < 0) = true := decide_eq_true (by omega)
                    go_wp2_with fail
                    go_quiet (fail)
                    obtain ⟨na, hna⟩ : ∃ x, x = nq := ⟨_, rfl⟩
                    rw [← hna]
                    clear hna nq
                    go_wp2_with fail
                    go_quiet (fail)
                    have HB1 : Hid (DB ((wr.drewN na).drewN nq) g f4 n4 (-(m : Int)) ng tr4) := ((hh4.out.1).drewN _).drewN _
                    have HU1 : Hid (Upd [g] wr0 ((wr.drewN na).drewN nq)) := ((hh4.out.2.1).drewN _).drewN _
                    generalize (wr.drewN na).drewN nq = wq at *
                    go_wp2_with (go_at_call 109; refine (shift_up _ g f4 n4 (-(m : Int)) ng tr4 pw B b o cap (HT0.out.upd hB HU1.out) hB HB1.out hn3 hn9 hh4.out.2.2.2.1 hh4.out.2.2.1 (by omega) (by omega) (by omega) (by omega)).mono ?_; rintro e w4 ⟨rfl, f5, n5, dp5, tr5, hm1, hm2, hdb, hdg, hne, hR, hu⟩)
                    have hd3 := hdg 0 (by omega)
                    have h5 := hR.1
                    unfold Grew at h5
                    rw [← HCC.out] at h5
                    go_roundg (57 - f5 0 - 10 * dp5).toNat
                    case measure => have h6 := HGO.out; have := hh4.out.2.2.2.2; rw [← HCC.out] at this; omega
                    case rel =>
                      exact ⟨ey - pw, f5, n5, dp5, tr5, rfl, by omega, by omega, hm1, hm2, by omega, by omega, fun h => by omega, hdb, (HU1.out).trans hu, hdg, hne, rfl⟩
              · by_cases hd40 : dp4 = 0
                · have dq : (dp4 == 0) = true := beq_iff_eq.2 hd40
                  have dl : decide (dp4 < 0) = false := decide_eq_false (by omega)
                  have dc : decide (cc < 53) = false := decide_eq_false (by omega)
                  clear hgo
                  go_upto_region 25 with fail
                  clear dq dl dc hd40
                  have w1 : IntKind.i64.wrap (ey - 1) = ey - 1 := IntWalk.i64_in _ (by omega)
                  have HB4 : Hid (DB wr g f4 n4 dp4 ng tr4) := hh4.out.1
                  have HU4 : Hid (Upd [g] wr0 wr) := hh4.out.2.1
                  have HG4 := Lib.hid hh4.out.2.2.1
                  have HN4 := Lib.hid hh4.out.2.2.2.1
                  clear hh4 hym HCC HHP
                  by_cases hsm : ey - 1 < -1022
                  · have dsm : decide (ey - 1 < -1022) = true := decide_eq_true hsm
                    have w2 : IntKind.i64.wrap (-1022 - (ey - 1)) = -1022 - (ey - 1) := IntWalk.i64_in _ (by omega)
                    have w3 : IntKind.i64.wrap (-(-1022 - (ey - 1))) = -(-1022 - (ey - 1)) := IntWalk.i64_in _ (by omega)
                    have w4 : ey - 1 + (-1022 - (ey - 1)) = -1022 := by omega
                    have w5 : IntKind.i64.wrap (ey - 1 + (-1022 - (ey - 1))) = -1022 := by rw [w4]; decide
                    go_wp2_with (go_at_call 109; refine (shift_down _ g f4 n4 dp4 ng tr4 (-(-1022 - (ey - 1))) HB4.out hn3 hn9 HN4.out HG4.out (by omega) (by omega) (by omega) (by omega)).mono ?_; rintro e wZ ⟨rfl, f5, n5, dp5, tr5, hm1, hm2, hdb, hdg, hne, hR, hu⟩)
                    have HB7 : Hid (DB wZ g f5 n5 dp5 ng tr5) := hdb
                    have HU7 : Hid (Upd [g] wr0 wZ) := (HU4.out).trans hu
                    have HG7 := Lib.hid hdg
                    have HN7 := Lib.hid hne
                    clear hdb hu hdg hne hs c801 cd0 i0 i1 i2 w2 w3 w4 w5
                    have hP := HP0.out.upd hB (HU7.out)
                    have i0 := hP.i0
                    have i1 := hP.i1
                    have i2 := hP.i2
                    clear hP
                    have x1 : IntKind.i64.wrap ((-1022) + 1023) = (-1022) + 1023 := IntWalk.i64_in _ (by omega)
                    have dov : decide (2047 ≤ (-1022) + 1023) = false := decide_eq_false (by omega)
                    go_wp2_with fail
                    go_quiet (fail)
                    have HB5 : Hid (DB (wZ.drewN nq) g f5 n5 (dp5) ng tr5) := (HB7.out).drewN _
                    have HU5 : Hid (Upd [g] wr0 (wZ.drewN nq)) := (HU7.out).drewN _
                    generalize wZ.drewN nq = wq at *
                    clear i0 i1 i2
                    have hP := HP0.out.upd hB HU5.out
                    have i0 := hP.i0
                    have i1 := hP.i1
                    have i2 := hP.i2
                    clear hP
                    go_wp2_with (go_at_call 109; refine (shift_up _ g f5 n5 (dp5) ng tr5 53 B b o cap (HT0.out.upd hB HU5.out) hB HB5.out hm1 hm2 HN7.out HG7.out (by decide) (by decide) (by omega) (by omega)).mono ?_; rintro e w6 ⟨rfl, f6, n6, dp6, tr6, hq1, hq2, hdb6, hdg6, hne6, hR6, hu6⟩)
                    have HB6 : Hid (DB w6 g f6 n6 dp6 ng tr6) := hdb6
                    have HU6 : Hid (Upd [g] wr0 w6) := (HU5.out).trans hu6
                    have HG6 := Lib.hid hdg6
                    clear hdb6 hu6 hdg6 i0 i1 i2
                    have hP := HP0.out.upd hB HU6.out
                    have i0 := hP.i0
                    have i1 := hP.i1
                    have i2 := hP.i2
                    clear hP
                    go_upto_region 33 with (go_at_call 164; refine (rounded_any _ g f6 n6 dp6 ng tr6 HB6.out hq2 HG6.out (by omega) (by omega)).mono ?_; rintro e w7 ⟨⟨v, rfl, hv0, hv1⟩, rfl⟩)
                    by_cases hv2 : v = 9007199254740992
                    · subst hv2
                      have x2 : IntKind.i64.wrap ((-1022) + 1) = (-1022) + 1 := IntWalk.i64_in _ (by omega)
                      have x3 : IntKind.i64.wrap ((-1022) + 1 + 1023) = (-1022) + 1 + 1023 := IntWalk.i64_in _ (by omega)
                      have band : bits .and .u64 4503599627370496 4503599627370496 = 4503599627370496 := by decide
                      have dov2 : decide (2047 ≤ (-1022) + 1 + 1023) = false := decide_eq_false (by omega)
                      go_wp2_with fail
                      go_quiet (fail)
                      go_wp2_with fail
                      go_step3
                      refine via_jump HC rfl ?_
                      have c802 := HB6.out.cng
                      cases ng
                      all_goals
                        go_wp2_with fail
                        go_quiet (fail)
                        go_wp2_with fail
                        try
                          go_quiet (fail)
                          go_wp2_with fail
                        rw [via_ret]
                        go_ret2
                        exact ⟨_, _, rfl, HWX.out _ (by first | exact (HU6.out).drewN _ | exact ((HU6.out).drewN _).drewN _ | exact (((HU6.out).drewN _).drewN _).drewN _)⟩
                    · have dv : (v == 9007199254740992) = false := beq_eq_false_iff_ne.2 hv2
                      have dv' : decide (v = 9007199254740992) = false := decide_eq_false hv2
                      by_cases hz : bits .and .u64 v 4503599627370496 = 0
                      · have dz : (bits .and .u64 v 4503599627370496 == 0) = true := beq_iff_eq.2 hz
                        go_wp2_with fail
                        go_step3
                        refine via_jump HC rfl ?_
                        have c802 := HB6.out.cng
                        cases ng
                        all_goals
                          go_wp2_with fail
                          go_quiet (fail)
                          go_wp2_with fail
                          try
                            go_quiet (fail)
                            go_wp2_with fail
                          rw [via_ret]
                          go_ret2
                          exact ⟨_, _, rfl, HWX.out _ (by first | exact (HU6.out).drewN _ | exact ((HU6.out).drewN _).drewN _ | exact (((HU6.out).drewN _).drewN _).drewN _)⟩
                      · have dz : (bits .and .u64 v 4503599627370496 == 0) = false := beq_eq_false_iff_ne.2 hz
                        clear hz
                        go_wp2_with fail
                        go_step3
                        refine via_jump HC rfl ?_
                        have c802 := HB6.out.cng
                        cases ng
                        all_goals
                          go_wp2_with fail
                          go_quiet (fail)
                          go_wp2_with fail
                          try
                            go_quiet (fail)
                            go_wp2_with fail
                          rw [via_ret]
                          go_ret2
                          exact ⟨_, _, rfl, HWX.out _ (by first | exact (HU6.out).drewN _ | exact ((HU6.out).drewN _).drewN _ | exact (((HU6.out).drewN _).drewN _).drewN _)⟩
                  · have dsm : decide (ey - 1 < -1022) = false := decide_eq_false hsm
                    clear hs c801 cd0 i0 i1 i2
                    have hP := HP0.out.upd hB (HU4.out)
                    have i0 := hP.i0
                    have i1 := hP.i1
                    have i2 := hP.i2
                    clear hP
                    have x1 : IntKind.i64.wrap ((ey - 1) + 1023) = (ey - 1) + 1023 := IntWalk.i64_in _ (by omega)
                    by_cases hov : 1024 ≤ ey - 1
                    · have dov : decide (2047 ≤ (ey - 1) + 1023) = true := decide_eq_true (by omega)
                      go_wp2_with fail
                      go_quiet (fail)
                      go_wp2_with fail
                      go_step3
                      refine via_jump HC rfl ?_
                      go_wp2_with fail
                      go_quiet (fail)
                      go_wp2_with fail
                      go_step3
                      have c802 := HB4.out.cng
                      cases ng
                      all_goals
                        go_wp2_with fail
                        go_quiet (fail)
                        go_wp2_with fail
                        try
                          go_quiet (fail)
                          go_wp2_with fail
                        rw [via_ret]
                        go_ret2
                        exact ⟨_, _, rfl, HWX.out _ (by first | exact (HU4.out).drewN _ | exact ((HU4.out).drewN _).drewN _ | exact (((HU4.out).drewN _).drewN _).drewN _)⟩
                    · have dov : decide (2047 ≤ (ey - 1) + 1023) = false := decide_eq_false (by omega)
                      go_wp2_with fail
                      go_quiet (fail)
                      have HB5 : Hid (DB (wr.drewN nq) g f4 n4 (dp4) ng tr4) := (HB4.out).drewN _
                      have HU5 : Hid (Upd [g] wr0 (wr.drewN nq)) := (HU4.out).drewN _
                      generalize wr.drewN nq = wq at *
                      clear i0 i1 i2
                      have hP := HP0.out.upd hB HU5.out
                      have i0 := hP.i0
                      have i1 := hP.i1
                      have i2 := hP.i2
                      clear hP
                      go_wp2_with (go_at_call 109; refine (shift_up _ g f4 n4 (dp4) ng tr4 53 B b o cap (HT0.out.upd hB HU5.out) hB HB5.out hn3 hn9 HN4.out HG4.out (by decide) (by decide) (by omega) (by omega)).mono ?_; rintro e w6 ⟨rfl, f6, n6, dp6, tr6, hq1, hq2, hdb6, hdg6, hne6, hR6, hu6⟩)
                      have HB6 : Hid (DB w6 g f6 n6 dp6 ng tr6) := hdb6
                      have HU6 : Hid (Upd [g] wr0 w6) := (HU5.out).trans hu6
                      have HG6 := Lib.hid hdg6
                      clear hdb6 hu6 hdg6 i0 i1 i2
                      have hP := HP0.out.upd hB HU6.out
                      have i0 := hP.i0
                      have i1 := hP.i1
                      have i2 := hP.i2
                      clear hP
                      go_upto_region 33 with (go_at_call 164; refine (rounded_any _ g f6 n6 dp6 ng tr6 HB6.out hq2 HG6.out (by omega) (by omega)).mono ?_; rintro e w7 ⟨⟨v, rfl, hv0, hv1⟩, rfl⟩)
                      by_cases hv2 : v = 9007199254740992
                      · subst hv2
                        have x2 : IntKind.i64.wrap ((ey - 1) + 1) = (ey - 1) + 1 := IntWalk.i64_in _ (by omega)
                        have x3 : IntKind.i64.wrap ((ey - 1) + 1 + 1023) = (ey - 1) + 1 + 1023 := IntWalk.i64_in _ (by omega)
                        have band : bits .and .u64 4503599627370496 4503599627370496 = 4503599627370496 := by decide
                        by_cases hov2 : 1024 ≤ (ey - 1) + 1
                        · have dov2 : decide (2047 ≤ (ey - 1) + 1 + 1023) = true := decide_eq_true (by omega)
                          go_wp2_with fail
                          go_quiet (fail)
                          go_wp2_with fail
                          go_step3
                          refine via_jump HC rfl ?_
                          go_wp2_with fail
                          go_quiet (fail)
                          go_wp2_with fail
                          go_step3
                          have c802 := HB6.out.cng
                          cases ng
                          all_goals
                            go_wp2_with fail
                            go_quiet (fail)
                            go_wp2_with fail
                            try
                              go_quiet (fail)
                              go_wp2_with fail
                            rw [via_ret]
                            go_ret2
                            exact ⟨_, _, rfl, HWX.out _ (by first | exact (HU6.out).drewN _ | exact ((HU6.out).drewN _).drewN _ | exact (((HU6.out).drewN _).drewN _).drewN _)⟩
                        · have dov2 : decide (2047 ≤ (ey - 1) + 1 + 1023) = false := decide_eq_false (by omega)
                          go_wp2_with fail
                          go_quiet (fail)
                          go_wp2_with fail
                          go_step3
                          refine via_jump HC rfl ?_
                          have c802 := HB6.out.cng
                          cases ng
                          all_goals
                            go_wp2_with fail
                            go_quiet (fail)
                            go_wp2_with fail
                            try
                              go_quiet (fail)
                              go_wp2_with fail
                            rw [via_ret]
                            go_ret2
                            exact ⟨_, _, rfl, HWX.out _ (by first | exact (HU6.out).drewN _ | exact ((HU6.out).drewN _).drewN _ | exact (((HU6.out).drewN _).drewN _).drewN _)⟩
                      · have dv : (v == 9007199254740992) = false := beq_eq_false_iff_ne.2 hv2
                        have dv' : decide (v = 9007199254740992) = false := decide_eq_false hv2
                        by_cases hz : bits .and .u64 v 4503599627370496 = 0
                        · have dz : (bits .and .u64 v 4503599627370496 == 0) = true := beq_iff_eq.2 hz
                          go_wp2_with fail
                          go_step3
                          refine via_jump HC rfl ?_
                          have c802 := HB6.out.cng
                          cases ng
                          all_goals
                            go_wp2_with fail
                            go_quiet (fail)
                            go_wp2_with fail
                            try
                              go_quiet (fail)
                              go_wp2_with fail
                            rw [via_ret]
                            go_ret2
                            exact ⟨_, _, rfl, HWX.out _ (by first | exact (HU6.out).drewN _ | exact ((HU6.out).drewN _).drewN _ | exact (((HU6.out).drewN _).drewN _).drewN _)⟩
                        · have dz : (bits .and .u64 v 4503599627370496 == 0) = false := beq_eq_false_iff_ne.2 hz
                          clear hz
                          go_wp2_with fail
                          go_step3
                          refine via_jump HC rfl ?_
                          have c802 := HB6.out.cng
                          cases ng
                          all_goals
                            go_wp2_with fail
                            go_quiet (fail)
                            go_wp2_with fail
                            try
                              go_quiet (fail)
                              go_wp2_with fail
                            rw [via_ret]
                            go_ret2
                            exact ⟨_, _, rfl, HWX.out _ (by first | exact (HU6.out).drewN _ | exact ((HU6.out).drewN _).drewN _ | exact (((HU6.out).drewN _).drewN _).drewN _)⟩
                · have dq : (dp4 == 0) = false := beq_eq_false_iff_ne.2 hd40
                  have dl : decide (dp4 < 0) = false := decide_eq_false (by omega)
                  clear hgo
                  go_upto_region 25 with fail
                  clear dq dl hd40
                  have w1 : IntKind.i64.wrap (ey - 1) = ey - 1 := IntWalk.i64_in _ (by omega)
                  have HB4 : Hid (DB wr g f4 n4 dp4 ng tr4) := hh4.out.1
                  have HU4 : Hid (Upd [g] wr0 wr) := hh4.out.2.1
                  have HG4 := Lib.hid hh4.out.2.2.1
                  have HN4 := Lib.hid hh4.out.2.2.2.1
                  clear hh4 hym HCC HHP
                  by_cases hsm : ey - 1 < -1022
                  · have dsm : decide (ey - 1 < -1022) = true := decide_eq_true hsm
                    have w2 : IntKind.i64.wrap (-1022 - (ey - 1)) = -1022 - (ey - 1) := IntWalk.i64_in _ (by omega)
                    have w3 : IntKind.i64.wrap (-(-1022 - (ey - 1))) = -(-1022 - (ey - 1)) := IntWalk.i64_in _ (by omega)
                    have w4 : ey - 1 + (-1022 - (ey - 1)) = -1022 := by omega
                    have w5 : IntKind.i64.wrap (ey - 1 + (-1022 - (ey - 1))) = -1022 := by rw [w4]; decide
                    go_wp2_with (go_at_call 109; refine (shift_down _ g f4 n4 dp4 ng tr4 (-(-1022 - (ey - 1))) HB4.out hn3 hn9 HN4.out HG4.out (by omega) (by omega) (by omega) (by omega)).mono ?_; rintro e wZ ⟨rfl, f5, n5, dp5, tr5, hm1, hm2, hdb, hdg, hne, hR, hu⟩)
                    have HB7 : Hid (DB wZ g f5 n5 dp5 ng tr5) := hdb
                    have HU7 : Hid (Upd [g] wr0 wZ) := (HU4.out).trans hu
                    have HG7 := Lib.hid hdg
                    have HN7 := Lib.hid hne
                    clear hdb hu hdg hne hs c801 cd0 i0 i1 i2 w2 w3 w4 w5
                    have hP := HP0.out.upd hB (HU7.out)
                    have i0 := hP.i0
                    have i1 := hP.i1
                    have i2 := hP.i2
                    clear hP
                    have x1 : IntKind.i64.wrap ((-1022) + 1023) = (-1022) + 1023 := IntWalk.i64_in _ (by omega)
                    have dov : decide (2047 ≤ (-1022) + 1023) = false := decide_eq_false (by omega)
                    go_wp2_with fail
                    go_quiet (fail)
                    have HB5 : Hid (DB (wZ.drewN nq) g f5 n5 (dp5) ng tr5) := (HB7.out).drewN _
                    have HU5 : Hid (Upd [g] wr0 (wZ.drewN nq)) := (HU7.out).drewN _
                    generalize wZ.drewN nq = wq at *
                    clear i0 i1 i2
                    have hP := HP0.out.upd hB HU5.out
                    have i0 := hP.i0
                    have i1 := hP.i1
                    have i2 := hP.i2
                    clear hP
                    go_wp2_with (go_at_call 109; refine (shift_up _ g f5 n5 (dp5) ng tr5 53 B b o cap (HT0.out.upd hB HU5.out) hB HB5.out hm1 hm2 HN7.out HG7.out (by decide) (by decide) (by omega) (by omega)).mono ?_; rintro e w6 ⟨rfl, f6, n6, dp6, tr6, hq1, hq2, hdb6, hdg6, hne6, hR6, hu6⟩)
                    have HB6 : Hid (DB w6 g f6 n6 dp6 ng tr6) := hdb6
                    have HU6 : Hid (Upd [g] wr0 w6) := (HU5.out).trans hu6
                    have HG6 := Lib.hid hdg6
                    clear hdb6 hu6 hdg6 i0 i1 i2
                    have hP := HP0.out.upd hB HU6.out
                    have i0 := hP.i0
                    have i1 := hP.i1
                    have i2 := hP.i2
                    clear hP
                    go_upto_region 33 with (go_at_call 164; refine (rounded_any _ g f6 n6 dp6 ng tr6 HB6.out hq2 HG6.out (by omega) (by omega)).mono ?_; rintro e w7 ⟨⟨v, rfl, hv0, hv1⟩, rfl⟩)
                    by_cases hv2 : v = 9007199254740992
                    · subst hv2
                      have x2 : IntKind.i64.wrap ((-1022) + 1) = (-1022) + 1 := IntWalk.i64_in _ (by omega)
                      have x3 : IntKind.i64.wrap ((-1022) + 1 + 1023) = (-1022) + 1 + 1023 := IntWalk.i64_in _ (by omega)
                      have band : bits .and .u64 4503599627370496 4503599627370496 = 4503599627370496 := by decide
                      have dov2 : decide (2047 ≤ (-1022) + 1 + 1023) = false := decide_eq_false (by omega)
                      go_wp2_with fail
                      go_quiet (fail)
                      go_wp2_with fail
                      go_step3
                      refine via_jump HC rfl ?_
                      have c802 := HB6.out.cng
                      cases ng
                      all_goals
                        go_wp2_with fail
                        go_quiet (fail)
                        go_wp2_with fail
                        try
                          go_quiet (fail)
                          go_wp2_with fail
                        rw [via_ret]
                        go_ret2
                        exact ⟨_, _, rfl, HWX.out _ (by first | exact (HU6.out).drewN _ | exact ((HU6.out).drewN _).drewN _ | exact (((HU6.out).drewN _).drewN _).drewN _)⟩
                    · have dv : (v == 9007199254740992) = false := beq_eq_false_iff_ne.2 hv2
                      have dv' : decide (v = 9007199254740992) = false := decide_eq_false hv2
                      by_cases hz : bits .and .u64 v 4503599627370496 = 0
                      · have dz : (bits .and .u64 v 4503599627370496 == 0) = true := beq_iff_eq.2 hz
                        go_wp2_with fail
                        go_step3
                        refine via_jump HC rfl ?_
                        have c802 := HB6.out.cng
                        cases ng
                        all_goals
                          go_wp2_with fail
                          go_quiet (fail)
                          go_wp2_with fail
                          try
                            go_quiet (fail)
                            go_wp2_with fail
                          rw [via_ret]
                          go_ret2
                          exact ⟨_, _, rfl, HWX.out _ (by first | exact (HU6.out).drewN _ | exact ((HU6.out).drewN _).drewN _ | exact (((HU6.out).drewN _).drewN _).drewN _)⟩
                      · have dz : (bits .and .u64 v 4503599627370496 == 0) = false := beq_eq_false_iff_ne.2 hz
                        clear hz
                        go_wp2_with fail
                        go_step3
                        refine via_jump HC rfl ?_
                        have c802 := HB6.out.cng
                        cases ng
                        all_goals
                          go_wp2_with fail
                          go_quiet (fail)
                          go_wp2_with fail
                          try
                            go_quiet (fail)
                            go_wp2_with fail
                          rw [via_ret]
                          go_ret2
                          exact ⟨_, _, rfl, HWX.out _ (by first | exact (HU6.out).drewN _ | exact ((HU6.out).drewN _).drewN _ | exact (((HU6.out).drewN _).drewN _).drewN _)⟩
                  · have dsm : decide (ey - 1 < -1022) = false := decide_eq_false hsm
                    clear hs c801 cd0 i0 i1 i2
                    have hP := HP0.out.upd hB (HU4.out)
                    have i0 := hP.i0
                    have i1 := hP.i1
                    have i2 := hP.i2
                    clear hP
                    have x1 : IntKind.i64.wrap ((ey - 1) + 1023) = (ey - 1) + 1023 := IntWalk.i64_in _ (by omega)
                    by_cases hov : 1024 ≤ ey - 1
                    · have dov : decide (2047 ≤ (ey - 1) + 1023) = true := decide_eq_true (by omega)
                      go_wp2_with fail
                      go_quiet (fail)
                      go_wp2_with fail
                      go_step3
                      refine via_jump HC rfl ?_
                      go_wp2_with fail
                      go_quiet (fail)
                      go_wp2_with fail
                      go_step3
                      have c802 := HB4.out.cng
                      cases ng
                      all_goals
                        go_wp2_with fail
                        go_quiet (fail)
                        go_wp2_with fail
                        try
                          go_quiet (fail)
                          go_wp2_with fail
                        rw [via_ret]
                        go_ret2
                        exact ⟨_, _, rfl, HWX.out _ (by first | exact (HU4.out).drewN _ | exact ((HU4.out).drewN _).drewN _ | exact (((HU4.out).drewN _).drewN _).drewN _)⟩
                    · have dov : decide (2047 ≤ (ey - 1) + 1023) = false := decide_eq_false (by omega)
                      go_wp2_with fail
                      go_quiet (fail)
                      have HB5 : Hid (DB (wr.drewN nq) g f4 n4 (dp4) ng tr4) := (HB4.out).drewN _
                      have HU5 : Hid (Upd [g] wr0 (wr.drewN nq)) := (HU4.out).drewN _
                      generalize wr.drewN nq = wq at *
                      clear i0 i1 i2
                      have hP := HP0.out.upd hB HU5.out
                      have i0 := hP.i0
                      have i1 := hP.i1
                      have i2 := hP.i2
                      clear hP
                      go_wp2_with (go_at_call 109; refine (shift_up _ g f4 n4 (dp4) ng tr4 53 B b o cap (HT0.out.upd hB HU5.out) hB HB5.out hn3 hn9 HN4.out HG4.out (by decide) (by decide) (by omega) (by omega)).mono ?_; rintro e w6 ⟨rfl, f6, n6, dp6, tr6, hq1, hq2, hdb6, hdg6, hne6, hR6, hu6⟩)
                      have HB6 : Hid (DB w6 g f6 n6 dp6 ng tr6) := hdb6
                      have HU6 : Hid (Upd [g] wr0 w6) := (HU5.out).trans hu6
                      have HG6 := Lib.hid hdg6
                      clear hdb6 hu6 hdg6 i0 i1 i2
                      have hP := HP0.out.upd hB HU6.out
                      have i0 := hP.i0
                      have i1 := hP.i1
                      have i2 := hP.i2
                      clear hP
                      go_upto_region 33 with (go_at_call 164; refine (rounded_any _ g f6 n6 dp6 ng tr6 HB6.out hq2 HG6.out (by omega) (by omega)).mono ?_; rintro e w7 ⟨⟨v, rfl, hv0, hv1⟩, rfl⟩)
                      by_cases hv2 : v = 9007199254740992
                      · subst hv2
                        have x2 : IntKind.i64.wrap ((ey - 1) + 1) = (ey - 1) + 1 := IntWalk.i64_in _ (by omega)
                        have x3 : IntKind.i64.wrap ((ey - 1) + 1 + 1023) = (ey - 1) + 1 + 1023 := IntWalk.i64_in _ (by omega)
                        have band : bits .and .u64 4503599627370496 4503599627370496 = 4503599627370496 := by decide
                        by_cases hov2 : 1024 ≤ (ey - 1) + 1
                        · have dov2 : decide (2047 ≤ (ey - 1) + 1 + 1023) = true := decide_eq_true (by omega)
                          go_wp2_with fail
                          go_quiet (fail)
                          go_wp2_with fail
                          go_step3
                          refine via_jump HC rfl ?_
                          go_wp2_with fail
                          go_quiet (fail)
                          go_wp2_with fail
                          go_step3
                          have c802 := HB6.out.cng
                          cases ng
                          all_goals
                            go_wp2_with fail
                            go_quiet (fail)
                            go_wp2_with fail
                            try
                              go_quiet (fail)
                              go_wp2_with fail
                            rw [via_ret]
                            go_ret2
                            exact ⟨_, _, rfl, HWX.out _ (by first | exact (HU6.out).drewN _ | exact ((HU6.out).drewN _).drewN _ | exact (((HU6.out).drewN _).drewN _).drewN _)⟩
                        · have dov2 : decide (2047 ≤ (ey - 1) + 1 + 1023) = false := decide_eq_false (by omega)
                          go_wp2_with fail
                          go_quiet (fail)
                          go_wp2_with fail
                          go_step3
                          refine via_jump HC rfl ?_
                          have c802 := HB6.out.cng
                          cases ng
                          all_goals
                            go_wp2_with fail
                            go_quiet (fail)
                            go_wp2_with fail
                            try
                              go_quiet (fail)
                              go_wp2_with fail
                            rw [via_ret]
                            go_ret2
                            exact ⟨_, _, rfl, HWX.out _ (by first | exact (HU6.out).drewN _ | exact ((HU6.out).drewN _).drewN _ | exact (((HU6.out).drewN _).drewN _).drewN _)⟩
                      · have dv : (v == 9007199254740992) = false := beq_eq_false_iff_ne.2 hv2
                        have dv' : decide (v = 9007199254740992) = false := decide_eq_false hv2
                        by_cases hz : bits .and .u64 v 4503599627370496 = 0
                        · have dz : (bits .and .u64 v 4503599627370496 == 0) = true := beq_iff_eq.2 hz
                          go_wp2_with fail
                          go_step3
                          refine via_jump HC rfl ?_
                          have c802 := HB6.out.cng
                          cases ng
                          all_goals
                            go_wp2_with fail
                            go_quiet (fail)
                            go_wp2_with fail
                            try
                              go_quiet (fail)
                              go_wp2_with fail
                            rw [via_ret]
                            go_ret2
                            exact ⟨_, _, rfl, HWX.out _ (by first | exact (HU6.out).drewN _ | exact ((HU6.out).drewN _).drewN _ | exact (((HU6.out).drewN _).drewN _).drewN _)⟩
                        · have dz : (bits .and .u64 v 4503599627370496 == 0) = false := beq_eq_false_iff_ne.2 hz
                          clear hz
                          go_wp2_with fail
                          go_step3
                          refine via_jump HC rfl ?_
                          have c802 := HB6.out.cng
                          cases ng
                          all_goals
                            go_wp2_with fail
                            go_quiet (fail)
                            go_wp2_with fail
                            try
                              go_quiet (fail)
                              go_wp2_with fail
                            rw [via_ret]
                            go_ret2
                            exact ⟨_, _, rfl, HWX.out _ (by first | exact (HU6.out).drewN _ | exact ((HU6.out).drewN _).drewN _ | exact (((HU6.out).drewN _).drewN _).drewN _)⟩
end Go.Proofs.YtcnkbdbkglggcaaGreatDoor
