/-
  The program's 'tostr' on a text that begins with a string, all of whose surrogates are in pairs. Condition: what 'unescape' returns on its inside.
-/
import Derived.Test.YtcnkbdbkglggcaaGreatDoorZMD
import Derived.Test.YtcnkbdbkglggcaaGreatDoorZMA
import Derived.Test.YtcnkbdbkglggcaaGreatDoorZMC
import Derived.Deep.RegionWith
import Derived.BigQuiet
import Derived.IntWalk
namespace Go.Proofs.YtcnkbdbkglggcaaGreatDoor
open Go.RowKit

theorem cut_mid (s : ByteArray) (j : Nat) (h1 : 1 ≤ j) (h : j ≤ s.size) (w : World) : (Instr.slice 9 (.string s) (some (.int .i64 1)) (some (.int .i64 (j : Int))) none).run Tryz.prog w = .ok (.string (s.extract 1 j)) w := by
  simp [Instr.slice, Instr.sliceBounds, Instr.sliceBound, asIntOf, run_underlying Tryz.underlying9]
  rw [if_pos h, if_pos (by omega)]
theorem strOf_ext {s : ByteArray} {o : List Int} {a k : Nat} (hk : k ≤ s.size) (hl : k = a + o.length) (h : ∀ y, y < o.length → o.getD y 0 = bt s (a + y)) (hb : ∀ x ∈ o, 0 ≤ x ∧ x < 256) : s.extract a k = strOfNums o := by
  have hz : (s.extract a k).size = o.length := by simp only [ByteArray.size_extract]; omega
  apply ByteArray.ext_getElem (by rw [hz, strOfNums_size])
  intro y h1 h2
  have e1 := bt_extract (s := s) (a := a) (b := k) (k := y) (by omega) hk
  have e2 := h y (by omega)
  unfold bt at e1
  rw [dif_pos h1] at e1
  have hm : o.getD y 0 ∈ o := by
    rw [List.getD_eq_getElem?_getD, List.getElem?_eq_getElem (show y < o.length by omega)]
    exact List.getElem_mem _
  have e3 := hb _ hm
  have e4 : ((strOfNums o)[y].toNat : Int) = o.getD y 0 := by
    simp only [strOfNums, ByteArray.getElem_eq_getElem_data]
    simp only [List.getElem_toArray, List.getElem_map]
    rw [UInt8.toNat_ofNat', List.getD_eq_getElem?_getD, List.getElem?_eq_getElem (show y < o.length by omega)]
    rw [List.getD_eq_getElem?_getD, List.getElem?_eq_getElem (show y < o.length by omega)] at e3
    simp only [Option.getD_some] at e3 ⊢
    omega
  apply UInt8.toNat_inj.1
  have e5 : bt s (a + y) = ((s.extract a k)[y].toNat : Int) := by
    have e6 := bt_extract (s := s) (a := a) (b := k) (k := y) (by omega) hk
    rw [← e6, bt_lt h1]
  omega

set_option maxRecDepth 100000 in
set_option maxHeartbeats 8000000 in
theorem tostr_any (w : World) (v : ByteArray) (k : Nat) (o : List Int) (hs : v.size ≤ 2 ^ 31) (hp : Pre v 1 k o) (hk : k < v.size) (h34 : bt v k = 34) (hplain : (∀ y, 1 ≤ y → y < k → bt v y ≠ 92) → v.extract 1 k = strOfNums o)
    (hu : ∀ w, Calls Tryz.prog 41 #[.string (v.extract 1 k)] w fun e w' => e = .returned (.string (strOfNums o)) ∧ Upd [] w w') :
    Calls Tryz.prog 36 #[.string v] w fun e w' => e = .returned (.tuple #[.string (v.extract 0 (k + 1)), .string (strOfNums o)]) ∧ Upd [] w w' := by
  have HE := Lib.hid hp.even
  have H34 := Lib.hid h34
  have HU := Lib.hid hu
  have HP := Lib.hid hplain
  have hk1 : 1 ≤ k := hp.even.1
  clear hp h34 hu hplain
  go_enter Tryz.func36, Tryz.ntmps36
  go_wp2_with fail
  go_loopg [4] (v.size - 1) (fun g x4 wr => ∃ i : Nat, 1 ≤ i ∧ i ≤ k ∧ x4 = .int .i64 i ∧ wr = w ∧ Hid (g = v.size - i ∧ ∀ y, 1 ≤ y → y < i → bt v y ≠ 34 ∧ bt v y ≠ 92))
  case atStart => exact ⟨1, by omega, hk1, rfl, rfl, rfl, fun y h1 h2 => by omega⟩
  case round =>
    obtain ⟨i, hi1, hik, rfl, rfl, hh⟩ := hrel
    have hil : i < v.size := by omega
    have HB := Lib.hid (bt_lt hil)
    by_cases c34 : (v[i].toNat : Int) = 34
    · have C34 : Hid (bt v i = 34) := by rw [← HB.out]; exact c34
      have d1 : decide (92 < (v[i].toNat : Int)) = false := decide_eq_false (by omega)
      have d2 : ((v[i].toNat : Int) == 34) = true := beq_iff_eq.2 c34
      clear c34
      have hjk : i = k := by
        rcases Nat.lt_or_ge i k with hl | hg
        · have h1 := HE.out.2.2 i hi1 hl C34.out
          have h2 : bsl v 1 i = 0 := by
            rcases Nat.eq_or_lt_of_le hi1 with h3 | h3
            · exact bsl_low (by omega)
            · have h4 := bsl_no (s := v) (p := 1) (q := i - 1) (hh.out.2 (i - 1) (by omega) (by omega)).2
              rw [show i - 1 + 1 = i by omega] at h4
              exact h4
          omega
        · omega
      subst hjk
      have HX := Lib.hid (HP.out fun y h1 h2 => (hh.out.2 y h1 h2).2)
      go_wp2_with fail
      go_quiet (fail)
      go_wp2_with fail
      refine bodyPost_ret (v := .tuple #[.string (v.extract 0 (i + 1)), .string (strOfNums o)]) ?_ rfl ⟨rfl, (Upd.refl [] _).drewN _⟩
      simp [results, Tryz.results36, go_sem, HX.out]
    · have hik2 : i < k := by
        rcases Nat.lt_or_ge i k with hl | hg
        · exact hl
        · have h1 : i = k := by omega
          subst h1
          exact absurd (HB.out.trans H34.out) c34
      have N34 : Hid (bt v i ≠ 34) := by rw [← HB.out]; exact c34
      have d2 : ((v[i].toNat : Int) == 34) = false := beq_eq_false_iff_ne.2 c34
      clear c34
      by_cases c92 : (v[i].toNat : Int) = 92
      · have d1 : decide (92 < (v[i].toNat : Int)) = false := decide_eq_false (by omega)
        have d3 : ((v[i].toNat : Int) == 92) = true := beq_iff_eq.2 c92
        clear c92
        go_wp2_with fail
        obtain ⟨wo, rfl⟩ : ∃ wo : World, wo = wr := ⟨_, rfl⟩
        go_loopg [4] (v.size - (i + 1)) (fun g x4 wr2 => ∃ j : Nat, 2 ≤ j ∧ j ≤ k ∧ x4 = .int .i64 j ∧ wr2 = wo ∧ Hid (g = v.size - j))
        case atStart => exact ⟨i + 1, by omega, by omega, by go_num, rfl, rfl⟩
        case round =>
          clear d1 d2 d3
          obtain ⟨j, hj2, hjk0, rfl, rfl, hh2⟩ := hrel
          have hjl : j < v.size := by omega
          have HB2 := Lib.hid (bt_lt hjl)
          by_cases c34 : (v[j].toNat : Int) = 34
          · have C34 : Hid (bt v j = 34) := by rw [← HB2.out]; exact c34
            have d1 : decide (92 < (v[j].toNat : Int)) = false := decide_eq_false (by omega)
            have d2 : ((v[j].toNat : Int) == 34) = true := beq_iff_eq.2 c34
            clear c34
            have x1 : ∀ w, (Instr.index 9 (.string v) (.int .i64 ((j : Int) - 1))).run Tryz.prog w = .ok (.int .u8 (bt v (j - 1))) w := fun w => idx_nat v _ (j - 1) (by omega) (by omega) w
            by_cases c92 : bt v (j - 1) = 92
            · have d3 : (bt v (j - 1) == 92) = true := beq_iff_eq.2 c92
              have d3' : decide (bt v (j - 1) = 92) = true := decide_eq_true c92
              have HBL : Hid (bsl v 1 j = bsl v 1 (j - 1) + 1) := by
                have := bsl_yes (s := v) (p := 1) (q := j - 1) (by omega) c92
                rw [show j - 1 + 1 = j by omega] at this
                exact this
              clear c92
              go_wp2_with fail
              clear x1 d1 d2 d3 d3'
              obtain ⟨wo2, rfl⟩ : ∃ wo2 : World, wo2 = wr := ⟨_, rfl⟩
              go_loopg [5, 6] (j - 2) (fun g x5 x6 wr3 => ∃ n x : Nat, x + 2 ≤ j ∧ x5 = .int .i64 n ∧ x6 = .int .i64 x ∧ wr3 = wo2 ∧ n ≤ j ∧ Hid (g = x ∧ n + bsl v 1 (x + 1) = bsl v 1 (j - 1)) ∧ n + x + 2 = j)
              case atStart => exact ⟨0, j - 2, by omega, rfl, by go_num, rfl, by omega, ⟨rfl, by rw [show j - 2 + 1 = j - 1 by omega, Nat.zero_add]⟩, by omega⟩
              case round =>
                obtain ⟨n, x, hx2, rfl, rfl, rfl, hnj, hh3, hnx⟩ := hrel
                by_cases hx0 : 0 < x
                · have hxl : x < v.size := by omega
                  have HB3 := Lib.hid (bt_lt hxl)
                  by_cases cx : (v[x].toNat : Int) = 92
                  · have e1 : ((v[x].toNat : Int) != 92) = false := by simpa using cx
                    have HX : Hid (bsl v 1 (x + 1) = bsl v 1 x + 1) := bsl_yes (by omega) (by rw [← HB3.out]; exact cx)
                    clear cx
                    go_wp2_with fail
                    go_roundg (x - 1)
                    case measure => have := hh3.out.1; omega
                    case rel => exact ⟨n + 1, x - 1, by omega, by go_num, by go_num, rfl, by omega, ⟨rfl, by have h1 := hh3.out.2; have h2 := HX.out; rw [show x - 1 + 1 = x by omega]; omega⟩, by omega⟩
                  · have e1 : ((v[x].toNat : Int) != 92) = true := by simpa using cx
                    have HBJ : Hid (bsl v 1 j = n + 1) := by
                      have h1 : bsl v 1 (x + 1) = 0 := bsl_no (by rw [← HB3.out]; exact cx)
                      have h2 := hh3.out.2
                      have h3 := HBL.out
                      show bsl v 1 j = n + 1
                      omega
                    clear cx
                    by_cases ev : n % 2 = 0
                    · have q1 : (n : Int).tmod 2 = 0 := by rw [Int.tmod_eq_emod_of_nonneg (by omega)]; omega
                      have hjk : j ≠ k := fun h => by
                        have h1 := HE.out.2.1
                        have h2 := HBJ.out
                        rw [h] at h2
                        omega
                      have HJK := Lib.hid hjk
                      clear hjk ev
                      go_wp2_with fail
                      go_roundg (v.size - (j + 1))
                      case measure => have := hh2.out; omega
                      case rel => exact ⟨j + 1, by omega, by have := HJK.out; omega, by go_num, rfl, rfl⟩
                    · have q1 : (n : Int).tmod 2 = 1 := by rw [Int.tmod_eq_emod_of_nonneg (by omega)]; omega
                      have hjk : j = k := by
                        rcases Nat.lt_or_ge j k with hl | hg
                        · have h1 := HE.out.2.2 j (by omega) hl C34.out
                          have h2 := HBJ.out
                          omega
                        · omega
                      subst hjk
                      have r1 : IntKind.i64.wrap ((j : Int) + 1) = (j : Int) + 1 := IntWalk.i64_in _ (by omega)
                      have y1 : ∀ w, (Instr.slice 9 (.string v) none (some (.int .i64 ((j : Int) + 1))) none).run Tryz.prog w = .ok (.string (v.extract 0 (j + 1))) w := fun w => cut_nat v _ (j + 1) (by omega) (by omega) w
                      have y2 : ∀ w, (Instr.slice 9 (.string v) (some (.int .i64 1)) (some (.int .i64 (j : Int))) none).run Tryz.prog w = .ok (.string (v.extract 1 j)) w := fun w => cut_mid v j (by omega) (by omega) w
                      go_wp2_with fail
                      go_region_with (go_at_call 41; refine (HU.out _).mono ?_; rintro e w2 ⟨rfl, hu2⟩)
                      all_goals go_wp2_with fail
                      all_goals go_ret2
                      all_goals exact ⟨rfl, by first | exact hu2 | exact (Upd.refl [] _).drew.trans hu2⟩
                · have hx00 : x = 0 := by omega
                  subst hx00
                  have HBJ : Hid (bsl v 1 j = n + 1) := by
                    have h1 : bsl v 1 (0 + 1) = 0 := bsl_low (by omega)
                    have h2 := hh3.out.2
                    have h3 := HBL.out
                    show bsl v 1 j = n + 1
                    omega
                  by_cases ev : n % 2 = 0
                  · have q1 : (n : Int).tmod 2 = 0 := by rw [Int.tmod_eq_emod_of_nonneg (by omega)]; omega
                    have hjk : j ≠ k := fun h => by
                      have h1 := HE.out.2.1
                      have h2 := HBJ.out
                      rw [h] at h2
                      omega
                    have HJK := Lib.hid hjk
                    clear hjk ev
                    go_wp2_with fail
                    go_roundg (v.size - (j + 1))
                    case measure => have := hh2.out; omega
                    case rel => exact ⟨j + 1, by omega, by have := HJK.out; omega, by go_num, rfl, rfl⟩
                  · have q1 : (n : Int).tmod 2 = 1 := by rw [Int.tmod_eq_emod_of_nonneg (by omega)]; omega
                    have hjk : j = k := by
                      rcases Nat.lt_or_ge j k with hl | hg
                      · have h1 := HE.out.2.2 j (by omega) hl C34.out
                        have h2 := HBJ.out
                        omega
                      · omega
                    subst hjk
                    have r1 : IntKind.i64.wrap ((j : Int) + 1) = (j : Int) + 1 := IntWalk.i64_in _ (by omega)
                    have y1 : ∀ w, (Instr.slice 9 (.string v) none (some (.int .i64 ((j : Int) + 1))) none).run Tryz.prog w = .ok (.string (v.extract 0 (j + 1))) w := fun w => cut_nat v _ (j + 1) (by omega) (by omega) w
                    have y2 : ∀ w, (Instr.slice 9 (.string v) (some (.int .i64 1)) (some (.int .i64 (j : Int))) none).run Tryz.prog w = .ok (.string (v.extract 1 j)) w := fun w => cut_mid v j (by omega) (by omega) w
                    go_wp2_with fail
                    go_region_with (go_at_call 41; refine (HU.out _).mono ?_; rintro e w2 ⟨rfl, hu2⟩)
                    all_goals go_wp2_with fail
                    all_goals go_ret2
                    all_goals exact ⟨rfl, by first | exact hu2 | exact (Upd.refl [] _).drew.trans hu2⟩
            · have d3 : (bt v (j - 1) == 92) = false := beq_eq_false_iff_ne.2 c92
              have d3' : decide (bt v (j - 1) = 92) = false := decide_eq_false c92
              have HBL : Hid (bsl v 1 j = 0) := by
                have := bsl_no (s := v) (p := 1) (q := j - 1) c92
                rw [show j - 1 + 1 = j by omega] at this
                exact this
              clear c92
              have hjk : j = k := by
                rcases Nat.lt_or_ge j k with hl | hg
                · have h1 := HE.out.2.2 j (by omega) hl C34.out
                  have h2 := HBL.out
                  omega
                · omega
              subst hjk
              have r1 : IntKind.i64.wrap ((j : Int) + 1) = (j : Int) + 1 := IntWalk.i64_in _ (by omega)
              have y1 : ∀ w, (Instr.slice 9 (.string v) none (some (.int .i64 ((j : Int) + 1))) none).run Tryz.prog w = .ok (.string (v.extract 0 (j + 1))) w := fun w => cut_nat v _ (j + 1) (by omega) (by omega) w
              have y2 : ∀ w, (Instr.slice 9 (.string v) (some (.int .i64 1)) (some (.int .i64 (j : Int))) none).run Tryz.prog w = .ok (.string (v.extract 1 j)) w := fun w => cut_mid v j (by omega) (by omega) w
              go_wp2_with fail
              go_region_with (go_at_call 41; refine (HU.out _).mono ?_; rintro e w2 ⟨rfl, hu2⟩)
              all_goals go_wp2_with fail
              all_goals go_ret2
              all_goals exact ⟨rfl, by first | exact hu2 | exact (Upd.refl [] _).drew.trans hu2⟩
          · have N34 : Hid (bt v j ≠ 34) := by rw [← HB2.out]; exact c34
            have hjk2 : j < k := by
              rcases Nat.lt_or_ge j k with hl | hg
              · exact hl
              · have h1 : j = k := by omega
                subst h1
                exact absurd H34.out N34.out
            have d2 : ((v[j].toNat : Int) == 34) = false := beq_eq_false_iff_ne.2 c34
            clear c34
            by_cases cg : 92 < (v[j].toNat : Int)
            all_goals
              go_wp2_with fail
              go_roundg (v.size - (j + 1))
              case measure => have := hh2.out; omega
              case rel => exact ⟨j + 1, by omega, by omega, by go_num, rfl, rfl⟩
      · have d3 : ((v[i].toNat : Int) == 92) = false := beq_eq_false_iff_ne.2 c92
        have N92 : Hid (bt v i ≠ 92) := by rw [← HB.out]; exact c92
        clear c92
        have hnext : Hid (∀ y, 1 ≤ y → y < i + 1 → bt v y ≠ 34 ∧ bt v y ≠ 92) := fun y h1 h2 => by
          rcases Nat.lt_or_ge y i with hl | hg
          · exact hh.out.2 y h1 hl
          · have : y = i := by omega
            subst this
            exact ⟨N34.out, N92.out⟩
        by_cases cg : 92 < (v[i].toNat : Int)
        all_goals
          go_wp2_with fail
          go_roundg (v.size - (i + 1))
          case measure => have := hh.out.1; omega
          case rel => exact ⟨i + 1, by omega, by omega, by go_num, rfl, rfl, hnext.out⟩
end Go.Proofs.YtcnkbdbkglggcaaGreatDoor
