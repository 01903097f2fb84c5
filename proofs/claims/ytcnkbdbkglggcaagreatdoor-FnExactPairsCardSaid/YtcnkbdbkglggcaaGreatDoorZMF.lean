/-
  The program's 'parseString' on a string in a text, all of whose surrogates are in pairs. No condition.
  The program's 'parseLiteral' and 'parseNumber': a word's and a number's text in a text. No condition but the length.
-/
import Derived.Test.YtcnkbdbkglggcaaGreatDoorZMD
import Derived.Test.YtcnkbdbkglggcaaGreatDoorZMA
import Derived.BigQuiet
import Derived.IntWalk
namespace Go.Proofs.YtcnkbdbkglggcaaGreatDoor
open Go.RowKit

theorem cut_two (s : ByteArray) (a b : Nat) (i j : Int) (hi : i = (a : Int)) (hj : j = (b : Int)) (hab : a ≤ b) (h : b ≤ s.size) (w : World) : (Instr.slice 9 (.string s) (some (.int .i64 i)) (some (.int .i64 j)) none).run Tryz.prog w = .ok (.string (s.extract a b)) w := by
  subst hi hj
  simp [Instr.slice, Instr.sliceBounds, Instr.sliceBound, asIntOf, run_underlying Tryz.underlying9]
  rw [if_pos h, if_pos (by omega)]
theorem bsl_le {s : ByteArray} {p q : Nat} : bsl s p q ≤ q := by
  induction q with
  | zero => exact Nat.le_refl _
  | succ q ih =>
    rw [bsl]
    split <;> omega
/-- What 'parseString' returns. -/
def PS1 (w : World) (v : ByteArray) (a k : Nat) (e : Ending) (w' : World) : Prop :=
  ∃ b : Bool, e = .returned (.tuple #[.int .i64 (k + 1 : Nat), .string (v.extract a (k + 1)), .bool b, .bool true]) ∧ (b = false → ∀ y, a + 1 ≤ y → y < k → bt v y ≠ 92) ∧ Upd [] w w'
set_option maxRecDepth 100000 in
set_option maxHeartbeats 8000000 in
theorem pstring_any (w : World) (v : ByteArray) (a k : Nat) (o : List Int) (hs : v.size ≤ 2 ^ 31) (hp : Pre v (a + 1) k o) (ha : bt v a = 34) (hk : k < v.size) (h34 : bt v k = 34) :
    Calls Tryz.prog 66 #[.string v, .int .i64 ((a : Int) + 1)] w fun e w' => PS1 w v a k e w' := by
  have HE := Lib.hid hp.even
  have H34 := Lib.hid h34
  have HA := Lib.hid ha
  have hk1 : a + 1 ≤ k := hp.even.1
  clear hp h34 ha
  go_enter Tryz.func66, Tryz.ntmps66
  go_wp2_with fail
  go_loopg [1] (v.size - (a + 1)) (fun g x1 wr => ∃ i : Nat, a + 1 ≤ i ∧ i ≤ k ∧ x1 = .int .i64 i ∧ wr = w ∧ Hid (g = v.size - i ∧ ∀ y, a + 1 ≤ y → y < i → bt v y ≠ 34 ∧ bt v y ≠ 92))
  case atStart => exact ⟨a + 1, by omega, hk1, by go_num, rfl, rfl, fun y h1 h2 => by omega⟩
  case round =>
    obtain ⟨i, hi1, hik, rfl, rfl, hh⟩ := hrel
    have hil : i < v.size := by omega
    have HB := Lib.hid (bt_lt hil)
    by_cases c34 : (v[i].toNat : Int) = 34
    · have C34 : Hid (bt v i = 34) := by rw [← HB.out]; exact c34
      have d1 : decide (92 < (v[i].toNat : Int)) = false := decide_eq_false (by omega)
      have d2 : ((v[i].toNat : Int) == 34) = true := beq_iff_eq.2 c34
      clear c34
      have hjk : i = k := by
        rcases Nat.lt_or_ge i k with hl | hg
        · have h1 := HE.out.2.2 i hi1 hl C34.out
          have h2 : bsl v (a + 1) i = 0 := by
            rcases Nat.eq_or_lt_of_le hi1 with h3 | h3
            · exact bsl_low (by omega)
            · have h4 := bsl_no (s := v) (p := a + 1) (q := i - 1) (hh.out.2 (i - 1) (by omega) (by omega)).2
              rw [show i - 1 + 1 = i by omega] at h4
              exact h4
          omega
        · omega
      subst hjk
      have HX : Hid (∀ y, a + 1 ≤ y → y < i → bt v y ≠ 92) := fun y h1 h2 => (hh.out.2 y h1 h2).2
      have r1 : IntKind.i64.wrap ((i : Int) + 1) = (i : Int) + 1 := IntWalk.i64_in _ (by omega)
      have r2 : IntKind.i64.wrap ((a : Int) + 1 - 1) = (a : Int) := by rw [show (a : Int) + 1 - 1 = (a : Int) by omega]; exact IntWalk.i64_in _ (by omega)
      have y1 : ∀ w, (Instr.slice 9 (.string v) (some (.int .i64 (a : Int))) (some (.int .i64 ((i : Int) + 1))) none).run Tryz.prog w = .ok (.string (v.extract a (i + 1))) w := fun w => cut_two v a (i + 1) _ _ rfl (by omega) (by omega) (by omega) w
      have y2 : ∀ w, (Instr.slice 9 (.string v) (some (.int .i64 ((a : Int) + 1 - 1))) (some (.int .i64 ((i : Int) + 1))) none).run Tryz.prog w = .ok (.string (v.extract a (i + 1))) w := fun w => cut_two v a (i + 1) _ _ (by omega) (by omega) (by omega) (by omega) w
      go_wp2_with fail
      go_quiet (fail)
      go_wp2_with fail
      refine bodyPost_ret (v := .tuple #[.int .i64 (i + 1 : Nat), .string (v.extract a (i + 1)), .bool false, .bool true]) ?_ rfl ⟨false, rfl, fun _ => HX.out, (Upd.refl [] _).drewN _⟩
      simp [results, Tryz.results66, go_sem]
    · have hik2 : i < k := by
        rcases Nat.lt_or_ge i k with hl | hg
        · exact hl
        · have h1 : i = k := by omega
          subst h1
          exact absurd (HB.out.trans H34.out) c34
      have N34 : Hid (bt v i ≠ 34) := by rw [← HB.out]; exact c34
      have d2 : ((v[i].toNat : Int) == 34) = false := beq_eq_false_iff_ne.2 c34
      clear c34
      by_cases c92 : (v[i].toNat : Int) = 92
      · have d1 : decide (92 < (v[i].toNat : Int)) = false := decide_eq_false (by omega)
        have d3 : ((v[i].toNat : Int) == 92) = true := beq_iff_eq.2 c92
        clear c92
        go_wp2_with fail
        obtain ⟨wo, rfl⟩ : ∃ wo : World, wo = wr := ⟨_, rfl⟩
        go_loopg [1] (v.size - (i + 1)) (fun g x1 wr2 => ∃ j : Nat, a + 2 ≤ j ∧ j ≤ k ∧ x1 = .int .i64 j ∧ wr2 = wo ∧ Hid (g = v.size - j))
        case atStart => exact ⟨i + 1, by omega, by omega, by go_num, rfl, rfl⟩
        case round =>
          clear d1 d2 d3
          obtain ⟨j, hj2, hjk0, rfl, rfl, hh2⟩ := hrel
          have hjl : j < v.size := by omega
          have HB2 := Lib.hid (bt_lt hjl)
          by_cases c34 : (v[j].toNat : Int) = 34
          · have C34 : Hid (bt v j = 34) := by rw [← HB2.out]; exact c34
            have d1 : decide (92 < (v[j].toNat : Int)) = false := decide_eq_false (by omega)
            have d2 : ((v[j].toNat : Int) == 34) = true := beq_iff_eq.2 c34
            clear c34
            have x1 : ∀ w, (Instr.index 9 (.string v) (.int .i64 ((j : Int) - 1))).run Tryz.prog w = .ok (.int .u8 (bt v (j - 1))) w := fun w => idx_nat v _ (j - 1) (by omega) (by omega) w
            by_cases c92 : bt v (j - 1) = 92
            · have d3 : (bt v (j - 1) == 92) = true := beq_iff_eq.2 c92
              have d3' : decide (bt v (j - 1) = 92) = true := decide_eq_true c92
              have HBL : Hid (bsl v (a + 1) j = bsl v (a + 1) (j - 1) + 1) := by
                have := bsl_yes (s := v) (p := a + 1) (q := j - 1) (by omega) c92
                rw [show j - 1 + 1 = j by omega] at this
                exact this
              clear c92
              go_wp2_with fail
              clear x1 d1 d2 d3 d3'
              obtain ⟨wo2, rfl⟩ : ∃ wo2 : World, wo2 = wr := ⟨_, rfl⟩
              go_loopg [9, 10] (j - 2) (fun g x5 x6 wr3 => ∃ n x : Nat, x + 2 ≤ j ∧ x5 = .int .i64 n ∧ x6 = .int .i64 x ∧ wr3 = wo2 ∧ n ≤ j ∧ Hid (g = x ∧ n + bsl v (a + 1) (x + 1) = bsl v (a + 1) (j - 1)) ∧ a ≤ x)
              case atStart => exact ⟨0, j - 2, by omega, rfl, by go_num, rfl, by omega, ⟨rfl, by rw [show j - 2 + 1 = j - 1 by omega, Nat.zero_add]⟩, by omega⟩
              case round =>
                obtain ⟨n, x, hx2, rfl, rfl, rfl, hnj, hh3, hnx⟩ := hrel
                by_cases hx0 : 0 < x
                · have hxl : x < v.size := by omega
                  have HB3 := Lib.hid (bt_lt hxl)
                  by_cases cx : (v[x].toNat : Int) = 92
                  · have e1 : ((v[x].toNat : Int) != 92) = false := by simpa using cx
                    have hax : a + 1 ≤ x := by
                      rcases Nat.eq_or_lt_of_le hnx with h3 | h3
                      · subst h3
                        have h4 := HB3.out
                        have h5 := HA.out
                        omega
                      · omega
                    have HX : Hid (bsl v (a + 1) (x + 1) = bsl v (a + 1) x + 1) := bsl_yes (by omega) (by rw [← HB3.out]; exact cx)
                    have HN : Hid (n + 1 ≤ j) := by
                      have h1 := hh3.out.2
                      have h2 := HX.out
                      have h3 : bsl v (a + 1) (j - 1) ≤ j - 1 := bsl_le
                      show n + 1 ≤ j
                      omega
                    clear cx
                    go_wp2_with fail
                    go_roundg (x - 1)
                    case measure => have := hh3.out.1; omega
                    case rel => exact ⟨n + 1, x - 1, by omega, by go_num, by go_num, rfl, HN.out, ⟨rfl, by have h1 := hh3.out.2; have h2 := HX.out; rw [show x - 1 + 1 = x by omega]; omega⟩, by omega⟩
                  · have e1 : ((v[x].toNat : Int) != 92) = true := by simpa using cx
                    have HBJ : Hid (bsl v (a + 1) j = n + 1) := by
                      have h1 : bsl v (a + 1) (x + 1) = 0 := bsl_no (by rw [← HB3.out]; exact cx)
                      have h2 := hh3.out.2
                      have h3 := HBL.out
                      show bsl v (a + 1) j = n + 1
                      omega
                    clear cx
                    by_cases ev : n % 2 = 0
                    · have q1 : (n : Int).tmod 2 = 0 := by rw [Int.tmod_eq_emod_of_nonneg (by omega)]; omega
                      have hjk : j ≠ k := fun h => by
                        have h1 := HE.out.2.1
                        have h2 := HBJ.out
                        rw [h] at h2
                        omega
                      have HJK := Lib.hid hjk
                      clear hjk ev
                      go_wp2_with fail
                      go_roundg (v.size - (j + 1))
                      case measure => have := hh2.out; omega
                      case rel => exact ⟨j + 1, by omega, by have := HJK.out; omega, by go_num, rfl, rfl⟩
                    · have q1 : (n : Int).tmod 2 = 1 := by rw [Int.tmod_eq_emod_of_nonneg (by omega)]; omega
                      have hjk : j = k := by
                        rcases Nat.lt_or_ge j k with hl | hg
                        · have h1 := HE.out.2.2 j (by omega) hl C34.out
                          have h2 := HBJ.out
                          omega
                        · omega
                      subst hjk
                      have r1 : IntKind.i64.wrap ((j : Int) + 1) = (j : Int) + 1 := IntWalk.i64_in _ (by omega)
                      have r2 : IntKind.i64.wrap ((a : Int) + 1 - 1) = (a : Int) := by rw [show (a : Int) + 1 - 1 = (a : Int) by omega]; exact IntWalk.i64_in _ (by omega)
                      have y1 : ∀ w, (Instr.slice 9 (.string v) (some (.int .i64 (a : Int))) (some (.int .i64 ((j : Int) + 1))) none).run Tryz.prog w = .ok (.string (v.extract a (j + 1))) w := fun w => cut_two v a (j + 1) _ _ rfl (by omega) (by omega) (by omega) w
                      have y2 : ∀ w, (Instr.slice 9 (.string v) (some (.int .i64 ((a : Int) + 1 - 1))) (some (.int .i64 ((j : Int) + 1))) none).run Tryz.prog w = .ok (.string (v.extract a (j + 1))) w := fun w => cut_two v a (j + 1) _ _ (by omega) (by omega) (by omega) (by omega) w
                      go_wp2_with fail
                      go_quiet (fail)
                      go_wp2_with fail
                      refine bodyPost_ret (v := .tuple #[.int .i64 (j + 1 : Nat), .string (v.extract a (j + 1)), .bool true, .bool true]) ?_ rfl ⟨true, rfl, fun h => (by cases h), (Upd.refl [] _).drewN _⟩
                      simp [results, Tryz.results66, go_sem]
                · have hx00 : x = 0 := by omega
                  subst hx00
                  have HBJ : Hid (bsl v (a + 1) j = n + 1) := by
                    have h1 : bsl v (a + 1) (0 + 1) = 0 := bsl_low (by omega)
                    have h2 := hh3.out.2
                    have h3 := HBL.out
                    show bsl v (a + 1) j = n + 1
                    omega
                  by_cases ev : n % 2 = 0
                  · have q1 : (n : Int).tmod 2 = 0 := by rw [Int.tmod_eq_emod_of_nonneg (by omega)]; omega
                    have hjk : j ≠ k := fun h => by
                      have h1 := HE.out.2.1
                      have h2 := HBJ.out
                      rw [h] at h2
                      omega
                    have HJK := Lib.hid hjk
                    clear hjk ev
                    go_wp2_with fail
                    go_roundg (v.size - (j + 1))
                    case measure => have := hh2.out; omega
                    case rel => exact ⟨j + 1, by omega, by have := HJK.out; omega, by go_num, rfl, rfl⟩
                  · have q1 : (n : Int).tmod 2 = 1 := by rw [Int.tmod_eq_emod_of_nonneg (by omega)]; omega
                    have hjk : j = k := by
                      rcases Nat.lt_or_ge j k with hl | hg
                      · have h1 := HE.out.2.2 j (by omega) hl C34.out
                        have h2 := HBJ.out
                        omega
                      · omega
                    subst hjk
                    have r1 : IntKind.i64.wrap ((j : Int) + 1) = (j : Int) + 1 := IntWalk.i64_in _ (by omega)
                    have r2 : IntKind.i64.wrap ((a : Int) + 1 - 1) = (a : Int) := by rw [show (a : Int) + 1 - 1 = (a : Int) by omega]; exact IntWalk.i64_in _ (by omega)
                    have y1 : ∀ w, (Instr.slice 9 (.string v) (some (.int .i64 (a : Int))) (some (.int .i64 ((j : Int) + 1))) none).run Tryz.prog w = .ok (.string (v.extract a (j + 1))) w := fun w => cut_two v a (j + 1) _ _ rfl (by omega) (by omega) (by omega) w
                    have y2 : ∀ w, (Instr.slice 9 (.string v) (some (.int .i64 ((a : Int) + 1 - 1))) (some (.int .i64 ((j : Int) + 1))) none).run Tryz.prog w = .ok (.string (v.extract a (j + 1))) w := fun w => cut_two v a (j + 1) _ _ (by omega) (by omega) (by omega) (by omega) w
                    go_wp2_with fail
                    go_quiet (fail)
                    go_wp2_with fail
                    refine bodyPost_ret (v := .tuple #[.int .i64 (j + 1 : Nat), .string (v.extract a (j + 1)), .bool true, .bool true]) ?_ rfl ⟨true, rfl, fun h => (by cases h), (Upd.refl [] _).drewN _⟩
                    simp [results, Tryz.results66, go_sem]
            · have d3 : (bt v (j - 1) == 92) = false := beq_eq_false_iff_ne.2 c92
              have d3' : decide (bt v (j - 1) = 92) = false := decide_eq_false c92
              have HBL : Hid (bsl v (a + 1) j = 0) := by
                have := bsl_no (s := v) (p := a + 1) (q := j - 1) c92
                rw [show j - 1 + 1 = j by omega] at this
                exact this
              clear c92
              have hjk : j = k := by
                rcases Nat.lt_or_ge j k with hl | hg
                · have h1 := HE.out.2.2 j (by omega) hl C34.out
                  have h2 := HBL.out
                  omega
                · omega
              subst hjk
              have r1 : IntKind.i64.wrap ((j : Int) + 1) = (j : Int) + 1 := IntWalk.i64_in _ (by omega)
              have r2 : IntKind.i64.wrap ((a : Int) + 1 - 1) = (a : Int) := by rw [show (a : Int) + 1 - 1 = (a : Int) by omega]; exact IntWalk.i64_in _ (by omega)
              have y1 : ∀ w, (Instr.slice 9 (.string v) (some (.int .i64 (a : Int))) (some (.int .i64 ((j : Int) + 1))) none).run Tryz.prog w = .ok (.string (v.extract a (j + 1))) w := fun w => cut_two v a (j + 1) _ _ rfl (by omega) (by omega) (by omega) w
              have y2 : ∀ w, (Instr.slice 9 (.string v) (some (.int .i64 ((a : Int) + 1 - 1))) (some (.int .i64 ((j : Int) + 1))) none).run Tryz.prog w = .ok (.string (v.extract a (j + 1))) w := fun w => cut_two v a (j + 1) _ _ (by omega) (by omega) (by omega) (by omega) w
              go_wp2_with fail
              go_quiet (fail)
              go_wp2_with fail
              refine bodyPost_ret (v := .tuple #[.int .i64 (j + 1 : Nat), .string (v.extract a (j + 1)), .bool true, .bool true]) ?_ rfl ⟨true, rfl, fun h => (by cases h), (Upd.refl [] _).drewN _⟩
              simp [results, Tryz.results66, go_sem]
          · have N34 : Hid (bt v j ≠ 34) := by rw [← HB2.out]; exact c34
            have hjk2 : j < k := by
              rcases Nat.lt_or_ge j k with hl | hg
              · exact hl
              · have h1 : j = k := by omega
                subst h1
                exact absurd H34.out N34.out
            have d2 : ((v[j].toNat : Int) == 34) = false := beq_eq_false_iff_ne.2 c34
            clear c34
            by_cases cg : 92 < (v[j].toNat : Int)
            all_goals
              go_wp2_with fail
              go_roundg (v.size - (j + 1))
              case measure => have := hh2.out; omega
              case rel => exact ⟨j + 1, by omega, by omega, by go_num, rfl, rfl⟩
      · have d3 : ((v[i].toNat : Int) == 92) = false := beq_eq_false_iff_ne.2 c92
        have N92 : Hid (bt v i ≠ 92) := by rw [← HB.out]; exact c92
        clear c92
        have hnext : Hid (∀ y, a + 1 ≤ y → y < i + 1 → bt v y ≠ 34 ∧ bt v y ≠ 92) := fun y h1 h2 => by
          rcases Nat.lt_or_ge y i with hl | hg
          · exact hh.out.2 y h1 hl
          · have : y = i := by omega
            subst this
            exact ⟨N34.out, N92.out⟩
        by_cases cg : 92 < (v[i].toNat : Int)
        all_goals
          go_wp2_with fail
          go_roundg (v.size - (i + 1))
          case measure => have := hh.out.1; omega
          case rel => exact ⟨i + 1, by omega, by omega, by go_num, rfl, rfl, hnext.out⟩
end Go.Proofs.YtcnkbdbkglggcaaGreatDoor

namespace Go.Proofs.YtcnkbdbkglggcaaGreatDoor
open Go.RowKit

theorem cut_rest (s : ByteArray) (a : Nat) (i : Int) (hi : i = (a : Int)) (h : a ≤ s.size) (w : World) : (Instr.slice 9 (.string s) (some (.int .i64 i)) none none).run Tryz.prog w = .ok (.string (s.extract a s.size)) w := by
  subst hi
  simp [Instr.slice, Instr.sliceBounds, Instr.sliceBound, asIntOf, run_underlying Tryz.underlying9]
  intro hc
  omega
set_option maxHeartbeats 2000000 in
theorem plit_any (w : World) (v : ByteArray) (a k : Nat) (hs : v.size ≤ 2 ^ 31) (hak : a < k) (hk : k ≤ v.size) (hin : ∀ y, a + 1 ≤ y → y < k → 97 ≤ bt v y ∧ bt v y ≤ 122) (hout : k < v.size → bt v k < 97 ∨ 122 < bt v k) :
    Calls Tryz.prog 87 #[.string v, .int .i64 (a : Int)] w fun e w' => e = .returned (.tuple #[.int .i64 (k : Int), .string (v.extract a k)]) ∧ Upd [] w w' := by
  have HI := Lib.hid hin
  have HO := Lib.hid hout
  clear hin hout
  go_enter Tryz.func87, Tryz.ntmps87
  go_wp2_with fail
  go_loopg [1] (k - (a + 1)) (fun g x wr => ∃ i : Nat, a + 1 ≤ i ∧ i ≤ k ∧ x = .int .i64 i ∧ wr = w ∧ Hid (g = k - i))
  case atStart => exact ⟨a + 1, by omega, by omega, by go_num, rfl, rfl⟩
  case round =>
    obtain ⟨i, hi1, hik, rfl, rfl, hh⟩ := hrel
    by_cases hlt : i < k
    · have hil : i < v.size := by omega
      have hb := bt_lt hil
      have hr := HI.out i hi1 hlt
      have d1 : decide ((v[i].toNat : Int) < 97) = false := decide_eq_false (by omega)
      have d2 : decide (122 < (v[i].toNat : Int)) = false := decide_eq_false (by omega)
      clear hb hr
      go_wp2_with fail
      go_roundg (k - (i + 1))
      case measure => have := hh.out; omega
      case rel => exact ⟨i + 1, by omega, by omega, by go_num, rfl, rfl⟩
    · have hE : i = k := by omega
      subst hE
      have y1 : ∀ w, (Instr.slice 9 (.string v) (some (.int .i64 (a : Int))) (some (.int .i64 (i : Int))) none).run Tryz.prog w = .ok (.string (v.extract a i)) w := fun w => cut_two v a i _ _ rfl rfl (by omega) hk w
      have y2 : ∀ w, (Instr.slice 9 (.string v) (some (.int .i64 (a : Int))) none none).run Tryz.prog w = .ok (.string (v.extract a v.size)) w := fun w => cut_rest v a _ rfl (by omega) w
      by_cases hl : i < v.size
      · have hb := bt_lt hl
        have hr := HO.out hl
        by_cases h97 : (v[i].toNat : Int) < 97
        · have d1 : decide ((v[i].toNat : Int) < 97) = true := decide_eq_true h97
          clear hb hr h97
          go_wp2_with fail
          go_quiet (fail)
          go_wp2_with fail
          refine bodyPost_ret (v := .tuple #[.int .i64 (i : Int), .string (v.extract a i)]) ?_ rfl ⟨rfl, (Upd.refl [] _).drewN _⟩
          simp [results, Tryz.results87, go_sem]
        · have d1 : decide ((v[i].toNat : Int) < 97) = false := decide_eq_false h97
          have d2 : decide (122 < (v[i].toNat : Int)) = true := decide_eq_true (by omega)
          clear hb hr h97
          go_wp2_with fail
          go_quiet (fail)
          go_wp2_with fail
          refine bodyPost_ret (v := .tuple #[.int .i64 (i : Int), .string (v.extract a i)]) ?_ rfl ⟨rfl, (Upd.refl [] _).drewN _⟩
          simp [results, Tryz.results87, go_sem]
      · have hE2 : i = v.size := by omega
        have HE2 := Lib.hid hE2
        clear hE2
        go_wp2_with fail
        go_quiet (fail)
        go_wp2_with fail
        refine bodyPost_ret (v := .tuple #[.int .i64 (i : Int), .string (v.extract a v.size)]) ?_ rfl ⟨by rw [← HE2.out], (Upd.refl [] _).drewN _⟩
        simp [results, Tryz.results87, go_sem]
/-- A byte that ends a number. -/
def numEnd (c : Int) : Prop := c ≤ 32 ∨ c = 44 ∨ c = 93 ∨ c = 125
set_option maxHeartbeats 4000000 in
theorem pnum_any (w : World) (v : ByteArray) (a k : Nat) (hs : v.size ≤ 2 ^ 31) (hak : a < k) (hk : k ≤ v.size) (hin : ∀ y, a + 1 ≤ y → y < k → ¬ numEnd (bt v y)) (hout : k < v.size → numEnd (bt v k)) :
    Calls Tryz.prog 88 #[.string v, .int .i64 (a : Int)] w fun e w' => e = .returned (.tuple #[.int .i64 (k : Int), .string (v.extract a k)]) ∧ Upd [] w w' := by
  have HI := Lib.hid hin
  have HO := Lib.hid hout
  clear hin hout
  go_enter Tryz.func88, Tryz.ntmps88
  go_wp2_with fail
  go_loopg [1] (k - (a + 1)) (fun g x wr => ∃ i : Nat, a + 1 ≤ i ∧ i ≤ k ∧ x = .int .i64 i ∧ wr = w ∧ Hid (g = k - i))
  case atStart => exact ⟨a + 1, by omega, by omega, by go_num, rfl, rfl⟩
  case round =>
    obtain ⟨i, hi1, hik, rfl, rfl, hh⟩ := hrel
    by_cases hlt : i < k
    · have hil : i < v.size := by omega
      have hb := bt_lt hil
      have hr := HI.out i hi1 hlt
      unfold numEnd at hr
      have d1 : decide ((v[i].toNat : Int) ≤ 32) = false := decide_eq_false (by omega)
      have d2 : ((v[i].toNat : Int) == 44) = false := beq_eq_false_iff_ne.2 (by omega)
      have d3 : ((v[i].toNat : Int) == 93) = false := beq_eq_false_iff_ne.2 (by omega)
      have d4 : ((v[i].toNat : Int) == 125) = false := beq_eq_false_iff_ne.2 (by omega)
      clear hb hr
      go_wp2_with fail
      go_roundg (k - (i + 1))
      case measure => have := hh.out; omega
      case rel => exact ⟨i + 1, by omega, by omega, by go_num, rfl, rfl⟩
    · have hE : i = k := by omega
      subst hE
      have y1 : ∀ w, (Instr.slice 9 (.string v) (some (.int .i64 (a : Int))) (some (.int .i64 (i : Int))) none).run Tryz.prog w = .ok (.string (v.extract a i)) w := fun w => cut_two v a i _ _ rfl rfl (by omega) hk w
      have y2 : ∀ w, (Instr.slice 9 (.string v) (some (.int .i64 (a : Int))) none none).run Tryz.prog w = .ok (.string (v.extract a v.size)) w := fun w => cut_rest v a _ rfl (by omega) w
      by_cases hl : i < v.size
      · have hb := bt_lt hl
        have hr := HO.out hl
        unfold numEnd at hr
        rw [← hb] at hr
        clear hb
        by_cases c1 : (v[i].toNat : Int) ≤ 32
        · have d1 : decide ((v[i].toNat : Int) ≤ 32) = true := decide_eq_true c1
          clear c1 hr
          go_wp2_with fail
          go_quiet (fail)
          go_wp2_with fail
          refine bodyPost_ret (v := .tuple #[.int .i64 (i : Int), .string (v.extract a i)]) ?_ rfl ⟨rfl, (Upd.refl [] _).drewN _⟩
          simp [results, Tryz.results88, go_sem]
        have d1 : decide ((v[i].toNat : Int) ≤ 32) = false := decide_eq_false c1
        by_cases c2 : (v[i].toNat : Int) = 44
        · have d2 : ((v[i].toNat : Int) == 44) = true := beq_iff_eq.2 c2
          clear c1 c2 hr
          go_wp2_with fail
          go_quiet (fail)
          go_wp2_with fail
          refine bodyPost_ret (v := .tuple #[.int .i64 (i : Int), .string (v.extract a i)]) ?_ rfl ⟨rfl, (Upd.refl [] _).drewN _⟩
          simp [results, Tryz.results88, go_sem]
        have d2 : ((v[i].toNat : Int) == 44) = false := beq_eq_false_iff_ne.2 c2
        by_cases c3 : (v[i].toNat : Int) = 93
        · have d3 : ((v[i].toNat : Int) == 93) = true := beq_iff_eq.2 c3
          clear c1 c2 c3 hr
          go_wp2_with fail
          go_quiet (fail)
          go_wp2_with fail
          refine bodyPost_ret (v := .tuple #[.int .i64 (i : Int), .string (v.extract a i)]) ?_ rfl ⟨rfl, (Upd.refl [] _).drewN _⟩
          simp [results, Tryz.results88, go_sem]
        have d3 : ((v[i].toNat : Int) == 93) = false := beq_eq_false_iff_ne.2 c3
        have d4 : ((v[i].toNat : Int) == 125) = true := beq_iff_eq.2 (by omega)
        clear c1 c2 c3 hr
        go_wp2_with fail
        go_quiet (fail)
        go_wp2_with fail
        refine bodyPost_ret (v := .tuple #[.int .i64 (i : Int), .string (v.extract a i)]) ?_ rfl ⟨rfl, (Upd.refl [] _).drewN _⟩
        simp [results, Tryz.results88, go_sem]
      · have hE2 : i = v.size := by omega
        have HE2 := Lib.hid hE2
        clear hE2
        go_wp2_with fail
        go_quiet (fail)
        go_wp2_with fail
        refine bodyPost_ret (v := .tuple #[.int .i64 (i : Int), .string (v.extract a v.size)]) ?_ rfl ⟨by rw [← HE2.out], (Upd.refl [] _).drewN _⟩
        simp [results, Tryz.results88, go_sem]
end Go.Proofs.YtcnkbdbkglggcaaGreatDoor
