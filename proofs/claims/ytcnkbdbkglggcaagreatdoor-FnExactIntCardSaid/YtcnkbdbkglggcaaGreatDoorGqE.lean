/-
  The library's reading of a whole number behind a minus sign, as a float: 'readFloat'. Condition: at most 18 digits, the first of which is not 0. And of the text 0.
-/
import Derived.Test.YtcnkbdbkglggcaaGreatDoorGpD
namespace Go.Proofs.YtcnkbdbkglggcaaGreatDoor
open Go.RowKit

set_option maxRecDepth 100000 in
set_option maxHeartbeats 8000000 in
theorem readFloat_neg (w : World) (s : ByteArray) (hd : DigsAt s 1) (hm45 : bt s 0 = 45) :
    Calls Tryz.prog 142 #[.string s] w fun e w' => e = .returned (.tuple #[.int .u64 (dv s 1 (s.size - 1)), .int .i64 0, .bool true, .bool false, .bool false, .int .i64 s.size, .bool true]) ∧ w' = w := by
  have hl := hd.lt
  have hle := hd.le
  have hl0 : 0 < s.size := by omega
  have hf0 : (s[0].toNat : Int) = bt s 0 := bt_lt hl0
  have hf : (s[1].toNat : Int) = bt s 1 := bt_lt hl
  have hb : 49 ≤ (s[1].toNat : Int) ∧ (s[1].toNat : Int) ≤ 57 := by
    have h1 := hd.dig 1 (by omega) hl
    have h2 := hd.first
    unfold isDig at h1
    omega
  have D := Lib.hid hd
  have d43 : ((s[0].toNat : Int) == 43) = false := beq_eq_false_iff_ne.2 (by omega)
  have d45 : ((s[0].toNat : Int) == 45) = true := beq_iff_eq.2 (by omega)
  have d48 : ((s[1].toNat : Int) == 48) = false := beq_eq_false_iff_ne.2 (by omega)
  have e1 : decide (s = ByteArray.empty) = false := decide_eq_false (by rintro rfl; exact absurd hl (by decide))
  clear hb hf hd hf0 hm45
  go_enter Tryz.func142, Tryz.ntmps142
  go_wp2_with fail
  go_step3
  by_cases h2 : 3 < s.size
  all_goals
    go_wp2_with fail
    go_step3
    go_wp2_with fail
    go_loopg [2, 5, 7, 9, 13, 14, 15, 16, 17] (s.size - 1) (fun g v2 v5 v7 v9 v13 v14 v15 v16 v17 wr => ∃ k j : Nat, j = k + 1 ∧ j ≤ s.size ∧ v2 = .int .u64 (dv s 1 k) ∧ v5 = .bool false ∧ v7 = .int .i64 j ∧ v9 = .bool false ∧ v13 = .bool false ∧ v14 = .bool (decide (0 < k)) ∧ v15 = .int .i64 k ∧ v16 = .int .i64 k ∧ v17 = .int .i64 0 ∧ wr = w ∧ Hid (g = s.size - j))
    case atStart => exact ⟨0, 1, rfl, by omega, rfl, rfl, rfl, rfl, rfl, rfl, rfl, rfl, rfl, rfl, rfl⟩
    case round =>
      obtain ⟨k, j, hjk, hk, rfl, rfl, rfl, rfl, rfl, rfl, rfl, rfl, rfl, rfl, hh⟩ := hrel
      by_cases hlt : j < s.size
      · have hk1 : 48 ≤ (s[j].toNat : Int) ∧ (s[j].toNat : Int) ≤ 57 := by
          have h1 := D.out.dig j (by omega) hlt
          have h3 := bt_lt hlt
          unfold isDig at h1
          omega
        have hv : (dv s 1 k : Int) < 100000000000000000 := by
          have h1 := dv_lt s 1 k fun x hx => D.out.dig (1 + x) (by omega) (by omega)
          have h2 : 10 ^ k ≤ 10 ^ 17 := Nat.pow_le_pow_right (by omega) (by omega)
          omega
        have hnext : ((dv s 1 (k + 1) : Nat) : Int) = (dv s 1 k : Int) * 10 + ((s[j].toNat : Int) - 48) := by
          have h3 := bt_lt hlt
          have h5 : (bt s (1 + k)).toNat = s[j].toNat := by rw [show 1 + k = j by omega, ← h3]; rfl
          have h6 : 48 ≤ s[j].toNat := by omega
          rw [show dv s 1 (k + 1) = dv s 1 k * 10 + ((bt s (1 + k)).toNat - 48) from rfl, h5]
          omega
        have HN := Lib.hid hnext
        clear hnext
        have f95 : ((s[j].toNat : Int) == 95) = false := beq_eq_false_iff_ne.2 (by omega)
        have f46 : ((s[j].toNat : Int) == 46) = false := beq_eq_false_iff_ne.2 (by omega)
        have g48 : decide (48 ≤ (s[j].toNat : Int)) = true := decide_eq_true hk1.1
        have g57 : decide ((s[j].toNat : Int) ≤ 57) = true := decide_eq_true hk1.2
        have g19 : decide ((k : Int) < 19) = true := decide_eq_true (by omega)
        by_cases hk0 : k = 0
        · subst hk0
          have hj1 : j = 1 := by omega
          clear hjk
          subst hj1
          have hv' : (dv s 1 0 : Int) < 10 := by show ((0 : Nat) : Int) < 10; decide
          clear hv h2
          go_wp2_with fail
          go_roundg (s.size - 2)
          case measure => have := hh.out; omega
          case rel =>
            refine ⟨1, 2, rfl, by omega, ?_, rfl, rfl, rfl, rfl, rfl, rfl, rfl, rfl, rfl, rfl⟩
            rw [HN.out]
        · have HJ := Lib.hid hjk
          have hk18 : k < 18 := by omega
          clear hjk
          have hk0' : ((k : Int) == 0) = false := beq_eq_false_iff_ne.2 (by omega)
          by_cases hc : (s[j].toNat : Int) = 48
          · have f48 : ((s[j].toNat : Int) == 48) = true := beq_iff_eq.2 hc
            have C := Lib.hid hc; clear hc
            go_wp2_with fail
            go_roundg (s.size - (j + 1))
            case measure => have := hh.out; omega
            case rel =>
              refine ⟨k + 1, j + 1, by have := HJ.out; omega, by omega, ?_, rfl, by go_num, rfl, rfl, by simp, by go_num, by go_num, rfl, rfl, rfl⟩
              rw [HN.out]
          · have f48 : ((s[j].toNat : Int) == 48) = false := beq_eq_false_iff_ne.2 hc
            clear hc
            go_wp2_with fail
            go_roundg (s.size - (j + 1))
            case measure => have := hh.out; omega
            case rel =>
              refine ⟨k + 1, j + 1, by have := HJ.out; omega, by omega, ?_, rfl, by go_num, rfl, rfl, by simp, by go_num, by go_num, rfl, rfl, rfl⟩
              rw [HN.out]
      · have hE : s.size = k + 1 := by omega
        have hjs : j = s.size := by omega
        subst hjs
        have hsz1 : s.size - 1 = k := by omega
        have hpos : (0 : Int) < (dv s 1 k : Int) := by
          have h1 := dv_pos s 1 k D.out.first (by omega)
          omega
        have p1 : ((dv s 1 k : Int) != 0) = true := bne_iff_ne.2 (by omega)
        have p2 : decide (0 < k) = true := decide_eq_true (by omega)
        have p3 : ((dv s 1 k : Int) == 0) = false := beq_eq_false_iff_ne.2 (by omega)
        have p4 : (dv s 1 k == 0) = false := beq_eq_false_iff_ne.2 (by omega)
        have p5 : (dv s 1 k != 0) = true := bne_iff_ne.2 (by omega)
        have p6 : decide (dv s 1 k = 0) = false := decide_eq_false (by omega)
        have HZ := Lib.hid hsz1
        clear hpos hE hsz1 hjk
        go_wp2_with fail
        rw [Exit.noGoto_ret]
        refine bodyPost_ret (v := .tuple #[.int .u64 (dv s 1 k), .int .i64 0, .bool true, .bool false, .bool false, .int .i64 s.size, .bool true]) ?_ rfl ⟨by rw [HZ.out], rfl⟩
        simp [results, Tryz.results142, go_sem]

set_option maxRecDepth 100000 in
set_option maxHeartbeats 8000000 in
theorem readFloat_zero (w : World) (s : ByteArray) (hz : s.size = 1) (hc : bt s 0 = 48) :
    Calls Tryz.prog 142 #[.string s] w fun e w' => e = .returned (.tuple #[.int .u64 0, .int .i64 0, .bool false, .bool false, .bool false, .int .i64 s.size, .bool true]) ∧ w' = w := by
  have hl : 0 < s.size := by omega
  have hf : (s[0].toNat : Int) = bt s 0 := bt_lt hl
  have n2 : ¬ 2 < s.size := by omega
  have d43 : ((s[0].toNat : Int) == 43) = false := beq_eq_false_iff_ne.2 (by omega)
  have d45 : ((s[0].toNat : Int) == 45) = false := beq_eq_false_iff_ne.2 (by omega)
  have d48 : ((s[0].toNat : Int) == 48) = true := beq_iff_eq.2 (by omega)
  have e0 : decide ((s.size : Int) ≤ 0) = false := decide_eq_false (by omega)
  have HF := Lib.hid (show (s[0].toNat : Int) = 48 by omega)
  have e1 : decide (s = ByteArray.empty) = false := decide_eq_false (by rintro rfl; exact absurd hl (by decide))
  have HZ := Lib.hid hz
  clear hf hc hz
  go_enter Tryz.func142, Tryz.ntmps142
  go_wp2_with fail
  go_step3
  go_wp2_with fail
  go_step3
  go_wp2_with fail
  go_loopg [2, 5, 7, 9, 13, 14, 15, 16, 17] (s.size) (fun g v2 v5 v7 v9 v13 v14 v15 v16 v17 wr => ∃ k : Nat, k ≤ s.size ∧ v2 = .int .u64 0 ∧ v5 = .bool false ∧ v7 = .int .i64 k ∧ v9 = .bool false ∧ v13 = .bool false ∧ v14 = .bool (decide (0 < k)) ∧ v15 = .int .i64 0 ∧ v16 = .int .i64 0 ∧ v17 = .int .i64 (-(k : Int)) ∧ wr = w ∧ Hid (g = s.size - k))
  case atStart => exact ⟨0, by omega, rfl, rfl, rfl, rfl, rfl, rfl, rfl, rfl, rfl, rfl, rfl⟩
  case round =>
    obtain ⟨k, hk, rfl, rfl, rfl, rfl, rfl, rfl, rfl, rfl, rfl, rfl, hh⟩ := hrel
    by_cases hlt : k < s.size
    · have hk0 : k = 0 := by have := HZ.out; omega
      subst hk0
      have d48 : ((s[0].toNat : Int) == 48) = true := beq_iff_eq.2 (by have := HF.out; omega)
      have d95 : ((s[0].toNat : Int) == 95) = false := beq_eq_false_iff_ne.2 (by have := HF.out; omega)
      have d46 : ((s[0].toNat : Int) == 46) = false := beq_eq_false_iff_ne.2 (by have := HF.out; omega)
      have g48 : decide (48 ≤ (s[0].toNat : Int)) = true := decide_eq_true (by have := HF.out; omega)
      have g57 : decide ((s[0].toNat : Int) ≤ 57) = true := decide_eq_true (by have := HF.out; omega)
      have hk1 : 48 ≤ (s[0].toNat : Int) ∧ (s[0].toNat : Int) ≤ 57 := by have := HF.out; omega
      go_wp2_with fail
      go_roundg (s.size - (0 + 1))
      case measure => have := hh.out; omega
      case rel =>
        refine ⟨1, by omega, rfl, rfl, rfl, rfl, rfl, rfl, rfl, rfl, rfl, rfl, rfl⟩
    · have hE : k = s.size := by omega
      subst hE
      have p2 : decide (0 < s.size) = true := decide_eq_true hl
      go_wp2_with fail
      rw [Exit.noGoto_ret]
      refine bodyPost_ret (v := .tuple #[.int .u64 0, .int .i64 0, .bool false, .bool false, .bool false, .int .i64 s.size, .bool true]) ?_ rfl ⟨rfl, rfl⟩
      simp [results, Tryz.results142, go_sem]
end Go.Proofs.YtcnkbdbkglggcaaGreatDoor
