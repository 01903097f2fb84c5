/-
  The library's reading of a whole number without a sign, as a float: 'readFloat'. Condition: at most 18 digits, the first of which is not 0.
  The library's reading of a whole number without a sign, as a float: from 'special' to 'ParseFloat'. Condition: at most 18 digits, the first of which is not 0, the number below 2^52.
  The library's reading of a whole number behind a minus sign, as a float: 'readFloat'. Condition: at most 18 digits, the first of which is not 0. And of the text 0.
  The library's reading of a whole number as a float, with a sign or without: from 'special' to 'ParseFloat' and 'tonum'. Condition: at most 18 digits, the number's magnitude below 2^52.
-/
import Derived.Test.YtcnkbdbkglggcaaGreatDoorZMA
import Derived.Deep.CutBlock
import Derived.WalkMore
import Derived.Deep.DeepCutAuto
import Derived.Laws.Externs
namespace Go.Proofs.YtcnkbdbkglggcaaGreatDoor
open Go.RowKit

/-- The number that n digits from p spell. -/
def dv (s : ByteArray) (p : Nat) : Nat → Nat
  | 0 => 0
  | n + 1 => dv s p n * 10 + ((bt s (p + n)).toNat - 48)
theorem dv_lt (s : ByteArray) (p : Nat) (n : Nat) (h : ∀ k, k < n → isDig (bt s (p + k))) : dv s p n < 10 ^ n := by
  induction n with
  | zero => simp [dv]
  | succ n ih =>
    have h1 := ih fun k hk => h k (by omega)
    have h2 := h n (by omega)
    unfold isDig at h2
    unfold dv
    rw [Nat.pow_succ]
    omega
theorem dv_pos (s : ByteArray) (p : Nat) (n : Nat) (h : 49 ≤ bt s p) : 0 < n → 0 < dv s p n := by
  induction n with
  | zero => intro h; omega
  | succ n ih =>
    intro _
    unfold dv
    rcases Nat.eq_zero_or_pos n with h0 | h0
    · subst h0
      simp only [dv, Nat.add_zero]
      omega
    · have := ih h0
      omega
/-- A whole number's digits from p to the end: from 1 to 18 of them, the first not 0. -/
structure DigsAt (s : ByteArray) (p : Nat) : Prop where
  lt : p < s.size
  le : s.size ≤ p + 18
  dig : ∀ k, p ≤ k → k < s.size → isDig (bt s k)
  first : 49 ≤ bt s p

set_option maxRecDepth 100000 in
set_option maxHeartbeats 8000000 in
theorem readFloat_nat (w : World) (s : ByteArray) (hd : DigsAt s 0) :
    Calls Tryz.prog 142 #[.string s] w fun e w' => e = .returned (.tuple #[.int .u64 (dv s 0 s.size), .int .i64 0, .bool false, .bool false, .bool false, .int .i64 s.size, .bool true]) ∧ w' = w := by
  have hl := hd.lt
  have hle := hd.le
  have hf : (s[0].toNat : Int) = bt s 0 := bt_lt hl
  have hb : 49 ≤ (s[0].toNat : Int) ∧ (s[0].toNat : Int) ≤ 57 := by
    have h1 := hd.dig 0 (by omega) hl
    have h2 := hd.first
    unfold isDig at h1
    omega
  have D := Lib.hid hd
  have d43 : ((s[0].toNat : Int) == 43) = false := beq_eq_false_iff_ne.2 (by omega)
  have d45 : ((s[0].toNat : Int) == 45) = false := beq_eq_false_iff_ne.2 (by omega)
  have d48 : ((s[0].toNat : Int) == 48) = false := beq_eq_false_iff_ne.2 (by omega)
  have e0 : decide ((s.size : Int) ≤ 0) = false := decide_eq_false (by omega)
  have e1 : decide (s = ByteArray.empty) = false := decide_eq_false (by rintro rfl; exact absurd hl (by decide))
  clear hb hf hd
  go_enter Tryz.func142, Tryz.ntmps142
  go_wp2_with fail
  go_step3
  by_cases h2 : 2 < s.size
  all_goals
    go_wp2_with fail
    go_step3
    go_wp2_with fail
    go_loopg [2, 5, 7, 9, 13, 14, 15, 16, 17] s.size (fun g v2 v5 v7 v9 v13 v14 v15 v16 v17 wr => ∃ k : Nat, k ≤ s.size ∧ v2 = .int .u64 (dv s 0 k) ∧ v5 = .bool false ∧ v7 = .int .i64 k ∧ v9 = .bool false ∧ v13 = .bool false ∧ v14 = .bool (decide (0 < k)) ∧ v15 = .int .i64 k ∧ v16 = .int .i64 k ∧ v17 = .int .i64 0 ∧ wr = w ∧ Hid (g = s.size - k))
    case atStart => exact ⟨0, by omega, rfl, rfl, rfl, rfl, rfl, rfl, rfl, rfl, rfl, rfl, rfl⟩
    case round =>
      obtain ⟨k, hk, rfl, rfl, rfl, rfl, rfl, rfl, rfl, rfl, rfl, rfl, hh⟩ := hrel
      by_cases hlt : k < s.size
      · have hk1 : 48 ≤ (s[k].toNat : Int) ∧ (s[k].toNat : Int) ≤ 57 := by
          have h1 := D.out.dig k (by omega) hlt
          have h3 := bt_lt hlt
          unfold isDig at h1
          omega
        have hv : (dv s 0 k : Int) < 100000000000000000 := by
          have h1 := dv_lt s 0 k fun x hx => D.out.dig (0 + x) (by omega) (by omega)
          have h2 : 10 ^ k ≤ 10 ^ 17 := Nat.pow_le_pow_right (by omega) (by omega)
          omega
        have hnext : ((dv s 0 (k + 1) : Nat) : Int) = (dv s 0 k : Int) * 10 + ((s[k].toNat : Int) - 48) := by
          have h3 := bt_lt hlt
          have h5 : (bt s (0 + k)).toNat = s[k].toNat := by rw [Nat.zero_add, ← h3]; rfl
          have h6 : 48 ≤ s[k].toNat := by omega
          rw [show dv s 0 (k + 1) = dv s 0 k * 10 + ((bt s (0 + k)).toNat - 48) from rfl, h5]
          omega
        have HN := Lib.hid hnext
        clear hnext
        have f95 : ((s[k].toNat : Int) == 95) = false := beq_eq_false_iff_ne.2 (by omega)
        have f46 : ((s[k].toNat : Int) == 46) = false := beq_eq_false_iff_ne.2 (by omega)
        have g48 : decide (48 ≤ (s[k].toNat : Int)) = true := decide_eq_true hk1.1
        have g57 : decide ((s[k].toNat : Int) ≤ 57) = true := decide_eq_true hk1.2
        have g19 : decide ((k : Int) < 19) = true := decide_eq_true (by omega)
        by_cases hk0 : k = 0
        · subst hk0
          go_wp2_with fail
          go_roundg (s.size - (0 + 1))
          case measure => have := hh.out; omega
          case rel =>
            refine ⟨1, by omega, ?_, rfl, rfl, rfl, rfl, rfl, rfl, rfl, rfl, rfl, rfl⟩
            rw [HN.out]
        · have hk0' : ((k : Int) == 0) = false := beq_eq_false_iff_ne.2 (by omega)
          by_cases hc : (s[k].toNat : Int) = 48
          · have f48 : ((s[k].toNat : Int) == 48) = true := beq_iff_eq.2 hc
            have C := Lib.hid hc; clear hc
            go_wp2_with fail
            go_roundg (s.size - (k + 1))
            case measure => have := hh.out; omega
            case rel =>
              refine ⟨k + 1, by omega, ?_, rfl, by go_num, rfl, rfl, by simp, by go_num, by go_num, rfl, rfl, rfl⟩
              rw [HN.out]
          · have f48 : ((s[k].toNat : Int) == 48) = false := beq_eq_false_iff_ne.2 hc
            clear hc
            go_wp2_with fail
            go_roundg (s.size - (k + 1))
            case measure => have := hh.out; omega
            case rel =>
              refine ⟨k + 1, by omega, ?_, rfl, by go_num, rfl, rfl, by simp, by go_num, by go_num, rfl, rfl, rfl⟩
              rw [HN.out]
      · have hE : k = s.size := by omega
        subst hE
        have hpos : (0 : Int) < (dv s 0 s.size : Int) := by
          have h1 := dv_pos s 0 s.size D.out.first hl
          omega
        have p1 : ((dv s 0 s.size : Int) != 0) = true := bne_iff_ne.2 (by omega)
        have p2 : decide (0 < s.size) = true := decide_eq_true hl
        have p3 : ((dv s 0 s.size : Int) == 0) = false := beq_eq_false_iff_ne.2 (by omega)
        have p4 : (dv s 0 s.size == 0) = false := beq_eq_false_iff_ne.2 (by omega)
        have p5 : (dv s 0 s.size != 0) = true := bne_iff_ne.2 (by omega)
        have p6 : decide (dv s 0 s.size = 0) = false := decide_eq_false (by omega)
        clear hpos
        go_wp2_with fail
        rw [Exit.noGoto_ret]
        refine bodyPost_ret (v := .tuple #[.int .u64 (dv s 0 s.size), .int .i64 0, .bool false, .bool false, .bool false, .int .i64 s.size, .bool true]) ?_ rfl ⟨rfl, rfl⟩
        simp [results, Tryz.results142, go_sem]
end Go.Proofs.YtcnkbdbkglggcaaGreatDoor

namespace Go.Proofs.YtcnkbdbkglggcaaGreatDoor
open Go.RowKit

set_option maxHeartbeats 1000000 in
theorem special_nat (w : World) (s : ByteArray) (hd : DigsAt s 0) :
    Calls Tryz.prog 141 #[.string s] w fun e w' => e = .returned (.tuple #[.float .f64 0, .int .i64 0, .bool false]) ∧ w' = w := by
  have hl := hd.lt
  have hf : (s[0].toNat : Int) = bt s 0 := bt_lt hl
  have hb : 49 ≤ (s[0].toNat : Int) ∧ (s[0].toNat : Int) ≤ 57 := by
    have h1 := hd.dig 0 (by omega) hl
    have h2 := hd.first
    unfold isDig at h1
    omega
  have e1 : decide (s = ByteArray.empty) = false := decide_eq_false (by rintro rfl; exact absurd hl (by decide))
  have d1 : ((s[0].toNat : Int) == 43) = false := beq_eq_false_iff_ne.2 (by omega)
  have d2 : ((s[0].toNat : Int) == 45) = false := beq_eq_false_iff_ne.2 (by omega)
  have d3 : ((s[0].toNat : Int) == 105) = false := beq_eq_false_iff_ne.2 (by omega)
  have d4 : ((s[0].toNat : Int) == 73) = false := beq_eq_false_iff_ne.2 (by omega)
  have d5 : ((s[0].toNat : Int) == 110) = false := beq_eq_false_iff_ne.2 (by omega)
  have d6 : ((s[0].toNat : Int) == 78) = false := beq_eq_false_iff_ne.2 (by omega)
  clear hb hf hd
  go_enter Tryz.func141, Tryz.ntmps141
  go_wp2_with fail
  refine bodyPost_ret (v := .tuple #[.float .f64 0, .int .i64 0, .bool false]) ?_ rfl ⟨rfl, rfl⟩
  simp [results, Tryz.results141, go_sem]

/-- What the library's two variables hold that this road reads. -/
structure Gl (w : World) : Prop where
  opt : w.cell? ⟨3, 0, none⟩ = some (.bool true)
  mant : w.cell? ⟨10, 0, none⟩ = some (.int .u64 52)
  lt : 10 < w.heap.size
theorem Gl.upd {w w' : World} (h : Gl w) (hu : Upd [] w w') : Gl w' :=
  ⟨by rw [hu.cell (p := ⟨3, 0, none⟩) (by have := h.lt; show 3 < w.heap.size; omega) (by simp)]; exact h.opt, by rw [hu.cell (p := ⟨10, 0, none⟩) h.lt (by simp)]; exact h.mant, Nat.lt_of_lt_of_le h.lt hu.size⟩
set_option maxHeartbeats 1000000 in
theorem exact_nat (w : World) (hg : Gl w) (m : Nat) (hm : m < 4503599627370496) :
    Calls Tryz.prog 152 #[.int .u64 m, .int .i64 0, .bool false] w fun e w' => e = .returned (.tuple #[.float .f64 (floatOfInt .f64 (m : Int)), .bool true]) ∧ w' = w := by
  have h10 := hg.mant
  go_enter Tryz.func152, Tryz.ntmps152
  go_wp2_with fail
  go_ret2
  exact ⟨rfl, rfl⟩
theorem bool2_no (w : World) : Calls Tryz.prog 150 #[.bool false] w fun e w' => e = .returned (.int .u64 0) ∧ w' = w := by
  go_enter Tryz.func150, Tryz.ntmps150
  go_wp2_with fail
  go_ret
  exact ⟨rfl, rfl⟩

set_option maxRecDepth 100000 in
set_option maxHeartbeats 4000000 in
theorem atof_nat (w : World) (hg : Gl w) (s : ByteArray) (hd : DigsAt s 0) (hm : dv s 0 s.size < 4503599627370496) :
    Calls Tryz.prog 114 #[.string s] w fun e w' => e = .returned (.tuple #[.float .f64 (floatOfInt .f64 (dv s 0 s.size : Int)), .int .i64 s.size, .nilIface]) ∧ w' = w := by
  have hl := hd.lt
  have hpos : (0 : Int) < (dv s 0 s.size : Int) := by
    have h1 := dv_pos s 0 s.size hd.first hl
    omega
  have p1 : ((dv s 0 s.size : Int) == 0) = false := beq_eq_false_iff_ne.2 (by omega)
  have h3 := hg.opt
  go_enter Tryz.func114, Tryz.ntmps114
  go_wp2_with fail
  refine (special_nat _ s hd).mono ?_
  rintro e w1 ⟨rfl, rfl⟩
  go_wp2_with fail
  refine (readFloat_nat _ s hd).mono ?_
  rintro e w1 ⟨rfl, rfl⟩
  go_wp2_with (first | (go_at_call 150; refine (bool2_no _).mono ?_; rintro e w1 ⟨rfl, rfl⟩) | (go_at_call 152; refine (exact_nat _ hg _ hm).mono ?_; rintro e w1 ⟨rfl, rfl⟩))
  refine bodyPost_ret (v := .tuple #[.float .f64 (floatOfInt .f64 (dv s 0 s.size : Int)), .int .i64 s.size, .nilIface]) ?_ rfl ⟨rfl, rfl⟩
  simp [results, Tryz.results114, go_sem]

theorem prefix_nat (w : World) (hg : Gl w) (s : ByteArray) (hd : DigsAt s 0) (hm : dv s 0 s.size < 4503599627370496) :
    Calls Tryz.prog 85 #[.string s, .int .i64 64] w fun e w' => e = .returned (.tuple #[.float .f64 (floatOfInt .f64 (dv s 0 s.size : Int)), .int .i64 s.size, .nilIface]) ∧ w' = w := by
  go_enter Tryz.func85, Tryz.ntmps85
  go_wp2_with fail
  refine (atof_nat _ hg s hd hm).mono ?_
  rintro e w1 ⟨rfl, rfl⟩
  go_wp2_with fail
  refine bodyPost_ret (v := .tuple #[.float .f64 (floatOfInt .f64 (dv s 0 s.size : Int)), .int .i64 s.size, .nilIface]) ?_ rfl ⟨rfl, rfl⟩
  simp [results, Tryz.results85, go_sem]
theorem pf_nat (w : World) (hg : Gl w) (s : ByteArray) (hd : DigsAt s 0) (hm : dv s 0 s.size < 4503599627370496) :
    Calls Tryz.prog 65 #[.string s, .int .i64 64] w fun e w' => e = .returned (.tuple #[.float .f64 (floatOfInt .f64 (dv s 0 s.size : Int)), .nilIface]) ∧ w' = w := by
  have hle := hd.le
  have d1 : ((s.size : Int) != (s.size : Int)) = false := by simp
  go_enter Tryz.func65, Tryz.ntmps65
  go_wp2_with fail
  refine (prefix_nat _ hg s hd hm).mono ?_
  rintro e w1 ⟨rfl, rfl⟩
  go_wp2_with fail
  go_ret2
  exact ⟨rfl, rfl⟩
theorem parseFloat_nat (w : World) (hg : Gl w) (s : ByteArray) (hd : DigsAt s 0) (hm : dv s 0 s.size < 4503599627370496) :
    Calls Tryz.prog 43 #[.string s, .int .i64 64] w fun e w' => e = .returned (.tuple #[.float .f64 (floatOfInt .f64 (dv s 0 s.size : Int)), .nilIface]) ∧ w' = w := by
  go_enter Tryz.func43, Tryz.ntmps43
  go_wp2_with fail
  refine (pf_nat _ hg s hd hm).mono ?_
  rintro e w1 ⟨rfl, rfl⟩
  go_wp2_with fail
  go_ret2
  exact ⟨rfl, rfl⟩
set_option maxHeartbeats 1000000 in
theorem tonum_nat (w : World) (hg : Gl w) (s : ByteArray) (hd : DigsAt s 0) (hm : dv s 0 s.size < 4503599627370496) :
    Calls Tryz.prog 34 #[.string s] w fun e w' => e = .returned (.tuple #[.string s, .float .f64 (floatOfInt .f64 (dv s 0 s.size : Int))]) ∧ w' = w := by
  have hl := hd.lt
  have hle := hd.le
  have D := Lib.hid hd
  have M := Lib.hid hm
  clear hd hm
  go_enter Tryz.func34, Tryz.ntmps34
  go_wp2_with fail
  go_loopg [2, 4] (s.size - 1) (fun g v2 v wr => ∃ k : Nat, 1 ≤ k ∧ k ≤ s.size ∧ v2 = .string ⟨#[]⟩ ∧ v = .int .i64 k ∧ wr = w ∧ Hid (g = s.size - k))
  case atStart => exact ⟨1, by omega, by omega, rfl, rfl, rfl, rfl⟩
  case round =>
    obtain ⟨k, hk0, hk, rfl, rfl, rfl, hh⟩ := hrel
    by_cases hlt : k < s.size
    · have hk1 : 48 ≤ (s[k].toNat : Int) ∧ (s[k].toNat : Int) ≤ 57 := by
        have h1 := D.out.dig k (by omega) hlt
        have h3 := bt_lt hlt
        unfold isDig at h1
        omega
      have g45 : decide ((s[k].toNat : Int) ≤ 45) = false := decide_eq_false (by omega)
      have g93 : ((s[k].toNat : Int) == 93) = false := beq_eq_false_iff_ne.2 (by omega)
      have g125 : ((s[k].toNat : Int) == 125) = false := beq_eq_false_iff_ne.2 (by omega)
      go_wp2_with fail
      go_roundg (s.size - (k + 1))
      case measure => have := hh.out; omega
      case rel => exact ⟨k + 1, by omega, by omega, rfl, by go_num, rfl, rfl⟩
    · go_wp2_with fail
      refine (parseFloat_nat _ hg s D.out M.out).mono ?_
      rintro e w1 ⟨rfl, rfl⟩
      go_wp2_with fail
      go_ret2
      exact ⟨rfl, rfl⟩
end Go.Proofs.YtcnkbdbkglggcaaGreatDoor

namespace Go.Proofs.YtcnkbdbkglggcaaGreatDoor
open Go.RowKit

set_option maxRecDepth 100000 in
set_option maxHeartbeats 8000000 in
theorem readFloat_neg (w : World) (s : ByteArray) (hd : DigsAt s 1) (hm45 : bt s 0 = 45) :
    Calls Tryz.prog 142 #[.string s] w fun e w' => e = .returned (.tuple #[.int .u64 (dv s 1 (s.size - 1)), .int .i64 0, .bool true, .bool false, .bool false, .int .i64 s.size, .bool true]) ∧ w' = w := by
  have hl := hd.lt
  have hle := hd.le
  have hl0 : 0 < s.size := by omega
  have hf0 : (s[0].toNat : Int) = bt s 0 := bt_lt hl0
  have hf : (s[1].toNat : Int) = bt s 1 := bt_lt hl
  have hb : 49 ≤ (s[1].toNat : Int) ∧ (s[1].toNat : Int) ≤ 57 := by
    have h1 := hd.dig 1 (by omega) hl
    have h2 := hd.first
    unfold isDig at h1
    omega
  have D := Lib.hid hd
  have d43 : ((s[0].toNat : Int) == 43) = false := beq_eq_false_iff_ne.2 (by omega)
  have d45 : ((s[0].toNat : Int) == 45) = true := beq_iff_eq.2 (by omega)
  have d48 : ((s[1].toNat : Int) == 48) = false := beq_eq_false_iff_ne.2 (by omega)
  have e1 : decide (s = ByteArray.empty) = false := decide_eq_false (by rintro rfl; exact absurd hl (by decide))
  clear hb hf hd hf0 hm45
  go_enter Tryz.func142, Tryz.ntmps142
  go_wp2_with fail
  go_step3
  by_cases h2 : 3 < s.size
  all_goals
    go_wp2_with fail
    go_step3
    go_wp2_with fail
    go_loopg [2, 5, 7, 9, 13, 14, 15, 16, 17] (s.size - 1) (fun g v2 v5 v7 v9 v13 v14 v15 v16 v17 wr => ∃ k j : Nat, j = k + 1 ∧ j ≤ s.size ∧ v2 = .int .u64 (dv s 1 k) ∧ v5 = .bool false ∧ v7 = .int .i64 j ∧ v9 = .bool false ∧ v13 = .bool false ∧ v14 = .bool (decide (0 < k)) ∧ v15 = .int .i64 k ∧ v16 = .int .i64 k ∧ v17 = .int .i64 0 ∧ wr = w ∧ Hid (g = s.size - j))
    case atStart => exact ⟨0, 1, rfl, by omega, rfl, rfl, rfl, rfl, rfl, rfl, rfl, rfl, rfl, rfl, rfl⟩
    case round =>
      obtain ⟨k, j, hjk, hk, rfl, rfl, rfl, rfl, rfl, rfl, rfl, rfl, rfl, rfl, hh⟩ := hrel
      by_cases hlt : j < s.size
      · have hk1 : 48 ≤ (s[j].toNat : Int) ∧ (s[j].toNat : Int) ≤ 57 := by
          have h1 := D.out.dig j (by omega) hlt
          have h3 := bt_lt hlt
          unfold isDig at h1
          omega
        have hv : (dv s 1 k : Int) < 100000000000000000 := by
          have h1 := dv_lt s 1 k fun x hx => D.out.dig (1 + x) (by omega) (by omega)
          have h2 : 10 ^ k ≤ 10 ^ 17 := Nat.pow_le_pow_right (by omega) (by omega)
          omega
        have hnext : ((dv s 1 (k + 1) : Nat) : Int) = (dv s 1 k : Int) * 10 + ((s[j].toNat : Int) - 48) := by
          have h3 := bt_lt hlt
          have h5 : (bt s (1 + k)).toNat = s[j].toNat := by rw [show 1 + k = j by omega, ← h3]; rfl
          have h6 : 48 ≤ s[j].toNat := by omega
          rw [show dv s 1 (k + 1) = dv s 1 k * 10 + ((bt s (1 + k)).toNat - 48) from rfl, h5]
          omega
        have HN := Lib.hid hnext
        clear hnext
        have f95 : ((s[j].toNat : Int) == 95) = false := beq_eq_false_iff_ne.2 (by omega)
        have f46 : ((s[j].toNat : Int) == 46) = false := beq_eq_false_iff_ne.2 (by omega)
        have g48 : decide (48 ≤ (s[j].toNat : Int)) = true := decide_eq_true hk1.1
        have g57 : decide ((s[j].toNat : Int) ≤ 57) = true := decide_eq_true hk1.2
        have g19 : decide ((k : Int) < 19) = true := decide_eq_true (by omega)
        by_cases hk0 : k = 0
        · subst hk0
          have hj1 : j = 1 := by omega
          clear hjk
          subst hj1
          have hv' : (dv s 1 0 : Int) < 10 := by show ((0 : Nat) : Int) < 10; decide
          clear hv h2
          go_wp2_with fail
          go_roundg (s.size - 2)
          case measure => have := hh.out; omega
          case rel =>
            refine ⟨1, 2, rfl, by omega, ?_, rfl, rfl, rfl, rfl, rfl, rfl, rfl, rfl, rfl, rfl⟩
            rw [HN.out]
        · have HJ := Lib.hid hjk
          have hk18 : k < 18 := by omega
          clear hjk
          have hk0' : ((k : Int) == 0) = false := beq_eq_false_iff_ne.2 (by omega)
          by_cases hc : (s[j].toNat : Int) = 48
          · have f48 : ((s[j].toNat : Int) == 48) = true := beq_iff_eq.2 hc
            have C := Lib.hid hc; clear hc
            go_wp2_with fail
            go_roundg (s.size - (j + 1))
            case measure => have := hh.out; omega
            case rel =>
              refine ⟨k + 1, j + 1, by have := HJ.out; omega, by omega, ?_, rfl, by go_num, rfl, rfl, by simp, by go_num, by go_num, rfl, rfl, rfl⟩
              rw [HN.out]
          · have f48 : ((s[j].toNat : Int) == 48) = false := beq_eq_false_iff_ne.2 hc
            clear hc
            go_wp2_with fail
            go_roundg (s.size - (j + 1))
            case measure => have := hh.out; omega
            case rel =>
              refine ⟨k + 1, j + 1, by have := HJ.out; omega, by omega, ?_, rfl, by go_num, rfl, rfl, by simp, by go_num, by go_num, rfl, rfl, rfl⟩
              rw [HN.out]
      · have hE : s.size = k + 1 := by omega
        have hjs : j = s.size := by omega
        subst hjs
        have hsz1 : s.size - 1 = k := by omega
        have hpos : (0 : Int) < (dv s 1 k : Int) := by
          have h1 := dv_pos s 1 k D.out.first (by omega)
          omega
        have p1 : ((dv s 1 k : Int) != 0) = true := bne_iff_ne.2 (by omega)
        have p2 : decide (0 < k) = true := decide_eq_true (by omega)
        have p3 : ((dv s 1 k : Int) == 0) = false := beq_eq_false_iff_ne.2 (by omega)
        have p4 : (dv s 1 k == 0) = false := beq_eq_false_iff_ne.2 (by omega)
        have p5 : (dv s 1 k != 0) = true := bne_iff_ne.2 (by omega)
        have p6 : decide (dv s 1 k = 0) = false := decide_eq_false (by omega)
        have HZ := Lib.hid hsz1
        clear hpos hE hsz1 hjk
        go_wp2_with fail
        rw [Exit.noGoto_ret]
        refine bodyPost_ret (v := .tuple #[.int .u64 (dv s 1 k), .int .i64 0, .bool true, .bool false, .bool false, .int .i64 s.size, .bool true]) ?_ rfl ⟨by rw [HZ.out], rfl⟩
        simp [results, Tryz.results142, go_sem]

set_option maxRecDepth 100000 in
set_option maxHeartbeats 8000000 in
theorem readFloat_zero (w : World) (s : ByteArray) (hz : s.size = 1) (hc : bt s 0 = 48) :
    Calls Tryz.prog 142 #[.string s] w fun e w' => e = .returned (.tuple #[.int .u64 0, .int .i64 0, .bool false, .bool false, .bool false, .int .i64 s.size, .bool true]) ∧ w' = w := by
  have hl : 0 < s.size := by omega
  have hf : (s[0].toNat : Int) = bt s 0 := bt_lt hl
  have n2 : ¬ 2 < s.size := by omega
  have d43 : ((s[0].toNat : Int) == 43) = false := beq_eq_false_iff_ne.2 (by omega)
  have d45 : ((s[0].toNat : Int) == 45) = false := beq_eq_false_iff_ne.2 (by omega)
  have d48 : ((s[0].toNat : Int) == 48) = true := beq_iff_eq.2 (by omega)
  have e0 : decide ((s.size : Int) ≤ 0) = false := decide_eq_false (by omega)
  have HF := Lib.hid (show (s[0].toNat : Int) = 48 by omega)
  have e1 : decide (s = ByteArray.empty) = false := decide_eq_false (by rintro rfl; exact absurd hl (by decide))
  have HZ := Lib.hid hz
  clear hf hc hz
  go_enter Tryz.func142, Tryz.ntmps142
  go_wp2_with fail
  go_step3
  go_wp2_with fail
  go_step3
  go_wp2_with fail
  go_loopg [2, 5, 7, 9, 13, 14, 15, 16, 17] (s.size) (fun g v2 v5 v7 v9 v13 v14 v15 v16 v17 wr => ∃ k : Nat, k ≤ s.size ∧ v2 = .int .u64 0 ∧ v5 = .bool false ∧ v7 = .int .i64 k ∧ v9 = .bool false ∧ v13 = .bool false ∧ v14 = .bool (decide (0 < k)) ∧ v15 = .int .i64 0 ∧ v16 = .int .i64 0 ∧ v17 = .int .i64 (-(k : Int)) ∧ wr = w ∧ Hid (g = s.size - k))
  case atStart => exact ⟨0, by omega, rfl, rfl, rfl, rfl, rfl, rfl, rfl, rfl, rfl, rfl, rfl⟩
  case round =>
    obtain ⟨k, hk, rfl, rfl, rfl, rfl, rfl, rfl, rfl, rfl, rfl, rfl, hh⟩ := hrel
    by_cases hlt : k < s.size
    · have hk0 : k = 0 := by have := HZ.out; omega
      subst hk0
      have d48 : ((s[0].toNat : Int) == 48) = true := beq_iff_eq.2 (by have := HF.out; omega)
      have d95 : ((s[0].toNat : Int) == 95) = false := beq_eq_false_iff_ne.2 (by have := HF.out; omega)
      have d46 : ((s[0].toNat : Int) == 46) = false := beq_eq_false_iff_ne.2 (by have := HF.out; omega)
      have g48 : decide (48 ≤ (s[0].toNat : Int)) = true := decide_eq_true (by have := HF.out; omega)
      have g57 : decide ((s[0].toNat : Int) ≤ 57) = true := decide_eq_true (by have := HF.out; omega)
      have hk1 : 48 ≤ (s[0].toNat : Int) ∧ (s[0].toNat : Int) ≤ 57 := by have := HF.out; omega
      go_wp2_with fail
      go_roundg (s.size - (0 + 1))
      case measure => have := hh.out; omega
      case rel =>
        refine ⟨1, by omega, rfl, rfl, rfl, rfl, rfl, rfl, rfl, rfl, rfl, rfl, rfl⟩
    · have hE : k = s.size := by omega
      subst hE
      have p2 : decide (0 < s.size) = true := decide_eq_true hl
      go_wp2_with fail
      rw [Exit.noGoto_ret]
      refine bodyPost_ret (v := .tuple #[.int .u64 0, .int .i64 0, .bool false, .bool false, .bool false, .int .i64 s.size, .bool true]) ?_ rfl ⟨rfl, rfl⟩
      simp [results, Tryz.results142, go_sem]
end Go.Proofs.YtcnkbdbkglggcaaGreatDoor

namespace Go.Proofs.YtcnkbdbkglggcaaGreatDoor
open Go.RowKit

set_option maxHeartbeats 1000000 in
theorem special_dig (w : World) (s : ByteArray) (hl : 0 < s.size) (hd : isDig (bt s 0)) :
    Calls Tryz.prog 141 #[.string s] w fun e w' => e = .returned (.tuple #[.float .f64 0, .int .i64 0, .bool false]) ∧ w' = w := by
  have hf : (s[0].toNat : Int) = bt s 0 := bt_lt hl
  have hb : 48 ≤ (s[0].toNat : Int) ∧ (s[0].toNat : Int) ≤ 57 := by
    unfold isDig at hd
    omega
  have e1 : decide (s = ByteArray.empty) = false := decide_eq_false (by rintro rfl; exact absurd hl (by decide))
  have d1 : ((s[0].toNat : Int) == 43) = false := beq_eq_false_iff_ne.2 (by omega)
  have d2 : ((s[0].toNat : Int) == 45) = false := beq_eq_false_iff_ne.2 (by omega)
  have d3 : ((s[0].toNat : Int) == 105) = false := beq_eq_false_iff_ne.2 (by omega)
  have d4 : ((s[0].toNat : Int) == 73) = false := beq_eq_false_iff_ne.2 (by omega)
  have d5 : ((s[0].toNat : Int) == 110) = false := beq_eq_false_iff_ne.2 (by omega)
  have d6 : ((s[0].toNat : Int) == 78) = false := beq_eq_false_iff_ne.2 (by omega)
  clear hb hf hd
  go_enter Tryz.func141, Tryz.ntmps141
  go_wp2_with fail
  refine bodyPost_ret (v := .tuple #[.float .f64 0, .int .i64 0, .bool false]) ?_ rfl ⟨rfl, rfl⟩
  simp [results, Tryz.results141, go_sem]


/-- A text that begins with a digit and a word that begins with a letter have no common beginning. -/
theorem common_no (w : World) (s : ByteArray) (hl : 0 < s.size) (hd : isDig (bt s 0)) :
    Calls Tryz.prog 160 #[.string s, .string ⟨#[105, 110, 102, 105, 110, 105, 116, 121]⟩] w fun e w' => e = .returned (.int .i64 0) ∧ w' = w := by
  have hf : (s[0].toNat : Int) = bt s 0 := bt_lt hl
  have hb : (s[0].toNat : Int) ≤ 57 := by
    unfold isDig at hd
    omega
  have d2 : ((s[0].toNat : Int) != 105) = true := bne_iff_ne.2 (by omega)
  have l0 : ((⟨#[105, 110, 102, 105, 110, 105, 116, 121]⟩ : ByteArray)[0].toNat : Int) = 105 := rfl
  clear hf hd
  go_enter Tryz.func160, Tryz.ntmps160
  by_cases h8 : 8 ≤ s.size
  all_goals
    go_wp2_with fail
    go_loopg [6] 0 (fun g v wr => v = .int .i64 0 ∧ wr = w)
    case atStart => exact ⟨rfl, rfl⟩
    case round =>
      obtain ⟨rfl, rfl⟩ := hrel
      go_wp2_with fail
      go_ret
      exact ⟨rfl, rfl⟩
set_option maxHeartbeats 1000000 in
theorem special_neg (w : World) (s : ByteArray) (h45 : bt s 0 = 45) (hl : 1 < s.size) (hd : isDig (bt s 1)) :
    Calls Tryz.prog 141 #[.string s] w fun e w' => e = .returned (.tuple #[.float .f64 0, .int .i64 0, .bool false]) ∧ w' = w := by
  have hl0 : 0 < s.size := by omega
  have hf : (s[0].toNat : Int) = bt s 0 := bt_lt hl0
  have e1 : decide (s = ByteArray.empty) = false := decide_eq_false (by rintro rfl; exact absurd hl (by decide))
  have d1 : ((s[0].toNat : Int) == 43) = false := beq_eq_false_iff_ne.2 (by omega)
  have d2 : ((s[0].toNat : Int) == 45) = true := beq_iff_eq.2 (by omega)
  have hz : (s.extract 1 s.size).size = s.size - 1 := by simp only [ByteArray.size_extract]; omega
  have hb1 : bt (s.extract 1 s.size) 0 = bt s 1 := bt_extract (by omega) (Nat.le_refl _)
  have cn := fun w => common_no w (s.extract 1 s.size) (by omega) (by rw [hb1]; exact hd)
  clear hf hd h45 hb1 hz
  go_enter Tryz.func141, Tryz.ntmps141
  go_wp2_with (go_at_call 160; refine (cn _).mono ?_; rintro e w1 ⟨rfl, rfl⟩)
  refine bodyPost_ret (v := .tuple #[.float .f64 0, .int .i64 0, .bool false]) ?_ rfl ⟨rfl, rfl⟩
  simp [results, Tryz.results141, go_sem]
theorem run_negf (k : FloatKind) (x : Nat) (w : World) : (Op.unary .neg (.float k x)).run Tryz.prog w = .ok (.float k (Op.negFloat k x)) w := rfl
theorem run_frombits (x : Int) (w : World) : (callFunc 151 #[.int .u64 x]).run Tryz.prog w = .ok (.value (.float .f64 x.toNat)) w := by
  rw [run_callFunc_extern Tryz.func151 (by kernel_rfl) (by kernel_rfl) (by kernel_rfl) (e := Extern.MathFloatBits.float64frombits) (by kernel_rfl)]
  rfl
set_option maxHeartbeats 1000000 in
theorem exact_neg (w : World) (hg : Gl w) (m : Nat) (hm : m < 4503599627370496) :
    Calls Tryz.prog 152 #[.int .u64 m, .int .i64 0, .bool true] w fun e w' => e = .returned (.tuple #[.float .f64 (Op.negFloat .f64 (floatOfInt .f64 (m : Int))), .bool true]) ∧ w' = w := by
  have h10 := hg.mant
  have rn := run_negf
  go_enter Tryz.func152, Tryz.ntmps152
  go_wp2_with fail
  go_ret2
  exact ⟨rfl, rfl⟩
theorem bool2_yes (w : World) : Calls Tryz.prog 150 #[.bool true] w fun e w' => e = .returned (.int .u64 1) ∧ w' = w := by
  go_enter Tryz.func150, Tryz.ntmps150
  go_wp2_with fail
  go_ret
  exact ⟨rfl, rfl⟩
/-- What 'atof64', 'ParseFloat' and 'tonum' return on a text. -/
def AtF (s : ByteArray) (x : Nat) : Prop := ∀ w : World, Gl w → Calls Tryz.prog 114 #[.string s] w fun e w' => e = .returned (.tuple #[.float .f64 x, .int .i64 s.size, .nilIface]) ∧ w' = w
def PFl (s : ByteArray) (x : Nat) : Prop := ∀ w : World, Gl w → Calls Tryz.prog 43 #[.string s, .int .i64 64] w fun e w' => e = .returned (.tuple #[.float .f64 x, .nilIface]) ∧ w' = w
def ToNum (s : ByteArray) (x : Nat) : Prop := ∀ w : World, Gl w → Calls Tryz.prog 34 #[.string s] w fun e w' => e = .returned (.tuple #[.string s, .float .f64 x]) ∧ w' = w

set_option maxRecDepth 100000 in
set_option maxHeartbeats 4000000 in
theorem atf_neg (s : ByteArray) (hd : DigsAt s 1) (h45 : bt s 0 = 45) (hm : dv s 1 (s.size - 1) < 4503599627370496) : AtF s (Op.negFloat .f64 (floatOfInt .f64 (dv s 1 (s.size - 1) : Int))) := by
  intro w hg
  have hl := hd.lt
  have hpos : (0 : Int) < (dv s 1 (s.size - 1) : Int) := by
    have h1 := dv_pos s 1 (s.size - 1) hd.first (by omega)
    omega
  have p1 : ((dv s 1 (s.size - 1) : Int) == 0) = false := beq_eq_false_iff_ne.2 (by omega)
  have h3 := hg.opt
  go_enter Tryz.func114, Tryz.ntmps114
  go_wp2_with fail
  refine (special_neg _ s h45 hl (hd.dig 1 (by omega) hl)).mono ?_
  rintro e w1 ⟨rfl, rfl⟩
  go_wp2_with fail
  refine (readFloat_neg _ s hd h45).mono ?_
  rintro e w1 ⟨rfl, rfl⟩
  go_wp2_with (first | (go_at_call 150; refine (bool2_yes _).mono ?_; rintro e w1 ⟨rfl, rfl⟩) | (go_at_call 152; refine (exact_neg _ hg _ hm).mono ?_; rintro e w1 ⟨rfl, rfl⟩))
  refine bodyPost_ret (v := .tuple #[.float .f64 (Op.negFloat .f64 (floatOfInt .f64 (dv s 1 (s.size - 1) : Int))), .int .i64 s.size, .nilIface]) ?_ rfl ⟨rfl, rfl⟩
  simp [results, Tryz.results114, go_sem]
set_option maxRecDepth 100000 in
set_option maxHeartbeats 4000000 in
theorem atf_zero (s : ByteArray) (hz : s.size = 1) (hc : bt s 0 = 48) : AtF s 0 := by
  intro w hg
  have hl : 0 < s.size := by omega
  have hd : isDig (bt s 0) := by rw [hc]; exact ⟨by decide, by decide⟩
  have h3 := hg.opt
  have rf := run_frombits
  have hb0 : bits BinOp.or IntKind.u64 0 0 = 0 := by decide
  go_enter Tryz.func114, Tryz.ntmps114
  go_wp2_with fail
  refine (special_dig _ s hl hd).mono ?_
  rintro e w1 ⟨rfl, rfl⟩
  go_wp2_with fail
  refine (readFloat_zero _ s hz hc).mono ?_
  rintro e w1 ⟨rfl, rfl⟩
  go_wp2_with (first | (go_at_call 150; refine (bool2_no _).mono ?_; rintro e w1 ⟨rfl, rfl⟩))
  refine bodyPost_ret (v := .tuple #[.float .f64 0, .int .i64 s.size, .nilIface]) ?_ rfl ⟨rfl, rfl⟩
  simp [results, Tryz.results114, go_sem, hz]
theorem pfl_of (s : ByteArray) (x : Nat) (h : AtF s x) (_hle : s.size ≤ 100) : PFl s x := by
  intro w hg
  have d1 : ((s.size : Int) != (s.size : Int)) = false := by simp
  have h85 : Calls Tryz.prog 85 #[.string s, .int .i64 64] w fun e w' => e = .returned (.tuple #[.float .f64 x, .int .i64 s.size, .nilIface]) ∧ w' = w := by
    go_enter Tryz.func85, Tryz.ntmps85
    go_wp2_with fail
    refine (h _ hg).mono ?_
    rintro e w1 ⟨rfl, rfl⟩
    go_wp2_with fail
    refine bodyPost_ret (v := .tuple #[.float .f64 x, .int .i64 s.size, .nilIface]) ?_ rfl ⟨rfl, rfl⟩
    simp [results, Tryz.results85, go_sem]
  have h65 : Calls Tryz.prog 65 #[.string s, .int .i64 64] w fun e w' => e = .returned (.tuple #[.float .f64 x, .nilIface]) ∧ w' = w := by
    go_enter Tryz.func65, Tryz.ntmps65
    go_wp2_with fail
    refine h85.mono ?_
    rintro e w1 ⟨rfl, rfl⟩
    go_wp2_with fail
    go_ret2
    exact ⟨rfl, rfl⟩
  go_enter Tryz.func43, Tryz.ntmps43
  go_wp2_with fail
  refine h65.mono ?_
  rintro e w1 ⟨rfl, rfl⟩
  go_wp2_with fail
  go_ret2
  exact ⟨rfl, rfl⟩
set_option maxHeartbeats 1000000 in
theorem tonum_of (s : ByteArray) (x : Nat) (h : PFl s x) (hl : 0 < s.size) (hle : s.size ≤ 100) (hdig : ∀ k, 1 ≤ k → k < s.size → isDig (bt s k)) : ToNum s x := by
  intro w hg
  have D := Lib.hid hdig
  have M := Lib.hid h
  clear hdig h
  go_enter Tryz.func34, Tryz.ntmps34
  go_wp2_with fail
  go_loopg [2, 4] (s.size - 1) (fun g v2 v wr => ∃ k : Nat, 1 ≤ k ∧ k ≤ s.size ∧ v2 = .string ⟨#[]⟩ ∧ v = .int .i64 k ∧ wr = w ∧ Hid (g = s.size - k))
  case atStart => exact ⟨1, by omega, by omega, rfl, rfl, rfl, rfl⟩
  case round =>
    obtain ⟨k, hk0, hk, rfl, rfl, rfl, hh⟩ := hrel
    by_cases hlt : k < s.size
    · have hk1 : 48 ≤ (s[k].toNat : Int) ∧ (s[k].toNat : Int) ≤ 57 := by
        have h1 := D.out k (by omega) hlt
        have h3 := bt_lt hlt
        unfold isDig at h1
        omega
      have g45 : decide ((s[k].toNat : Int) ≤ 45) = false := decide_eq_false (by omega)
      have g93 : ((s[k].toNat : Int) == 93) = false := beq_eq_false_iff_ne.2 (by omega)
      have g125 : ((s[k].toNat : Int) == 125) = false := beq_eq_false_iff_ne.2 (by omega)
      go_wp2_with fail
      go_roundg (s.size - (k + 1))
      case measure => have := hh.out; omega
      case rel => exact ⟨k + 1, by omega, by omega, rfl, by go_num, rfl, rfl⟩
    · go_wp2_with fail
      refine (M.out _ hg).mono ?_
      rintro e w1 ⟨rfl, rfl⟩
      go_wp2_with fail
      go_ret2
      exact ⟨rfl, rfl⟩
end Go.Proofs.YtcnkbdbkglggcaaGreatDoor
