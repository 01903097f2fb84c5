/-
  The library's reading of a whole number without a sign, as a float: from 'special' to 'ParseFloat'. Condition: at most 18 digits, the first of which is not 0, the number below 2^52.
-/
import Derived.Test.YtcnkbdbkglggcaaGreatDoorGpD
namespace Go.Proofs.YtcnkbdbkglggcaaGreatDoor
open Go.RowKit

set_option maxHeartbeats 1000000 in
theorem special_nat (w : World) (s : ByteArray) (hd : DigsAt s 0) :
    Calls Tryz.prog 141 #[.string s] w fun e w' => e = .returned (.tuple #[.float .f64 0, .int .i64 0, .bool false]) ∧ w' = w := by
  have hl := hd.lt
  have hf : (s[0].toNat : Int) = bt s 0 := bt_lt hl
  have hb : 49 ≤ (s[0].toNat : Int) ∧ (s[0].toNat : Int) ≤ 57 := by
    have h1 := hd.dig 0 (by omega) hl
    have h2 := hd.first
    unfold isDig at h1
    omega
  have e1 : decide (s = ByteArray.empty) = false := decide_eq_false (by rintro rfl; exact absurd hl (by decide))
  have d1 : ((s[0].toNat : Int) == 43) = false := beq_eq_false_iff_ne.2 (by omega)
  have d2 : ((s[0].toNat : Int) == 45) = false := beq_eq_false_iff_ne.2 (by omega)
  have d3 : ((s[0].toNat : Int) == 105) = false := beq_eq_false_iff_ne.2 (by omega)
  have d4 : ((s[0].toNat : Int) == 73) = false := beq_eq_false_iff_ne.2 (by omega)
  have d5 : ((s[0].toNat : Int) == 110) = false := beq_eq_false_iff_ne.2 (by omega)
  have d6 : ((s[0].toNat : Int) == 78) = false := beq_eq_false_iff_ne.2 (by omega)
  clear hb hf hd
  go_enter Tryz.func141, Tryz.ntmps141
  go_wp2_with fail
  refine bodyPost_ret (v := .tuple #[.float .f64 0, .int .i64 0, .bool false]) ?_ rfl ⟨rfl, rfl⟩
  simp [results, Tryz.results141, go_sem]

/-- What the library's two variables hold that this road reads. -/
structure Gl (w : World) : Prop where
  opt : w.cell? ⟨3, 0, none⟩ = some (.bool true)
  mant : w.cell? ⟨10, 0, none⟩ = some (.int .u64 52)
  lt : 10 < w.heap.size
theorem Gl.upd {w w' : World} (h : Gl w) (hu : Upd [] w w') : Gl w' :=
  ⟨by rw [hu.cell (p := ⟨3, 0, none⟩) (by have := h.lt; show 3 < w.heap.size; omega) (by simp)]; exact h.opt, by rw [hu.cell (p := ⟨10, 0, none⟩) h.lt (by simp)]; exact h.mant, Nat.lt_of_lt_of_le h.lt hu.size⟩
set_option maxHeartbeats 1000000 in
theorem exact_nat (w : World) (hg : Gl w) (m : Nat) (hm : m < 4503599627370496) :
    Calls Tryz.prog 152 #[.int .u64 m, .int .i64 0, .bool false] w fun e w' => e = .returned (.tuple #[.float .f64 (floatOfInt .f64 (m : Int)), .bool true]) ∧ w' = w := by
  have h10 := hg.mant
  go_enter Tryz.func152, Tryz.ntmps152
  go_wp2_with fail
  go_ret2
  exact ⟨rfl, rfl⟩
theorem bool2_no (w : World) : Calls Tryz.prog 150 #[.bool false] w fun e w' => e = .returned (.int .u64 0) ∧ w' = w := by
  go_enter Tryz.func150, Tryz.ntmps150
  go_wp2_with fail
  go_ret
  exact ⟨rfl, rfl⟩

set_option maxRecDepth 100000 in
set_option maxHeartbeats 4000000 in
theorem atof_nat (w : World) (hg : Gl w) (s : ByteArray) (hd : DigsAt s 0) (hm : dv s 0 s.size < 4503599627370496) :
    Calls Tryz.prog 114 #[.string s] w fun e w' => e = .returned (.tuple #[.float .f64 (floatOfInt .f64 (dv s 0 s.size : Int)), .int .i64 s.size, .nilIface]) ∧ w' = w := by
  have hl := hd.lt
  have hpos : (0 : Int) < (dv s 0 s.size : Int) := by
    have h1 := dv_pos s 0 s.size hd.first hl
    omega
  have p1 : ((dv s 0 s.size : Int) == 0) = false := beq_eq_false_iff_ne.2 (by omega)
  have h3 := hg.opt
  go_enter Tryz.func114, Tryz.ntmps114
  go_wp2_with fail
  refine (special_nat _ s hd).mono ?_
  rintro e w1 ⟨rfl, rfl⟩
  go_wp2_with fail
  refine (readFloat_nat _ s hd).mono ?_
  rintro e w1 ⟨rfl, rfl⟩
  go_wp2_with (first | (go_at_call 150; refine (bool2_no _).mono ?_; rintro e w1 ⟨rfl, rfl⟩) | (go_at_call 152; refine (exact_nat _ hg _ hm).mono ?_; rintro e w1 ⟨rfl, rfl⟩))
  refine bodyPost_ret (v := .tuple #[.float .f64 (floatOfInt .f64 (dv s 0 s.size : Int)), .int .i64 s.size, .nilIface]) ?_ rfl ⟨rfl, rfl⟩
  simp [results, Tryz.results114, go_sem]

theorem prefix_nat (w : World) (hg : Gl w) (s : ByteArray) (hd : DigsAt s 0) (hm : dv s 0 s.size < 4503599627370496) :
    Calls Tryz.prog 85 #[.string s, .int .i64 64] w fun e w' => e = .returned (.tuple #[.float .f64 (floatOfInt .f64 (dv s 0 s.size : Int)), .int .i64 s.size, .nilIface]) ∧ w' = w := by
  go_enter Tryz.func85, Tryz.ntmps85
  go_wp2_with fail
  refine (atof_nat _ hg s hd hm).mono ?_
  rintro e w1 ⟨rfl, rfl⟩
  go_wp2_with fail
  refine bodyPost_ret (v := .tuple #[.float .f64 (floatOfInt .f64 (dv s 0 s.size : Int)), .int .i64 s.size, .nilIface]) ?_ rfl ⟨rfl, rfl⟩
  simp [results, Tryz.results85, go_sem]
theorem pf_nat (w : World) (hg : Gl w) (s : ByteArray) (hd : DigsAt s 0) (hm : dv s 0 s.size < 4503599627370496) :
    Calls Tryz.prog 65 #[.string s, .int .i64 64] w fun e w' => e = .returned (.tuple #[.float .f64 (floatOfInt .f64 (dv s 0 s.size : Int)), .nilIface]) ∧ w' = w := by
  have hle := hd.le
  have d1 : ((s.size : Int) != (s.size : Int)) = false := by simp
  go_enter Tryz.func65, Tryz.ntmps65
  go_wp2_with fail
  refine (prefix_nat _ hg s hd hm).mono ?_
  rintro e w1 ⟨rfl, rfl⟩
  go_wp2_with fail
  go_ret2
  exact ⟨rfl, rfl⟩
theorem parseFloat_nat (w : World) (hg : Gl w) (s : ByteArray) (hd : DigsAt s 0) (hm : dv s 0 s.size < 4503599627370496) :
    Calls Tryz.prog 43 #[.string s, .int .i64 64] w fun e w' => e = .returned (.tuple #[.float .f64 (floatOfInt .f64 (dv s 0 s.size : Int)), .nilIface]) ∧ w' = w := by
  go_enter Tryz.func43, Tryz.ntmps43
  go_wp2_with fail
  refine (pf_nat _ hg s hd hm).mono ?_
  rintro e w1 ⟨rfl, rfl⟩
  go_wp2_with fail
  go_ret2
  exact ⟨rfl, rfl⟩
set_option maxHeartbeats 1000000 in
theorem tonum_nat (w : World) (hg : Gl w) (s : ByteArray) (hd : DigsAt s 0) (hm : dv s 0 s.size < 4503599627370496) :
    Calls Tryz.prog 34 #[.string s] w fun e w' => e = .returned (.tuple #[.string s, .float .f64 (floatOfInt .f64 (dv s 0 s.size : Int))]) ∧ w' = w := by
  have hl := hd.lt
  have hle := hd.le
  have D := Lib.hid hd
  have M := Lib.hid hm
  clear hd hm
  go_enter Tryz.func34, Tryz.ntmps34
  go_wp2_with fail
  go_loopg [2, 4] (s.size - 1) (fun g v2 v wr => ∃ k : Nat, 1 ≤ k ∧ k ≤ s.size ∧ v2 = .string ⟨#[]⟩ ∧ v = .int .i64 k ∧ wr = w ∧ Hid (g = s.size - k))
  case atStart => exact ⟨1, by omega, by omega, rfl, rfl, rfl, rfl⟩
  case round =>
    obtain ⟨k, hk0, hk, rfl, rfl, rfl, hh⟩ := hrel
    by_cases hlt : k < s.size
    · have hk1 : 48 ≤ (s[k].toNat : Int) ∧ (s[k].toNat : Int) ≤ 57 := by
        have h1 := D.out.dig k (by omega) hlt
        have h3 := bt_lt hlt
        unfold isDig at h1
        omega
      have g45 : decide ((s[k].toNat : Int) ≤ 45) = false := decide_eq_false (by omega)
      have g93 : ((s[k].toNat : Int) == 93) = false := beq_eq_false_iff_ne.2 (by omega)
      have g125 : ((s[k].toNat : Int) == 125) = false := beq_eq_false_iff_ne.2 (by omega)
      go_wp2_with fail
      go_roundg (s.size - (k + 1))
      case measure => have := hh.out; omega
      case rel => exact ⟨k + 1, by omega, by omega, rfl, by go_num, rfl, rfl⟩
    · go_wp2_with fail
      refine (parseFloat_nat _ hg s D.out M.out).mono ?_
      rintro e w1 ⟨rfl, rfl⟩
      go_wp2_with fail
      go_ret2
      exact ⟨rfl, rfl⟩
end Go.Proofs.YtcnkbdbkglggcaaGreatDoor
