/-
  The library's reading of a whole number without a sign, as a float: 'readFloat'. Condition: at most 18 digits, the first of which is not 0.
-/
import Derived.Test.YtcnkbdbkglggcaaGreatDoorGpA
import Derived.Deep.CutBlock
import Derived.WalkMore
import Derived.Deep.DeepCutAuto
namespace Go.Proofs.YtcnkbdbkglggcaaGreatDoor
open Go.RowKit

/-- The number that n digits from p spell. -/
def dv (s : ByteArray) (p : Nat) : Nat → Nat
  | 0 => 0
  | n + 1 => dv s p n * 10 + ((bt s (p + n)).toNat - 48)
theorem dv_lt (s : ByteArray) (p : Nat) (n : Nat) (h : ∀ k, k < n → isDig (bt s (p + k))) : dv s p n < 10 ^ n := by
  induction n with
  | zero => simp [dv]
  | succ n ih =>
    have h1 := ih fun k hk => h k (by omega)
    have h2 := h n (by omega)
    unfold isDig at h2
    unfold dv
    rw [Nat.pow_succ]
    omega
theorem dv_pos (s : ByteArray) (p : Nat) (n : Nat) (h : 49 ≤ bt s p) : 0 < n → 0 < dv s p n := by
  induction n with
  | zero => intro h; omega
  | succ n ih =>
    intro _
    unfold dv
    rcases Nat.eq_zero_or_pos n with h0 | h0
    · subst h0
      simp only [dv, Nat.add_zero]
      omega
    · have := ih h0
      omega
/-- A whole number's digits from p to the end: from 1 to 18 of them, the first not 0. -/
structure DigsAt (s : ByteArray) (p : Nat) : Prop where
  lt : p < s.size
  le : s.size ≤ p + 18
  dig : ∀ k, p ≤ k → k < s.size → isDig (bt s k)
  first : 49 ≤ bt s p

set_option maxRecDepth 100000 in
set_option maxHeartbeats 8000000 in
theorem readFloat_nat (w : World) (s : ByteArray) (hd : DigsAt s 0) :
    Calls Tryz.prog 142 #[.string s] w fun e w' => e = .returned (.tuple #[.int .u64 (dv s 0 s.size), .int .i64 0, .bool false, .bool false, .bool false, .int .i64 s.size, .bool true]) ∧ w' = w := by
  have hl := hd.lt
  have hle := hd.le
  have hf : (s[0].toNat : Int) = bt s 0 := bt_lt hl
  have hb : 49 ≤ (s[0].toNat : Int) ∧ (s[0].toNat : Int) ≤ 57 := by
    have h1 := hd.dig 0 (by omega) hl
    have h2 := hd.first
    unfold isDig at h1
    omega
  have D := Lib.hid hd
  have d43 : ((s[0].toNat : Int) == 43) = false := beq_eq_false_iff_ne.2 (by omega)
  have d45 : ((s[0].toNat : Int) == 45) = false := beq_eq_false_iff_ne.2 (by omega)
  have d48 : ((s[0].toNat : Int) == 48) = false := beq_eq_false_iff_ne.2 (by omega)
  have e0 : decide ((s.size : Int) ≤ 0) = false := decide_eq_false (by omega)
  have e1 : decide (s = ByteArray.empty) = false := decide_eq_false (by rintro rfl; exact absurd hl (by decide))
  clear hb hf hd
  go_enter Tryz.func142, Tryz.ntmps142
  go_wp2_with fail
  go_step3
  by_cases h2 : 2 < s.size
  all_goals
    go_wp2_with fail
    go_step3
    go_wp2_with fail
    go_loopg [2, 5, 7, 9, 13, 14, 15, 16, 17] s.size (fun g v2 v5 v7 v9 v13 v14 v15 v16 v17 wr => ∃ k : Nat, k ≤ s.size ∧ v2 = .int .u64 (dv s 0 k) ∧ v5 = .bool false ∧ v7 = .int .i64 k ∧ v9 = .bool false ∧ v13 = .bool false ∧ v14 = .bool (decide (0 < k)) ∧ v15 = .int .i64 k ∧ v16 = .int .i64 k ∧ v17 = .int .i64 0 ∧ wr = w ∧ Hid (g = s.size - k))
    case atStart => exact ⟨0, by omega, rfl, rfl, rfl, rfl, rfl, rfl, rfl, rfl, rfl, rfl, rfl⟩
    case round =>
      obtain ⟨k, hk, rfl, rfl, rfl, rfl, rfl, rfl, rfl, rfl, rfl, rfl, hh⟩ := hrel
      by_cases hlt : k < s.size
      · have hk1 : 48 ≤ (s[k].toNat : Int) ∧ (s[k].toNat : Int) ≤ 57 := by
          have h1 := D.out.dig k (by omega) hlt
          have h3 := bt_lt hlt
          unfold isDig at h1
          omega
        have hv : (dv s 0 k : Int) < 100000000000000000 := by
          have h1 := dv_lt s 0 k fun x hx => D.out.dig (0 + x) (by omega) (by omega)
          have h2 : 10 ^ k ≤ 10 ^ 17 := Nat.pow_le_pow_right (by omega) (by omega)
          omega
        have hnext : ((dv s 0 (k + 1) : Nat) : Int) = (dv s 0 k : Int) * 10 + ((s[k].toNat : Int) - 48) := by
          have h3 := bt_lt hlt
          have h5 : (bt s (0 + k)).toNat = s[k].toNat := by rw [Nat.zero_add, ← h3]; rfl
          have h6 : 48 ≤ s[k].toNat := by omega
          rw [show dv s 0 (k + 1) = dv s 0 k * 10 + ((bt s (0 + k)).toNat - 48) from rfl, h5]
          omega
        have HN := Lib.hid hnext
        clear hnext
        have f95 : ((s[k].toNat : Int) == 95) = false := beq_eq_false_iff_ne.2 (by omega)
        have f46 : ((s[k].toNat : Int) == 46) = false := beq_eq_false_iff_ne.2 (by omega)
        have g48 : decide (48 ≤ (s[k].toNat : Int)) = true := decide_eq_true hk1.1
        have g57 : decide ((s[k].toNat : Int) ≤ 57) = true := decide_eq_true hk1.2
        have g19 : decide ((k : Int) < 19) = true := decide_eq_true (by omega)
        by_cases hk0 : k = 0
        · subst hk0
          go_wp2_with fail
          go_roundg (s.size - (0 + 1))
          case measure => have := hh.out; omega
          case rel =>
            refine ⟨1, by omega, ?_, rfl, rfl, rfl, rfl, rfl, rfl, rfl, rfl, rfl, rfl⟩
            rw [HN.out]
        · have hk0' : ((k : Int) == 0) = false := beq_eq_false_iff_ne.2 (by omega)
          by_cases hc : (s[k].toNat : Int) = 48
          · have f48 : ((s[k].toNat : Int) == 48) = true := beq_iff_eq.2 hc
            have C := Lib.hid hc; clear hc
            go_wp2_with fail
            go_roundg (s.size - (k + 1))
            case measure => have := hh.out; omega
            case rel =>
              refine ⟨k + 1, by omega, ?_, rfl, by go_num, rfl, rfl, by simp, by go_num, by go_num, rfl, rfl, rfl⟩
              rw [HN.out]
          · have f48 : ((s[k].toNat : Int) == 48) = false := beq_eq_false_iff_ne.2 hc
            clear hc
            go_wp2_with fail
            go_roundg (s.size - (k + 1))
            case measure => have := hh.out; omega
            case rel =>
              refine ⟨k + 1, by omega, ?_, rfl, by go_num, rfl, rfl, by simp, by go_num, by go_num, rfl, rfl, rfl⟩
              rw [HN.out]
      · have hE : k = s.size := by omega
        subst hE
        have hpos : (0 : Int) < (dv s 0 s.size : Int) := by
          have h1 := dv_pos s 0 s.size D.out.first hl
          omega
        have p1 : ((dv s 0 s.size : Int) != 0) = true := bne_iff_ne.2 (by omega)
        have p2 : decide (0 < s.size) = true := decide_eq_true hl
        have p3 : ((dv s 0 s.size : Int) == 0) = false := beq_eq_false_iff_ne.2 (by omega)
        have p4 : (dv s 0 s.size == 0) = false := beq_eq_false_iff_ne.2 (by omega)
        have p5 : (dv s 0 s.size != 0) = true := bne_iff_ne.2 (by omega)
        have p6 : decide (dv s 0 s.size = 0) = false := decide_eq_false (by omega)
        clear hpos
        go_wp2_with fail
        rw [Exit.noGoto_ret]
        refine bodyPost_ret (v := .tuple #[.int .u64 (dv s 0 s.size), .int .i64 0, .bool false, .bool false, .bool false, .int .i64 s.size, .bool true]) ?_ rfl ⟨rfl, rfl⟩
        simp [results, Tryz.results142, go_sem]
end Go.Proofs.YtcnkbdbkglggcaaGreatDoor
