/-
  The program's 'Result.String' on each kind but strings. Condition: a number's text has digits alone.
-/
import Derived.Test.YtcnkbdbkglggcaaGreatDoorGpD
namespace Go.Proofs.YtcnkbdbkglggcaaGreatDoor
open Go.RowKit

def uTrue' : ByteArray := ⟨#[116, 114, 117, 101]⟩
def uFalse' : ByteArray := ⟨#[102, 97, 108, 115, 101]⟩

set_option maxHeartbeats 1000000 in
theorem string_null (w : World) (raw str : ByteArray) (x : Nat) (i : Int) : Calls Tryz.prog 23 #[.agg (resCells 0 raw str x i)] w fun e w' => e = .returned (.string ⟨#[]⟩) ∧ Upd [] w w' := by
  unfold resCells
  go_enter Tryz.func23, Tryz.ntmps23
  go_wp2_with fail
  go_ret
  exact ⟨rfl, (Upd.refl [] w).alloc _⟩
set_option maxHeartbeats 1000000 in
theorem string_false (w : World) (raw str : ByteArray) (x : Nat) (i : Int) : Calls Tryz.prog 23 #[.agg (resCells 1 raw str x i)] w fun e w' => e = .returned (.string uFalse') ∧ Upd [] w w' := by
  unfold resCells
  go_enter Tryz.func23, Tryz.ntmps23
  go_wp2_with fail
  go_ret
  exact ⟨rfl, (Upd.refl [] w).alloc _⟩
set_option maxHeartbeats 1000000 in
theorem string_true (w : World) (raw str : ByteArray) (x : Nat) (i : Int) : Calls Tryz.prog 23 #[.agg (resCells 4 raw str x i)] w fun e w' => e = .returned (.string uTrue') ∧ Upd [] w w' := by
  unfold resCells
  go_enter Tryz.func23, Tryz.ntmps23
  go_wp2_with fail
  go_ret
  exact ⟨rfl, (Upd.refl [] w).alloc _⟩
set_option maxHeartbeats 1000000 in
theorem string_json (w : World) (raw str : ByteArray) (x : Nat) (i : Int) : Calls Tryz.prog 23 #[.agg (resCells 5 raw str x i)] w fun e w' => e = .returned (.string raw) ∧ Upd [] w w' := by
  unfold resCells
  go_enter Tryz.func23, Tryz.ntmps23
  go_wp2_with fail
  go_ret
  exact ⟨rfl, (Upd.refl [] w).alloc _⟩
set_option maxHeartbeats 2000000 in
theorem string_nat (w : World) (s str : ByteArray) (x : Nat) (i : Int) (hd : DigsAt s 0) : Calls Tryz.prog 23 #[.agg (resCells 2 s str x i)] w fun e w' => e = .returned (.string s) ∧ Upd [] w w' := by
  have hl := hd.lt
  have hle := hd.le
  have D := Lib.hid hd
  have e1 : decide (s = ByteArray.empty) = false := decide_eq_false (by rintro rfl; exact absurd hl (by decide))
  have e2 : ((s.size : Int) == 0) = false := beq_eq_false_iff_ne.2 (by omega)
  have hf : (s[0].toNat : Int) = bt s 0 := bt_lt hl
  have hb : 49 ≤ (s[0].toNat : Int) := by
    have h2 := hd.first
    omega
  have d45 : ((s[0].toNat : Int) == 45) = false := beq_eq_false_iff_ne.2 (by
    have h1 := hd.dig 0 (by omega) hl
    unfold isDig at h1
    omega)
  clear hb hf hd
  unfold resCells
  go_enter Tryz.func23, Tryz.ntmps23
  go_wp2_with fail
  have hW := Blk.new w 49 #[.int .i64 2, .string s, .string str, .float .f64 x, .int .i64 i, .slice none 0 0]
  have hu := (Upd.refl [] w).alloc (.cells #[.int .i64 2, .string s, .string str, .float .f64 x, .int .i64 i, .slice none 0 0] 49)
  have t1 := hW.cell 1
  simp only [List.getElem?_toArray, List.getElem?_cons_zero, List.getElem?_cons_succ] at t1
  generalize w.alloc (.cells #[.int .i64 2, .string s, .string str, .float .f64 x, .int .i64 i, .slice none 0 0] 49) = W at *
  go_loopg [3] s.size (fun g v wr => ∃ k : Nat, k ≤ s.size ∧ v = .int .i64 k ∧ wr = W ∧ Hid (g = s.size - k))
  case atStart => exact ⟨0, by omega, rfl, rfl, rfl⟩
  case round =>
    obtain ⟨k, hk, rfl, rfl, hh⟩ := hrel
    by_cases hlt : k < s.size
    · have hk1 : 48 ≤ (s[k].toNat : Int) ∧ (s[k].toNat : Int) ≤ 57 := by
        have h1 := D.out.dig k (by omega) hlt
        have h3 := bt_lt hlt
        unfold isDig at h1
        omega
      have g48 : decide ((s[k].toNat : Int) < 48) = false := decide_eq_false (by omega)
      have g57 : decide (57 < (s[k].toNat : Int)) = false := decide_eq_false (by omega)
      go_wp2_with fail
      go_roundg (s.size - (k + 1))
      case measure => have := hh.out; omega
      case rel => exact ⟨k + 1, by omega, by go_num, rfl, rfl⟩
    · go_wp2_with fail
      go_ret
      exact ⟨rfl, hu⟩
end Go.Proofs.YtcnkbdbkglggcaaGreatDoor
