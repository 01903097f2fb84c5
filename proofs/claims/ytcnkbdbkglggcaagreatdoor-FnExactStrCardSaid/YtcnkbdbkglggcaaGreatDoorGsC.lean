/-
  The library's reading of four hexadecimal digits, and the program's 'runeit'. Condition: there are four of them.
-/
import Derived.Test.YtcnkbdbkglggcaaGreatDoorSpE
import Derived.Test.YtcnkbdbkglggcaaGreatDoorGpA
import Derived.Lib.ConvBytes
import Derived.Laws.Closers25
namespace Go.Proofs.YtcnkbdbkglggcaaGreatDoor
open Go.RowKit

/-- A small letter for a capital one. -/
def lowI (c : Int) : Int := if c ≤ 90 then c + 32 else c
theorem lower_hex (w : World) (c : Int) (h : 97 ≤ c ∧ c ≤ 102 ∨ 65 ≤ c ∧ c ≤ 70) : Calls Tryz.prog 121 #[.int .u8 c] w fun e w' => e = .returned (.int .u8 (lowI c)) ∧ w' = w := by
  have hb : bits .or .u8 c 32 = lowI c := by
    have : c = 97 ∨ c = 98 ∨ c = 99 ∨ c = 100 ∨ c = 101 ∨ c = 102 ∨ c = 65 ∨ c = 66 ∨ c = 67 ∨ c = 68 ∨ c = 69 ∨ c = 70 := by omega
    rcases this with rfl | rfl | rfl | rfl | rfl | rfl | rfl | rfl | rfl | rfl | rfl | rfl <;> decide
  go_enter Tryz.func121, Tryz.ntmps121
  go_wp2_with fail
  go_ret
  exact ⟨rfl, rfl⟩
theorem bytesWorld_upd (w : World) (e : TypeId) (s : ByteArray) : Upd [] w (Lib.bytesWorld w e s) := by
  refine ⟨?_, ?_, ?_, ?_, fun i hi _ => Lib.bytesWorld_at_old w e s i hi⟩
  · simp [Lib.bytesWorld, World.freeze, World.alloc, World.drew, -World.alloc_eq, -World.drew_eq]
  · simp [Lib.bytesWorld, World.freeze, World.alloc, World.drew, -World.alloc_eq, -World.drew_eq]
  · simp [Lib.bytesWorld, World.freeze, World.alloc, World.drew, -World.alloc_eq, -World.drew_eq]
  · rw [Lib.bytesWorld_size]; omega
theorem bytesWorld_bt (w : World) (e : TypeId) (s : ByteArray) (j : Nat) (hj : j < s.size) : (Lib.bytesWorld w e s).cell? ⟨w.heap.size, j, none⟩ = some (.int .u8 (bt s j)) := by
  rw [Lib.bytesWorld_cell w e s j hj]
  have h1 : bt s j = (s[j].toNat : Int) := (bt_lt hj).symm
  rw [h1]
  congr 2
  simp only [ByteArray.getElem_eq_getElem_data]
  rw [List.getD_eq_getElem?_getD, Array.getElem?_toList, Array.getElem?_eq_getElem (by exact hj)]
  rfl

set_option maxRecDepth 100000 in
set_option maxHeartbeats 4000000 in
theorem puint_hex (w : World) (s : ByteArray) (hz : s.size = 4) (hq : HexQ s 0 4) :
    Calls Tryz.prog 112 #[.string s, .int .i64 16, .int .i64 64] w fun e w' => e = .returned (.tuple #[.int .u64 (hexP s 0 4), .nilIface]) ∧ Upd [] w w' := by
  have hconv := Lib.run_convert_string_bytes (P := Tryz.prog) w 9 72 5 s Tryz.underlying9 Tryz.underlying72 Tryz.underlying5
  have hup := bytesWorld_upd w 5 s
  have hcell := bytesWorld_bt w 5 s
  generalize Lib.bytesWorld w 5 s = W at *
  generalize grownCap w s.size 0 5 = C at *
  have hne' : decide (s = ByteArray.empty) = false := decide_eq_false (by rintro rfl; exact absurd hz (by decide))
  have hne : s.toList.isEmpty = false := (decide_eq_emptyBytes s).symm.trans hne'
  have Q := Lib.hid hq
  have HC := Lib.hid hcell
  clear hq hcell
  go_enter Tryz.func112, Tryz.ntmps112
  go_wp2_with fail
  clear hconv
  have mx : IntKind.u64.wrap (IntKind.u64.wrap 18446744073709551616 - 1) = 18446744073709551615 := by decide
  go_loopg [12, 13, 101] 4 (fun g v12 v13 v101 wr => ∃ k : Nat, k ≤ 4 ∧ v12 = .bool false ∧ v13 = .int .u64 (hexP s 0 k) ∧ v101 = .int .i64 k ∧ wr = W ∧ Hid (g = 4 - k))
  case atStart => exact ⟨0, by omega, rfl, rfl, rfl, rfl, rfl⟩
  case round =>
    obtain ⟨k, hk, rfl, rfl, rfl, rfl, hh⟩ := hrel
    by_cases hlt : k < 4
    · have hck := HC.out k (by omega)
      have hx := Q.out k hlt
      have hr : HexQ s 0 k := fun y hy => Q.out y (by omega)
      have hpb := hexP_bound hr (by omega)
      have hp1 := hpb.1
      have hp2 := hpb.2.2 hlt
      rw [Nat.zero_add] at hx
      have HS : Hid (hexP s 0 (k + 1) = hexP s 0 k * 16 + hexD (bt s k)) := by
        show hexP s 0 k * 16 + hexD (bt s (0 + k)) = _
        rw [Nat.zero_add]
      clear hpb hr
      have hcases : 48 ≤ bt s k ∧ bt s k ≤ 57 ∨ 97 ≤ bt s k ∧ bt s k ≤ 102 ∨ 65 ≤ bt s k ∧ bt s k ≤ 70 := hx
      clear hx
      generalize hcc : bt s k = c at *
      rcases hcases with hd | hd | hd
      · have HD : Hid (hexD c = c - 48) := by
          show hexD c = c - 48
          unfold hexD; rw [if_pos (by omega)]
        have d95 : (c == 95) = false := beq_eq_false_iff_ne.2 (by omega)
        go_wp2_with fail
        go_roundg (4 - (k + 1))
        case measure => have := hh.out; omega
        case rel => exact ⟨k + 1, by omega, rfl, by rw [HS.out, HD.out], by go_num, rfl, rfl⟩
      · have HD : Hid (hexD c = c - 97 + 10) := by
          show hexD c = c - 97 + 10
          unfold hexD; rw [if_neg (by omega), if_neg (by omega)]; omega
        have d95 : (c == 95) = false := beq_eq_false_iff_ne.2 (by omega)
        have lw := fun w => lower_hex w c (.inl hd)
        have hl : lowI c = c := by unfold lowI; rw [if_neg (by omega)]
        rw [hl] at lw
        have LW := Lib.hid lw
        clear lw hl
        go_wp2_with (go_at_call 121; refine (LW.out _).mono ?_; rintro e w1 ⟨rfl, rfl⟩)
        go_roundg (4 - (k + 1))
        case measure => have := hh.out; omega
        case rel => exact ⟨k + 1, by omega, rfl, by rw [HS.out, HD.out], by go_num, rfl, rfl⟩
      · have HD : Hid (hexD c = c + 32 - 97 + 10) := by
          show hexD c = c + 32 - 97 + 10
          unfold hexD; rw [if_neg (by omega), if_pos (by omega)]; omega
        have d95 : (c == 95) = false := beq_eq_false_iff_ne.2 (by omega)
        have lw := fun w => lower_hex w c (.inr hd)
        have hl : lowI c = c + 32 := by unfold lowI; rw [if_pos (by omega)]
        rw [hl] at lw
        have LW := Lib.hid lw
        clear lw hl
        go_wp2_with (go_at_call 121; refine (LW.out _).mono ?_; rintro e w1 ⟨rfl, rfl⟩)
        go_roundg (4 - (k + 1))
        case measure => have := hh.out; omega
        case rel => exact ⟨k + 1, by omega, rfl, by rw [HS.out, HD.out], by go_num, rfl, rfl⟩
    · have hE : k = 4 := by omega
      subst hE
      go_wp2_with fail
      refine bodyPost_ret (v := .tuple #[.int .u64 (hexP s 0 4), .nilIface]) ?_ rfl ⟨rfl, hup⟩
      simp [results, Tryz.results112, go_sem]
end Go.Proofs.YtcnkbdbkglggcaaGreatDoor
