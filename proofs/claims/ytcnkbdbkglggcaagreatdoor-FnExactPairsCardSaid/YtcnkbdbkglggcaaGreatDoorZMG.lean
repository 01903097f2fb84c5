/-
  The library's reading of four hexadecimal digits, and the program's 'runeit'. Condition: there are four of them.
  The program's 'runeit', the library's words on surrogates, and its 'EncodeRune' into the last eight bytes of a row that the call owns. Condition: the numbers are in their ranges.
-/
import Derived.Test.YtcnkbdbkglggcaaGreatDoorZMB
import Derived.Test.YtcnkbdbkglggcaaGreatDoorZMA
import Derived.Test.YtcnkbdbkglggcaaGreatDoorZMD
import Derived.Test.YtcnkbdbkglggcaaGreatDoorZMC
import Derived.Lib.ConvBytes
import Derived.Laws.Closers25
import Derived.Laws.BitsLemmas
import Derived.Laws.BitsAllLaws
import Derived.IntWalk
namespace Go.Proofs.YtcnkbdbkglggcaaGreatDoor
open Go.RowKit

/-- A small letter for a capital one. -/
def lowI (c : Int) : Int := if c ≤ 90 then c + 32 else c
theorem lower_hex (w : World) (c : Int) (h : 97 ≤ c ∧ c ≤ 102 ∨ 65 ≤ c ∧ c ≤ 70) : Calls Tryz.prog 121 #[.int .u8 c] w fun e w' => e = .returned (.int .u8 (lowI c)) ∧ w' = w := by
  have hb : bits .or .u8 c 32 = lowI c := by
    have : c = 97 ∨ c = 98 ∨ c = 99 ∨ c = 100 ∨ c = 101 ∨ c = 102 ∨ c = 65 ∨ c = 66 ∨ c = 67 ∨ c = 68 ∨ c = 69 ∨ c = 70 := by omega
    rcases this with rfl | rfl | rfl | rfl | rfl | rfl | rfl | rfl | rfl | rfl | rfl | rfl <;> decide
  go_enter Tryz.func121, Tryz.ntmps121
  go_wp2_with fail
  go_ret
  exact ⟨rfl, rfl⟩
theorem bytesWorld_upd (w : World) (e : TypeId) (s : ByteArray) : Upd [] w (Lib.bytesWorld w e s) := by
  refine ⟨?_, ?_, ?_, ?_, fun i hi _ => Lib.bytesWorld_at_old w e s i hi⟩
  · simp [Lib.bytesWorld, World.freeze, World.alloc, World.drew, -World.alloc_eq, -World.drew_eq]
  · simp [Lib.bytesWorld, World.freeze, World.alloc, World.drew, -World.alloc_eq, -World.drew_eq]
  · simp [Lib.bytesWorld, World.freeze, World.alloc, World.drew, -World.alloc_eq, -World.drew_eq]
  · rw [Lib.bytesWorld_size]; omega
theorem bytesWorld_bt (w : World) (e : TypeId) (s : ByteArray) (j : Nat) (hj : j < s.size) : (Lib.bytesWorld w e s).cell? ⟨w.heap.size, j, none⟩ = some (.int .u8 (bt s j)) := by
  rw [Lib.bytesWorld_cell w e s j hj]
  have h1 : bt s j = (s[j].toNat : Int) := (bt_lt hj).symm
  rw [h1]
  congr 2
  simp only [ByteArray.getElem_eq_getElem_data]
  rw [List.getD_eq_getElem?_getD, Array.getElem?_toList, Array.getElem?_eq_getElem (by exact hj)]
  rfl

set_option maxRecDepth 100000 in
set_option maxHeartbeats 4000000 in
theorem puint_hex (w : World) (s : ByteArray) (hz : s.size = 4) (hq : HexQ s 0 4) :
    Calls Tryz.prog 112 #[.string s, .int .i64 16, .int .i64 64] w fun e w' => e = .returned (.tuple #[.int .u64 (hexP s 0 4), .nilIface]) ∧ Upd [] w w' := by
  have hconv := Lib.run_convert_string_bytes (P := Tryz.prog) w 9 72 5 s Tryz.underlying9 Tryz.underlying72 Tryz.underlying5
  have hup := bytesWorld_upd w 5 s
  have hcell := bytesWorld_bt w 5 s
  generalize Lib.bytesWorld w 5 s = W at *
  generalize grownCap w s.size 0 5 = C at *
  have hne' : decide (s = ByteArray.empty) = false := decide_eq_false (by rintro rfl; exact absurd hz (by decide))
  have hne : s.toList.isEmpty = false := (decide_eq_emptyBytes s).symm.trans hne'
  have Q := Lib.hid hq
  have HC := Lib.hid hcell
  clear hq hcell
  go_enter Tryz.func112, Tryz.ntmps112
  go_wp2_with fail
  clear hconv
  have mx : IntKind.u64.wrap (IntKind.u64.wrap 18446744073709551616 - 1) = 18446744073709551615 := by decide
  go_loopg [12, 13, 101] 4 (fun g v12 v13 v101 wr => ∃ k : Nat, k ≤ 4 ∧ v12 = .bool false ∧ v13 = .int .u64 (hexP s 0 k) ∧ v101 = .int .i64 k ∧ wr = W ∧ Hid (g = 4 - k))
  case atStart => exact ⟨0, by omega, rfl, rfl, rfl, rfl, rfl⟩
  case round =>
    obtain ⟨k, hk, rfl, rfl, rfl, rfl, hh⟩ := hrel
    by_cases hlt : k < 4
    · have hck := HC.out k (by omega)
      have hx := Q.out k hlt
      have hr : HexQ s 0 k := fun y hy => Q.out y (by omega)
      have hpb := hexP_bound hr (by omega)
      have hp1 := hpb.1
      have hp2 := hpb.2.2 hlt
      rw [Nat.zero_add] at hx
      have HS : Hid (hexP s 0 (k + 1) = hexP s 0 k * 16 + hexD (bt s k)) := by
        show hexP s 0 k * 16 + hexD (bt s (0 + k)) = _
        rw [Nat.zero_add]
      clear hpb hr
      have hcases : 48 ≤ bt s k ∧ bt s k ≤ 57 ∨ 97 ≤ bt s k ∧ bt s k ≤ 102 ∨ 65 ≤ bt s k ∧ bt s k ≤ 70 := hx
      clear hx
      generalize hcc : bt s k = c at *
      rcases hcases with hd | hd | hd
      · have HD : Hid (hexD c = c - 48) := by
          show hexD c = c - 48
          unfold hexD; rw [if_pos (by omega)]
        have d95 : (c == 95) = false := beq_eq_false_iff_ne.2 (by omega)
        go_wp2_with fail
        go_roundg (4 - (k + 1))
        case measure => have := hh.out; omega
        case rel => exact ⟨k + 1, by omega, rfl, by rw [HS.out, HD.out], by go_num, rfl, rfl⟩
      · have HD : Hid (hexD c = c - 97 + 10) := by
          show hexD c = c - 97 + 10
          unfold hexD; rw [if_neg (by omega), if_neg (by omega)]; omega
        have d95 : (c == 95) = false := beq_eq_false_iff_ne.2 (by omega)
        have lw := fun w => lower_hex w c (.inl hd)
        have hl : lowI c = c := by unfold lowI; rw [if_neg (by omega)]
        rw [hl] at lw
        have LW := Lib.hid lw
        clear lw hl
        go_wp2_with (go_at_call 121; refine (LW.out _).mono ?_; rintro e w1 ⟨rfl, rfl⟩)
        go_roundg (4 - (k + 1))
        case measure => have := hh.out; omega
        case rel => exact ⟨k + 1, by omega, rfl, by rw [HS.out, HD.out], by go_num, rfl, rfl⟩
      · have HD : Hid (hexD c = c + 32 - 97 + 10) := by
          show hexD c = c + 32 - 97 + 10
          unfold hexD; rw [if_neg (by omega), if_pos (by omega)]; omega
        have d95 : (c == 95) = false := beq_eq_false_iff_ne.2 (by omega)
        have lw := fun w => lower_hex w c (.inr hd)
        have hl : lowI c = c + 32 := by unfold lowI; rw [if_pos (by omega)]
        rw [hl] at lw
        have LW := Lib.hid lw
        clear lw hl
        go_wp2_with (go_at_call 121; refine (LW.out _).mono ?_; rintro e w1 ⟨rfl, rfl⟩)
        go_roundg (4 - (k + 1))
        case measure => have := hh.out; omega
        case rel => exact ⟨k + 1, by omega, rfl, by rw [HS.out, HD.out], by go_num, rfl, rfl⟩
    · have hE : k = 4 := by omega
      subst hE
      go_wp2_with fail
      refine bodyPost_ret (v := .tuple #[.int .u64 (hexP s 0 4), .nilIface]) ?_ rfl ⟨rfl, hup⟩
      simp [results, Tryz.results112, go_sem]
end Go.Proofs.YtcnkbdbkglggcaaGreatDoor

namespace Go.Proofs.YtcnkbdbkglggcaaGreatDoor
open Go.RowKit

theorem puint_pub (w : World) (s : ByteArray) (hz : s.size = 4) (hq : HexQ s 0 4) :
    Calls Tryz.prog 83 #[.string s, .int .i64 16, .int .i64 64] w fun e w' => e = .returned (.tuple #[.int .u64 (hexP s 0 4), .nilIface]) ∧ Upd [] w w' := by
  have H := Lib.hid (puint_hex w s hz hq)
  clear hz hq
  go_enter Tryz.func83, Tryz.ntmps83
  go_wp2_with fail
  refine H.out.mono ?_
  rintro e w1 ⟨rfl, hu⟩
  go_wp2_with fail
  go_ret2
  exact ⟨rfl, hu⟩
theorem runeit_hex (w : World) (u : ByteArray) (h4 : 4 ≤ u.size) (hq : HexQ u 0 4) : Calls Tryz.prog 60 #[.string u] w fun e w' => e = .returned (.int .i32 (hexP u 0 4)) ∧ Upd [] w w' := by
  have hz : (u.extract 0 4).size = 4 := by simp only [ByteArray.size_extract]; omega
  have hx := hexP_shift (s := u) (u := u.extract 0 4) (p := 0) (a := 0) (x := 4) fun y hy => bt_extract (by omega) h4
  rw [Nat.zero_add] at hx
  have H := fun w => puint_pub w (u.extract 0 4) hz (hx.2 hq)
  rw [hx.1] at H
  have HH := Lib.hid H
  have hb := hexP_bound hq (Nat.le_refl _)
  have hb0 := hb.1
  have hb1 := hb.2.1
  have r1 : IntKind.i32.wrap (hexP u 0 4) = hexP u 0 4 := IntWalk.i32_in _ (by omega)
  clear hx H hq hb hz
  generalize hexP u 0 4 = n at *
  go_enter Tryz.func60, Tryz.ntmps60
  go_wp2_with fail
  refine (HH.out _).mono ?_
  rintro e w1 ⟨rfl, hu⟩
  go_wp2_with fail
  go_ret
  exact ⟨rfl, hu⟩
theorem sur_no (w : World) (r : Int) (h : r < 55296 ∨ 57343 < r) : Calls Tryz.prog 61 #[.int .i32 r] w fun e w' => e = .returned (.bool false) ∧ w' = w := by
  go_enter Tryz.func61, Tryz.ntmps61
  rcases h with h | h
  · have d1 : decide (55296 ≤ r) = false := decide_eq_false (by omega)
    go_wp2_with fail
    go_ret
    exact ⟨rfl, rfl⟩
  · have d1 : decide (55296 ≤ r) = true := decide_eq_true (by omega)
    have d2 : decide (r < 57344) = false := decide_eq_false (by omega)
    go_wp2_with fail
    go_ret
    exact ⟨rfl, rfl⟩
theorem sur_yes (w : World) (r : Int) (h0 : 55296 ≤ r) (h1 : r < 57344) : Calls Tryz.prog 61 #[.int .i32 r] w fun e w' => e = .returned (.bool true) ∧ w' = w := by
  have d1 : decide (55296 ≤ r) = true := decide_eq_true h0
  have d2 : decide (r < 57344) = true := decide_eq_true h1
  go_enter Tryz.func61, Tryz.ntmps61
  go_wp2_with fail
  go_ret
  exact ⟨rfl, rfl⟩
theorem i32_or10 (x y : Int) (hx₀ : 0 ≤ x) (hx : x % 1024 = 0) (hx₁ : x < 2147483648) (h₀ : 0 ≤ y) (h₁ : y < 1024) : bits .or .i32 x y = x + y :=
  bits_join .i32 31 (by decide) wraps_i32 10 x y hx₀ hx hx₁ h₀ h₁ (by omega)
theorem drune (w : World) (a b : Int) (a0 : 55296 ≤ a) (a1 : a < 56320) (b0 : 56320 ≤ b) (b1 : b ≤ 57343) :
    Calls Tryz.prog 62 #[.int .i32 a, .int .i32 b] w fun e w' => e = .returned (.int .i32 (65536 + (a - 55296) * 1024 + b - 56320)) ∧ w' = w := by
  have d1 : decide (55296 ≤ a) = true := decide_eq_true a0
  have d2 : decide (a < 56320) = true := decide_eq_true a1
  have d3 : decide (56320 ≤ b) = true := decide_eq_true b0
  have d4 : decide (b < 57344) = true := decide_eq_true (by omega)
  have o1 := i32_or10 ((a - 55296) * 1024) (b - 56320) (by omega) (by omega) (by omega) (by omega) (by omega)
  have fin : (a - 55296) * 1024 + (b - 56320) + 65536 = 65536 + (a - 55296) * 1024 + b - 56320 := by omega
  have FIN := Lib.hid fin
  clear fin
  go_enter Tryz.func62, Tryz.ntmps62
  go_wp2_with fail
  go_ret
  exact ⟨by rw [← FIN.out]; rfl, rfl⟩
/-- A shorter stretch of a row that the call owns. -/
theorem own_take {w : World} {base g n m cap : Nat} {xs ys : List Value} (h : w.ownsRow base 5 1 (.slice (some ⟨g, 0, none⟩) n cap) n xs) (hm : m ≤ n) (hy : xs.take m = ys) : w.ownsRow base 5 1 (.slice (some ⟨g, 0, none⟩) m cap) m ys := by
  subst hy
  obtain ⟨h1, h2⟩ := h
  rcases h2 with ⟨h0, _⟩ | ⟨g', cap', cur, hv, hg, hh, hn, hcap, hsz, htake⟩
  · cases h0
  · cases hv
    refine ⟨by rw [List.length_take]; omega, .inr ⟨g, cap, cur, rfl, hg, hh, by omega, hcap, hsz, ?_⟩⟩
    rw [← htake, List.take_take, Nat.mul_one, Nat.mul_one, Nat.min_eq_left hm]
section
variable {w : World} {base g n cap cap2 : Nat} {xs : List Value} {z0 z1 z2 z3 z4 z5 z6 z7 : Value}
theorem grown_trans {a b c : World} {r : Option Nat} (h : a.grownBy b r) (k : b.grownBy c r) : a.grownBy c r :=
  ⟨k.os.trans h.os, k.tape.trans h.tape, k.output.trans h.output, Nat.le_trans h.size k.size, fun i hi hr => (k.block i (Nat.lt_of_lt_of_le hi h.size) hr).trans (h.block i hi hr)⟩
theorem own_put1 (h : w.ownsRow base 5 1 (.slice (some ⟨g, 0, none⟩) (n + 8) cap) (n + 8) (xs ++ [z0, z1, z2, z3, z4, z5, z6, z7])) (hx : xs.length = n) (v0 : Value) : (w.setCell ⟨g, n, none⟩ v0).ownsRow base 5 1 (.slice (some ⟨g, 0, none⟩) (n + 1) cap) (n + 1) (xs ++ [v0]) ∧ w.grownBy (w.setCell ⟨g, n, none⟩ v0) (some g) := by
  have h0 := h.stored (n) v0
  refine ⟨own_take h0.1 (by omega) ?_, h0.2⟩
  subst hx
  simp [List.take_append]
  exact List.take_of_length_le (by omega)
theorem own_put2 (h : w.ownsRow base 5 1 (.slice (some ⟨g, 0, none⟩) (n + 8) cap) (n + 8) (xs ++ [z0, z1, z2, z3, z4, z5, z6, z7])) (hx : xs.length = n) (v0 v1 : Value) : ((w.setCell ⟨g, n, none⟩ v0).setCell ⟨g, n + 1, none⟩ v1).ownsRow base 5 1 (.slice (some ⟨g, 0, none⟩) (n + 2) cap) (n + 2) (xs ++ [v0, v1]) ∧ w.grownBy ((w.setCell ⟨g, n, none⟩ v0).setCell ⟨g, n + 1, none⟩ v1) (some g) := by
  have h0 := h.stored (n) v0
  have h1 := h0.1.stored (n + 1) v1
  refine ⟨own_take h1.1 (by omega) ?_, (grown_trans h0.2 h1.2)⟩
  subst hx
  simp [List.take_append]
  exact List.take_of_length_le (by omega)
theorem own_put3 (h : w.ownsRow base 5 1 (.slice (some ⟨g, 0, none⟩) (n + 8) cap) (n + 8) (xs ++ [z0, z1, z2, z3, z4, z5, z6, z7])) (hx : xs.length = n) (v0 v1 v2 : Value) : (((w.setCell ⟨g, n, none⟩ v0).setCell ⟨g, n + 1, none⟩ v1).setCell ⟨g, n + 2, none⟩ v2).ownsRow base 5 1 (.slice (some ⟨g, 0, none⟩) (n + 3) cap) (n + 3) (xs ++ [v0, v1, v2]) ∧ w.grownBy (((w.setCell ⟨g, n, none⟩ v0).setCell ⟨g, n + 1, none⟩ v1).setCell ⟨g, n + 2, none⟩ v2) (some g) := by
  have h0 := h.stored (n) v0
  have h1 := h0.1.stored (n + 1) v1
  have h2 := h1.1.stored (n + 2) v2
  refine ⟨own_take h2.1 (by omega) ?_, (grown_trans (grown_trans h0.2 h1.2) h2.2)⟩
  subst hx
  simp [List.take_append]
  exact List.take_of_length_le (by omega)
theorem own_put4 (h : w.ownsRow base 5 1 (.slice (some ⟨g, 0, none⟩) (n + 8) cap) (n + 8) (xs ++ [z0, z1, z2, z3, z4, z5, z6, z7])) (hx : xs.length = n) (v0 v1 v2 v3 : Value) : ((((w.setCell ⟨g, n, none⟩ v0).setCell ⟨g, n + 1, none⟩ v1).setCell ⟨g, n + 2, none⟩ v2).setCell ⟨g, n + 3, none⟩ v3).ownsRow base 5 1 (.slice (some ⟨g, 0, none⟩) (n + 4) cap) (n + 4) (xs ++ [v0, v1, v2, v3]) ∧ w.grownBy ((((w.setCell ⟨g, n, none⟩ v0).setCell ⟨g, n + 1, none⟩ v1).setCell ⟨g, n + 2, none⟩ v2).setCell ⟨g, n + 3, none⟩ v3) (some g) := by
  have h0 := h.stored (n) v0
  have h1 := h0.1.stored (n + 1) v1
  have h2 := h1.1.stored (n + 2) v2
  have h3 := h2.1.stored (n + 3) v3
  refine ⟨own_take h3.1 (by omega) ?_, (grown_trans (grown_trans (grown_trans h0.2 h1.2) h2.2) h3.2)⟩
  subst hx
  simp [List.take_append]
  exact List.take_of_length_le (by omega)
set_option maxRecDepth 100000 in
set_option maxHeartbeats 4000000 in
theorem enc_1 (h : w.ownsRow base 5 1 (.slice (some ⟨g, 0, none⟩) (n + 8) cap) (n + 8) (xs ++ [z0, z1, z2, z3, z4, z5, z6, z7])) (hx : xs.length = n) (r : Int) (r0 : 0 ≤ r) (r1 : r < 128) :
    Calls Tryz.prog 63 #[.slice (some ⟨g, n, none⟩) 8 cap2, .int .i32 r] w fun e w' => e = .returned (.int .i64 1) ∧ w'.ownsRow base 5 1 (.slice (some ⟨g, 0, none⟩) (n + 1) cap) (n + 1) (xs ++ [.int .u8 (r)]) ∧ w.grownBy w' (some g) := by
  have c0 := h.cellAt (n) (by omega)
  have f0 := h.frozenAt (n)
  have c1 := h.cellAt (n + 1) (by omega)
  have f1 := h.frozenAt (n + 1)
  have c2 := h.cellAt (n + 2) (by omega)
  have f2 := h.frozenAt (n + 2)
  have c3 := h.cellAt (n + 3) (by omega)
  have f3 := h.frozenAt (n + 3)
  rw [List.getElem?_append_right (by omega)] at c0 c1 c2 c3
  simp only [show n - xs.length = 0 by omega, show n + 1 - xs.length = 1 by omega, show n + 2 - xs.length = 2 by omega, show n + 3 - xs.length = 3 by omega, List.getElem?_cons_zero, List.getElem?_cons_succ] at c0 c1 c2 c3
  have HO := Lib.hid h
  clear h
  have w1 : IntKind.u32.wrap r = r := by rw [IntKind.wrap_u32']; omega
  have w2 : IntKind.u8.wrap r = r := by rw [IntKind.wrap_u8']; omega
  go_enter Tryz.func63, Tryz.ntmps63
  go_wp2_with fail
  go_ret
  exact ⟨rfl, own_put1 HO.out hx _⟩
set_option maxRecDepth 100000 in
set_option maxHeartbeats 4000000 in
theorem enc_2i (h : w.ownsRow base 5 1 (.slice (some ⟨g, 0, none⟩) (n + 8) cap) (n + 8) (xs ++ [z0, z1, z2, z3, z4, z5, z6, z7])) (hx : xs.length = n) (r : Int) (r0 : 128 ≤ r) (r1 : r < 2048) :
    Calls Tryz.prog 84 #[.slice (some ⟨g, n, none⟩) 8 cap2, .int .i32 r] w fun e w' => e = .returned (.int .i64 2) ∧ w'.ownsRow base 5 1 (.slice (some ⟨g, 0, none⟩) (n + 2) cap) (n + 2) (xs ++ [.int .u8 (192 + r / 64), .int .u8 (128 + r % 64)]) ∧ w.grownBy w' (some g) := by
  have c0 := h.cellAt (n) (by omega)
  have f0 := h.frozenAt (n)
  have c1 := h.cellAt (n + 1) (by omega)
  have f1 := h.frozenAt (n + 1)
  have c2 := h.cellAt (n + 2) (by omega)
  have f2 := h.frozenAt (n + 2)
  have c3 := h.cellAt (n + 3) (by omega)
  have f3 := h.frozenAt (n + 3)
  rw [List.getElem?_append_right (by omega)] at c0 c1 c2 c3
  simp only [show n - xs.length = 0 by omega, show n + 1 - xs.length = 1 by omega, show n + 2 - xs.length = 2 by omega, show n + 3 - xs.length = 3 by omega, List.getElem?_cons_zero, List.getElem?_cons_succ] at c0 c1 c2 c3
  have HO := Lib.hid h
  clear h
  have w1 : IntKind.u32.wrap r = r := by rw [IntKind.wrap_u32']; omega
  have w2 : IntKind.u8.wrap r = r % 256 := IntKind.wrap_u8' r
  have w3 : IntKind.u8.wrap (r / 64) = r / 64 := by rw [IntKind.wrap_u8']; omega
  have b1 : bits .or .u8 192 (r / 64) = 192 + r / 64 := u8_or192 _ (by omega) (by omega)
  have b2 : bits .and .u8 (r % 256) 63 = r % 64 := by rw [u8_and63 _ (by omega) (by omega)]; omega
  have b3 : bits .or .u8 128 (r % 64) = 128 + r % 64 := u8_or128 _ (by omega) (by omega)
  go_enter Tryz.func84, Tryz.ntmps84
  go_wp2_with fail
  go_ret
  exact ⟨rfl, own_put2 HO.out hx _ _⟩
set_option maxRecDepth 100000 in
set_option maxHeartbeats 4000000 in
theorem enc_3i (h : w.ownsRow base 5 1 (.slice (some ⟨g, 0, none⟩) (n + 8) cap) (n + 8) (xs ++ [z0, z1, z2, z3, z4, z5, z6, z7])) (hx : xs.length = n) (r : Int) (r0 : 2048 ≤ r) (r1 : r < 65536) (hs : r < 55296 ∨ 57343 < r) :
    Calls Tryz.prog 84 #[.slice (some ⟨g, n, none⟩) 8 cap2, .int .i32 r] w fun e w' => e = .returned (.int .i64 3) ∧ w'.ownsRow base 5 1 (.slice (some ⟨g, 0, none⟩) (n + 3) cap) (n + 3) (xs ++ [.int .u8 (224 + r / 4096), .int .u8 (128 + r / 64 % 64), .int .u8 (128 + r % 64)]) ∧ w.grownBy w' (some g) := by
  have c0 := h.cellAt (n) (by omega)
  have f0 := h.frozenAt (n)
  have c1 := h.cellAt (n + 1) (by omega)
  have f1 := h.frozenAt (n + 1)
  have c2 := h.cellAt (n + 2) (by omega)
  have f2 := h.frozenAt (n + 2)
  have c3 := h.cellAt (n + 3) (by omega)
  have f3 := h.frozenAt (n + 3)
  rw [List.getElem?_append_right (by omega)] at c0 c1 c2 c3
  simp only [show n - xs.length = 0 by omega, show n + 1 - xs.length = 1 by omega, show n + 2 - xs.length = 2 by omega, show n + 3 - xs.length = 3 by omega, List.getElem?_cons_zero, List.getElem?_cons_succ] at c0 c1 c2 c3
  have HO := Lib.hid h
  clear h
  have w1 : IntKind.u32.wrap r = r := by rw [IntKind.wrap_u32']; omega
  have w2 : IntKind.u8.wrap r = r % 256 := IntKind.wrap_u8' r
  have w3 : IntKind.u8.wrap (r / 64) = r / 64 % 256 := IntKind.wrap_u8' _
  have w4 : IntKind.u8.wrap (r / 4096) = r / 4096 := by rw [IntKind.wrap_u8']; omega
  have b1 : bits .or .u8 224 (r / 4096) = 224 + r / 4096 := u8_or224 _ (by omega) (by omega)
  have b2 : bits .and .u8 (r % 256) 63 = r % 64 := by rw [u8_and63 _ (by omega) (by omega)]; omega
  have b3 : bits .or .u8 128 (r % 64) = 128 + r % 64 := u8_or128 _ (by omega) (by omega)
  have b4 : bits .and .u8 (r / 64 % 256) 63 = r / 64 % 64 := by rw [u8_and63 _ (by omega) (by omega)]; omega
  have b5 : bits .or .u8 128 (r / 64 % 64) = 128 + r / 64 % 64 := u8_or128 _ (by omega) (by omega)
  go_enter Tryz.func84, Tryz.ntmps84
  rcases hs with hs | hs
  · have d1 : decide (r < 55296) = true := decide_eq_true hs
    go_wp2_with fail
    go_ret
    exact ⟨rfl, own_put3 HO.out hx _ _ _⟩
  · have d1 : decide (r < 55296) = false := decide_eq_false (by omega)
    have d2 : decide (57343 < r) = true := decide_eq_true hs
    have d3 : decide (r ≤ 65535) = true := decide_eq_true (by omega)
    go_wp2_with fail
    go_ret
    exact ⟨rfl, own_put3 HO.out hx _ _ _⟩
set_option maxRecDepth 100000 in
set_option maxHeartbeats 4000000 in
theorem enc_4i (h : w.ownsRow base 5 1 (.slice (some ⟨g, 0, none⟩) (n + 8) cap) (n + 8) (xs ++ [z0, z1, z2, z3, z4, z5, z6, z7])) (hx : xs.length = n) (r : Int) (r0 : 65536 ≤ r) (r1 : r < 1114112) :
    Calls Tryz.prog 84 #[.slice (some ⟨g, n, none⟩) 8 cap2, .int .i32 r] w fun e w' => e = .returned (.int .i64 4) ∧ w'.ownsRow base 5 1 (.slice (some ⟨g, 0, none⟩) (n + 4) cap) (n + 4) (xs ++ [.int .u8 (240 + r / 262144), .int .u8 (128 + r / 4096 % 64), .int .u8 (128 + r / 64 % 64), .int .u8 (128 + r % 64)]) ∧ w.grownBy w' (some g) := by
  have c0 := h.cellAt (n) (by omega)
  have f0 := h.frozenAt (n)
  have c1 := h.cellAt (n + 1) (by omega)
  have f1 := h.frozenAt (n + 1)
  have c2 := h.cellAt (n + 2) (by omega)
  have f2 := h.frozenAt (n + 2)
  have c3 := h.cellAt (n + 3) (by omega)
  have f3 := h.frozenAt (n + 3)
  rw [List.getElem?_append_right (by omega)] at c0 c1 c2 c3
  simp only [show n - xs.length = 0 by omega, show n + 1 - xs.length = 1 by omega, show n + 2 - xs.length = 2 by omega, show n + 3 - xs.length = 3 by omega, List.getElem?_cons_zero, List.getElem?_cons_succ] at c0 c1 c2 c3
  have HO := Lib.hid h
  clear h
  have w1 : IntKind.u32.wrap r = r := by rw [IntKind.wrap_u32']; omega
  have w2 : IntKind.u8.wrap r = r % 256 := IntKind.wrap_u8' r
  have w3 : IntKind.u8.wrap (r / 64) = r / 64 % 256 := IntKind.wrap_u8' _
  have w4 : IntKind.u8.wrap (r / 4096) = r / 4096 % 256 := IntKind.wrap_u8' _
  have w5 : IntKind.u8.wrap (r / 262144) = r / 262144 := by rw [IntKind.wrap_u8']; omega
  have b1 : bits .or .u8 240 (r / 262144) = 240 + r / 262144 := u8_or240 _ (by omega) (by omega)
  have b2 : bits .and .u8 (r % 256) 63 = r % 64 := by rw [u8_and63 _ (by omega) (by omega)]; omega
  have b3 : bits .or .u8 128 (r % 64) = 128 + r % 64 := u8_or128 _ (by omega) (by omega)
  have b4 : bits .and .u8 (r / 64 % 256) 63 = r / 64 % 64 := by rw [u8_and63 _ (by omega) (by omega)]; omega
  have b5 : bits .or .u8 128 (r / 64 % 64) = 128 + r / 64 % 64 := u8_or128 _ (by omega) (by omega)
  have b6 : bits .and .u8 (r / 4096 % 256) 63 = r / 4096 % 64 := by rw [u8_and63 _ (by omega) (by omega)]; omega
  have b7 : bits .or .u8 128 (r / 4096 % 64) = 128 + r / 4096 % 64 := u8_or128 _ (by omega) (by omega)
  go_enter Tryz.func84, Tryz.ntmps84
  go_wp2_with fail
  go_ret
  exact ⟨rfl, own_put4 HO.out hx _ _ _ _⟩
theorem enc_any (h : w.ownsRow base 5 1 (.slice (some ⟨g, 0, none⟩) (n + 8) cap) (n + 8) (xs ++ [z0, z1, z2, z3, z4, z5, z6, z7])) (hx : xs.length = n) (r : Int) (r0 : 0 ≤ r) (r1 : r < 1114112) (hs : r < 55296 ∨ 57343 < r) :
    Calls Tryz.prog 63 #[.slice (some ⟨g, n, none⟩) 8 cap2, .int .i32 r] w fun e w' => e = .returned (.int .i64 (utf8 r).length) ∧ w'.ownsRow base 5 1 (.slice (some ⟨g, 0, none⟩) (n + (utf8 r).length) cap) (n + (utf8 r).length) (xs ++ (utf8 r).map (Value.int .u8)) ∧ w.grownBy w' (some g) := by
  by_cases c1 : r < 128
  · have := enc_1 (cap2 := cap2) h hx r r0 c1
    unfold utf8
    rw [if_pos c1]
    exact this
  · have w1 : IntKind.u32.wrap r = r := by rw [IntKind.wrap_u32']; omega
    have H : Calls Tryz.prog 84 #[.slice (some ⟨g, n, none⟩) 8 cap2, .int .i32 r] w fun e w' => e = .returned (.int .i64 (utf8 r).length) ∧ w'.ownsRow base 5 1 (.slice (some ⟨g, 0, none⟩) (n + (utf8 r).length) cap) (n + (utf8 r).length) (xs ++ (utf8 r).map (Value.int .u8)) ∧ w.grownBy w' (some g) := by
      unfold utf8
      rw [if_neg c1]
      by_cases c2 : r < 2048
      · rw [if_pos c2]; exact enc_2i h hx r (by omega) c2
      · rw [if_neg c2]
        by_cases c3 : r < 65536
        · rw [if_pos c3]; exact enc_3i h hx r (by omega) c3 hs
        · rw [if_neg c3]; exact enc_4i h hx r (by omega) r1
    have HH := Lib.hid H
    clear H h
    generalize (utf8 r).length = m at *
    generalize (utf8 r).map (Value.int .u8) = us at *
    go_enter Tryz.func63, Tryz.ntmps63
    go_wp2_with fail
    refine HH.out.mono ?_
    rintro e w1 ⟨rfl, h1, h2⟩
    go_wp2_with fail
    go_ret
    exact ⟨rfl, h1, h2⟩
end
end Go.Proofs.YtcnkbdbkglggcaaGreatDoor
