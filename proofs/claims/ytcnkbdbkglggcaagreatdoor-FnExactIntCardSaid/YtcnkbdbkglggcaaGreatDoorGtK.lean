/-
  The program's 'parseInt', 'Result.Int' and 'Result.String' on whole numbers, and the thin package's 'Int' and 'String'. Condition: at most 18 digits.
-/
import Derived.Test.YtcnkbdbkglggcaaGreatDoorGtJ
import Derived.Test.YtcnkbdbkglggcaaGreatDoorGtI
namespace Go.Proofs.YtcnkbdbkglggcaaGreatDoor
open Go.RowKit

theorem dv_shift {s u : ByteArray} {p n : Nat} (h : ∀ y, y < n → bt u y = bt s (p + y)) : dv u 0 n = dv s p n := by
  induction n with
  | zero => rfl
  | succ n ih =>
    rw [show dv u 0 (n + 1) = dv u 0 n * 10 + ((bt u (0 + n)).toNat - 48) from rfl, show dv s p (n + 1) = dv s p n * 10 + ((bt s (p + n)).toNat - 48) from rfl, ih fun y hy => h y (by omega), Nat.zero_add, h n (by omega)]
theorem digs_cut {s : ByteArray} (hd : DigsAt s 1) : DigsAt (s.extract 1 s.size) 0 ∧ dv (s.extract 1 s.size) 0 (s.extract 1 s.size).size = dv s 1 (s.size - 1) := by
  have hl := hd.lt
  have hle := hd.le
  have hz : (s.extract 1 s.size).size = s.size - 1 := by simp only [ByteArray.size_extract]; omega
  have hb : ∀ y, y < s.size - 1 → bt (s.extract 1 s.size) y = bt s (1 + y) := fun y hy => bt_extract (by omega) (Nat.le_refl _)
  refine ⟨⟨by omega, by omega, fun k _ hk => ?_, ?_⟩, ?_⟩
  · rw [hb k (by omega)]
    exact hd.dig _ (by omega) (by omega)
  · rw [hb 0 (by omega)]
    exact hd.first
  · rw [hz]
    exact dv_shift hb
theorem pint_pos (w : World) (s : ByteArray) (hd : DigsAt s 0) : Calls Tryz.prog 42 #[.string s] w fun e w' => e = .returned (.tuple #[.int .i64 (dv s 0 s.size), .bool true]) ∧ w' = w := by
  have hl := hd.lt
  have hle := hd.le
  have hf : (s[0].toNat : Int) = bt s 0 := bt_lt hl
  have hfirst := hd.first
  have d45 : ((s[0].toNat : Int) == 45) = false := beq_eq_false_iff_ne.2 (by omega)
  have hb : dv s 0 s.size < 10 ^ s.size := dv_lt s 0 s.size fun k hk => hd.dig (0 + k) (by omega) (by omega)
  have hb2 : 10 ^ s.size ≤ 10 ^ 18 := Nat.pow_le_pow_right (by omega) (by omega)
  have dm : decide (9223372036854775807 < (dv s 0 s.size : Int)) = false := decide_eq_false (by omega)
  have wm : IntKind.i64.wrap (dv s 0 s.size : Int) = (dv s 0 s.size : Int) := IntWalk.i64_in _ (by omega)
  have H := Lib.hid (fun w => puint_digs w s hd)
  clear hf hfirst hb hb2 hd
  go_enter Tryz.func42, Tryz.ntmps42
  go_wp2_with fail
  refine (H.out _).mono ?_
  rintro e w1 ⟨rfl, rfl⟩
  go_wp2_with fail
  go_ret2
  exact ⟨rfl, rfl⟩
theorem pint_neg (w : World) (s : ByteArray) (hd : DigsAt s 1) (h45 : bt s 0 = 45) : Calls Tryz.prog 42 #[.string s] w fun e w' => e = .returned (.tuple #[.int .i64 (-(dv s 1 (s.size - 1) : Int)), .bool true]) ∧ w' = w := by
  have hl := hd.lt
  have hle := hd.le
  have hl0 : 0 < s.size := by omega
  have hf : (s[0].toNat : Int) = bt s 0 := bt_lt hl0
  have d45 : ((s[0].toNat : Int) == 45) = true := beq_iff_eq.2 (by omega)
  have hb : dv s 1 (s.size - 1) < 10 ^ (s.size - 1) := dv_lt s 1 (s.size - 1) fun k hk => hd.dig (1 + k) (by omega) (by omega)
  have hb2 : 10 ^ (s.size - 1) ≤ 10 ^ 18 := Nat.pow_le_pow_right (by omega) (by omega)
  have dm : decide (9223372036854775808 < (dv s 1 (s.size - 1) : Int)) = false := decide_eq_false (by omega)
  have wm : IntKind.i64.wrap (dv s 1 (s.size - 1) : Int) = (dv s 1 (s.size - 1) : Int) := IntWalk.i64_in _ (by omega)
  have wn : IntKind.i64.wrap (-(dv s 1 (s.size - 1) : Int)) = -(dv s 1 (s.size - 1) : Int) := IntWalk.i64_in _ (by omega)
  obtain ⟨D2, hv⟩ := digs_cut hd
  have H0 := fun w => puint_digs w (s.extract 1 s.size) D2
  rw [hv] at H0
  have H := Lib.hid H0
  clear hf hb hb2 hd H0 D2 hv h45
  generalize dv s 1 (s.size - 1) = n at *
  go_enter Tryz.func42, Tryz.ntmps42
  go_wp2_with fail
  refine (H.out _).mono ?_
  rintro e w1 ⟨rfl, rfl⟩
  go_wp2_with fail
  go_ret2
  exact ⟨rfl, rfl⟩
theorem rint_safe (w : World) (raw str : ByteArray) (x : Nat) (i n : Int) (hs : ∀ w, Calls Tryz.prog 45 #[.float .f64 x] w fun e w' => e = .returned (.tuple #[.int .i64 n, .bool true]) ∧ w' = w) :
    Calls Tryz.prog 26 #[.agg (resCells 2 raw str x i)] w fun e w' => e = .returned (.int .i64 n) ∧ Upd [] w w' := by
  have HS := Lib.hid hs
  clear hs
  unfold resCells
  go_enter Tryz.func26, Tryz.ntmps26
  go_wp2_with fail
  refine (HS.out _).mono ?_
  rintro e w1 ⟨rfl, rfl⟩
  go_wp2_with fail
  go_ret
  exact ⟨rfl, (Upd.refl [] w).alloc _⟩
theorem rint_raw (w : World) (raw str : ByteArray) (x : Nat) (i n : Int) (hs : ∀ w, Calls Tryz.prog 45 #[.float .f64 x] w fun e w' => e = .returned (.tuple #[.int .i64 0, .bool false]) ∧ w' = w)
    (hp : ∀ w, Calls Tryz.prog 42 #[.string raw] w fun e w' => e = .returned (.tuple #[.int .i64 n, .bool true]) ∧ w' = w) :
    Calls Tryz.prog 26 #[.agg (resCells 2 raw str x i)] w fun e w' => e = .returned (.int .i64 n) ∧ Upd [] w w' := by
  have HS := Lib.hid hs
  have HP := Lib.hid hp
  clear hs hp
  unfold resCells
  go_enter Tryz.func26, Tryz.ntmps26
  go_wp2_with fail
  refine (HS.out _).mono ?_
  rintro e w1 ⟨rfl, rfl⟩
  go_wp2_with fail
  refine (HP.out _).mono ?_
  rintro e w1 ⟨rfl, rfl⟩
  go_wp2_with fail
  go_ret
  exact ⟨rfl, (Upd.refl [] w).alloc _⟩
theorem impl_int (w : World) (s : ByteArray) (n : Int) (v : Value) (hp : Calls Tryz.prog 20 #[.string s] w fun e w' => e = .returned v ∧ Upd [] w w')
    (hq : ∀ w1, Calls Tryz.prog 26 #[v] w1 fun e w' => e = .returned (.int .i64 n) ∧ Upd [] w1 w') :
    Calls Tryz.prog 15 #[.string s] w fun e w' => e = .returned (.int .i64 n) ∧ Upd [] w w' := by
  go_enter Tryz.func15, Tryz.ntmps15
  go_wp2_with fail
  refine hp.mono ?_
  rintro e w1 ⟨rfl, hu1⟩
  go_wp2_with fail
  refine (hq w1).mono ?_
  rintro e w2 ⟨rfl, hu2⟩
  go_wp2_with fail
  go_ret
  exact ⟨rfl, hu1.trans hu2⟩
theorem impl_strn (w : World) (s u : ByteArray) (v : Value) (hp : Calls Tryz.prog 20 #[.string s] w fun e w' => e = .returned v ∧ Upd [] w w')
    (hq : ∀ w1, Calls Tryz.prog 23 #[v] w1 fun e w' => e = .returned (.string u) ∧ Upd [] w1 w') :
    Calls Tryz.prog 12 #[.string s] w fun e w' => e = .returned (.string u) ∧ Upd [] w w' := by
  go_enter Tryz.func12, Tryz.ntmps12
  go_wp2_with fail
  refine hp.mono ?_
  rintro e w1 ⟨rfl, hu1⟩
  go_wp2_with fail
  refine (hq w1).mono ?_
  rintro e w2 ⟨rfl, hu2⟩
  go_wp2_with fail
  go_ret
  exact ⟨rfl, hu1.trans hu2⟩
end Go.Proofs.YtcnkbdbkglggcaaGreatDoor
