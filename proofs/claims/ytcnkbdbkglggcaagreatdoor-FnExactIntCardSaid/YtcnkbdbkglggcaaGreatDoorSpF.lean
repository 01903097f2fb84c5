/-
  'Rune': a number as UTF-8. No condition but that the number is one of a rune.
-/
import Derived.Test.YtcnkbdbkglggcaaGreatDoorBase
namespace Go.Proofs.YtcnkbdbkglggcaaGreatDoor
open Go.RowKit

/-- A number as UTF-8. -/
def utf8 (n : Int) : List Int :=
  if n < 128 then [n] else if n < 2048 then [192 + n / 64, 128 + n % 64]
  else if n < 65536 then [224 + n / 4096, 128 + n / 64 % 64, 128 + n % 64]
  else [240 + n / 262144, 128 + n / 4096 % 64, 128 + n / 64 % 64, 128 + n % 64]

theorem str_new (w : World) (xs : List Int) (cs : Array Value) (hc : cs = (xs.map (Value.int .u8)).toArray) (k : Nat) (hk : k = xs.length) :
    (convert 72 9 (.slice (some ⟨w.heap.size, 0, none⟩) k k)).run Tryz.prog (w.alloc (.cells cs 5)) = .ok (.string (strOfNums xs)) (w.alloc (.cells cs 5)) := by
  subst hc hk
  refine run_convert_bytes_arg _ 72 5 Tryz.underlying72 Tryz.underlying5 _ 0 _ _ xs rfl (fun i hi => ?_) 9 Tryz.underlying9
  have := (Blk.new w 5 (xs.map (Value.int .u8)).toArray).cell i
  rw [Nat.zero_add, this]
  simp [List.getElem?_eq_getElem hi, List.getD_eq_getElem?_getD]
theorem ret_str {a b : List Int} (h : a = b) : Ending.returned (.string (strOfNums a)) = .returned (.string (strOfNums b)) := by rw [h]

set_option maxRecDepth 100000 in
set_option maxHeartbeats 1000000 in
theorem rune_1 (n : Int) (w : World) (h0 : 0 ≤ n) (c1 : n < 128) :
    Calls Tryz.prog 69 #[.int .i64 n] w fun e w' => e = .returned (.string (strOfNums [n])) ∧ Below w.heap.size w w' := by
  have e1 := str_new w [n] #[.int .u8 n] rfl 1 rfl
  go_enter Tryz.func69, Tryz.ntmps69
  go_wp2
  go_ret
  exact ⟨rfl, (Below.refl _ _).alloc (Nat.le_refl _) _⟩
set_option maxRecDepth 100000 in
set_option maxHeartbeats 1000000 in
theorem rune_2 (n : Int) (w : World) (h0 : 128 ≤ n) (c1 : n < 2048) :
    Calls Tryz.prog 69 #[.int .i64 n] w fun e w' => e = .returned (.string (strOfNums [192 + n / 64, 128 + n % 64])) ∧ Below w.heap.size w w' := by
  have e1 := str_new w [192 + n / 64, 128 + n % 64] #[.int .u8 (192 + n / 64), .int .u8 (128 + n % 64)] rfl 2 rfl
  go_enter Tryz.func69, Tryz.ntmps69
  go_wp2
  go_ret
  exact ⟨rfl, (Below.refl _ _).alloc (Nat.le_refl _) _⟩
set_option maxRecDepth 100000 in
set_option maxHeartbeats 1000000 in
theorem rune_3 (n : Int) (w : World) (h0 : 2048 ≤ n) (c1 : n < 65536) :
    Calls Tryz.prog 69 #[.int .i64 n] w fun e w' => e = .returned (.string (strOfNums [224 + n / 4096, 128 + n / 64 % 64, 128 + n % 64])) ∧ Below w.heap.size w w' := by
  have e1 := str_new w [224 + n / 4096, 128 + n / 64 % 64, 128 + n % 64] #[.int .u8 (224 + n / 4096), .int .u8 (128 + n / 64 % 64), .int .u8 (128 + n % 64)] rfl 3 rfl
  go_enter Tryz.func69, Tryz.ntmps69
  go_wp2
  go_ret
  exact ⟨rfl, (Below.refl _ _).alloc (Nat.le_refl _) _⟩
set_option maxRecDepth 100000 in
set_option maxHeartbeats 1000000 in
theorem rune_4 (n : Int) (w : World) (h0 : 65536 ≤ n) (c1 : n < 1114112) :
    Calls Tryz.prog 69 #[.int .i64 n] w fun e w' => e = .returned (.string (strOfNums [240 + n / 262144, 128 + n / 4096 % 64, 128 + n / 64 % 64, 128 + n % 64])) ∧ Below w.heap.size w w' := by
  have e1 := str_new w [240 + n / 262144, 128 + n / 4096 % 64, 128 + n / 64 % 64, 128 + n % 64] #[.int .u8 (240 + n / 262144), .int .u8 (128 + n / 4096 % 64), .int .u8 (128 + n / 64 % 64), .int .u8 (128 + n % 64)] rfl 4 rfl
  go_enter Tryz.func69, Tryz.ntmps69
  go_wp2
  go_ret
  exact ⟨rfl, (Below.refl _ _).alloc (Nat.le_refl _) _⟩
theorem rune_any (n : Int) (w : World) (h0 : 0 ≤ n) (h1 : n < 1114112) :
    Calls Tryz.prog 69 #[.int .i64 n] w fun e w' => e = .returned (.string (strOfNums (utf8 n))) ∧ Below w.heap.size w w' := by
  unfold utf8
  by_cases c1 : n < 128
  · rw [if_pos c1]; exact rune_1 n w h0 c1
  · rw [if_neg c1]
    by_cases c2 : n < 2048
    · rw [if_pos c2]; exact rune_2 n w (by omega) c2
    · rw [if_neg c2]
      by_cases c3 : n < 65536
      · rw [if_pos c3]; exact rune_3 n w (by omega) c3
      · rw [if_neg c3]; exact rune_4 n w (by omega) h1
end Go.Proofs.YtcnkbdbkglggcaaGreatDoor
