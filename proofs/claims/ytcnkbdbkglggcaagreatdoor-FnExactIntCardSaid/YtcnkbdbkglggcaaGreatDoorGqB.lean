/-
  The specification's 'Dec' and 'Whole': a number's decimal digits. Condition: below 10^18.
-/
import Derived.Test.YtcnkbdbkglggcaaGreatDoorSpF
import Derived.Test.YtcnkbdbkglggcaaGreatDoorGpD
import Derived.Deep.RegionWith
import Derived.IntWalk
import Derived.RegionTactic
import Derived.ChangeAlike
namespace Go.Proofs.YtcnkbdbkglggcaaGreatDoor
open Go.RowKit

/-- A number's decimal digits. -/
def decB (m : Nat) : ByteArray := if h : m < 10 then strOfNums [48 + (m : Int)] else decB (m / 10) ++ strOfNums [48 + ((m % 10 : Nat) : Int)]
termination_by m
decreasing_by omega

theorem decB_size (n : Nat) : ∀ m, m < 10 ^ (n + 1) → (decB m).size ≤ n + 1 := by
  induction n with
  | zero =>
    intro m hm
    rw [decB, dif_pos (by omega), strOfNums_size]
    simp
  | succ n ih =>
    intro m hm
    rw [decB]
    split
    · rw [strOfNums_size]
      simp
    · rw [ByteArray.size_append, strOfNums_size]
      have := ih (m / 10) (by rw [Nat.pow_succ] at hm; omega)
      simp
      omega
theorem str_blk {w : World} {g : Nat} {c : Int} (h : Blk w g 5 #[.int .u8 c]) : (convert 72 9 (.slice (some ⟨g, 0, none⟩) 1 1)).run Tryz.prog w = .ok (.string (strOfNums [c])) w := by
  refine run_convert_bytes_arg _ 72 5 Tryz.underlying72 Tryz.underlying5 _ 0 _ _ [c] rfl (fun i hi => ?_) 9 Tryz.underlying9
  have := h.cell i
  rw [Nat.zero_add, this]
  simp at hi
  subst hi
  rfl
set_option maxRecDepth 100000 in
set_option maxHeartbeats 2000000 in
theorem dec_any (m : Nat) : m < 1000000000000000000 → ∀ w : World, Calls Tryz.prog 22 #[.int .i64 m] w fun e w' => e = .returned (.string (decB m)) ∧ Upd [] w w' := by
  induction m using Nat.strongRecOn with
  | ind m ih =>
    intro hm w
    by_cases h : m < 10
    · have e0 : decide ((m : Int) < 10) = true := decide_eq_true (by omega)
      have e1 := str_blk (Blk.new w 5 #[.int .u8 (48 + (m : Int))])
      have hd : decB m = strOfNums [48 + (m : Int)] := by rw [decB, dif_pos h]
      have HD := Lib.hid hd
      clear hd
      go_enter Tryz.func22, Tryz.ntmps22
      go_wp2_with fail
      go_ret
      exact ⟨by rw [HD.out]; rfl, (Upd.refl [] w).alloc _⟩
    · have e0 : decide ((m : Int) < 10) = false := decide_eq_false (by omega)
      have e1 : ∀ w : World, (convert 72 9 (.slice (some ⟨w.heap.size, 0, none⟩) 1 1)).run Tryz.prog (w.alloc (.cells #[.int .u8 (48 + (m : Int) % 10)] 5)) = .ok (.string (strOfNums [48 + (m : Int) % 10])) (w.alloc (.cells #[.int .u8 (48 + (m : Int) % 10)] 5)) := fun w => str_blk (Blk.new w 5 #[.int .u8 (48 + (m : Int) % 10)])
      have hd : decB m = decB (m / 10) ++ strOfNums [48 + (m : Int) % 10] := by rw [decB, dif_neg h]; rfl
      have HD := Lib.hid hd
      clear hd
      have IH : ∀ w, Calls Tryz.prog 22 #[.int .i64 ((m : Int) / 10)] w fun e w' => e = .returned (.string (decB (m / 10))) ∧ Upd [] w w' := ih (m / 10) (by omega) (by omega)
      clear ih
      go_enter Tryz.func22, Tryz.ntmps22
      go_wp2_with fail
      have r1 : IntKind.i64.wrap ((m : Int) / 10) = (m : Int) / 10 := IntWalk.i64_in _ (by omega)
      have r2 : IntKind.i64.wrap (48 + (m : Int) % 10) = 48 + (m : Int) % 10 := IntWalk.i64_in _ (by omega)
      have r3 : IntKind.u8.wrap (48 + (m : Int) % 10) = 48 + (m : Int) % 10 := IntWalk.u8_in _ (by omega)
      have q2 : (m : Int).tmod 10 = (m : Int) % 10 := Int.tmod_eq_emod_of_nonneg (by omega)
      have hz : (decB (m / 10)).size ≤ 18 := decB_size 17 _ (by omega)
      have hz1 : (strOfNums [48 + (m : Int) % 10]).size = 1 := by rw [strOfNums_size]; rfl
      have e5 : (convert 72 9 (.slice (some ⟨w.heap.size, 0, none⟩) 1 1)).run Tryz.prog (w.alloc (.cells #[.int .u8 (48 + (m : Int) % 10)] 5)).drew = .ok (.string (strOfNums [48 + (m : Int) % 10])) (w.alloc (.cells #[.int .u8 (48 + (m : Int) % 10)] 5)).drew := str_blk (Blk.drew (Blk.new w 5 _))
      clear hm h
      go_region_with (first | (go_at_call 22; refine (IH _).mono ?_; rintro e w1 ⟨rfl, hu⟩; (try simp only [q2, r2, r3] at hu); (try (have e4 := str_blk (g := w.heap.size) (Blk.upd (Blk.drew (Blk.new w 5 #[.int .u8 (48 + (m : Int) % 10)])) hu (by simp))))))
      all_goals go_wp2_with fail
      all_goals go_ret
      all_goals refine ⟨by rw [HD.out]; rfl, ?_⟩
      all_goals first | exact ((Upd.refl [] w).drew.trans (by assumption)).alloc _ | exact ((((Upd.refl [] w).alloc (.cells #[.int .u8 (48 + (m : Int) % 10)] 5)).drew).trans (by assumption))
end Go.Proofs.YtcnkbdbkglggcaaGreatDoor
