/-
  The specification's 'Whole': a number's decimal digits behind its sign. Condition: its magnitude is below 10^18.
-/
import Derived.Test.YtcnkbdbkglggcaaGreatDoorGqB
namespace Go.Proofs.YtcnkbdbkglggcaaGreatDoor
open Go.RowKit

set_option maxRecDepth 100000 in
theorem whole_nat (m : Nat) (hm : m < 1000000000000000000) (w : World) : Calls Tryz.prog 10 #[.int .i64 m] w fun e w' => e = .returned (.string (decB m)) ∧ Upd [] w w' := by
  have e0 : decide ((m : Int) < 0) = false := decide_eq_false (by omega)
  have IH := dec_any m hm
  clear hm
  go_enter Tryz.func10, Tryz.ntmps10
  go_wp2_with fail
  refine (IH _).mono ?_
  rintro e w1 ⟨rfl, hu⟩
  go_wp2_with fail
  go_ret
  exact ⟨rfl, hu⟩
set_option maxRecDepth 100000 in
theorem whole_neg (m : Nat) (hm : m < 1000000000000000000) (h0 : 0 < m) (w : World) : Calls Tryz.prog 10 #[.int .i64 (-(m : Int))] w fun e w' => e = .returned (.string (⟨#[45]⟩ ++ decB m)) ∧ Upd [] w w' := by
  have e0 : decide ((-(m : Int)) < 0) = true := decide_eq_true (by omega)
  have r1 : IntKind.i64.wrap (m : Int) = (m : Int) := IntWalk.i64_in _ (by omega)
  have r2 : - -(m : Int) = (m : Int) := by omega
  have hz : (decB m).size ≤ 18 := decB_size 17 _ (by omega)
  have IH := dec_any m hm
  have e1 : decide (0 < m) = true := decide_eq_true h0
  clear hm
  go_enter Tryz.func10, Tryz.ntmps10
  go_wp2_with fail
  refine (IH _).mono ?_
  rintro e w1 ⟨rfl, hu⟩
  go_wp2_with fail
  go_ret
  exact ⟨rfl, hu⟩
end Go.Proofs.YtcnkbdbkglggcaaGreatDoor
