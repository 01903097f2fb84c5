/-
  The library's 'Len64' on numbers of 53 to 60 digits. No condition but the range.
-/
import Derived.Test.YtcnkbdbkglggcaaGreatDoorGtD
namespace Go.Proofs.YtcnkbdbkglggcaaGreatDoor
open Go.RowKit

theorem tab_at {S : ByteArray} {n lo hi : Nat} {v : UInt8} (hall : (List.range (hi - lo)).all (fun k => S.data[lo + k]? == some v) = true) (h0 : lo ≤ n) (h1 : n < hi) (h : n < S.size) : S[n]'h = v := by
  have h2 := List.all_eq_true.1 hall (n - lo) (List.mem_range.2 (by omega))
  rw [show lo + (n - lo) = n by omega] at h2
  have h3 : S.data[n]? = some v := by simpa using h2
  have h4 := (Array.getElem?_eq_some_iff.1 h3).2
  exact h4
set_option maxRecDepth 100000 in
theorem len64_53 (w : World) (d : Int) (h0 : 4503599627370496 ≤ d) (h1 : d < 9007199254740992) : Calls Tryz.prog 102 #[.int .u64 d] w fun e w' => e = .returned (.int .i64 53) ∧ w' = w := by
  have d1 : decide (4294967296 ≤ d) = true := decide_eq_true (by omega)
  have d2 : decide (65536 ≤ d / 4294967296) = true := decide_eq_true (by omega)
  have d3 : decide (256 ≤ d / 4294967296 / 65536) = false := decide_eq_false (by omega)
  have w1 : IntKind.u8.wrap (d / 4294967296 / 65536) = d / 4294967296 / 65536 := by rw [IntKind.wrap_u8']; omega
  have r0 : 16 ≤ d / 4294967296 / 65536 := by omega
  have r1 : d / 4294967296 / 65536 < 32 := by omega
  clear h0 h1
  go_enter Tryz.func102, Tryz.ntmps102
  go_wp2_with fail
  refine bodyPost_ret (v := .int .i64 53) ?_ rfl ⟨rfl, rfl⟩
  simp [results, Tryz.results102, go_sem]
  rw [tab_at (lo := 16) (hi := 32) (v := 5) ?_ (by omega) (by omega)]
  · kernel_rfl
  · decide
set_option maxRecDepth 100000 in
theorem len64_54 (w : World) (d : Int) (h0 : 9007199254740992 ≤ d) (h1 : d < 18014398509481984) : Calls Tryz.prog 102 #[.int .u64 d] w fun e w' => e = .returned (.int .i64 54) ∧ w' = w := by
  have d1 : decide (4294967296 ≤ d) = true := decide_eq_true (by omega)
  have d2 : decide (65536 ≤ d / 4294967296) = true := decide_eq_true (by omega)
  have d3 : decide (256 ≤ d / 4294967296 / 65536) = false := decide_eq_false (by omega)
  have w1 : IntKind.u8.wrap (d / 4294967296 / 65536) = d / 4294967296 / 65536 := by rw [IntKind.wrap_u8']; omega
  have r0 : 32 ≤ d / 4294967296 / 65536 := by omega
  have r1 : d / 4294967296 / 65536 < 64 := by omega
  clear h0 h1
  go_enter Tryz.func102, Tryz.ntmps102
  go_wp2_with fail
  refine bodyPost_ret (v := .int .i64 54) ?_ rfl ⟨rfl, rfl⟩
  simp [results, Tryz.results102, go_sem]
  rw [tab_at (lo := 32) (hi := 64) (v := 6) ?_ (by omega) (by omega)]
  · kernel_rfl
  · decide
set_option maxRecDepth 100000 in
theorem len64_55 (w : World) (d : Int) (h0 : 18014398509481984 ≤ d) (h1 : d < 36028797018963968) : Calls Tryz.prog 102 #[.int .u64 d] w fun e w' => e = .returned (.int .i64 55) ∧ w' = w := by
  have d1 : decide (4294967296 ≤ d) = true := decide_eq_true (by omega)
  have d2 : decide (65536 ≤ d / 4294967296) = true := decide_eq_true (by omega)
  have d3 : decide (256 ≤ d / 4294967296 / 65536) = false := decide_eq_false (by omega)
  have w1 : IntKind.u8.wrap (d / 4294967296 / 65536) = d / 4294967296 / 65536 := by rw [IntKind.wrap_u8']; omega
  have r0 : 64 ≤ d / 4294967296 / 65536 := by omega
  have r1 : d / 4294967296 / 65536 < 128 := by omega
  clear h0 h1
  go_enter Tryz.func102, Tryz.ntmps102
  go_wp2_with fail
  refine bodyPost_ret (v := .int .i64 55) ?_ rfl ⟨rfl, rfl⟩
  simp [results, Tryz.results102, go_sem]
  rw [tab_at (lo := 64) (hi := 128) (v := 7) ?_ (by omega) (by omega)]
  · kernel_rfl
  · decide
set_option maxRecDepth 100000 in
theorem len64_56 (w : World) (d : Int) (h0 : 36028797018963968 ≤ d) (h1 : d < 72057594037927936) : Calls Tryz.prog 102 #[.int .u64 d] w fun e w' => e = .returned (.int .i64 56) ∧ w' = w := by
  have d1 : decide (4294967296 ≤ d) = true := decide_eq_true (by omega)
  have d2 : decide (65536 ≤ d / 4294967296) = true := decide_eq_true (by omega)
  have d3 : decide (256 ≤ d / 4294967296 / 65536) = false := decide_eq_false (by omega)
  have w1 : IntKind.u8.wrap (d / 4294967296 / 65536) = d / 4294967296 / 65536 := by rw [IntKind.wrap_u8']; omega
  have r0 : 128 ≤ d / 4294967296 / 65536 := by omega
  have r1 : d / 4294967296 / 65536 < 256 := by omega
  clear h0 h1
  go_enter Tryz.func102, Tryz.ntmps102
  go_wp2_with fail
  refine bodyPost_ret (v := .int .i64 56) ?_ rfl ⟨rfl, rfl⟩
  simp [results, Tryz.results102, go_sem]
  rw [tab_at (lo := 128) (hi := 256) (v := 8) ?_ (by omega) (by omega)]
  · kernel_rfl
  · decide
set_option maxRecDepth 100000 in
theorem len64_57 (w : World) (d : Int) (h0 : 72057594037927936 ≤ d) (h1 : d < 144115188075855872) : Calls Tryz.prog 102 #[.int .u64 d] w fun e w' => e = .returned (.int .i64 57) ∧ w' = w := by
  have d1 : decide (4294967296 ≤ d) = true := decide_eq_true (by omega)
  have d2 : decide (65536 ≤ d / 4294967296) = true := decide_eq_true (by omega)
  have d3 : decide (256 ≤ d / 4294967296 / 65536) = true := decide_eq_true (by omega)
  have w1 : IntKind.u8.wrap (d / 4294967296 / 65536 / 256) = d / 4294967296 / 65536 / 256 := by rw [IntKind.wrap_u8']; omega
  have r0 : 1 ≤ d / 4294967296 / 65536 / 256 := by omega
  have r1 : d / 4294967296 / 65536 / 256 < 2 := by omega
  clear h0 h1
  go_enter Tryz.func102, Tryz.ntmps102
  go_wp2_with fail
  refine bodyPost_ret (v := .int .i64 57) ?_ rfl ⟨rfl, rfl⟩
  simp [results, Tryz.results102, go_sem]
  rw [tab_at (lo := 1) (hi := 2) (v := 1) ?_ (by omega) (by omega)]
  · kernel_rfl
  · decide
set_option maxRecDepth 100000 in
theorem len64_58 (w : World) (d : Int) (h0 : 144115188075855872 ≤ d) (h1 : d < 288230376151711744) : Calls Tryz.prog 102 #[.int .u64 d] w fun e w' => e = .returned (.int .i64 58) ∧ w' = w := by
  have d1 : decide (4294967296 ≤ d) = true := decide_eq_true (by omega)
  have d2 : decide (65536 ≤ d / 4294967296) = true := decide_eq_true (by omega)
  have d3 : decide (256 ≤ d / 4294967296 / 65536) = true := decide_eq_true (by omega)
  have w1 : IntKind.u8.wrap (d / 4294967296 / 65536 / 256) = d / 4294967296 / 65536 / 256 := by rw [IntKind.wrap_u8']; omega
  have r0 : 2 ≤ d / 4294967296 / 65536 / 256 := by omega
  have r1 : d / 4294967296 / 65536 / 256 < 4 := by omega
  clear h0 h1
  go_enter Tryz.func102, Tryz.ntmps102
  go_wp2_with fail
  refine bodyPost_ret (v := .int .i64 58) ?_ rfl ⟨rfl, rfl⟩
  simp [results, Tryz.results102, go_sem]
  rw [tab_at (lo := 2) (hi := 4) (v := 2) ?_ (by omega) (by omega)]
  · kernel_rfl
  · decide
set_option maxRecDepth 100000 in
theorem len64_59 (w : World) (d : Int) (h0 : 288230376151711744 ≤ d) (h1 : d < 576460752303423488) : Calls Tryz.prog 102 #[.int .u64 d] w fun e w' => e = .returned (.int .i64 59) ∧ w' = w := by
  have d1 : decide (4294967296 ≤ d) = true := decide_eq_true (by omega)
  have d2 : decide (65536 ≤ d / 4294967296) = true := decide_eq_true (by omega)
  have d3 : decide (256 ≤ d / 4294967296 / 65536) = true := decide_eq_true (by omega)
  have w1 : IntKind.u8.wrap (d / 4294967296 / 65536 / 256) = d / 4294967296 / 65536 / 256 := by rw [IntKind.wrap_u8']; omega
  have r0 : 4 ≤ d / 4294967296 / 65536 / 256 := by omega
  have r1 : d / 4294967296 / 65536 / 256 < 8 := by omega
  clear h0 h1
  go_enter Tryz.func102, Tryz.ntmps102
  go_wp2_with fail
  refine bodyPost_ret (v := .int .i64 59) ?_ rfl ⟨rfl, rfl⟩
  simp [results, Tryz.results102, go_sem]
  rw [tab_at (lo := 4) (hi := 8) (v := 3) ?_ (by omega) (by omega)]
  · kernel_rfl
  · decide
set_option maxRecDepth 100000 in
theorem len64_60 (w : World) (d : Int) (h0 : 576460752303423488 ≤ d) (h1 : d < 1152921504606846976) : Calls Tryz.prog 102 #[.int .u64 d] w fun e w' => e = .returned (.int .i64 60) ∧ w' = w := by
  have d1 : decide (4294967296 ≤ d) = true := decide_eq_true (by omega)
  have d2 : decide (65536 ≤ d / 4294967296) = true := decide_eq_true (by omega)
  have d3 : decide (256 ≤ d / 4294967296 / 65536) = true := decide_eq_true (by omega)
  have w1 : IntKind.u8.wrap (d / 4294967296 / 65536 / 256) = d / 4294967296 / 65536 / 256 := by rw [IntKind.wrap_u8']; omega
  have r0 : 8 ≤ d / 4294967296 / 65536 / 256 := by omega
  have r1 : d / 4294967296 / 65536 / 256 < 16 := by omega
  clear h0 h1
  go_enter Tryz.func102, Tryz.ntmps102
  go_wp2_with fail
  refine bodyPost_ret (v := .int .i64 60) ?_ rfl ⟨rfl, rfl⟩
  simp [results, Tryz.results102, go_sem]
  rw [tab_at (lo := 8) (hi := 16) (v := 4) ?_ (by omega) (by omega)]
  · kernel_rfl
  · decide
end Go.Proofs.YtcnkbdbkglggcaaGreatDoor
