/-
  The law FnExactBool. Condition: what the library's variables hold that the road reads.
-/
import Derived.Test.YtcnkbdbkglggcaaGreatDoorGqI
import Derived.Test.YtcnkbdbkglggcaaGreatDoorGpI
namespace Go.Proofs.YtcnkbdbkglggcaaGreatDoor
open Go.RowKit

theorem bool_one (w : World) (hg : Gl w) : Calls Tryz.prog 9 #[.string ⟨#[49]⟩] w fun e w' => e = .returned (.bool true) ∧ Upd [] w w' :=
  impl_bool w _ _ (fun v => v = .agg (resCells 2 ⟨#[49]⟩ ⟨#[]⟩ (floatOfInt .f64 (dv ⟨#[49]⟩ 0 (ByteArray.mk #[49]).size : Int)) 0)) ((parse_one w hg ⟨#[49]⟩ one_digs (by decide) (by decide)).mono fun e w' h => ⟨_, h.1, rfl, h.2⟩)
    (fun v w1 hv => by
      subst hv
      have h := rbool_num w1 ⟨#[49]⟩ ⟨#[]⟩ (floatOfInt .f64 (dv ⟨#[49]⟩ 0 (ByteArray.mk #[49]).size : Int)) 0
      rw [float_ne _ (by decide) (by decide)] at h
      exact h)
set_option maxRecDepth 100000 in
set_option maxHeartbeats 4000000 in
theorem law_bool (w : World) (s : ByteArray) (n : Int) (hg : Gl w) (hs47 : s.size ≤ 2147483647) : Calls Tryz.prog 3 #[.string s, .int .i64 n] w fun e w' => e = .returned (.bool true) ∧ Upd [] w w' := by
  have d0 : decide ((2147483647 : Int) < (s.size : Int)) = false := decide_eq_false (by omega)
  have hs31 : s.size ≤ 2 ^ 31 := by omega
  go_enter Tryz.func3, Tryz.ntmps3
  go_wp2_with fail
  refine (read_any w s (by omega)).mono ?_
  rintro e w1 ⟨t, raw, i, ok, rfl, hu1, hown, hq⟩
  have hg1 := hg.upd hu1
  obtain ⟨A1, n1, hkv⟩ := own_slice hown.1
  obtain ⟨A2, n2, hiv⟩ := own_slice hown.2.1
  clear hown
  obtain ⟨kind, o, pairs, kv, iv, ks, its⟩ := t
  dsimp only at hkv hiv
  subst hkv hiv
  dsimp only [TreeV.cells]
  have hu2 := hu1.alloc (.cells #[.int .i64 kind, .string raw, .int .i64 i, .string (strOfNums o), .bool pairs, .slice A1 ks.length n1, .slice A2 its.length n2] 25)
  have hg2 := hg.upd hu2
  cases ok with
  | false =>
    clear hq d0
    have hab : (n.tmod 1000000000000000).natAbs < 1000000000000000 := by
      rw [Int.natAbs_tmod]
      exact Nat.mod_lt _ (by decide)
    have hm1 : -1000000000000000 < n.tmod 1000000000000000 := by omega
    have hm2 : n.tmod 1000000000000000 < 1000000000000000 := by omega
    have hwh := whole_any (n.tmod 1000000000000000) (by omega) (by omega)
    have hbw := fun w hg => bool_whole w hg (n.tmod 1000000000000000) hm1 hm2
    clear hab hm1 hm2
    go_wp2_with fail
    refine (hwh _).mono ?_
    rintro e w3 ⟨rfl, hu3⟩
    have hu4 := hu2.trans hu3
    have hg4 := hg.upd hu4
    go_wp2_with fail
    refine (hbw _ hg4).mono ?_
    rintro e w4 ⟨rfl, hu5⟩
    go_wp2_with fail
    go_ret
    exact ⟨rfl, hu4.trans hu5⟩
  | true =>
    obtain ⟨_, hk, j, d, hws0, hraw, hij, hj, hsh, hwsj, _⟩ := hq rfl
    dsimp only at hk
    clear hq
    rcases kind_cases (bt s i) with hc | hc | hc | hc | hc | hc
    · have hk3 : kind = 3 := by rw [hk, hc]; decide
      subst hk3 hraw
      clear hk hc hsh
      go_wp2_with fail
      go_ret
      exact ⟨rfl, hu2⟩
    · have hk4 : kind = 4 := by rw [hk, hc]; decide
      subst hk4 hraw
      clear hk hsh
      have HC := Lib.hid hc; clear hc
      have hcell := (Blk.new w1 25 #[.int .i64 4, .string (s.extract i j), .int .i64 i, .string (strOfNums o), .bool pairs, .slice A1 ks.length n1, .slice A2 its.length n2])
      go_wp2_with fail
      go_region_with (first | (go_at_call 9; refine (bool_word_true _ s i hs31 hws0 HC.out).mono ?_; rintro e w3 ⟨rfl, hu3⟩; have hk3 := (hcell.drew.upd hu3 (by simp)).cell 0; have hf3 := (hcell.drew.upd hu3 (by simp)).frozen; have hu4 := hu2.drew.trans hu3; have hg4 := hg.upd hu4; simp only [List.getElem?_toArray, List.getElem?_cons_zero] at hk3) | (go_at_call 9; refine (bool_one _ (by assumption)).mono ?_; rintro e w5 ⟨rfl, hu5⟩))
      all_goals go_wp2_with fail
      all_goals go_ret
      all_goals exact ⟨rfl, (by assumption : Upd [] w w3).trans (by assumption)⟩
    · have hk4 : kind = 1 := by rw [hk, hc]; decide
      subst hk4 hraw
      clear hk hsh
      have HC := Lib.hid hc; clear hc
      have hcell := (Blk.new w1 25 #[.int .i64 1, .string (s.extract i j), .int .i64 i, .string (strOfNums o), .bool pairs, .slice A1 ks.length n1, .slice A2 its.length n2])
      go_wp2_with fail
      go_region_with (first | (go_at_call 9; refine (bool_word_false _ s i hs31 hws0 HC.out).mono ?_; rintro e w3 ⟨rfl, hu3⟩; have hk3 := (hcell.drew.upd hu3 (by simp)).cell 0; have hf3 := (hcell.drew.upd hu3 (by simp)).frozen; have hu4 := hu2.drew.trans hu3; have hg4 := hg.upd hu4; simp only [List.getElem?_toArray, List.getElem?_cons_zero] at hk3) | (go_at_call 9; refine (bool_one _ (by assumption)).mono ?_; rintro e w5 ⟨rfl, hu5⟩))
      all_goals go_wp2_with fail
      all_goals go_ret
      all_goals exact ⟨rfl, (by assumption : Upd [] w w3).trans (by assumption)⟩
    · have hk4 : kind = 0 := by rw [hk, hc]; decide
      have hwq := hsh.2.2.2.1 hc
      have hc2 : bt s (i + 1) = 117 := (hwq.2 1 (by decide)).trans (by decide)
      have HC2 := Lib.hid hc2; clear hc2 hwq
      subst hk4 hraw
      clear hk hsh
      have HC := Lib.hid hc; clear hc
      have hcell := (Blk.new w1 25 #[.int .i64 0, .string (s.extract i j), .int .i64 i, .string (strOfNums o), .bool pairs, .slice A1 ks.length n1, .slice A2 its.length n2])
      go_wp2_with fail
      go_region_with (first | (go_at_call 9; refine (bool_word_null _ s i hs31 hws0 HC.out HC2.out).mono ?_; rintro e w3 ⟨rfl, hu3⟩; have hk3 := (hcell.drew.upd hu3 (by simp)).cell 0; have hf3 := (hcell.drew.upd hu3 (by simp)).frozen; have hu4 := hu2.drew.trans hu3; have hg4 := hg.upd hu4; simp only [List.getElem?_toArray, List.getElem?_cons_zero] at hk3) | (go_at_call 9; refine (bool_one _ (by assumption)).mono ?_; rintro e w5 ⟨rfl, hu5⟩))
      all_goals go_wp2_with fail
      all_goals go_ret
      all_goals exact ⟨rfl, (by assumption : Upd [] w w3).trans (by assumption)⟩
    · have hk4 : kind = 5 := by rcases hc with hc | hc <;> rw [hk, hc] <;> decide
      subst hk4 hraw
      clear hk hsh
      have HC := Lib.hid hc; clear hc
      have hcell := (Blk.new w1 25 #[.int .i64 5, .string (s.extract i j), .int .i64 i, .string (strOfNums o), .bool pairs, .slice A1 ks.length n1, .slice A2 its.length n2])
      go_wp2_with fail
      go_region_with (first | (go_at_call 9; refine (bool_list _ s i hs31 hws0 HC.out).mono ?_; rintro e w3 ⟨rfl, hu3⟩; have hk3 := (hcell.drew.upd hu3 (by simp)).cell 0; have hf3 := (hcell.drew.upd hu3 (by simp)).frozen; have hu4 := hu2.drew.trans hu3; have hg4 := hg.upd hu4; simp only [List.getElem?_toArray, List.getElem?_cons_zero] at hk3) | (go_at_call 9; refine (bool_one _ (by assumption)).mono ?_; rintro e w5 ⟨rfl, hu5⟩))
      all_goals go_wp2_with fail
      all_goals go_ret
      all_goals exact ⟨rfl, (by assumption : Upd [] w w3).trans (by assumption)⟩
    · rw [hc] at hk
      subst hk hraw
      clear hc hsh
      go_wp2_with fail
      go_ret
      exact ⟨rfl, hu2⟩
end Go.Proofs.YtcnkbdbkglggcaaGreatDoor
