/-
  The law FnExactInt. Condition: what the library's variables hold that the road reads.
-/
import Derived.Test.YtcnkbdbkglggcaaGreatDoorGtK
import Derived.Test.YtcnkbdbkglggcaaGreatDoorGsG
namespace Go.Proofs.YtcnkbdbkglggcaaGreatDoor
open Go.RowKit

set_option maxHeartbeats 2000000 in
theorem rstr_pos (w : World) (s str : ByteArray) (x : Nat) (i : Int) (hl : 0 < s.size) (hd : ∀ k, k < s.size → isDig (bt s k)) (hle : s.size ≤ 100) : Calls Tryz.prog 23 #[.agg (resCells 2 s str x i)] w fun e w' => e = .returned (.string s) ∧ Upd [] w w' := by
  have hl0 : 0 < s.size := by omega
  have hf : (s[0].toNat : Int) = bt s 0 := bt_lt hl0
  have d45 : ((s[0].toNat : Int) == 45) = false := beq_eq_false_iff_ne.2 (by
    have h1 := hd 0 hl0
    unfold isDig at h1
    omega)
  have e1 : decide (s = ByteArray.empty) = false := decide_eq_false (by rintro rfl; exact absurd hl0 (by decide))
  have e2 : ((s.size : Int) == 0) = false := beq_eq_false_iff_ne.2 (by omega)
  have D := Lib.hid hd
  clear hf hd
  unfold resCells
  go_enter Tryz.func23, Tryz.ntmps23
  go_wp2_with fail
  have hW := Blk.new w 49 #[.int .i64 2, .string s, .string str, .float .f64 x, .int .i64 i, .slice none 0 0]
  have hu := (Upd.refl [] w).alloc (.cells #[.int .i64 2, .string s, .string str, .float .f64 x, .int .i64 i, .slice none 0 0] 49)
  have t1 := hW.cell 1
  simp only [List.getElem?_toArray, List.getElem?_cons_zero, List.getElem?_cons_succ] at t1
  generalize w.alloc (.cells #[.int .i64 2, .string s, .string str, .float .f64 x, .int .i64 i, .slice none 0 0] 49) = W at *
  go_loopg [3] (s.size - 0) (fun g v wr => ∃ k : Nat, 0 ≤ k ∧ k ≤ s.size ∧ v = .int .i64 k ∧ wr = W ∧ Hid (g = s.size - k))
  case atStart => exact ⟨0, by omega, by omega, rfl, rfl, rfl⟩
  case round =>
    obtain ⟨k, hk0, hk, rfl, rfl, hh⟩ := hrel
    by_cases hlt : k < s.size
    · have hk1 : 48 ≤ (s[k].toNat : Int) ∧ (s[k].toNat : Int) ≤ 57 := by
        have h1 := D.out k hlt
        have h3 := bt_lt hlt
        unfold isDig at h1
        omega
      have g48 : decide ((s[k].toNat : Int) < 48) = false := decide_eq_false (by omega)
      have g57 : decide (57 < (s[k].toNat : Int)) = false := decide_eq_false (by omega)
      go_wp2_with fail
      go_roundg (s.size - (k + 1))
      case measure => have := hh.out; omega
      case rel => exact ⟨k + 1, by omega, by omega, by go_num, rfl, rfl⟩
    · go_wp2_with fail
      go_ret
      exact ⟨rfl, hu⟩
set_option maxHeartbeats 2000000 in
theorem rstr_neg (w : World) (s str : ByteArray) (x : Nat) (i : Int) (hl : 1 < s.size) (h45 : bt s 0 = 45) (hd : ∀ k, 1 ≤ k → k < s.size → isDig (bt s k)) (hle : s.size ≤ 100) : Calls Tryz.prog 23 #[.agg (resCells 2 s str x i)] w fun e w' => e = .returned (.string s) ∧ Upd [] w w' := by
  have hl0 : 0 < s.size := by omega
  have hf : (s[0].toNat : Int) = bt s 0 := bt_lt hl0
  have d45 : ((s[0].toNat : Int) == 45) = true := beq_iff_eq.2 (by omega)
  have e1 : decide (s = ByteArray.empty) = false := decide_eq_false (by rintro rfl; exact absurd hl0 (by decide))
  have e2 : ((s.size : Int) == 0) = false := beq_eq_false_iff_ne.2 (by omega)
  have D := Lib.hid hd
  clear hf hd h45
  unfold resCells
  go_enter Tryz.func23, Tryz.ntmps23
  go_wp2_with fail
  have hW := Blk.new w 49 #[.int .i64 2, .string s, .string str, .float .f64 x, .int .i64 i, .slice none 0 0]
  have hu := (Upd.refl [] w).alloc (.cells #[.int .i64 2, .string s, .string str, .float .f64 x, .int .i64 i, .slice none 0 0] 49)
  have t1 := hW.cell 1
  simp only [List.getElem?_toArray, List.getElem?_cons_zero, List.getElem?_cons_succ] at t1
  generalize w.alloc (.cells #[.int .i64 2, .string s, .string str, .float .f64 x, .int .i64 i, .slice none 0 0] 49) = W at *
  go_loopg [3] (s.size - 1) (fun g v wr => ∃ k : Nat, 1 ≤ k ∧ k ≤ s.size ∧ v = .int .i64 k ∧ wr = W ∧ Hid (g = s.size - k))
  case atStart => exact ⟨1, by omega, by omega, rfl, rfl, rfl⟩
  case round =>
    obtain ⟨k, hk0, hk, rfl, rfl, hh⟩ := hrel
    by_cases hlt : k < s.size
    · have hk1 : 48 ≤ (s[k].toNat : Int) ∧ (s[k].toNat : Int) ≤ 57 := by
        have h1 := D.out k hk0 hlt
        have h3 := bt_lt hlt
        unfold isDig at h1
        omega
      have g48 : decide ((s[k].toNat : Int) < 48) = false := decide_eq_false (by omega)
      have g57 : decide (57 < (s[k].toNat : Int)) = false := decide_eq_false (by omega)
      go_wp2_with fail
      go_roundg (s.size - (k + 1))
      case measure => have := hh.out; omega
      case rel => exact ⟨k + 1, by omega, by omega, by go_num, rfl, rfl⟩
    · go_wp2_with fail
      go_ret
      exact ⟨rfl, hu⟩
theorem run_field0 (k : Int) (c1 c2 c3 c4 c5 : Value) (w : World) : (Instr.field 34 (.agg #[.int .i64 k, c1, c2, c3, c4, c5]) 0).run Tryz.prog w = .ok (.int .i64 k) w := by
  kernel_rfl
/-- What the thin package makes of a whole number's text. -/
structure IntQ (n : Int) (u : ByteArray) : Prop where
  int : ∀ w, Glp w → Calls Tryz.prog 15 #[.string u] w fun e w' => e = .returned (.int .i64 n) ∧ Upd [] w w'
  str : ∀ w, Glp w → Calls Tryz.prog 12 #[.string u] w fun e w' => e = .returned (.string u) ∧ Upd [] w w'
  parse : ∃ x, ∀ w, Glp w → Calls Tryz.prog 13 #[.string u] w fun e w' => e = .returned (.agg (valCells 2 u ⟨#[]⟩ x 0)) ∧ Upd [] w w'
theorem intq_pos (m : Nat) (h0 : 0 < m) (h1 : m < 1000000000000000000) : IntQ m (decB m) := by
  obtain ⟨x, hf, ht⟩ := tonum_pos m h0 h1
  have D := decB_digs m h0 h1
  have hl := D.lt
  have hle := D.le
  have hv := (dec_ok m).val
  have PQ := fun w hg => parse_numU w hg (decB m) hl x ht (.inr (D.dig 0 (by omega) hl))
  refine ⟨fun w hg => impl_int w _ _ _ (PQ w hg) fun w1 => ?_, fun w hg => impl_strn w _ _ _ (PQ w hg) fun w1 => rstr_pos w1 _ _ _ _ hl (fun k hk => D.dig k (by omega) hk) (by omega), x, fun w hg => implParse_any w _ 2 _ _ x 0 (by decide) fun w0 hu => PQ w0 (hg.upd hu)⟩
  rcases hf with ⟨hs, rfl⟩ | ⟨hs, k, q, a, b, c, d, rfl⟩
  · exact rint_safe w1 _ _ _ _ _ fun w => safe_flt w false m h0 hs
  · refine rint_raw w1 _ _ _ _ _ (fun w => safe_big w false k q a b c d) fun w => ?_
    have := pint_pos w (decB m) D
    rw [hv] at this
    exact this
theorem intq_neg (m : Nat) (h0 : 0 < m) (h1 : m < 1000000000000000000) : IntQ (-(m : Int)) (⟨#[45]⟩ ++ decB m) := by
  obtain ⟨x, hf, ht⟩ := tonum_neg m h0 h1
  obtain ⟨D, h45, hv⟩ := neg_digs m h0 h1
  have hl := D.lt
  have hle := D.le
  have PQ := fun w hg => parse_numU w hg (⟨#[45]⟩ ++ decB m) (by omega) x ht (.inl h45)
  refine ⟨fun w hg => impl_int w _ _ _ (PQ w hg) fun w1 => ?_, fun w hg => impl_strn w _ _ _ (PQ w hg) fun w1 => rstr_neg w1 _ _ _ _ hl h45 (fun k hk hk2 => D.dig k hk hk2) (by omega), x, fun w hg => implParse_any w _ 2 _ _ x 0 (by decide) fun w0 hu => PQ w0 (hg.upd hu)⟩
  rcases hf with ⟨hs, rfl⟩ | ⟨hs, k, q, a, b, c, d, rfl⟩
  · exact rint_safe w1 _ _ _ _ _ fun w => safe_flt w true m h0 hs
  · refine rint_raw w1 _ _ _ _ _ (fun w => safe_big w true k q a b c d) fun w => ?_
    have := pint_neg w _ D h45
    rw [hv] at this
    exact this
theorem intq_zero : IntQ 0 (decB 0) := by
  obtain ⟨hz, hb⟩ := dec_zero
  have hdig : isDig (bt (decB 0) 0) := by rw [hb]; exact ⟨by decide, by decide⟩
  have PQ := fun w hg => parse_numU w hg (decB 0) (by omega) 0 tonum_zero (.inr hdig)
  refine ⟨fun w hg => impl_int w _ _ _ (PQ w hg) fun w1 => rint_safe w1 _ _ _ _ _ fun w => safe_zero w, fun w hg => impl_strn w _ _ _ (PQ w hg) fun w1 => rstr_pos w1 _ _ _ _ (by omega) (fun k hk => by
    have : k = 0 := by omega
    subst this
    exact hdig) (by omega), 0, fun w hg => implParse_any w _ 2 _ _ 0 0 (by decide) fun w0 hu => PQ w0 (hg.upd hu)⟩
theorem intq_any (n : Int) (h1 : -1000000000000000000 < n) (h2 : n < 1000000000000000000) : IntQ n (wholeB n) := by
  unfold wholeB
  split
  · rename_i hn
    have := intq_neg n.natAbs (by omega) (by omega)
    rw [show -((n.natAbs : Nat) : Int) = n by omega] at this
    exact this
  · rename_i hn
    by_cases h0 : n = 0
    · subst h0
      exact intq_zero
    · have := intq_pos n.natAbs (by omega) (by omega)
      rw [show ((n.natAbs : Nat) : Int) = n by omega] at this
      exact this
theorem whole_text (n : Int) (h1 : -1000000000000000000 < n) (h2 : n < 1000000000000000000) (w : World) : Calls Tryz.prog 10 #[.int .i64 n] w fun e w' => e = .returned (.string (wholeB n)) ∧ Upd [] w w' := by
  unfold wholeB
  split
  · rename_i hn
    have := whole_neg n.natAbs (by omega) (by omega) w
    rw [show -((n.natAbs : Nat) : Int) = n by omega] at this
    exact this
  · rename_i hn
    have := whole_nat n.natAbs (by omega) w
    rw [show ((n.natAbs : Nat) : Int) = n by omega] at this
    exact this
set_option maxRecDepth 100000 in
set_option maxHeartbeats 4000000 in
theorem law_int (w : World) (n : Int) (hg : Glp w) : Calls Tryz.prog 6 #[.int .i64 n] w fun e w' => e = .returned (.bool true) ∧ Upd [] w w' := by
  have hab : (n.tmod 1000000000000000000).natAbs < 1000000000000000000 := by
    rw [Int.natAbs_tmod]
    exact Nat.mod_lt _ (by decide)
  have Q := intq_any (n.tmod 1000000000000000000) (by omega) (by omega)
  have W := Lib.hid (fun w => whole_text (n.tmod 1000000000000000000) (by omega) (by omega) w)
  have QI := Lib.hid Q.int
  have QS := Lib.hid Q.str
  obtain ⟨x, QP⟩ := Q.parse
  have QP := Lib.hid QP
  clear hab Q
  generalize wholeB (n.tmod 1000000000000000000) = u at *
  have fl := fun w => run_field0 2 (.string u) (.string ⟨#[]⟩) (.float .f64 x) (.int .i64 0) (.bool true) w
  unfold valCells at QP
  have HG := Lib.hid hg
  clear hg
  go_enter Tryz.func6, Tryz.ntmps6
  go_wp2_with fail
  refine (W.out _).mono ?_
  rintro e w1 ⟨rfl, hu1⟩
  have g1 := Lib.hid (HG.out.upd hu1)
  go_wp2_with fail
  refine (QI.out _ g1.out).mono ?_
  rintro e w2 ⟨rfl, hu2⟩
  have g2 := Lib.hid (g1.out.upd hu2)
  go_wp2_with fail
  refine (QS.out _ g2.out).mono ?_
  rintro e w3 ⟨rfl, hu3⟩
  have g3 := Lib.hid (g2.out.upd hu3)
  go_wp2_with fail
  refine (QP.out _ g3.out).mono ?_
  rintro e w4 ⟨rfl, hu4⟩
  go_wp2_with fail
  go_ret
  exact ⟨rfl, ((hu1.trans hu2).trans hu3).trans hu4⟩
end Go.Proofs.YtcnkbdbkglggcaaGreatDoor
