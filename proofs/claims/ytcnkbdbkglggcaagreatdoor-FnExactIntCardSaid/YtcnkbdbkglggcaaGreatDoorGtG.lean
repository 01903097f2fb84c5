/-
  The library's reading of a whole number of at most 18 digits as a float, whatever its size. Condition: what the table of powers of ten holds at the power nought.
-/
import Derived.Test.YtcnkbdbkglggcaaGreatDoorGtF
import Derived.Test.YtcnkbdbkglggcaaGreatDoorGqA
import Derived.Test.YtcnkbdbkglggcaaGreatDoorGqC
import Derived.Test.YtcnkbdbkglggcaaGreatDoorGqD
namespace Go.Proofs.YtcnkbdbkglggcaaGreatDoor
open Go.RowKit

/-- What 'atof64', 'ParseFloat' and 'tonum' return on a text; new memory alone may come. -/
def AtFU (s : ByteArray) (x : Nat) : Prop := ∀ w : World, Glp w → Calls Tryz.prog 114 #[.string s] w fun e w' => e = .returned (.tuple #[.float .f64 x, .int .i64 s.size, .nilIface]) ∧ Upd [] w w'
def PFlU (s : ByteArray) (x : Nat) : Prop := ∀ w : World, Glp w → Calls Tryz.prog 43 #[.string s, .int .i64 64] w fun e w' => e = .returned (.tuple #[.float .f64 x, .nilIface]) ∧ Upd [] w w'
def ToNumU (s : ByteArray) (x : Nat) : Prop := ∀ w : World, Glp w → Calls Tryz.prog 34 #[.string s] w fun e w' => e = .returned (.tuple #[.string s, .float .f64 x]) ∧ Upd [] w w'
theorem AtF.u {s : ByteArray} {x : Nat} (h : AtF s x) : AtFU s x := fun w hg => (h w hg.gl).mono fun e w' h => ⟨h.1, h.2 ▸ Upd.refl [] w⟩
theorem exact_no (w : World) (hg : Gl w) (d : Int) (neg : Bool) (h0 : 4503599627370496 ≤ d) (h1 : d < 18446744073709551616) :
    Calls Tryz.prog 152 #[.int .u64 d, .int .i64 0, .bool neg] w fun e w' => e = .returned (.tuple #[.float .f64 0, .bool false]) ∧ w' = w := by
  have h10 := hg.mant
  have d1 : (d / 4503599627370496 != 0) = true := bne_iff_ne.2 (by omega)
  go_enter Tryz.func152, Tryz.ntmps152
  go_wp2_with fail
  go_ret2
  exact ⟨rfl, rfl⟩
set_option maxRecDepth 100000 in
set_option maxHeartbeats 4000000 in
theorem atfU_pos (s : ByteArray) (hd : DigsAt s 0) (x : Nat) (hm : 4503599627370496 ≤ dv s 0 s.size)
    (hx : ∀ w, Glp w → Calls Tryz.prog 153 #[.int .u64 (dv s 0 s.size), .int .i64 0, .int .u64 0] w fun e w' => e = .returned (.tuple #[.float .f64 x, .nilIface]) ∧ Upd [] w w') : AtFU s x := by
  intro w hg
  have hl := hd.lt
  have hle := hd.le
  have hb : dv s 0 s.size < 10 ^ s.size := dv_lt s 0 s.size fun k hk => hd.dig (0 + k) (by omega) (by omega)
  have hb2 : 10 ^ s.size ≤ 10 ^ 18 := Nat.pow_le_pow_right (by omega) (by omega)
  have p1 : ((dv s 0 s.size : Int) == 0) = false := beq_eq_false_iff_ne.2 (by omega)
  have EN := Lib.hid (fun w (hg : Gl w) => exact_no w hg (dv s 0 s.size : Int) false (by omega) (by omega))
  have h3 := hg.gl.opt
  have HX := Lib.hid hx
  clear hb hb2 hm hx
  go_enter Tryz.func114, Tryz.ntmps114
  go_wp2_with fail
  refine (special_dig _ s hl (hd.dig 0 (by omega) hl)).mono ?_
  rintro e w1 ⟨rfl, rfl⟩
  go_wp2_with fail
  refine (readFloat_nat _ s hd).mono ?_
  rintro e w1 ⟨rfl, rfl⟩
  go_wp2_with (first | (go_at_call 150; refine (bool2_no _).mono ?_; rintro e w1 ⟨rfl, rfl⟩) | (go_at_call 152; refine (EN.out _ hg.gl).mono ?_; rintro e w1 ⟨rfl, rfl⟩) | (go_at_call 153; refine (HX.out _ hg).mono ?_; rintro e w2 ⟨rfl, hu⟩))
  refine bodyPost_ret (v := .tuple #[.float .f64 x, .int .i64 s.size, .nilIface]) ?_ rfl ⟨rfl, hu⟩
  simp [results, Tryz.results114, go_sem]
set_option maxRecDepth 100000 in
set_option maxHeartbeats 4000000 in
theorem atfU_neg (s : ByteArray) (hd : DigsAt s 1) (h45 : bt s 0 = 45) (x : Nat) (hm : 4503599627370496 ≤ dv s 1 (s.size - 1))
    (hx : ∀ w, Glp w → Calls Tryz.prog 153 #[.int .u64 (dv s 1 (s.size - 1)), .int .i64 0, .int .u64 9223372036854775808] w fun e w' => e = .returned (.tuple #[.float .f64 x, .nilIface]) ∧ Upd [] w w') : AtFU s x := by
  intro w hg
  have hl := hd.lt
  have hle := hd.le
  have hb : dv s 1 (s.size - 1) < 10 ^ (s.size - 1) := dv_lt s 1 (s.size - 1) fun k hk => hd.dig (1 + k) (by omega) (by omega)
  have hb2 : 10 ^ (s.size - 1) ≤ 10 ^ 18 := Nat.pow_le_pow_right (by omega) (by omega)
  have p1 : ((dv s 1 (s.size - 1) : Int) == 0) = false := beq_eq_false_iff_ne.2 (by omega)
  have EN := Lib.hid (fun w (hg : Gl w) => exact_no w hg (dv s 1 (s.size - 1) : Int) true (by omega) (by omega))
  have h3 := hg.gl.opt
  have HX := Lib.hid hx
  clear hb hb2 hm hx
  go_enter Tryz.func114, Tryz.ntmps114
  go_wp2_with fail
  refine (special_neg _ s h45 hl (hd.dig 1 (by omega) hl)).mono ?_
  rintro e w1 ⟨rfl, rfl⟩
  go_wp2_with fail
  refine (readFloat_neg _ s hd h45).mono ?_
  rintro e w1 ⟨rfl, rfl⟩
  go_wp2_with (first | (go_at_call 150; refine (bool2_yes _).mono ?_; rintro e w1 ⟨rfl, rfl⟩) | (go_at_call 152; refine (EN.out _ hg.gl).mono ?_; rintro e w1 ⟨rfl, rfl⟩) | (go_at_call 153; refine (HX.out _ hg).mono ?_; rintro e w2 ⟨rfl, hu⟩))
  refine bodyPost_ret (v := .tuple #[.float .f64 x, .int .i64 s.size, .nilIface]) ?_ rfl ⟨rfl, hu⟩
  simp [results, Tryz.results114, go_sem]
theorem pflU_of (s : ByteArray) (x : Nat) (h : AtFU s x) (_hle : s.size ≤ 100) : PFlU s x := by
  intro w hg
  have d1 : ((s.size : Int) != (s.size : Int)) = false := by simp
  have h85 : Calls Tryz.prog 85 #[.string s, .int .i64 64] w fun e w' => e = .returned (.tuple #[.float .f64 x, .int .i64 s.size, .nilIface]) ∧ Upd [] w w' := by
    go_enter Tryz.func85, Tryz.ntmps85
    go_wp2_with fail
    refine (h _ hg).mono ?_
    rintro e w1 ⟨rfl, hu⟩
    go_wp2_with fail
    refine bodyPost_ret (v := .tuple #[.float .f64 x, .int .i64 s.size, .nilIface]) ?_ rfl ⟨rfl, hu⟩
    simp [results, Tryz.results85, go_sem]
  have h65 : Calls Tryz.prog 65 #[.string s, .int .i64 64] w fun e w' => e = .returned (.tuple #[.float .f64 x, .nilIface]) ∧ Upd [] w w' := by
    go_enter Tryz.func65, Tryz.ntmps65
    go_wp2_with fail
    refine h85.mono ?_
    rintro e w1 ⟨rfl, hu⟩
    go_wp2_with fail
    go_ret2
    exact ⟨rfl, hu⟩
  go_enter Tryz.func43, Tryz.ntmps43
  go_wp2_with fail
  refine h65.mono ?_
  rintro e w1 ⟨rfl, hu⟩
  go_wp2_with fail
  go_ret2
  exact ⟨rfl, hu⟩
set_option maxHeartbeats 1000000 in
theorem tonumU_of (s : ByteArray) (x : Nat) (h : PFlU s x) (hl : 0 < s.size) (hle : s.size ≤ 100) (hdig : ∀ k, 1 ≤ k → k < s.size → isDig (bt s k)) : ToNumU s x := by
  intro w hg
  have D := Lib.hid hdig
  have M := Lib.hid h
  clear hdig h
  go_enter Tryz.func34, Tryz.ntmps34
  go_wp2_with fail
  go_loopg [2, 4] (s.size - 1) (fun g v2 v wr => ∃ k : Nat, 1 ≤ k ∧ k ≤ s.size ∧ v2 = .string ⟨#[]⟩ ∧ v = .int .i64 k ∧ wr = w ∧ Hid (g = s.size - k))
  case atStart => exact ⟨1, by omega, by omega, rfl, rfl, rfl, rfl⟩
  case round =>
    obtain ⟨k, hk0, hk, rfl, rfl, rfl, hh⟩ := hrel
    by_cases hlt : k < s.size
    · have hk1 : 48 ≤ (s[k].toNat : Int) ∧ (s[k].toNat : Int) ≤ 57 := by
        have h1 := D.out k (by omega) hlt
        have h3 := bt_lt hlt
        unfold isDig at h1
        omega
      have g45 : decide ((s[k].toNat : Int) ≤ 45) = false := decide_eq_false (by omega)
      have g93 : ((s[k].toNat : Int) == 93) = false := beq_eq_false_iff_ne.2 (by omega)
      have g125 : ((s[k].toNat : Int) == 125) = false := beq_eq_false_iff_ne.2 (by omega)
      go_wp2_with fail
      go_roundg (s.size - (k + 1))
      case measure => have := hh.out; omega
      case rel => exact ⟨k + 1, by omega, by omega, rfl, by go_num, rfl, rfl⟩
    · go_wp2_with fail
      refine (M.out _ hg).mono ?_
      rintro e w1 ⟨rfl, hu⟩
      go_wp2_with fail
      go_ret2
      exact ⟨rfl, hu⟩
/-- The text of a whole number. -/
def wholeB (n : Int) : ByteArray := if n < 0 then ⟨#[45]⟩ ++ decB n.natAbs else decB n.natAbs
theorem decB_digs (m : Nat) (h0 : 0 < m) (hm : m < 1000000000000000000) : DigsAt (decB m) 0 := by
  have D := dec_ok m
  have hz : (decB m).size ≤ 18 := decB_size 17 _ (by omega)
  exact ⟨D.pos, by omega, fun k _ hk => D.dig k hk, D.first h0⟩
theorem bt_behind {a b : ByteArray} (k : Nat) : bt (a ++ b) (a.size + k) = bt b k := by
  unfold bt
  by_cases hb : k < b.size
  · rw [dif_pos (by rw [ByteArray.size_append]; omega), dif_pos hb, ByteArray.getElem_append_right (by omega)]
    congr 3
    omega
  · rw [dif_neg (by rw [ByteArray.size_append]; omega), dif_neg hb]
theorem dv_behind (a b : ByteArray) (n : Nat) : dv (a ++ b) a.size n = dv b 0 n := by
  induction n with
  | zero => rfl
  | succ n ih =>
    rw [show dv (a ++ b) a.size (n + 1) = dv (a ++ b) a.size n * 10 + ((bt (a ++ b) (a.size + n)).toNat - 48) from rfl, show dv b 0 (n + 1) = dv b 0 n * 10 + ((bt b (0 + n)).toNat - 48) from rfl, ih, bt_behind, Nat.zero_add]
theorem neg_digs (m : Nat) (h0 : 0 < m) (hm : m < 1000000000000000000) : DigsAt (⟨#[45]⟩ ++ decB m) 1 ∧ bt (⟨#[45]⟩ ++ decB m) 0 = 45 ∧ dv (⟨#[45]⟩ ++ decB m) 1 ((⟨#[45]⟩ ++ decB m : ByteArray).size - 1) = m := by
  have D := dec_ok m
  have hz : (decB m).size ≤ 18 := decB_size 17 _ (by omega)
  have h1 : (⟨#[45]⟩ : ByteArray).size = 1 := rfl
  have hs : (⟨#[45]⟩ ++ decB m : ByteArray).size = 1 + (decB m).size := by rw [ByteArray.size_append, h1]
  have hp := D.pos
  have hb : ∀ k, bt (⟨#[45]⟩ ++ decB m) (1 + k) = bt (decB m) k := fun k => bt_behind (a := ⟨#[45]⟩) k
  refine ⟨⟨by omega, by omega, fun k h2 h3 => ?_, ?_⟩, ?_, ?_⟩
  · have := hb (k - 1)
    rw [show 1 + (k - 1) = k by omega] at this
    rw [this]
    exact D.dig _ (by omega)
  · have := hb 0
    rw [show 1 + 0 = 1 by omega] at this
    rw [this]
    exact D.first h0
  · rw [bt_cat_lo (by decide)]
    decide
  · rw [hs, show 1 + (decB m).size - 1 = (decB m).size by omega]
    exact (dv_behind ⟨#[45]⟩ (decB m) _).trans D.val
theorem dec_zero : (decB 0).size = 1 ∧ bt (decB 0) 0 = 48 := by
  have h : decB 0 = strOfNums [48] := by rw [decB]; rfl
  rw [h]
  exact ⟨by rw [strOfNums_size]; rfl, bt_str1 48 (by decide) (by decide)⟩
/-- The float that a whole number is read as. -/
def FltOf (neg : Bool) (m : Nat) (x : Nat) : Prop :=
  (m < 9007199254740992 ∧ x = wholeF neg m) ∨ (9007199254740992 ≤ m ∧ ∃ k q, 4503599627370496 ≤ q ∧ q < 9007199254740992 ∧ 1075 ≤ k ∧ k < 2045 ∧ x = bigF neg k q)
theorem neg_whole (m : Nat) (h0 : 0 < m) (h1 : m < 9007199254740992) : Op.negFloat .f64 (wholeF false m) = wholeF true m := by
  obtain ⟨hl, ha, hb⟩ := log_bounds m h0 h1
  show wholeF false m ^^^ 9223372036854775808 = _
  unfold wholeF
  rw [if_neg (by decide), if_pos rfl, Nat.zero_add]
  exact flip_add _ (by omega)
theorem flt_53 (neg : Bool) (m : Nat) (h0 : 4503599627370496 ≤ m) (h1 : m < 9007199254740992) : FltOf neg m (bigF neg (1074 + (0 + pfS (scl ((m : Int) * 2048)))) (pfM (scl ((m : Int) * 2048)))) := by
  have hs : scl ((m : Int) * 2048) = 4 * (m : Int) := by
    unfold scl
    rw [if_pos (by omega)]
    omega
  have hS : pfS (4 * (m : Int)) = 0 := by unfold pfS; rw [if_neg (by omega)]
  have hM : pfM (4 * (m : Int)) = m := by unfold pfM; rw [if_neg (by omega)]; omega
  rw [hs, hS, hM]
  refine .inl ⟨h1, ?_⟩
  have hl : m.log2 = 52 := (Nat.log2_eq_iff (by omega)).2 ⟨by omega, by omega⟩
  unfold bigF wholeF
  rw [hl]
  simp
theorem flt_big (neg : Bool) (m : Nat) (h : 9007199254740992 ≤ m) (j : Nat) (hj : 1 ≤ j) (hj2 : j < 10) (u : Int) (h0 : 18014398509481984 ≤ u) (h1 : u < 36028797018963968) : FltOf neg m (bigF neg (1074 + (j + pfS u)) (pfM u)) := by
  obtain ⟨m0, m1⟩ := pfM_bounds u h0 h1
  have hS : pfS u ≤ 1 := by unfold pfS; split <;> omega
  exact .inr ⟨h, _, _, m0, m1, by omega, by omega, rfl⟩
/-- What 'parseFloat64' makes of a whole number. -/
theorem pf64_any (neg : Bool) (m : Nat) (h0 : 4503599627370496 ≤ m) (h1 : m < 1000000000000000000) :
    ∃ x, FltOf neg m x ∧ ∀ w, Glp w → Calls Tryz.prog 153 #[.int .u64 m, .int .i64 0, .int .u64 (sgn neg 0)] w fun e w' => e = .returned (.tuple #[.float .f64 x, .nilIface]) ∧ Upd [] w w' := by
  by_cases c53 : m < 9007199254740992
  · exact ⟨_, flt_53 neg m h0 (by omega), fun w hg => pf64_53 w hg neg m (by omega) (by omega)⟩
  by_cases c54 : m < 18014398509481984
  · exact ⟨_, flt_big neg m (by omega) 1 (by omega) (by omega) _ (scl_bounds _ (by omega) (by omega)).1 (scl_bounds _ (by omega) (by omega)).2, fun w hg => pf64_54 w hg neg m (by omega) (by omega)⟩
  by_cases c55 : m < 36028797018963968
  · exact ⟨_, flt_big neg m (by omega) 2 (by omega) (by omega) _ (scl_bounds _ (by omega) (by omega)).1 (scl_bounds _ (by omega) (by omega)).2, fun w hg => pf64_55 w hg neg m (by omega) (by omega)⟩
  by_cases c56 : m < 72057594037927936
  · exact ⟨_, flt_big neg m (by omega) 3 (by omega) (by omega) _ (scl_bounds _ (by omega) (by omega)).1 (scl_bounds _ (by omega) (by omega)).2, fun w hg => pf64_56 w hg neg m (by omega) (by omega)⟩
  by_cases c57 : m < 144115188075855872
  · exact ⟨_, flt_big neg m (by omega) 4 (by omega) (by omega) _ (scl_bounds _ (by omega) (by omega)).1 (scl_bounds _ (by omega) (by omega)).2, fun w hg => pf64_57 w hg neg m (by omega) (by omega)⟩
  by_cases c58 : m < 288230376151711744
  · exact ⟨_, flt_big neg m (by omega) 5 (by omega) (by omega) _ (scl_bounds _ (by omega) (by omega)).1 (scl_bounds _ (by omega) (by omega)).2, fun w hg => pf64_58 w hg neg m (by omega) (by omega)⟩
  by_cases c59 : m < 576460752303423488
  · exact ⟨_, flt_big neg m (by omega) 6 (by omega) (by omega) _ (scl_bounds _ (by omega) (by omega)).1 (scl_bounds _ (by omega) (by omega)).2, fun w hg => pf64_59 w hg neg m (by omega) (by omega)⟩
  · exact ⟨_, flt_big neg m (by omega) 7 (by omega) (by omega) _ (scl_bounds _ (by omega) (by omega)).1 (scl_bounds _ (by omega) (by omega)).2, fun w hg => pf64_60 w hg neg m (by omega) (by omega)⟩
/-- A number's text is read as its float. -/
theorem tonum_pos (m : Nat) (h0 : 0 < m) (h1 : m < 1000000000000000000) : ∃ x, FltOf false m x ∧ ToNumU (decB m) x := by
  have D := decB_digs m h0 h1
  have hl := D.lt
  have hle := D.le
  have hv := (dec_ok m).val
  rcases Nat.lt_or_ge m 4503599627370496 with hs | hs
  · refine ⟨floatOfInt .f64 (m : Int), .inl ⟨by omega, wholeF_of m h0 (by omega)⟩, tonumU_of _ _ (pflU_of _ _ (AtF.u ?_) (by omega)) (by omega) (by omega) fun k h3 h4 => D.dig k (by omega) h4⟩
    have := fun w hg => atof_nat w hg (decB m) D (by rw [hv]; exact hs)
    rw [hv] at this
    exact this
  · obtain ⟨x, hf, hx⟩ := pf64_any false m hs h1
    refine ⟨x, hf, tonumU_of _ _ (pflU_of _ _ (atfU_pos (decB m) D x (by rw [hv]; exact hs) ?_) (by omega)) (by omega) (by omega) fun k h3 h4 => D.dig k (by omega) h4⟩
    rw [hv]
    exact hx
theorem tonum_neg (m : Nat) (h0 : 0 < m) (h1 : m < 1000000000000000000) : ∃ x, FltOf true m x ∧ ToNumU (⟨#[45]⟩ ++ decB m) x := by
  obtain ⟨D, h45, hv⟩ := neg_digs m h0 h1
  have hl := D.lt
  have hle := D.le
  rcases Nat.lt_or_ge m 4503599627370496 with hs | hs
  · refine ⟨Op.negFloat .f64 (floatOfInt .f64 (m : Int)), .inl ⟨by omega, by rw [wholeF_of m h0 (by omega), neg_whole m h0 (by omega)]⟩, tonumU_of _ _ (pflU_of _ _ (AtF.u ?_) (by omega)) (by omega) (by omega) fun k h3 h4 => D.dig k h3 h4⟩
    have := atf_neg (⟨#[45]⟩ ++ decB m) D h45 (by rw [hv]; exact hs)
    rw [hv] at this
    exact this
  · obtain ⟨x, hf, hx⟩ := pf64_any true m hs h1
    refine ⟨x, hf, tonumU_of _ _ (pflU_of _ _ (atfU_neg _ D h45 x (by rw [hv]; exact hs) ?_) (by omega)) (by omega) (by omega) fun k h3 h4 => D.dig k h3 h4⟩
    rw [hv]
    exact hx
theorem tonum_zero : ToNumU (decB 0) 0 := by
  obtain ⟨hz, hb⟩ := dec_zero
  exact tonumU_of _ _ (pflU_of _ _ (AtF.u (atf_zero _ hz hb)) (by omega)) (by omega) (by omega) fun k h3 h4 => by omega
end Go.Proofs.YtcnkbdbkglggcaaGreatDoor
