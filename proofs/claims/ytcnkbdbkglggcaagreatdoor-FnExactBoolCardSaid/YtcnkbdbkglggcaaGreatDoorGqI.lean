/-
  The program's 'Result.Bool' and the thin package's 'Bool', on each kind but strings, and on whole numbers in decimal. Condition: what the library's variables hold that the road reads; the number's magnitude is below 10^15.
-/
import Derived.Test.YtcnkbdbkglggcaaGreatDoorGqA
import Derived.Test.YtcnkbdbkglggcaaGreatDoorGqC
import Derived.Test.YtcnkbdbkglggcaaGreatDoorGqD
import Derived.Test.YtcnkbdbkglggcaaGreatDoorGqH
import Derived.Test.YtcnkbdbkglggcaaGreatDoorGpH
namespace Go.Proofs.YtcnkbdbkglggcaaGreatDoor
open Go.RowKit

theorem rbool_null (w : World) (raw str : ByteArray) (x : Nat) (i : Int) : Calls Tryz.prog 21 #[.agg (resCells 0 raw str x i)] w fun e w' => e = .returned (.bool false) ∧ Upd [] w w' := by
  unfold resCells
  go_enter Tryz.func21, Tryz.ntmps21
  go_wp2_with fail
  go_ret
  exact ⟨rfl, (Upd.refl [] w).alloc _⟩
theorem rbool_false (w : World) (raw str : ByteArray) (x : Nat) (i : Int) : Calls Tryz.prog 21 #[.agg (resCells 1 raw str x i)] w fun e w' => e = .returned (.bool false) ∧ Upd [] w w' := by
  unfold resCells
  go_enter Tryz.func21, Tryz.ntmps21
  go_wp2_with fail
  go_ret
  exact ⟨rfl, (Upd.refl [] w).alloc _⟩
theorem rbool_true (w : World) (raw str : ByteArray) (x : Nat) (i : Int) : Calls Tryz.prog 21 #[.agg (resCells 4 raw str x i)] w fun e w' => e = .returned (.bool true) ∧ Upd [] w w' := by
  unfold resCells
  go_enter Tryz.func21, Tryz.ntmps21
  go_wp2_with fail
  go_ret
  exact ⟨rfl, (Upd.refl [] w).alloc _⟩
theorem rbool_json (w : World) (raw str : ByteArray) (x : Nat) (i : Int) : Calls Tryz.prog 21 #[.agg (resCells 5 raw str x i)] w fun e w' => e = .returned (.bool false) ∧ Upd [] w w' := by
  unfold resCells
  go_enter Tryz.func21, Tryz.ntmps21
  go_wp2_with fail
  go_ret
  exact ⟨rfl, (Upd.refl [] w).alloc _⟩
theorem rbool_num (w : World) (raw str : ByteArray) (x : Nat) (i : Int) : Calls Tryz.prog 21 #[.agg (resCells 2 raw str x i)] w fun e w' => e = .returned (.bool ((FloatKind.f64).format.order x 0 != some .eq)) ∧ Upd [] w w' := by
  unfold resCells
  go_enter Tryz.func21, Tryz.ntmps21
  go_wp2_with fail
  go_ret
  exact ⟨rfl, (Upd.refl [] w).alloc _⟩
theorem impl_bool (w : World) (s : ByteArray) (u : Bool) (P : Value → Prop) (hp : Calls Tryz.prog 20 #[.string s] w fun e w' => ∃ v, e = .returned v ∧ P v ∧ Upd [] w w')
    (hq : ∀ v w1, P v → Calls Tryz.prog 21 #[v] w1 fun e w' => e = .returned (.bool u) ∧ Upd [] w1 w') :
    Calls Tryz.prog 9 #[.string s] w fun e w' => e = .returned (.bool u) ∧ Upd [] w w' := by
  go_enter Tryz.func9, Tryz.ntmps9
  go_wp2_with fail
  refine hp.mono ?_
  rintro e w1 ⟨v, rfl, hv, hu1⟩
  go_wp2_with fail
  refine (hq v w1 hv).mono ?_
  rintro e w2 ⟨rfl, hu2⟩
  go_wp2_with fail
  go_ret
  exact ⟨rfl, hu1.trans hu2⟩
theorem bool_word_true (w : World) (s : ByteArray) (i : Nat) (hs : s.size ≤ 2 ^ 31) (hws : Ws s 0 i) (hc : bt s i = 116) : Calls Tryz.prog 9 #[.string s] w fun e w' => e = .returned (.bool true) ∧ Upd [] w w' :=
  impl_bool w _ _ (fun v => ∃ r, v = .agg (resCells 4 r ⟨#[]⟩ 0 i)) ((parse_true w s i hs hws hc).mono fun e w' h => by obtain ⟨n, h1, _, h2⟩ := h; exact ⟨_, h1, ⟨_, rfl⟩, h2⟩)
    (fun v w1 hv => by obtain ⟨r, rfl⟩ := hv; exact rbool_true w1 _ _ _ _)
theorem bool_word_false (w : World) (s : ByteArray) (i : Nat) (hs : s.size ≤ 2 ^ 31) (hws : Ws s 0 i) (hc : bt s i = 102) : Calls Tryz.prog 9 #[.string s] w fun e w' => e = .returned (.bool false) ∧ Upd [] w w' :=
  impl_bool w _ _ (fun v => ∃ r, v = .agg (resCells 1 r ⟨#[]⟩ 0 i)) ((parse_false w s i hs hws hc).mono fun e w' h => by obtain ⟨n, h1, _, h2⟩ := h; exact ⟨_, h1, ⟨_, rfl⟩, h2⟩)
    (fun v w1 hv => by obtain ⟨r, rfl⟩ := hv; exact rbool_false w1 _ _ _ _)
theorem bool_word_null (w : World) (s : ByteArray) (i : Nat) (hs : s.size ≤ 2 ^ 31) (hws : Ws s 0 i) (hc : bt s i = 110) (hc2 : bt s (i + 1) = 117) : Calls Tryz.prog 9 #[.string s] w fun e w' => e = .returned (.bool false) ∧ Upd [] w w' :=
  impl_bool w _ _ (fun v => ∃ r, v = .agg (resCells 0 r ⟨#[]⟩ 0 i)) ((parse_null w s i hs hws hc hc2).mono fun e w' h => by obtain ⟨n, h1, _, h2⟩ := h; exact ⟨_, h1, ⟨_, rfl⟩, h2⟩)
    (fun v w1 hv => by obtain ⟨r, rfl⟩ := hv; exact rbool_null w1 _ _ _ _)
theorem bool_list (w : World) (s : ByteArray) (i : Nat) (hs : s.size ≤ 2 ^ 31) (hws : Ws s 0 i) (hc : bt s i = 123 ∨ bt s i = 91) : Calls Tryz.prog 9 #[.string s] w fun e w' => e = .returned (.bool false) ∧ Upd [] w w' :=
  impl_bool w _ _ (fun v => v = .agg (resCells 5 (s.extract i s.size) ⟨#[]⟩ 0 i)) ((parse_json w s i hs hws hc).mono fun e w' h => ⟨_, h.1, rfl, h.2⟩)
    (fun v w1 hv => by subst hv; exact rbool_json w1 _ _ _ _)
theorem bool_num (w : World) (hg : Gl w) (s : ByteArray) (hi : 0 < s.size) (hle : s.size ≤ 19) (x : Nat) (ht : ToNum s x) (hc : bt s 0 = 45 ∨ isDig (bt s 0)) (b : Bool) (hb : ((FloatKind.f64).format.order x 0 != some .eq) = b) :
    Calls Tryz.prog 9 #[.string s] w fun e w' => e = .returned (.bool b) ∧ Upd [] w w' := by
  subst hb
  exact impl_bool w _ _ (fun v => v = .agg (resCells 2 s ⟨#[]⟩ x 0)) ((parse_num w hg s hi hle x ht hc).mono fun e w' h => ⟨_, h.1, rfl, h.2⟩)
    (fun v w1 hv => by subst hv; exact rbool_num w1 _ _ _ _)
/-- The text of a whole number. -/
def wholeB (n : Int) : ByteArray := if n < 0 then ⟨#[45]⟩ ++ decB n.natAbs else decB n.natAbs
theorem decB_digs (m : Nat) (h0 : 0 < m) (hm : m < 1000000000000000000) : DigsAt (decB m) 0 := by
  have D := dec_ok m
  have hz : (decB m).size ≤ 18 := decB_size 17 _ (by omega)
  exact ⟨D.pos, by omega, fun k _ hk => D.dig k hk, D.first h0⟩
theorem bt_behind {a b : ByteArray} (k : Nat) : bt (a ++ b) (a.size + k) = bt b k := by
  unfold bt
  by_cases hb : k < b.size
  · rw [dif_pos (by rw [ByteArray.size_append]; omega), dif_pos hb, ByteArray.getElem_append_right (by omega)]
    congr 3
    omega
  · rw [dif_neg (by rw [ByteArray.size_append]; omega), dif_neg hb]
theorem dv_behind (a b : ByteArray) (n : Nat) : dv (a ++ b) a.size n = dv b 0 n := by
  induction n with
  | zero => rfl
  | succ n ih =>
    rw [show dv (a ++ b) a.size (n + 1) = dv (a ++ b) a.size n * 10 + ((bt (a ++ b) (a.size + n)).toNat - 48) from rfl, show dv b 0 (n + 1) = dv b 0 n * 10 + ((bt b (0 + n)).toNat - 48) from rfl, ih, bt_behind, Nat.zero_add]
theorem neg_digs (m : Nat) (h0 : 0 < m) (hm : m < 1000000000000000000) : DigsAt (⟨#[45]⟩ ++ decB m) 1 ∧ bt (⟨#[45]⟩ ++ decB m) 0 = 45 ∧ dv (⟨#[45]⟩ ++ decB m) 1 ((⟨#[45]⟩ ++ decB m : ByteArray).size - 1) = m := by
  have D := dec_ok m
  have hz : (decB m).size ≤ 18 := decB_size 17 _ (by omega)
  have h1 : (⟨#[45]⟩ : ByteArray).size = 1 := rfl
  have hs : (⟨#[45]⟩ ++ decB m : ByteArray).size = 1 + (decB m).size := by rw [ByteArray.size_append, h1]
  have hp := D.pos
  have hb : ∀ k, bt (⟨#[45]⟩ ++ decB m) (1 + k) = bt (decB m) k := fun k => bt_behind (a := ⟨#[45]⟩) k
  refine ⟨⟨by omega, by omega, fun k h2 h3 => ?_, ?_⟩, ?_, ?_⟩
  · have := hb (k - 1)
    rw [show 1 + (k - 1) = k by omega] at this
    rw [this]
    exact D.dig _ (by omega)
  · have := hb 0
    rw [show 1 + 0 = 1 by omega] at this
    rw [this]
    exact D.first h0
  · rw [bt_cat_lo (by decide)]
    decide
  · rw [hs, show 1 + (decB m).size - 1 = (decB m).size by omega]
    exact (dv_behind ⟨#[45]⟩ (decB m) _).trans D.val
theorem dec_zero : (decB 0).size = 1 ∧ bt (decB 0) 0 = 48 := by
  have h : decB 0 = strOfNums [48] := by rw [decB]; rfl
  rw [h]
  exact ⟨by rw [strOfNums_size]; rfl, bt_str1 48 (by decide) (by decide)⟩
theorem zero_eq : ((FloatKind.f64).format.order 0 0 != some .eq) = false := by decide
theorem bool_whole (w : World) (hg : Gl w) (n : Int) (h1 : -1000000000000000 < n) (h2 : n < 1000000000000000) :
    Calls Tryz.prog 9 #[.string (wholeB n)] w fun e w' => e = .returned (.bool (n != 0)) ∧ Upd [] w w' := by
  unfold wholeB
  split
  · rename_i hn
    obtain ⟨D, h45, hv⟩ := neg_digs n.natAbs (by omega) (by omega)
    have hl := D.lt
    have hle := D.le
    refine bool_num w hg _ (by omega) (by omega) _ (tonum_of _ _ (pfl_of _ _ (atf_neg _ D h45 (by rw [hv]; omega)) (by omega)) (by omega) (by omega) fun k h3 h4 => D.dig k h3 h4) (.inl h45) _ ?_
    rw [hv, float_ne_neg _ (by omega) (by omega)]
    exact (bne_iff_ne.2 (by omega)).symm
  · rename_i hn
    by_cases h0 : n = 0
    · subst h0
      obtain ⟨hz, hb⟩ := dec_zero
      exact bool_num w hg _ (by show 0 < (decB 0).size; omega) (by show (decB 0).size ≤ 19; omega) 0 (tonum_of _ _ (pfl_of _ _ (atf_zero _ hz hb) (by show (decB 0).size ≤ 100; omega)) (by show 0 < (decB 0).size; omega) (by show (decB 0).size ≤ 100; omega) fun k h3 h4 => by
        have : k < (decB 0).size := h4
        omega) (.inr (by show isDig (bt (decB 0) 0); rw [hb]; exact ⟨by decide, by decide⟩)) _ zero_eq
    · have D := decB_digs n.natAbs (by omega) (by omega)
      have hl := D.lt
      have hle := D.le
      have hv := (dec_ok n.natAbs).val
      refine bool_num w hg _ (by omega) (by omega) _ (tonum_of _ _ (pfl_of _ _ (fun w hg => atof_nat w hg _ D (by rw [hv]; omega)) (by omega)) (by omega) (by omega) fun k h3 h4 => D.dig k (by omega) h4) (.inr (D.dig 0 (by omega) hl)) _ ?_
      rw [hv, float_ne _ (by omega) (by omega)]
      exact (bne_iff_ne.2 h0).symm
theorem whole_any (n : Int) (h1 : -1000000000000000000 < n) (h2 : n < 1000000000000000000) (w : World) : Calls Tryz.prog 10 #[.int .i64 n] w fun e w' => e = .returned (.string (wholeB n)) ∧ Upd [] w w' := by
  unfold wholeB
  split
  · rename_i hn
    have := whole_neg n.natAbs (by omega) (by omega) w
    rw [show -((n.natAbs : Nat) : Int) = n by omega] at this
    exact this
  · rename_i hn
    have := whole_nat n.natAbs (by omega) w
    rw [show ((n.natAbs : Nat) : Int) = n by omega] at this
    exact this
end Go.Proofs.YtcnkbdbkglggcaaGreatDoor
