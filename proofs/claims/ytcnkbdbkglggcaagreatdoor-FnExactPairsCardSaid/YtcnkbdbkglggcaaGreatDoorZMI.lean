/-
  The program's 'Parse' on true, false and null. Condition: the text has at most 2^31 bytes.
  The program's 'Parse' on a string. Condition: the text has at most 2^31 bytes; what 'tostr' returns.
-/
import Derived.Test.YtcnkbdbkglggcaaGreatDoorZMH
set_option linter.unusedVariables false
set_option linter.unusedSimpArgs false
namespace Go.Proofs.YtcnkbdbkglggcaaGreatDoor
open Go.RowKit

/-- What 'Parse' returns of a word. -/
def Word1 (w : World) (s : ByteArray) (i : Nat) (kind : Int) (e : Ending) (w' : World) : Prop :=
  ∃ n, e = .returned (.agg (resCells kind ((s.extract i s.size).extract 0 n) ⟨#[]⟩ 0 i)) ∧ LitQ (s.extract i s.size) n ∧ Upd [] w w'

set_option maxRecDepth 100000 in
set_option maxHeartbeats 4000000 in
theorem parse_true (w : World) (s : ByteArray) (i : Nat) (hs : s.size ≤ 2 ^ 31) (hws : Ws s 0 i) (hc : bt s i = 116) :
    Calls Tryz.prog 20 #[.string s] w fun e w' => Word1 w s i 4 e w' := by
  have hi : i < s.size := lt_of_bt (by omega)
  have HW := Lib.hid hws.2.2.1
  have HC := Lib.hid hc
  clear hws hc
  go_enter Tryz.func20, Tryz.ntmps20
  go_wp2_with fail
  have hup := ((Upd.refl [] w).alloc (.cells #[.int .i64 0, .string ⟨#[]⟩, .string ⟨#[]⟩, .float .f64 0, .int .i64 0, .slice none 0 0] 49)).alloc (.cells #[.int .i64 0, .string ⟨#[]⟩, .string ⟨#[]⟩, .float .f64 0, .int .i64 0, .slice none 0 0] 49)
  have hrb := (Blk.new w 49 #[.int .i64 0, .string ⟨#[]⟩, .string ⟨#[]⟩, .float .f64 0, .int .i64 0, .slice none 0 0]).alloc (.cells #[.int .i64 0, .string ⟨#[]⟩, .string ⟨#[]⟩, .float .f64 0, .int .i64 0, .slice none 0 0] 49)
  have htb := Blk.new (w.alloc (.cells #[.int .i64 0, .string ⟨#[]⟩, .string ⟨#[]⟩, .float .f64 0, .int .i64 0, .slice none 0 0] 49)) 49 #[.int .i64 0, .string ⟨#[]⟩, .string ⟨#[]⟩, .float .f64 0, .int .i64 0, .slice none 0 0]
  have hz : (w.alloc (.cells #[.int .i64 0, .string ⟨#[]⟩, .string ⟨#[]⟩, .float .f64 0, .int .i64 0, .slice none 0 0] 49)).heap.size = w.heap.size + 1 := by simp
  rw [hz] at htb
  clear hz
  generalize (w.alloc (.cells #[.int .i64 0, .string ⟨#[]⟩, .string ⟨#[]⟩, .float .f64 0, .int .i64 0, .slice none 0 0] 49)).alloc (.cells #[.int .i64 0, .string ⟨#[]⟩, .string ⟨#[]⟩, .float .f64 0, .int .i64 0, .slice none 0 0] 49) = W at *
  go_loopg [4] i (fun g v wr => ∃ k : Nat, k ≤ i ∧ v = .int .i64 k ∧ wr = W ∧ Hid (g = i - k))
  case atStart => exact ⟨0, by omega, rfl, rfl, rfl⟩
  case round =>
    obtain ⟨k, hk, rfl, rfl, hh⟩ := hrel
    by_cases hlt : k < i
    · have hks : k < s.size := by omega
      have hb : s[k].toNat ≤ 32 := by
        have h1 := HW.out k (by omega) hlt
        have h2 := bt_lt hks
        unfold isWs at h1
        omega
      clear hrb htb hup
      have d1 : ((s[k].toNat : Int) == 123) = false := beq_eq_false_iff_ne.2 (by omega)
      have d2 : ((s[k].toNat : Int) == 91) = false := beq_eq_false_iff_ne.2 (by omega)
      go_wp2_with fail
      go_roundg (i - (k + 1))
      case measure => have := hh.out; omega
      case rel => exact ⟨k + 1, by omega, by go_num, rfl, rfl⟩
    · have hE : k = i := by omega
      subst hE
      have hb : (s[k].toNat : Int) = 116 := by
        have h1 := HC.out
        have h2 := bt_lt hi
        omega
      have d123 : ((s[k].toNat : Int) == 123) = false := beq_eq_false_iff_ne.2 (by omega)
      have d91 : ((s[k].toNat : Int) == 91) = false := beq_eq_false_iff_ne.2 (by omega)
      have d43 : ((s[k].toNat : Int) == 43) = false := beq_eq_false_iff_ne.2 (by omega)
      have d45 : ((s[k].toNat : Int) == 45) = false := beq_eq_false_iff_ne.2 (by omega)
      have d48 : ((s[k].toNat : Int) == 48) = false := beq_eq_false_iff_ne.2 (by omega)
      have d49 : ((s[k].toNat : Int) == 49) = false := beq_eq_false_iff_ne.2 (by omega)
      have d50 : ((s[k].toNat : Int) == 50) = false := beq_eq_false_iff_ne.2 (by omega)
      have d51 : ((s[k].toNat : Int) == 51) = false := beq_eq_false_iff_ne.2 (by omega)
      have d52 : ((s[k].toNat : Int) == 52) = false := beq_eq_false_iff_ne.2 (by omega)
      have d53 : ((s[k].toNat : Int) == 53) = false := beq_eq_false_iff_ne.2 (by omega)
      have d54 : ((s[k].toNat : Int) == 54) = false := beq_eq_false_iff_ne.2 (by omega)
      have d55 : ((s[k].toNat : Int) == 55) = false := beq_eq_false_iff_ne.2 (by omega)
      have d56 : ((s[k].toNat : Int) == 56) = false := beq_eq_false_iff_ne.2 (by omega)
      have d57 : ((s[k].toNat : Int) == 57) = false := beq_eq_false_iff_ne.2 (by omega)
      have d105 : ((s[k].toNat : Int) == 105) = false := beq_eq_false_iff_ne.2 (by omega)
      have d73 : ((s[k].toNat : Int) == 73) = false := beq_eq_false_iff_ne.2 (by omega)
      have d78 : ((s[k].toNat : Int) == 78) = false := beq_eq_false_iff_ne.2 (by omega)
      have d110 : ((s[k].toNat : Int) == 110) = false := beq_eq_false_iff_ne.2 (by omega)
      have d116 : ((s[k].toNat : Int) == 116) = true := beq_iff_eq.2 (by omega)
      have e3 : decide ((s[k].toNat : Int) ≤ 32) = false := decide_eq_false (by omega)
      clear hb
      have tf := htb.frozen
      have t0 := htb.cell 0
      have t1 := htb.cell 1
      have t2 := htb.cell 2
      have t3 := htb.cell 3
      have t4 := htb.cell 4
      have t5 := htb.cell 5
      simp only [List.getElem?_toArray, List.getElem?_cons_zero, List.getElem?_cons_succ] at t0 t1 t2 t3 t4 t5
      have hsz : (s.extract k s.size).size = s.size - k := by simp only [ByteArray.size_extract]; omega
      have hz1 : 1 ≤ (s.extract k s.size).size := by omega
      have hz2 : (s.extract k s.size).size ≤ 2 ^ 31 := by omega
      go_wp2_with (go_at_call 35; refine (tolit_any _ (s.extract k s.size) hz1 hz2).mono ?_; rintro e w1 ⟨n, rfl, hlit, rfl⟩)
      clear tf t0 t1 t2 t3 t4 t5
      refine (exists_yes _ 4 ((s.extract k s.size).extract 0 n) ⟨#[]⟩ 0 0 (.inl (by decide))).mono ?_
      rintro e w5 ⟨rfl, rfl⟩
      have htb5 : Blk (((wr.setCell ⟨w.heap.size + 1, 0, none⟩ (.int .i64 4)).setCell ⟨w.heap.size + 1, 1, none⟩ (.string ((s.extract k s.size).extract 0 n))).alloc (.cells (resCells 4 ((s.extract k s.size).extract 0 n) ⟨#[]⟩ 0 0) 49)) (w.heap.size + 1) 49 #[.int .i64 4, .string ((s.extract k s.size).extract 0 n), .string ⟨#[]⟩, .float .f64 0, .int .i64 0, .slice none 0 0] := ((htb.set_ 0 _).set_ 1 _).alloc _
      have hrb5 := ((hrb.far (p := ⟨w.heap.size + 1, 0, none⟩) (by simp) (.int .i64 4)).far (p := ⟨w.heap.size + 1, 1, none⟩) (by simp) (.string ((s.extract k s.size).extract 0 n))).alloc (.cells (resCells 4 ((s.extract k s.size).extract 0 n) ⟨#[]⟩ 0 0) 49)
      have hup5 := ((hup.setCell (p := ⟨w.heap.size + 1, 0, none⟩) (.inr (Nat.le_succ _)) (.int .i64 4)).setCell (p := ⟨w.heap.size + 1, 1, none⟩) (.inr (Nat.le_succ _)) (.string ((s.extract k s.size).extract 0 n))).alloc (.cells (resCells 4 ((s.extract k s.size).extract 0 n) ⟨#[]⟩ 0 0) 49)
      generalize ((wr.setCell ⟨w.heap.size + 1, 0, none⟩ (.int .i64 4)).setCell ⟨w.heap.size + 1, 1, none⟩ (.string ((s.extract k s.size).extract 0 n))).alloc (.cells (resCells 4 ((s.extract k s.size).extract 0 n) ⟨#[]⟩ 0 0) 49) = W5 at *
      clear htb hrb hup
      have htb6 : Blk (W5.setCell ⟨w.heap.size + 1, 4, none⟩ (.int .i64 k)) (w.heap.size + 1) 49 #[.int .i64 4, .string ((s.extract k s.size).extract 0 n), .string ⟨#[]⟩, .float .f64 0, .int .i64 k, .slice none 0 0] := htb5.set_ 4 _
      have hrb6 := hrb5.far (p := ⟨w.heap.size + 1, 4, none⟩) (by simp) (.int .i64 k)
      have hup6 := hup5.setCell (p := ⟨w.heap.size + 1, 4, none⟩) (.inr (Nat.le_succ _)) (.int .i64 k)
      have tf := htb5.frozen
      have t4 := htb5.cell 4
      simp only [List.getElem?_toArray, List.getElem?_cons_zero, List.getElem?_cons_succ] at t4
      go_upto_region 45 with fail
      clear tf t4
      generalize W5.setCell ⟨w.heap.size + 1, 4, none⟩ (.int .i64 k) = W6 at *
      clear htb5 hrb5 hup5
      have tf := htb6.frozen
      have t0 := htb6.cell 0
      have t1 := htb6.cell 1
      have t2 := htb6.cell 2
      have t3 := htb6.cell 3
      have t4 := htb6.cell 4
      have t5 := htb6.cell 5
      have rf := hrb6.frozen
      have r0 := hrb6.cell 0
      have r1 := hrb6.cell 1
      have r2 := hrb6.cell 2
      have r3 := hrb6.cell 3
      have r4 := hrb6.cell 4
      have r5 := hrb6.cell 5
      simp only [List.getElem?_toArray, List.getElem?_cons_zero, List.getElem?_cons_succ] at t0 t1 t2 t3 t4 t5 r0 r1 r2 r3 r4 r5
      have rsf := run_store_float64 (P := Tryz.prog)
      go_wp2_with fail
      have HB := (((((hrb6.set_ 0 (.int .i64 4)).set_ 1 (.string ((s.extract k s.size).extract 0 n))).set_ 2 (.string ⟨#[]⟩)).set_ 3 (.float .f64 0)).set_ 4 (.int .i64 k)).set_ 5 (.slice none 0 0)
      refine bodyPost_ret (res_parse (c0 := .int .i64 4) (c1 := .string ((s.extract k s.size).extract 0 n)) (c2 := .string ⟨#[]⟩) (c3 := .float .f64 0) (c4 := .int .i64 k) (c5 := .slice none 0 0) HB _ rfl) rfl ?_
      exact ⟨n, rfl, hlit, parse_end hup6⟩

set_option maxRecDepth 100000 in
set_option maxHeartbeats 4000000 in
theorem parse_false (w : World) (s : ByteArray) (i : Nat) (hs : s.size ≤ 2 ^ 31) (hws : Ws s 0 i) (hc : bt s i = 102) :
    Calls Tryz.prog 20 #[.string s] w fun e w' => Word1 w s i 1 e w' := by
  have hi : i < s.size := lt_of_bt (by omega)
  have HW := Lib.hid hws.2.2.1
  have HC := Lib.hid hc
  clear hws hc
  go_enter Tryz.func20, Tryz.ntmps20
  go_wp2_with fail
  have hup := ((Upd.refl [] w).alloc (.cells #[.int .i64 0, .string ⟨#[]⟩, .string ⟨#[]⟩, .float .f64 0, .int .i64 0, .slice none 0 0] 49)).alloc (.cells #[.int .i64 0, .string ⟨#[]⟩, .string ⟨#[]⟩, .float .f64 0, .int .i64 0, .slice none 0 0] 49)
  have hrb := (Blk.new w 49 #[.int .i64 0, .string ⟨#[]⟩, .string ⟨#[]⟩, .float .f64 0, .int .i64 0, .slice none 0 0]).alloc (.cells #[.int .i64 0, .string ⟨#[]⟩, .string ⟨#[]⟩, .float .f64 0, .int .i64 0, .slice none 0 0] 49)
  have htb := Blk.new (w.alloc (.cells #[.int .i64 0, .string ⟨#[]⟩, .string ⟨#[]⟩, .float .f64 0, .int .i64 0, .slice none 0 0] 49)) 49 #[.int .i64 0, .string ⟨#[]⟩, .string ⟨#[]⟩, .float .f64 0, .int .i64 0, .slice none 0 0]
  have hz : (w.alloc (.cells #[.int .i64 0, .string ⟨#[]⟩, .string ⟨#[]⟩, .float .f64 0, .int .i64 0, .slice none 0 0] 49)).heap.size = w.heap.size + 1 := by simp
  rw [hz] at htb
  clear hz
  generalize (w.alloc (.cells #[.int .i64 0, .string ⟨#[]⟩, .string ⟨#[]⟩, .float .f64 0, .int .i64 0, .slice none 0 0] 49)).alloc (.cells #[.int .i64 0, .string ⟨#[]⟩, .string ⟨#[]⟩, .float .f64 0, .int .i64 0, .slice none 0 0] 49) = W at *
  go_loopg [4] i (fun g v wr => ∃ k : Nat, k ≤ i ∧ v = .int .i64 k ∧ wr = W ∧ Hid (g = i - k))
  case atStart => exact ⟨0, by omega, rfl, rfl, rfl⟩
  case round =>
    obtain ⟨k, hk, rfl, rfl, hh⟩ := hrel
    by_cases hlt : k < i
    · have hks : k < s.size := by omega
      have hb : s[k].toNat ≤ 32 := by
        have h1 := HW.out k (by omega) hlt
        have h2 := bt_lt hks
        unfold isWs at h1
        omega
      clear hrb htb hup
      have d1 : ((s[k].toNat : Int) == 123) = false := beq_eq_false_iff_ne.2 (by omega)
      have d2 : ((s[k].toNat : Int) == 91) = false := beq_eq_false_iff_ne.2 (by omega)
      go_wp2_with fail
      go_roundg (i - (k + 1))
      case measure => have := hh.out; omega
      case rel => exact ⟨k + 1, by omega, by go_num, rfl, rfl⟩
    · have hE : k = i := by omega
      subst hE
      have hb : (s[k].toNat : Int) = 102 := by
        have h1 := HC.out
        have h2 := bt_lt hi
        omega
      have d123 : ((s[k].toNat : Int) == 123) = false := beq_eq_false_iff_ne.2 (by omega)
      have d91 : ((s[k].toNat : Int) == 91) = false := beq_eq_false_iff_ne.2 (by omega)
      have d43 : ((s[k].toNat : Int) == 43) = false := beq_eq_false_iff_ne.2 (by omega)
      have d45 : ((s[k].toNat : Int) == 45) = false := beq_eq_false_iff_ne.2 (by omega)
      have d48 : ((s[k].toNat : Int) == 48) = false := beq_eq_false_iff_ne.2 (by omega)
      have d49 : ((s[k].toNat : Int) == 49) = false := beq_eq_false_iff_ne.2 (by omega)
      have d50 : ((s[k].toNat : Int) == 50) = false := beq_eq_false_iff_ne.2 (by omega)
      have d51 : ((s[k].toNat : Int) == 51) = false := beq_eq_false_iff_ne.2 (by omega)
      have d52 : ((s[k].toNat : Int) == 52) = false := beq_eq_false_iff_ne.2 (by omega)
      have d53 : ((s[k].toNat : Int) == 53) = false := beq_eq_false_iff_ne.2 (by omega)
      have d54 : ((s[k].toNat : Int) == 54) = false := beq_eq_false_iff_ne.2 (by omega)
      have d55 : ((s[k].toNat : Int) == 55) = false := beq_eq_false_iff_ne.2 (by omega)
      have d56 : ((s[k].toNat : Int) == 56) = false := beq_eq_false_iff_ne.2 (by omega)
      have d57 : ((s[k].toNat : Int) == 57) = false := beq_eq_false_iff_ne.2 (by omega)
      have d105 : ((s[k].toNat : Int) == 105) = false := beq_eq_false_iff_ne.2 (by omega)
      have d73 : ((s[k].toNat : Int) == 73) = false := beq_eq_false_iff_ne.2 (by omega)
      have d78 : ((s[k].toNat : Int) == 78) = false := beq_eq_false_iff_ne.2 (by omega)
      have d110 : ((s[k].toNat : Int) == 110) = false := beq_eq_false_iff_ne.2 (by omega)
      have d116 : ((s[k].toNat : Int) == 116) = false := beq_eq_false_iff_ne.2 (by omega)
      have d102 : ((s[k].toNat : Int) == 102) = true := beq_iff_eq.2 (by omega)
      have e3 : decide ((s[k].toNat : Int) ≤ 32) = false := decide_eq_false (by omega)
      clear hb
      have tf := htb.frozen
      have t0 := htb.cell 0
      have t1 := htb.cell 1
      have t2 := htb.cell 2
      have t3 := htb.cell 3
      have t4 := htb.cell 4
      have t5 := htb.cell 5
      simp only [List.getElem?_toArray, List.getElem?_cons_zero, List.getElem?_cons_succ] at t0 t1 t2 t3 t4 t5
      have hsz : (s.extract k s.size).size = s.size - k := by simp only [ByteArray.size_extract]; omega
      have hz1 : 1 ≤ (s.extract k s.size).size := by omega
      have hz2 : (s.extract k s.size).size ≤ 2 ^ 31 := by omega
      go_wp2_with (go_at_call 35; refine (tolit_any _ (s.extract k s.size) hz1 hz2).mono ?_; rintro e w1 ⟨n, rfl, hlit, rfl⟩)
      clear tf t0 t1 t2 t3 t4 t5
      refine (exists_yes _ 1 ((s.extract k s.size).extract 0 n) ⟨#[]⟩ 0 0 (.inl (by decide))).mono ?_
      rintro e w5 ⟨rfl, rfl⟩
      have htb5 : Blk (((wr.setCell ⟨w.heap.size + 1, 0, none⟩ (.int .i64 1)).setCell ⟨w.heap.size + 1, 1, none⟩ (.string ((s.extract k s.size).extract 0 n))).alloc (.cells (resCells 1 ((s.extract k s.size).extract 0 n) ⟨#[]⟩ 0 0) 49)) (w.heap.size + 1) 49 #[.int .i64 1, .string ((s.extract k s.size).extract 0 n), .string ⟨#[]⟩, .float .f64 0, .int .i64 0, .slice none 0 0] := ((htb.set_ 0 _).set_ 1 _).alloc _
      have hrb5 := ((hrb.far (p := ⟨w.heap.size + 1, 0, none⟩) (by simp) (.int .i64 1)).far (p := ⟨w.heap.size + 1, 1, none⟩) (by simp) (.string ((s.extract k s.size).extract 0 n))).alloc (.cells (resCells 1 ((s.extract k s.size).extract 0 n) ⟨#[]⟩ 0 0) 49)
      have hup5 := ((hup.setCell (p := ⟨w.heap.size + 1, 0, none⟩) (.inr (Nat.le_succ _)) (.int .i64 1)).setCell (p := ⟨w.heap.size + 1, 1, none⟩) (.inr (Nat.le_succ _)) (.string ((s.extract k s.size).extract 0 n))).alloc (.cells (resCells 1 ((s.extract k s.size).extract 0 n) ⟨#[]⟩ 0 0) 49)
      generalize ((wr.setCell ⟨w.heap.size + 1, 0, none⟩ (.int .i64 1)).setCell ⟨w.heap.size + 1, 1, none⟩ (.string ((s.extract k s.size).extract 0 n))).alloc (.cells (resCells 1 ((s.extract k s.size).extract 0 n) ⟨#[]⟩ 0 0) 49) = W5 at *
      clear htb hrb hup
      have htb6 : Blk (W5.setCell ⟨w.heap.size + 1, 4, none⟩ (.int .i64 k)) (w.heap.size + 1) 49 #[.int .i64 1, .string ((s.extract k s.size).extract 0 n), .string ⟨#[]⟩, .float .f64 0, .int .i64 k, .slice none 0 0] := htb5.set_ 4 _
      have hrb6 := hrb5.far (p := ⟨w.heap.size + 1, 4, none⟩) (by simp) (.int .i64 k)
      have hup6 := hup5.setCell (p := ⟨w.heap.size + 1, 4, none⟩) (.inr (Nat.le_succ _)) (.int .i64 k)
      have tf := htb5.frozen
      have t4 := htb5.cell 4
      simp only [List.getElem?_toArray, List.getElem?_cons_zero, List.getElem?_cons_succ] at t4
      go_upto_region 45 with fail
      clear tf t4
      generalize W5.setCell ⟨w.heap.size + 1, 4, none⟩ (.int .i64 k) = W6 at *
      clear htb5 hrb5 hup5
      have tf := htb6.frozen
      have t0 := htb6.cell 0
      have t1 := htb6.cell 1
      have t2 := htb6.cell 2
      have t3 := htb6.cell 3
      have t4 := htb6.cell 4
      have t5 := htb6.cell 5
      have rf := hrb6.frozen
      have r0 := hrb6.cell 0
      have r1 := hrb6.cell 1
      have r2 := hrb6.cell 2
      have r3 := hrb6.cell 3
      have r4 := hrb6.cell 4
      have r5 := hrb6.cell 5
      simp only [List.getElem?_toArray, List.getElem?_cons_zero, List.getElem?_cons_succ] at t0 t1 t2 t3 t4 t5 r0 r1 r2 r3 r4 r5
      have rsf := run_store_float64 (P := Tryz.prog)
      go_wp2_with fail
      have HB := (((((hrb6.set_ 0 (.int .i64 1)).set_ 1 (.string ((s.extract k s.size).extract 0 n))).set_ 2 (.string ⟨#[]⟩)).set_ 3 (.float .f64 0)).set_ 4 (.int .i64 k)).set_ 5 (.slice none 0 0)
      refine bodyPost_ret (res_parse (c0 := .int .i64 1) (c1 := .string ((s.extract k s.size).extract 0 n)) (c2 := .string ⟨#[]⟩) (c3 := .float .f64 0) (c4 := .int .i64 k) (c5 := .slice none 0 0) HB _ rfl) rfl ?_
      exact ⟨n, rfl, hlit, parse_end hup6⟩

set_option maxRecDepth 100000 in
set_option maxHeartbeats 4000000 in
theorem parse_null (w : World) (s : ByteArray) (i : Nat) (hs : s.size ≤ 2 ^ 31) (hws : Ws s 0 i) (hc : bt s i = 110) (hc2 : bt s (i + 1) = 117) :
    Calls Tryz.prog 20 #[.string s] w fun e w' => Word1 w s i 0 e w' := by
  have hi : i < s.size := lt_of_bt (by omega)
  have hi1 : i + 1 < s.size := lt_of_bt (by omega)
  have hb1 : ((s[i + 1].toNat : Int)) = 117 := by rw [bt_lt hi1]; exact hc2
  clear hc2
  have HW := Lib.hid hws.2.2.1
  have HC := Lib.hid hc
  clear hws hc
  go_enter Tryz.func20, Tryz.ntmps20
  go_wp2_with fail
  have hup := ((Upd.refl [] w).alloc (.cells #[.int .i64 0, .string ⟨#[]⟩, .string ⟨#[]⟩, .float .f64 0, .int .i64 0, .slice none 0 0] 49)).alloc (.cells #[.int .i64 0, .string ⟨#[]⟩, .string ⟨#[]⟩, .float .f64 0, .int .i64 0, .slice none 0 0] 49)
  have hrb := (Blk.new w 49 #[.int .i64 0, .string ⟨#[]⟩, .string ⟨#[]⟩, .float .f64 0, .int .i64 0, .slice none 0 0]).alloc (.cells #[.int .i64 0, .string ⟨#[]⟩, .string ⟨#[]⟩, .float .f64 0, .int .i64 0, .slice none 0 0] 49)
  have htb := Blk.new (w.alloc (.cells #[.int .i64 0, .string ⟨#[]⟩, .string ⟨#[]⟩, .float .f64 0, .int .i64 0, .slice none 0 0] 49)) 49 #[.int .i64 0, .string ⟨#[]⟩, .string ⟨#[]⟩, .float .f64 0, .int .i64 0, .slice none 0 0]
  have hz : (w.alloc (.cells #[.int .i64 0, .string ⟨#[]⟩, .string ⟨#[]⟩, .float .f64 0, .int .i64 0, .slice none 0 0] 49)).heap.size = w.heap.size + 1 := by simp
  rw [hz] at htb
  clear hz
  generalize (w.alloc (.cells #[.int .i64 0, .string ⟨#[]⟩, .string ⟨#[]⟩, .float .f64 0, .int .i64 0, .slice none 0 0] 49)).alloc (.cells #[.int .i64 0, .string ⟨#[]⟩, .string ⟨#[]⟩, .float .f64 0, .int .i64 0, .slice none 0 0] 49) = W at *
  go_loopg [4] i (fun g v wr => ∃ k : Nat, k ≤ i ∧ v = .int .i64 k ∧ wr = W ∧ Hid (g = i - k))
  case atStart => exact ⟨0, by omega, rfl, rfl, rfl⟩
  case round =>
    obtain ⟨k, hk, rfl, rfl, hh⟩ := hrel
    by_cases hlt : k < i
    · have hks : k < s.size := by omega
      have hb : s[k].toNat ≤ 32 := by
        have h1 := HW.out k (by omega) hlt
        have h2 := bt_lt hks
        unfold isWs at h1
        omega
      clear hrb htb hup
      have d1 : ((s[k].toNat : Int) == 123) = false := beq_eq_false_iff_ne.2 (by omega)
      have d2 : ((s[k].toNat : Int) == 91) = false := beq_eq_false_iff_ne.2 (by omega)
      go_wp2_with fail
      go_roundg (i - (k + 1))
      case measure => have := hh.out; omega
      case rel => exact ⟨k + 1, by omega, by go_num, rfl, rfl⟩
    · have hE : k = i := by omega
      subst hE
      have hb : (s[k].toNat : Int) = 110 := by
        have h1 := HC.out
        have h2 := bt_lt hi
        omega
      have d123 : ((s[k].toNat : Int) == 123) = false := beq_eq_false_iff_ne.2 (by omega)
      have d91 : ((s[k].toNat : Int) == 91) = false := beq_eq_false_iff_ne.2 (by omega)
      have d43 : ((s[k].toNat : Int) == 43) = false := beq_eq_false_iff_ne.2 (by omega)
      have d45 : ((s[k].toNat : Int) == 45) = false := beq_eq_false_iff_ne.2 (by omega)
      have d48 : ((s[k].toNat : Int) == 48) = false := beq_eq_false_iff_ne.2 (by omega)
      have d49 : ((s[k].toNat : Int) == 49) = false := beq_eq_false_iff_ne.2 (by omega)
      have d50 : ((s[k].toNat : Int) == 50) = false := beq_eq_false_iff_ne.2 (by omega)
      have d51 : ((s[k].toNat : Int) == 51) = false := beq_eq_false_iff_ne.2 (by omega)
      have d52 : ((s[k].toNat : Int) == 52) = false := beq_eq_false_iff_ne.2 (by omega)
      have d53 : ((s[k].toNat : Int) == 53) = false := beq_eq_false_iff_ne.2 (by omega)
      have d54 : ((s[k].toNat : Int) == 54) = false := beq_eq_false_iff_ne.2 (by omega)
      have d55 : ((s[k].toNat : Int) == 55) = false := beq_eq_false_iff_ne.2 (by omega)
      have d56 : ((s[k].toNat : Int) == 56) = false := beq_eq_false_iff_ne.2 (by omega)
      have d57 : ((s[k].toNat : Int) == 57) = false := beq_eq_false_iff_ne.2 (by omega)
      have d105 : ((s[k].toNat : Int) == 105) = false := beq_eq_false_iff_ne.2 (by omega)
      have d73 : ((s[k].toNat : Int) == 73) = false := beq_eq_false_iff_ne.2 (by omega)
      have d78 : ((s[k].toNat : Int) == 78) = false := beq_eq_false_iff_ne.2 (by omega)
      have d110 : ((s[k].toNat : Int) == 110) = true := beq_iff_eq.2 (by omega)
      have e1 : decide (((k : Int) + 1) < (s.size : Int)) = true := decide_eq_true (by omega)
      have e2 : ∀ w, (Instr.index 9 (.string s) (.int .i64 ((k : Int) + 1))).run Tryz.prog w = .ok (.int .u8 117) w := fun w => (idx_nat s _ (k + 1) (by omega) hi1 w).trans (by rw [← bt_lt hi1, hb1])
      clear hb1
      have e3 : decide ((s[k].toNat : Int) ≤ 32) = false := decide_eq_false (by omega)
      clear hb
      have tf := htb.frozen
      have t0 := htb.cell 0
      have t1 := htb.cell 1
      have t2 := htb.cell 2
      have t3 := htb.cell 3
      have t4 := htb.cell 4
      have t5 := htb.cell 5
      simp only [List.getElem?_toArray, List.getElem?_cons_zero, List.getElem?_cons_succ] at t0 t1 t2 t3 t4 t5
      have hsz : (s.extract k s.size).size = s.size - k := by simp only [ByteArray.size_extract]; omega
      have hz1 : 1 ≤ (s.extract k s.size).size := by omega
      have hz2 : (s.extract k s.size).size ≤ 2 ^ 31 := by omega
      go_wp2_with (go_at_call 35; refine (tolit_any _ (s.extract k s.size) hz1 hz2).mono ?_; rintro e w1 ⟨n, rfl, hlit, rfl⟩)
      clear tf t0 t1 t2 t3 t4 t5
      refine (exists_yes _ 0 ((s.extract k s.size).extract 0 n) ⟨#[]⟩ 0 0 (.inr (by have h1 := hlit.1; have h2 := hlit.2.1; simp only [ByteArray.size_extract] at h2 ⊢; omega))).mono ?_
      rintro e w5 ⟨rfl, rfl⟩
      have htb5 : Blk (((wr.setCell ⟨w.heap.size + 1, 0, none⟩ (.int .i64 0)).setCell ⟨w.heap.size + 1, 1, none⟩ (.string ((s.extract k s.size).extract 0 n))).alloc (.cells (resCells 0 ((s.extract k s.size).extract 0 n) ⟨#[]⟩ 0 0) 49)) (w.heap.size + 1) 49 #[.int .i64 0, .string ((s.extract k s.size).extract 0 n), .string ⟨#[]⟩, .float .f64 0, .int .i64 0, .slice none 0 0] := ((htb.set_ 0 _).set_ 1 _).alloc _
      have hrb5 := ((hrb.far (p := ⟨w.heap.size + 1, 0, none⟩) (by simp) (.int .i64 0)).far (p := ⟨w.heap.size + 1, 1, none⟩) (by simp) (.string ((s.extract k s.size).extract 0 n))).alloc (.cells (resCells 0 ((s.extract k s.size).extract 0 n) ⟨#[]⟩ 0 0) 49)
      have hup5 := ((hup.setCell (p := ⟨w.heap.size + 1, 0, none⟩) (.inr (Nat.le_succ _)) (.int .i64 0)).setCell (p := ⟨w.heap.size + 1, 1, none⟩) (.inr (Nat.le_succ _)) (.string ((s.extract k s.size).extract 0 n))).alloc (.cells (resCells 0 ((s.extract k s.size).extract 0 n) ⟨#[]⟩ 0 0) 49)
      generalize ((wr.setCell ⟨w.heap.size + 1, 0, none⟩ (.int .i64 0)).setCell ⟨w.heap.size + 1, 1, none⟩ (.string ((s.extract k s.size).extract 0 n))).alloc (.cells (resCells 0 ((s.extract k s.size).extract 0 n) ⟨#[]⟩ 0 0) 49) = W5 at *
      clear htb hrb hup
      have htb6 : Blk (W5.setCell ⟨w.heap.size + 1, 4, none⟩ (.int .i64 k)) (w.heap.size + 1) 49 #[.int .i64 0, .string ((s.extract k s.size).extract 0 n), .string ⟨#[]⟩, .float .f64 0, .int .i64 k, .slice none 0 0] := htb5.set_ 4 _
      have hrb6 := hrb5.far (p := ⟨w.heap.size + 1, 4, none⟩) (by simp) (.int .i64 k)
      have hup6 := hup5.setCell (p := ⟨w.heap.size + 1, 4, none⟩) (.inr (Nat.le_succ _)) (.int .i64 k)
      have tf := htb5.frozen
      have t4 := htb5.cell 4
      simp only [List.getElem?_toArray, List.getElem?_cons_zero, List.getElem?_cons_succ] at t4
      go_upto_region 45 with fail
      clear tf t4
      generalize W5.setCell ⟨w.heap.size + 1, 4, none⟩ (.int .i64 k) = W6 at *
      clear htb5 hrb5 hup5
      have tf := htb6.frozen
      have t0 := htb6.cell 0
      have t1 := htb6.cell 1
      have t2 := htb6.cell 2
      have t3 := htb6.cell 3
      have t4 := htb6.cell 4
      have t5 := htb6.cell 5
      have rf := hrb6.frozen
      have r0 := hrb6.cell 0
      have r1 := hrb6.cell 1
      have r2 := hrb6.cell 2
      have r3 := hrb6.cell 3
      have r4 := hrb6.cell 4
      have r5 := hrb6.cell 5
      simp only [List.getElem?_toArray, List.getElem?_cons_zero, List.getElem?_cons_succ] at t0 t1 t2 t3 t4 t5 r0 r1 r2 r3 r4 r5
      have rsf := run_store_float64 (P := Tryz.prog)
      go_wp2_with fail
      have HB := (((((hrb6.set_ 0 (.int .i64 0)).set_ 1 (.string ((s.extract k s.size).extract 0 n))).set_ 2 (.string ⟨#[]⟩)).set_ 3 (.float .f64 0)).set_ 4 (.int .i64 k)).set_ 5 (.slice none 0 0)
      refine bodyPost_ret (res_parse (c0 := .int .i64 0) (c1 := .string ((s.extract k s.size).extract 0 n)) (c2 := .string ⟨#[]⟩) (c3 := .float .f64 0) (c4 := .int .i64 k) (c5 := .slice none 0 0) HB _ rfl) rfl ?_
      exact ⟨n, rfl, hlit, parse_end hup6⟩
end Go.Proofs.YtcnkbdbkglggcaaGreatDoor

namespace Go.Proofs.YtcnkbdbkglggcaaGreatDoor
open Go.RowKit

set_option maxRecDepth 100000 in
set_option maxHeartbeats 4000000 in
theorem parse_str (w : World) (s : ByteArray) (i : Nat) (_hs : s.size ≤ 2 ^ 31) (hws : Ws s 0 i) (hc : bt s i = 34) (raw str : ByteArray)
    (ht : ∀ w, Calls Tryz.prog 36 #[.string (s.extract i s.size)] w fun e w' => e = .returned (.tuple #[.string raw, .string str]) ∧ Upd [] w w') :
    Calls Tryz.prog 20 #[.string s] w fun e w' => e = .returned (.agg (resCells 3 raw str 0 i)) ∧ Upd [] w w' := by
  have hi : i < s.size := lt_of_bt (by omega)
  have HW := Lib.hid hws.2.2.1
  have HC := Lib.hid hc
  have HT := Lib.hid ht
  clear hws hc ht
  go_enter Tryz.func20, Tryz.ntmps20
  go_wp2_with fail
  have hup := ((Upd.refl [] w).alloc (.cells #[.int .i64 0, .string ⟨#[]⟩, .string ⟨#[]⟩, .float .f64 0, .int .i64 0, .slice none 0 0] 49)).alloc (.cells #[.int .i64 0, .string ⟨#[]⟩, .string ⟨#[]⟩, .float .f64 0, .int .i64 0, .slice none 0 0] 49)
  have hrb := (Blk.new w 49 #[.int .i64 0, .string ⟨#[]⟩, .string ⟨#[]⟩, .float .f64 0, .int .i64 0, .slice none 0 0]).alloc (.cells #[.int .i64 0, .string ⟨#[]⟩, .string ⟨#[]⟩, .float .f64 0, .int .i64 0, .slice none 0 0] 49)
  have htb := Blk.new (w.alloc (.cells #[.int .i64 0, .string ⟨#[]⟩, .string ⟨#[]⟩, .float .f64 0, .int .i64 0, .slice none 0 0] 49)) 49 #[.int .i64 0, .string ⟨#[]⟩, .string ⟨#[]⟩, .float .f64 0, .int .i64 0, .slice none 0 0]
  have hz : (w.alloc (.cells #[.int .i64 0, .string ⟨#[]⟩, .string ⟨#[]⟩, .float .f64 0, .int .i64 0, .slice none 0 0] 49)).heap.size = w.heap.size + 1 := by simp
  rw [hz] at htb
  clear hz
  generalize (w.alloc (.cells #[.int .i64 0, .string ⟨#[]⟩, .string ⟨#[]⟩, .float .f64 0, .int .i64 0, .slice none 0 0] 49)).alloc (.cells #[.int .i64 0, .string ⟨#[]⟩, .string ⟨#[]⟩, .float .f64 0, .int .i64 0, .slice none 0 0] 49) = W at *
  go_loopg [4] i (fun g v wr => ∃ k : Nat, k ≤ i ∧ v = .int .i64 k ∧ wr = W ∧ Hid (g = i - k))
  case atStart => exact ⟨0, by omega, rfl, rfl, rfl⟩
  case round =>
    obtain ⟨k, hk, rfl, rfl, hh⟩ := hrel
    by_cases hlt : k < i
    · have hks : k < s.size := by omega
      have hb : s[k].toNat ≤ 32 := by
        have h1 := HW.out k (by omega) hlt
        have h2 := bt_lt hks
        unfold isWs at h1
        omega
      clear hrb htb hup
      have d1 : ((s[k].toNat : Int) == 123) = false := beq_eq_false_iff_ne.2 (by omega)
      have d2 : ((s[k].toNat : Int) == 91) = false := beq_eq_false_iff_ne.2 (by omega)
      go_wp2_with fail
      go_roundg (i - (k + 1))
      case measure => have := hh.out; omega
      case rel => exact ⟨k + 1, by omega, by go_num, rfl, rfl⟩
    · have hE : k = i := by omega
      subst hE
      have hb : (s[k].toNat : Int) = 34 := by
        have h1 := HC.out
        have h2 := bt_lt hi
        omega
      have d123 : ((s[k].toNat : Int) == 123) = false := beq_eq_false_iff_ne.2 (by omega)
      have d91 : ((s[k].toNat : Int) == 91) = false := beq_eq_false_iff_ne.2 (by omega)
      have d43 : ((s[k].toNat : Int) == 43) = false := beq_eq_false_iff_ne.2 (by omega)
      have d45 : ((s[k].toNat : Int) == 45) = false := beq_eq_false_iff_ne.2 (by omega)
      have d48 : ((s[k].toNat : Int) == 48) = false := beq_eq_false_iff_ne.2 (by omega)
      have d49 : ((s[k].toNat : Int) == 49) = false := beq_eq_false_iff_ne.2 (by omega)
      have d50 : ((s[k].toNat : Int) == 50) = false := beq_eq_false_iff_ne.2 (by omega)
      have d51 : ((s[k].toNat : Int) == 51) = false := beq_eq_false_iff_ne.2 (by omega)
      have d52 : ((s[k].toNat : Int) == 52) = false := beq_eq_false_iff_ne.2 (by omega)
      have d53 : ((s[k].toNat : Int) == 53) = false := beq_eq_false_iff_ne.2 (by omega)
      have d54 : ((s[k].toNat : Int) == 54) = false := beq_eq_false_iff_ne.2 (by omega)
      have d55 : ((s[k].toNat : Int) == 55) = false := beq_eq_false_iff_ne.2 (by omega)
      have d56 : ((s[k].toNat : Int) == 56) = false := beq_eq_false_iff_ne.2 (by omega)
      have d57 : ((s[k].toNat : Int) == 57) = false := beq_eq_false_iff_ne.2 (by omega)
      have d105 : ((s[k].toNat : Int) == 105) = false := beq_eq_false_iff_ne.2 (by omega)
      have d73 : ((s[k].toNat : Int) == 73) = false := beq_eq_false_iff_ne.2 (by omega)
      have d78 : ((s[k].toNat : Int) == 78) = false := beq_eq_false_iff_ne.2 (by omega)
      have d110 : ((s[k].toNat : Int) == 110) = false := beq_eq_false_iff_ne.2 (by omega)
      have d116 : ((s[k].toNat : Int) == 116) = false := beq_eq_false_iff_ne.2 (by omega)
      have d102 : ((s[k].toNat : Int) == 102) = false := beq_eq_false_iff_ne.2 (by omega)
      have d34 : ((s[k].toNat : Int) == 34) = true := beq_iff_eq.2 (by omega)
      have e3 : decide ((s[k].toNat : Int) ≤ 32) = false := decide_eq_false (by omega)
      clear hb
      have tf := htb.frozen
      have t0 := htb.cell 0
      have t1 := htb.cell 1
      have t2 := htb.cell 2
      have t3 := htb.cell 3
      have t4 := htb.cell 4
      have t5 := htb.cell 5
      simp only [List.getElem?_toArray, List.getElem?_cons_zero, List.getElem?_cons_succ] at t0 t1 t2 t3 t4 t5
      go_wp2_with (go_at_call 36; refine (HT.out _).mono ?_; rintro e w1 ⟨rfl, hu1⟩; have htb1 := (htb.set_ 0 (.int .i64 3)).upd hu1 (by simp); have hrb1 := (hrb.far (p := ⟨w.heap.size + 1, 0, none⟩) (by simp) (.int .i64 3)).upd hu1 (by simp); have hup1 := (hup.setCell (p := ⟨w.heap.size + 1, 0, none⟩) (.inr (Nat.le_succ _)) (.int .i64 3)).trans hu1; clear tf t0 t1 t2 t3 t4 t5; have tf := htb1.frozen; have t0 := htb1.cell 0; have t1 := htb1.cell 1; have t2 := htb1.cell 2; have t3 := htb1.cell 3; have t4 := htb1.cell 4; have t5 := htb1.cell 5; simp only [Array.setIfInBounds_def, List.getElem?_toArray, List.getElem?_cons_zero, List.getElem?_cons_succ] at t0 t1 t2 t3 t4 t5; simp at t0 t1 t2 t3 t4 t5)
      clear tf t0 t1 t2 t3 t4 t5
      refine (exists_yes _ 3 raw str 0 0 (.inl (by decide))).mono ?_
      rintro e w5 ⟨rfl, rfl⟩
      have htb5 : Blk (((w1.setCell ⟨w.heap.size + 1, 1, none⟩ (.string raw)).setCell ⟨w.heap.size + 1, 2, none⟩ (.string str)).alloc (.cells (resCells 3 raw str 0 0) 49)) (w.heap.size + 1) 49 #[.int .i64 3, .string raw, .string str, .float .f64 0, .int .i64 0, .slice none 0 0] := ((htb1.set_ 1 _).set_ 2 _).alloc _
      have hrb5 := ((hrb1.far (p := ⟨w.heap.size + 1, 1, none⟩) (by simp) (.string raw)).far (p := ⟨w.heap.size + 1, 2, none⟩) (by simp) (.string str)).alloc (.cells (resCells 3 raw str 0 0) 49)
      have hup5 := ((hup1.setCell (p := ⟨w.heap.size + 1, 1, none⟩) (.inr (Nat.le_succ _)) (.string raw)).setCell (p := ⟨w.heap.size + 1, 2, none⟩) (.inr (Nat.le_succ _)) (.string str)).alloc (.cells (resCells 3 raw str 0 0) 49)
      generalize ((w1.setCell ⟨w.heap.size + 1, 1, none⟩ (.string raw)).setCell ⟨w.heap.size + 1, 2, none⟩ (.string str)).alloc (.cells (resCells 3 raw str 0 0) 49) = W5 at *
      clear htb hrb hup htb1 hrb1 hup1 hu1
      have htb6 : Blk (W5.setCell ⟨w.heap.size + 1, 4, none⟩ (.int .i64 k)) (w.heap.size + 1) 49 #[.int .i64 3, .string raw, .string str, .float .f64 0, .int .i64 k, .slice none 0 0] := htb5.set_ 4 _
      have hrb6 := hrb5.far (p := ⟨w.heap.size + 1, 4, none⟩) (by simp) (.int .i64 k)
      have hup6 := hup5.setCell (p := ⟨w.heap.size + 1, 4, none⟩) (.inr (Nat.le_succ _)) (.int .i64 k)
      have tf := htb5.frozen
      have t4 := htb5.cell 4
      simp only [List.getElem?_toArray, List.getElem?_cons_zero, List.getElem?_cons_succ] at t4
      go_upto_region 45 with fail
      clear tf t4
      generalize W5.setCell ⟨w.heap.size + 1, 4, none⟩ (.int .i64 k) = W6 at *
      clear htb5 hrb5 hup5
      have tf := htb6.frozen
      have t0 := htb6.cell 0
      have t1 := htb6.cell 1
      have t2 := htb6.cell 2
      have t3 := htb6.cell 3
      have t4 := htb6.cell 4
      have t5 := htb6.cell 5
      have rf := hrb6.frozen
      have r0 := hrb6.cell 0
      have r1 := hrb6.cell 1
      have r2 := hrb6.cell 2
      have r3 := hrb6.cell 3
      have r4 := hrb6.cell 4
      have r5 := hrb6.cell 5
      simp only [List.getElem?_toArray, List.getElem?_cons_zero, List.getElem?_cons_succ] at t0 t1 t2 t3 t4 t5 r0 r1 r2 r3 r4 r5
      have rsf := run_store_float64 (P := Tryz.prog)
      go_wp2_with fail
      have HB := (((((hrb6.set_ 0 (.int .i64 3)).set_ 1 (.string raw)).set_ 2 (.string str)).set_ 3 (.float .f64 0)).set_ 4 (.int .i64 k)).set_ 5 (.slice none 0 0)
      refine bodyPost_ret (res_parse (c0 := .int .i64 3) (c1 := .string raw) (c2 := .string str) (c3 := .float .f64 0) (c4 := .int .i64 k) (c5 := .slice none 0 0) HB _ rfl) rfl ?_
      exact ⟨rfl, parse_end hup6⟩
end Go.Proofs.YtcnkbdbkglggcaaGreatDoor
