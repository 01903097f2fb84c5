/-
  The program's 'parseAny' on a word behind white space. Condition: the text has at most 2^31 bytes.
-/
import Derived.Test.YtcnkbdbkglggcaaGreatDoorZMJ
import Derived.Test.YtcnkbdbkglggcaaGreatDoorZMF
import Derived.RegionTactic
import Derived.Deep.CutBlock
import Derived.Deep.DeepCutAuto
set_option linter.unusedVariables false
set_option linter.unusedSimpArgs false
namespace Go.Proofs.YtcnkbdbkglggcaaGreatDoor
open Go.RowKit

set_option maxRecDepth 100000 in
set_option maxHeartbeats 8000000 in
theorem pany_true (w : World) (v : ByteArray) (a0 a b : Nat) (hs : v.size ≤ 2 ^ 31) (ha0 : a0 ≤ a) (hw : ∀ y, a0 ≤ y → y < a → bt v y ≤ 32) (hb : b ≤ v.size) (hab : a < b) (hc : bt v a = 116) (hin : ∀ y, a + 1 ≤ y → y < b → 97 ≤ bt v y ∧ bt v y ≤ 122) (hout : b < v.size → bt v b < 97 ∨ 122 < bt v b) :
    Calls Tryz.prog 67 #[.string v, .int .i64 (a0 : Int), .bool true] w fun e w' => PAny w 4 (v.extract a b) (fun _ => True) b e w' := by
  have hi : a < v.size := by omega
  have PL := Lib.hid (fun w1 : World => plit_any w1 v a b hs hab hb hin hout)
  have HW := Lib.hid hw
  have HC := Lib.hid hc
  obtain ⟨R, hR⟩ : ∃ R, R = v.extract a b := ⟨_, rfl⟩
  rw [← hR] at PL
  rw [← hR]
  clear hw hc hin hout hR
  go_enter Tryz.func67, Tryz.ntmps67
  go_wp2_with fail
  have hup := ((Upd.refl [] w).alloc (.cells #[.int .i64 0, .string ⟨#[]⟩, .string ⟨#[]⟩, .float .f64 0, .int .i64 0, .slice none 0 0] 49)).alloc (.cells #[.int .i64 0, .string ⟨#[]⟩, .string ⟨#[]⟩, .float .f64 0, .int .i64 0, .slice none 0 0] 49)
  have hrb := (Blk.new w 49 #[.int .i64 0, .string ⟨#[]⟩, .string ⟨#[]⟩, .float .f64 0, .int .i64 0, .slice none 0 0]).alloc (.cells #[.int .i64 0, .string ⟨#[]⟩, .string ⟨#[]⟩, .float .f64 0, .int .i64 0, .slice none 0 0] 49)
  have htb := Blk.new (w.alloc (.cells #[.int .i64 0, .string ⟨#[]⟩, .string ⟨#[]⟩, .float .f64 0, .int .i64 0, .slice none 0 0] 49)) 49 #[.int .i64 0, .string ⟨#[]⟩, .string ⟨#[]⟩, .float .f64 0, .int .i64 0, .slice none 0 0]
  have hz : (w.alloc (.cells #[.int .i64 0, .string ⟨#[]⟩, .string ⟨#[]⟩, .float .f64 0, .int .i64 0, .slice none 0 0] 49)).heap.size = w.heap.size + 1 := by simp
  rw [hz] at htb
  clear hz
  generalize (w.alloc (.cells #[.int .i64 0, .string ⟨#[]⟩, .string ⟨#[]⟩, .float .f64 0, .int .i64 0, .slice none 0 0] 49)).alloc (.cells #[.int .i64 0, .string ⟨#[]⟩, .string ⟨#[]⟩, .float .f64 0, .int .i64 0, .slice none 0 0] 49) = W at *
  go_loopg [1] (a - a0) (fun g x1 wr => ∃ k : Nat, a0 ≤ k ∧ k ≤ a ∧ x1 = .int .i64 k ∧ wr = W ∧ Hid (g = a - k))
  case atStart => exact ⟨a0, by omega, ha0, rfl, rfl, rfl⟩
  case round =>
    obtain ⟨k, hk0, hk, rfl, rfl, hh⟩ := hrel
    by_cases hlt : k < a
    · have hks : k < v.size := by omega
      have hb : v[k].toNat ≤ 32 := by
        have h1 := HW.out k (by omega) hlt
        have h2 := bt_lt hks
        omega
      clear hrb htb hup
      have d1 : ((v[k].toNat : Int) == 123) = false := beq_eq_false_iff_ne.2 (by omega)
      have d2 : ((v[k].toNat : Int) == 91) = false := beq_eq_false_iff_ne.2 (by omega)
      go_wp2_with fail
      go_roundg (a - (k + 1))
      case measure => have := hh.out; omega
      case rel => exact ⟨k + 1, by omega, by omega, by go_num, rfl, rfl⟩
    · have hE : k = a := by omega
      subst hE
      clear hlt
      have tf := htb.frozen
      have t0 := htb.cell 0
      have t1 := htb.cell 1
      have t2 := htb.cell 2
      have t3 := htb.cell 3
      have t4 := htb.cell 4
      have t5 := htb.cell 5
      simp only [List.getElem?_toArray, List.getElem?_cons_zero, List.getElem?_cons_succ] at t0 t1 t2 t3 t4 t5
      have rsf := run_store_float64 (P := Tryz.prog)
      have hb2 : (v[k].toNat : Int) = 116 := by
        have h1 := HC.out
        have h2 := bt_lt hi
        omega
      have d1 : ((v[k].toNat : Int) == 123) = false := beq_eq_false_iff_ne.2 (by omega)
      have d2 : ((v[k].toNat : Int) == 91) = false := beq_eq_false_iff_ne.2 (by omega)
      have d34 : ((v[k].toNat : Int) == 34) = false := beq_eq_false_iff_ne.2 (by omega)
      have d110 : ((v[k].toNat : Int) == 110) = false := beq_eq_false_iff_ne.2 (by omega)
      have d116 : ((v[k].toNat : Int) == 116) = true := beq_iff_eq.2 (by omega)
      have d102 : ((v[k].toNat : Int) == 102) = false := beq_eq_false_iff_ne.2 (by omega)
      have e32 : decide ((v[k].toNat : Int) ≤ 32) = false := decide_eq_false (by omega)
      have e32' : decide (v[k].toNat ≤ 32) = false := decide_eq_false (by omega)
      clear hb2
      go_upto_region 59 with (go_at_call 87; refine (PL.out _).mono ?_; rintro e w1 ⟨rfl, hu1⟩; have htb1 := htb.upd hu1 (by simp); have hrb1 := hrb.upd hu1 (by simp); have hup1 := hup.trans hu1; clear tf t0 t1 t2 t3 t4 t5; have tf := htb1.frozen; have t0 := htb1.cell 0; have t1 := htb1.cell 1; have t2 := htb1.cell 2; have t3 := htb1.cell 3; have t4 := htb1.cell 4; have t5 := htb1.cell 5; simp only [Array.setIfInBounds_def, List.getElem?_toArray, List.getElem?_cons_zero, List.getElem?_cons_succ] at t0 t1 t2 t3 t4 t5; try simp at t0 t1 t2 t3 t4 t5)
      clear tf t0 t1 t2 t3 t4 t5
      have htb6 : Blk ((w1.setCell ⟨w.heap.size + 1, 1, none⟩ (.string R)).setCell ⟨w.heap.size + 1, 0, none⟩ (.int .i64 4)) (w.heap.size + 1) 49 #[.int .i64 4, .string R, .string ⟨#[]⟩, .float .f64 0, .int .i64 0, .slice none 0 0] := ((htb1.set_ 1 _).set_ 0 _)
      have hrb6 := ((hrb1.far (p := ⟨w.heap.size + 1, 1, none⟩) (by simp) (.string R)).far (p := ⟨w.heap.size + 1, 0, none⟩) (by simp) (.int .i64 4))
      have hup6 := ((hup1.setCell (p := ⟨w.heap.size + 1, 1, none⟩) (.inr (Nat.le_succ _)) (.string R)).setCell (p := ⟨w.heap.size + 1, 0, none⟩) (.inr (Nat.le_succ _)) (.int .i64 4))
      obtain ⟨W6, hW6⟩ : ∃ X0 : World, X0 = ((w1.setCell ⟨w.heap.size + 1, 1, none⟩ (.string R)).setCell ⟨w.heap.size + 1, 0, none⟩ (.int .i64 4)) := ⟨_, rfl⟩
      rw [← hW6] at htb6 hrb6 hup6
      rw [← hW6]
      clear hW6 htb htb1 hrb hrb1 hup hup1 hu1
      have tf := htb6.frozen
      have t0 := htb6.cell 0
      have t1 := htb6.cell 1
      have t2 := htb6.cell 2
      have t3 := htb6.cell 3
      have t4 := htb6.cell 4
      have t5 := htb6.cell 5
      have qf := hrb6.frozen
      have r0 := hrb6.cell 0
      have r1 := hrb6.cell 1
      have r2 := hrb6.cell 2
      have r3 := hrb6.cell 3
      have r4 := hrb6.cell 4
      have r5 := hrb6.cell 5
      simp only [List.getElem?_toArray, List.getElem?_cons_zero, List.getElem?_cons_succ] at t0 t1 t2 t3 t4 t5 r0 r1 r2 r3 r4 r5
      go_region
      go_wp2_with fail
      have HB := Blk.drew ((((((hrb6.set_ 0 (.int .i64 4)).set_ 1 (.string R)).set_ 2 (.string ⟨#[]⟩)).set_ 3 (.float .f64 0)).set_ 4 (.int .i64 0)).set_ 5 (.slice none 0 0))
      exact bodyPost_ret (res_pany HB _ rfl rfl rfl) rfl ⟨⟨_, _, _, rfl, trivial⟩, pany_end hup6⟩
set_option maxRecDepth 100000 in
set_option maxHeartbeats 8000000 in
theorem pany_false (w : World) (v : ByteArray) (a0 a b : Nat) (hs : v.size ≤ 2 ^ 31) (ha0 : a0 ≤ a) (hw : ∀ y, a0 ≤ y → y < a → bt v y ≤ 32) (hb : b ≤ v.size) (hab : a < b) (hc : bt v a = 102) (hin : ∀ y, a + 1 ≤ y → y < b → 97 ≤ bt v y ∧ bt v y ≤ 122) (hout : b < v.size → bt v b < 97 ∨ 122 < bt v b) :
    Calls Tryz.prog 67 #[.string v, .int .i64 (a0 : Int), .bool true] w fun e w' => PAny w 1 (v.extract a b) (fun _ => True) b e w' := by
  have hi : a < v.size := by omega
  have PL := Lib.hid (fun w1 : World => plit_any w1 v a b hs hab hb hin hout)
  have HW := Lib.hid hw
  have HC := Lib.hid hc
  obtain ⟨R, hR⟩ : ∃ R, R = v.extract a b := ⟨_, rfl⟩
  rw [← hR] at PL
  rw [← hR]
  clear hw hc hin hout hR
  go_enter Tryz.func67, Tryz.ntmps67
  go_wp2_with fail
  have hup := ((Upd.refl [] w).alloc (.cells #[.int .i64 0, .string ⟨#[]⟩, .string ⟨#[]⟩, .float .f64 0, .int .i64 0, .slice none 0 0] 49)).alloc (.cells #[.int .i64 0, .string ⟨#[]⟩, .string ⟨#[]⟩, .float .f64 0, .int .i64 0, .slice none 0 0] 49)
  have hrb := (Blk.new w 49 #[.int .i64 0, .string ⟨#[]⟩, .string ⟨#[]⟩, .float .f64 0, .int .i64 0, .slice none 0 0]).alloc (.cells #[.int .i64 0, .string ⟨#[]⟩, .string ⟨#[]⟩, .float .f64 0, .int .i64 0, .slice none 0 0] 49)
  have htb := Blk.new (w.alloc (.cells #[.int .i64 0, .string ⟨#[]⟩, .string ⟨#[]⟩, .float .f64 0, .int .i64 0, .slice none 0 0] 49)) 49 #[.int .i64 0, .string ⟨#[]⟩, .string ⟨#[]⟩, .float .f64 0, .int .i64 0, .slice none 0 0]
  have hz : (w.alloc (.cells #[.int .i64 0, .string ⟨#[]⟩, .string ⟨#[]⟩, .float .f64 0, .int .i64 0, .slice none 0 0] 49)).heap.size = w.heap.size + 1 := by simp
  rw [hz] at htb
  clear hz
  generalize (w.alloc (.cells #[.int .i64 0, .string ⟨#[]⟩, .string ⟨#[]⟩, .float .f64 0, .int .i64 0, .slice none 0 0] 49)).alloc (.cells #[.int .i64 0, .string ⟨#[]⟩, .string ⟨#[]⟩, .float .f64 0, .int .i64 0, .slice none 0 0] 49) = W at *
  go_loopg [1] (a - a0) (fun g x1 wr => ∃ k : Nat, a0 ≤ k ∧ k ≤ a ∧ x1 = .int .i64 k ∧ wr = W ∧ Hid (g = a - k))
  case atStart => exact ⟨a0, by omega, ha0, rfl, rfl, rfl⟩
  case round =>
    obtain ⟨k, hk0, hk, rfl, rfl, hh⟩ := hrel
    by_cases hlt : k < a
    · have hks : k < v.size := by omega
      have hb : v[k].toNat ≤ 32 := by
        have h1 := HW.out k (by omega) hlt
        have h2 := bt_lt hks
        omega
      clear hrb htb hup
      have d1 : ((v[k].toNat : Int) == 123) = false := beq_eq_false_iff_ne.2 (by omega)
      have d2 : ((v[k].toNat : Int) == 91) = false := beq_eq_false_iff_ne.2 (by omega)
      go_wp2_with fail
      go_roundg (a - (k + 1))
      case measure => have := hh.out; omega
      case rel => exact ⟨k + 1, by omega, by omega, by go_num, rfl, rfl⟩
    · have hE : k = a := by omega
      subst hE
      clear hlt
      have tf := htb.frozen
      have t0 := htb.cell 0
      have t1 := htb.cell 1
      have t2 := htb.cell 2
      have t3 := htb.cell 3
      have t4 := htb.cell 4
      have t5 := htb.cell 5
      simp only [List.getElem?_toArray, List.getElem?_cons_zero, List.getElem?_cons_succ] at t0 t1 t2 t3 t4 t5
      have rsf := run_store_float64 (P := Tryz.prog)
      have hb2 : (v[k].toNat : Int) = 102 := by
        have h1 := HC.out
        have h2 := bt_lt hi
        omega
      have d1 : ((v[k].toNat : Int) == 123) = false := beq_eq_false_iff_ne.2 (by omega)
      have d2 : ((v[k].toNat : Int) == 91) = false := beq_eq_false_iff_ne.2 (by omega)
      have d34 : ((v[k].toNat : Int) == 34) = false := beq_eq_false_iff_ne.2 (by omega)
      have d110 : ((v[k].toNat : Int) == 110) = false := beq_eq_false_iff_ne.2 (by omega)
      have d116 : ((v[k].toNat : Int) == 116) = false := beq_eq_false_iff_ne.2 (by omega)
      have d102 : ((v[k].toNat : Int) == 102) = true := beq_iff_eq.2 (by omega)
      have e32 : decide ((v[k].toNat : Int) ≤ 32) = false := decide_eq_false (by omega)
      have e32' : decide (v[k].toNat ≤ 32) = false := decide_eq_false (by omega)
      clear hb2
      go_upto_region 59 with (go_at_call 87; refine (PL.out _).mono ?_; rintro e w1 ⟨rfl, hu1⟩; have htb1 := htb.upd hu1 (by simp); have hrb1 := hrb.upd hu1 (by simp); have hup1 := hup.trans hu1; clear tf t0 t1 t2 t3 t4 t5; have tf := htb1.frozen; have t0 := htb1.cell 0; have t1 := htb1.cell 1; have t2 := htb1.cell 2; have t3 := htb1.cell 3; have t4 := htb1.cell 4; have t5 := htb1.cell 5; simp only [Array.setIfInBounds_def, List.getElem?_toArray, List.getElem?_cons_zero, List.getElem?_cons_succ] at t0 t1 t2 t3 t4 t5; try simp at t0 t1 t2 t3 t4 t5)
      clear tf t0 t1 t2 t3 t4 t5
      have htb6 : Blk ((w1.setCell ⟨w.heap.size + 1, 1, none⟩ (.string R)).setCell ⟨w.heap.size + 1, 0, none⟩ (.int .i64 1)) (w.heap.size + 1) 49 #[.int .i64 1, .string R, .string ⟨#[]⟩, .float .f64 0, .int .i64 0, .slice none 0 0] := ((htb1.set_ 1 _).set_ 0 _)
      have hrb6 := ((hrb1.far (p := ⟨w.heap.size + 1, 1, none⟩) (by simp) (.string R)).far (p := ⟨w.heap.size + 1, 0, none⟩) (by simp) (.int .i64 1))
      have hup6 := ((hup1.setCell (p := ⟨w.heap.size + 1, 1, none⟩) (.inr (Nat.le_succ _)) (.string R)).setCell (p := ⟨w.heap.size + 1, 0, none⟩) (.inr (Nat.le_succ _)) (.int .i64 1))
      obtain ⟨W6, hW6⟩ : ∃ X0 : World, X0 = ((w1.setCell ⟨w.heap.size + 1, 1, none⟩ (.string R)).setCell ⟨w.heap.size + 1, 0, none⟩ (.int .i64 1)) := ⟨_, rfl⟩
      rw [← hW6] at htb6 hrb6 hup6
      rw [← hW6]
      clear hW6 htb htb1 hrb hrb1 hup hup1 hu1
      have tf := htb6.frozen
      have t0 := htb6.cell 0
      have t1 := htb6.cell 1
      have t2 := htb6.cell 2
      have t3 := htb6.cell 3
      have t4 := htb6.cell 4
      have t5 := htb6.cell 5
      have qf := hrb6.frozen
      have r0 := hrb6.cell 0
      have r1 := hrb6.cell 1
      have r2 := hrb6.cell 2
      have r3 := hrb6.cell 3
      have r4 := hrb6.cell 4
      have r5 := hrb6.cell 5
      simp only [List.getElem?_toArray, List.getElem?_cons_zero, List.getElem?_cons_succ] at t0 t1 t2 t3 t4 t5 r0 r1 r2 r3 r4 r5
      go_region
      go_wp2_with fail
      have HB := Blk.drew ((((((hrb6.set_ 0 (.int .i64 1)).set_ 1 (.string R)).set_ 2 (.string ⟨#[]⟩)).set_ 3 (.float .f64 0)).set_ 4 (.int .i64 0)).set_ 5 (.slice none 0 0))
      exact bodyPost_ret (res_pany HB _ rfl rfl rfl) rfl ⟨⟨_, _, _, rfl, trivial⟩, pany_end hup6⟩
set_option maxRecDepth 100000 in
set_option maxHeartbeats 8000000 in
theorem pany_null (w : World) (v : ByteArray) (a0 a b : Nat) (hs : v.size ≤ 2 ^ 31) (ha0 : a0 ≤ a) (hw : ∀ y, a0 ≤ y → y < a → bt v y ≤ 32) (hb : b ≤ v.size) (hab : a < b) (hc : bt v a = 110) (hin : ∀ y, a + 1 ≤ y → y < b → 97 ≤ bt v y ∧ bt v y ≤ 122) (hout : b < v.size → bt v b < 97 ∨ 122 < bt v b) (h117 : bt v (a + 1) = 117) :
    Calls Tryz.prog 67 #[.string v, .int .i64 (a0 : Int), .bool true] w fun e w' => PAny w 0 (v.extract a b) (fun _ => True) b e w' := by
  have hi : a < v.size := by omega
  have PL := Lib.hid (fun w1 : World => plit_any w1 v a b hs hab hb hin hout)
  have HW := Lib.hid hw
  have HC := Lib.hid hc
  have hlt2 : a + 1 < v.size := lt_of_bt (by omega)
  have H117 := Lib.hid h117
  clear h117
  obtain ⟨R, hR⟩ : ∃ R, R = v.extract a b := ⟨_, rfl⟩
  rw [← hR] at PL
  rw [← hR]
  clear hw hc hin hout hR
  go_enter Tryz.func67, Tryz.ntmps67
  go_wp2_with fail
  have hup := ((Upd.refl [] w).alloc (.cells #[.int .i64 0, .string ⟨#[]⟩, .string ⟨#[]⟩, .float .f64 0, .int .i64 0, .slice none 0 0] 49)).alloc (.cells #[.int .i64 0, .string ⟨#[]⟩, .string ⟨#[]⟩, .float .f64 0, .int .i64 0, .slice none 0 0] 49)
  have hrb := (Blk.new w 49 #[.int .i64 0, .string ⟨#[]⟩, .string ⟨#[]⟩, .float .f64 0, .int .i64 0, .slice none 0 0]).alloc (.cells #[.int .i64 0, .string ⟨#[]⟩, .string ⟨#[]⟩, .float .f64 0, .int .i64 0, .slice none 0 0] 49)
  have htb := Blk.new (w.alloc (.cells #[.int .i64 0, .string ⟨#[]⟩, .string ⟨#[]⟩, .float .f64 0, .int .i64 0, .slice none 0 0] 49)) 49 #[.int .i64 0, .string ⟨#[]⟩, .string ⟨#[]⟩, .float .f64 0, .int .i64 0, .slice none 0 0]
  have hz : (w.alloc (.cells #[.int .i64 0, .string ⟨#[]⟩, .string ⟨#[]⟩, .float .f64 0, .int .i64 0, .slice none 0 0] 49)).heap.size = w.heap.size + 1 := by simp
  rw [hz] at htb
  clear hz
  generalize (w.alloc (.cells #[.int .i64 0, .string ⟨#[]⟩, .string ⟨#[]⟩, .float .f64 0, .int .i64 0, .slice none 0 0] 49)).alloc (.cells #[.int .i64 0, .string ⟨#[]⟩, .string ⟨#[]⟩, .float .f64 0, .int .i64 0, .slice none 0 0] 49) = W at *
  go_loopg [1] (a - a0) (fun g x1 wr => ∃ k : Nat, a0 ≤ k ∧ k ≤ a ∧ x1 = .int .i64 k ∧ wr = W ∧ Hid (g = a - k))
  case atStart => exact ⟨a0, by omega, ha0, rfl, rfl, rfl⟩
  case round =>
    obtain ⟨k, hk0, hk, rfl, rfl, hh⟩ := hrel
    by_cases hlt : k < a
    · have hks : k < v.size := by omega
      have hb : v[k].toNat ≤ 32 := by
        have h1 := HW.out k (by omega) hlt
        have h2 := bt_lt hks
        omega
      clear hrb htb hup
      have d1 : ((v[k].toNat : Int) == 123) = false := beq_eq_false_iff_ne.2 (by omega)
      have d2 : ((v[k].toNat : Int) == 91) = false := beq_eq_false_iff_ne.2 (by omega)
      go_wp2_with fail
      go_roundg (a - (k + 1))
      case measure => have := hh.out; omega
      case rel => exact ⟨k + 1, by omega, by omega, by go_num, rfl, rfl⟩
    · have hE : k = a := by omega
      subst hE
      clear hlt
      have tf := htb.frozen
      have t0 := htb.cell 0
      have t1 := htb.cell 1
      have t2 := htb.cell 2
      have t3 := htb.cell 3
      have t4 := htb.cell 4
      have t5 := htb.cell 5
      simp only [List.getElem?_toArray, List.getElem?_cons_zero, List.getElem?_cons_succ] at t0 t1 t2 t3 t4 t5
      have rsf := run_store_float64 (P := Tryz.prog)
      have hb2 : (v[k].toNat : Int) = 110 := by
        have h1 := HC.out
        have h2 := bt_lt hi
        omega
      have d1 : ((v[k].toNat : Int) == 123) = false := beq_eq_false_iff_ne.2 (by omega)
      have d2 : ((v[k].toNat : Int) == 91) = false := beq_eq_false_iff_ne.2 (by omega)
      have d34 : ((v[k].toNat : Int) == 34) = false := beq_eq_false_iff_ne.2 (by omega)
      have d110 : ((v[k].toNat : Int) == 110) = true := beq_iff_eq.2 (by omega)
      have d116 : ((v[k].toNat : Int) == 116) = false := beq_eq_false_iff_ne.2 (by omega)
      have d102 : ((v[k].toNat : Int) == 102) = false := beq_eq_false_iff_ne.2 (by omega)
      have e32 : decide ((v[k].toNat : Int) ≤ 32) = false := decide_eq_false (by omega)
      have e32' : decide (v[k].toNat ≤ 32) = false := decide_eq_false (by omega)
      clear hb2
      have z1 : IntKind.i64.wrap ((k : Int) + 1) = (k : Int) + 1 := IntWalk.i64_in _ (by omega)
      have z2 : decide ((k : Int) + 1 < (v.size : Int)) = true := decide_eq_true (by omega)
      have z3 : ∀ w, (Instr.index 9 (.string v) (.int .i64 ((k : Int) + 1))).run Tryz.prog w = .ok (.int .u8 117) w := fun w => by
        have := idx_nat v ((k : Int) + 1) (k + 1) (by omega) hlt2 w
        rw [show bt v (k + 1) = 117 from H117.out] at this
        exact this
      go_upto_region 59 with (go_at_call 87; refine (PL.out _).mono ?_; rintro e w1 ⟨rfl, hu1⟩; have htb1 := htb.upd hu1 (by simp); have hrb1 := hrb.upd hu1 (by simp); have hup1 := hup.trans hu1; clear tf t0 t1 t2 t3 t4 t5; have tf := htb1.frozen; have t0 := htb1.cell 0; have t1 := htb1.cell 1; have t2 := htb1.cell 2; have t3 := htb1.cell 3; have t4 := htb1.cell 4; have t5 := htb1.cell 5; simp only [Array.setIfInBounds_def, List.getElem?_toArray, List.getElem?_cons_zero, List.getElem?_cons_succ] at t0 t1 t2 t3 t4 t5; try simp at t0 t1 t2 t3 t4 t5)
      clear tf t0 t1 t2 t3 t4 t5
      have htb6 : Blk (w1.setCell ⟨w.heap.size + 1, 1, none⟩ (.string R)) (w.heap.size + 1) 49 #[.int .i64 0, .string R, .string ⟨#[]⟩, .float .f64 0, .int .i64 0, .slice none 0 0] := (htb1.set_ 1 _)
      have hrb6 := (hrb1.far (p := ⟨w.heap.size + 1, 1, none⟩) (by simp) (.string R))
      have hup6 := (hup1.setCell (p := ⟨w.heap.size + 1, 1, none⟩) (.inr (Nat.le_succ _)) (.string R))
      obtain ⟨W6, hW6⟩ : ∃ X0 : World, X0 = (w1.setCell ⟨w.heap.size + 1, 1, none⟩ (.string R)) := ⟨_, rfl⟩
      rw [← hW6] at htb6 hrb6 hup6
      rw [← hW6]
      clear hW6 htb htb1 hrb hrb1 hup hup1 hu1
      have tf := htb6.frozen
      have t0 := htb6.cell 0
      have t1 := htb6.cell 1
      have t2 := htb6.cell 2
      have t3 := htb6.cell 3
      have t4 := htb6.cell 4
      have t5 := htb6.cell 5
      have qf := hrb6.frozen
      have r0 := hrb6.cell 0
      have r1 := hrb6.cell 1
      have r2 := hrb6.cell 2
      have r3 := hrb6.cell 3
      have r4 := hrb6.cell 4
      have r5 := hrb6.cell 5
      simp only [List.getElem?_toArray, List.getElem?_cons_zero, List.getElem?_cons_succ] at t0 t1 t2 t3 t4 t5 r0 r1 r2 r3 r4 r5
      go_region
      go_wp2_with fail
      have HB := Blk.drew ((((((hrb6.set_ 0 (.int .i64 0)).set_ 1 (.string R)).set_ 2 (.string ⟨#[]⟩)).set_ 3 (.float .f64 0)).set_ 4 (.int .i64 0)).set_ 5 (.slice none 0 0))
      exact bodyPost_ret (res_pany HB _ rfl rfl rfl) rfl ⟨⟨_, _, _, rfl, trivial⟩, pany_end hup6⟩
end Go.Proofs.YtcnkbdbkglggcaaGreatDoor
