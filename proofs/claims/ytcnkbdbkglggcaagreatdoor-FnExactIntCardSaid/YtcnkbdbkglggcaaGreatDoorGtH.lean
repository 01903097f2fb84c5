/-
  The program's 'Parse' on a whole number, by its first byte (minus, 0 to 4). Condition: what 'tonum' returns.
-/
import Derived.Test.YtcnkbdbkglggcaaGreatDoorGpC
import Derived.Test.YtcnkbdbkglggcaaGreatDoorGtG
namespace Go.Proofs.YtcnkbdbkglggcaaGreatDoor
open Go.RowKit

set_option maxRecDepth 100000 in
set_option maxHeartbeats 4000000 in
theorem parseU_b45 (w : World) (hg : Glp w) (s : ByteArray) (hi : 0 < s.size) (x : Nat) (ht : ToNumU s x) (hc : bt s 0 = 45) :
    Calls Tryz.prog 20 #[.string s] w fun e w' => e = .returned (.agg (resCells 2 s ⟨#[]⟩ x 0)) ∧ Upd [] w w' := by
  have HC := Lib.hid hc
  have HT := Lib.hid ht
  have HG := Lib.hid hg
  clear hc ht hg
  go_enter Tryz.func20, Tryz.ntmps20
  go_wp2_with fail
  have hup := ((Upd.refl [] w).alloc (.cells #[.int .i64 0, .string ⟨#[]⟩, .string ⟨#[]⟩, .float .f64 0, .int .i64 0, .slice none 0 0] 49)).alloc (.cells #[.int .i64 0, .string ⟨#[]⟩, .string ⟨#[]⟩, .float .f64 0, .int .i64 0, .slice none 0 0] 49)
  have hrb := (Blk.new w 49 #[.int .i64 0, .string ⟨#[]⟩, .string ⟨#[]⟩, .float .f64 0, .int .i64 0, .slice none 0 0]).alloc (.cells #[.int .i64 0, .string ⟨#[]⟩, .string ⟨#[]⟩, .float .f64 0, .int .i64 0, .slice none 0 0] 49)
  have htb := Blk.new (w.alloc (.cells #[.int .i64 0, .string ⟨#[]⟩, .string ⟨#[]⟩, .float .f64 0, .int .i64 0, .slice none 0 0] 49)) 49 #[.int .i64 0, .string ⟨#[]⟩, .string ⟨#[]⟩, .float .f64 0, .int .i64 0, .slice none 0 0]
  have hz : (w.alloc (.cells #[.int .i64 0, .string ⟨#[]⟩, .string ⟨#[]⟩, .float .f64 0, .int .i64 0, .slice none 0 0] 49)).heap.size = w.heap.size + 1 := by simp
  rw [hz] at htb
  clear hz
  generalize (w.alloc (.cells #[.int .i64 0, .string ⟨#[]⟩, .string ⟨#[]⟩, .float .f64 0, .int .i64 0, .slice none 0 0] 49)).alloc (.cells #[.int .i64 0, .string ⟨#[]⟩, .string ⟨#[]⟩, .float .f64 0, .int .i64 0, .slice none 0 0] 49) = W at *
  go_loopg [4] 0 (fun g v wr => v = .int .i64 0 ∧ wr = W)
  case atStart => exact ⟨rfl, rfl⟩
  case round =>
    obtain ⟨rfl, rfl⟩ := hrel
    have hb : (s[0].toNat : Int) = 45 := by
      have h1 := HC.out
      have h2 := bt_lt hi
      omega
    have d123 : ((s[0].toNat : Int) == 123) = false := beq_eq_false_iff_ne.2 (by omega)
    have d91 : ((s[0].toNat : Int) == 91) = false := beq_eq_false_iff_ne.2 (by omega)
    have d43 : ((s[0].toNat : Int) == 43) = false := beq_eq_false_iff_ne.2 (by omega)
    have d45 : ((s[0].toNat : Int) == 45) = true := beq_iff_eq.2 (by omega)
    have e3 : decide ((s[0].toNat : Int) ≤ 32) = false := decide_eq_false (by omega)
    clear hb
    have tf := htb.frozen
    have t0 := htb.cell 0
    have t1 := htb.cell 1
    have t2 := htb.cell 2
    have t3 := htb.cell 3
    have t4 := htb.cell 4
    have t5 := htb.cell 5
    simp only [List.getElem?_toArray, List.getElem?_cons_zero, List.getElem?_cons_succ] at t0 t1 t2 t3 t4 t5
    have rsf := run_store_float64 (P := Tryz.prog)
    have hup0 := hup.setCell (p := ⟨w.heap.size + 1, 0, none⟩) (.inr (Nat.le_succ _)) (.int .i64 2)
    go_wp2_with (go_at_call 34; refine (HT.out _ (HG.out.upd hup0)).mono ?_; rintro e w1 ⟨rfl, hu1⟩; have htb1 := (htb.set_ 0 (.int .i64 2)).upd hu1 (by simp); have hrb1 := (hrb.far (p := ⟨w.heap.size + 1, 0, none⟩) (by simp) (.int .i64 2)).upd hu1 (by simp); have hup1 := hup0.trans hu1; clear tf t0 t1 t2 t3 t4 t5; have tf := htb1.frozen; have t0 := htb1.cell 0; have t1 := htb1.cell 1; have t2 := htb1.cell 2; have t3 := htb1.cell 3; have t4 := htb1.cell 4; have t5 := htb1.cell 5; simp only [Array.setIfInBounds_def, List.getElem?_toArray, List.getElem?_cons_zero, List.getElem?_cons_succ] at t0 t1 t2 t3 t4 t5; simp at t0 t1 t2 t3 t4 t5)
    clear tf t0 t1 t2 t3 t4 t5
    refine (exists_yes _ 2 s ⟨#[]⟩ x 0 (.inl (by decide))).mono ?_
    rintro e w5 ⟨rfl, rfl⟩
    have htb5 : Blk (((w1.setCell ⟨w.heap.size + 1, 1, none⟩ (.string s)).setCell ⟨w.heap.size + 1, 3, none⟩ (.float .f64 x)).alloc (.cells (resCells 2 s ⟨#[]⟩ x 0) 49)) (w.heap.size + 1) 49 #[.int .i64 2, .string s, .string ⟨#[]⟩, .float .f64 x, .int .i64 0, .slice none 0 0] := ((htb1.set_ 1 _).set_ 3 _).alloc _
    have hrb5 := ((hrb1.far (p := ⟨w.heap.size + 1, 1, none⟩) (by simp) (.string s)).far (p := ⟨w.heap.size + 1, 3, none⟩) (by simp) (.float .f64 x)).alloc (.cells (resCells 2 s ⟨#[]⟩ x 0) 49)
    have hup5 := ((hup1.setCell (p := ⟨w.heap.size + 1, 1, none⟩) (.inr (Nat.le_succ _)) (.string s)).setCell (p := ⟨w.heap.size + 1, 3, none⟩) (.inr (Nat.le_succ _)) (.float .f64 x)).alloc (.cells (resCells 2 s ⟨#[]⟩ x 0) 49)
    generalize ((w1.setCell ⟨w.heap.size + 1, 1, none⟩ (.string s)).setCell ⟨w.heap.size + 1, 3, none⟩ (.float .f64 x)).alloc (.cells (resCells 2 s ⟨#[]⟩ x 0) 49) = W5 at *
    clear htb hrb hup htb1 hrb1 hup0 hup1 hu1
    have htb6 : Blk (W5.setCell ⟨w.heap.size + 1, 4, none⟩ (.int .i64 0)) (w.heap.size + 1) 49 #[.int .i64 2, .string s, .string ⟨#[]⟩, .float .f64 x, .int .i64 0, .slice none 0 0] := htb5.set_ 4 _
    have hrb6 := hrb5.far (p := ⟨w.heap.size + 1, 4, none⟩) (by simp) (.int .i64 0)
    have hup6 := hup5.setCell (p := ⟨w.heap.size + 1, 4, none⟩) (.inr (Nat.le_succ _)) (.int .i64 0)
    have tf := htb5.frozen
    have t4 := htb5.cell 4
    simp only [List.getElem?_toArray, List.getElem?_cons_zero, List.getElem?_cons_succ] at t4
    go_upto_region 45 with fail
    clear tf t4
    generalize W5.setCell ⟨w.heap.size + 1, 4, none⟩ (.int .i64 0) = W6 at *
    clear htb5 hrb5 hup5
    have tf := htb6.frozen
    have t0 := htb6.cell 0
    have t1 := htb6.cell 1
    have t2 := htb6.cell 2
    have t3 := htb6.cell 3
    have t4 := htb6.cell 4
    have t5 := htb6.cell 5
    have rf := hrb6.frozen
    have r0 := hrb6.cell 0
    have r1 := hrb6.cell 1
    have r2 := hrb6.cell 2
    have r3 := hrb6.cell 3
    have r4 := hrb6.cell 4
    have r5 := hrb6.cell 5
    simp only [List.getElem?_toArray, List.getElem?_cons_zero, List.getElem?_cons_succ] at t0 t1 t2 t3 t4 t5 r0 r1 r2 r3 r4 r5
    have rsf := run_store_float64 (P := Tryz.prog)
    go_wp2_with fail
    have HB := (((((hrb6.set_ 0 (.int .i64 2)).set_ 1 (.string s)).set_ 2 (.string ⟨#[]⟩)).set_ 3 (.float .f64 x)).set_ 4 (.int .i64 0)).set_ 5 (.slice none 0 0)
    refine bodyPost_ret (res_parse (c0 := .int .i64 2) (c1 := .string s) (c2 := .string ⟨#[]⟩) (c3 := .float .f64 x) (c4 := .int .i64 0) (c5 := .slice none 0 0) HB _ rfl) rfl ?_
    exact ⟨rfl, parse_end hup6⟩

set_option maxRecDepth 100000 in
set_option maxHeartbeats 4000000 in
theorem parseU_b48 (w : World) (hg : Glp w) (s : ByteArray) (hi : 0 < s.size) (x : Nat) (ht : ToNumU s x) (hc : bt s 0 = 48) :
    Calls Tryz.prog 20 #[.string s] w fun e w' => e = .returned (.agg (resCells 2 s ⟨#[]⟩ x 0)) ∧ Upd [] w w' := by
  have HC := Lib.hid hc
  have HT := Lib.hid ht
  have HG := Lib.hid hg
  clear hc ht hg
  go_enter Tryz.func20, Tryz.ntmps20
  go_wp2_with fail
  have hup := ((Upd.refl [] w).alloc (.cells #[.int .i64 0, .string ⟨#[]⟩, .string ⟨#[]⟩, .float .f64 0, .int .i64 0, .slice none 0 0] 49)).alloc (.cells #[.int .i64 0, .string ⟨#[]⟩, .string ⟨#[]⟩, .float .f64 0, .int .i64 0, .slice none 0 0] 49)
  have hrb := (Blk.new w 49 #[.int .i64 0, .string ⟨#[]⟩, .string ⟨#[]⟩, .float .f64 0, .int .i64 0, .slice none 0 0]).alloc (.cells #[.int .i64 0, .string ⟨#[]⟩, .string ⟨#[]⟩, .float .f64 0, .int .i64 0, .slice none 0 0] 49)
  have htb := Blk.new (w.alloc (.cells #[.int .i64 0, .string ⟨#[]⟩, .string ⟨#[]⟩, .float .f64 0, .int .i64 0, .slice none 0 0] 49)) 49 #[.int .i64 0, .string ⟨#[]⟩, .string ⟨#[]⟩, .float .f64 0, .int .i64 0, .slice none 0 0]
  have hz : (w.alloc (.cells #[.int .i64 0, .string ⟨#[]⟩, .string ⟨#[]⟩, .float .f64 0, .int .i64 0, .slice none 0 0] 49)).heap.size = w.heap.size + 1 := by simp
  rw [hz] at htb
  clear hz
  generalize (w.alloc (.cells #[.int .i64 0, .string ⟨#[]⟩, .string ⟨#[]⟩, .float .f64 0, .int .i64 0, .slice none 0 0] 49)).alloc (.cells #[.int .i64 0, .string ⟨#[]⟩, .string ⟨#[]⟩, .float .f64 0, .int .i64 0, .slice none 0 0] 49) = W at *
  go_loopg [4] 0 (fun g v wr => v = .int .i64 0 ∧ wr = W)
  case atStart => exact ⟨rfl, rfl⟩
  case round =>
    obtain ⟨rfl, rfl⟩ := hrel
    have hb : (s[0].toNat : Int) = 48 := by
      have h1 := HC.out
      have h2 := bt_lt hi
      omega
    have d123 : ((s[0].toNat : Int) == 123) = false := beq_eq_false_iff_ne.2 (by omega)
    have d91 : ((s[0].toNat : Int) == 91) = false := beq_eq_false_iff_ne.2 (by omega)
    have d43 : ((s[0].toNat : Int) == 43) = false := beq_eq_false_iff_ne.2 (by omega)
    have d45 : ((s[0].toNat : Int) == 45) = false := beq_eq_false_iff_ne.2 (by omega)
    have d48 : ((s[0].toNat : Int) == 48) = true := beq_iff_eq.2 (by omega)
    have e3 : decide ((s[0].toNat : Int) ≤ 32) = false := decide_eq_false (by omega)
    clear hb
    have tf := htb.frozen
    have t0 := htb.cell 0
    have t1 := htb.cell 1
    have t2 := htb.cell 2
    have t3 := htb.cell 3
    have t4 := htb.cell 4
    have t5 := htb.cell 5
    simp only [List.getElem?_toArray, List.getElem?_cons_zero, List.getElem?_cons_succ] at t0 t1 t2 t3 t4 t5
    have rsf := run_store_float64 (P := Tryz.prog)
    have hup0 := hup.setCell (p := ⟨w.heap.size + 1, 0, none⟩) (.inr (Nat.le_succ _)) (.int .i64 2)
    go_wp2_with (go_at_call 34; refine (HT.out _ (HG.out.upd hup0)).mono ?_; rintro e w1 ⟨rfl, hu1⟩; have htb1 := (htb.set_ 0 (.int .i64 2)).upd hu1 (by simp); have hrb1 := (hrb.far (p := ⟨w.heap.size + 1, 0, none⟩) (by simp) (.int .i64 2)).upd hu1 (by simp); have hup1 := hup0.trans hu1; clear tf t0 t1 t2 t3 t4 t5; have tf := htb1.frozen; have t0 := htb1.cell 0; have t1 := htb1.cell 1; have t2 := htb1.cell 2; have t3 := htb1.cell 3; have t4 := htb1.cell 4; have t5 := htb1.cell 5; simp only [Array.setIfInBounds_def, List.getElem?_toArray, List.getElem?_cons_zero, List.getElem?_cons_succ] at t0 t1 t2 t3 t4 t5; simp at t0 t1 t2 t3 t4 t5)
    clear tf t0 t1 t2 t3 t4 t5
    refine (exists_yes _ 2 s ⟨#[]⟩ x 0 (.inl (by decide))).mono ?_
    rintro e w5 ⟨rfl, rfl⟩
    have htb5 : Blk (((w1.setCell ⟨w.heap.size + 1, 1, none⟩ (.string s)).setCell ⟨w.heap.size + 1, 3, none⟩ (.float .f64 x)).alloc (.cells (resCells 2 s ⟨#[]⟩ x 0) 49)) (w.heap.size + 1) 49 #[.int .i64 2, .string s, .string ⟨#[]⟩, .float .f64 x, .int .i64 0, .slice none 0 0] := ((htb1.set_ 1 _).set_ 3 _).alloc _
    have hrb5 := ((hrb1.far (p := ⟨w.heap.size + 1, 1, none⟩) (by simp) (.string s)).far (p := ⟨w.heap.size + 1, 3, none⟩) (by simp) (.float .f64 x)).alloc (.cells (resCells 2 s ⟨#[]⟩ x 0) 49)
    have hup5 := ((hup1.setCell (p := ⟨w.heap.size + 1, 1, none⟩) (.inr (Nat.le_succ _)) (.string s)).setCell (p := ⟨w.heap.size + 1, 3, none⟩) (.inr (Nat.le_succ _)) (.float .f64 x)).alloc (.cells (resCells 2 s ⟨#[]⟩ x 0) 49)
    generalize ((w1.setCell ⟨w.heap.size + 1, 1, none⟩ (.string s)).setCell ⟨w.heap.size + 1, 3, none⟩ (.float .f64 x)).alloc (.cells (resCells 2 s ⟨#[]⟩ x 0) 49) = W5 at *
    clear htb hrb hup htb1 hrb1 hup0 hup1 hu1
    have htb6 : Blk (W5.setCell ⟨w.heap.size + 1, 4, none⟩ (.int .i64 0)) (w.heap.size + 1) 49 #[.int .i64 2, .string s, .string ⟨#[]⟩, .float .f64 x, .int .i64 0, .slice none 0 0] := htb5.set_ 4 _
    have hrb6 := hrb5.far (p := ⟨w.heap.size + 1, 4, none⟩) (by simp) (.int .i64 0)
    have hup6 := hup5.setCell (p := ⟨w.heap.size + 1, 4, none⟩) (.inr (Nat.le_succ _)) (.int .i64 0)
    have tf := htb5.frozen
    have t4 := htb5.cell 4
    simp only [List.getElem?_toArray, List.getElem?_cons_zero, List.getElem?_cons_succ] at t4
    go_upto_region 45 with fail
    clear tf t4
    generalize W5.setCell ⟨w.heap.size + 1, 4, none⟩ (.int .i64 0) = W6 at *
    clear htb5 hrb5 hup5
    have tf := htb6.frozen
    have t0 := htb6.cell 0
    have t1 := htb6.cell 1
    have t2 := htb6.cell 2
    have t3 := htb6.cell 3
    have t4 := htb6.cell 4
    have t5 := htb6.cell 5
    have rf := hrb6.frozen
    have r0 := hrb6.cell 0
    have r1 := hrb6.cell 1
    have r2 := hrb6.cell 2
    have r3 := hrb6.cell 3
    have r4 := hrb6.cell 4
    have r5 := hrb6.cell 5
    simp only [List.getElem?_toArray, List.getElem?_cons_zero, List.getElem?_cons_succ] at t0 t1 t2 t3 t4 t5 r0 r1 r2 r3 r4 r5
    have rsf := run_store_float64 (P := Tryz.prog)
    go_wp2_with fail
    have HB := (((((hrb6.set_ 0 (.int .i64 2)).set_ 1 (.string s)).set_ 2 (.string ⟨#[]⟩)).set_ 3 (.float .f64 x)).set_ 4 (.int .i64 0)).set_ 5 (.slice none 0 0)
    refine bodyPost_ret (res_parse (c0 := .int .i64 2) (c1 := .string s) (c2 := .string ⟨#[]⟩) (c3 := .float .f64 x) (c4 := .int .i64 0) (c5 := .slice none 0 0) HB _ rfl) rfl ?_
    exact ⟨rfl, parse_end hup6⟩

set_option maxRecDepth 100000 in
set_option maxHeartbeats 4000000 in
theorem parseU_b49 (w : World) (hg : Glp w) (s : ByteArray) (hi : 0 < s.size) (x : Nat) (ht : ToNumU s x) (hc : bt s 0 = 49) :
    Calls Tryz.prog 20 #[.string s] w fun e w' => e = .returned (.agg (resCells 2 s ⟨#[]⟩ x 0)) ∧ Upd [] w w' := by
  have HC := Lib.hid hc
  have HT := Lib.hid ht
  have HG := Lib.hid hg
  clear hc ht hg
  go_enter Tryz.func20, Tryz.ntmps20
  go_wp2_with fail
  have hup := ((Upd.refl [] w).alloc (.cells #[.int .i64 0, .string ⟨#[]⟩, .string ⟨#[]⟩, .float .f64 0, .int .i64 0, .slice none 0 0] 49)).alloc (.cells #[.int .i64 0, .string ⟨#[]⟩, .string ⟨#[]⟩, .float .f64 0, .int .i64 0, .slice none 0 0] 49)
  have hrb := (Blk.new w 49 #[.int .i64 0, .string ⟨#[]⟩, .string ⟨#[]⟩, .float .f64 0, .int .i64 0, .slice none 0 0]).alloc (.cells #[.int .i64 0, .string ⟨#[]⟩, .string ⟨#[]⟩, .float .f64 0, .int .i64 0, .slice none 0 0] 49)
  have htb := Blk.new (w.alloc (.cells #[.int .i64 0, .string ⟨#[]⟩, .string ⟨#[]⟩, .float .f64 0, .int .i64 0, .slice none 0 0] 49)) 49 #[.int .i64 0, .string ⟨#[]⟩, .string ⟨#[]⟩, .float .f64 0, .int .i64 0, .slice none 0 0]
  have hz : (w.alloc (.cells #[.int .i64 0, .string ⟨#[]⟩, .string ⟨#[]⟩, .float .f64 0, .int .i64 0, .slice none 0 0] 49)).heap.size = w.heap.size + 1 := by simp
  rw [hz] at htb
  clear hz
  generalize (w.alloc (.cells #[.int .i64 0, .string ⟨#[]⟩, .string ⟨#[]⟩, .float .f64 0, .int .i64 0, .slice none 0 0] 49)).alloc (.cells #[.int .i64 0, .string ⟨#[]⟩, .string ⟨#[]⟩, .float .f64 0, .int .i64 0, .slice none 0 0] 49) = W at *
  go_loopg [4] 0 (fun g v wr => v = .int .i64 0 ∧ wr = W)
  case atStart => exact ⟨rfl, rfl⟩
  case round =>
    obtain ⟨rfl, rfl⟩ := hrel
    have hb : (s[0].toNat : Int) = 49 := by
      have h1 := HC.out
      have h2 := bt_lt hi
      omega
    have d123 : ((s[0].toNat : Int) == 123) = false := beq_eq_false_iff_ne.2 (by omega)
    have d91 : ((s[0].toNat : Int) == 91) = false := beq_eq_false_iff_ne.2 (by omega)
    have d43 : ((s[0].toNat : Int) == 43) = false := beq_eq_false_iff_ne.2 (by omega)
    have d45 : ((s[0].toNat : Int) == 45) = false := beq_eq_false_iff_ne.2 (by omega)
    have d48 : ((s[0].toNat : Int) == 48) = false := beq_eq_false_iff_ne.2 (by omega)
    have d49 : ((s[0].toNat : Int) == 49) = true := beq_iff_eq.2 (by omega)
    have e3 : decide ((s[0].toNat : Int) ≤ 32) = false := decide_eq_false (by omega)
    clear hb
    have tf := htb.frozen
    have t0 := htb.cell 0
    have t1 := htb.cell 1
    have t2 := htb.cell 2
    have t3 := htb.cell 3
    have t4 := htb.cell 4
    have t5 := htb.cell 5
    simp only [List.getElem?_toArray, List.getElem?_cons_zero, List.getElem?_cons_succ] at t0 t1 t2 t3 t4 t5
    have rsf := run_store_float64 (P := Tryz.prog)
    have hup0 := hup.setCell (p := ⟨w.heap.size + 1, 0, none⟩) (.inr (Nat.le_succ _)) (.int .i64 2)
    go_wp2_with (go_at_call 34; refine (HT.out _ (HG.out.upd hup0)).mono ?_; rintro e w1 ⟨rfl, hu1⟩; have htb1 := (htb.set_ 0 (.int .i64 2)).upd hu1 (by simp); have hrb1 := (hrb.far (p := ⟨w.heap.size + 1, 0, none⟩) (by simp) (.int .i64 2)).upd hu1 (by simp); have hup1 := hup0.trans hu1; clear tf t0 t1 t2 t3 t4 t5; have tf := htb1.frozen; have t0 := htb1.cell 0; have t1 := htb1.cell 1; have t2 := htb1.cell 2; have t3 := htb1.cell 3; have t4 := htb1.cell 4; have t5 := htb1.cell 5; simp only [Array.setIfInBounds_def, List.getElem?_toArray, List.getElem?_cons_zero, List.getElem?_cons_succ] at t0 t1 t2 t3 t4 t5; simp at t0 t1 t2 t3 t4 t5)
    clear tf t0 t1 t2 t3 t4 t5
    refine (exists_yes _ 2 s ⟨#[]⟩ x 0 (.inl (by decide))).mono ?_
    rintro e w5 ⟨rfl, rfl⟩
    have htb5 : Blk (((w1.setCell ⟨w.heap.size + 1, 1, none⟩ (.string s)).setCell ⟨w.heap.size + 1, 3, none⟩ (.float .f64 x)).alloc (.cells (resCells 2 s ⟨#[]⟩ x 0) 49)) (w.heap.size + 1) 49 #[.int .i64 2, .string s, .string ⟨#[]⟩, .float .f64 x, .int .i64 0, .slice none 0 0] := ((htb1.set_ 1 _).set_ 3 _).alloc _
    have hrb5 := ((hrb1.far (p := ⟨w.heap.size + 1, 1, none⟩) (by simp) (.string s)).far (p := ⟨w.heap.size + 1, 3, none⟩) (by simp) (.float .f64 x)).alloc (.cells (resCells 2 s ⟨#[]⟩ x 0) 49)
    have hup5 := ((hup1.setCell (p := ⟨w.heap.size + 1, 1, none⟩) (.inr (Nat.le_succ _)) (.string s)).setCell (p := ⟨w.heap.size + 1, 3, none⟩) (.inr (Nat.le_succ _)) (.float .f64 x)).alloc (.cells (resCells 2 s ⟨#[]⟩ x 0) 49)
    generalize ((w1.setCell ⟨w.heap.size + 1, 1, none⟩ (.string s)).setCell ⟨w.heap.size + 1, 3, none⟩ (.float .f64 x)).alloc (.cells (resCells 2 s ⟨#[]⟩ x 0) 49) = W5 at *
    clear htb hrb hup htb1 hrb1 hup0 hup1 hu1
    have htb6 : Blk (W5.setCell ⟨w.heap.size + 1, 4, none⟩ (.int .i64 0)) (w.heap.size + 1) 49 #[.int .i64 2, .string s, .string ⟨#[]⟩, .float .f64 x, .int .i64 0, .slice none 0 0] := htb5.set_ 4 _
    have hrb6 := hrb5.far (p := ⟨w.heap.size + 1, 4, none⟩) (by simp) (.int .i64 0)
    have hup6 := hup5.setCell (p := ⟨w.heap.size + 1, 4, none⟩) (.inr (Nat.le_succ _)) (.int .i64 0)
    have tf := htb5.frozen
    have t4 := htb5.cell 4
    simp only [List.getElem?_toArray, List.getElem?_cons_zero, List.getElem?_cons_succ] at t4
    go_upto_region 45 with fail
    clear tf t4
    generalize W5.setCell ⟨w.heap.size + 1, 4, none⟩ (.int .i64 0) = W6 at *
    clear htb5 hrb5 hup5
    have tf := htb6.frozen
    have t0 := htb6.cell 0
    have t1 := htb6.cell 1
    have t2 := htb6.cell 2
    have t3 := htb6.cell 3
    have t4 := htb6.cell 4
    have t5 := htb6.cell 5
    have rf := hrb6.frozen
    have r0 := hrb6.cell 0
    have r1 := hrb6.cell 1
    have r2 := hrb6.cell 2
    have r3 := hrb6.cell 3
    have r4 := hrb6.cell 4
    have r5 := hrb6.cell 5
    simp only [List.getElem?_toArray, List.getElem?_cons_zero, List.getElem?_cons_succ] at t0 t1 t2 t3 t4 t5 r0 r1 r2 r3 r4 r5
    have rsf := run_store_float64 (P := Tryz.prog)
    go_wp2_with fail
    have HB := (((((hrb6.set_ 0 (.int .i64 2)).set_ 1 (.string s)).set_ 2 (.string ⟨#[]⟩)).set_ 3 (.float .f64 x)).set_ 4 (.int .i64 0)).set_ 5 (.slice none 0 0)
    refine bodyPost_ret (res_parse (c0 := .int .i64 2) (c1 := .string s) (c2 := .string ⟨#[]⟩) (c3 := .float .f64 x) (c4 := .int .i64 0) (c5 := .slice none 0 0) HB _ rfl) rfl ?_
    exact ⟨rfl, parse_end hup6⟩

set_option maxRecDepth 100000 in
set_option maxHeartbeats 4000000 in
theorem parseU_b50 (w : World) (hg : Glp w) (s : ByteArray) (hi : 0 < s.size) (x : Nat) (ht : ToNumU s x) (hc : bt s 0 = 50) :
    Calls Tryz.prog 20 #[.string s] w fun e w' => e = .returned (.agg (resCells 2 s ⟨#[]⟩ x 0)) ∧ Upd [] w w' := by
  have HC := Lib.hid hc
  have HT := Lib.hid ht
  have HG := Lib.hid hg
  clear hc ht hg
  go_enter Tryz.func20, Tryz.ntmps20
  go_wp2_with fail
  have hup := ((Upd.refl [] w).alloc (.cells #[.int .i64 0, .string ⟨#[]⟩, .string ⟨#[]⟩, .float .f64 0, .int .i64 0, .slice none 0 0] 49)).alloc (.cells #[.int .i64 0, .string ⟨#[]⟩, .string ⟨#[]⟩, .float .f64 0, .int .i64 0, .slice none 0 0] 49)
  have hrb := (Blk.new w 49 #[.int .i64 0, .string ⟨#[]⟩, .string ⟨#[]⟩, .float .f64 0, .int .i64 0, .slice none 0 0]).alloc (.cells #[.int .i64 0, .string ⟨#[]⟩, .string ⟨#[]⟩, .float .f64 0, .int .i64 0, .slice none 0 0] 49)
  have htb := Blk.new (w.alloc (.cells #[.int .i64 0, .string ⟨#[]⟩, .string ⟨#[]⟩, .float .f64 0, .int .i64 0, .slice none 0 0] 49)) 49 #[.int .i64 0, .string ⟨#[]⟩, .string ⟨#[]⟩, .float .f64 0, .int .i64 0, .slice none 0 0]
  have hz : (w.alloc (.cells #[.int .i64 0, .string ⟨#[]⟩, .string ⟨#[]⟩, .float .f64 0, .int .i64 0, .slice none 0 0] 49)).heap.size = w.heap.size + 1 := by simp
  rw [hz] at htb
  clear hz
  generalize (w.alloc (.cells #[.int .i64 0, .string ⟨#[]⟩, .string ⟨#[]⟩, .float .f64 0, .int .i64 0, .slice none 0 0] 49)).alloc (.cells #[.int .i64 0, .string ⟨#[]⟩, .string ⟨#[]⟩, .float .f64 0, .int .i64 0, .slice none 0 0] 49) = W at *
  go_loopg [4] 0 (fun g v wr => v = .int .i64 0 ∧ wr = W)
  case atStart => exact ⟨rfl, rfl⟩
  case round =>
    obtain ⟨rfl, rfl⟩ := hrel
    have hb : (s[0].toNat : Int) = 50 := by
      have h1 := HC.out
      have h2 := bt_lt hi
      omega
    have d123 : ((s[0].toNat : Int) == 123) = false := beq_eq_false_iff_ne.2 (by omega)
    have d91 : ((s[0].toNat : Int) == 91) = false := beq_eq_false_iff_ne.2 (by omega)
    have d43 : ((s[0].toNat : Int) == 43) = false := beq_eq_false_iff_ne.2 (by omega)
    have d45 : ((s[0].toNat : Int) == 45) = false := beq_eq_false_iff_ne.2 (by omega)
    have d48 : ((s[0].toNat : Int) == 48) = false := beq_eq_false_iff_ne.2 (by omega)
    have d49 : ((s[0].toNat : Int) == 49) = false := beq_eq_false_iff_ne.2 (by omega)
    have d50 : ((s[0].toNat : Int) == 50) = true := beq_iff_eq.2 (by omega)
    have e3 : decide ((s[0].toNat : Int) ≤ 32) = false := decide_eq_false (by omega)
    clear hb
    have tf := htb.frozen
    have t0 := htb.cell 0
    have t1 := htb.cell 1
    have t2 := htb.cell 2
    have t3 := htb.cell 3
    have t4 := htb.cell 4
    have t5 := htb.cell 5
    simp only [List.getElem?_toArray, List.getElem?_cons_zero, List.getElem?_cons_succ] at t0 t1 t2 t3 t4 t5
    have rsf := run_store_float64 (P := Tryz.prog)
    have hup0 := hup.setCell (p := ⟨w.heap.size + 1, 0, none⟩) (.inr (Nat.le_succ _)) (.int .i64 2)
    go_wp2_with (go_at_call 34; refine (HT.out _ (HG.out.upd hup0)).mono ?_; rintro e w1 ⟨rfl, hu1⟩; have htb1 := (htb.set_ 0 (.int .i64 2)).upd hu1 (by simp); have hrb1 := (hrb.far (p := ⟨w.heap.size + 1, 0, none⟩) (by simp) (.int .i64 2)).upd hu1 (by simp); have hup1 := hup0.trans hu1; clear tf t0 t1 t2 t3 t4 t5; have tf := htb1.frozen; have t0 := htb1.cell 0; have t1 := htb1.cell 1; have t2 := htb1.cell 2; have t3 := htb1.cell 3; have t4 := htb1.cell 4; have t5 := htb1.cell 5; simp only [Array.setIfInBounds_def, List.getElem?_toArray, List.getElem?_cons_zero, List.getElem?_cons_succ] at t0 t1 t2 t3 t4 t5; simp at t0 t1 t2 t3 t4 t5)
    clear tf t0 t1 t2 t3 t4 t5
    refine (exists_yes _ 2 s ⟨#[]⟩ x 0 (.inl (by decide))).mono ?_
    rintro e w5 ⟨rfl, rfl⟩
    have htb5 : Blk (((w1.setCell ⟨w.heap.size + 1, 1, none⟩ (.string s)).setCell ⟨w.heap.size + 1, 3, none⟩ (.float .f64 x)).alloc (.cells (resCells 2 s ⟨#[]⟩ x 0) 49)) (w.heap.size + 1) 49 #[.int .i64 2, .string s, .string ⟨#[]⟩, .float .f64 x, .int .i64 0, .slice none 0 0] := ((htb1.set_ 1 _).set_ 3 _).alloc _
    have hrb5 := ((hrb1.far (p := ⟨w.heap.size + 1, 1, none⟩) (by simp) (.string s)).far (p := ⟨w.heap.size + 1, 3, none⟩) (by simp) (.float .f64 x)).alloc (.cells (resCells 2 s ⟨#[]⟩ x 0) 49)
    have hup5 := ((hup1.setCell (p := ⟨w.heap.size + 1, 1, none⟩) (.inr (Nat.le_succ _)) (.string s)).setCell (p := ⟨w.heap.size + 1, 3, none⟩) (.inr (Nat.le_succ _)) (.float .f64 x)).alloc (.cells (resCells 2 s ⟨#[]⟩ x 0) 49)
    generalize ((w1.setCell ⟨w.heap.size + 1, 1, none⟩ (.string s)).setCell ⟨w.heap.size + 1, 3, none⟩ (.float .f64 x)).alloc (.cells (resCells 2 s ⟨#[]⟩ x 0) 49) = W5 at *
    clear htb hrb hup htb1 hrb1 hup0 hup1 hu1
    have htb6 : Blk (W5.setCell ⟨w.heap.size + 1, 4, none⟩ (.int .i64 0)) (w.heap.size + 1) 49 #[.int .i64 2, .string s, .string ⟨#[]⟩, .float .f64 x, .int .i64 0, .slice none 0 0] := htb5.set_ 4 _
    have hrb6 := hrb5.far (p := ⟨w.heap.size + 1, 4, none⟩) (by simp) (.int .i64 0)
    have hup6 := hup5.setCell (p := ⟨w.heap.size + 1, 4, none⟩) (.inr (Nat.le_succ _)) (.int .i64 0)
    have tf := htb5.frozen
    have t4 := htb5.cell 4
    simp only [List.getElem?_toArray, List.getElem?_cons_zero, List.getElem?_cons_succ] at t4
    go_upto_region 45 with fail
    clear tf t4
    generalize W5.setCell ⟨w.heap.size + 1, 4, none⟩ (.int .i64 0) = W6 at *
    clear htb5 hrb5 hup5
    have tf := htb6.frozen
    have t0 := htb6.cell 0
    have t1 := htb6.cell 1
    have t2 := htb6.cell 2
    have t3 := htb6.cell 3
    have t4 := htb6.cell 4
    have t5 := htb6.cell 5
    have rf := hrb6.frozen
    have r0 := hrb6.cell 0
    have r1 := hrb6.cell 1
    have r2 := hrb6.cell 2
    have r3 := hrb6.cell 3
    have r4 := hrb6.cell 4
    have r5 := hrb6.cell 5
    simp only [List.getElem?_toArray, List.getElem?_cons_zero, List.getElem?_cons_succ] at t0 t1 t2 t3 t4 t5 r0 r1 r2 r3 r4 r5
    have rsf := run_store_float64 (P := Tryz.prog)
    go_wp2_with fail
    have HB := (((((hrb6.set_ 0 (.int .i64 2)).set_ 1 (.string s)).set_ 2 (.string ⟨#[]⟩)).set_ 3 (.float .f64 x)).set_ 4 (.int .i64 0)).set_ 5 (.slice none 0 0)
    refine bodyPost_ret (res_parse (c0 := .int .i64 2) (c1 := .string s) (c2 := .string ⟨#[]⟩) (c3 := .float .f64 x) (c4 := .int .i64 0) (c5 := .slice none 0 0) HB _ rfl) rfl ?_
    exact ⟨rfl, parse_end hup6⟩

set_option maxRecDepth 100000 in
set_option maxHeartbeats 4000000 in
theorem parseU_b51 (w : World) (hg : Glp w) (s : ByteArray) (hi : 0 < s.size) (x : Nat) (ht : ToNumU s x) (hc : bt s 0 = 51) :
    Calls Tryz.prog 20 #[.string s] w fun e w' => e = .returned (.agg (resCells 2 s ⟨#[]⟩ x 0)) ∧ Upd [] w w' := by
  have HC := Lib.hid hc
  have HT := Lib.hid ht
  have HG := Lib.hid hg
  clear hc ht hg
  go_enter Tryz.func20, Tryz.ntmps20
  go_wp2_with fail
  have hup := ((Upd.refl [] w).alloc (.cells #[.int .i64 0, .string ⟨#[]⟩, .string ⟨#[]⟩, .float .f64 0, .int .i64 0, .slice none 0 0] 49)).alloc (.cells #[.int .i64 0, .string ⟨#[]⟩, .string ⟨#[]⟩, .float .f64 0, .int .i64 0, .slice none 0 0] 49)
  have hrb := (Blk.new w 49 #[.int .i64 0, .string ⟨#[]⟩, .string ⟨#[]⟩, .float .f64 0, .int .i64 0, .slice none 0 0]).alloc (.cells #[.int .i64 0, .string ⟨#[]⟩, .string ⟨#[]⟩, .float .f64 0, .int .i64 0, .slice none 0 0] 49)
  have htb := Blk.new (w.alloc (.cells #[.int .i64 0, .string ⟨#[]⟩, .string ⟨#[]⟩, .float .f64 0, .int .i64 0, .slice none 0 0] 49)) 49 #[.int .i64 0, .string ⟨#[]⟩, .string ⟨#[]⟩, .float .f64 0, .int .i64 0, .slice none 0 0]
  have hz : (w.alloc (.cells #[.int .i64 0, .string ⟨#[]⟩, .string ⟨#[]⟩, .float .f64 0, .int .i64 0, .slice none 0 0] 49)).heap.size = w.heap.size + 1 := by simp
  rw [hz] at htb
  clear hz
  generalize (w.alloc (.cells #[.int .i64 0, .string ⟨#[]⟩, .string ⟨#[]⟩, .float .f64 0, .int .i64 0, .slice none 0 0] 49)).alloc (.cells #[.int .i64 0, .string ⟨#[]⟩, .string ⟨#[]⟩, .float .f64 0, .int .i64 0, .slice none 0 0] 49) = W at *
  go_loopg [4] 0 (fun g v wr => v = .int .i64 0 ∧ wr = W)
  case atStart => exact ⟨rfl, rfl⟩
  case round =>
    obtain ⟨rfl, rfl⟩ := hrel
    have hb : (s[0].toNat : Int) = 51 := by
      have h1 := HC.out
      have h2 := bt_lt hi
      omega
    have d123 : ((s[0].toNat : Int) == 123) = false := beq_eq_false_iff_ne.2 (by omega)
    have d91 : ((s[0].toNat : Int) == 91) = false := beq_eq_false_iff_ne.2 (by omega)
    have d43 : ((s[0].toNat : Int) == 43) = false := beq_eq_false_iff_ne.2 (by omega)
    have d45 : ((s[0].toNat : Int) == 45) = false := beq_eq_false_iff_ne.2 (by omega)
    have d48 : ((s[0].toNat : Int) == 48) = false := beq_eq_false_iff_ne.2 (by omega)
    have d49 : ((s[0].toNat : Int) == 49) = false := beq_eq_false_iff_ne.2 (by omega)
    have d50 : ((s[0].toNat : Int) == 50) = false := beq_eq_false_iff_ne.2 (by omega)
    have d51 : ((s[0].toNat : Int) == 51) = true := beq_iff_eq.2 (by omega)
    have e3 : decide ((s[0].toNat : Int) ≤ 32) = false := decide_eq_false (by omega)
    clear hb
    have tf := htb.frozen
    have t0 := htb.cell 0
    have t1 := htb.cell 1
    have t2 := htb.cell 2
    have t3 := htb.cell 3
    have t4 := htb.cell 4
    have t5 := htb.cell 5
    simp only [List.getElem?_toArray, List.getElem?_cons_zero, List.getElem?_cons_succ] at t0 t1 t2 t3 t4 t5
    have rsf := run_store_float64 (P := Tryz.prog)
    have hup0 := hup.setCell (p := ⟨w.heap.size + 1, 0, none⟩) (.inr (Nat.le_succ _)) (.int .i64 2)
    go_wp2_with (go_at_call 34; refine (HT.out _ (HG.out.upd hup0)).mono ?_; rintro e w1 ⟨rfl, hu1⟩; have htb1 := (htb.set_ 0 (.int .i64 2)).upd hu1 (by simp); have hrb1 := (hrb.far (p := ⟨w.heap.size + 1, 0, none⟩) (by simp) (.int .i64 2)).upd hu1 (by simp); have hup1 := hup0.trans hu1; clear tf t0 t1 t2 t3 t4 t5; have tf := htb1.frozen; have t0 := htb1.cell 0; have t1 := htb1.cell 1; have t2 := htb1.cell 2; have t3 := htb1.cell 3; have t4 := htb1.cell 4; have t5 := htb1.cell 5; simp only [Array.setIfInBounds_def, List.getElem?_toArray, List.getElem?_cons_zero, List.getElem?_cons_succ] at t0 t1 t2 t3 t4 t5; simp at t0 t1 t2 t3 t4 t5)
    clear tf t0 t1 t2 t3 t4 t5
    refine (exists_yes _ 2 s ⟨#[]⟩ x 0 (.inl (by decide))).mono ?_
    rintro e w5 ⟨rfl, rfl⟩
    have htb5 : Blk (((w1.setCell ⟨w.heap.size + 1, 1, none⟩ (.string s)).setCell ⟨w.heap.size + 1, 3, none⟩ (.float .f64 x)).alloc (.cells (resCells 2 s ⟨#[]⟩ x 0) 49)) (w.heap.size + 1) 49 #[.int .i64 2, .string s, .string ⟨#[]⟩, .float .f64 x, .int .i64 0, .slice none 0 0] := ((htb1.set_ 1 _).set_ 3 _).alloc _
    have hrb5 := ((hrb1.far (p := ⟨w.heap.size + 1, 1, none⟩) (by simp) (.string s)).far (p := ⟨w.heap.size + 1, 3, none⟩) (by simp) (.float .f64 x)).alloc (.cells (resCells 2 s ⟨#[]⟩ x 0) 49)
    have hup5 := ((hup1.setCell (p := ⟨w.heap.size + 1, 1, none⟩) (.inr (Nat.le_succ _)) (.string s)).setCell (p := ⟨w.heap.size + 1, 3, none⟩) (.inr (Nat.le_succ _)) (.float .f64 x)).alloc (.cells (resCells 2 s ⟨#[]⟩ x 0) 49)
    generalize ((w1.setCell ⟨w.heap.size + 1, 1, none⟩ (.string s)).setCell ⟨w.heap.size + 1, 3, none⟩ (.float .f64 x)).alloc (.cells (resCells 2 s ⟨#[]⟩ x 0) 49) = W5 at *
    clear htb hrb hup htb1 hrb1 hup0 hup1 hu1
    have htb6 : Blk (W5.setCell ⟨w.heap.size + 1, 4, none⟩ (.int .i64 0)) (w.heap.size + 1) 49 #[.int .i64 2, .string s, .string ⟨#[]⟩, .float .f64 x, .int .i64 0, .slice none 0 0] := htb5.set_ 4 _
    have hrb6 := hrb5.far (p := ⟨w.heap.size + 1, 4, none⟩) (by simp) (.int .i64 0)
    have hup6 := hup5.setCell (p := ⟨w.heap.size + 1, 4, none⟩) (.inr (Nat.le_succ _)) (.int .i64 0)
    have tf := htb5.frozen
    have t4 := htb5.cell 4
    simp only [List.getElem?_toArray, List.getElem?_cons_zero, List.getElem?_cons_succ] at t4
    go_upto_region 45 with fail
    clear tf t4
    generalize W5.setCell ⟨w.heap.size + 1, 4, none⟩ (.int .i64 0) = W6 at *
    clear htb5 hrb5 hup5
    have tf := htb6.frozen
    have t0 := htb6.cell 0
    have t1 := htb6.cell 1
    have t2 := htb6.cell 2
    have t3 := htb6.cell 3
    have t4 := htb6.cell 4
    have t5 := htb6.cell 5
    have rf := hrb6.frozen
    have r0 := hrb6.cell 0
    have r1 := hrb6.cell 1
    have r2 := hrb6.cell 2
    have r3 := hrb6.cell 3
    have r4 := hrb6.cell 4
    have r5 := hrb6.cell 5
    simp only [List.getElem?_toArray, List.getElem?_cons_zero, List.getElem?_cons_succ] at t0 t1 t2 t3 t4 t5 r0 r1 r2 r3 r4 r5
    have rsf := run_store_float64 (P := Tryz.prog)
    go_wp2_with fail
    have HB := (((((hrb6.set_ 0 (.int .i64 2)).set_ 1 (.string s)).set_ 2 (.string ⟨#[]⟩)).set_ 3 (.float .f64 x)).set_ 4 (.int .i64 0)).set_ 5 (.slice none 0 0)
    refine bodyPost_ret (res_parse (c0 := .int .i64 2) (c1 := .string s) (c2 := .string ⟨#[]⟩) (c3 := .float .f64 x) (c4 := .int .i64 0) (c5 := .slice none 0 0) HB _ rfl) rfl ?_
    exact ⟨rfl, parse_end hup6⟩

set_option maxRecDepth 100000 in
set_option maxHeartbeats 4000000 in
theorem parseU_b52 (w : World) (hg : Glp w) (s : ByteArray) (hi : 0 < s.size) (x : Nat) (ht : ToNumU s x) (hc : bt s 0 = 52) :
    Calls Tryz.prog 20 #[.string s] w fun e w' => e = .returned (.agg (resCells 2 s ⟨#[]⟩ x 0)) ∧ Upd [] w w' := by
  have HC := Lib.hid hc
  have HT := Lib.hid ht
  have HG := Lib.hid hg
  clear hc ht hg
  go_enter Tryz.func20, Tryz.ntmps20
  go_wp2_with fail
  have hup := ((Upd.refl [] w).alloc (.cells #[.int .i64 0, .string ⟨#[]⟩, .string ⟨#[]⟩, .float .f64 0, .int .i64 0, .slice none 0 0] 49)).alloc (.cells #[.int .i64 0, .string ⟨#[]⟩, .string ⟨#[]⟩, .float .f64 0, .int .i64 0, .slice none 0 0] 49)
  have hrb := (Blk.new w 49 #[.int .i64 0, .string ⟨#[]⟩, .string ⟨#[]⟩, .float .f64 0, .int .i64 0, .slice none 0 0]).alloc (.cells #[.int .i64 0, .string ⟨#[]⟩, .string ⟨#[]⟩, .float .f64 0, .int .i64 0, .slice none 0 0] 49)
  have htb := Blk.new (w.alloc (.cells #[.int .i64 0, .string ⟨#[]⟩, .string ⟨#[]⟩, .float .f64 0, .int .i64 0, .slice none 0 0] 49)) 49 #[.int .i64 0, .string ⟨#[]⟩, .string ⟨#[]⟩, .float .f64 0, .int .i64 0, .slice none 0 0]
  have hz : (w.alloc (.cells #[.int .i64 0, .string ⟨#[]⟩, .string ⟨#[]⟩, .float .f64 0, .int .i64 0, .slice none 0 0] 49)).heap.size = w.heap.size + 1 := by simp
  rw [hz] at htb
  clear hz
  generalize (w.alloc (.cells #[.int .i64 0, .string ⟨#[]⟩, .string ⟨#[]⟩, .float .f64 0, .int .i64 0, .slice none 0 0] 49)).alloc (.cells #[.int .i64 0, .string ⟨#[]⟩, .string ⟨#[]⟩, .float .f64 0, .int .i64 0, .slice none 0 0] 49) = W at *
  go_loopg [4] 0 (fun g v wr => v = .int .i64 0 ∧ wr = W)
  case atStart => exact ⟨rfl, rfl⟩
  case round =>
    obtain ⟨rfl, rfl⟩ := hrel
    have hb : (s[0].toNat : Int) = 52 := by
      have h1 := HC.out
      have h2 := bt_lt hi
      omega
    have d123 : ((s[0].toNat : Int) == 123) = false := beq_eq_false_iff_ne.2 (by omega)
    have d91 : ((s[0].toNat : Int) == 91) = false := beq_eq_false_iff_ne.2 (by omega)
    have d43 : ((s[0].toNat : Int) == 43) = false := beq_eq_false_iff_ne.2 (by omega)
    have d45 : ((s[0].toNat : Int) == 45) = false := beq_eq_false_iff_ne.2 (by omega)
    have d48 : ((s[0].toNat : Int) == 48) = false := beq_eq_false_iff_ne.2 (by omega)
    have d49 : ((s[0].toNat : Int) == 49) = false := beq_eq_false_iff_ne.2 (by omega)
    have d50 : ((s[0].toNat : Int) == 50) = false := beq_eq_false_iff_ne.2 (by omega)
    have d51 : ((s[0].toNat : Int) == 51) = false := beq_eq_false_iff_ne.2 (by omega)
    have d52 : ((s[0].toNat : Int) == 52) = true := beq_iff_eq.2 (by omega)
    have e3 : decide ((s[0].toNat : Int) ≤ 32) = false := decide_eq_false (by omega)
    clear hb
    have tf := htb.frozen
    have t0 := htb.cell 0
    have t1 := htb.cell 1
    have t2 := htb.cell 2
    have t3 := htb.cell 3
    have t4 := htb.cell 4
    have t5 := htb.cell 5
    simp only [List.getElem?_toArray, List.getElem?_cons_zero, List.getElem?_cons_succ] at t0 t1 t2 t3 t4 t5
    have rsf := run_store_float64 (P := Tryz.prog)
    have hup0 := hup.setCell (p := ⟨w.heap.size + 1, 0, none⟩) (.inr (Nat.le_succ _)) (.int .i64 2)
    go_wp2_with (go_at_call 34; refine (HT.out _ (HG.out.upd hup0)).mono ?_; rintro e w1 ⟨rfl, hu1⟩; have htb1 := (htb.set_ 0 (.int .i64 2)).upd hu1 (by simp); have hrb1 := (hrb.far (p := ⟨w.heap.size + 1, 0, none⟩) (by simp) (.int .i64 2)).upd hu1 (by simp); have hup1 := hup0.trans hu1; clear tf t0 t1 t2 t3 t4 t5; have tf := htb1.frozen; have t0 := htb1.cell 0; have t1 := htb1.cell 1; have t2 := htb1.cell 2; have t3 := htb1.cell 3; have t4 := htb1.cell 4; have t5 := htb1.cell 5; simp only [Array.setIfInBounds_def, List.getElem?_toArray, List.getElem?_cons_zero, List.getElem?_cons_succ] at t0 t1 t2 t3 t4 t5; simp at t0 t1 t2 t3 t4 t5)
    clear tf t0 t1 t2 t3 t4 t5
    refine (exists_yes _ 2 s ⟨#[]⟩ x 0 (.inl (by decide))).mono ?_
    rintro e w5 ⟨rfl, rfl⟩
    have htb5 : Blk (((w1.setCell ⟨w.heap.size + 1, 1, none⟩ (.string s)).setCell ⟨w.heap.size + 1, 3, none⟩ (.float .f64 x)).alloc (.cells (resCells 2 s ⟨#[]⟩ x 0) 49)) (w.heap.size + 1) 49 #[.int .i64 2, .string s, .string ⟨#[]⟩, .float .f64 x, .int .i64 0, .slice none 0 0] := ((htb1.set_ 1 _).set_ 3 _).alloc _
    have hrb5 := ((hrb1.far (p := ⟨w.heap.size + 1, 1, none⟩) (by simp) (.string s)).far (p := ⟨w.heap.size + 1, 3, none⟩) (by simp) (.float .f64 x)).alloc (.cells (resCells 2 s ⟨#[]⟩ x 0) 49)
    have hup5 := ((hup1.setCell (p := ⟨w.heap.size + 1, 1, none⟩) (.inr (Nat.le_succ _)) (.string s)).setCell (p := ⟨w.heap.size + 1, 3, none⟩) (.inr (Nat.le_succ _)) (.float .f64 x)).alloc (.cells (resCells 2 s ⟨#[]⟩ x 0) 49)
    generalize ((w1.setCell ⟨w.heap.size + 1, 1, none⟩ (.string s)).setCell ⟨w.heap.size + 1, 3, none⟩ (.float .f64 x)).alloc (.cells (resCells 2 s ⟨#[]⟩ x 0) 49) = W5 at *
    clear htb hrb hup htb1 hrb1 hup0 hup1 hu1
    have htb6 : Blk (W5.setCell ⟨w.heap.size + 1, 4, none⟩ (.int .i64 0)) (w.heap.size + 1) 49 #[.int .i64 2, .string s, .string ⟨#[]⟩, .float .f64 x, .int .i64 0, .slice none 0 0] := htb5.set_ 4 _
    have hrb6 := hrb5.far (p := ⟨w.heap.size + 1, 4, none⟩) (by simp) (.int .i64 0)
    have hup6 := hup5.setCell (p := ⟨w.heap.size + 1, 4, none⟩) (.inr (Nat.le_succ _)) (.int .i64 0)
    have tf := htb5.frozen
    have t4 := htb5.cell 4
    simp only [List.getElem?_toArray, List.getElem?_cons_zero, List.getElem?_cons_succ] at t4
    go_upto_region 45 with fail
    clear tf t4
    generalize W5.setCell ⟨w.heap.size + 1, 4, none⟩ (.int .i64 0) = W6 at *
    clear htb5 hrb5 hup5
    have tf := htb6.frozen
    have t0 := htb6.cell 0
    have t1 := htb6.cell 1
    have t2 := htb6.cell 2
    have t3 := htb6.cell 3
    have t4 := htb6.cell 4
    have t5 := htb6.cell 5
    have rf := hrb6.frozen
    have r0 := hrb6.cell 0
    have r1 := hrb6.cell 1
    have r2 := hrb6.cell 2
    have r3 := hrb6.cell 3
    have r4 := hrb6.cell 4
    have r5 := hrb6.cell 5
    simp only [List.getElem?_toArray, List.getElem?_cons_zero, List.getElem?_cons_succ] at t0 t1 t2 t3 t4 t5 r0 r1 r2 r3 r4 r5
    have rsf := run_store_float64 (P := Tryz.prog)
    go_wp2_with fail
    have HB := (((((hrb6.set_ 0 (.int .i64 2)).set_ 1 (.string s)).set_ 2 (.string ⟨#[]⟩)).set_ 3 (.float .f64 x)).set_ 4 (.int .i64 0)).set_ 5 (.slice none 0 0)
    refine bodyPost_ret (res_parse (c0 := .int .i64 2) (c1 := .string s) (c2 := .string ⟨#[]⟩) (c3 := .float .f64 x) (c4 := .int .i64 0) (c5 := .slice none 0 0) HB _ rfl) rfl ?_
    exact ⟨rfl, parse_end hup6⟩
end Go.Proofs.YtcnkbdbkglggcaaGreatDoor
