/-
  The program's 'Parse' on objects and arrays, on true, false and null. Condition: the text has at most 2^31 bytes.
  The thin package's 'Parse': the value of a result. Condition: the result is no null.
-/
import Derived.Test.YtcnkbdbkglggcaaGreatDoorZMA
import Derived.Deep.CutBlock
import Derived.Deep.DeepCutAuto
import Derived.Deep.RegionHeld3
import Derived.ChangeAlike
set_option linter.unusedVariables false
set_option linter.unusedSimpArgs false
namespace Go.Proofs.YtcnkbdbkglggcaaGreatDoor
open Go.RowKit

theorem res_parse {W : World} {rb : Nat} {c0 c1 c2 c3 c4 c5 : Value} (h : Blk W rb 49 #[c0, c1, c2, c3, c4, c5]) (tmps : Array Value) (ht : tmps.getD 2 undef = .pointer (some ⟨rb, 0, none⟩)) :
    (results Tryz.f20 tmps).run Tryz.prog W = .ok (.agg #[c0, c1, c2, c3, c4, c5]) W := by
  have r0 := h.cell 0
  have r1 := h.cell 1
  have r2 := h.cell 2
  have r3 := h.cell 3
  have r4 := h.cell 4
  have r5 := h.cell 5
  simp only [List.getElem?_toArray, List.getElem?_cons_zero, List.getElem?_cons_succ] at r0 r1 r2 r3 r4 r5
  have ht' : tmps[2]?.getD undef = .pointer (some ⟨rb, 0, none⟩) := by simpa using ht
  simp [results, Tryz.results20, go_sem, ht', r0, r1, r2, r3, r4, r5]
theorem parse_end {w w4 : World} {v0 v1 v2 v3 v4 v5 : Value} (hup : Upd [] w w4) : Upd [] w ((((((w4.setCell ⟨w.heap.size, 0, none⟩ v0).setCell ⟨w.heap.size, 1, none⟩ v1).setCell ⟨w.heap.size, 2, none⟩ v2).setCell ⟨w.heap.size, 3, none⟩ v3).setCell ⟨w.heap.size, 4, none⟩ v4).setCell ⟨w.heap.size, 5, none⟩ v5) :=
  (((((hup.setCell (p := ⟨w.heap.size, 0, none⟩) (.inr (Nat.le_refl _)) v0).setCell (p := ⟨w.heap.size, 1, none⟩) (.inr (Nat.le_refl _)) v1).setCell (p := ⟨w.heap.size, 2, none⟩) (.inr (Nat.le_refl _)) v2).setCell (p := ⟨w.heap.size, 3, none⟩) (.inr (Nat.le_refl _)) v3).setCell (p := ⟨w.heap.size, 4, none⟩) (.inr (Nat.le_refl _)) v4).setCell (p := ⟨w.heap.size, 5, none⟩) (.inr (Nat.le_refl _)) v5

set_option maxRecDepth 100000 in
set_option maxHeartbeats 4000000 in
theorem parse_json (w : World) (s : ByteArray) (i : Nat) (hs : s.size ≤ 2 ^ 31) (hws : Ws s 0 i) (hc : bt s i = 123 ∨ bt s i = 91) :
    Calls Tryz.prog 20 #[.string s] w fun e w' => e = .returned (.agg (resCells 5 (s.extract i s.size) ⟨#[]⟩ 0 i)) ∧ Upd [] w w' := by
  have hi : i < s.size := lt_of_bt (by omega)
  have HW := Lib.hid hws.2.2.1
  have HC := Lib.hid hc
  clear hws hc
  go_enter Tryz.func20, Tryz.ntmps20
  go_wp2_with fail
  have hup := ((Upd.refl [] w).alloc (.cells #[.int .i64 0, .string ⟨#[]⟩, .string ⟨#[]⟩, .float .f64 0, .int .i64 0, .slice none 0 0] 49)).alloc (.cells #[.int .i64 0, .string ⟨#[]⟩, .string ⟨#[]⟩, .float .f64 0, .int .i64 0, .slice none 0 0] 49)
  have hrb := (Blk.new w 49 #[.int .i64 0, .string ⟨#[]⟩, .string ⟨#[]⟩, .float .f64 0, .int .i64 0, .slice none 0 0]).alloc (.cells #[.int .i64 0, .string ⟨#[]⟩, .string ⟨#[]⟩, .float .f64 0, .int .i64 0, .slice none 0 0] 49)
  have htb := Blk.new (w.alloc (.cells #[.int .i64 0, .string ⟨#[]⟩, .string ⟨#[]⟩, .float .f64 0, .int .i64 0, .slice none 0 0] 49)) 49 #[.int .i64 0, .string ⟨#[]⟩, .string ⟨#[]⟩, .float .f64 0, .int .i64 0, .slice none 0 0]
  have hz : (w.alloc (.cells #[.int .i64 0, .string ⟨#[]⟩, .string ⟨#[]⟩, .float .f64 0, .int .i64 0, .slice none 0 0] 49)).heap.size = w.heap.size + 1 := by simp
  rw [hz] at htb
  clear hz
  generalize (w.alloc (.cells #[.int .i64 0, .string ⟨#[]⟩, .string ⟨#[]⟩, .float .f64 0, .int .i64 0, .slice none 0 0] 49)).alloc (.cells #[.int .i64 0, .string ⟨#[]⟩, .string ⟨#[]⟩, .float .f64 0, .int .i64 0, .slice none 0 0] 49) = W at *
  go_loopg [4] i (fun g v wr => ∃ k : Nat, k ≤ i ∧ v = .int .i64 k ∧ wr = W ∧ Hid (g = i - k))
  case atStart => exact ⟨0, by omega, rfl, rfl, rfl⟩
  case round =>
    obtain ⟨k, hk, rfl, rfl, hh⟩ := hrel
    by_cases hlt : k < i
    · have hks : k < s.size := by omega
      have hb : s[k].toNat ≤ 32 := by
        have h1 := HW.out k (by omega) hlt
        have h2 := bt_lt hks
        unfold isWs at h1
        omega
      clear hrb htb hup
      have d1 : ((s[k].toNat : Int) == 123) = false := beq_eq_false_iff_ne.2 (by omega)
      have d2 : ((s[k].toNat : Int) == 91) = false := beq_eq_false_iff_ne.2 (by omega)
      go_wp2_with fail
      go_roundg (i - (k + 1))
      case measure => have := hh.out; omega
      case rel => exact ⟨k + 1, by omega, by go_num, rfl, rfl⟩
    · have hE : k = i := by omega
      subst hE
      have hb : s[k].toNat = 123 ∨ s[k].toNat = 91 := by
        have h1 := HC.out
        have h2 := bt_lt hi
        omega
      have tf := htb.frozen
      have t0 := htb.cell 0
      have t1 := htb.cell 1
      have t2 := htb.cell 2
      have t3 := htb.cell 3
      have t4 := htb.cell 4
      have t5 := htb.cell 5
      simp only [List.getElem?_toArray, List.getElem?_cons_zero, List.getElem?_cons_succ] at t0 t1 t2 t3 t4 t5
      rcases hb with hb | hb
      · have d1 : ((s[k].toNat : Int) == 123) = true := beq_iff_eq.2 (by omega)
        clear hb
        go_wp2_with fail
        clear tf t0 t1 t2 t3 t4 t5
        refine (exists_yes _ 5 (s.extract k s.size) ⟨#[]⟩ 0 0 (.inl (by decide))).mono ?_
        rintro e w5 ⟨rfl, rfl⟩
        have htb5 : Blk (((wr.setCell ⟨w.heap.size + 1, 0, none⟩ (.int .i64 5)).setCell ⟨w.heap.size + 1, 1, none⟩ (.string (s.extract k s.size))).alloc (.cells (resCells 5 (s.extract k s.size) ⟨#[]⟩ 0 0) 49)) (w.heap.size + 1) 49 #[.int .i64 5, .string (s.extract k s.size), .string ⟨#[]⟩, .float .f64 0, .int .i64 0, .slice none 0 0] := ((htb.set_ 0 _).set_ 1 _).alloc _
        have hrb5 := ((hrb.far (p := ⟨w.heap.size + 1, 0, none⟩) (by simp) (.int .i64 5)).far (p := ⟨w.heap.size + 1, 1, none⟩) (by simp) (.string (s.extract k s.size))).alloc (.cells (resCells 5 (s.extract k s.size) ⟨#[]⟩ 0 0) 49)
        have hup5 := ((hup.setCell (p := ⟨w.heap.size + 1, 0, none⟩) (.inr (Nat.le_succ _)) (.int .i64 5)).setCell (p := ⟨w.heap.size + 1, 1, none⟩) (.inr (Nat.le_succ _)) (.string (s.extract k s.size))).alloc (.cells (resCells 5 (s.extract k s.size) ⟨#[]⟩ 0 0) 49)
        generalize ((wr.setCell ⟨w.heap.size + 1, 0, none⟩ (.int .i64 5)).setCell ⟨w.heap.size + 1, 1, none⟩ (.string (s.extract k s.size))).alloc (.cells (resCells 5 (s.extract k s.size) ⟨#[]⟩ 0 0) 49) = W5 at *
        clear htb hrb hup
        have htb6 : Blk (W5.setCell ⟨w.heap.size + 1, 4, none⟩ (.int .i64 k)) (w.heap.size + 1) 49 #[.int .i64 5, .string (s.extract k s.size), .string ⟨#[]⟩, .float .f64 0, .int .i64 k, .slice none 0 0] := htb5.set_ 4 _
        have hrb6 := hrb5.far (p := ⟨w.heap.size + 1, 4, none⟩) (by simp) (.int .i64 k)
        have hup6 := hup5.setCell (p := ⟨w.heap.size + 1, 4, none⟩) (.inr (Nat.le_succ _)) (.int .i64 k)
        have tf := htb5.frozen
        have t4 := htb5.cell 4
        simp only [List.getElem?_toArray, List.getElem?_cons_zero, List.getElem?_cons_succ] at t4
        go_upto_region 45 with fail
        clear tf t4
        generalize W5.setCell ⟨w.heap.size + 1, 4, none⟩ (.int .i64 k) = W6 at *
        clear htb5 hrb5 hup5
        have tf := htb6.frozen
        have t0 := htb6.cell 0
        have t1 := htb6.cell 1
        have t2 := htb6.cell 2
        have t3 := htb6.cell 3
        have t4 := htb6.cell 4
        have t5 := htb6.cell 5
        have rf := hrb6.frozen
        have r0 := hrb6.cell 0
        have r1 := hrb6.cell 1
        have r2 := hrb6.cell 2
        have r3 := hrb6.cell 3
        have r4 := hrb6.cell 4
        have r5 := hrb6.cell 5
        simp only [List.getElem?_toArray, List.getElem?_cons_zero, List.getElem?_cons_succ] at t0 t1 t2 t3 t4 t5 r0 r1 r2 r3 r4 r5
        have rsf := run_store_float64 (P := Tryz.prog)
        go_wp2_with fail
        have HB := (((((hrb6.set_ 0 (.int .i64 5)).set_ 1 (.string (s.extract k s.size))).set_ 2 (.string ⟨#[]⟩)).set_ 3 (.float .f64 0)).set_ 4 (.int .i64 k)).set_ 5 (.slice none 0 0)
        refine bodyPost_ret (res_parse (c0 := .int .i64 5) (c1 := .string (s.extract k s.size)) (c2 := .string ⟨#[]⟩) (c3 := .float .f64 0) (c4 := .int .i64 k) (c5 := .slice none 0 0) HB _ rfl) rfl ?_
        exact ⟨rfl, parse_end hup6⟩
      · have d1 : ((s[k].toNat : Int) == 123) = false := beq_eq_false_iff_ne.2 (by omega)
        have d2 : ((s[k].toNat : Int) == 91) = true := beq_iff_eq.2 (by omega)
        clear hb
        go_wp2_with fail
        clear tf t0 t1 t2 t3 t4 t5
        refine (exists_yes _ 5 (s.extract k s.size) ⟨#[]⟩ 0 0 (.inl (by decide))).mono ?_
        rintro e w5 ⟨rfl, rfl⟩
        have htb5 : Blk (((wr.setCell ⟨w.heap.size + 1, 0, none⟩ (.int .i64 5)).setCell ⟨w.heap.size + 1, 1, none⟩ (.string (s.extract k s.size))).alloc (.cells (resCells 5 (s.extract k s.size) ⟨#[]⟩ 0 0) 49)) (w.heap.size + 1) 49 #[.int .i64 5, .string (s.extract k s.size), .string ⟨#[]⟩, .float .f64 0, .int .i64 0, .slice none 0 0] := ((htb.set_ 0 _).set_ 1 _).alloc _
        have hrb5 := ((hrb.far (p := ⟨w.heap.size + 1, 0, none⟩) (by simp) (.int .i64 5)).far (p := ⟨w.heap.size + 1, 1, none⟩) (by simp) (.string (s.extract k s.size))).alloc (.cells (resCells 5 (s.extract k s.size) ⟨#[]⟩ 0 0) 49)
        have hup5 := ((hup.setCell (p := ⟨w.heap.size + 1, 0, none⟩) (.inr (Nat.le_succ _)) (.int .i64 5)).setCell (p := ⟨w.heap.size + 1, 1, none⟩) (.inr (Nat.le_succ _)) (.string (s.extract k s.size))).alloc (.cells (resCells 5 (s.extract k s.size) ⟨#[]⟩ 0 0) 49)
        generalize ((wr.setCell ⟨w.heap.size + 1, 0, none⟩ (.int .i64 5)).setCell ⟨w.heap.size + 1, 1, none⟩ (.string (s.extract k s.size))).alloc (.cells (resCells 5 (s.extract k s.size) ⟨#[]⟩ 0 0) 49) = W5 at *
        clear htb hrb hup
        have htb6 : Blk (W5.setCell ⟨w.heap.size + 1, 4, none⟩ (.int .i64 k)) (w.heap.size + 1) 49 #[.int .i64 5, .string (s.extract k s.size), .string ⟨#[]⟩, .float .f64 0, .int .i64 k, .slice none 0 0] := htb5.set_ 4 _
        have hrb6 := hrb5.far (p := ⟨w.heap.size + 1, 4, none⟩) (by simp) (.int .i64 k)
        have hup6 := hup5.setCell (p := ⟨w.heap.size + 1, 4, none⟩) (.inr (Nat.le_succ _)) (.int .i64 k)
        have tf := htb5.frozen
        have t4 := htb5.cell 4
        simp only [List.getElem?_toArray, List.getElem?_cons_zero, List.getElem?_cons_succ] at t4
        go_upto_region 45 with fail
        clear tf t4
        generalize W5.setCell ⟨w.heap.size + 1, 4, none⟩ (.int .i64 k) = W6 at *
        clear htb5 hrb5 hup5
        have tf := htb6.frozen
        have t0 := htb6.cell 0
        have t1 := htb6.cell 1
        have t2 := htb6.cell 2
        have t3 := htb6.cell 3
        have t4 := htb6.cell 4
        have t5 := htb6.cell 5
        have rf := hrb6.frozen
        have r0 := hrb6.cell 0
        have r1 := hrb6.cell 1
        have r2 := hrb6.cell 2
        have r3 := hrb6.cell 3
        have r4 := hrb6.cell 4
        have r5 := hrb6.cell 5
        simp only [List.getElem?_toArray, List.getElem?_cons_zero, List.getElem?_cons_succ] at t0 t1 t2 t3 t4 t5 r0 r1 r2 r3 r4 r5
        have rsf := run_store_float64 (P := Tryz.prog)
        go_wp2_with fail
        have HB := (((((hrb6.set_ 0 (.int .i64 5)).set_ 1 (.string (s.extract k s.size))).set_ 2 (.string ⟨#[]⟩)).set_ 3 (.float .f64 0)).set_ 4 (.int .i64 k)).set_ 5 (.slice none 0 0)
        refine bodyPost_ret (res_parse (c0 := .int .i64 5) (c1 := .string (s.extract k s.size)) (c2 := .string ⟨#[]⟩) (c3 := .float .f64 0) (c4 := .int .i64 k) (c5 := .slice none 0 0) HB _ rfl) rfl ?_
        exact ⟨rfl, parse_end hup6⟩
end Go.Proofs.YtcnkbdbkglggcaaGreatDoor

namespace Go.Proofs.YtcnkbdbkglggcaaGreatDoor
open Go.RowKit

/-- A value of the thin package's: its kind, text, string, number, place, and that it is there. -/
def valCells (k : Int) (raw str : ByteArray) (x : Nat) (i : Int) : Array Value := #[.int .i64 k, .string raw, .string str, .float .f64 x, .int .i64 i, .bool true]
theorem res_value {W : World} {rb : Nat} {c0 c1 c2 c3 c4 c5 : Value} (h : Blk W rb 34 #[c0, c1, c2, c3, c4, c5]) (tmps : Array Value) (ht : tmps.getD 2 undef = .pointer (some ⟨rb, 0, none⟩)) :
    (results Tryz.f24 tmps).run Tryz.prog W = .ok (.agg #[c0, c1, c2, c3, c4, c5]) W := by
  have r0 := h.cell 0
  have r1 := h.cell 1
  have r2 := h.cell 2
  have r3 := h.cell 3
  have r4 := h.cell 4
  have r5 := h.cell 5
  simp only [List.getElem?_toArray, List.getElem?_cons_zero, List.getElem?_cons_succ] at r0 r1 r2 r3 r4 r5
  have ht' : tmps[2]?.getD undef = .pointer (some ⟨rb, 0, none⟩) := by simpa using ht
  simp [results, Tryz.results24, go_sem, ht', r0, r1, r2, r3, r4, r5]
theorem res_iparse {W : World} {rb : Nat} {c0 c1 c2 c3 c4 c5 : Value} (h : Blk W rb 34 #[c0, c1, c2, c3, c4, c5]) (tmps : Array Value) (ht : tmps.getD 2 undef = .pointer (some ⟨rb, 0, none⟩)) :
    (results Tryz.f13 tmps).run Tryz.prog W = .ok (.agg #[c0, c1, c2, c3, c4, c5]) W := by
  have r0 := h.cell 0
  have r1 := h.cell 1
  have r2 := h.cell 2
  have r3 := h.cell 3
  have r4 := h.cell 4
  have r5 := h.cell 5
  simp only [List.getElem?_toArray, List.getElem?_cons_zero, List.getElem?_cons_succ] at r0 r1 r2 r3 r4 r5
  have ht' : tmps[2]?.getD undef = .pointer (some ⟨rb, 0, none⟩) := by simpa using ht
  simp [results, Tryz.results13, go_sem, ht', r0, r1, r2, r3, r4, r5]
set_option maxRecDepth 100000 in
set_option maxHeartbeats 4000000 in
theorem value_any (w : World) (k : Int) (raw str : ByteArray) (x : Nat) (i : Int) (hk : k ≠ 0) : Calls Tryz.prog 24 #[.agg (resCells k raw str x i)] w fun e w' => e = .returned (.agg (valCells k raw str x i)) ∧ Upd [] w w' := by
  have EX : ∀ w, Calls Tryz.prog 37 #[.agg (resCells k raw str x i)] w fun e w' => e = .returned (.bool true) ∧ Upd [] w w' := fun w => (exists_yes w k raw str x i (.inl hk)).mono fun e w' h => ⟨h.1, h.2 ▸ (Upd.refl [] w).alloc _⟩
  have EXH := Lib.hid EX
  clear EX
  have rsf := run_store_float64 (P := Tryz.prog)
  go_enter Tryz.func24, Tryz.ntmps24
  unfold resCells at *
  go_wp2_with fail
  have hb1 := (Blk.new w 49 #[.int .i64 k, .string raw, .string str, .float .f64 x, .int .i64 i, .slice none 0 0]).alloc (.cells #[.int .i64 0, .string ⟨#[]⟩, .string ⟨#[]⟩, .float .f64 0, .int .i64 0, .bool false] 34)
  have hb2 := Blk.new (w.alloc (.cells #[.int .i64 k, .string raw, .string str, .float .f64 x, .int .i64 i, .slice none 0 0] 49)) 34 #[.int .i64 0, .string ⟨#[]⟩, .string ⟨#[]⟩, .float .f64 0, .int .i64 0, .bool false]
  have hz : (w.alloc (.cells #[.int .i64 k, .string raw, .string str, .float .f64 x, .int .i64 i, .slice none 0 0] 49)).heap.size = w.heap.size + 1 := by simp
  rw [hz] at hb2
  clear hz
  have hup := ((Upd.refl [] w).alloc (.cells #[.int .i64 k, .string raw, .string str, .float .f64 x, .int .i64 i, .slice none 0 0] 49)).alloc (.cells #[.int .i64 0, .string ⟨#[]⟩, .string ⟨#[]⟩, .float .f64 0, .int .i64 0, .bool false] 34)
  generalize (w.alloc (.cells #[.int .i64 k, .string raw, .string str, .float .f64 x, .int .i64 i, .slice none 0 0] 49)).alloc (.cells #[.int .i64 0, .string ⟨#[]⟩, .string ⟨#[]⟩, .float .f64 0, .int .i64 0, .bool false] 34) = W at *
  have r0 := hb1.cell 0
  have r1 := hb1.cell 1
  have r2 := hb1.cell 2
  have r3 := hb1.cell 3
  have r4 := hb1.cell 4
  have r5 := hb1.cell 5
  have rf := hb1.frozen
  have t0 := hb2.cell 0
  have t1 := hb2.cell 1
  have t2 := hb2.cell 2
  have t3 := hb2.cell 3
  have t4 := hb2.cell 4
  have t5 := hb2.cell 5
  have tf := hb2.frozen
  simp only [List.getElem?_toArray, List.getElem?_cons_zero, List.getElem?_cons_succ] at r0 r1 r2 r3 r4 r5 t0 t1 t2 t3 t4 t5
  have HB1 := Lib.hid hb1
  have HB2 := Lib.hid hb2
  have HUP := Lib.hid hup
  clear hb1 hb2 hup rf
  refine wp_region_held_drew (S := (fun w' => w'.cell? ⟨w.heap.size, 0, none⟩ = some (.int .i64 k) ∧ w'.cell? ⟨w.heap.size, 1, none⟩ = some (.string raw) ∧ w'.cell? ⟨w.heap.size, 2, none⟩ = some (.string str) ∧ w'.cell? ⟨w.heap.size, 3, none⟩ = some (.float .f64 x) ∧ w'.cell? ⟨w.heap.size, 4, none⟩ = some (.int .i64 i) ∧ w'.cell? ⟨w.heap.size, 5, none⟩ = some (.slice none 0 0))) (by kernel_rfl) ?_ (fun hHeld => ?_)
  · exact ⟨r0, r1, r2, r3, r4, r5⟩
  refine wpAnyH_take (i := 0) (v := ?_) rfl (by kernel_rfl) (by kernel_rfl) (by kernel_rfl) (fun _ _ _ h => h) (Or.inl ⟨by rfl, ?_⟩) hHeld ?_
  rotate_left
  · intro w hSw; (try dsimp only at hSw); go_simp
    all_goals (with_reducible rfl)
  try simp only [Act.put, List.setIfInBounds_toArray, List.set_cons_zero, List.set_cons_succ]
  refine wpAnyH_take (i := 1) (v := ?_) rfl (by kernel_rfl) (by kernel_rfl) (by kernel_rfl) (fun _ _ _ h => h) (Or.inl ⟨by rfl, ?_⟩) hHeld ?_
  rotate_left
  · intro w hSw; (try dsimp only at hSw); go_simp
    all_goals (with_reducible rfl)
  try simp only [Act.put, List.setIfInBounds_toArray, List.set_cons_zero, List.set_cons_succ]
  refine wpAnyH_take (i := 2) (v := ?_) rfl (by kernel_rfl) (by kernel_rfl) (by kernel_rfl) (fun _ _ _ h => h) (Or.inl ⟨by rfl, ?_⟩) hHeld ?_
  rotate_left
  · intro w hSw; (try dsimp only at hSw); go_simp
    all_goals (with_reducible rfl)
  try simp only [Act.put, List.setIfInBounds_toArray, List.set_cons_zero, List.set_cons_succ]
  refine wpAnyH_take (i := 3) (v := ?_) rfl (by kernel_rfl) (by kernel_rfl) (by kernel_rfl) (fun _ _ _ h => h) (Or.inl ⟨by rfl, ?_⟩) hHeld ?_
  rotate_left
  · intro w hSw; (try dsimp only at hSw); go_simp
    all_goals (with_reducible rfl)
  try simp only [Act.put, List.setIfInBounds_toArray, List.set_cons_zero, List.set_cons_succ]
  refine wpAnyH_take (i := 4) (v := ?_) rfl (by kernel_rfl) (by kernel_rfl) (by kernel_rfl) (fun _ _ _ h => h) (Or.inl ⟨by rfl, ?_⟩) hHeld ?_
  rotate_left
  · intro w hSw; (try dsimp only at hSw); go_simp
    all_goals (with_reducible rfl)
  try simp only [Act.put, List.setIfInBounds_toArray, List.set_cons_zero, List.set_cons_succ]
  refine wpAnyH_take (i := 5) (v := ?_) rfl (by kernel_rfl) (by kernel_rfl) (by kernel_rfl) (fun _ _ _ h => h) (Or.inl ⟨by rfl, ?_⟩) hHeld ?_
  rotate_left
  · intro w hSw; (try dsimp only at hSw); go_simp
    all_goals (with_reducible rfl)
  try simp only [Act.put, List.setIfInBounds_toArray, List.set_cons_zero, List.set_cons_succ]
  refine wpAnyH_take (i := 6) (v := ?_) rfl (by kernel_rfl) (by kernel_rfl) (by kernel_rfl) (fun _ _ _ h => h) (Or.inl ⟨by rfl, ?_⟩) hHeld ?_
  rotate_left
  · intro w hSw; (try dsimp only at hSw); go_simp
    all_goals (with_reducible rfl)
  try simp only [Act.put, List.setIfInBounds_toArray, List.set_cons_zero, List.set_cons_succ]
  refine wpAnyH_take (i := 7) (v := ?_) rfl (by kernel_rfl) (by kernel_rfl) (by kernel_rfl) (fun _ _ _ h => h) (Or.inl ⟨by rfl, ?_⟩) hHeld ?_
  rotate_left
  · intro w hSw; (try dsimp only at hSw); go_simp
    all_goals (with_reducible rfl)
  try simp only [Act.put, List.setIfInBounds_toArray, List.set_cons_zero, List.set_cons_succ]
  refine wpAnyH_take (i := 8) (v := ?_) rfl (by kernel_rfl) (by kernel_rfl) (by kernel_rfl) (fun _ _ _ h => h) (Or.inl ⟨by rfl, ?_⟩) hHeld ?_
  rotate_left
  · intro w hSw; (try dsimp only at hSw); go_simp
    all_goals (with_reducible rfl)
  try simp only [Act.put, List.setIfInBounds_toArray, List.set_cons_zero, List.set_cons_succ]
  refine wpAnyH_take (i := 9) (v := ?_) rfl (by kernel_rfl) (by kernel_rfl) (by kernel_rfl) (fun _ _ _ h => h) (Or.inl ⟨by rfl, ?_⟩) hHeld ?_
  rotate_left
  · intro w hSw; (try dsimp only at hSw); go_simp
    all_goals (with_reducible rfl)
  try simp only [Act.put, List.setIfInBounds_toArray, List.set_cons_zero, List.set_cons_succ]
  refine wpAnyH_take (i := 10) (v := ?_) rfl (by kernel_rfl) (by kernel_rfl) (by kernel_rfl) (fun _ _ _ h => h) (Or.inl ⟨by rfl, ?_⟩) hHeld ?_
  rotate_left
  · intro w hSw; (try dsimp only at hSw); go_simp
    all_goals (with_reducible rfl)
  try simp only [Act.put, List.setIfInBounds_toArray, List.set_cons_zero, List.set_cons_succ]
  refine wpAnyH_ready (rs := [11]) (by kernel_rfl) (by simp) ?_
  refine AllReadyH.cons rfl (fun K hK => ?_) AllReadyH.nil
  go_simp
  refine (EXH.out _).mono ?_
  rintro e w5 ⟨rfl, hu5⟩
  have hb5 := (Blk.drew HB1.out).upd hu5 (by simp)
  have hc5 := (Blk.drew HB2.out).upd hu5 (by simp)
  have hup5 := HUP.out.drew.trans hu5
  refine hK.out _ _ ⟨hb5.cell 0, hb5.cell 1, hb5.cell 2, hb5.cell 3, hb5.cell 4, hb5.cell 5⟩ (fun hH2 => ?_)
  clear hK K r0 r1 r2 r3 r4 r5 t0 t1 t2 t3 t4 t5 tf
  refine wpAnyH_take (i := 12) (v := ?_) rfl (by kernel_rfl) (by kernel_rfl) (by kernel_rfl) (fun _ _ _ h => h) (Or.inl ⟨by rfl, ?_⟩) hH2 ?_
  rotate_left
  · intro w hSw; (try dsimp only at hSw); go_simp
    all_goals (with_reducible rfl)
  try simp only [Act.put, List.setIfInBounds_toArray, List.set_cons_zero, List.set_cons_succ]
  have q0 := hc5.cell 0
  have q1 := hc5.cell 1
  have q2 := hc5.cell 2
  have q3 := hc5.cell 3
  have q4 := hc5.cell 4
  have q5 := hc5.cell 5
  have qf := hc5.frozen
  simp only [List.getElem?_toArray, List.getElem?_cons_zero, List.getElem?_cons_succ] at q0 q1 q2 q3 q4 q5
  refine wpAnyH_ready (rs := [13]) (by kernel_rfl) (by simp) ?_
  refine AllReadyH.cons rfl (fun K hK => ?_) AllReadyH.nil
  go_simp
  have hb6 := ((((((hb5.far (p := ⟨w.heap.size + 1, 0, none⟩) (by simp) (.int .i64 k)).far (p := ⟨w.heap.size + 1, 1, none⟩) (by simp) (.string raw)).far (p := ⟨w.heap.size + 1, 2, none⟩) (by simp) (.string str)).far (p := ⟨w.heap.size + 1, 3, none⟩) (by simp) (.float .f64 x)).far (p := ⟨w.heap.size + 1, 4, none⟩) (by simp) (.int .i64 i)).far (p := ⟨w.heap.size + 1, 5, none⟩) (by simp) (.bool true))
  refine hK.out _ _ ⟨hb6.cell 0, hb6.cell 1, hb6.cell 2, hb6.cell 3, hb6.cell 4, hb6.cell 5⟩ (fun hH3 => ?_)
  clear hK K
  refine wpAnyH_done (by kernel_rfl) ?_ _
  have hc6 := (((((hc5.set_ 0 (.int .i64 k)).set_ 1 (.string raw)).set_ 2 (.string str)).set_ 3 (.float .f64 x)).set_ 4 (.int .i64 i)).set_ 5 (.bool true)
  clear q0 q1 q2 q3 q4 q5 qf
  go_wp2_with fail
  exact bodyPost_ret (res_value (c0 := .int .i64 k) (c1 := .string raw) (c2 := .string str) (c3 := .float .f64 x) (c4 := .int .i64 i) (c5 := .bool true) hc6 _ rfl) rfl ⟨rfl, ((((((hup5.setCell (p := ⟨w.heap.size + 1, 0, none⟩) (.inr (Nat.le_succ _)) _).setCell (p := ⟨w.heap.size + 1, 1, none⟩) (.inr (Nat.le_succ _)) _).setCell (p := ⟨w.heap.size + 1, 2, none⟩) (.inr (Nat.le_succ _)) _).setCell (p := ⟨w.heap.size + 1, 3, none⟩) (.inr (Nat.le_succ _)) _).setCell (p := ⟨w.heap.size + 1, 4, none⟩) (.inr (Nat.le_succ _)) _).setCell (p := ⟨w.heap.size + 1, 5, none⟩) (.inr (Nat.le_succ _)) _)⟩
set_option maxRecDepth 100000 in
set_option maxHeartbeats 4000000 in
theorem implParse_any (w : World) (s : ByteArray) (k : Int) (raw str : ByteArray) (x : Nat) (i : Int) (hk : k ≠ 0)
    (hp : ∀ w0, Upd [] w w0 → Calls Tryz.prog 20 #[.string s] w0 fun e w' => e = .returned (.agg (resCells k raw str x i)) ∧ Upd [] w0 w') :
    Calls Tryz.prog 13 #[.string s] w fun e w' => e = .returned (.agg (valCells k raw str x i)) ∧ Upd [] w w' := by
  have hu0 := (Upd.refl [] w).alloc (.cells #[.int .i64 0, .string ⟨#[]⟩, .string ⟨#[]⟩, .float .f64 0, .int .i64 0, .bool false] 34)
  have hb0 := Blk.new w 34 #[.int .i64 0, .string ⟨#[]⟩, .string ⟨#[]⟩, .float .f64 0, .int .i64 0, .bool false]
  have HP := Lib.hid (hp _ hu0)
  have HB := Lib.hid hb0
  have HU := Lib.hid hu0
  clear hp hb0 hu0
  go_enter Tryz.func13, Tryz.ntmps13
  go_wp2_with fail
  refine HP.out.mono ?_
  rintro e w1 ⟨rfl, hu1⟩
  go_wp2_with fail
  refine (value_any w1 k raw str x i hk).mono ?_
  rintro e w2 ⟨rfl, hu2⟩
  have hb2 := (HB.out.upd hu1 (by simp)).upd hu2 (by simp)
  have hup2 := (HU.out.trans hu1).trans hu2
  have q0 := hb2.cell 0
  have q1 := hb2.cell 1
  have q2 := hb2.cell 2
  have q3 := hb2.cell 3
  have q4 := hb2.cell 4
  have q5 := hb2.cell 5
  have qf := hb2.frozen
  have rsf := run_store_float64 (P := Tryz.prog)
  simp only [List.getElem?_toArray, List.getElem?_cons_zero, List.getElem?_cons_succ] at q0 q1 q2 q3 q4 q5
  unfold valCells
  go_wp2_with fail
  have hc6 := (((((hb2.set_ 0 (.int .i64 k)).set_ 1 (.string raw)).set_ 2 (.string str)).set_ 3 (.float .f64 x)).set_ 4 (.int .i64 i)).set_ 5 (.bool true)
  exact bodyPost_ret (res_iparse (c0 := .int .i64 k) (c1 := .string raw) (c2 := .string str) (c3 := .float .f64 x) (c4 := .int .i64 i) (c5 := .bool true) hc6 _ rfl) rfl ⟨rfl, ((((((hup2.setCell (p := ⟨w.heap.size, 0, none⟩) (.inr (Nat.le_refl _)) _).setCell (p := ⟨w.heap.size, 1, none⟩) (.inr (Nat.le_refl _)) _).setCell (p := ⟨w.heap.size, 2, none⟩) (.inr (Nat.le_refl _)) _).setCell (p := ⟨w.heap.size, 3, none⟩) (.inr (Nat.le_refl _)) _).setCell (p := ⟨w.heap.size, 4, none⟩) (.inr (Nat.le_refl _)) _).setCell (p := ⟨w.heap.size, 5, none⟩) (.inr (Nat.le_refl _)) _)⟩
end Go.Proofs.YtcnkbdbkglggcaaGreatDoor
