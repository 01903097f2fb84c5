/-
  The program's 'Parse' on objects and arrays, on true, false and null. Condition: the text has at most 2^31 bytes.
-/
import Derived.Test.YtcnkbdbkglggcaaGreatDoorGpA
import Derived.Deep.CutBlock
import Derived.Deep.DeepCutAuto
namespace Go.Proofs.YtcnkbdbkglggcaaGreatDoor
open Go.RowKit

theorem res_parse {W : World} {rb : Nat} {c0 c1 c2 c3 c4 c5 : Value} (h : Blk W rb 49 #[c0, c1, c2, c3, c4, c5]) (tmps : Array Value) (ht : tmps.getD 2 undef = .pointer (some ⟨rb, 0, none⟩)) :
    (results Tryz.f20 tmps).run Tryz.prog W = .ok (.agg #[c0, c1, c2, c3, c4, c5]) W := by
  have r0 := h.cell 0
  have r1 := h.cell 1
  have r2 := h.cell 2
  have r3 := h.cell 3
  have r4 := h.cell 4
  have r5 := h.cell 5
  simp only [List.getElem?_toArray, List.getElem?_cons_zero, List.getElem?_cons_succ] at r0 r1 r2 r3 r4 r5
  have ht' : tmps[2]?.getD undef = .pointer (some ⟨rb, 0, none⟩) := by simpa using ht
  simp [results, Tryz.results20, go_sem, ht', r0, r1, r2, r3, r4, r5]
theorem parse_end {w w4 : World} {v0 v1 v2 v3 v4 v5 : Value} (hup : Upd [] w w4) : Upd [] w ((((((w4.setCell ⟨w.heap.size, 0, none⟩ v0).setCell ⟨w.heap.size, 1, none⟩ v1).setCell ⟨w.heap.size, 2, none⟩ v2).setCell ⟨w.heap.size, 3, none⟩ v3).setCell ⟨w.heap.size, 4, none⟩ v4).setCell ⟨w.heap.size, 5, none⟩ v5) :=
  (((((hup.setCell (p := ⟨w.heap.size, 0, none⟩) (.inr (Nat.le_refl _)) v0).setCell (p := ⟨w.heap.size, 1, none⟩) (.inr (Nat.le_refl _)) v1).setCell (p := ⟨w.heap.size, 2, none⟩) (.inr (Nat.le_refl _)) v2).setCell (p := ⟨w.heap.size, 3, none⟩) (.inr (Nat.le_refl _)) v3).setCell (p := ⟨w.heap.size, 4, none⟩) (.inr (Nat.le_refl _)) v4).setCell (p := ⟨w.heap.size, 5, none⟩) (.inr (Nat.le_refl _)) v5

set_option maxRecDepth 100000 in
set_option maxHeartbeats 4000000 in
theorem parse_json (w : World) (s : ByteArray) (i : Nat) (hs : s.size ≤ 2 ^ 31) (hws : Ws s 0 i) (hc : bt s i = 123 ∨ bt s i = 91) :
    Calls Tryz.prog 20 #[.string s] w fun e w' => e = .returned (.agg (resCells 5 (s.extract i s.size) ⟨#[]⟩ 0 i)) ∧ Upd [] w w' := by
  have hi : i < s.size := lt_of_bt (by omega)
  have HW := Lib.hid hws.2.2.1
  have HC := Lib.hid hc
  clear hws hc
  go_enter Tryz.func20, Tryz.ntmps20
  go_wp2_with fail
  have hup := ((Upd.refl [] w).alloc (.cells #[.int .i64 0, .string ⟨#[]⟩, .string ⟨#[]⟩, .float .f64 0, .int .i64 0, .slice none 0 0] 49)).alloc (.cells #[.int .i64 0, .string ⟨#[]⟩, .string ⟨#[]⟩, .float .f64 0, .int .i64 0, .slice none 0 0] 49)
  have hrb := (Blk.new w 49 #[.int .i64 0, .string ⟨#[]⟩, .string ⟨#[]⟩, .float .f64 0, .int .i64 0, .slice none 0 0]).alloc (.cells #[.int .i64 0, .string ⟨#[]⟩, .string ⟨#[]⟩, .float .f64 0, .int .i64 0, .slice none 0 0] 49)
  have htb := Blk.new (w.alloc (.cells #[.int .i64 0, .string ⟨#[]⟩, .string ⟨#[]⟩, .float .f64 0, .int .i64 0, .slice none 0 0] 49)) 49 #[.int .i64 0, .string ⟨#[]⟩, .string ⟨#[]⟩, .float .f64 0, .int .i64 0, .slice none 0 0]
  have hz : (w.alloc (.cells #[.int .i64 0, .string ⟨#[]⟩, .string ⟨#[]⟩, .float .f64 0, .int .i64 0, .slice none 0 0] 49)).heap.size = w.heap.size + 1 := by simp
  rw [hz] at htb
  clear hz
  generalize (w.alloc (.cells #[.int .i64 0, .string ⟨#[]⟩, .string ⟨#[]⟩, .float .f64 0, .int .i64 0, .slice none 0 0] 49)).alloc (.cells #[.int .i64 0, .string ⟨#[]⟩, .string ⟨#[]⟩, .float .f64 0, .int .i64 0, .slice none 0 0] 49) = W at *
  go_loopg [4] i (fun g v wr => ∃ k : Nat, k ≤ i ∧ v = .int .i64 k ∧ wr = W ∧ Hid (g = i - k))
  case atStart => exact ⟨0, by omega, rfl, rfl, rfl⟩
  case round =>
    obtain ⟨k, hk, rfl, rfl, hh⟩ := hrel
    by_cases hlt : k < i
    · have hks : k < s.size := by omega
      have hb : s[k].toNat ≤ 32 := by
        have h1 := HW.out k (by omega) hlt
        have h2 := bt_lt hks
        unfold isWs at h1
        omega
      clear hrb htb hup
      have d1 : ((s[k].toNat : Int) == 123) = false := beq_eq_false_iff_ne.2 (by omega)
      have d2 : ((s[k].toNat : Int) == 91) = false := beq_eq_false_iff_ne.2 (by omega)
      go_wp2_with fail
      go_roundg (i - (k + 1))
      case measure => have := hh.out; omega
      case rel => exact ⟨k + 1, by omega, by go_num, rfl, rfl⟩
    · have hE : k = i := by omega
      subst hE
      have hb : s[k].toNat = 123 ∨ s[k].toNat = 91 := by
        have h1 := HC.out
        have h2 := bt_lt hi
        omega
      have tf := htb.frozen
      have t0 := htb.cell 0
      have t1 := htb.cell 1
      have t2 := htb.cell 2
      have t3 := htb.cell 3
      have t4 := htb.cell 4
      have t5 := htb.cell 5
      simp only [List.getElem?_toArray, List.getElem?_cons_zero, List.getElem?_cons_succ] at t0 t1 t2 t3 t4 t5
      rcases hb with hb | hb
      · have d1 : ((s[k].toNat : Int) == 123) = true := beq_iff_eq.2 (by omega)
        clear hb
        go_wp2_with fail
        clear tf t0 t1 t2 t3 t4 t5
        refine (exists_yes _ 5 (s.extract k s.size) ⟨#[]⟩ 0 0 (.inl (by decide))).mono ?_
        rintro e w5 ⟨rfl, rfl⟩
        have htb5 : Blk (((wr.setCell ⟨w.heap.size + 1, 0, none⟩ (.int .i64 5)).setCell ⟨w.heap.size + 1, 1, none⟩ (.string (s.extract k s.size))).alloc (.cells (resCells 5 (s.extract k s.size) ⟨#[]⟩ 0 0) 49)) (w.heap.size + 1) 49 #[.int .i64 5, .string (s.extract k s.size), .string ⟨#[]⟩, .float .f64 0, .int .i64 0, .slice none 0 0] := ((htb.set_ 0 _).set_ 1 _).alloc _
        have hrb5 := ((hrb.far (p := ⟨w.heap.size + 1, 0, none⟩) (by simp) (.int .i64 5)).far (p := ⟨w.heap.size + 1, 1, none⟩) (by simp) (.string (s.extract k s.size))).alloc (.cells (resCells 5 (s.extract k s.size) ⟨#[]⟩ 0 0) 49)
        have hup5 := ((hup.setCell (p := ⟨w.heap.size + 1, 0, none⟩) (.inr (Nat.le_succ _)) (.int .i64 5)).setCell (p := ⟨w.heap.size + 1, 1, none⟩) (.inr (Nat.le_succ _)) (.string (s.extract k s.size))).alloc (.cells (resCells 5 (s.extract k s.size) ⟨#[]⟩ 0 0) 49)
        generalize ((wr.setCell ⟨w.heap.size + 1, 0, none⟩ (.int .i64 5)).setCell ⟨w.heap.size + 1, 1, none⟩ (.string (s.extract k s.size))).alloc (.cells (resCells 5 (s.extract k s.size) ⟨#[]⟩ 0 0) 49) = W5 at *
        clear htb hrb hup
        have htb6 : Blk (W5.setCell ⟨w.heap.size + 1, 4, none⟩ (.int .i64 k)) (w.heap.size + 1) 49 #[.int .i64 5, .string (s.extract k s.size), .string ⟨#[]⟩, .float .f64 0, .int .i64 k, .slice none 0 0] := htb5.set_ 4 _
        have hrb6 := hrb5.far (p := ⟨w.heap.size + 1, 4, none⟩) (by simp) (.int .i64 k)
        have hup6 := hup5.setCell (p := ⟨w.heap.size + 1, 4, none⟩) (.inr (Nat.le_succ _)) (.int .i64 k)
        have tf := htb5.frozen
        have t4 := htb5.cell 4
        simp only [List.getElem?_toArray, List.getElem?_cons_zero, List.getElem?_cons_succ] at t4
        go_upto_region 45 with fail
        clear tf t4
        generalize W5.setCell ⟨w.heap.size + 1, 4, none⟩ (.int .i64 k) = W6 at *
        clear htb5 hrb5 hup5
        have tf := htb6.frozen
        have t0 := htb6.cell 0
        have t1 := htb6.cell 1
        have t2 := htb6.cell 2
        have t3 := htb6.cell 3
        have t4 := htb6.cell 4
        have t5 := htb6.cell 5
        have rf := hrb6.frozen
        have r0 := hrb6.cell 0
        have r1 := hrb6.cell 1
        have r2 := hrb6.cell 2
        have r3 := hrb6.cell 3
        have r4 := hrb6.cell 4
        have r5 := hrb6.cell 5
        simp only [List.getElem?_toArray, List.getElem?_cons_zero, List.getElem?_cons_succ] at t0 t1 t2 t3 t4 t5 r0 r1 r2 r3 r4 r5
        have rsf := run_store_float64 (P := Tryz.prog)
        go_wp2_with fail
        have HB := (((((hrb6.set_ 0 (.int .i64 5)).set_ 1 (.string (s.extract k s.size))).set_ 2 (.string ⟨#[]⟩)).set_ 3 (.float .f64 0)).set_ 4 (.int .i64 k)).set_ 5 (.slice none 0 0)
        refine bodyPost_ret (res_parse (c0 := .int .i64 5) (c1 := .string (s.extract k s.size)) (c2 := .string ⟨#[]⟩) (c3 := .float .f64 0) (c4 := .int .i64 k) (c5 := .slice none 0 0) HB _ rfl) rfl ?_
        exact ⟨rfl, parse_end hup6⟩
      · have d1 : ((s[k].toNat : Int) == 123) = false := beq_eq_false_iff_ne.2 (by omega)
        have d2 : ((s[k].toNat : Int) == 91) = true := beq_iff_eq.2 (by omega)
        clear hb
        go_wp2_with fail
        clear tf t0 t1 t2 t3 t4 t5
        refine (exists_yes _ 5 (s.extract k s.size) ⟨#[]⟩ 0 0 (.inl (by decide))).mono ?_
        rintro e w5 ⟨rfl, rfl⟩
        have htb5 : Blk (((wr.setCell ⟨w.heap.size + 1, 0, none⟩ (.int .i64 5)).setCell ⟨w.heap.size + 1, 1, none⟩ (.string (s.extract k s.size))).alloc (.cells (resCells 5 (s.extract k s.size) ⟨#[]⟩ 0 0) 49)) (w.heap.size + 1) 49 #[.int .i64 5, .string (s.extract k s.size), .string ⟨#[]⟩, .float .f64 0, .int .i64 0, .slice none 0 0] := ((htb.set_ 0 _).set_ 1 _).alloc _
        have hrb5 := ((hrb.far (p := ⟨w.heap.size + 1, 0, none⟩) (by simp) (.int .i64 5)).far (p := ⟨w.heap.size + 1, 1, none⟩) (by simp) (.string (s.extract k s.size))).alloc (.cells (resCells 5 (s.extract k s.size) ⟨#[]⟩ 0 0) 49)
        have hup5 := ((hup.setCell (p := ⟨w.heap.size + 1, 0, none⟩) (.inr (Nat.le_succ _)) (.int .i64 5)).setCell (p := ⟨w.heap.size + 1, 1, none⟩) (.inr (Nat.le_succ _)) (.string (s.extract k s.size))).alloc (.cells (resCells 5 (s.extract k s.size) ⟨#[]⟩ 0 0) 49)
        generalize ((wr.setCell ⟨w.heap.size + 1, 0, none⟩ (.int .i64 5)).setCell ⟨w.heap.size + 1, 1, none⟩ (.string (s.extract k s.size))).alloc (.cells (resCells 5 (s.extract k s.size) ⟨#[]⟩ 0 0) 49) = W5 at *
        clear htb hrb hup
        have htb6 : Blk (W5.setCell ⟨w.heap.size + 1, 4, none⟩ (.int .i64 k)) (w.heap.size + 1) 49 #[.int .i64 5, .string (s.extract k s.size), .string ⟨#[]⟩, .float .f64 0, .int .i64 k, .slice none 0 0] := htb5.set_ 4 _
        have hrb6 := hrb5.far (p := ⟨w.heap.size + 1, 4, none⟩) (by simp) (.int .i64 k)
        have hup6 := hup5.setCell (p := ⟨w.heap.size + 1, 4, none⟩) (.inr (Nat.le_succ _)) (.int .i64 k)
        have tf := htb5.frozen
        have t4 := htb5.cell 4
        simp only [List.getElem?_toArray, List.getElem?_cons_zero, List.getElem?_cons_succ] at t4
        go_upto_region 45 with fail
        clear tf t4
        generalize W5.setCell ⟨w.heap.size + 1, 4, none⟩ (.int .i64 k) = W6 at *
        clear htb5 hrb5 hup5
        have tf := htb6.frozen
        have t0 := htb6.cell 0
        have t1 := htb6.cell 1
        have t2 := htb6.cell 2
        have t3 := htb6.cell 3
        have t4 := htb6.cell 4
        have t5 := htb6.cell 5
        have rf := hrb6.frozen
        have r0 := hrb6.cell 0
        have r1 := hrb6.cell 1
        have r2 := hrb6.cell 2
        have r3 := hrb6.cell 3
        have r4 := hrb6.cell 4
        have r5 := hrb6.cell 5
        simp only [List.getElem?_toArray, List.getElem?_cons_zero, List.getElem?_cons_succ] at t0 t1 t2 t3 t4 t5 r0 r1 r2 r3 r4 r5
        have rsf := run_store_float64 (P := Tryz.prog)
        go_wp2_with fail
        have HB := (((((hrb6.set_ 0 (.int .i64 5)).set_ 1 (.string (s.extract k s.size))).set_ 2 (.string ⟨#[]⟩)).set_ 3 (.float .f64 0)).set_ 4 (.int .i64 k)).set_ 5 (.slice none 0 0)
        refine bodyPost_ret (res_parse (c0 := .int .i64 5) (c1 := .string (s.extract k s.size)) (c2 := .string ⟨#[]⟩) (c3 := .float .f64 0) (c4 := .int .i64 k) (c5 := .slice none 0 0) HB _ rfl) rfl ?_
        exact ⟨rfl, parse_end hup6⟩
end Go.Proofs.YtcnkbdbkglggcaaGreatDoor
