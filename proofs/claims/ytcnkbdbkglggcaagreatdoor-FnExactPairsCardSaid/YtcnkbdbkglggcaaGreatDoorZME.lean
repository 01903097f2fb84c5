/-
  The reader's 'tree', given what 'list' does. Condition: the text has at most 65536 bytes.
  The specification's reader, whole: 'tree' at every depth, and 'Read'. No condition.
  The law FnExactStr. Condition: none but that the text has at most 2^31 bytes.
-/
import Derived.Test.YtcnkbdbkglggcaaGreatDoorZMD
import Derived.Test.YtcnkbdbkglggcaaGreatDoorYSpM
import Derived.Test.YtcnkbdbkglggcaaGreatDoorYSpN
import Derived.Test.YtcnkbdbkglggcaaGreatDoorYGsB
import Derived.Test.YtcnkbdbkglggcaaGreatDoorYGsE
import Derived.Test.YtcnkbdbkglggcaaGreatDoorZMI
import Derived.Test.YtcnkbdbkglggcaaGreatDoorZMH
import Derived.Deep.CutBlock
import Derived.Deep.DeepCutAuto
import Derived.RegionTactic
import Derived.ChangeAlike
import Derived.Deep.RegionHeld3
import Derived.IntWalk
set_option linter.unusedVariables false
set_option linter.unusedSimpArgs false
namespace Go.Proofs.YtcnkbdbkglggcaaGreatDoor
open Go.RowKit

theorem res_tree {W : World} {rb : Nat} {c0 c1 c2 c3 c4 c5 c6 : Value} (h : Blk W rb 25 #[c0, c1, c2, c3, c4, c5, c6]) (tmps : Array Value) (ht : tmps.getD 2 undef = .pointer (some ⟨rb, 0, none⟩)) :
    (results Tryz.f19 tmps).run Tryz.prog W = .ok (.agg #[c0, c1, c2, c3, c4, c5, c6]) W := by
  have r0 := h.cell 0
  have r1 := h.cell 1
  have r2 := h.cell 2
  have r3 := h.cell 3
  have r4 := h.cell 4
  have r5 := h.cell 5
  have r6 := h.cell 6
  simp only [List.getElem?_toArray, List.getElem?_cons_zero, List.getElem?_cons_succ] at r0 r1 r2 r3 r4 r5 r6
  have ht' : tmps[2]?.getD undef = .pointer (some ⟨rb, 0, none⟩) := by simpa using ht
  simp [results, Tryz.results19, go_sem, ht', r0, r1, r2, r3, r4, r5, r6]
/-- The tree is laid into the result's block. -/
theorem tree_end {w wc W : World} {b : Nat} {s : ByteArray} {i : Nat} {bad : Bool} {d : Nat} {t : TreeV} {j : Nat} {bad' : Bool} (raw : ByteArray) (hbl : b < w.heap.size) (hk : t.kind = kindOf (bt s i)) (hrd : Rd wc b s j bad') (hup : Upd [b] w wc) (hown : OwnT wc (w.heap.size + 2) t)
    (hW : Upd [w.heap.size, w.heap.size + 1] wc W) (hw : Went s i bad j bad' (raw = s.extract i j ∧ Shape s i j ∧ (t.pairs = true → Top s (Val s d) i j t.kind t.o t.ks t.its))) :
    Tree1 w b s i bad d (.returned (.agg (t.cells i raw))) W := by
  have hk1 := hown.1.lt
  have hk2 := hown.2.1.lt
  refine ⟨t, raw, j, bad', rfl, hk, hrd.upd hW (by simp; omega), hup.then hW (by simp), ((hown.upd hW (fun k h => ?_) (fun k h => ?_)).base (by omega)), hw⟩
  · have := (hk1 k h).1
    simp; omega
  · have := (hk2 k h).1
    simp; omega

set_option maxRecDepth 100000 in
set_option maxHeartbeats 4000000 in
theorem tree_step (d : Nat) (hL : ListOK d) (w : World) (b : Nat) (s : ByteArray) (i : Nat) (bad : Bool) (hr : Rd w b s i bad) (hs : s.size ≤ 65536) (hi : i ≤ s.size) (hd : s.size - i ≤ d) :
    Calls Tryz.prog 19 #[.pointer (some ⟨b, 0, none⟩)] w fun e w' => Tree1 w b s i bad d e w' := by
  have hbl := hr.lt
  have h1 : ∀ o, (w.alloc o).cell? ⟨b, 1, none⟩ = some (.int .i64 i) := fun o => (hr.alloc o).c1
  go_enter Tryz.func19, Tryz.ntmps19
  go_wp2_with fail
  refine (next_any _ b s i bad ((hr.alloc _).alloc _) hs).mono ?_
  rintro e w1 ⟨rfl, n, rfl⟩
  have hrd := ((hr.alloc (.cells #[.int .i64 0, .string ⟨#[]⟩, .int .i64 0, .string ⟨#[]⟩, .bool false, .slice none 0 0, .slice none 0 0] 25)).alloc (.cells #[.int .i64 5, .string ⟨#[]⟩, .int .i64 i, .string ⟨#[]⟩, .bool true, .slice none 0 0, .slice none 0 0] 25)).drewN n
  have hup := (((Upd.refl [b] w).alloc (.cells #[.int .i64 0, .string ⟨#[]⟩, .int .i64 0, .string ⟨#[]⟩, .bool false, .slice none 0 0, .slice none 0 0] 25)).alloc (.cells #[.int .i64 5, .string ⟨#[]⟩, .int .i64 i, .string ⟨#[]⟩, .bool true, .slice none 0 0, .slice none 0 0] 25)).drewN n
  have hrb : Blk (((w.alloc (.cells #[.int .i64 0, .string ⟨#[]⟩, .int .i64 0, .string ⟨#[]⟩, .bool false, .slice none 0 0, .slice none 0 0] 25)).alloc (.cells #[.int .i64 5, .string ⟨#[]⟩, .int .i64 i, .string ⟨#[]⟩, .bool true, .slice none 0 0, .slice none 0 0] 25)).drewN n) w.heap.size 25 #[.int .i64 0, .string ⟨#[]⟩, .int .i64 0, .string ⟨#[]⟩, .bool false, .slice none 0 0, .slice none 0 0] := ((Blk.new w 25 _).alloc _).drewN n
  have htb : Blk (((w.alloc (.cells #[.int .i64 0, .string ⟨#[]⟩, .int .i64 0, .string ⟨#[]⟩, .bool false, .slice none 0 0, .slice none 0 0] 25)).alloc (.cells #[.int .i64 5, .string ⟨#[]⟩, .int .i64 i, .string ⟨#[]⟩, .bool true, .slice none 0 0, .slice none 0 0] 25)).drewN n) (w.heap.size + 1) 25 #[.int .i64 5, .string ⟨#[]⟩, .int .i64 i, .string ⟨#[]⟩, .bool true, .slice none 0 0, .slice none 0 0] := by
    have := (Blk.new (w.alloc (.cells #[.int .i64 0, .string ⟨#[]⟩, .int .i64 0, .string ⟨#[]⟩, .bool false, .slice none 0 0, .slice none 0 0] 25)) 25 #[.int .i64 5, .string ⟨#[]⟩, .int .i64 i, .string ⟨#[]⟩, .bool true, .slice none 0 0, .slice none 0 0]).drewN n
    simpa using this
  have hz : (((w.alloc (.cells #[.int .i64 0, .string ⟨#[]⟩, .int .i64 0, .string ⟨#[]⟩, .bool false, .slice none 0 0, .slice none 0 0] 25)).alloc (.cells #[.int .i64 5, .string ⟨#[]⟩, .int .i64 i, .string ⟨#[]⟩, .bool true, .slice none 0 0, .slice none 0 0] 25)).drewN n).heap.size = w.heap.size + 2 := by simp
  generalize ((w.alloc (.cells #[.int .i64 0, .string ⟨#[]⟩, .int .i64 0, .string ⟨#[]⟩, .bool false, .slice none 0 0, .slice none 0 0] 25)).alloc (.cells #[.int .i64 5, .string ⟨#[]⟩, .int .i64 i, .string ⟨#[]⟩, .bool true, .slice none 0 0, .slice none 0 0] 25)).drewN n = W2 at *
  have HZ := Lib.hid hz; clear hz h1
  go_upto_block 0 with fail
  go_cut [14] (fun _ wx => TreeMid w b w.heap.size (w.heap.size + 1) s i bad d wx)
  case first =>
    have tf := htb.frozen
    have t0 := htb.cell 0
    have t3 := htb.cell 3
    have t4 := htb.cell 4
    simp only [List.getElem?_toArray, List.getElem?_cons_zero, List.getElem?_cons_succ] at t0 t3 t4
    have hbt : b ≠ w.heap.size + 1 := by omega
    by_cases c0 : bt s i = 34
    · have d0 : (bt s i == 34) = true := by rw [beq_iff_eq]; omega
      have C := Lib.hid c0
      have hnb : w.heap.size ∉ [b] ∧ w.heap.size + 1 ∉ [b] := by simp; omega
      have hrd1 := hrd.far (p := ⟨w.heap.size + 1, 0, none⟩) hbt (.int .i64 3)
      have htb1 := htb.set_ 0 (.int .i64 3)
      have hup1 := hup.setCell (p := ⟨w.heap.size + 1, 0, none⟩) (.inr (by simp)) (.int .i64 3)
      have hrb1 := hrb.far (p := ⟨w.heap.size + 1, 0, none⟩) (by simp) (.int .i64 3)
      clear hrd htb hup hrb
      clear c0
      go_wp2_with fail
      refine (text_any _ b s i bad hrd1 hs hi).mono ?_
      rintro e w3 ⟨o, ok, j, bad', rfl, hol, hr3, hu3, hw3⟩
      have htb3 := htb1.upd hu3 hnb.2
      have hrb3 := hrb1.upd hu3 hnb.1
      have hup3 := hup1.trans hu3
      have tf3 := htb3.frozen
      have t33 := htb3.cell 3
      have t34 := htb3.cell 4
      simp at t33 t34
      clear tf t0 t3 t4 htb1 hrb1 hup1 hrd1
      go_wp2_with fail
      go_meet
      exact ⟨⟨3, o, ok, .slice none 0 0, .slice none 0 0, [], []⟩, j, bad', (show (3 : Int) = kindOf (bt s i) by rw [C.out]; decide), (hr3.far (p := ⟨w.heap.size + 1, 3, none⟩) hbt _).far (p := ⟨w.heap.size + 1, 4, none⟩) hbt _, (hup3.setCell (p := ⟨w.heap.size + 1, 3, none⟩) (.inr (by simp)) _).setCell (p := ⟨w.heap.size + 1, 4, none⟩) (.inr (by simp)) _, own_none _ _ _ _ _,
        (htb3.set_ 3 _).set_ 4 _, (hrb3.far (p := ⟨w.heap.size + 1, 3, none⟩) (by simp) _).far (p := ⟨w.heap.size + 1, 4, none⟩) (by simp) _, hw3.1, hw3.2.1, fun hf => ⟨(hw3.2.2 hf).1, shape_str C.out (hw3.2.2 hf).2.2.1, fun hp => top_str C.out (hw3.2.2 hf).2.2.1 ((hw3.2.2 hf).2.2.2 hp)⟩⟩
    by_cases c1 : bt s i = 116
    · have d0 : (bt s i == 34) = false := by rw [beq_eq_false_iff_ne]; omega
      have d1 : (bt s i == 116) = true := by rw [beq_iff_eq]; omega
      have C := Lib.hid c1
      have hnb : w.heap.size ∉ [b] ∧ w.heap.size + 1 ∉ [b] := by simp; omega
      have hrd1 := hrd.far (p := ⟨w.heap.size + 1, 0, none⟩) hbt (.int .i64 4)
      have htb1 := htb.set_ 0 (.int .i64 4)
      have hup1 := hup.setCell (p := ⟨w.heap.size + 1, 0, none⟩) (.inr (by simp)) (.int .i64 4)
      have hrb1 := hrb.far (p := ⟨w.heap.size + 1, 0, none⟩) (by simp) (.int .i64 4)
      clear hrd htb hup hrb
      clear c0 c1
      go_wp2_with fail
      refine (word_any _ b s uTrue i bad hrd1 hs hi (by decide)).mono ?_
      rintro e w3 ⟨rfl, j, bad', hr3, hu3, hw3⟩
      clear tf t0 t3 t4
      go_wp2_with fail
      go_meet
      exact ⟨⟨4, [], true, .slice none 0 0, .slice none 0 0, [], []⟩, j, bad', by rw [C.out]; decide, hr3, hup1.trans hu3, own_none _ _ _ _ _, htb1.upd hu3 hnb.2, hrb1.upd hu3 hnb.1, hw3.1, hw3.2.1, fun hf => ⟨(hw3.2.2 hf).1, shape_true C.out (hw3.2.2 hf).2,
        fun _ => top_plain (by rw [C.out]; decide) (by rw [C.out]; decide) (by rw [C.out]; decide) (by rw [C.out]; decide) (shape_true C.out (hw3.2.2 hf).2)⟩⟩
    by_cases c2 : bt s i = 102
    · have d0 : (bt s i == 34) = false := by rw [beq_eq_false_iff_ne]; omega
      have d1 : (bt s i == 116) = false := by rw [beq_eq_false_iff_ne]; omega
      have d2 : (bt s i == 102) = true := by rw [beq_iff_eq]; omega
      have C := Lib.hid c2
      have hnb : w.heap.size ∉ [b] ∧ w.heap.size + 1 ∉ [b] := by simp; omega
      have hrd1 := hrd.far (p := ⟨w.heap.size + 1, 0, none⟩) hbt (.int .i64 1)
      have htb1 := htb.set_ 0 (.int .i64 1)
      have hup1 := hup.setCell (p := ⟨w.heap.size + 1, 0, none⟩) (.inr (by simp)) (.int .i64 1)
      have hrb1 := hrb.far (p := ⟨w.heap.size + 1, 0, none⟩) (by simp) (.int .i64 1)
      clear hrd htb hup hrb
      clear c0 c1 c2
      go_wp2_with fail
      refine (word_any _ b s uFalse i bad hrd1 hs hi (by decide)).mono ?_
      rintro e w3 ⟨rfl, j, bad', hr3, hu3, hw3⟩
      clear tf t0 t3 t4
      go_wp2_with fail
      go_meet
      exact ⟨⟨1, [], true, .slice none 0 0, .slice none 0 0, [], []⟩, j, bad', by rw [C.out]; decide, hr3, hup1.trans hu3, own_none _ _ _ _ _, htb1.upd hu3 hnb.2, hrb1.upd hu3 hnb.1, hw3.1, hw3.2.1, fun hf => ⟨(hw3.2.2 hf).1, shape_false C.out (hw3.2.2 hf).2,
        fun _ => top_plain (by rw [C.out]; decide) (by rw [C.out]; decide) (by rw [C.out]; decide) (by rw [C.out]; decide) (shape_false C.out (hw3.2.2 hf).2)⟩⟩
    by_cases c3 : bt s i = 110
    · have d0 : (bt s i == 34) = false := by rw [beq_eq_false_iff_ne]; omega
      have d1 : (bt s i == 116) = false := by rw [beq_eq_false_iff_ne]; omega
      have d2 : (bt s i == 102) = false := by rw [beq_eq_false_iff_ne]; omega
      have d3 : (bt s i == 110) = true := by rw [beq_iff_eq]; omega
      have C := Lib.hid c3
      have hnb : w.heap.size ∉ [b] ∧ w.heap.size + 1 ∉ [b] := by simp; omega
      have hrd1 := hrd.far (p := ⟨w.heap.size + 1, 0, none⟩) hbt (.int .i64 0)
      have htb1 := htb.set_ 0 (.int .i64 0)
      have hup1 := hup.setCell (p := ⟨w.heap.size + 1, 0, none⟩) (.inr (by simp)) (.int .i64 0)
      have hrb1 := hrb.far (p := ⟨w.heap.size + 1, 0, none⟩) (by simp) (.int .i64 0)
      clear hrd htb hup hrb
      clear c0 c1 c2 c3
      go_wp2_with fail
      refine (word_any _ b s uNull i bad hrd1 hs hi (by decide)).mono ?_
      rintro e w3 ⟨rfl, j, bad', hr3, hu3, hw3⟩
      clear tf t0 t3 t4
      go_wp2_with fail
      go_meet
      exact ⟨⟨0, [], true, .slice none 0 0, .slice none 0 0, [], []⟩, j, bad', by rw [C.out]; decide, hr3, hup1.trans hu3, own_none _ _ _ _ _, htb1.upd hu3 hnb.2, hrb1.upd hu3 hnb.1, hw3.1, hw3.2.1, fun hf => ⟨(hw3.2.2 hf).1, shape_null C.out (hw3.2.2 hf).2,
        fun _ => top_plain (by rw [C.out]; decide) (by rw [C.out]; decide) (by rw [C.out]; decide) (by rw [C.out]; decide) (shape_null C.out (hw3.2.2 hf).2)⟩⟩
    by_cases c4 : bt s i = 123
    · have d0 : (bt s i == 34) = false := by rw [beq_eq_false_iff_ne]; omega
      have d1 : (bt s i == 116) = false := by rw [beq_eq_false_iff_ne]; omega
      have d2 : (bt s i == 102) = false := by rw [beq_eq_false_iff_ne]; omega
      have d3 : (bt s i == 110) = false := by rw [beq_eq_false_iff_ne]; omega
      have d4 : (bt s i == 123) = true := by rw [beq_iff_eq]; omega
      have C := Lib.hid c4
      have hnb : w.heap.size ∉ [b] ∧ w.heap.size + 1 ∉ [b] := by simp; omega
      have hrd1 := hrd
      have htb1 := htb
      have hup1 := hup
      have hrb1 := hrb
      clear hrd htb hup hrb
      have hil : i < s.size := lt_of_bt (by omega)
      clear c0 c1 c2 c3 c4
      go_wp2_with fail
      refine (hL _ b (w.heap.size + 1) s i bad true 125 _ _ _ _ hrd1 hs hil hd hbt htb1 rfl).mono ?_
      rintro e w3 ⟨rfl, kv, iv, pairs, ks, its, j, bad', hr3, hu3, htb3, hown, hw3⟩
      have hrb3 := hrb1.upd hu3 (by simp; omega)
      clear tf t0 t3 t4
      go_wp2_with fail
      go_meet
      exact ⟨⟨5, [], pairs, kv, iv, ks, its⟩, j, bad', (show (5 : Int) = kindOf (bt s i) by rw [C.out]; decide), hr3, hup1.then hu3 (by simp), hown.base (by rw [HZ.out]; omega), htb3, hrb3, hw3.1, hw3.2.1, fun hf => ⟨(hw3.2.2 hf).1, shape_obj C.out ⟨(hw3.2.2 hf).2.1, (hw3.2.2 hf).2.2.1⟩,
        fun hp => top_obj C.out (shape_obj C.out ⟨(hw3.2.2 hf).2.1, (hw3.2.2 hf).2.2.1⟩) ((hw3.2.2 hf).2.2.2 hp)⟩⟩
    by_cases c5 : bt s i = 91
    · have d0 : (bt s i == 34) = false := by rw [beq_eq_false_iff_ne]; omega
      have d1 : (bt s i == 116) = false := by rw [beq_eq_false_iff_ne]; omega
      have d2 : (bt s i == 102) = false := by rw [beq_eq_false_iff_ne]; omega
      have d3 : (bt s i == 110) = false := by rw [beq_eq_false_iff_ne]; omega
      have d4 : (bt s i == 123) = false := by rw [beq_eq_false_iff_ne]; omega
      have d5 : (bt s i == 91) = true := by rw [beq_iff_eq]; omega
      have C := Lib.hid c5
      have hnb : w.heap.size ∉ [b] ∧ w.heap.size + 1 ∉ [b] := by simp; omega
      have hrd1 := hrd
      have htb1 := htb
      have hup1 := hup
      have hrb1 := hrb
      clear hrd htb hup hrb
      have hil : i < s.size := lt_of_bt (by omega)
      clear c0 c1 c2 c3 c4 c5
      go_wp2_with fail
      refine (hL _ b (w.heap.size + 1) s i bad false 93 _ _ _ _ hrd1 hs hil hd hbt htb1 rfl).mono ?_
      rintro e w3 ⟨rfl, kv, iv, pairs, ks, its, j, bad', hr3, hu3, htb3, hown, hw3⟩
      have hrb3 := hrb1.upd hu3 (by simp; omega)
      clear tf t0 t3 t4
      go_wp2_with fail
      go_meet
      exact ⟨⟨5, [], pairs, kv, iv, ks, its⟩, j, bad', (show (5 : Int) = kindOf (bt s i) by rw [C.out]; decide), hr3, hup1.then hu3 (by simp), hown.base (by rw [HZ.out]; omega), htb3, hrb3, hw3.1, hw3.2.1, fun hf => ⟨(hw3.2.2 hf).1, shape_arr C.out ⟨(hw3.2.2 hf).2.1, (hw3.2.2 hf).2.2.1⟩,
        fun hp => top_arr C.out (shape_arr C.out ⟨(hw3.2.2 hf).2.1, (hw3.2.2 hf).2.2.1⟩) ((hw3.2.2 hf).2.2.2 hp)⟩⟩
    have d0 : (bt s i == 34) = false := by rw [beq_eq_false_iff_ne]; omega
    have d1 : (bt s i == 116) = false := by rw [beq_eq_false_iff_ne]; omega
    have d2 : (bt s i == 102) = false := by rw [beq_eq_false_iff_ne]; omega
    have d3 : (bt s i == 110) = false := by rw [beq_eq_false_iff_ne]; omega
    have d4 : (bt s i == 123) = false := by rw [beq_eq_false_iff_ne]; omega
    have d5 : (bt s i == 91) = false := by rw [beq_eq_false_iff_ne]; omega
    have C := Lib.hid (show bt s i ≠ 34 ∧ bt s i ≠ 116 ∧ bt s i ≠ 102 ∧ bt s i ≠ 110 ∧ bt s i ≠ 123 ∧ bt s i ≠ 91 from ⟨c0, c1, c2, c3, c4, c5⟩)
    have hnb : w.heap.size ∉ [b] ∧ w.heap.size + 1 ∉ [b] := by simp; omega
    have hrd1 := hrd.far (p := ⟨w.heap.size + 1, 0, none⟩) hbt (.int .i64 2)
    have htb1 := htb.set_ 0 (.int .i64 2)
    have hup1 := hup.setCell (p := ⟨w.heap.size + 1, 0, none⟩) (.inr (by simp)) (.int .i64 2)
    have hrb1 := hrb.far (p := ⟨w.heap.size + 1, 0, none⟩) (by simp) (.int .i64 2)
    clear hrd htb hup hrb
    clear c0 c1 c2 c3 c4 c5
    go_wp2_with fail
    refine (number_any _ b s i bad hrd1 hs hi).mono ?_
    rintro e w3 ⟨rfl, j, bad', hr3, hu3, hw3⟩
    clear tf t0 t3 t4
    go_wp2_with fail
    go_meet
    obtain ⟨a1, a2, a3, a4, a5, a6⟩ := C.out
    exact ⟨⟨2, [], true, .slice none 0 0, .slice none 0 0, [], []⟩, j, bad', (kind_num a1 a2 a3 a4 a5 a6).symm, hr3, hup1.trans hu3, own_none _ _ _ _ _, htb1.upd hu3 hnb.2, hrb1.upd hu3 hnb.1, hw3.1, hw3.2.1, fun hf => ⟨(hw3.2.2 hf).1, shape_num a1 a2 a3 a4 a5 a6 (hw3.2.2 hf).2,
      fun _ => top_plain (kind_num a1 a2 a3 a4 a5 a6).symm a1 a5 a6 (shape_num a1 a2 a3 a4 a5 a6 (hw3.2.2 hf).2)⟩⟩
  case rest =>
    rename_i wc _
    obtain ⟨t, j, bad', hk, hrd, hup, hown, htb, hrb, hw⟩ := hcut
    have HK := Lib.hid hk; clear hk
    have hij := hw.1
    have hjs := hw.2.1
    obtain ⟨A1, n1, hkv⟩ := own_slice hown.1
    obtain ⟨A2, n2, hiv⟩ := own_slice hown.2.1
    obtain ⟨kind, o, pairs, kv, iv, ks, its⟩ := t
    dsimp only at hkv hiv
    subst hkv hiv
    have HW := Lib.hid hw; clear hw
    have h0 := hrd.c0
    have h1' := hrd.c1
    have h2 := hrd.c2
    have tf := htb.frozen
    have rf := hrb.frozen
    have t0 := htb.cell 0
    have t1 := htb.cell 1
    have t2 := htb.cell 2
    have t3 := htb.cell 3
    have t4 := htb.cell 4
    have t5 := htb.cell 5
    have t6 := htb.cell 6
    have r0 := hrb.cell 0
    have r1 := hrb.cell 1
    have r2 := hrb.cell 2
    have r3 := hrb.cell 3
    have r4 := hrb.cell 4
    have r5 := hrb.cell 5
    have r6 := hrb.cell 6
    simp only [TreeV.cells, List.getElem?_toArray, List.getElem?_cons_zero, List.getElem?_cons_succ] at t0 t1 t2 t3 t4 t5 t6 r0 r1 r2 r3 r4 r5 r6
    cases bad' with
    | true =>
      go_wp2_with fail
      have HB : Blk (((((((wc.setCell ⟨w.heap.size, 0, none⟩ (.int .i64 kind)).setCell ⟨w.heap.size, 1, none⟩ (.string ByteArray.empty)).setCell ⟨w.heap.size, 2, none⟩ (.int .i64 i)).setCell ⟨w.heap.size, 3, none⟩ (.string (strOfNums o))).setCell
          ⟨w.heap.size, 4, none⟩ (.bool pairs)).setCell ⟨w.heap.size, 5, none⟩ (.slice A1 ks.length n1)).setCell ⟨w.heap.size, 6, none⟩ (.slice A2 its.length n2)) w.heap.size 25
          #[.int .i64 kind, .string ByteArray.empty, .int .i64 i, .string (strOfNums o), .bool pairs, .slice A1 ks.length n1, .slice A2 its.length n2] := ((((((hrb.set_ 0 _).set_ 1 _).set_ 2 _).set_ 3 _).set_ 4 _).set_ 5 _).set_ 6 _
      refine bodyPost_ret (res_tree HB _ rfl) rfl ?_
      refine tree_end ByteArray.empty hbl HK.out hrd hup hown ?_ ⟨HW.out.1, HW.out.2.1, fun h => by cases h⟩
      exact (((((((Upd.refl [w.heap.size, w.heap.size + 1] wc).setCell (p := ⟨w.heap.size, 0, none⟩) (.inl (.head _)) _).setCell (p := ⟨w.heap.size, 1, none⟩) (.inl (.head _)) _).setCell (p := ⟨w.heap.size, 2, none⟩) (.inl (.head _)) _).setCell (p := ⟨w.heap.size, 3, none⟩) (.inl (.head _)) _).setCell (p := ⟨w.heap.size, 4, none⟩) (.inl (.head _)) _).setCell (p := ⟨w.heap.size, 5, none⟩) (.inl (.head _)) _).setCell (p := ⟨w.heap.size, 6, none⟩) (.inl (.head _)) _
    | false =>
      go_wp2_with fail
      go_region
      go_wp2_with fail
      have htr := hrb.far (p := ⟨w.heap.size + 1, 1, none⟩) (by simp) (.string (s.extract i j))
      have HB := ((((((htr.set_ 0 (.int .i64 kind)).set_ 1 (.string (s.extract i j))).set_ 2 (.int .i64 i)).set_ 3 (.string (strOfNums o))).set_ 4 (.bool pairs)).set_ 5 (.slice A1 ks.length n1)).set_ 6 (.slice A2 its.length n2)
      refine bodyPost_ret (res_tree (c0 := .int .i64 kind) (c1 := .string (s.extract i j)) (c2 := .int .i64 i) (c3 := .string (strOfNums o)) (c4 := .bool pairs) (c5 := .slice A1 ks.length n1) (c6 := .slice A2 its.length n2) (Blk.drew HB) _ rfl) rfl ?_
      refine tree_end (s.extract i j) hbl HK.out hrd hup hown ?_ ⟨HW.out.1, HW.out.2.1, fun h => ⟨(HW.out.2.2 h).1, rfl, (HW.out.2.2 h).2⟩⟩
      exact ((((((((Upd.refl [w.heap.size, w.heap.size + 1] wc).setCell (p := ⟨w.heap.size + 1, 1, none⟩) (.inl (.tail _ (.head _))) _).setCell (p := ⟨w.heap.size, 0, none⟩) (.inl (.head _)) _).setCell (p := ⟨w.heap.size, 1, none⟩) (.inl (.head _)) _).setCell (p := ⟨w.heap.size, 2, none⟩) (.inl (.head _)) _).setCell (p := ⟨w.heap.size, 3, none⟩) (.inl (.head _)) _).setCell (p := ⟨w.heap.size, 4, none⟩) (.inl (.head _)) _).setCell (p := ⟨w.heap.size, 5, none⟩) (.inl (.head _)) _).setCell (p := ⟨w.heap.size, 6, none⟩) (.inl (.head _)) _ |>.drew
end Go.Proofs.YtcnkbdbkglggcaaGreatDoor

namespace Go.Proofs.YtcnkbdbkglggcaaGreatDoor
open Go.RowKit

theorem list_step (d : Nat) (hT : TreeOK d) : ListOK (d + 1) := by
  intro w b tb s i bad keys endc c0 c1 c2 c3 hr hs hi hd hbt ht he
  subst he
  cases keys with
  | true => exact list_obj d hT w b tb s i bad c0 c1 c2 c3 hr hs hi hd hbt ht
  | false => exact list_arr d hT w b tb s i bad c0 c1 c2 c3 hr hs hi hd hbt ht
theorem tree_all (d : Nat) : TreeOK d := by
  induction d with
  | zero => exact fun w b s i bad hr hs hi hd => tree_step 0 (fun _ _ _ _ _ _ _ _ _ _ _ _ _ _ hi' hd' => by omega) w b s i bad hr hs hi hd
  | succ d ih => exact fun w b s i bad hr hs hi hd => tree_step (d + 1) (list_step d ih) w b s i bad hr hs hi hd
/-- What is known of a text that is a value of JSON between white space. -/
def DocQ (s : ByteArray) (t : TreeV) (i : Nat) (raw : ByteArray) : Prop :=
  s.size ≤ 65536 ∧ t.kind = kindOf (bt s i) ∧ ∃ (j d : Nat), Ws s 0 i ∧ raw = s.extract i j ∧ i ≤ j ∧ j ≤ s.size ∧ Shape s i j ∧ Ws s j s.size ∧ (t.pairs = true → Top s (Val s d) i j t.kind t.o t.ks t.its)
/-- What a call of 'Read' returns and leaves. -/
def Doc1 (w : World) (s : ByteArray) (e : Ending) (w' : World) : Prop :=
  ∃ (t : TreeV) (raw : ByteArray) (i : Nat) (ok : Bool), e = .returned (.tuple #[.agg (t.cells i raw), .bool ok]) ∧ Upd [] w w' ∧ OwnT w' w.heap.size t ∧ (ok = true → DocQ s t i raw)
theorem res_read {W : World} {rb : Nat} {c0 c1 c2 c3 c4 c5 c6 : Value} {ok : Bool} (h : Blk W rb 25 #[c0, c1, c2, c3, c4, c5, c6]) (tmps : Array Value) (ht : tmps.getD 2 undef = .pointer (some ⟨rb, 0, none⟩)) (ht3 : tmps.getD 3 undef = .bool ok) :
    (results Tryz.f8 tmps).run Tryz.prog W = .ok (.tuple #[.agg #[c0, c1, c2, c3, c4, c5, c6], .bool ok]) W := by
  have r0 := h.cell 0
  have r1 := h.cell 1
  have r2 := h.cell 2
  have r3 := h.cell 3
  have r4 := h.cell 4
  have r5 := h.cell 5
  have r6 := h.cell 6
  simp only [List.getElem?_toArray, List.getElem?_cons_zero, List.getElem?_cons_succ] at r0 r1 r2 r3 r4 r5 r6
  have ht' : tmps[2]?.getD undef = .pointer (some ⟨rb, 0, none⟩) := by simpa using ht
  have ht3' : tmps[3]?.getD undef = .bool ok := by simpa using ht3
  simp [results, Tryz.results8, go_sem, ht', ht3', r0, r1, r2, r3, r4, r5, r6]

theorem Rd.new0 (w : World) (s : ByteArray) : Rd (w.alloc (.cells #[.string s, .int .i64 0, .bool false] 44)) w.heap.size s 0 false := Blk.new w 44 _

theorem read_end {w w4 : World} {s raw : ByteArray} {t : TreeV} {i : Nat} (ok : Bool) {v0 v1 v2 v3 v4 v5 v6 : Value} (hup : Upd [] w w4) (hown : OwnT w4 (w.heap.size + 2) t) (hq : ok = true → DocQ s t i raw) :
    Doc1 w s (.returned (.tuple #[.agg (t.cells i raw), .bool ok])) (((((((w4.setCell ⟨w.heap.size, 0, none⟩ v0).setCell ⟨w.heap.size, 1, none⟩ v1).setCell ⟨w.heap.size, 2, none⟩ v2).setCell ⟨w.heap.size, 3, none⟩ v3).setCell ⟨w.heap.size, 4, none⟩ v4).setCell ⟨w.heap.size, 5, none⟩ v5).setCell ⟨w.heap.size, 6, none⟩ v6).drew := by
  have hu := ((((((((Upd.refl [w.heap.size] w4).setCell (p := ⟨w.heap.size, 0, none⟩) (.inl (.head _)) v0).setCell (p := ⟨w.heap.size, 1, none⟩) (.inl (.head _)) v1).setCell (p := ⟨w.heap.size, 2, none⟩) (.inl (.head _)) v2).setCell (p := ⟨w.heap.size, 3, none⟩) (.inl (.head _)) v3).setCell (p := ⟨w.heap.size, 4, none⟩) (.inl (.head _)) v4).setCell (p := ⟨w.heap.size, 5, none⟩) (.inl (.head _)) v5).setCell (p := ⟨w.heap.size, 6, none⟩) (.inl (.head _)) v6).drew
  refine ⟨t, raw, i, ok, rfl, hup.then hu (by simp), (hown.upd hu (fun k h => ?_) (fun k h => ?_)).base (by omega), hq⟩
  · have := (hown.1.lt k h).1; simp; omega
  · have := (hown.2.1.lt k h).1; simp; omega

set_option maxRecDepth 100000 in
set_option maxHeartbeats 4000000 in
theorem read_any (w : World) (s : ByteArray) (hlen : s.size ≤ 2 ^ 47) : Calls Tryz.prog 8 #[.string s] w fun e w' => Doc1 w s e w' := by
  go_enter Tryz.func8, Tryz.ntmps8
  by_cases hs : s.size ≤ 65536
  · have d0 : decide ((65536 : Int) < (s.size : Int)) = false := by simp; omega
    go_wp2_with fail
    have hz : (w.alloc (.cells #[.int .i64 0, .string ⟨#[]⟩, .int .i64 0, .string ⟨#[]⟩, .bool false, .slice none 0 0, .slice none 0 0] 25)).heap.size = w.heap.size + 1 := by simp
    have hrd := Rd.new0 (w.alloc (.cells #[.int .i64 0, .string ⟨#[]⟩, .int .i64 0, .string ⟨#[]⟩, .bool false, .slice none 0 0, .slice none 0 0] 25)) s
    rw [hz] at hrd
    have hup := ((Upd.refl [] w).alloc (.cells #[.int .i64 0, .string ⟨#[]⟩, .int .i64 0, .string ⟨#[]⟩, .bool false, .slice none 0 0, .slice none 0 0] 25)).alloc (.cells #[.string s, .int .i64 0, .bool false] 44)
    have hrb := (Blk.new w 25 #[.int .i64 0, .string ⟨#[]⟩, .int .i64 0, .string ⟨#[]⟩, .bool false, .slice none 0 0, .slice none 0 0]).alloc (.cells #[.string s, .int .i64 0, .bool false] 44)
    clear hz
    generalize (w.alloc (.cells #[.int .i64 0, .string ⟨#[]⟩, .int .i64 0, .string ⟨#[]⟩, .bool false, .slice none 0 0, .slice none 0 0] 25)).alloc (.cells #[.string s, .int .i64 0, .bool false] 44) = W at *
    refine (blank_any _ (w.heap.size + 1) s 0 false hrd hs (by omega)).mono ?_
    rintro e w1 ⟨rfl, i, hr1, hu1, hws⟩
    have his := hws.2.1
    have hrb1 := hrb.upd hu1 (by simp)
    have hup1 := hup.then hu1 (by simp)
    clear hrd hup hrb hu1
    go_wp2_with fail
    refine (tree_all (s.size - i) w1 (w.heap.size + 1) s i false hr1 hs his (by omega)).mono ?_
    rintro e w2 ⟨t, raw, j, bad2, rfl, hk, hr2, hu2, hown, hw2⟩
    have hj := hw2.1
    have hjs := hw2.2.1
    have hrb2 := hrb1.upd hu2 (by simp)
    have hup2 := hup1.then hu2 (by simp)
    have hb1 := hr1.lt
    have hown1 := hown.base (base' := w.heap.size + 2) (by omega)
    clear hr1 hrb1 hup1 hu2 hown
    obtain ⟨A1, n1, hkv⟩ := own_slice hown1.1
    obtain ⟨A2, n2, hiv⟩ := own_slice hown1.2.1
    obtain ⟨kind, o, pairs, kv, iv, ks, its⟩ := t
    dsimp only at hkv hiv hk
    subst hkv hiv
    have HW := Lib.hid hw2; clear hw2
    dsimp only [TreeV.cells]
    have hrd3 := hr2.alloc (.cells #[.int .i64 kind, .string raw, .int .i64 i, .string (strOfNums o), .bool pairs, .slice A1 ks.length n1, .slice A2 its.length n2] 25)
    have hrb3 := hrb2.alloc (.cells #[.int .i64 kind, .string raw, .int .i64 i, .string (strOfNums o), .bool pairs, .slice A1 ks.length n1, .slice A2 its.length n2] 25)
    have htb3 := Blk.new w2 25 #[.int .i64 kind, .string raw, .int .i64 i, .string (strOfNums o), .bool pairs, .slice A1 ks.length n1, .slice A2 its.length n2]
    have hup3 := hup2.alloc (.cells #[.int .i64 kind, .string raw, .int .i64 i, .string (strOfNums o), .bool pairs, .slice A1 ks.length n1, .slice A2 its.length n2] 25)
    have hown3 := hown1.upd ((Upd.refl [] w2).alloc (.cells #[.int .i64 kind, .string raw, .int .i64 i, .string (strOfNums o), .bool pairs, .slice A1 ks.length n1, .slice A2 its.length n2] 25)) (fun k h => by simp) (fun k h => by simp)
    have hlt2 := hr2.lt
    have hsz3 : (w2.alloc (.cells #[.int .i64 kind, .string raw, .int .i64 i, .string (strOfNums o), .bool pairs, .slice A1 ks.length n1, .slice A2 its.length n2] 25)).heap.size = w2.heap.size + 1 := by simp
    have HK := Lib.hid hk
    clear hr2 hrb2 hup2 hown1 hk
    go_wp2_with fail
    generalize w2.alloc (.cells #[.int .i64 kind, .string raw, .int .i64 i, .string (strOfNums o), .bool pairs, .slice A1 ks.length n1, .slice A2 its.length n2] 25) = w3 at *
    refine (blank_any w3 (w.heap.size + 1) s j bad2 hrd3 hs hjs).mono ?_
    rintro e w4 ⟨rfl, j4, hr4, hu4, hws4⟩
    have hrb4 := hrb3.upd hu4 (by simp)
    have htb4 := htb3.upd hu4 (by simp; omega)
    have hup4 := hup3.then hu4 (by simp)
    have hown4 := hown3.upd hu4 (fun k h => by have := (hown3.1.lt k h).1; simp; omega) (fun k h => by have := (hown3.2.1.lt k h).1; simp; omega)
    clear hrd3 hrb3 htb3 hup3 hu4
    have h1 := hr4.c1
    have h2 := hr4.c2
    have tf := htb4.frozen
    have rf := hrb4.frozen
    have ef := hr4.fr
    have t0 := htb4.cell 0
    have t1 := htb4.cell 1
    have t2 := htb4.cell 2
    have t3 := htb4.cell 3
    have t4 := htb4.cell 4
    have t5 := htb4.cell 5
    have t6 := htb4.cell 6
    have r0 := hrb4.cell 0
    have r1 := hrb4.cell 1
    have r2 := hrb4.cell 2
    have r3 := hrb4.cell 3
    have r4 := hrb4.cell 4
    have r5 := hrb4.cell 5
    have r6 := hrb4.cell 6
    simp only [List.getElem?_toArray, List.getElem?_cons_zero, List.getElem?_cons_succ] at t0 t1 t2 t3 t4 t5 t6 r0 r1 r2 r3 r4 r5 r6
    cases bad2 with
    | true =>
      go_wp2_with fail
      go_region
      go_wp2_with fail
      have HB := ((((((hrb4.set_ 0 (.int .i64 kind)).set_ 1 (.string raw)).set_ 2 (.int .i64 i)).set_ 3 (.string (strOfNums o))).set_ 4 (.bool pairs)).set_ 5 (.slice A1 ks.length n1)).set_ 6 (.slice A2 its.length n2)
      refine bodyPost_ret (res_read (c0 := .int .i64 kind) (c1 := .string raw) (c2 := .int .i64 i) (c3 := .string (strOfNums o)) (c4 := .bool pairs) (c5 := .slice A1 ks.length n1) (c6 := .slice A2 its.length n2) (ok := false) (Blk.drew HB) _ rfl rfl) rfl ?_
      exact read_end false hup4 hown4 fun h => by cases h
    | false =>
      by_cases hj4 : j4 = s.size
      · have d1 : decide ((j4 : Int) = (s.size : Int)) = true := by simp; omega
        have d2 : ((j4 : Int) == (s.size : Int)) = true := by simp; omega
        have HJ := Lib.hid hj4; clear hj4
        go_wp2_with fail
        go_region
        go_wp2_with fail
        have HB := ((((((hrb4.set_ 0 (.int .i64 kind)).set_ 1 (.string raw)).set_ 2 (.int .i64 i)).set_ 3 (.string (strOfNums o))).set_ 4 (.bool pairs)).set_ 5 (.slice A1 ks.length n1)).set_ 6 (.slice A2 its.length n2)
        refine bodyPost_ret (res_read (c0 := .int .i64 kind) (c1 := .string raw) (c2 := .int .i64 i) (c3 := .string (strOfNums o)) (c4 := .bool pairs) (c5 := .slice A1 ks.length n1) (c6 := .slice A2 its.length n2) (ok := true) (Blk.drew HB) _ rfl rfl) rfl ?_
        exact read_end true hup4 hown4 fun _ => ⟨hs, HK.out, j, s.size - i, hws, (HW.out.2.2 rfl).2.1, HW.out.1, HW.out.2.1, (HW.out.2.2 rfl).2.2.1, HJ.out ▸ hws4, (HW.out.2.2 rfl).2.2.2⟩
      · have d1 : decide ((j4 : Int) = (s.size : Int)) = false := by simp; omega
        have d2 : ((j4 : Int) == (s.size : Int)) = false := by simp; omega
        clear hj4
        go_wp2_with fail
        go_region
        go_wp2_with fail
        have HB := ((((((hrb4.set_ 0 (.int .i64 kind)).set_ 1 (.string raw)).set_ 2 (.int .i64 i)).set_ 3 (.string (strOfNums o))).set_ 4 (.bool pairs)).set_ 5 (.slice A1 ks.length n1)).set_ 6 (.slice A2 its.length n2)
        refine bodyPost_ret (res_read (c0 := .int .i64 kind) (c1 := .string raw) (c2 := .int .i64 i) (c3 := .string (strOfNums o)) (c4 := .bool pairs) (c5 := .slice A1 ks.length n1) (c6 := .slice A2 its.length n2) (ok := false) (Blk.drew HB) _ rfl rfl) rfl ?_
        exact read_end false hup4 hown4 fun h => by cases h
  · have d0 : decide ((65536 : Int) < (s.size : Int)) = true := by simp; omega
    have HB := Blk.new w 25 #[.int .i64 0, .string ⟨#[]⟩, .int .i64 0, .string ⟨#[]⟩, .bool false, .slice none 0 0, .slice none 0 0]
    have rf := HB.frozen
    go_wp2_with fail
    clear rf
    refine bodyPost_ret (res_read (ok := false) HB _ rfl rfl) rfl ?_
    exact ⟨⟨0, [], false, .slice none 0 0, .slice none 0 0, [], []⟩, ByteArray.empty, 0, false, rfl, (Upd.refl [] w).alloc _, own_none _ _ _ _ _, fun h => by cases h⟩
end Go.Proofs.YtcnkbdbkglggcaaGreatDoor

namespace Go.Proofs.YtcnkbdbkglggcaaGreatDoor
open Go.RowKit

theorem run_field2s (c0 c1 c3 c4 c5 : Value) (T : ByteArray) (w : World) : (Instr.field 34 (.agg #[c0, c1, .string T, c3, c4, c5]) 2).run Tryz.prog w = .ok (.string T) w := by
  kernel_rfl
theorem rstring_str (w : World) (raw str : ByteArray) (x : Nat) (i : Int) : Calls Tryz.prog 23 #[.agg (resCells 3 raw str x i)] w fun e w' => e = .returned (.string str) ∧ Upd [] w w' := by
  unfold resCells
  go_enter Tryz.func23, Tryz.ntmps23
  go_wp2_with fail
  go_ret
  exact ⟨rfl, (Upd.refl [] w).alloc _⟩
theorem zz_unescape (w : World) (u t : ByteArray) (h : Calls Tryz.prog 41 #[.string u] w fun e w' => e = .returned (.string t) ∧ Upd [] w w') : Calls Tryz.prog 14 #[.string u] w fun e w' => e = .returned (.string t) ∧ Upd [] w w' := by
  have h25 : Calls Tryz.prog 25 #[.string u] w fun e w' => e = .returned (.string t) ∧ Upd [] w w' := by
    go_enter Tryz.func25, Tryz.ntmps25
    go_wp2_with fail
    refine h.mono ?_
    rintro e w1 ⟨rfl, hu⟩
    go_wp2_with fail
    go_ret
    exact ⟨rfl, hu⟩
  go_enter Tryz.func14, Tryz.ntmps14
  go_wp2_with fail
  refine h25.mono ?_
  rintro e w1 ⟨rfl, hu⟩
  go_wp2_with fail
  go_ret
  exact ⟨rfl, hu⟩
theorem impl_str (w : World) (s u : ByteArray) (P : Value → Prop) (hp : Calls Tryz.prog 20 #[.string s] w fun e w' => ∃ v, e = .returned v ∧ P v ∧ Upd [] w w')
    (hq : ∀ v w1, P v → Calls Tryz.prog 23 #[v] w1 fun e w' => e = .returned (.string u) ∧ Upd [] w1 w') :
    Calls Tryz.prog 12 #[.string s] w fun e w' => e = .returned (.string u) ∧ Upd [] w w' := by
  go_enter Tryz.func12, Tryz.ntmps12
  go_wp2_with fail
  refine hp.mono ?_
  rintro e w1 ⟨v, rfl, hv, hu1⟩
  go_wp2_with fail
  refine (hq v w1 hv).mono ?_
  rintro e w2 ⟨rfl, hu2⟩
  go_wp2_with fail
  go_ret
  exact ⟨rfl, hu1.trans hu2⟩
theorem Rest.pre {s : ByteArray} {k a : Nat} {o : List Int} (h : Rest s k a o) : ∀ (p : Nat) (o1 : List Int), Pre s p a o1 → Pre s p k (o1 ++ o) := by
  induction h with
  | done =>
    exact fun p o1 h1 => by rw [List.append_nil]; exact h1
  | plain h32 h34 h92 h ih =>
    exact fun p o1 h1 => by
      have := ih p _ (.plain h1 h32 h34 h92)
      rw [List.append_assoc] at this
      exact this
  | esc h92 he h ih =>
    exact fun p o1 h1 => by
      have := ih p _ (.esc h1 h92 he)
      rw [List.append_assoc] at this
      exact this
/-- What a string's text gives: the inside as it is cut, and what the program's readers return. -/
theorem str_facts (s : ByteArray) (i j : Nat) (o : List Int) (hs : s.size ≤ 65536) (hj : j ≤ s.size) (hq : StrQ s i j o) :
    i + 2 ≤ j ∧ (∀ w, Calls Tryz.prog 41 #[.string (s.extract (i + 1) (j - 1))] w fun e w' => e = .returned (.string (strOfNums o)) ∧ Upd [] w w') ∧
    (∀ w, Calls Tryz.prog 36 #[.string (s.extract i s.size)] w fun e w' => e = .returned (.tuple #[.string ((s.extract i s.size).extract 0 (j - i)), .string (strOfNums o)]) ∧ Upd [] w w') := by
  obtain ⟨h34, k, hp, hk34, rfl⟩ := hq
  have hik : i + 1 ≤ k := hp.even.1
  have hr := hp.rest k [] .done
  rw [List.append_nil] at hr
  have hzu : (s.extract (i + 1) k).size = k - (i + 1) := by simp only [ByteArray.size_extract]; omega
  have hzv : (s.extract i s.size).size = s.size - i := by simp only [ByteArray.size_extract]; omega
  have hbv : ∀ y, y < s.size - i → bt (s.extract i s.size) y = bt s (i + y) := fun y hy => bt_extract (by omega) (Nat.le_refl _)
  have hru : Rest (s.extract (i + 1) k) (s.extract (i + 1) k).size 0 o := by
    rw [hzu]
    exact Rest.shift (p := i + 1) (fun y hy => bt_extract (by omega) (by omega)) hr 0 (by omega) (by omega)
  have hrv : Rest (s.extract i s.size) (k - i) 1 o := Rest.shift (p := i) (fun y hy => hbv y (by omega)) hr 1 (by omega) (by omega)
  have U : ∀ w, Calls Tryz.prog 41 #[.string (s.extract (i + 1) k)] w fun e w' => e = .returned (.string (strOfNums o)) ∧ Upd [] w w' := fun w => unescape_any w _ o (by omega) hru
  have hcut : (s.extract i s.size).extract 1 (k - i) = s.extract (i + 1) k := by
    rw [ByteArray.extract_extract]
    congr 1
    omega
  refine ⟨by omega, U, fun w => ?_⟩
  have hpv := hrv.pre 1 [] .start
  rw [List.nil_append] at hpv
  have T := tostr_any w (s.extract i s.size) (k - i) o (by omega) hpv (by omega) (by rw [hbv _ (by omega), show i + (k - i) = k by omega]; exact hk34) (fun hn => by
    obtain ⟨z1, z2⟩ := hrv.plainAll hn
    refine strOf_ext (by omega) z1 z2 fun x hx => ?_
    obtain ⟨y, hy, rfl⟩ := List.getElem_of_mem hx
    have h3 := z2 y hy
    rw [List.getD_eq_getElem?_getD, List.getElem?_eq_getElem hy] at h3
    simp only [Option.getD_some] at h3
    rw [h3]
    have h4 : 1 + y < (s.extract i s.size).size := by omega
    rw [← bt_lt h4]
    have := ((s.extract i s.size)[1 + y]).toNat_lt
    omega) (by rw [hcut]; exact U)
  rw [show k + 1 - i = k - i + 1 by omega]
  exact T
theorem parse_strQ (w : World) (s : ByteArray) (i j : Nat) (o : List Int) (hs : s.size ≤ 65536) (hj : j ≤ s.size) (hws : Ws s 0 i) (hq : StrQ s i j o) :
    Calls Tryz.prog 20 #[.string s] w fun e w' => e = .returned (.agg (resCells 3 ((s.extract i s.size).extract 0 (j - i)) (strOfNums o) 0 i)) ∧ Upd [] w w' :=
  parse_str w s i (by omega) hws hq.1 _ _ (str_facts s i j o hs hj hq).2.2

set_option maxRecDepth 100000 in
set_option maxHeartbeats 8000000 in
theorem law_str (w : World) (s : ByteArray) (hs47 : s.size ≤ 2147483647) : Calls Tryz.prog 5 #[.string s] w fun e w' => e = .returned (.bool true) ∧ Upd [] w w' := by
  have d0 : decide ((2147483647 : Int) < (s.size : Int)) = false := decide_eq_false (by omega)
  go_enter Tryz.func5, Tryz.ntmps5
  go_wp2_with fail
  refine (read_any w s (by omega)).mono ?_
  rintro e w1 ⟨t, raw, i, ok, rfl, hu1, hown, hq⟩
  obtain ⟨A1, n1, hkv⟩ := own_slice hown.1
  obtain ⟨A2, n2, hiv⟩ := own_slice hown.2.1
  clear hown
  obtain ⟨kind, o, pairs, kv, iv, ks, its⟩ := t
  dsimp only at hkv hiv
  subst hkv hiv
  dsimp only [TreeV.cells]
  have hu2 := hu1.alloc (.cells #[.int .i64 kind, .string raw, .int .i64 i, .string (strOfNums o), .bool pairs, .slice A1 ks.length n1, .slice A2 its.length n2] 25)
  have hb0 := Blk.new w1 25 #[.int .i64 kind, .string raw, .int .i64 i, .string (strOfNums o), .bool pairs, .slice A1 ks.length n1, .slice A2 its.length n2]
  cases ok with
  | false =>
    clear hq hb0
    go_wp2_with fail
    go_ret
    exact ⟨rfl, hu2⟩
  | true =>
    obtain ⟨hs16, hk, j, d, hws0, hraw, hij, hj, hsh, hwsj, htop⟩ := hq rfl
    dsimp only at hk htop
    clear hq
    by_cases hn3 : kind ≠ 3
    · have d3 : (kind != 3) = true := bne_iff_ne.2 hn3
      clear hk htop hsh hb0 hraw
      go_wp2_with fail
      go_ret
      exact ⟨rfl, hu2⟩
    have hk3 : kind = 3 := Decidable.byContradiction hn3
    clear hn3
    by_cases hp0 : pairs = false
    · subst hk3 hp0
      clear hk htop hsh hb0 hraw
      go_wp2_with fail
      go_ret
      exact ⟨rfl, hu2⟩
    have hp1 : pairs = true := by simpa using hp0
    subst hp1
    clear hp0
    have hc34 : bt s i = 34 := by
      rw [hk3] at hk
      unfold kindOf at hk
      by_cases h1 : bt s i = 34
      · exact h1
      · rw [if_neg h1] at hk
        (repeat' split at hk) <;> omega
    have hQ := (htop rfl).2.2.1 hc34
    subst hk3 hraw
    clear hk htop hsh hc34
    obtain ⟨hij2, HU, _⟩ := str_facts s i j o hs16 hj hQ
    have PQ := fun w => parse_strQ w s i j o hs16 hj hws0 hQ
    have HV : Hid (∀ w, Calls Tryz.prog 13 #[.string s] w fun e w' => e = .returned (.agg (valCells 3 ((s.extract i s.size).extract 0 (j - i)) (strOfNums o) 0 i)) ∧ Upd [] w w') := fun w => implParse_any w s 3 _ _ 0 i (by decide) fun w0 _ => PQ w0
    have HS : Hid (∀ w, Calls Tryz.prog 12 #[.string s] w fun e w' => e = .returned (.string (strOfNums o)) ∧ Upd [] w w') := fun w =>
      impl_str w _ _ (fun v => v = .agg (resCells 3 ((s.extract i s.size).extract 0 (j - i)) (strOfNums o) 0 i)) ((PQ w).mono fun e w' h => ⟨_, h.1, rfl, h.2⟩) (fun v w1 hv => by subst hv; exact rstring_str w1 _ _ _ _)
    have HZ : Hid (∀ w, Calls Tryz.prog 14 #[.string (s.extract (i + 1) (j - 1))] w fun e w' => e = .returned (.string (strOfNums o)) ∧ Upd [] w w') := fun w => zz_unescape w _ _ (HU w)
    have hzr : (s.extract i j).size = j - i := by simp only [ByteArray.size_extract]; omega
    have hcut : (s.extract i j).extract 1 (j - i - 1) = s.extract (i + 1) (j - 1) := by
      rw [ByteArray.extract_extract]
      congr 1
      omega
    have x1 : ∀ w, (Instr.slice 9 (.string (s.extract i j)) (some (.int .i64 1)) (some (.int .i64 (((s.extract i j).size : Int) - 1))) none).run Tryz.prog w = .ok (.string (s.extract (i + 1) (j - 1))) w := fun w => by
      have := cut_mid (s.extract i j) (j - i - 1) (by omega) (by omega) w
      rw [hcut] at this
      rw [show (((s.extract i j).size : Int) - 1) = ((j - i - 1 : Nat) : Int) by omega]
      exact this
    have r1 : IntKind.i64.wrap (((s.extract i j).size : Int) - 1) = ((s.extract i j).size : Int) - 1 := IntWalk.i64_in _ (by omega)
    have HB := Lib.hid hb0
    have HU2 := Lib.hid hu2
    clear hQ HU PQ hcut hzr hb0 hu2 hws0 hwsj
    generalize strOfNums o = T at *
    generalize s.extract i j = R at *
    generalize s.extract (i + 1) (j - 1) = U at *
    generalize (s.extract i s.size).extract 0 (j - i) = R2 at *
    unfold valCells at HV
    have fl := fun w => run_field2s (.int .i64 3) (.string R2) (.float .f64 0) (.int .i64 i) (.bool true) T w
    go_upto_region 6 with fail
    have r0 := HB.out.cell 3
    have r3 := HB.out.cell 1
    simp only [List.getElem?_toArray, List.getElem?_cons_zero, List.getElem?_cons_succ] at r0 r3
    refine wp_region_held_drew (S := (fun w' => w'.cell? ⟨w1.heap.size, 3, none⟩ = some (.string T) ∧ w'.cell? ⟨w1.heap.size, 1, none⟩ = some (.string R))) (by kernel_rfl) ?_ (fun hH0 => ?_)
    · exact ⟨r0, r3⟩
    refine wpAnyH_take (i := 0) (v := ?_) rfl (by kernel_rfl) (by kernel_rfl) (by kernel_rfl) (fun _ _ _ h => h) (Or.inl ⟨by rfl, ?_⟩) hH0 ?_
    rotate_left
    · intro w hSw; (try dsimp only at hSw); go_simp
      all_goals (with_reducible rfl)
    simp only [Act.put, List.getElem_toArray, List.getElem_cons_zero, List.getElem_cons_succ, List.setIfInBounds_toArray, List.set_cons_zero, List.set_cons_succ]
    refine wpAnyH_take (i := 3) (v := ?_) rfl (by kernel_rfl) (by kernel_rfl) (by kernel_rfl) (fun _ _ _ h => h) (Or.inl ⟨by rfl, ?_⟩) hH0 ?_
    rotate_left
    · intro w hSw; (try dsimp only at hSw); go_simp
      all_goals (with_reducible rfl)
    simp only [Act.put, List.getElem_toArray, List.getElem_cons_zero, List.getElem_cons_succ, List.setIfInBounds_toArray, List.set_cons_zero, List.set_cons_succ]
    refine wpAnyH_take (i := 4) (v := ?_) rfl (by kernel_rfl) (by kernel_rfl) (by kernel_rfl) (fun _ _ _ h => h) (Or.inl ⟨by rfl, ?_⟩) hH0 ?_
    rotate_left
    · intro w hSw; (try dsimp only at hSw); go_simp
      all_goals (with_reducible rfl)
    simp only [Act.put, List.getElem_toArray, List.getElem_cons_zero, List.getElem_cons_succ, List.setIfInBounds_toArray, List.set_cons_zero, List.set_cons_succ]
    refine wpAnyH_ready (rs := [1]) (by kernel_rfl) (by simp) ?_
    refine AllReadyH.cons rfl (fun K hK => ?_) AllReadyH.nil
    go_simp
    refine (HV.out _).mono ?_
    rintro e2 w2 ⟨rfl, hv1⟩
    have hb2 := (Blk.drew HB.out).upd hv1 (by simp)
    refine hK.out _ _ ⟨hb2.cell 3, hb2.cell 1⟩ (fun hH2 => ?_)
    clear hK K
    refine wpAnyH_take (i := 2) (v := ?_) rfl (by kernel_rfl) (by kernel_rfl) (by kernel_rfl) (fun _ _ _ h => h) (Or.inl ⟨by rfl, ?_⟩) hH2 ?_
    rotate_left
    · intro w hSw; (try dsimp only at hSw); go_simp
      all_goals (with_reducible rfl)
    simp only [Act.put, List.getElem_toArray, List.getElem_cons_zero, List.getElem_cons_succ, List.setIfInBounds_toArray, List.set_cons_zero, List.set_cons_succ]
    refine wpAnyH_take (i := 5) (v := ?_) rfl (by kernel_rfl) (by kernel_rfl) (by kernel_rfl) (fun _ _ _ h => h) (Or.inl ⟨by rfl, ?_⟩) hH2 ?_
    rotate_left
    · intro w hSw; (try dsimp only at hSw); go_simp
      all_goals (with_reducible rfl)
    simp only [Act.put, List.getElem_toArray, List.getElem_cons_zero, List.getElem_cons_succ, List.setIfInBounds_toArray, List.set_cons_zero, List.set_cons_succ]
    refine wpAnyH_take (i := 6) (v := ?_) rfl (by kernel_rfl) (by kernel_rfl) (by kernel_rfl) (fun _ _ _ h => h) (Or.inl ⟨by rfl, ?_⟩) hH2 ?_
    rotate_left
    · intro w hSw; (try dsimp only at hSw); go_simp
      all_goals (with_reducible rfl)
    simp only [Act.put, List.getElem_toArray, List.getElem_cons_zero, List.getElem_cons_succ, List.setIfInBounds_toArray, List.set_cons_zero, List.set_cons_succ]
    refine wpAnyH_take (i := 7) (v := ?_) rfl (by kernel_rfl) (by kernel_rfl) (by kernel_rfl) (fun _ _ _ h => h) (Or.inl ⟨by rfl, ?_⟩) hH2 ?_
    rotate_left
    · intro w hSw; (try dsimp only at hSw); go_simp
      all_goals (with_reducible rfl)
    simp only [Act.put, List.getElem_toArray, List.getElem_cons_zero, List.getElem_cons_succ, List.setIfInBounds_toArray, List.set_cons_zero, List.set_cons_succ]
    refine wpAnyH_take (i := 9) (v := ?_) rfl (by kernel_rfl) (by kernel_rfl) (by kernel_rfl) (fun _ _ _ h => h) (Or.inl ⟨by rfl, ?_⟩) hH2 ?_
    rotate_left
    · intro w hSw; (try dsimp only at hSw); go_simp
      all_goals (with_reducible rfl)
    simp only [Act.put, List.getElem_toArray, List.getElem_cons_zero, List.getElem_cons_succ, List.setIfInBounds_toArray, List.set_cons_zero, List.set_cons_succ]
    refine wpAnyH_take (i := 10) (v := ?_) rfl (by kernel_rfl) (by kernel_rfl) (by kernel_rfl) (fun _ _ _ h => h) (Or.inl ⟨by rfl, ?_⟩) hH2 ?_
    rotate_left
    · intro w hSw; (try dsimp only at hSw); go_simp
      all_goals (with_reducible rfl)
    simp only [Act.put, List.getElem_toArray, List.getElem_cons_zero, List.getElem_cons_succ, List.setIfInBounds_toArray, List.set_cons_zero, List.set_cons_succ]
    refine wpAnyH_ready (rs := [8]) (by kernel_rfl) (by simp) ?_
    refine AllReadyH.cons rfl (fun K hK => ?_) AllReadyH.nil
    go_simp
    refine (HS.out _).mono ?_
    rintro e3 w3 ⟨rfl, hv2⟩
    have hb3 := hb2.upd hv2 (by simp)
    refine hK.out _ _ ⟨hb3.cell 3, hb3.cell 1⟩ (fun hH3 => ?_)
    clear hK K
    refine wpAnyH_take (i := 11) (v := ?_) rfl (by kernel_rfl) (by kernel_rfl) (by kernel_rfl) (fun _ _ _ h => h) (Or.inl ⟨by rfl, ?_⟩) hH3 ?_
    rotate_left
    · intro w hSw; (try dsimp only at hSw); go_simp
      all_goals (with_reducible rfl)
    simp only [Act.put, List.getElem_toArray, List.getElem_cons_zero, List.getElem_cons_succ, List.setIfInBounds_toArray, List.set_cons_zero, List.set_cons_succ]
    refine wpAnyH_take (i := 12) (v := ?_) rfl (by kernel_rfl) (by kernel_rfl) (by kernel_rfl) (fun _ _ _ h => h) (Or.inl ⟨by rfl, ?_⟩) hH3 ?_
    rotate_left
    · intro w hSw; (try dsimp only at hSw); go_simp
      all_goals (with_reducible rfl)
    simp only [Act.put, List.getElem_toArray, List.getElem_cons_zero, List.getElem_cons_succ, List.setIfInBounds_toArray, List.set_cons_zero, List.set_cons_succ]
    refine wpAnyH_take (i := 13) (v := ?_) rfl (by kernel_rfl) (by kernel_rfl) (by kernel_rfl) (fun _ _ _ h => h) (Or.inl ⟨by rfl, ?_⟩) hH3 ?_
    rotate_left
    · intro w hSw; (try dsimp only at hSw); go_simp
      all_goals (with_reducible rfl)
    simp only [Act.put, List.getElem_toArray, List.getElem_cons_zero, List.getElem_cons_succ, List.setIfInBounds_toArray, List.set_cons_zero, List.set_cons_succ]
    refine wpAnyH_take (i := 14) (v := ?_) rfl (by kernel_rfl) (by kernel_rfl) (by kernel_rfl) (fun _ _ _ h => h) (Or.inl ⟨by rfl, ?_⟩) hH3 ?_
    rotate_left
    · intro w hSw; (try dsimp only at hSw); go_simp
      all_goals (with_reducible rfl)
    simp only [Act.put, List.getElem_toArray, List.getElem_cons_zero, List.getElem_cons_succ, List.setIfInBounds_toArray, List.set_cons_zero, List.set_cons_succ]
    refine wpAnyH_take (i := 15) (v := ?_) rfl (by kernel_rfl) (by kernel_rfl) (by kernel_rfl) (fun _ _ _ h => h) (Or.inl ⟨by rfl, ?_⟩) hH3 ?_
    rotate_left
    · intro w hSw; (try dsimp only at hSw); go_simp
      all_goals (with_reducible rfl)
    simp only [Act.put, List.getElem_toArray, List.getElem_cons_zero, List.getElem_cons_succ, List.setIfInBounds_toArray, List.set_cons_zero, List.set_cons_succ]
    refine wpAnyH_take (i := 16) (v := ?_) rfl (by kernel_rfl) (by kernel_rfl) (by kernel_rfl) (fun _ _ _ h => h) (Or.inl ⟨by rfl, ?_⟩) hH3 ?_
    rotate_left
    · intro w hSw; (try dsimp only at hSw); go_simp
      all_goals (with_reducible rfl)
    simp only [Act.put, List.getElem_toArray, List.getElem_cons_zero, List.getElem_cons_succ, List.setIfInBounds_toArray, List.set_cons_zero, List.set_cons_succ]
    refine wpAnyH_take (i := 17) (v := ?_) rfl (by kernel_rfl) (by kernel_rfl) (by kernel_rfl) (fun _ _ _ h => h) (Or.inl ⟨by rfl, ?_⟩) hH3 ?_
    rotate_left
    · intro w hSw; (try dsimp only at hSw); go_simp
      all_goals (with_reducible rfl)
    simp only [Act.put, List.getElem_toArray, List.getElem_cons_zero, List.getElem_cons_succ, List.setIfInBounds_toArray, List.set_cons_zero, List.set_cons_succ]
    refine wpAnyH_take (i := 18) (v := ?_) rfl (by kernel_rfl) (by kernel_rfl) (by kernel_rfl) (fun _ _ _ h => h) (Or.inl ⟨by rfl, ?_⟩) hH3 ?_
    rotate_left
    · intro w hSw; (try dsimp only at hSw); go_simp
      all_goals (with_reducible rfl)
    simp only [Act.put, List.getElem_toArray, List.getElem_cons_zero, List.getElem_cons_succ, List.setIfInBounds_toArray, List.set_cons_zero, List.set_cons_succ]
    refine wpAnyH_take (i := 19) (v := ?_) rfl (by kernel_rfl) (by kernel_rfl) (by kernel_rfl) (fun _ _ _ h => h) (Or.inl ⟨by rfl, ?_⟩) hH3 ?_
    rotate_left
    · intro w hSw; (try dsimp only at hSw); go_simp
      all_goals (with_reducible rfl)
    simp only [Act.put, List.getElem_toArray, List.getElem_cons_zero, List.getElem_cons_succ, List.setIfInBounds_toArray, List.set_cons_zero, List.set_cons_succ]
    refine wpAnyH_take (i := 20) (v := ?_) rfl (by kernel_rfl) (by kernel_rfl) (by kernel_rfl) (fun _ _ _ h => h) (Or.inl ⟨by rfl, ?_⟩) hH3 ?_
    rotate_left
    · intro w hSw; (try dsimp only at hSw); go_simp
      all_goals (with_reducible rfl)
    simp only [Act.put, List.getElem_toArray, List.getElem_cons_zero, List.getElem_cons_succ, List.setIfInBounds_toArray, List.set_cons_zero, List.set_cons_succ]
    refine wpAnyH_take (i := 22) (v := ?_) rfl (by kernel_rfl) (by kernel_rfl) (by kernel_rfl) (fun _ _ _ h => h) (Or.inl ⟨by rfl, ?_⟩) hH3 ?_
    rotate_left
    · intro w hSw; (try dsimp only at hSw); go_simp
      all_goals (with_reducible rfl)
    simp only [Act.put, List.getElem_toArray, List.getElem_cons_zero, List.getElem_cons_succ, List.setIfInBounds_toArray, List.set_cons_zero, List.set_cons_succ]
    refine wpAnyH_take (i := 23) (v := ?_) rfl (by kernel_rfl) (by kernel_rfl) (by kernel_rfl) (fun _ _ _ h => h) (Or.inl ⟨by rfl, ?_⟩) hH3 ?_
    rotate_left
    · intro w hSw; (try dsimp only at hSw); go_simp
      all_goals (with_reducible rfl)
    simp only [Act.put, List.getElem_toArray, List.getElem_cons_zero, List.getElem_cons_succ, List.setIfInBounds_toArray, List.set_cons_zero, List.set_cons_succ]
    refine wpAnyH_ready (rs := [21]) (by kernel_rfl) (by simp) ?_
    refine AllReadyH.cons rfl (fun K hK => ?_) AllReadyH.nil
    go_simp
    refine (HZ.out _).mono ?_
    rintro e4 w4 ⟨rfl, hv3⟩
    have hb4 := hb3.upd hv3 (by simp)
    refine hK.out _ _ ⟨hb4.cell 3, hb4.cell 1⟩ (fun hH4 => ?_)
    clear hK K
    refine wpAnyH_take (i := 24) (v := ?_) rfl (by kernel_rfl) (by kernel_rfl) (by kernel_rfl) (fun _ _ _ h => h) (Or.inl ⟨by rfl, ?_⟩) hH4 ?_
    rotate_left
    · intro w hSw; (try dsimp only at hSw); go_simp
      all_goals (with_reducible rfl)
    simp only [Act.put, List.getElem_toArray, List.getElem_cons_zero, List.getElem_cons_succ, List.setIfInBounds_toArray, List.set_cons_zero, List.set_cons_succ]
    refine wpAnyH_take (i := 25) (v := ?_) rfl (by kernel_rfl) (by kernel_rfl) (by kernel_rfl) (fun _ _ _ h => h) (Or.inl ⟨by rfl, ?_⟩) hH4 ?_
    rotate_left
    · intro w hSw; (try dsimp only at hSw); go_simp
      all_goals (with_reducible rfl)
    simp only [Act.put, List.getElem_toArray, List.getElem_cons_zero, List.getElem_cons_succ, List.setIfInBounds_toArray, List.set_cons_zero, List.set_cons_succ]
    refine wpAnyH_take (i := 26) (v := ?_) rfl (by kernel_rfl) (by kernel_rfl) (by kernel_rfl) (fun _ _ _ h => h) (Or.inl ⟨by rfl, ?_⟩) hH4 ?_
    rotate_left
    · intro w hSw; (try dsimp only at hSw); go_simp
      all_goals (with_reducible rfl)
    simp only [Act.put, List.getElem_toArray, List.getElem_cons_zero, List.getElem_cons_succ, List.setIfInBounds_toArray, List.set_cons_zero, List.set_cons_succ]
    refine wpAnyH_done (by kernel_rfl) ?_ _
    go_wp2_with fail
    go_ret
    exact ⟨rfl, ((HU2.out.drew.trans hv1).trans hv2).trans hv3⟩
end Go.Proofs.YtcnkbdbkglggcaaGreatDoor
