/-
  The reader's 'tree', given what 'list' does. Condition: the text has at most 65536 bytes.
-/
import Derived.Test.YtcnkbdbkglggcaaGreatDoorSpJ
import Derived.Deep.CutBlock
import Derived.Deep.DeepCutAuto
namespace Go.Proofs.YtcnkbdbkglggcaaGreatDoor
open Go.RowKit

theorem res_tree {W : World} {rb : Nat} {c0 c1 c2 c3 c4 c5 c6 : Value} (h : Blk W rb 25 #[c0, c1, c2, c3, c4, c5, c6]) (tmps : Array Value) (ht : tmps.getD 2 undef = .pointer (some ⟨rb, 0, none⟩)) :
    (results Tryz.f19 tmps).run Tryz.prog W = .ok (.agg #[c0, c1, c2, c3, c4, c5, c6]) W := by
  have r0 := h.cell 0
  have r1 := h.cell 1
  have r2 := h.cell 2
  have r3 := h.cell 3
  have r4 := h.cell 4
  have r5 := h.cell 5
  have r6 := h.cell 6
  simp only [List.getElem?_toArray, List.getElem?_cons_zero, List.getElem?_cons_succ] at r0 r1 r2 r3 r4 r5 r6
  have ht' : tmps[2]?.getD undef = .pointer (some ⟨rb, 0, none⟩) := by simpa using ht
  simp [results, Tryz.results19, go_sem, ht', r0, r1, r2, r3, r4, r5, r6]
/-- The tree is laid into the result's block. -/
theorem tree_end {w wc W : World} {b : Nat} {s : ByteArray} {i : Nat} {bad : Bool} {d : Nat} {t : TreeV} {j : Nat} {bad' : Bool} (raw : ByteArray) (hbl : b < w.heap.size) (hk : t.kind = kindOf (bt s i)) (hrd : Rd wc b s j bad') (hup : Upd [b] w wc) (hown : OwnT wc (w.heap.size + 2) t)
    (hW : Upd [w.heap.size, w.heap.size + 1] wc W) (hw : Went s i bad j bad' (raw = s.extract i j ∧ Shape s i j ∧ (t.pairs = true → Top s (Val s d) i j t.kind t.o t.ks t.its))) :
    Tree1 w b s i bad d (.returned (.agg (t.cells i raw))) W := by
  have hk1 := hown.1.lt
  have hk2 := hown.2.1.lt
  refine ⟨t, raw, j, bad', rfl, hk, hrd.upd hW (by simp; omega), hup.then hW (by simp), ((hown.upd hW (fun k h => ?_) (fun k h => ?_)).base (by omega)), hw⟩
  · have := (hk1 k h).1
    simp; omega
  · have := (hk2 k h).1
    simp; omega

set_option maxRecDepth 100000 in
set_option maxHeartbeats 4000000 in
theorem tree_step (d : Nat) (hL : ListOK d) (w : World) (b : Nat) (s : ByteArray) (i : Nat) (bad : Bool) (hr : Rd w b s i bad) (hs : s.size ≤ 65536) (hi : i ≤ s.size) (hd : s.size - i ≤ d) :
    Calls Tryz.prog 19 #[.pointer (some ⟨b, 0, none⟩)] w fun e w' => Tree1 w b s i bad d e w' := by
  have hbl := hr.lt
  have h1 : ∀ o, (w.alloc o).cell? ⟨b, 1, none⟩ = some (.int .i64 i) := fun o => (hr.alloc o).c1
  go_enter Tryz.func19, Tryz.ntmps19
  go_wp2_with fail
  refine (next_any _ b s i bad ((hr.alloc _).alloc _) hs).mono ?_
  rintro e w1 ⟨rfl, n, rfl⟩
  have hrd := ((hr.alloc (.cells #[.int .i64 0, .string ⟨#[]⟩, .int .i64 0, .string ⟨#[]⟩, .bool false, .slice none 0 0, .slice none 0 0] 25)).alloc (.cells #[.int .i64 5, .string ⟨#[]⟩, .int .i64 i, .string ⟨#[]⟩, .bool true, .slice none 0 0, .slice none 0 0] 25)).drewN n
  have hup := (((Upd.refl [b] w).alloc (.cells #[.int .i64 0, .string ⟨#[]⟩, .int .i64 0, .string ⟨#[]⟩, .bool false, .slice none 0 0, .slice none 0 0] 25)).alloc (.cells #[.int .i64 5, .string ⟨#[]⟩, .int .i64 i, .string ⟨#[]⟩, .bool true, .slice none 0 0, .slice none 0 0] 25)).drewN n
  have hrb : Blk (((w.alloc (.cells #[.int .i64 0, .string ⟨#[]⟩, .int .i64 0, .string ⟨#[]⟩, .bool false, .slice none 0 0, .slice none 0 0] 25)).alloc (.cells #[.int .i64 5, .string ⟨#[]⟩, .int .i64 i, .string ⟨#[]⟩, .bool true, .slice none 0 0, .slice none 0 0] 25)).drewN n) w.heap.size 25 #[.int .i64 0, .string ⟨#[]⟩, .int .i64 0, .string ⟨#[]⟩, .bool false, .slice none 0 0, .slice none 0 0] := ((Blk.new w 25 _).alloc _).drewN n
  have htb : Blk (((w.alloc (.cells #[.int .i64 0, .string ⟨#[]⟩, .int .i64 0, .string ⟨#[]⟩, .bool false, .slice none 0 0, .slice none 0 0] 25)).alloc (.cells #[.int .i64 5, .string ⟨#[]⟩, .int .i64 i, .string ⟨#[]⟩, .bool true, .slice none 0 0, .slice none 0 0] 25)).drewN n) (w.heap.size + 1) 25 #[.int .i64 5, .string ⟨#[]⟩, .int .i64 i, .string ⟨#[]⟩, .bool true, .slice none 0 0, .slice none 0 0] := by
    have := (Blk.new (w.alloc (.cells #[.int .i64 0, .string ⟨#[]⟩, .int .i64 0, .string ⟨#[]⟩, .bool false, .slice none 0 0, .slice none 0 0] 25)) 25 #[.int .i64 5, .string ⟨#[]⟩, .int .i64 i, .string ⟨#[]⟩, .bool true, .slice none 0 0, .slice none 0 0]).drewN n
    simpa using this
  have hz : (((w.alloc (.cells #[.int .i64 0, .string ⟨#[]⟩, .int .i64 0, .string ⟨#[]⟩, .bool false, .slice none 0 0, .slice none 0 0] 25)).alloc (.cells #[.int .i64 5, .string ⟨#[]⟩, .int .i64 i, .string ⟨#[]⟩, .bool true, .slice none 0 0, .slice none 0 0] 25)).drewN n).heap.size = w.heap.size + 2 := by simp
  generalize ((w.alloc (.cells #[.int .i64 0, .string ⟨#[]⟩, .int .i64 0, .string ⟨#[]⟩, .bool false, .slice none 0 0, .slice none 0 0] 25)).alloc (.cells #[.int .i64 5, .string ⟨#[]⟩, .int .i64 i, .string ⟨#[]⟩, .bool true, .slice none 0 0, .slice none 0 0] 25)).drewN n = W2 at *
  have HZ := Lib.hid hz; clear hz h1
  go_upto_block 0 with fail
  go_cut [14] (fun _ wx => TreeMid w b w.heap.size (w.heap.size + 1) s i bad d wx)
  case first =>
    have tf := htb.frozen
    have t0 := htb.cell 0
    have t3 := htb.cell 3
    have t4 := htb.cell 4
    simp only [List.getElem?_toArray, List.getElem?_cons_zero, List.getElem?_cons_succ] at t0 t3 t4
    have hbt : b ≠ w.heap.size + 1 := by omega
    by_cases c0 : bt s i = 34
    · have d0 : (bt s i == 34) = true := by rw [beq_iff_eq]; omega
      have C := Lib.hid c0
      have hnb : w.heap.size ∉ [b] ∧ w.heap.size + 1 ∉ [b] := by simp; omega
      have hrd1 := hrd.far (p := ⟨w.heap.size + 1, 0, none⟩) hbt (.int .i64 3)
      have htb1 := htb.set_ 0 (.int .i64 3)
      have hup1 := hup.setCell (p := ⟨w.heap.size + 1, 0, none⟩) (.inr (by simp)) (.int .i64 3)
      have hrb1 := hrb.far (p := ⟨w.heap.size + 1, 0, none⟩) (by simp) (.int .i64 3)
      clear hrd htb hup hrb
      clear c0
      go_wp2_with fail
      refine (text_any _ b s i bad hrd1 hs hi).mono ?_
      rintro e w3 ⟨o, ok, j, bad', rfl, hol, hr3, hu3, hw3⟩
      have htb3 := htb1.upd hu3 hnb.2
      have hrb3 := hrb1.upd hu3 hnb.1
      have hup3 := hup1.trans hu3
      have tf3 := htb3.frozen
      have t33 := htb3.cell 3
      have t34 := htb3.cell 4
      simp at t33 t34
      clear tf t0 t3 t4 htb1 hrb1 hup1 hrd1
      go_wp2_with fail
      go_meet
      exact ⟨⟨3, o, ok, .slice none 0 0, .slice none 0 0, [], []⟩, j, bad', (show (3 : Int) = kindOf (bt s i) by rw [C.out]; decide), (hr3.far (p := ⟨w.heap.size + 1, 3, none⟩) hbt _).far (p := ⟨w.heap.size + 1, 4, none⟩) hbt _, (hup3.setCell (p := ⟨w.heap.size + 1, 3, none⟩) (.inr (by simp)) _).setCell (p := ⟨w.heap.size + 1, 4, none⟩) (.inr (by simp)) _, own_none _ _ _ _ _,
        (htb3.set_ 3 _).set_ 4 _, (hrb3.far (p := ⟨w.heap.size + 1, 3, none⟩) (by simp) _).far (p := ⟨w.heap.size + 1, 4, none⟩) (by simp) _, hw3.1, hw3.2.1, fun hf => ⟨(hw3.2.2 hf).1, shape_str C.out (hw3.2.2 hf).2.2.1, fun hp => top_str C.out (hw3.2.2 hf).2.2.1 ((hw3.2.2 hf).2.2.2 hp)⟩⟩
    by_cases c1 : bt s i = 116
    · have d0 : (bt s i == 34) = false := by rw [beq_eq_false_iff_ne]; omega
      have d1 : (bt s i == 116) = true := by rw [beq_iff_eq]; omega
      have C := Lib.hid c1
      have hnb : w.heap.size ∉ [b] ∧ w.heap.size + 1 ∉ [b] := by simp; omega
      have hrd1 := hrd.far (p := ⟨w.heap.size + 1, 0, none⟩) hbt (.int .i64 4)
      have htb1 := htb.set_ 0 (.int .i64 4)
      have hup1 := hup.setCell (p := ⟨w.heap.size + 1, 0, none⟩) (.inr (by simp)) (.int .i64 4)
      have hrb1 := hrb.far (p := ⟨w.heap.size + 1, 0, none⟩) (by simp) (.int .i64 4)
      clear hrd htb hup hrb
      clear c0 c1
      go_wp2_with fail
      refine (word_any _ b s uTrue i bad hrd1 hs hi (by decide)).mono ?_
      rintro e w3 ⟨rfl, j, bad', hr3, hu3, hw3⟩
      clear tf t0 t3 t4
      go_wp2_with fail
      go_meet
      exact ⟨⟨4, [], true, .slice none 0 0, .slice none 0 0, [], []⟩, j, bad', by rw [C.out]; decide, hr3, hup1.trans hu3, own_none _ _ _ _ _, htb1.upd hu3 hnb.2, hrb1.upd hu3 hnb.1, hw3.1, hw3.2.1, fun hf => ⟨(hw3.2.2 hf).1, shape_true C.out (hw3.2.2 hf).2,
        fun _ => top_plain (by rw [C.out]; decide) (by rw [C.out]; decide) (by rw [C.out]; decide) (by rw [C.out]; decide) (shape_true C.out (hw3.2.2 hf).2)⟩⟩
    by_cases c2 : bt s i = 102
    · have d0 : (bt s i == 34) = false := by rw [beq_eq_false_iff_ne]; omega
      have d1 : (bt s i == 116) = false := by rw [beq_eq_false_iff_ne]; omega
      have d2 : (bt s i == 102) = true := by rw [beq_iff_eq]; omega
      have C := Lib.hid c2
      have hnb : w.heap.size ∉ [b] ∧ w.heap.size + 1 ∉ [b] := by simp; omega
      have hrd1 := hrd.far (p := ⟨w.heap.size + 1, 0, none⟩) hbt (.int .i64 1)
      have htb1 := htb.set_ 0 (.int .i64 1)
      have hup1 := hup.setCell (p := ⟨w.heap.size + 1, 0, none⟩) (.inr (by simp)) (.int .i64 1)
      have hrb1 := hrb.far (p := ⟨w.heap.size + 1, 0, none⟩) (by simp) (.int .i64 1)
      clear hrd htb hup hrb
      clear c0 c1 c2
      go_wp2_with fail
      refine (word_any _ b s uFalse i bad hrd1 hs hi (by decide)).mono ?_
      rintro e w3 ⟨rfl, j, bad', hr3, hu3, hw3⟩
      clear tf t0 t3 t4
      go_wp2_with fail
      go_meet
      exact ⟨⟨1, [], true, .slice none 0 0, .slice none 0 0, [], []⟩, j, bad', by rw [C.out]; decide, hr3, hup1.trans hu3, own_none _ _ _ _ _, htb1.upd hu3 hnb.2, hrb1.upd hu3 hnb.1, hw3.1, hw3.2.1, fun hf => ⟨(hw3.2.2 hf).1, shape_false C.out (hw3.2.2 hf).2,
        fun _ => top_plain (by rw [C.out]; decide) (by rw [C.out]; decide) (by rw [C.out]; decide) (by rw [C.out]; decide) (shape_false C.out (hw3.2.2 hf).2)⟩⟩
    by_cases c3 : bt s i = 110
    · have d0 : (bt s i == 34) = false := by rw [beq_eq_false_iff_ne]; omega
      have d1 : (bt s i == 116) = false := by rw [beq_eq_false_iff_ne]; omega
      have d2 : (bt s i == 102) = false := by rw [beq_eq_false_iff_ne]; omega
      have d3 : (bt s i == 110) = true := by rw [beq_iff_eq]; omega
      have C := Lib.hid c3
      have hnb : w.heap.size ∉ [b] ∧ w.heap.size + 1 ∉ [b] := by simp; omega
      have hrd1 := hrd.far (p := ⟨w.heap.size + 1, 0, none⟩) hbt (.int .i64 0)
      have htb1 := htb.set_ 0 (.int .i64 0)
      have hup1 := hup.setCell (p := ⟨w.heap.size + 1, 0, none⟩) (.inr (by simp)) (.int .i64 0)
      have hrb1 := hrb.far (p := ⟨w.heap.size + 1, 0, none⟩) (by simp) (.int .i64 0)
      clear hrd htb hup hrb
      clear c0 c1 c2 c3
      go_wp2_with fail
      refine (word_any _ b s uNull i bad hrd1 hs hi (by decide)).mono ?_
      rintro e w3 ⟨rfl, j, bad', hr3, hu3, hw3⟩
      clear tf t0 t3 t4
      go_wp2_with fail
      go_meet
      exact ⟨⟨0, [], true, .slice none 0 0, .slice none 0 0, [], []⟩, j, bad', by rw [C.out]; decide, hr3, hup1.trans hu3, own_none _ _ _ _ _, htb1.upd hu3 hnb.2, hrb1.upd hu3 hnb.1, hw3.1, hw3.2.1, fun hf => ⟨(hw3.2.2 hf).1, shape_null C.out (hw3.2.2 hf).2,
        fun _ => top_plain (by rw [C.out]; decide) (by rw [C.out]; decide) (by rw [C.out]; decide) (by rw [C.out]; decide) (shape_null C.out (hw3.2.2 hf).2)⟩⟩
    by_cases c4 : bt s i = 123
    · have d0 : (bt s i == 34) = false := by rw [beq_eq_false_iff_ne]; omega
      have d1 : (bt s i == 116) = false := by rw [beq_eq_false_iff_ne]; omega
      have d2 : (bt s i == 102) = false := by rw [beq_eq_false_iff_ne]; omega
      have d3 : (bt s i == 110) = false := by rw [beq_eq_false_iff_ne]; omega
      have d4 : (bt s i == 123) = true := by rw [beq_iff_eq]; omega
      have C := Lib.hid c4
      have hnb : w.heap.size ∉ [b] ∧ w.heap.size + 1 ∉ [b] := by simp; omega
      have hrd1 := hrd
      have htb1 := htb
      have hup1 := hup
      have hrb1 := hrb
      clear hrd htb hup hrb
      have hil : i < s.size := lt_of_bt (by omega)
      clear c0 c1 c2 c3 c4
      go_wp2_with fail
      refine (hL _ b (w.heap.size + 1) s i bad true 125 _ _ _ _ hrd1 hs hil hd hbt htb1 rfl).mono ?_
      rintro e w3 ⟨rfl, kv, iv, pairs, ks, its, j, bad', hr3, hu3, htb3, hown, hw3⟩
      have hrb3 := hrb1.upd hu3 (by simp; omega)
      clear tf t0 t3 t4
      go_wp2_with fail
      go_meet
      exact ⟨⟨5, [], pairs, kv, iv, ks, its⟩, j, bad', (show (5 : Int) = kindOf (bt s i) by rw [C.out]; decide), hr3, hup1.then hu3 (by simp), hown.base (by rw [HZ.out]; omega), htb3, hrb3, hw3.1, hw3.2.1, fun hf => ⟨(hw3.2.2 hf).1, shape_obj C.out ⟨(hw3.2.2 hf).2.1, (hw3.2.2 hf).2.2.1⟩,
        fun hp => top_obj C.out (shape_obj C.out ⟨(hw3.2.2 hf).2.1, (hw3.2.2 hf).2.2.1⟩) ((hw3.2.2 hf).2.2.2 hp)⟩⟩
    by_cases c5 : bt s i = 91
    · have d0 : (bt s i == 34) = false := by rw [beq_eq_false_iff_ne]; omega
      have d1 : (bt s i == 116) = false := by rw [beq_eq_false_iff_ne]; omega
      have d2 : (bt s i == 102) = false := by rw [beq_eq_false_iff_ne]; omega
      have d3 : (bt s i == 110) = false := by rw [beq_eq_false_iff_ne]; omega
      have d4 : (bt s i == 123) = false := by rw [beq_eq_false_iff_ne]; omega
      have d5 : (bt s i == 91) = true := by rw [beq_iff_eq]; omega
      have C := Lib.hid c5
      have hnb : w.heap.size ∉ [b] ∧ w.heap.size + 1 ∉ [b] := by simp; omega
      have hrd1 := hrd
      have htb1 := htb
      have hup1 := hup
      have hrb1 := hrb
      clear hrd htb hup hrb
      have hil : i < s.size := lt_of_bt (by omega)
      clear c0 c1 c2 c3 c4 c5
      go_wp2_with fail
      refine (hL _ b (w.heap.size + 1) s i bad false 93 _ _ _ _ hrd1 hs hil hd hbt htb1 rfl).mono ?_
      rintro e w3 ⟨rfl, kv, iv, pairs, ks, its, j, bad', hr3, hu3, htb3, hown, hw3⟩
      have hrb3 := hrb1.upd hu3 (by simp; omega)
      clear tf t0 t3 t4
      go_wp2_with fail
      go_meet
      exact ⟨⟨5, [], pairs, kv, iv, ks, its⟩, j, bad', (show (5 : Int) = kindOf (bt s i) by rw [C.out]; decide), hr3, hup1.then hu3 (by simp), hown.base (by rw [HZ.out]; omega), htb3, hrb3, hw3.1, hw3.2.1, fun hf => ⟨(hw3.2.2 hf).1, shape_arr C.out ⟨(hw3.2.2 hf).2.1, (hw3.2.2 hf).2.2.1⟩,
        fun hp => top_arr C.out (shape_arr C.out ⟨(hw3.2.2 hf).2.1, (hw3.2.2 hf).2.2.1⟩) ((hw3.2.2 hf).2.2.2 hp)⟩⟩
    have d0 : (bt s i == 34) = false := by rw [beq_eq_false_iff_ne]; omega
    have d1 : (bt s i == 116) = false := by rw [beq_eq_false_iff_ne]; omega
    have d2 : (bt s i == 102) = false := by rw [beq_eq_false_iff_ne]; omega
    have d3 : (bt s i == 110) = false := by rw [beq_eq_false_iff_ne]; omega
    have d4 : (bt s i == 123) = false := by rw [beq_eq_false_iff_ne]; omega
    have d5 : (bt s i == 91) = false := by rw [beq_eq_false_iff_ne]; omega
    have C := Lib.hid (show bt s i ≠ 34 ∧ bt s i ≠ 116 ∧ bt s i ≠ 102 ∧ bt s i ≠ 110 ∧ bt s i ≠ 123 ∧ bt s i ≠ 91 from ⟨c0, c1, c2, c3, c4, c5⟩)
    have hnb : w.heap.size ∉ [b] ∧ w.heap.size + 1 ∉ [b] := by simp; omega
    have hrd1 := hrd.far (p := ⟨w.heap.size + 1, 0, none⟩) hbt (.int .i64 2)
    have htb1 := htb.set_ 0 (.int .i64 2)
    have hup1 := hup.setCell (p := ⟨w.heap.size + 1, 0, none⟩) (.inr (by simp)) (.int .i64 2)
    have hrb1 := hrb.far (p := ⟨w.heap.size + 1, 0, none⟩) (by simp) (.int .i64 2)
    clear hrd htb hup hrb
    clear c0 c1 c2 c3 c4 c5
    go_wp2_with fail
    refine (number_any _ b s i bad hrd1 hs hi).mono ?_
    rintro e w3 ⟨rfl, j, bad', hr3, hu3, hw3⟩
    clear tf t0 t3 t4
    go_wp2_with fail
    go_meet
    obtain ⟨a1, a2, a3, a4, a5, a6⟩ := C.out
    exact ⟨⟨2, [], true, .slice none 0 0, .slice none 0 0, [], []⟩, j, bad', (kind_num a1 a2 a3 a4 a5 a6).symm, hr3, hup1.trans hu3, own_none _ _ _ _ _, htb1.upd hu3 hnb.2, hrb1.upd hu3 hnb.1, hw3.1, hw3.2.1, fun hf => ⟨(hw3.2.2 hf).1, shape_num a1 a2 a3 a4 a5 a6 (hw3.2.2 hf).2,
      fun _ => top_plain (kind_num a1 a2 a3 a4 a5 a6).symm a1 a5 a6 (shape_num a1 a2 a3 a4 a5 a6 (hw3.2.2 hf).2)⟩⟩
  case rest =>
    rename_i wc _
    obtain ⟨t, j, bad', hk, hrd, hup, hown, htb, hrb, hw⟩ := hcut
    have HK := Lib.hid hk; clear hk
    have hij := hw.1
    have hjs := hw.2.1
    obtain ⟨A1, n1, hkv⟩ := own_slice hown.1
    obtain ⟨A2, n2, hiv⟩ := own_slice hown.2.1
    obtain ⟨kind, o, pairs, kv, iv, ks, its⟩ := t
    dsimp only at hkv hiv
    subst hkv hiv
    have HW := Lib.hid hw; clear hw
    have h0 := hrd.c0
    have h1' := hrd.c1
    have h2 := hrd.c2
    have tf := htb.frozen
    have rf := hrb.frozen
    have t0 := htb.cell 0
    have t1 := htb.cell 1
    have t2 := htb.cell 2
    have t3 := htb.cell 3
    have t4 := htb.cell 4
    have t5 := htb.cell 5
    have t6 := htb.cell 6
    have r0 := hrb.cell 0
    have r1 := hrb.cell 1
    have r2 := hrb.cell 2
    have r3 := hrb.cell 3
    have r4 := hrb.cell 4
    have r5 := hrb.cell 5
    have r6 := hrb.cell 6
    simp only [TreeV.cells, List.getElem?_toArray, List.getElem?_cons_zero, List.getElem?_cons_succ] at t0 t1 t2 t3 t4 t5 t6 r0 r1 r2 r3 r4 r5 r6
    cases bad' with
    | true =>
      go_wp2_with fail
      have HB : Blk (((((((wc.setCell ⟨w.heap.size, 0, none⟩ (.int .i64 kind)).setCell ⟨w.heap.size, 1, none⟩ (.string ByteArray.empty)).setCell ⟨w.heap.size, 2, none⟩ (.int .i64 i)).setCell ⟨w.heap.size, 3, none⟩ (.string (strOfNums o))).setCell
          ⟨w.heap.size, 4, none⟩ (.bool pairs)).setCell ⟨w.heap.size, 5, none⟩ (.slice A1 ks.length n1)).setCell ⟨w.heap.size, 6, none⟩ (.slice A2 its.length n2)) w.heap.size 25
          #[.int .i64 kind, .string ByteArray.empty, .int .i64 i, .string (strOfNums o), .bool pairs, .slice A1 ks.length n1, .slice A2 its.length n2] := ((((((hrb.set_ 0 _).set_ 1 _).set_ 2 _).set_ 3 _).set_ 4 _).set_ 5 _).set_ 6 _
      refine bodyPost_ret (res_tree HB _ rfl) rfl ?_
      refine tree_end ByteArray.empty hbl HK.out hrd hup hown ?_ ⟨HW.out.1, HW.out.2.1, fun h => by cases h⟩
      exact (((((((Upd.refl [w.heap.size, w.heap.size + 1] wc).setCell (p := ⟨w.heap.size, 0, none⟩) (.inl (.head _)) _).setCell (p := ⟨w.heap.size, 1, none⟩) (.inl (.head _)) _).setCell (p := ⟨w.heap.size, 2, none⟩) (.inl (.head _)) _).setCell (p := ⟨w.heap.size, 3, none⟩) (.inl (.head _)) _).setCell (p := ⟨w.heap.size, 4, none⟩) (.inl (.head _)) _).setCell (p := ⟨w.heap.size, 5, none⟩) (.inl (.head _)) _).setCell (p := ⟨w.heap.size, 6, none⟩) (.inl (.head _)) _
    | false =>
      go_wp2_with fail
      go_region
      go_wp2_with fail
      have htr := hrb.far (p := ⟨w.heap.size + 1, 1, none⟩) (by simp) (.string (s.extract i j))
      have HB := ((((((htr.set_ 0 (.int .i64 kind)).set_ 1 (.string (s.extract i j))).set_ 2 (.int .i64 i)).set_ 3 (.string (strOfNums o))).set_ 4 (.bool pairs)).set_ 5 (.slice A1 ks.length n1)).set_ 6 (.slice A2 its.length n2)
      refine bodyPost_ret (res_tree (c0 := .int .i64 kind) (c1 := .string (s.extract i j)) (c2 := .int .i64 i) (c3 := .string (strOfNums o)) (c4 := .bool pairs) (c5 := .slice A1 ks.length n1) (c6 := .slice A2 its.length n2) (Blk.drew HB) _ rfl) rfl ?_
      refine tree_end (s.extract i j) hbl HK.out hrd hup hown ?_ ⟨HW.out.1, HW.out.2.1, fun h => ⟨(HW.out.2.2 h).1, rfl, (HW.out.2.2 h).2⟩⟩
      exact ((((((((Upd.refl [w.heap.size, w.heap.size + 1] wc).setCell (p := ⟨w.heap.size + 1, 1, none⟩) (.inl (.tail _ (.head _))) _).setCell (p := ⟨w.heap.size, 0, none⟩) (.inl (.head _)) _).setCell (p := ⟨w.heap.size, 1, none⟩) (.inl (.head _)) _).setCell (p := ⟨w.heap.size, 2, none⟩) (.inl (.head _)) _).setCell (p := ⟨w.heap.size, 3, none⟩) (.inl (.head _)) _).setCell (p := ⟨w.heap.size, 4, none⟩) (.inl (.head _)) _).setCell (p := ⟨w.heap.size, 5, none⟩) (.inl (.head _)) _).setCell (p := ⟨w.heap.size, 6, none⟩) (.inl (.head _)) _ |>.drew
end Go.Proofs.YtcnkbdbkglggcaaGreatDoor
