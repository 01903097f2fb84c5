/-
  The program's 'Parse' on a number. Condition: the text has at most 2^31 bytes; what 'tonum' returns.
-/
import Derived.Test.YtcnkbdbkglggcaaGreatDoorZMI
import Derived.Deep.CutBlock
import Derived.Deep.DeepCutAuto
set_option linter.unusedVariables false
set_option linter.unusedSimpArgs false
namespace Go.Proofs.YtcnkbdbkglggcaaGreatDoor
open Go.RowKit

set_option maxRecDepth 100000 in
set_option maxHeartbeats 4000000 in
theorem parse_numq (w : World) (s : ByteArray) (i : Nat) (_hs : s.size ≤ 2 ^ 31) (hws : Ws s 0 i) (hc : bt s i = 45 ∨ isDig (bt s i)) (raw : ByteArray)
    (ht : ∀ w0, Upd [] w w0 → Calls Tryz.prog 34 #[.string (s.extract i s.size)] w0 fun e w' => (∃ x : Nat, e = .returned (.tuple #[.string raw, .float .f64 x])) ∧ Upd [] w0 w') :
    Calls Tryz.prog 20 #[.string s] w fun e w' => (∃ x : Nat, e = .returned (.agg (resCells 2 raw ⟨#[]⟩ x i))) ∧ Upd [] w w' := by
  have hi : i < s.size := lt_of_bt (by unfold isDig at hc; omega)
  have HW := Lib.hid hws.2.2.1
  have HC := Lib.hid hc
  have HT := Lib.hid ht
  clear hws hc ht
  go_enter Tryz.func20, Tryz.ntmps20
  go_wp2_with fail
  have hup := ((Upd.refl [] w).alloc (.cells #[.int .i64 0, .string ⟨#[]⟩, .string ⟨#[]⟩, .float .f64 0, .int .i64 0, .slice none 0 0] 49)).alloc (.cells #[.int .i64 0, .string ⟨#[]⟩, .string ⟨#[]⟩, .float .f64 0, .int .i64 0, .slice none 0 0] 49)
  have hrb := (Blk.new w 49 #[.int .i64 0, .string ⟨#[]⟩, .string ⟨#[]⟩, .float .f64 0, .int .i64 0, .slice none 0 0]).alloc (.cells #[.int .i64 0, .string ⟨#[]⟩, .string ⟨#[]⟩, .float .f64 0, .int .i64 0, .slice none 0 0] 49)
  have htb := Blk.new (w.alloc (.cells #[.int .i64 0, .string ⟨#[]⟩, .string ⟨#[]⟩, .float .f64 0, .int .i64 0, .slice none 0 0] 49)) 49 #[.int .i64 0, .string ⟨#[]⟩, .string ⟨#[]⟩, .float .f64 0, .int .i64 0, .slice none 0 0]
  have hz : (w.alloc (.cells #[.int .i64 0, .string ⟨#[]⟩, .string ⟨#[]⟩, .float .f64 0, .int .i64 0, .slice none 0 0] 49)).heap.size = w.heap.size + 1 := by simp
  rw [hz] at htb
  clear hz
  generalize (w.alloc (.cells #[.int .i64 0, .string ⟨#[]⟩, .string ⟨#[]⟩, .float .f64 0, .int .i64 0, .slice none 0 0] 49)).alloc (.cells #[.int .i64 0, .string ⟨#[]⟩, .string ⟨#[]⟩, .float .f64 0, .int .i64 0, .slice none 0 0] 49) = W at *
  go_loopg [4] i (fun g v wr => ∃ k : Nat, k ≤ i ∧ v = .int .i64 k ∧ wr = W ∧ Hid (g = i - k))
  case atStart => exact ⟨0, by omega, rfl, rfl, rfl⟩
  case round =>
    obtain ⟨k, hk, rfl, rfl, hh⟩ := hrel
    by_cases hlt : k < i
    · have hks : k < s.size := by omega
      have hb : s[k].toNat ≤ 32 := by
        have h1 := HW.out k (by omega) hlt
        have h2 := bt_lt hks
        unfold isWs at h1
        omega
      clear hrb htb hup
      have d1 : ((s[k].toNat : Int) == 123) = false := beq_eq_false_iff_ne.2 (by omega)
      have d2 : ((s[k].toNat : Int) == 91) = false := beq_eq_false_iff_ne.2 (by omega)
      go_wp2_with fail
      go_roundg (i - (k + 1))
      case measure => have := hh.out; omega
      case rel => exact ⟨k + 1, by omega, by go_num, rfl, rfl⟩
    · have hE : k = i := by omega
      subst hE
      have hb : (s[k].toNat : Int) = 45 ∨ (48 ≤ (s[k].toNat : Int) ∧ (s[k].toNat : Int) ≤ 57) := by
        have h1 := HC.out
        have h2 := bt_lt hi
        unfold isDig at h1
        omega
      have d123 : ((s[k].toNat : Int) == 123) = false := beq_eq_false_iff_ne.2 (by omega)
      have d91 : ((s[k].toNat : Int) == 91) = false := beq_eq_false_iff_ne.2 (by omega)
      have d43 : ((s[k].toNat : Int) == 43) = false := beq_eq_false_iff_ne.2 (by omega)
      have e3 : decide ((s[k].toNat : Int) ≤ 32) = false := decide_eq_false (by omega)
      have HBB := Lib.hid hb
      clear hb
      have tf := htb.frozen
      have t0 := htb.cell 0
      have t1 := htb.cell 1
      have t2 := htb.cell 2
      have t3 := htb.cell 3
      have t4 := htb.cell 4
      have t5 := htb.cell 5
      simp only [List.getElem?_toArray, List.getElem?_cons_zero, List.getElem?_cons_succ] at t0 t1 t2 t3 t4 t5
      go_upto_if 34 with fail
      go_cut [34] (fun x34 wx => x34 = .bool true ∧ wx = wr)
      case first =>
        clear tf t0 t1 t2 t3 t4 t5
        by_cases c45 : (s[k].toNat : Int) = 45
        · have d45 : ((s[k].toNat : Int) == 45) = true := beq_iff_eq.2 c45
          go_wp2_with fail
          go_meet
          exact ⟨rfl, rfl⟩
        · have d45 : ((s[k].toNat : Int) == 45) = false := beq_eq_false_iff_ne.2 c45
          by_cases c48 : (s[k].toNat : Int) = 48
          · have d48 : ((s[k].toNat : Int) == 48) = true := beq_iff_eq.2 c48
            go_wp2_with fail
            go_meet
            exact ⟨rfl, rfl⟩
          · have d48 : ((s[k].toNat : Int) == 48) = false := beq_eq_false_iff_ne.2 c48
            by_cases c49 : (s[k].toNat : Int) = 49
            · have d49 : ((s[k].toNat : Int) == 49) = true := beq_iff_eq.2 c49
              go_wp2_with fail
              go_meet
              exact ⟨rfl, rfl⟩
            · have d49 : ((s[k].toNat : Int) == 49) = false := beq_eq_false_iff_ne.2 c49
              by_cases c50 : (s[k].toNat : Int) = 50
              · have d50 : ((s[k].toNat : Int) == 50) = true := beq_iff_eq.2 c50
                go_wp2_with fail
                go_meet
                exact ⟨rfl, rfl⟩
              · have d50 : ((s[k].toNat : Int) == 50) = false := beq_eq_false_iff_ne.2 c50
                by_cases c51 : (s[k].toNat : Int) = 51
                · have d51 : ((s[k].toNat : Int) == 51) = true := beq_iff_eq.2 c51
                  go_wp2_with fail
                  go_meet
                  exact ⟨rfl, rfl⟩
                · have d51 : ((s[k].toNat : Int) == 51) = false := beq_eq_false_iff_ne.2 c51
                  by_cases c52 : (s[k].toNat : Int) = 52
                  · have d52 : ((s[k].toNat : Int) == 52) = true := beq_iff_eq.2 c52
                    go_wp2_with fail
                    go_meet
                    exact ⟨rfl, rfl⟩
                  · have d52 : ((s[k].toNat : Int) == 52) = false := beq_eq_false_iff_ne.2 c52
                    by_cases c53 : (s[k].toNat : Int) = 53
                    · have d53 : ((s[k].toNat : Int) == 53) = true := beq_iff_eq.2 c53
                      go_wp2_with fail
                      go_meet
                      exact ⟨rfl, rfl⟩
                    · have d53 : ((s[k].toNat : Int) == 53) = false := beq_eq_false_iff_ne.2 c53
                      by_cases c54 : (s[k].toNat : Int) = 54
                      · have d54 : ((s[k].toNat : Int) == 54) = true := beq_iff_eq.2 c54
                        go_wp2_with fail
                        go_meet
                        exact ⟨rfl, rfl⟩
                      · have d54 : ((s[k].toNat : Int) == 54) = false := beq_eq_false_iff_ne.2 c54
                        by_cases c55 : (s[k].toNat : Int) = 55
                        · have d55 : ((s[k].toNat : Int) == 55) = true := beq_iff_eq.2 c55
                          go_wp2_with fail
                          go_meet
                          exact ⟨rfl, rfl⟩
                        · have d55 : ((s[k].toNat : Int) == 55) = false := beq_eq_false_iff_ne.2 c55
                          by_cases c56 : (s[k].toNat : Int) = 56
                          · have d56 : ((s[k].toNat : Int) == 56) = true := beq_iff_eq.2 c56
                            go_wp2_with fail
                            go_meet
                            exact ⟨rfl, rfl⟩
                          · have d56 : ((s[k].toNat : Int) == 56) = false := beq_eq_false_iff_ne.2 c56
                            have d57 : ((s[k].toNat : Int) == 57) = true := beq_iff_eq.2 (by have := HBB.out; omega)
                            go_wp2_with fail
                            go_meet
                            exact ⟨rfl, rfl⟩
      case rest =>
      obtain ⟨rfl, rfl⟩ := hcut
      have hup0 := hup.setCell (p := ⟨w.heap.size + 1, 0, none⟩) (.inr (Nat.le_succ _)) (.int .i64 2)
      have rsf := run_store_float64 (P := Tryz.prog)
      go_wp2_with (go_at_call 34; refine (HT.out _ hup0).mono ?_; rintro e w1 ⟨⟨x, rfl⟩, hu1⟩; have htb1 := (htb.set_ 0 (.int .i64 2)).upd hu1 (by simp); have hrb1 := (hrb.far (p := ⟨w.heap.size + 1, 0, none⟩) (by simp) (.int .i64 2)).upd hu1 (by simp); have hup1 := hup0.trans hu1; clear tf t0 t1 t2 t3 t4 t5; have tf := htb1.frozen; have t0 := htb1.cell 0; have t1 := htb1.cell 1; have t2 := htb1.cell 2; have t3 := htb1.cell 3; have t4 := htb1.cell 4; have t5 := htb1.cell 5; simp only [Array.setIfInBounds_def, List.getElem?_toArray, List.getElem?_cons_zero, List.getElem?_cons_succ] at t0 t1 t2 t3 t4 t5; simp at t0 t1 t2 t3 t4 t5)
      clear tf t0 t1 t2 t3 t4 t5
      refine (exists_yes _ 2 raw ⟨#[]⟩ x 0 (.inl (by decide))).mono ?_
      rintro e w5 ⟨rfl, rfl⟩
      have htb5 : Blk (((w1.setCell ⟨w.heap.size + 1, 1, none⟩ (.string raw)).setCell ⟨w.heap.size + 1, 3, none⟩ (.float .f64 x)).alloc (.cells (resCells 2 raw ⟨#[]⟩ x 0) 49)) (w.heap.size + 1) 49 #[.int .i64 2, .string raw, .string ⟨#[]⟩, .float .f64 x, .int .i64 0, .slice none 0 0] := ((htb1.set_ 1 _).set_ 3 _).alloc _
      have hrb5 := ((hrb1.far (p := ⟨w.heap.size + 1, 1, none⟩) (by simp) (.string raw)).far (p := ⟨w.heap.size + 1, 3, none⟩) (by simp) (.float .f64 x)).alloc (.cells (resCells 2 raw ⟨#[]⟩ x 0) 49)
      have hup5 := ((hup1.setCell (p := ⟨w.heap.size + 1, 1, none⟩) (.inr (Nat.le_succ _)) (.string raw)).setCell (p := ⟨w.heap.size + 1, 3, none⟩) (.inr (Nat.le_succ _)) (.float .f64 x)).alloc (.cells (resCells 2 raw ⟨#[]⟩ x 0) 49)
      generalize ((w1.setCell ⟨w.heap.size + 1, 1, none⟩ (.string raw)).setCell ⟨w.heap.size + 1, 3, none⟩ (.float .f64 x)).alloc (.cells (resCells 2 raw ⟨#[]⟩ x 0) 49) = W5 at *
      clear htb hrb hup htb1 hrb1 hup1 hu1 hup0
      have htb6 : Blk (W5.setCell ⟨w.heap.size + 1, 4, none⟩ (.int .i64 k)) (w.heap.size + 1) 49 #[.int .i64 2, .string raw, .string ⟨#[]⟩, .float .f64 x, .int .i64 k, .slice none 0 0] := htb5.set_ 4 _
      have hrb6 := hrb5.far (p := ⟨w.heap.size + 1, 4, none⟩) (by simp) (.int .i64 k)
      have hup6 := hup5.setCell (p := ⟨w.heap.size + 1, 4, none⟩) (.inr (Nat.le_succ _)) (.int .i64 k)
      have tf := htb5.frozen
      have t4 := htb5.cell 4
      simp only [List.getElem?_toArray, List.getElem?_cons_zero, List.getElem?_cons_succ] at t4
      go_upto_region 45 with fail
      clear tf t4
      generalize W5.setCell ⟨w.heap.size + 1, 4, none⟩ (.int .i64 k) = W6 at *
      clear htb5 hrb5 hup5
      have tf := htb6.frozen
      have t0 := htb6.cell 0
      have t1 := htb6.cell 1
      have t2 := htb6.cell 2
      have t3 := htb6.cell 3
      have t4 := htb6.cell 4
      have t5 := htb6.cell 5
      have rf := hrb6.frozen
      have r0 := hrb6.cell 0
      have r1 := hrb6.cell 1
      have r2 := hrb6.cell 2
      have r3 := hrb6.cell 3
      have r4 := hrb6.cell 4
      have r5 := hrb6.cell 5
      simp only [List.getElem?_toArray, List.getElem?_cons_zero, List.getElem?_cons_succ] at t0 t1 t2 t3 t4 t5 r0 r1 r2 r3 r4 r5
      have rsf := run_store_float64 (P := Tryz.prog)
      go_wp2_with fail
      have HB := (((((hrb6.set_ 0 (.int .i64 2)).set_ 1 (.string raw)).set_ 2 (.string ⟨#[]⟩)).set_ 3 (.float .f64 x)).set_ 4 (.int .i64 k)).set_ 5 (.slice none 0 0)
      refine bodyPost_ret (res_parse (c0 := .int .i64 2) (c1 := .string raw) (c2 := .string ⟨#[]⟩) (c3 := .float .f64 x) (c4 := .int .i64 k) (c5 := .slice none 0 0) HB _ rfl) rfl ?_
      exact ⟨⟨x, rfl⟩, parse_end hup6⟩
end Go.Proofs.YtcnkbdbkglggcaaGreatDoor
