/-
  The program's 'parseAny' on a number behind white space. Condition: what the library's variables hold.
-/
import Derived.Test.YtcnkbdbkglggcaaGreatDoorZMJ
import Derived.Test.YtcnkbdbkglggcaaGreatDoorZMP
import Derived.RegionTactic
import Derived.Deep.CutBlock
import Derived.Deep.DeepCutAuto
set_option linter.unusedVariables false
set_option linter.unusedSimpArgs false
namespace Go.Proofs.YtcnkbdbkglggcaaGreatDoor
open Go.RowKit

theorem num_inside {v : ByteArray} {a b : Nat} (hq : NumQ v a b) : ∀ y, a + 1 ≤ y → y < b → ¬ numEnd (bt v y) := fun y h1 h2 h => by
  have := hq.2.2 y (by omega) h2
  unfold isNum isDig at this
  unfold numEnd at h
  omega
theorem num_text {v : ByteArray} {a b : Nat} (hq : NumQ v a b) (hb : b ≤ v.size) (hout : b < v.size → numEnd (bt v b)) : Nums (v.extract a b) 0 (v.extract a b).size ∧ Begin (v.extract a b) 0 := by
  have hab := hq.1
  have hz : (v.extract a b).size = b - a := by simp only [ByteArray.size_extract]; omega
  have hbt : ∀ y, a + y < b → bt (v.extract a b) y = bt v (a + y) := fun y hy => bt_extract hy hb
  refine ⟨fun y h2 h3 => ?_, ?_⟩
  · rw [hbt y (by omega)]
    exact hq.2.2 _ (by omega) (by omega)
  · unfold Begin
    rcases hq.2.1 with h | ⟨h45, hd⟩
    · exact .inl (by rw [hbt 0 (by omega)]; exact h)
    · have h2 : a + 1 < b := by
        rcases Nat.lt_or_ge (a + 1) b with h3 | h3
        · exact h3
        · have h4 : b = a + 1 := by omega
          subst h4
          exfalso
          have h5 : a + 1 < v.size := lt_of_bt (fun h => by rw [h] at hd; exact absurd hd.1 (by decide))
          have h6 := hout h5
          unfold numEnd at h6
          unfold isDig at hd
          omega
      exact .inr ⟨by rw [hbt 0 (by omega)]; exact h45, by rw [hbt _ (by omega)]; exact hd⟩
set_option maxRecDepth 100000 in
set_option maxHeartbeats 8000000 in
theorem pany_num (w : World) (B : Nat) (hg : Flt w B) (v : ByteArray) (a0 a b : Nat) (hs : v.size ≤ 2 ^ 31) (ha0 : a0 ≤ a) (hw : ∀ y, a0 ≤ y → y < a → bt v y ≤ 32) (hb : b ≤ v.size) (hq : NumQ v a b) (hout : b < v.size → numEnd (bt v b)) :
    Calls Tryz.prog 67 #[.string v, .int .i64 (a0 : Int), .bool true] w fun e w' => PAny w 2 (v.extract a b) (fun _ => True) b e w' := by
  have hab := hq.1
  have hi : a < v.size := by omega
  have PN := Lib.hid (fun w1 : World => pnum_any w1 v a b hs hab hb (num_inside hq) hout)
  have hRz : (v.extract a b).size = b - a := by simp only [ByteArray.size_extract]; omega
  obtain ⟨n1, n2⟩ := num_text hq hb hout
  have PF := Lib.hid (fun (w1 : World) (hu : Upd [] w w1) => pf_43 w1 B (hg.upd hu) (v.extract a b) (by omega) (by omega) n1 n2)
  have HW := Lib.hid hw
  have HC : Hid (bt v a = 45 ∨ isDig (bt v a)) := by
    rcases hq.2.1 with h | h
    · exact .inr h
    · exact .inl h.1
  obtain ⟨R, hR⟩ : ∃ R, R = v.extract a b := ⟨_, rfl⟩
  rw [← hR] at PN PF
  rw [← hR]
  clear hw hq hout hR hRz n1 n2 hg
  go_enter Tryz.func67, Tryz.ntmps67
  go_wp2_with fail
  have hup := ((Upd.refl [] w).alloc (.cells #[.int .i64 0, .string ⟨#[]⟩, .string ⟨#[]⟩, .float .f64 0, .int .i64 0, .slice none 0 0] 49)).alloc (.cells #[.int .i64 0, .string ⟨#[]⟩, .string ⟨#[]⟩, .float .f64 0, .int .i64 0, .slice none 0 0] 49)
  have hrb := (Blk.new w 49 #[.int .i64 0, .string ⟨#[]⟩, .string ⟨#[]⟩, .float .f64 0, .int .i64 0, .slice none 0 0]).alloc (.cells #[.int .i64 0, .string ⟨#[]⟩, .string ⟨#[]⟩, .float .f64 0, .int .i64 0, .slice none 0 0] 49)
  have htb := Blk.new (w.alloc (.cells #[.int .i64 0, .string ⟨#[]⟩, .string ⟨#[]⟩, .float .f64 0, .int .i64 0, .slice none 0 0] 49)) 49 #[.int .i64 0, .string ⟨#[]⟩, .string ⟨#[]⟩, .float .f64 0, .int .i64 0, .slice none 0 0]
  have hz : (w.alloc (.cells #[.int .i64 0, .string ⟨#[]⟩, .string ⟨#[]⟩, .float .f64 0, .int .i64 0, .slice none 0 0] 49)).heap.size = w.heap.size + 1 := by simp
  rw [hz] at htb
  clear hz
  generalize (w.alloc (.cells #[.int .i64 0, .string ⟨#[]⟩, .string ⟨#[]⟩, .float .f64 0, .int .i64 0, .slice none 0 0] 49)).alloc (.cells #[.int .i64 0, .string ⟨#[]⟩, .string ⟨#[]⟩, .float .f64 0, .int .i64 0, .slice none 0 0] 49) = W at *
  go_loopg [1] (a - a0) (fun g x1 wr => ∃ k : Nat, a0 ≤ k ∧ k ≤ a ∧ x1 = .int .i64 k ∧ wr = W ∧ Hid (g = a - k))
  case atStart => exact ⟨a0, by omega, ha0, rfl, rfl, rfl⟩
  case round =>
    obtain ⟨k, hk0, hk, rfl, rfl, hh⟩ := hrel
    by_cases hlt : k < a
    · have hks : k < v.size := by omega
      have hb : v[k].toNat ≤ 32 := by
        have h1 := HW.out k (by omega) hlt
        have h2 := bt_lt hks
        omega
      clear hrb htb hup
      have d1 : ((v[k].toNat : Int) == 123) = false := beq_eq_false_iff_ne.2 (by omega)
      have d2 : ((v[k].toNat : Int) == 91) = false := beq_eq_false_iff_ne.2 (by omega)
      go_wp2_with fail
      go_roundg (a - (k + 1))
      case measure => have := hh.out; omega
      case rel => exact ⟨k + 1, by omega, by omega, by go_num, rfl, rfl⟩
    · have hE : k = a := by omega
      subst hE
      clear hlt
      have tf := htb.frozen
      have t0 := htb.cell 0
      have t1 := htb.cell 1
      have t2 := htb.cell 2
      have t3 := htb.cell 3
      have t4 := htb.cell 4
      have t5 := htb.cell 5
      simp only [List.getElem?_toArray, List.getElem?_cons_zero, List.getElem?_cons_succ] at t0 t1 t2 t3 t4 t5
      have rsf := run_store_float64 (P := Tryz.prog)
      have hb2 : (v[k].toNat : Int) = 45 ∨ (48 ≤ (v[k].toNat : Int) ∧ (v[k].toNat : Int) ≤ 57) := by
        have h1 := HC.out
        have h2 := bt_lt hi
        unfold isDig at h1
        omega
      have d1 : ((v[k].toNat : Int) == 123) = false := beq_eq_false_iff_ne.2 (by omega)
      have d2 : ((v[k].toNat : Int) == 91) = false := beq_eq_false_iff_ne.2 (by omega)
      have d34 : ((v[k].toNat : Int) == 34) = false := beq_eq_false_iff_ne.2 (by omega)
      have d110 : ((v[k].toNat : Int) == 110) = false := beq_eq_false_iff_ne.2 (by omega)
      have d116 : ((v[k].toNat : Int) == 116) = false := beq_eq_false_iff_ne.2 (by omega)
      have d102 : ((v[k].toNat : Int) == 102) = false := beq_eq_false_iff_ne.2 (by omega)
      have d43 : ((v[k].toNat : Int) == 43) = false := beq_eq_false_iff_ne.2 (by omega)
      have e32 : decide ((v[k].toNat : Int) ≤ 32) = false := decide_eq_false (by omega)
      have e32' : decide (v[k].toNat ≤ 32) = false := decide_eq_false (by omega)
      have HBB := Lib.hid hb2
      clear hb2
      go_upto_if 67 with fail
      go_cut [67] (fun x67 wx => x67 = .bool true ∧ wx = wr)
      case first =>
        clear tf t0 t1 t2 t3 t4 t5
        by_cases c45 : (v[k].toNat : Int) = 45
        · have d45 : ((v[k].toNat : Int) == 45) = true := beq_iff_eq.2 c45
          go_wp2_with fail
          go_meet
          exact ⟨rfl, rfl⟩
        · have d45 : ((v[k].toNat : Int) == 45) = false := beq_eq_false_iff_ne.2 c45
          by_cases c48 : (v[k].toNat : Int) = 48
          · have d48 : ((v[k].toNat : Int) == 48) = true := beq_iff_eq.2 c48
            go_wp2_with fail
            go_meet
            exact ⟨rfl, rfl⟩
          · have d48 : ((v[k].toNat : Int) == 48) = false := beq_eq_false_iff_ne.2 c48
            by_cases c49 : (v[k].toNat : Int) = 49
            · have d49 : ((v[k].toNat : Int) == 49) = true := beq_iff_eq.2 c49
              go_wp2_with fail
              go_meet
              exact ⟨rfl, rfl⟩
            · have d49 : ((v[k].toNat : Int) == 49) = false := beq_eq_false_iff_ne.2 c49
              by_cases c50 : (v[k].toNat : Int) = 50
              · have d50 : ((v[k].toNat : Int) == 50) = true := beq_iff_eq.2 c50
                go_wp2_with fail
                go_meet
                exact ⟨rfl, rfl⟩
              · have d50 : ((v[k].toNat : Int) == 50) = false := beq_eq_false_iff_ne.2 c50
                by_cases c51 : (v[k].toNat : Int) = 51
                · have d51 : ((v[k].toNat : Int) == 51) = true := beq_iff_eq.2 c51
                  go_wp2_with fail
                  go_meet
                  exact ⟨rfl, rfl⟩
                · have d51 : ((v[k].toNat : Int) == 51) = false := beq_eq_false_iff_ne.2 c51
                  by_cases c52 : (v[k].toNat : Int) = 52
                  · have d52 : ((v[k].toNat : Int) == 52) = true := beq_iff_eq.2 c52
                    go_wp2_with fail
                    go_meet
                    exact ⟨rfl, rfl⟩
                  · have d52 : ((v[k].toNat : Int) == 52) = false := beq_eq_false_iff_ne.2 c52
                    by_cases c53 : (v[k].toNat : Int) = 53
                    · have d53 : ((v[k].toNat : Int) == 53) = true := beq_iff_eq.2 c53
                      go_wp2_with fail
                      go_meet
                      exact ⟨rfl, rfl⟩
                    · have d53 : ((v[k].toNat : Int) == 53) = false := beq_eq_false_iff_ne.2 c53
                      by_cases c54 : (v[k].toNat : Int) = 54
                      · have d54 : ((v[k].toNat : Int) == 54) = true := beq_iff_eq.2 c54
                        go_wp2_with fail
                        go_meet
                        exact ⟨rfl, rfl⟩
                      · have d54 : ((v[k].toNat : Int) == 54) = false := beq_eq_false_iff_ne.2 c54
                        by_cases c55 : (v[k].toNat : Int) = 55
                        · have d55 : ((v[k].toNat : Int) == 55) = true := beq_iff_eq.2 c55
                          go_wp2_with fail
                          go_meet
                          exact ⟨rfl, rfl⟩
                        · have d55 : ((v[k].toNat : Int) == 55) = false := beq_eq_false_iff_ne.2 c55
                          by_cases c56 : (v[k].toNat : Int) = 56
                          · have d56 : ((v[k].toNat : Int) == 56) = true := beq_iff_eq.2 c56
                            go_wp2_with fail
                            go_meet
                            exact ⟨rfl, rfl⟩
                          · have d56 : ((v[k].toNat : Int) == 56) = false := beq_eq_false_iff_ne.2 c56
                            have d57 : ((v[k].toNat : Int) == 57) = true := beq_iff_eq.2 (by have := HBB.out; omega)
                            go_wp2_with fail
                            go_meet
                            exact ⟨rfl, rfl⟩
      case rest =>
        obtain ⟨rfl, rfl⟩ := hcut
        go_upto_region 66 with (go_at_call 88; refine (PN.out _).mono ?_; rintro e w1 ⟨rfl, hu1⟩; have htb1 := htb.upd hu1 (by simp); have hrb1 := hrb.upd hu1 (by simp); have hup1 := hup.trans hu1; clear tf t0 t1 t2 t3 t4 t5; have tf := htb1.frozen; have t0 := htb1.cell 0; have t1 := htb1.cell 1; have t2 := htb1.cell 2; have t3 := htb1.cell 3; have t4 := htb1.cell 4; have t5 := htb1.cell 5; simp only [Array.setIfInBounds_def, List.getElem?_toArray, List.getElem?_cons_zero, List.getElem?_cons_succ] at t0 t1 t2 t3 t4 t5; try simp at t0 t1 t2 t3 t4 t5)
        have hup2 := (hup1.setCell (p := ⟨w.heap.size + 1, 1, none⟩) (.inr (Nat.le_succ _)) (.string R)).setCell (p := ⟨w.heap.size + 1, 0, none⟩) (.inr (Nat.le_succ _)) (.int .i64 2)
        go_upto_region 67 with (go_at_call 43; refine (PF.out _ hup2).mono ?_; rintro e w2 ⟨⟨x, ev, rfl⟩, hu2⟩; have htb2 := ((htb1.set_ 1 (.string R)).set_ 0 (.int .i64 2)).upd hu2 (by simp); have hrb2 := ((hrb1.far (p := ⟨w.heap.size + 1, 1, none⟩) (by simp) (.string R)).far (p := ⟨w.heap.size + 1, 0, none⟩) (by simp) (.int .i64 2)).upd hu2 (by simp); have hup3 := hup2.trans hu2; clear tf t0 t1 t2 t3 t4 t5; have tf := htb2.frozen; have t0 := htb2.cell 0; have t1 := htb2.cell 1; have t2 := htb2.cell 2; have t3 := htb2.cell 3; have t4 := htb2.cell 4; have t5 := htb2.cell 5; simp only [Array.setIfInBounds_def, List.getElem?_toArray, List.getElem?_cons_zero, List.getElem?_cons_succ] at t0 t1 t2 t3 t4 t5; try simp at t0 t1 t2 t3 t4 t5)
        clear tf t0 t1 t2 t3 t4 t5
        have htb6 : Blk (w2.setCell ⟨w.heap.size + 1, 3, none⟩ (.float .f64 x)) (w.heap.size + 1) 49 #[.int .i64 2, .string R, .string ⟨#[]⟩, .float .f64 x, .int .i64 0, .slice none 0 0] := (htb2.set_ 3 _)
        have hrb6 := (hrb2.far (p := ⟨w.heap.size + 1, 3, none⟩) (by simp) (.float .f64 x))
        have hup6 := (hup3.setCell (p := ⟨w.heap.size + 1, 3, none⟩) (.inr (Nat.le_succ _)) (.float .f64 x))
        obtain ⟨W6, hW6⟩ : ∃ X0 : World, X0 = (w2.setCell ⟨w.heap.size + 1, 3, none⟩ (.float .f64 x)) := ⟨_, rfl⟩
        rw [← hW6] at htb6 hrb6 hup6
        rw [← hW6]
        clear hW6 htb htb1 htb2 hrb hrb1 hrb2 hup hup1 hup2 hup3 hu1 hu2
        have tf := htb6.frozen
        have t0 := htb6.cell 0
        have t1 := htb6.cell 1
        have t2 := htb6.cell 2
        have t3 := htb6.cell 3
        have t4 := htb6.cell 4
        have t5 := htb6.cell 5
        have qf := hrb6.frozen
        have r0 := hrb6.cell 0
        have r1 := hrb6.cell 1
        have r2 := hrb6.cell 2
        have r3 := hrb6.cell 3
        have r4 := hrb6.cell 4
        have r5 := hrb6.cell 5
        simp only [List.getElem?_toArray, List.getElem?_cons_zero, List.getElem?_cons_succ] at t0 t1 t2 t3 t4 t5 r0 r1 r2 r3 r4 r5
        go_region
        go_wp2_with fail
        have HB := Blk.drew ((((((hrb6.set_ 0 (.int .i64 2)).set_ 1 (.string R)).set_ 2 (.string ⟨#[]⟩)).set_ 3 (.float .f64 x)).set_ 4 (.int .i64 0)).set_ 5 (.slice none 0 0))
        exact bodyPost_ret (res_pany HB _ rfl rfl rfl) rfl ⟨⟨_, _, _, rfl, trivial⟩, pany_end hup6⟩
end Go.Proofs.YtcnkbdbkglggcaaGreatDoor
