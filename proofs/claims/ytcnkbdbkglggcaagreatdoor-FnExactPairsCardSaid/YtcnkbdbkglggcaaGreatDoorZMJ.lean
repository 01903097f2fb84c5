/-
  The program's 'parseAny' on an object or an array behind white space. Condition: what the table of classes of bytes holds.
  The program's 'parseAny' on a string behind white space. Condition: the text has at most 65536 bytes.
-/
import Derived.Test.YtcnkbdbkglggcaaGreatDoorYGwD
import Derived.Test.YtcnkbdbkglggcaaGreatDoorZMA
import Derived.Test.YtcnkbdbkglggcaaGreatDoorZMF
import Derived.Test.YtcnkbdbkglggcaaGreatDoorZME
import Derived.RegionTactic
import Derived.Deep.CutBlock
import Derived.Deep.DeepCutAuto
set_option linter.unusedVariables false
set_option linter.unusedSimpArgs false
namespace Go.Proofs.YtcnkbdbkglggcaaGreatDoor
open Go.RowKit

theorem res_pany {W : World} {rb : Nat} {i c0 c1 c2 c3 c4 c5 b : Value} (h : Blk W rb 49 #[c0, c1, c2, c3, c4, c5]) (tmps : Array Value) (h6 : tmps.getD 6 undef = i) (h7 : tmps.getD 7 undef = .pointer (some ⟨rb, 0, none⟩)) (h8 : tmps.getD 8 undef = b) :
    (results Tryz.f67 tmps).run Tryz.prog W = .ok (.tuple #[i, .agg #[c0, c1, c2, c3, c4, c5], b]) W := by
  have r0 := h.cell 0
  have r1 := h.cell 1
  have r2 := h.cell 2
  have r3 := h.cell 3
  have r4 := h.cell 4
  have r5 := h.cell 5
  simp only [List.getElem?_toArray, List.getElem?_cons_zero, List.getElem?_cons_succ] at r0 r1 r2 r3 r4 r5
  have g6 : tmps[6]?.getD undef = i := by simpa using h6
  have g7 : tmps[7]?.getD undef = .pointer (some ⟨rb, 0, none⟩) := by simpa using h7
  have g8 : tmps[8]?.getD undef = b := by simpa using h8
  simp [results, Tryz.results67, go_sem, g6, g7, g8, r0, r1, r2, r3, r4, r5]
theorem pany_end {w W : World} {v0 v1 v2 v3 v4 v5 : Value} (hup : Upd [] w W) : Upd [] w (((((((W.setCell ⟨w.heap.size, 0, none⟩ v0).setCell ⟨w.heap.size, 1, none⟩ v1).setCell ⟨w.heap.size, 2, none⟩ v2).setCell ⟨w.heap.size, 3, none⟩ v3).setCell ⟨w.heap.size, 4, none⟩ v4).setCell ⟨w.heap.size, 5, none⟩ v5).drew) :=
  ((((((hup.setCell (p := ⟨w.heap.size, 0, none⟩) (.inr (Nat.le_refl _)) v0).setCell (p := ⟨w.heap.size, 1, none⟩) (.inr (Nat.le_refl _)) v1).setCell (p := ⟨w.heap.size, 2, none⟩) (.inr (Nat.le_refl _)) v2).setCell (p := ⟨w.heap.size, 3, none⟩) (.inr (Nat.le_refl _)) v3).setCell (p := ⟨w.heap.size, 4, none⟩) (.inr (Nat.le_refl _)) v4).setCell (p := ⟨w.heap.size, 5, none⟩) (.inr (Nat.le_refl _)) v5).drew
/-- What 'parseAny' returns: the place behind the value, its kind and text, for a string what it is. -/
def PAny (w : World) (k : Int) (raw : ByteArray) (P : ByteArray → Prop) (b : Nat) (e : Ending) (w' : World) : Prop :=
  (∃ (str : ByteArray) (x : Nat) (idx : Int), e = .returned (.tuple #[.int .i64 b, .agg (resCells k raw str x idx), .bool true]) ∧ P str) ∧ Upd [] w w'
set_option maxRecDepth 100000 in
set_option maxHeartbeats 8000000 in
theorem pany_json (w : World) (v : ByteArray) (a0 a q : Nat) (hs : v.size ≤ 2 ^ 31) (ha0 : a0 ≤ a) (hw : ∀ y, a0 ≤ y → y < a → bt v y ≤ 32) (hc : bt v a = 123 ∨ bt v a = 91) (hq : Sq v q (a + 1) 1)
    (hV : ∀ w1, Upd [] w w1 → ∀ x : Int, 0 ≤ x → x < 256 → w1.cell? ⟨4, x.toNat, none⟩ = some (.int .u8 (vcls x))) :
    Calls Tryz.prog 67 #[.string v, .int .i64 (a0 : Int), .bool true] w fun e w' => PAny w 5 (v.extract a (q + 1)) (fun _ => True) (q + 1) e w' := by
  have hq1 := hq.facts.1
  have hq2 := hq.facts.2.2
  have hi : a < v.size := by omega
  have HW := Lib.hid hw
  have HC := Lib.hid hc
  have HQ := Lib.hid hq
  have HV := Lib.hid hV
  have hRz : (v.extract a (q + 1)).size = q + 1 - a := by simp only [ByteArray.size_extract]; omega
  obtain ⟨R, hR⟩ : ∃ R, R = v.extract a (q + 1) := ⟨_, rfl⟩
  have HR := Lib.hid hR
  have PS := Lib.hid (fun (w1 : World) (hu : Upd [] w w1) => psquash_any w1 v a q hs HQ.out (HV.out w1 hu))
  rw [← hR] at PS hRz
  rw [← hR]
  clear hw hc hq hV hR
  go_enter Tryz.func67, Tryz.ntmps67
  go_wp2_with fail
  have hup := ((Upd.refl [] w).alloc (.cells #[.int .i64 0, .string ⟨#[]⟩, .string ⟨#[]⟩, .float .f64 0, .int .i64 0, .slice none 0 0] 49)).alloc (.cells #[.int .i64 0, .string ⟨#[]⟩, .string ⟨#[]⟩, .float .f64 0, .int .i64 0, .slice none 0 0] 49)
  have hrb := (Blk.new w 49 #[.int .i64 0, .string ⟨#[]⟩, .string ⟨#[]⟩, .float .f64 0, .int .i64 0, .slice none 0 0]).alloc (.cells #[.int .i64 0, .string ⟨#[]⟩, .string ⟨#[]⟩, .float .f64 0, .int .i64 0, .slice none 0 0] 49)
  have htb := Blk.new (w.alloc (.cells #[.int .i64 0, .string ⟨#[]⟩, .string ⟨#[]⟩, .float .f64 0, .int .i64 0, .slice none 0 0] 49)) 49 #[.int .i64 0, .string ⟨#[]⟩, .string ⟨#[]⟩, .float .f64 0, .int .i64 0, .slice none 0 0]
  have hz : (w.alloc (.cells #[.int .i64 0, .string ⟨#[]⟩, .string ⟨#[]⟩, .float .f64 0, .int .i64 0, .slice none 0 0] 49)).heap.size = w.heap.size + 1 := by simp
  rw [hz] at htb
  clear hz
  generalize (w.alloc (.cells #[.int .i64 0, .string ⟨#[]⟩, .string ⟨#[]⟩, .float .f64 0, .int .i64 0, .slice none 0 0] 49)).alloc (.cells #[.int .i64 0, .string ⟨#[]⟩, .string ⟨#[]⟩, .float .f64 0, .int .i64 0, .slice none 0 0] 49) = W at *
  go_loopg [1] (a - a0) (fun g x1 wr => ∃ k : Nat, a0 ≤ k ∧ k ≤ a ∧ x1 = .int .i64 k ∧ wr = W ∧ Hid (g = a - k))
  case atStart => exact ⟨a0, by omega, ha0, rfl, rfl, rfl⟩
  case round =>
    obtain ⟨k, hk0, hk, rfl, rfl, hh⟩ := hrel
    by_cases hlt : k < a
    · have hks : k < v.size := by omega
      have hb : v[k].toNat ≤ 32 := by
        have h1 := HW.out k (by omega) hlt
        have h2 := bt_lt hks
        omega
      clear hrb htb hup
      have d1 : ((v[k].toNat : Int) == 123) = false := beq_eq_false_iff_ne.2 (by omega)
      have d2 : ((v[k].toNat : Int) == 91) = false := beq_eq_false_iff_ne.2 (by omega)
      go_wp2_with fail
      go_roundg (a - (k + 1))
      case measure => have := hh.out; omega
      case rel => exact ⟨k + 1, by omega, by omega, by go_num, rfl, rfl⟩
    · have hE : k = a := by omega
      subst hE
      clear hlt
      have tf := htb.frozen
      have t0 := htb.cell 0
      have t1 := htb.cell 1
      have t2 := htb.cell 2
      have t3 := htb.cell 3
      have t4 := htb.cell 4
      have t5 := htb.cell 5
      simp only [List.getElem?_toArray, List.getElem?_cons_zero, List.getElem?_cons_succ] at t0 t1 t2 t3 t4 t5
      have rsf := run_store_float64 (P := Tryz.prog)
      have hb : (v[k].toNat : Int) = 123 ∨ (v[k].toNat : Int) = 91 := by
        have h1 := HC.out
        have h2 := bt_lt hi
        omega
      have wI : IntKind.i64.wrap ((q : Int) + 1 - (R.size : Int)) = (k : Int) := by rw [show (q : Int) + 1 - (R.size : Int) = k by omega]; exact IntWalk.i64_in _ (by omega)
      have wI' : IntKind.i64.wrap (((q + 1 : Nat) : Int) - (R.size : Int)) = (k : Int) := by rw [show ((q + 1 : Nat) : Int) - (R.size : Int) = k by omega]; exact IntWalk.i64_in _ (by omega)
      have e1 : decide (0 < (R.size : Int)) = true := decide_eq_true (by omega)
      have e1' : decide (0 < R.size) = true := decide_eq_true (by omega)
      clear hRz
      by_cases h123 : (v[k].toNat : Int) = 123
      all_goals
        first
          | have d1 : ((v[k].toNat : Int) == 123) = true := beq_iff_eq.2 h123
          | (have d1 : ((v[k].toNat : Int) == 123) = false := beq_eq_false_iff_ne.2 h123
             have d2 : ((v[k].toNat : Int) == 91) = true := beq_iff_eq.2 (by omega))
        clear h123 hb
        go_upto_region 12 with (go_at_call 86; refine (PS.out _ hup).mono ?_; rintro e w1 ⟨rfl, hu1⟩; have htb1 := htb.upd hu1 (by simp); have hrb1 := hrb.upd hu1 (by simp); have hup1 := hup.trans hu1; clear tf t0 t1 t2 t3 t4 t5; have tf := htb1.frozen; have t0 := htb1.cell 0; have t1 := htb1.cell 1; have t2 := htb1.cell 2; have t3 := htb1.cell 3; have t4 := htb1.cell 4; have t5 := htb1.cell 5; simp only [Array.setIfInBounds_def, List.getElem?_toArray, List.getElem?_cons_zero, List.getElem?_cons_succ] at t0 t1 t2 t3 t4 t5; try simp at t0 t1 t2 t3 t4 t5)
        clear tf t0 t1 t2 t3 t4 t5
        have htb6 : Blk (((w1.setCell ⟨w.heap.size + 1, 1, none⟩ (.string R)).setCell ⟨w.heap.size + 1, 0, none⟩ (.int .i64 5)).setCell ⟨w.heap.size + 1, 4, none⟩ (.int .i64 (k : Int))) (w.heap.size + 1) 49 #[.int .i64 5, .string R, .string ⟨#[]⟩, .float .f64 0, .int .i64 (k : Int), .slice none 0 0] := (((htb1.set_ 1 _).set_ 0 _).set_ 4 _)
        have hrb6 := (((hrb1.far (p := ⟨w.heap.size + 1, 1, none⟩) (by simp) (.string R)).far (p := ⟨w.heap.size + 1, 0, none⟩) (by simp) (.int .i64 5)).far (p := ⟨w.heap.size + 1, 4, none⟩) (by simp) (.int .i64 (k : Int)))
        have hup6 := (((hup1.setCell (p := ⟨w.heap.size + 1, 1, none⟩) (.inr (Nat.le_succ _)) (.string R)).setCell (p := ⟨w.heap.size + 1, 0, none⟩) (.inr (Nat.le_succ _)) (.int .i64 5)).setCell (p := ⟨w.heap.size + 1, 4, none⟩) (.inr (Nat.le_succ _)) (.int .i64 (k : Int)))
        obtain ⟨W6, hW6⟩ : ∃ x : World, x = (((w1.setCell ⟨w.heap.size + 1, 1, none⟩ (.string R)).setCell ⟨w.heap.size + 1, 0, none⟩ (.int .i64 5)).setCell ⟨w.heap.size + 1, 4, none⟩ (.int .i64 (k : Int))) := ⟨_, rfl⟩
        rw [← hW6] at htb6 hrb6 hup6
        rw [← hW6]
        clear hW6 htb htb1 hrb hrb1 hup hup1 hu1
        have tf := htb6.frozen
        have t0 := htb6.cell 0
        have t1 := htb6.cell 1
        have t2 := htb6.cell 2
        have t3 := htb6.cell 3
        have t4 := htb6.cell 4
        have t5 := htb6.cell 5
        have qf := hrb6.frozen
        have r0 := hrb6.cell 0
        have r1 := hrb6.cell 1
        have r2 := hrb6.cell 2
        have r3 := hrb6.cell 3
        have r4 := hrb6.cell 4
        have r5 := hrb6.cell 5
        simp only [List.getElem?_toArray, List.getElem?_cons_zero, List.getElem?_cons_succ] at t0 t1 t2 t3 t4 t5 r0 r1 r2 r3 r4 r5
        go_region
        go_wp2_with fail
        have HB := Blk.drew ((((((hrb6.set_ 0 (.int .i64 5)).set_ 1 (.string R)).set_ 2 (.string ⟨#[]⟩)).set_ 3 (.float .f64 0)).set_ 4 (.int .i64 (k : Int))).set_ 5 (.slice none 0 0))
        exact bodyPost_ret (res_pany HB _ rfl rfl rfl) rfl ⟨⟨_, _, _, rfl, trivial⟩, pany_end hup6⟩
end Go.Proofs.YtcnkbdbkglggcaaGreatDoor

namespace Go.Proofs.YtcnkbdbkglggcaaGreatDoor
open Go.RowKit

set_option maxRecDepth 100000 in
set_option maxHeartbeats 8000000 in
theorem pany_str (w : World) (v : ByteArray) (a0 a b : Nat) (o : List Int) (hs : v.size ≤ 65536) (ha0 : a0 ≤ a) (hw : ∀ y, a0 ≤ y → y < a → bt v y ≤ 32) (hb : b ≤ v.size) (hq : StrQ v a b o) :
    Calls Tryz.prog 67 #[.string v, .int .i64 (a0 : Int), .bool true] w fun e w' => PAny w 3 (v.extract a b) (fun str => str = strOfNums o) b e w' := by
  obtain ⟨hab, HU0, _⟩ := str_facts v a b o hs hb hq
  obtain ⟨hc, q, hp, hq34, rfl⟩ := hq
  have hi : a < v.size := by omega
  have hqv : q < v.size := by omega
  rw [Nat.add_sub_cancel] at HU0
  have HPL : Hid ((∀ y, a + 1 ≤ y → y < q → bt v y ≠ 92) → v.extract (a + 1) q = strOfNums o) := fun hn => by
    have hr := hp.rest q [] .done
    rw [List.append_nil] at hr
    obtain ⟨z1, z2⟩ := hr.plainAll hn
    refine strOf_ext (by omega) z1 z2 fun x hx => ?_
    obtain ⟨y, hy, rfl⟩ := List.getElem_of_mem hx
    have h3 := z2 y hy
    rw [List.getD_eq_getElem?_getD, List.getElem?_eq_getElem hy] at h3
    simp only [Option.getD_some] at h3
    rw [h3]
    have := bt_range v (a + 1 + y)
    omega
  have PS := Lib.hid (fun w1 : World => pstring_any w1 v a q o (by omega) hp hc hqv hq34)
  have hRz : (v.extract a (q + 1)).size = q + 1 - a := by simp only [ByteArray.size_extract]; omega
  have hcut : (v.extract a (q + 1)).extract 1 (q - a) = v.extract (a + 1) q := by
    rw [ByteArray.extract_extract]
    congr 1
    omega
  obtain ⟨R, hR⟩ : ∃ R, R = v.extract a (q + 1) := ⟨_, rfl⟩
  rw [← hR] at hRz hcut
  rw [← hR]
  have ys : ∀ w, (Instr.slice 9 (.string R) (some (.int .i64 1)) (some (.int .i64 ((R.size : Int) - 1))) none).run Tryz.prog w = .ok (.string (v.extract (a + 1) q)) w := fun w => by
    have := cut_two R 1 (q - a) 1 ((R.size : Int) - 1) rfl (by omega) (by omega) (by omega) w
    rw [hcut] at this
    exact this
  have r1 : IntKind.i64.wrap ((R.size : Int) - 1) = (R.size : Int) - 1 := IntWalk.i64_in _ (by omega)
  have HPS : Hid (∀ w1 : World, Calls Tryz.prog 66 #[.string v, .int .i64 ((a : Int) + 1)] w1 fun e w' => ∃ b : Bool, e = .returned (.tuple #[.int .i64 (q + 1 : Nat), .string R, .bool b, .bool true]) ∧ (b = false → ∀ y, a + 1 ≤ y → y < q → bt v y ≠ 92) ∧ Upd [] w1 w') := fun w1 => by
    rw [hR]
    exact PS.out w1
  have HU := Lib.hid HU0
  obtain ⟨U, hU⟩ : ∃ U, U = v.extract (a + 1) q := ⟨_, rfl⟩
  rw [← hU] at ys HU HPL
  generalize strOfNums o = T at *
  have HW := Lib.hid hw
  have HC := Lib.hid hc
  clear hw hc hp hq34 HU0 PS hR hcut hRz hU hab
  go_enter Tryz.func67, Tryz.ntmps67
  go_wp2_with fail
  have hup := ((Upd.refl [] w).alloc (.cells #[.int .i64 0, .string ⟨#[]⟩, .string ⟨#[]⟩, .float .f64 0, .int .i64 0, .slice none 0 0] 49)).alloc (.cells #[.int .i64 0, .string ⟨#[]⟩, .string ⟨#[]⟩, .float .f64 0, .int .i64 0, .slice none 0 0] 49)
  have hrb := (Blk.new w 49 #[.int .i64 0, .string ⟨#[]⟩, .string ⟨#[]⟩, .float .f64 0, .int .i64 0, .slice none 0 0]).alloc (.cells #[.int .i64 0, .string ⟨#[]⟩, .string ⟨#[]⟩, .float .f64 0, .int .i64 0, .slice none 0 0] 49)
  have htb := Blk.new (w.alloc (.cells #[.int .i64 0, .string ⟨#[]⟩, .string ⟨#[]⟩, .float .f64 0, .int .i64 0, .slice none 0 0] 49)) 49 #[.int .i64 0, .string ⟨#[]⟩, .string ⟨#[]⟩, .float .f64 0, .int .i64 0, .slice none 0 0]
  have hz : (w.alloc (.cells #[.int .i64 0, .string ⟨#[]⟩, .string ⟨#[]⟩, .float .f64 0, .int .i64 0, .slice none 0 0] 49)).heap.size = w.heap.size + 1 := by simp
  rw [hz] at htb
  clear hz
  generalize (w.alloc (.cells #[.int .i64 0, .string ⟨#[]⟩, .string ⟨#[]⟩, .float .f64 0, .int .i64 0, .slice none 0 0] 49)).alloc (.cells #[.int .i64 0, .string ⟨#[]⟩, .string ⟨#[]⟩, .float .f64 0, .int .i64 0, .slice none 0 0] 49) = W at *
  go_loopg [1] (a - a0) (fun g x1 wr => ∃ k : Nat, a0 ≤ k ∧ k ≤ a ∧ x1 = .int .i64 k ∧ wr = W ∧ Hid (g = a - k))
  case atStart => exact ⟨a0, by omega, ha0, rfl, rfl, rfl⟩
  case round =>
    obtain ⟨k, hk0, hk, rfl, rfl, hh⟩ := hrel
    by_cases hlt : k < a
    · have hks : k < v.size := by omega
      have hb : v[k].toNat ≤ 32 := by
        have h1 := HW.out k (by omega) hlt
        have h2 := bt_lt hks
        omega
      clear hrb htb hup
      have d1 : ((v[k].toNat : Int) == 123) = false := beq_eq_false_iff_ne.2 (by omega)
      have d2 : ((v[k].toNat : Int) == 91) = false := beq_eq_false_iff_ne.2 (by omega)
      go_wp2_with fail
      go_roundg (a - (k + 1))
      case measure => have := hh.out; omega
      case rel => exact ⟨k + 1, by omega, by omega, by go_num, rfl, rfl⟩
    · have hE : k = a := by omega
      subst hE
      clear hlt
      have tf := htb.frozen
      have t0 := htb.cell 0
      have t1 := htb.cell 1
      have t2 := htb.cell 2
      have t3 := htb.cell 3
      have t4 := htb.cell 4
      have t5 := htb.cell 5
      simp only [List.getElem?_toArray, List.getElem?_cons_zero, List.getElem?_cons_succ] at t0 t1 t2 t3 t4 t5
      have rsf := run_store_float64 (P := Tryz.prog)
      have hb : (v[k].toNat : Int) = 34 := by
        have h1 := HC.out
        have h2 := bt_lt hi
        omega
      have d1 : ((v[k].toNat : Int) == 123) = false := beq_eq_false_iff_ne.2 (by omega)
      have d2 : ((v[k].toNat : Int) == 91) = false := beq_eq_false_iff_ne.2 (by omega)
      have d34 : ((v[k].toNat : Int) == 34) = true := beq_iff_eq.2 hb
      have e32 : decide ((v[k].toNat : Int) ≤ 32) = false := decide_eq_false (by omega)
      have e32' : decide (v[k].toNat ≤ 32) = false := decide_eq_false (by omega)
      clear hb
      go_upto_if 101 with (go_at_call 66; refine (HPS.out _).mono ?_; rintro e w1 ⟨bb, rfl, hne, hu1⟩; have htb1 := htb.upd hu1 (by simp); have hrb1 := hrb.upd hu1 (by simp); have hup1 := hup.trans hu1; clear tf t0 t1 t2 t3 t4 t5; have tf := htb1.frozen; have t0 := htb1.cell 0; have t1 := htb1.cell 1; have t2 := htb1.cell 2; have t3 := htb1.cell 3; have t4 := htb1.cell 4; have t5 := htb1.cell 5; simp only [Array.setIfInBounds_def, List.getElem?_toArray, List.getElem?_cons_zero, List.getElem?_cons_succ] at t0 t1 t2 t3 t4 t5; try simp at t0 t1 t2 t3 t4 t5)
      have HNE := Lib.hid hne
      clear hne
      cases bb
      · have HUT : Hid (U = T) := HPL.out (HNE.out rfl)
        go_upto_region 47 with fail
        clear tf t0 t1 t2 t3 t4 t5
        have htb6 : Blk (((w1.setCell ⟨w.heap.size + 1, 0, none⟩ (.int .i64 3)).setCell ⟨w.heap.size + 1, 1, none⟩ (.string R)).setCell ⟨w.heap.size + 1, 2, none⟩ (.string U)) (w.heap.size + 1) 49 #[.int .i64 3, .string R, .string U, .float .f64 0, .int .i64 0, .slice none 0 0] := (((htb1.set_ 0 _).set_ 1 _).set_ 2 _)
        have hrb6 := (((hrb1.far (p := ⟨w.heap.size + 1, 0, none⟩) (by simp) (.int .i64 3)).far (p := ⟨w.heap.size + 1, 1, none⟩) (by simp) (.string R)).far (p := ⟨w.heap.size + 1, 2, none⟩) (by simp) (.string U))
        have hup6 := (((hup1.setCell (p := ⟨w.heap.size + 1, 0, none⟩) (.inr (Nat.le_succ _)) (.int .i64 3)).setCell (p := ⟨w.heap.size + 1, 1, none⟩) (.inr (Nat.le_succ _)) (.string R)).setCell (p := ⟨w.heap.size + 1, 2, none⟩) (.inr (Nat.le_succ _)) (.string U))
        obtain ⟨W6, hW6⟩ : ∃ X0 : World, X0 = (((w1.setCell ⟨w.heap.size + 1, 0, none⟩ (.int .i64 3)).setCell ⟨w.heap.size + 1, 1, none⟩ (.string R)).setCell ⟨w.heap.size + 1, 2, none⟩ (.string U)) := ⟨_, rfl⟩
        rw [← hW6] at htb6 hrb6 hup6
        rw [← hW6]
        clear hW6 htb htb1 hrb hrb1 hup hup1 hu1
        have tf := htb6.frozen
        have t0 := htb6.cell 0
        have t1 := htb6.cell 1
        have t2 := htb6.cell 2
        have t3 := htb6.cell 3
        have t4 := htb6.cell 4
        have t5 := htb6.cell 5
        have qf := hrb6.frozen
        have r0 := hrb6.cell 0
        have r1 := hrb6.cell 1
        have r2 := hrb6.cell 2
        have r3 := hrb6.cell 3
        have r4 := hrb6.cell 4
        have r5 := hrb6.cell 5
        simp only [List.getElem?_toArray, List.getElem?_cons_zero, List.getElem?_cons_succ] at t0 t1 t2 t3 t4 t5 r0 r1 r2 r3 r4 r5
        go_region
        go_wp2_with fail
        have HB := Blk.drew ((((((hrb6.set_ 0 (.int .i64 3)).set_ 1 (.string R)).set_ 2 (.string U)).set_ 3 (.float .f64 0)).set_ 4 (.int .i64 0)).set_ 5 (.slice none 0 0))
        exact bodyPost_ret (res_pany HB _ rfl rfl rfl) rfl ⟨⟨_, _, _, rfl, HUT.out⟩, pany_end hup6⟩
      · go_upto_region 47 with (go_at_call 41; refine (HU.out _).mono ?_; rintro e w2 ⟨rfl, hu2⟩; have htb2 := ((htb1.set_ 0 (.int .i64 3)).set_ 1 (.string R)).upd hu2 (by simp); have hrb2 := ((hrb1.far (p := ⟨w.heap.size + 1, 0, none⟩) (by simp) (.int .i64 3)).far (p := ⟨w.heap.size + 1, 1, none⟩) (by simp) (.string R)).upd hu2 (by simp); have hup2 := ((hup1.setCell (p := ⟨w.heap.size + 1, 0, none⟩) (.inr (Nat.le_succ _)) (.int .i64 3)).setCell (p := ⟨w.heap.size + 1, 1, none⟩) (.inr (Nat.le_succ _)) (.string R)).trans hu2; clear tf t0 t1 t2 t3 t4 t5; have tf := htb2.frozen; have t0 := htb2.cell 0; have t1 := htb2.cell 1; have t2 := htb2.cell 2; have t3 := htb2.cell 3; have t4 := htb2.cell 4; have t5 := htb2.cell 5; simp only [Array.setIfInBounds_def, List.getElem?_toArray, List.getElem?_cons_zero, List.getElem?_cons_succ] at t0 t1 t2 t3 t4 t5; try simp at t0 t1 t2 t3 t4 t5)
        clear tf t0 t1 t2 t3 t4 t5
        have htb6 : Blk (w2.setCell ⟨w.heap.size + 1, 2, none⟩ (.string T)) (w.heap.size + 1) 49 #[.int .i64 3, .string R, .string T, .float .f64 0, .int .i64 0, .slice none 0 0] := (htb2.set_ 2 _)
        have hrb6 := (hrb2.far (p := ⟨w.heap.size + 1, 2, none⟩) (by simp) (.string T))
        have hup6 := (hup2.setCell (p := ⟨w.heap.size + 1, 2, none⟩) (.inr (Nat.le_succ _)) (.string T))
        obtain ⟨W6, hW6⟩ : ∃ X0 : World, X0 = (w2.setCell ⟨w.heap.size + 1, 2, none⟩ (.string T)) := ⟨_, rfl⟩
        rw [← hW6] at htb6 hrb6 hup6
        rw [← hW6]
        clear hW6 htb htb1 htb2 hrb hrb1 hrb2 hup hup1 hup2 hu1 hu2
        have tf := htb6.frozen
        have t0 := htb6.cell 0
        have t1 := htb6.cell 1
        have t2 := htb6.cell 2
        have t3 := htb6.cell 3
        have t4 := htb6.cell 4
        have t5 := htb6.cell 5
        have qf := hrb6.frozen
        have r0 := hrb6.cell 0
        have r1 := hrb6.cell 1
        have r2 := hrb6.cell 2
        have r3 := hrb6.cell 3
        have r4 := hrb6.cell 4
        have r5 := hrb6.cell 5
        simp only [List.getElem?_toArray, List.getElem?_cons_zero, List.getElem?_cons_succ] at t0 t1 t2 t3 t4 t5 r0 r1 r2 r3 r4 r5
        go_region
        go_wp2_with fail
        have HB := Blk.drew ((((((hrb6.set_ 0 (.int .i64 3)).set_ 1 (.string R)).set_ 2 (.string T)).set_ 3 (.float .f64 0)).set_ 4 (.int .i64 0)).set_ 5 (.slice none 0 0))
        exact bodyPost_ret (res_pany HB _ rfl rfl rfl) rfl ⟨⟨_, _, _, rfl, rfl⟩, pany_end hup6⟩
end Go.Proofs.YtcnkbdbkglggcaaGreatDoor
