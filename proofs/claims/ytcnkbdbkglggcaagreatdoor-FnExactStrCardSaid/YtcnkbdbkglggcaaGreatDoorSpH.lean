/-
  The reader's 'escape': an escape of four hexadecimal digits, and two of them for a pair of surrogates. Condition: the text has at most 65536 bytes.
-/
import Derived.Test.YtcnkbdbkglggcaaGreatDoorSpG
namespace Go.Proofs.YtcnkbdbkglggcaaGreatDoor
open Go.RowKit

theorem idx_at (s : ByteArray) (i : Int) (j : Nat) (hij : i = (j : Int)) (h : j < s.size) (w : World) : (Instr.index 9 (.string s) (.int .i64 i)).run Tryz.prog w = .ok (.int .u8 (s[j].toNat : Int)) w := by
  subst hij
  rw [run_index_string w 9 s .i64 (j : Int) Tryz.underlying9]
  simp [h]
theorem utf8_small (n : Int) (h0 : 0 ≤ n) (h1 : n < 1114112) : Small (utf8 n) := by
  unfold utf8
  split
  · refine ⟨by simp, fun x hx => ?_⟩
    simp only [List.mem_cons, List.mem_nil_iff, or_false] at hx
    omega
  · split
    · refine ⟨by simp, fun x hx => ?_⟩
      simp only [List.mem_cons, List.mem_nil_iff, or_false] at hx
      omega
    · split
      · refine ⟨by simp, fun x hx => ?_⟩
        simp only [List.mem_cons, List.mem_nil_iff, or_false] at hx
        omega
      · refine ⟨by simp, fun x hx => ?_⟩
        simp only [List.mem_cons, List.mem_nil_iff, or_false] at hx
        omega

set_option maxRecDepth 100000 in
set_option maxHeartbeats 2000000 in
theorem escape_u (w : World) (b : Nat) (s : ByteArray) (i : Nat) (bad : Bool) (hr : Rd w b s i bad) (hs : s.size ≤ 65536) (hu : bt s i = 117) :
    Calls Tryz.prog 49 #[.pointer (some ⟨b, 0, none⟩)] w fun e w' => Esc1 w b s i bad e w' := by
  have hi : i < s.size := lt_of_bt (by omega)
  have hu1 : (bt s i != 117) = false := by simpa using hu
  have HU := Lib.hid hu
  clear hu
  have hat : ∀ n, (w.drewN n).cell? ⟨b, 1, none⟩ = some (.int .i64 i) := fun n => (hr.drewN n).c1
  have hfr : ∀ n o, (w.drewN n).frozen? ⟨b, o, none⟩ = false := fun n o => (hr.drewN n).fr o
  have hr1 : ∀ n, Rd ((w.drewN n).setCell ⟨b, 1, none⟩ (.int .i64 ((i + 1 : Nat) : Int))) b s (i + 1) bad := fun n => (hr.drewN n).setAt _
  have hp1 : ∀ n, Upd [b] w ((w.drewN n).setCell ⟨b, 1, none⟩ (.int .i64 ((i + 1 : Nat) : Int))) := fun n => ((Upd.refl [b] w).drewN n).setCell (.inl (.head _)) _
  have h1 := hr.c1
  have hf1 := hr.fr 1
  go_enter Tryz.func49, Tryz.ntmps49
  go_wp2_with fail
  refine (next_any _ b s i bad hr hs).mono ?_
  rintro e w1 ⟨rfl, n, rfl⟩
  go_wp2_with fail
  refine (hex_any _ b s (i + 1) bad (hr1 n) hs (by omega)).mono ?_
  rintro e w1 ⟨m, j, bad1, rfl, m0, m1, hrj, huj, hwj⟩
  have hup := (hp1 n).trans huj
  clear hat hfr hr1 hp1 h1 hf1 huj
  have hj1 := hwj.1
  have hj2 := hwj.2.1
  have HW := Lib.hid hwj; clear hwj
  by_cases hA : m < 55296 ∨ 57343 < m ∨ bad1 = true
  · have key : Hid (∀ w2, Below w1.heap.size w1 w2 → Esc1 w b s i bad (.returned (.tuple #[.string (strOfNums (utf8 m)), .bool true])) w2) := fun w2 hb =>
      ⟨utf8 m, true, j, bad1, rfl, utf8_small m m0 (by omega), hrj.upd (Upd.of_below hb []) (by simp), hup.trans (Upd.of_below hb _), by omega, hj2, fun hf => by
        obtain ⟨k1, k2, k3, k4⟩ := HW.out.2.2 hf
        refine ⟨k1, fun _ => .inr (.inl ⟨HU.out, k3, ?_, by omega, by rw [k4]⟩)⟩
        rw [← k4]
        rcases hA with h | h | h
        · exact .inl h
        · exact .inr h
        · rw [h] at hf; cases hf⟩
    have h2 := hrj.c2
    by_cases a1 : m < 55296
    · clear hA
      go_wp2_with fail
      refine (rune_any m _ m0 (by omega)).mono ?_
      rintro e w2 ⟨rfl, hb⟩
      go_wp2_with fail
      go_ret2
      exact key.out _ hb
    · by_cases a2 : 57343 < m
      · clear hA
        go_wp2_with fail
        refine (rune_any m _ m0 (by omega)).mono ?_
        rintro e w2 ⟨rfl, hb⟩
        go_wp2_with fail
        go_ret2
        exact key.out _ hb
      · have a3 : bad1 = true := by
          rcases hA with h | h | h
          · omega
          · omega
          · exact h
        subst a3
        clear hA
        go_wp2_with fail
        refine (rune_any m _ m0 (by omega)).mono ?_
        rintro e w2 ⟨rfl, hb⟩
        go_wp2_with fail
        go_ret2
        exact key.out _ hb
  · have hbad : bad1 = false := by
      cases bad1
      · rfl
      · exact absurd (.inr (.inr rfl)) hA
    subst hbad
    have b1 : 55296 ≤ m := by omega
    have b2 : m ≤ 57343 := by omega
    clear hA
    obtain ⟨k1, k2, k3, k4⟩ := HW.out.2.2 rfl
    have K2 := Lib.hid k2; clear k2
    have K4 := Lib.hid k4; clear k4
    have K1 := Lib.hid k1; clear k1
    have K3 := Lib.hid k3; clear k3
    clear HW
    have none_ : Hid (∀ q, Esc1 w b s i bad (.returned (.tuple #[.string (strOfNums []), .bool false])) (w1.drewN q)) := fun q =>
      ⟨[], false, j, false, rfl, small_nil, hrj.drewN q, hup.drewN q, by omega, hj2, fun _ => ⟨K1.out, fun h => by cases h⟩⟩
    have h0 := hrj.c0
    have h1 := hrj.c1
    have h2 := hrj.c2
    have hf1 := hrj.fr 1
    have d0 : decide (m < 55296) = false := by simp; omega
    have d1 : decide (57343 < m) = false := by simp; omega
    by_cases e1 : 56320 ≤ m
    · have d2 : decide (56320 ≤ m) = true := by simpa using e1
      go_wp2_with fail
      go_quiet (fail)
      go_wp2_with fail
      go_ret2
      exact none_.out _
    · have d2 : decide (56320 ≤ m) = false := by simpa using e1
      by_cases e2 : s.size ≤ j + 1
      · have d3 : decide ((s.size : Int) ≤ (j : Int) + 1) = true := by simp; omega
        go_wp2_with fail
        go_quiet (fail)
        go_wp2_with fail
        go_ret2
        exact none_.out _
      · have d3 : decide ((s.size : Int) ≤ (j : Int) + 1) = false := by simp; omega
        have hj : j < s.size := by omega
        have hj' : j + 1 < s.size := by omega
        have HB := Lib.hid (bt_lt hj)
        have HB' := Lib.hid (bt_lt hj')
        by_cases e3 : (s[j].toNat : Int) = 92
        · have d4 : ((s[j].toNat : Int) != 92) = false := by simpa using e3
          have E3 := Lib.hid e3; clear e3
          by_cases e4 : (s[j + 1].toNat : Int) = 117
          · have d5 : ((s[j + 1].toNat : Int) != 117) = false := by simpa using e4
            have E4 := Lib.hid e4; clear e4
            have hr2 : ∀ q, Rd ((w1.drewN q).setCell ⟨b, 1, none⟩ (.int .i64 ((j + 2 : Nat) : Int))) b s (j + 2) false := fun q => (hrj.drewN q).setAt _
            have hp2 : ∀ q, Upd [b] w ((w1.drewN q).setCell ⟨b, 1, none⟩ (.int .i64 ((j + 2 : Nat) : Int))) := fun q => (hup.drewN q).setCell (.inl (.head _)) _
            go_wp2_with fail
            have x1 : IntKind.i64.wrap ((j : Int) + 1) = (j : Int) + 1 := IntWalk.i64_in _ (by omega)
            have x2 : (0 : Int) ≤ (j : Int) + 1 := by omega
            have x3 : ∀ w, (Instr.index 9 (.string s) (.int .i64 ((j : Int) + 1))).run Tryz.prog w = .ok (.int .u8 (s[j + 1].toNat : Int)) w := fun w => idx_at s _ (j + 1) rfl hj' w
            go_quiet (fail)
            clear x1 x2 x3
            go_wp2_with fail
            refine (hex_any _ b s (j + 2) false (hr2 _) hs (by omega)).mono ?_
            rintro e w2 ⟨m2, j2, bad2, rfl, n0, n1, hrj2, huj2, hwj2⟩
            have hup2 := (hp2 _).trans huj2
            clear hr2 hp2 huj2
            have g1 := hwj2.1
            have g2 := hwj2.2.1
            have HW2 := Lib.hid hwj2; clear hwj2
            clear h0 h1 h2 hf1 none_
            have none2 : Hid (Esc1 w b s i bad (.returned (.tuple #[.string (strOfNums []), .bool false])) w2) :=
              ⟨[], false, j2, bad2, rfl, small_nil, hrj2, hup2, by omega, g2, fun _ => ⟨K1.out, fun h => by cases h⟩⟩
            by_cases f1 : m2 < 56320
            · have d6 : decide (m2 < 56320) = true := by simpa using f1
              go_wp2_with fail
              go_ret2
              exact none2.out
            · have d6 : decide (m2 < 56320) = false := by simpa using f1
              by_cases f2 : 57343 < m2
              · have d7 : decide (57343 < m2) = true := by simpa using f2
                go_wp2_with fail
                go_ret2
                exact none2.out
              · have d7 : decide (57343 < m2) = false := by simpa using f2
                clear none2
                go_wp2_with fail
                refine (rune_any (65536 + (m - 55296) * 1024 + m2 - 56320) _ (by omega) (by omega)).mono ?_
                rintro e w3 ⟨rfl, hb⟩
                go_wp2_with fail
                go_ret2
                refine ⟨utf8 (65536 + (m - 55296) * 1024 + m2 - 56320), true, j2, bad2, rfl, utf8_small _ (by omega) (by omega), hrj2.upd (Upd.of_below hb []) (by simp), hup2.trans (Upd.of_below hb _), by omega, g2, fun hf => ⟨K1.out, fun _ => ?_⟩⟩
                obtain ⟨l1, l2, l3, l4⟩ := HW2.out.2.2 hf
                have z2 := K2.out
                have z4 := K4.out
                have x7 : j + 2 = i + 7 := by omega
                rw [x7] at l3 l4
                refine .inr (.inr ⟨HU.out, K3.out, by rw [← z4]; exact b1, by rw [← z4]; omega, ?_, ?_, l3, by rw [← l4]; omega, by rw [← l4]; omega, by omega, by rw [← z4, ← l4]⟩)
                · have := HB.out; have := E3.out; rw [show i + 5 = j from by omega]; omega
                · have := HB'.out; have := E4.out; rw [show i + 6 = j + 1 from by omega]; omega
          · have d5 : ((s[j + 1].toNat : Int) != 117) = true := by simpa using e4
            clear e4
            go_wp2_with fail
            have x1 : IntKind.i64.wrap ((j : Int) + 1) = (j : Int) + 1 := IntWalk.i64_in _ (by omega)
            have x2 : (0 : Int) ≤ (j : Int) + 1 := by omega
            have x3 : ∀ w, (Instr.index 9 (.string s) (.int .i64 ((j : Int) + 1))).run Tryz.prog w = .ok (.int .u8 (s[j + 1].toNat : Int)) w := fun w => idx_at s _ (j + 1) rfl hj' w
            go_quiet (fail)
            clear x1 x2 x3
            go_wp2_with fail
            go_ret2
            exact none_.out _
        · have d4 : ((s[j].toNat : Int) != 92) = true := by simpa using e3
          clear e3
          go_wp2_with fail
          go_quiet (fail)
          go_wp2_with fail
          go_ret2
          exact none_.out _
theorem escape_any (w : World) (b : Nat) (s : ByteArray) (i : Nat) (bad : Bool) (hr : Rd w b s i bad) (hs : s.size ≤ 65536) (hi : i ≤ s.size) :
    Calls Tryz.prog 49 #[.pointer (some ⟨b, 0, none⟩)] w fun e w' => Esc1 w b s i bad e w' := by
  by_cases hu : bt s i = 117
  · exact escape_u w b s i bad hr hs hu
  · exact escape_plain w b s i bad hr hs hi hu
end Go.Proofs.YtcnkbdbkglggcaaGreatDoor
