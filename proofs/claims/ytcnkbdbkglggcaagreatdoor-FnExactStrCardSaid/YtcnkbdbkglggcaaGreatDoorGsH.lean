/-
  The law FnExactStr. Condition: none but that the text has at most 2^31 bytes.
-/
import Derived.Test.YtcnkbdbkglggcaaGreatDoorSpO
import Derived.Test.YtcnkbdbkglggcaaGreatDoorGsB
import Derived.Test.YtcnkbdbkglggcaaGreatDoorGsE
import Derived.Test.YtcnkbdbkglggcaaGreatDoorGsF
import Derived.Test.YtcnkbdbkglggcaaGreatDoorGsG
import Derived.Deep.CutBlock
import Derived.Deep.DeepCutAuto
import Derived.Deep.RegionHeld3
import Derived.IntWalk
namespace Go.Proofs.YtcnkbdbkglggcaaGreatDoor
open Go.RowKit

theorem run_field2s (c0 c1 c3 c4 c5 : Value) (T : ByteArray) (w : World) : (Instr.field 34 (.agg #[c0, c1, .string T, c3, c4, c5]) 2).run Tryz.prog w = .ok (.string T) w := by
  kernel_rfl
theorem rstring_str (w : World) (raw str : ByteArray) (x : Nat) (i : Int) : Calls Tryz.prog 23 #[.agg (resCells 3 raw str x i)] w fun e w' => e = .returned (.string str) ∧ Upd [] w w' := by
  unfold resCells
  go_enter Tryz.func23, Tryz.ntmps23
  go_wp2_with fail
  go_ret
  exact ⟨rfl, (Upd.refl [] w).alloc _⟩
theorem zz_unescape (w : World) (u t : ByteArray) (h : Calls Tryz.prog 41 #[.string u] w fun e w' => e = .returned (.string t) ∧ Upd [] w w') : Calls Tryz.prog 14 #[.string u] w fun e w' => e = .returned (.string t) ∧ Upd [] w w' := by
  have h25 : Calls Tryz.prog 25 #[.string u] w fun e w' => e = .returned (.string t) ∧ Upd [] w w' := by
    go_enter Tryz.func25, Tryz.ntmps25
    go_wp2_with fail
    refine h.mono ?_
    rintro e w1 ⟨rfl, hu⟩
    go_wp2_with fail
    go_ret
    exact ⟨rfl, hu⟩
  go_enter Tryz.func14, Tryz.ntmps14
  go_wp2_with fail
  refine h25.mono ?_
  rintro e w1 ⟨rfl, hu⟩
  go_wp2_with fail
  go_ret
  exact ⟨rfl, hu⟩
theorem impl_str (w : World) (s u : ByteArray) (P : Value → Prop) (hp : Calls Tryz.prog 20 #[.string s] w fun e w' => ∃ v, e = .returned v ∧ P v ∧ Upd [] w w')
    (hq : ∀ v w1, P v → Calls Tryz.prog 23 #[v] w1 fun e w' => e = .returned (.string u) ∧ Upd [] w1 w') :
    Calls Tryz.prog 12 #[.string s] w fun e w' => e = .returned (.string u) ∧ Upd [] w w' := by
  go_enter Tryz.func12, Tryz.ntmps12
  go_wp2_with fail
  refine hp.mono ?_
  rintro e w1 ⟨v, rfl, hv, hu1⟩
  go_wp2_with fail
  refine (hq v w1 hv).mono ?_
  rintro e w2 ⟨rfl, hu2⟩
  go_wp2_with fail
  go_ret
  exact ⟨rfl, hu1.trans hu2⟩
theorem Rest.pre {s : ByteArray} {k a : Nat} {o : List Int} (h : Rest s k a o) : ∀ (p : Nat) (o1 : List Int), Pre s p a o1 → Pre s p k (o1 ++ o) := by
  induction h with
  | done =>
    exact fun p o1 h1 => by rw [List.append_nil]; exact h1
  | plain h32 h34 h92 h ih =>
    exact fun p o1 h1 => by
      have := ih p _ (.plain h1 h32 h34 h92)
      rw [List.append_assoc] at this
      exact this
  | esc h92 he h ih =>
    exact fun p o1 h1 => by
      have := ih p _ (.esc h1 h92 he)
      rw [List.append_assoc] at this
      exact this
/-- What a string's text gives: the inside as it is cut, and what the program's readers return. -/
theorem str_facts (s : ByteArray) (i j : Nat) (o : List Int) (hs : s.size ≤ 65536) (hj : j ≤ s.size) (hq : StrQ s i j o) :
    i + 2 ≤ j ∧ (∀ w, Calls Tryz.prog 41 #[.string (s.extract (i + 1) (j - 1))] w fun e w' => e = .returned (.string (strOfNums o)) ∧ Upd [] w w') ∧
    (∀ w, Calls Tryz.prog 36 #[.string (s.extract i s.size)] w fun e w' => e = .returned (.tuple #[.string ((s.extract i s.size).extract 0 (j - i)), .string (strOfNums o)]) ∧ Upd [] w w') := by
  obtain ⟨h34, k, hp, hk34, rfl⟩ := hq
  have hik : i + 1 ≤ k := hp.even.1
  have hr := hp.rest k [] .done
  rw [List.append_nil] at hr
  have hzu : (s.extract (i + 1) k).size = k - (i + 1) := by simp only [ByteArray.size_extract]; omega
  have hzv : (s.extract i s.size).size = s.size - i := by simp only [ByteArray.size_extract]; omega
  have hbv : ∀ y, y < s.size - i → bt (s.extract i s.size) y = bt s (i + y) := fun y hy => bt_extract (by omega) (Nat.le_refl _)
  have hru : Rest (s.extract (i + 1) k) (s.extract (i + 1) k).size 0 o := by
    rw [hzu]
    exact Rest.shift (p := i + 1) (fun y hy => bt_extract (by omega) (by omega)) hr 0 (by omega) (by omega)
  have hrv : Rest (s.extract i s.size) (k - i) 1 o := Rest.shift (p := i) (fun y hy => hbv y (by omega)) hr 1 (by omega) (by omega)
  have U : ∀ w, Calls Tryz.prog 41 #[.string (s.extract (i + 1) k)] w fun e w' => e = .returned (.string (strOfNums o)) ∧ Upd [] w w' := fun w => unescape_any w _ o (by omega) hru
  have hcut : (s.extract i s.size).extract 1 (k - i) = s.extract (i + 1) k := by
    rw [ByteArray.extract_extract]
    congr 1
    omega
  refine ⟨by omega, U, fun w => ?_⟩
  have hpv := hrv.pre 1 [] .start
  rw [List.nil_append] at hpv
  have T := tostr_any w (s.extract i s.size) (k - i) o (by omega) hpv (by omega) (by rw [hbv _ (by omega), show i + (k - i) = k by omega]; exact hk34) (fun hn => by
    obtain ⟨z1, z2⟩ := hrv.plainAll hn
    refine strOf_ext (by omega) z1 z2 fun x hx => ?_
    obtain ⟨y, hy, rfl⟩ := List.getElem_of_mem hx
    have h3 := z2 y hy
    rw [List.getD_eq_getElem?_getD, List.getElem?_eq_getElem hy] at h3
    simp only [Option.getD_some] at h3
    rw [h3]
    have h4 : 1 + y < (s.extract i s.size).size := by omega
    rw [← bt_lt h4]
    have := ((s.extract i s.size)[1 + y]).toNat_lt
    omega) (by rw [hcut]; exact U)
  rw [show k + 1 - i = k - i + 1 by omega]
  exact T
theorem parse_strQ (w : World) (s : ByteArray) (i j : Nat) (o : List Int) (hs : s.size ≤ 65536) (hj : j ≤ s.size) (hws : Ws s 0 i) (hq : StrQ s i j o) :
    Calls Tryz.prog 20 #[.string s] w fun e w' => e = .returned (.agg (resCells 3 ((s.extract i s.size).extract 0 (j - i)) (strOfNums o) 0 i)) ∧ Upd [] w w' :=
  parse_str w s i (by omega) hws hq.1 _ _ (str_facts s i j o hs hj hq).2.2

set_option maxRecDepth 100000 in
set_option maxHeartbeats 8000000 in
theorem law_str (w : World) (s : ByteArray) (hs47 : s.size ≤ 2147483647) : Calls Tryz.prog 5 #[.string s] w fun e w' => e = .returned (.bool true) ∧ Upd [] w w' := by
  have d0 : decide ((2147483647 : Int) < (s.size : Int)) = false := decide_eq_false (by omega)
  go_enter Tryz.func5, Tryz.ntmps5
  go_wp2_with fail
  refine (read_any w s (by omega)).mono ?_
  rintro e w1 ⟨t, raw, i, ok, rfl, hu1, hown, hq⟩
  obtain ⟨A1, n1, hkv⟩ := own_slice hown.1
  obtain ⟨A2, n2, hiv⟩ := own_slice hown.2.1
  clear hown
  obtain ⟨kind, o, pairs, kv, iv, ks, its⟩ := t
  dsimp only at hkv hiv
  subst hkv hiv
  dsimp only [TreeV.cells]
  have hu2 := hu1.alloc (.cells #[.int .i64 kind, .string raw, .int .i64 i, .string (strOfNums o), .bool pairs, .slice A1 ks.length n1, .slice A2 its.length n2] 25)
  have hb0 := Blk.new w1 25 #[.int .i64 kind, .string raw, .int .i64 i, .string (strOfNums o), .bool pairs, .slice A1 ks.length n1, .slice A2 its.length n2]
  cases ok with
  | false =>
    clear hq hb0
    go_wp2_with fail
    go_ret
    exact ⟨rfl, hu2⟩
  | true =>
    obtain ⟨hs16, hk, j, d, hws0, hraw, hij, hj, hsh, hwsj, htop⟩ := hq rfl
    dsimp only at hk htop
    clear hq
    by_cases hn3 : kind ≠ 3
    · have d3 : (kind != 3) = true := bne_iff_ne.2 hn3
      clear hk htop hsh hb0 hraw
      go_wp2_with fail
      go_ret
      exact ⟨rfl, hu2⟩
    have hk3 : kind = 3 := Decidable.byContradiction hn3
    clear hn3
    by_cases hp0 : pairs = false
    · subst hk3 hp0
      clear hk htop hsh hb0 hraw
      go_wp2_with fail
      go_ret
      exact ⟨rfl, hu2⟩
    have hp1 : pairs = true := by simpa using hp0
    subst hp1
    clear hp0
    have hc34 : bt s i = 34 := by
      rw [hk3] at hk
      unfold kindOf at hk
      by_cases h1 : bt s i = 34
      · exact h1
      · rw [if_neg h1] at hk
        (repeat' split at hk) <;> omega
    have hQ := (htop rfl).2.2.1 hc34
    subst hk3 hraw
    clear hk htop hsh hc34
    obtain ⟨hij2, HU, _⟩ := str_facts s i j o hs16 hj hQ
    have PQ := fun w => parse_strQ w s i j o hs16 hj hws0 hQ
    have HV : Hid (∀ w, Calls Tryz.prog 13 #[.string s] w fun e w' => e = .returned (.agg (valCells 3 ((s.extract i s.size).extract 0 (j - i)) (strOfNums o) 0 i)) ∧ Upd [] w w') := fun w => implParse_any w s 3 _ _ 0 i (by decide) fun w0 _ => PQ w0
    have HS : Hid (∀ w, Calls Tryz.prog 12 #[.string s] w fun e w' => e = .returned (.string (strOfNums o)) ∧ Upd [] w w') := fun w =>
      impl_str w _ _ (fun v => v = .agg (resCells 3 ((s.extract i s.size).extract 0 (j - i)) (strOfNums o) 0 i)) ((PQ w).mono fun e w' h => ⟨_, h.1, rfl, h.2⟩) (fun v w1 hv => by subst hv; exact rstring_str w1 _ _ _ _)
    have HZ : Hid (∀ w, Calls Tryz.prog 14 #[.string (s.extract (i + 1) (j - 1))] w fun e w' => e = .returned (.string (strOfNums o)) ∧ Upd [] w w') := fun w => zz_unescape w _ _ (HU w)
    have hzr : (s.extract i j).size = j - i := by simp only [ByteArray.size_extract]; omega
    have hcut : (s.extract i j).extract 1 (j - i - 1) = s.extract (i + 1) (j - 1) := by
      rw [ByteArray.extract_extract]
      congr 1
      omega
    have x1 : ∀ w, (Instr.slice 9 (.string (s.extract i j)) (some (.int .i64 1)) (some (.int .i64 (((s.extract i j).size : Int) - 1))) none).run Tryz.prog w = .ok (.string (s.extract (i + 1) (j - 1))) w := fun w => by
      have := cut_mid (s.extract i j) (j - i - 1) (by omega) (by omega) w
      rw [hcut] at this
      rw [show (((s.extract i j).size : Int) - 1) = ((j - i - 1 : Nat) : Int) by omega]
      exact this
    have r1 : IntKind.i64.wrap (((s.extract i j).size : Int) - 1) = ((s.extract i j).size : Int) - 1 := IntWalk.i64_in _ (by omega)
    have HB := Lib.hid hb0
    have HU2 := Lib.hid hu2
    clear hQ HU PQ hcut hzr hb0 hu2 hws0 hwsj
    generalize strOfNums o = T at *
    generalize s.extract i j = R at *
    generalize s.extract (i + 1) (j - 1) = U at *
    generalize (s.extract i s.size).extract 0 (j - i) = R2 at *
    unfold valCells at HV
    have fl := fun w => run_field2s (.int .i64 3) (.string R2) (.float .f64 0) (.int .i64 i) (.bool true) T w
    go_upto_region 6 with fail
    have r0 := HB.out.cell 3
    have r3 := HB.out.cell 1
    simp only [List.getElem?_toArray, List.getElem?_cons_zero, List.getElem?_cons_succ] at r0 r3
    refine wp_region_held_drew (S := (fun w' => w'.cell? ⟨w1.heap.size, 3, none⟩ = some (.string T) ∧ w'.cell? ⟨w1.heap.size, 1, none⟩ = some (.string R))) (by kernel_rfl) ?_ (fun hH0 => ?_)
    · exact ⟨r0, r3⟩
    refine wpAnyH_take (i := 0) (v := ?_) rfl (by kernel_rfl) (by kernel_rfl) (by kernel_rfl) (fun _ _ _ h => h) (Or.inl ⟨by rfl, ?_⟩) hH0 ?_
    rotate_left
    · intro w hSw; (try dsimp only at hSw); go_simp
      all_goals (with_reducible rfl)
    simp only [Act.put, List.getElem_toArray, List.getElem_cons_zero, List.getElem_cons_succ, List.setIfInBounds_toArray, List.set_cons_zero, List.set_cons_succ]
    refine wpAnyH_take (i := 3) (v := ?_) rfl (by kernel_rfl) (by kernel_rfl) (by kernel_rfl) (fun _ _ _ h => h) (Or.inl ⟨by rfl, ?_⟩) hH0 ?_
    rotate_left
    · intro w hSw; (try dsimp only at hSw); go_simp
      all_goals (with_reducible rfl)
    simp only [Act.put, List.getElem_toArray, List.getElem_cons_zero, List.getElem_cons_succ, List.setIfInBounds_toArray, List.set_cons_zero, List.set_cons_succ]
    refine wpAnyH_take (i := 4) (v := ?_) rfl (by kernel_rfl) (by kernel_rfl) (by kernel_rfl) (fun _ _ _ h => h) (Or.inl ⟨by rfl, ?_⟩) hH0 ?_
    rotate_left
    · intro w hSw; (try dsimp only at hSw); go_simp
      all_goals (with_reducible rfl)
    simp only [Act.put, List.getElem_toArray, List.getElem_cons_zero, List.getElem_cons_succ, List.setIfInBounds_toArray, List.set_cons_zero, List.set_cons_succ]
    refine wpAnyH_ready (rs := [1]) (by kernel_rfl) (by simp) ?_
    refine AllReadyH.cons rfl (fun K hK => ?_) AllReadyH.nil
    go_simp
    refine (HV.out _).mono ?_
    rintro e2 w2 ⟨rfl, hv1⟩
    have hb2 := (Blk.drew HB.out).upd hv1 (by simp)
    refine hK.out _ _ ⟨hb2.cell 3, hb2.cell 1⟩ (fun hH2 => ?_)
    clear hK K
    refine wpAnyH_take (i := 2) (v := ?_) rfl (by kernel_rfl) (by kernel_rfl) (by kernel_rfl) (fun _ _ _ h => h) (Or.inl ⟨by rfl, ?_⟩) hH2 ?_
    rotate_left
    · intro w hSw; (try dsimp only at hSw); go_simp
      all_goals (with_reducible rfl)
    simp only [Act.put, List.getElem_toArray, List.getElem_cons_zero, List.getElem_cons_succ, List.setIfInBounds_toArray, List.set_cons_zero, List.set_cons_succ]
    refine wpAnyH_take (i := 5) (v := ?_) rfl (by kernel_rfl) (by kernel_rfl) (by kernel_rfl) (fun _ _ _ h => h) (Or.inl ⟨by rfl, ?_⟩) hH2 ?_
    rotate_left
    · intro w hSw; (try dsimp only at hSw); go_simp
      all_goals (with_reducible rfl)
    simp only [Act.put, List.getElem_toArray, List.getElem_cons_zero, List.getElem_cons_succ, List.setIfInBounds_toArray, List.set_cons_zero, List.set_cons_succ]
    refine wpAnyH_take (i := 6) (v := ?_) rfl (by kernel_rfl) (by kernel_rfl) (by kernel_rfl) (fun _ _ _ h => h) (Or.inl ⟨by rfl, ?_⟩) hH2 ?_
    rotate_left
    · intro w hSw; (try dsimp only at hSw); go_simp
      all_goals (with_reducible rfl)
    simp only [Act.put, List.getElem_toArray, List.getElem_cons_zero, List.getElem_cons_succ, List.setIfInBounds_toArray, List.set_cons_zero, List.set_cons_succ]
    refine wpAnyH_take (i := 7) (v := ?_) rfl (by kernel_rfl) (by kernel_rfl) (by kernel_rfl) (fun _ _ _ h => h) (Or.inl ⟨by rfl, ?_⟩) hH2 ?_
    rotate_left
    · intro w hSw; (try dsimp only at hSw); go_simp
      all_goals (with_reducible rfl)
    simp only [Act.put, List.getElem_toArray, List.getElem_cons_zero, List.getElem_cons_succ, List.setIfInBounds_toArray, List.set_cons_zero, List.set_cons_succ]
    refine wpAnyH_take (i := 9) (v := ?_) rfl (by kernel_rfl) (by kernel_rfl) (by kernel_rfl) (fun _ _ _ h => h) (Or.inl ⟨by rfl, ?_⟩) hH2 ?_
    rotate_left
    · intro w hSw; (try dsimp only at hSw); go_simp
      all_goals (with_reducible rfl)
    simp only [Act.put, List.getElem_toArray, List.getElem_cons_zero, List.getElem_cons_succ, List.setIfInBounds_toArray, List.set_cons_zero, List.set_cons_succ]
    refine wpAnyH_take (i := 10) (v := ?_) rfl (by kernel_rfl) (by kernel_rfl) (by kernel_rfl) (fun _ _ _ h => h) (Or.inl ⟨by rfl, ?_⟩) hH2 ?_
    rotate_left
    · intro w hSw; (try dsimp only at hSw); go_simp
      all_goals (with_reducible rfl)
    simp only [Act.put, List.getElem_toArray, List.getElem_cons_zero, List.getElem_cons_succ, List.setIfInBounds_toArray, List.set_cons_zero, List.set_cons_succ]
    refine wpAnyH_ready (rs := [8]) (by kernel_rfl) (by simp) ?_
    refine AllReadyH.cons rfl (fun K hK => ?_) AllReadyH.nil
    go_simp
    refine (HS.out _).mono ?_
    rintro e3 w3 ⟨rfl, hv2⟩
    have hb3 := hb2.upd hv2 (by simp)
    refine hK.out _ _ ⟨hb3.cell 3, hb3.cell 1⟩ (fun hH3 => ?_)
    clear hK K
    refine wpAnyH_take (i := 11) (v := ?_) rfl (by kernel_rfl) (by kernel_rfl) (by kernel_rfl) (fun _ _ _ h => h) (Or.inl ⟨by rfl, ?_⟩) hH3 ?_
    rotate_left
    · intro w hSw; (try dsimp only at hSw); go_simp
      all_goals (with_reducible rfl)
    simp only [Act.put, List.getElem_toArray, List.getElem_cons_zero, List.getElem_cons_succ, List.setIfInBounds_toArray, List.set_cons_zero, List.set_cons_succ]
    refine wpAnyH_take (i := 12) (v := ?_) rfl (by kernel_rfl) (by kernel_rfl) (by kernel_rfl) (fun _ _ _ h => h) (Or.inl ⟨by rfl, ?_⟩) hH3 ?_
    rotate_left
    · intro w hSw; (try dsimp only at hSw); go_simp
      all_goals (with_reducible rfl)
    simp only [Act.put, List.getElem_toArray, List.getElem_cons_zero, List.getElem_cons_succ, List.setIfInBounds_toArray, List.set_cons_zero, List.set_cons_succ]
    refine wpAnyH_take (i := 13) (v := ?_) rfl (by kernel_rfl) (by kernel_rfl) (by kernel_rfl) (fun _ _ _ h => h) (Or.inl ⟨by rfl, ?_⟩) hH3 ?_
    rotate_left
    · intro w hSw; (try dsimp only at hSw); go_simp
      all_goals (with_reducible rfl)
    simp only [Act.put, List.getElem_toArray, List.getElem_cons_zero, List.getElem_cons_succ, List.setIfInBounds_toArray, List.set_cons_zero, List.set_cons_succ]
    refine wpAnyH_take (i := 14) (v := ?_) rfl (by kernel_rfl) (by kernel_rfl) (by kernel_rfl) (fun _ _ _ h => h) (Or.inl ⟨by rfl, ?_⟩) hH3 ?_
    rotate_left
    · intro w hSw; (try dsimp only at hSw); go_simp
      all_goals (with_reducible rfl)
    simp only [Act.put, List.getElem_toArray, List.getElem_cons_zero, List.getElem_cons_succ, List.setIfInBounds_toArray, List.set_cons_zero, List.set_cons_succ]
    refine wpAnyH_take (i := 15) (v := ?_) rfl (by kernel_rfl) (by kernel_rfl) (by kernel_rfl) (fun _ _ _ h => h) (Or.inl ⟨by rfl, ?_⟩) hH3 ?_
    rotate_left
    · intro w hSw; (try dsimp only at hSw); go_simp
      all_goals (with_reducible rfl)
    simp only [Act.put, List.getElem_toArray, List.getElem_cons_zero, List.getElem_cons_succ, List.setIfInBounds_toArray, List.set_cons_zero, List.set_cons_succ]
    refine wpAnyH_take (i := 16) (v := ?_) rfl (by kernel_rfl) (by kernel_rfl) (by kernel_rfl) (fun _ _ _ h => h) (Or.inl ⟨by rfl, ?_⟩) hH3 ?_
    rotate_left
    · intro w hSw; (try dsimp only at hSw); go_simp
      all_goals (with_reducible rfl)
    simp only [Act.put, List.getElem_toArray, List.getElem_cons_zero, List.getElem_cons_succ, List.setIfInBounds_toArray, List.set_cons_zero, List.set_cons_succ]
    refine wpAnyH_take (i := 17) (v := ?_) rfl (by kernel_rfl) (by kernel_rfl) (by kernel_rfl) (fun _ _ _ h => h) (Or.inl ⟨by rfl, ?_⟩) hH3 ?_
    rotate_left
    · intro w hSw; (try dsimp only at hSw); go_simp
      all_goals (with_reducible rfl)
    simp only [Act.put, List.getElem_toArray, List.getElem_cons_zero, List.getElem_cons_succ, List.setIfInBounds_toArray, List.set_cons_zero, List.set_cons_succ]
    refine wpAnyH_take (i := 18) (v := ?_) rfl (by kernel_rfl) (by kernel_rfl) (by kernel_rfl) (fun _ _ _ h => h) (Or.inl ⟨by rfl, ?_⟩) hH3 ?_
    rotate_left
    · intro w hSw; (try dsimp only at hSw); go_simp
      all_goals (with_reducible rfl)
    simp only [Act.put, List.getElem_toArray, List.getElem_cons_zero, List.getElem_cons_succ, List.setIfInBounds_toArray, List.set_cons_zero, List.set_cons_succ]
    refine wpAnyH_take (i := 19) (v := ?_) rfl (by kernel_rfl) (by kernel_rfl) (by kernel_rfl) (fun _ _ _ h => h) (Or.inl ⟨by rfl, ?_⟩) hH3 ?_
    rotate_left
    · intro w hSw; (try dsimp only at hSw); go_simp
      all_goals (with_reducible rfl)
    simp only [Act.put, List.getElem_toArray, List.getElem_cons_zero, List.getElem_cons_succ, List.setIfInBounds_toArray, List.set_cons_zero, List.set_cons_succ]
    refine wpAnyH_take (i := 20) (v := ?_) rfl (by kernel_rfl) (by kernel_rfl) (by kernel_rfl) (fun _ _ _ h => h) (Or.inl ⟨by rfl, ?_⟩) hH3 ?_
    rotate_left
    · intro w hSw; (try dsimp only at hSw); go_simp
      all_goals (with_reducible rfl)
    simp only [Act.put, List.getElem_toArray, List.getElem_cons_zero, List.getElem_cons_succ, List.setIfInBounds_toArray, List.set_cons_zero, List.set_cons_succ]
    refine wpAnyH_take (i := 22) (v := ?_) rfl (by kernel_rfl) (by kernel_rfl) (by kernel_rfl) (fun _ _ _ h => h) (Or.inl ⟨by rfl, ?_⟩) hH3 ?_
    rotate_left
    · intro w hSw; (try dsimp only at hSw); go_simp
      all_goals (with_reducible rfl)
    simp only [Act.put, List.getElem_toArray, List.getElem_cons_zero, List.getElem_cons_succ, List.setIfInBounds_toArray, List.set_cons_zero, List.set_cons_succ]
    refine wpAnyH_take (i := 23) (v := ?_) rfl (by kernel_rfl) (by kernel_rfl) (by kernel_rfl) (fun _ _ _ h => h) (Or.inl ⟨by rfl, ?_⟩) hH3 ?_
    rotate_left
    · intro w hSw; (try dsimp only at hSw); go_simp
      all_goals (with_reducible rfl)
    simp only [Act.put, List.getElem_toArray, List.getElem_cons_zero, List.getElem_cons_succ, List.setIfInBounds_toArray, List.set_cons_zero, List.set_cons_succ]
    refine wpAnyH_ready (rs := [21]) (by kernel_rfl) (by simp) ?_
    refine AllReadyH.cons rfl (fun K hK => ?_) AllReadyH.nil
    go_simp
    refine (HZ.out _).mono ?_
    rintro e4 w4 ⟨rfl, hv3⟩
    have hb4 := hb3.upd hv3 (by simp)
    refine hK.out _ _ ⟨hb4.cell 3, hb4.cell 1⟩ (fun hH4 => ?_)
    clear hK K
    refine wpAnyH_take (i := 24) (v := ?_) rfl (by kernel_rfl) (by kernel_rfl) (by kernel_rfl) (fun _ _ _ h => h) (Or.inl ⟨by rfl, ?_⟩) hH4 ?_
    rotate_left
    · intro w hSw; (try dsimp only at hSw); go_simp
      all_goals (with_reducible rfl)
    simp only [Act.put, List.getElem_toArray, List.getElem_cons_zero, List.getElem_cons_succ, List.setIfInBounds_toArray, List.set_cons_zero, List.set_cons_succ]
    refine wpAnyH_take (i := 25) (v := ?_) rfl (by kernel_rfl) (by kernel_rfl) (by kernel_rfl) (fun _ _ _ h => h) (Or.inl ⟨by rfl, ?_⟩) hH4 ?_
    rotate_left
    · intro w hSw; (try dsimp only at hSw); go_simp
      all_goals (with_reducible rfl)
    simp only [Act.put, List.getElem_toArray, List.getElem_cons_zero, List.getElem_cons_succ, List.setIfInBounds_toArray, List.set_cons_zero, List.set_cons_succ]
    refine wpAnyH_take (i := 26) (v := ?_) rfl (by kernel_rfl) (by kernel_rfl) (by kernel_rfl) (fun _ _ _ h => h) (Or.inl ⟨by rfl, ?_⟩) hH4 ?_
    rotate_left
    · intro w hSw; (try dsimp only at hSw); go_simp
      all_goals (with_reducible rfl)
    simp only [Act.put, List.getElem_toArray, List.getElem_cons_zero, List.getElem_cons_succ, List.setIfInBounds_toArray, List.set_cons_zero, List.set_cons_succ]
    refine wpAnyH_done (by kernel_rfl) ?_ _
    go_wp2_with fail
    go_ret
    exact ⟨rfl, ((HU2.out.drew.trans hv1).trans hv2).trans hv3⟩
end Go.Proofs.YtcnkbdbkglggcaaGreatDoor
