/-
  The law FnExactPairs. Condition: what the program's variables hold; the text has at most 2^31 bytes.
-/
import Derived.Test.YtcnkbdbkglggcaaGreatDoorZME
import Derived.Test.YtcnkbdbkglggcaaGreatDoorZMA
import Derived.Test.YtcnkbdbkglggcaaGreatDoorZMS
import Derived.Deep.CutBlock
import Derived.Deep.DeepCutAuto
import Derived.Deep.RegionHeld3
import Derived.IntWalk
set_option linter.unusedVariables false
set_option linter.unusedSimpArgs false
namespace Go.Proofs.YtcnkbdbkglggcaaGreatDoor
open Go.RowKit

set_option maxRecDepth 100000 in
set_option maxHeartbeats 8000000 in
theorem law_pairs (w : World) (B : Nat) (hg : Glb w B) (s : ByteArray) (hs47 : s.size ≤ 2147483647) : Calls Tryz.prog 7 #[.string s] w fun e w' => e = .returned (.bool true) ∧ Upd [] w w' := by
  have d0 : decide ((2147483647 : Int) < (s.size : Int)) = false := decide_eq_false (by omega)
  have HG := Lib.hid hg
  clear hg
  go_enter Tryz.func7, Tryz.ntmps7
  go_wp2_with fail
  refine (read_any w s (by omega)).mono ?_
  rintro e w1 ⟨t, raw, i, ok, rfl, hu1, hown, hq⟩
  have HO := Lib.hid hown
  obtain ⟨A1, n1, hkv⟩ := own_slice hown.1
  obtain ⟨A2, n2, hiv⟩ := own_slice hown.2.1
  clear hown
  obtain ⟨kind, o, pairs, kv, iv, ks, its⟩ := t
  dsimp only at hkv hiv
  subst hkv hiv
  dsimp only [TreeV.cells]
  have hua := (Upd.refl [] w1).alloc (.cells #[.int .i64 kind, .string raw, .int .i64 i, .string (strOfNums o), .bool pairs, .slice A1 ks.length n1, .slice A2 its.length n2] 25)
  have hu2 := hu1.alloc (.cells #[.int .i64 kind, .string raw, .int .i64 i, .string (strOfNums o), .bool pairs, .slice A1 ks.length n1, .slice A2 its.length n2] 25)
  have hb0 := Blk.new w1 25 #[.int .i64 kind, .string raw, .int .i64 i, .string (strOfNums o), .bool pairs, .slice A1 ks.length n1, .slice A2 its.length n2]
  cases ok with
  | false =>
    clear hq hb0 hua
    go_wp2_with fail
    go_ret
    exact ⟨rfl, hu2⟩
  | true =>
    obtain ⟨hs16, hk, j, d, hws0, hraw, hij, hj, hsh, hwsj, htop⟩ := hq rfl
    dsimp only at hk htop
    clear hq
    cases pairs with
    | false =>
      clear hk htop hsh hb0 hraw hua
      go_wp2_with fail
      go_ret
      exact ⟨rfl, hu2⟩
    | true =>
      have hT := htop rfl
      clear htop
      by_cases hc5 : bt s i = 123 ∨ bt s i = 91
      · obtain ⟨keys, hck⟩ : ∃ keys : Bool, bt s i = if keys then 123 else 91 := by
          rcases hc5 with h | h
          · exact ⟨true, h⟩
          · exact ⟨false, h⟩
        have hk5 : kind = 5 := by rw [hk, hck]; cases keys <;> decide
        have hl : Lst s (Val s d) keys i j ks its := by
          cases keys with
          | true => exact hT.2.2.2.1 hck
          | false => exact hT.2.2.2.2.1 hck
        have hraw0 : bt raw 0 = if keys then 123 else 91 := by
          have hij2 : i < j := by
            rcases hc5 with h | h
            · have := (hsh.2.2.2.2.1 h).1; omega
            · have := (hsh.2.2.2.2.2.1 h).1; omega
          rw [hraw, bt_extract (by omega) hj, Nat.add_zero]
          exact hck
        have HP : Hid (∀ W, Upd [] w1 W → Calls Tryz.prog 16 #[.string s] W fun e w' => PairOut W (ListQ (s.extract i s.size) keys ks its) e w') := fun W hu => pairs_list W B (HG.out.upd (hu1.trans hu)) s i j d keys ks its hs16 hws0 hwsj hck hl HO.out.2.2.2.1
        have OB : Hid (∀ w, Calls Tryz.prog 17 #[.agg #[.int .i64 5, .string raw, .int .i64 i, .string (strOfNums o), .bool true, .slice A1 ks.length n1, .slice A2 its.length n2]] w fun e w' => e = .returned (.bool keys) ∧ Upd [] w w') := fun w => object_any w raw _ i true keys A1 A2 _ _ n1 n2 hraw0
        have h65 : its.length ≤ 65536 := HO.out.2.2.2.1
        have HB := Lib.hid hb0
        have HOA := Lib.hid (HO.out.upd hua (fun k h => by simp) (fun k h => by simp))
        have HUA := Lib.hid hua
        have HU2 := Lib.hid hu2
        subst hk5
        clear hT hc5 hk hck hraw hraw0 hsh hws0 hwsj hij hj hb0 hu1 hua hu2 hl
        go_upto_region 9 with (go_at_call 16; refine (HP.out _ HUA.out).mono ?_; rintro e w4 ⟨kv, vv, kl, vl, rfl, hko, hvo, hm, hu4⟩; obtain ⟨A3, n3, h3⟩ := own_slice hko; obtain ⟨A4, n4, h4⟩ := own_slice hvo; subst h3 h4; obtain ⟨l1, l2, l3, hat⟩ := listq_at hm; rw [l1] at hko; rw [l2] at hvo; rw [l1, l2]; have HAT := Lib.hid hat; have HL3 := Lib.hid l3; have HB4 := Lib.hid (HB.out.upd hu4 (by simp)); have HU4 := Lib.hid (HU2.out.trans hu4); have HT4 := Lib.hid (HOA.out.upd hu4 (fun k h => by simp) (fun k h => by simp)); have HK := Lib.hid hko; have HV := Lib.hid hvo; clear hko hvo hm hu4 l1 l2 l3 hat; have tf := HB4.out.frozen; have t0 := HB4.out.cell 0; have t6 := HB4.out.cell 6; simp only [List.getElem?_toArray, List.getElem?_cons_zero, List.getElem?_cons_succ] at t0 t6)
        go_wp2_with fail
        clear tf t0 t6
        go_loopg [62] its.length (fun g x62 wr => ∃ n : Nat, n ≤ its.length ∧ x62 = .int .i64 n ∧ Hid (Upd [] w4 wr) ∧ Hid (g = its.length - n))
        case atStart => exact ⟨0, Nat.zero_le _, rfl, Upd.refl [] w4, rfl⟩
        case round =>
          obtain ⟨n, hn, rfl, hup, hh⟩ := hrel
          by_cases hlt : n < its.length
          · obtain ⟨x, hx⟩ : ∃ x, its[n]? = some x := ⟨_, List.getElem?_eq_getElem hlt⟩
            obtain ⟨r, th, q, tq, hkn, hvn, hqk, hqr, hkey⟩ := HAT.out n x hx
            have hI := hup.out.owns HT4.out.2.1 (fun _ _ h => by cases h)
            obtain ⟨g2, cp2, hA⟩ := own_some hI (show 0 < its.length by omega)
            injection hA with hA1 hA2 hA3
            subst hA1 hA3
            have hc : ∀ j, j < 7 → wr.cell? ⟨g2, n * 7 + j, none⟩ = x.cells[j]? := fun j hj => by
              rw [hI.cellAt (n * 7 + j) (by (try dsimp only); omega)]
              exact icells_at its n x hx j hj
            obtain ⟨⟨Ax, lx, cx, hxk⟩, Ay, ly, cy, hyk⟩ := HO.out.2.2.2.2 x (List.mem_of_getElem? hx)
            obtain ⟨g4, cp4, hA⟩ := own_some HV.out (show 0 < its.length by omega)
            injection hA with hA1 hA2 hA3
            subst hA1 hA3
            obtain ⟨g3, cp3, hA⟩ := own_some HK.out (show 0 < its.length by omega)
            injection hA with hA1 hA2 hA3
            subst hA1 hA3
            obtain ⟨xk, xraw, xat, xstr, xp, xkv, xiv⟩ := x
            dsimp only at hxk hyk hqk hqr
            subst hxk hyk
            have c0 := hc 0 (by omega)
            have c1 := hc 1 (by omega)
            have c2 := hc 2 (by omega)
            have c3 := hc 3 (by omega)
            have c4 := hc 4 (by omega)
            have c5 := hc 5 (by omega)
            have c6 := hc 6 (by omega)
            unfold It.cells at c0 c1 c2 c3 c4 c5 c6
            simp only [List.getElem?_cons_zero, List.getElem?_cons_succ, Nat.add_zero] at c0 c1 c2 c3 c4 c5 c6
            have HX := Lib.hid (And.intro hkn (And.intro hvn (And.intro hqk (And.intro hqr hkey))))
            clear hc hI hx hkn hvn hqk hqr hkey
            have HUX := Lib.hid (hup.out.alloc (.cells #[.int .i64 xk, .string xraw, .int .i64 xat, .string (strOfNums xstr), .bool xp, .slice Ax lx cx, .slice Ay ly cy] 25))
            have HBX := Lib.hid (Blk.new wr 25 #[.int .i64 xk, .string xraw, .int .i64 xat, .string (strOfNums xstr), .bool xp, .slice Ax lx cx, .slice Ay ly cy])
            go_upto_region 14 with fail
            clear c0 c1 c2 c3 c4 c5 c6
            obtain ⟨X, hX⟩ : ∃ X : World, X = wr.alloc (.cells #[.int .i64 xk, .string xraw, .int .i64 xat, .string (strOfNums xstr), .bool xp, .slice Ax lx cx, .slice Ay ly cy] 25) := ⟨_, rfl⟩
            rw [← hX] at HUX HBX
            rw [← hX]
            clear hX
            obtain ⟨xb, hxb⟩ : ∃ xb, xb = wr.heap.size := ⟨_, rfl⟩
            rw [← hxb] at HBX
            rw [← hxb]
            clear hxb
            obtain ⟨hkn, hvn, hqk, hqr, hkey⟩ := HX.out
            obtain ⟨qk, qraw, qstr, qx, qix⟩ := q
            dsimp only at hqk hqr
            subst hqk hqr
            have hV := HUX.out.owns HV.out (fun _ _ h => by cases h)
            have v0 := hV.cellAt (n * 6 + 0) (by omega)
            have v1 := hV.cellAt (n * 6 + 1) (by omega)
            rw [vrow_at vl n _ tq hvn _ (by omega)] at v0 v1
            unfold Rs.vcells at v0 v1
            have x0 := HBX.out.cell 0
            have x1 := HBX.out.cell 1
            have hT := HB4.out.upd HUX.out (by simp)
            have t0 := hT.cell 0
            have t1 := hT.cell 1
            have t2 := hT.cell 2
            have t3 := hT.cell 3
            have t4 := hT.cell 4
            have t5 := hT.cell 5
            have t6 := hT.cell 6
            simp only [List.getElem?_toArray, List.getElem?_cons_zero, List.getElem?_cons_succ, Nat.add_zero] at v0 v1 x0 x1 t0 t1 t2 t3 t4 t5 t6
            cases keys with
            | false =>
              refine wp_region_held_drew (S := (fun w' => w'.cell? ⟨g4, n * 6, none⟩ = some (.int .i64 qk) ∧ w'.cell? ⟨g4, n * 6 + 1, none⟩ = some (.string qraw) ∧ w'.cell? ⟨xb, 0, none⟩ = some (.int .i64 qk) ∧ w'.cell? ⟨xb, 1, none⟩ = some (.string qraw) ∧ w'.cell? ⟨w1.heap.size, 0, none⟩ = some (.int .i64 5) ∧ w'.cell? ⟨w1.heap.size, 1, none⟩ = some (.string raw) ∧ w'.cell? ⟨w1.heap.size, 2, none⟩ = some (.int .i64 i) ∧ w'.cell? ⟨w1.heap.size, 3, none⟩ = some (.string (strOfNums o)) ∧ w'.cell? ⟨w1.heap.size, 4, none⟩ = some (.bool true) ∧ w'.cell? ⟨w1.heap.size, 5, none⟩ = some (.slice A1 ks.length n1) ∧ w'.cell? ⟨w1.heap.size, 6, none⟩ = some (.slice (some ⟨g2, 0, none⟩) its.length n2))) (by kernel_rfl) ?_ (fun hH0 => ?_)
              · exact ⟨v0, v1, x0, x1, t0, t1, t2, t3, t4, t5, t6⟩
              clear hkn hvn hkey hV hT
              refine wpAnyH_take (i := 0) (v := ?_) rfl (by kernel_rfl) (by kernel_rfl) (by kernel_rfl) (fun _ _ _ h => h) (Or.inl ⟨by rfl, ?_⟩) hH0 ?_
              rotate_left
              · intro w hSw; (try dsimp only at hSw); go_simp
                all_goals (with_reducible rfl)
              try simp only [Act.put, List.getElem_toArray, List.getElem_cons_zero, List.getElem_cons_succ, List.setIfInBounds_toArray, List.set_cons_zero, List.set_cons_succ]
              refine wpAnyH_take (i := 1) (v := ?_) rfl (by kernel_rfl) (by kernel_rfl) (by kernel_rfl) (fun _ _ _ h => h) (Or.inl ⟨by rfl, ?_⟩) hH0 ?_
              rotate_left
              · intro w hSw; (try dsimp only at hSw); go_simp
                all_goals (with_reducible rfl)
              try simp only [Act.put, List.getElem_toArray, List.getElem_cons_zero, List.getElem_cons_succ, List.setIfInBounds_toArray, List.set_cons_zero, List.set_cons_succ]
              refine wpAnyH_take (i := 2) (v := ?_) rfl (by kernel_rfl) (by kernel_rfl) (by kernel_rfl) (fun _ _ _ h => h) (Or.inl ⟨by rfl, ?_⟩) hH0 ?_
              rotate_left
              · intro w hSw; (try dsimp only at hSw); go_simp
                all_goals (with_reducible rfl)
              try simp only [Act.put, List.getElem_toArray, List.getElem_cons_zero, List.getElem_cons_succ, List.setIfInBounds_toArray, List.set_cons_zero, List.set_cons_succ]
              refine wpAnyH_take (i := 3) (v := ?_) rfl (by kernel_rfl) (by kernel_rfl) (by kernel_rfl) (fun _ _ _ h => h) (Or.inl ⟨by rfl, ?_⟩) hH0 ?_
              rotate_left
              · intro w hSw; (try dsimp only at hSw); go_simp
                all_goals (with_reducible rfl)
              try simp only [Act.put, List.getElem_toArray, List.getElem_cons_zero, List.getElem_cons_succ, List.setIfInBounds_toArray, List.set_cons_zero, List.set_cons_succ]
              refine wpAnyH_take (i := 4) (v := ?_) rfl (by kernel_rfl) (by kernel_rfl) (by kernel_rfl) (fun _ _ _ h => h) (Or.inl ⟨by rfl, ?_⟩) hH0 ?_
              rotate_left
              · intro w hSw; (try dsimp only at hSw); go_simp
                all_goals (with_reducible rfl)
              try simp only [Act.put, List.getElem_toArray, List.getElem_cons_zero, List.getElem_cons_succ, List.setIfInBounds_toArray, List.set_cons_zero, List.set_cons_succ]
              refine wpAnyH_take (i := 5) (v := ?_) rfl (by kernel_rfl) (by kernel_rfl) (by kernel_rfl) (fun _ _ _ h => h) (Or.inl ⟨by rfl, ?_⟩) hH0 ?_
              rotate_left
              · intro w hSw; (try dsimp only at hSw); go_simp
                all_goals (with_reducible rfl)
              try simp only [Act.put, List.getElem_toArray, List.getElem_cons_zero, List.getElem_cons_succ, List.setIfInBounds_toArray, List.set_cons_zero, List.set_cons_succ]
              refine wpAnyH_take (i := 6) (v := ?_) rfl (by kernel_rfl) (by kernel_rfl) (by kernel_rfl) (fun _ _ _ h => h) (Or.inl ⟨by rfl, ?_⟩) hH0 ?_
              rotate_left
              · intro w hSw; (try dsimp only at hSw); go_simp
                all_goals (with_reducible rfl)
              try simp only [Act.put, List.getElem_toArray, List.getElem_cons_zero, List.getElem_cons_succ, List.setIfInBounds_toArray, List.set_cons_zero, List.set_cons_succ]
              refine wpAnyH_take (i := 7) (v := .bool false) rfl (by kernel_rfl) (by kernel_rfl) (by kernel_rfl) (fun _ _ _ h => h) (Or.inl ⟨by rfl, ?_⟩) hH0 ?_
              · intro w hSw; (try dsimp only at hSw); go_simp
                all_goals (with_reducible rfl)
              try simp only [Act.put, List.getElem_toArray, List.getElem_cons_zero, List.getElem_cons_succ, List.setIfInBounds_toArray, List.set_cons_zero, List.set_cons_succ]
              refine wpAnyH_take (i := 8) (v := .bool false) rfl (by kernel_rfl) (by kernel_rfl) (by kernel_rfl) (fun _ _ _ h => h) (Or.inl ⟨by rfl, ?_⟩) hH0 ?_
              · intro w hSw; (try dsimp only at hSw); go_simp
                all_goals (with_reducible rfl)
              try simp only [Act.put, List.getElem_toArray, List.getElem_cons_zero, List.getElem_cons_succ, List.setIfInBounds_toArray, List.set_cons_zero, List.set_cons_succ]
              refine wpAnyH_take (i := 9) (v := ?_) rfl (by kernel_rfl) (by kernel_rfl) (by kernel_rfl) (fun _ _ _ h => h) (Or.inl ⟨by rfl, ?_⟩) hH0 ?_
              rotate_left
              · intro w hSw; (try dsimp only at hSw); go_simp
                all_goals (with_reducible rfl)
              try simp only [Act.put, List.getElem_toArray, List.getElem_cons_zero, List.getElem_cons_succ, List.setIfInBounds_toArray, List.set_cons_zero, List.set_cons_succ]
              refine wpAnyH_take (i := 10) (v := ?_) rfl (by kernel_rfl) (by kernel_rfl) (by kernel_rfl) (fun _ _ _ h => h) (Or.inl ⟨by rfl, ?_⟩) hH0 ?_
              rotate_left
              · intro w hSw; (try dsimp only at hSw); go_simp
                all_goals (with_reducible rfl)
              try simp only [Act.put, List.getElem_toArray, List.getElem_cons_zero, List.getElem_cons_succ, List.setIfInBounds_toArray, List.set_cons_zero, List.set_cons_succ]
              refine wpAnyH_take (i := 11) (v := ?_) rfl (by kernel_rfl) (by kernel_rfl) (by kernel_rfl) (fun _ _ _ h => h) (Or.inl ⟨by rfl, ?_⟩) hH0 ?_
              rotate_left
              · intro w hSw; (try dsimp only at hSw); go_simp
                all_goals (with_reducible rfl)
              try simp only [Act.put, List.getElem_toArray, List.getElem_cons_zero, List.getElem_cons_succ, List.setIfInBounds_toArray, List.set_cons_zero, List.set_cons_succ]
              refine wpAnyH_take (i := 12) (v := ?_) rfl (by kernel_rfl) (by kernel_rfl) (by kernel_rfl) (fun _ _ _ h => h) (Or.inl ⟨by rfl, ?_⟩) hH0 ?_
              rotate_left
              · intro w hSw; (try dsimp only at hSw); go_simp
                all_goals (with_reducible rfl)
              try simp only [Act.put, List.getElem_toArray, List.getElem_cons_zero, List.getElem_cons_succ, List.setIfInBounds_toArray, List.set_cons_zero, List.set_cons_succ]
              refine wpAnyH_take (i := 13) (v := ?_) rfl (by kernel_rfl) (by kernel_rfl) (by kernel_rfl) (fun _ _ _ h => h) (Or.inl ⟨by rfl, ?_⟩) hH0 ?_
              rotate_left
              · intro w hSw; (try dsimp only at hSw); go_simp
                all_goals (with_reducible rfl)
              try simp only [Act.put, List.getElem_toArray, List.getElem_cons_zero, List.getElem_cons_succ, List.setIfInBounds_toArray, List.set_cons_zero, List.set_cons_succ]
              refine wpAnyH_take (i := 14) (v := ?_) rfl (by kernel_rfl) (by kernel_rfl) (by kernel_rfl) (fun _ _ _ h => h) (Or.inl ⟨by rfl, ?_⟩) hH0 ?_
              rotate_left
              · intro w hSw; (try dsimp only at hSw); go_simp
                all_goals (with_reducible rfl)
              try simp only [Act.put, List.getElem_toArray, List.getElem_cons_zero, List.getElem_cons_succ, List.setIfInBounds_toArray, List.set_cons_zero, List.set_cons_succ]
              refine wpAnyH_take (i := 15) (v := ?_) rfl (by kernel_rfl) (by kernel_rfl) (by kernel_rfl) (fun _ _ _ h => h) (Or.inl ⟨by rfl, ?_⟩) hH0 ?_
              rotate_left
              · intro w hSw; (try dsimp only at hSw); go_simp
                all_goals (with_reducible rfl)
              try simp only [Act.put, List.getElem_toArray, List.getElem_cons_zero, List.getElem_cons_succ, List.setIfInBounds_toArray, List.set_cons_zero, List.set_cons_succ]
              refine wpAnyH_take (i := 16) (v := .bool false) rfl (by kernel_rfl) (by kernel_rfl) (by kernel_rfl) (fun _ _ _ h => h) (Or.inl ⟨by rfl, ?_⟩) hH0 ?_
              · intro w hSw; (try dsimp only at hSw); go_simp
                all_goals (with_reducible rfl)
              try simp only [Act.put, List.getElem_toArray, List.getElem_cons_zero, List.getElem_cons_succ, List.setIfInBounds_toArray, List.set_cons_zero, List.set_cons_succ]
              refine wpAnyH_take (i := 17) (v := .bool false) rfl (by kernel_rfl) (by kernel_rfl) (by kernel_rfl) (fun _ _ _ h => h) (Or.inl ⟨by rfl, ?_⟩) hH0 ?_
              · intro w hSw; (try dsimp only at hSw); go_simp
                all_goals (with_reducible rfl)
              try simp only [Act.put, List.getElem_toArray, List.getElem_cons_zero, List.getElem_cons_succ, List.setIfInBounds_toArray, List.set_cons_zero, List.set_cons_succ]
              refine wpAnyH_take (i := 18) (v := .bool false) rfl (by kernel_rfl) (by kernel_rfl) (by kernel_rfl) (fun _ _ _ h => h) (Or.inl ⟨by rfl, ?_⟩) hH0 ?_
              · intro w hSw; (try dsimp only at hSw); go_simp
                all_goals (with_reducible rfl)
              try simp only [Act.put, List.getElem_toArray, List.getElem_cons_zero, List.getElem_cons_succ, List.setIfInBounds_toArray, List.set_cons_zero, List.set_cons_succ]
              refine wpAnyH_take (i := 19) (v := ?_) rfl (by kernel_rfl) (by kernel_rfl) (by kernel_rfl) (fun _ _ _ h => h) (Or.inl ⟨by rfl, ?_⟩) hH0 ?_
              rotate_left
              · intro w hSw; (try dsimp only at hSw); go_simp
                all_goals (with_reducible rfl)
              try simp only [Act.put, List.getElem_toArray, List.getElem_cons_zero, List.getElem_cons_succ, List.setIfInBounds_toArray, List.set_cons_zero, List.set_cons_succ]
              refine wpAnyH_ready (rs := [20]) (by kernel_rfl) (by simp) ?_
              refine AllReadyH.cons rfl (fun K hK => ?_) AllReadyH.nil
              go_simp
              refine (OB.out _).mono ?_
              rintro e2 w5 ⟨rfl, hu5⟩
              have hkp : ∀ (p : Addr) (u : Value), X.cell? p = some u → w5.cell? p = some u := fun p u hp => (hu5.cell (p := p) (World.block_lt_of_cell? X p hp) (by simp)).trans hp
              refine hK.out _ _ ⟨hkp _ _ v0, hkp _ _ v1, hkp _ _ x0, hkp _ _ x1, hkp _ _ t0, hkp _ _ t1, hkp _ _ t2, hkp _ _ t3, hkp _ _ t4, hkp _ _ t5, hkp _ _ t6⟩ (fun hH2 => ?_)
              clear hK K
              refine wpAnyH_take (i := 21) (v := ?_) rfl (by kernel_rfl) (by kernel_rfl) (by kernel_rfl) (fun _ _ _ h => h) (Or.inl ⟨by rfl, ?_⟩) hH2 ?_
              rotate_left
              · intro w hSw; (try dsimp only at hSw); go_simp
                all_goals (with_reducible rfl)
              try simp only [Act.put, List.getElem_toArray, List.getElem_cons_zero, List.getElem_cons_succ, List.setIfInBounds_toArray, List.set_cons_zero, List.set_cons_succ]
              refine wpAnyH_take (i := 22) (v := undef) rfl (by kernel_rfl) (by kernel_rfl) (by kernel_rfl) (fun _ _ _ h => h) (Or.inr ⟨by rfl, rfl⟩) hH2 ?_
              try simp only [Act.put, List.getElem_toArray, List.getElem_cons_zero, List.getElem_cons_succ, List.setIfInBounds_toArray, List.set_cons_zero, List.set_cons_succ]
              refine wpAnyH_take (i := 23) (v := undef) rfl (by kernel_rfl) (by kernel_rfl) (by kernel_rfl) (fun _ _ _ h => h) (Or.inr ⟨by rfl, rfl⟩) hH2 ?_
              try simp only [Act.put, List.getElem_toArray, List.getElem_cons_zero, List.getElem_cons_succ, List.setIfInBounds_toArray, List.set_cons_zero, List.set_cons_succ]
              refine wpAnyH_take (i := 24) (v := undef) rfl (by kernel_rfl) (by kernel_rfl) (by kernel_rfl) (fun _ _ _ h => h) (Or.inr ⟨by rfl, rfl⟩) hH2 ?_
              try simp only [Act.put, List.getElem_toArray, List.getElem_cons_zero, List.getElem_cons_succ, List.setIfInBounds_toArray, List.set_cons_zero, List.set_cons_succ]
              refine wpAnyH_take (i := 25) (v := undef) rfl (by kernel_rfl) (by kernel_rfl) (by kernel_rfl) (fun _ _ _ h => h) (Or.inr ⟨by rfl, rfl⟩) hH2 ?_
              try simp only [Act.put, List.getElem_toArray, List.getElem_cons_zero, List.getElem_cons_succ, List.setIfInBounds_toArray, List.set_cons_zero, List.set_cons_succ]
              refine wpAnyH_take (i := 26) (v := undef) rfl (by kernel_rfl) (by kernel_rfl) (by kernel_rfl) (fun _ _ _ h => h) (Or.inr ⟨by rfl, rfl⟩) hH2 ?_
              try simp only [Act.put, List.getElem_toArray, List.getElem_cons_zero, List.getElem_cons_succ, List.setIfInBounds_toArray, List.set_cons_zero, List.set_cons_succ]
              refine wpAnyH_take (i := 27) (v := undef) rfl (by kernel_rfl) (by kernel_rfl) (by kernel_rfl) (fun _ _ _ h => h) (Or.inr ⟨by rfl, rfl⟩) hH2 ?_
              try simp only [Act.put, List.getElem_toArray, List.getElem_cons_zero, List.getElem_cons_succ, List.setIfInBounds_toArray, List.set_cons_zero, List.set_cons_succ]
              refine wpAnyH_take (i := 28) (v := undef) rfl (by kernel_rfl) (by kernel_rfl) (by kernel_rfl) (fun _ _ _ h => h) (Or.inr ⟨by rfl, rfl⟩) hH2 ?_
              try simp only [Act.put, List.getElem_toArray, List.getElem_cons_zero, List.getElem_cons_succ, List.setIfInBounds_toArray, List.set_cons_zero, List.set_cons_succ]
              refine wpAnyH_take (i := 29) (v := undef) rfl (by kernel_rfl) (by kernel_rfl) (by kernel_rfl) (fun _ _ _ h => h) (Or.inr ⟨by rfl, rfl⟩) hH2 ?_
              try simp only [Act.put, List.getElem_toArray, List.getElem_cons_zero, List.getElem_cons_succ, List.setIfInBounds_toArray, List.set_cons_zero, List.set_cons_succ]
              refine wpAnyH_take (i := 30) (v := undef) rfl (by kernel_rfl) (by kernel_rfl) (by kernel_rfl) (fun _ _ _ h => h) (Or.inr ⟨by rfl, rfl⟩) hH2 ?_
              try simp only [Act.put, List.getElem_toArray, List.getElem_cons_zero, List.getElem_cons_succ, List.setIfInBounds_toArray, List.set_cons_zero, List.set_cons_succ]
              refine wpAnyH_take (i := 31) (v := undef) rfl (by kernel_rfl) (by kernel_rfl) (by kernel_rfl) (fun _ _ _ h => h) (Or.inr ⟨by rfl, rfl⟩) hH2 ?_
              try simp only [Act.put, List.getElem_toArray, List.getElem_cons_zero, List.getElem_cons_succ, List.setIfInBounds_toArray, List.set_cons_zero, List.set_cons_succ]
              refine wpAnyH_take (i := 32) (v := undef) rfl (by kernel_rfl) (by kernel_rfl) (by kernel_rfl) (fun _ _ _ h => h) (Or.inr ⟨by rfl, rfl⟩) hH2 ?_
              try simp only [Act.put, List.getElem_toArray, List.getElem_cons_zero, List.getElem_cons_succ, List.setIfInBounds_toArray, List.set_cons_zero, List.set_cons_succ]
              refine wpAnyH_take (i := 33) (v := .bool false) rfl (by kernel_rfl) (by kernel_rfl) (by kernel_rfl) (fun _ _ _ h => h) (Or.inl ⟨by rfl, ?_⟩) hH2 ?_
              · intro w hSw; (try dsimp only at hSw); go_simp
                all_goals (with_reducible rfl)
              try simp only [Act.put, List.getElem_toArray, List.getElem_cons_zero, List.getElem_cons_succ, List.setIfInBounds_toArray, List.set_cons_zero, List.set_cons_succ]
              refine wpAnyH_take (i := 34) (v := .bool false) rfl (by kernel_rfl) (by kernel_rfl) (by kernel_rfl) (fun _ _ _ h => h) (Or.inl ⟨by rfl, ?_⟩) hH2 ?_
              · intro w hSw; (try dsimp only at hSw); go_simp
                all_goals (with_reducible rfl)
              try simp only [Act.put, List.getElem_toArray, List.getElem_cons_zero, List.getElem_cons_succ, List.setIfInBounds_toArray, List.set_cons_zero, List.set_cons_succ]
              refine wpAnyH_done (by kernel_rfl) ?_ _
              go_wp2_with fail
              go_roundg (its.length - (n + 1))
              case measure => have := hh.out; omega
              case rel => exact ⟨n + 1, hlt, by go_num, (HUX.out.drew).trans hu5, rfl⟩
            | true =>
              obtain ⟨key, hkk, hks⟩ := hkey rfl
              have h1 := HUX.out.owns HT4.out.1 (fun _ _ h => by cases h)
              have hnk : n < ks.length := by rw [HL3.out rfl]; exact hlt
              obtain ⟨g1, cc1, hA⟩ := own_some h1 (show 0 < ks.length by omega)
              injection hA with hA1 hA2 hA3
              subst hA1 hA3
              have k0 := h1.cellAt n (by (try dsimp only); omega)
              (try dsimp only at k0)
              unfold kcells at k0
              rw [List.getElem?_map, hkk] at k0
              have hK := HUX.out.owns HK.out (fun _ _ h => by cases h)
              have k1 := hK.cellAt (n * 6 + 2) (by omega)
              rw [vrow_at kl n _ th hkn _ (by omega)] at k1
              unfold Rs.vcells at k1
              simp only [List.getElem?_cons_zero, List.getElem?_cons_succ, Option.map_some] at k0 k1
              rw [hks] at k1
              refine wp_region_held_drew (S := (fun w' => w'.cell? ⟨g4, n * 6, none⟩ = some (.int .i64 qk) ∧ w'.cell? ⟨g4, n * 6 + 1, none⟩ = some (.string qraw) ∧ w'.cell? ⟨xb, 0, none⟩ = some (.int .i64 qk) ∧ w'.cell? ⟨xb, 1, none⟩ = some (.string qraw) ∧ w'.cell? ⟨w1.heap.size, 0, none⟩ = some (.int .i64 5) ∧ w'.cell? ⟨w1.heap.size, 1, none⟩ = some (.string raw) ∧ w'.cell? ⟨w1.heap.size, 2, none⟩ = some (.int .i64 i) ∧ w'.cell? ⟨w1.heap.size, 3, none⟩ = some (.string (strOfNums o)) ∧ w'.cell? ⟨w1.heap.size, 4, none⟩ = some (.bool true) ∧ w'.cell? ⟨w1.heap.size, 5, none⟩ = some (.slice (some ⟨g1, 0, none⟩) ks.length n1) ∧ w'.cell? ⟨w1.heap.size, 6, none⟩ = some (.slice (some ⟨g2, 0, none⟩) its.length n2) ∧ w'.cell? ⟨g1, n, none⟩ = some (.string (strOfNums key)) ∧ w'.cell? ⟨g3, n * 6 + 2, none⟩ = some (.string (strOfNums key)))) (by kernel_rfl) ?_ (fun hH0 => ?_)
              · exact ⟨v0, v1, x0, x1, t0, t1, t2, t3, t4, t5, t6, k0, k1⟩
              clear hkn hvn hkey hV hT h1 hK hkk hks
              refine wpAnyH_take (i := 0) (v := ?_) rfl (by kernel_rfl) (by kernel_rfl) (by kernel_rfl) (fun _ _ _ h => h) (Or.inl ⟨by rfl, ?_⟩) hH0 ?_
              rotate_left
              · intro w hSw; (try dsimp only at hSw); go_simp
                all_goals (with_reducible rfl)
              try simp only [Act.put, List.getElem_toArray, List.getElem_cons_zero, List.getElem_cons_succ, List.setIfInBounds_toArray, List.set_cons_zero, List.set_cons_succ]
              refine wpAnyH_take (i := 1) (v := ?_) rfl (by kernel_rfl) (by kernel_rfl) (by kernel_rfl) (fun _ _ _ h => h) (Or.inl ⟨by rfl, ?_⟩) hH0 ?_
              rotate_left
              · intro w hSw; (try dsimp only at hSw); go_simp
                all_goals (with_reducible rfl)
              try simp only [Act.put, List.getElem_toArray, List.getElem_cons_zero, List.getElem_cons_succ, List.setIfInBounds_toArray, List.set_cons_zero, List.set_cons_succ]
              refine wpAnyH_take (i := 2) (v := ?_) rfl (by kernel_rfl) (by kernel_rfl) (by kernel_rfl) (fun _ _ _ h => h) (Or.inl ⟨by rfl, ?_⟩) hH0 ?_
              rotate_left
              · intro w hSw; (try dsimp only at hSw); go_simp
                all_goals (with_reducible rfl)
              try simp only [Act.put, List.getElem_toArray, List.getElem_cons_zero, List.getElem_cons_succ, List.setIfInBounds_toArray, List.set_cons_zero, List.set_cons_succ]
              refine wpAnyH_take (i := 3) (v := ?_) rfl (by kernel_rfl) (by kernel_rfl) (by kernel_rfl) (fun _ _ _ h => h) (Or.inl ⟨by rfl, ?_⟩) hH0 ?_
              rotate_left
              · intro w hSw; (try dsimp only at hSw); go_simp
                all_goals (with_reducible rfl)
              try simp only [Act.put, List.getElem_toArray, List.getElem_cons_zero, List.getElem_cons_succ, List.setIfInBounds_toArray, List.set_cons_zero, List.set_cons_succ]
              refine wpAnyH_take (i := 4) (v := ?_) rfl (by kernel_rfl) (by kernel_rfl) (by kernel_rfl) (fun _ _ _ h => h) (Or.inl ⟨by rfl, ?_⟩) hH0 ?_
              rotate_left
              · intro w hSw; (try dsimp only at hSw); go_simp
                all_goals (with_reducible rfl)
              try simp only [Act.put, List.getElem_toArray, List.getElem_cons_zero, List.getElem_cons_succ, List.setIfInBounds_toArray, List.set_cons_zero, List.set_cons_succ]
              refine wpAnyH_take (i := 5) (v := ?_) rfl (by kernel_rfl) (by kernel_rfl) (by kernel_rfl) (fun _ _ _ h => h) (Or.inl ⟨by rfl, ?_⟩) hH0 ?_
              rotate_left
              · intro w hSw; (try dsimp only at hSw); go_simp
                all_goals (with_reducible rfl)
              try simp only [Act.put, List.getElem_toArray, List.getElem_cons_zero, List.getElem_cons_succ, List.setIfInBounds_toArray, List.set_cons_zero, List.set_cons_succ]
              refine wpAnyH_take (i := 6) (v := ?_) rfl (by kernel_rfl) (by kernel_rfl) (by kernel_rfl) (fun _ _ _ h => h) (Or.inl ⟨by rfl, ?_⟩) hH0 ?_
              rotate_left
              · intro w hSw; (try dsimp only at hSw); go_simp
                all_goals (with_reducible rfl)
              try simp only [Act.put, List.getElem_toArray, List.getElem_cons_zero, List.getElem_cons_succ, List.setIfInBounds_toArray, List.set_cons_zero, List.set_cons_succ]
              refine wpAnyH_take (i := 7) (v := .bool false) rfl (by kernel_rfl) (by kernel_rfl) (by kernel_rfl) (fun _ _ _ h => h) (Or.inl ⟨by rfl, ?_⟩) hH0 ?_
              · intro w hSw; (try dsimp only at hSw); go_simp
                all_goals (with_reducible rfl)
              try simp only [Act.put, List.getElem_toArray, List.getElem_cons_zero, List.getElem_cons_succ, List.setIfInBounds_toArray, List.set_cons_zero, List.set_cons_succ]
              refine wpAnyH_take (i := 8) (v := .bool false) rfl (by kernel_rfl) (by kernel_rfl) (by kernel_rfl) (fun _ _ _ h => h) (Or.inl ⟨by rfl, ?_⟩) hH0 ?_
              · intro w hSw; (try dsimp only at hSw); go_simp
                all_goals (with_reducible rfl)
              try simp only [Act.put, List.getElem_toArray, List.getElem_cons_zero, List.getElem_cons_succ, List.setIfInBounds_toArray, List.set_cons_zero, List.set_cons_succ]
              refine wpAnyH_take (i := 9) (v := ?_) rfl (by kernel_rfl) (by kernel_rfl) (by kernel_rfl) (fun _ _ _ h => h) (Or.inl ⟨by rfl, ?_⟩) hH0 ?_
              rotate_left
              · intro w hSw; (try dsimp only at hSw); go_simp
                all_goals (with_reducible rfl)
              try simp only [Act.put, List.getElem_toArray, List.getElem_cons_zero, List.getElem_cons_succ, List.setIfInBounds_toArray, List.set_cons_zero, List.set_cons_succ]
              refine wpAnyH_take (i := 10) (v := ?_) rfl (by kernel_rfl) (by kernel_rfl) (by kernel_rfl) (fun _ _ _ h => h) (Or.inl ⟨by rfl, ?_⟩) hH0 ?_
              rotate_left
              · intro w hSw; (try dsimp only at hSw); go_simp
                all_goals (with_reducible rfl)
              try simp only [Act.put, List.getElem_toArray, List.getElem_cons_zero, List.getElem_cons_succ, List.setIfInBounds_toArray, List.set_cons_zero, List.set_cons_succ]
              refine wpAnyH_take (i := 11) (v := ?_) rfl (by kernel_rfl) (by kernel_rfl) (by kernel_rfl) (fun _ _ _ h => h) (Or.inl ⟨by rfl, ?_⟩) hH0 ?_
              rotate_left
              · intro w hSw; (try dsimp only at hSw); go_simp
                all_goals (with_reducible rfl)
              try simp only [Act.put, List.getElem_toArray, List.getElem_cons_zero, List.getElem_cons_succ, List.setIfInBounds_toArray, List.set_cons_zero, List.set_cons_succ]
              refine wpAnyH_take (i := 12) (v := ?_) rfl (by kernel_rfl) (by kernel_rfl) (by kernel_rfl) (fun _ _ _ h => h) (Or.inl ⟨by rfl, ?_⟩) hH0 ?_
              rotate_left
              · intro w hSw; (try dsimp only at hSw); go_simp
                all_goals (with_reducible rfl)
              try simp only [Act.put, List.getElem_toArray, List.getElem_cons_zero, List.getElem_cons_succ, List.setIfInBounds_toArray, List.set_cons_zero, List.set_cons_succ]
              refine wpAnyH_take (i := 13) (v := ?_) rfl (by kernel_rfl) (by kernel_rfl) (by kernel_rfl) (fun _ _ _ h => h) (Or.inl ⟨by rfl, ?_⟩) hH0 ?_
              rotate_left
              · intro w hSw; (try dsimp only at hSw); go_simp
                all_goals (with_reducible rfl)
              try simp only [Act.put, List.getElem_toArray, List.getElem_cons_zero, List.getElem_cons_succ, List.setIfInBounds_toArray, List.set_cons_zero, List.set_cons_succ]
              refine wpAnyH_take (i := 14) (v := ?_) rfl (by kernel_rfl) (by kernel_rfl) (by kernel_rfl) (fun _ _ _ h => h) (Or.inl ⟨by rfl, ?_⟩) hH0 ?_
              rotate_left
              · intro w hSw; (try dsimp only at hSw); go_simp
                all_goals (with_reducible rfl)
              try simp only [Act.put, List.getElem_toArray, List.getElem_cons_zero, List.getElem_cons_succ, List.setIfInBounds_toArray, List.set_cons_zero, List.set_cons_succ]
              refine wpAnyH_take (i := 15) (v := ?_) rfl (by kernel_rfl) (by kernel_rfl) (by kernel_rfl) (fun _ _ _ h => h) (Or.inl ⟨by rfl, ?_⟩) hH0 ?_
              rotate_left
              · intro w hSw; (try dsimp only at hSw); go_simp
                all_goals (with_reducible rfl)
              try simp only [Act.put, List.getElem_toArray, List.getElem_cons_zero, List.getElem_cons_succ, List.setIfInBounds_toArray, List.set_cons_zero, List.set_cons_succ]
              refine wpAnyH_take (i := 16) (v := .bool false) rfl (by kernel_rfl) (by kernel_rfl) (by kernel_rfl) (fun _ _ _ h => h) (Or.inl ⟨by rfl, ?_⟩) hH0 ?_
              · intro w hSw; (try dsimp only at hSw); go_simp
                all_goals (with_reducible rfl)
              try simp only [Act.put, List.getElem_toArray, List.getElem_cons_zero, List.getElem_cons_succ, List.setIfInBounds_toArray, List.set_cons_zero, List.set_cons_succ]
              refine wpAnyH_take (i := 17) (v := .bool false) rfl (by kernel_rfl) (by kernel_rfl) (by kernel_rfl) (fun _ _ _ h => h) (Or.inl ⟨by rfl, ?_⟩) hH0 ?_
              · intro w hSw; (try dsimp only at hSw); go_simp
                all_goals (with_reducible rfl)
              try simp only [Act.put, List.getElem_toArray, List.getElem_cons_zero, List.getElem_cons_succ, List.setIfInBounds_toArray, List.set_cons_zero, List.set_cons_succ]
              refine wpAnyH_take (i := 18) (v := .bool false) rfl (by kernel_rfl) (by kernel_rfl) (by kernel_rfl) (fun _ _ _ h => h) (Or.inl ⟨by rfl, ?_⟩) hH0 ?_
              · intro w hSw; (try dsimp only at hSw); go_simp
                all_goals (with_reducible rfl)
              try simp only [Act.put, List.getElem_toArray, List.getElem_cons_zero, List.getElem_cons_succ, List.setIfInBounds_toArray, List.set_cons_zero, List.set_cons_succ]
              refine wpAnyH_take (i := 19) (v := ?_) rfl (by kernel_rfl) (by kernel_rfl) (by kernel_rfl) (fun _ _ _ h => h) (Or.inl ⟨by rfl, ?_⟩) hH0 ?_
              rotate_left
              · intro w hSw; (try dsimp only at hSw); go_simp
                all_goals (with_reducible rfl)
              try simp only [Act.put, List.getElem_toArray, List.getElem_cons_zero, List.getElem_cons_succ, List.setIfInBounds_toArray, List.set_cons_zero, List.set_cons_succ]
              refine wpAnyH_ready (rs := [20]) (by kernel_rfl) (by simp) ?_
              refine AllReadyH.cons rfl (fun K hK => ?_) AllReadyH.nil
              go_simp
              refine (OB.out _).mono ?_
              rintro e2 w5 ⟨rfl, hu5⟩
              have hkp : ∀ (p : Addr) (u : Value), X.cell? p = some u → w5.cell? p = some u := fun p u hp => (hu5.cell (p := p) (World.block_lt_of_cell? X p hp) (by simp)).trans hp
              refine hK.out _ _ ⟨hkp _ _ v0, hkp _ _ v1, hkp _ _ x0, hkp _ _ x1, hkp _ _ t0, hkp _ _ t1, hkp _ _ t2, hkp _ _ t3, hkp _ _ t4, hkp _ _ t5, hkp _ _ t6, hkp _ _ k0, hkp _ _ k1⟩ (fun hH2 => ?_)
              clear hK K
              refine wpAnyH_take (i := 21) (v := ?_) rfl (by kernel_rfl) (by kernel_rfl) (by kernel_rfl) (fun _ _ _ h => h) (Or.inl ⟨by rfl, ?_⟩) hH2 ?_
              rotate_left
              · intro w hSw; (try dsimp only at hSw); go_simp
                all_goals (with_reducible rfl)
              try simp only [Act.put, List.getElem_toArray, List.getElem_cons_zero, List.getElem_cons_succ, List.setIfInBounds_toArray, List.set_cons_zero, List.set_cons_succ]
              refine wpAnyH_take (i := 22) (v := ?_) rfl (by kernel_rfl) (by kernel_rfl) (by kernel_rfl) (fun _ _ _ h => h) (Or.inl ⟨by rfl, ?_⟩) hH2 ?_
              rotate_left
              · intro w hSw; (try dsimp only at hSw); go_simp
                all_goals (with_reducible rfl)
              try simp only [Act.put, List.getElem_toArray, List.getElem_cons_zero, List.getElem_cons_succ, List.setIfInBounds_toArray, List.set_cons_zero, List.set_cons_succ]
              refine wpAnyH_take (i := 23) (v := ?_) rfl (by kernel_rfl) (by kernel_rfl) (by kernel_rfl) (fun _ _ _ h => h) (Or.inl ⟨by rfl, ?_⟩) hH2 ?_
              rotate_left
              · intro w hSw; (try dsimp only at hSw); go_simp
                all_goals (with_reducible rfl)
              try simp only [Act.put, List.getElem_toArray, List.getElem_cons_zero, List.getElem_cons_succ, List.setIfInBounds_toArray, List.set_cons_zero, List.set_cons_succ]
              refine wpAnyH_take (i := 24) (v := ?_) rfl (by kernel_rfl) (by kernel_rfl) (by kernel_rfl) (fun _ _ _ h => h) (Or.inl ⟨by rfl, ?_⟩) hH2 ?_
              rotate_left
              · intro w hSw; (try dsimp only at hSw); go_simp
                all_goals (with_reducible rfl)
              try simp only [Act.put, List.getElem_toArray, List.getElem_cons_zero, List.getElem_cons_succ, List.setIfInBounds_toArray, List.set_cons_zero, List.set_cons_succ]
              refine wpAnyH_take (i := 25) (v := ?_) rfl (by kernel_rfl) (by kernel_rfl) (by kernel_rfl) (fun _ _ _ h => h) (Or.inl ⟨by rfl, ?_⟩) hH2 ?_
              rotate_left
              · intro w hSw; (try dsimp only at hSw); go_simp
                all_goals (with_reducible rfl)
              try simp only [Act.put, List.getElem_toArray, List.getElem_cons_zero, List.getElem_cons_succ, List.setIfInBounds_toArray, List.set_cons_zero, List.set_cons_succ]
              refine wpAnyH_take (i := 26) (v := ?_) rfl (by kernel_rfl) (by kernel_rfl) (by kernel_rfl) (fun _ _ _ h => h) (Or.inl ⟨by rfl, ?_⟩) hH2 ?_
              rotate_left
              · intro w hSw; (try dsimp only at hSw); go_simp
                all_goals (with_reducible rfl)
              try simp only [Act.put, List.getElem_toArray, List.getElem_cons_zero, List.getElem_cons_succ, List.setIfInBounds_toArray, List.set_cons_zero, List.set_cons_succ]
              refine wpAnyH_take (i := 27) (v := ?_) rfl (by kernel_rfl) (by kernel_rfl) (by kernel_rfl) (fun _ _ _ h => h) (Or.inl ⟨by rfl, ?_⟩) hH2 ?_
              rotate_left
              · intro w hSw; (try dsimp only at hSw); go_simp
                all_goals (with_reducible rfl)
              try simp only [Act.put, List.getElem_toArray, List.getElem_cons_zero, List.getElem_cons_succ, List.setIfInBounds_toArray, List.set_cons_zero, List.set_cons_succ]
              refine wpAnyH_take (i := 28) (v := ?_) rfl (by kernel_rfl) (by kernel_rfl) (by kernel_rfl) (fun _ _ _ h => h) (Or.inl ⟨by rfl, ?_⟩) hH2 ?_
              rotate_left
              · intro w hSw; (try dsimp only at hSw); go_simp
                all_goals (with_reducible rfl)
              try simp only [Act.put, List.getElem_toArray, List.getElem_cons_zero, List.getElem_cons_succ, List.setIfInBounds_toArray, List.set_cons_zero, List.set_cons_succ]
              refine wpAnyH_take (i := 29) (v := ?_) rfl (by kernel_rfl) (by kernel_rfl) (by kernel_rfl) (fun _ _ _ h => h) (Or.inl ⟨by rfl, ?_⟩) hH2 ?_
              rotate_left
              · intro w hSw; (try dsimp only at hSw); go_simp
                all_goals (with_reducible rfl)
              try simp only [Act.put, List.getElem_toArray, List.getElem_cons_zero, List.getElem_cons_succ, List.setIfInBounds_toArray, List.set_cons_zero, List.set_cons_succ]
              refine wpAnyH_take (i := 30) (v := ?_) rfl (by kernel_rfl) (by kernel_rfl) (by kernel_rfl) (fun _ _ _ h => h) (Or.inl ⟨by rfl, ?_⟩) hH2 ?_
              rotate_left
              · intro w hSw; (try dsimp only at hSw); go_simp
                all_goals (with_reducible rfl)
              try simp only [Act.put, List.getElem_toArray, List.getElem_cons_zero, List.getElem_cons_succ, List.setIfInBounds_toArray, List.set_cons_zero, List.set_cons_succ]
              refine wpAnyH_take (i := 31) (v := ?_) rfl (by kernel_rfl) (by kernel_rfl) (by kernel_rfl) (fun _ _ _ h => h) (Or.inl ⟨by rfl, ?_⟩) hH2 ?_
              rotate_left
              · intro w hSw; (try dsimp only at hSw); go_simp
                all_goals (with_reducible rfl)
              try simp only [Act.put, List.getElem_toArray, List.getElem_cons_zero, List.getElem_cons_succ, List.setIfInBounds_toArray, List.set_cons_zero, List.set_cons_succ]
              refine wpAnyH_take (i := 32) (v := .bool false) rfl (by kernel_rfl) (by kernel_rfl) (by kernel_rfl) (fun _ _ _ h => h) (Or.inl ⟨by rfl, ?_⟩) hH2 ?_
              · intro w hSw; (try dsimp only at hSw); go_simp
                all_goals (with_reducible rfl)
              try simp only [Act.put, List.getElem_toArray, List.getElem_cons_zero, List.getElem_cons_succ, List.setIfInBounds_toArray, List.set_cons_zero, List.set_cons_succ]
              refine wpAnyH_take (i := 33) (v := .bool false) rfl (by kernel_rfl) (by kernel_rfl) (by kernel_rfl) (fun _ _ _ h => h) (Or.inl ⟨by rfl, ?_⟩) hH2 ?_
              · intro w hSw; (try dsimp only at hSw); go_simp
                all_goals (with_reducible rfl)
              try simp only [Act.put, List.getElem_toArray, List.getElem_cons_zero, List.getElem_cons_succ, List.setIfInBounds_toArray, List.set_cons_zero, List.set_cons_succ]
              refine wpAnyH_take (i := 34) (v := .bool false) rfl (by kernel_rfl) (by kernel_rfl) (by kernel_rfl) (fun _ _ _ h => h) (Or.inl ⟨by rfl, ?_⟩) hH2 ?_
              · intro w hSw; (try dsimp only at hSw); go_simp
                all_goals (with_reducible rfl)
              try simp only [Act.put, List.getElem_toArray, List.getElem_cons_zero, List.getElem_cons_succ, List.setIfInBounds_toArray, List.set_cons_zero, List.set_cons_succ]
              refine wpAnyH_done (by kernel_rfl) ?_ _
              go_wp2_with fail
              go_roundg (its.length - (n + 1))
              case measure => have := hh.out; omega
              case rel => exact ⟨n + 1, hlt, by go_num, (HUX.out.drew).trans hu5, rfl⟩
          · have hE : n = its.length := by omega
            subst hE
            go_wp2_with fail
            go_ret
            exact ⟨rfl, HU4.out.trans hup.out⟩
      · have hk5 : kind ≠ 5 := by rw [hk]; exact kind_five hc5
        have d5 : (kind != 5) = true := bne_iff_ne.2 hk5
        have d5' : decide (kind ≠ 5) = true := decide_eq_true hk5
        have HP : Hid (∀ W, Upd [] w1 W → Calls Tryz.prog 16 #[.string s] W fun e w' => PairOut W (fun kx vx => kx.length = 1 ∧ OneQ kind raw kx vx) e w') := fun W hu => by
          rw [hk, hraw]
          exact pairs_plain W B (HG.out.upd (hu1.trans hu)).flt s i j hs16 hws0 hwsj hsh (fun h => ⟨o, hT.2.2.1 h⟩) hc5
        have HB := Lib.hid hb0
        have HU1 := Lib.hid hu1
        have HUA := Lib.hid hua
        have HU2 := Lib.hid hu2
        clear hT hc5 hk hraw hsh hws0 hwsj hij hj hb0 hu1 hua hu2
        go_upto_region 8 with (go_at_call 16; refine (HP.out _ HUA.out).mono ?_; rintro e w4 ⟨kv, vv, kl, vl, rfl, hko, hvo, hm, hu4⟩; obtain ⟨A3, n3, h3⟩ := own_slice hko; obtain ⟨A4, n4, h4⟩ := own_slice hvo; subst h3 h4; have HB4 := Lib.hid (HB.out.upd hu4 (by simp)); have HU4 := Lib.hid (HU2.out.trans hu4); have HM := Lib.hid hm; have HV := Lib.hid hvo; clear hko hvo hm hu4; have tf := HB4.out.frozen; have t0 := HB4.out.cell 0; have t1 := HB4.out.cell 1; simp only [List.getElem?_toArray, List.getElem?_cons_zero, List.getElem?_cons_succ] at t0 t1)
        obtain ⟨_, r, hvx, rfl, rfl⟩ := HM.out
        have hvl : ∃ th, vl = [(r, th)] := by
          cases vl with
          | nil => cases hvx
          | cons p tl =>
            cases tl with
            | nil => exact ⟨p.2, by simp at hvx; rw [← hvx]⟩
            | cons _ _ => simp at hvx
        obtain ⟨th, rfl⟩ := hvl
        clear hvx HM
        obtain ⟨g4, c4, hA⟩ := own_some HV.out (by simp)
        injection hA with hA1 hA2 hA3
        subst hA1 hA3
        have v0 := HV.out.cellAt 0 (by simp)
        have v1 := HV.out.cellAt 1 (by simp)
        simp only [vrow, Rs.vcells, List.flatMap_cons, List.flatMap_nil, List.append_nil, List.getElem?_cons_zero, List.getElem?_cons_succ] at v0 v1
        simp only [List.length_cons, List.length_nil, Nat.zero_add]
        go_quiet (fail)
        go_wp2_with fail
        go_ret
        exact ⟨rfl, HU4.out.drewN _⟩
end Go.Proofs.YtcnkbdbkglggcaaGreatDoor
