/-
  The reader's 'list' on arrays, given what 'tree' does. Condition: the text has at most 65536 bytes.
-/
import Derived.Test.YtcnkbdbkglggcaaGreatDoorZMD
import Derived.Deep.CutBlock
import Derived.Deep.DeepCutAuto
import Derived.Deep.AppendLies
import Derived.Deep.RegionLaw
namespace Go.Proofs.YtcnkbdbkglggcaaGreatDoor
open Go.RowKit

set_option maxRecDepth 100000 in
set_option maxHeartbeats 8000000 in
theorem list_arr (d : Nat) (hT : TreeOK d) (w : World) (b tb : Nat) (s : ByteArray) (i : Nat) (bad : Bool) (c0 c1 c2 c3 : Value) (hr : Rd w b s i bad) (hs : s.size ≤ 65536) (hi : i < s.size) (hd : s.size - i ≤ d + 1) (hbt : b ≠ tb)
    (ht : Blk w tb 25 #[c0, c1, c2, c3, .bool true, .slice none 0 0, .slice none 0 0]) :
    Calls Tryz.prog 32 #[.pointer (some ⟨b, 0, none⟩), .pointer (some ⟨tb, 0, none⟩), .int .u8 93, .bool false] w fun e w' => e = .returned (.tuple #[]) ∧ List1 w b tb s i bad (d + 1) false c0 c1 c2 c3 w' := by
  have h1 := hr.c1
  have hf1 := hr.fr 1
  have hr0 := hr.setAt (i + 1)
  have hu0 := (Upd.refl [b, tb] w).setCell (p := ⟨b, 1, none⟩) (.inl (.head _)) (.int .i64 ((i + 1 : Nat) : Int))
  have ht0 := ht.far (p := ⟨b, 1, none⟩) hbt.symm (.int .i64 ((i + 1 : Nat) : Int))
  go_enter Tryz.func32, Tryz.ntmps32
  go_wp2_with fail
  refine (blank_any _ b s (i + 1) bad hr0 hs (by omega)).mono ?_
  rintro e w1 ⟨rfl, k0, hr1, hu1, hws⟩
  have ht1 := ht0.upd hu1 (by simp; exact hbt.symm)
  have hup := hu0.then hu1 (by simp)
  have hk0 := hws.1
  have hk0s := hws.2.1
  clear h1 hf1 hr0 hu0 ht0 hu1
  go_wp2_with fail
  refine (next_any _ b s k0 bad hr1 hs).mono ?_
  rintro e w2 ⟨rfl, n, rfl⟩
  have h1 := hr1.c1
  have hf1 := hr1.fr 1
  by_cases hend : bt s k0 = 93
  · have HE := Lib.hid hend
    have d0 : (bt s k0 == 93) = true := by simpa using hend
    have hl := lt_of_bt (s := s) (i := k0) (by omega)
    clear hend
    go_wp2_with fail
    refine bodyPost_ret (results_none rfl _ _ _) rfl ?_
    refine ⟨rfl, .slice none 0 0, .slice none 0 0, true, [], [], k0 + 1, bad, (hr1.drewN n).setAt (k0 + 1), (hup.drewN n).setCell (p := ⟨b, 1, none⟩) (.inl (.head _)) _, (ht1.drewN n).far hbt.symm _, own_none _ _ _ _ _, by omega, by omega, fun hf => ⟨hf, by omega, ?_, fun _ => ⟨k0, hws, .inl ⟨?_, rfl, rfl, rfl⟩⟩⟩⟩
    · rw [Nat.add_sub_cancel]; exact HE.out
    · exact HE.out
  · have d0 : (bt s k0 == 93) = false := by simpa using hend
    have H0 : Hid (LI w b tb s i bad (Val s (d + 1)) false c0 c1 c2 c3 ⟨5, [], true, .slice none 0 0, .slice none 0 0, [], []⟩ k0 bad (w1.drewN n)) :=
      ⟨hr1.drewN n, hup.drewN n, ht1.drewN n, own_none _ _ _ _ _, by omega, by omega, by simpa using hk0, by simpa using hk0, fun hf => ⟨hf, fun _ => ⟨k0, hws, .nil⟩⟩⟩
    clear hend hr1 hup ht1 h1 hf1
    go_wp2_with fail
    go_loopg [10] (s.size - k0) (fun g _ wr => ∃ (t : TreeV) (k : Nat) (bad' : Bool), LI w b tb s i bad (Val s (d + 1)) false c0 c1 c2 c3 t k bad' wr ∧ Hid (g = s.size - k))
    case atStart => exact ⟨_, k0, bad, H0.out, rfl⟩
    case round =>
      clear H0
      obtain ⟨t, k, bad', hI, hg⟩ := hrel
      have HI := Lib.hid hI
      have hrd := hI.1
      have hks := hI.2.2.2.2.2.1
      have htr0 := hI.2.2.1
      have h2 := hrd.c2
      have hki := hI.2.2.2.2.1
      have hksl := hI.2.2.2.2.2.2.1
      have hlen := hI.2.2.2.2.2.2.2.1
      clear hI
      cases bad' with
      | true =>
        go_wp2_with fail
        refine (take_any _ b s k true 93 hrd hs hks).mono ?_
        rintro e w2 ⟨rfl, j, bad1, hr2, hu2, hw2⟩
        go_wp2_with fail
        go_end0
        refine ⟨rfl, LK.done (LK.read ⟨HI.out.1, HI.out.2.1, HI.out.2.2.1, HI.out.2.2.2.1⟩ hr.lt hbt hr2 hu2) ⟨by have := hw2.1; omega, hw2.2.1, fun hf => by cases (hw2.2.2 hf).1⟩⟩
      | false =>
        have HK : Hid (LK w b tb s c0 c1 c2 c3 t k false wr) := ⟨HI.out.1, HI.out.2.1, HI.out.2.2.1, HI.out.2.2.2.1⟩
        have G : Hid (GA s (Val s (d + 1)) i k bad false t.pairs t.ks t.its) := fun hf => HI.out.2.2.2.2.2.2.2.2 hf
        clear htr0 hrd
        go_wp2_with fail
        have hrk := HK.out.1
        refine (hT _ b s k false hrk hs hks (by omega)).mono ?_
        rintro e w2 ⟨t2, raw, j, bad2, rfl, hk2, hr2, hu2, hown2, hw2⟩
        obtain ⟨A1, n1, hkv⟩ := own_slice hown2.1
        obtain ⟨A2, n2, hiv⟩ := own_slice hown2.2.1
        clear hown2 hrk
        obtain ⟨kind2, o, pairs, kv, iv, ks2, its2⟩ := t2
        dsimp only at hkv hiv hk2 hw2
        subst hkv hiv hk2
        simp only [TreeV.cells]
        obtain ⟨A3, n3, hkv⟩ := own_slice HK.out.2.2.2.1
        obtain ⟨A4, n4, hiv⟩ := own_slice HK.out.2.2.2.2.1
        obtain ⟨kind, o3, pairs3, kv, iv, ks, its⟩ := t
        dsimp only at hkv hiv hlen hksl
        subst hkv hiv
        have htr := HK.out.2.2.1
        dsimp only at htr
        have hown := HK.out.2.2.2
        go_upto_region 13 with fail
        go_cut [74] (fun _ wx => LJ w b tb w2.heap.size s c0 c1 c2 c3 ⟨kind, o3, pairs3, .slice A3 ks.length n3, .slice A4 its.length n4, ks, its⟩ ⟨kindOf (bt s k), raw, k, o, pairs, .slice A1 ks2.length n1, .slice A2 its2.length n2⟩ j bad2 wx)
        case rest =>
          have HJ := Lib.hid hcut
          obtain ⟨A, c, hrx, hux, htx, hokx, hoix, hxx⟩ := hcut
          have t4 := htx.cell 4
          have tf4 := htx.frozen 4
          have x4h := hxx.cell 4
          simp [It.cells] at t4 x4h
          have hz := ht.lt
          have hjs2 := hw2.2.1
          have hkj := hw2.1
          have HW2 := Lib.hid hw2
          clear htx hokx hoix hxx hux hw2 hr2 hu2
          cases pairs3 with
          | true =>
            obtain ⟨A', c', hK⟩ := HJ.out.pairs hz hbt pairs hown.2.2.1 (by dsimp only; omega) hown.2.2.2.2 ⟨⟨_, _, _, rfl⟩, _, _, _, rfl⟩
            go_wp2_with fail
            refine (blank_any _ b s j bad2 hK.1 hs hjs2).mono ?_
            rintro e w3 ⟨rfl, j3, hr3, hu3, hws3⟩
            have hK3 := LK.read hK hr.lt hbt hr3 hu3
            clear hK hu3 hrx t4 tf4 x4h
            have hj3 := hws3.1
            have hj3s := hws3.2.1
            go_wp2_with fail
            refine (next_any _ b s j3 bad2 hr3 hs).mono ?_
            rintro e w4 ⟨rfl, n4', rfl⟩
            have r1 := hr3.c1
            have rf1 := hr3.fr 1
            by_cases h44 : bt s j3 = 44
            · have E44 := Lib.hid h44
              have d4 : (bt s j3 != 44) = false := by simpa using h44
              have hl3 : j3 < s.size := lt_of_bt (by omega)
              clear h44
              have hK4 := LK.at_ hK3 hr.lt hbt n4' (j3 + 1)
              clear hK3
              go_wp2_with fail
              refine (blank_any _ b s (j3 + 1) bad2 hK4.1 hs (by omega)).mono ?_
              rintro e w5 ⟨rfl, j4, hr5, hu5, hws5⟩
              have hK5 := LK.read hK4 hr.lt hbt hr5 hu5
              clear hK4 hu5 r1 rf1 hr3
              have hj4 := hws5.1
              have hj4s := hws5.2.1
              go_wp2_with fail
              go_roundg (s.size - j4)
              case measure => have := hg.out; omega
              case rel =>
                refine ⟨_, j4, bad2, ⟨hK5.1, hK5.2.1, hK5.2.2.1, hK5.2.2.2, by omega, hj4s, by dsimp only; omega, by simp; omega, fun hf => ?_⟩, rfl⟩
                exact arr_more G.out HW2.out hws3 E44.out hws5 hf
            · have d4 : (bt s j3 != 44) = true := by simpa using h44
              have hK4 := LK.read hK3 hr.lt hbt (hr3.drewN n4') ((Upd.refl [b] w3).drewN n4')
              clear hK3 h44 r1 rf1
              go_wp2_with fail
              refine (take_any _ b s j3 bad2 93 hK4.1 hs hj3s).mono ?_
              rintro e w5 ⟨rfl, j5, bad5, hr5, hu5, hw5⟩
              have hK5 := LK.read hK4 hr.lt hbt hr5 hu5
              clear hK4 hu5
              go_wp2_with fail
              go_end0
              refine ⟨rfl, LK.done hK5 ⟨by have := hw5.1; omega, hw5.2.1, fun hf => ?_⟩⟩
              obtain ⟨f1, f2, f3, f4⟩ := hw5.2.2 hf
              obtain ⟨g1, g2⟩ := arr_last (kv := .slice A1 ks2.length n1) (iv := .slice A2 its2.length n2) G.out HW2.out hws3 f3 f1
              rw [f4]
              exact ⟨g1, by omega, by rw [Nat.add_sub_cancel]; exact f3, g2⟩
          | false =>
            obtain ⟨A', c', hK⟩ := HJ.out.pairs hz hbt false hown.2.2.1 (by dsimp only; omega) hown.2.2.2.2 ⟨⟨_, _, _, rfl⟩, _, _, _, rfl⟩
            clear x4h
            go_wp2_with fail
            refine (blank_any _ b s j bad2 hK.1 hs hjs2).mono ?_
            rintro e w3 ⟨rfl, j3, hr3, hu3, hws3⟩
            have hK3 := LK.read hK hr.lt hbt hr3 hu3
            clear hK hu3 hrx t4 tf4
            have hj3 := hws3.1
            have hj3s := hws3.2.1
            go_wp2_with fail
            refine (next_any _ b s j3 bad2 hr3 hs).mono ?_
            rintro e w4 ⟨rfl, n4', rfl⟩
            have r1 := hr3.c1
            have rf1 := hr3.fr 1
            by_cases h44 : bt s j3 = 44
            · have E44 := Lib.hid h44
              have d4 : (bt s j3 != 44) = false := by simpa using h44
              have hl3 : j3 < s.size := lt_of_bt (by omega)
              clear h44
              have hK4 := LK.at_ hK3 hr.lt hbt n4' (j3 + 1)
              clear hK3
              go_wp2_with fail
              refine (blank_any _ b s (j3 + 1) bad2 hK4.1 hs (by omega)).mono ?_
              rintro e w5 ⟨rfl, j4, hr5, hu5, hws5⟩
              have hK5 := LK.read hK4 hr.lt hbt hr5 hu5
              clear hK4 hu5 r1 rf1 hr3
              have hj4 := hws5.1
              have hj4s := hws5.2.1
              go_wp2_with fail
              go_roundg (s.size - j4)
              case measure => have := hg.out; omega
              case rel =>
                refine ⟨_, j4, bad2, ⟨hK5.1, hK5.2.1, hK5.2.2.1, hK5.2.2.2, by omega, hj4s, by dsimp only; omega, by simp; omega, fun hf => ?_⟩, rfl⟩
                exact arr_more G.out HW2.out hws3 E44.out hws5 hf
            · have d4 : (bt s j3 != 44) = true := by simpa using h44
              have hK4 := LK.read hK3 hr.lt hbt (hr3.drewN n4') ((Upd.refl [b] w3).drewN n4')
              clear hK3 h44 r1 rf1
              go_wp2_with fail
              refine (take_any _ b s j3 bad2 93 hK4.1 hs hj3s).mono ?_
              rintro e w5 ⟨rfl, j5, bad5, hr5, hu5, hw5⟩
              have hK5 := LK.read hK4 hr.lt hbt hr5 hu5
              clear hK4 hu5
              go_wp2_with fail
              go_end0
              refine ⟨rfl, LK.done hK5 ⟨by have := hw5.1; omega, hw5.2.1, fun hf => ?_⟩⟩
              obtain ⟨f1, f2, f3, f4⟩ := hw5.2.2 hf
              obtain ⟨g1, g2⟩ := arr_last (kv := .slice A1 ks2.length n1) (iv := .slice A2 its2.length n2) G.out HW2.out hws3 f3 f1
              rw [f4]
              exact ⟨g1, by omega, by rw [Nat.add_sub_cancel]; exact f3, g2⟩
        have tb2 := htr.upd hu2 (by simp; exact hbt.symm)
        have hsz1 := HK.out.2.1.size
        have hsz2 := hu2.size
        have hz := ht.lt
        have own3 := (hu2.owns hown.2.1 (fun y hy => by
          have := (hown.2.1.lt y hy).1
          have := hr.lt
          simp; omega)).alloc (.cells #[.int .i64 (kindOf (bt s k)), .string raw, .int .i64 k, .string (strOfNums o), .bool pairs, .slice A1 ks2.length n1, .slice A2 its2.length n2] 25)
        have tb3 := tb2.alloc (.cells #[.int .i64 (kindOf (bt s k)), .string raw, .int .i64 k, .string (strOfNums o), .bool pairs, .slice A1 ks2.length n1, .slice A2 its2.length n2] 25)
        have xb3 := Blk.new w2 25 #[.int .i64 (kindOf (bt s k)), .string raw, .int .i64 k, .string (strOfNums o), .bool pairs, .slice A1 ks2.length n1, .slice A2 its2.length n2]
        have hz3 : (w2.alloc (.cells #[.int .i64 (kindOf (bt s k)), .string raw, .int .i64 k, .string (strOfNums o), .bool pairs, .slice A1 ks2.length n1, .slice A2 its2.length n2] 25)).heap.size = w2.heap.size + 1 := by simp
        generalize hW3 : (w2.alloc (.cells #[.int .i64 (kindOf (bt s k)), .string raw, .int .i64 k, .string (strOfNums o), .bool pairs, .slice A1 ks2.length n1, .slice A2 its2.length n2] 25)) = W3 at *
        have HW3 := Lib.hid hW3; clear hW3
        have HZ3 := Lib.hid hz3; clear hz3
        have f6 := tb3.cell 6
        have x0 := xb3.cell 0
        have x1 := xb3.cell 1
        have x2 := xb3.cell 2
        have x3 := xb3.cell 3
        have x4 := xb3.cell 4
        have x5 := xb3.cell 5
        have x6 := xb3.cell 6
        simp at f6 x0 x1 x2 x3 x4 x5 x6
        have fa6 := fun o => (tb3.alloc o).cell 6
        have xa0 := fun o => (xb3.alloc o).cell 0
        have xa1 := fun o => (xb3.alloc o).cell 1
        have xa2 := fun o => (xb3.alloc o).cell 2
        have xa3 := fun o => (xb3.alloc o).cell 3
        have xa4 := fun o => (xb3.alloc o).cell 4
        have xa5 := fun o => (xb3.alloc o).cell 5
        have xa6 := fun o => (xb3.alloc o).cell 6
        simp at fa6 xa0 xa1 xa2 xa3 xa4 xa5 xa6
        obtain ⟨i0, hi0, hz0, hz1, hz2⟩ := info_parts info25
        have AH : Hid (Ahead w W3 b tb w2.heap.size s c0 c1 c2 c3 ⟨kind, o3, pairs3, .slice A3 ks.length n3, .slice A4 its.length n4, ks, its⟩ ⟨kindOf (bt s k), raw, k, o, pairs, .slice A1 ks2.length n1, .slice A2 its2.length n2⟩ j bad2) := by
          have hk3 : W3.ownsRow w.heap.size 9 1 (.slice A3 ks.length n3) ks.length (kcells ks) := by
            rw [← HW3.out]
            exact (hu2.owns hown.1 (fun y hy => by
              have := (hown.1.lt y hy).1
              have := hr.lt
              simp; omega)).alloc _
          refine ⟨hr.lt, hz, hbt, by omega, ?_, ?_, tb3, hk3, own3, xb3, fun e => ?_⟩
          · rw [← HW3.out]; exact hr2.alloc _
          · rw [← HW3.out]; exact (HK.out.2.1.then hu2 (by simp)).alloc _
          · have := (hown.2.1.lt _ e).2
            omega
        have OWN3 := Lib.hid own3; clear own3
        have s1 : Hid (∀ u ∈ [Value.int .i64 0, .string ⟨#[]⟩, .int .i64 0, .string ⟨#[]⟩, .bool false, .slice none 0 0, .slice none 0 0], u.oneCell' = true) := by
          intro u hu
          simp only [List.mem_cons, List.mem_nil_iff, or_false] at hu
          rcases hu with rfl | rfl | rfl | rfl | rfl | rfl | rfl <;> rfl
        have s2 : Hid (its.length + 1 ≤ maxLen) := by unfold Hid maxLen; omega
        have s3 : Hid ((its.length + 1) * 104 ≤ 140737488355328) := by unfold Hid; omega
        have s4 : w.heap.size ≤ W3.heap.size + 1 := by have := HZ3.out; omega
        have s5 : (its.length : Int) < (its.length : Int) + 1 := by omega
        have HL7 : Hid ((icells its).length = its.length * 7) := icells_len its
        have hA4 : ∀ y, (Value.slice A4 its.length n4).ownBlock = some y → y ≠ tb := fun y hy => by
          have := (hown.2.1.lt y hy).1
          omega
        have TB : Hid (∀ w4, ((W3.alloc (.cells #[.int .i64 0, .string ⟨#[]⟩, .int .i64 0, .string ⟨#[]⟩, .bool false, .slice none 0 0, .slice none 0 0] 25)).drew).grownBy w4 (Value.slice A4 its.length n4).ownBlock →
            w4.cell? ⟨tb, 6, none⟩ = some (.slice A4 its.length n4) ∧ w4.frozen? ⟨tb, 6, none⟩ = false) := fun w4 hg => by
          have hB := (((tb3.alloc (.cells #[.int .i64 0, .string ⟨#[]⟩, .int .i64 0, .string ⟨#[]⟩, .bool false, .slice none 0 0, .slice none 0 0] 25)).drew).grown hg (fun e => hA4 tb e.symm rfl))
          exact ⟨hB.cell 6, hB.frozen 6⟩
        have hzt := tb3.lt
        have NGT : Hid (∀ g, ((Value.slice A4 its.length n4).ownBlock = some g ∨ g = W3.heap.size + 1) → g ≠ tb) := fun g hg => by
          rcases hg with hg | hg
          · exact hA4 g hg
          · omega
        clear hA4
        go_region_law (refine step_append_lies _ rfl (.tmp 73) (.tmp 76) 23 rfl w.heap.size 25 i0 (.agg #[.int .i64 0, .string ⟨#[]⟩, .int .i64 0, .string ⟨#[]⟩, .bool false, .slice none 0 0, .slice none 0 0]) 7 104 Tryz.underlying23 hi0 hz0 hz1 hz2 rfl (by decide) (.slice A4 its.length n4) its.length (icells its) rfl (OWN3.out.alloc _) ⟨W3.heap.size, 0, none⟩ 1 1 [.int .i64 0, .string ⟨#[]⟩, .int .i64 0, .string ⟨#[]⟩, .bool false, .slice none 0 0, .slice none 0 0] rfl rfl (by exact World.news_of_block (heap_alloc_new W3 _)) s1.out (by decide) s2.out s3.out (by simpa using s4) (W3.heap.size + 1) (by simp) ?_; intro g cap w4 hown4 hg4 hgb4 hglt; have z0 := zero_cells hown4 HL7.out 0 (by decide); have z1 := zero_cells hown4 HL7.out 1 (by decide); have z2 := zero_cells hown4 HL7.out 2 (by decide); have z3 := zero_cells hown4 HL7.out 3 (by decide); have z4 := zero_cells hown4 HL7.out 4 (by decide); have z5 := zero_cells hown4 HL7.out 5 (by decide); have z6 := zero_cells hown4 HL7.out 6 (by decide); have zf := hown4.frozenAt; have y6 := TB.out w4 hg4; have ngt := NGT.out g hgb4; simp only [List.getElem?_cons_zero, List.getElem?_cons_succ, Nat.add_zero] at z0 z1 z2 z3 z4 z5 z6; have H4 := Lib.hid hown4; have G4 := Lib.hid hg4; have B4 := Lib.hid hgb4; clear hown4 hg4 hgb4; obtain ⟨y6, yf6⟩ := y6)
        all_goals clear s1 s2 s3 s4 s5 f6 x0 x1 x2 x3 x4 x5 x6 fa6 xa0 xa1 xa2 xa3 xa4 xa5 xa6 z0 z1 z2 z3 z4 z5 z6 zf y6 yf6
        all_goals go_wp2_with fail
        all_goals go_meet
        all_goals first | ((with_reducible refine AH.out.textOrder (.cells #[.int .i64 0, .string ⟨#[]⟩, .int .i64 0, .string ⟨#[]⟩, .bool false, .slice none 0 0, .slice none 0 0] 25) ?_ ?_ ?_); exact G4.out; exact H4.out; exact B4.out) | ((with_reducible refine AH.out.otherOrder (.cells #[.int .i64 0, .string ⟨#[]⟩, .int .i64 0, .string ⟨#[]⟩, .bool false, .slice none 0 0, .slice none 0 0] 25) ?_ ?_ ?_); exact G4.out; exact H4.out; exact B4.out)
end Go.Proofs.YtcnkbdbkglggcaaGreatDoor
