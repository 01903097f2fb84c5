/-
  The program's 'ForEach' on an object. Conditions: the text has at most 65536 bytes; what the program's variables hold.
-/
import Derived.Test.YtcnkbdbkglggcaaGreatDoorYGyK
import Derived.RegionTactic
import Derived.Deep.CutBlock
import Derived.Deep.DeepCutAuto
set_option linter.unusedVariables false
set_option linter.unusedSimpArgs false
namespace Go.Proofs.YtcnkbdbkglggcaaGreatDoor
open Go.RowKit

theorem nameW {P : World → Prop} {w : World} (h : P w) : ∃ X, X = w ∧ P X := ⟨w, rfl, h⟩
theorem run_skip {v : ByteArray} {i : Nat} {es : List El} (h : Run v true i es) (hi : i < v.size) (h34 : bt v i ≠ 34) : Run v true (i + 1) es := by
  cases h with
  | done ht => exact .done ⟨hi, fun h y h1 h2 => ht.2.1 h y (by omega) h2, fun h => by cases h⟩
  | @step _ e es h hr =>
    obtain ⟨h1, h2, h3⟩ := h
    obtain ⟨z1, z2, z3, z4⟩ := h2 rfl
    refine .step ⟨h1, fun _ => ⟨?_, fun y h4 h5 => z2 y (by omega) h5, z3, z4⟩, fun h => by cases h⟩ hr
    rcases Nat.lt_or_ge i e.m with h | h
    · exact h
    · have : i = e.m := by omega
      exact absurd (this ▸ z3.1) h34
set_option maxRecDepth 100000 in
set_option maxHeartbeats 8000000 in
theorem foreach_obj (wz w : World) (B bk bv : Nat) (v str : ByteArray) (x : Nat) (ix : Int) (es : List El) (hg : Glb wz B) (hzw : Upd [] wz w) (hbk : wz.heap.size ≤ bk) (hbv : wz.heap.size ≤ bv) (hk : Blk w bk 54 #[.slice none 0 0]) (hv : Blk w bv 54 #[.slice none 0 0]) (hne : bk ≠ bv)
    (hs : v.size ≤ 65536) (hc : bt v 0 = 123) (hr : Run v true 1 es) :
    Calls Tryz.prog 46 #[.agg (resCells 5 v str x ix), .func (.func 47) #[] #[.pointer (some ⟨bk, 0, none⟩), .pointer (some ⟨bv, 0, none⟩)]] w fun e w' => FeOut w bk bv v true es e w' := by
  have h0 : 0 < v.size := lt_of_bt (by omega)
  have EX : ∀ w, Calls Tryz.prog 37 #[.agg (resCells 5 v str x ix)] w fun e w' => e = .returned (.bool true) ∧ Upd [] w w' := fun w => (exists_yes w 5 v str x ix (.inl (by decide))).mono fun e w' h => ⟨h.1, h.2 ▸ (Upd.refl [] w).alloc _⟩
  have EXH := Lib.hid EX
  clear EX
  have HR := Lib.hid hr
  have hb0 : (v[0].toNat : Int) = 123 := by
    have h2 := bt_lt h0
    omega
  have HC := Lib.hid hc
  have hkl := hk.lt
  have hvl := hv.lt
  have htb := Blk.new w 49 #[.int .i64 5, .string v, .string str, .float .f64 x, .int .i64 ix, .slice none 0 0]
  have hup := (Upd.refl [] w).alloc (.cells #[.int .i64 5, .string v, .string str, .float .f64 x, .int .i64 ix, .slice none 0 0] 49)
  have hsz : (w.alloc (.cells #[.int .i64 5, .string v, .string str, .float .f64 x, .int .i64 ix, .slice none 0 0] 49)).heap.size = w.heap.size + 1 := by simp
  have HK := Lib.hid (hk.alloc (.cells #[.int .i64 5, .string v, .string str, .float .f64 x, .int .i64 ix, .slice none 0 0] 49))
  have HV := Lib.hid (hv.alloc (.cells #[.int .i64 5, .string v, .string str, .float .f64 x, .int .i64 ix, .slice none 0 0] 49))
  clear hk hv hr hc
  unfold resCells at *
  go_enter Tryz.func46, Tryz.ntmps46
  go_upto_region 1 with fail
  obtain ⟨C0, hC0⟩ : ∃ X : World, X = w.alloc (.cells #[.int .i64 5, .string v, .string str, .float .f64 x, .int .i64 ix, .slice none 0 0] 49) := ⟨_, rfl⟩
  rw [← hC0] at htb hup hsz HK HV
  rw [← hC0]
  obtain ⟨tb, htz⟩ : ∃ X, X = w.heap.size := ⟨_, rfl⟩
  rw [← htz] at htb hsz hkl hvl
  rw [← htz]
  have HTZ := Lib.hid htz
  clear hC0 htz
  have rsf := run_store_float64 (P := Tryz.prog)
  have tf := htb.frozen
  have t0 := htb.cell 0
  have t1 := htb.cell 1
  have t2 := htb.cell 2
  have t3 := htb.cell 3
  have t4 := htb.cell 4
  have t5 := htb.cell 5
  simp only [List.getElem?_toArray, List.getElem?_cons_zero, List.getElem?_cons_succ] at t0 t1 t2 t3 t4 t5
  go_upto_block 0 with (go_at_call 37; refine (EXH.out _).mono ?_; rintro e w1 ⟨rfl, hu1⟩; have htb1 := htb.upd hu1 (by simp); have HK1 := Lib.hid (HK.out.upd hu1 (by simp)); have HV1 := Lib.hid (HV.out.upd hu1 (by simp)); have hup1 := hup.trans hu1; have hsz1 := Nat.le_trans (Nat.le_of_eq hsz.symm) hu1.size; clear tf t0 t1 t2 t3 t4 t5; have tf := htb1.frozen; have t0 := htb1.cell 0; have t1 := htb1.cell 1; have t2 := htb1.cell 2; have t3 := htb1.cell 3; have t4 := htb1.cell 4; have t5 := htb1.cell 5; simp only [List.getElem?_toArray, List.getElem?_cons_zero, List.getElem?_cons_succ] at t0 t1 t2 t3 t4 t5)
  have hz1 : (w1.alloc (.cells #[.int .i64 0, .string ⟨#[]⟩, .string ⟨#[]⟩, .float .f64 0, .int .i64 0, .slice none 0 0] 49)).heap.size = w1.heap.size + 1 := by simp
  have hz2 : ((w1.alloc (.cells #[.int .i64 0, .string ⟨#[]⟩, .string ⟨#[]⟩, .float .f64 0, .int .i64 0, .slice none 0 0] 49)).alloc (.cells #[.int .i64 0, .string ⟨#[]⟩, .string ⟨#[]⟩, .float .f64 0, .int .i64 0, .slice none 0 0] 49)).heap.size = w1.heap.size + 2 := by simp
  have hvb := Blk.new (w1.alloc (.cells #[.int .i64 0, .string ⟨#[]⟩, .string ⟨#[]⟩, .float .f64 0, .int .i64 0, .slice none 0 0] 49)) 49 #[.int .i64 0, .string ⟨#[]⟩, .string ⟨#[]⟩, .float .f64 0, .int .i64 0, .slice none 0 0]
  rw [hz1] at hvb
  have hFE : Hid (FE ((w1.alloc (.cells #[.int .i64 0, .string ⟨#[]⟩, .string ⟨#[]⟩, .float .f64 0, .int .i64 0, .slice none 0 0] 49)).alloc (.cells #[.int .i64 0, .string ⟨#[]⟩, .string ⟨#[]⟩, .float .f64 0, .int .i64 0, .slice none 0 0] 49)) tb w1.heap.size (w1.heap.size + 1) bk bv #[.int .i64 5, .string v, .string str, .float .f64 x, .int .i64 ix, .slice none 0 0] ⟨0, ⟨#[]⟩, ⟨#[]⟩, 0, 0⟩ ⟨0, ⟨#[]⟩, ⟨#[]⟩, 0, 0⟩ [] [] ((w1.alloc (.cells #[.int .i64 0, .string ⟨#[]⟩, .string ⟨#[]⟩, .float .f64 0, .int .i64 0, .slice none 0 0] 49)).alloc (.cells #[.int .i64 0, .string ⟨#[]⟩, .string ⟨#[]⟩, .float .f64 0, .int .i64 0, .slice none 0 0] 49))) :=
    ⟨(htb1.alloc _).alloc _, (Blk.new w1 49 #[.int .i64 0, .string ⟨#[]⟩, .string ⟨#[]⟩, .float .f64 0, .int .i64 0, .slice none 0 0]).alloc _, hvb, ⟨.slice none 0 0, .slice none 0 0, (HK1.out.alloc _).alloc _, (HV1.out.alloc _).alloc _, hne, World.ownsRow_nil _ _ _ _, World.ownsRow_nil _ _ _ _, fun g h => by cases h⟩, UpdF.refl _ _ _⟩
  have hFd : Hid (Fed ((w1.alloc (.cells #[.int .i64 0, .string ⟨#[]⟩, .string ⟨#[]⟩, .float .f64 0, .int .i64 0, .slice none 0 0] 49)).alloc (.cells #[.int .i64 0, .string ⟨#[]⟩, .string ⟨#[]⟩, .float .f64 0, .int .i64 0, .slice none 0 0] 49)) tb w1.heap.size (w1.heap.size + 1) bk bv) := ⟨hkl, hvl, hsz1, rfl, hz2⟩
  have hupW := Lib.hid ((hup1.alloc (.cells #[.int .i64 0, .string ⟨#[]⟩, .string ⟨#[]⟩, .float .f64 0, .int .i64 0, .slice none 0 0] 49)).alloc (.cells #[.int .i64 0, .string ⟨#[]⟩, .string ⟨#[]⟩, .float .f64 0, .int .i64 0, .slice none 0 0] 49))
  have hlen : Hid (tb < w1.heap.size) := hsz1
  clear hz1 hz2 hvb hup hu1 htb HK HV HK1 HV1 hup1 hsz hsz1 htb1 tf t0 t1 t2 t3 t4 t5
  obtain ⟨kb, hkb⟩ : ∃ X, X = w1.heap.size := ⟨_, rfl⟩
  rw [← hkb] at hFE hFd hlen
  go_wp2_with fail
  rw [← hkb]
  clear hkb
  obtain ⟨W, hW⟩ : ∃ X : World, X = (w1.alloc (.cells #[.int .i64 0, .string ⟨#[]⟩, .string ⟨#[]⟩, .float .f64 0, .int .i64 0, .slice none 0 0] 49)).alloc (.cells #[.int .i64 0, .string ⟨#[]⟩, .string ⟨#[]⟩, .float .f64 0, .int .i64 0, .slice none 0 0] 49) := ⟨_, rfl⟩
  rw [← hW] at hFE hFd hupW
  rw [← hW]
  clear hW
  go_loopg [5, 6] 0 (fun g x5 x6 wr => x5 = .bool false ∧ x6 = .int .i64 0 ∧ W = wr ∧ Hid (g = g))
  case atStart => exact ⟨rfl, rfl, rfl, rfl⟩
  case round =>
    obtain ⟨rfl, rfl, rfl, _⟩ := hrel
    have d1 : ((v[0].toNat : Int) == 123) = true := beq_iff_eq.2 hb0
    have kf := hFE.out.k.frozen
    have k0 := hFE.out.k.cell 0
    unfold Rs.arr resCells at k0
    simp only [List.getElem?_toArray, List.getElem?_cons_zero, List.getElem?_cons_succ] at k0
    have h1 := hFE.out.setK hFd.out (i := 0) (u := .int .i64 3) (r' := ⟨3, ⟨#[]⟩, ⟨#[]⟩, 0, 0⟩) rfl
    have HFE2 := Lib.hid h1
    clear h1 hFE
    go_wp2_with fail
    clear kf k0 d1
    go_loopg [6, 12] (v.size - 1) (fun g x6 x12 wr => ∃ (i : Nat) (n : Int) (done rest : List El) (r q : Rs) (kx vx : List Rs), x6 = .int .i64 i ∧ x12 = .int .i64 n ∧ es = done ++ rest ∧ Hid (Run v true i rest) ∧ Hid (Mat v true done kx vx) ∧ Hid (FE W tb kb (kb + 1) bk bv #[.int .i64 5, .string v, .string str, .float .f64 x, .int .i64 ix, .slice none 0 0] r q kx vx wr) ∧ done.length ≤ i ∧ Hid (g = v.size - i))
    case atStart => exact ⟨1, _, [], es, _, _, [], [], rfl, rfl, rfl, HR.out, .nil, HFE2.out, by simp, rfl⟩
    case round =>
      clear HFE2
      obtain ⟨i, n, done, rest, r, q, kx, vx, rfl, rfl, hes, hrun, hmat, hfe, hdi, hh⟩ := hrel
      by_cases hlt : i < v.size
      · by_cases h34 : bt v i = 34
        · have hb34 : (v[i].toNat : Int) = 34 := by
            have h2 := bt_lt hlt
            omega
          have e34 : ((v[i].toNat : Int) != 34) = false := by simp [hb34]
          have e34' : decide ((v[i].toNat : Int) ≠ 34) = false := by simp [hb34]
          cases hrun.out with
          | done ht => exact absurd h34 (ht.2.1 rfl i (Nat.le_refl _) hlt)
          | @step _ el es2 hhere hr2 =>
            obtain ⟨hvq, hob, _⟩ := hhere
            obtain ⟨him, hno, hsq, hca, hgap⟩ := hob rfl
            have hmi : el.m = i := by
              rcases Nat.lt_or_ge i el.m with h | h
              · exact absurd h34 (hno i (Nat.le_refl _) h)
              · omega
            have hal := hvq.lt
            have hbl := hvq.le
            obtain ⟨hab, R, U, K66, ysl, rw1, K41⟩ := key_facts v el.m el.c el.key hs (by omega) hsq
            obtain ⟨T, hT⟩ : ∃ T, T = strOfNums el.key := ⟨_, rfl⟩
            rw [← hT] at K66 K41
            obtain ⟨c, hc2⟩ : ∃ X, X = el.c := ⟨_, rfl⟩
            rw [← hc2] at K66 hab hgap hca
            rw [hmi] at K66 hab
            have HK66 := Lib.hid K66
            have HK41 := Lib.hid K41
            have HT := Lib.hid hT
            have HGAP := Lib.hid hgap
            obtain ⟨pa, hpa⟩ : ∃ X, X = el.a := ⟨_, rfl⟩
            rw [← hpa] at HGAP hca hal
            have hpz : pa < v.size := by omega
            clear K66 K41 hT hgap hno hsq hob hb34 him hmi hc2
            go_upto_if 75 with (go_at_call 66; refine (HK66.out _).mono ?_; rintro e w2 ⟨bb, rfl, hbb, hu2⟩; have HFE3 := Lib.hid (hfe.out.upd hu2); have HBB := Lib.hid hbb; clear hbb)
            go_cut [6] (fun x6 wx => x6 = .int .i64 c ∧ Hid (FE W tb kb (kb + 1) bk bv #[.int .i64 5, .string v, .string str, .float .f64 x, .int .i64 ix, .slice none 0 0] ⟨r.k, r.raw, T, r.x, r.idx⟩ q kx vx wx))
            case first =>
              have kf := HFE3.out.k.frozen; have k0 := HFE3.out.k.cell 0; have k1 := HFE3.out.k.cell 1; have k2 := HFE3.out.k.cell 2; have k3 := HFE3.out.k.cell 3; have k4 := HFE3.out.k.cell 4; have k5 := HFE3.out.k.cell 5; try unfold Rs.arr resCells at k0 k1 k2 k3 k4 k5; simp only [List.getElem?_toArray, List.getElem?_cons_zero, List.getElem?_cons_succ] at k0 k1 k2 k3 k4 k5
              cases bb
              · have hUT : U = T := HBB.out rfl
                subst hUT
                go_wp2_with fail
                go_meet
                exact ⟨rfl, HFE3.out.setK hFd.out (i := 2) (u := .string U) rfl⟩
              · go_wp2_with (go_at_call 41; refine (HK41.out _).mono ?_; rintro e w3 ⟨rfl, hu3⟩; have HFE4 := Lib.hid (HFE3.out.upd hu3); clear kf k0 k1 k2 k3 k4 k5; have kf := HFE4.out.k.frozen; have k0 := HFE4.out.k.cell 0; have k1 := HFE4.out.k.cell 1; have k2 := HFE4.out.k.cell 2; have k3 := HFE4.out.k.cell 3; have k4 := HFE4.out.k.cell 4; have k5 := HFE4.out.k.cell 5; try unfold Rs.arr resCells at k0 k1 k2 k3 k4 k5; simp only [List.getElem?_toArray, List.getElem?_cons_zero, List.getElem?_cons_succ] at k0 k1 k2 k3 k4 k5)
                go_meet
                exact ⟨rfl, HFE4.out.setK hFd.out (i := 2) (u := .string T) rfl⟩
            case rest =>
              obtain ⟨rfl, HFE4⟩ := hcut
              obtain ⟨w9, rfl, HFE4⟩ := nameW (P := fun X => Hid (FE W tb kb (kb + 1) bk bv #[.int .i64 5, .string v, .string str, .float .f64 x, .int .i64 ix, .slice none 0 0] ⟨r.k, r.raw, T, r.x, r.idx⟩ q kx vx X)) HFE4
              clear HFE3 hu2 HBB HK66 HK41 ysl rw1
              have kf := HFE4.out.k.frozen; have k0 := HFE4.out.k.cell 0; have k1 := HFE4.out.k.cell 1; have k2 := HFE4.out.k.cell 2; have k3 := HFE4.out.k.cell 3; have k4 := HFE4.out.k.cell 4; have k5 := HFE4.out.k.cell 5; try unfold Rs.arr resCells at k0 k1 k2 k3 k4 k5; simp only [List.getElem?_toArray, List.getElem?_cons_zero, List.getElem?_cons_succ] at k0 k1 k2 k3 k4 k5; have tf := HFE4.out.t.frozen; have t0 := HFE4.out.t.cell 0; have t1 := HFE4.out.t.cell 1; have t2 := HFE4.out.t.cell 2; have t3 := HFE4.out.t.cell 3; have t4 := HFE4.out.t.cell 4; have t5 := HFE4.out.t.cell 5; try unfold Rs.arr resCells at t0 t1 t2 t3 t4 t5; simp only [List.getElem?_toArray, List.getElem?_cons_zero, List.getElem?_cons_succ] at t0 t1 t2 t3 t4 t5
              go_wp2_with fail
              obtain ⟨z0, hz0⟩ : ∃ z : Int, z = wrap64 ((i : Int) + ix) := ⟨_, rfl⟩
              rw [← hz0]
              clear hz0
              have HFEV := Lib.hid ((HFE4.out.setK hFd.out (i := 1) (u := .string R) (r' := ⟨r.k, R, T, r.x, r.idx⟩) rfl).setK hFd.out (i := 4) (u := .int .i64 z0) (r' := ⟨r.k, R, T, r.x, z0⟩) rfl)
              obtain ⟨w3, hw3⟩ : ∃ X : World, X = (w9.setCell ⟨kb, 1, none⟩ (.string R)).setCell ⟨kb, 4, none⟩ (.int .i64 z0) := ⟨_, rfl⟩
              rw [← hw3] at HFEV
              rw [← hw3]
              clear hw3 HFE4
              go_loopg [6] (pa - c) (fun g x6 w4 => ∃ k : Nat, c ≤ k ∧ k ≤ pa ∧ x6 = .int .i64 k ∧ w3 = w4 ∧ Hid (g = pa - k))
              case atStart => exact ⟨c, by omega, by omega, rfl, rfl, rfl⟩
              case round =>
                obtain ⟨k, hk0, hk1, rfl, rfl, hh2⟩ := hrel
                by_cases hkp : k < pa
                · have hks : k < v.size := by omega
                  have hb : (v[k].toNat : Int) ≤ 32 ∨ (v[k].toNat : Int) = 44 ∨ (v[k].toNat : Int) = 58 := by
                    have h1 := HGAP.out k (by omega) hkp
                    have h2 := bt_lt hks
                    unfold Gap at h1
                    omega
                  by_cases c1 : (v[k].toNat : Int) ≤ 32
                  · have e1 : decide ((v[k].toNat : Int) ≤ 32) = true := decide_eq_true c1
                    have e1' : v[k].toNat ≤ 32 := by omega
                    clear hb
                    go_wp2_with fail
                    go_roundg (pa - (k + 1))
                    case measure => have := hh2.out; omega
                    case rel => exact ⟨k + 1, by omega, by omega, by go_num, rfl, rfl⟩
                  · have e1 : decide ((v[k].toNat : Int) ≤ 32) = false := decide_eq_false c1
                    have e1' : decide (v[k].toNat ≤ 32) = false := decide_eq_false (by omega)
                    by_cases c2 : (v[k].toNat : Int) = 44
                    · have e2 : ((v[k].toNat : Int) == 44) = true := beq_iff_eq.2 c2
                      clear hb c1 c2
                      go_wp2_with fail
                      go_roundg (pa - (k + 1))
                      case measure => have := hh2.out; omega
                      case rel => exact ⟨k + 1, by omega, by omega, by go_num, rfl, rfl⟩
                    · have e2 : ((v[k].toNat : Int) == 44) = false := beq_eq_false_iff_ne.2 c2
                      have e3 : ((v[k].toNat : Int) == 58) = true := beq_iff_eq.2 (by omega)
                      clear hb c1 c2
                      go_wp2_with fail
                      go_roundg (pa - (k + 1))
                      case measure => have := hh2.out; omega
                      case rel => exact ⟨k + 1, by omega, by omega, by go_num, rfl, rfl⟩
                · have hE : k = pa := by omega
                  subst hE
                  clear hkp
                  have hks : k < v.size := by omega
                  have hb : 32 < (v[k].toNat : Int) ∧ (v[k].toNat : Int) ≠ 44 ∧ (v[k].toNat : Int) ≠ 58 := by
                    have h1 := hvq.first
                    rw [← hpa] at h1
                    have h2 := bt_lt hks
                    unfold Gap at h1
                    omega
                  have e1 : decide ((v[k].toNat : Int) ≤ 32) = false := decide_eq_false (by omega)
                  have e1' : decide (v[k].toNat ≤ 32) = false := decide_eq_false (by omega)
                  have e2 : ((v[k].toNat : Int) == 44) = false := beq_eq_false_iff_ne.2 (by omega)
                  have e3 : ((v[k].toNat : Int) == 58) = false := beq_eq_false_iff_ne.2 (by omega)
                  clear hb
                  obtain ⟨RR, hRR⟩ : ∃ X, X = v.extract el.a el.b := ⟨_, rfl⟩
                  have PV : Hid (∀ C, Glb C B → Calls Tryz.prog 67 #[.string v, .int .i64 (k : Int), .bool true] C fun e w' => (∃ (st : ByteArray) (xx : Nat) (ix2 : Int), e = .returned (.tuple #[.int .i64 el.b, .agg #[.int .i64 el.kd, .string RR, .string st, .float .f64 xx, .int .i64 ix2, .slice none 0 0], .bool true])) ∧ Upd [] C w') := fun C hC => by
                    rw [hRR, hpa]
                    refine (pany_val C B hC v el.a el.a el.b el.kd hs (Nat.le_refl _) (fun y h1 h2 => by omega) hvq).mono ?_
                    rintro e w' ⟨⟨st, xx, ix2, rfl, _⟩, hu⟩
                    exact ⟨⟨st, xx, ix2, rfl⟩, hu⟩
                  have HRR := Lib.hid hRR
                  have HVQ := Lib.hid hvq
                  have hG := HFEV.out.glb hFd.out hg (hzw.trans hupW.out) hbk hbv
                  clear hRR hpa hvq
                  go_upto_region 42 with (go_at_call 67; refine (PV.out _ hG).mono ?_; rintro e w5 ⟨⟨st, xx, ix2, rfl⟩, hu5⟩; have HFE4 := Lib.hid (HFEV.out.upd hu5); have vf := HFE4.out.v.frozen; have v0 := HFE4.out.v.cell 0; have v1 := HFE4.out.v.cell 1; have v2 := HFE4.out.v.cell 2; have v3 := HFE4.out.v.cell 3; have v4 := HFE4.out.v.cell 4; have v5 := HFE4.out.v.cell 5; try unfold Rs.arr resCells at v0 v1 v2 v3 v4 v5; simp only [List.getElem?_toArray, List.getElem?_cons_zero, List.getElem?_cons_succ] at v0 v1 v2 v3 v4 v5)
                  have HFE5 := Lib.hid (HFE4.out.setAll hFd.out ⟨el.kd, RR, st, xx, ix2⟩)
                  clear HFEV HFE4 hu5 vf v0 v1 v2 v3 v4 v5
                  obtain ⟨w6, hw6⟩ : ∃ X : World, X = (((((w5.setCell ⟨kb + 1, 0, none⟩ (.int .i64 el.kd)).setCell ⟨kb + 1, 1, none⟩ (.string RR)).setCell ⟨kb + 1, 2, none⟩ (.string st)).setCell ⟨kb + 1, 3, none⟩ (.float .f64 xx)).setCell ⟨kb + 1, 4, none⟩ (.int .i64 ix2)).setCell ⟨kb + 1, 5, none⟩ (.slice none 0 0) := ⟨_, rfl⟩
                  dsimp only at HFE5
                  rw [← hw6] at HFE5
                  rw [← hw6]
                  clear hw6
                  have tf := HFE5.out.t.frozen
                  have t0 := HFE5.out.t.cell 0
                  have t1 := HFE5.out.t.cell 1
                  have t2 := HFE5.out.t.cell 2
                  have t3 := HFE5.out.t.cell 3
                  have t4 := HFE5.out.t.cell 4
                  have t5 := HFE5.out.t.cell 5
                  try unfold Rs.arr resCells at t0 t1 t2 t3 t4 t5
                  simp only [List.getElem?_toArray, List.getElem?_cons_zero, List.getElem?_cons_succ] at t0 t1 t2 t3 t4 t5
                  have vf := HFE5.out.v.frozen
                  have v0 := HFE5.out.v.cell 0
                  have v1 := HFE5.out.v.cell 1
                  have v2 := HFE5.out.v.cell 2
                  have v3 := HFE5.out.v.cell 3
                  have v4 := HFE5.out.v.cell 4
                  have v5 := HFE5.out.v.cell 5
                  try unfold Rs.arr resCells at v0 v1 v2 v3 v4 v5
                  simp only [List.getElem?_toArray, List.getElem?_cons_zero, List.getElem?_cons_succ] at v0 v1 v2 v3 v4 v5
                  go_upto_region 46 with fail
                  obtain ⟨zi, hzi⟩ : ∃ z : Int, z = wrap64 ((k : Int) + ix) := ⟨_, rfl⟩
                  rw [← hzi]
                  clear hzi
                  have HFE6 := Lib.hid (HFE5.out.setV hFd.out (i := 4) (u := .int .i64 (zi)) (q' := ⟨el.kd, RR, st, xx, zi⟩) rfl)
                  obtain ⟨w7, hw7⟩ : ∃ X : World, X = w6.setCell ⟨kb + 1, 4, none⟩ (.int .i64 (zi)) := ⟨_, rfl⟩
                  rw [← hw7] at HFE6
                  rw [← hw7]
                  clear hw7 HFE5 tf t0 t1 t2 t3 t4 t5 vf v0 v1 v2 v3 v4 v5
                  have kf := HFE6.out.k.frozen
                  have k0 := HFE6.out.k.cell 0
                  have k1 := HFE6.out.k.cell 1
                  have k2 := HFE6.out.k.cell 2
                  have k3 := HFE6.out.k.cell 3
                  have k4 := HFE6.out.k.cell 4
                  have k5 := HFE6.out.k.cell 5
                  try unfold Rs.arr resCells at k0 k1 k2 k3 k4 k5
                  simp only [List.getElem?_toArray, List.getElem?_cons_zero, List.getElem?_cons_succ] at k0 k1 k2 k3 k4 k5
                  have vf := HFE6.out.v.frozen
                  have v0 := HFE6.out.v.cell 0
                  have v1 := HFE6.out.v.cell 1
                  have v2 := HFE6.out.v.cell 2
                  have v3 := HFE6.out.v.cell 3
                  have v4 := HFE6.out.v.cell 4
                  have v5 := HFE6.out.v.cell 5
                  try unfold Rs.arr resCells at v0 v1 v2 v3 v4 v5
                  simp only [List.getElem?_toArray, List.getElem?_cons_zero, List.getElem?_cons_succ] at v0 v1 v2 v3 v4 v5
                  have ml := hmat.out.len
                  have PSK := Lib.hid (HFE6.out.step hFd.out (by omega) (by omega))
                  unfold Rs.arr resCells at PSK
                  dsimp only at PSK
                  go_wp2_with (go_at_call 47; refine PSK.out.mono ?_; rintro e w8 ⟨rfl, hfe8⟩; have HFE8 := Lib.hid hfe8; clear hfe8)
                  go_roundg (v.size - (el.b + 1))
                  case measure => have := hh.out; have := HVQ.out.lt; omega
                  case rel => exact ⟨el.b + 1, _, done ++ [el], es2, ⟨r.k, R, T, r.x, z0⟩, ⟨el.kd, RR, st, xx, zi⟩, kx ++ [_], vx ++ [_], by go_num, rfl, by rw [hes]; simp, hr2, .snoc hmat.out rfl HRR.out (fun _ => HT.out), HFE8.out, by have := HVQ.out.lt; simp; omega, rfl⟩
        · have hb34 : (v[i].toNat : Int) ≠ 34 := by
            have h2 := bt_lt hlt
            omega
          have e34 : ((v[i].toNat : Int) != 34) = true := by simp [hb34]
          have e34' : decide ((v[i].toNat : Int) ≠ 34) = true := by simp [hb34]
          go_wp2_with fail
          go_roundg (v.size - (i + 1))
          case measure => have := hh.out; omega
          case rel => exact ⟨i + 1, n, done, rest, r, q, kx, vx, by go_num, rfl, hes, run_skip hrun.out hlt h34, hmat.out, hfe.out, by omega, rfl⟩
      · cases hrun.out with
        | done ht =>
          have HMM : Hid (Mat v true es kx vx) := by rw [hes, List.append_nil]; exact hmat.out
          go_wp2_with fail
          refine bodyPost_ret (results_none rfl _ _ _) rfl ?_
          exact hfe.out.fin hFd.out HMM.out hupW.out HTZ.out
        | @step _ el es2 hhere hr2 =>
          exfalso
          have h1 := (hhere.2.1 rfl).1
          have h2 := (hhere.2.1 rfl).2.2.1.1
          have h3 := lt_of_bt (s := v) (i := el.m) (by omega)
          omega
end Go.Proofs.YtcnkbdbkglggcaaGreatDoor
