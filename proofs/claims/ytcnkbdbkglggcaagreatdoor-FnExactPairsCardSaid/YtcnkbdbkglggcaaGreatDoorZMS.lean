/-
  The program's 'ForEach' on a value that is no object and no array, and 'ZZPairs'. No condition of their own.
  The thin package's 'Pairs', from what 'Parse' and 'ZZPairs' do. No condition of its own.
  A value within a text, seen in the text of the object or array that holds it. Plain law, no program.
  The elements of an object or an array of the grammar, from left to right in its own text. Plain law, no program.
  What the thin package's 'Pairs' gives on a text of JSON. Condition: what the program's variables hold.
  What 'Pairs' returns, seen in memory. Plain law, no program.
-/
import Derived.Test.YtcnkbdbkglggcaaGreatDoorZMQ
import Derived.Test.YtcnkbdbkglggcaaGreatDoorZMR
import Derived.Test.YtcnkbdbkglggcaaGreatDoorYGyL
import Derived.Test.YtcnkbdbkglggcaaGreatDoorYGyB
import Derived.Test.YtcnkbdbkglggcaaGreatDoorZME
import Derived.Test.YtcnkbdbkglggcaaGreatDoorZMI
import Derived.Test.YtcnkbdbkglggcaaGreatDoorZMD
import Derived.RegionTactic
set_option linter.unusedVariables false
set_option linter.unusedSimpArgs false
namespace Go.Proofs.YtcnkbdbkglggcaaGreatDoor
open Go.RowKit

/-- What a call of 'ForEach' with the closure of 'ZZPairs' leaves. -/
def FeM (w : World) (bk bv : Nat) (M : List Rs → List Rs → Prop) (e : Ending) (w' : World) : Prop :=
  e = .returned (.tuple #[]) ∧ (∃ kv vv kx vx, Prs w' w.heap.size bk bv kv vv kx vx ∧ M kx vx) ∧ Upd [bk, bv] w w'
set_option maxRecDepth 100000 in
set_option maxHeartbeats 8000000 in
theorem foreach_one (w : World) (bk bv : Nat) (k : Int) (raw str : ByteArray) (x : Nat) (ix : Int) (hk5 : k ≠ 5) (hraw : 0 < raw.size) (hk : Blk w bk 54 #[.slice none 0 0]) (hv : Blk w bv 54 #[.slice none 0 0]) (hne : bk ≠ bv) :
    Calls Tryz.prog 46 #[.agg (resCells k raw str x ix), .func (.func 47) #[] #[.pointer (some ⟨bk, 0, none⟩), .pointer (some ⟨bv, 0, none⟩)]] w fun e w' => FeM w bk bv (fun kx vx => kx = [⟨0, ⟨#[]⟩, ⟨#[]⟩, 0, 0⟩] ∧ vx = [⟨k, raw, str, x, ix⟩]) e w' := by
  have EX : ∀ w, Calls Tryz.prog 37 #[.agg (resCells k raw str x ix)] w fun e w' => e = .returned (.bool true) ∧ Upd [] w w' := fun w => (exists_yes w k raw str x ix (.inr hraw)).mono fun e w' h => ⟨h.1, h.2 ▸ (Upd.refl [] w).alloc _⟩
  have EXH := Lib.hid EX
  have PS := Lib.hid (fun (w1 : World) (hu : Upd [] w w1) (hb : w.heap.size ≤ w1.heap.size) => pairs_step w1 w.heap.size bk bv (.slice none 0 0) (.slice none 0 0) [] [] ⟨0, ⟨#[]⟩, ⟨#[]⟩, 0, 0⟩ ⟨k, raw, str, x, ix⟩
    ⟨hk.upd hu (by simp), hv.upd hu (by simp), hne, World.ownsRow_nil _ _ _ _, World.ownsRow_nil _ _ _ _, fun g h => by cases h⟩ hb (by simp) (by simp))
  have htb := Blk.new w 49 #[.int .i64 k, .string raw, .string str, .float .f64 x, .int .i64 ix, .slice none 0 0]
  have hup := (Upd.refl [] w).alloc (.cells #[.int .i64 k, .string raw, .string str, .float .f64 x, .int .i64 ix, .slice none 0 0] 49)
  have d5 : (k != 5) = true := by simpa using hk5
  have d5' : decide (k ≠ 5) = true := by simpa using hk5
  clear EX hk hv hk5 hraw
  unfold Rs.arr at PS
  unfold resCells at *
  dsimp only at PS
  go_enter Tryz.func46, Tryz.ntmps46
  go_upto_region 1 with fail
  obtain ⟨C0, hC0⟩ : ∃ X : World, X = w.alloc (.cells #[.int .i64 k, .string raw, .string str, .float .f64 x, .int .i64 ix, .slice none 0 0] 49) := ⟨_, rfl⟩
  rw [← hC0] at htb hup
  rw [← hC0]
  clear hC0
  have tf := htb.frozen
  have t0 := htb.cell 0
  have t1 := htb.cell 1
  have t2 := htb.cell 2
  have t3 := htb.cell 3
  have t4 := htb.cell 4
  have t5 := htb.cell 5
  simp only [List.getElem?_toArray, List.getElem?_cons_zero, List.getElem?_cons_succ] at t0 t1 t2 t3 t4 t5
  go_upto_region 3 with (go_at_call 37; refine (EXH.out _).mono ?_; rintro e w1 ⟨rfl, hu1⟩; have htb1 := htb.upd hu1 (by simp); have hup1 := hup.trans hu1; clear tf t0 t1 t2 t3 t4 t5; have tf := htb1.frozen; have t0 := htb1.cell 0; have t1 := htb1.cell 1; have t2 := htb1.cell 2; have t3 := htb1.cell 3; have t4 := htb1.cell 4; have t5 := htb1.cell 5; simp only [List.getElem?_toArray, List.getElem?_cons_zero, List.getElem?_cons_succ] at t0 t1 t2 t3 t4 t5)
  have PS1 := Lib.hid (PS.out _ hup1 hup1.size)
  have HU1 := Lib.hid hup1
  clear hup hu1 htb hup1 PS
  go_wp2_with (go_at_call 47; refine PS1.out.mono ?_; rintro e w8 ⟨rfl, hp8, hu8⟩)
  refine bodyPost_ret (results_none rfl _ _ _) rfl ?_
  obtain ⟨kv, vv, hp8⟩ := hp8
  exact ⟨rfl, ⟨kv, vv, _, _, hp8, rfl, rfl⟩, hu8.os.trans HU1.out.os, hu8.tape.trans HU1.out.tape, hu8.output.trans HU1.out.output, Nat.le_trans HU1.out.size hu8.size, fun j hj hs => (hu8.block j hj hs).trans (HU1.out.block j hj (by simp))⟩
theorem res_zzpairs {W : World} {kb vb : Nat} {kv vv : Value} (hk : Blk W kb 54 #[kv]) (hv : Blk W vb 54 #[vv]) (tmps : Array Value) (h2 : tmps.getD 2 undef = .pointer (some ⟨kb, 0, none⟩)) (h3 : tmps.getD 3 undef = .pointer (some ⟨vb, 0, none⟩)) :
    (results Tryz.f27 tmps).run Tryz.prog W = .ok (.tuple #[kv, vv]) W := by
  have r0 := hk.cell 0
  have q0 := hv.cell 0
  simp only [List.getElem?_toArray, List.getElem?_cons_zero, List.getElem?_cons_succ] at r0 q0
  have g2 : tmps[2]?.getD undef = .pointer (some ⟨kb, 0, none⟩) := by simpa using h2
  have g3 : tmps[3]?.getD undef = .pointer (some ⟨vb, 0, none⟩) := by simpa using h3
  simp [results, Tryz.results27, go_sem, g2, g3, r0, q0]
/-- What 'ZZPairs' returns and leaves. -/
def ZzOut (w : World) (M : List Rs → List Rs → Prop) (e : Ending) (w' : World) : Prop :=
  ∃ kv vv kx vx, e = .returned (.tuple #[kv, vv]) ∧ w'.ownsRow w.heap.size 49 6 kv kx.length (rcells kx) ∧ w'.ownsRow w.heap.size 49 6 vv vx.length (rcells vx) ∧ M kx vx ∧ Upd [] w w'
set_option maxRecDepth 100000 in
set_option maxHeartbeats 8000000 in
theorem zzpairs_any (w : World) (k : Int) (raw str : ByteArray) (x : Nat) (ix : Int) (M : List Rs → List Rs → Prop)
    (hF : ∀ (w1 : World) (bk bv : Nat), Upd [] w w1 → w.heap.size ≤ bk → w.heap.size ≤ bv → Blk w1 bk 54 #[.slice none 0 0] → Blk w1 bv 54 #[.slice none 0 0] → bk ≠ bv →
      Calls Tryz.prog 46 #[.agg (resCells k raw str x ix), .func (.func 47) #[] #[.pointer (some ⟨bk, 0, none⟩), .pointer (some ⟨bv, 0, none⟩)]] w1 fun e w' => FeM w1 bk bv M e w') :
    Calls Tryz.prog 27 #[.agg (resCells k raw str x ix)] w fun e w' => ZzOut w M e w' := by
  have htb := ((Blk.new w 49 #[.int .i64 k, .string raw, .string str, .float .f64 x, .int .i64 ix, .slice none 0 0]).alloc (.cells #[.slice none 0 0] 54)).alloc (.cells #[.slice none 0 0] 54)
  have hup := (((Upd.refl [] w).alloc (.cells #[.int .i64 k, .string raw, .string str, .float .f64 x, .int .i64 ix, .slice none 0 0] 49)).alloc (.cells #[.slice none 0 0] 54)).alloc (.cells #[.slice none 0 0] 54)
  have hkb := (Blk.new (w.alloc (.cells #[.int .i64 k, .string raw, .string str, .float .f64 x, .int .i64 ix, .slice none 0 0] 49)) 54 #[.slice none 0 0]).alloc (.cells #[.slice none 0 0] 54)
  have hvb := Blk.new ((w.alloc (.cells #[.int .i64 k, .string raw, .string str, .float .f64 x, .int .i64 ix, .slice none 0 0] 49)).alloc (.cells #[.slice none 0 0] 54)) 54 #[.slice none 0 0]
  have z1 : (w.alloc (.cells #[.int .i64 k, .string raw, .string str, .float .f64 x, .int .i64 ix, .slice none 0 0] 49)).heap.size = w.heap.size + 1 := by simp
  have z2 : ((w.alloc (.cells #[.int .i64 k, .string raw, .string str, .float .f64 x, .int .i64 ix, .slice none 0 0] 49)).alloc (.cells #[.slice none 0 0] 54)).heap.size = w.heap.size + 1 + 1 := by simp
  have z3 : (((w.alloc (.cells #[.int .i64 k, .string raw, .string str, .float .f64 x, .int .i64 ix, .slice none 0 0] 49)).alloc (.cells #[.slice none 0 0] 54)).alloc (.cells #[.slice none 0 0] 54)).heap.size = w.heap.size + 3 := by simp
  rw [z1] at hkb
  rw [z2] at hvb
  clear z1 z2
  have HF := Lib.hid (hF _ _ _ hup (by omega) (by omega) hkb hvb (by omega))
  clear hF hkb hvb
  unfold resCells at HF ⊢
  go_enter Tryz.func27, Tryz.ntmps27
  go_upto_region 1 with fail
  obtain ⟨C0, hC0⟩ : ∃ X : World, X = ((w.alloc (.cells #[.int .i64 k, .string raw, .string str, .float .f64 x, .int .i64 ix, .slice none 0 0] 49)).alloc (.cells #[.slice none 0 0] 54)).alloc (.cells #[.slice none 0 0] 54) := ⟨_, rfl⟩
  rw [← hC0] at htb hup z3 HF
  rw [← hC0]
  clear hC0
  have tf := htb.frozen
  have t0 := htb.cell 0
  have t1 := htb.cell 1
  have t2 := htb.cell 2
  have t3 := htb.cell 3
  have t4 := htb.cell 4
  have t5 := htb.cell 5
  simp only [List.getElem?_toArray, List.getElem?_cons_zero, List.getElem?_cons_succ] at t0 t1 t2 t3 t4 t5
  have hmf : ∀ (fn : Fn) (first cap : Array Value) (w : World), (Instr.makeFunc fn first cap).run Tryz.prog w = .ok (.func fn first cap) w := fun _ _ _ _ => rfl
  go_upto_region 2 with (go_at_call 46; refine HF.out.mono ?_; rintro e w1 ⟨rfl, ⟨kv, vv, kx, vx, hp, hm⟩, hu1⟩)
  have hup1 := hup.then hu1 (by simp; omega)
  clear tf t0 t1 t2 t3 t4 t5 htb HF
  have HKB := Lib.hid hp.kb
  have HVB := Lib.hid hp.vb
  have kf := hp.kb.frozen
  have vf := hp.vb.frozen
  have k0 := hp.kb.cell 0
  have v0 := hp.vb.cell 0
  simp only [List.getElem?_toArray, List.getElem?_cons_zero, List.getElem?_cons_succ] at k0 v0
  obtain ⟨A1, n1, h1⟩ := own_slice hp.ok
  obtain ⟨A2, n2, h2⟩ := own_slice hp.ov
  subst h1 h2
  have HP := Lib.hid hp
  have HU := Lib.hid hup1
  clear hp hup1 hup hu1
  go_region
  go_wp2_with fail
  have HK2 : Blk ((w1.setCell ⟨w.heap.size + 1, 0, none⟩ (.slice A1 kx.length n1)).setCell ⟨w.heap.size + 1 + 1, 0, none⟩ (.slice A2 vx.length n2)) (w.heap.size + 1) 54 #[.slice A1 kx.length n1] := (HKB.out.set_ 0 _).far (by simp) _
  have HV2 : Blk ((w1.setCell ⟨w.heap.size + 1, 0, none⟩ (.slice A1 kx.length n1)).setCell ⟨w.heap.size + 1 + 1, 0, none⟩ (.slice A2 vx.length n2)) (w.heap.size + 1 + 1) 54 #[.slice A2 vx.length n2] := (HVB.out.far (by simp) _).set_ 0 _
  have hu2 := (((Upd.refl [w.heap.size + 1, w.heap.size + 1 + 1] w1).setCell (p := ⟨w.heap.size + 1, 0, none⟩) (.inl (by simp)) (.slice A1 kx.length n1)).setCell (p := ⟨w.heap.size + 1 + 1, 0, none⟩) (.inl (by simp)) (.slice A2 vx.length n2)).drew
  refine bodyPost_ret (res_zzpairs (Blk.drew HK2) (Blk.drew HV2) _ rfl rfl) rfl ?_
  refine ⟨_, _, kx, vx, rfl, own_base (hu2.owns HP.out.ok (fun k hk hm => ?_)) (by omega), own_base (hu2.owns HP.out.ov (fun k hk hm => ?_)) (by omega), hm, HU.out.then hu2 (by simp; omega)⟩
  · have := (HP.out.ok.lt k hk).1
    simp only [List.mem_cons, List.not_mem_nil, or_false] at hm
    omega
  · have := (HP.out.ov.lt k hk).1
    simp only [List.mem_cons, List.not_mem_nil, or_false] at hm
    omega
end Go.Proofs.YtcnkbdbkglggcaaGreatDoor

namespace Go.Proofs.YtcnkbdbkglggcaaGreatDoor
open Go.RowKit

/-- What 'Pairs' returns and leaves. -/
def PairOut (w : World) (M : List Rs → List Rs → Prop) (e : Ending) (w' : World) : Prop :=
  ∃ (kv vv : Value) (kl vl : List (Rs × Bool)), e = .returned (.tuple #[kv, vv]) ∧ w'.ownsRow w.heap.size 34 6 kv kl.length (vrow kl) ∧ w'.ownsRow w.heap.size 34 6 vv vl.length (vrow vl) ∧ M (kl.map Prod.fst) (vl.map Prod.fst) ∧ Upd [] w w'
set_option maxRecDepth 100000 in
set_option maxHeartbeats 8000000 in
theorem pairs_any (w : World) (s : ByteArray) (k : Int) (raw : ByteArray) (M : List Rs → List Rs → Prop) (hM : ∀ kx vx, M kx vx → kx.length ≤ 100000 ∧ vx.length ≤ 100000)
    (hP : Calls Tryz.prog 20 #[.string s] w fun e w' => ∃ (str : ByteArray) (x : Nat) (ix : Int), e = .returned (.agg (resCells k raw str x ix)) ∧ Upd [] w w')
    (hF : ∀ (w1 : World) (str : ByteArray) (x : Nat) (ix : Int), Upd [] w w1 → Calls Tryz.prog 27 #[.agg (resCells k raw str x ix)] w1 fun e w' => ZzOut w1 M e w') :
    Calls Tryz.prog 16 #[.string s] w fun e w' => PairOut w M e w' := by
  have HP := Lib.hid hP
  have HF := Lib.hid hF
  have HM := Lib.hid hM
  clear hP hF hM
  go_enter Tryz.func16, Tryz.ntmps16
  go_upto_region 2 with (first
    | (go_at_call 20; refine HP.out.mono ?_; rintro e w1 ⟨str, x, ix, rfl, hu1⟩; have HU1 := Lib.hid hu1; clear hu1)
    | (go_at_call 27; refine (HF.out _ str x ix HU1.out).mono ?_; rintro e w2 ⟨kv, vv, kx, vx, rfl, hk, hv, hm, hu2⟩; have HK := Lib.hid hk; have HV := Lib.hid hv; have HMM := Lib.hid hm; have HU2 := Lib.hid (HU1.out.trans hu2); clear hk hv hm hu2))
  obtain ⟨A1, n1, h1⟩ := own_slice HK.out
  obtain ⟨A2, n2, h2⟩ := own_slice HV.out
  subst h1 h2
  have VK := Lib.hid (fun (w3 : World) (hu : Upd [] w2 w3) => values_any w3 _ _ kx (hu.owns HK.out (fun _ _ h => by cases h)) (HM.out _ _ HMM.out).1)
  have VV := Lib.hid (fun (w3 : World) (hu : Upd [] w2 w3) => values_any w3 _ _ vx (hu.owns HV.out (fun _ _ h => by cases h)) (HM.out _ _ HMM.out).2)
  have HU0 := Lib.hid (Upd.refl [] w2)
  go_wp2_with (first
    | (go_at_call 28; refine (VV.out _ HU3.out).mono ?_; rintro e w4 ⟨vov, vl, rfl, hvo, hvl, hu4⟩; have HV4 := Lib.hid hvo; have HVL := Lib.hid hvl; have HU4 := Lib.hid hu4; have HK4 := Lib.hid (hu4.owns HK3.out (fun _ _ h => by cases h)); clear hvo hvl hu4)
    | (go_at_call 28; refine (VK.out _ HU0.out).mono ?_; rintro e w3 ⟨kov, kl, rfl, hko, hkl, hu3⟩; have HK3 := Lib.hid hko; have HKL := Lib.hid hkl; have HU3 := Lib.hid hu3; clear hko hkl hu3))
  go_ret2
  have L1 : kl.length = kx.length := by rw [← HKL.out, List.length_map]
  have L2 : vl.length = vx.length := by rw [← HVL.out, List.length_map]
  refine ⟨kov, vov, kl, vl, rfl, ?_, ?_, by rw [HKL.out, HVL.out]; exact HMM.out, (HU2.out.trans HU3.out).trans HU4.out⟩
  · rw [L1]
    exact own_base HK4.out HU2.out.size
  · rw [L2]
    exact own_base HV4.out (HU2.out.trans HU3.out).size
end Go.Proofs.YtcnkbdbkglggcaaGreatDoor

namespace Go.Proofs.YtcnkbdbkglggcaaGreatDoor
open Go.RowKit

theorem strq_shift {s v : ByteArray} {I n a b : Nat} {o : List Int} (hu : ∀ y, y < n → bt v y = bt s (I + y)) (h : StrQ s (I + a) (I + b) o) (hb : b ≤ n) : StrQ v a b o := by
  obtain ⟨h34, k, hp, hk34, hk⟩ := h
  have hr := hp.rest k [] .done
  rw [List.append_nil] at hr
  have hle := hr.le
  have h1 : Rest v (b - 1) (a + 1) o := hr.shift (p := I) (n := b - 1) (fun y hy => hu y (by omega)) (a + 1) (by omega) (by omega)
  have h2 := h1.pre (a + 1) [] .start
  refine ⟨by rw [hu a (by omega)]; exact h34, b - 1, h2, ?_, by omega⟩
  rw [hu (b - 1) (by omega), show I + (b - 1) = k by omega]
  exact hk34
theorem word_shift {s v u : ByteArray} {I n a b : Nat} (hu : ∀ y, y < n → bt v y = bt s (I + y)) (h : WordQ s (I + a) (I + b) u) (hb : b ≤ n) : WordQ v a b u :=
  ⟨by have := h.1; omega, fun k hk => by rw [hu _ (by have := h.1; omega), ← h.2 k hk, Nat.add_assoc]⟩
theorem num_shift {s v : ByteArray} {I n a b : Nat} (hu : ∀ y, y < n → bt v y = bt s (I + y)) (h : NumQ s (I + a) (I + b)) (hb : b < n) : NumQ v a b := by
  obtain ⟨h1, h2, h3⟩ := h
  refine ⟨by omega, ?_, fun k hk hk2 => by rw [hu k (by omega)]; exact h3 _ (by omega) (by omega)⟩
  unfold Begin at *
  rw [hu a (by omega), hu (a + 1) (by omega), ← Nat.add_assoc]
  exact h2
theorem val_lt {s : ByteArray} {d a b : Nat} {k : Int} {o : List Int} (h : Val s d a b k o) : a < b := by
  cases d with
  | zero => exact h.elim
  | succ d =>
    obtain ⟨ks, its, hk, ⟨s1, s2, s3, s4, s5, s6, s7⟩, _⟩ := h
    by_cases c1 : bt s a = 34
    · have := s1 c1; omega
    by_cases c2 : bt s a = 116
    · have := (s2 c2).1; have h4 : uTrue.size = 4 := rfl; omega
    by_cases c3 : bt s a = 102
    · have := (s3 c3).1; have h4 : uFalse.size = 5 := rfl; omega
    by_cases c4 : bt s a = 110
    · have := (s4 c4).1; have h4 : uNull.size = 4 := rfl; omega
    by_cases c5 : bt s a = 123
    · have := (s5 c5).1; omega
    by_cases c6 : bt s a = 91
    · have := (s6 c6).1; omega
    exact (s7 (kind_num c1 c2 c3 c4 c5 c6)).1
theorem vq_of_val {s v : ByteArray} {I n a b d : Nat} {k : Int} {o : List Int} (hu : ∀ y, y < n → bt v y = bt s (I + y)) (hn : n = v.size) (hb : b < n) (h : Val s d (I + a) (I + b) k o) (hout : numEnd (bt s (I + b))) : VQ v a b k := by
  have hlt := val_lt h
  have hab : a < b := by omega
  cases d with
  | zero => exact h.elim
  | succ d =>
    obtain ⟨ks, its, ht⟩ := h
    have hsq := fun hc => top_sq ht hc
    obtain ⟨hk, ⟨s1, s2, s3, s4, s5, s6, s7⟩, t1, _⟩ := ht
    have ha := hu a (by omega)
    refine ⟨hab, by omega, by rw [ha]; exact hk, fun h => ⟨o, strq_shift hu (t1 (ha ▸ h)) (by omega)⟩, fun h => word_shift hu (s2 (ha ▸ h)) (by omega), fun h => word_shift hu (s3 (ha ▸ h)) (by omega), fun h => word_shift hu (s4 (ha ▸ h)) (by omega), fun h => ?_, fun h => num_shift hu (s7 (hk ▸ h)) hb, fun _ => by rw [hu b hb]; exact hout⟩
    obtain ⟨z1, z2⟩ := hsq (ha ▸ h)
    exact z2.shift hu (a + 1) (b - 1) (by omega) (by omega) (by omega)
end Go.Proofs.YtcnkbdbkglggcaaGreatDoor

namespace Go.Proofs.YtcnkbdbkglggcaaGreatDoor
open Go.RowKit

def Sp (c : Int) : Prop := c ≤ 32 ∨ c = 44
theorem ws_low {c : Int} (h : isWs c) : c ≤ 32 := by unfold isWs at h; omega
/-- From whatever place before k with nothing but space and commas between. -/
def From (v : ByteArray) (keys : Bool) (k : Nat) (es : List El) : Prop := ∀ p, p ≤ k → (∀ y, p ≤ y → y < k → Sp (bt v y)) → Run v keys p es
/-- The elements are the keys and items. -/
def Same (v : ByteArray) (keys : Bool) (es : List El) (ks : List (List Int)) (its : List It) : Prop :=
  es.length = its.length ∧ (keys = true → ks.length = its.length) ∧ ∀ (n : Nat) (x : It), its[n]? = some x → ∃ e, es[n]? = some e ∧ e.kd = x.kind ∧ v.extract e.a e.b = x.raw ∧ (keys = true → ks[n]? = some e.key)
theorem Same.nil (v : ByteArray) (keys : Bool) : Same v keys [] [] [] := ⟨rfl, fun _ => rfl, fun n x h => by cases h⟩
theorem Same.snoc {v : ByteArray} {keys : Bool} {es : List El} {ks : List (List Int)} {its : List It} (h : Same v keys es ks its) {e : El} {x : It} {key : List Int} (h1 : e.kd = x.kind) (h2 : v.extract e.a e.b = x.raw) (h3 : keys = true → key = e.key) :
    Same v keys (es ++ [e]) (if keys then ks ++ [key] else ks) (its ++ [x]) := by
  obtain ⟨l1, l2, l3⟩ := h
  refine ⟨by simp [l1], fun hk => by rw [if_pos hk]; simp [l2 hk], fun n y hn => ?_⟩
  by_cases hlt : n < its.length
  · rw [List.getElem?_append_left hlt] at hn
    obtain ⟨e2, z1, z2, z3, z4⟩ := l3 n y hn
    exact ⟨e2, by rw [List.getElem?_append_left (by omega)]; exact z1, z2, z3, fun hk => by rw [if_pos hk, List.getElem?_append_left (by rw [l2 hk]; exact hlt)]; exact z4 hk⟩
  · rw [List.getElem?_append_right (by omega)] at hn
    have hz : n - its.length = 0 := by
      rcases Nat.eq_zero_or_pos (n - its.length) with h | h
      · exact h
      · rw [List.getElem?_eq_none (by simp only [List.length_cons, List.length_nil]; omega)] at hn
        cases hn
    rw [hz] at hn
    cases hn
    refine ⟨e, by rw [List.getElem?_append_right (by omega), show n - es.length = 0 by omega]; rfl, h1, h2, fun hk => ?_⟩
    rw [if_pos hk, List.getElem?_append_right (by rw [l2 hk]; omega), show n - ks.length = 0 by rw [l2 hk]; omega, ← h3 hk]
    rfl
section
variable {s v : ByteArray} {I n d : Nat} {keys : Bool}
theorem elem_run (hu : ∀ y, y < n → bt v y = bt s (I + y)) (hv : v = s.extract I (I + n)) (hn : n = v.size) {k k2 p2 : Nat} {key : List Int} {x : It} {es : List El} (he : Elem s (Val s d) keys (I + k) (I + k2) key x) (hk2 : k2 < n) (hout : numEnd (bt s (I + k2)))
    (hr : Run v keys (k2 + 1) es) : ∃ e : El, From v keys k (e :: es) ∧ e.kd = x.kind ∧ v.extract e.a e.b = x.raw ∧ (keys = true → key = e.key) := by
  obtain ⟨h1, h2, h3, h4⟩ := he
  have hlt := val_lt h1
  cases keys with
  | false =>
    have ha := h3 rfl
    rw [ha] at h1 h2 hlt
    refine ⟨⟨0, 0, [], k, k2, x.kind⟩, fun p hp hg => .step ⟨vq_of_val hu hn hk2 h1 hout, (fun h => by cases h), fun _ => ⟨hp, fun y z1 z2 => ?_⟩⟩ hr, rfl, ?_, (fun h => by cases h)⟩
    · have := hg y z1 z2
      unfold Sp at this
      unfold Gap
      omega
    · show v.extract k k2 = x.raw
      rw [h2, hv, ByteArray.extract_extract]
      congr 1
      omega
  | true =>
    obtain ⟨a, c, q1, q2, q3, q4⟩ := h4 rfl
    have l1 : I + k + 2 ≤ a := by
      obtain ⟨_, z, zp, _, rfl⟩ := q1
      have := (zp.rest z [] .done).le
      omega
    have l2 := q2.1
    have l3 := q4.1
    obtain ⟨a', rfl⟩ : ∃ a', a = I + a' := ⟨a - I, by omega⟩
    obtain ⟨t, ht⟩ : ∃ t, x.at_ = I + t := ⟨x.at_ - I, by omega⟩
    rw [ht] at h1 h2 q4 hlt l3
    refine ⟨⟨k, a', key, t, k2, x.kind⟩, fun p hp hg => .step ⟨vq_of_val hu hn hk2 h1 hout, fun _ => ⟨hp, fun y z1 z2 => ?_, strq_shift hu q1 (by show a' ≤ n; omega), by show a' ≤ t; omega, fun y z1 z2 => ?_⟩, (fun h => by cases h)⟩ hr, rfl, ?_, fun _ => rfl⟩
    · have := hg y z1 z2
      unfold Sp at this
      omega
    · have z1' : a' ≤ y := z1
      have z2' : y < t := z2
      rw [hu y (by omega)]
      unfold Gap
      rcases Nat.lt_trichotomy (I + y) c with h | h | h
      · exact .inl (ws_low (q2.2.2.1 _ (by omega) h))
      · rw [h]; exact .inr (.inr q3)
      · exact .inl (ws_low (q4.2.2.1 _ (by omega) (by omega)))
    · show v.extract t k2 = x.raw
      rw [h2, hv, ByteArray.extract_extract]
      congr 1
      omega
theorem elem_le {k k2 : Nat} {key : List Int} {x : It} (he : Elem s (Val s d) keys k k2 key x) : k < k2 := by
  obtain ⟨h1, h2, h3, h4⟩ := he
  have hlt := val_lt h1
  cases keys with
  | false => have := h3 rfl; omega
  | true =>
    obtain ⟨a, c, ⟨_, z, zp, _, rfl⟩, q2, q3, q4⟩ := h4 rfl
    have := (zp.rest z [] .done).le
    have := q2.1
    have := q4.1
    omega
theorem elms_le {i m : Nat} {ks : List (List Int)} {its : List It} (h : Elms s (Val s d) keys i m ks its) : i ≤ m := by
  induction h with
  | nil => exact Nat.le_refl _
  | snoc h he hw hc hw' ih =>
    have := elem_le he
    have := hw.1
    have := hw'.1
    omega
/-- The elements behind one another. -/
theorem elms_run (hu : ∀ y, y < n → bt v y = bt s (I + y)) (hv : v = s.extract I (I + n)) (hn : n = v.size) {i0 m0 : Nat} {ks : List (List Int)} {its : List It} (h : Elms s (Val s d) keys i0 m0 ks its) :
    ∀ k m, i0 = I + k → m0 = I + m → m < n → ∀ es', From v keys m es' → k ≤ m ∧ ∃ es0, From v keys k (es0 ++ es') ∧ Same v keys es0 ks its := by
  induction h with
  | nil => exact fun k m h1 h2 hm es' hf => ⟨by omega, [], (show k = m by omega) ▸ hf, Same.nil _ _⟩
  | @snoc k1 k2 k3 k4 ks its key x h he hw hc hw' ih =>
    intro k m h1 h2 hm es' hf
    subst h1 h2
    have hlt := val_lt he.1
    have l1 := hw.1
    have l2 := hw'.1
    have hk1 : k1 ≤ k2 := by
      have := elem_le he
      omega
    obtain ⟨b, rfl⟩ : ∃ b, k2 = I + b := ⟨k2 - I, by have := elms_le h; have := elem_le he; omega⟩
    obtain ⟨a, rfl⟩ : ∃ a, k1 = I + a := ⟨k1 - I, by have := elms_le h; omega⟩
    have hout : numEnd (bt s (I + b)) := by
      unfold numEnd
      rcases Nat.lt_or_ge (I + b) k3 with h5 | h5
      · exact .inl (ws_low (hw.2.2.1 _ (Nat.le_refl _) h5))
      · have : I + b = k3 := by omega
        rw [this]
        exact .inr (.inl hc)
    have hr : Run v keys (b + 1) es' := hf (b + 1) (by omega) (fun y z1 z2 => by
      rw [hu y (by omega)]
      unfold Sp
      rcases Nat.lt_trichotomy (I + y) k3 with h5 | h5 | h5
      · exact .inl (ws_low (hw.2.2.1 _ (by omega) h5))
      · rw [h5]; exact .inr hc
      · exact .inl (ws_low (hw'.2.2.1 _ (by omega) (by omega))))
    obtain ⟨e, hf2, e1, e2, e3⟩ := elem_run hu hv hn (p2 := 0) he (by omega) hout hr
    obtain ⟨hle, es0, hf3, hs⟩ := ih k a rfl rfl (by omega) _ hf2
    exact ⟨by omega, es0 ++ [e], by rw [List.append_assoc]; exact hf3, hs.snoc e1 e2 e3⟩
/-- An object or an array, in its own text. -/
theorem lst_run (hu : ∀ y, y < n → bt v y = bt s (I + y)) (hv : v = s.extract I (I + n)) (hn : n = v.size) {ks : List (List Int)} {its : List It} {J : Nat} (h : Lst s (Val s d) keys I J ks its) (hJ : J ≤ I + n) (htl : ∀ y, J ≤ I + y → y < n → isWs (bt s (I + y))) : ∃ es, Run v keys 1 es ∧ Same v keys es ks its := by
  obtain ⟨k, hw, h | ⟨m, m2, m3, ks0, its0, key, x, hE, he, hw2, hc, hj, rfl, rfl⟩⟩ := h
  · obtain ⟨hc, hj, rfl, rfl⟩ := h
    refine ⟨[], .done ?_, Same.nil _ _⟩
    have hb : ∀ y, 1 ≤ y → y < n → bt v y ≤ 32 ∨ bt v y = (if keys then 125 else 93) := fun y h1 h2 => by
      rw [hu y h2]
      rcases Nat.lt_or_ge (I + y) k with h5 | h5
      · exact .inl (ws_low (hw.2.2.1 _ (by omega) h5))
      · rcases Nat.lt_or_ge k (I + y) with h6 | h6
        · exact .inl (ws_low (htl y (by omega) h2))
        · rw [show I + y = k by omega]; exact .inr hc
    have := hw.1
    refine ⟨by omega, fun hk y h1 h2 => ?_, fun hk y h1 h2 => ?_⟩
    · have := hb y h1 (by omega)
      rw [if_pos hk] at this
      omega
    · have := hb y h1 (by omega)
      rw [if_neg (by simp [hk])] at this
      exact this
  · have l0 := hw.1
    have l1 := elms_le hE
    have l2 := elem_le he
    have l3 := hw2.1
    obtain ⟨b, rfl⟩ : ∃ b, m2 = I + b := ⟨m2 - I, by omega⟩
    obtain ⟨a, rfl⟩ : ∃ a, m = I + a := ⟨m - I, by omega⟩
    obtain ⟨k', rfl⟩ : ∃ k', k = I + k' := ⟨k - I, by omega⟩
    have hbb : ∀ y, b ≤ y → y < n → bt v y ≤ 32 ∨ bt v y = (if keys then 125 else 93) := fun y h1 h2 => by
      rw [hu y h2]
      rcases Nat.lt_or_ge (I + y) m3 with h5 | h5
      · exact .inl (ws_low (hw2.2.2.1 _ (by omega) h5))
      · rcases Nat.lt_or_ge m3 (I + y) with h6 | h6
        · exact .inl (ws_low (htl y (by omega) h2))
        · rw [show I + y = m3 by omega]; exact .inr hc
    have hout : numEnd (bt s (I + b)) := by
      have := hbb b (Nat.le_refl _) (by omega)
      rw [hu b (by omega)] at this
      unfold numEnd
      cases keys
      · simp only [Bool.false_eq_true, if_false] at this; omega
      · simp only [if_true] at this; omega
    have hr : Run v keys (b + 1) [] := .done ⟨by omega, fun hk y h1 h2 => by
      have := hbb y (by omega) (by omega)
      rw [if_pos hk] at this
      omega, fun hk y h1 h2 => by
      have := hbb y (by omega) (by omega)
      rw [if_neg (by simp [hk])] at this
      exact this⟩
    obtain ⟨e, hf2, e1, e2, e3⟩ := elem_run hu hv hn (p2 := 0) he (by omega) hout hr
    obtain ⟨_, es0, hf3, hs⟩ := elms_run hu hv hn hE k' a rfl rfl (by omega) _ hf2
    refine ⟨es0 ++ [e], hf3 1 (by omega) (fun y z1 z2 => ?_), hs.snoc e1 e2 e3⟩
    rw [hu y (by omega)]
    exact .inl (ws_low (hw.2.2.1 _ (by omega) (by omega)))
end
end Go.Proofs.YtcnkbdbkglggcaaGreatDoor

namespace Go.Proofs.YtcnkbdbkglggcaaGreatDoor
open Go.RowKit

theorem kinds_six (c : Int) : c = 34 ∨ c = 116 ∨ c = 102 ∨ c = 110 ∨ (c = 123 ∨ c = 91) ∨ kindOf c = 2 := by
  unfold kindOf
  by_cases h1 : c = 34
  · exact .inl h1
  by_cases h2 : c = 116
  · exact .inr (.inl h2)
  by_cases h3 : c = 102
  · exact .inr (.inr (.inl h3))
  by_cases h4 : c = 110
  · exact .inr (.inr (.inr (.inl h4)))
  by_cases h5 : c = 123
  · exact .inr (.inr (.inr (.inr (.inl (.inl h5)))))
  by_cases h6 : c = 91
  · exact .inr (.inr (.inr (.inr (.inl (.inr h6)))))
  · rw [if_neg h1, if_neg h2, if_neg h3, if_neg h4, if_neg h5, if_neg h6]
    exact .inr (.inr (.inr (.inr (.inr rfl))))
theorem lit_end {v : ByteArray} {n m : Nat} (h : LitQ v n) (hm : 1 ≤ m) (hl : ∀ y, 1 ≤ y → y < m → 97 ≤ bt v y ∧ bt v y ≤ 122) (ho : ¬ (97 ≤ bt v m ∧ bt v m ≤ 122)) : n = m := by
  obtain ⟨h1, h2, h3, h4⟩ := h
  rcases Nat.lt_trichotomy n m with h | h | h
  · exact absurd (hl n h1 h) h4
  · exact h
  · exact absurd (h3 m hm h) ho
theorem bt_suffix (s : ByteArray) (i y : Nat) : bt (s.extract i s.size) y = bt s (i + y) := by
  by_cases h : i + y < s.size
  · exact bt_extract h (Nat.le_refl _)
  · rw [bt_ge (by simp only [ByteArray.size_extract]; omega), bt_ge h]
theorem suffix_cut (s : ByteArray) {i j n : Nat} (hn : i + n = j) (hj : j ≤ s.size) : (s.extract i s.size).extract 0 n = s.extract i j := by
  rw [ByteArray.extract_extract]
  congr 1
  omega
/-- What 'Parse' returns and leaves, but for the fields that are not asked for. -/
def ParsedQ (w : World) (k : Int) (raw : ByteArray) (e : Ending) (w' : World) : Prop := ∃ (str : ByteArray) (x : Nat) (ix : Int), e = .returned (.agg (resCells k raw str x ix)) ∧ Upd [] w w'
theorem word_ends {s : ByteArray} {j : Nat} (hwsj : Ws s j s.size) : ¬ (97 ≤ bt s j ∧ bt s j ≤ 122) := by
  rcases Nat.lt_or_ge j s.size with h | h
  · have := ws_low (hwsj.2.2.1 j (Nat.le_refl _) h)
    omega
  · rw [bt_ge (by omega)]
    omega
theorem word1_parsed {w : World} {s u : ByteArray} {i j : Nat} {k : Int} {e : Ending} {w' : World} (h : Word1 w s i k e w') (hwsj : Ws s j s.size) (hw : WordQ s i j u) (hu0 : 1 ≤ u.size) (hu : ∀ k, k < u.size → 97 ≤ bt u k ∧ bt u k ≤ 122) : ParsedQ w k (s.extract i j) e w' := by
  obtain ⟨n, h1, h2, h3⟩ := h
  have hz := hw.1
  have hn : n = j - i := lit_end h2 (by omega) (fun y h4 h5 => by
    rw [bt_suffix, hw.2 y (by omega)]
    exact hu _ (by omega)) (by
    rw [bt_suffix, show i + (j - i) = j by omega]
    exact word_ends hwsj)
  subst hn
  rw [suffix_cut s (show i + (j - i) = j by omega) hwsj.1] at h1
  exact ⟨_, _, _, h1, h3⟩
/-- 'Parse' on a value that is no object and no array. -/
theorem parse_plain (w : World) (B : Nat) (hg : Flt w B) (s : ByteArray) (i j : Nat) (hs : s.size ≤ 65536) (hws : Ws s 0 i) (hwsj : Ws s j s.size) (hsh : Shape s i j) (hstr : bt s i = 34 → ∃ o, StrQ s i j o) (hn : ¬ (bt s i = 123 ∨ bt s i = 91)) :
    i < j ∧ Calls Tryz.prog 20 #[.string s] w fun e w' => ParsedQ w (kindOf (bt s i)) (s.extract i j) e w' := by
  have hj := hwsj.1
  rcases kinds_six (bt s i) with hc | hc | hc | hc | hc | hc
  · obtain ⟨o, ho⟩ := hstr hc
    have hlt := hsh.1 hc
    refine ⟨by omega, (parse_strQ w s i j o hs hj hws ho).mono fun e w' h => ?_⟩
    have h1 := h.1
    rw [suffix_cut s (show i + (j - i) = j by omega) hj] at h1
    rw [hc]
    exact ⟨_, _, _, h1, h.2⟩
  · have hw := hsh.2.1 hc
    have h4 : uTrue.size = 4 := rfl
    refine ⟨by have := hw.1; omega, (parse_true w s i (by omega) hws hc).mono fun e w' h => ?_⟩
    rw [hc]
    exact word1_parsed h hwsj hw (by omega) (letters _ 4 rfl (by decide))
  · have hw := hsh.2.2.1 hc
    have h4 : uFalse.size = 5 := rfl
    refine ⟨by have := hw.1; omega, (parse_false w s i (by omega) hws hc).mono fun e w' h => ?_⟩
    rw [hc]
    exact word1_parsed h hwsj hw (by omega) (letters _ 5 rfl (by decide))
  · have hw := hsh.2.2.2.1 hc
    have h4 : uNull.size = 4 := rfl
    refine ⟨by have := hw.1; omega, (parse_null w s i (by omega) hws hc ((hw.2 1 (by decide)).trans (by decide))).mono fun e w' h => ?_⟩
    rw [hc]
    exact word1_parsed h hwsj hw (by omega) (letters _ 4 rfl (by decide))
  · exact absurd hc hn
  · have hq := hsh.2.2.2.2.2.2 hc
    obtain ⟨hlt, hb, hnum⟩ := hq
    have hz : (s.extract i s.size).size = s.size - i := by simp only [ByteArray.size_extract]; omega
    have hqv : NumQ (s.extract i s.size) 0 (j - i) := ⟨by omega, by
      unfold Begin at *
      rw [bt_suffix, bt_suffix, Nat.add_zero, ← Nat.add_assoc, Nat.add_zero]
      exact hb, fun k h1 h2 => by
      rw [bt_suffix]
      exact hnum _ (by omega) (by omega)⟩
    have hout : j - i < (s.extract i s.size).size → numEnd (bt (s.extract i s.size) (j - i)) := fun h => by
      rw [bt_suffix, show i + (j - i) = j by omega]
      exact .inl (ws_low (hwsj.2.2.1 j (Nat.le_refl _) (by omega)))
    refine ⟨hlt, (parse_numq w s i (by omega) hws (by unfold Begin at hb; rcases hb with h | h; exact .inr h; exact .inl h.1) (s.extract i j) (fun w0 hu => ?_)).mono fun e w' h => ?_⟩
    · have h1 := tonum_num w0 B (hg.upd hu) (s.extract i s.size) (j - i) (by omega) (by omega) (by omega) hqv hout
      rw [suffix_cut s (show i + (j - i) = j by omega) hj] at h1
      exact h1
    · rw [hc]
      obtain ⟨⟨x, h1⟩, h2⟩ := h
      exact ⟨_, _, _, h1, h2⟩
theorem FeM.imp {w : World} {bk bv : Nat} {M N : List Rs → List Rs → Prop} {e : Ending} {w' : World} (h : FeM w bk bv M e w') (hi : ∀ kx vx, M kx vx → N kx vx) : FeM w bk bv N e w' := by
  obtain ⟨h1, ⟨kv, vv, kx, vx, hp, hm⟩, h3⟩ := h
  exact ⟨h1, ⟨kv, vv, kx, vx, hp, hi _ _ hm⟩, h3⟩
/-- One value alone. -/
def OneQ (k : Int) (raw : ByteArray) (_kx vx : List Rs) : Prop := ∃ r : Rs, vx = [r] ∧ r.k = k ∧ r.raw = raw
theorem kind_five {c : Int} (h : ¬ (c = 123 ∨ c = 91)) : kindOf c ≠ 5 := by
  unfold kindOf
  (repeat' split) <;> omega
theorem pairs_plain (w : World) (B : Nat) (hg : Flt w B) (s : ByteArray) (i j : Nat) (hs : s.size ≤ 65536) (hws : Ws s 0 i) (hwsj : Ws s j s.size) (hsh : Shape s i j) (hstr : bt s i = 34 → ∃ o, StrQ s i j o) (hn : ¬ (bt s i = 123 ∨ bt s i = 91)) :
    Calls Tryz.prog 16 #[.string s] w fun e w' => PairOut w (fun kx vx => kx.length = 1 ∧ OneQ (kindOf (bt s i)) (s.extract i j) kx vx) e w' := by
  obtain ⟨hij, hP⟩ := parse_plain w B hg s i j hs hws hwsj hsh hstr hn
  have hj := hwsj.1
  refine pairs_any w s (kindOf (bt s i)) (s.extract i j) _ (fun kx vx h => ?_) hP fun w1 str x ix hu => ?_
  · obtain ⟨h1, r, rfl, _, _⟩ := h
    exact ⟨by omega, by simp⟩
  · refine zzpairs_any w1 _ _ _ _ _ _ fun w2 bk bv hu2 h1 h2 hk hv hne => ?_
    refine (foreach_one w2 bk bv _ _ _ _ _ (kind_five hn) (by simp only [ByteArray.size_extract]; omega) hk hv hne).mono fun e w' h => h.imp fun kx vx hm => ?_
    obtain ⟨rfl, rfl⟩ := hm
    exact ⟨rfl, _, rfl, rfl, rfl⟩
/-- The elements of a list. -/
def ListQ (v : ByteArray) (keys : Bool) (ks : List (List Int)) (its : List It) (kx vx : List Rs) : Prop := ∃ es, Mat v keys es kx vx ∧ Same v keys es ks its
theorem FeOut.list {w : World} {bk bv : Nat} {v : ByteArray} {keys : Bool} {es : List El} {ks : List (List Int)} {its : List It} {e : Ending} {w' : World} (h : FeOut w bk bv v keys es e w') (hs : Same v keys es ks its) : FeM w bk bv (ListQ v keys ks its) e w' := by
  obtain ⟨h1, ⟨kv, vv, kx, vx, hp, hm⟩, h3⟩ := h
  exact ⟨h1, ⟨kv, vv, kx, vx, hp, es, hm, hs⟩, h3⟩
theorem pairs_list (w : World) (B : Nat) (hg : Glb w B) (s : ByteArray) (i j d : Nat) (keys : Bool) (ks : List (List Int)) (its : List It) (hs : s.size ≤ 65536) (hws : Ws s 0 i) (hwsj : Ws s j s.size) (hc : bt s i = if keys then 123 else 91) (hl : Lst s (Val s d) keys i j ks its) (hits : its.length ≤ 65536) :
    Calls Tryz.prog 16 #[.string s] w fun e w' => PairOut w (ListQ (s.extract i s.size) keys ks its) e w' := by
  have hj := hwsj.1
  have hor : bt s i = 123 ∨ bt s i = 91 := by
    rw [hc]
    cases keys
    · exact .inr rfl
    · exact .inl rfl
  have hi : i < s.size := lt_of_bt (by omega)
  have hz : (s.extract i s.size).size = s.size - i := by simp only [ByteArray.size_extract]; omega
  obtain ⟨es, hr, hsm⟩ := lst_run (s := s) (v := s.extract i s.size) (I := i) (n := s.size - i) (keys := keys) (fun y hy => bt_suffix s i y) (by rw [show i + (s.size - i) = s.size by omega]) (by omega) hl (by omega) (fun y h1 h2 => hwsj.2.2.1 _ h1 (by omega))
  have hv0 : bt (s.extract i s.size) 0 = if keys then 123 else 91 := by
    rw [bt_suffix, Nat.add_zero]
    exact hc
  refine pairs_any w s 5 (s.extract i s.size) _ (fun kx vx h => ?_) ((parse_json w s i (by omega) hws hor).mono fun e w' h => ⟨_, _, _, h.1, h.2⟩) fun w1 str x ix hu => ?_
  · obtain ⟨es2, h1, h2⟩ := h
    obtain ⟨l1, l2⟩ := h1.len
    have l3 := h2.1
    exact ⟨by omega, by omega⟩
  · have hg1 := hg.upd hu
    refine zzpairs_any w1 _ _ _ _ _ _ fun w2 bk bv hu2 h1 h2 hk hv hne => ?_
    cases keys with
    | true => exact (foreach_obj w1 w2 B bk bv _ str x ix es hg1 hu2 h1 h2 hk hv hne (by omega) hv0 hr).mono fun e w' h => h.list hsm
    | false => exact (foreach_arr w1 w2 B bk bv _ str x ix es hg1 hu2 h1 h2 hk hv hne (by omega) hv0 hr).mono fun e w' h => h.list hsm
end Go.Proofs.YtcnkbdbkglggcaaGreatDoor

namespace Go.Proofs.YtcnkbdbkglggcaaGreatDoor
open Go.RowKit

theorem vrow_at (l : List (Rs × Bool)) (n : Nat) (r : Rs) (th : Bool) (h : l[n]? = some (r, th)) (j : Nat) (hj : j < 6) : (vrow l)[n * 6 + j]? = (r.vcells th)[j]? := by
  induction l generalizing n with
  | nil => cases h
  | cons r0 l ih =>
    have hc : (r0.1.vcells r0.2).length = 6 := rfl
    cases n with
    | zero =>
      have e : r0 = (r, th) := by simpa using h
      subst e
      have hc2 : (r.vcells th).length = 6 := rfl
      rw [show vrow ((r, th) :: l) = r.vcells th ++ vrow l from rfl, List.getElem?_append_left (by omega), Nat.zero_mul, Nat.zero_add]
    | succ n =>
      rw [show vrow (r0 :: l) = r0.1.vcells r0.2 ++ vrow l from rfl, List.getElem?_append_right (by omega), show (n + 1) * 6 + j - (r0.1.vcells r0.2).length = n * 6 + j by omega]
      exact ih n h
theorem icells_at (l : List It) (n : Nat) (x : It) (h : l[n]? = some x) (j : Nat) (hj : j < 7) : (icells l)[n * 7 + j]? = x.cells[j]? := by
  induction l generalizing n with
  | nil => cases h
  | cons x0 l ih =>
    have hc : x0.cells.length = 7 := rfl
    cases n with
    | zero =>
      have e : x0 = x := by simpa using h
      subst e
      rw [show icells (x0 :: l) = x0.cells ++ icells l from rfl, List.getElem?_append_left (by omega), Nat.zero_mul, Nat.zero_add]
    | succ n =>
      rw [show icells (x0 :: l) = x0.cells ++ icells l from rfl, List.getElem?_append_right (by omega), show (n + 1) * 7 + j - x0.cells.length = n * 7 + j by omega]
      exact ih n h
theorem own_some {w : World} {base n : Nat} {e : TypeId} {size : Nat} {v : Value} {xs : List Value} (h : w.ownsRow base e size v n xs) (h0 : 0 < n) : ∃ g c, v = .slice (some ⟨g, 0, none⟩) n c := by
  rcases h.2 with ⟨_, h2⟩ | ⟨g, cap, cur, hv, _⟩
  · omega
  · exact ⟨g, cap, hv⟩
/-- The lists, element by element. -/
theorem listq_at {v : ByteArray} {keys : Bool} {ks : List (List Int)} {its : List It} {kl vl : List (Rs × Bool)} (h : ListQ v keys ks its (kl.map Prod.fst) (vl.map Prod.fst)) :
    kl.length = its.length ∧ vl.length = its.length ∧ (keys = true → ks.length = its.length) ∧
      ∀ (n : Nat) (x : It), its[n]? = some x → ∃ (r : Rs) (th : Bool) (q : Rs) (tq : Bool), kl[n]? = some (r, th) ∧ vl[n]? = some (q, tq) ∧ q.k = x.kind ∧ q.raw = x.raw ∧ (keys = true → ∃ key, ks[n]? = some key ∧ r.str = strOfNums key) := by
  obtain ⟨es, hm, hl, hkl, hs⟩ := h
  obtain ⟨l1, l2⟩ := hm.len
  rw [List.length_map] at l1 l2
  refine ⟨by omega, by omega, hkl, fun n x hn => ?_⟩
  obtain ⟨e, e1, e2, e3, e4⟩ := hs n x hn
  obtain ⟨r, q, m1, m2, m3, m4, m5⟩ := hm.nth n e e1
  rw [List.getElem?_map] at m1 m2
  obtain ⟨⟨r', th⟩, z1, rfl⟩ := Option.map_eq_some_iff.1 m1
  obtain ⟨⟨q', tq⟩, z2, rfl⟩ := Option.map_eq_some_iff.1 m2
  exact ⟨r', th, q', tq, z1, z2, m3.trans e2, m4.trans e3, fun hk => ⟨e.key, e4 hk, m5 hk⟩⟩
end Go.Proofs.YtcnkbdbkglggcaaGreatDoor
