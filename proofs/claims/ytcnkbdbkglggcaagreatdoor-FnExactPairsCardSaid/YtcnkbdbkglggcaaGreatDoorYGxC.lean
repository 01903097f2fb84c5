/-
  The library's 'parseFloat64' on every number of 64 digits and every power from -345 to 310: it returns. Condition: the table of powers holds numbers.
-/
import Derived.Test.YtcnkbdbkglggcaaGreatDoorZMN
set_option linter.unusedVariables false
set_option linter.unusedSimpArgs false
namespace Go.Proofs.YtcnkbdbkglggcaaGreatDoor
open Go.RowKit

def LenOK (w : World) (e : Ending) (w' : World) : Prop := (∃ b : Int, e = .returned (.int .i64 b) ∧ 0 ≤ b ∧ b ≤ 64) ∧ w' = w
theorem wrap_u8_range (x : Int) : 0 ≤ IntKind.u8.wrap x ∧ IntKind.u8.wrap x < 256 := by
  rw [IntKind.wrap_u8']
  omega
theorem len_fin {w : World} (n : Int) {m : Nat} (hm : m ≤ 8) (h0 : 0 ≤ n) (h1 : n ≤ 56) : LenOK w (.returned (.int .i64 (wrap64 (n + wrap64 (m : Int))))) w := by
  rw [IntWalk.wrap64_in (m : Int) (by omega), IntWalk.wrap64_in _ (by omega)]
  exact ⟨⟨_, rfl, by omega, by omega⟩, rfl⟩
theorem len_fin0 {w : World} {m : Nat} (hm : m ≤ 8) : LenOK w (.returned (.int .i64 (wrap64 (wrap64 (m : Int))))) w := by
  rw [IntWalk.wrap64_in (m : Int) (by omega), IntWalk.wrap64_in _ (by omega)]
  exact ⟨⟨_, rfl, by omega, by omega⟩, rfl⟩
set_option maxHeartbeats 2000000 in
set_option maxRecDepth 100000 in
theorem len64_any (w : World) (d : Int) (h0 : 0 ≤ d) (h1 : d < 18446744073709551616) : Calls Tryz.prog 102 #[.int .u64 d] w fun e w' => LenOK w e w' := by
  by_cases c1 : 4294967296 ≤ d
  · have d1 : decide (4294967296 ≤ d) = true := decide_eq_true c1
    by_cases c2 : 65536 ≤ d / 4294967296
    · have d2 : decide (65536 ≤ d / 4294967296) = true := decide_eq_true c2
      by_cases c3 : 256 ≤ d / 4294967296 / 65536
      · have d3 : decide (256 ≤ d / 4294967296 / 65536) = true := decide_eq_true c3
        have w1 : IntKind.u8.wrap (d / 4294967296 / 65536 / 256) = d / 4294967296 / 65536 / 256 := by rw [IntKind.wrap_u8']; omega
        have r0 : 0 ≤ d / 4294967296 / 65536 / 256 := by omega
        have r1 : d / 4294967296 / 65536 / 256 < 256 := by omega
        clear h0 h1 c1 c2 c3
        go_enter Tryz.func102, Tryz.ntmps102
        go_wp2_with fail
        go_ret
        refine len_fin 56 ?_ (by decide) (by decide)
        exact tab_le8 (by decide) _ (by omega)
      · have d3 : decide (256 ≤ d / 4294967296 / 65536) = false := decide_eq_false c3
        have w1 : IntKind.u8.wrap (d / 4294967296 / 65536) = d / 4294967296 / 65536 := by rw [IntKind.wrap_u8']; omega
        have r0 : 0 ≤ d / 4294967296 / 65536 := by omega
        have r1 : d / 4294967296 / 65536 < 256 := by omega
        clear h0 h1 c1 c2 c3
        go_enter Tryz.func102, Tryz.ntmps102
        go_wp2_with fail
        go_ret
        refine len_fin 48 ?_ (by decide) (by decide)
        exact tab_le8 (by decide) _ (by omega)
    · have d2 : decide (65536 ≤ d / 4294967296) = false := decide_eq_false c2
      by_cases c3 : 256 ≤ d / 4294967296
      · have d3 : decide (256 ≤ d / 4294967296) = true := decide_eq_true c3
        have w1 : IntKind.u8.wrap (d / 4294967296 / 256) = d / 4294967296 / 256 := by rw [IntKind.wrap_u8']; omega
        have r0 : 0 ≤ d / 4294967296 / 256 := by omega
        have r1 : d / 4294967296 / 256 < 256 := by omega
        clear h0 h1 c1 c2 c3
        go_enter Tryz.func102, Tryz.ntmps102
        go_wp2_with fail
        go_ret
        refine len_fin 40 ?_ (by decide) (by decide)
        exact tab_le8 (by decide) _ (by omega)
      · have d3 : decide (256 ≤ d / 4294967296) = false := decide_eq_false c3
        have w1 : IntKind.u8.wrap (d / 4294967296) = d / 4294967296 := by rw [IntKind.wrap_u8']; omega
        have r0 : 0 ≤ d / 4294967296 := by omega
        have r1 : d / 4294967296 < 256 := by omega
        clear h0 h1 c1 c2 c3
        go_enter Tryz.func102, Tryz.ntmps102
        go_wp2_with fail
        go_ret
        refine len_fin 32 ?_ (by decide) (by decide)
        exact tab_le8 (by decide) _ (by omega)
  · have d1 : decide (4294967296 ≤ d) = false := decide_eq_false c1
    by_cases c2 : 65536 ≤ d
    · have d2 : decide (65536 ≤ d) = true := decide_eq_true c2
      by_cases c3 : 256 ≤ d / 65536
      · have d3 : decide (256 ≤ d / 65536) = true := decide_eq_true c3
        have w1 : IntKind.u8.wrap (d / 65536 / 256) = d / 65536 / 256 := by rw [IntKind.wrap_u8']; omega
        have r0 : 0 ≤ d / 65536 / 256 := by omega
        have r1 : d / 65536 / 256 < 256 := by omega
        clear h0 h1 c1 c2 c3
        go_enter Tryz.func102, Tryz.ntmps102
        go_wp2_with fail
        go_ret
        refine len_fin 24 ?_ (by decide) (by decide)
        exact tab_le8 (by decide) _ (by omega)
      · have d3 : decide (256 ≤ d / 65536) = false := decide_eq_false c3
        have w1 : IntKind.u8.wrap (d / 65536) = d / 65536 := by rw [IntKind.wrap_u8']; omega
        have r0 : 0 ≤ d / 65536 := by omega
        have r1 : d / 65536 < 256 := by omega
        clear h0 h1 c1 c2 c3
        go_enter Tryz.func102, Tryz.ntmps102
        go_wp2_with fail
        go_ret
        refine len_fin 16 ?_ (by decide) (by decide)
        exact tab_le8 (by decide) _ (by omega)
    · have d2 : decide (65536 ≤ d) = false := decide_eq_false c2
      by_cases c3 : 256 ≤ d
      · have d3 : decide (256 ≤ d) = true := decide_eq_true c3
        have w1 : IntKind.u8.wrap (d / 256) = d / 256 := by rw [IntKind.wrap_u8']; omega
        have r0 : 0 ≤ d / 256 := by omega
        have r1 : d / 256 < 256 := by omega
        clear h0 h1 c1 c2 c3
        go_enter Tryz.func102, Tryz.ntmps102
        go_wp2_with fail
        go_ret
        refine len_fin 8 ?_ (by decide) (by decide)
        exact tab_le8 (by decide) _ (by omega)
      · have d3 : decide (256 ≤ d) = false := decide_eq_false c3
        have w1 : IntKind.u8.wrap (d) = d := by rw [IntKind.wrap_u8']; omega
        have r0 : 0 ≤ d := by omega
        have r1 : d < 256 := by omega
        clear h0 h1 c1 c2 c3
        go_enter Tryz.func102, Tryz.ntmps102
        go_wp2_with fail
        go_ret
        first | refine len_fin 0 ?_ (by decide) (by decide) | refine len_fin0 ?_
        exact tab_le8 (by decide) _ (by omega)
structure PowT (w : World) : Prop where
  tab : ∀ i : Nat, i < 696 → ∃ a b : Int, w.cell? ⟨11, i * 2, none⟩ = some (.int .u64 a) ∧ w.cell? ⟨11, i * 2 + 1, none⟩ = some (.int .u64 b)
  lt : 11 < w.heap.size
theorem PowT.upd {w w' : World} (h : PowT w) (hu : Upd [] w w') : PowT w' :=
  ⟨fun i hi => by
    obtain ⟨a, b, h1, h2⟩ := h.tab i hi
    exact ⟨a, b, by rw [hu.cell (p := ⟨11, _, none⟩) h.lt (by simp)]; exact h1, by rw [hu.cell (p := ⟨11, _, none⟩) h.lt (by simp)]; exact h2⟩, Nat.lt_of_lt_of_le h.lt hu.size⟩
theorem prescale_any (w : World) (hg : PowT w) (g : Nat) (hne : g ≠ 11) (p e lp : Int) (n : Nat) (hn : p = (n : Int) - 348) (hn2 : n < 696) (hb : Blk w g 172 #[.int .u64 0, .int .u64 0, .int .i64 0]) (he : -10000 ≤ e) (he2 : e ≤ 10000) (hl : -10000 ≤ lp) (hl2 : lp ≤ 10000) :
    Calls Tryz.prog 123 #[.pointer (some ⟨g, 0, none⟩), .int .i64 e, .int .i64 p, .int .i64 lp] w fun r w' => r = .returned (.tuple #[]) ∧ (∃ a b : Int, Blk w' g 172 #[.int .u64 a, .int .u64 b, .int .i64 (-(e + lp + 3))]) ∧ Upd [g] w w' := by
  obtain ⟨a, b, h1, h2⟩ := hg.tab n hn2
  have t0 := hb.cell 0
  have t1 := hb.cell 1
  have t2 := hb.cell 2
  have tf := hb.frozen
  simp only [List.getElem?_toArray, List.getElem?_cons_zero, List.getElem?_cons_succ] at t0 t1 t2
  have w1 : IntKind.i64.wrap (p - -348) = (n : Int) := by rw [hn, show (n : Int) - 348 - -348 = n by omega]; exact IntWalk.i64_in _ (by omega)
  have w2 : IntKind.i64.wrap (p + 348) = (n : Int) := by rw [hn, show (n : Int) - 348 + 348 = n by omega]; exact IntWalk.i64_in _ (by omega)
  have w3 : IntKind.i64.wrap (e + lp) = e + lp := IntWalk.i64_in _ (by omega)
  have w4 : IntKind.i64.wrap (e + lp + 3) = e + lp + 3 := IntWalk.i64_in _ (by omega)
  have w5 : IntKind.i64.wrap (-(e + lp + 3)) = -(e + lp + 3) := IntWalk.i64_in _ (by omega)
  have HB := Lib.hid hb
  clear hb hg hn
  go_enter Tryz.func123, Tryz.ntmps123
  go_wp2_with fail
  go_end0
  exact ⟨rfl, ⟨_, _, ((HB.out.set_ 0 _).set_ 1 _).set_ 2 _⟩, (((Upd.refl [g] w).setCell (p := ⟨g, 0, none⟩) (.inl (.head _)) _).setCell (p := ⟨g, 1, none⟩) (.inl (.head _)) _).setCell (p := ⟨g, 2, none⟩) (.inl (.head _)) _⟩
theorem bool2_any (w : World) (b : Bool) : Calls Tryz.prog 150 #[.bool b] w fun e w' => (∃ v : Int, e = .returned (.int .u64 v)) ∧ w' = w := by
  cases b
  · exact (bool2_no w).mono fun e w' h => ⟨⟨_, h.1⟩, h.2⟩
  · exact (bool2_yes w).mono fun e w' h => ⟨⟨_, h.1⟩, h.2⟩
set_option maxHeartbeats 2000000 in
theorem uscale_any (w : World) (g : Nat) (D a b s : Int) (h0 : 0 ≤ s) (h1 : s < 64) (hb : Blk w g 172 #[.int .u64 a, .int .u64 b, .int .i64 s]) :
    Calls Tryz.prog 125 #[.int .u64 D, .pointer (some ⟨g, 0, none⟩)] w fun e w' => U64Any w e w' := by
  have t0 := hb.cell 0
  have t1 := hb.cell 1
  have t2 := hb.cell 2
  simp only [List.getElem?_toArray, List.getElem?_cons_zero, List.getElem?_cons_succ] at t0 t1 t2
  have m8 := and63 s h0 h1
  clear hb
  go_enter Tryz.func125, Tryz.ntmps125
  go_upto_region 7 with (first | (go_at_call 157; refine (mul64_any _ _ _).mono ?_; rintro e w1 ⟨⟨hh, ll, rfl⟩, rfl⟩) | (go_at_call 150; refine (bool2_any _ _).mono ?_; rintro e w1 ⟨⟨bb, rfl⟩, rfl⟩))
  · go_ret
    exact ⟨⟨_, rfl⟩, Upd.refl _ _⟩
  · go_region_with (go_at_call 150; refine (bool2_any _ _).mono ?_; rintro e w1 ⟨⟨bb, rfl⟩, rfl⟩)
    all_goals go_wp2_with fail
    all_goals go_ret
    all_goals exact ⟨⟨_, rfl⟩, (Upd.refl [] _).drew⟩
theorem b2x (w : World) (b : Bool) : Calls Tryz.prog 131 #[.bool b] w fun e w' => (∃ v : Int, e = .returned (.int .i64 v) ∧ 0 ≤ v ∧ v ≤ 1) ∧ w' = w := by
  refine (b2int w b).mono fun e w' h => ⟨⟨_, h.1, ?_⟩, h.2⟩
  cases b <;> decide
def PfAny (w : World) (e : Ending) (w' : World) : Prop := (∃ x v, e = .returned (.tuple #[.float .f64 x, v]) ∧ (v = .nilIface ∨ v = .iface 105 (.int .i64 1))) ∧ Upd [] w w'
set_option maxHeartbeats 4000000 in
theorem pf64_all (w : World) (hg : PowT w) (d p S : Int) (h0 : 0 ≤ d) (h1 : d < 18446744073709551616) (hp0 : -345 ≤ p) (hp1 : p ≤ 310) :
    Calls Tryz.prog 153 #[.int .u64 d, .int .i64 p, .int .u64 S] w fun e w' => PfAny w e w' := by
  have rf := run_frombits
  obtain ⟨lp, hlp⟩ : ∃ l, l = p * 108853 / 32768 := ⟨_, rfl⟩
  have l0 : -1200 ≤ lp := by omega
  have l1 : lp ≤ 1200 := by omega
  have HL := Lib.hid hlp
  clear hlp
  have HG := Lib.hid hg
  have HU0 := Lib.hid ((Upd.refl [] w).alloc (.cells #[.int .u64 0, .int .u64 0, .int .i64 0] 172))
  have HB0 := Lib.hid (Blk.new w 172 #[.int .u64 0, .int .u64 0, .int .i64 0])
  have hgl := hg.lt
  clear hg
  go_enter Tryz.func153, Tryz.ntmps153
  go_upto_region 3 with (first | (go_at_call 102; refine (len64_any _ d h0 h1).mono ?_; rintro e w1 ⟨⟨b, rfl, b0, b1⟩, rfl⟩) | (go_at_call 124; refine (log2_any _ p (by omega) (by omega)).mono ?_; rintro e w1 ⟨rfl, rfl⟩))
  rw [← HL.out]
  have w1 : IntKind.i64.wrap (53 - b) = 53 - b := IntWalk.i64_in _ (by omega)
  have w2 : IntKind.i64.wrap (53 - b - lp) = 53 - b - lp := IntWalk.i64_in _ (by omega)
  have w3 : IntKind.i64.wrap (64 - b) = 64 - b := IntWalk.i64_in _ (by omega)
  go_upto_region 5 with fail
  obtain ⟨E, hE⟩ : ∃ E : Int, E = (if 53 - b - lp < 1074 then 53 - b - lp else 1074) := ⟨_, rfl⟩
  rw [← hE]
  have E0 : -1400 ≤ E := by rw [hE]; split <;> omega
  have E1 : E ≤ 53 - b - lp := by rw [hE]; split <;> omega
  clear hE w1 w2
  have w4 : IntKind.i64.wrap (E - (64 - b)) = E - (64 - b) := IntWalk.i64_in _ (by omega)
  go_upto_region 6 with (go_at_call 123; refine (prescale_any _ (HG.out.upd HU0.out) _ (by omega) p (E - (64 - b)) lp (p + 348).toNat (by omega) (by omega) HB0.out (by omega) (by omega) (by omega) (by omega)).mono ?_; rintro e w2 ⟨rfl, ⟨ta, tb, hb2⟩, hu2⟩)
  have HB2 := Lib.hid hb2
  have t2 := hb2.cell 2
  simp only [List.getElem?_toArray, List.getElem?_cons_zero, List.getElem?_cons_succ] at t2
  have HU2 := Lib.hid (HU0.out.then hu2 (fun x hx => by simp only [List.mem_singleton] at hx; subst hx; exact .inr (Nat.le_refl _)))
  clear hb2 hu2
  obtain ⟨s, hs⟩ : ∃ s : Int, s = -(E - (64 - b) + lp + 3) := ⟨_, rfl⟩
  rw [← hs] at t2 HB2
  have s0 : 8 ≤ s := by omega
  clear hs w4
  by_cases hc : 64 ≤ s
  · have dA : decide (64 ≤ s) = true := decide_eq_true hc
    go_wp2_with fail
    go_ret2
    exact ⟨⟨_, _, rfl, .inl rfl⟩, HU2.out⟩
  · have dA : decide (64 ≤ s) = false := decide_eq_false hc
    go_wp2_with (first | (go_at_call 125; refine (uscale_any _ _ _ ta tb s (by omega) (by omega) HB2.out).mono ?_; rintro e w3 ⟨⟨u, rfl⟩, hu3⟩) | (go_at_call 132; refine (unmin_53 _).mono ?_; rintro e w4 ⟨rfl, rfl⟩) | (go_at_call 131; refine (b2x _ _).mono ?_; rintro e w4 ⟨⟨sv, rfl, s0, s1⟩, rfl⟩) | (go_at_call 129; refine (round_any _ _).mono ?_; rintro e w4 ⟨⟨rv, rfl⟩, rfl⟩) | (go_at_call 165; refine (pack_any _ _ _).mono ?_; rintro e w4 ⟨⟨x, v, rfl, hv⟩, rfl⟩))
    refine bodyPost_ret (v := .tuple #[.float .f64 x, v]) ?_ rfl ⟨⟨x, v, rfl, hv⟩, HU2.out.trans hu3⟩
    simp [results, Tryz.results153, go_sem]
end Go.Proofs.YtcnkbdbkglggcaaGreatDoor
