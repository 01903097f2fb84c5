/-
  The program's 'unescape' on a string's inside, all of whose surrogates are in pairs. Condition: the inside has at most 65536 bytes.
-/
import Derived.Test.YtcnkbdbkglggcaaGreatDoorZMG
import Derived.Test.YtcnkbdbkglggcaaGreatDoorZMD
import Derived.Deep.CutBlock
import Derived.Deep.DeepCutAuto
namespace Go.Proofs.YtcnkbdbkglggcaaGreatDoor
open Go.RowKit

/-- The state at the head of each round: what is written so far, and what is still to come. -/
def UnI (w : World) (u : ByteArray) (o : List Int) (v : Value) (a : Nat) (p q : List Int) (wr : World) : Prop :=
  wr.ownsRow w.heap.size 5 1 v p.length (p.map (Value.int .u8)) ∧ Upd [] w wr ∧ p.length ≤ 4 * a ∧ a ≤ u.size ∧ o = p ++ q
theorem UnI.one {w wr w2 : World} {u : ByteArray} {o : List Int} {v v' : Value} {a a' : Nat} {p q q' : List Int} (h : UnI w u o v a p q wr) (c : Int) (ob : Obj)
    (hown : w2.ownsRow w.heap.size 5 1 v' (p.length + 1) (p.map (Value.int .u8) ++ [.int .u8 c])) (hg : (wr.alloc ob).grownBy w2 v.ownBlock) (hq : q = c :: q') (ha : a < a') (ha' : a' ≤ u.size) : UnI w u o v' a' (p ++ [c]) q' w2 := by
  obtain ⟨h1, h2, h3, h4, h5⟩ := h
  refine ⟨by simpa using hown, (h2.alloc ob).of_grown hg fun k hk => .inr (h1.lt k hk).1, by simp; omega, ha', ?_⟩
  rw [h5, hq]
  simp
theorem UnI.more {w wr w3 : World} {u : ByteArray} {o : List Int} {v v3 : Value} {a a' : Nat} {p q q' e : List Int} (h : UnI w u o v a p q wr)
    (hown : w3.ownsRow w.heap.size 5 1 v3 (p.length + e.length) (p.map (Value.int .u8) ++ e.map (Value.int .u8))) (hu : Upd [] w w3) (hq : q = e ++ q') (he : e.length ≤ 4) (ha : a < a') (ha' : a' ≤ u.size) : UnI w u o v3 a' (p ++ e) q' w3 := by
  obtain ⟨h1, h2, h3, h4, h5⟩ := h
  refine ⟨by simpa using hown, hu, by simp; omega, ha', ?_⟩
  rw [h5, hq]
  simp
theorem own_form {w : World} {base : Nat} {v : Value} {n : Nat} {xs : List Value} (h : w.ownsRow base 5 1 v n xs) (hn : 0 < n) : ∃ g cap, v = .slice (some ⟨g, 0, none⟩) n cap ∧ base ≤ g ∧ g < w.heap.size ∧ n ≤ cap := by
  rcases h.2 with ⟨_, h0⟩ | ⟨g, cap, cur, hv, hb, hg, hc, _⟩
  · omega
  · refine ⟨g, cap, hv, hb, ?_, hc⟩
    rcases Nat.lt_or_ge g w.heap.size with hlt | hge
    · exact hlt
    · rw [Array.getElem?_eq_none hge] at hg; cases hg
theorem cell_new_8 (W : World) (n : Nat) (hn : n = W.heap.size) : ∀ j x, [Value.int .u8 0, .int .u8 0, .int .u8 0, .int .u8 0, .int .u8 0, .int .u8 0, .int .u8 0, .int .u8 0][j]? = some x →
    (W.alloc (.cells #[.int .u8 0, .int .u8 0, .int .u8 0, .int .u8 0, .int .u8 0, .int .u8 0, .int .u8 0, .int .u8 0] 5)).cell? ((⟨n, 0, none⟩ : Addr).add j) = some x := by
  intro j x hj
  subst hn
  have hp : (⟨W.heap.size, 0, none⟩ : Addr).add j = ⟨W.heap.size, 0 + j, none⟩ := by unfold Addr.add; split <;> simp_all
  rw [hp, Nat.zero_add, (Blk.new W 5 #[.int .u8 0, .int .u8 0, .int .u8 0, .int .u8 0, .int .u8 0, .int .u8 0, .int .u8 0, .int .u8 0]).cell j]
  simpa using hj
theorem cut_from (s : ByteArray) (i : Int) (j : Nat) (hij : i = (j : Int)) (h : j ≤ s.size) (w : World) : (Instr.slice 9 (.string s) (some (.int .i64 i)) none none).run Tryz.prog w = .ok (.string (s.extract j s.size)) w := by
  subst hij
  simp [Instr.slice, Instr.sliceBounds, Instr.sliceBound, asIntOf, run_underlying Tryz.underlying9]
  intro hc
  omega
theorem rest_hex {u : ByteArray} {a : Nat} (hq : HexQ u a 4) (hs : a + 4 ≤ u.size) (w : World) : Calls Tryz.prog 60 #[.string (u.extract a u.size)] w fun e w' => e = .returned (.int .i32 (hexP u a 4)) ∧ Upd [] w w' := by
  have hz : (u.extract a u.size).size = u.size - a := by simp only [ByteArray.size_extract]; omega
  have hx := hexP_shift (s := u) (u := u.extract a u.size) (p := a) (a := 0) (x := 4) fun y hy => bt_extract (by omega) (Nat.le_refl _)
  rw [Nat.add_zero] at hx
  have H := runeit_hex w (u.extract a u.size) (by omega) (hx.2 hq)
  rw [hx.1] at H
  exact H

set_option maxRecDepth 100000 in
set_option maxHeartbeats 16000000 in
theorem unescape_any (w : World) (u : ByteArray) (o : List Int) (hs : u.size ≤ 65536) (hr : Rest u u.size 0 o) :
    Calls Tryz.prog 41 #[.string u] w fun e w' => e = .returned (.string (strOfNums o)) ∧ Upd [] w w' := by
  obtain ⟨i0, hi0, hz0, hz1, hz2⟩ := info_parts info5
  have HR := Lib.hid hr
  clear hr
  go_enter Tryz.func41, Tryz.ntmps41
  go_wp2_with (refine wpList_make_own _ rfl _ _ 72 rfl w.heap.size 5 i0 (.int .u8 0) 1 Tryz.underlying72 hi0 hz0 hz1 .i64 .i64 _ u.size rfl rfl rfl ?b2 ?b3 (Nat.le_refl _) ?_)
  case b2 => rw [hz2]; omega
  case b3 => unfold maxLen; omega
  intro w1 hown hg1
  have H0 : Hid (UnI w u o (.slice (some ⟨w.heap.size, 0, none⟩) 0 u.size) 0 [] o w1) := ⟨hown, (Upd.refl [] w).of_grown hg1 (fun k hk => by cases hk), by simp, by omega, rfl⟩
  clear hown hg1
  go_wp2_with fail
  go_loopg [3, 4] u.size (fun g v3 v4 wr => ∃ (v : Value) (a : Nat) (p q : List Int), v3 = v ∧ v4 = .int .i64 a ∧ UnI w u o v a p q wr ∧ Hid (Rest u u.size a q ∧ g = u.size - a))
  case atStart => exact ⟨_, 0, [], o, rfl, rfl, H0.out, HR.out, rfl⟩
  case round =>
    clear H0
    obtain ⟨v, a, p, q, rfl, rfl, hI, hh⟩ := hrel
    have HI := Lib.hid hI
    have hpl := hI.2.2.1
    have hau := hI.2.2.2.1
    have hsz : w.heap.size ≤ wr.heap.size := hI.2.1.size
    have hcv := own_str hI.1
    have hw0 := hI.1
    clear hI
    obtain ⟨hrest, hg⟩ := hh.out
    clear hh
    have HG := Lib.hid hg
    clear hg
    cases hrest with
    | done =>
      have HO : Hid (o = p) := by
        have h1 := HI.out.2.2.2.2
        show o = p
        simpa using h1
      have hup := HI.out.2.1
      clear hw0
      go_wp2_with fail
      go_ret
      exact ⟨by rw [HO.out]; rfl, hup⟩
    | @plain _ q' h32 h34 h92 hr' =>
      clear hcv
      have hlt : a < u.size := hr'.le
      have hb : (u[a].toNat : Int) = bt u a := bt_lt hlt
      rw [← hb] at h32 h92
      have d32 : decide ((u[a].toNat : Int) < 32) = false := decide_eq_false (by omega)
      have d92 : ((u[a].toNat : Int) == 92) = false := beq_eq_false_iff_ne.2 h92
      have HB := Lib.hid hb
      have HR' := Lib.hid hr'
      clear hb h34 h92 h32 hr'
      go_wp2_with (at_builtin; refine wpList_append_own _ rfl (.tmp 16) (.tmp 20) 72 rfl w.heap.size 5 i0 (.int .u8 0) 1 1 Tryz.underlying72 hi0 hz0 hz1 hz2 rfl (by decide) u3 p.length (p.map (Value.int .u8)) rfl (hw0.alloc _) ⟨wr.heap.size, 0, none⟩ 1 1 [.int .u8 (u[a].toNat : Int)] rfl rfl ?c1 ?c2 ?c3 ?c4 ?c5 ?_)
      case c1 => exact cell_new_one _ _ _ rfl
      case c2 => intro x hx; simp at hx; subst hx; rfl
      case c3 => unfold maxLen; omega
      case c4 => omega
      case c5 => simp; omega
      intro v' w2 hown hg2 _
      have N := HI.out.one _ _ hown hg2 (by rw [HB.out]) (Nat.lt_succ_self a) hlt
      clear hown hg2 hw0
      go_wp2_with fail
      go_roundg (u.size - (a + 1))
      case measure => have := HG.out; omega
      case rel => exact ⟨_, a + 1, _, q', rfl, by go_num, N, HR'.out, rfl⟩
    | @esc _ a' q' e h92 he hr' =>
      clear hcv
      have hle := hr'.le
      have hlt0 := he.lt
      have HR' := Lib.hid hr'
      clear hr'
      have hlt : a < u.size := by omega
      have hlt1 : a + 1 < u.size := by omega
      have hb : (u[a].toNat : Int) = 92 := (bt_lt hlt).trans h92
      have hb1 : (u[a + 1].toNat : Int) = bt u (a + 1) := bt_lt hlt1
      have d32 : decide ((u[a].toNat : Int) < 32) = false := decide_eq_false (by omega)
      have d92 : ((u[a].toNat : Int) == 92) = true := beq_iff_eq.2 hb
      clear hb h92
      rcases he with ⟨k, hk, hc, rfl, rfl⟩ | ⟨hc, hh4, hv, rfl, rfl⟩ | ⟨hc, hh4, hv0, hv1, h5, h6, hh8, hv2, hv3, rfl, rfl⟩
      · have hk8 : k = 0 ∨ k = 1 ∨ k = 2 ∨ k = 3 ∨ k = 4 ∨ k = 5 ∨ k = 6 ∨ k = 7 := by omega
        rcases hk8 with rfl | rfl | rfl | rfl | rfl | rfl | rfl | rfl
        · have hc1 : (u[a + 1].toNat : Int) = 34 := hb1.trans hc
          have q92 : ((u[a + 1].toNat : Int) == 92) = false := beq_eq_false_iff_ne.2 (by omega)
          have q47 : ((u[a + 1].toNat : Int) == 47) = false := beq_eq_false_iff_ne.2 (by omega)
          have q98 : ((u[a + 1].toNat : Int) == 98) = false := beq_eq_false_iff_ne.2 (by omega)
          have q102 : ((u[a + 1].toNat : Int) == 102) = false := beq_eq_false_iff_ne.2 (by omega)
          have q110 : ((u[a + 1].toNat : Int) == 110) = false := beq_eq_false_iff_ne.2 (by omega)
          have q114 : ((u[a + 1].toNat : Int) == 114) = false := beq_eq_false_iff_ne.2 (by omega)
          have q116 : ((u[a + 1].toNat : Int) == 116) = false := beq_eq_false_iff_ne.2 (by omega)
          have q34 : ((u[a + 1].toNat : Int) == 34) = true := beq_iff_eq.2 (by omega)
          clear hb1 hc hc1 hk
          go_wp2_with (at_builtin; refine wpList_append_own _ rfl (.tmp 84) (.tmp 85) 72 rfl w.heap.size 5 i0 (.int .u8 0) 1 1 Tryz.underlying72 hi0 hz0 hz1 hz2 rfl (by decide) u3 p.length (p.map (Value.int .u8)) rfl (hw0.alloc _) ⟨wr.heap.size, 0, none⟩ 1 1 [.int .u8 34] rfl rfl ?c1 ?c2 ?c3 ?c4 ?c5 ?_)
          case c1 => exact cell_new_one _ _ _ rfl
          case c2 => intro x hx; simp at hx; subst hx; rfl
          case c3 => unfold maxLen; omega
          case c4 => omega
          case c5 => simp; omega
          intro v' w2 hown hg2 _
          have N := HI.out.one (q' := q') _ _ hown hg2 rfl (show a < a + 1 + 1 by omega) (by omega)
          clear hown hg2 hw0
          go_wp2_with fail
          go_roundg (u.size - (a + 1 + 1))
          case measure => have := HG.out; omega
          case rel => exact ⟨_, a + 1 + 1, _, q', rfl, by go_num, N, HR'.out, rfl⟩
        · have hc1 : (u[a + 1].toNat : Int) = 92 := hb1.trans hc
          have q92 : ((u[a + 1].toNat : Int) == 92) = true := beq_iff_eq.2 (by omega)
          clear hb1 hc hc1 hk
          go_wp2_with (at_builtin; refine wpList_append_own _ rfl (.tmp 49) (.tmp 50) 72 rfl w.heap.size 5 i0 (.int .u8 0) 1 1 Tryz.underlying72 hi0 hz0 hz1 hz2 rfl (by decide) u3 p.length (p.map (Value.int .u8)) rfl (hw0.alloc _) ⟨wr.heap.size, 0, none⟩ 1 1 [.int .u8 92] rfl rfl ?c1 ?c2 ?c3 ?c4 ?c5 ?_)
          case c1 => exact cell_new_one _ _ _ rfl
          case c2 => intro x hx; simp at hx; subst hx; rfl
          case c3 => unfold maxLen; omega
          case c4 => omega
          case c5 => simp; omega
          intro v' w2 hown hg2 _
          have N := HI.out.one (q' := q') _ _ hown hg2 rfl (show a < a + 1 + 1 by omega) (by omega)
          clear hown hg2 hw0
          go_wp2_with fail
          go_roundg (u.size - (a + 1 + 1))
          case measure => have := HG.out; omega
          case rel => exact ⟨_, a + 1 + 1, _, q', rfl, by go_num, N, HR'.out, rfl⟩
        · have hc1 : (u[a + 1].toNat : Int) = 47 := hb1.trans hc
          have q92 : ((u[a + 1].toNat : Int) == 92) = false := beq_eq_false_iff_ne.2 (by omega)
          have q47 : ((u[a + 1].toNat : Int) == 47) = true := beq_iff_eq.2 (by omega)
          clear hb1 hc hc1 hk
          go_wp2_with (at_builtin; refine wpList_append_own _ rfl (.tmp 54) (.tmp 55) 72 rfl w.heap.size 5 i0 (.int .u8 0) 1 1 Tryz.underlying72 hi0 hz0 hz1 hz2 rfl (by decide) u3 p.length (p.map (Value.int .u8)) rfl (hw0.alloc _) ⟨wr.heap.size, 0, none⟩ 1 1 [.int .u8 47] rfl rfl ?c1 ?c2 ?c3 ?c4 ?c5 ?_)
          case c1 => exact cell_new_one _ _ _ rfl
          case c2 => intro x hx; simp at hx; subst hx; rfl
          case c3 => unfold maxLen; omega
          case c4 => omega
          case c5 => simp; omega
          intro v' w2 hown hg2 _
          have N := HI.out.one (q' := q') _ _ hown hg2 rfl (show a < a + 1 + 1 by omega) (by omega)
          clear hown hg2 hw0
          go_wp2_with fail
          go_roundg (u.size - (a + 1 + 1))
          case measure => have := HG.out; omega
          case rel => exact ⟨_, a + 1 + 1, _, q', rfl, by go_num, N, HR'.out, rfl⟩
        · have hc1 : (u[a + 1].toNat : Int) = 98 := hb1.trans hc
          have q92 : ((u[a + 1].toNat : Int) == 92) = false := beq_eq_false_iff_ne.2 (by omega)
          have q47 : ((u[a + 1].toNat : Int) == 47) = false := beq_eq_false_iff_ne.2 (by omega)
          have q98 : ((u[a + 1].toNat : Int) == 98) = true := beq_iff_eq.2 (by omega)
          clear hb1 hc hc1 hk
          go_wp2_with (at_builtin; refine wpList_append_own _ rfl (.tmp 59) (.tmp 60) 72 rfl w.heap.size 5 i0 (.int .u8 0) 1 1 Tryz.underlying72 hi0 hz0 hz1 hz2 rfl (by decide) u3 p.length (p.map (Value.int .u8)) rfl (hw0.alloc _) ⟨wr.heap.size, 0, none⟩ 1 1 [.int .u8 8] rfl rfl ?c1 ?c2 ?c3 ?c4 ?c5 ?_)
          case c1 => exact cell_new_one _ _ _ rfl
          case c2 => intro x hx; simp at hx; subst hx; rfl
          case c3 => unfold maxLen; omega
          case c4 => omega
          case c5 => simp; omega
          intro v' w2 hown hg2 _
          have N := HI.out.one (q' := q') _ _ hown hg2 rfl (show a < a + 1 + 1 by omega) (by omega)
          clear hown hg2 hw0
          go_wp2_with fail
          go_roundg (u.size - (a + 1 + 1))
          case measure => have := HG.out; omega
          case rel => exact ⟨_, a + 1 + 1, _, q', rfl, by go_num, N, HR'.out, rfl⟩
        · have hc1 : (u[a + 1].toNat : Int) = 102 := hb1.trans hc
          have q92 : ((u[a + 1].toNat : Int) == 92) = false := beq_eq_false_iff_ne.2 (by omega)
          have q47 : ((u[a + 1].toNat : Int) == 47) = false := beq_eq_false_iff_ne.2 (by omega)
          have q98 : ((u[a + 1].toNat : Int) == 98) = false := beq_eq_false_iff_ne.2 (by omega)
          have q102 : ((u[a + 1].toNat : Int) == 102) = true := beq_iff_eq.2 (by omega)
          clear hb1 hc hc1 hk
          go_wp2_with (at_builtin; refine wpList_append_own _ rfl (.tmp 64) (.tmp 65) 72 rfl w.heap.size 5 i0 (.int .u8 0) 1 1 Tryz.underlying72 hi0 hz0 hz1 hz2 rfl (by decide) u3 p.length (p.map (Value.int .u8)) rfl (hw0.alloc _) ⟨wr.heap.size, 0, none⟩ 1 1 [.int .u8 12] rfl rfl ?c1 ?c2 ?c3 ?c4 ?c5 ?_)
          case c1 => exact cell_new_one _ _ _ rfl
          case c2 => intro x hx; simp at hx; subst hx; rfl
          case c3 => unfold maxLen; omega
          case c4 => omega
          case c5 => simp; omega
          intro v' w2 hown hg2 _
          have N := HI.out.one (q' := q') _ _ hown hg2 rfl (show a < a + 1 + 1 by omega) (by omega)
          clear hown hg2 hw0
          go_wp2_with fail
          go_roundg (u.size - (a + 1 + 1))
          case measure => have := HG.out; omega
          case rel => exact ⟨_, a + 1 + 1, _, q', rfl, by go_num, N, HR'.out, rfl⟩
        · have hc1 : (u[a + 1].toNat : Int) = 110 := hb1.trans hc
          have q92 : ((u[a + 1].toNat : Int) == 92) = false := beq_eq_false_iff_ne.2 (by omega)
          have q47 : ((u[a + 1].toNat : Int) == 47) = false := beq_eq_false_iff_ne.2 (by omega)
          have q98 : ((u[a + 1].toNat : Int) == 98) = false := beq_eq_false_iff_ne.2 (by omega)
          have q102 : ((u[a + 1].toNat : Int) == 102) = false := beq_eq_false_iff_ne.2 (by omega)
          have q110 : ((u[a + 1].toNat : Int) == 110) = true := beq_iff_eq.2 (by omega)
          clear hb1 hc hc1 hk
          go_wp2_with (at_builtin; refine wpList_append_own _ rfl (.tmp 69) (.tmp 70) 72 rfl w.heap.size 5 i0 (.int .u8 0) 1 1 Tryz.underlying72 hi0 hz0 hz1 hz2 rfl (by decide) u3 p.length (p.map (Value.int .u8)) rfl (hw0.alloc _) ⟨wr.heap.size, 0, none⟩ 1 1 [.int .u8 10] rfl rfl ?c1 ?c2 ?c3 ?c4 ?c5 ?_)
          case c1 => exact cell_new_one _ _ _ rfl
          case c2 => intro x hx; simp at hx; subst hx; rfl
          case c3 => unfold maxLen; omega
          case c4 => omega
          case c5 => simp; omega
          intro v' w2 hown hg2 _
          have N := HI.out.one (q' := q') _ _ hown hg2 rfl (show a < a + 1 + 1 by omega) (by omega)
          clear hown hg2 hw0
          go_wp2_with fail
          go_roundg (u.size - (a + 1 + 1))
          case measure => have := HG.out; omega
          case rel => exact ⟨_, a + 1 + 1, _, q', rfl, by go_num, N, HR'.out, rfl⟩
        · have hc1 : (u[a + 1].toNat : Int) = 114 := hb1.trans hc
          have q92 : ((u[a + 1].toNat : Int) == 92) = false := beq_eq_false_iff_ne.2 (by omega)
          have q47 : ((u[a + 1].toNat : Int) == 47) = false := beq_eq_false_iff_ne.2 (by omega)
          have q98 : ((u[a + 1].toNat : Int) == 98) = false := beq_eq_false_iff_ne.2 (by omega)
          have q102 : ((u[a + 1].toNat : Int) == 102) = false := beq_eq_false_iff_ne.2 (by omega)
          have q110 : ((u[a + 1].toNat : Int) == 110) = false := beq_eq_false_iff_ne.2 (by omega)
          have q114 : ((u[a + 1].toNat : Int) == 114) = true := beq_iff_eq.2 (by omega)
          clear hb1 hc hc1 hk
          go_wp2_with (at_builtin; refine wpList_append_own _ rfl (.tmp 74) (.tmp 75) 72 rfl w.heap.size 5 i0 (.int .u8 0) 1 1 Tryz.underlying72 hi0 hz0 hz1 hz2 rfl (by decide) u3 p.length (p.map (Value.int .u8)) rfl (hw0.alloc _) ⟨wr.heap.size, 0, none⟩ 1 1 [.int .u8 13] rfl rfl ?c1 ?c2 ?c3 ?c4 ?c5 ?_)
          case c1 => exact cell_new_one _ _ _ rfl
          case c2 => intro x hx; simp at hx; subst hx; rfl
          case c3 => unfold maxLen; omega
          case c4 => omega
          case c5 => simp; omega
          intro v' w2 hown hg2 _
          have N := HI.out.one (q' := q') _ _ hown hg2 rfl (show a < a + 1 + 1 by omega) (by omega)
          clear hown hg2 hw0
          go_wp2_with fail
          go_roundg (u.size - (a + 1 + 1))
          case measure => have := HG.out; omega
          case rel => exact ⟨_, a + 1 + 1, _, q', rfl, by go_num, N, HR'.out, rfl⟩
        · have hc1 : (u[a + 1].toNat : Int) = 116 := hb1.trans hc
          have q92 : ((u[a + 1].toNat : Int) == 92) = false := beq_eq_false_iff_ne.2 (by omega)
          have q47 : ((u[a + 1].toNat : Int) == 47) = false := beq_eq_false_iff_ne.2 (by omega)
          have q98 : ((u[a + 1].toNat : Int) == 98) = false := beq_eq_false_iff_ne.2 (by omega)
          have q102 : ((u[a + 1].toNat : Int) == 102) = false := beq_eq_false_iff_ne.2 (by omega)
          have q110 : ((u[a + 1].toNat : Int) == 110) = false := beq_eq_false_iff_ne.2 (by omega)
          have q114 : ((u[a + 1].toNat : Int) == 114) = false := beq_eq_false_iff_ne.2 (by omega)
          have q116 : ((u[a + 1].toNat : Int) == 116) = true := beq_iff_eq.2 (by omega)
          clear hb1 hc hc1 hk
          go_wp2_with (at_builtin; refine wpList_append_own _ rfl (.tmp 79) (.tmp 80) 72 rfl w.heap.size 5 i0 (.int .u8 0) 1 1 Tryz.underlying72 hi0 hz0 hz1 hz2 rfl (by decide) u3 p.length (p.map (Value.int .u8)) rfl (hw0.alloc _) ⟨wr.heap.size, 0, none⟩ 1 1 [.int .u8 9] rfl rfl ?c1 ?c2 ?c3 ?c4 ?c5 ?_)
          case c1 => exact cell_new_one _ _ _ rfl
          case c2 => intro x hx; simp at hx; subst hx; rfl
          case c3 => unfold maxLen; omega
          case c4 => omega
          case c5 => simp; omega
          intro v' w2 hown hg2 _
          have N := HI.out.one (q' := q') _ _ hown hg2 rfl (show a < a + 1 + 1 by omega) (by omega)
          clear hown hg2 hw0
          go_wp2_with fail
          go_roundg (u.size - (a + 1 + 1))
          case measure => have := HG.out; omega
          case rel => exact ⟨_, a + 1 + 1, _, q', rfl, by go_num, N, HR'.out, rfl⟩
      · have hc1 : (u[a + 1].toNat : Int) = 117 := hb1.trans hc
        have q92 : ((u[a + 1].toNat : Int) == 92) = false := beq_eq_false_iff_ne.2 (by omega)
        have q47 : ((u[a + 1].toNat : Int) == 47) = false := beq_eq_false_iff_ne.2 (by omega)
        have q98 : ((u[a + 1].toNat : Int) == 98) = false := beq_eq_false_iff_ne.2 (by omega)
        have q102 : ((u[a + 1].toNat : Int) == 102) = false := beq_eq_false_iff_ne.2 (by omega)
        have q110 : ((u[a + 1].toNat : Int) == 110) = false := beq_eq_false_iff_ne.2 (by omega)
        have q114 : ((u[a + 1].toNat : Int) == 114) = false := beq_eq_false_iff_ne.2 (by omega)
        have q116 : ((u[a + 1].toNat : Int) == 116) = false := beq_eq_false_iff_ne.2 (by omega)
        have q34 : ((u[a + 1].toNat : Int) == 34) = false := beq_eq_false_iff_ne.2 (by omega)
        have q117 : ((u[a + 1].toNat : Int) == 117) = true := beq_iff_eq.2 (by omega)
        have hB := hexP_bound hh4 (Nat.le_refl _)
        have hB0 := hB.1
        have hB1 := hB.2.1
        have RH := fun w => rest_hex hh4 (by omega) w
        have SN := fun w => sur_no w (hexP u (a + 1 + 1) 4) (by omega)
        clear hb1 hc hc1 hh4 hB
        generalize hexP u (a + 1 + 1) 4 = r at *
        go_wp2_with (first | (go_at_call 60; refine (RH _).mono ?_; rintro e1 w2 ⟨rfl, hu2⟩; have hw2 := hu2.owns hw0 (fun y hy => by simp); have hupW := HI.out.2.1.trans hu2) | (go_at_call 61; refine (SN _).mono ?_; rintro e2 w3 ⟨rfl, rfl⟩) | (at_builtin; refine wpList_append_own _ rfl (.tmp 132) (.tmp 133) 72 rfl w.heap.size 5 i0 (.int .u8 0) 1 1 Tryz.underlying72 hi0 hz0 hz1 hz2 rfl (by decide) u3 p.length (p.map (Value.int .u8)) rfl (hw2.alloc _) ⟨w3.heap.size, 0, none⟩ 8 8 [.int .u8 0, .int .u8 0, .int .u8 0, .int .u8 0, .int .u8 0, .int .u8 0, .int .u8 0, .int .u8 0] rfl rfl ?c1 ?c2 ?c3 ?c4 ?c5 ?_))
        case c1 => exact cell_new_8 _ _ rfl
        case c2 => intro x hx; simp at hx; subst hx; rfl
        case c3 => unfold maxLen; omega
        case c4 => omega
        case c5 => have := hupW.size; simp; omega
        intro v' w5 hown hg5 _
        obtain ⟨g, cap, rfl, hgb, hgl, hcap⟩ := own_form hown (by omega)
        have hup5 : Upd [] w w5 := (hupW.alloc _).of_grown hg5 fun k hk => .inr (hw2.lt k hk).1
        have EN := fun cap2 => enc_any (cap2 := cap2) hown (by simp) r (by omega) (by omega) (by omega)
        have hm : (utf8 r).length ≤ 4 := (utf8_small r (by omega) (by omega)).1
        clear hown hg5 hw2
        generalize hgen : utf8 r = e at *
        clear hgen
        go_wp2_with (go_at_call 63; refine (EN _).mono ?_; rintro e6 w6 ⟨rfl, hown6, hg6⟩)
        have N := HI.out.more (q' := q') hown6 (hup5.of_grown hg6 fun k hk => by cases hk; exact .inr hgb) rfl hm (show a < a + 1 + 5 by omega) (by omega)
        clear EN hown6 hg6
        go_roundg (u.size - (a + 1 + 5))
        case measure => have := HG.out; omega
        case rel => exact ⟨_, a + 1 + 5, _, q', rfl, by go_num, N, HR'.out, rfl⟩
      · have hc1 : (u[a + 1].toNat : Int) = 117 := hb1.trans hc
        have q92 : ((u[a + 1].toNat : Int) == 92) = false := beq_eq_false_iff_ne.2 (by omega)
        have q47 : ((u[a + 1].toNat : Int) == 47) = false := beq_eq_false_iff_ne.2 (by omega)
        have q98 : ((u[a + 1].toNat : Int) == 98) = false := beq_eq_false_iff_ne.2 (by omega)
        have q102 : ((u[a + 1].toNat : Int) == 102) = false := beq_eq_false_iff_ne.2 (by omega)
        have q110 : ((u[a + 1].toNat : Int) == 110) = false := beq_eq_false_iff_ne.2 (by omega)
        have q114 : ((u[a + 1].toNat : Int) == 114) = false := beq_eq_false_iff_ne.2 (by omega)
        have q116 : ((u[a + 1].toNat : Int) == 116) = false := beq_eq_false_iff_ne.2 (by omega)
        have q34 : ((u[a + 1].toNat : Int) == 34) = false := beq_eq_false_iff_ne.2 (by omega)
        have q117 : ((u[a + 1].toNat : Int) == 117) = true := beq_iff_eq.2 (by omega)
        have hB := hexP_bound hh4 (Nat.le_refl _)
        have hB0 := hB.1
        have hB1 := hB.2.1
        have RH := fun w => rest_hex hh4 (by omega) w
        have SN := fun w => sur_yes w (hexP u (a + 1 + 1) 4) hv0 (by omega)
        have RH2 := fun w => rest_hex hh8 (by omega) w
        have DR := fun w => drune w (hexP u (a + 1 + 1) 4) (hexP u (a + 1 + 7) 4) hv0 hv1 hv2 hv3
        have x6 : ∀ w, (Instr.index 9 (.string u) (.int .i64 ((a : Int) + 1 + 5))).run Tryz.prog w = .ok (.int .u8 92) w := fun w => by
          rw [idx_nat u _ (a + 1 + 5) (by omega) (by omega) w, h5]
        have x7 : ∀ w, (Instr.index 9 (.string u) (.int .i64 ((a : Int) + 1 + 5 + 1))).run Tryz.prog w = .ok (.int .u8 117) w := fun w => by
          rw [idx_nat u _ (a + 1 + 6) (by omega) (by omega) w, h6]
        have x5 : ∃ T : ByteArray, 6 ≤ T.size ∧ ∀ w, (Instr.slice 9 (.string u) (some (.int .i64 ((a : Int) + 1 + 5))) none none).run Tryz.prog w = .ok (.string T) w :=
          ⟨u.extract (a + 1 + 5) u.size, by simp only [ByteArray.size_extract]; omega, fun w => cut_from u _ (a + 1 + 5) (by omega) (by omega) w⟩
        obtain ⟨T, hT6, x5⟩ := x5
        have dT : decide (6 ≤ (T.size : Int)) = true := decide_eq_true (by omega)
        clear hb1 hc hc1 hh4 hB hh8 h5 h6
        generalize hexP u (a + 1 + 1) 4 = r at *
        generalize hexP u (a + 1 + 7) 4 = r2 at *
        go_upto_region 37 with (first | (go_at_call 60; refine (RH _).mono ?_; rintro e1 w2 ⟨rfl, hu2⟩; have hwa := hu2.owns hw0 (fun y hy => by simp); have hupA := HI.out.2.1.trans hu2) | (go_at_call 61; refine (SN _).mono ?_; rintro e2 w3 ⟨rfl, rfl⟩))
        clear x5 x6 x7 dT hT6 RH SN q92 q47 q98 q102 q110 q114 q116 q34 q117 d32 d92
        have y1 : ∀ w, (Instr.slice 9 (.string u) (some (.int .i64 ((a : Int) + 1 + 5 + 2))) none none).run Tryz.prog w = .ok (.string (u.extract (a + 1 + 7) u.size)) w := fun w => cut_from u _ (a + 1 + 7) (by omega) (by omega) w
        go_wp2_with (first | (go_at_call 60; refine (RH2 _).mono ?_; rintro e3 w4 ⟨rfl, hu4⟩; have hw2 := hu4.owns hwa (fun y hy => by simp); have hupW := hupA.trans hu4) | (go_at_call 62; refine (DR _).mono ?_; rintro e4 w7 ⟨rfl, rfl⟩) | (at_builtin; refine wpList_append_own _ rfl (.tmp 132) (.tmp 133) 72 rfl w.heap.size 5 i0 (.int .u8 0) 1 1 Tryz.underlying72 hi0 hz0 hz1 hz2 rfl (by decide) u3 p.length (p.map (Value.int .u8)) rfl (hw2.alloc _) ⟨w7.heap.size, 0, none⟩ 8 8 [.int .u8 0, .int .u8 0, .int .u8 0, .int .u8 0, .int .u8 0, .int .u8 0, .int .u8 0, .int .u8 0] rfl rfl ?c1 ?c2 ?c3 ?c4 ?c5 ?_))
        case c1 => exact cell_new_8 _ _ rfl
        case c2 => intro x hx; simp at hx; subst hx; rfl
        case c3 => unfold maxLen; omega
        case c4 => omega
        case c5 => have := hupW.size; simp; omega
        intro v' w5 hown hg5 _
        obtain ⟨g, cap, rfl, hgb, hgl, hcap⟩ := own_form hown (by omega)
        have hup5 : Upd [] w w5 := (hupW.alloc _).of_grown hg5 fun k hk => .inr (hw2.lt k hk).1
        have EN := fun cap2 => enc_any (cap2 := cap2) hown (by simp) (65536 + (r - 55296) * 1024 + r2 - 56320) (by omega) (by omega) (by omega)
        have hm : (utf8 (65536 + (r - 55296) * 1024 + r2 - 56320)).length ≤ 4 := (utf8_small (65536 + (r - 55296) * 1024 + r2 - 56320) (by omega) (by omega)).1
        clear hown hg5 hw2
        generalize hgen : utf8 (65536 + (r - 55296) * 1024 + r2 - 56320) = e at *
        clear hgen
        go_wp2_with (go_at_call 63; refine (EN _).mono ?_; rintro e6 w6 ⟨rfl, hown6, hg6⟩)
        have N := HI.out.more (q' := q') hown6 (hup5.of_grown hg6 fun k hk => by cases hk; exact .inr hgb) rfl hm (show a < a + 1 + 5 + 6 by omega) (by omega)
        clear EN hown6 hg6
        go_roundg (u.size - (a + 1 + 5 + 6))
        case measure => have := HG.out; omega
        case rel => exact ⟨_, a + 1 + 5 + 6, _, q', rfl, by go_num, N, HR'.out, rfl⟩
end Go.Proofs.YtcnkbdbkglggcaaGreatDoor
