/-
  A decimal in memory, digit by digit, and the library's 'trim'. Condition: the first digit is not 0.
  Plain laws on the bits of a float's word, for the library's reading of great whole numbers. No program, no condition.
  The library's 'rightShift' on a decimal that is not 0.
  Plain laws for the library's 'leftShift': how many digits a decimal has after it is doubled k times. No program here.
  The library's 'prefixIsLessThan', and the table that 'leftShift' reads.
-/
import Derived.Test.YtcnkbdbkglggcaaGreatDoorZMA
import Derived.Deep.RegionHeld3
import Derived.IntWalk
import Derived.Laws.BitsLemmas
import Derived.Laws.BitsAllLaws
import Derived.Laws.Cover2
import Derived.Deep.CutBlock
import Derived.Deep.DeepCutAuto
set_option linter.unusedVariables false
set_option linter.unusedSimpArgs false
namespace Go.Proofs.YtcnkbdbkglggcaaGreatDoor
open Go.RowKit

/-- The cells of a decimal: 800 digits, how many are used, the point, the sign, and whether digits were dropped. -/
def dcs (f : Nat → Int) (nd dp : Int) (ng tr : Bool) : Array Value := ((List.range 800).map fun i => Value.int .u8 (f i)).toArray ++ #[.int .i64 nd, .int .i64 dp, .bool ng, .bool tr]
def DB (w : World) (g : Nat) (f : Nat → Int) (nd dp : Int) (ng tr : Bool) : Prop := Blk w g 153 (dcs f nd dp ng tr)
/-- A digit put in its place. -/
def putD (f : Nat → Int) (i : Nat) (c : Int) : Nat → Int := fun j => if j = i then c else f j
theorem dcs_size (f : Nat → Int) (nd dp : Int) (ng tr : Bool) : (dcs f nd dp ng tr).size = 804 := by simp [dcs]
theorem dcs_dig (f : Nat → Int) (nd dp : Int) (ng tr : Bool) (i : Nat) (h : i < 800) : (dcs f nd dp ng tr)[i]? = some (.int .u8 (f i)) := by
  unfold dcs
  rw [Array.getElem?_append_left (by simpa using h)]
  simp [h]
theorem dcs_top (f : Nat → Int) (nd dp : Int) (ng tr : Bool) (i : Nat) : (dcs f nd dp ng tr)[800 + i]? = #[Value.int .i64 nd, .int .i64 dp, .bool ng, .bool tr][i]? := by
  unfold dcs
  rw [Array.getElem?_append_right (by simp)]
  simp
section
variable {w w' : World} {g : Nat} {f : Nat → Int} {nd dp : Int} {ng tr : Bool}
theorem DB.dig (h : DB w g f nd dp ng tr) (i : Nat) (hi : i < 800) : w.cell? ⟨g, i, none⟩ = some (.int .u8 (f i)) := by rw [Blk.cell h, dcs_dig _ _ _ _ _ _ hi]
theorem DB.cnd (h : DB w g f nd dp ng tr) : w.cell? ⟨g, 800, none⟩ = some (.int .i64 nd) := by rw [Blk.cell h]; exact dcs_top f nd dp ng tr 0
theorem DB.cdp (h : DB w g f nd dp ng tr) : w.cell? ⟨g, 801, none⟩ = some (.int .i64 dp) := by rw [Blk.cell h]; exact dcs_top f nd dp ng tr 1
theorem DB.cng (h : DB w g f nd dp ng tr) : w.cell? ⟨g, 802, none⟩ = some (.bool ng) := by rw [Blk.cell h]; exact dcs_top f nd dp ng tr 2
theorem DB.ctr (h : DB w g f nd dp ng tr) : w.cell? ⟨g, 803, none⟩ = some (.bool tr) := by rw [Blk.cell h]; exact dcs_top f nd dp ng tr 3
theorem dcs_ext {A : Array Value} (hs : A.size = 804) (hd : ∀ i, i < 800 → A[i]? = some (.int .u8 (f i))) (ht : ∀ i, A[800 + i]? = #[Value.int .i64 nd, .int .i64 dp, .bool ng, .bool tr][i]?) : A = dcs f nd dp ng tr := by
  apply Array.ext_getElem?
  intro i
  rcases Nat.lt_or_ge i 800 with h | h
  · rw [hd i h, dcs_dig _ _ _ _ _ _ h]
  · have e : i = 800 + (i - 800) := by omega
    rw [e, ht, dcs_top]
theorem DB.setDig (h : DB w g f nd dp ng tr) (i : Nat) (hi : i < 800) (c : Int) : DB (w.setCell ⟨g, i, none⟩ (.int .u8 c)) g (putD f i c) nd dp ng tr := by
  have h1 := Blk.set_ h i (.int .u8 c)
  have h2 : (dcs f nd dp ng tr).setIfInBounds i (.int .u8 c) = dcs (putD f i c) nd dp ng tr := by
    refine dcs_ext (by rw [Array.size_setIfInBounds, dcs_size]) (fun j hj => ?_) (fun j => ?_)
    · rw [Array.getElem?_setIfInBounds]
      unfold putD
      by_cases hij : i = j
      · subst hij
        rw [if_pos rfl, if_pos rfl, if_pos (by rw [dcs_size]; omega)]
      · rw [if_neg hij, if_neg (fun h => hij h.symm), dcs_dig _ _ _ _ _ _ hj]
    · rw [Array.getElem?_setIfInBounds, if_neg (by omega), dcs_top]
  rw [h2] at h1
  exact h1
theorem DB.setTop (h : DB w g f nd dp ng tr) (k : Nat) (hk : k < 4) (u : Value) {nd2 dp2 : Int} {ng2 tr2 : Bool} (hu : #[Value.int .i64 nd, .int .i64 dp, .bool ng, .bool tr].setIfInBounds k u = #[Value.int .i64 nd2, .int .i64 dp2, .bool ng2, .bool tr2]) :
    DB (w.setCell ⟨g, 800 + k, none⟩ u) g f nd2 dp2 ng2 tr2 := by
  have h1 := Blk.set_ h (800 + k) u
  have h2 : (dcs f nd dp ng tr).setIfInBounds (800 + k) u = dcs f nd2 dp2 ng2 tr2 := by
    refine dcs_ext (by rw [Array.size_setIfInBounds, dcs_size]) (fun j hj => ?_) (fun j => ?_)
    · rw [Array.getElem?_setIfInBounds, if_neg (by omega), dcs_dig _ _ _ _ _ _ hj]
    · rw [← hu, Array.getElem?_setIfInBounds, Array.getElem?_setIfInBounds]
      by_cases hkj : k = j
      · subst hkj
        rw [if_pos rfl, if_pos rfl, if_pos (by rw [dcs_size]; omega), if_pos (by simpa using hk)]
      · rw [if_neg (by omega), if_neg hkj, dcs_top]
  rw [h2] at h1
  exact h1
theorem DB.setNd (h : DB w g f nd dp ng tr) (n : Int) : DB (w.setCell ⟨g, 800, none⟩ (.int .i64 n)) g f n dp ng tr := h.setTop 0 (by decide) _ rfl
theorem DB.setDp (h : DB w g f nd dp ng tr) (n : Int) : DB (w.setCell ⟨g, 801, none⟩ (.int .i64 n)) g f nd n ng tr := h.setTop 1 (by decide) _ rfl
theorem DB.setNg (h : DB w g f nd dp ng tr) (b : Bool) : DB (w.setCell ⟨g, 802, none⟩ (.bool b)) g f nd dp b tr := h.setTop 2 (by decide) _ rfl
theorem DB.setTr (h : DB w g f nd dp ng tr) (b : Bool) : DB (w.setCell ⟨g, 803, none⟩ (.bool b)) g f nd dp ng b := h.setTop 3 (by decide) _ rfl
theorem DB.drewN (h : DB w g f nd dp ng tr) (n : Nat) : DB (w.drewN n) g f nd dp ng tr := Blk.drewN h n
end
/-- What 'trim' leaves. -/
def Trim1 (w : World) (g : Nat) (f : Nat → Int) (n : Nat) (dp : Int) (ng tr : Bool) (e : Ending) (w' : World) : Prop :=
  e = .returned (.tuple #[]) ∧ ∃ m : Nat, 1 ≤ m ∧ m ≤ n ∧ DB w' g f m dp ng tr ∧ Upd [g] w w'
set_option maxHeartbeats 2000000 in
theorem trim_any (w : World) (g : Nat) (f : Nat → Int) (n : Nat) (dp : Int) (ng tr : Bool) (hb : DB w g f n dp ng tr) (h1 : 1 ≤ n) (h8 : n ≤ 800) (hf : f 0 ≠ 48) :
    Calls Tryz.prog 134 #[.pointer (some ⟨g, 0, none⟩)] w fun e w' => Trim1 w g f n dp ng tr e w' := by
  have HB := Lib.hid hb
  have HF := Lib.hid hf
  clear hb hf
  go_enter Tryz.func134, Tryz.ntmps134
  go_wp2_with fail
  go_loopg [] n (fun gg wr => ∃ m : Nat, 1 ≤ m ∧ m ≤ n ∧ Hid (DB wr g f m dp ng tr ∧ Upd [g] w wr ∧ gg = m))
  case atStart => exact ⟨n, h1, Nat.le_refl _, HB.out, Upd.refl _ _, rfl⟩
  case round =>
    clear HB
    obtain ⟨m, hm1, hmn, hh⟩ := hrel
    have t0 := hh.out.1.cnd
    have t1 := hh.out.1.dig (m - 1) (by omega)
    have r1 : IntKind.i64.wrap ((m : Int) - 1) = (m : Int) - 1 := IntWalk.i64_in _ (by omega)
    have g0 : decide (0 < (m : Int)) = true := decide_eq_true (by omega)
    have hm0 : 0 < m := by omega
    have z3 : (1 : Int) ≤ (m : Int) := by omega
    have z4 : ((m : Int) ≤ 800) := by omega
    have z5 : m ≤ 800 := by omega
    have g1 : decide (0 < m) = true := decide_eq_true hm0
    have tf := Blk.frozen hh.out.1
    have z0 : (0 : Int) ≤ (m : Int) - 1 := by omega
    have z1 : (m : Int) - 1 < 800 := by omega
    have z2 : ((m : Int) - 1).toNat = m - 1 := by omega
    by_cases hd : f (m - 1) = 48
    · have hm2 : 2 ≤ m := by
        rcases Nat.lt_or_ge m 2 with hl | hg
        · have : m - 1 = 0 := by omega
          rw [this] at hd
          exact absurd hd HF.out
        · exact hg
      have d1 : (f (m - 1) == 48) = true := beq_iff_eq.2 hd
      clear hd
      generalize f (m - 1) = c at *
      go_wp2_with fail
      refine wp_region_held_drew (S := (fun w' => w'.cell? ⟨g, 800, none⟩ = some (.int .i64 (m : Int)) ∧ w'.cell? ⟨g, m - 1, none⟩ = some (.int .u8 c))) (by kernel_rfl) ?_ (fun hH0 => ?_)
      · exact ⟨t0, t1⟩
      refine wpAnyH_take (i := 0) (v := ?_) rfl (by kernel_rfl) (by kernel_rfl) (by kernel_rfl) (fun _ _ _ h => h) (Or.inl ⟨by rfl, ?_⟩) hH0 ?_
      rotate_left
      · intro w hSw; (try dsimp only at hSw); go_simp
        all_goals (with_reducible rfl)
      simp only [Act.put, List.getElem_toArray, List.getElem_cons_zero, List.getElem_cons_succ, List.setIfInBounds_toArray, List.set_cons_zero, List.set_cons_succ]
      refine wpAnyH_take (i := 1) (v := ?_) rfl (by kernel_rfl) (by kernel_rfl) (by kernel_rfl) (fun _ _ _ h => h) (Or.inl ⟨by rfl, ?_⟩) hH0 ?_
      rotate_left
      · intro w hSw; (try dsimp only at hSw); go_simp
        all_goals (with_reducible rfl)
      simp only [Act.put, List.getElem_toArray, List.getElem_cons_zero, List.getElem_cons_succ, List.setIfInBounds_toArray, List.set_cons_zero, List.set_cons_succ]
      refine wpAnyH_take (i := 2) (v := ?_) rfl (by kernel_rfl) (by kernel_rfl) (by kernel_rfl) (fun _ _ _ h => h) (Or.inl ⟨by rfl, ?_⟩) hH0 ?_
      rotate_left
      · intro w hSw; (try dsimp only at hSw); go_simp
        all_goals (with_reducible rfl)
      simp only [Act.put, List.getElem_toArray, List.getElem_cons_zero, List.getElem_cons_succ, List.setIfInBounds_toArray, List.set_cons_zero, List.set_cons_succ]
      refine wpAnyH_take (i := 3) (v := ?_) rfl (by kernel_rfl) (by kernel_rfl) (by kernel_rfl) (fun _ _ _ h => h) (Or.inl ⟨by rfl, ?_⟩) hH0 ?_
      rotate_left
      · intro w hSw; (try dsimp only at hSw); go_simp
        all_goals (with_reducible rfl)
      simp only [Act.put, List.getElem_toArray, List.getElem_cons_zero, List.getElem_cons_succ, List.setIfInBounds_toArray, List.set_cons_zero, List.set_cons_succ]
      refine wpAnyH_take (i := 4) (v := ?_) rfl (by kernel_rfl) (by kernel_rfl) (by kernel_rfl) (fun _ _ _ h => h) (Or.inl ⟨by rfl, ?_⟩) hH0 ?_
      rotate_left
      · intro w hSw; (try dsimp only at hSw); go_simp
        all_goals (with_reducible rfl)
      simp only [Act.put, List.getElem_toArray, List.getElem_cons_zero, List.getElem_cons_succ, List.setIfInBounds_toArray, List.set_cons_zero, List.set_cons_succ]
      refine wpAnyH_take (i := 5) (v := ?_) rfl (by kernel_rfl) (by kernel_rfl) (by kernel_rfl) (fun _ _ _ h => h) (Or.inl ⟨by rfl, ?_⟩) hH0 ?_
      rotate_left
      · intro w hSw; (try dsimp only at hSw); go_simp
        all_goals (with_reducible rfl)
      simp only [Act.put, List.getElem_toArray, List.getElem_cons_zero, List.getElem_cons_succ, List.setIfInBounds_toArray, List.set_cons_zero, List.set_cons_succ]
      refine wpAnyH_take (i := 6) (v := ?_) rfl (by kernel_rfl) (by kernel_rfl) (by kernel_rfl) (fun _ _ _ h => h) (Or.inl ⟨by rfl, ?_⟩) hH0 ?_
      rotate_left
      · intro w hSw; (try dsimp only at hSw); go_simp
        all_goals (with_reducible rfl)
      simp only [Act.put, List.getElem_toArray, List.getElem_cons_zero, List.getElem_cons_succ, List.setIfInBounds_toArray, List.set_cons_zero, List.set_cons_succ]
      refine wpAnyH_take (i := 7) (v := ?_) rfl (by kernel_rfl) (by kernel_rfl) (by kernel_rfl) (fun _ _ _ h => h) (Or.inl ⟨by rfl, ?_⟩) hH0 ?_
      rotate_left
      · intro w hSw; (try dsimp only at hSw); go_simp
        all_goals (with_reducible rfl)
      simp only [Act.put, List.getElem_toArray, List.getElem_cons_zero, List.getElem_cons_succ, List.setIfInBounds_toArray, List.set_cons_zero, List.set_cons_succ]
      refine wpAnyH_take (i := 8) (v := ?_) rfl (by kernel_rfl) (by kernel_rfl) (by kernel_rfl) (fun _ _ _ h => h) (Or.inl ⟨by rfl, ?_⟩) hH0 ?_
      rotate_left
      · intro w hSw; (try dsimp only at hSw); go_simp
        all_goals (with_reducible rfl)
      simp only [Act.put, List.getElem_toArray, List.getElem_cons_zero, List.getElem_cons_succ, List.setIfInBounds_toArray, List.set_cons_zero, List.set_cons_succ]
      refine wpAnyH_take (i := 9) (v := ?_) rfl (by kernel_rfl) (by kernel_rfl) (by kernel_rfl) (fun _ _ _ h => h) (Or.inl ⟨by rfl, ?_⟩) hH0 ?_
      rotate_left
      · intro w hSw; (try dsimp only at hSw); go_simp
        all_goals (with_reducible rfl)
      simp only [Act.put, List.getElem_toArray, List.getElem_cons_zero, List.getElem_cons_succ, List.setIfInBounds_toArray, List.set_cons_zero, List.set_cons_succ]
      refine wpAnyH_take (i := 10) (v := ?_) rfl (by kernel_rfl) (by kernel_rfl) (by kernel_rfl) (fun _ _ _ h => h) (Or.inl ⟨by rfl, ?_⟩) hH0 ?_
      rotate_left
      · intro w hSw; (try dsimp only at hSw); go_simp
        all_goals (with_reducible rfl)
      simp only [Act.put, List.getElem_toArray, List.getElem_cons_zero, List.getElem_cons_succ, List.setIfInBounds_toArray, List.set_cons_zero, List.set_cons_succ]
      refine wpAnyH_take (i := 11) (v := ?_) rfl (by kernel_rfl) (by kernel_rfl) (by kernel_rfl) (fun _ _ _ h => h) (Or.inl ⟨by rfl, ?_⟩) hH0 ?_
      rotate_left
      · intro w hSw; (try dsimp only at hSw); go_simp
        all_goals (with_reducible rfl)
      simp only [Act.put, List.getElem_toArray, List.getElem_cons_zero, List.getElem_cons_succ, List.setIfInBounds_toArray, List.set_cons_zero, List.set_cons_succ]
      refine wpAnyH_take (i := 12) (v := ?_) rfl (by kernel_rfl) (by kernel_rfl) (by kernel_rfl) (fun _ _ _ h => h) (Or.inl ⟨by rfl, ?_⟩) hH0 ?_
      rotate_left
      · intro w hSw; (try dsimp only at hSw); go_simp
        all_goals (with_reducible rfl)
      simp only [Act.put, List.getElem_toArray, List.getElem_cons_zero, List.getElem_cons_succ, List.setIfInBounds_toArray, List.set_cons_zero, List.set_cons_succ]
      refine wpAnyH_take (i := 13) (v := ?_) rfl (by kernel_rfl) (by kernel_rfl) (by kernel_rfl) (fun _ _ _ h => h) (Or.inl ⟨by rfl, ?_⟩) hH0 ?_
      rotate_left
      · intro w hSw; (try dsimp only at hSw); go_simp
        all_goals (with_reducible rfl)
      simp only [Act.put, List.getElem_toArray, List.getElem_cons_zero, List.getElem_cons_succ, List.setIfInBounds_toArray, List.set_cons_zero, List.set_cons_succ]
      refine wpAnyH_take (i := 14) (v := ?_) rfl (by kernel_rfl) (by kernel_rfl) (by kernel_rfl) (fun _ _ _ h => h) (Or.inl ⟨by rfl, ?_⟩) hH0 ?_
      rotate_left
      · intro w hSw; (try dsimp only at hSw); go_simp
        all_goals (with_reducible rfl)
      simp only [Act.put, List.getElem_toArray, List.getElem_cons_zero, List.getElem_cons_succ, List.setIfInBounds_toArray, List.set_cons_zero, List.set_cons_succ]
      refine wpAnyH_take (i := 15) (v := ?_) rfl (by kernel_rfl) (by kernel_rfl) (by kernel_rfl) (fun _ _ _ h => h) (Or.inl ⟨by rfl, ?_⟩) hH0 ?_
      rotate_left
      · intro w hSw; (try dsimp only at hSw); go_simp
        all_goals (with_reducible rfl)
      simp only [Act.put, List.getElem_toArray, List.getElem_cons_zero, List.getElem_cons_succ, List.setIfInBounds_toArray, List.set_cons_zero, List.set_cons_succ]
      refine wpAnyH_take (i := 16) (v := ?_) rfl (by kernel_rfl) (by kernel_rfl) (by kernel_rfl) (fun _ _ _ h => h) (Or.inl ⟨by rfl, ?_⟩) hH0 ?_
      rotate_left
      · intro w hSw; (try dsimp only at hSw); go_simp
        all_goals (with_reducible rfl)
      simp only [Act.put, List.getElem_toArray, List.getElem_cons_zero, List.getElem_cons_succ, List.setIfInBounds_toArray, List.set_cons_zero, List.set_cons_succ]
      refine wpAnyH_take (i := 17) (v := ?_) rfl (by kernel_rfl) (by kernel_rfl) (by kernel_rfl) (fun _ _ _ h => h) (Or.inl ⟨by rfl, ?_⟩) hH0 ?_
      rotate_left
      · intro w hSw; (try dsimp only at hSw); go_simp
        all_goals (with_reducible rfl)
      simp only [Act.put, List.getElem_toArray, List.getElem_cons_zero, List.getElem_cons_succ, List.setIfInBounds_toArray, List.set_cons_zero, List.set_cons_succ]
      refine wpAnyH_done (by kernel_rfl) ?_ _
      go_wp2_with fail
      go_roundg (m - 1)
      case measure => have := hh.out.2.2; omega
      case rel =>
        refine ⟨m - 1, by omega, by omega, ?_, ((hh.out.2.1).setCell (p := ⟨g, 800, none⟩) (.inl (.head _)) _).drew, rfl⟩
        rw [show ((m - 1 : Nat) : Int) = (m : Int) - 1 by omega]
        exact Blk.drew (hh.out.1.setNd ((m : Int) - 1))
    · have d1 : (f (m - 1) == 48) = false := beq_eq_false_iff_ne.2 hd
      have hn0 : ((m : Int) == 0) = false := beq_eq_false_iff_ne.2 (by omega)
      clear hd
      generalize f (m - 1) = c at *
      go_wp2_with fail
      refine wp_region_held_drew (S := (fun w' => w'.cell? ⟨g, 800, none⟩ = some (.int .i64 (m : Int)) ∧ w'.cell? ⟨g, m - 1, none⟩ = some (.int .u8 c))) (by kernel_rfl) ?_ (fun hH0 => ?_)
      · exact ⟨t0, t1⟩
      refine wpAnyH_take (i := 0) (v := ?_) rfl (by kernel_rfl) (by kernel_rfl) (by kernel_rfl) (fun _ _ _ h => h) (Or.inl ⟨by rfl, ?_⟩) hH0 ?_
      rotate_left
      · intro w hSw; (try dsimp only at hSw); go_simp
        all_goals (with_reducible rfl)
      simp only [Act.put, List.getElem_toArray, List.getElem_cons_zero, List.getElem_cons_succ, List.setIfInBounds_toArray, List.set_cons_zero, List.set_cons_succ]
      refine wpAnyH_take (i := 1) (v := ?_) rfl (by kernel_rfl) (by kernel_rfl) (by kernel_rfl) (fun _ _ _ h => h) (Or.inl ⟨by rfl, ?_⟩) hH0 ?_
      rotate_left
      · intro w hSw; (try dsimp only at hSw); go_simp
        all_goals (with_reducible rfl)
      simp only [Act.put, List.getElem_toArray, List.getElem_cons_zero, List.getElem_cons_succ, List.setIfInBounds_toArray, List.set_cons_zero, List.set_cons_succ]
      refine wpAnyH_take (i := 2) (v := ?_) rfl (by kernel_rfl) (by kernel_rfl) (by kernel_rfl) (fun _ _ _ h => h) (Or.inl ⟨by rfl, ?_⟩) hH0 ?_
      rotate_left
      · intro w hSw; (try dsimp only at hSw); go_simp
        all_goals (with_reducible rfl)
      simp only [Act.put, List.getElem_toArray, List.getElem_cons_zero, List.getElem_cons_succ, List.setIfInBounds_toArray, List.set_cons_zero, List.set_cons_succ]
      refine wpAnyH_take (i := 3) (v := ?_) rfl (by kernel_rfl) (by kernel_rfl) (by kernel_rfl) (fun _ _ _ h => h) (Or.inl ⟨by rfl, ?_⟩) hH0 ?_
      rotate_left
      · intro w hSw; (try dsimp only at hSw); go_simp
        all_goals (with_reducible rfl)
      simp only [Act.put, List.getElem_toArray, List.getElem_cons_zero, List.getElem_cons_succ, List.setIfInBounds_toArray, List.set_cons_zero, List.set_cons_succ]
      refine wpAnyH_take (i := 4) (v := ?_) rfl (by kernel_rfl) (by kernel_rfl) (by kernel_rfl) (fun _ _ _ h => h) (Or.inl ⟨by rfl, ?_⟩) hH0 ?_
      rotate_left
      · intro w hSw; (try dsimp only at hSw); go_simp
        all_goals (with_reducible rfl)
      simp only [Act.put, List.getElem_toArray, List.getElem_cons_zero, List.getElem_cons_succ, List.setIfInBounds_toArray, List.set_cons_zero, List.set_cons_succ]
      refine wpAnyH_take (i := 5) (v := ?_) rfl (by kernel_rfl) (by kernel_rfl) (by kernel_rfl) (fun _ _ _ h => h) (Or.inl ⟨by rfl, ?_⟩) hH0 ?_
      rotate_left
      · intro w hSw; (try dsimp only at hSw); go_simp
        all_goals (with_reducible rfl)
      simp only [Act.put, List.getElem_toArray, List.getElem_cons_zero, List.getElem_cons_succ, List.setIfInBounds_toArray, List.set_cons_zero, List.set_cons_succ]
      refine wpAnyH_take (i := 6) (v := ?_) rfl (by kernel_rfl) (by kernel_rfl) (by kernel_rfl) (fun _ _ _ h => h) (Or.inl ⟨by rfl, ?_⟩) hH0 ?_
      rotate_left
      · intro w hSw; (try dsimp only at hSw); go_simp
        all_goals (with_reducible rfl)
      simp only [Act.put, List.getElem_toArray, List.getElem_cons_zero, List.getElem_cons_succ, List.setIfInBounds_toArray, List.set_cons_zero, List.set_cons_succ]
      refine wpAnyH_take (i := 7) (v := ?_) rfl (by kernel_rfl) (by kernel_rfl) (by kernel_rfl) (fun _ _ _ h => h) (Or.inl ⟨by rfl, ?_⟩) hH0 ?_
      rotate_left
      · intro w hSw; (try dsimp only at hSw); go_simp
        all_goals (with_reducible rfl)
      simp only [Act.put, List.getElem_toArray, List.getElem_cons_zero, List.getElem_cons_succ, List.setIfInBounds_toArray, List.set_cons_zero, List.set_cons_succ]
      refine wpAnyH_take (i := 8) (v := ?_) rfl (by kernel_rfl) (by kernel_rfl) (by kernel_rfl) (fun _ _ _ h => h) (Or.inl ⟨by rfl, ?_⟩) hH0 ?_
      rotate_left
      · intro w hSw; (try dsimp only at hSw); go_simp
        all_goals (with_reducible rfl)
      simp only [Act.put, List.getElem_toArray, List.getElem_cons_zero, List.getElem_cons_succ, List.setIfInBounds_toArray, List.set_cons_zero, List.set_cons_succ]
      refine wpAnyH_take (i := 9) (v := ?_) rfl (by kernel_rfl) (by kernel_rfl) (by kernel_rfl) (fun _ _ _ h => h) (Or.inl ⟨by rfl, ?_⟩) hH0 ?_
      rotate_left
      · intro w hSw; (try dsimp only at hSw); go_simp
        all_goals (with_reducible rfl)
      simp only [Act.put, List.getElem_toArray, List.getElem_cons_zero, List.getElem_cons_succ, List.setIfInBounds_toArray, List.set_cons_zero, List.set_cons_succ]
      refine wpAnyH_take (i := 10) (v := ?_) rfl (by kernel_rfl) (by kernel_rfl) (by kernel_rfl) (fun _ _ _ h => h) (Or.inl ⟨by rfl, ?_⟩) hH0 ?_
      rotate_left
      · intro w hSw; (try dsimp only at hSw); go_simp
        all_goals (with_reducible rfl)
      simp only [Act.put, List.getElem_toArray, List.getElem_cons_zero, List.getElem_cons_succ, List.setIfInBounds_toArray, List.set_cons_zero, List.set_cons_succ]
      refine wpAnyH_take (i := 11) (v := ?_) rfl (by kernel_rfl) (by kernel_rfl) (by kernel_rfl) (fun _ _ _ h => h) (Or.inl ⟨by rfl, ?_⟩) hH0 ?_
      rotate_left
      · intro w hSw; (try dsimp only at hSw); go_simp
        all_goals (with_reducible rfl)
      simp only [Act.put, List.getElem_toArray, List.getElem_cons_zero, List.getElem_cons_succ, List.setIfInBounds_toArray, List.set_cons_zero, List.set_cons_succ]
      refine wpAnyH_take (i := 12) (v := ?_) rfl (by kernel_rfl) (by kernel_rfl) (by kernel_rfl) (fun _ _ _ h => h) (Or.inl ⟨by rfl, ?_⟩) hH0 ?_
      rotate_left
      · intro w hSw; (try dsimp only at hSw); go_simp
        all_goals (with_reducible rfl)
      simp only [Act.put, List.getElem_toArray, List.getElem_cons_zero, List.getElem_cons_succ, List.setIfInBounds_toArray, List.set_cons_zero, List.set_cons_succ]
      refine wpAnyH_take (i := 13) (v := ?_) rfl (by kernel_rfl) (by kernel_rfl) (by kernel_rfl) (fun _ _ _ h => h) (Or.inl ⟨by rfl, ?_⟩) hH0 ?_
      rotate_left
      · intro w hSw; (try dsimp only at hSw); go_simp
        all_goals (with_reducible rfl)
      simp only [Act.put, List.getElem_toArray, List.getElem_cons_zero, List.getElem_cons_succ, List.setIfInBounds_toArray, List.set_cons_zero, List.set_cons_succ]
      refine wpAnyH_take (i := 14) (v := ?_) rfl (by kernel_rfl) (by kernel_rfl) (by kernel_rfl) (fun _ _ _ h => h) (Or.inl ⟨by rfl, ?_⟩) hH0 ?_
      rotate_left
      · intro w hSw; (try dsimp only at hSw); go_simp
        all_goals (with_reducible rfl)
      simp only [Act.put, List.getElem_toArray, List.getElem_cons_zero, List.getElem_cons_succ, List.setIfInBounds_toArray, List.set_cons_zero, List.set_cons_succ]
      refine wpAnyH_take (i := 15) (v := ?_) rfl (by kernel_rfl) (by kernel_rfl) (by kernel_rfl) (fun _ _ _ h => h) (Or.inl ⟨by rfl, ?_⟩) hH0 ?_
      rotate_left
      · intro w hSw; (try dsimp only at hSw); go_simp
        all_goals (with_reducible rfl)
      simp only [Act.put, List.getElem_toArray, List.getElem_cons_zero, List.getElem_cons_succ, List.setIfInBounds_toArray, List.set_cons_zero, List.set_cons_succ]
      refine wpAnyH_take (i := 16) (v := ?_) rfl (by kernel_rfl) (by kernel_rfl) (by kernel_rfl) (fun _ _ _ h => h) (Or.inl ⟨by rfl, ?_⟩) hH0 ?_
      rotate_left
      · intro w hSw; (try dsimp only at hSw); go_simp
        all_goals (with_reducible rfl)
      simp only [Act.put, List.getElem_toArray, List.getElem_cons_zero, List.getElem_cons_succ, List.setIfInBounds_toArray, List.set_cons_zero, List.set_cons_succ]
      refine wpAnyH_take (i := 17) (v := ?_) rfl (by kernel_rfl) (by kernel_rfl) (by kernel_rfl) (fun _ _ _ h => h) (Or.inl ⟨by rfl, ?_⟩) hH0 ?_
      rotate_left
      · intro w hSw; (try dsimp only at hSw); go_simp
        all_goals (with_reducible rfl)
      simp only [Act.put, List.getElem_toArray, List.getElem_cons_zero, List.getElem_cons_succ, List.setIfInBounds_toArray, List.set_cons_zero, List.set_cons_succ]
      refine wpAnyH_done (by kernel_rfl) ?_ _
      go_wp2_with fail
      go_end0
      exact ⟨rfl, m, hm1, hmn, hh.out.1, (hh.out.2.1).drew⟩
end Go.Proofs.YtcnkbdbkglggcaaGreatDoor

namespace Go.Proofs.YtcnkbdbkglggcaaGreatDoor
open Go.RowKit

theorem wrap_u64' (n : Int) : IntKind.u64.wrap n = n % 18446744073709551616 := by simp [IntKind.wrap, IntKind.bits, IntKind.signed]
theorem mask32 (x : Int) (h0 : 0 ≤ x) (h1 : x < 18446744073709551616) : bits .and .u64 x 4294967295 = x % 4294967296 := by
  rw [u64_and x 4294967295 h0 h1 (by decide) (by decide)]
  have h2 : (4294967295 : Int).toNat = 2 ^ 32 - 1 := by decide
  rw [h2, Nat.and_two_pow_sub_one_eq_mod]
  omega
theorem mask1 (x : Int) (h0 : 0 ≤ x) (h1 : x < 18446744073709551616) : bits .and .u64 x 1 = x % 2 := by
  rw [u64_and x 1 h0 h1 (by decide) (by decide)]
  have h2 : (1 : Int).toNat = 1 := by decide
  rw [h2, nat_mask1]
  omega
theorem or1 (x : Int) (h0 : 0 ≤ x) (h1 : x < 18446744073709551615) : bits .or .u64 x 1 = x + (1 - x % 2) := by
  rw [u64_or x 1 h0 (by omega) (by decide) (by decide)]
  have h2 : (1 : Int).toNat = 1 := by decide
  have h3 : x.toNat ||| 1 = 2 * (x.toNat / 2) + 1 := by
    have h4 : x.toNat = 2 * (x.toNat / 2) + x.toNat % 2 := by omega
    have h5 := Nat.two_pow_add_eq_or_of_lt (i := 1) (b := 1) (by decide) (x.toNat / 2)
    rcases Nat.mod_two_eq_zero_or_one x.toNat with h6 | h6
    · rw [h6] at h4
      conv => lhs; rw [h4]
      simpa using h5.symm
    · have h7 := Nat.two_pow_add_eq_or_of_lt (i := 1) (b := x.toNat % 2) (by omega) (x.toNat / 2)
      rw [h6] at h7 h4
      conv => lhs; rw [h4]
      have h8 : 2 ^ 1 * (x.toNat / 2) + 1 = 2 * (x.toNat / 2) + 1 := by omega
      rw [h8] at h7
      rw [h7, Nat.or_assoc]
      simp
  rw [h2, h3]
  omega
theorem and_low (R : Nat) (h : R < 4503599627370496) : R &&& 18442240474082181119 = R := by
  have h1 : R &&& 18442240474082181119 ≤ R := Nat.and_le_left
  have h2 := Nat.and_mod_two_pow (a := R) (b := 18442240474082181119) (n := 52)
  rw [show (18442240474082181119 : Nat) % 2 ^ 52 = 2 ^ 52 - 1 by decide, Nat.and_two_pow_sub_one_eq_mod, Nat.mod_mod, Nat.mod_eq_of_lt (show R < 2 ^ 52 by omega), Nat.mod_eq_of_lt (show (R &&& 18442240474082181119) < 2 ^ 52 by omega)] at h2
  exact h2
theorem strip0 (R : Nat) (h : R < 4503599627370496) : (4503599627370496 + R) &&& 18442240474082181119 = R := by
  have h1 := nat_join 52 4503599627370496 R (by decide) (by omega)
  rw [← h1, Nat.and_or_distrib_right, and_low R h, show (4503599627370496 : Nat) &&& 18442240474082181119 = 0 by decide, Nat.zero_or]
theorem strip1 (R : Nat) (h : R < 4503599627370496) : (9223372036854775808 + (4503599627370496 + R)) &&& 18442240474082181119 = 9223372036854775808 + R := by
  have h1 := nat_join 63 9223372036854775808 (4503599627370496 + R) (by decide) (by omega)
  have h2 := nat_join 63 9223372036854775808 R (by decide) (by omega)
  rw [← h1, Nat.and_or_distrib_right, strip0 R h, show (9223372036854775808 : Nat) &&& 18442240474082181119 = 9223372036854775808 by decide, h2]
theorem put0 (E R : Nat) (h : R < 4503599627370496) : R ||| E * 4503599627370496 = E * 4503599627370496 + R := by
  rw [Nat.or_comm]
  exact nat_join 52 _ R (by omega) (by omega)
theorem put1 (E R : Nat) (h : R < 4503599627370496) (hE : E < 2048) : (9223372036854775808 + R) ||| E * 4503599627370496 = 9223372036854775808 + (E * 4503599627370496 + R) := by
  have h2 := nat_join 63 9223372036854775808 R (by decide) (by omega)
  have h3 := nat_join 63 9223372036854775808 (E * 4503599627370496 + R) (by decide) (by omega)
  rw [← h2, Nat.or_assoc, put0 E R h, h3]
theorem bit52 (m : Nat) (h : m / 4503599627370496 % 2 = 1) : m &&& 4503599627370496 = 4503599627370496 := by
  have := nat_bit 52 m
  rw [show (2 : Nat) ^ 52 = 4503599627370496 by decide, h] at this
  omega
/-- The word that 'pack64' makes. -/
def packW (neg : Bool) (M k : Nat) : Int := (((if neg then 9223372036854775808 else 0) + (k * 4503599627370496 + M) : Nat) : Int)
/-- The sign and a number of 53 digits. -/
def sgn (neg : Bool) (M : Nat) : Int := (((if neg then 9223372036854775808 else 0) + M : Nat) : Int)
theorem sgn_or (neg : Bool) (M : Nat) (h : M < 9007199254740992) : bits .or .u64 (sgn neg 0) (M : Int) = sgn neg M := by
  cases neg
  · show bits .or .u64 ((0 : Nat) : Int) (M : Int) = ((0 + M : Nat) : Int)
    rw [u64_or_nat 0 M (by decide) (by omega), Nat.zero_or, Nat.zero_add]
  · show bits .or .u64 ((9223372036854775808 + 0 : Nat) : Int) (M : Int) = ((9223372036854775808 + M : Nat) : Int)
    rw [u64_or_nat _ M (by decide) (by omega)]
    have := nat_join 63 9223372036854775808 M (by decide) (by omega)
    rw [Nat.add_zero, this]
theorem sgn_lt (neg : Bool) (M : Nat) (h : M < 9007199254740992) : 0 ≤ sgn neg M ∧ sgn neg M < 18446744073709551616 := by
  unfold sgn
  cases neg <;> simp <;> omega
theorem pack_and (neg : Bool) (M : Nat) (h0 : 4503599627370496 ≤ M) (h1 : M < 9007199254740992) : bits .and .u64 (sgn neg M) 4503599627370496 = 4503599627370496 := by
  have hs := sgn_lt neg M h1
  rw [u64_and _ _ hs.1 hs.2 (by decide) (by decide), show (4503599627370496 : Int).toNat = 4503599627370496 by decide, bit52]
  · rfl
  · unfold sgn
    cases neg <;> simp <;> omega
theorem pack_strip (neg : Bool) (M : Nat) (h0 : 4503599627370496 ≤ M) (h1 : M < 9007199254740992) : bits .andNot .u64 (sgn neg M) 4503599627370496 = sgn neg (M - 4503599627370496) := by
  have hs := sgn_lt neg M h1
  rw [u64_andNot _ _ hs.1 hs.2 (by decide) (by decide), show 18446744073709551615 - (4503599627370496 : Int).toNat = 18442240474082181119 by decide]
  unfold sgn
  cases neg
  · have := strip0 (M - 4503599627370496) (by omega)
    rw [show 4503599627370496 + (M - 4503599627370496) = M by omega] at this
    simp [this]
  · have := strip1 (M - 4503599627370496) (by omega)
    rw [show 4503599627370496 + (M - 4503599627370496) = M by omega] at this
    simp only [if_true, Int.toNat_natCast]
    rw [this]
theorem pack_put (neg : Bool) (R E : Nat) (h : R < 4503599627370496) (hE : E < 2048) (hE2 : 1 ≤ E) : bits .or .u64 (sgn neg R) ((E * 4503599627370496 : Nat) : Int) = packW neg (R + 4503599627370496) (E - 1) := by
  have hs := sgn_lt neg R (by omega)
  rw [u64_or _ _ hs.1 hs.2 (by omega) (by omega), Int.toNat_natCast]
  unfold sgn packW
  cases neg
  · have := put0 E R h
    simp only [Bool.false_eq_true, if_false, Nat.zero_add, Int.toNat_natCast]
    rw [this]
    omega
  · have := put1 E R h hE
    simp only [if_true, Int.toNat_natCast]
    rw [this]
    omega
end Go.Proofs.YtcnkbdbkglggcaaGreatDoor

namespace Go.Proofs.YtcnkbdbkglggcaaGreatDoor
open Go.RowKit

theorem q_facts (v P : Int) (hP : 0 < P) (h0 : 0 ≤ v) (h1 : v < 10 * P) : 0 ≤ v / P ∧ v / P ≤ 9 ∧ 0 ≤ v % P ∧ v % P < P := by
  refine ⟨Int.ediv_nonneg h0 (by omega), ?_, Int.emod_nonneg _ (by omega), Int.emod_lt_of_pos _ hP⟩
  have := Int.ediv_lt_of_lt_mul hP h1
  omega
theorem q_pos (v P : Int) (hP : 0 < P) (h : P ≤ v) : 1 ≤ v / P := by
  have h2 : (1 : Int) * P ≤ v := by omega
  exact Int.le_ediv_of_mul_le hP h2
theorem q_zero (v P : Int) (h0 : 0 ≤ v) (h : v < P) : v / P = 0 := Int.ediv_eq_zero_of_lt h0 h
theorem pw_bounds (k : Nat) (h1 : 1 ≤ k) (h2 : k ≤ 60) : 2 ≤ (2 : Int) ^ k ∧ (2 : Int) ^ k ≤ 1152921504606846976 := by
  have a : 2 ^ 1 ≤ 2 ^ k := Nat.pow_le_pow_right (by decide) h1
  have b : 2 ^ k ≤ 2 ^ 60 := Nat.pow_le_pow_right (by decide) h2
  have c : ((2 ^ k : Nat) : Int) = (2 : Int) ^ k := by simp
  omega
/-- The first m are digits. -/
def Dg (f : Nat → Int) (m : Nat) : Prop := ∀ j, j < m → 48 ≤ f j ∧ f j ≤ 57
/-- What a shift leaves. -/
def Shf (w : World) (g : Nat) (ng : Bool) (R : (Nat → Int) → Int → Prop) (e : Ending) (w' : World) : Prop :=
  e = .returned (.tuple #[]) ∧ ∃ (f' : Nat → Int) (m : Nat) (dp' : Int) (tr' : Bool), 1 ≤ m ∧ m ≤ 800 ∧ DB w' g f' m dp' ng tr' ∧ Dg f' m ∧ f' 0 ≠ 48 ∧ R f' dp' ∧ Upd [g] w w'
theorem mask_pow (v : Int) (k : Nat) (h0 : 0 ≤ v) (h1 : v < 18446744073709551616) (hk : k ≤ 60) (hk1 : 1 ≤ k) : bits .and .u64 v (2 ^ k - 1) = v % 2 ^ k := by
  obtain ⟨a, b⟩ := pw_bounds k hk1 hk
  rw [u64_and v _ h0 h1 (by omega) (by omega)]
  have h2 : ((2 : Int) ^ k - 1).toNat = 2 ^ k - 1 := by
    have c : ((2 ^ k : Nat) : Int) = (2 : Int) ^ k := by simp
    omega
  rw [h2, Nat.and_two_pow_sub_one_eq_mod]
  have h3 : ((v.toNat % 2 ^ k : Nat) : Int) = (v.toNat : Int) % (2 : Int) ^ k := by simp
  rw [h3, Int.toNat_of_nonneg h0]
theorem dvd_next (v : Int) (k t : Nat) (ht : t < k) (h : (2 : Int) ^ t ∣ v) : (2 : Int) ^ (t + 1) ∣ v % 2 ^ k * 10 := by
  have h1 : (2 : Int) ^ t ∣ (2 : Int) ^ k := ⟨(2 : Int) ^ (k - t), by rw [← Int.pow_add]; congr 1; omega⟩
  have h2 : (2 : Int) ^ t ∣ v % 2 ^ k := by
    rw [Int.emod_def]
    exact Int.dvd_sub h (Int.dvd_trans h1 (Int.dvd_mul_right _ _))
  obtain ⟨c, hc⟩ := h2
  refine ⟨c * 5, ?_⟩
  rw [hc, Int.pow_succ, Int.mul_assoc, Int.mul_assoc]
  congr 1
  omega
theorem dvd_end (v : Int) (k : Nat) (h : (2 : Int) ^ k ∣ v) : v % 2 ^ k * 10 = 0 := by
  rw [Int.emod_eq_zero_of_dvd h]
  rfl
theorem pow_lt60 (e : Nat) (v : Int) (h : (2 : Int) ^ e ≤ v) (hv : v < 1152921504606846976) : e < 60 := by
  rcases Nat.lt_or_ge e 60 with hl | hg
  · exact hl
  · have b : 2 ^ 60 ≤ 2 ^ e := Nat.pow_le_pow_right (by decide) hg
    have c : ((2 ^ e : Nat) : Int) = (2 : Int) ^ e := by simp
    omega
set_option maxHeartbeats 4000000 in
theorem rshift_any (w : World) (g : Nat) (f : Nat → Int) (n : Nat) (dp : Int) (ng tr : Bool) (k : Nat) (hb : DB w g f n dp ng tr) (h1 : 1 ≤ n) (h8 : n ≤ 800) (hf : f 0 ≠ 48) (hd : Dg f n) (hk1 : 1 ≤ k) (hk : k ≤ 60) (hdp : -1000000000 ≤ dp) (hdp2 : dp ≤ 1000000000) :
    Calls Tryz.prog 136 #[.pointer (some ⟨g, 0, none⟩), .int .u64 (k : Int)] w fun e w' => Shf w g ng (fun f' dp' => (dp' < dp ∨ dp' = dp ∧ f' 0 < f 0) ∧ dp - 900 ≤ dp' ∧ dp' ≤ dp) e w' := by
  obtain ⟨hP2, hP60⟩ := pw_bounds k hk1 hk
  have HB := Lib.hid hb
  have HF := Lib.hid hf
  have HD := Lib.hid hd
  have c800 := hb.cnd
  have HU0 : Hid (Upd [g] w w) := Upd.refl [g] w
  obtain ⟨wr0, hwr0⟩ : ∃ x : World, x = w := ⟨_, rfl⟩
  have HU0 : Hid (Upd [g] wr0 w) := by rw [hwr0]; exact Upd.refl [g] w
  have HW0 := Lib.hid hwr0
  clear hb hf hd hwr0
  go_enter Tryz.func136, Tryz.ntmps136
  go_wp2_with fail
  go_loopg [4, 6] n (fun gg x4 x6 wr => ∃ (r : Nat) (v : Int), r ≤ n ∧ x4 = .int .i64 r ∧ x6 = .int .u64 v ∧ 0 ≤ v ∧ v < 10 * 2 ^ k ∧ wr = w ∧ Hid (gg = n - r ∧ (r = 0 → v = 0) ∧ (r = 1 → v = f 0 - 48) ∧ (1 ≤ r → 1 ≤ v)))
  case atStart => exact ⟨0, 0, by omega, rfl, rfl, by omega, by omega, rfl, rfl, fun _ => rfl, fun h => by omega, fun h => by omega⟩
  case round =>
    obtain ⟨r, v, hr, rfl, rfl, hv0, hv1, rfl, hh⟩ := hrel
    by_cases hc : v < 2 ^ k
    · have dz : (v / 2 ^ k == 0) = true := beq_iff_eq.2 (q_zero v _ hv0 hc)
      by_cases hrn : r < n
      · have hdr := HD.out r hrn
        have cr := HB.out.dig r (by omega)
        have d1 : decide ((n : Int) ≤ (r : Int)) = false := decide_eq_false (by omega)
        have d1' : decide (n ≤ r) = false := decide_eq_false (by omega)
        have HN : Hid (f r = f r) := rfl
        obtain ⟨c, hcc⟩ : ∃ c, c = f r := ⟨_, rfl⟩
        rw [← hcc] at cr hdr
        have w1 : IntKind.u64.wrap (v * 10) = v * 10 := by rw [wrap_u64']; omega
        have w2 : IntKind.u64.wrap (v * 10 + c) = v * 10 + c := by rw [wrap_u64']; omega
        have w3 : IntKind.u64.wrap (v * 10 + c - 48) = v * 10 + c - 48 := by rw [wrap_u64']; omega
        have HCC := Lib.hid hcc
        clear hcc
        go_wp2_with fail
        go_roundg (n - (r + 1))
        case measure => have := hh.out.1; omega
        case rel =>
          refine ⟨r + 1, v * 10 + c - 48, by omega, by go_num, rfl, by omega, by omega, rfl, rfl, fun h => by omega, fun h => ?_, fun _ => ?_⟩
          · have h0 : r = 0 := by omega
            have h2 := hh.out.2.1 h0
            have h3 := HCC.out
            rw [h0] at h3
            omega
          · rcases Nat.eq_zero_or_pos r with h0 | h0
            · have h2 := hh.out.2.1 h0
              have h3 := HCC.out
              have h4 := HF.out
              rw [h0] at h3
              omega
            · have := hh.out.2.2.2 h0
              omega
      · have hE : r = n := by omega
        subst hE
        have d1 : decide ((r : Int) ≤ (r : Int)) = true := decide_eq_true (Int.le_refl _)
        have hv1' : 1 ≤ v := hh.out.2.2.2 (by omega)
        have dn : (v == 0) = false := beq_eq_false_iff_ne.2 (by omega)
        have dn' : decide (v = 0) = false := decide_eq_false (by omega)
        have cdp := HB.out.cdp
        have tf := Blk.frozen HB.out
        have HCV : Hid (v < 2 ^ k) := hc
        clear hh
        go_upto_region 8 with fail
        obtain ⟨wo, rfl⟩ : ∃ wo : World, wo = wr := ⟨_, rfl⟩
        go_loopg [4, 6] (2 ^ k - v).toNat (fun gg x4 x6 wr2 => ∃ (e : Nat) (v2 : Int), x4 = .int .i64 ((r + e : Nat) : Int) ∧ x6 = .int .u64 v2 ∧ 1 ≤ v2 ∧ v2 < 10 * 2 ^ k ∧ e ≤ 60 ∧ wr2 = wo ∧ Hid ((2 : Int) ^ e ≤ v2 ∧ (e = 0 → v2 = v) ∧ gg = (2 ^ k - v2).toNat))
        case atStart => exact ⟨0, v, rfl, rfl, hv1', hv1, by omega, rfl, by simpa using hv1', fun _ => rfl, rfl⟩
        case round =>
          obtain ⟨e, v2, rfl, rfl, hv20, hv21, he, rfl, hh2⟩ := hrel
          clear dz
          by_cases hc2 : v2 < 2 ^ k
          · have dz : (v2 / 2 ^ k == 0) = true := beq_iff_eq.2 (q_zero v2 _ (by omega) hc2)
            have w1 : IntKind.u64.wrap (v2 * 10) = v2 * 10 := by rw [wrap_u64']; omega
            have he2 : e < 60 := pow_lt60 e v2 hh2.out.1 (by omega)
            have HM : Hid ((2 ^ k - v2 * 10).toNat < (2 ^ k - v2).toNat) := by
              show (2 ^ k - v2 * 10).toNat < (2 ^ k - v2).toNat
              omega
            have HP : Hid ((2 : Int) ^ (e + 1) ≤ v2 * 10) := by
              show (2 : Int) ^ (e + 1) ≤ v2 * 10
              have h1 := hh2.out.1
              rw [Int.pow_succ]
              omega
            have B1 : Hid (1 ≤ v2 * 10 ∧ v2 * 10 < 10 * 2 ^ k) := ⟨by omega, by omega⟩
            go_wp2_with fail
            go_roundg (2 ^ k - v2 * 10).toNat
            case measure => have h1 := hh2.out.2.2; have h2 := HM.out; omega
            case rel => exact ⟨e + 1, v2 * 10, by go_num, rfl, B1.out.1, B1.out.2, by omega, rfl, HP.out, fun h => by omega, rfl⟩
          · have dz : (v2 / 2 ^ k == 0) = false := beq_eq_false_iff_ne.2 (by have := q_pos v2 _ (by omega) (Int.not_lt.1 hc2); omega)
            have he1 : 1 ≤ e := by
              rcases Nat.eq_zero_or_pos e with h0 | h0
              · have h1 := hh2.out.2.1 h0
                have h2 := HCV.out
                omega
              · exact h0
            have hv0 : 0 ≤ v2 := by omega
            go_upto_region 15 with fail
            obtain ⟨vb, hvb⟩ : ∃ x, x = v2 := ⟨_, rfl⟩
            rw [← hvb] at hv0 hv21 hc2 hh2 dz
            rw [← hvb]
            clear hvb
            have hr1 : 1 ≤ (r + e) := by omega
            have HB2 : Hid (DB (wr.setCell ⟨g, 801, none⟩ (.int .i64 (dp - ((r : Int) + (e : Int) - 1)))) g f r (dp - ((r : Int) + (e : Int) - 1)) ng tr) := HB.out.setDp (dp - ((r : Int) + (e : Int) - 1))
            have HU2 : Hid (Upd [g] wr0 (wr.setCell ⟨g, 801, none⟩ (.int .i64 (dp - ((r : Int) + (e : Int) - 1))))) := (HU0.out).setCell (p := ⟨g, 801, none⟩) (.inl (.head _)) _
            generalize (wr.setCell ⟨g, 801, none⟩ (.int .i64 (dp - ((r : Int) + (e : Int) - 1)))) = W at *
            obtain ⟨dpv, hdpv⟩ : ∃ x, x = (dp - ((r : Int) + (e : Int) - 1)) := ⟨_, rfl⟩
            rw [← hdpv] at HB2
            have HR : Hid (∀ f2 : Nat → Int, f2 0 = 48 + vb / 2 ^ k → (dpv < dp ∨ dpv = dp ∧ f2 0 < f 0) ∧ dp - 900 ≤ dpv ∧ dpv ≤ dp) := fun f2 h => by
              have e1 := hdpv
              exact ⟨.inl (by omega), by omega, by omega⟩
            have hq := q_facts vb (2 ^ k) (by omega) hv0 hv21
            have hd0 := q_pos vb (2 ^ k) (by omega) (by first | exact Int.not_lt.1 hc2 | exact hc2)
            obtain ⟨d0, hd0e⟩ : ∃ d0, d0 = vb / 2 ^ k := ⟨_, rfl⟩
            rw [← hd0e] at hq hd0
            have HD0 := Lib.hid hd0e
            have hd9 := hq.2.1
            have HX3 : Hid (vb / 2 ^ k = d0) := hd0e.symm
            clear hq hd0e dz cdp tf hdpv
            go_loopg [4, 5, 6] (r - (r + e)) (fun gg x4 x5 x6 wr => ∃ (r2 w2 : Nat) (v2 : Int) (f2 : Nat → Int), x4 = .int .i64 r2 ∧ x5 = .int .i64 w2 ∧ x6 = .int .u64 v2 ∧ 0 ≤ v2 ∧ v2 < 10 * 2 ^ k ∧ w2 + 1 ≤ r2 ∧ (w2 = 0 ∨ r2 ≤ r) ∧ Hid (DB wr g f2 r dpv ng tr ∧ Upd [g] wr0 wr ∧ Dg f2 w2 ∧ (∀ j, w2 ≤ j → f2 j = f j) ∧ (w2 = 0 → v2 / 2 ^ k = d0) ∧ (1 ≤ w2 → f2 0 = 48 + d0) ∧ gg = r - r2))
            case atStart => exact ⟨(r + e), 0, vb, f, (by go_num), rfl, rfl, hv0, hv21, by omega, .inl rfl, HB2.out, HU2.out, (fun j hj => by omega), fun j _ => rfl, fun _ => HX3.out, fun h => by omega, rfl⟩
            case round =>
              clear HB2 HU2 HX3
              obtain ⟨r2, w2, v2, f2, rfl, rfl, rfl, hv20, hv21, hwr, hwn, hh2⟩ := hrel
              have c800 := hh2.out.1.cnd
              have tf := Blk.frozen hh2.out.1
              obtain ⟨q0, q9, q1, q2⟩ := q_facts v2 (2 ^ k) (by omega) hv20 hv21
              have ma := mask_pow v2 k hv20 (by omega) hk hk1
              by_cases hrn2 : r2 < r
              · have hdr := HD.out r2 hrn2
                have cr := hh2.out.1.dig r2 (by omega)
                rw [hh2.out.2.2.2.1 r2 (by omega)] at cr
                have cw := hh2.out.1.dig w2 (by omega)
                have d2 : decide ((r2 : Int) < (r : Int)) = true := decide_eq_true (by omega)
                have d2' : decide (r2 < r) = true := decide_eq_true hrn2
                have hw8 : w2 < 800 := by omega
                obtain ⟨c, hcc⟩ : ∃ c, c = f r2 := ⟨_, rfl⟩
                rw [← hcc] at cr hdr
                clear hcc
                obtain ⟨q, hqe⟩ : ∃ q, q = v2 / 2 ^ k := ⟨_, rfl⟩
                obtain ⟨m, hme⟩ : ∃ m, m = v2 % 2 ^ k := ⟨_, rfl⟩
                rw [← hqe] at q0 q9
                rw [← hme] at q1 q2 ma
                have HQE := Lib.hid hqe
                have sh : v2 / 2 ^ k = q := hqe.symm
                clear hqe hme
                have w0 : IntKind.u64.wrap (q + 48) = q + 48 := by rw [wrap_u64']; omega
                have w0b : IntKind.u8.wrap (q + 48) = q + 48 := by rw [IntKind.wrap_u8']; omega
                have w1 : IntKind.u64.wrap (m * 10) = m * 10 := by rw [wrap_u64']; omega
                have w2x : IntKind.u64.wrap (m * 10 + c) = m * 10 + c := by rw [wrap_u64']; omega
                have w3 : IntKind.u64.wrap (m * 10 + c - 48) = m * 10 + c - 48 := by rw [wrap_u64']; omega
                have B1 : Hid (0 ≤ m * 10 + c - 48 ∧ m * 10 + c - 48 < 10 * 2 ^ k) := ⟨by omega, by omega⟩
                go_wp2_with fail
                go_roundg (r - (r2 + 1))
                case measure => have := hh2.out.2.2.2.2.2.2; omega
                case rel =>
                  refine ⟨r2 + 1, w2 + 1, m * 10 + c - 48, putD f2 w2 (q + 48), by go_num, by go_num, rfl, B1.out.1, B1.out.2, by omega, .inr (by omega), hh2.out.1.setDig w2 hw8 _, (hh2.out.2.1).setCell (p := ⟨g, w2, none⟩) (.inl (.head _)) _, fun j hj => ?_, fun j hj => ?_, fun h => by omega, fun _ => ?_, rfl⟩
                  · unfold putD
                    split
                    · omega
                    · exact hh2.out.2.2.1 j (by omega)
                  · unfold putD
                    rw [if_neg (by omega)]
                    exact hh2.out.2.2.2.1 j (by omega)
                  · unfold putD
                    rcases Nat.eq_zero_or_pos w2 with h0 | h0
                    · rw [if_pos h0.symm]
                      have h2 := hh2.out.2.2.2.2.1 h0
                      have h3 := HQE.out
                      omega
                    · rw [if_neg (by omega)]
                      exact hh2.out.2.2.2.2.2.1 h0
              · have d2 : decide ((r2 : Int) < (r : Int)) = false := decide_eq_false (by omega)
                have d2' : decide (r2 < r) = false := decide_eq_false hrn2
                have hw8 : w2 ≤ 800 := by omega
                clear ma
                go_upto_region 23 with fail
                have HL : Hid (DB wr g f2 r dpv ng tr ∧ Upd [g] wr0 wr ∧ Dg f2 w2 ∧ (w2 = 0 → v2 / 2 ^ k = d0) ∧ (1 ≤ w2 → f2 0 = 48 + d0)) := ⟨hh2.out.1, hh2.out.2.1, hh2.out.2.2.1, hh2.out.2.2.2.2.1, hh2.out.2.2.2.2.2.1⟩
                clear hh2 c800 tf d2 d2' hrn2 hwn hwr q0 q9 q1 q2
                obtain ⟨wo, hwo⟩ : ∃ wo : World, wo = wr := ⟨_, rfl⟩
                rw [← hwo] at HL
                rw [← hwo]
                clear hwo
                go_loopg [5, 6] (if v2 = 0 then 0 else k + 1) (fun gg x5 x6 wr => ∃ (w3 : Nat) (v3 : Int) (f3 : Nat → Int) (tr3 : Bool) (t : Nat), x5 = .int .i64 w3 ∧ x6 = .int .u64 v3 ∧ 0 ≤ v3 ∧ v3 < 10 * 2 ^ k ∧ w3 ≤ 800 ∧ t ≤ k ∧ Hid (DB wr g f3 r dpv ng tr3 ∧ Upd [g] wr0 wr ∧ Dg f3 w3 ∧ (w3 = 0 → v3 / 2 ^ k = d0) ∧ (1 ≤ w3 → f3 0 = 48 + d0) ∧ (2 : Int) ^ t ∣ v3 ∧ gg = if v3 = 0 then 0 else k + 1 - t))
                case atStart => exact ⟨w2, v2, f2, tr, 0, rfl, rfl, hv20, hv21, hw8, by omega, HL.out.1, HL.out.2.1, HL.out.2.2.1, HL.out.2.2.2.1, HL.out.2.2.2.2, ⟨v2, by simp⟩, rfl⟩
                case round =>
                  clear HL
                  obtain ⟨w3, v3, f3, tr3, t, rfl, rfl, h30, h31, hw3, ht, hh3⟩ := hrel
                  have c800 := hh3.out.1.cnd
                  have c803 := hh3.out.1.ctr
                  have tf := Blk.frozen hh3.out.1
                  by_cases hz3 : v3 = 0
                  · subst hz3
                    have hw1 : 1 ≤ w3 := by
                      rcases Nat.eq_zero_or_pos w3 with h0 | h0
                      · have h2 := hh3.out.2.2.2.1 h0
                        rw [Int.zero_ediv] at h2
                        omega
                      · exact h0
                    have hne : f3 0 ≠ 48 := by
                      have := hh3.out.2.2.2.2.1 hw1
                      omega
                    have HT : Hid (DB (wr.setCell ⟨g, 800, none⟩ (.int .i64 (w3 : Int))) g f3 w3 dpv ng tr3) := hh3.out.1.setNd _
                    have HU3 : Hid (Upd [g] wr0 (wr.setCell ⟨g, 800, none⟩ (.int .i64 (w3 : Int)))) := (hh3.out.2.1).setCell (p := ⟨g, 800, none⟩) (.inl (.head _)) _
                    have HNE := Lib.hid hne
                    clear hne
                    go_wp2_with (go_at_call 134; refine (trim_any _ g f3 w3 dpv ng tr3 HT.out hw1 hw3 HNE.out).mono ?_; rintro e w4 ⟨rfl, m, hm1, hm2, hdb, hu4⟩)
                    go_end0
                    exact ⟨rfl, f3, m, dpv, tr3, hm1, by omega, hdb, (fun j hj => hh3.out.2.2.1 j (by omega)), HNE.out, HR.out f3 (by rw [← HD0.out]; exact hh3.out.2.2.2.2.1 hw1), by rw [← HW0.out]; exact (HU3.out).trans hu4⟩
                  · obtain ⟨q0, q9, q1, q2⟩ := q_facts v3 (2 ^ k) (by omega) h30 h31
                    have ma := mask_pow v3 k h30 (by omega) hk hk1
                    have dpos : decide (0 < v3) = true := decide_eq_true (by omega)
                    have HDV : Hid (if t < k then (2 : Int) ^ (t + 1) ∣ v3 % 2 ^ k * 10 else v3 % 2 ^ k * 10 = 0) := by
                      show if t < k then (2 : Int) ^ (t + 1) ∣ v3 % 2 ^ k * 10 else v3 % 2 ^ k * 10 = 0
                      split
                      · exact dvd_next v3 k t (by assumption) hh3.out.2.2.2.2.2.1
                      · have htk : t = k := by omega
                        have := hh3.out.2.2.2.2.2.1
                        rw [htk] at this
                        exact dvd_end v3 k this
                    have HGO : Hid (k + 1 - t = gk) := by
                      have := hh3.out.2.2.2.2.2.2
                      rw [if_neg hz3] at this
                      exact this.symm
                    obtain ⟨q, hqe⟩ : ∃ q, q = v3 / 2 ^ k := ⟨_, rfl⟩
                    obtain ⟨m, hme⟩ : ∃ m, m = v3 % 2 ^ k := ⟨_, rfl⟩
                    rw [← hqe] at q0 q9
                    rw [← hme] at q1 q2 ma HDV
                    have HQE := Lib.hid hqe
                    have sh : v3 / 2 ^ k = q := hqe.symm
                    clear hqe hme
                    have w0 : IntKind.u64.wrap (q + 48) = q + 48 := by rw [wrap_u64']; omega
                    have w0b : IntKind.u8.wrap (q + 48) = q + 48 := by rw [IntKind.wrap_u8']; omega
                    have w1 : IntKind.u64.wrap (m * 10) = m * 10 := by rw [wrap_u64']; omega
                    have B1 : Hid (0 ≤ m * 10 ∧ m * 10 < 10 * 2 ^ k) := ⟨by omega, by omega⟩
                    have HNX : Hid (∃ t', t' ≤ k ∧ (2 : Int) ^ t' ∣ m * 10 ∧ (if m * 10 = 0 then 0 else k - t) = if m * 10 = 0 then 0 else k + 1 - t') := by
                      have h1 := HDV.out
                      rcases Nat.lt_or_ge t k with h2 | h2
                      · rw [if_pos h2] at h1
                        exact ⟨t + 1, by omega, h1, by split <;> omega⟩
                      · rw [if_neg (by omega)] at h1
                        rw [h1]
                        exact ⟨t, ht, Int.dvd_zero _, by rfl⟩
                    by_cases hw : w3 < 800
                    · have d8 : decide ((w3 : Int) < 800) = true := decide_eq_true (by omega)
                      have cw := hh3.out.1.dig w3 hw
                      go_wp2_with fail
                      go_roundg (if m * 10 = 0 then 0 else k - t)
                      case measure => have h1 := HGO.out; (split <;> omega)
                      case rel =>
                        obtain ⟨t', ht', hdv, hg⟩ := HNX.out
                        refine ⟨w3 + 1, m * 10, putD f3 w3 (q + 48), tr3, t', by go_num, rfl, B1.out.1, B1.out.2, by omega, ht', hh3.out.1.setDig w3 hw _, (hh3.out.2.1).setCell (p := ⟨g, w3, none⟩) (.inl (.head _)) _, fun j hj => ?_, fun h => by omega, fun _ => ?_, hdv, hg⟩
                        · unfold putD
                          split
                          · omega
                          · exact hh3.out.2.2.1 j (by omega)
                        · unfold putD
                          rcases Nat.eq_zero_or_pos w3 with h0 | h0
                          · rw [if_pos h0.symm]
                            have h2 := hh3.out.2.2.2.1 h0
                            have h3 := HQE.out
                            omega
                          · rw [if_neg (by omega)]
                            exact hh3.out.2.2.2.2.1 h0
                    · have hw8 : w3 = 800 := by omega
                      have d8 : decide ((w3 : Int) < 800) = false := decide_eq_false (by omega)
                      by_cases hq0 : 0 < q
                      · have dq : decide (0 < q) = true := decide_eq_true hq0
                        go_wp2_with fail
                        go_roundg (if m * 10 = 0 then 0 else k - t)
                        case measure => have h1 := HGO.out; (split <;> omega)
                        case rel =>
                          obtain ⟨t', ht', hdv, hg⟩ := HNX.out
                          exact ⟨w3, m * 10, f3, true, t', (by first | rfl | (rw [hw8]; rfl)), rfl, B1.out.1, B1.out.2, hw3, ht', hh3.out.1.setTr true, (hh3.out.2.1).setCell (p := ⟨g, 803, none⟩) (.inl (.head _)) _, hh3.out.2.2.1, (fun h => by omega), (fun h => hh3.out.2.2.2.2.1 h), hdv, hg⟩
                      · have dq : decide (0 < q) = false := decide_eq_false hq0
                        go_wp2_with fail
                        go_roundg (if m * 10 = 0 then 0 else k - t)
                        case measure => have h1 := HGO.out; (split <;> omega)
                        case rel =>
                          obtain ⟨t', ht', hdv, hg⟩ := HNX.out
                          exact ⟨w3, m * 10, f3, tr3, t', (by first | rfl | (rw [hw8]; rfl)), rfl, B1.out.1, B1.out.2, hw3, ht', hh3.out.1, hh3.out.2.1, hh3.out.2.2.1, (fun h => by omega), (fun h => hh3.out.2.2.2.2.1 h), hdv, hg⟩
    · have dz : (v / 2 ^ k == 0) = false := beq_eq_false_iff_ne.2 (by have := q_pos v _ (by omega) (Int.not_lt.1 hc); omega)
      have cdp := HB.out.cdp
      have tf := Blk.frozen HB.out
      go_upto_region 15 with fail
      have hr1 : 1 ≤ r := by
        rcases Nat.eq_zero_or_pos r with h0 | h0
        · have := hh.out.2.1 h0
          omega
        · exact h0
      have HB2 : Hid (DB (wr.setCell ⟨g, 801, none⟩ (.int .i64 (dp - ((r : Int) - 1)))) g f n (dp - ((r : Int) - 1)) ng tr) := HB.out.setDp (dp - ((r : Int) - 1))
      have HU2 : Hid (Upd [g] wr0 (wr.setCell ⟨g, 801, none⟩ (.int .i64 (dp - ((r : Int) - 1))))) := (HU0.out).setCell (p := ⟨g, 801, none⟩) (.inl (.head _)) _
      generalize (wr.setCell ⟨g, 801, none⟩ (.int .i64 (dp - ((r : Int) - 1)))) = W at *
      obtain ⟨dpv, hdpv⟩ : ∃ x, x = (dp - ((r : Int) - 1)) := ⟨_, rfl⟩
      rw [← hdpv] at HB2
      have HR : Hid (∀ f2 : Nat → Int, f2 0 = 48 + v / 2 ^ k → (dpv < dp ∨ dpv = dp ∧ f2 0 < f 0) ∧ dp - 900 ≤ dpv ∧ dpv ≤ dp) := fun f2 h => by
        have e1 := hdpv
        have e2 := hh.out.2.1
        have e3 := hh.out.2.2.1
        have e4 : 1 ≤ v / 2 ^ k := q_pos v _ (by omega) (by first | exact Int.not_lt.1 hc | exact hc)
        rcases Nat.eq_zero_or_pos r with h0 | h0
        · have := e2 h0
          omega
        · rcases Nat.lt_or_ge r 2 with h5 | h5
          · have h6 : r = 1 := by omega
            have h7 := e3 h6
            have h8 : v / 2 ^ k < v := Int.ediv_lt_self_of_pos_of_ne_one (by omega) (by omega)
            refine ⟨.inr ⟨by omega, by omega⟩, by omega, by omega⟩
          · exact ⟨.inl (by omega), by omega, by omega⟩
      have hq := q_facts v (2 ^ k) (by omega) hv0 hv1
      have hd0 := q_pos v (2 ^ k) (by omega) (by first | exact Int.not_lt.1 hc | exact hc)
      obtain ⟨d0, hd0e⟩ : ∃ d0, d0 = v / 2 ^ k := ⟨_, rfl⟩
      rw [← hd0e] at hq hd0
      have HD0 := Lib.hid hd0e
      have hd9 := hq.2.1
      have HX3 : Hid (v / 2 ^ k = d0) := hd0e.symm
      clear hq hd0e dz cdp tf hdpv
      go_loopg [4, 5, 6] (n - r) (fun gg x4 x5 x6 wr => ∃ (r2 w2 : Nat) (v2 : Int) (f2 : Nat → Int), x4 = .int .i64 r2 ∧ x5 = .int .i64 w2 ∧ x6 = .int .u64 v2 ∧ 0 ≤ v2 ∧ v2 < 10 * 2 ^ k ∧ w2 + 1 ≤ r2 ∧ (w2 = 0 ∨ r2 ≤ n) ∧ Hid (DB wr g f2 n dpv ng tr ∧ Upd [g] wr0 wr ∧ Dg f2 w2 ∧ (∀ j, w2 ≤ j → f2 j = f j) ∧ (w2 = 0 → v2 / 2 ^ k = d0) ∧ (1 ≤ w2 → f2 0 = 48 + d0) ∧ gg = n - r2))
      case atStart => exact ⟨r, 0, v, f, rfl, rfl, rfl, hv0, hv1, by omega, .inl rfl, HB2.out, HU2.out, (fun j hj => by omega), fun j _ => rfl, fun _ => HX3.out, fun h => by omega, rfl⟩
      case round =>
        clear HB2 HU2 HX3
        obtain ⟨r2, w2, v2, f2, rfl, rfl, rfl, hv20, hv21, hwr, hwn, hh2⟩ := hrel
        have c800 := hh2.out.1.cnd
        have tf := Blk.frozen hh2.out.1
        obtain ⟨q0, q9, q1, q2⟩ := q_facts v2 (2 ^ k) (by omega) hv20 hv21
        have ma := mask_pow v2 k hv20 (by omega) hk hk1
        by_cases hrn2 : r2 < n
        · have hdr := HD.out r2 hrn2
          have cr := hh2.out.1.dig r2 (by omega)
          rw [hh2.out.2.2.2.1 r2 (by omega)] at cr
          have cw := hh2.out.1.dig w2 (by omega)
          have d2 : decide ((r2 : Int) < (n : Int)) = true := decide_eq_true (by omega)
          have d2' : decide (r2 < n) = true := decide_eq_true hrn2
          have hw8 : w2 < 800 := by omega
          obtain ⟨c, hcc⟩ : ∃ c, c = f r2 := ⟨_, rfl⟩
          rw [← hcc] at cr hdr
          clear hcc
          obtain ⟨q, hqe⟩ : ∃ q, q = v2 / 2 ^ k := ⟨_, rfl⟩
          obtain ⟨m, hme⟩ : ∃ m, m = v2 % 2 ^ k := ⟨_, rfl⟩
          rw [← hqe] at q0 q9
          rw [← hme] at q1 q2 ma
          have HQE := Lib.hid hqe
          have sh : v2 / 2 ^ k = q := hqe.symm
          clear hqe hme
          have w0 : IntKind.u64.wrap (q + 48) = q + 48 := by rw [wrap_u64']; omega
          have w0b : IntKind.u8.wrap (q + 48) = q + 48 := by rw [IntKind.wrap_u8']; omega
          have w1 : IntKind.u64.wrap (m * 10) = m * 10 := by rw [wrap_u64']; omega
          have w2x : IntKind.u64.wrap (m * 10 + c) = m * 10 + c := by rw [wrap_u64']; omega
          have w3 : IntKind.u64.wrap (m * 10 + c - 48) = m * 10 + c - 48 := by rw [wrap_u64']; omega
          have B1 : Hid (0 ≤ m * 10 + c - 48 ∧ m * 10 + c - 48 < 10 * 2 ^ k) := ⟨by omega, by omega⟩
          go_wp2_with fail
          go_roundg (n - (r2 + 1))
          case measure => have := hh2.out.2.2.2.2.2.2; omega
          case rel =>
            refine ⟨r2 + 1, w2 + 1, m * 10 + c - 48, putD f2 w2 (q + 48), by go_num, by go_num, rfl, B1.out.1, B1.out.2, by omega, .inr (by omega), hh2.out.1.setDig w2 hw8 _, (hh2.out.2.1).setCell (p := ⟨g, w2, none⟩) (.inl (.head _)) _, fun j hj => ?_, fun j hj => ?_, fun h => by omega, fun _ => ?_, rfl⟩
            · unfold putD
              split
              · omega
              · exact hh2.out.2.2.1 j (by omega)
            · unfold putD
              rw [if_neg (by omega)]
              exact hh2.out.2.2.2.1 j (by omega)
            · unfold putD
              rcases Nat.eq_zero_or_pos w2 with h0 | h0
              · rw [if_pos h0.symm]
                have h2 := hh2.out.2.2.2.2.1 h0
                have h3 := HQE.out
                omega
              · rw [if_neg (by omega)]
                exact hh2.out.2.2.2.2.2.1 h0
        · have d2 : decide ((r2 : Int) < (n : Int)) = false := decide_eq_false (by omega)
          have d2' : decide (r2 < n) = false := decide_eq_false hrn2
          have hw8 : w2 ≤ 800 := by omega
          clear ma
          go_upto_region 23 with fail
          have HL : Hid (DB wr g f2 n dpv ng tr ∧ Upd [g] wr0 wr ∧ Dg f2 w2 ∧ (w2 = 0 → v2 / 2 ^ k = d0) ∧ (1 ≤ w2 → f2 0 = 48 + d0)) := ⟨hh2.out.1, hh2.out.2.1, hh2.out.2.2.1, hh2.out.2.2.2.2.1, hh2.out.2.2.2.2.2.1⟩
          clear hh2 c800 tf d2 d2' hrn2 hwn hwr q0 q9 q1 q2
          obtain ⟨wo, hwo⟩ : ∃ wo : World, wo = wr := ⟨_, rfl⟩
          rw [← hwo] at HL
          rw [← hwo]
          clear hwo
          go_loopg [5, 6] (if v2 = 0 then 0 else k + 1) (fun gg x5 x6 wr => ∃ (w3 : Nat) (v3 : Int) (f3 : Nat → Int) (tr3 : Bool) (t : Nat), x5 = .int .i64 w3 ∧ x6 = .int .u64 v3 ∧ 0 ≤ v3 ∧ v3 < 10 * 2 ^ k ∧ w3 ≤ 800 ∧ t ≤ k ∧ Hid (DB wr g f3 n dpv ng tr3 ∧ Upd [g] wr0 wr ∧ Dg f3 w3 ∧ (w3 = 0 → v3 / 2 ^ k = d0) ∧ (1 ≤ w3 → f3 0 = 48 + d0) ∧ (2 : Int) ^ t ∣ v3 ∧ gg = if v3 = 0 then 0 else k + 1 - t))
          case atStart => exact ⟨w2, v2, f2, tr, 0, rfl, rfl, hv20, hv21, hw8, by omega, HL.out.1, HL.out.2.1, HL.out.2.2.1, HL.out.2.2.2.1, HL.out.2.2.2.2, ⟨v2, by simp⟩, rfl⟩
          case round =>
            clear HL
            obtain ⟨w3, v3, f3, tr3, t, rfl, rfl, h30, h31, hw3, ht, hh3⟩ := hrel
            have c800 := hh3.out.1.cnd
            have c803 := hh3.out.1.ctr
            have tf := Blk.frozen hh3.out.1
            by_cases hz3 : v3 = 0
            · subst hz3
              have hw1 : 1 ≤ w3 := by
                rcases Nat.eq_zero_or_pos w3 with h0 | h0
                · have h2 := hh3.out.2.2.2.1 h0
                  rw [Int.zero_ediv] at h2
                  omega
                · exact h0
              have hne : f3 0 ≠ 48 := by
                have := hh3.out.2.2.2.2.1 hw1
                omega
              have HT : Hid (DB (wr.setCell ⟨g, 800, none⟩ (.int .i64 (w3 : Int))) g f3 w3 dpv ng tr3) := hh3.out.1.setNd _
              have HU3 : Hid (Upd [g] wr0 (wr.setCell ⟨g, 800, none⟩ (.int .i64 (w3 : Int)))) := (hh3.out.2.1).setCell (p := ⟨g, 800, none⟩) (.inl (.head _)) _
              have HNE := Lib.hid hne
              clear hne
              go_wp2_with (go_at_call 134; refine (trim_any _ g f3 w3 dpv ng tr3 HT.out hw1 hw3 HNE.out).mono ?_; rintro e w4 ⟨rfl, m, hm1, hm2, hdb, hu4⟩)
              go_end0
              exact ⟨rfl, f3, m, dpv, tr3, hm1, by omega, hdb, (fun j hj => hh3.out.2.2.1 j (by omega)), HNE.out, HR.out f3 (by rw [← HD0.out]; exact hh3.out.2.2.2.2.1 hw1), by rw [← HW0.out]; exact (HU3.out).trans hu4⟩
            · obtain ⟨q0, q9, q1, q2⟩ := q_facts v3 (2 ^ k) (by omega) h30 h31
              have ma := mask_pow v3 k h30 (by omega) hk hk1
              have dpos : decide (0 < v3) = true := decide_eq_true (by omega)
              have HDV : Hid (if t < k then (2 : Int) ^ (t + 1) ∣ v3 % 2 ^ k * 10 else v3 % 2 ^ k * 10 = 0) := by
                show if t < k then (2 : Int) ^ (t + 1) ∣ v3 % 2 ^ k * 10 else v3 % 2 ^ k * 10 = 0
                split
                · exact dvd_next v3 k t (by assumption) hh3.out.2.2.2.2.2.1
                · have htk : t = k := by omega
                  have := hh3.out.2.2.2.2.2.1
                  rw [htk] at this
                  exact dvd_end v3 k this
              have HGO : Hid (k + 1 - t = gk) := by
                have := hh3.out.2.2.2.2.2.2
                rw [if_neg hz3] at this
                exact this.symm
              obtain ⟨q, hqe⟩ : ∃ q, q = v3 / 2 ^ k := ⟨_, rfl⟩
              obtain ⟨m, hme⟩ : ∃ m, m = v3 % 2 ^ k := ⟨_, rfl⟩
              rw [← hqe] at q0 q9
              rw [← hme] at q1 q2 ma HDV
              have HQE := Lib.hid hqe
              have sh : v3 / 2 ^ k = q := hqe.symm
              clear hqe hme
              have w0 : IntKind.u64.wrap (q + 48) = q + 48 := by rw [wrap_u64']; omega
              have w0b : IntKind.u8.wrap (q + 48) = q + 48 := by rw [IntKind.wrap_u8']; omega
              have w1 : IntKind.u64.wrap (m * 10) = m * 10 := by rw [wrap_u64']; omega
              have B1 : Hid (0 ≤ m * 10 ∧ m * 10 < 10 * 2 ^ k) := ⟨by omega, by omega⟩
              have HNX : Hid (∃ t', t' ≤ k ∧ (2 : Int) ^ t' ∣ m * 10 ∧ (if m * 10 = 0 then 0 else k - t) = if m * 10 = 0 then 0 else k + 1 - t') := by
                have h1 := HDV.out
                rcases Nat.lt_or_ge t k with h2 | h2
                · rw [if_pos h2] at h1
                  exact ⟨t + 1, by omega, h1, by split <;> omega⟩
                · rw [if_neg (by omega)] at h1
                  rw [h1]
                  exact ⟨t, ht, Int.dvd_zero _, by rfl⟩
              by_cases hw : w3 < 800
              · have d8 : decide ((w3 : Int) < 800) = true := decide_eq_true (by omega)
                have cw := hh3.out.1.dig w3 hw
                go_wp2_with fail
                go_roundg (if m * 10 = 0 then 0 else k - t)
                case measure => have h1 := HGO.out; (split <;> omega)
                case rel =>
                  obtain ⟨t', ht', hdv, hg⟩ := HNX.out
                  refine ⟨w3 + 1, m * 10, putD f3 w3 (q + 48), tr3, t', by go_num, rfl, B1.out.1, B1.out.2, by omega, ht', hh3.out.1.setDig w3 hw _, (hh3.out.2.1).setCell (p := ⟨g, w3, none⟩) (.inl (.head _)) _, fun j hj => ?_, fun h => by omega, fun _ => ?_, hdv, hg⟩
                  · unfold putD
                    split
                    · omega
                    · exact hh3.out.2.2.1 j (by omega)
                  · unfold putD
                    rcases Nat.eq_zero_or_pos w3 with h0 | h0
                    · rw [if_pos h0.symm]
                      have h2 := hh3.out.2.2.2.1 h0
                      have h3 := HQE.out
                      omega
                    · rw [if_neg (by omega)]
                      exact hh3.out.2.2.2.2.1 h0
              · have hw8 : w3 = 800 := by omega
                have d8 : decide ((w3 : Int) < 800) = false := decide_eq_false (by omega)
                by_cases hq0 : 0 < q
                · have dq : decide (0 < q) = true := decide_eq_true hq0
                  go_wp2_with fail
                  go_roundg (if m * 10 = 0 then 0 else k - t)
                  case measure => have h1 := HGO.out; (split <;> omega)
                  case rel =>
                    obtain ⟨t', ht', hdv, hg⟩ := HNX.out
                    exact ⟨w3, m * 10, f3, true, t', (by first | rfl | (rw [hw8]; rfl)), rfl, B1.out.1, B1.out.2, hw3, ht', hh3.out.1.setTr true, (hh3.out.2.1).setCell (p := ⟨g, 803, none⟩) (.inl (.head _)) _, hh3.out.2.2.1, (fun h => by omega), (fun h => hh3.out.2.2.2.2.1 h), hdv, hg⟩
                · have dq : decide (0 < q) = false := decide_eq_false hq0
                  go_wp2_with fail
                  go_roundg (if m * 10 = 0 then 0 else k - t)
                  case measure => have h1 := HGO.out; (split <;> omega)
                  case rel =>
                    obtain ⟨t', ht', hdv, hg⟩ := HNX.out
                    exact ⟨w3, m * 10, f3, tr3, t', (by first | rfl | (rw [hw8]; rfl)), rfl, B1.out.1, B1.out.2, hw3, ht', hh3.out.1, hh3.out.2.1, hh3.out.2.2.1, (fun h => by omega), (fun h => hh3.out.2.2.2.2.1 h), hdv, hg⟩
end Go.Proofs.YtcnkbdbkglggcaaGreatDoor

namespace Go.Proofs.YtcnkbdbkglggcaaGreatDoor
open Go.RowKit

/-- The number that the first n digits write. -/
def dvl (f : Nat → Int) : Nat → Nat
  | 0 => 0
  | n + 1 => dvl f n * 10 + (f n - 48).toNat
theorem dvl_succ (f : Nat → Int) (n : Nat) : dvl f (n + 1) = dvl f n * 10 + (f n - 48).toNat := rfl
theorem dvl_congr {f g : Nat → Int} {n : Nat} (h : ∀ j, j < n → f j = g j) : dvl f n = dvl g n := by
  induction n with
  | zero => rfl
  | succ n ih => rw [dvl_succ, dvl_succ, ih (fun j hj => h j (by omega)), h n (by omega)]
theorem dvl_low (f : Nat → Int) (m d : Nat) : dvl f m * 10 ^ d ≤ dvl f (m + d) := by
  induction d with
  | zero => simp
  | succ d ih =>
    rw [show m + (d + 1) = (m + d) + 1 by omega, dvl_succ, Nat.pow_succ, ← Nat.mul_assoc]
    omega
theorem dvl_high (f : Nat → Int) (m d : Nat) (hd : Dg f (m + d)) : dvl f (m + d) < (dvl f m + 1) * 10 ^ d := by
  induction d with
  | zero => simp
  | succ d ih =>
    have h1 := ih (fun j hj => hd j (by omega))
    have h2 := hd (m + d) (by omega)
    rw [show m + (d + 1) = (m + d) + 1 by omega, dvl_succ, Nat.pow_succ, ← Nat.mul_assoc]
    omega
theorem dvl_lt (f : Nat → Int) (n : Nat) (hd : Dg f n) : dvl f n < 10 ^ n := by
  have h := dvl_high f 0 n (by simpa using hd)
  simpa [dvl] using h
theorem dvl_ge (f : Nat → Int) (n : Nat) (h1 : 1 ≤ n) : (f 0 - 48).toNat * 10 ^ (n - 1) ≤ dvl f n := by
  have h := dvl_low f 1 (n - 1)
  rw [show 1 + (n - 1) = n by omega] at h
  simpa [dvl] using h
theorem cross_lt {H A B n l i : Nat} (hn : i < n) (hl : i < l) (h1 : A < (H) * 10 ^ (n - i - 1)) (h2 : H * 10 ^ (l - i - 1) ≤ B) : A * 10 ^ l < B * 10 ^ n := by
  have e1 : A * 10 ^ l < H * 10 ^ (n - i - 1) * 10 ^ l := Nat.mul_lt_mul_of_pos_right h1 (Nat.pow_pos (by decide))
  have e2 : H * 10 ^ (l - i - 1) * 10 ^ n ≤ B * 10 ^ n := Nat.mul_le_mul_right _ h2
  have e3 : H * 10 ^ (n - i - 1) * 10 ^ l = H * 10 ^ (l - i - 1) * 10 ^ n := by
    rw [Nat.mul_assoc, Nat.mul_assoc, ← Nat.pow_add, ← Nat.pow_add]
    congr 2
    omega
  omega
/-- What 'prefixIsLessThan' answers. -/
def Less (f : Nat → Int) (n : Nat) (c : Nat → Int) (l : Nat) : Prop := ∃ i, i < l ∧ i ≤ n ∧ (∀ j, j < i → f j = c j) ∧ (i = n ∨ (i < n ∧ f i < c i))
def NotLess (f : Nat → Int) (n : Nat) (c : Nat → Int) (l : Nat) : Prop := (l ≤ n ∧ ∀ j, j < l → f j = c j) ∨ ∃ i, i < l ∧ i < n ∧ (∀ j, j < i → f j = c j) ∧ c i < f i
theorem less_lt {f c : Nat → Int} {n l : Nat} (hf : Dg f n) (hc : Dg c l) (hz : dvl c l % 10 ≠ 0) (h : Less f n c l) : dvl f n * 10 ^ l < dvl c l * 10 ^ n := by
  obtain ⟨i, hil, hin, he, h⟩ := h
  rcases h with rfl | ⟨h1, h2⟩
  · rw [dvl_congr he]
    have h3 := dvl_low c i (l - i)
    rw [show i + (l - i) = l by omega] at h3
    have h4 : dvl c i * 10 ^ (l - i) ≠ dvl c l := by
      intro h5
      apply hz
      rw [← h5, show l - i = (l - i - 1) + 1 by omega, Nat.pow_succ, ← Nat.mul_assoc]
      exact Nat.mul_mod_left _ _
    have h5 : dvl c i * 10 ^ (l - i) < dvl c l := by omega
    have h6 : dvl c i * 10 ^ (l - i) * 10 ^ i < dvl c l * 10 ^ i := Nat.mul_lt_mul_of_pos_right h5 (Nat.pow_pos (by decide))
    rw [Nat.mul_assoc, ← Nat.pow_add, show l - i + i = l by omega] at h6
    exact h6
  · have a := dvl_high f (i + 1) (n - i - 1) (by rw [show i + 1 + (n - i - 1) = n by omega]; exact hf)
    have b := dvl_low c (i + 1) (l - i - 1)
    rw [show i + 1 + (n - i - 1) = n by omega, dvl_succ, dvl_congr he] at a
    rw [show i + 1 + (l - i - 1) = l by omega, dvl_succ] at b
    have k1 := hf i h1
    have k2 := hc i hil
    have hle : dvl c i * 10 + (f i - 48).toNat + 1 ≤ dvl c i * 10 + (c i - 48).toNat := by omega
    exact cross_lt h1 hil (Nat.lt_of_lt_of_le a (Nat.mul_le_mul_right _ hle)) b
theorem notless_ge {f c : Nat → Int} {n l : Nat} (hf : Dg f n) (hc : Dg c l) (h : NotLess f n c l) : dvl c l * 10 ^ n ≤ dvl f n * 10 ^ l := by
  rcases h with ⟨hln, he⟩ | ⟨i, hil, hin, he, h⟩
  · rw [← dvl_congr he]
    have h3 := dvl_low f l (n - l)
    rw [show l + (n - l) = n by omega] at h3
    have h6 : dvl f l * 10 ^ (n - l) * 10 ^ l ≤ dvl f n * 10 ^ l := Nat.mul_le_mul_right _ h3
    rw [Nat.mul_assoc, ← Nat.pow_add, show n - l + l = n by omega] at h6
    exact h6
  · have a := dvl_high c (i + 1) (l - i - 1) (by rw [show i + 1 + (l - i - 1) = l by omega]; exact hc)
    have b := dvl_low f (i + 1) (n - i - 1)
    rw [show i + 1 + (l - i - 1) = l by omega, dvl_succ] at a
    rw [show i + 1 + (n - i - 1) = n by omega, dvl_succ, dvl_congr he] at b
    have k1 := hf i hin
    have k2 := hc i hil
    have hle : dvl c i * 10 + (c i - 48).toNat + 1 ≤ dvl c i * 10 + (f i - 48).toNat := by omega
    exact Nat.le_of_lt (cross_lt hil hin (Nat.lt_of_lt_of_le a (Nat.mul_le_mul_right _ hle)) b)

/-- A row of the table: the power of five k, written with l digits. -/
structure CheatOK (k : Nat) (dl : Nat) (c : Nat → Int) (l : Nat) : Prop where
  dg : Dg c l
  val : dvl c l = 5 ^ k
  len : dl + l = k + 1
  low : 10 ^ (l - 1) ≤ 5 ^ k
  l1 : 1 ≤ l
  last : dvl c l % 10 ≠ 0
theorem five_two (k : Nat) : 5 ^ k * 2 ^ k = 10 ^ k := by rw [← Nat.mul_pow]
/-- How many digits there are after the shift: δ more. -/
theorem shift_digits {f c : Nat → Int} {n k dl l δ : Nat} (h : CheatOK k dl c l) (hf : Dg f n) (h1 : 1 ≤ n) (h0 : f 0 ≠ 48)
    (hδ : (Less f n c l ∧ δ + 1 = dl) ∨ (NotLess f n c l ∧ δ = dl)) : dvl f n * 2 ^ k < 10 ^ (n + δ) ∧ 10 ^ (n + δ) ≤ dvl f n * 2 ^ k * 10 := by
  have hd0 := hf 0 (by omega)
  have hge : 10 ^ (n - 1) ≤ dvl f n := by
    have := dvl_ge f n h1
    have h2 : 1 * 10 ^ (n - 1) ≤ (f 0 - 48).toNat * 10 ^ (n - 1) := Nat.mul_le_mul_right _ (by omega)
    omega
  have hlt := dvl_lt f n hf
  have h5l : 5 ^ k < 10 ^ l := by rw [← h.val]; exact dvl_lt c l h.dg
  have hl := h.len
  have hl1 := h.l1
  have hlow := h.low
  have e52 := five_two k
  have pl : 0 < 10 ^ l := Nat.pow_pos (by decide)
  have p2 : 0 < 2 ^ k := Nat.pow_pos (by decide)
  rcases hδ with ⟨hL, he⟩ | ⟨hN, he⟩
  · have hlt2 := less_lt hf h.dg h.last hL
    rw [h.val] at hlt2
    constructor
    · have e1 : dvl f n * 10 ^ l * 2 ^ k < 5 ^ k * 10 ^ n * 2 ^ k := Nat.mul_lt_mul_of_pos_right hlt2 p2
      have e2 : 5 ^ k * 10 ^ n * 2 ^ k = 10 ^ (n + δ) * 10 ^ l := by
        rw [Nat.mul_right_comm, e52, ← Nat.pow_add, ← Nat.pow_add]
        congr 1
        omega
      have e3 : dvl f n * 10 ^ l * 2 ^ k = dvl f n * 2 ^ k * 10 ^ l := Nat.mul_right_comm _ _ _
      rw [e2, e3] at e1
      exact Nat.lt_of_mul_lt_mul_right e1
    · have e1 : 10 ^ (n - 1) * 2 ^ k * 10 ^ l ≤ dvl f n * 2 ^ k * 10 ^ l := Nat.mul_le_mul_right _ (Nat.mul_le_mul_right _ hge)
      have e2 : 5 ^ k * 2 ^ k ≤ 10 ^ l * 2 ^ k := Nat.mul_le_mul_right _ (Nat.le_of_lt h5l)
      rw [e52] at e2
      have e4 : 10 ^ (n - 1) * 10 ^ k ≤ 10 ^ (n - 1) * (10 ^ l * 2 ^ k) := Nat.mul_le_mul_left _ e2
      have e5 : 10 ^ (n - 1) * (10 ^ l * 2 ^ k) = 10 ^ (n - 1) * 2 ^ k * 10 ^ l := by rw [Nat.mul_comm (10 ^ l), Nat.mul_assoc]
      have e6 : 10 ^ (n - 1) * 10 ^ k * 10 = 10 ^ (n + δ) * 10 ^ l := by
        rw [← Nat.pow_add, ← Nat.pow_succ, ← Nat.pow_add]
        congr 1
        omega
      have e7 : 10 ^ (n + δ) * 10 ^ l ≤ dvl f n * 2 ^ k * 10 * 10 ^ l := by
        rw [← e6, Nat.mul_right_comm (dvl f n * 2 ^ k)]
        exact Nat.mul_le_mul_right _ (by omega)
      exact Nat.le_of_mul_le_mul_right e7 pl
  · have hge2 := notless_ge hf h.dg hN
    rw [h.val] at hge2
    constructor
    · have e2 : 10 ^ (l - 1) * 2 ^ k ≤ 5 ^ k * 2 ^ k := Nat.mul_le_mul_right _ hlow
      rw [e52, show 10 ^ k = 10 ^ δ * 10 ^ (l - 1) by rw [← Nat.pow_add]; congr 1; omega, Nat.mul_comm] at e2
      have e3 : 2 ^ k ≤ 10 ^ δ := Nat.le_of_mul_le_mul_right e2 (Nat.pow_pos (by decide))
      have e4 : dvl f n * 2 ^ k < 10 ^ n * 2 ^ k := Nat.mul_lt_mul_of_pos_right hlt p2
      have e5 : 10 ^ n * 2 ^ k ≤ 10 ^ n * 10 ^ δ := Nat.mul_le_mul_left _ e3
      rw [← Nat.pow_add] at e5
      omega
    · have e1 : 5 ^ k * 10 ^ n * 2 ^ k ≤ dvl f n * 10 ^ l * 2 ^ k := Nat.mul_le_mul_right _ hge2
      have e2 : 5 ^ k * 10 ^ n * 2 ^ k * 10 = 10 ^ (n + δ) * 10 ^ l := by
        rw [Nat.mul_right_comm (5 ^ k), e52, ← Nat.pow_add, ← Nat.pow_succ, ← Nat.pow_add]
        congr 1
        omega
      have e3 : dvl f n * 10 ^ l * 2 ^ k = dvl f n * 2 ^ k * 10 ^ l := Nat.mul_right_comm _ _ _
      rw [e3] at e1
      have e7 : 10 ^ (n + δ) * 10 ^ l ≤ dvl f n * 2 ^ k * 10 * 10 ^ l := by
        rw [← e2, Nat.mul_right_comm (dvl f n * 2 ^ k)]
        exact Nat.mul_le_mul_right _ e1
      exact Nat.le_of_mul_le_mul_right e7 pl
/-- The first digit grows where no digit is won. -/
theorem lead_grows {f : Nat → Int} {n k : Nat} (hf : Dg f n) (h1 : 1 ≤ n) (h0 : f 0 ≠ 48) (hk : 1 ≤ k) (hu : dvl f n * 2 ^ k < 10 ^ n) :
    dvl f n * 2 ^ k / 10 ^ (n - 1) < 10 ∧ (f 0 - 48).toNat < dvl f n * 2 ^ k / 10 ^ (n - 1) := by
  have hd0 := hf 0 (by omega)
  have hge := dvl_ge f n h1
  have p1 : 0 < 10 ^ (n - 1) := Nat.pow_pos (by decide)
  constructor
  · rw [Nat.div_lt_iff_lt_mul p1]
    have e : 10 ^ n = 10 * 10 ^ (n - 1) := by
      rw [Nat.mul_comm, ← Nat.pow_succ, show (n - 1).succ = n by omega]
    rw [← e]
    exact hu
  · have p2 : 2 ^ 1 ≤ 2 ^ k := Nat.pow_le_pow_right (by decide) hk
    have e1 : (f 0 - 48).toNat * 10 ^ (n - 1) * 2 ≤ dvl f n * 2 ^ k := Nat.mul_le_mul hge (by omega)
    have e2 : (f 0 - 48).toNat * 2 ≤ dvl f n * 2 ^ k / 10 ^ (n - 1) := by
      rw [Nat.le_div_iff_mul_le p1, Nat.mul_right_comm]
      exact e1
    omega
end Go.Proofs.YtcnkbdbkglggcaaGreatDoor

namespace Go.Proofs.YtcnkbdbkglggcaaGreatDoor
open Go.RowKit

def PLess (w : World) (f : Nat → Int) (n : Nat) (c : ByteArray) (e : Ending) (w' : World) : Prop :=
  ∃ b : Bool, e = .returned (.bool b) ∧ (∃ q, w' = w.drewN q) ∧ (b = true → Less f n (bt c) c.size) ∧ (b = false → NotLess f n (bt c) c.size)
set_option maxHeartbeats 1000000 in
theorem prefix_any (w : World) (g : Nat) (f : Nat → Int) (n : Nat) (c : ByteArray) (cap : Nat) (hn : n ≤ 800) (hc : c.size < 1000) (hr : ∀ j, j < n → w.cell? ⟨g, j, none⟩ = some (.int .u8 (f j))) :
    Calls Tryz.prog 159 #[.slice (some ⟨g, 0, none⟩) n cap, .string c] w fun e w' => PLess w f n c e w' := by
  have HR := Lib.hid hr
  clear hr
  go_enter Tryz.func159, Tryz.ntmps159
  go_wp2_with fail
  go_loopg [5] c.size (fun gg x5 wr => ∃ i : Nat, x5 = .int .i64 i ∧ i ≤ n ∧ i ≤ c.size ∧ (∃ q, wr = w.drewN q) ∧ Hid (gg = c.size - i ∧ ∀ j, j < i → f j = bt c j))
  case atStart => exact ⟨0, rfl, by omega, by omega, ⟨0, rfl⟩, rfl, fun j hj => by omega⟩
  case round =>
    obtain ⟨i, rfl, hin, hic, ⟨q, rfl⟩, hh⟩ := hrel
    by_cases h1 : i < c.size
    · have d1 : decide ((i : Int) < (c.size : Int)) = true := decide_eq_true (by omega)
      have d1' : decide (i < c.size) = true := decide_eq_true h1
      by_cases h2 : i < n
      · have d2 : decide ((n : Int) ≤ (i : Int)) = false := decide_eq_false (by omega)
        have d2' : decide (n ≤ i) = false := decide_eq_false (by omega)
        have cr := HR.out i h2
        have hb : (c[i].toNat : Int) = bt c i := bt_lt h1
        by_cases h3 : f i = bt c i
        · have d3 : (f i != bt c i) = false := by simp [h3]
          go_wp2_with fail
          go_quiet (fail)
          go_wp2_with fail
          go_roundg (c.size - (i + 1))
          case measure => have := hh.out.1; omega
          case rel =>
            refine ⟨i + 1, by go_num, by omega, by omega, ⟨_, rfl⟩, rfl, fun j hj => ?_⟩
            rcases Nat.lt_or_ge j i with h | h
            · exact hh.out.2 j h
            · rw [show j = i by omega]
              exact h3
        · have d3 : (f i != bt c i) = true := bne_iff_ne.2 h3
          go_wp2_with fail
          go_quiet (fail)
          go_wp2_with fail
          go_quiet (fail)
          go_wp2_with fail
          go_ret
          refine ⟨_, rfl, ⟨_, by rw [drewN_two, drewN_two]⟩, fun h => ?_, fun h => ?_⟩
          · exact ⟨i, h1, hin, hh.out.2, .inr ⟨h2, by simpa [hb] using h⟩⟩
          · refine .inr ⟨i, h1, h2, hh.out.2, ?_⟩
            have h4 : ¬ f i < bt c i := by simpa [hb] using h
            omega
      · have hE : i = n := by omega
        have d2 : decide ((n : Int) ≤ (i : Int)) = true := decide_eq_true (by omega)
        have d2' : decide (n ≤ i) = true := decide_eq_true (by omega)
        go_wp2_with fail
        go_ret
        exact ⟨true, rfl, ⟨_, rfl⟩, fun _ => ⟨i, h1, hin, hh.out.2, .inl hE⟩, fun h => by cases h⟩
    · have d1 : decide ((i : Int) < (c.size : Int)) = false := decide_eq_false (by omega)
      have d1' : decide (i < c.size) = false := decide_eq_false h1
      go_wp2_with fail
      go_ret
      exact ⟨false, rfl, ⟨_, rfl⟩, (fun h => by cases h), fun _ => .inl ⟨by omega, fun j hj => hh.out.2 j (by omega)⟩⟩
theorem less_or (f c : Nat → Int) (n l : Nat) : Less f n c l ∨ NotLess f n c l := by
  have h : ∀ i, i ≤ l → i ≤ n → (∀ j, j < i → f j = c j) ∨ Less f n c l ∨ NotLess f n c l := by
    intro i
    induction i with
    | zero => exact fun _ _ => .inl fun j hj => by omega
    | succ i ih =>
      intro hl hn
      rcases ih (by omega) (by omega) with h | h
      · rcases Int.lt_trichotomy (f i) (c i) with h1 | h1 | h1
        · exact .inr (.inl ⟨i, by omega, by omega, h, .inr ⟨by omega, h1⟩⟩)
        · refine .inl fun j hj => ?_
          rcases Nat.lt_or_ge j i with h2 | h2
          · exact h j h2
          · rw [show j = i by omega]
            exact h1
        · exact .inr (.inr (.inr ⟨i, by omega, by omega, h, h1⟩))
      · exact .inr h
  rcases Nat.lt_or_ge n l with hnl | hnl
  · rcases h n (by omega) (by omega) with h1 | h1
    · exact .inl ⟨n, hnl, Nat.le_refl _, h1, .inl rfl⟩
    · exact h1
  · rcases h l (by omega) hnl with h1 | h1
    · exact .inr (.inl ⟨hnl, h1⟩)
    · exact h1
theorem less_not {f c : Nat → Int} {n l : Nat} (h : Less f n c l) : ¬ NotLess f n c l := by
  obtain ⟨i, hil, hin, he, hx⟩ := h
  rintro (⟨hln, hy⟩ | ⟨i2, hi2l, hi2n, he2, hy⟩)
  · rcases hx with hx | ⟨_, hx⟩
    · omega
    · have := hy i hil
      omega
  · rcases Nat.lt_trichotomy i i2 with h1 | h1 | h1
    · rcases hx with hx | ⟨_, hx⟩
      · omega
      · have := he2 i h1
        omega
    · subst h1
      rcases hx with hx | ⟨_, hx⟩
      · omega
      · omega
    · have := he i2 h1
      omega
/-- Its answer. -/
noncomputable def plessB (f : Nat → Int) (n : Nat) (c : ByteArray) : Bool := @decide (Less f n (bt c) c.size) (Classical.propDecidable _)
theorem plessB_yes {f : Nat → Int} {n : Nat} {c : ByteArray} (h : plessB f n c = true) : Less f n (bt c) c.size := @of_decide_eq_true _ (Classical.propDecidable _) h
theorem plessB_no {f : Nat → Int} {n : Nat} {c : ByteArray} (h : plessB f n c = false) : NotLess f n (bt c) c.size := (less_or _ _ _ _).resolve_left (@of_decide_eq_false _ (Classical.propDecidable _) h)
theorem prefix_said (w : World) (g : Nat) (f : Nat → Int) (n : Nat) (c : ByteArray) (cap : Nat) (hn : n ≤ 800) (hc : c.size < 1000) (hr : ∀ j, j < n → w.cell? ⟨g, j, none⟩ = some (.int .u8 (f j))) :
    Calls Tryz.prog 159 #[.slice (some ⟨g, 0, none⟩) n cap, .string c] w fun e w' => e = .returned (.bool (plessB f n c)) ∧ ∃ m, w' = w.drewN m := by
  refine (prefix_any w g f n c cap hn hc hr).mono ?_
  rintro e w' ⟨b, rfl, hw, h1, h2⟩
  refine ⟨?_, hw⟩
  have : b = plessB f n c := by
    cases hb : plessB f n c
    · cases b
      · rfl
      · exact absurd (plessB_no hb) (less_not (h1 rfl))
    · cases b
      · exact absurd (h2 rfl) (less_not (plessB_yes hb))
      · rfl
  rw [this]
end Go.Proofs.YtcnkbdbkglggcaaGreatDoor
