/-
  The public package's error values for a text that is no number or out of range: the calls return. Condition: the two variables of errors hold errors; the text has at most 2^31 bytes.
-/
import Derived.Test.YtcnkbdbkglggcaaGreatDoorZMD
import Derived.Lib.BufferWrite
import Derived.Lib.UnsafeStr
import Derived.Lib.IfaceEq
import Derived.Laws.MakeOwn
import Derived.Deep.RegionWith
import Derived.Deep.CutBlock
namespace Go.Proofs.YtcnkbdbkglggcaaGreatDoor
open Go.RowKit

/-- A call that returns a text and lets nothing change. -/
def TextAny (w : World) (e : Ending) (w' : World) : Prop := (∃ s, e = .returned (.string s)) ∧ Upd [] w w'
theorem cells_row {w : World} {h : Nat} {Y : Array Value} {l : List UInt8} (hg : w.heap[h]? = some (.cells Y 5 (0, 0))) (hY : Y.toList = Lib.byteCells l) (j : Nat) (x : UInt8) (hx : l[j]? = some x) : w.cell? ((⟨h, 0, none⟩ : Addr).add j) = some (.int .u8 x.toNat) :=
  Lib.cells_of_row hg Y.size j _ (by rw [List.take_of_length_le (by rw [Array.length_toList]; exact Nat.le_refl _), hY]; simp [Lib.byteCells, hx])
set_option maxHeartbeats 4000000 in
set_option maxRecDepth 100000 in
theorem clone_any (w : World) (s : ByteArray) (h1 : 0 < s.size) (hs : s.size ≤ 2 ^ 31) : Calls Tryz.prog 89 #[.string s] w fun e w' => TextAny w e w' := by
  obtain ⟨i0, hi, hz0, hz1, hz2⟩ := info_parts info5
  have hinfo : (Tryz.prog.info? 5).map (·.size) = some 1 := by rw [hi]; simp [hz1]
  have hco : Tryz.prog.cellsOf 5 = 1 := by kernel_rfl
  have e1 : decide (s = ByteArray.empty) = false := decide_eq_false (by rintro rfl; exact absurd h1 (by decide))
  have e2 : ((s.size : Int) == 0) = false := beq_eq_false_iff_ne.2 (by omega)
  obtain ⟨M, hM⟩ : ∃ M, M = madeCells (Value.int .u8 0).cells (((s.size : Nat) : Int).toNat * i0.size) := ⟨_, rfl⟩
  have hMs : M.size = s.size := by rw [hM, size_madeCells, hz1]; simp
  have m1 : ∀ W : World, (Instr.makeSlice 72 (.int .i64 (s.size : Int)) (.int .i64 (s.size : Int))).run Tryz.prog W = .ok (.slice (some ⟨W.heap.size, 0, none⟩) s.size s.size) (W.alloc (.cells M 5)) := fun W => by
    have h := run_make (P := Tryz.prog) W 72 5 i0 (.int .u8 0) Tryz.underlying72 hi hz0 .i64 .i64 (s.size : Int) (s.size : Int) (by omega) (by omega) (by rw [hz2]; omega) (by omega)
    rw [← hM] at h
    simpa using h
  clear hM
  have cp := Lib.run_copy_row_string (P := Tryz.prog) (w.alloc (.cells M 5)) 72 9 3 5 w.heap.size 0 s.size s.size s M 5 Tryz.underlying72 hinfo (heap_alloc_new w _) (Nat.le_refl _) (by omega)
  obtain ⟨Y, hY⟩ : ∃ Y, Y = (M.toList.take 0 ++ Lib.byteCells s.data.toList ++ M.toList.drop (0 + s.size)).toArray := ⟨_, rfl⟩
  rw [← hY] at cp
  have hYl : Y.toList = Lib.byteCells s.data.toList := by
    rw [hY, List.toList_toArray, List.take_zero, List.nil_append, List.drop_of_length_le (by rw [Array.length_toList]; omega), List.append_nil]
  have hYs : Y.size = s.size := by rw [← Array.length_toList, hYl, Lib.byteCells_length, ← Lib.size_eq]
  have hrow : ((w.alloc (.cells M 5)).setRow w.heap.size Y).heap[w.heap.size]? = some (.cells Y 5 (0, 0)) := setRow_heap _ _ M _ 5 (0, 0) (heap_alloc_new w _)
  have h0 : ¬ s.size = 0 := by omega
  have hne : s.data.toList ≠ [] := fun e => h0 (by rw [Lib.size_eq, e]; rfl)
  clear h0
  have us := Lib.run_unsafeString_row (P := Tryz.prog) ((w.alloc (.cells M 5)).setRow w.heap.size Y) 109 3 9 5 Tryz.underlying109 hco w.heap.size Y.size (by unfold World.shape?; rw [hrow]) s.data.toList hne (by rw [← Lib.size_eq]; omega) (by rw [← Lib.size_eq]; omega) (cells_row hrow hYl)
  rw [← Lib.size_eq] at us
  clear hY
  go_enter Tryz.func89, Tryz.ntmps89
  go_wp2_with fail
  go_ret
  have b1 : Below w.heap.size w (w.alloc (.cells M 5)) := (Below.refl _ w).alloc (Nat.le_refl _) _
  have b2 : Below w.heap.size (w.alloc (.cells M 5)) ((w.alloc (.cells M 5)).setRow w.heap.size Y) := ⟨rfl, rfl, rfl, by simp, fun k hk => setRow_other _ _ _ _ (by omega)⟩
  exact ⟨⟨_, rfl⟩, Upd.of_below (Lib.below_freeze (b1.trans b2) (p := ⟨w.heap.size, 0, none⟩) (Nat.le_refl _) _) []⟩
/-- What the two variables of errors hold. -/
structure ErrG (w : World) : Prop where
  e0 : ∃ te pe, w.cell? ⟨0, 0, none⟩ = some (.iface te pe)
  e1 : ∃ te pe, w.cell? ⟨1, 0, none⟩ = some (.iface te pe)
  lt : 1 < w.heap.size
theorem ErrG.upd {w w' : World} (h : ErrG w) (hu : Upd [] w w') : ErrG w' := by
  have hl := h.lt
  obtain ⟨a, b, h0⟩ := h.e0
  obtain ⟨c, d, h1⟩ := h.e1
  exact ⟨⟨a, b, by rw [hu.cell (p := ⟨0, 0, none⟩) (show 0 < w.heap.size by omega) (by simp)]; exact h0⟩, ⟨c, d, by rw [hu.cell (p := ⟨1, 0, none⟩) hl (by simp)]; exact h1⟩, Nat.lt_of_lt_of_le hl hu.size⟩
def PtrAny (w : World) (e : Ending) (w' : World) : Prop := (∃ p, e = .returned (.pointer p)) ∧ Upd [] w w'
set_option maxHeartbeats 4000000 in
set_option maxRecDepth 100000 in
theorem syntax_any (w : World) (fn s : ByteArray) (hg : ErrG w) (h1 : 0 < s.size) (hs : s.size ≤ 2 ^ 31) : Calls Tryz.prog 70 #[.string fn, .string s] w fun e w' => PtrAny w e w' := by
  obtain ⟨te, pe, hv⟩ := hg.e0
  have hl := hg.lt
  have hvd : w.drew.cell? ⟨0, 0, none⟩ = some (.iface te pe) := hv
  go_enter Tryz.func70, Tryz.ntmps70
  go_wp2_with fail
  go_region_with (go_at_call 89; refine (clone_any _ s h1 hs).mono ?_; rintro e w2 ⟨⟨s2, rfl⟩, hu⟩; have hv2 : w2.cell? ⟨0, 0, none⟩ = some (.iface te pe) := (hu.cell (p := ⟨0, 0, none⟩) (show 0 < w.drew.heap.size from by have : w.drew.heap.size = w.heap.size := rfl; omega) (by simp)).trans hvd)
  all_goals
    go_wp2_with fail
    go_ret
    exact ⟨⟨_, rfl⟩, ((Upd.refl [] w).drew.trans hu).alloc _⟩
set_option maxHeartbeats 4000000 in
set_option maxRecDepth 100000 in
theorem range_any (w : World) (fn s : ByteArray) (hg : ErrG w) (h1 : 0 < s.size) (hs : s.size ≤ 2 ^ 31) : Calls Tryz.prog 71 #[.string fn, .string s] w fun e w' => PtrAny w e w' := by
  obtain ⟨te, pe, hv⟩ := hg.e1
  have hl := hg.lt
  have hvd : w.drew.cell? ⟨1, 0, none⟩ = some (.iface te pe) := hv
  go_enter Tryz.func71, Tryz.ntmps71
  go_wp2_with fail
  go_region_with (go_at_call 89; refine (clone_any _ s h1 hs).mono ?_; rintro e w2 ⟨⟨s2, rfl⟩, hu⟩; have hv2 : w2.cell? ⟨1, 0, none⟩ = some (.iface te pe) := (hu.cell (p := ⟨1, 0, none⟩) (show 1 < w.drew.heap.size from hl) (by simp)).trans hvd)
  all_goals
    go_wp2_with fail
    go_ret
    exact ⟨⟨_, rfl⟩, ((Upd.refl [] w).drew.trans hu).alloc _⟩
/-- A call that returns an error. -/
def IfAny (w : World) (e : Ending) (w' : World) : Prop := (∃ v, e = .returned v) ∧ Upd [] w w'
set_option maxHeartbeats 4000000 in
theorem toerr_any (w : World) (fn s : ByteArray) (n : Int) (hn : n = 1 ∨ n = 2) (hg : ErrG w) (h1 : 0 < s.size) (hs : s.size ≤ 2 ^ 31) :
    Calls Tryz.prog 52 #[.string fn, .string s, .int .i64 0, .int .i64 64, .iface 105 (.int .i64 n)] w fun e w' => IfAny w e w' := by
  have c105 : (Tryz.prog.info? 105).map (·.comparable) = some true := by kernel_rfl
  have q : ∀ (b : Int) W, (binOp .eql 69 (.iface 105 (.int .i64 n)) (.iface 105 (.int .i64 b))).run Tryz.prog W = .ok (.bool (n == b)) W := fun b W => Lib.run_eql_iface_int W n b Tryz.underlying69 c105 Tryz.underlying105
  rcases hn with rfl | rfl
  · have q2 := q 2
    have q1 := q 1
    clear q
    go_enter Tryz.func52, Tryz.ntmps52
    go_wp2_with (go_at_call 71; refine (range_any _ fn s hg h1 hs).mono ?_; rintro e w2 ⟨⟨p, rfl⟩, hu⟩)
    go_ret
    exact ⟨⟨_, rfl⟩, hu⟩
  · have q2 := q 2
    clear q
    go_enter Tryz.func52, Tryz.ntmps52
    go_wp2_with (go_at_call 70; refine (syntax_any _ fn s hg h1 hs).mono ?_; rintro e w2 ⟨⟨p, rfl⟩, hu⟩)
    go_ret
    exact ⟨⟨_, rfl⟩, hu⟩
end Go.Proofs.YtcnkbdbkglggcaaGreatDoor
