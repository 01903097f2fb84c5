/-
  The plain facts that the reader's 'list' needs: what an append of one tree leaves in memory. No condition.
-/
import Derived.Test.YtcnkbdbkglggcaaGreatDoorSpJ
import Derived.Deep.AppendLies
namespace Go.Proofs.YtcnkbdbkglggcaaGreatDoor
open Go.RowKit

theorem info25 : (Tryz.prog.info? 25).map (fun i => (i.zero, i.size, i.bytes)) = some (some (.agg #[.int .i64 0, .string ⟨#[]⟩, .int .i64 0, .string ⟨#[]⟩, .bool false, .slice none 0 0, .slice none 0 0]), 7, 104) := by kernel_rfl
theorem info9 : (Tryz.prog.info? 9).map (fun i => (i.zero, i.size, i.bytes)) = some (some (.string ⟨#[]⟩), 1, 16) := by kernel_rfl
/-- The cells of a zero tree. -/
def zeroT : List Value := [.int .i64 0, .string ⟨#[]⟩, .int .i64 0, .string ⟨#[]⟩, .bool false, .slice none 0 0, .slice none 0 0]
/-- Behind an append of one zero tree: its cells. -/
theorem zero_cells {w : World} {base g n cap : Nat} {xs zs : List Value} (h : w.ownsRow base 25 7 (.slice (some ⟨g, 0, none⟩) (n + 1) cap) (n + 1) (xs ++ zs)) (hl : xs.length = n * 7) (j : Nat) (hj : j < 7) :
    w.cell? ⟨g, n * 7 + j, none⟩ = zs[j]? := by
  rw [h.cellAt (n * 7 + j) (by omega), List.getElem?_append_right (by omega), hl, Nat.add_sub_cancel_left]
/-- Two rows of different elements lie in different blocks. -/
theorem own_own_ne {w : World} {base base' : Nat} {e e' : TypeId} {size size' n n' : Nat} {v v' : Value} {xs xs' : List Value} (h : w.ownsRow base e size v n xs) (h' : w.ownsRow base' e' size' v' n' xs') (hne : e ≠ e') (k : Nat)
    (hk : v.ownBlock = some k) : v'.ownBlock ≠ some k := by
  rcases h.2 with ⟨rfl, _⟩ | ⟨g, cap, cur, rfl, _, hh, _⟩
  · cases hk
  · have : g = k := by simpa [Value.ownBlock] using hk
    subst this
    exact own_blk_ne h' hh hne.symm
/-- The seven cells of the last tree of a row, stored one behind the other. -/
theorem store7 {w : World} {base g n cap : Nat} {xs zs : List Value} (h : w.ownsRow base 25 7 (.slice (some ⟨g, 0, none⟩) (n + 1) cap) (n + 1) (xs ++ zs)) (hl : xs.length = n * 7) (hz : zs.length = 7) (u0 u1 u2 u3 u4 u5 u6 : Value) :
    (((((((w.setCell ⟨g, n * 7, none⟩ u0).setCell ⟨g, n * 7 + 1, none⟩ u1).setCell ⟨g, n * 7 + 2, none⟩ u2).setCell ⟨g, n * 7 + 3, none⟩ u3).setCell ⟨g, n * 7 + 4, none⟩ u4).setCell ⟨g, n * 7 + 5, none⟩ u5).setCell ⟨g, n * 7 + 6, none⟩ u6).ownsRow
      base 25 7 (.slice (some ⟨g, 0, none⟩) (n + 1) cap) (n + 1) (xs ++ [u0, u1, u2, u3, u4, u5, u6]) := by
  have h0 := (h.stored (n * 7) u0).1
  have h1 := (h0.stored (n * 7 + 1) u1).1
  have h2 := (h1.stored (n * 7 + 2) u2).1
  have h3 := (h2.stored (n * 7 + 3) u3).1
  have h4 := (h3.stored (n * 7 + 4) u4).1
  have h5 := (h4.stored (n * 7 + 5) u5).1
  have h' := (h5.stored (n * 7 + 6) u6).1
  clear h0 h1 h2 h3 h4 h5
  match zs, hz with
  | [z0, z1, z2, z3, z4, z5, z6], _ =>
    rw [← hl] at h'
    simp only [List.set_append_right _ _ (Nat.le_refl _), List.set_append_right _ _ (Nat.le_add_right _ _), Nat.sub_self, Nat.add_sub_cancel_left, List.set_cons_zero, List.set_cons_succ] at h'
    rw [hl] at h'
    exact h'

/-- The state at the head of each round of 'list'. -/
def LI (w : World) (b tb : Nat) (s : ByteArray) (i : Nat) (bad : Bool) (V : VP) (keys : Bool) (c0 c1 c2 c3 : Value) (t : TreeV) (k : Nat) (bad' : Bool) (wr : World) : Prop :=
  Rd wr b s k bad' ∧ Upd [b, tb] w wr ∧ Blk wr tb 25 #[c0, c1, c2, c3, .bool t.pairs, t.kv, t.iv] ∧ OwnT wr w.heap.size t ∧ i + 1 ≤ k ∧ k ≤ s.size ∧ t.ks.length + i + 1 ≤ k ∧ t.its.length + i + 1 ≤ k ∧
    (bad' = false → bad = false ∧ (t.pairs = true → ∃ k0, Ws s (i + 1) k0 ∧ Elms s V keys k0 k t.ks t.its))
/-- The state behind the append of a tree: xb is the block in which the tree lies. -/
def LJ (w : World) (b tb xb : Nat) (s : ByteArray) (c0 c1 c2 c3 : Value) (t : TreeV) (x : It) (j : Nat) (bad2 : Bool) (wx : World) : Prop :=
  ∃ (A : Option Addr) (c : Nat), Rd wx b s j bad2 ∧ Upd [b, tb] w wx ∧ Blk wx tb 25 #[c0, c1, c2, c3, .bool t.pairs, t.kv, .slice A (t.its.length + 1) c] ∧ wx.ownsRow w.heap.size 9 1 t.kv t.ks.length (kcells t.ks) ∧
    wx.ownsRow w.heap.size 25 7 (.slice A (t.its.length + 1) c) (t.its.length + 1) (icells (t.its ++ [x])) ∧ Blk wx xb 25 x.cells.toArray
theorem icells_snoc (its : List It) (x : It) : icells its ++ x.cells = icells (its ++ [x]) := by simp [icells]
theorem icells_len (its : List It) : (icells its).length = its.length * 7 := by
  induction its with
  | nil => rfl
  | cons a l ih => simp only [icells, List.flatMap_cons, List.length_append, List.length_cons] at ih ⊢; rw [ih]; simp [It.cells]; omega
section
variable {w W3 w4 : World} {b tb xb : Nat} {s : ByteArray} {c0 c1 c2 c3 : Value} {t : TreeV} {x : It} {j : Nat} {bad2 : Bool} {g cap : Nat}
/-- The state ahead of the append. -/
structure Ahead (w W3 : World) (b tb xb : Nat) (s : ByteArray) (c0 c1 c2 c3 : Value) (t : TreeV) (x : It) (j : Nat) (bad2 : Bool) : Prop where
  hb : b < w.heap.size
  ht : tb < w.heap.size
  hbt : b ≠ tb
  hx : w.heap.size ≤ xb
  rd : Rd W3 b s j bad2
  up : Upd [b, tb] w W3
  tr : Blk W3 tb 25 #[c0, c1, c2, c3, .bool t.pairs, t.kv, t.iv]
  ok : W3.ownsRow w.heap.size 9 1 t.kv t.ks.length (kcells t.ks)
  oi : W3.ownsRow w.heap.size 25 7 t.iv t.its.length (icells t.its)
  xr : Blk W3 xb 25 x.cells.toArray
  nx : t.iv.ownBlock ≠ some xb
theorem Ahead.row (h : Ahead w W3 b tb xb s c0 c1 c2 c3 t x j bad2) (hgb : t.iv.ownBlock = some g ∨ g = W3.heap.size + 1) : w.heap.size ≤ g ∧ g ≠ tb ∧ g ≠ b ∧ g ≠ xb := by
  have h1 := h.up.size
  have h2 := h.xr.lt
  have h3 := h.hb
  have h4 := h.ht
  rcases hgb with e | e
  · have := (h.oi.lt g e).1
    exact ⟨this, by omega, by omega, fun e' => h.nx (by rw [← e']; exact e)⟩
  · exact ⟨by omega, by omega, by omega, by omega⟩
theorem Ahead.four (h : Ahead w W3 b tb xb s c0 c1 c2 c3 t x j bad2) (o : Obj) (hg : ((W3.alloc o).drew).grownBy w4 t.iv.ownBlock) (hown : w4.ownsRow w.heap.size 25 7 (.slice (some ⟨g, 0, none⟩) (t.its.length + 1) cap) (t.its.length + 1) (icells t.its ++ zeroT)) :
    Rd w4 b s j bad2 ∧ Upd [b, tb] w w4 ∧ Blk w4 tb 25 #[c0, c1, c2, c3, .bool t.pairs, t.kv, t.iv] ∧ w4.ownsRow w.heap.size 9 1 t.kv t.ks.length (kcells t.ks) ∧ Blk w4 xb 25 x.cells.toArray ∧ t.kv.ownBlock ≠ some g := by
  have hlt := h.oi.lt
  have h3 := h.hb
  have h4 := h.ht
  have ok4 : w4.ownsRow w.heap.size 9 1 t.kv t.ks.length (kcells t.ks) := by
    refine World.ownsRow.kept (World.ownsRow.drew (h.ok.alloc o)) hg ?_
    cases hk : t.kv.ownBlock with
    | none => exact .inl rfl
    | some k => exact .inr fun e => own_own_ne h.ok h.oi (by decide) k hk e.symm
  refine ⟨((h.rd.alloc o).drew).grown hg (fun e => ?_), ((h.up.alloc o).drew).of_grown hg (fun k hk => .inr (hlt k hk).1), ((h.tr.alloc o).drew).grown hg (fun e => ?_), ok4, ((h.xr.alloc o).drew).grown hg (fun e => h.nx e.symm), fun e => ?_⟩
  · have := (hlt b e.symm).1
    omega
  · have := (hlt tb e.symm).1
    omega
  · exact own_own_ne ok4 hown (by decide) g e rfl
/-- In the text's order: the tree is stored first, then the slice. -/
theorem Ahead.textOrder (h : Ahead w W3 b tb xb s c0 c1 c2 c3 t x j bad2) (o : Obj) (hg : ((W3.alloc o).drew).grownBy w4 t.iv.ownBlock) (hown : w4.ownsRow w.heap.size 25 7 (.slice (some ⟨g, 0, none⟩) (t.its.length + 1) cap) (t.its.length + 1) (icells t.its ++ zeroT))
    (hgb : t.iv.ownBlock = some g ∨ g = W3.heap.size + 1) :
    LJ w b tb xb s c0 c1 c2 c3 t x j bad2 ((((((((w4.setCell ⟨g, t.its.length * 7, none⟩ (.int .i64 x.kind)).setCell ⟨g, t.its.length * 7 + 1, none⟩ (.string x.raw)).setCell ⟨g, t.its.length * 7 + 2, none⟩ (.int .i64 x.at_)).setCell ⟨g, t.its.length * 7 + 3, none⟩ (.string (strOfNums x.str))).setCell
      ⟨g, t.its.length * 7 + 4, none⟩ (.bool x.pairs)).setCell ⟨g, t.its.length * 7 + 5, none⟩ x.kv).setCell ⟨g, t.its.length * 7 + 6, none⟩ x.iv).setCell ⟨tb, 6, none⟩ (.slice (some ⟨g, 0, none⟩) (t.its.length + 1) cap)) := by
  obtain ⟨r1, r2, r3, r4⟩ := h.row hgb
  obtain ⟨f1, f2, f3, f4, f5, f6⟩ := h.four o hg hown
  have hs7 := store7 hown (icells_len _) rfl (.int .i64 x.kind) (.string x.raw) (.int .i64 x.at_) (.string (strOfNums x.str)) (.bool x.pairs) x.kv x.iv
  generalize hW : (((((((w4.setCell ⟨g, t.its.length * 7, none⟩ (.int .i64 x.kind)).setCell ⟨g, t.its.length * 7 + 1, none⟩ (.string x.raw)).setCell ⟨g, t.its.length * 7 + 2, none⟩ (.int .i64 x.at_)).setCell ⟨g, t.its.length * 7 + 3, none⟩ (.string (strOfNums x.str))).setCell
      ⟨g, t.its.length * 7 + 4, none⟩ (.bool x.pairs)).setCell ⟨g, t.its.length * 7 + 5, none⟩ x.kv).setCell ⟨g, t.its.length * 7 + 6, none⟩ x.iv) = W at *
  have hu : Upd [g] w4 W := by
    rw [← hW]
    exact (((((((Upd.refl [g] w4).setCell (p := ⟨g, _, none⟩) (.inl (.head _)) _).setCell (p := ⟨g, _, none⟩) (.inl (.head _)) _).setCell (p := ⟨g, _, none⟩) (.inl (.head _)) _).setCell (p := ⟨g, _, none⟩) (.inl (.head _)) _).setCell (p := ⟨g, _, none⟩) (.inl (.head _)) _).setCell (p := ⟨g, _, none⟩) (.inl (.head _)) _).setCell (p := ⟨g, _, none⟩) (.inl (.head _)) _
  refine ⟨some ⟨g, 0, none⟩, cap, (f1.upd hu (by simp; omega)).far h.hbt _, ((f2.then hu (by simp; omega)).setCell (p := ⟨tb, 6, none⟩) (.inl (.tail _ (.head _))) _), (f3.upd hu (by simp; omega)).set_ 6 _, ownsRow_setCell_below (hu.owns f4 (fun k hk => ?_)) h.ht _, ?_, (f5.upd hu (by simp; omega)).far (by have := h.hx; have := h.ht; dsimp only; omega) _⟩
  · simp only [List.mem_singleton]
    rintro rfl
    exact f6 hk
  · rw [← icells_snoc]
    exact ownsRow_setCell_below hs7 h.ht _
/-- In the other order. -/
theorem Ahead.otherOrder (h : Ahead w W3 b tb xb s c0 c1 c2 c3 t x j bad2) (o : Obj) (hg : ((W3.alloc o).drew).grownBy w4 t.iv.ownBlock) (hown : w4.ownsRow w.heap.size 25 7 (.slice (some ⟨g, 0, none⟩) (t.its.length + 1) cap) (t.its.length + 1) (icells t.its ++ zeroT))
    (hgb : t.iv.ownBlock = some g ∨ g = W3.heap.size + 1) :
    LJ w b tb xb s c0 c1 c2 c3 t x j bad2 ((((((((w4.setCell ⟨tb, 6, none⟩ (.slice (some ⟨g, 0, none⟩) (t.its.length + 1) cap)).setCell ⟨g, t.its.length * 7, none⟩ (.int .i64 x.kind)).setCell ⟨g, t.its.length * 7 + 1, none⟩ (.string x.raw)).setCell ⟨g, t.its.length * 7 + 2, none⟩ (.int .i64 x.at_)).setCell
      ⟨g, t.its.length * 7 + 3, none⟩ (.string (strOfNums x.str))).setCell ⟨g, t.its.length * 7 + 4, none⟩ (.bool x.pairs)).setCell ⟨g, t.its.length * 7 + 5, none⟩ x.kv).setCell ⟨g, t.its.length * 7 + 6, none⟩ x.iv) := by
  obtain ⟨r1, r2, r3, r4⟩ := h.row hgb
  obtain ⟨f1, f2, f3, f4, f5, f6⟩ := h.four o hg hown
  have hown' := ownsRow_setCell_below hown (a := ⟨tb, 6, none⟩) h.ht (.slice (some ⟨g, 0, none⟩) (t.its.length + 1) cap)
  have f1' := f1.far (p := ⟨tb, 6, none⟩) h.hbt (.slice (some ⟨g, 0, none⟩) (t.its.length + 1) cap)
  have f2' := f2.setCell (p := ⟨tb, 6, none⟩) (.inl (.tail _ (.head _))) (.slice (some ⟨g, 0, none⟩) (t.its.length + 1) cap)
  have f3' := f3.set_ 6 (.slice (some ⟨g, 0, none⟩) (t.its.length + 1) cap)
  have f4' := ownsRow_setCell_below f4 (a := ⟨tb, 6, none⟩) h.ht (.slice (some ⟨g, 0, none⟩) (t.its.length + 1) cap)
  have f5' := f5.far (p := ⟨tb, 6, none⟩) (by have := h.hx; have := h.ht; dsimp only; omega) (.slice (some ⟨g, 0, none⟩) (t.its.length + 1) cap)
  generalize w4.setCell ⟨tb, 6, none⟩ (.slice (some ⟨g, 0, none⟩) (t.its.length + 1) cap) = w5 at *
  have hs7 := store7 hown' (icells_len _) rfl (.int .i64 x.kind) (.string x.raw) (.int .i64 x.at_) (.string (strOfNums x.str)) (.bool x.pairs) x.kv x.iv
  have hu : Upd [g] w5 (((((((w5.setCell ⟨g, t.its.length * 7, none⟩ (.int .i64 x.kind)).setCell ⟨g, t.its.length * 7 + 1, none⟩ (.string x.raw)).setCell ⟨g, t.its.length * 7 + 2, none⟩ (.int .i64 x.at_)).setCell ⟨g, t.its.length * 7 + 3, none⟩ (.string (strOfNums x.str))).setCell
      ⟨g, t.its.length * 7 + 4, none⟩ (.bool x.pairs)).setCell ⟨g, t.its.length * 7 + 5, none⟩ x.kv).setCell ⟨g, t.its.length * 7 + 6, none⟩ x.iv) :=
    (((((((Upd.refl [g] w5).setCell (p := ⟨g, _, none⟩) (.inl (.head _)) _).setCell (p := ⟨g, _, none⟩) (.inl (.head _)) _).setCell (p := ⟨g, _, none⟩) (.inl (.head _)) _).setCell (p := ⟨g, _, none⟩) (.inl (.head _)) _).setCell (p := ⟨g, _, none⟩) (.inl (.head _)) _).setCell (p := ⟨g, _, none⟩) (.inl (.head _)) _).setCell (p := ⟨g, _, none⟩) (.inl (.head _)) _
  refine ⟨some ⟨g, 0, none⟩, cap, f1'.upd hu (by simp; omega), f2'.then hu (by simp; omega), f3'.upd hu (by simp; omega), hu.owns f4' (fun k hk => ?_), ?_, f5'.upd hu (by simp; omega)⟩
  · simp only [List.mem_singleton]
    rintro rfl
    exact f6 hk
  · rw [← icells_snoc]
    exact hs7
end

/-! ### the state of 'list', step by step -/
def LK (w : World) (b tb : Nat) (s : ByteArray) (c0 c1 c2 c3 : Value) (t : TreeV) (k : Nat) (bad' : Bool) (wr : World) : Prop :=
  Rd wr b s k bad' ∧ Upd [b, tb] w wr ∧ Blk wr tb 25 #[c0, c1, c2, c3, .bool t.pairs, t.kv, t.iv] ∧ OwnT wr w.heap.size t
section
variable {w wr w' : World} {b tb xb : Nat} {s : ByteArray} {c0 c1 c2 c3 : Value} {t : TreeV} {x : It} {k j : Nat} {bad' bad2 : Bool}
theorem LK.read (h : LK w b tb s c0 c1 c2 c3 t k bad' wr) (hb : b < w.heap.size) (hbt : b ≠ tb) (hr : Rd w' b s j bad2) (hu : Upd [b] wr w') : LK w b tb s c0 c1 c2 c3 t j bad2 w' :=
  ⟨hr, h.2.1.then hu (by simp), h.2.2.1.upd hu (by simp; exact hbt.symm), h.2.2.2.upd hu (fun k hk => by have := (h.2.2.2.1.lt k hk).1; simp; omega) (fun k hk => by have := (h.2.2.2.2.1.lt k hk).1; simp; omega)⟩
theorem LK.at_ (h : LK w b tb s c0 c1 c2 c3 t k bad' wr) (hb : b < w.heap.size) (hbt : b ≠ tb) (n j : Nat) : LK w b tb s c0 c1 c2 c3 t j bad' ((wr.drewN n).setCell ⟨b, 1, none⟩ (.int .i64 j)) :=
  h.read hb hbt ((h.1.drewN n).setAt j) (((Upd.refl [b] wr).drewN n).setCell (.inl (.head _)) _)
theorem LJ.pairs (h : LJ w b tb xb s c0 c1 c2 c3 t x j bad2 wr) (ht : tb < w.heap.size) (hbt : b ≠ tb) (p : Bool) (hks : t.ks.length ≤ 65536) (hits : t.its.length < 65536) :
    ∃ A c, LK w b tb s c0 c1 c2 c3 ⟨t.kind, t.o, p, t.kv, .slice A (t.its.length + 1) c, t.ks, t.its ++ [x]⟩ j bad2 (wr.setCell ⟨tb, 4, none⟩ (.bool p)) := by
  obtain ⟨A, c, h1, h2, h3, h4, h5, h6⟩ := h
  refine ⟨A, c, h1.far hbt _, h2.setCell (p := ⟨tb, 4, none⟩) (.inl (.tail _ (.head _))) _, h3.set_ 4 _, ownsRow_setCell_below h4 ht _, ?_, hks, by simp; omega⟩
  have := ownsRow_setCell_below h5 (a := ⟨tb, 4, none⟩) ht (.bool p)
  simpa using this
end
theorem LK.done {w wr : World} {b tb : Nat} {s : ByteArray} {i : Nat} {bad : Bool} {d : Nat} {keys : Bool} {c0 c1 c2 c3 : Value} {t : TreeV} {j : Nat} {bad' : Bool} (h : LK w b tb s c0 c1 c2 c3 t j bad' wr)
    (hw : Went s i bad j bad' (i + 2 ≤ j ∧ bt s (j - 1) = (if keys then 125 else 93) ∧ (t.pairs = true → Lst s (Val s d) keys i j t.ks t.its))) : List1 w b tb s i bad d keys c0 c1 c2 c3 wr :=
  ⟨t.kv, t.iv, t.pairs, t.ks, t.its, j, bad', h.1, h.2.1, h.2.2.1, h.2.2.2, hw⟩
/-- An element out of what 'tree' tells. -/
theorem elem_arr {s : ByteArray} {d k j : Nat} {kind : Int} {o : List Int} {ks : List (List Int)} {its : List It} {raw : ByteArray} {p : Bool} {kv iv : Value} (ht : Top s (Val s d) k j kind o ks its) (hr : raw = s.extract k j) :
    Elem s (Val s (d + 1)) false k j [] ⟨kind, raw, k, o, p, kv, iv⟩ := ⟨⟨ks, its, ht⟩, hr, fun _ => rfl, fun h => by cases h⟩
theorem elem_obj {s : ByteArray} {d k a c m j : Nat} {kind : Int} {key o : List Int} {ks : List (List Int)} {its : List It} {raw : ByteArray} {p : Bool} {kv iv : Value} (hq : StrQ s k a key) (hw : Ws s a c) (h58 : bt s c = 58) (hw' : Ws s (c + 1) m)
    (ht : Top s (Val s d) m j kind o ks its) (hr : raw = s.extract m j) : Elem s (Val s (d + 1)) true k j key ⟨kind, raw, m, o, p, kv, iv⟩ := ⟨⟨ks, its, ht⟩, hr, fun h => (by cases h), fun _ => ⟨a, c, hq, hw, h58, hw'⟩⟩
/-- What is known, ahead of a value at k, of what stands before it. -/
def GA (s : ByteArray) (V : VP) (i k : Nat) (bad bad3 p3 : Bool) (ks : List (List Int)) (its : List It) : Prop := bad3 = false → bad = false ∧ (p3 = true → ∃ k0, Ws s (i + 1) k0 ∧ Elms s V false k0 k ks its)
def GO (s : ByteArray) (V : VP) (i k : Nat) (bad bad3 p3 : Bool) (ks : List (List Int)) (its : List It) : Prop :=
  bad3 = false → bad = false ∧ (p3 = true → ∃ k0 kr ks0 key a c, ks = ks0 ++ [key] ∧ Ws s (i + 1) k0 ∧ Elms s V true k0 kr ks0 its ∧ StrQ s kr a key ∧ Ws s a c ∧ bt s c = 58 ∧ Ws s (c + 1) k)
section
variable {s : ByteArray} {d i k j j3 j4 : Nat} {bad bad2 bad3 p3 p : Bool} {kind : Int} {o : List Int} {ks ks2 : List (List Int)} {its its2 : List It} {raw : ByteArray} {kv iv : Value}
theorem arr_more (h : GA s (Val s (d + 1)) i k bad bad3 p3 ks its) (hw2 : Went s k bad3 j bad2 (raw = s.extract k j ∧ Shape s k j ∧ (p = true → Top s (Val s d) k j kind o ks2 its2)))
    (h3 : Ws s j j3) (h44 : bt s j3 = 44) (h4 : Ws s (j3 + 1) j4) (hf : bad2 = false) : bad = false ∧ ((p3 && p) = true → ∃ k0, Ws s (i + 1) k0 ∧ Elms s (Val s (d + 1)) false k0 j4 ks (its ++ [⟨kind, raw, k, o, p, kv, iv⟩])) := by
  obtain ⟨q0, q1, _, q3⟩ := hw2.2.2 hf
  refine ⟨(h q0).1, fun hp => ?_⟩
  rw [Bool.and_eq_true] at hp
  obtain ⟨k0, g1, g2⟩ := (h q0).2 hp.1
  exact ⟨k0, g1, .snoc g2 (elem_arr (q3 hp.2) q1) h3 h44 h4⟩
theorem arr_last (h : GA s (Val s (d + 1)) i k bad bad3 p3 ks its) (hw2 : Went s k bad3 j bad2 (raw = s.extract k j ∧ Shape s k j ∧ (p = true → Top s (Val s d) k j kind o ks2 its2)))
    (h3 : Ws s j j3) (h93 : bt s j3 = 93) (hf : bad2 = false) : bad = false ∧ ((p3 && p) = true → Lst s (Val s (d + 1)) false i (j3 + 1) ks (its ++ [⟨kind, raw, k, o, p, kv, iv⟩])) := by
  obtain ⟨q0, q1, _, q3⟩ := hw2.2.2 hf
  refine ⟨(h q0).1, fun hp => ?_⟩
  rw [Bool.and_eq_true] at hp
  obtain ⟨k0, g1, g2⟩ := (h q0).2 hp.1
  exact ⟨k0, g1, .inr ⟨k, j, j3, ks, its, [], _, g2, elem_arr (q3 hp.2) q1, h3, h93, rfl, rfl, rfl⟩⟩
theorem obj_more (h : GO s (Val s (d + 1)) i k bad bad3 p3 ks its) (hw2 : Went s k bad3 j bad2 (raw = s.extract k j ∧ Shape s k j ∧ (p = true → Top s (Val s d) k j kind o ks2 its2)))
    (h3 : Ws s j j3) (h44 : bt s j3 = 44) (h4 : Ws s (j3 + 1) j4) (hf : bad2 = false) : bad = false ∧ ((p3 && p) = true → ∃ k0, Ws s (i + 1) k0 ∧ Elms s (Val s (d + 1)) true k0 j4 ks (its ++ [⟨kind, raw, k, o, p, kv, iv⟩])) := by
  obtain ⟨q0, q1, _, q3⟩ := hw2.2.2 hf
  refine ⟨(h q0).1, fun hp => ?_⟩
  rw [Bool.and_eq_true] at hp
  obtain ⟨k0, kr, ks0, key, a, c, e, g1, g2, g3, g4, g5, g6⟩ := (h q0).2 hp.1
  subst e
  exact ⟨k0, g1, .snoc (keys := true) g2 (elem_obj g3 g4 g5 g6 (q3 hp.2) q1) h3 h44 h4⟩
theorem obj_last (h : GO s (Val s (d + 1)) i k bad bad3 p3 ks its) (hw2 : Went s k bad3 j bad2 (raw = s.extract k j ∧ Shape s k j ∧ (p = true → Top s (Val s d) k j kind o ks2 its2)))
    (h3 : Ws s j j3) (h93 : bt s j3 = 125) (hf : bad2 = false) : bad = false ∧ ((p3 && p) = true → Lst s (Val s (d + 1)) true i (j3 + 1) ks (its ++ [⟨kind, raw, k, o, p, kv, iv⟩])) := by
  obtain ⟨q0, q1, _, q3⟩ := hw2.2.2 hf
  refine ⟨(h q0).1, fun hp => ?_⟩
  rw [Bool.and_eq_true] at hp
  obtain ⟨k0, kr, ks0, key, a, c, e, g1, g2, g3, g4, g5, g6⟩ := (h q0).2 hp.1
  subst e
  exact ⟨k0, g1, .inr ⟨kr, j, j3, ks0, its, key, _, g2, elem_obj g3 g4 g5 g6 (q3 hp.2) q1, h3, h93, rfl, rfl, rfl⟩⟩
end
/-- Behind the append of a key. -/
theorem key_state {w w2 w4 : World} {b tb g cap : Nat} {s : ByteArray} {c0 c1 c2 c3 : Value} {t : TreeV} {j : Nat} {bad1 : Bool} {key : List Int} (p : Bool) (ob : Obj) (hb : b < w.heap.size) (ht : tb < w.heap.size) (hbt : b ≠ tb) (h : LK w b tb s c0 c1 c2 c3 t j bad1 w2)
    (hg : (w2.alloc ob).grownBy w4 t.kv.ownBlock) (hown : w4.ownsRow w.heap.size 9 1 (.slice (some ⟨g, 0, none⟩) (t.ks.length + 1) cap) (t.ks.length + 1) (kcells t.ks ++ [.string (strOfNums key)])) (hlen : t.ks.length < 65536) :
    LK w b tb s c0 c1 c2 c3 ⟨t.kind, t.o, p, .slice (some ⟨g, 0, none⟩) (t.ks.length + 1) cap, t.iv, t.ks ++ [key], t.its⟩ j bad1 ((w4.setCell ⟨tb, 5, none⟩ (.slice (some ⟨g, 0, none⟩) (t.ks.length + 1) cap)).setCell ⟨tb, 4, none⟩ (.bool p)) := by
  obtain ⟨h1, h2, h3, h4, h5, h6, h7⟩ := h
  have hlt := h4.lt
  have i4 : w4.ownsRow w.heap.size 25 7 t.iv t.its.length (icells t.its) := by
    refine World.ownsRow.kept (h5.alloc ob) hg ?_
    cases hk : t.iv.ownBlock with
    | none => exact .inl rfl
    | some k => exact .inr fun e => own_own_ne h5 h4 (by decide) k hk e.symm
  have r4 : Rd w4 b s j bad1 := (h1.alloc ob).grown hg (fun e => by have := (hlt b e.symm).1; omega)
  have u4 : Upd [b, tb] w w4 := (h2.alloc ob).of_grown hg (fun k hk => .inr (hlt k hk).1)
  have b4 : Blk w4 tb 25 #[c0, c1, c2, c3, .bool t.pairs, t.kv, t.iv] := (h3.alloc ob).grown hg (fun e => by have := (hlt tb e.symm).1; omega)
  refine ⟨(r4.far hbt _).far hbt _, (u4.setCell (p := ⟨tb, 5, none⟩) (.inl (.tail _ (.head _))) _).setCell (p := ⟨tb, 4, none⟩) (.inl (.tail _ (.head _))) _, (b4.set_ 5 _).set_ 4 _, ?_, ownsRow_setCell_below (ownsRow_setCell_below i4 ht _) ht _, by simp; omega, h7⟩
  have := ownsRow_setCell_below (ownsRow_setCell_below hown (a := ⟨tb, 5, none⟩) ht (.slice (some ⟨g, 0, none⟩) (t.ks.length + 1) cap)) (a := ⟨tb, 4, none⟩) ht (.bool p)
  simpa [kcells] using this
theorem cell_new_str (W : World) (c : Value) (n : Nat) (hn : n = W.heap.size) : ∀ j u, [c][j]? = some u → (W.alloc (.cells #[c] 9)).cell? ((⟨n, 0, none⟩ : Addr).add j) = some u := by
  intro j u hj
  subst hn
  match j, hj with
  | 0, hj =>
    simp at hj; subst hj
    exact (Blk.new W 9 #[c]).cell 0
end Go.Proofs.YtcnkbdbkglggcaaGreatDoor
