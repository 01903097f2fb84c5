/-
  The closure that 'ZZPairs' hands to 'ForEach': it puts a key and a value behind those that were there. No condition but the lists' lengths.
  'impl.value' on any result. No condition.
  'impl.values': a slice of results turned into values. No condition but the length.
-/
import Derived.Test.YtcnkbdbkglggcaaGreatDoorZMA
import Derived.Test.YtcnkbdbkglggcaaGreatDoorZMD
import Derived.Test.YtcnkbdbkglggcaaGreatDoorZMH
import Derived.RegionTactic
import Derived.Deep.RegionHeld
set_option linter.unusedVariables false
set_option linter.unusedSimpArgs false
namespace Go.Proofs.YtcnkbdbkglggcaaGreatDoor
open Go.RowKit

/-- A result: its kind, text, string, number, place. -/
structure Rs where
  k : Int
  raw : ByteArray
  str : ByteArray
  x : Nat
  idx : Int
def Rs.arr (r : Rs) : Array Value := resCells r.k r.raw r.str r.x r.idx
def Rs.cells (r : Rs) : List Value := [.int .i64 r.k, .string r.raw, .string r.str, .float .f64 r.x, .int .i64 r.idx, .slice none 0 0]
def rcells (l : List Rs) : List Value := l.flatMap Rs.cells
theorem rcells_snoc (l : List Rs) (r : Rs) : rcells (l ++ [r]) = rcells l ++ r.cells := by simp [rcells]
theorem rcells_len (l : List Rs) : (rcells l).length = l.length * 6 := by
  induction l with
  | nil => rfl
  | cons r l ih => simp only [rcells, List.flatMap_cons, List.length_append, List.length_cons] at *; rw [ih]; simp [Rs.cells]; omega
theorem Rs.one (r : Rs) : ∀ u ∈ r.cells, u.oneCell' = true := by
  intro u hu
  simp only [Rs.cells, List.mem_cons, List.not_mem_nil, or_false] at hu
  rcases hu with rfl | rfl | rfl | rfl | rfl | rfl <;> rfl
/-- A frame: of the blocks below n only those of S may have changed. -/
structure UpdF (n : Nat) (S : List Nat) (w w' : World) : Prop where
  os : w'.os = w.os
  tape : w'.tape = w.tape
  output : w'.output = w.output
  size : w.heap.size ≤ w'.heap.size
  block : ∀ k, k < n → k ∉ S → w'.heap[k]? = w.heap[k]?
section
variable {n : Nat} {S : List Nat} {a w w' : World}
theorem UpdF.refl (n : Nat) (S : List Nat) (w : World) : UpdF n S w w := ⟨rfl, rfl, rfl, Nat.le_refl _, fun _ _ _ => rfl⟩
theorem UpdF.drew (h : UpdF n S a w) : UpdF n S a w.drew := ⟨h.os, h.tape, h.output, h.size, h.block⟩
theorem UpdF.setCell (h : UpdF n S a w) {p : Addr} (hp : p.block ∈ S ∨ n ≤ p.block) (u : Value) : UpdF n S a (w.setCell p u) :=
  ⟨h.os, h.tape, h.output, by simpa [World.setCell] using h.size, fun k hk hn => (Below.heap_setCell w p u k (by
    rintro rfl
    rcases hp with hp | hp
    · exact hn hp
    · omega)).trans (h.block k hk hn)⟩
theorem UpdF.alloc (h : UpdF n S a w) (hn : n ≤ w.heap.size) (o : Obj) : UpdF n S a (w.alloc o) :=
  ⟨h.os, h.tape, h.output, Nat.le_trans h.size (by simp), fun k hk hs => (Below.heap_alloc w o k (by omega)).trans (h.block k hk hs)⟩
theorem UpdF.grown (h : UpdF n S a w) {row : Option Nat} (hg : w.grownBy w' row) (hn : n ≤ w.heap.size) (hr : ∀ k, row = some k → n ≤ k) : UpdF n S a w' :=
  ⟨hg.os.trans h.os, hg.tape.trans h.tape, hg.output.trans h.output, Nat.le_trans h.size hg.size, fun i hi hs =>
    (hg.block i (by omega) (fun e => by
      have := hr i e.symm
      omega)).trans (h.block i hi hs)⟩
theorem UpdF.trans {b c : World} (h : UpdF n S a b) (k : UpdF n S b c) : UpdF n S a c :=
  ⟨k.os.trans h.os, k.tape.trans h.tape, k.output.trans h.output, Nat.le_trans h.size k.size, fun i hi hs => (k.block i hi hs).trans (h.block i hi hs)⟩
theorem UpdF.of_upd {T : List Nat} (h : Upd T a w) (hn : n ≤ a.heap.size) (hT : ∀ x ∈ T, x ∈ S ∨ n ≤ x) : UpdF n S a w :=
  ⟨h.os, h.tape, h.output, h.size, fun k hk hs => h.block k (by omega) (fun hk2 => by
    rcases hT k hk2 with h1 | h1
    · exact hs h1
    · omega)⟩
theorem UpdF.upd (h : UpdF a.heap.size S a w) : Upd S a w := ⟨h.os, h.tape, h.output, h.size, h.block⟩
end
theorem grown_owns {w w' : World} {row : Option Nat} {base : Nat} {e : TypeId} {size : Nat} {v : Value} {n : Nat} {xs : List Value} (hg : w.grownBy w' row) (ho : w.ownsRow base e size v n xs) (hn : ∀ k, v.ownBlock = some k → row ≠ some k) : w'.ownsRow base e size v n xs := by
  cases row with
  | none => exact ((Upd.refl [] w).of_grown hg (fun k h => by cases h)).owns ho (fun k _ h => by cases h)
  | some r =>
    refine ((Upd.refl [r] w).of_grown hg (fun k h => .inl (by cases h; exact .head _))).owns ho (fun k hk h => ?_)
    simp only [List.mem_singleton] at h
    exact hn k hk (by rw [h])
/-- The two slices that a closure of 'ZZPairs' fills. -/
structure Prs (w : World) (base bk bv : Nat) (kv vv : Value) (kx vx : List Rs) : Prop where
  kb : Blk w bk 54 #[kv]
  vb : Blk w bv 54 #[vv]
  ne : bk ≠ bv
  ok : w.ownsRow base 49 6 kv kx.length (rcells kx)
  ov : w.ownsRow base 49 6 vv vx.length (rcells vx)
  far : ∀ g, kv.ownBlock = some g → vv.ownBlock ≠ some g
theorem info49 : (Tryz.prog.info? 49).map (fun i => (i.zero, i.size, i.bytes)) = some (some (.agg #[.int .i64 0, .string ⟨#[]⟩, .string ⟨#[]⟩, .float .f64 0, .int .i64 0, .slice none 0 0]), 6, 80) := by kernel_rfl
def pairsE : List (Nat × Nat) := [(8, 7), (7, 3), (7, 4), (7, 6), (3, 0), (3, 2), (2, 1), (6, 5)]
theorem pairs_path (i : Nat) (hi : i = 0 ∨ i = 1 ∨ i = 4 ∨ i = 5) (L : Array Bool) (h : rch pairsE L = true) (h8 : L.getD 8 false = true) : L.getD i false = true := by
  have key : ∀ b0 b1 b2 b3 b4 b5 b6 b7 b8 : Bool, ((!b8 || b7) && ((!b7 || b3) && ((!b7 || b4) && ((!b7 || b6) && ((!b3 || b0) && ((!b3 || b2) && ((!b2 || b1) && ((!b6 || b5) && true)))))))) = true → b8 = true → b0 = true ∧ b1 = true ∧ b4 = true ∧ b5 = true := by decide
  have h2 : ((!L.getD 8 false || L.getD 7 false) && ((!L.getD 7 false || L.getD 3 false) && ((!L.getD 7 false || L.getD 4 false) && ((!L.getD 7 false || L.getD 6 false) && ((!L.getD 3 false || L.getD 0 false) && ((!L.getD 3 false || L.getD 2 false) && ((!L.getD 2 false || L.getD 1 false) && ((!L.getD 6 false || L.getD 5 false) && true)))))))) = true := h
  have h3 := key _ _ _ _ _ _ _ _ _ h2 h8
  rcases hi with rfl | rfl | rfl | rfl
  · exact h3.1
  · exact h3.2.1
  · exact h3.2.2.1
  · exact h3.2.2.2
/-- What the region of the closure keeps till its stores. -/
def PS0 (b1 b2 bk bv : Nat) (kv vv : Value) (ke va : Rs) (w : World) : Prop := Blk w b1 49 #[.int .i64 ke.k, .string ke.raw, .string ke.str, .float .f64 ke.x, .int .i64 ke.idx, .slice none 0 0] ∧ Blk w b2 49 #[.int .i64 va.k, .string va.raw, .string va.str, .float .f64 va.x, .int .i64 va.idx, .slice none 0 0] ∧ Blk w bk 54 #[kv] ∧ Blk w bv 54 #[vv]
def PsOut (w : World) (base bk bv : Nat) (kx vx : List Rs) (ke va : Rs) (e : Ending) (w' : World) : Prop :=
  e = .returned (.bool true) ∧ (∃ kv vv, Prs w' base bk bv kv vv (kx ++ [ke]) (vx ++ [va])) ∧ UpdF base [bk, bv] w w'
/-- All that is known of a world within the region. -/
structure PI (w : World) (base bk bv : Nat) (k0 v0 : Value) (ke va : Rs) (kv : Value) (nk : Nat) (kxs : List Value) (vv : Value) (nv : Nat) (vxs : List Value) (C : World) : Prop where
  b1 : Blk C w.heap.size 49 #[.int .i64 ke.k, .string ke.raw, .string ke.str, .float .f64 ke.x, .int .i64 ke.idx, .slice none 0 0]
  b2 : Blk C (w.heap.size + 1) 49 #[.int .i64 va.k, .string va.raw, .string va.str, .float .f64 va.x, .int .i64 va.idx, .slice none 0 0]
  pk : Blk C bk 54 #[k0]
  pv : Blk C bv 54 #[v0]
  f : UpdF base [bk, bv] w C
  sz : w.heap.size + 2 ≤ C.heap.size
  ok : C.ownsRow base 49 6 kv nk kxs
  ov : C.ownsRow base 49 6 vv nv vxs
  far : ∀ g, kv.ownBlock = some g → vv.ownBlock ≠ some g
section
variable {w C N : World} {base bk bv : Nat} {k0 v0 : Value} {ke va : Rs} {kv : Value} {nk : Nat} {kxs : List Value} {vv : Value} {nv : Nat} {vxs : List Value}
theorem PI.ps (h : PI w base bk bv k0 v0 ke va kv nk kxs vv nv vxs C) : PS0 w.heap.size (w.heap.size + 1) bk bv k0 v0 ke va C := ⟨h.b1, h.b2, h.pk, h.pv⟩
theorem PI.alloc (h : PI w base bk bv k0 v0 ke va kv nk kxs vv nv vxs C) (hb : base ≤ w.heap.size) (o : Obj) : PI w base bk bv k0 v0 ke va kv nk kxs vv nv vxs (C.alloc o) :=
  ⟨h.b1.alloc o, h.b2.alloc o, h.pk.alloc o, h.pv.alloc o, h.f.alloc (by have := h.sz; omega) o, by have := h.sz; simp; omega, h.ok.alloc o, h.ov.alloc o, h.far⟩
theorem PI.appK (h : PI w base bk bv k0 v0 ke va kv nk kxs vv nv vxs C) (hb : base ≤ w.heap.size) (low : ∀ g, kv.ownBlock = some g → g < w.heap.size) (hg : C.grownBy N kv.ownBlock) {g n c : Nat} {xs : List Value}
    (ho : N.ownsRow base 49 6 (.slice (some ⟨g, 0, none⟩) n c) n xs) (hgb : kv.ownBlock = some g ∨ g = C.heap.size) : PI w base bk bv k0 v0 ke va (.slice (some ⟨g, 0, none⟩) n c) n xs vv nv vxs N := by
  have hz := h.sz
  refine ⟨h.b1.grown hg (fun e => ?_), h.b2.grown hg (fun e => ?_), h.pk.grown hg (fun e => own_blk_ne h.ok h.pk (by decide) e.symm), h.pv.grown hg (fun e => own_blk_ne h.ok h.pv (by decide) e.symm), h.f.grown hg (by omega) (fun k hk => (h.ok.lt k hk).1), Nat.le_trans hz hg.size, ho, grown_owns hg h.ov (fun k hk e => h.far k e hk), fun j hj hv => ?_⟩
  · have := low _ e.symm
    omega
  · have := low _ e.symm
    omega
  · have hj2 : g = j := by simpa [Value.ownBlock] using hj
    subst hj2
    rcases hgb with hgb | hgb
    · exact h.far g hgb hv
    · have := (h.ov.lt g hv).2
      omega
theorem PI.appV (h : PI w base bk bv k0 v0 ke va kv nk kxs vv nv vxs C) (hb : base ≤ w.heap.size) (low : ∀ g, vv.ownBlock = some g → g < w.heap.size) (hg : C.grownBy N vv.ownBlock) {g n c : Nat} {xs : List Value}
    (ho : N.ownsRow base 49 6 (.slice (some ⟨g, 0, none⟩) n c) n xs) (hgb : vv.ownBlock = some g ∨ g = C.heap.size) : PI w base bk bv k0 v0 ke va kv nk kxs (.slice (some ⟨g, 0, none⟩) n c) n xs N := by
  have hz := h.sz
  refine ⟨h.b1.grown hg (fun e => ?_), h.b2.grown hg (fun e => ?_), h.pk.grown hg (fun e => own_blk_ne h.ov h.pk (by decide) e.symm), h.pv.grown hg (fun e => own_blk_ne h.ov h.pv (by decide) e.symm), h.f.grown hg (by omega) (fun k hk => (h.ov.lt k hk).1), Nat.le_trans hz hg.size, grown_owns hg h.ok (fun k hk e => h.far k hk e), ho, fun j hj hv => ?_⟩
  · have := low _ e.symm
    omega
  · have := low _ e.symm
    omega
  · have hj2 : g = j := by simpa [Value.ownBlock] using hv
    subst hj2
    rcases hgb with hgb | hgb
    · exact h.far g hj hgb
    · have := (h.ok.lt g hj).2
      omega
theorem pairs_end {kx vx : List Rs} (h : PI w base bk bv k0 v0 ke va kv (kx.length + 1) (rcells kx ++ ke.cells) vv (vx.length + 1) (rcells vx ++ va.cells) C) (hne : bk ≠ bv) :
    PsOut w base bk bv kx vx ke va (.returned (.bool true)) ((C.setCell ⟨bk, 0, none⟩ kv).setCell ⟨bv, 0, none⟩ vv) := by
  refine ⟨rfl, ⟨kv, vv, ?_⟩, (h.f.setCell (.inl (by simp)) _).setCell (.inl (by simp)) _⟩
  refine ⟨(h.pk.set_ 0 kv).far hne vv, (h.pv.far (Ne.symm hne) kv).set_ 0 vv, hne, ?_, ?_, h.far⟩
  · rw [rcells_snoc, List.length_append]
    exact (((Upd.refl [bk, bv] C).setCell (.inl (by simp)) kv).setCell (.inl (by simp)) vv).owns h.ok (fun k hk hm => by
      simp only [List.mem_cons, List.not_mem_nil, or_false] at hm
      rcases hm with rfl | rfl
      · exact own_blk_ne h.ok h.pk (by decide) hk
      · exact own_blk_ne h.ok h.pv (by decide) hk)
  · rw [rcells_snoc, List.length_append]
    exact (((Upd.refl [bk, bv] C).setCell (.inl (by simp)) kv).setCell (.inl (by simp)) vv).owns h.ov (fun k hk hm => by
      simp only [List.mem_cons, List.not_mem_nil, or_false] at hm
      rcases hm with rfl | rfl
      · exact own_blk_ne h.ov h.pk (by decide) hk
      · exact own_blk_ne h.ov h.pv (by decide) hk)
end
set_option maxRecDepth 100000 in
set_option maxHeartbeats 8000000 in
theorem pairs_step (w : World) (base bk bv : Nat) (kv vv : Value) (kx vx : List Rs) (ke va : Rs) (hp : Prs w base bk bv kv vv kx vx) (hb : base ≤ w.heap.size) (hk : kx.length ≤ 100000) (hv : vx.length ≤ 100000) :
    Calls Tryz.prog 47 #[.agg ke.arr, .agg va.arr, .pointer (some ⟨bk, 0, none⟩), .pointer (some ⟨bv, 0, none⟩)] w fun e w' => PsOut w base bk bv kx vx ke va e w' := by
  obtain ⟨A1, n1, hkv⟩ := own_slice hp.ok
  obtain ⟨A2, n2, hvv⟩ := own_slice hp.ov
  obtain ⟨i0, hi0, hz0, hz1, hz2⟩ := info_parts info49
  have HB1 := Lib.hid ((Blk.new w 49 #[.int .i64 ke.k, .string ke.raw, .string ke.str, .float .f64 ke.x, .int .i64 ke.idx, .slice none 0 0]).alloc (.cells #[.int .i64 va.k, .string va.raw, .string va.str, .float .f64 va.x, .int .i64 va.idx, .slice none 0 0] 49))
  have HB2 : Hid (Blk ((w.alloc (.cells #[.int .i64 ke.k, .string ke.raw, .string ke.str, .float .f64 ke.x, .int .i64 ke.idx, .slice none 0 0] 49)).alloc (.cells #[.int .i64 va.k, .string va.raw, .string va.str, .float .f64 va.x, .int .i64 va.idx, .slice none 0 0] 49)) (w.heap.size + 1) 49 #[.int .i64 va.k, .string va.raw, .string va.str, .float .f64 va.x, .int .i64 va.idx, .slice none 0 0]) := by
    have h := Blk.new (w.alloc (.cells #[.int .i64 ke.k, .string ke.raw, .string ke.str, .float .f64 ke.x, .int .i64 ke.idx, .slice none 0 0] 49)) 49 #[.int .i64 va.k, .string va.raw, .string va.str, .float .f64 va.x, .int .i64 va.idx, .slice none 0 0]
    rw [show (w.alloc (.cells #[.int .i64 ke.k, .string ke.raw, .string ke.str, .float .f64 ke.x, .int .i64 ke.idx, .slice none 0 0] 49)).heap.size = w.heap.size + 1 by simp] at h
    exact h
  have HBK := Lib.hid ((hp.kb.alloc (.cells #[.int .i64 ke.k, .string ke.raw, .string ke.str, .float .f64 ke.x, .int .i64 ke.idx, .slice none 0 0] 49)).alloc (.cells #[.int .i64 va.k, .string va.raw, .string va.str, .float .f64 va.x, .int .i64 va.idx, .slice none 0 0] 49))
  have HBV := Lib.hid ((hp.vb.alloc (.cells #[.int .i64 ke.k, .string ke.raw, .string ke.str, .float .f64 ke.x, .int .i64 ke.idx, .slice none 0 0] 49)).alloc (.cells #[.int .i64 va.k, .string va.raw, .string va.str, .float .f64 va.x, .int .i64 va.idx, .slice none 0 0] 49))
  have HOK := Lib.hid ((hp.ok.alloc (.cells #[.int .i64 ke.k, .string ke.raw, .string ke.str, .float .f64 ke.x, .int .i64 ke.idx, .slice none 0 0] 49)).alloc (.cells #[.int .i64 va.k, .string va.raw, .string va.str, .float .f64 va.x, .int .i64 va.idx, .slice none 0 0] 49))
  have HOV := Lib.hid ((hp.ov.alloc (.cells #[.int .i64 ke.k, .string ke.raw, .string ke.str, .float .f64 ke.x, .int .i64 ke.idx, .slice none 0 0] 49)).alloc (.cells #[.int .i64 va.k, .string va.raw, .string va.str, .float .f64 va.x, .int .i64 va.idx, .slice none 0 0] 49))
  have HF := Lib.hid (((UpdF.refl base [bk, bv] w).alloc hb (.cells #[.int .i64 ke.k, .string ke.raw, .string ke.str, .float .f64 ke.x, .int .i64 ke.idx, .slice none 0 0] 49)).alloc (by simp; omega) (.cells #[.int .i64 va.k, .string va.raw, .string va.str, .float .f64 va.x, .int .i64 va.idx, .slice none 0 0] 49))
  have HLK : Hid (∀ g, kv.ownBlock = some g → g < w.heap.size) := fun g h => (hp.ok.lt g h).2
  have HLV : Hid (∀ g, vv.ownBlock = some g → g < w.heap.size) := fun g h => (hp.ov.lt g h).2
  have HFAR := Lib.hid hp.far
  have HNE := Lib.hid hp.ne
  have HSZ : Hid (((w.alloc (.cells #[.int .i64 ke.k, .string ke.raw, .string ke.str, .float .f64 ke.x, .int .i64 ke.idx, .slice none 0 0] 49)).alloc (.cells #[.int .i64 va.k, .string va.raw, .string va.str, .float .f64 va.x, .int .i64 va.idx, .slice none 0 0] 49)).heap.size = w.heap.size + 2) := by show _ = _; simp
  subst hkv hvv
  clear hp
  unfold Rs.arr resCells
  go_enter Tryz.func47, Tryz.ntmps47
  go_upto_region 1 with fail
  obtain ⟨W, hW⟩ : ∃ X : World, X = (w.alloc (.cells #[.int .i64 ke.k, .string ke.raw, .string ke.str, .float .f64 ke.x, .int .i64 ke.idx, .slice none 0 0] 49)).alloc (.cells #[.int .i64 va.k, .string va.raw, .string va.str, .float .f64 va.x, .int .i64 va.idx, .slice none 0 0] 49) := ⟨_, rfl⟩
  rw [← hW] at HB1 HB2 HBK HBV HOK HOV HF HSZ
  rw [← hW]
  clear hW
  refine wp_region_L (S := SL pairsE 8 (PS0 w.heap.size (w.heap.size + 1) bk bv (.slice A1 kx.length n1) (.slice A2 vx.length n2) ke va)) (by kernel_rfl) ?_
  have HS0 : PS0 w.heap.size (w.heap.size + 1) bk bv (.slice A1 kx.length n1) (.slice A2 vx.length n2) ke va W.drew := ⟨HB1.out.drew, HB2.out.drew, HBK.out.drew, HBV.out.drew⟩
  refine wpAnyL_take (i := 0) (v := ?_) rfl (by kernel_rfl) (by kernel_rfl) (pairs_path 0 (by decide)) (by decide) (by kernel_rfl) (by kernel_rfl) (fun _ _ _ h => h) (by kernel_rfl) (by kernel_rfl) HS0 (Or.inl ⟨by rfl, ?_⟩) ?_
  rotate_left
  · intro w1 hSw
    have s0 := hSw.1.cell 0
    have s1 := hSw.1.cell 1
    have s2 := hSw.1.cell 2
    have s3 := hSw.1.cell 3
    have s4 := hSw.1.cell 4
    have s5 := hSw.1.cell 5
    have q0 := hSw.2.1.cell 0
    have q1 := hSw.2.1.cell 1
    have q2 := hSw.2.1.cell 2
    have q3 := hSw.2.1.cell 3
    have q4 := hSw.2.1.cell 4
    have q5 := hSw.2.1.cell 5
    have m0 := hSw.2.2.1.cell 0
    have m1 := hSw.2.2.2.cell 0
    simp only [List.getElem?_toArray, List.getElem?_cons_zero, List.getElem?_cons_succ] at s0 s1 s2 s3 s4 s5 q0 q1 q2 q3 q4 q5 m0 m1
    clear hSw
    go_simp
    all_goals (with_reducible rfl)
  simp only [Act.put, List.getElem_toArray, List.getElem_cons_zero, List.getElem_cons_succ, List.setIfInBounds_toArray, List.set_cons_zero, List.set_cons_succ]
  refine wpAnyL_take (i := 1) (v := ?_) rfl (by kernel_rfl) (by kernel_rfl) (pairs_path 1 (by decide)) (by decide) (by kernel_rfl) (by kernel_rfl) (fun _ _ _ h => h) (by kernel_rfl) (by kernel_rfl) HS0 (Or.inl ⟨by rfl, ?_⟩) ?_
  rotate_left
  · intro w1 hSw
    have s0 := hSw.1.cell 0
    have s1 := hSw.1.cell 1
    have s2 := hSw.1.cell 2
    have s3 := hSw.1.cell 3
    have s4 := hSw.1.cell 4
    have s5 := hSw.1.cell 5
    have q0 := hSw.2.1.cell 0
    have q1 := hSw.2.1.cell 1
    have q2 := hSw.2.1.cell 2
    have q3 := hSw.2.1.cell 3
    have q4 := hSw.2.1.cell 4
    have q5 := hSw.2.1.cell 5
    have m0 := hSw.2.2.1.cell 0
    have m1 := hSw.2.2.2.cell 0
    simp only [List.getElem?_toArray, List.getElem?_cons_zero, List.getElem?_cons_succ] at s0 s1 s2 s3 s4 s5 q0 q1 q2 q3 q4 q5 m0 m1
    clear hSw
    go_simp
    all_goals (with_reducible rfl)
  simp only [Act.put, List.getElem_toArray, List.getElem_cons_zero, List.getElem_cons_succ, List.setIfInBounds_toArray, List.set_cons_zero, List.set_cons_succ]
  refine wpAnyL_take (i := 4) (v := ?_) rfl (by kernel_rfl) (by kernel_rfl) (pairs_path 4 (by decide)) (by decide) (by kernel_rfl) (by kernel_rfl) (fun _ _ _ h => h) (by kernel_rfl) (by kernel_rfl) HS0 (Or.inl ⟨by rfl, ?_⟩) ?_
  rotate_left
  · intro w1 hSw
    have s0 := hSw.1.cell 0
    have s1 := hSw.1.cell 1
    have s2 := hSw.1.cell 2
    have s3 := hSw.1.cell 3
    have s4 := hSw.1.cell 4
    have s5 := hSw.1.cell 5
    have q0 := hSw.2.1.cell 0
    have q1 := hSw.2.1.cell 1
    have q2 := hSw.2.1.cell 2
    have q3 := hSw.2.1.cell 3
    have q4 := hSw.2.1.cell 4
    have q5 := hSw.2.1.cell 5
    have m0 := hSw.2.2.1.cell 0
    have m1 := hSw.2.2.2.cell 0
    simp only [List.getElem?_toArray, List.getElem?_cons_zero, List.getElem?_cons_succ] at s0 s1 s2 s3 s4 s5 q0 q1 q2 q3 q4 q5 m0 m1
    clear hSw
    go_simp
    all_goals (with_reducible rfl)
  simp only [Act.put, List.getElem_toArray, List.getElem_cons_zero, List.getElem_cons_succ, List.setIfInBounds_toArray, List.set_cons_zero, List.set_cons_succ]
  refine wpAnyL_take (i := 5) (v := ?_) rfl (by kernel_rfl) (by kernel_rfl) (pairs_path 5 (by decide)) (by decide) (by kernel_rfl) (by kernel_rfl) (fun _ _ _ h => h) (by kernel_rfl) (by kernel_rfl) HS0 (Or.inl ⟨by rfl, ?_⟩) ?_
  rotate_left
  · intro w1 hSw
    have s0 := hSw.1.cell 0
    have s1 := hSw.1.cell 1
    have s2 := hSw.1.cell 2
    have s3 := hSw.1.cell 3
    have s4 := hSw.1.cell 4
    have s5 := hSw.1.cell 5
    have q0 := hSw.2.1.cell 0
    have q1 := hSw.2.1.cell 1
    have q2 := hSw.2.1.cell 2
    have q3 := hSw.2.1.cell 3
    have q4 := hSw.2.1.cell 4
    have q5 := hSw.2.1.cell 5
    have m0 := hSw.2.2.1.cell 0
    have m1 := hSw.2.2.2.cell 0
    simp only [List.getElem?_toArray, List.getElem?_cons_zero, List.getElem?_cons_succ] at s0 s1 s2 s3 s4 s5 q0 q1 q2 q3 q4 q5 m0 m1
    clear hSw
    go_simp
    all_goals (with_reducible rfl)
  simp only [Act.put, List.getElem_toArray, List.getElem_cons_zero, List.getElem_cons_succ, List.setIfInBounds_toArray, List.set_cons_zero, List.set_cons_succ]
  obtain ⟨C0, hC0⟩ : ∃ X : World, X = W.drew := ⟨_, rfl⟩
  have HP0 : Hid (PI w base bk bv (.slice A1 kx.length n1) (.slice A2 vx.length n2) ke va (.slice A1 kx.length n1) kx.length (rcells kx) (.slice A2 vx.length n2) vx.length (rcells vx) C0) := by
    rw [hC0]
    exact ⟨HB1.out.drew, HB2.out.drew, HBK.out.drew, HBV.out.drew, HF.out.drew, Nat.le_of_eq HSZ.out.symm, ((Upd.refl [] W).drew).owns HOK.out (fun _ _ h => by cases h), ((Upd.refl [] W).drew).owns HOV.out (fun _ _ h => by cases h), HFAR.out⟩
  rw [← hC0]
  clear HB1 HB2 HBK HBV HOK HOV HF HSZ hC0 HS0 HFAR
  refine wpAnyL_ready (rs := [2, 6]) (by kernel_rfl) (by simp) ?_
  refine AllReadyL.cons rfl (fun K hK => ?_) (AllReadyL.cons rfl (fun K hK => ?_) (AllReadyL.nil))
  · have P1 := Lib.hid (HP0.out.alloc hb (.cells #[.int .i64 ke.k, .string ke.raw, .string ke.str, .float .f64 ke.x, .int .i64 ke.idx, .slice none 0 0] 49))
    have Nnk := Lib.hid (Blk.new C0 49 #[.int .i64 ke.k, .string ke.raw, .string ke.str, .float .f64 ke.x, .int .i64 ke.idx, .slice none 0 0])
    have Lnk : Hid (w.heap.size + 2 ≤ C0.heap.size) := HP0.out.sz
    go_simp
    obtain ⟨nk, hnk⟩ : ∃ X, X = C0.heap.size := ⟨_, rfl⟩
    rw [← hnk] at Lnk Nnk
    rw [← hnk]
    obtain ⟨C1, hC1⟩ : ∃ X : World, X = C0.alloc (.cells #[.int .i64 ke.k, .string ke.raw, .string ke.str, .float .f64 ke.x, .int .i64 ke.idx, .slice none 0 0] 49) := ⟨_, rfl⟩
    rw [← hC1] at P1 Nnk
    rw [← hC1]
    clear hC1 hnk HP0
    refine hK.out _ _ ⟨by kernel_rfl, .inr P1.out.ps⟩ ?_
    clear hK
    try simp only [Act.put, List.getElem_toArray, List.getElem_cons_zero, List.getElem_cons_succ, List.setIfInBounds_toArray, List.set_cons_zero, List.set_cons_succ]
    refine wpAnyL_ready (rs := [3, 6]) (by kernel_rfl) (by simp) ?_
    refine AllReadyL.cons rfl (fun K hK => ?_) (AllReadyL.cons rfl (fun K hK => ?_) (AllReadyL.nil))
    · have HC := P1.out.sz
      refine step_append_lies _ rfl (.tmp 7) (.tmp 9) 54 rfl base 49 i0 (.agg #[.int .i64 0, .string ⟨#[]⟩, .string ⟨#[]⟩, .float .f64 0, .int .i64 0, .slice none 0 0]) 6 80 Tryz.underlying54 hi0 hz0 hz1 hz2 rfl (by decide) (.slice A1 kx.length n1) kx.length (rcells kx) rfl P1.out.ok ⟨nk, 0, none⟩ 1 1 ke.cells rfl rfl (World.news_of_block Nnk.out) ke.one (by decide) (by unfold maxLen; omega) (by omega) (by omega) C1.heap.size rfl ?_
      intro gk ck C2 ho hg hgb hlt
      have P2 := Lib.hid (P1.out.appK hb HLK.out hg ho hgb)
      clear ho hg hgb hlt HC P1 Nnk Lnk
      refine hK.out _ _ ⟨by kernel_rfl, .inr P2.out.ps⟩ ?_
      clear hK
      try simp only [Act.put, List.getElem_toArray, List.getElem_cons_zero, List.getElem_cons_succ, List.setIfInBounds_toArray, List.set_cons_zero, List.set_cons_succ]
      refine wpAnyL_ready (rs := [6]) (by kernel_rfl) (by simp) ?_
      refine AllReadyL.cons rfl (fun K hK => ?_) (AllReadyL.nil)
      · have P3 := Lib.hid (P2.out.alloc hb (.cells #[.int .i64 va.k, .string va.raw, .string va.str, .float .f64 va.x, .int .i64 va.idx, .slice none 0 0] 49))
        have Nnv := Lib.hid (Blk.new C2 49 #[.int .i64 va.k, .string va.raw, .string va.str, .float .f64 va.x, .int .i64 va.idx, .slice none 0 0])
        have Lnv : Hid (w.heap.size + 2 ≤ C2.heap.size) := P2.out.sz
        go_simp
        obtain ⟨nv, hnv⟩ : ∃ X, X = C2.heap.size := ⟨_, rfl⟩
        rw [← hnv] at Lnv Nnv
        rw [← hnv]
        obtain ⟨C3, hC3⟩ : ∃ X : World, X = C2.alloc (.cells #[.int .i64 va.k, .string va.raw, .string va.str, .float .f64 va.x, .int .i64 va.idx, .slice none 0 0] 49) := ⟨_, rfl⟩
        rw [← hC3] at P3 Nnv
        rw [← hC3]
        clear hC3 hnv P2
        refine hK.out _ _ ⟨by kernel_rfl, .inr P3.out.ps⟩ ?_
        clear hK
        try simp only [Act.put, List.getElem_toArray, List.getElem_cons_zero, List.getElem_cons_succ, List.setIfInBounds_toArray, List.set_cons_zero, List.set_cons_succ]
        refine wpAnyL_ready (rs := [7]) (by kernel_rfl) (by simp) ?_
        refine AllReadyL.cons rfl (fun K hK => ?_) (AllReadyL.nil)
        · have HC := P3.out.sz
          refine step_append_lies _ rfl (.tmp 11) (.tmp 13) 54 rfl base 49 i0 (.agg #[.int .i64 0, .string ⟨#[]⟩, .string ⟨#[]⟩, .float .f64 0, .int .i64 0, .slice none 0 0]) 6 80 Tryz.underlying54 hi0 hz0 hz1 hz2 rfl (by decide) (.slice A2 vx.length n2) vx.length (rcells vx) rfl P3.out.ov ⟨nv, 0, none⟩ 1 1 va.cells rfl rfl (World.news_of_block Nnv.out) va.one (by decide) (by unfold maxLen; omega) (by omega) (by omega) C3.heap.size rfl ?_
          intro gv cv C4 ho hg hgb hlt
          have P4 := Lib.hid (P3.out.appV hb HLV.out hg ho hgb)
          clear ho hg hgb hlt HC P3 Nnv Lnv
          refine hK.out _ _ ⟨by kernel_rfl, .inr P4.out.ps⟩ ?_
          clear hK
          try simp only [Act.put, List.getElem_toArray, List.getElem_cons_zero, List.getElem_cons_succ, List.setIfInBounds_toArray, List.set_cons_zero, List.set_cons_succ]
          refine wpAnyL_ready (rs := [8]) (by kernel_rfl) (by simp) ?_
          refine AllReadyL.cons rfl (fun K hK => ?_) AllReadyL.nil
          have m0 := P4.out.pk.cell 0
          have f0 := P4.out.pk.frozen 0
          simp only [List.getElem?_toArray, List.getElem?_cons_zero, List.getElem?_cons_succ] at m0 f0
          go_simp
          refine hK.out _ _ ⟨by kernel_rfl, .inl (by kernel_rfl)⟩ ?_
          clear m0 f0 hK
          refine wpAnyL_ready (rs := [9]) (by kernel_rfl) (by simp) ?_
          refine AllReadyL.cons rfl (fun K hK => ?_) AllReadyL.nil
          have m1 := (P4.out.pv.far (Ne.symm HNE.out) (p := ⟨bk, 0, none⟩) (.slice (some ⟨gk, 0, none⟩) (kx.length + 1) ck)).cell 0
          have f1 := (P4.out.pv.far (Ne.symm HNE.out) (p := ⟨bk, 0, none⟩) (.slice (some ⟨gk, 0, none⟩) (kx.length + 1) ck)).frozen 0
          simp only [List.getElem?_toArray, List.getElem?_cons_zero, List.getElem?_cons_succ] at m1 f1
          go_simp
          refine hK.out _ _ ⟨by kernel_rfl, .inl (by kernel_rfl)⟩ ?_
          clear m1 f1 hK
          refine wpAnyL_done (by kernel_rfl) ?_ _
          go_wp2_with fail
          go_ret
          exact pairs_end P4.out HNE.out
    · have P5 := Lib.hid (P1.out.alloc hb (.cells #[.int .i64 va.k, .string va.raw, .string va.str, .float .f64 va.x, .int .i64 va.idx, .slice none 0 0] 49))
      have Nnv := Lib.hid (Blk.new C1 49 #[.int .i64 va.k, .string va.raw, .string va.str, .float .f64 va.x, .int .i64 va.idx, .slice none 0 0])
      have Nnk := Lib.hid (Nnk.out.alloc (.cells #[.int .i64 va.k, .string va.raw, .string va.str, .float .f64 va.x, .int .i64 va.idx, .slice none 0 0] 49))
      have Lnv : Hid (w.heap.size + 2 ≤ C1.heap.size) := P1.out.sz
      go_simp
      obtain ⟨nv, hnv⟩ : ∃ X, X = C1.heap.size := ⟨_, rfl⟩
      rw [← hnv] at Lnv Nnv
      rw [← hnv]
      obtain ⟨C5, hC5⟩ : ∃ X : World, X = C1.alloc (.cells #[.int .i64 va.k, .string va.raw, .string va.str, .float .f64 va.x, .int .i64 va.idx, .slice none 0 0] 49) := ⟨_, rfl⟩
      rw [← hC5] at P5 Nnv Nnk
      rw [← hC5]
      clear hC5 hnv P1
      refine hK.out _ _ ⟨by kernel_rfl, .inr P5.out.ps⟩ ?_
      clear hK
      try simp only [Act.put, List.getElem_toArray, List.getElem_cons_zero, List.getElem_cons_succ, List.setIfInBounds_toArray, List.set_cons_zero, List.set_cons_succ]
      refine wpAnyL_ready (rs := [3]) (by kernel_rfl) (by simp) ?_
      refine AllReadyL.cons rfl (fun K hK => ?_) (AllReadyL.nil)
      · have HC := P5.out.sz
        refine step_append_lies _ rfl (.tmp 7) (.tmp 9) 54 rfl base 49 i0 (.agg #[.int .i64 0, .string ⟨#[]⟩, .string ⟨#[]⟩, .float .f64 0, .int .i64 0, .slice none 0 0]) 6 80 Tryz.underlying54 hi0 hz0 hz1 hz2 rfl (by decide) (.slice A1 kx.length n1) kx.length (rcells kx) rfl P5.out.ok ⟨nk, 0, none⟩ 1 1 ke.cells rfl rfl (World.news_of_block Nnk.out) ke.one (by decide) (by unfold maxLen; omega) (by omega) (by omega) C5.heap.size rfl ?_
        intro gk ck C6 ho hg hgb hlt
        have P6 := Lib.hid (P5.out.appK hb HLK.out hg ho hgb)
        have Nnv := Lib.hid (Nnv.out.grown hg (fun e => by have h1 := HLK.out _ e.symm; have h2 := Lnv.out; omega))
        clear ho hg hgb hlt HC P5 Nnk Lnk
        refine hK.out _ _ ⟨by kernel_rfl, .inr P6.out.ps⟩ ?_
        clear hK
        try simp only [Act.put, List.getElem_toArray, List.getElem_cons_zero, List.getElem_cons_succ, List.setIfInBounds_toArray, List.set_cons_zero, List.set_cons_succ]
        refine wpAnyL_ready (rs := [7]) (by kernel_rfl) (by simp) ?_
        refine AllReadyL.cons rfl (fun K hK => ?_) (AllReadyL.nil)
        · have HC := P6.out.sz
          refine step_append_lies _ rfl (.tmp 11) (.tmp 13) 54 rfl base 49 i0 (.agg #[.int .i64 0, .string ⟨#[]⟩, .string ⟨#[]⟩, .float .f64 0, .int .i64 0, .slice none 0 0]) 6 80 Tryz.underlying54 hi0 hz0 hz1 hz2 rfl (by decide) (.slice A2 vx.length n2) vx.length (rcells vx) rfl P6.out.ov ⟨nv, 0, none⟩ 1 1 va.cells rfl rfl (World.news_of_block Nnv.out) va.one (by decide) (by unfold maxLen; omega) (by omega) (by omega) C6.heap.size rfl ?_
          intro gv cv C7 ho hg hgb hlt
          have P7 := Lib.hid (P6.out.appV hb HLV.out hg ho hgb)
          clear ho hg hgb hlt HC P6 Nnv Lnv
          refine hK.out _ _ ⟨by kernel_rfl, .inr P7.out.ps⟩ ?_
          clear hK
          try simp only [Act.put, List.getElem_toArray, List.getElem_cons_zero, List.getElem_cons_succ, List.setIfInBounds_toArray, List.set_cons_zero, List.set_cons_succ]
          refine wpAnyL_ready (rs := [8]) (by kernel_rfl) (by simp) ?_
          refine AllReadyL.cons rfl (fun K hK => ?_) AllReadyL.nil
          have m0 := P7.out.pk.cell 0
          have f0 := P7.out.pk.frozen 0
          simp only [List.getElem?_toArray, List.getElem?_cons_zero, List.getElem?_cons_succ] at m0 f0
          go_simp
          refine hK.out _ _ ⟨by kernel_rfl, .inl (by kernel_rfl)⟩ ?_
          clear m0 f0 hK
          refine wpAnyL_ready (rs := [9]) (by kernel_rfl) (by simp) ?_
          refine AllReadyL.cons rfl (fun K hK => ?_) AllReadyL.nil
          have m1 := (P7.out.pv.far (Ne.symm HNE.out) (p := ⟨bk, 0, none⟩) (.slice (some ⟨gk, 0, none⟩) (kx.length + 1) ck)).cell 0
          have f1 := (P7.out.pv.far (Ne.symm HNE.out) (p := ⟨bk, 0, none⟩) (.slice (some ⟨gk, 0, none⟩) (kx.length + 1) ck)).frozen 0
          simp only [List.getElem?_toArray, List.getElem?_cons_zero, List.getElem?_cons_succ] at m1 f1
          go_simp
          refine hK.out _ _ ⟨by kernel_rfl, .inl (by kernel_rfl)⟩ ?_
          clear m1 f1 hK
          refine wpAnyL_done (by kernel_rfl) ?_ _
          go_wp2_with fail
          go_ret
          exact pairs_end P7.out HNE.out
  · have P8 := Lib.hid (HP0.out.alloc hb (.cells #[.int .i64 va.k, .string va.raw, .string va.str, .float .f64 va.x, .int .i64 va.idx, .slice none 0 0] 49))
    have Nnv := Lib.hid (Blk.new C0 49 #[.int .i64 va.k, .string va.raw, .string va.str, .float .f64 va.x, .int .i64 va.idx, .slice none 0 0])
    have Lnv : Hid (w.heap.size + 2 ≤ C0.heap.size) := HP0.out.sz
    go_simp
    obtain ⟨nv, hnv⟩ : ∃ X, X = C0.heap.size := ⟨_, rfl⟩
    rw [← hnv] at Lnv Nnv
    rw [← hnv]
    obtain ⟨C8, hC8⟩ : ∃ X : World, X = C0.alloc (.cells #[.int .i64 va.k, .string va.raw, .string va.str, .float .f64 va.x, .int .i64 va.idx, .slice none 0 0] 49) := ⟨_, rfl⟩
    rw [← hC8] at P8 Nnv
    rw [← hC8]
    clear hC8 hnv HP0
    refine hK.out _ _ ⟨by kernel_rfl, .inr P8.out.ps⟩ ?_
    clear hK
    try simp only [Act.put, List.getElem_toArray, List.getElem_cons_zero, List.getElem_cons_succ, List.setIfInBounds_toArray, List.set_cons_zero, List.set_cons_succ]
    refine wpAnyL_ready (rs := [2]) (by kernel_rfl) (by simp) ?_
    refine AllReadyL.cons rfl (fun K hK => ?_) (AllReadyL.nil)
    · have P9 := Lib.hid (P8.out.alloc hb (.cells #[.int .i64 ke.k, .string ke.raw, .string ke.str, .float .f64 ke.x, .int .i64 ke.idx, .slice none 0 0] 49))
      have Nnk := Lib.hid (Blk.new C8 49 #[.int .i64 ke.k, .string ke.raw, .string ke.str, .float .f64 ke.x, .int .i64 ke.idx, .slice none 0 0])
      have Nnv := Lib.hid (Nnv.out.alloc (.cells #[.int .i64 ke.k, .string ke.raw, .string ke.str, .float .f64 ke.x, .int .i64 ke.idx, .slice none 0 0] 49))
      have Lnk : Hid (w.heap.size + 2 ≤ C8.heap.size) := P8.out.sz
      go_simp
      obtain ⟨nk, hnk⟩ : ∃ X, X = C8.heap.size := ⟨_, rfl⟩
      rw [← hnk] at Lnk Nnk
      rw [← hnk]
      obtain ⟨C9, hC9⟩ : ∃ X : World, X = C8.alloc (.cells #[.int .i64 ke.k, .string ke.raw, .string ke.str, .float .f64 ke.x, .int .i64 ke.idx, .slice none 0 0] 49) := ⟨_, rfl⟩
      rw [← hC9] at P9 Nnk Nnv
      rw [← hC9]
      clear hC9 hnk P8
      refine hK.out _ _ ⟨by kernel_rfl, .inr P9.out.ps⟩ ?_
      clear hK
      try simp only [Act.put, List.getElem_toArray, List.getElem_cons_zero, List.getElem_cons_succ, List.setIfInBounds_toArray, List.set_cons_zero, List.set_cons_succ]
      refine wpAnyL_ready (rs := [3]) (by kernel_rfl) (by simp) ?_
      refine AllReadyL.cons rfl (fun K hK => ?_) (AllReadyL.nil)
      · have HC := P9.out.sz
        refine step_append_lies _ rfl (.tmp 7) (.tmp 9) 54 rfl base 49 i0 (.agg #[.int .i64 0, .string ⟨#[]⟩, .string ⟨#[]⟩, .float .f64 0, .int .i64 0, .slice none 0 0]) 6 80 Tryz.underlying54 hi0 hz0 hz1 hz2 rfl (by decide) (.slice A1 kx.length n1) kx.length (rcells kx) rfl P9.out.ok ⟨nk, 0, none⟩ 1 1 ke.cells rfl rfl (World.news_of_block Nnk.out) ke.one (by decide) (by unfold maxLen; omega) (by omega) (by omega) C9.heap.size rfl ?_
        intro gk ck C10 ho hg hgb hlt
        have P10 := Lib.hid (P9.out.appK hb HLK.out hg ho hgb)
        have Nnv := Lib.hid (Nnv.out.grown hg (fun e => by have h1 := HLK.out _ e.symm; have h2 := Lnv.out; omega))
        clear ho hg hgb hlt HC P9 Nnk Lnk
        refine hK.out _ _ ⟨by kernel_rfl, .inr P10.out.ps⟩ ?_
        clear hK
        try simp only [Act.put, List.getElem_toArray, List.getElem_cons_zero, List.getElem_cons_succ, List.setIfInBounds_toArray, List.set_cons_zero, List.set_cons_succ]
        refine wpAnyL_ready (rs := [7]) (by kernel_rfl) (by simp) ?_
        refine AllReadyL.cons rfl (fun K hK => ?_) (AllReadyL.nil)
        · have HC := P10.out.sz
          refine step_append_lies _ rfl (.tmp 11) (.tmp 13) 54 rfl base 49 i0 (.agg #[.int .i64 0, .string ⟨#[]⟩, .string ⟨#[]⟩, .float .f64 0, .int .i64 0, .slice none 0 0]) 6 80 Tryz.underlying54 hi0 hz0 hz1 hz2 rfl (by decide) (.slice A2 vx.length n2) vx.length (rcells vx) rfl P10.out.ov ⟨nv, 0, none⟩ 1 1 va.cells rfl rfl (World.news_of_block Nnv.out) va.one (by decide) (by unfold maxLen; omega) (by omega) (by omega) C10.heap.size rfl ?_
          intro gv cv C11 ho hg hgb hlt
          have P11 := Lib.hid (P10.out.appV hb HLV.out hg ho hgb)
          clear ho hg hgb hlt HC P10 Nnv Lnv
          refine hK.out _ _ ⟨by kernel_rfl, .inr P11.out.ps⟩ ?_
          clear hK
          try simp only [Act.put, List.getElem_toArray, List.getElem_cons_zero, List.getElem_cons_succ, List.setIfInBounds_toArray, List.set_cons_zero, List.set_cons_succ]
          refine wpAnyL_ready (rs := [8]) (by kernel_rfl) (by simp) ?_
          refine AllReadyL.cons rfl (fun K hK => ?_) AllReadyL.nil
          have m0 := P11.out.pk.cell 0
          have f0 := P11.out.pk.frozen 0
          simp only [List.getElem?_toArray, List.getElem?_cons_zero, List.getElem?_cons_succ] at m0 f0
          go_simp
          refine hK.out _ _ ⟨by kernel_rfl, .inl (by kernel_rfl)⟩ ?_
          clear m0 f0 hK
          refine wpAnyL_ready (rs := [9]) (by kernel_rfl) (by simp) ?_
          refine AllReadyL.cons rfl (fun K hK => ?_) AllReadyL.nil
          have m1 := (P11.out.pv.far (Ne.symm HNE.out) (p := ⟨bk, 0, none⟩) (.slice (some ⟨gk, 0, none⟩) (kx.length + 1) ck)).cell 0
          have f1 := (P11.out.pv.far (Ne.symm HNE.out) (p := ⟨bk, 0, none⟩) (.slice (some ⟨gk, 0, none⟩) (kx.length + 1) ck)).frozen 0
          simp only [List.getElem?_toArray, List.getElem?_cons_zero, List.getElem?_cons_succ] at m1 f1
          go_simp
          refine hK.out _ _ ⟨by kernel_rfl, .inl (by kernel_rfl)⟩ ?_
          clear m1 f1 hK
          refine wpAnyL_done (by kernel_rfl) ?_ _
          go_wp2_with fail
          go_ret
          exact pairs_end P11.out HNE.out
end Go.Proofs.YtcnkbdbkglggcaaGreatDoor

namespace Go.Proofs.YtcnkbdbkglggcaaGreatDoor
open Go.RowKit

theorem exists_no (w : World) (str : ByteArray) (x : Nat) (i : Int) : Calls Tryz.prog 37 #[.agg (resCells 0 ByteArray.empty str x i)] w fun e w' => e = .returned (.bool false) ∧ w' = w.alloc (.cells (resCells 0 ByteArray.empty str x i) 49) := by
  unfold resCells
  go_enter Tryz.func37, Tryz.ntmps37
  go_wp2_with fail
  go_ret
  exact ⟨rfl, rfl⟩
theorem exists_th (k : Int) (raw str : ByteArray) (x : Nat) (i : Int) : ∃ th : Bool, ∀ w, Calls Tryz.prog 37 #[.agg (resCells k raw str x i)] w fun e w' => e = .returned (.bool th) ∧ Upd [] w w' := by
  by_cases h : k ≠ 0 ∨ 0 < raw.size
  · exact ⟨true, fun w => (exists_yes w k raw str x i h).mono fun e w' h => ⟨h.1, h.2 ▸ (Upd.refl [] w).alloc _⟩⟩
  · have h1 : k = 0 := Classical.byContradiction fun hn => h (.inl hn)
    have h2 : raw = ByteArray.empty := by
      have h3 : raw.size = 0 := by
        rcases Nat.eq_zero_or_pos raw.size with h3 | h3
        · exact h3
        · exact absurd (.inr h3) h
      exact ByteArray.ext (Array.eq_empty_of_size_eq_zero h3)
    subst h1 h2
    exact ⟨false, fun w => (exists_no w str x i).mono fun e w' h => ⟨h.1, h.2 ▸ (Upd.refl [] w).alloc _⟩⟩
set_option maxRecDepth 100000 in
set_option maxHeartbeats 4000000 in
theorem value_th (w : World) (k : Int) (raw str : ByteArray) (x : Nat) (i : Int) (th : Bool) (EX : ∀ w, Calls Tryz.prog 37 #[.agg (resCells k raw str x i)] w fun e w' => e = .returned (.bool th) ∧ Upd [] w w') :
    Calls Tryz.prog 24 #[.agg (resCells k raw str x i)] w fun e w' => e = .returned (.agg #[.int .i64 k, .string raw, .string str, .float .f64 x, .int .i64 i, .bool th]) ∧ Upd [] w w' := by
  have EXH := Lib.hid EX
  clear EX
  have rsf := run_store_float64 (P := Tryz.prog)
  go_enter Tryz.func24, Tryz.ntmps24
  unfold resCells at *
  go_wp2_with fail
  have hb1 := (Blk.new w 49 #[.int .i64 k, .string raw, .string str, .float .f64 x, .int .i64 i, .slice none 0 0]).alloc (.cells #[.int .i64 0, .string ⟨#[]⟩, .string ⟨#[]⟩, .float .f64 0, .int .i64 0, .bool false] 34)
  have hb2 := Blk.new (w.alloc (.cells #[.int .i64 k, .string raw, .string str, .float .f64 x, .int .i64 i, .slice none 0 0] 49)) 34 #[.int .i64 0, .string ⟨#[]⟩, .string ⟨#[]⟩, .float .f64 0, .int .i64 0, .bool false]
  have hz : (w.alloc (.cells #[.int .i64 k, .string raw, .string str, .float .f64 x, .int .i64 i, .slice none 0 0] 49)).heap.size = w.heap.size + 1 := by simp
  rw [hz] at hb2
  clear hz
  have hup := ((Upd.refl [] w).alloc (.cells #[.int .i64 k, .string raw, .string str, .float .f64 x, .int .i64 i, .slice none 0 0] 49)).alloc (.cells #[.int .i64 0, .string ⟨#[]⟩, .string ⟨#[]⟩, .float .f64 0, .int .i64 0, .bool false] 34)
  generalize (w.alloc (.cells #[.int .i64 k, .string raw, .string str, .float .f64 x, .int .i64 i, .slice none 0 0] 49)).alloc (.cells #[.int .i64 0, .string ⟨#[]⟩, .string ⟨#[]⟩, .float .f64 0, .int .i64 0, .bool false] 34) = W at *
  have r0 := hb1.cell 0
  have r1 := hb1.cell 1
  have r2 := hb1.cell 2
  have r3 := hb1.cell 3
  have r4 := hb1.cell 4
  have r5 := hb1.cell 5
  have rf := hb1.frozen
  have t0 := hb2.cell 0
  have t1 := hb2.cell 1
  have t2 := hb2.cell 2
  have t3 := hb2.cell 3
  have t4 := hb2.cell 4
  have t5 := hb2.cell 5
  have tf := hb2.frozen
  simp only [List.getElem?_toArray, List.getElem?_cons_zero, List.getElem?_cons_succ] at r0 r1 r2 r3 r4 r5 t0 t1 t2 t3 t4 t5
  have HB1 := Lib.hid hb1
  have HB2 := Lib.hid hb2
  have HUP := Lib.hid hup
  clear hb1 hb2 hup rf
  refine wp_region_held_drew (S := (fun w' => w'.cell? ⟨w.heap.size, 0, none⟩ = some (.int .i64 k) ∧ w'.cell? ⟨w.heap.size, 1, none⟩ = some (.string raw) ∧ w'.cell? ⟨w.heap.size, 2, none⟩ = some (.string str) ∧ w'.cell? ⟨w.heap.size, 3, none⟩ = some (.float .f64 x) ∧ w'.cell? ⟨w.heap.size, 4, none⟩ = some (.int .i64 i) ∧ w'.cell? ⟨w.heap.size, 5, none⟩ = some (.slice none 0 0))) (by kernel_rfl) ?_ (fun hHeld => ?_)
  · exact ⟨r0, r1, r2, r3, r4, r5⟩
  refine wpAnyH_take (i := 0) (v := ?_) rfl (by kernel_rfl) (by kernel_rfl) (by kernel_rfl) (fun _ _ _ h => h) (Or.inl ⟨by rfl, ?_⟩) hHeld ?_
  rotate_left
  · intro w hSw; (try dsimp only at hSw); go_simp
    all_goals (with_reducible rfl)
  try simp only [Act.put, List.setIfInBounds_toArray, List.set_cons_zero, List.set_cons_succ]
  refine wpAnyH_take (i := 1) (v := ?_) rfl (by kernel_rfl) (by kernel_rfl) (by kernel_rfl) (fun _ _ _ h => h) (Or.inl ⟨by rfl, ?_⟩) hHeld ?_
  rotate_left
  · intro w hSw; (try dsimp only at hSw); go_simp
    all_goals (with_reducible rfl)
  try simp only [Act.put, List.setIfInBounds_toArray, List.set_cons_zero, List.set_cons_succ]
  refine wpAnyH_take (i := 2) (v := ?_) rfl (by kernel_rfl) (by kernel_rfl) (by kernel_rfl) (fun _ _ _ h => h) (Or.inl ⟨by rfl, ?_⟩) hHeld ?_
  rotate_left
  · intro w hSw; (try dsimp only at hSw); go_simp
    all_goals (with_reducible rfl)
  try simp only [Act.put, List.setIfInBounds_toArray, List.set_cons_zero, List.set_cons_succ]
  refine wpAnyH_take (i := 3) (v := ?_) rfl (by kernel_rfl) (by kernel_rfl) (by kernel_rfl) (fun _ _ _ h => h) (Or.inl ⟨by rfl, ?_⟩) hHeld ?_
  rotate_left
  · intro w hSw; (try dsimp only at hSw); go_simp
    all_goals (with_reducible rfl)
  try simp only [Act.put, List.setIfInBounds_toArray, List.set_cons_zero, List.set_cons_succ]
  refine wpAnyH_take (i := 4) (v := ?_) rfl (by kernel_rfl) (by kernel_rfl) (by kernel_rfl) (fun _ _ _ h => h) (Or.inl ⟨by rfl, ?_⟩) hHeld ?_
  rotate_left
  · intro w hSw; (try dsimp only at hSw); go_simp
    all_goals (with_reducible rfl)
  try simp only [Act.put, List.setIfInBounds_toArray, List.set_cons_zero, List.set_cons_succ]
  refine wpAnyH_take (i := 5) (v := ?_) rfl (by kernel_rfl) (by kernel_rfl) (by kernel_rfl) (fun _ _ _ h => h) (Or.inl ⟨by rfl, ?_⟩) hHeld ?_
  rotate_left
  · intro w hSw; (try dsimp only at hSw); go_simp
    all_goals (with_reducible rfl)
  try simp only [Act.put, List.setIfInBounds_toArray, List.set_cons_zero, List.set_cons_succ]
  refine wpAnyH_take (i := 6) (v := ?_) rfl (by kernel_rfl) (by kernel_rfl) (by kernel_rfl) (fun _ _ _ h => h) (Or.inl ⟨by rfl, ?_⟩) hHeld ?_
  rotate_left
  · intro w hSw; (try dsimp only at hSw); go_simp
    all_goals (with_reducible rfl)
  try simp only [Act.put, List.setIfInBounds_toArray, List.set_cons_zero, List.set_cons_succ]
  refine wpAnyH_take (i := 7) (v := ?_) rfl (by kernel_rfl) (by kernel_rfl) (by kernel_rfl) (fun _ _ _ h => h) (Or.inl ⟨by rfl, ?_⟩) hHeld ?_
  rotate_left
  · intro w hSw; (try dsimp only at hSw); go_simp
    all_goals (with_reducible rfl)
  try simp only [Act.put, List.setIfInBounds_toArray, List.set_cons_zero, List.set_cons_succ]
  refine wpAnyH_take (i := 8) (v := ?_) rfl (by kernel_rfl) (by kernel_rfl) (by kernel_rfl) (fun _ _ _ h => h) (Or.inl ⟨by rfl, ?_⟩) hHeld ?_
  rotate_left
  · intro w hSw; (try dsimp only at hSw); go_simp
    all_goals (with_reducible rfl)
  try simp only [Act.put, List.setIfInBounds_toArray, List.set_cons_zero, List.set_cons_succ]
  refine wpAnyH_take (i := 9) (v := ?_) rfl (by kernel_rfl) (by kernel_rfl) (by kernel_rfl) (fun _ _ _ h => h) (Or.inl ⟨by rfl, ?_⟩) hHeld ?_
  rotate_left
  · intro w hSw; (try dsimp only at hSw); go_simp
    all_goals (with_reducible rfl)
  try simp only [Act.put, List.setIfInBounds_toArray, List.set_cons_zero, List.set_cons_succ]
  refine wpAnyH_take (i := 10) (v := ?_) rfl (by kernel_rfl) (by kernel_rfl) (by kernel_rfl) (fun _ _ _ h => h) (Or.inl ⟨by rfl, ?_⟩) hHeld ?_
  rotate_left
  · intro w hSw; (try dsimp only at hSw); go_simp
    all_goals (with_reducible rfl)
  try simp only [Act.put, List.setIfInBounds_toArray, List.set_cons_zero, List.set_cons_succ]
  refine wpAnyH_ready (rs := [11]) (by kernel_rfl) (by simp) ?_
  refine AllReadyH.cons rfl (fun K hK => ?_) AllReadyH.nil
  go_simp
  refine (EXH.out _).mono ?_
  rintro e w5 ⟨rfl, hu5⟩
  have hb5 := (Blk.drew HB1.out).upd hu5 (by simp)
  have hc5 := (Blk.drew HB2.out).upd hu5 (by simp)
  have hup5 := HUP.out.drew.trans hu5
  refine hK.out _ _ ⟨hb5.cell 0, hb5.cell 1, hb5.cell 2, hb5.cell 3, hb5.cell 4, hb5.cell 5⟩ (fun hH2 => ?_)
  clear hK K r0 r1 r2 r3 r4 r5 t0 t1 t2 t3 t4 t5 tf
  refine wpAnyH_take (i := 12) (v := ?_) rfl (by kernel_rfl) (by kernel_rfl) (by kernel_rfl) (fun _ _ _ h => h) (Or.inl ⟨by rfl, ?_⟩) hH2 ?_
  rotate_left
  · intro w hSw; (try dsimp only at hSw); go_simp
    all_goals (with_reducible rfl)
  try simp only [Act.put, List.setIfInBounds_toArray, List.set_cons_zero, List.set_cons_succ]
  have q0 := hc5.cell 0
  have q1 := hc5.cell 1
  have q2 := hc5.cell 2
  have q3 := hc5.cell 3
  have q4 := hc5.cell 4
  have q5 := hc5.cell 5
  have qf := hc5.frozen
  simp only [List.getElem?_toArray, List.getElem?_cons_zero, List.getElem?_cons_succ] at q0 q1 q2 q3 q4 q5
  refine wpAnyH_ready (rs := [13]) (by kernel_rfl) (by simp) ?_
  refine AllReadyH.cons rfl (fun K hK => ?_) AllReadyH.nil
  go_simp
  have hb6 := ((((((hb5.far (p := ⟨w.heap.size + 1, 0, none⟩) (by simp) (.int .i64 k)).far (p := ⟨w.heap.size + 1, 1, none⟩) (by simp) (.string raw)).far (p := ⟨w.heap.size + 1, 2, none⟩) (by simp) (.string str)).far (p := ⟨w.heap.size + 1, 3, none⟩) (by simp) (.float .f64 x)).far (p := ⟨w.heap.size + 1, 4, none⟩) (by simp) (.int .i64 i)).far (p := ⟨w.heap.size + 1, 5, none⟩) (by simp) (.bool th))
  refine hK.out _ _ ⟨hb6.cell 0, hb6.cell 1, hb6.cell 2, hb6.cell 3, hb6.cell 4, hb6.cell 5⟩ (fun hH3 => ?_)
  clear hK K
  refine wpAnyH_done (by kernel_rfl) ?_ _
  have hc6 := (((((hc5.set_ 0 (.int .i64 k)).set_ 1 (.string raw)).set_ 2 (.string str)).set_ 3 (.float .f64 x)).set_ 4 (.int .i64 i)).set_ 5 (.bool th)
  clear q0 q1 q2 q3 q4 q5 qf
  go_wp2_with fail
  exact bodyPost_ret (res_value (c0 := .int .i64 k) (c1 := .string raw) (c2 := .string str) (c3 := .float .f64 x) (c4 := .int .i64 i) (c5 := .bool th) hc6 _ rfl) rfl ⟨rfl, ((((((hup5.setCell (p := ⟨w.heap.size + 1, 0, none⟩) (.inr (Nat.le_succ _)) _).setCell (p := ⟨w.heap.size + 1, 1, none⟩) (.inr (Nat.le_succ _)) _).setCell (p := ⟨w.heap.size + 1, 2, none⟩) (.inr (Nat.le_succ _)) _).setCell (p := ⟨w.heap.size + 1, 3, none⟩) (.inr (Nat.le_succ _)) _).setCell (p := ⟨w.heap.size + 1, 4, none⟩) (.inr (Nat.le_succ _)) _).setCell (p := ⟨w.heap.size + 1, 5, none⟩) (.inr (Nat.le_succ _)) _)⟩
/-- A value's cells. -/
def Rs.vcells (r : Rs) (th : Bool) : List Value := [.int .i64 r.k, .string r.raw, .string r.str, .float .f64 r.x, .int .i64 r.idx, .bool th]
def vrow (l : List (Rs × Bool)) : List Value := l.flatMap fun p => p.1.vcells p.2
theorem vrow_snoc (l : List (Rs × Bool)) (r : Rs) (th : Bool) : vrow (l ++ [(r, th)]) = vrow l ++ r.vcells th := by simp [vrow]
theorem vrow_len (l : List (Rs × Bool)) : (vrow l).length = l.length * 6 := by
  induction l with
  | nil => rfl
  | cons r l ih => simp only [vrow, List.flatMap_cons, List.length_append, List.length_cons] at *; rw [ih]; simp [Rs.vcells]; omega
theorem Rs.vone (r : Rs) (th : Bool) : ∀ u ∈ r.vcells th, u.oneCell' = true := by
  intro u hu
  simp only [Rs.vcells, List.mem_cons, List.not_mem_nil, or_false] at hu
  rcases hu with rfl | rfl | rfl | rfl | rfl | rfl <;> rfl
theorem value_rs (r : Rs) : ∃ th : Bool, ∀ w, Calls Tryz.prog 24 #[.agg r.arr] w fun e w' => e = .returned (.agg #[.int .i64 r.k, .string r.raw, .string r.str, .float .f64 r.x, .int .i64 r.idx, .bool th]) ∧ Upd [] w w' := by
  obtain ⟨th, h⟩ := exists_th r.k r.raw r.str r.x r.idx
  exact ⟨th, fun w => value_th w r.k r.raw r.str r.x r.idx th h⟩
theorem rcells_at (l : List Rs) (n : Nat) (r : Rs) (h : l[n]? = some r) (j : Nat) (hj : j < 6) : (rcells l)[n * 6 + j]? = r.cells[j]? := by
  induction l generalizing n with
  | nil => cases h
  | cons r0 l ih =>
    have hc : r0.cells.length = 6 := rfl
    cases n with
    | zero =>
      have e : r0 = r := by simpa using h
      subst e
      rw [show rcells (r0 :: l) = r0.cells ++ rcells l from rfl, List.getElem?_append_left (by omega), Nat.zero_mul, Nat.zero_add]
    | succ n =>
      rw [show rcells (r0 :: l) = r0.cells ++ rcells l from rfl, List.getElem?_append_right (by omega), show (n + 1) * 6 + j - r0.cells.length = n * 6 + j by omega]
      exact ih n h
end Go.Proofs.YtcnkbdbkglggcaaGreatDoor

namespace Go.Proofs.YtcnkbdbkglggcaaGreatDoor
open Go.RowKit

theorem info34 : (Tryz.prog.info? 34).map (fun i => (i.zero, i.size, i.bytes)) = some (some (.agg #[.int .i64 0, .string ⟨#[]⟩, .string ⟨#[]⟩, .float .f64 0, .int .i64 0, .bool false]), 6, 64) := by kernel_rfl
set_option maxRecDepth 100000 in
set_option maxHeartbeats 8000000 in
theorem values_any (w : World) (base : Nat) (kv : Value) (kx : List Rs) (ho : w.ownsRow base 49 6 kv kx.length (rcells kx)) (hl : kx.length ≤ 100000) :
    Calls Tryz.prog 28 #[kv] w fun e w' => ∃ ov vl, e = .returned ov ∧ w'.ownsRow w.heap.size 34 6 ov kx.length (vrow vl) ∧ vl.map Prod.fst = kx ∧ Upd [] w w' := by
  obtain ⟨A1, n1, hkv⟩ := own_slice ho
  obtain ⟨i0, hi0, hz0, hz1, hz2⟩ := info_parts info34
  subst hkv
  have HO := Lib.hid ho
  clear ho
  have hupa := (Upd.refl [] w).alloc (.cells #[] 34)
  have howa : (w.alloc (.cells #[] 34)).ownsRow w.heap.size 34 6 (.slice (some ⟨w.heap.size, 0, none⟩) 0 0) 0 (vrow []) := ⟨rfl, .inr ⟨w.heap.size, 0, #[], rfl, Nat.le_refl _, heap_alloc_new w _, Nat.le_refl _, Nat.zero_le _, rfl, rfl⟩⟩
  have HUA := Lib.hid hupa
  have HOA := Lib.hid howa
  clear hupa howa
  go_enter Tryz.func28, Tryz.ntmps28
  go_wp2_with fail
  go_loopg [3, 9] kx.length (fun g x3 x9 wr => ∃ (k : Nat) (vl : List (Rs × Bool)) (A2 : Option Addr) (n2 : Nat), k ≤ kx.length ∧ x9 = .int .i64 k ∧ x3 = .slice A2 k n2 ∧ Hid (wr.ownsRow w.heap.size 34 6 (.slice A2 k n2) k (vrow vl)) ∧ Hid (vl.map Prod.fst = kx.take k) ∧ Hid (Upd [] w wr) ∧ Hid (g = kx.length - k))
  case atStart => exact ⟨0, [], _, _, Nat.zero_le _, rfl, rfl, HOA.out, rfl, HUA.out, rfl⟩
  case round =>
    obtain ⟨k, vl, A2, n2, hk, rfl, rfl, hov, hvl, hup, hh⟩ := hrel
    by_cases hlt : k < kx.length
    · obtain ⟨r, hr⟩ : ∃ r, kx[k]? = some r := ⟨_, List.getElem?_eq_getElem hlt⟩
      obtain ⟨g0, c0, hA⟩ : ∃ g0 c0, Value.slice A1 kx.length n1 = .slice (some ⟨g0, 0, none⟩) kx.length c0 := by
        rcases HO.out.2 with ⟨h1, h2⟩ | ⟨g, cap, cur, h1, _⟩
        · omega
        · exact ⟨g, cap, h1⟩
      have ho1 := hup.out.owns HO.out (fun _ _ h => by cases h)
      injection hA with hA1 hA2 hA3
      subst hA1 hA3
      have hc : ∀ j, j < 6 → wr.cell? ⟨g0, k * 6 + j, none⟩ = r.cells[j]? := fun j hj => by
        rw [ho1.cellAt (k * 6 + j) (by omega)]
        exact rcells_at kx k r hr j hj
      have c0 := hc 0 (by omega)
      have c1 := hc 1 (by omega)
      have c2 := hc 2 (by omega)
      have c3 := hc 3 (by omega)
      have c4 := hc 4 (by omega)
      have c5 := hc 5 (by omega)
      unfold Rs.cells at c0 c1 c2 c3 c4 c5
      simp only [List.getElem?_cons_zero, List.getElem?_cons_succ, Nat.add_zero] at c0 c1 c2 c3 c4 c5
      clear hc ho1
      have rsf := run_store_float64 (P := Tryz.prog)
      obtain ⟨th, hth⟩ := value_rs r
      have PV := Lib.hid hth
      unfold Rs.arr resCells at PV
      have HU1 := Lib.hid (hup.out.alloc (.cells #[.int .i64 r.k, .string r.raw, .string r.str, .float .f64 r.x, .int .i64 r.idx, .slice none 0 0] 49))
      have HO1 := Lib.hid (hov.out.alloc (.cells #[.int .i64 r.k, .string r.raw, .string r.str, .float .f64 r.x, .int .i64 r.idx, .slice none 0 0] 49))
      clear hup hov hth
      go_wp2_with (first
        | (go_at_call 24; refine (PV.out _).mono ?_; rintro e w5 ⟨rfl, hu5⟩; have HU2 := Lib.hid (HU1.out.trans hu5); have HO2 := Lib.hid (hu5.owns HO1.out (fun _ _ h => by cases h)); clear hu5)
        | (at_builtin; refine wpList_append_lies _ rfl (.tmp 13) (.tmp 16) 38 rfl w.heap.size 34 i0 (.agg #[.int .i64 0, .string ⟨#[]⟩, .string ⟨#[]⟩, .float .f64 0, .int .i64 0, .bool false]) 6 64 Tryz.underlying38 hi0 hz0 hz1 hz2 rfl (by decide) (.slice A2 k n2) k (vrow vl) rfl (HO2.out.alloc _) ⟨w5.heap.size, 0, none⟩ 1 1 [.int .i64 r.k, .string r.raw, .string r.str, .float .f64 r.x, .int .i64 r.idx, .bool th] rfl rfl (World.news_of_block (heap_alloc_new w5 _)) (fun u hu => r.vone th u hu) (by decide) (by unfold maxLen; omega) (by omega) (by have := HU2.out.size; simp; omega) (w5.heap.size + 1) (by simp) ?_; intro g cap w6 ho6 hg6 hgb6 hlt6; have HU6 := Lib.hid ((HU2.out.alloc (.cells #[.int .i64 r.k, .string r.raw, .string r.str, .float .f64 r.x, .int .i64 r.idx, .bool th] 34)).of_grown hg6 (fun q hq => .inr (HO2.out.lt q hq).1)); have HO6 := Lib.hid ho6; clear ho6 hg6 hgb6 hlt6))
      go_roundg (kx.length - (k + 1))
      case measure => have := hh.out; omega
      case rel =>
        refine ⟨k + 1, vl ++ [(r, th)], _, _, hlt, by go_num, rfl, ?_, ?_, HU6.out, rfl⟩
        · rw [vrow_snoc]
          exact HO6.out
        · rw [List.map_append, hvl.out, List.take_add_one, hr]
          rfl
    · have hE : k = kx.length := by omega
      go_wp2_with fail
      go_ret
      exact ⟨_, vl, rfl, hE ▸ hov.out, by rw [hvl.out, hE, List.take_length], hup.out⟩
end Go.Proofs.YtcnkbdbkglggcaaGreatDoor
