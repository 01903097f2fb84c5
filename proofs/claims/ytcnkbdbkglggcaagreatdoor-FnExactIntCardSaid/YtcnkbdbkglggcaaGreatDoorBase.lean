/-
  Words on memory and on the bytes of a text that the other texts of this seat use: a reader in memory, a frame that lets some blocks change, white space. No condition.
-/
import Derived.Test.YtcnkbdbkglggcaaGreatDoorProg
import Derived.WalkKit
import Derived.WalkSpells
import Derived.WalkLawsBesides
import Derived.Lib.Hide
import Derived.BigQuiet
import Derived.Deep.QuietTactic
import Derived.Deep.Draws
import Derived.Deep.LoopGhost
namespace Go.Proofs.YtcnkbdbkglggcaaGreatDoor
open Go.RowKit

/-! ### bytes -/
/-- The byte at i, or 0 behind the end. -/
def bt (s : ByteArray) (i : Nat) : Int := if h : i < s.size then (s[i].toNat : Int) else 0
theorem bt_lt {s : ByteArray} {i : Nat} (h : i < s.size) : (s[i].toNat : Int) = bt s i := by unfold bt; rw [dif_pos h]
theorem bt_ge {s : ByteArray} {i : Nat} (h : ¬ i < s.size) : bt s i = 0 := by unfold bt; rw [dif_neg h]
theorem bt_range (s : ByteArray) (i : Nat) : 0 ≤ bt s i ∧ bt s i < 256 := by
  unfold bt
  split
  · rename_i h
    have := s[i].toNat_lt
    omega
  · omega
theorem lt_of_bt {s : ByteArray} {i : Nat} (h : bt s i ≠ 0) : i < s.size := by
  rcases Nat.lt_or_ge i s.size with hl | hg
  · exact hl
  · exact absurd (bt_ge (by omega)) h
theorem ret_u8 {a b : Int} (h : a = b) : Ending.returned (.int .u8 a) = .returned (.int .u8 b) := by rw [h]
theorem ret_i64 {a b : Int} (h : a = b) : Ending.returned (.int .i64 a) = .returned (.int .i64 b) := by rw [h]
theorem drewN_two (w : World) (a b : Nat) : (w.drewN a).drewN b = w.drewN (a + b) := by rw [World.drewN_drewN]

/-! ### a frame: only the blocks of S, and new ones, may have changed -/
structure Upd (S : List Nat) (w w' : World) : Prop where
  os : w'.os = w.os
  tape : w'.tape = w.tape
  output : w'.output = w.output
  size : w.heap.size ≤ w'.heap.size
  block : ∀ k, k < w.heap.size → k ∉ S → w'.heap[k]? = w.heap[k]?
theorem Upd.refl (S : List Nat) (w : World) : Upd S w w := ⟨rfl, rfl, rfl, Nat.le_refl _, fun _ _ _ => rfl⟩
theorem Upd.drewN {S : List Nat} {a w : World} (h : Upd S a w) (n : Nat) : Upd S a (w.drewN n) := ⟨h.os, h.tape, h.output, h.size, h.block⟩
theorem Upd.drew {S : List Nat} {a w : World} (h : Upd S a w) : Upd S a w.drew := ⟨h.os, h.tape, h.output, h.size, h.block⟩
theorem Upd.setCell {S : List Nat} {a w : World} (h : Upd S a w) {p : Addr} (hp : p.block ∈ S ∨ a.heap.size ≤ p.block) (u : Value) : Upd S a (w.setCell p u) :=
  ⟨h.os, h.tape, h.output, by simpa [World.setCell] using h.size, fun k hk hn => (Below.heap_setCell w p u k (by
    rintro rfl
    rcases hp with hp | hp
    · exact hn hp
    · omega)).trans (h.block k hk hn)⟩
theorem Upd.alloc {S : List Nat} {a w : World} (h : Upd S a w) (o : Obj) : Upd S a (w.alloc o) :=
  ⟨h.os, h.tape, h.output, Nat.le_trans h.size (by simp), fun k hk hn => (Below.heap_alloc w o k (Nat.lt_of_lt_of_le hk h.size)).trans (h.block k hk hn)⟩
/-- Two steps: what the second lets change is let change by the first, or new. -/
theorem Upd.then {S T : List Nat} {a b c : World} (h : Upd S a b) (k : Upd T b c) (hT : ∀ x ∈ T, x ∈ S ∨ a.heap.size ≤ x) : Upd S a c :=
  ⟨k.os.trans h.os, k.tape.trans h.tape, k.output.trans h.output, Nat.le_trans h.size k.size, fun i hi hn =>
    (k.block i (Nat.lt_of_lt_of_le hi h.size) (fun hin => by
      rcases hT i hin with hs | hs
      · exact hn hs
      · omega)).trans (h.block i hi hn)⟩
theorem Upd.trans {S : List Nat} {a b c : World} (h : Upd S a b) (k : Upd S b c) : Upd S a c := h.then k fun _ hx => .inl hx
theorem Upd.mono {S T : List Nat} {a b : World} (h : Upd S a b) (hT : ∀ x ∈ S, x ∈ T ∨ a.heap.size ≤ x) : Upd T a b := (Upd.refl T a).then h hT
theorem Upd.of_below {w w' : World} (h : Below w.heap.size w w') (S : List Nat) : Upd S w w' := ⟨h.os, h.tape, h.output, h.size, fun i hi _ => h.block i hi⟩
theorem Upd.below {w w' : World} (h : Upd [] w w') : Below w.heap.size w w' := ⟨h.os, h.tape, h.output, h.size, fun i hi => h.block i hi (by simp)⟩
theorem Upd.of_grown {S : List Nat} {a w w' : World} (h : Upd S a w) {row : Option Nat} (hg : w.grownBy w' row) (hr : ∀ k, row = some k → k ∈ S ∨ a.heap.size ≤ k) : Upd S a w' :=
  ⟨hg.os.trans h.os, hg.tape.trans h.tape, hg.output.trans h.output, Nat.le_trans h.size hg.size, fun i hi hn =>
    (hg.block i (Nat.lt_of_lt_of_le hi h.size) (fun e => by
      rcases hr i e.symm with hs | hs
      · exact hn hs
      · omega)).trans (h.block i hi hn)⟩
theorem Upd.cell {S : List Nat} {w w' : World} (h : Upd S w w') {p : Addr} (hp : p.block < w.heap.size) (hn : p.block ∉ S) : w'.cell? p = w.cell? p := World.cell?_of_block (h.block p.block hp hn)
theorem Upd.frozen {S : List Nat} {w w' : World} (h : Upd S w w') {p : Addr} (hp : p.block < w.heap.size) (hn : p.block ∉ S) : w'.frozen? p = w.frozen? p := World.frozen?_of_block (h.block p.block hp hn)
theorem Upd.owns {S : List Nat} {w w' : World} (h : Upd S w w') {base : Nat} {e : TypeId} {size : Nat} {v : Value} {n : Nat} {xs : List Value} (ho : w.ownsRow base e size v n xs)
    (hn : ∀ k, v.ownBlock = some k → k ∉ S) : w'.ownsRow base e size v n xs := by
  have hlt := ho.lt
  obtain ⟨h1, h2⟩ := ho
  refine ⟨h1, ?_⟩
  rcases h2 with h2 | ⟨g, cap, cur, hv, hg, hh, r⟩
  · exact .inl h2
  · refine .inr ⟨g, cap, cur, hv, hg, ?_, r⟩
    have hb : v.ownBlock = some g := by rw [hv]; rfl
    rw [h.block g (hlt g hb).2 (hn g hb)]
    exact hh

/-! ### a block that is known whole -/
def Blk (w : World) (g : Nat) (t : TypeId) (cs : Array Value) : Prop := w.heap[g]? = some (.cells cs t (0, 0))
section
variable {w w' : World} {g : Nat} {t : TypeId} {cs : Array Value}
theorem Blk.lt (h : Blk w g t cs) : g < w.heap.size := by
  rcases Nat.lt_or_ge g w.heap.size with hlt | hge
  · exact hlt
  · unfold Blk at h; rw [Array.getElem?_eq_none hge] at h; cases h
theorem Blk.cell (h : Blk w g t cs) (i : Nat) : w.cell? ⟨g, i, none⟩ = cs[i]? := cell_of_row w g i cs t (0, 0) h
theorem Blk.frozen (h : Blk w g t cs) (i : Nat) : w.frozen? ⟨g, i, none⟩ = false := by
  unfold Blk at h
  simp [World.frozen?, h]
theorem Blk.new (w : World) (t : TypeId) (cs : Array Value) : Blk (w.alloc (.cells cs t)) w.heap.size t cs := heap_alloc_new w _
theorem Blk.drew (h : Blk w g t cs) : Blk w.drew g t cs := h
theorem Blk.drewN (h : Blk w g t cs) (n : Nat) : Blk (w.drewN n) g t cs := h
theorem Blk.alloc (h : Blk w g t cs) (o : Obj) : Blk (w.alloc o) g t cs := (Below.heap_alloc w o g h.lt).trans h
theorem Blk.set_ (h : Blk w g t cs) (i : Nat) (u : Value) : Blk (w.setCell ⟨g, i, none⟩ u) g t (cs.setIfInBounds i u) := by
  unfold Blk at h ⊢
  simp [World.setCell, Array.getElem?_modify, h]
theorem Blk.far (h : Blk w g t cs) {p : Addr} (hp : g ≠ p.block) (u : Value) : Blk (w.setCell p u) g t cs := (Below.heap_setCell w p u g hp).trans h
theorem Blk.upd {S : List Nat} (h : Blk w g t cs) (hu : Upd S w w') (hn : g ∉ S) : Blk w' g t cs := (hu.block g h.lt hn).trans h
theorem Blk.grown {row : Option Nat} (h : Blk w g t cs) (hb : w.grownBy w' row) (hg : some g ≠ row) : Blk w' g t cs := (hb.block g h.lt hg).trans h
theorem Blk.ne_ {g' : Nat} {t' : TypeId} {cs' : Array Value} (h : Blk w g t cs) (h' : Blk w g' t' cs') (hne : t ≠ t') : g ≠ g' := by
  rintro rfl
  unfold Blk at h h'
  rw [h] at h'
  injection h' with h'
  injection h' with _ ht
  exact hne ht
theorem own_blk_ne {base : Nat} {e : TypeId} {size n : Nat} {v : Value} {xs : List Value} (h : w.ownsRow base e size v n xs) (hg : Blk w g t cs) (hne : e ≠ t) : v.ownBlock ≠ some g := by
  rcases h.2 with ⟨rfl, _⟩ | ⟨g', cap, cur, rfl, _, hh, _⟩
  · simp [Value.ownBlock]
  · intro he
    have : g' = g := by simpa [Value.ownBlock] using he
    subst this
    exact Blk.ne_ (t := e) hh hg hne rfl
end

/-! ### the reader in memory: its text, its place, whether it is bad -/
def Rd (w : World) (b : Nat) (s : ByteArray) (i : Nat) (bad : Bool) : Prop := Blk w b 44 #[.string s, .int .i64 i, .bool bad]
section
variable {w w' : World} {b : Nat} {s : ByteArray} {i : Nat} {bad : Bool}
theorem Rd.c0 (h : Rd w b s i bad) : w.cell? ⟨b, 0, none⟩ = some (.string s) := Blk.cell h 0
theorem Rd.c1 (h : Rd w b s i bad) : w.cell? ⟨b, 1, none⟩ = some (.int .i64 i) := Blk.cell h 1
theorem Rd.c2 (h : Rd w b s i bad) : w.cell? ⟨b, 2, none⟩ = some (.bool bad) := Blk.cell h 2
theorem Rd.fr (h : Rd w b s i bad) (o : Nat) : w.frozen? ⟨b, o, none⟩ = false := Blk.frozen h o
theorem Rd.lt (h : Rd w b s i bad) : b < w.heap.size := Blk.lt h
theorem Rd.setAt (h : Rd w b s i bad) (j : Nat) : Rd (w.setCell ⟨b, 1, none⟩ (.int .i64 j)) b s j bad := Blk.set_ h 1 _
theorem Rd.setBad (h : Rd w b s i bad) (x : Bool) : Rd (w.setCell ⟨b, 2, none⟩ (.bool x)) b s i x := Blk.set_ h 2 _
theorem Rd.drewN (h : Rd w b s i bad) (n : Nat) : Rd (w.drewN n) b s i bad := h
theorem Rd.drew (h : Rd w b s i bad) : Rd w.drew b s i bad := h
theorem Rd.alloc (h : Rd w b s i bad) (o : Obj) : Rd (w.alloc o) b s i bad := Blk.alloc h o
theorem Rd.far (h : Rd w b s i bad) {p : Addr} (hp : b ≠ p.block) (u : Value) : Rd (w.setCell p u) b s i bad := Blk.far h hp u
theorem Rd.upd {S : List Nat} (h : Rd w b s i bad) (hu : Upd S w w') (hn : b ∉ S) : Rd w' b s i bad := Blk.upd h hu hn
theorem Rd.grown {row : Option Nat} (h : Rd w b s i bad) (hb : w.grownBy w' row) (hg : some b ≠ row) : Rd w' b s i bad := Blk.grown h hb hg
end

/-! ### white space, digits, bytes of numbers -/
def isWs (c : Int) : Prop := c = 32 ∨ c = 9 ∨ c = 10 ∨ c = 13
instance (c : Int) : Decidable (isWs c) := by unfold isWs; infer_instance
/-- From i to j all is white space, and at j is none. -/
def Ws (s : ByteArray) (i j : Nat) : Prop := i ≤ j ∧ j ≤ s.size ∧ (∀ k, i ≤ k → k < j → isWs (bt s k)) ∧ ¬ isWs (bt s j)
def isDig (c : Int) : Prop := 48 ≤ c ∧ c ≤ 57
def isNum (c : Int) : Prop := isDig c ∨ c = 43 ∨ c = 45 ∨ c = 46 ∨ c = 101 ∨ c = 69
/-- From i to j there are bytes of numbers alone. -/
def Nums (s : ByteArray) (i j : Nat) : Prop := ∀ k, i ≤ k → k < j → isNum (bt s k)
theorem Nums.refl (s : ByteArray) (i : Nat) : Nums s i i := fun _ _ _ => by omega
theorem Nums.cat {s : ByteArray} {i j k : Nat} (h : Nums s i j) (h' : Nums s j k) : Nums s i k := fun x h1 h2 => by
  rcases Nat.lt_or_ge x j with hl | hg
  · exact h x h1 hl
  · exact h' x hg h2
theorem Nums.one {s : ByteArray} {i : Nat} (h : isNum (bt s i)) : Nums s i (i + 1) := fun k h1 h2 => by
  have : k = i := by omega
  subst this; exact h
theorem Nums.of_dig {s : ByteArray} {i j : Nat} (h : ∀ k, i ≤ k → k < j → isDig (bt s k)) : Nums s i j := fun k h1 h2 => .inl (h k h1 h2)
/-- What a part of the reading leaves: the place goes on, and where it is not bad behind, it was not bad before, and Q holds. -/
def Went (s : ByteArray) (i : Nat) (bad : Bool) (j : Nat) (bad' : Bool) (Q : Prop) : Prop := i ≤ j ∧ j ≤ s.size ∧ (bad' = false → bad = false ∧ Q)
/-- What a call of the reader leaves in memory. -/
def Read1 (w : World) (b : Nat) (s : ByteArray) (i : Nat) (bad : Bool) (Q : Nat → Prop) (w' : World) : Prop :=
  ∃ (j : Nat) (bad' : Bool), Rd w' b s j bad' ∧ Upd [b] w w' ∧ Went s i bad j bad' (Q j)
end Go.Proofs.YtcnkbdbkglggcaaGreatDoor
