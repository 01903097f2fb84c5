/-
  Words on memory and on the bytes of a text that the other texts of this seat use: a reader in memory, a frame that lets some blocks change, white space. No condition.
  The program's small readers: 'tolit', 'Exists', and the specification's 'Trimmed'. Condition: the text has at most 2^31 bytes.
  The specification's 'Object' on a tree that is an object or an array. Condition: its text is not empty.
  Scopes with one label that is reached from several places, and with three labels; a frame taken apart. No condition.
  A region whose order is drawn, with loads ahead of stores to what they load: the loads may be taken first. No condition.
-/
import Derived.Test.YtcnkbdbkglggcaaGreatDoorProg
import Derived.WalkKit
import Derived.WalkSpells
import Derived.WalkLawsBesides
import Derived.Lib.Hide
import Derived.BigQuiet
import Derived.Deep.QuietTactic
import Derived.Deep.Draws
import Derived.Deep.LoopGhost
import Derived.RegionTactic
import Derived.ChangeAlike
import Derived.ScopeJumps
import Derived.WalkMore
import Derived.OrdersHeld
import Derived.Deep.RegionHeld
namespace Go.Proofs.YtcnkbdbkglggcaaGreatDoor
open Go.RowKit

/-! ### bytes -/
/-- The byte at i, or 0 behind the end. -/
def bt (s : ByteArray) (i : Nat) : Int := if h : i < s.size then (s[i].toNat : Int) else 0
theorem bt_lt {s : ByteArray} {i : Nat} (h : i < s.size) : (s[i].toNat : Int) = bt s i := by unfold bt; rw [dif_pos h]
theorem bt_ge {s : ByteArray} {i : Nat} (h : ¬ i < s.size) : bt s i = 0 := by unfold bt; rw [dif_neg h]
theorem bt_range (s : ByteArray) (i : Nat) : 0 ≤ bt s i ∧ bt s i < 256 := by
  unfold bt
  split
  · rename_i h
    have := s[i].toNat_lt
    omega
  · omega
theorem lt_of_bt {s : ByteArray} {i : Nat} (h : bt s i ≠ 0) : i < s.size := by
  rcases Nat.lt_or_ge i s.size with hl | hg
  · exact hl
  · exact absurd (bt_ge (by omega)) h
theorem ret_u8 {a b : Int} (h : a = b) : Ending.returned (.int .u8 a) = .returned (.int .u8 b) := by rw [h]
theorem ret_i64 {a b : Int} (h : a = b) : Ending.returned (.int .i64 a) = .returned (.int .i64 b) := by rw [h]
theorem drewN_two (w : World) (a b : Nat) : (w.drewN a).drewN b = w.drewN (a + b) := by rw [World.drewN_drewN]

/-! ### a frame: only the blocks of S, and new ones, may have changed -/
structure Upd (S : List Nat) (w w' : World) : Prop where
  os : w'.os = w.os
  tape : w'.tape = w.tape
  output : w'.output = w.output
  size : w.heap.size ≤ w'.heap.size
  block : ∀ k, k < w.heap.size → k ∉ S → w'.heap[k]? = w.heap[k]?
theorem Upd.refl (S : List Nat) (w : World) : Upd S w w := ⟨rfl, rfl, rfl, Nat.le_refl _, fun _ _ _ => rfl⟩
theorem Upd.drewN {S : List Nat} {a w : World} (h : Upd S a w) (n : Nat) : Upd S a (w.drewN n) := ⟨h.os, h.tape, h.output, h.size, h.block⟩
theorem Upd.drew {S : List Nat} {a w : World} (h : Upd S a w) : Upd S a w.drew := ⟨h.os, h.tape, h.output, h.size, h.block⟩
theorem Upd.setCell {S : List Nat} {a w : World} (h : Upd S a w) {p : Addr} (hp : p.block ∈ S ∨ a.heap.size ≤ p.block) (u : Value) : Upd S a (w.setCell p u) :=
  ⟨h.os, h.tape, h.output, by simpa [World.setCell] using h.size, fun k hk hn => (Below.heap_setCell w p u k (by
    rintro rfl
    rcases hp with hp | hp
    · exact hn hp
    · omega)).trans (h.block k hk hn)⟩
theorem Upd.alloc {S : List Nat} {a w : World} (h : Upd S a w) (o : Obj) : Upd S a (w.alloc o) :=
  ⟨h.os, h.tape, h.output, Nat.le_trans h.size (by simp), fun k hk hn => (Below.heap_alloc w o k (Nat.lt_of_lt_of_le hk h.size)).trans (h.block k hk hn)⟩
/-- Two steps: what the second lets change is let change by the first, or new. -/
theorem Upd.then {S T : List Nat} {a b c : World} (h : Upd S a b) (k : Upd T b c) (hT : ∀ x ∈ T, x ∈ S ∨ a.heap.size ≤ x) : Upd S a c :=
  ⟨k.os.trans h.os, k.tape.trans h.tape, k.output.trans h.output, Nat.le_trans h.size k.size, fun i hi hn =>
    (k.block i (Nat.lt_of_lt_of_le hi h.size) (fun hin => by
      rcases hT i hin with hs | hs
      · exact hn hs
      · omega)).trans (h.block i hi hn)⟩
theorem Upd.trans {S : List Nat} {a b c : World} (h : Upd S a b) (k : Upd S b c) : Upd S a c := h.then k fun _ hx => .inl hx
theorem Upd.mono {S T : List Nat} {a b : World} (h : Upd S a b) (hT : ∀ x ∈ S, x ∈ T ∨ a.heap.size ≤ x) : Upd T a b := (Upd.refl T a).then h hT
theorem Upd.of_below {w w' : World} (h : Below w.heap.size w w') (S : List Nat) : Upd S w w' := ⟨h.os, h.tape, h.output, h.size, fun i hi _ => h.block i hi⟩
theorem Upd.below {w w' : World} (h : Upd [] w w') : Below w.heap.size w w' := ⟨h.os, h.tape, h.output, h.size, fun i hi => h.block i hi (by simp)⟩
theorem Upd.of_grown {S : List Nat} {a w w' : World} (h : Upd S a w) {row : Option Nat} (hg : w.grownBy w' row) (hr : ∀ k, row = some k → k ∈ S ∨ a.heap.size ≤ k) : Upd S a w' :=
  ⟨hg.os.trans h.os, hg.tape.trans h.tape, hg.output.trans h.output, Nat.le_trans h.size hg.size, fun i hi hn =>
    (hg.block i (Nat.lt_of_lt_of_le hi h.size) (fun e => by
      rcases hr i e.symm with hs | hs
      · exact hn hs
      · omega)).trans (h.block i hi hn)⟩
theorem Upd.cell {S : List Nat} {w w' : World} (h : Upd S w w') {p : Addr} (hp : p.block < w.heap.size) (hn : p.block ∉ S) : w'.cell? p = w.cell? p := World.cell?_of_block (h.block p.block hp hn)
theorem Upd.frozen {S : List Nat} {w w' : World} (h : Upd S w w') {p : Addr} (hp : p.block < w.heap.size) (hn : p.block ∉ S) : w'.frozen? p = w.frozen? p := World.frozen?_of_block (h.block p.block hp hn)
theorem Upd.owns {S : List Nat} {w w' : World} (h : Upd S w w') {base : Nat} {e : TypeId} {size : Nat} {v : Value} {n : Nat} {xs : List Value} (ho : w.ownsRow base e size v n xs)
    (hn : ∀ k, v.ownBlock = some k → k ∉ S) : w'.ownsRow base e size v n xs := by
  have hlt := ho.lt
  obtain ⟨h1, h2⟩ := ho
  refine ⟨h1, ?_⟩
  rcases h2 with h2 | ⟨g, cap, cur, hv, hg, hh, r⟩
  · exact .inl h2
  · refine .inr ⟨g, cap, cur, hv, hg, ?_, r⟩
    have hb : v.ownBlock = some g := by rw [hv]; rfl
    rw [h.block g (hlt g hb).2 (hn g hb)]
    exact hh

/-! ### a block that is known whole -/
def Blk (w : World) (g : Nat) (t : TypeId) (cs : Array Value) : Prop := w.heap[g]? = some (.cells cs t (0, 0))
section
variable {w w' : World} {g : Nat} {t : TypeId} {cs : Array Value}
theorem Blk.lt (h : Blk w g t cs) : g < w.heap.size := by
  rcases Nat.lt_or_ge g w.heap.size with hlt | hge
  · exact hlt
  · unfold Blk at h; rw [Array.getElem?_eq_none hge] at h; cases h
theorem Blk.cell (h : Blk w g t cs) (i : Nat) : w.cell? ⟨g, i, none⟩ = cs[i]? := cell_of_row w g i cs t (0, 0) h
theorem Blk.frozen (h : Blk w g t cs) (i : Nat) : w.frozen? ⟨g, i, none⟩ = false := by
  unfold Blk at h
  simp [World.frozen?, h]
theorem Blk.new (w : World) (t : TypeId) (cs : Array Value) : Blk (w.alloc (.cells cs t)) w.heap.size t cs := heap_alloc_new w _
theorem Blk.drew (h : Blk w g t cs) : Blk w.drew g t cs := h
theorem Blk.drewN (h : Blk w g t cs) (n : Nat) : Blk (w.drewN n) g t cs := h
theorem Blk.alloc (h : Blk w g t cs) (o : Obj) : Blk (w.alloc o) g t cs := (Below.heap_alloc w o g h.lt).trans h
theorem Blk.set_ (h : Blk w g t cs) (i : Nat) (u : Value) : Blk (w.setCell ⟨g, i, none⟩ u) g t (cs.setIfInBounds i u) := by
  unfold Blk at h ⊢
  simp [World.setCell, Array.getElem?_modify, h]
theorem Blk.far (h : Blk w g t cs) {p : Addr} (hp : g ≠ p.block) (u : Value) : Blk (w.setCell p u) g t cs := (Below.heap_setCell w p u g hp).trans h
theorem Blk.upd {S : List Nat} (h : Blk w g t cs) (hu : Upd S w w') (hn : g ∉ S) : Blk w' g t cs := (hu.block g h.lt hn).trans h
theorem Blk.grown {row : Option Nat} (h : Blk w g t cs) (hb : w.grownBy w' row) (hg : some g ≠ row) : Blk w' g t cs := (hb.block g h.lt hg).trans h
theorem Blk.ne_ {g' : Nat} {t' : TypeId} {cs' : Array Value} (h : Blk w g t cs) (h' : Blk w g' t' cs') (hne : t ≠ t') : g ≠ g' := by
  rintro rfl
  unfold Blk at h h'
  rw [h] at h'
  injection h' with h'
  injection h' with _ ht
  exact hne ht
theorem own_blk_ne {base : Nat} {e : TypeId} {size n : Nat} {v : Value} {xs : List Value} (h : w.ownsRow base e size v n xs) (hg : Blk w g t cs) (hne : e ≠ t) : v.ownBlock ≠ some g := by
  rcases h.2 with ⟨rfl, _⟩ | ⟨g', cap, cur, rfl, _, hh, _⟩
  · simp [Value.ownBlock]
  · intro he
    have : g' = g := by simpa [Value.ownBlock] using he
    subst this
    exact Blk.ne_ (t := e) hh hg hne rfl
end

/-! ### the reader in memory: its text, its place, whether it is bad -/
def Rd (w : World) (b : Nat) (s : ByteArray) (i : Nat) (bad : Bool) : Prop := Blk w b 44 #[.string s, .int .i64 i, .bool bad]
section
variable {w w' : World} {b : Nat} {s : ByteArray} {i : Nat} {bad : Bool}
theorem Rd.c0 (h : Rd w b s i bad) : w.cell? ⟨b, 0, none⟩ = some (.string s) := Blk.cell h 0
theorem Rd.c1 (h : Rd w b s i bad) : w.cell? ⟨b, 1, none⟩ = some (.int .i64 i) := Blk.cell h 1
theorem Rd.c2 (h : Rd w b s i bad) : w.cell? ⟨b, 2, none⟩ = some (.bool bad) := Blk.cell h 2
theorem Rd.fr (h : Rd w b s i bad) (o : Nat) : w.frozen? ⟨b, o, none⟩ = false := Blk.frozen h o
theorem Rd.lt (h : Rd w b s i bad) : b < w.heap.size := Blk.lt h
theorem Rd.setAt (h : Rd w b s i bad) (j : Nat) : Rd (w.setCell ⟨b, 1, none⟩ (.int .i64 j)) b s j bad := Blk.set_ h 1 _
theorem Rd.setBad (h : Rd w b s i bad) (x : Bool) : Rd (w.setCell ⟨b, 2, none⟩ (.bool x)) b s i x := Blk.set_ h 2 _
theorem Rd.drewN (h : Rd w b s i bad) (n : Nat) : Rd (w.drewN n) b s i bad := h
theorem Rd.drew (h : Rd w b s i bad) : Rd w.drew b s i bad := h
theorem Rd.alloc (h : Rd w b s i bad) (o : Obj) : Rd (w.alloc o) b s i bad := Blk.alloc h o
theorem Rd.far (h : Rd w b s i bad) {p : Addr} (hp : b ≠ p.block) (u : Value) : Rd (w.setCell p u) b s i bad := Blk.far h hp u
theorem Rd.upd {S : List Nat} (h : Rd w b s i bad) (hu : Upd S w w') (hn : b ∉ S) : Rd w' b s i bad := Blk.upd h hu hn
theorem Rd.grown {row : Option Nat} (h : Rd w b s i bad) (hb : w.grownBy w' row) (hg : some b ≠ row) : Rd w' b s i bad := Blk.grown h hb hg
end

/-! ### white space, digits, bytes of numbers -/
def isWs (c : Int) : Prop := c = 32 ∨ c = 9 ∨ c = 10 ∨ c = 13
instance (c : Int) : Decidable (isWs c) := by unfold isWs; infer_instance
/-- From i to j all is white space, and at j is none. -/
def Ws (s : ByteArray) (i j : Nat) : Prop := i ≤ j ∧ j ≤ s.size ∧ (∀ k, i ≤ k → k < j → isWs (bt s k)) ∧ ¬ isWs (bt s j)
def isDig (c : Int) : Prop := 48 ≤ c ∧ c ≤ 57
def isNum (c : Int) : Prop := isDig c ∨ c = 43 ∨ c = 45 ∨ c = 46 ∨ c = 101 ∨ c = 69
/-- From i to j there are bytes of numbers alone. -/
def Nums (s : ByteArray) (i j : Nat) : Prop := ∀ k, i ≤ k → k < j → isNum (bt s k)
theorem Nums.refl (s : ByteArray) (i : Nat) : Nums s i i := fun _ _ _ => by omega
theorem Nums.cat {s : ByteArray} {i j k : Nat} (h : Nums s i j) (h' : Nums s j k) : Nums s i k := fun x h1 h2 => by
  rcases Nat.lt_or_ge x j with hl | hg
  · exact h x h1 hl
  · exact h' x hg h2
theorem Nums.one {s : ByteArray} {i : Nat} (h : isNum (bt s i)) : Nums s i (i + 1) := fun k h1 h2 => by
  have : k = i := by omega
  subst this; exact h
theorem Nums.of_dig {s : ByteArray} {i j : Nat} (h : ∀ k, i ≤ k → k < j → isDig (bt s k)) : Nums s i j := fun k h1 h2 => .inl (h k h1 h2)
/-- What a part of the reading leaves: the place goes on, and where it is not bad behind, it was not bad before, and Q holds. -/
def Went (s : ByteArray) (i : Nat) (bad : Bool) (j : Nat) (bad' : Bool) (Q : Prop) : Prop := i ≤ j ∧ j ≤ s.size ∧ (bad' = false → bad = false ∧ Q)
/-- What a call of the reader leaves in memory. -/
def Read1 (w : World) (b : Nat) (s : ByteArray) (i : Nat) (bad : Bool) (Q : Nat → Prop) (w' : World) : Prop :=
  ∃ (j : Nat) (bad' : Bool), Rd w' b s j bad' ∧ Upd [b] w w' ∧ Went s i bad j bad' (Q j)
end Go.Proofs.YtcnkbdbkglggcaaGreatDoor

namespace Go.Proofs.YtcnkbdbkglggcaaGreatDoor
open Go.RowKit

/-- A float is stored like any other value of one cell. -/
theorem run_store_float64 {P : Program} (w : World) (a : Addr) (m : Mode) (k : FloatKind) (x : Nat) : (store a (.float k x) m).run P w = stored P w a (.float k x) m := run_store P w a _ m rfl
/-- From 1 to n there are small letters, and at n is none. -/
def LitQ (s : ByteArray) (n : Nat) : Prop := 1 ≤ n ∧ n ≤ s.size ∧ (∀ k, 1 ≤ k → k < n → 97 ≤ bt s k ∧ bt s k ≤ 122) ∧ ¬ (97 ≤ bt s n ∧ bt s n ≤ 122)
def Lit1 (w : World) (s : ByteArray) (e : Ending) (w' : World) : Prop := ∃ n, e = .returned (.string (s.extract 0 n)) ∧ LitQ s n ∧ w' = w
theorem tolit_any (w : World) (s : ByteArray) (h1 : 1 ≤ s.size) (hs : s.size ≤ 2 ^ 31) : Calls Tryz.prog 35 #[.string s] w fun e w' => Lit1 w s e w' := by
  go_enter Tryz.func35, Tryz.ntmps35
  go_wp2_with fail
  go_loopg [3] (s.size - 1) (fun g v wr => ∃ k : Nat, 1 ≤ k ∧ k ≤ s.size ∧ v = .int .i64 k ∧ wr = w ∧ Hid ((∀ x, 1 ≤ x → x < k → 97 ≤ bt s x ∧ bt s x ≤ 122) ∧ g = s.size - k))
  case atStart => exact ⟨1, by omega, h1, rfl, rfl, fun x _ _ => by omega, rfl⟩
  case round =>
    obtain ⟨k, hk1, hk2, rfl, rfl, hh⟩ := hrel
    by_cases hlt : k < s.size
    · have HB := Lib.hid (bt_lt hlt)
      by_cases c1 : s[k].toNat < 97
      · go_wp2_with fail
        go_ret
        exact ⟨k, rfl, ⟨hk1, hk2, hh.out.1, fun h => by have := HB.out; omega⟩, rfl⟩
      by_cases c2 : 122 < s[k].toNat
      · go_wp2_with fail
        go_ret
        exact ⟨k, rfl, ⟨hk1, hk2, hh.out.1, fun h => by have := HB.out; omega⟩, rfl⟩
      go_wp2_with fail
      go_roundg (s.size - (k + 1))
      case measure => have := hh.out.2; omega
      case rel => exact ⟨k + 1, by omega, by omega, by go_num, rfl, fun x h1 h2 => by
        rcases Nat.lt_or_ge x k with hl | hg
        · exact hh.out.1 x h1 hl
        · have : x = k := by omega
          subst this; have := HB.out; omega, rfl⟩
    · have HK := Lib.hid (show k = s.size by omega)
      go_wp2_with fail
      go_ret
      refine ⟨k, ?_, ⟨hk1, hk2, hh.out.1, fun h => ?_⟩, rfl⟩
      · rw [HK.out, ByteArray.extract_zero_size]; rfl
      · rw [bt_ge hlt] at h; omega

theorem idx_nat (s : ByteArray) (i : Int) (j : Nat) (hij : i = (j : Int)) (h : j < s.size) (w : World) : (Instr.index 9 (.string s) (.int .i64 i)).run Tryz.prog w = .ok (.int .u8 (bt s j)) w := by
  subst hij
  rw [run_index_string w 9 s .i64 (j : Int) Tryz.underlying9]
  simp [h, bt]
theorem cut_nat (s : ByteArray) (i : Int) (j : Nat) (hij : i = (j : Int)) (h : j ≤ s.size) (w : World) : (Instr.slice 9 (.string s) none (some (.int .i64 i)) none).run Tryz.prog w = .ok (.string (s.extract 0 j)) w := by
  subst hij
  simp [Instr.slice, Instr.sliceBounds, Instr.sliceBound, asIntOf, run_underlying Tryz.underlying9]
  intro hc
  omega
theorem bt_extract {s : ByteArray} {a b k : Nat} (h : a + k < b) (hb : b ≤ s.size) : bt (s.extract a b) k = bt s (a + k) := by
  have h1 : k < (s.extract a b).size := by simp only [ByteArray.size_extract]; omega
  unfold bt
  rw [dif_pos h1, dif_pos (by omega), ByteArray.getElem_extract]
theorem ext_ext0 (s : ByteArray) {n m : Nat} (h : n ≤ m) (_hm : m ≤ s.size) : (s.extract 0 m).extract 0 n = s.extract 0 n := by
  rw [ByteArray.extract_extract]
  congr 1
  omega

/-- What 'Trimmed' returns: the text without the white space behind it. -/
theorem trimmed_any (w : World) (s : ByteArray) (j : Nat) (hj : j ≤ s.size) (hs : s.size ≤ 2 ^ 31) (hw : ∀ k, j ≤ k → k < s.size → isWs (bt s k)) (hn : 0 < j → ¬ isWs (bt s (j - 1))) :
    Calls Tryz.prog 11 #[.string s] w fun e w' => e = .returned (.string (s.extract 0 j)) ∧ w' = w := by
  have HW := Lib.hid hw; clear hw
  have HN := Lib.hid hn; clear hn
  go_enter Tryz.func11, Tryz.ntmps11
  go_wp2_with fail
  go_loopg [0] (s.size - j) (fun g v wr => ∃ u : ByteArray, v = .string u ∧ j ≤ u.size ∧ u.size ≤ s.size ∧ wr = w ∧ Hid (u = s.extract 0 u.size ∧ g = u.size - j))
  case atStart => exact ⟨s, rfl, hj, Nat.le_refl _, rfl, by rw [ByteArray.extract_zero_size], rfl⟩
  case round =>
    obtain ⟨u, rfl, hju, hus, rfl, hh⟩ := hrel
    have stop : j = u.size → (.returned (.string u) : Ending) = .returned (.string (s.extract 0 j)) := fun h => by rw [h, ← hh.out.1]
    by_cases h0 : 0 < u.size
    · have hbu : bt u (u.size - 1) = bt s (u.size - 1) := by
        have h := hh.out.1
        have h2 := bt_extract (s := s) (a := 0) (b := u.size) (k := u.size - 1) (by omega) hus
        rw [← h] at h2
        rw [h2, Nat.zero_add]
      have x1 : ∀ w, (Instr.index 9 (.string u) (.int .i64 ((u.size : Int) - 1))).run Tryz.prog w = .ok (.int .u8 (bt u (u.size - 1))) w := fun w => idx_nat u _ (u.size - 1) (by omega) (by omega) w
      have x2 : ∀ w, (Instr.slice 9 (.string u) none (some (.int .i64 ((u.size : Int) - 1))) none).run Tryz.prog w = .ok (.string (u.extract 0 (u.size - 1))) w := fun w => cut_nat u _ (u.size - 1) (by omega) (by omega) w
      have hmeas : ∀ (hlt : j < u.size), (u.extract 0 (u.size - 1)).size - j < u.size - j := fun hlt => by simp only [ByteArray.size_extract]; omega
      have next : j < u.size → ∃ u' : ByteArray, Value.string (u.extract 0 (u.size - 1)) = .string u' ∧ j ≤ u'.size ∧ u'.size ≤ s.size ∧ wr = wr ∧ Hid (u' = s.extract 0 u'.size ∧ u'.size - j = u'.size - j) := fun hlt => by
        have hz : (u.extract 0 (u.size - 1)).size = u.size - 1 := by simp only [ByteArray.size_extract]; omega
        refine ⟨_, rfl, by omega, by omega, rfl, ?_, rfl⟩
        rw [hz]
        conv => lhs; rw [hh.out.1]
        rw [ByteArray.size_extract]
        exact (by rw [show min u.size s.size - 0 - 1 = u.size - 1 by omega]; exact ext_ext0 s (by omega) hus)
      have more : isWs (bt u (u.size - 1)) → j < u.size := fun h => by
        rcases Nat.lt_or_ge j u.size with hl | hg
        · exact hl
        · have hE : j = u.size := by omega
          subst hE
          exact absurd (hbu ▸ h) (HN.out h0)
      by_cases c32 : bt u (u.size - 1) = 32
      · have C := Lib.hid c32
        have d32 : (bt u (u.size - 1) == 32) = true := by simpa using c32
        have e32 : decide (bt u (u.size - 1) = 32) = true := by simpa using c32
        clear c32
        have hlt := more (by rw [C.out]; decide)
        have st := Lib.hid (next hlt)
        have ms := Lib.hid (hmeas hlt)
        clear more next hmeas stop hbu hlt
        go_wp2_with fail
        clear x1 x2
        go_roundg ((u.extract 0 (u.size - 1)).size - j)
        case measure => have := ms.out; have := hh.out.2; omega
        case rel => obtain ⟨u', h, a, b, _, d⟩ := st.out; cases h; exact ⟨_, rfl, a, b, rfl, d.out.1, rfl⟩
      have d32 : (bt u (u.size - 1) == 32) = false := by simpa using c32
      have e32 : decide (bt u (u.size - 1) = 32) = false := by simpa using c32
      by_cases c9 : bt u (u.size - 1) = 9
      · have C := Lib.hid c9
        have d9 : (bt u (u.size - 1) == 9) = true := by simpa using c9
        have e9 : decide (bt u (u.size - 1) = 9) = true := by simpa using c9
        clear c9
        have hlt := more (by rw [C.out]; decide)
        have st := Lib.hid (next hlt)
        have ms := Lib.hid (hmeas hlt)
        clear more next hmeas stop hbu hlt
        go_wp2_with fail
        clear x1 x2
        go_roundg ((u.extract 0 (u.size - 1)).size - j)
        case measure => have := ms.out; have := hh.out.2; omega
        case rel => obtain ⟨u', h, a, b, _, d⟩ := st.out; cases h; exact ⟨_, rfl, a, b, rfl, d.out.1, rfl⟩
      have d9 : (bt u (u.size - 1) == 9) = false := by simpa using c9
      have e9 : decide (bt u (u.size - 1) = 9) = false := by simpa using c9
      by_cases c10 : bt u (u.size - 1) = 10
      · have C := Lib.hid c10
        have d10 : (bt u (u.size - 1) == 10) = true := by simpa using c10
        have e10 : decide (bt u (u.size - 1) = 10) = true := by simpa using c10
        clear c10
        have hlt := more (by rw [C.out]; decide)
        have st := Lib.hid (next hlt)
        have ms := Lib.hid (hmeas hlt)
        clear more next hmeas stop hbu hlt
        go_wp2_with fail
        clear x1 x2
        go_roundg ((u.extract 0 (u.size - 1)).size - j)
        case measure => have := ms.out; have := hh.out.2; omega
        case rel => obtain ⟨u', h, a, b, _, d⟩ := st.out; cases h; exact ⟨_, rfl, a, b, rfl, d.out.1, rfl⟩
      have d10 : (bt u (u.size - 1) == 10) = false := by simpa using c10
      have e10 : decide (bt u (u.size - 1) = 10) = false := by simpa using c10
      by_cases c13 : bt u (u.size - 1) = 13
      · have C := Lib.hid c13
        have d13 : (bt u (u.size - 1) == 13) = true := by simpa using c13
        have e13 : decide (bt u (u.size - 1) = 13) = true := by simpa using c13
        clear c13
        have hlt := more (by rw [C.out]; decide)
        have st := Lib.hid (next hlt)
        have ms := Lib.hid (hmeas hlt)
        clear more next hmeas stop hbu hlt
        go_wp2_with fail
        clear x1 x2
        go_roundg ((u.extract 0 (u.size - 1)).size - j)
        case measure => have := ms.out; have := hh.out.2; omega
        case rel => obtain ⟨u', h, a, b, _, d⟩ := st.out; cases h; exact ⟨_, rfl, a, b, rfl, d.out.1, rfl⟩
      have d13 : (bt u (u.size - 1) == 13) = false := by simpa using c13
      have e13 : decide (bt u (u.size - 1) = 13) = false := by simpa using c13
      have hE : j = u.size := by
        rcases Nat.lt_or_ge j u.size with hl | hg
        · have hk := HW.out (u.size - 1) (by omega) (by omega)
          rw [← hbu] at hk
          unfold isWs at hk
          omega
        · omega
      have st := Lib.hid (stop hE)
      clear more next hmeas stop hbu hE c32 c9 c10 c13 x2
      go_wp2_with fail
      go_ret
      exact ⟨st.out, rfl⟩
    · have hE : j = u.size := by omega
      have st := Lib.hid (stop hE)
      clear stop hE
      go_wp2_with fail
      go_ret
      exact ⟨st.out, rfl⟩

/-- A result of the program's in memory: its kind, text, string, number, place. -/
def resCells (k : Int) (raw str : ByteArray) (x : Nat) (i : Int) : Array Value := #[.int .i64 k, .string raw, .string str, .float .f64 x, .int .i64 i, .slice none 0 0]
theorem exists_yes (w : World) (k : Int) (raw str : ByteArray) (x : Nat) (i : Int) (h : k ≠ 0 ∨ 0 < raw.size) : Calls Tryz.prog 37 #[.agg (resCells k raw str x i)] w fun e w' => e = .returned (.bool true) ∧ w' = w.alloc (.cells (resCells k raw str x i) 49) := by
  unfold resCells
  by_cases hk : k = 0
  · have hr : 0 < raw.size := by
      rcases h with h | h
      · exact absurd hk h
      · exact h
    have d1 : (k != 0) = false := by simpa using hk
    have d2 : decide (k ≠ 0) = false := by simpa using hk
    have d3 : ((raw.size : Int) != 0) = true := bne_iff_ne.2 (by omega)
    have d4 : decide ((raw.size : Int) ≠ 0) = true := decide_eq_true (by omega)
    clear hk h
    go_enter Tryz.func37, Tryz.ntmps37
    go_wp2_with fail
    go_ret
    exact ⟨rfl, rfl⟩
  · have d1 : (k != 0) = true := by simpa using hk
    have d2 : decide (k ≠ 0) = true := by simpa using hk
    clear hk h
    go_enter Tryz.func37, Tryz.ntmps37
    go_wp2_with fail
    go_ret
    exact ⟨rfl, rfl⟩
end Go.Proofs.YtcnkbdbkglggcaaGreatDoor

namespace Go.Proofs.YtcnkbdbkglggcaaGreatDoor
open Go.RowKit

set_option maxHeartbeats 2000000 in
theorem object_any (w : World) (raw st : ByteArray) (i : Int) (p keys : Bool) (A1 A2 : Option Addr) (l1 l2 n1 n2 : Nat) (hc : bt raw 0 = if keys then 123 else 91) :
    Calls Tryz.prog 17 #[.agg #[.int .i64 5, .string raw, .int .i64 i, .string st, .bool p, .slice A1 l1 n1, .slice A2 l2 n2]] w fun e w' => e = .returned (.bool keys) ∧ Upd [] w w' := by
  have hz : 0 < raw.size := lt_of_bt (by rw [hc]; cases keys <;> decide)
  have hb : ((raw[0].toNat : Int)) = if keys then 123 else 91 := by rw [bt_lt hz]; exact hc
  have hl : raw.data.toList ≠ [] := fun h => by
    have h2 : raw.data.toList.length = 0 := by rw [h]; rfl
    have h3 : raw.data.toList.length = raw.size := by simp
    omega
  have hl2 : (raw.toList = []) = False := by rw [ByteArray.toList_eq]; exact eq_false hl
  have hne : raw.toList.isEmpty = false := by rw [ByteArray.toList_eq]; cases hl3 : raw.data.toList with | nil => exact absurd hl3 hl | cons _ _ => rfl
  clear hl
  clear hc
  go_enter Tryz.func17, Tryz.ntmps17
  cases keys with
  | true =>
    have d1 : ((raw[0].toNat : Int) == 123) = true := beq_iff_eq.2 hb
    clear hb
    go_wp2_with fail
    go_ret
    exact ⟨rfl, (Upd.refl [] w).alloc _⟩
  | false =>
    have hb2 : (raw[0].toNat : Int) = 91 := hb
    have d1 : ((raw[0].toNat : Int) == 123) = false := beq_eq_false_iff_ne.2 (by omega)
    clear hb hb2
    go_wp2_with fail
    go_ret
    exact ⟨rfl, (Upd.refl [] w).alloc _⟩
end Go.Proofs.YtcnkbdbkglggcaaGreatDoor

namespace Go.Proofs.YtcnkbdbkglggcaaGreatDoor
open Go.RowKit

/-- As Q; a jump to one of three labels hands on what belongs to it, at a smaller number. -/
def Exit3 (l1 l2 l3 : Nat) (J1 J2 J3 : Nat → Act → World → Prop) (n : Nat) (Q : Exit → Act → World → Prop) : Exit → Act → World → Prop
  | .goto l, a, w => ∃ m, m < n ∧ ((l = l1 ∧ J1 m a w) ∨ (l = l2 ∧ J2 m a w) ∨ (l = l3 ∧ J3 m a w))
  | e, a, w => Q e a w
section
variable {P : Program} {Q : Exit → Act → World → Prop} {a : Act} {w : World} {l1 l2 l3 : Nat} {J1 J2 J3 : Nat → Act → World → Prop} {n : Nat}
theorem exit3_normal : Exit3 l1 l2 l3 J1 J2 J3 n Q .normal a w = Q .normal a w := rfl
theorem exit3_exit (i : Nat) : Exit3 l1 l2 l3 J1 J2 J3 n Q (.exit i) a w = Q (.exit i) a w := rfl
theorem exit3_goto (l : Nat) : Exit3 l1 l2 l3 J1 J2 J3 n Q (.goto l) a w = ∃ m, m < n ∧ ((l = l1 ∧ J1 m a w) ∨ (l = l2 ∧ J2 m a w) ∨ (l = l3 ∧ J3 m a w)) := rfl
theorem exit3_mono {n' : Nat} (h : n ≤ n') (e : Exit) (a : Act) (w : World) (q : Exit3 l1 l2 l3 J1 J2 J3 n Q e a w) : Exit3 l1 l2 l3 J1 J2 J3 n' Q e a w := by
  cases e with
  | goto l =>
    obtain ⟨m, h1, h2⟩ := q
    exact ⟨m, by omega, h2⟩
  | normal => exact q
  | exit i => exact q
  | ret => exact q
  | panic ch => exact q
  | outgrown => exact q
theorem wp_skipped {r : Code} {R : Exit → Act → World → Prop} (h : r.wp P R a w) : (Code.seq .skip r).wp P R a w := wp_seq (wp_skip h)
/-- A scope with three labels; each pass from a label leads on, or to a label at a smaller number. -/
theorem wp_scope_three {c r1 r2 r3 : Code} (n0 : Nat) (f1 : findLabel c l1 = some (.seq .skip r1)) (f2 : findLabel c l2 = some (.seq .skip r2)) (f3 : findLabel c l3 = some (.seq .skip r3))
    (p3 : ∀ n a w, J3 n a w → r3.wp P (Exit3 l1 l2 l3 J1 J2 J3 n Q) a w)
    (p2 : (∀ n a w, J3 n a w → r3.wp P (Exit3 l1 l2 l3 J1 J2 J3 n Q) a w) → ∀ n a w, J2 n a w → r2.wp P (Exit3 l1 l2 l3 J1 J2 J3 n Q) a w)
    (p1 : ∀ n a w, J1 n a w → r1.wp P (Exit3 l1 l2 l3 J1 J2 J3 n Q) a w)
    (first : (∀ n a w, J1 n a w → r1.wp P (Exit3 l1 l2 l3 J1 J2 J3 n Q) a w) → c.wp P (Exit3 l1 l2 l3 J1 J2 J3 n0 Q) a w) : (Code.scope c).wp P Q a w := by
  intro b k cs
  have q2 := p2 p3
  have key : ∀ n l r a w, ((l = l1 ∧ r = r1 ∧ J1 n a w) ∨ (l = l2 ∧ r = r2 ∧ J2 n a w) ∨ (l = l3 ∧ r = r3 ∧ J3 n a w)) →
      ∃ e a' w', Q e a' w' ∧ Arrives P (lone (b.at a (.code (.seq .skip r) :: .inScope c :: k)) cs w) b k cs e a' w' := by
    intro n
    induction n using Nat.strongRecOn with
    | _ n ih =>
      intro l r a w h
      have hw : (Code.seq .skip r).wp P (Exit3 l1 l2 l3 J1 J2 J3 n Q) a w := by
        rcases h with ⟨_, rfl, h⟩ | ⟨_, rfl, h⟩ | ⟨_, rfl, h⟩
        · exact wp_skipped (p1 _ _ _ h)
        · exact wp_skipped (q2 _ _ _ h)
        · exact wp_skipped (p3 _ _ _ h)
      obtain ⟨e, a₁, w₁, hq, harr⟩ := hw b (.inScope c :: k) cs
      cases e with
      | normal => exact ⟨.normal, a₁, w₁, hq, Steps.trans harr (.one step_inScope)⟩
      | exit id => exact ⟨.exit id, a₁, w₁, hq, fun k' hk => harr k' (by simp [exitTo, hk])⟩
      | goto l' =>
        obtain ⟨m, hm, hh⟩ := hq
        obtain ⟨r', hf', hh'⟩ : ∃ r', findLabel c l' = some (.seq .skip r') ∧ ((l' = l1 ∧ r' = r1 ∧ J1 m a₁ w₁) ∨ (l' = l2 ∧ r' = r2 ∧ J2 m a₁ w₁) ∨ (l' = l3 ∧ r' = r3 ∧ J3 m a₁ w₁)) := by
          rcases hh with ⟨rfl, hj⟩ | ⟨rfl, hj⟩ | ⟨rfl, hj⟩
          · exact ⟨_, f1, .inl ⟨rfl, rfl, hj⟩⟩
          · exact ⟨_, f2, .inr (.inl ⟨rfl, rfl, hj⟩)⟩
          · exact ⟨_, f3, .inr (.inr ⟨rfl, rfl, hj⟩)⟩
        obtain ⟨e₂, a₂, w₂, hq₂, harr₂⟩ := ih m hm l' r' a₁ w₁ hh'
        have hg : gotoIn l' (.inScope c :: k) = some (.code (.seq .skip r') :: .inScope c :: k) := by simp [gotoIn, hf']
        exact ⟨e₂, a₂, w₂, hq₂, .of_steps (harr _ hg) harr₂⟩
      | ret => exact ⟨_, a₁, w₁, hq, harr⟩
      | panic ch => exact ⟨_, a₁, w₁, hq, harr⟩
      | outgrown => exact ⟨_, a₁, w₁, hq, harr⟩
  obtain ⟨e, a₁, w₁, hq, harr⟩ := first p1 b (.inScope c :: k) cs
  cases e with
  | normal => exact ⟨.normal, a₁, w₁, hq, .head step_scope (Steps.trans harr (.one step_inScope))⟩
  | exit id => exact ⟨.exit id, a₁, w₁, hq, fun k' hk => .head step_scope (harr k' (by simp [exitTo, hk]))⟩
  | goto l' =>
    obtain ⟨m, hm, hh⟩ := hq
    obtain ⟨r', hf', hh'⟩ : ∃ r', findLabel c l' = some (.seq .skip r') ∧ ((l' = l1 ∧ r' = r1 ∧ J1 m a₁ w₁) ∨ (l' = l2 ∧ r' = r2 ∧ J2 m a₁ w₁) ∨ (l' = l3 ∧ r' = r3 ∧ J3 m a₁ w₁)) := by
      rcases hh with ⟨rfl, hj⟩ | ⟨rfl, hj⟩ | ⟨rfl, hj⟩
      · exact ⟨_, f1, .inl ⟨rfl, rfl, hj⟩⟩
      · exact ⟨_, f2, .inr (.inl ⟨rfl, rfl, hj⟩)⟩
      · exact ⟨_, f3, .inr (.inr ⟨rfl, rfl, hj⟩)⟩
    obtain ⟨e₂, a₂, w₂, hq₂, harr₂⟩ := key m l' r' a₁ w₁ hh'
    have hg : gotoIn l' (.inScope c :: k) = some (.code (.seq .skip r') :: .inScope c :: k) := by simp [gotoIn, hf']
    exact ⟨e₂, a₂, w₂, hq₂, .of_steps (.head step_scope (harr _ hg)) harr₂⟩
  | ret => exact ⟨_, a₁, w₁, hq, .of_steps (.one step_scope) harr⟩
  | panic ch => exact ⟨_, a₁, w₁, hq, .of_steps (.one step_scope) harr⟩
  | outgrown => exact ⟨_, a₁, w₁, hq, .of_steps (.one step_scope) harr⟩

theorem jump_normal {l : Nat} {J : Act → World → Prop} : Exit.jump l J Q .normal a w = Q .normal a w := rfl
theorem jump_exit {l : Nat} {J : Act → World → Prop} (i : Nat) : Exit.jump l J Q (.exit i) a w = Q (.exit i) a w := rfl
theorem jump_ret {l : Nat} {J : Act → World → Prop} : Exit.jump l J Q .ret a w = Q .ret a w := rfl
theorem jump_goto {l l' : Nat} {J : Act → World → Prop} : Exit.jump l J Q (.goto l') a w = (l' = l ∧ J a w) := rfl
theorem noGoto_jump {l : Nat} {J : Act → World → Prop} (e : Exit) (a : Act) (w : World) (q : Exit.noGoto Q e a w) : Exit.jump l J Q e a w := by
  cases e with
  | goto l => exact q.elim
  | normal => exact q
  | exit i => exact q
  | ret => exact q
  | panic ch => exact q
  | outgrown => exact q
/-- A scope with one label; the pass from it leads on. -/
theorem wp_scope_mid {c r : Code} (l : Nat) (J : Act → World → Prop) (hf : findLabel c l = some (.seq .skip r))
    (pass : ∀ a w, J a w → r.wp P (Exit.noGoto Q) a w)
    (first : (∀ a w, J a w → r.wp P (Exit.jump l J Q) a w) → c.wp P (Exit.jump l J Q) a w) : (Code.scope c).wp P Q a w := by
  refine wp_scope_jumps l J (fun _ _ => 0) hf (first fun a w h => wp_mono (pass a w h) noGoto_jump) fun a w h => wp_skipped (wp_mono (pass a w h) noGoto_jump)
end
/-- A list of known length, its head apart. -/
theorem list_split {n : Nat} {L : List Value} (h : L.length = n + 1) : ∃ x T, T.length = n ∧ L = x :: T := by
  cases L with
  | nil => simp at h
  | cons x T => exact ⟨x, T, by simpa using h, rfl⟩
end Go.Proofs.YtcnkbdbkglggcaaGreatDoor

namespace Go.Proofs.YtcnkbdbkglggcaaGreatDoor
open Go.RowKit

section
variable {P : Program} {ops : Array Oper} {Q : Exit → Act → World → Prop} {md : Region.Mode} {S : Array Bool → World → Prop}
/-- Whatever order is picked; what holds behind an operation hangs on which have come up. -/
def wpAnyL (P : Program) (md : Region.Mode) (ops : Array Oper) (Q : Exit → Act → World → Prop) (S : Array Bool → World → Prop) : Nat → Array Bool → Act → World → Prop
  | 0, L, a, w => Region.ready md ops L = [] ∧ Q .normal a w
  | n + 1, L, a, w => (Region.ready md ops L = [] → Q .normal a w) ∧
    ∀ i ∈ Region.ready md ops L, wpOp P ops Q i (fun a' w' => S (L.setIfInBounds i true) w' ∧ wpAnyL P md ops Q S n (L.setIfInBounds i true) a' w') a w
theorem wpAny_of_L : ∀ (n : Nat) (L : Array Bool) (a : Act) (w : World), wpAnyL P md ops Q S n L a w → wpAny P md ops Q n L a w
  | 0, _, _, _, h => h
  | n + 1, _, _, _, h => ⟨h.1, fun i hi => wpOp_mono (fun a' w' h' => wpAny_of_L n _ a' w' h'.2) (h.2 i hi)⟩
theorem wpAnyL_first {i : Nat} {oi : Oper} {v : Value} (T : World → Prop) (hi : ops[i]? = some oi) (hsel : ∀ (j : Nat) (o : Oper) cs b, ops[j]? = some o → o.op ≠ .select cs b)
    (hQ : ∀ c a w, Q (.panic c) (a.put oi.dst v) w → Q (.panic c) a w) (hT : ∀ L w, S L w → L.getD i true = false → T w)
    (hC : ∀ L j w w0, S L w0 → L.getD i true = false → j ≠ i → j ∈ Region.ready md ops L → S ((L.setIfInBounds i true).setIfInBounds j true) w → S (L.setIfInBounds j true) w) :
    ∀ (n : Nat) (L : Array Bool) (a : Act) (w : World),
      (∀ j oj, ops[j]? = some oj → j ≠ i → L.getD j true = false → (∀ e ∈ oj.after, Region.binds md e = true → e.on ≠ i) → oi.apart ops oj = true) →
      i ∈ Region.ready md ops L → YieldsIf P ops T oi v a → S L w → S (L.setIfInBounds i true) w →
      wpAnyL P md ops Q S n (L.setIfInBounds i true) (a.put oi.dst v) w → wpAnyL P md ops Q S (n + 1) L a w := by
  intro n
  induction n with
  | zero =>
    intro L a w _ hr hy hS hS' H
    refine ⟨fun h => (by rw [h] at hr; cases hr), fun j hj => ?_⟩
    by_cases hji : j = i
    · subst hji
      exact hy.wpOp hi (hT L w hS (mem_ready.1 hr).1) ⟨hS', H⟩
    · have := ready_mono hj hji
      rw [H.1] at this
      cases this
  | succ n ih =>
    intro L a w hfree hr hy hS hS' H
    refine ⟨fun h => (by rw [h] at hr; cases hr), fun j hj => ?_⟩
    by_cases hji : j = i
    · subst hji
      exact hy.wpOp hi (hT L w hS (mem_ready.1 hr).1) ⟨hS', H⟩
    · have h1 := H.2 j (ready_mono hj hji)
      obtain ⟨hjun, oj, hoj, hall⟩ := mem_ready.1 hj
      have hiun := (mem_ready.1 hr).1
      have hno : ∀ e ∈ oj.after, Region.binds md e = true → e.on ≠ i := fun e he hb heq => by
        have h2 := hall e he hb
        rw [heq] at h2
        rcases Nat.lt_or_ge i L.size with h' | h'
        · simp [h'] at hiun h2; rw [hiun] at h2; cases h2
        · simp [Array.getElem?_eq_none h'] at h2
      have h2 := wpOp_putIf hoj (hfree j oj hoj hji hjun hno) (fun cs b => hsel i oi cs b hi) (fun cs b => hsel j oj cs b hoj) hQ hy h1
      have hfree' : ∀ k ok, ops[k]? = some ok → k ≠ i → (L.setIfInBounds j true).getD k true = false → (∀ e ∈ ok.after, Region.binds md e = true → e.on ≠ i) → oi.apart ops ok = true := fun k ok hk hki hun hn => by
        refine hfree k ok hk hki ?_ hn
        by_cases hjk : j = k
        · subst hjk; exact hjun
        · rw [getD_set_ne true hjk] at hun; exact hun
      refine wpOp_mono (fun a' w' h3 => ?_) h2
      have h4 := hC L j w' w hS hiun hji hj h3.2.1
      refine ⟨h4, ih (L.setIfInBounds j true) a' w' hfree' (ready_mono hr (Ne.symm hji)) h3.1 h4 ?_ ?_⟩
      · rw [Array.setIfInBounds_comm _ _ hji]; exact h3.2.1
      · rw [Array.setIfInBounds_comm _ _ hji]; exact h3.2.2
/-- Which have come up fits the edges E. -/
def rch (E : List (Nat × Nat)) (L : Array Bool) : Bool := E.all fun p => !L.getD p.1 false || L.getD p.2 false
/-- Till t has come up, S0 holds. -/
def SL (E : List (Nat × Nat)) (t : Nat) (S0 : World → Prop) (L : Array Bool) (w : World) : Prop := rch E L = true ∧ (L.getD t false = true ∨ S0 w)
def edgesOK (md : Region.Mode) (ops : Array Oper) (E : List (Nat × Nat)) : Bool := E.all fun p => match ops[p.1]? with
  | some o => o.after.any fun e => Region.binds md e && e.on == p.2
  | none => true
theorem rch_step {E : List (Nat × Nat)} {L : Array Bool} {j : Nat} (hE : edgesOK md ops E = true) (h : rch E L = true) (hj : j ∈ Region.ready md ops L) : rch E (L.setIfInBounds j true) = true := by
  unfold rch at *
  rw [List.all_eq_true] at *
  intro p hp
  have h1 := h p hp
  simp only [Bool.or_eq_true, Bool.not_eq_true'] at h1 ⊢
  by_cases hpj : j = p.1
  · right
    refine getD_set_true ?_
    obtain ⟨_, o, ho, hall⟩ := mem_ready.1 hj
    have h2 := List.all_eq_true.1 hE p hp
    rw [← hpj, ho] at h2
    obtain ⟨e, he, hb⟩ := Array.any_eq_true'.1 h2
    simp only [Bool.and_eq_true, beq_iff_eq] at hb
    rw [← hb.2]
    exact hall e he hb.1
  · rw [getD_set_ne false hpj]
    rcases h1 with h1 | h1
    · exact .inl h1
    · exact .inr (getD_set_true h1)
/-- Take number i first: whoever comes up before it leaves S0 as it is. -/
theorem wpAnyL_take {E : List (Nat × Nat)} {t : Nat} {S0 : World → Prop} {i : Nat} {oi : Oper} {v : Value} {n : Nat} {L : Array Bool} {a : Act} {w : World} (hi : ops[i]? = some oi)
    (hs : Region.noSelect ops = true) (hE : edgesOK md ops E = true) (hP : ∀ L, rch E L = true → L.getD t false = true → L.getD i false = true) (hit : i ≠ t) (hf : Region.free md ops L i = true) (hr : (Region.ready md ops L).contains i = true)
    (hQ : ∀ c a w, Q (.panic c) (a.put oi.dst v) w → Q (.panic c) a w) (hR : rch E L = true) (hR' : rch E (L.setIfInBounds i true) = true) (hS : S0 w) (hy : YieldsIf P ops S0 oi v a)
    (h : wpAnyL P md ops Q (SL E t S0) n (L.setIfInBounds i true) (a.put oi.dst v) w) : wpAnyL P md ops Q (SL E t S0) (n + 1) L a w := by
  refine wpAnyL_first S0 hi (Region.noSelect_spec hs) hQ (fun L w hSL hun => ?_) (fun L j w w0 hSL hun hji hj h3 => ⟨rch_step hE hSL.1 hj, ?_⟩) n L a w (Region.free_spec hi hf) (by simpa using hr) hy ⟨hR, .inr hS⟩ ⟨hR', .inr hS⟩ h
  · rcases hSL.2 with h1 | h1
    · have h2 := hP L hSL.1 h1
      rcases Nat.lt_or_ge i L.size with h' | h'
      · simp [h'] at hun h2; rw [hun] at h2; cases h2
      · simp [Array.getElem?_eq_none h'] at h2
    · exact h1
  · rw [← Array.setIfInBounds_comm _ _ hji] at h3
    have h4 := h3.2
    rw [getD_set_ne false hit] at h4
    exact h4
def AllReadyL (P : Program) (md : Region.Mode) (ops : Array Oper) (Q : Exit → Act → World → Prop) (S : Array Bool → World → Prop) (n : Nat) (L : Array Bool) (a : Act) (w : World) (rs : List Nat) : Prop :=
  ∀ i ∈ rs, wpOp P ops Q i (fun a' w' => S (L.setIfInBounds i true) w' ∧ wpAnyL P md ops Q S n (L.setIfInBounds i true) a' w') a w
theorem AllReadyL.nil {n : Nat} {L : Array Bool} {a : Act} {w : World} : AllReadyL P md ops Q S n L a w [] := fun _ h => by cases h
theorem AllReadyL.cons {n : Nat} {L : Array Bool} {a : Act} {w : World} {i : Nat} {o : Oper} {rs : List Nat} (ho : ops[i]? = some o)
    (h : ∀ K' : Act → World → Prop, Shut (∀ a w, S (L.setIfInBounds i true) w → wpAnyL P md ops Q S n (L.setIfInBounds i true) a w → K' a w) → if Region.wanted o (yielded ops a.tmps) = true then Oper.wp P o a w K' Q else K' (a.put o.dst undef) w)
    (hs : AllReadyL P md ops Q S n L a w rs) : AllReadyL P md ops Q S n L a w (i :: rs) := fun j hj => by
  rcases List.mem_cons.1 hj with rfl | hj
  · exact wpOp_step ho (fun K' hK => h K' (fun a w hS hW => hK a w ⟨hS, hW⟩))
  · exact hs j hj
theorem wpAnyL_ready {rs : List Nat} {n : Nat} {L : Array Bool} {a : Act} {w : World} (hr : Region.ready md ops L = rs) (hne : rs ≠ []) (h : AllReadyL P md ops Q S n L a w rs) : wpAnyL P md ops Q S (n + 1) L a w :=
  ⟨fun h0 => absurd (hr ▸ h0) hne, hr ▸ h⟩
theorem wpAnyL_done {L : Array Bool} {a : Act} {w : World} (hr : Region.ready md ops L = []) (h : Q .normal a w) : ∀ n, wpAnyL P md ops Q S n L a w
  | 0 => ⟨hr, h⟩
  | _ + 1 => ⟨fun _ => h, by rw [hr]; simp⟩
theorem wp_region_L {id : Nat} {a : Act} {w : World} (hm : P.follows .mixedOrders = true) (h : wpAnyL P .any ops Q S ops.size (Array.replicate ops.size false) a w.drew) : (Code.region id ops true).wp P Q a w :=
  wp_region_any hm (wpAny_of_L _ _ _ _ h)
end
end Go.Proofs.YtcnkbdbkglggcaaGreatDoor
