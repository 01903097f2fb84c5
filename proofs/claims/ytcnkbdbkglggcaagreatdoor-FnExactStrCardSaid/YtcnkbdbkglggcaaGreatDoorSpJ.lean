/-
  What a value of JSON is, and what the reader's 'tree' returns and leaves: words alone. No condition.
-/
import Derived.Test.YtcnkbdbkglggcaaGreatDoorSpI
import Derived.Test.YtcnkbdbkglggcaaGreatDoorSpD
import Derived.Test.YtcnkbdbkglggcaaGreatDoorSpB
namespace Go.Proofs.YtcnkbdbkglggcaaGreatDoor
open Go.RowKit

/-- A tree as it lies in a slice: its kind, text, place, string, whether its surrogates are in pairs, and two slices. -/
structure It where
  kind : Int
  raw : ByteArray
  at_ : Nat
  str : List Int
  pairs : Bool
  kv : Value
  iv : Value
def It.cells (x : It) : List Value := [.int .i64 x.kind, .string x.raw, .int .i64 x.at_, .string (strOfNums x.str), .bool x.pairs, x.kv, x.iv]
def kindOf (c : Int) : Int := if c = 34 then 3 else if c = 116 then 4 else if c = 102 then 1 else if c = 110 then 0 else if c = 123 then 5 else if c = 91 then 5 else 2
/-- At i stands the word u. -/
def WordQ (s : ByteArray) (i j : Nat) (u : ByteArray) : Prop := j = i + u.size ∧ ∀ k, k < u.size → bt s (i + k) = bt u k
def uTrue : ByteArray := ⟨#[116, 114, 117, 101]⟩
def uFalse : ByteArray := ⟨#[102, 97, 108, 115, 101]⟩
def uNull : ByteArray := ⟨#[110, 117, 108, 108]⟩
/-- What is known of a value's text whatever its surrogates. -/
def Shape (s : ByteArray) (i j : Nat) : Prop :=
  (bt s i = 34 → i + 2 ≤ j) ∧ (bt s i = 116 → WordQ s i j uTrue) ∧ (bt s i = 102 → WordQ s i j uFalse) ∧ (bt s i = 110 → WordQ s i j uNull) ∧
  (bt s i = 123 → i + 2 ≤ j ∧ bt s (j - 1) = 125) ∧ (bt s i = 91 → i + 2 ≤ j ∧ bt s (j - 1) = 93) ∧ (kindOf (bt s i) = 2 → NumQ s i j)
/-- The predicate of a value from a place to behind it, of a kind, with a string. -/
abbrev VP := Nat → Nat → Int → List Int → Prop
/-- An element of an object or an array from k to k2. -/
def Elem (s : ByteArray) (V : VP) (keys : Bool) (k k2 : Nat) (key : List Int) (x : It) : Prop :=
  V x.at_ k2 x.kind x.str ∧ x.raw = s.extract x.at_ k2 ∧
  (keys = false → x.at_ = k) ∧ (keys = true → ∃ a c, StrQ s k a key ∧ Ws s a c ∧ bt s c = 58 ∧ Ws s (c + 1) x.at_)
/-- The elements from i to the place k where the next one begins. -/
inductive Elms (s : ByteArray) (V : VP) (keys : Bool) (i : Nat) : Nat → List (List Int) → List It → Prop
  | nil : Elms s V keys i i [] []
  | snoc {k k2 k3 k4 : Nat} {ks : List (List Int)} {its : List It} {key : List Int} {x : It} (h : Elms s V keys i k ks its) (he : Elem s V keys k k2 key x) (hw : Ws s k2 k3) (hc : bt s k3 = 44) (hw' : Ws s (k3 + 1) k4) :
    Elms s V keys i k4 (if keys then ks ++ [key] else ks) (its ++ [x])
/-- An object or an array from its bracket at i to behind the other one at j. -/
def Lst (s : ByteArray) (V : VP) (keys : Bool) (i j : Nat) (ks : List (List Int)) (its : List It) : Prop :=
  ∃ k, Ws s (i + 1) k ∧ ((bt s k = (if keys then 125 else 93) ∧ j = k + 1 ∧ ks = [] ∧ its = []) ∨
    ∃ m m2 m3 ks0 its0 key x, Elms s V keys k m ks0 its0 ∧ Elem s V keys m m2 key x ∧ Ws s m2 m3 ∧ bt s m3 = (if keys then 125 else 93) ∧ j = m3 + 1 ∧ ks = (if keys then ks0 ++ [key] else ks0) ∧ its = its0 ++ [x])
/-- A value with its keys and items. -/
def Top (s : ByteArray) (V : VP) (i j : Nat) (kind : Int) (o : List Int) (ks : List (List Int)) (its : List It) : Prop :=
  kind = kindOf (bt s i) ∧ Shape s i j ∧
  (bt s i = 34 → StrQ s i j o) ∧ (bt s i = 123 → Lst s V true i j ks its) ∧ (bt s i = 91 → Lst s V false i j ks its) ∧ (kind ≠ 5 → ks = [] ∧ its = []) ∧ (kind ≠ 3 → o = [])
/-- A value of JSON of depth below d, all of whose surrogates are in pairs. -/
def Val (s : ByteArray) : Nat → VP
  | 0 => fun _ _ _ _ => False
  | d + 1 => fun i j kind o => ∃ ks its, Top s (Val s d) i j kind o ks its
/-- What a tree's fields hold. -/
structure TreeV where
  kind : Int
  o : List Int
  pairs : Bool
  kv : Value
  iv : Value
  ks : List (List Int)
  its : List It
def kcells (ks : List (List Int)) : List Value := ks.map fun k => .string (strOfNums k)
def icells (its : List It) : List Value := its.flatMap It.cells
def OwnT (w : World) (base : Nat) (t : TreeV) : Prop := w.ownsRow base 9 1 t.kv t.ks.length (kcells t.ks) ∧ w.ownsRow base 25 7 t.iv t.its.length (icells t.its) ∧ t.ks.length ≤ 65536 ∧ t.its.length ≤ 65536
def TreeV.cells (t : TreeV) (i : Nat) (raw : ByteArray) : Array Value := #[.int .i64 t.kind, .string raw, .int .i64 i, .string (strOfNums t.o), .bool t.pairs, t.kv, t.iv]
/-- What a call of 'tree' returns and leaves. -/
def Tree1 (w : World) (b : Nat) (s : ByteArray) (i : Nat) (bad : Bool) (d : Nat) (e : Ending) (w' : World) : Prop :=
  ∃ (t : TreeV) (raw : ByteArray) (j : Nat) (bad' : Bool), e = .returned (.agg (t.cells i raw)) ∧ t.kind = kindOf (bt s i) ∧ Rd w' b s j bad' ∧ Upd [b] w w' ∧ OwnT w' w.heap.size t ∧
    Went s i bad j bad' (raw = s.extract i j ∧ Shape s i j ∧ (t.pairs = true → Top s (Val s d) i j t.kind t.o t.ks t.its))
/-- What is known in 'tree' behind its switch: rb is the result's block, tb the tree's. -/
def TreeMid (w : World) (b rb tb : Nat) (s : ByteArray) (i : Nat) (bad : Bool) (d : Nat) (w' : World) : Prop :=
  ∃ (t : TreeV) (j : Nat) (bad' : Bool), t.kind = kindOf (bt s i) ∧ Rd w' b s j bad' ∧ Upd [b] w w' ∧ OwnT w' (w.heap.size + 2) t ∧ Blk w' tb 25 (t.cells i ByteArray.empty) ∧
    Blk w' rb 25 #[.int .i64 0, .string ⟨#[]⟩, .int .i64 0, .string ⟨#[]⟩, .bool false, .slice none 0 0, .slice none 0 0] ∧
    Went s i bad j bad' (Shape s i j ∧ (t.pairs = true → Top s (Val s d) i j t.kind t.o t.ks t.its))
/-- What a call of 'list' leaves: tb is the tree's block. -/
def List1 (w : World) (b tb : Nat) (s : ByteArray) (i : Nat) (bad : Bool) (d : Nat) (keys : Bool) (c0 c1 c2 c3 : Value) (w' : World) : Prop :=
  ∃ (kv iv : Value) (pairs : Bool) (ks : List (List Int)) (its : List It) (j : Nat) (bad' : Bool), Rd w' b s j bad' ∧ Upd [b, tb] w w' ∧ Blk w' tb 25 #[c0, c1, c2, c3, .bool pairs, kv, iv] ∧
    OwnT w' w.heap.size ⟨5, [], pairs, kv, iv, ks, its⟩ ∧
    Went s i bad j bad' (i + 2 ≤ j ∧ bt s (j - 1) = (if keys then 125 else 93) ∧ (pairs = true → Lst s (Val s d) keys i j ks its))
/-- The shape of whatever is owned. -/
theorem own_slice {w : World} {base n : Nat} {e : TypeId} {size : Nat} {v : Value} {xs : List Value} (h : w.ownsRow base e size v n xs) : ∃ A c, v = .slice A n c := by
  rcases h.2 with ⟨rfl, rfl⟩ | ⟨g, cap, cur, rfl, _⟩
  · exact ⟨none, 0, rfl⟩
  · exact ⟨_, cap, rfl⟩
theorem own_base {w : World} {base base' n : Nat} {e : TypeId} {size : Nat} {v : Value} {xs : List Value} (h : w.ownsRow base e size v n xs) (hb : base' ≤ base) : w.ownsRow base' e size v n xs := by
  obtain ⟨h1, h2⟩ := h
  refine ⟨h1, ?_⟩
  rcases h2 with h2 | ⟨g, cap, cur, hv, hg, r⟩
  · exact .inl h2
  · exact .inr ⟨g, cap, cur, hv, by omega, r⟩
theorem OwnT.base {w : World} {base base' : Nat} {t : TreeV} (h : OwnT w base t) (hb : base' ≤ base) : OwnT w base' t := ⟨own_base h.1 hb, own_base h.2.1 hb, h.2.2⟩
theorem OwnT.upd {S : List Nat} {w w' : World} {base : Nat} {t : TreeV} (h : OwnT w base t) (hu : Upd S w w') (h1 : ∀ k, t.kv.ownBlock = some k → k ∉ S) (h2 : ∀ k, t.iv.ownBlock = some k → k ∉ S) : OwnT w' base t :=
  ⟨hu.owns h.1 h1, hu.owns h.2.1 h2, h.2.2⟩
/-! ### shapes -/
section
variable {s : ByteArray} {V : VP} {i j : Nat}
theorem shape_str (h : bt s i = 34) (hj : i + 2 ≤ j) : Shape s i j := by
  refine ⟨fun _ => hj, fun e => ?_, fun e => ?_, fun e => ?_, fun e => ?_, fun e => ?_, fun e => ?_⟩
  all_goals first | omega | (rw [h] at e; exact absurd e (by decide))
theorem shape_true (h : bt s i = 116) (hj : WordQ s i j uTrue) : Shape s i j := by
  refine ⟨fun e => ?_, fun _ => hj, fun e => ?_, fun e => ?_, fun e => ?_, fun e => ?_, fun e => ?_⟩
  all_goals first | omega | (rw [h] at e; exact absurd e (by decide))
theorem shape_false (h : bt s i = 102) (hj : WordQ s i j uFalse) : Shape s i j := by
  refine ⟨fun e => ?_, fun e => ?_, fun _ => hj, fun e => ?_, fun e => ?_, fun e => ?_, fun e => ?_⟩
  all_goals first | omega | (rw [h] at e; exact absurd e (by decide))
theorem shape_null (h : bt s i = 110) (hj : WordQ s i j uNull) : Shape s i j := by
  refine ⟨fun e => ?_, fun e => ?_, fun e => ?_, fun _ => hj, fun e => ?_, fun e => ?_, fun e => ?_⟩
  all_goals first | omega | (rw [h] at e; exact absurd e (by decide))
theorem shape_obj (h : bt s i = 123) (hj : i + 2 ≤ j ∧ bt s (j - 1) = 125) : Shape s i j := by
  refine ⟨fun e => ?_, fun e => ?_, fun e => ?_, fun e => ?_, fun _ => hj, fun e => ?_, fun e => ?_⟩
  all_goals first | omega | (rw [h] at e; exact absurd e (by decide))
theorem shape_arr (h : bt s i = 91) (hj : i + 2 ≤ j ∧ bt s (j - 1) = 93) : Shape s i j := by
  refine ⟨fun e => ?_, fun e => ?_, fun e => ?_, fun e => ?_, fun e => ?_, fun _ => hj, fun e => ?_⟩
  all_goals first | omega | (rw [h] at e; exact absurd e (by decide))
theorem kind_num (h1 : bt s i ≠ 34) (h2 : bt s i ≠ 116) (h3 : bt s i ≠ 102) (h4 : bt s i ≠ 110) (h5 : bt s i ≠ 123) (h6 : bt s i ≠ 91) : kindOf (bt s i) = 2 := by
  unfold kindOf
  rw [if_neg h1, if_neg h2, if_neg h3, if_neg h4, if_neg h5, if_neg h6]
theorem shape_num (h1 : bt s i ≠ 34) (h2 : bt s i ≠ 116) (h3 : bt s i ≠ 102) (h4 : bt s i ≠ 110) (h5 : bt s i ≠ 123) (h6 : bt s i ≠ 91) (hj : NumQ s i j) : Shape s i j :=
  ⟨fun e => absurd e h1, fun e => absurd e h2, fun e => absurd e h3, fun e => absurd e h4, fun e => absurd e h5, fun e => absurd e h6, fun _ => hj⟩
theorem top_str {o : List Int} (h : bt s i = 34) (hj : i + 2 ≤ j) (hq : StrQ s i j o) : Top s V i j 3 o [] [] :=
  ⟨by rw [h]; decide, shape_str h hj, fun _ => hq, fun e => by omega, fun e => by omega, fun _ => ⟨rfl, rfl⟩, fun e => absurd rfl e⟩
theorem top_plain {k : Int} (hk : k = kindOf (bt s i)) (h34 : bt s i ≠ 34) (h5 : bt s i ≠ 123) (h6 : bt s i ≠ 91) (hs : Shape s i j) : Top s V i j k [] [] [] :=
  ⟨hk, hs, fun e => absurd e h34, fun e => absurd e h5, fun e => absurd e h6, fun _ => ⟨rfl, rfl⟩, fun _ => rfl⟩
theorem top_obj {ks : List (List Int)} {its : List It} (h : bt s i = 123) (hs : Shape s i j) (hl : Lst s V true i j ks its) : Top s V i j 5 [] ks its :=
  ⟨by rw [h]; decide, hs, fun e => by omega, fun _ => hl, fun e => by omega, fun e => absurd rfl e, fun _ => rfl⟩
theorem top_arr {ks : List (List Int)} {its : List It} (h : bt s i = 91) (hs : Shape s i j) (hl : Lst s V false i j ks its) : Top s V i j 5 [] ks its :=
  ⟨by rw [h]; decide, hs, fun e => by omega, fun e => by omega, fun _ => hl, fun e => absurd rfl e, fun _ => rfl⟩
end
theorem own_none (w : World) (base : Nat) (k : Int) (o : List Int) (p : Bool) : OwnT w base ⟨k, o, p, .slice none 0 0, .slice none 0 0, [], []⟩ := ⟨World.ownsRow_nil _ _ _ _, World.ownsRow_nil _ _ _ _, by simp, by simp⟩
/-- 'list' does what it should from places that have at most d bytes before the end. -/
def ListOK (d : Nat) : Prop := ∀ (w : World) (b tb : Nat) (s : ByteArray) (i : Nat) (bad : Bool) (keys : Bool) (endc : Int) (c0 c1 c2 c3 : Value), Rd w b s i bad → s.size ≤ 65536 → i < s.size → s.size - i ≤ d → b ≠ tb →
  Blk w tb 25 #[c0, c1, c2, c3, .bool true, .slice none 0 0, .slice none 0 0] → endc = (if keys then 125 else 93) →
  Calls Tryz.prog 32 #[.pointer (some ⟨b, 0, none⟩), .pointer (some ⟨tb, 0, none⟩), .int .u8 endc, .bool keys] w fun e w' => e = .returned (.tuple #[]) ∧ List1 w b tb s i bad d keys c0 c1 c2 c3 w'
/-- 'tree' does what it should from places that have at most d bytes before the end. -/
def TreeOK (d : Nat) : Prop := ∀ (w : World) (b : Nat) (s : ByteArray) (i : Nat) (bad : Bool), Rd w b s i bad → s.size ≤ 65536 → i ≤ s.size → s.size - i ≤ d →
  Calls Tryz.prog 19 #[.pointer (some ⟨b, 0, none⟩)] w fun e w' => Tree1 w b s i bad d e w'
end Go.Proofs.YtcnkbdbkglggcaaGreatDoor
