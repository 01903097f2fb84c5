/-
  'parseAny' where only white space and a closing bracket stand till the end; sums of floats that are no NaN; 'parseAny' on any value. Conditions: the lists of the library.
  What 'ForEach' goes through: the elements of an object or an array, from left to right; what its memory holds. Plain law, and the contracts for a key. No condition but the lists' lengths.
-/
import Derived.Test.YtcnkbdbkglggcaaGreatDoorZMJ
import Derived.Test.YtcnkbdbkglggcaaGreatDoorYGyE
import Derived.Test.YtcnkbdbkglggcaaGreatDoorYGyF
import Derived.Test.YtcnkbdbkglggcaaGreatDoorZMR
import Derived.RegionTactic
set_option linter.unusedVariables false
set_option linter.unusedSimpArgs false
namespace Go.Proofs.YtcnkbdbkglggcaaGreatDoor
open Go.RowKit

theorem add_nn {x : Nat} (hx : NN x) : ∃ r, Ieee.double.add x 4607182418800017408 = some r ∧ NN r := by
  obtain ⟨t, n, j, hy⟩ : ∃ t n j, Ieee.double.read 4607182418800017408 = .number t n j := ⟨_, _, _, rfl⟩
  unfold Ieee.Format.add
  rw [hy]
  rcases hx with ⟨s, m, i, hx⟩ | ⟨s, hx⟩
  · rw [hx]
    unfold Ieee.Datum.sum
    exact ⟨_, rfl, nn_nearest _ _ _⟩
  · rw [hx]
    exact ⟨_, rfl, nn_word _ _ (Nat.le_refl _)⟩
theorem run_addf {x r : Nat} (h : Ieee.double.add x 4607182418800017408 = some r) (w : World) : (binOp .add 32 (.float .f64 x) (.float .f64 4607182418800017408)).run Tryz.prog w = .ok (.float .f64 r) w := by
  refine run_float_arith w .add 32 .f64 x 4607182418800017408 r ?_
  show (FloatKind.f64).format.add x 4607182418800017408 = some r
  rw [show (FloatKind.f64).format = Ieee.double from rfl]
  exact h
/-- A value of the text v from a to behind it at b, of kind k. -/
structure VQ (v : ByteArray) (a b : Nat) (k : Int) : Prop where
  lt : a < b
  le : b ≤ v.size
  kd : k = kindOf (bt v a)
  str : bt v a = 34 → ∃ o, StrQ v a b o
  wt : bt v a = 116 → WordQ v a b uTrue
  wf : bt v a = 102 → WordQ v a b uFalse
  wn : bt v a = 110 → WordQ v a b uNull
  br : bt v a = 123 ∨ bt v a = 91 → Sq v (b - 1) (a + 1) 1
  num : k = 2 → NumQ v a b
  out : b < v.size → numEnd (bt v b)
/-- What the program's variables hold. -/
structure Glb (w : World) (B : Nat) : Prop where
  flt : Flt w B
  vch : ∀ x : Int, 0 ≤ x → x < 256 → w.cell? ⟨4, x.toNat, none⟩ = some (.int .u8 (vcls x))
  lt : 4 < B
theorem Glb.upd {w w' : World} {B : Nat} (h : Glb w B) (hu : Upd [] w w') : Glb w' B :=
  ⟨h.flt.upd hu, fun x h0 h1 => (hu.cell (p := ⟨4, x.toNat, none⟩) (Nat.lt_of_lt_of_le h.lt h.flt.size) (by simp)).trans (h.vch x h0 h1), h.lt⟩
theorem word_in {v : ByteArray} {a b : Nat} {u : ByteArray} (h : WordQ v a b u) (hu : ∀ k, k < u.size → 97 ≤ bt u k ∧ bt u k ≤ 122) : ∀ y, a + 1 ≤ y → y < b → 97 ≤ bt v y ∧ bt v y ≤ 122 := fun y h1 h2 => by
  have h3 := h.2 (y - a) (by have := h.1; omega)
  rw [show a + (y - a) = y by omega] at h3
  rw [h3]
  exact hu _ (by have := h.1; omega)
theorem letters (u : ByteArray) (n : Nat) (hn : u.size = n) (h : ∀ k : Fin n, 97 ≤ bt u k ∧ bt u k ≤ 122) : ∀ k, k < u.size → 97 ≤ bt u k ∧ bt u k ≤ 122 := fun k hk => h ⟨k, by omega⟩
theorem out_word {v : ByteArray} {b : Nat} (h : b < v.size → numEnd (bt v b)) : b < v.size → bt v b < 97 ∨ 122 < bt v b := fun hb => by
  have := h hb
  unfold numEnd at this
  omega
/-- 'parseAny' on any value behind white space. -/
theorem pany_val (w : World) (B : Nat) (hg : Glb w B) (v : ByteArray) (a0 a b : Nat) (k : Int) (hs : v.size ≤ 65536) (ha0 : a0 ≤ a) (hw : ∀ y, a0 ≤ y → y < a → bt v y ≤ 32) (hq : VQ v a b k) :
    Calls Tryz.prog 67 #[.string v, .int .i64 (a0 : Int), .bool true] w fun e w' => PAny w k (v.extract a b) (fun _ => True) b e w' := by
  have hlt := hq.lt
  have hk := hq.kd
  unfold kindOf at hk
  by_cases h34 : bt v a = 34
  · obtain ⟨o, ho⟩ := hq.str h34
    rw [if_pos h34] at hk
    subst hk
    exact (pany_str w v a0 a b o hs ha0 hw hq.le ho).mono fun e w' h => ⟨by obtain ⟨⟨x, y, z, h1, _⟩, _⟩ := h; exact ⟨x, y, z, h1, trivial⟩, h.2⟩
  rw [if_neg h34] at hk
  by_cases h116 : bt v a = 116
  · rw [if_pos h116] at hk
    subst hk
    exact pany_true w v a0 a b (by omega) ha0 hw hq.le hlt h116 (word_in (hq.wt h116) (letters _ 4 rfl (by decide))) (out_word hq.out)
  rw [if_neg h116] at hk
  by_cases h102 : bt v a = 102
  · rw [if_pos h102] at hk
    subst hk
    exact pany_false w v a0 a b (by omega) ha0 hw hq.le hlt h102 (word_in (hq.wf h102) (letters _ 5 rfl (by decide))) (out_word hq.out)
  rw [if_neg h102] at hk
  by_cases h110 : bt v a = 110
  · rw [if_pos h110] at hk
    subst hk
    exact pany_null w v a0 a b (by omega) ha0 hw hq.le hlt h110 (word_in (hq.wn h110) (letters _ 4 rfl (by decide))) (out_word hq.out) ((hq.wn h110).2 1 (by decide))
  rw [if_neg h110] at hk
  by_cases hbr : bt v a = 123 ∨ bt v a = 91
  · have h5 : k = 5 := by
      rcases hbr with h | h
      · rw [if_pos h] at hk; exact hk
      · rw [if_neg (by omega), if_pos h] at hk; exact hk
    subst h5
    have h1 := pany_json w v a0 a (b - 1) (by omega) ha0 hw hbr (hq.br hbr) (fun w1 hu => (hg.upd hu).vch)
    rw [show b - 1 + 1 = b by omega] at h1
    exact h1
  · rw [if_neg (by omega), if_neg (by omega)] at hk
    subst hk
    exact pany_num w B hg.flt v a0 a b (by omega) ha0 hw hq.le (hq.num rfl) hq.out
set_option maxRecDepth 100000 in
set_option maxHeartbeats 8000000 in
theorem pany_none (w : World) (v : ByteArray) (a0 : Nat) (hs : v.size ≤ 2 ^ 31) (ha0 : a0 ≤ v.size) (hw : ∀ y, a0 ≤ y → y < v.size → bt v y ≤ 32 ∨ bt v y = 93) :
    Calls Tryz.prog 67 #[.string v, .int .i64 (a0 : Int), .bool true] w fun e w' => e = .returned (.tuple #[.int .i64 v.size, .agg (resCells 0 ByteArray.empty ByteArray.empty 0 0), .bool false]) ∧ Upd [] w w' := by
  have HW := Lib.hid hw
  clear hw
  go_enter Tryz.func67, Tryz.ntmps67
  go_wp2_with fail
  have hup := ((Upd.refl [] w).alloc (.cells #[.int .i64 0, .string ⟨#[]⟩, .string ⟨#[]⟩, .float .f64 0, .int .i64 0, .slice none 0 0] 49)).alloc (.cells #[.int .i64 0, .string ⟨#[]⟩, .string ⟨#[]⟩, .float .f64 0, .int .i64 0, .slice none 0 0] 49)
  have hrb := (Blk.new w 49 #[.int .i64 0, .string ⟨#[]⟩, .string ⟨#[]⟩, .float .f64 0, .int .i64 0, .slice none 0 0]).alloc (.cells #[.int .i64 0, .string ⟨#[]⟩, .string ⟨#[]⟩, .float .f64 0, .int .i64 0, .slice none 0 0] 49)
  have htb := Blk.new (w.alloc (.cells #[.int .i64 0, .string ⟨#[]⟩, .string ⟨#[]⟩, .float .f64 0, .int .i64 0, .slice none 0 0] 49)) 49 #[.int .i64 0, .string ⟨#[]⟩, .string ⟨#[]⟩, .float .f64 0, .int .i64 0, .slice none 0 0]
  have hz : (w.alloc (.cells #[.int .i64 0, .string ⟨#[]⟩, .string ⟨#[]⟩, .float .f64 0, .int .i64 0, .slice none 0 0] 49)).heap.size = w.heap.size + 1 := by simp
  rw [hz] at htb
  clear hz
  generalize (w.alloc (.cells #[.int .i64 0, .string ⟨#[]⟩, .string ⟨#[]⟩, .float .f64 0, .int .i64 0, .slice none 0 0] 49)).alloc (.cells #[.int .i64 0, .string ⟨#[]⟩, .string ⟨#[]⟩, .float .f64 0, .int .i64 0, .slice none 0 0] 49) = W at *
  go_loopg [1] (v.size - a0) (fun g x1 wr => ∃ (k : Nat) (B : Bool), a0 ≤ k ∧ k ≤ v.size ∧ x1 = .int .i64 k ∧ wr = W ∧ Hid (g = v.size - k))
  case atStart => exact ⟨a0, true, by omega, ha0, rfl, rfl, rfl⟩
  case round =>
    obtain ⟨k, _, hk0, hk, rfl, rfl, hh⟩ := hrel
    by_cases hlt : k < v.size
    · have hks : k < v.size := by omega
      have hb : (v[k].toNat : Int) ≤ 32 ∨ (v[k].toNat : Int) = 93 := by
        have h1 := HW.out k (by omega) hlt
        have h2 := bt_lt hks
        omega
      clear hrb htb hup
      have d1 : ((v[k].toNat : Int) == 123) = false := beq_eq_false_iff_ne.2 (by omega)
      have d2 : ((v[k].toNat : Int) == 91) = false := beq_eq_false_iff_ne.2 (by omega)
      by_cases hb3 : (v[k].toNat : Int) ≤ 32
      · have hb4 : v[k].toNat ≤ 32 := by omega
        clear hb
        go_wp2_with fail
        go_roundg (v.size - (k + 1))
        case measure => have := hh.out; omega
        case rel => exact ⟨k + 1, true, by omega, by omega, by go_num, rfl, rfl⟩
      · have e32 : decide ((v[k].toNat : Int) ≤ 32) = false := decide_eq_false (by omega)
        have e32' : decide (v[k].toNat ≤ 32) = false := decide_eq_false (by omega)
        have hb5 : (v[k].toNat : Int) = 93 := by omega
        have d34 : ((v[k].toNat : Int) == 34) = false := beq_eq_false_iff_ne.2 (by omega)
        have d110 : ((v[k].toNat : Int) == 110) = false := beq_eq_false_iff_ne.2 (by omega)
        have d116 : ((v[k].toNat : Int) == 116) = false := beq_eq_false_iff_ne.2 (by omega)
        have d102 : ((v[k].toNat : Int) == 102) = false := beq_eq_false_iff_ne.2 (by omega)
        have d43 : ((v[k].toNat : Int) == 43) = false := beq_eq_false_iff_ne.2 (by omega)
        have d45 : ((v[k].toNat : Int) == 45) = false := beq_eq_false_iff_ne.2 (by omega)
        have d48 : ((v[k].toNat : Int) == 48) = false := beq_eq_false_iff_ne.2 (by omega)
        have d49 : ((v[k].toNat : Int) == 49) = false := beq_eq_false_iff_ne.2 (by omega)
        have d50 : ((v[k].toNat : Int) == 50) = false := beq_eq_false_iff_ne.2 (by omega)
        have d51 : ((v[k].toNat : Int) == 51) = false := beq_eq_false_iff_ne.2 (by omega)
        have d52 : ((v[k].toNat : Int) == 52) = false := beq_eq_false_iff_ne.2 (by omega)
        have d53 : ((v[k].toNat : Int) == 53) = false := beq_eq_false_iff_ne.2 (by omega)
        have d54 : ((v[k].toNat : Int) == 54) = false := beq_eq_false_iff_ne.2 (by omega)
        have d55 : ((v[k].toNat : Int) == 55) = false := beq_eq_false_iff_ne.2 (by omega)
        have d56 : ((v[k].toNat : Int) == 56) = false := beq_eq_false_iff_ne.2 (by omega)
        have d57 : ((v[k].toNat : Int) == 57) = false := beq_eq_false_iff_ne.2 (by omega)
        have d105 : ((v[k].toNat : Int) == 105) = false := beq_eq_false_iff_ne.2 (by omega)
        have d73 : ((v[k].toNat : Int) == 73) = false := beq_eq_false_iff_ne.2 (by omega)
        have d78 : ((v[k].toNat : Int) == 78) = false := beq_eq_false_iff_ne.2 (by omega)
        clear hb hb3 hb5
        go_wp2_with fail
        go_roundg (v.size - (k + 1))
        case measure => have := hh.out; omega
        case rel => exact ⟨k + 1, true, by omega, by omega, by go_num, rfl, rfl⟩
    · have hE : k = v.size := by omega
      subst hE
      clear hlt
      have tf := htb.frozen
      have t0 := htb.cell 0
      have t1 := htb.cell 1
      have t2 := htb.cell 2
      have t3 := htb.cell 3
      have t4 := htb.cell 4
      have t5 := htb.cell 5
      have qf := hrb.frozen
      have r0 := hrb.cell 0
      have r1 := hrb.cell 1
      have r2 := hrb.cell 2
      have r3 := hrb.cell 3
      have r4 := hrb.cell 4
      have r5 := hrb.cell 5
      simp only [List.getElem?_toArray, List.getElem?_cons_zero, List.getElem?_cons_succ] at t0 t1 t2 t3 t4 t5 r0 r1 r2 r3 r4 r5
      have rsf := run_store_float64 (P := Tryz.prog)
      go_upto_region 68 with fail
      go_region
      go_wp2_with fail
      have HB := Blk.drew ((((((hrb.set_ 0 (.int .i64 0)).set_ 1 (.string ⟨#[]⟩)).set_ 2 (.string ⟨#[]⟩)).set_ 3 (.float .f64 0)).set_ 4 (.int .i64 0)).set_ 5 (.slice none 0 0))
      exact bodyPost_ret (res_pany HB _ rfl rfl rfl) rfl ⟨rfl, pany_end hup⟩
end Go.Proofs.YtcnkbdbkglggcaaGreatDoor

namespace Go.Proofs.YtcnkbdbkglggcaaGreatDoor
open Go.RowKit

/-- What stands between a key and its value, or between two values. -/
def Gap (c : Int) : Prop := c ≤ 32 ∨ c = 44 ∨ c = 58
theorem VQ.first {v : ByteArray} {a b : Nat} {k : Int} (h : VQ v a b k) : ¬ Gap (bt v a) := by
  have hk := h.kd
  have hn := h.num
  intro hg
  unfold Gap at hg
  unfold kindOf at hk
  rw [if_neg (by omega), if_neg (by omega), if_neg (by omega), if_neg (by omega), if_neg (by omega), if_neg (by omega)] at hk
  have h2 := (hn hk).2.1
  unfold Begin at h2
  unfold isDig at h2
  omega
/-- An element: its key from m to c, its value from a to b. -/
structure El where
  m : Nat
  c : Nat
  key : List Int
  a : Nat
  b : Nat
  kd : Int
def Here (v : ByteArray) (obj : Bool) (i : Nat) (e : El) : Prop :=
  VQ v e.a e.b e.kd ∧ (obj = true → i ≤ e.m ∧ (∀ y, i ≤ y → y < e.m → bt v y ≠ 34) ∧ StrQ v e.m e.c e.key ∧ e.c ≤ e.a ∧ ∀ y, e.c ≤ y → y < e.a → Gap (bt v y)) ∧
    (obj = false → i ≤ e.a ∧ ∀ y, i ≤ y → y < e.a → Gap (bt v y))
def Tail (v : ByteArray) (obj : Bool) (i : Nat) : Prop :=
  i ≤ v.size ∧ (obj = true → ∀ y, i ≤ y → y < v.size → bt v y ≠ 34) ∧ (obj = false → ∀ y, i ≤ y → y < v.size → bt v y ≤ 32 ∨ bt v y = 93)
/-- The elements from i on. -/
inductive Run (v : ByteArray) (obj : Bool) : Nat → List El → Prop
  | done {i : Nat} (h : Tail v obj i) : Run v obj i []
  | step {i : Nat} {e : El} {es : List El} (h : Here v obj i e) (hr : Run v obj (e.b + 1) es) : Run v obj i (e :: es)
/-- The keys and values that were put down are the elements'. -/
inductive Mat (v : ByteArray) (obj : Bool) : List El → List Rs → List Rs → Prop
  | nil : Mat v obj [] [] []
  | snoc {es : List El} {kx vx : List Rs} {e : El} {r q : Rs} (h : Mat v obj es kx vx) (hk : q.k = e.kd) (hr : q.raw = v.extract e.a e.b) (hs : obj = true → r.str = strOfNums e.key) : Mat v obj (es ++ [e]) (kx ++ [r]) (vx ++ [q])
theorem Mat.len {v : ByteArray} {obj : Bool} {es : List El} {kx vx : List Rs} (h : Mat v obj es kx vx) : kx.length = es.length ∧ vx.length = es.length := by
  induction h with
  | nil => exact ⟨rfl, rfl⟩
  | snoc _ _ _ _ ih => simp [ih.1, ih.2]
theorem Mat.nth {v : ByteArray} {obj : Bool} {es : List El} {kx vx : List Rs} (h : Mat v obj es kx vx) : ∀ (n : Nat) (e : El), es[n]? = some e → ∃ r q, kx[n]? = some r ∧ vx[n]? = some q ∧ q.k = e.kd ∧ q.raw = v.extract e.a e.b ∧ (obj = true → r.str = strOfNums e.key) := by
  induction h with
  | nil => exact fun n e h => by cases h
  | @snoc es kx vx e0 r q h hk hr hs ih =>
    intro n e hn
    obtain ⟨l1, l2⟩ := h.len
    by_cases hlt : n < es.length
    · rw [List.getElem?_append_left hlt] at hn
      obtain ⟨r2, q2, h1, h2, h3⟩ := ih n e hn
      exact ⟨r2, q2, by rw [List.getElem?_append_left (by omega)]; exact h1, by rw [List.getElem?_append_left (by omega)]; exact h2, h3⟩
    · rw [List.getElem?_append_right (by omega)] at hn
      have hz : n - es.length = 0 := by
        rcases Nat.eq_zero_or_pos (n - es.length) with h | h
        · exact h
        · rw [List.getElem?_eq_none (by simp only [List.length_cons, List.length_nil]; omega)] at hn
          cases hn
      rw [hz] at hn
      cases hn
      exact ⟨r, q, by rw [List.getElem?_append_right (by omega), show n - kx.length = 0 by omega]; rfl, by rw [List.getElem?_append_right (by omega), show n - vx.length = 0 by omega]; rfl, hk, hr, hs⟩
/-- What 'ForEach' keeps in memory: the text's block, the key's, the value's, and the two slices of the closure. -/
structure FE (W : World) (tb kb vb bk bv : Nat) (tc : Array Value) (r q : Rs) (kx vx : List Rs) (C : World) : Prop where
  t : Blk C tb 49 tc
  k : Blk C kb 49 r.arr
  v : Blk C vb 49 q.arr
  prs : ∃ kv vv, Prs C W.heap.size bk bv kv vv kx vx
  up : UpdF W.heap.size [bk, bv, kb, vb] W C
/-- The blocks are all different. -/
structure Fed (W : World) (tb kb vb bk bv : Nat) : Prop where
  k : bk < tb
  v : bv < tb
  t : tb < kb
  kv : vb = kb + 1
  z : W.heap.size = kb + 2
theorem Prs.upd {w w' : World} {base bk bv : Nat} {kv vv : Value} {kx vx : List Rs} {S : List Nat} (h : Prs w base bk bv kv vv kx vx) (hu : Upd S w w') (h1 : bk ∉ S) (h2 : bv ∉ S) (h3 : ∀ k, base ≤ k → k ∉ S) : Prs w' base bk bv kv vv kx vx :=
  ⟨h.kb.upd hu h1, h.vb.upd hu h2, h.ne, hu.owns h.ok (fun k hk => h3 k (h.ok.lt k hk).1), hu.owns h.ov (fun k hk => h3 k (h.ov.lt k hk).1), h.far⟩
section
variable {W C N : World} {tb kb vb bk bv : Nat} {tc : Array Value} {r q : Rs} {kx vx : List Rs}
theorem FE.upd (h : FE W tb kb vb bk bv tc r q kx vx C) (hu : Upd [] C N) : FE W tb kb vb bk bv tc r q kx vx N := by
  obtain ⟨kv, vv, hp⟩ := h.prs
  exact ⟨h.t.upd hu (by simp), h.k.upd hu (by simp), h.v.upd hu (by simp), ⟨kv, vv, hp.upd hu (by simp) (by simp) (by simp)⟩, h.up.trans (UpdF.of_upd hu h.up.size (by simp))⟩
theorem FE.setK (h : FE W tb kb vb bk bv tc r q kx vx C) (hd : Fed W tb kb vb bk bv) {i : Nat} {u : Value} {r' : Rs} (hr : r'.arr = r.arr.setIfInBounds i u) : FE W tb kb vb bk bv tc r' q kx vx (C.setCell ⟨kb, i, none⟩ u) := by
  obtain ⟨kv, vv, hp⟩ := h.prs
  have h1 := hd.k
  have h2 := hd.v
  have h3 := hd.t
  have h4 := hd.kv
  have h5 := hd.z
  exact ⟨h.t.far (by simp; omega) u, hr ▸ h.k.set_ i u, h.v.far (by simp; omega) u, ⟨kv, vv, hp.upd (S := [kb]) ((Upd.refl [kb] C).setCell (.inl (.head _)) u) (by simp; omega) (by simp; omega) (fun k hk => by simp; omega)⟩, h.up.setCell (.inl (by simp)) u⟩
theorem FE.setV (h : FE W tb kb vb bk bv tc r q kx vx C) (hd : Fed W tb kb vb bk bv) {i : Nat} {u : Value} {q' : Rs} (hr : q'.arr = q.arr.setIfInBounds i u) : FE W tb kb vb bk bv tc r q' kx vx (C.setCell ⟨vb, i, none⟩ u) := by
  obtain ⟨kv, vv, hp⟩ := h.prs
  have h1 := hd.k
  have h2 := hd.v
  have h3 := hd.t
  have h4 := hd.kv
  have h5 := hd.z
  exact ⟨h.t.far (by simp; omega) u, h.k.far (by simp; omega) u, hr ▸ h.v.set_ i u, ⟨kv, vv, hp.upd (S := [vb]) ((Upd.refl [vb] C).setCell (.inl (.head _)) u) (by simp; omega) (by simp; omega) (fun k hk => by simp; omega)⟩, h.up.setCell (.inl (by simp)) u⟩
theorem FE.setAll (h : FE W tb kb vb bk bv tc r q kx vx C) (hd : Fed W tb kb vb bk bv) (p : Rs) :
    FE W tb kb vb bk bv tc r p kx vx ((((((C.setCell ⟨vb, 0, none⟩ (.int .i64 p.k)).setCell ⟨vb, 1, none⟩ (.string p.raw)).setCell ⟨vb, 2, none⟩ (.string p.str)).setCell ⟨vb, 3, none⟩ (.float .f64 p.x)).setCell ⟨vb, 4, none⟩ (.int .i64 p.idx)).setCell ⟨vb, 5, none⟩ (.slice none 0 0)) := by
  have h0 := h.setV hd (i := 0) (u := .int .i64 p.k) (q' := ⟨p.k, q.raw, q.str, q.x, q.idx⟩) rfl
  have h1 := h0.setV hd (i := 1) (u := .string p.raw) (q' := ⟨p.k, p.raw, q.str, q.x, q.idx⟩) rfl
  have h2 := h1.setV hd (i := 2) (u := .string p.str) (q' := ⟨p.k, p.raw, p.str, q.x, q.idx⟩) rfl
  have h3 := h2.setV hd (i := 3) (u := .float .f64 p.x) (q' := ⟨p.k, p.raw, p.str, p.x, q.idx⟩) rfl
  have h4 := h3.setV hd (i := 4) (u := .int .i64 p.idx) (q' := ⟨p.k, p.raw, p.str, p.x, p.idx⟩) rfl
  exact h4.setV hd (i := 5) (u := .slice none 0 0) (q' := p) rfl
theorem FE.step (h : FE W tb kb vb bk bv tc r q kx vx C) (hd : Fed W tb kb vb bk bv) (hk : kx.length ≤ 100000) (hv : vx.length ≤ 100000) :
    Calls Tryz.prog 47 #[.agg r.arr, .agg q.arr, .pointer (some ⟨bk, 0, none⟩), .pointer (some ⟨bv, 0, none⟩)] C fun e w' => e = .returned (.bool true) ∧ FE W tb kb vb bk bv tc r q (kx ++ [r]) (vx ++ [q]) w' := by
  obtain ⟨kv, vv, hp⟩ := h.prs
  have h1 := hd.k
  have h2 := hd.v
  have h3 := hd.t
  have h4 := hd.kv
  have h5 := hd.z
  refine (pairs_step C W.heap.size bk bv kv vv kx vx r q hp h.up.size hk hv).mono ?_
  rintro e w' ⟨rfl, hp', hu⟩
  refine ⟨rfl, (hu.block tb (by omega) (by simp; omega)).trans h.t, (hu.block kb (by omega) (by simp; omega)).trans h.k, (hu.block vb (by omega) (by simp; omega)).trans h.v, hp', h.up.trans ⟨hu.os, hu.tape, hu.output, hu.size, fun k hk2 hk3 => hu.block k hk2 (fun hm => hk3 (by
    simp only [List.mem_cons, List.not_mem_nil, or_false] at hm ⊢
    omega))⟩⟩
/-- The library's variables are as they were. -/
theorem FE.glb {wz : World} {B : Nat} (h : FE W tb kb vb bk bv tc r q kx vx C) (hd : Fed W tb kb vb bk bv) (hg : Glb wz B) (hz : Upd [] wz W) (h1 : wz.heap.size ≤ bk) (h2 : wz.heap.size ≤ bv) : Glb C B := by
  have a1 := hd.k
  have a3 := hd.t
  have a4 := hd.kv
  have a5 := hd.z
  refine hg.upd ⟨h.up.os.trans hz.os, h.up.tape.trans hz.tape, h.up.output.trans hz.output, Nat.le_trans hz.size h.up.size, fun k hk _ => (h.up.block k (by omega) (by simp; omega)).trans (hz.block k hk (by simp))⟩
end
/-- What is left behind 'ForEach'. -/
def FeOut (w : World) (bk bv : Nat) (v : ByteArray) (obj : Bool) (es : List El) (e : Ending) (w' : World) : Prop :=
  e = .returned (.tuple #[]) ∧ (∃ kv vv kx vx, Prs w' w.heap.size bk bv kv vv kx vx ∧ Mat v obj es kx vx) ∧ Upd [bk, bv] w w'
theorem Prs.base {w : World} {base base' bk bv : Nat} {kv vv : Value} {kx vx : List Rs} (h : Prs w base bk bv kv vv kx vx) (hb : base' ≤ base) : Prs w base' bk bv kv vv kx vx :=
  ⟨h.kb, h.vb, h.ne, own_base h.ok hb, own_base h.ov hb, h.far⟩
theorem FE.fin {w W C : World} {tb kb vb bk bv : Nat} {tc : Array Value} {r q : Rs} {kx vx : List Rs} {v : ByteArray} {obj : Bool} {es : List El} (h : FE W tb kb vb bk bv tc r q kx vx C) (hd : Fed W tb kb vb bk bv) (hm : Mat v obj es kx vx) (hu : Upd [] w W) (hz : tb = w.heap.size) :
    FeOut w bk bv v obj es (.returned (.tuple #[])) C := by
  obtain ⟨kv, vv, hp⟩ := h.prs
  have h3 := hd.t
  have h4 := hd.kv
  have h5 := hd.z
  refine ⟨rfl, ⟨kv, vv, kx, vx, hp.base (by omega), hm⟩, h.up.os.trans hu.os, h.up.tape.trans hu.tape, h.up.output.trans hu.output, Nat.le_trans hu.size h.up.size, fun k hk hs => (h.up.block k (by omega) (fun hm2 => ?_)).trans (hu.block k hk (by simp))⟩
  simp only [List.mem_cons, List.not_mem_nil, or_false] at hm2 hs
  omega
/-- What is called for a key. -/
theorem key_facts (v : ByteArray) (a b : Nat) (o : List Int) (hs : v.size ≤ 65536) (hb : b ≤ v.size) (hq : StrQ v a b o) : a + 2 ≤ b ∧ ∃ R U : ByteArray,
    (∀ w1 : World, Calls Tryz.prog 66 #[.string v, .int .i64 ((a : Int) + 1)] w1 fun e w' => ∃ bb : Bool, e = .returned (.tuple #[.int .i64 b, .string R, .bool bb, .bool true]) ∧ (bb = false → U = strOfNums o) ∧ Upd [] w1 w') ∧
    (∀ w, (Instr.slice 9 (.string R) (some (.int .i64 1)) (some (.int .i64 ((R.size : Int) - 1))) none).run Tryz.prog w = .ok (.string U) w) ∧ (IntKind.i64.wrap ((R.size : Int) - 1) = (R.size : Int) - 1) ∧
    (∀ w1 : World, Calls Tryz.prog 41 #[.string U] w1 fun e w' => e = .returned (.string (strOfNums o)) ∧ Upd [] w1 w') := by
  obtain ⟨hab, HU0, _⟩ := str_facts v a b o hs hb hq
  obtain ⟨hc, q, hp, hq34, rfl⟩ := hq
  have hqv : q < v.size := by omega
  rw [Nat.add_sub_cancel] at HU0
  have HPL : (∀ y, a + 1 ≤ y → y < q → bt v y ≠ 92) → v.extract (a + 1) q = strOfNums o := fun hn => by
    have hr := hp.rest q [] .done
    rw [List.append_nil] at hr
    obtain ⟨z1, z2⟩ := hr.plainAll hn
    refine strOf_ext (by omega) z1 z2 fun x hx => ?_
    obtain ⟨y, hy, rfl⟩ := List.getElem_of_mem hx
    have h3 := z2 y hy
    rw [List.getD_eq_getElem?_getD, List.getElem?_eq_getElem hy] at h3
    simp only [Option.getD_some] at h3
    rw [h3]
    have := bt_range v (a + 1 + y)
    omega
  have hRz : (v.extract a (q + 1)).size = q + 1 - a := by simp only [ByteArray.size_extract]; omega
  have hcut : (v.extract a (q + 1)).extract 1 (q - a) = v.extract (a + 1) q := by
    rw [ByteArray.extract_extract]
    congr 1
    omega
  refine ⟨hab, v.extract a (q + 1), v.extract (a + 1) q, fun w1 => (pstring_any w1 v a q o (by omega) hp hc hqv hq34).mono ?_, fun w => ?_, IntWalk.i64_in _ (by omega), HU0⟩
  · rintro e w' ⟨bb, h1, h2, h3⟩
    exact ⟨bb, h1, fun h => HPL (h2 h), h3⟩
  · have := cut_two (v.extract a (q + 1)) 1 (q - a) 1 (((v.extract a (q + 1)).size : Int) - 1) rfl (by omega) (by omega) (by omega) w
    rw [hcut] at this
    exact this
end Go.Proofs.YtcnkbdbkglggcaaGreatDoor
