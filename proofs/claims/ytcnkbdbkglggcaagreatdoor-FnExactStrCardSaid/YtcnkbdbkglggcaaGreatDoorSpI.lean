/-
  The reader's 'text': a string between quotes; where it is not bad and all surrogates are in pairs, it is what its bytes and escapes stand for. Condition: the text has at most 65536 bytes.
-/
import Derived.Test.YtcnkbdbkglggcaaGreatDoorSpH
import Derived.Lib.AppendStr
namespace Go.Proofs.YtcnkbdbkglggcaaGreatDoor
open Go.RowKit

/-- What has been read of a string's inside from i to k. -/
inductive Pre (s : ByteArray) (i : Nat) : Nat → List Int → Prop
  | start : Pre s i i []
  | plain {k : Nat} {o : List Int} (h : Pre s i k o) (h32 : 32 ≤ bt s k) (h34 : bt s k ≠ 34) (h92 : bt s k ≠ 92) : Pre s i (k + 1) (o ++ [bt s k])
  | esc {k k' : Nat} {o e : List Int} (h : Pre s i k o) (h92 : bt s k = 92) (he : EscQ s (k + 1) k' e) : Pre s i k' (o ++ e)
/-- A string from its quote at i to behind its quote at j, all surrogates in pairs. -/
def StrQ (s : ByteArray) (i j : Nat) (o : List Int) : Prop := bt s i = 34 ∧ ∃ k, Pre s (i + 1) k o ∧ bt s k = 34 ∧ j = k + 1
/-- What a call of 'text' returns and leaves. -/
def Txt1 (w : World) (b : Nat) (s : ByteArray) (i : Nat) (bad : Bool) (e : Ending) (w' : World) : Prop :=
  ∃ (o : List Int) (ok : Bool) (j : Nat) (bad' : Bool), e = .returned (.tuple #[.string (strOfNums o), .bool ok]) ∧ o.length ≤ 4 * s.size ∧ Rd w' b s j bad' ∧ Upd [b] w w' ∧
    Went s i bad j bad' (bt s i = 34 ∧ i + 2 ≤ j ∧ (ok = true → StrQ s i j o))

theorem own_str {w : World} {base n : Nat} {v : Value} {xs : List Int} (h : w.ownsRow base 5 1 v n (xs.map (Value.int .u8))) : (convert 72 9 v).run Tryz.prog w = .ok (.string (strOfNums xs)) w := by
  have hl : xs.length = n := by have := h.1; simpa using this
  rcases h.2 with ⟨rfl, rfl⟩ | ⟨g, cap, cur, rfl, _⟩
  · obtain rfl : xs = [] := List.eq_nil_of_length_eq_zero hl
    exact run_convert_bytes_nil w 72 5 Tryz.underlying72 Tryz.underlying5 0 0 9 Tryz.underlying9
  · refine run_convert_bytes_arg w 72 5 Tryz.underlying72 Tryz.underlying5 g 0 n cap xs hl (fun i hi => ?_) 9 Tryz.underlying9
    have hc := h.cells (g := g) rfl i (.int .u8 (xs.getD i 0)) (by simp [List.getElem?_eq_getElem (show i < xs.length by omega), List.getD_eq_getElem?_getD])
    have hp : (⟨g, 0, none⟩ : Addr).add i = ⟨g, 0 + i, none⟩ := by unfold Addr.add; split <;> simp_all
    rw [hp] at hc; exact hc
theorem cell_new_one (W : World) (c : Value) (n : Nat) (hn : n = W.heap.size) : ∀ j u, [c][j]? = some u → (W.alloc (.cells #[c] 5)).cell? ((⟨n, 0, none⟩ : Addr).add j) = some u := by
  intro j u hj
  subst hn
  match j, hj with
  | 0, hj =>
    simp at hj; subst hj
    exact (Blk.new W 5 #[c]).cell 0
theorem info5 : (Tryz.prog.info? 5).map (fun i => (i.zero, i.size, i.bytes)) = some (some (.int .u8 0), 1, 1) := by kernel_rfl
theorem strCells_nums (o : List Int) (h : ∀ x ∈ o, 0 ≤ x ∧ x < 256) : Lib.strCells (strOfNums o) = o.map (Value.int .u8) := by
  unfold Lib.strCells
  rw [strOfNums_data, List.map_map]
  refine List.map_congr_left fun x hx => ?_
  obtain ⟨h0, h1⟩ := h x hx
  have e : (UInt8.ofNat x.toNat).toNat = x.toNat := by
    rw [UInt8.toNat_ofNat']
    exact Nat.mod_eq_of_lt (by omega)
  simp only [Function.comp]
  rw [e]
  congr 1
  omega

/-- The state at the head of each round of 'text'. -/
def TxtI (w : World) (b : Nat) (s : ByteArray) (i : Nat) (bad : Bool) (v : Value) (pr : Bool) (k : Nat) (o : List Int) (bad' : Bool) (wr : World) : Prop :=
  wr.ownsRow w.heap.size 5 1 v o.length (o.map (Value.int .u8)) ∧ Rd wr b s k bad' ∧ Upd [b] w wr ∧ i ≤ k ∧ k ≤ s.size ∧ o.length ≤ 4 * k ∧
    (bad' = false → bad = false ∧ bt s i = 34 ∧ i + 1 ≤ k ∧ (pr = true → Pre s (i + 1) k o))
theorem TxtI.fin {w : World} {b : Nat} {s : ByteArray} {i : Nat} {bad : Bool} {v : Value} {pr : Bool} {k : Nat} {o : List Int} {wr : World}
    (h : TxtI w b s i bad v pr k o true wr) : Txt1 w b s i bad (.returned (.tuple #[.string (strOfNums o), .bool pr])) wr := by
  obtain ⟨_, h2, h3, h4, h5, h6, _⟩ := h
  exact ⟨o, pr, k, true, rfl, by omega, h2, h3, h4, h5, fun h => by cases h⟩
theorem TxtI.worse {w : World} {b : Nat} {s : ByteArray} {i : Nat} {bad : Bool} {v : Value} {pr bd : Bool} {k : Nat} {o : List Int} {wr : World}
    (h : TxtI w b s i bad v pr k o bd wr) (hb : b < w.heap.size) (n : Nat) : TxtI w b s i bad v pr k o true ((wr.drewN n).setCell ⟨b, 2, none⟩ (.bool true)) := by
  obtain ⟨h1, h2, h3, h4, h5, h6, _⟩ := h
  exact ⟨ownsRow_setCell_below (show (wr.drewN n).ownsRow _ _ _ _ _ _ from h1) hb _, (h2.drewN n).setBad true, (h3.drewN n).setCell (.inl (.head _)) _, h4, h5, h6, fun h => by cases h⟩
theorem TxtI.step {w : World} {b : Nat} {s : ByteArray} {i : Nat} {bad : Bool} {v : Value} {pr bd : Bool} {k : Nat} {o : List Int} {wr : World}
    (h : TxtI w b s i bad v pr k o bd wr) (hb : b < w.heap.size) (n : Nat) (j : Nat) : ((wr.drewN n).setCell ⟨b, 1, none⟩ (.int .i64 j)).ownsRow w.heap.size 5 1 v o.length (o.map (Value.int .u8)) ∧
      Rd ((wr.drewN n).setCell ⟨b, 1, none⟩ (.int .i64 j)) b s j bd ∧ Upd [b] w ((wr.drewN n).setCell ⟨b, 1, none⟩ (.int .i64 j)) := by
  obtain ⟨h1, h2, h3, _⟩ := h
  exact ⟨ownsRow_setCell_below (show (wr.drewN n).ownsRow _ _ _ _ _ _ from h1) hb _, (h2.drewN n).setAt j, (h3.drewN n).setCell (.inl (.head _)) _⟩
theorem TxtI.quote {w : World} {b : Nat} {s : ByteArray} {i : Nat} {bad : Bool} {v : Value} {pr : Bool} {k : Nat} {o : List Int} {wr : World}
    (h : TxtI w b s i bad v pr k o false wr) (hb : b < w.heap.size) (n : Nat) (hk : k < s.size) (h34 : bt s k = 34) :
    Txt1 w b s i bad (.returned (.tuple #[.string (strOfNums o), .bool pr])) ((wr.drewN n).setCell ⟨b, 1, none⟩ (.int .i64 ((k + 1 : Nat) : Int))) := by
  obtain ⟨_, g2, g3⟩ := h.step hb n (k + 1)
  obtain ⟨_, _, _, h4, h5, h6, h7⟩ := h
  obtain ⟨q1, q2, q3, q4⟩ := h7 rfl
  exact ⟨o, pr, k + 1, false, rfl, by omega, g2, g3, by omega, by omega, fun _ => ⟨q1, q2, by omega, fun hp => ⟨q2, k, q4 hp, h34, rfl⟩⟩⟩
/-- One byte more. -/
theorem TxtI.byte {w : World} {b : Nat} {s : ByteArray} {i : Nat} {bad : Bool} {v v' : Value} {pr : Bool} {k : Nat} {o : List Int} {wr w2 : World}
    (h : TxtI w b s i bad v pr k o false wr) (hb : b < w.heap.size) (n : Nat) (hk : k < s.size) (c : Int) (hc : c = bt s k) (h32 : 32 ≤ c) (h34 : c ≠ 34) (h92 : c ≠ 92) (ob : Obj)
    (hown : w2.ownsRow w.heap.size 5 1 v' (o.length + 1) (o.map (Value.int .u8) ++ [.int .u8 c]))
    (hg : (((wr.drewN n).setCell ⟨b, 1, none⟩ (.int .i64 ((k + 1 : Nat) : Int))).alloc ob).grownBy w2 v.ownBlock) : TxtI w b s i bad v' pr (k + 1) (o ++ [c]) false w2 := by
  obtain ⟨g1, g2, g3⟩ := h.step hb n (k + 1)
  obtain ⟨h1, _, _, h4, h5, h6, h7⟩ := h
  obtain ⟨q1, q2, q3, q4⟩ := h7 rfl
  have hlt := h1.lt
  have hne : ∀ x, v.ownBlock = some x → x ∈ [b] ∨ w.heap.size ≤ x := fun x hx => .inr (hlt x hx).1
  refine ⟨by simpa using hown, (g2.alloc ob).grown hg (fun e => ?_), (g3.alloc ob).of_grown hg hne, by omega, by omega, by simp; omega, fun _ => ⟨q1, q2, by omega, fun hp => ?_⟩⟩
  · have := (hlt b e.symm).1
    omega
  · subst hc
    exact .plain (q4 hp) h32 h34 h92
/-- An escape more. -/
theorem TxtI.more {w : World} {b : Nat} {s : ByteArray} {i : Nat} {bad : Bool} {v v' : Value} {pr : Bool} {k : Nat} {o : List Int} {wr w1 w2 : World}
    (h : TxtI w b s i bad v pr k o false wr) (hb : b < w.heap.size) (n : Nat) (h92 : bt s k = 92) {x : List Int} {ok : Bool} {j : Nat} {bad1 : Bool}
    (hsm : Small x) (hr1 : Rd w1 b s j bad1) (hu1 : Upd [b] ((wr.drewN n).setCell ⟨b, 1, none⟩ (.int .i64 ((k + 1 : Nat) : Int))) w1) (hw1 : Went s (k + 1) false j bad1 (ok = true → EscQ s (k + 1) j x))
    (hown : w2.ownsRow w.heap.size 5 1 v' (o.length + (strOfNums x).size) (o.map (Value.int .u8) ++ Lib.strCells (strOfNums x)))
    (hg : w1.grownBy w2 v.ownBlock) : TxtI w b s i bad v' (pr && ok) j (o ++ x) bad1 w2 := by
  obtain ⟨g1, g2, g3⟩ := h.step hb n (k + 1)
  obtain ⟨h1, _, _, h4, h5, h6, h7⟩ := h
  obtain ⟨q1, q2, q3, q4⟩ := h7 rfl
  have hlt := h1.lt
  have hne : ∀ y, v.ownBlock = some y → y ∈ [b] ∨ w.heap.size ≤ y := fun y hy => .inr (hlt y hy).1
  rw [strCells_nums x hsm.2, strOfNums_size] at hown
  have hl := hsm.1
  have hj := hw1.1
  refine ⟨by simpa using hown, hr1.grown hg (fun e => ?_), (g3.trans hu1).of_grown hg hne, by omega, hw1.2.1, by simp; omega, fun hf => ?_⟩
  · have := (hlt b e.symm).1
    omega
  · obtain ⟨_, z⟩ := hw1.2.2 hf
    refine ⟨q1, q2, by omega, fun hp => ?_⟩
    rw [Bool.and_eq_true] at hp
    exact .esc (q4 hp.1) h92 (z hp.2)
theorem ret_str2 {a b : ByteArray} {c d : Bool} (h : a = b) (h' : c = d) : Ending.returned (.tuple #[.string a, .bool c]) = .returned (.tuple #[.string b, .bool d]) := by rw [h, h']

set_option maxRecDepth 100000 in
set_option maxHeartbeats 4000000 in
theorem text_any (w : World) (b : Nat) (s : ByteArray) (i : Nat) (bad : Bool) (hr : Rd w b s i bad) (hs : s.size ≤ 65536) (hi : i ≤ s.size) :
    Calls Tryz.prog 30 #[.pointer (some ⟨b, 0, none⟩)] w fun e w' => Txt1 w b s i bad e w' := by
  have hbl := hr.lt
  go_enter Tryz.func30, Tryz.ntmps30
  go_wp2_with fail
  refine (take_any _ b s i bad 34 hr hs hi).mono ?_
  rintro e w1 ⟨rfl, j1, bad1, hr1, hu1, hw1⟩
  have H0 : Hid (TxtI w b s i bad (.slice (some ⟨w1.heap.size, 0, none⟩) 0 0) true j1 [] bad1 (w1.alloc (.cells #[] 5))) :=
    ⟨World.ownsRow_lit w1 #[] 0 hu1.size (by unfold maxLen; omega) rfl, hr1.alloc _, hu1.alloc _, hw1.1, hw1.2.1, by simp, fun hf => by
      obtain ⟨k1, k2, k3, k4⟩ := hw1.2.2 hf
      exact ⟨k1, k3, by omega, fun _ => by rw [k4]; exact .start⟩⟩
  clear hr1 hu1 hw1
  go_wp2_with fail
  go_loopg [4, 5] (s.size - j1) (fun g v p wr => ∃ (v0 : Value) (k : Nat) (o : List Int) (pr bad' : Bool), v = v0 ∧ p = .bool pr ∧ TxtI w b s i bad v0 pr k o bad' wr ∧ Hid (g = s.size - k))
  case atStart => exact ⟨_, j1, [], true, bad1, rfl, rfl, H0.out, rfl⟩
  case round =>
    clear H0
    obtain ⟨v0, k, o, pr, bad', rfl, rfl, hI, hg⟩ := hrel
    have HI := Lib.hid hI
    have hrd := hI.2.1
    have hks := hI.2.2.2.2.1
    have hsz : w.heap.size ≤ wr.heap.size := hI.2.2.1.size
    have hol := hI.2.2.2.2.2.1
    have h0 := hrd.c0
    have h1 := hrd.c1
    have h2 := hrd.c2
    have hf1 := hrd.fr 1
    have hf2 := hrd.fr 2
    have hcv := own_str hI.1
    have hcw := fun n => own_str (hI.worse hbl n).1
    have hcs : ∀ n, (convert 72 9 u4).run Tryz.prog ((wr.drewN n).setCell ⟨b, 1, none⟩ (.int .i64 ((k : Int) + 1))) = .ok (.string (strOfNums o)) ((wr.drewN n).setCell ⟨b, 1, none⟩ (.int .i64 ((k : Int) + 1))) := fun n => own_str (hI.step hbl n (k + 1)).1
    have hst : Hid (∀ n, ((wr.drewN n).setCell ⟨b, 1, none⟩ (.int .i64 ((k : Int) + 1))).ownsRow w.heap.size 5 1 u4 o.length (o.map (Value.int .u8)) ∧ Rd ((wr.drewN n).setCell ⟨b, 1, none⟩ (.int .i64 ((k : Int) + 1))) b s (k + 1) bad' ∧ Upd [b] w ((wr.drewN n).setCell ⟨b, 1, none⟩ (.int .i64 ((k : Int) + 1)))) := fun n => hI.step hbl n (k + 1)
    clear hI
    cases bad' with
    | true =>
      go_wp2_with fail
      go_ret2
      exact HI.out.fin
    | false =>
      by_cases hlt : k < s.size
      · have d1 : decide (s.size ≤ k) = false := by simpa using hlt
        have HB := Lib.hid (bt_lt hlt)
        by_cases c32 : (s[k].toNat : Int) < 32
        · have d2 : decide ((s[k].toNat : Int) < 32) = true := by simpa using c32
          go_wp2_with fail
          go_quiet (fail)
          go_wp2_with fail
          go_ret2
          exact (HI.out.worse hbl _).fin
        · have d2 : decide ((s[k].toNat : Int) < 32) = false := by simpa using c32
          by_cases c34 : (s[k].toNat : Int) = 34
          · have C := Lib.hid c34
            have d3 : ((s[k].toNat : Int) == 34) = true := by simpa using c34
            clear c34 c32
            go_wp2_with fail
            go_quiet (fail)
            go_wp2_with fail
            go_quiet (fail)
            go_wp2_with fail
            go_ret2
            exact HI.out.quote hbl _ hlt (by rw [← HB.out]; exact C.out)
          · have d3 : ((s[k].toNat : Int) == 34) = false := by simpa using c34
            clear hcv hcw hcs
            by_cases c92 : (s[k].toNat : Int) = 92
            · have C := Lib.hid c92
              have d4 : ((s[k].toNat : Int) != 92) = false := by simpa using c92
              clear c92 c34 c32
              go_wp2_with fail
              go_quiet (fail)
              go_wp2_with fail
              go_quiet (fail)
              go_wp2_with fail
              refine (escape_any _ b s (k + 1) false (hst.out _).2.1 hs (by omega)).mono ?_
              rintro e w2 ⟨x, ok, j, bad2, rfl, hsm, hr2, hu2, hw2⟩
              obtain ⟨i0, hi0, hz0, hz1, hz2⟩ := info_parts info5
              have hw0 : w2.ownsRow w.heap.size 5 1 u4 o.length (o.map (Value.int .u8)) := hu2.owns (hst.out _).1 (fun y hy => by
                have := ((hst.out 0).1.lt y hy).1
                simp; omega)
              have hsz2 := hu2.size
              have hs4 := hsm.1
              have hss := strOfNums_size x
              have HSS := Lib.hid hss; clear hss
              cases pr with
              | true =>
                go_wp2_with (at_builtin; refine Lib.wpList_append_own_string _ rfl (.tmp 71) (.tmp 72) 72 9 rfl w.heap.size 5 i0 Tryz.underlying72 Tryz.underlying9 hi0 hz0 hz1 hz2 u4 o.length (o.map (Value.int .u8)) rfl hw0 (strOfNums x) rfl ?c3 ?c4 ?c5 ?_)
                case c3 => rw [HSS.out]; unfold maxLen; omega
                case c4 => rw [HSS.out]; omega
                case c5 => simp at hsz2; omega
                intro v' w3 hown hg2 _
                have N := HI.out.more hbl _ (by rw [← HB.out]; exact C.out) hsm hr2 hu2 hw2 hown hg2
                have hjk := hw2.1
                clear hown hg2 h0 h1 h2 hf1 hf2 hst hw0
                go_wp2_with fail
                go_roundg (s.size - j)
                case measure => have := hg.out; omega
                case rel => exact ⟨_, j, _, ok, bad2, rfl, rfl, N, rfl⟩
              | false =>
                go_wp2_with (at_builtin; refine Lib.wpList_append_own_string _ rfl (.tmp 71) (.tmp 72) 72 9 rfl w.heap.size 5 i0 Tryz.underlying72 Tryz.underlying9 hi0 hz0 hz1 hz2 u4 o.length (o.map (Value.int .u8)) rfl hw0 (strOfNums x) rfl ?c3 ?c4 ?c5 ?_)
                case c3 => rw [HSS.out]; unfold maxLen; omega
                case c4 => rw [HSS.out]; omega
                case c5 => simp at hsz2; omega
                intro v' w3 hown hg2 _
                have N := HI.out.more hbl _ (by rw [← HB.out]; exact C.out) hsm hr2 hu2 hw2 hown hg2
                have hjk := hw2.1
                clear hown hg2 h0 h1 h2 hf1 hf2 hst hw0
                go_wp2_with fail
                go_roundg (s.size - j)
                case measure => have := hg.out; omega
                case rel => exact ⟨_, j, _, false, bad2, rfl, rfl, N, rfl⟩
            · have C := Lib.hid c92
              have d4 : ((s[k].toNat : Int) != 92) = true := by simpa using c92
              have C34 := Lib.hid c34
              have C32 := Lib.hid c32
              clear c92 c34 c32
              go_wp2_with fail
              go_quiet (fail)
              go_wp2_with fail
              go_quiet (fail)
              obtain ⟨i0, hi0, hz0, hz1, hz2⟩ := info_parts info5
              go_wp2_with (at_builtin; refine wpList_append_own _ rfl (.tmp 62) (.tmp 64) 72 rfl w.heap.size 5 i0 (.int .u8 0) 1 1 Tryz.underlying72 hi0 hz0 hz1 hz2 rfl (by decide) u4 o.length (o.map (Value.int .u8)) rfl ((hst.out _).1.alloc _) ⟨wr.heap.size, 0, none⟩ 1 1 [.int .u8 (s[k].toNat : Int)] rfl rfl ?c1 ?c2 ?c3 ?c4 ?c5 ?_)
              case c1 => exact cell_new_one _ _ _ (by simp [World.setCell])
              case c2 => intro u hu; simp at hu; subst hu; rfl
              case c3 => unfold maxLen; omega
              case c4 => omega
              case c5 => simp; omega
              intro v' w2 hown hg2 _
              have N := HI.out.byte hbl _ hlt _ HB.out (by have := C32.out; omega) C34.out C.out _ hown hg2
              clear hown hg2 h0 h1 h2 hf1 hf2 hst
              go_wp2_with fail
              go_roundg (s.size - (k + 1))
              case measure => have := hg.out; omega
              case rel => exact ⟨_, k + 1, _, pr, false, rfl, rfl, N, rfl⟩
      · have d1 : decide (s.size ≤ k) = true := by simpa using hlt
        go_wp2_with fail
        go_quiet (fail)
        go_wp2_with fail
        go_ret2
        exact (HI.out.worse hbl _).fin
end Go.Proofs.YtcnkbdbkglggcaaGreatDoor
