/-
  The reader's leaves next, blank, take, word: what each call returns and leaves in memory. Condition: the text has at most 65536 bytes.
  The reader's 'hex': four hexadecimal digits and their number; and 'Rune': a number as UTF-8. Condition: the text has at most 65536 bytes.
  The reader's 'digits': it takes digits, one at least. Condition: the text has at most 65536 bytes.
  The reader's 'number': where it is not bad, it has passed bytes of numbers alone, the first a digit, or a minus and a digit. Condition: the text has at most 65536 bytes.
  The reader's 'blank': it passes white space by. Condition: the text has at most 65536 bytes.
-/
import Derived.Test.YtcnkbdbkglggcaaGreatDoorZMA
import Derived.Deep.DeepCutAuto
namespace Go.Proofs.YtcnkbdbkglggcaaGreatDoor
open Go.RowKit

set_option maxHeartbeats 400000 in
theorem next_any (w : World) (b : Nat) (s : ByteArray) (i : Nat) (bad : Bool) (hr : Rd w b s i bad) (hs : s.size ≤ 65536) :
    Calls Tryz.prog 29 #[.pointer (some ⟨b, 0, none⟩)] w fun e w' => e = .returned (.int .u8 (bt s i)) ∧ ∃ n, w' = w.drewN n := by
  have _hs := hs
  have h0 := hr.c0
  have h1 := hr.c1
  by_cases hlt : i < s.size
  · have HB := Lib.hid (bt_lt hlt)
    go_enter Tryz.func29, Tryz.ntmps29
    go_wp2
    go_quiet (fail)
    go_wp2
    go_quiet (fail)
    go_wp2
    go_ret
    exact ⟨ret_u8 HB.out, _, drewN_two _ _ _⟩
  · have HB := Lib.hid (bt_ge hlt)
    go_enter Tryz.func29, Tryz.ntmps29
    go_wp2
    go_quiet (fail)
    go_wp2
    go_ret
    exact ⟨ret_u8 HB.out.symm, _, rfl⟩

set_option maxHeartbeats 1000000 in
theorem take_any (w : World) (b : Nat) (s : ByteArray) (i : Nat) (bad : Bool) (c : Int) (hr : Rd w b s i bad) (hs : s.size ≤ 65536) (hi : i ≤ s.size) :
    Calls Tryz.prog 48 #[.pointer (some ⟨b, 0, none⟩), .int .u8 c] w fun e w' => e = .returned (.tuple #[]) ∧ Read1 w b s i bad (fun j => i < s.size ∧ bt s i = c ∧ j = i + 1) w' := by
  have h0 := hr.c0
  have h1 := hr.c1
  have hf := hr.fr 1
  have hf2 := hr.fr 2
  have h2 := hr.c2
  by_cases hlt : i < s.size
  · have HB := Lib.hid (bt_lt hlt)
    have hd : decide (s.size ≤ i) = false := by simpa using hlt
    by_cases hc : (s[i].toNat : Int) = c
    · have HC := Lib.hid hc
      have d1 : ((s[i].toNat : Int) != c) = false := by simpa using hc
      clear hc
      go_enter Tryz.func48, Tryz.ntmps48
      go_wp2
      go_quiet (fail)
      go_wp2
      go_end0
      exact ⟨rfl, i + 1, bad, (hr.drewN _).setAt (i + 1), ((Upd.refl [b] w).drewN _).setCell (.inl (.head _)) _, by omega, by omega, fun hb => ⟨hb, hlt, by rw [← HB.out]; exact HC.out, rfl⟩⟩
    · have d1 : ((s[i].toNat : Int) != c) = true := by simpa using hc
      clear hc
      go_enter Tryz.func48, Tryz.ntmps48
      go_wp2
      go_quiet (fail)
      go_wp2
      refine bodyPost_ret (results_none rfl _ _ _) rfl ?_
      exact ⟨rfl, i, true, (hr.drewN _).setBad true, ((Upd.refl [b] w).drewN _).setCell (.inl (.head _)) _, by omega, by omega, fun hb => by cases hb⟩
  · have hd : decide (s.size ≤ i) = true := by simpa using hlt
    go_enter Tryz.func48, Tryz.ntmps48
    go_wp2
    go_quiet (fail)
    go_wp2
    refine bodyPost_ret (results_none rfl _ _ _) rfl ?_
    exact ⟨rfl, i, true, (hr.drewN _).setBad true, ((Upd.refl [b] w).drewN _).setCell (.inl (.head _)) _, by omega, by omega, fun hb => by cases hb⟩

set_option maxHeartbeats 1000000 in
theorem word_any (w : World) (b : Nat) (s u : ByteArray) (i : Nat) (bad : Bool) (hr : Rd w b s i bad) (hs : s.size ≤ 65536) (hi : i ≤ s.size) (hu : u.size ≤ 100) :
    Calls Tryz.prog 31 #[.pointer (some ⟨b, 0, none⟩), .string u] w fun e w' => e = .returned (.tuple #[]) ∧ Read1 w b s i bad (fun j => j = i + u.size ∧ ∀ k, k < u.size → bt s (i + k) = bt u k) w' := by
  go_enter Tryz.func31, Tryz.ntmps31
  go_wp2
  go_loopg [4] u.size (fun g v wr => ∃ x : Nat, x ≤ u.size ∧ v = .int .i64 x ∧ g = u.size - x ∧ ∃ (j : Nat) (bad' : Bool), Rd wr b s j bad' ∧ Upd [b] w wr ∧ j ≤ s.size ∧
      Hid (Went s i bad j bad' (j = i + x ∧ ∀ k, k < x → bt s (i + k) = bt u k)))
  case atStart => exact ⟨0, by omega, rfl, rfl, i, bad, hr, Upd.refl _ _, hi, ⟨Nat.le_refl _, hi, fun h => ⟨h, rfl, fun k hk => by omega⟩⟩⟩
  case round =>
    obtain ⟨x, hx, rfl, hg, j, bad', hr', hup, hj, hw⟩ := hrel
    have HG := Lib.hid hg; clear hg
    have h2 := hr'.c2
    by_cases hlt : x < u.size
    · have HB := Lib.hid (bt_lt hlt)
      cases bad' with
      | true =>
        go_wp2
        go_end0
        exact ⟨rfl, j, true, hr', hup, hw.out.1, hj, fun h => by cases h⟩
      | false =>
        go_wp2_with (go_at_call 48; refine (take_any _ b s j false _ hr' hs hj).mono ?_; rintro e w1 ⟨rfl, j1, bad1, hr1, hu1, ht⟩)
        go_roundg (u.size - (x + 1))
        case measure => have := HG.out; omega
        case rel =>
          refine ⟨x + 1, by omega, by go_num, rfl, j1, bad1, hr1, hup.trans hu1, ht.2.1, ?_⟩
          refine ⟨Nat.le_trans hw.out.1 ht.1, ht.2.1, fun hf => ?_⟩
          obtain ⟨_, g1, g2, g3⟩ := ht.2.2 hf
          obtain ⟨k1, k2, k3⟩ := hw.out.2.2 rfl
          refine ⟨k1, by omega, fun k hk => ?_⟩
          rcases Nat.lt_or_ge k x with hl | hg
          · exact k3 k hl
          · have : k = x := by omega
            subst this
            rw [← k2, g2]; exact HB.out
    · have hx' : x = u.size := by omega
      have HX := Lib.hid hx'; clear hx'
      go_wp2
      go_end0
      refine ⟨rfl, j, bad', hr', hup, hw.out.1, hj, fun hf => ?_⟩
      obtain ⟨k1, k2, k3⟩ := hw.out.2.2 hf
      exact ⟨k1, by rw [← HX.out]; exact k2, fun k hk => k3 k (by rw [HX.out]; exact hk)⟩
end Go.Proofs.YtcnkbdbkglggcaaGreatDoor

namespace Go.Proofs.YtcnkbdbkglggcaaGreatDoor
open Go.RowKit

/-- The value of a hexadecimal digit. -/
def hexD (c : Int) : Int := if c ≤ 57 then c - 48 else if c ≤ 70 then c - 55 else c - 87
def isHex (c : Int) : Prop := 48 ≤ c ∧ c ≤ 57 ∨ 97 ≤ c ∧ c ≤ 102 ∨ 65 ≤ c ∧ c ≤ 70
/-- The number of x hexadecimal digits from i on. -/
def hexP (s : ByteArray) (i : Nat) : Nat → Int
  | 0 => 0
  | x + 1 => hexP s i x * 16 + hexD (bt s (i + x))
def HexQ (s : ByteArray) (i x : Nat) : Prop := ∀ k, k < x → isHex (bt s (i + k))
theorem hexD_range {c : Int} (h : isHex c) : 0 ≤ hexD c ∧ hexD c ≤ 15 := by
  unfold isHex at h; unfold hexD; split
  · omega
  · split <;> omega
theorem hexP_range {s : ByteArray} {i x : Nat} (h : HexQ s i x) : 0 ≤ hexP s i x ∧ hexP s i x < 16 ^ x := by
  induction x with
  | zero => exact ⟨Int.le_refl _, by simp [hexP]⟩
  | succ x ih =>
    obtain ⟨h1, h2⟩ := ih fun k hk => h k (by omega)
    have hr := hexD_range (h x (by omega))
    have e : (16 : Int) ^ (x + 1) = 16 ^ x * 16 := by rw [Int.pow_succ]
    simp only [hexP]
    omega
theorem hexP_bound {s : ByteArray} {i x : Nat} (h : HexQ s i x) (hx : x ≤ 4) : 0 ≤ hexP s i x ∧ hexP s i x ≤ 65535 ∧ (x < 4 → hexP s i x ≤ 4095) := by
  obtain ⟨h1, h2⟩ := hexP_range h
  have h4 : x = 0 ∨ x = 1 ∨ x = 2 ∨ x = 3 ∨ x = 4 := by omega
  rcases h4 with rfl | rfl | rfl | rfl | rfl <;> simp at h2 <;> omega
/-- What a call of 'hex' returns and leaves. -/
def Hex1 (w : World) (b : Nat) (s : ByteArray) (i : Nat) (bad : Bool) (e : Ending) (w' : World) : Prop :=
  ∃ (n : Int) (j : Nat) (bad' : Bool), e = .returned (.int .i64 n) ∧ 0 ≤ n ∧ n ≤ 65535 ∧ Rd w' b s j bad' ∧ Upd [b] w w' ∧ Went s i bad j bad' (j = i + 4 ∧ HexQ s i 4 ∧ n = hexP s i 4)

set_option maxHeartbeats 2000000 in
theorem hex_any (w : World) (b : Nat) (s : ByteArray) (i : Nat) (bad : Bool) (hr : Rd w b s i bad) (hs : s.size ≤ 65536) (hi : i ≤ s.size) :
    Calls Tryz.prog 68 #[.pointer (some ⟨b, 0, none⟩)] w fun e w' => Hex1 w b s i bad e w' := by
  go_enter Tryz.func68, Tryz.ntmps68
  go_wp2
  go_loopg [3, 5] 4 (fun g v x wr => ∃ k : Nat, k ≤ 4 ∧ v = .int .i64 (hexP s i k) ∧ x = .int .i64 k ∧ g = 4 - k ∧ i + k ≤ s.size ∧ Rd wr b s (i + k) bad ∧ Upd [b] w wr ∧ Hid (HexQ s i k))
  case atStart => exact ⟨0, by omega, rfl, rfl, rfl, by omega, hr, Upd.refl _ _, fun k hk => by omega⟩
  case round =>
    obtain ⟨k, hk, rfl, rfl, hg, hik, hrd, hu, hq⟩ := hrel
    have HG := Lib.hid hg; clear hg
    have h1 := hrd.c1
    have h2 := hrd.c2
    have hf1 := hrd.fr 1
    have hf2 := hrd.fr 2
    obtain ⟨p1, p2, p3⟩ := hexP_bound hq.out hk
    by_cases hlt : k < 4
    · have p4 := p3 hlt
      obtain ⟨c1, c2⟩ := bt_range s (i + k)
      have fin : isHex (bt s (i + k)) → Hid (HexQ s i (k + 1)) := fun h x hx => by
        rcases Nat.lt_or_ge x k with hl | hg
        · exact hq.out x hl
        · have : x = k := by omega
          subst this; exact h
      have hl : isHex (bt s (i + k)) → i + k < s.size := fun h => lt_of_bt (by unfold isHex at h; omega)
      clear p3
      have hstep : ∀ n, Rd ((wr.drewN n).setCell ⟨b, 1, none⟩ (.int .i64 ((i + (k + 1) : Nat) : Int))) b s (i + (k + 1)) bad := fun n => (hrd.drewN n).setAt _
      by_cases dig : 48 ≤ bt s (i + k) ∧ bt s (i + k) ≤ 57
      · have hx : isHex (bt s (i + k)) := by unfold isHex; omega
        have hl1 := hl hx
        have hf := fin hx
        have hv : Hid (hexP s i (k + 1) = hexP s i k * 16 + (bt s (i + k) - 48)) := by simp only [hexP, hexD]; rw [if_pos (by omega)]; rfl
        have d0 : decide (48 ≤ bt s (i + k)) = true := by simp; omega
        have d1 : decide (bt s (i + k) ≤ 57) = true := by simp; omega
        have q1 : 0 ≤ bt s (i + k) - 48 := by omega
        have q2 : bt s (i + k) - 48 ≤ 15 := by omega
        clear fin hl hx
        go_wp2_with fail
        refine (next_any _ b s (i + k) bad hrd hs).mono ?_
        rintro e w1 ⟨rfl, n, rfl⟩
        go_wp2_with fail
        go_roundg (4 - (k + 1))
        case measure => have := HG.out; omega
        case rel => exact ⟨k + 1, by omega, by rw [hv.out], by go_num, rfl, by omega, hstep n, (hu.drewN n).setCell (p := ⟨b, 1, none⟩) (.inl (.head _)) _, hf⟩
      by_cases low : 97 ≤ bt s (i + k) ∧ bt s (i + k) ≤ 102
      · have hx : isHex (bt s (i + k)) := by unfold isHex; omega
        have hl1 := hl hx
        have hf := fin hx
        have hv : Hid (hexP s i (k + 1) = hexP s i k * 16 + (bt s (i + k) - 87)) := by simp only [hexP, hexD]; rw [if_neg (by omega), if_neg (by omega)]; rfl
        have d0 : decide (48 ≤ bt s (i + k)) = true := by simp; omega
        have d1 : decide (bt s (i + k) ≤ 57) = false := by simp; omega
        have d2 : decide (97 ≤ bt s (i + k)) = true := by simp; omega
        have d3 : decide (bt s (i + k) ≤ 102) = true := by simp; omega
        have q1 : 0 ≤ bt s (i + k) - 87 := by omega
        have q2 : bt s (i + k) - 87 ≤ 15 := by omega
        clear fin hl hx
        go_wp2_with fail
        refine (next_any _ b s (i + k) bad hrd hs).mono ?_
        rintro e w1 ⟨rfl, n, rfl⟩
        go_wp2_with fail
        go_roundg (4 - (k + 1))
        case measure => have := HG.out; omega
        case rel => exact ⟨k + 1, by omega, by rw [hv.out], by go_num, rfl, by omega, hstep n, (hu.drewN n).setCell (p := ⟨b, 1, none⟩) (.inl (.head _)) _, hf⟩
      by_cases up : 65 ≤ bt s (i + k) ∧ bt s (i + k) ≤ 70
      · have hx : isHex (bt s (i + k)) := by unfold isHex; omega
        have hl1 := hl hx
        have hf := fin hx
        have hv : Hid (hexP s i (k + 1) = hexP s i k * 16 + (bt s (i + k) - 55)) := by simp only [hexP, hexD]; rw [if_neg (by omega), if_pos (by omega)]; rfl
        have d0 : decide (48 ≤ bt s (i + k)) = true := by simp; omega
        have d1 : decide (bt s (i + k) ≤ 57) = false := by simp; omega
        have d2 : decide (97 ≤ bt s (i + k)) = false := by simp; omega
        have d3 : decide (65 ≤ bt s (i + k)) = true := by simp; omega
        have d4 : decide (bt s (i + k) ≤ 70) = true := by simp; omega
        have q1 : 0 ≤ bt s (i + k) - 55 := by omega
        have q2 : bt s (i + k) - 55 ≤ 15 := by omega
        clear fin hl hx
        go_wp2_with fail
        refine (next_any _ b s (i + k) bad hrd hs).mono ?_
        rintro e w1 ⟨rfl, n, rfl⟩
        go_wp2_with fail
        go_roundg (4 - (k + 1))
        case measure => have := HG.out; omega
        case rel => exact ⟨k + 1, by omega, by rw [hv.out], by go_num, rfl, by omega, hstep n, (hu.drewN n).setCell (p := ⟨b, 1, none⟩) (.inl (.head _)) _, hf⟩
      by_cases b1 : bt s (i + k) < 48
      · clear fin hl
        have d0 : decide (48 ≤ bt s (i + k)) = false := by simp; omega
        have d1 : decide (97 ≤ bt s (i + k)) = false := by simp; omega
        have d2 : decide (65 ≤ bt s (i + k)) = false := by simp; omega
        go_wp2_with fail
        refine (next_any _ b s (i + k) bad hrd hs).mono ?_
        rintro e w1 ⟨rfl, n, rfl⟩
        go_wp2_with fail
        go_ret
        exact ⟨0, i + k, true, rfl, by decide, by decide, (hrd.drewN n).setBad true, (hu.drewN n).setCell (p := ⟨b, 2, none⟩) (.inl (.head _)) _, by omega, hik, fun h => by cases h⟩
      by_cases b2 : bt s (i + k) < 65
      · clear fin hl
        have d0 : decide (48 ≤ bt s (i + k)) = true := by simp; omega
        have d1 : decide (bt s (i + k) ≤ 57) = false := by simp; omega
        have d2 : decide (97 ≤ bt s (i + k)) = false := by simp; omega
        have d3 : decide (65 ≤ bt s (i + k)) = false := by simp; omega
        go_wp2_with fail
        refine (next_any _ b s (i + k) bad hrd hs).mono ?_
        rintro e w1 ⟨rfl, n, rfl⟩
        go_wp2_with fail
        go_ret
        exact ⟨0, i + k, true, rfl, by decide, by decide, (hrd.drewN n).setBad true, (hu.drewN n).setCell (p := ⟨b, 2, none⟩) (.inl (.head _)) _, by omega, hik, fun h => by cases h⟩
      by_cases b3 : bt s (i + k) < 97
      · clear fin hl
        have d0 : decide (48 ≤ bt s (i + k)) = true := by simp; omega
        have d1 : decide (bt s (i + k) ≤ 57) = false := by simp; omega
        have d2 : decide (97 ≤ bt s (i + k)) = false := by simp; omega
        have d3 : decide (65 ≤ bt s (i + k)) = true := by simp; omega
        have d4 : decide (bt s (i + k) ≤ 70) = false := by simp; omega
        go_wp2_with fail
        refine (next_any _ b s (i + k) bad hrd hs).mono ?_
        rintro e w1 ⟨rfl, n, rfl⟩
        go_wp2_with fail
        go_ret
        exact ⟨0, i + k, true, rfl, by decide, by decide, (hrd.drewN n).setBad true, (hu.drewN n).setCell (p := ⟨b, 2, none⟩) (.inl (.head _)) _, by omega, hik, fun h => by cases h⟩
      clear fin hl
      have d0 : decide (48 ≤ bt s (i + k)) = true := by simp; omega
      have d1 : decide (bt s (i + k) ≤ 57) = false := by simp; omega
      have d2 : decide (97 ≤ bt s (i + k)) = true := by simp; omega
      have d3 : decide (bt s (i + k) ≤ 102) = false := by simp; omega
      have d4 : decide (65 ≤ bt s (i + k)) = true := by simp; omega
      have d5 : decide (bt s (i + k) ≤ 70) = false := by simp; omega
      go_wp2_with fail
      refine (next_any _ b s (i + k) bad hrd hs).mono ?_
      rintro e w1 ⟨rfl, n, rfl⟩
      go_wp2_with fail
      go_ret
      exact ⟨0, i + k, true, rfl, by decide, by decide, (hrd.drewN n).setBad true, (hu.drewN n).setCell (p := ⟨b, 2, none⟩) (.inl (.head _)) _, by omega, hik, fun h => by cases h⟩
    · have h4 : k = 4 := by omega
      subst h4
      go_wp2_with fail
      go_ret
      exact ⟨_, i + 4, bad, rfl, p1, p2, hrd, hu, by omega, hik, fun h => ⟨h, rfl, hq.out, rfl⟩⟩
end Go.Proofs.YtcnkbdbkglggcaaGreatDoor

namespace Go.Proofs.YtcnkbdbkglggcaaGreatDoor
open Go.RowKit

/-- What 'digits' leaves where it is not bad. -/
def DigQ (s : ByteArray) (i j : Nat) : Prop := i < j ∧ ∀ k, i ≤ k → k < j → isDig (bt s k)

set_option maxHeartbeats 1000000 in
theorem digits_no (w : World) (b : Nat) (s : ByteArray) (i : Nat) (bad : Bool) (hr : Rd w b s i bad) (hs : s.size ≤ 65536) (hi : i ≤ s.size) (hn : ¬ isDig (bt s i)) :
    Calls Tryz.prog 50 #[.pointer (some ⟨b, 0, none⟩)] w fun e w' => e = .returned (.tuple #[]) ∧ Read1 w b s i bad (DigQ s i) w' := by
  have hf := hr.fr 2
  have h2 := hr.c2
  unfold isDig at hn
  have fin : ∀ n m, (Rd (((w.drewN n).setCell ⟨b, 2, none⟩ (.bool true)).drewN m) b s i true ∧ Upd [b] w (((w.drewN n).setCell ⟨b, 2, none⟩ (.bool true)).drewN m)) ∧ Went s i bad i true (DigQ s i i) := fun n m =>
    ⟨⟨((hr.drewN n).setBad true).drewN m, (((Upd.refl [b] w).drewN n).setCell (.inl (.head _)) _).drewN m⟩, Nat.le_refl _, hi, fun h => by cases h⟩
  have mid : ∀ n, Rd ((w.drewN n).setCell ⟨b, 2, none⟩ (.bool true)) b s i true := fun n => (hr.drewN n).setBad true
  by_cases h48 : bt s i < 48
  · have d3 : decide (48 ≤ bt s i) = false := by simpa using h48
    go_enter Tryz.func50, Tryz.ntmps50
    go_wp2_with fail
    refine (next_any _ b s i bad hr hs).mono ?_
    rintro e w1 ⟨rfl, n, rfl⟩
    go_wp2_with fail
    refine (next_any _ b s i true (mid n) hs).mono ?_
    rintro e w1 ⟨rfl, m, rfl⟩
    go_wp2_with fail
    go_loopg [3] 0 (fun _ v wr => v = .int .u8 (bt s i) ∧ wr = ((w.drewN n).setCell ⟨b, 2, none⟩ (.bool true)).drewN m)
    case atStart => exact ⟨rfl, by go_simp⟩
    case round =>
      obtain ⟨rfl, rfl⟩ := hrel
      go_wp2
      go_end0
      exact ⟨rfl, i, true, (fin n m).1.1, (fin n m).1.2, (fin n m).2⟩
  · have h57 : bt s i > 57 := by omega
    have d1 : decide (bt s i < 48) = false := by simpa using h48
    have d3 : decide (48 ≤ bt s i) = true := by simpa using h48
    have d4 : decide (bt s i ≤ 57) = false := by simpa using h57
    go_enter Tryz.func50, Tryz.ntmps50
    go_wp2_with fail
    refine (next_any _ b s i bad hr hs).mono ?_
    rintro e w1 ⟨rfl, n, rfl⟩
    go_wp2_with fail
    refine (next_any _ b s i true (mid n) hs).mono ?_
    rintro e w1 ⟨rfl, m, rfl⟩
    go_wp2_with fail
    go_loopg [3] 0 (fun _ v wr => v = .int .u8 (bt s i) ∧ wr = ((w.drewN n).setCell ⟨b, 2, none⟩ (.bool true)).drewN m)
    case atStart => exact ⟨rfl, by go_simp⟩
    case round =>
      obtain ⟨rfl, rfl⟩ := hrel
      go_wp2
      go_end0
      exact ⟨rfl, i, true, (fin n m).1.1, (fin n m).1.2, (fin n m).2⟩

set_option maxHeartbeats 1000000 in
theorem digits_yes (w : World) (b : Nat) (s : ByteArray) (i : Nat) (bad : Bool) (hr : Rd w b s i bad) (hs : s.size ≤ 65536) (hn : isDig (bt s i)) :
    Calls Tryz.prog 50 #[.pointer (some ⟨b, 0, none⟩)] w fun e w' => e = .returned (.tuple #[]) ∧ Read1 w b s i bad (DigQ s i) w' := by
  have HN := Lib.hid hn
  have hi : i < s.size := lt_of_bt (by unfold isDig at hn; omega)
  unfold isDig at hn
  have d1 : decide (bt s i < 48) = false := by simp; omega
  have d2 : decide (57 < bt s i) = false := by simp; omega
  clear hn
  go_enter Tryz.func50, Tryz.ntmps50
  go_wp2_with fail
  refine (next_any _ b s i bad hr hs).mono ?_
  rintro e w1 ⟨rfl, n, rfl⟩
  go_wp2_with fail
  refine (next_any _ b s i bad (hr.drewN n) hs).mono ?_
  rintro e w1 ⟨rfl, m, rfl⟩
  clear d1 d2
  go_wp2_with fail
  go_loopg [3] (s.size - i) (fun g v wr => ∃ j : Nat, i ≤ j ∧ j ≤ s.size ∧ v = .int .u8 (bt s j) ∧ Rd wr b s j bad ∧ Upd [b] w wr ∧ Hid (g = s.size - j ∧ ∀ k, i ≤ k → k < j → isDig (bt s k)))
  case atStart => exact ⟨i, Nat.le_refl _, by omega, rfl, hr.drewN _, (Upd.refl _ _).drewN _, rfl, fun k _ _ => by omega⟩
  case round =>
    obtain ⟨j, hj1, hj2, rfl, hrd, hu, hh⟩ := hrel
    have h1 := hrd.c1
    have hf1 := hrd.fr 1
    by_cases hd : isDig (bt s j)
    · have HD := Lib.hid hd
      have hjl : j < s.size := lt_of_bt (by unfold isDig at hd; omega)
      unfold isDig at hd
      have d3 : decide (48 ≤ bt s j) = true := by simp; omega
      have d4 : decide (bt s j ≤ 57) = true := by simp; omega
      have hnx := hrd.setAt (j + 1)
      clear hd
      go_wp2_with fail
      refine (next_any _ b s (j + 1) bad hnx hs).mono ?_
      rintro e w1 ⟨rfl, m2, rfl⟩
      go_wp2_with fail
      go_roundg (s.size - (j + 1))
      case measure => have := hh.out.1; omega
      case rel =>
        refine ⟨j + 1, by omega, by omega, rfl, hnx.drewN _, (hu.setCell (p := ⟨b, 1, none⟩) (.inl (.head _)) _).drewN _, rfl, fun k h1 h2 => ?_⟩
        rcases Nat.lt_or_ge k j with hl | hg
        · exact hh.out.2 k h1 hl
        · have : k = j := by omega
          subst this; exact HD.out
    · have fin : Went s i bad j bad (DigQ s i j) := ⟨hj1, hj2, fun h => ⟨h, by
        rcases Nat.lt_or_ge i j with hl | hg
        · exact hl
        · have : j = i := by omega
          subst this; exact absurd HN.out hd, hh.out.2⟩⟩
      unfold isDig at hd
      by_cases h48 : bt s j < 48
      · have d3 : decide (48 ≤ bt s j) = false := by simp; omega
        go_wp2
        go_end0
        exact ⟨rfl, j, bad, hrd, hu, fin⟩
      · have d3 : decide (48 ≤ bt s j) = true := by simp; omega
        have d4 : decide (bt s j ≤ 57) = false := by simp; omega
        go_wp2
        go_end0
        exact ⟨rfl, j, bad, hrd, hu, fin⟩

theorem digits_any (w : World) (b : Nat) (s : ByteArray) (i : Nat) (bad : Bool) (hr : Rd w b s i bad) (hs : s.size ≤ 65536) (hi : i ≤ s.size) :
    Calls Tryz.prog 50 #[.pointer (some ⟨b, 0, none⟩)] w fun e w' => e = .returned (.tuple #[]) ∧ Read1 w b s i bad (DigQ s i) w' := by
  by_cases h : isDig (bt s i)
  · exact digits_yes w b s i bad hr hs h
  · exact digits_no w b s i bad hr hs hi h
end Go.Proofs.YtcnkbdbkglggcaaGreatDoor

namespace Go.Proofs.YtcnkbdbkglggcaaGreatDoor
open Go.RowKit

def Part (s : ByteArray) (i : Nat) (bad : Bool) (j : Nat) (bad' : Bool) : Prop := i ≤ j ∧ j ≤ s.size ∧ (bad' = false → bad = false ∧ Nums s i j)
theorem Part.cat {s : ByteArray} {i j k : Nat} {a b c : Bool} (h : Part s i a j b) (h' : Part s j b k c) : Part s i a k c :=
  ⟨Nat.le_trans h.1 h'.1, h'.2.1, fun hf => by
    obtain ⟨x, y⟩ := h'.2.2 hf
    obtain ⟨z, w⟩ := h.2.2 x
    exact ⟨z, w.cat y⟩⟩
theorem Part.step {s : ByteArray} {i : Nat} {a : Bool} (hi : i < s.size) (h : isNum (bt s i)) : Part s i a (i + 1) a := ⟨by omega, by omega, fun hf => ⟨hf, .one h⟩⟩
theorem Part.none_ {s : ByteArray} {i : Nat} {a : Bool} (hi : i ≤ s.size) : Part s i a i a := ⟨by omega, hi, fun hf => ⟨hf, .refl _ _⟩⟩
theorem Part.of_dig {s : ByteArray} {i j : Nat} {a b : Bool} (h : Went s i a j b (DigQ s i j)) : Part s i a j b := ⟨h.1, h.2.1, fun hf => ⟨(h.2.2 hf).1, .of_dig (h.2.2 hf).2.2⟩⟩
/-- How a number begins. -/
def Begin (s : ByteArray) (i : Nat) : Prop := isDig (bt s i) ∨ bt s i = 45 ∧ isDig (bt s (i + 1))
def NumQ (s : ByteArray) (i j : Nat) : Prop := i < j ∧ Begin s i ∧ Nums s i j
/-- The state between two parts of a number. -/
def St (w : World) (b : Nat) (s : ByteArray) (i : Nat) (bad : Bool) (Q : Nat → Bool → Prop) (w' : World) : Prop := ∃ (j : Nat) (bad' : Bool), Rd w' b s j bad' ∧ Upd [b] w w' ∧ Part s i bad j bad' ∧ Q j bad'

/-- A letter e. -/
def isE (x : Int) : Bool := decide (x = 101 ∨ x = 69)

set_option maxHeartbeats 2000000 in
theorem number_any (w : World) (b : Nat) (s : ByteArray) (i : Nat) (bad : Bool) (hr : Rd w b s i bad) (hs : s.size ≤ 65536) (hi : i ≤ s.size) :
    Calls Tryz.prog 33 #[.pointer (some ⟨b, 0, none⟩)] w fun e w' => e = .returned (.tuple #[]) ∧ Read1 w b s i bad (NumQ s i) w' := by
  have h1 := hr.c1
  have hf1 := hr.fr 1
  go_enter Tryz.func33, Tryz.ntmps33
  go_wp2_with fail
  refine (next_any _ b s i bad hr hs).mono ?_
  rintro e w1 ⟨rfl, n, rfl⟩
  go_upto_if 4 with fail
  go_cut [2] (fun _ wx => St w b s i bad (fun j bad' => bad' = bad ∧ (j = i ∨ j = i + 1 ∧ bt s i = 45)) wx)
  case first =>
    by_cases h45 : bt s i = 45
    · have hl : i < s.size := lt_of_bt (by omega)
      have H := Lib.hid h45
      have d : (bt s i == 45) = true := by simpa using h45
      clear h45
      go_wp2_with fail
      go_meet
      exact ⟨i + 1, bad, (hr.drewN _).setAt (i + 1), ((Upd.refl [b] w).drewN _).setCell (.inl (.head _)) _, Part.step hl (by have := H.out; unfold isNum; omega), rfl, .inr ⟨rfl, H.out⟩⟩
    · have d : (bt s i == 45) = false := by simpa using h45
      clear h45
      go_wp2_with fail
      go_meet
      exact ⟨i, bad, hr.drewN _, (Upd.refl [b] w).drewN _, Part.none_ hi, rfl, .inl rfl⟩
  case rest =>
    clear h1 hf1
    obtain ⟨j, bad', hrj, huj, hp, hb, hj⟩ := hcut
    have HB := Lib.hid hb; clear hb
    have HJ := Lib.hid hj; clear hj
    have h1 := hrj.c1
    have hf1 := hrj.fr 1
    have hjs := hp.2.1
    go_wp2_with fail
    refine (next_any _ b s j bad' hrj hs).mono ?_
    rintro e w1 ⟨rfl, n1, rfl⟩
    go_upto_if 14 with fail
    go_cut [12] (fun _ wx => St w b s i bad (fun j1 bad1 => bad1 = false → i < j1 ∧ Begin s i) wx)
    case first =>
      have beg : isDig (bt s j) → Begin s i := fun hd => by
        rcases HJ.out with h | ⟨h, h'⟩
        · subst h; exact .inl hd
        · subst h; exact .inr ⟨h', hd⟩
      by_cases h48 : bt s j = 48
      · have hl : j < s.size := lt_of_bt (by omega)
        have H := Lib.hid h48
        have d : (bt s j == 48) = true := by simpa using h48
        clear h48
        go_wp2_with fail
        go_meet
        exact ⟨j + 1, bad', (hrj.drewN _).setAt (j + 1), (huj.drewN _).setCell (p := ⟨b, 1, none⟩) (.inl (.head _)) _, hp.cat (Part.step hl (by have := H.out; unfold isNum isDig; omega)), fun _ => ⟨by have := hp.1; omega, beg (by have := H.out; unfold isDig; omega)⟩⟩
      · have d : (bt s j == 48) = false := by simpa using h48
        clear h48
        go_wp2_with fail
        refine (digits_any _ b s j bad' (hrj.drewN n1) hs hjs).mono ?_
        rintro e w1 ⟨rfl, j1, bad1, hr1, hu1, hw1⟩
        go_wp2_with fail
        go_meet
        exact ⟨j1, bad1, hr1, (huj.drewN n1).trans hu1, hp.cat (Part.of_dig hw1), fun hf => ⟨by have := (hw1.2.2 hf).2.1; have := hp.1; omega, beg ((hw1.2.2 hf).2.2 j (Nat.le_refl _) (hw1.2.2 hf).2.1)⟩⟩
    case rest =>
      clear h1 hf1 hrj huj hp HB HJ hjs
      clear j bad'
      obtain ⟨j, bad', hrj, huj, hp, hq⟩ := hcut
      have HQ := Lib.hid hq; clear hq
      have h1 := hrj.c1
      have hf1 := hrj.fr 1
      have hjs := hp.2.1
      go_wp2_with fail
      refine (next_any _ b s j bad' hrj hs).mono ?_
      rintro e w1 ⟨rfl, n2, rfl⟩
      go_upto_if 26 with fail
      go_cut [24] (fun _ wx => St w b s i bad (fun j1 bad1 => bad1 = false → i < j1 ∧ Begin s i) wx)
      case first =>
        by_cases h46 : bt s j = 46
        · have hl : j < s.size := lt_of_bt (by omega)
          have H := Lib.hid h46
          have d : (bt s j == 46) = true := by simpa using h46
          clear h46
          have hrn := (hrj.drewN n2).setAt (j + 1)
          go_wp2_with fail
          refine (digits_any _ b s (j + 1) bad' hrn hs (by omega)).mono ?_
          rintro e w1 ⟨rfl, j1, bad1, hr1, hu1, hw1⟩
          go_wp2_with fail
          go_meet
          exact ⟨j1, bad1, hr1, ((huj.drewN n2).setCell (p := ⟨b, 1, none⟩) (.inl (.head _)) _).trans hu1, (hp.cat (Part.step hl (by have := H.out; unfold isNum; omega))).cat (Part.of_dig hw1),
            fun hf => ⟨by have := (HQ.out (hw1.2.2 hf).1).1; have := hw1.1; omega, (HQ.out (hw1.2.2 hf).1).2⟩⟩
        · have d : (bt s j == 46) = false := by simpa using h46
          clear h46
          go_wp2_with fail
          go_meet
          exact ⟨j, bad', hrj.drewN _, huj.drewN _, hp, HQ.out⟩
      case rest =>
        clear h1 hf1 hrj huj hp HQ hjs
        clear j bad'
        obtain ⟨j, bad', hrj, huj, hp, hq⟩ := hcut
        have HQ := Lib.hid hq; clear hq
        have h1 := hrj.c1
        have hf1 := hrj.fr 1
        have hjs := hp.2.1
        go_upto_region 8 with fail
        go_cut [43] (fun c wx => c = .bool (isE (bt s j)) ∧ Rd wx b s j bad' ∧ Upd [b] w wx)
        case first =>
          by_cases ha : bt s j = 101
          · have H := Lib.hid ha
            have d : (bt s j == 101) = true := by simpa using ha
            clear ha
            go_wp2_with fail
            refine (next_any _ b s j bad' hrj hs).mono ?_
            rintro e w1 ⟨rfl, m1, rfl⟩
            go_wp2_with fail
            go_meet
            exact ⟨congrArg Value.bool (decide_eq_true (p := bt s j = 101 ∨ bt s j = 69) (.inl H.out)).symm, hrj.drewN _, huj.drewN _⟩
          · have d : (bt s j == 101) = false := by simpa using ha
            by_cases hb : bt s j = 69
            · have H := Lib.hid hb
              have d2 : (bt s j == 69) = true := by simpa using hb
              clear ha hb
              go_wp2_with fail
              refine (next_any _ b s j bad' hrj hs).mono ?_
              rintro e w1 ⟨rfl, m1, rfl⟩
              go_wp2_with fail
              refine (next_any _ b s j bad' (hrj.drewN m1) hs).mono ?_
              rintro e w1 ⟨rfl, m2, rfl⟩
              go_wp2_with fail
              go_meet
              exact ⟨congrArg Value.bool (decide_eq_true (p := bt s j = 101 ∨ bt s j = 69) (.inr H.out)).symm, hrj.drewN _, huj.drewN _⟩
            · have H := Lib.hid (show ¬ (bt s j = 101 ∨ bt s j = 69) by omega)
              have d2 : (bt s j == 69) = false := by simpa using hb
              clear ha hb
              go_wp2_with fail
              refine (next_any _ b s j bad' hrj hs).mono ?_
              rintro e w1 ⟨rfl, m1, rfl⟩
              go_wp2_with fail
              refine (next_any _ b s j bad' (hrj.drewN m1) hs).mono ?_
              rintro e w1 ⟨rfl, m2, rfl⟩
              go_wp2_with fail
              go_meet
              exact ⟨congrArg Value.bool (decide_eq_false (p := bt s j = 101 ∨ bt s j = 69) H.out).symm, hrj.drewN _, huj.drewN _⟩
        case rest =>
          clear h1 hf1
          obtain ⟨hc8, hr8, hu8⟩ := hcut
          have h1 := hr8.c1
          have hf1 := hr8.fr 1
          by_cases hE : bt s j = 101 ∨ bt s j = 69
          · have hl : j < s.size := lt_of_bt (by omega)
            have pE : Part s i bad (j + 1) bad' := hp.cat (Part.step hl (by unfold isNum; omega))
            rw [show isE (bt s j) = true from decide_eq_true hE] at hc8
            subst hc8
            clear hE hp
            have hr9 := hr8.setAt (j + 1)
            have hu9 := hu8.setCell (p := ⟨b, 1, none⟩) (.inl (.head _)) (.int .i64 ((j + 1 : Nat) : Int))
            by_cases ha : bt s (j + 1) = 43
            · have d : (bt s (j + 1) == 43) = true := by simpa using ha
              have hl2 : j + 1 < s.size := lt_of_bt (by omega)
              have pS : Part s i bad (j + 1 + 1) bad' := pE.cat (Part.step hl2 (by unfold isNum; omega))
              clear ha pE
              have hrb : ∀ n, Rd (((wc.setCell ⟨b, 1, none⟩ (.int .i64 ((j + 1 : Nat) : Int))).drewN n).setCell ⟨b, 1, none⟩ (.int .i64 ((j + 1 + 1 : Nat) : Int))) b s (j + 1 + 1) bad' := fun n => (hr9.drewN n).setAt _
              have hub : ∀ n, Upd [b] w (((wc.setCell ⟨b, 1, none⟩ (.int .i64 ((j + 1 : Nat) : Int))).drewN n).setCell ⟨b, 1, none⟩ (.int .i64 ((j + 1 + 1 : Nat) : Int))) := fun n => (hu9.drewN n).setCell (.inl (.head _)) _
              have h19 := hr9.c1
              go_wp2_with fail
              refine (next_any _ b s (j + 1) bad' hr9 hs).mono ?_
              rintro e w1 ⟨rfl, m1, rfl⟩
              go_wp2_with fail
              refine (digits_any _ b s (j + 1 + 1) bad' (hrb _) hs (by omega)).mono ?_
              rintro e w1 ⟨rfl, j1, bad1, hr1, hu1, hw1⟩
              go_wp2_with fail
              go_end0
              have p1 := pS.cat (Part.of_dig hw1)
              exact ⟨rfl, j1, bad1, hr1, (hub _).trans hu1, p1.1, p1.2.1, fun hf => ⟨(p1.2.2 hf).1, by have := (HQ.out (hw1.2.2 hf).1).1; have := hw1.1; omega, (HQ.out (hw1.2.2 hf).1).2, (p1.2.2 hf).2⟩⟩
            · have d : (bt s (j + 1) == 43) = false := by simpa using ha
              by_cases hb : bt s (j + 1) = 45
              · have d2 : (bt s (j + 1) == 45) = true := by simpa using hb
                have hl2 : j + 1 < s.size := lt_of_bt (by omega)
                have pS : Part s i bad (j + 1 + 1) bad' := pE.cat (Part.step hl2 (by unfold isNum; omega))
                clear ha hb pE
                have hrb : ∀ n, Rd (((wc.setCell ⟨b, 1, none⟩ (.int .i64 ((j + 1 : Nat) : Int))).drewN n).setCell ⟨b, 1, none⟩ (.int .i64 ((j + 1 + 1 : Nat) : Int))) b s (j + 1 + 1) bad' := fun n => (hr9.drewN n).setAt _
                have hub : ∀ n, Upd [b] w (((wc.setCell ⟨b, 1, none⟩ (.int .i64 ((j + 1 : Nat) : Int))).drewN n).setCell ⟨b, 1, none⟩ (.int .i64 ((j + 1 + 1 : Nat) : Int))) := fun n => (hu9.drewN n).setCell (.inl (.head _)) _
                have h19 := hr9.c1
                go_wp2_with fail
                refine (next_any _ b s (j + 1) bad' hr9 hs).mono ?_
                rintro e w1 ⟨rfl, m1, rfl⟩
                go_wp2_with fail
                refine (next_any _ b s (j + 1) bad' (hr9.drewN m1) hs).mono ?_
                rintro e w1 ⟨rfl, m2, rfl⟩
                go_wp2_with fail
                refine (digits_any _ b s (j + 1 + 1) bad' (hrb _) hs (by omega)).mono ?_
                rintro e w1 ⟨rfl, j1, bad1, hr1, hu1, hw1⟩
                go_wp2_with fail
                go_end0
                have p1 := pS.cat (Part.of_dig hw1)
                exact ⟨rfl, j1, bad1, hr1, (hub _).trans hu1, p1.1, p1.2.1, fun hf => ⟨(p1.2.2 hf).1, by have := (HQ.out (hw1.2.2 hf).1).1; have := hw1.1; omega, (HQ.out (hw1.2.2 hf).1).2, (p1.2.2 hf).2⟩⟩
              · have d2 : (bt s (j + 1) == 45) = false := by simpa using hb
                clear ha hb
                go_wp2_with fail
                refine (next_any _ b s (j + 1) bad' hr9 hs).mono ?_
                rintro e w1 ⟨rfl, m1, rfl⟩
                go_wp2_with fail
                refine (next_any _ b s (j + 1) bad' (hr9.drewN m1) hs).mono ?_
                rintro e w1 ⟨rfl, m2, rfl⟩
                go_wp2_with fail
                refine (digits_any _ b s (j + 1) bad' (hr9.drewN (m1 + m2)) hs (by omega)).mono ?_
                rintro e w1 ⟨rfl, j1, bad1, hr1, hu1, hw1⟩
                have hub := hu9.drewN (m1 + m2)
                go_wp2_with fail
                go_end0
                have p1 := pE.cat (Part.of_dig hw1)
                exact ⟨rfl, j1, bad1, hr1, hub.trans hu1, p1.1, p1.2.1, fun hf => ⟨(p1.2.2 hf).1, by have := (HQ.out (hw1.2.2 hf).1).1; have := hw1.1; omega, (HQ.out (hw1.2.2 hf).1).2, (p1.2.2 hf).2⟩⟩
          · rw [show isE (bt s j) = false from decide_eq_false hE] at hc8
            subst hc8
            clear hE
            go_wp2_with fail
            go_end0
            exact ⟨rfl, j, bad', hr8, hu8, hp.1, hp.2.1, fun hf => ⟨(hp.2.2 hf).1, (HQ.out hf).1, (HQ.out hf).2, (hp.2.2 hf).2⟩⟩
end Go.Proofs.YtcnkbdbkglggcaaGreatDoor

namespace Go.Proofs.YtcnkbdbkglggcaaGreatDoor
open Go.RowKit

set_option maxHeartbeats 1000000 in
theorem blank_any (w : World) (b : Nat) (s : ByteArray) (i : Nat) (bad : Bool) (hr : Rd w b s i bad) (hs : s.size ≤ 65536) (hi : i ≤ s.size) :
    Calls Tryz.prog 18 #[.pointer (some ⟨b, 0, none⟩)] w fun e w' => e = .returned (.tuple #[]) ∧ ∃ j : Nat, Rd w' b s j bad ∧ Upd [b] w w' ∧ Ws s i j := by
  go_enter Tryz.func18, Tryz.ntmps18
  go_wp2
  go_loopg [2] (s.size - i) (fun g _ wr => ∃ k : Nat, i ≤ k ∧ k ≤ s.size ∧ Rd wr b s k bad ∧ Upd [b] w wr ∧ Hid ((∀ x, i ≤ x → x < k → isWs (bt s x)) ∧ g = s.size - k))
  case atStart => exact ⟨i, Nat.le_refl _, hi, hr, Upd.refl _ _, ⟨fun x h1 h2 => by omega, rfl⟩⟩
  case round =>
    obtain ⟨k, hk1, hk2, hrd, hu, hsk⟩ := hrel
    have h0 := hrd.c0
    have h1 := hrd.c1
    have hf := hrd.fr 1
    by_cases hlt : k < s.size
    · have step : isWs (s[k].toNat : Int) → Hid (∀ x, i ≤ x → x < k + 1 → isWs (bt s x)) := fun h x h1 h2 => by
        rcases Nat.lt_or_ge x k with hl | hg
        · exact hsk.out.1 x h1 hl
        · have : x = k := by omega
          subst this; rw [← bt_lt hlt]; exact h
      have stop : ¬ isWs (s[k].toNat : Int) → Hid (Ws s i k) := fun h => ⟨hk1, hk2, hsk.out.1, by rw [← bt_lt hlt]; exact h⟩
      by_cases c1 : s[k].toNat = 32
      · have st := step (by unfold isWs; omega)
        clear step stop
        go_wp2
        go_quiet (fail)
        go_wp2
        go_roundg (s.size - (k + 1))
        case measure => have := hsk.out.2; omega
        case rel => exact ⟨k + 1, by omega, by omega, (hrd.drewN _).setAt (k + 1), (hu.drewN _).setCell (.inl (.head _)) _, ⟨st.out, rfl⟩⟩
      by_cases c2 : s[k].toNat = 9
      · have st := step (by unfold isWs; omega)
        clear step stop
        go_wp2
        go_quiet (fail)
        go_wp2
        go_roundg (s.size - (k + 1))
        case measure => have := hsk.out.2; omega
        case rel => exact ⟨k + 1, by omega, by omega, (hrd.drewN _).setAt (k + 1), (hu.drewN _).setCell (.inl (.head _)) _, ⟨st.out, rfl⟩⟩
      by_cases c3 : s[k].toNat = 10
      · have st := step (by unfold isWs; omega)
        clear step stop
        go_wp2
        go_quiet (fail)
        go_wp2
        go_roundg (s.size - (k + 1))
        case measure => have := hsk.out.2; omega
        case rel => exact ⟨k + 1, by omega, by omega, (hrd.drewN _).setAt (k + 1), (hu.drewN _).setCell (.inl (.head _)) _, ⟨st.out, rfl⟩⟩
      by_cases c4 : s[k].toNat = 13
      · have st := step (by unfold isWs; omega)
        clear step stop
        go_wp2
        go_quiet (fail)
        go_wp2
        go_roundg (s.size - (k + 1))
        case measure => have := hsk.out.2; omega
        case rel => exact ⟨k + 1, by omega, by omega, (hrd.drewN _).setAt (k + 1), (hu.drewN _).setCell (.inl (.head _)) _, ⟨st.out, rfl⟩⟩
      have st := stop (by unfold isWs; omega)
      clear step stop
      have d1 : ((s[k].toNat : Int) == 32) = false := by rw [beq_eq_false_iff_ne]; omega
      have d2 : ((s[k].toNat : Int) == 9) = false := by rw [beq_eq_false_iff_ne]; omega
      have d3 : ((s[k].toNat : Int) == 10) = false := by rw [beq_eq_false_iff_ne]; omega
      have d4 : ((s[k].toNat : Int) == 13) = false := by rw [beq_eq_false_iff_ne]; omega
      clear c1 c2 c3 c4
      go_wp2
      go_quiet (fail)
      go_wp2
      go_end0
      exact ⟨rfl, k, hrd.drewN _, hu.drewN _, st.out⟩
    · have st : Hid (Ws s i k) := ⟨hk1, hk2, hsk.out.1, by rw [bt_ge hlt]; unfold isWs; omega⟩
      have hd : decide (k < s.size) = false := by simpa using hlt
      go_wp2
      go_quiet (fail)
      go_wp2
      go_end0
      exact ⟨rfl, k, hrd.drewN _, hu.drewN _, st.out⟩
end Go.Proofs.YtcnkbdbkglggcaaGreatDoor
