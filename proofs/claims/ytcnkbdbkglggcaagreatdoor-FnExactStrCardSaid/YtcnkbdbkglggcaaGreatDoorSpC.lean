/-
  The reader's 'digits': it takes digits, one at least. Condition: the text has at most 65536 bytes.
-/
import Derived.Test.YtcnkbdbkglggcaaGreatDoorSpA
namespace Go.Proofs.YtcnkbdbkglggcaaGreatDoor
open Go.RowKit

/-- What 'digits' leaves where it is not bad. -/
def DigQ (s : ByteArray) (i j : Nat) : Prop := i < j ∧ ∀ k, i ≤ k → k < j → isDig (bt s k)

set_option maxHeartbeats 1000000 in
theorem digits_no (w : World) (b : Nat) (s : ByteArray) (i : Nat) (bad : Bool) (hr : Rd w b s i bad) (hs : s.size ≤ 65536) (hi : i ≤ s.size) (hn : ¬ isDig (bt s i)) :
    Calls Tryz.prog 50 #[.pointer (some ⟨b, 0, none⟩)] w fun e w' => e = .returned (.tuple #[]) ∧ Read1 w b s i bad (DigQ s i) w' := by
  have hf := hr.fr 2
  have h2 := hr.c2
  unfold isDig at hn
  have fin : ∀ n m, (Rd (((w.drewN n).setCell ⟨b, 2, none⟩ (.bool true)).drewN m) b s i true ∧ Upd [b] w (((w.drewN n).setCell ⟨b, 2, none⟩ (.bool true)).drewN m)) ∧ Went s i bad i true (DigQ s i i) := fun n m =>
    ⟨⟨((hr.drewN n).setBad true).drewN m, (((Upd.refl [b] w).drewN n).setCell (.inl (.head _)) _).drewN m⟩, Nat.le_refl _, hi, fun h => by cases h⟩
  have mid : ∀ n, Rd ((w.drewN n).setCell ⟨b, 2, none⟩ (.bool true)) b s i true := fun n => (hr.drewN n).setBad true
  by_cases h48 : bt s i < 48
  · have d3 : decide (48 ≤ bt s i) = false := by simpa using h48
    go_enter Tryz.func50, Tryz.ntmps50
    go_wp2_with fail
    refine (next_any _ b s i bad hr hs).mono ?_
    rintro e w1 ⟨rfl, n, rfl⟩
    go_wp2_with fail
    refine (next_any _ b s i true (mid n) hs).mono ?_
    rintro e w1 ⟨rfl, m, rfl⟩
    go_wp2_with fail
    go_loopg [3] 0 (fun _ v wr => v = .int .u8 (bt s i) ∧ wr = ((w.drewN n).setCell ⟨b, 2, none⟩ (.bool true)).drewN m)
    case atStart => exact ⟨rfl, by go_simp⟩
    case round =>
      obtain ⟨rfl, rfl⟩ := hrel
      go_wp2
      go_end0
      exact ⟨rfl, i, true, (fin n m).1.1, (fin n m).1.2, (fin n m).2⟩
  · have h57 : bt s i > 57 := by omega
    have d1 : decide (bt s i < 48) = false := by simpa using h48
    have d3 : decide (48 ≤ bt s i) = true := by simpa using h48
    have d4 : decide (bt s i ≤ 57) = false := by simpa using h57
    go_enter Tryz.func50, Tryz.ntmps50
    go_wp2_with fail
    refine (next_any _ b s i bad hr hs).mono ?_
    rintro e w1 ⟨rfl, n, rfl⟩
    go_wp2_with fail
    refine (next_any _ b s i true (mid n) hs).mono ?_
    rintro e w1 ⟨rfl, m, rfl⟩
    go_wp2_with fail
    go_loopg [3] 0 (fun _ v wr => v = .int .u8 (bt s i) ∧ wr = ((w.drewN n).setCell ⟨b, 2, none⟩ (.bool true)).drewN m)
    case atStart => exact ⟨rfl, by go_simp⟩
    case round =>
      obtain ⟨rfl, rfl⟩ := hrel
      go_wp2
      go_end0
      exact ⟨rfl, i, true, (fin n m).1.1, (fin n m).1.2, (fin n m).2⟩

set_option maxHeartbeats 1000000 in
theorem digits_yes (w : World) (b : Nat) (s : ByteArray) (i : Nat) (bad : Bool) (hr : Rd w b s i bad) (hs : s.size ≤ 65536) (hn : isDig (bt s i)) :
    Calls Tryz.prog 50 #[.pointer (some ⟨b, 0, none⟩)] w fun e w' => e = .returned (.tuple #[]) ∧ Read1 w b s i bad (DigQ s i) w' := by
  have HN := Lib.hid hn
  have hi : i < s.size := lt_of_bt (by unfold isDig at hn; omega)
  unfold isDig at hn
  have d1 : decide (bt s i < 48) = false := by simp; omega
  have d2 : decide (57 < bt s i) = false := by simp; omega
  clear hn
  go_enter Tryz.func50, Tryz.ntmps50
  go_wp2_with fail
  refine (next_any _ b s i bad hr hs).mono ?_
  rintro e w1 ⟨rfl, n, rfl⟩
  go_wp2_with fail
  refine (next_any _ b s i bad (hr.drewN n) hs).mono ?_
  rintro e w1 ⟨rfl, m, rfl⟩
  clear d1 d2
  go_wp2_with fail
  go_loopg [3] (s.size - i) (fun g v wr => ∃ j : Nat, i ≤ j ∧ j ≤ s.size ∧ v = .int .u8 (bt s j) ∧ Rd wr b s j bad ∧ Upd [b] w wr ∧ Hid (g = s.size - j ∧ ∀ k, i ≤ k → k < j → isDig (bt s k)))
  case atStart => exact ⟨i, Nat.le_refl _, by omega, rfl, hr.drewN _, (Upd.refl _ _).drewN _, rfl, fun k _ _ => by omega⟩
  case round =>
    obtain ⟨j, hj1, hj2, rfl, hrd, hu, hh⟩ := hrel
    have h1 := hrd.c1
    have hf1 := hrd.fr 1
    by_cases hd : isDig (bt s j)
    · have HD := Lib.hid hd
      have hjl : j < s.size := lt_of_bt (by unfold isDig at hd; omega)
      unfold isDig at hd
      have d3 : decide (48 ≤ bt s j) = true := by simp; omega
      have d4 : decide (bt s j ≤ 57) = true := by simp; omega
      have hnx := hrd.setAt (j + 1)
      clear hd
      go_wp2_with fail
      refine (next_any _ b s (j + 1) bad hnx hs).mono ?_
      rintro e w1 ⟨rfl, m2, rfl⟩
      go_wp2_with fail
      go_roundg (s.size - (j + 1))
      case measure => have := hh.out.1; omega
      case rel =>
        refine ⟨j + 1, by omega, by omega, rfl, hnx.drewN _, (hu.setCell (p := ⟨b, 1, none⟩) (.inl (.head _)) _).drewN _, rfl, fun k h1 h2 => ?_⟩
        rcases Nat.lt_or_ge k j with hl | hg
        · exact hh.out.2 k h1 hl
        · have : k = j := by omega
          subst this; exact HD.out
    · have fin : Went s i bad j bad (DigQ s i j) := ⟨hj1, hj2, fun h => ⟨h, by
        rcases Nat.lt_or_ge i j with hl | hg
        · exact hl
        · have : j = i := by omega
          subst this; exact absurd HN.out hd, hh.out.2⟩⟩
      unfold isDig at hd
      by_cases h48 : bt s j < 48
      · have d3 : decide (48 ≤ bt s j) = false := by simp; omega
        go_wp2
        go_end0
        exact ⟨rfl, j, bad, hrd, hu, fin⟩
      · have d3 : decide (48 ≤ bt s j) = true := by simp; omega
        have d4 : decide (bt s j ≤ 57) = false := by simp; omega
        go_wp2
        go_end0
        exact ⟨rfl, j, bad, hrd, hu, fin⟩

theorem digits_any (w : World) (b : Nat) (s : ByteArray) (i : Nat) (bad : Bool) (hr : Rd w b s i bad) (hs : s.size ≤ 65536) (hi : i ≤ s.size) :
    Calls Tryz.prog 50 #[.pointer (some ⟨b, 0, none⟩)] w fun e w' => e = .returned (.tuple #[]) ∧ Read1 w b s i bad (DigQ s i) w' := by
  by_cases h : isDig (bt s i)
  · exact digits_yes w b s i bad hr hs h
  · exact digits_no w b s i bad hr hs hi h
end Go.Proofs.YtcnkbdbkglggcaaGreatDoor
