/-
  The reader's 'hex': four hexadecimal digits and their number; and 'Rune': a number as UTF-8. Condition: the text has at most 65536 bytes.
-/
import Derived.Test.YtcnkbdbkglggcaaGreatDoorSpA
namespace Go.Proofs.YtcnkbdbkglggcaaGreatDoor
open Go.RowKit

/-- The value of a hexadecimal digit. -/
def hexD (c : Int) : Int := if c ≤ 57 then c - 48 else if c ≤ 70 then c - 55 else c - 87
def isHex (c : Int) : Prop := 48 ≤ c ∧ c ≤ 57 ∨ 97 ≤ c ∧ c ≤ 102 ∨ 65 ≤ c ∧ c ≤ 70
/-- The number of x hexadecimal digits from i on. -/
def hexP (s : ByteArray) (i : Nat) : Nat → Int
  | 0 => 0
  | x + 1 => hexP s i x * 16 + hexD (bt s (i + x))
def HexQ (s : ByteArray) (i x : Nat) : Prop := ∀ k, k < x → isHex (bt s (i + k))
theorem hexD_range {c : Int} (h : isHex c) : 0 ≤ hexD c ∧ hexD c ≤ 15 := by
  unfold isHex at h; unfold hexD; split
  · omega
  · split <;> omega
theorem hexP_range {s : ByteArray} {i x : Nat} (h : HexQ s i x) : 0 ≤ hexP s i x ∧ hexP s i x < 16 ^ x := by
  induction x with
  | zero => exact ⟨Int.le_refl _, by simp [hexP]⟩
  | succ x ih =>
    obtain ⟨h1, h2⟩ := ih fun k hk => h k (by omega)
    have hr := hexD_range (h x (by omega))
    have e : (16 : Int) ^ (x + 1) = 16 ^ x * 16 := by rw [Int.pow_succ]
    simp only [hexP]
    omega
theorem hexP_bound {s : ByteArray} {i x : Nat} (h : HexQ s i x) (hx : x ≤ 4) : 0 ≤ hexP s i x ∧ hexP s i x ≤ 65535 ∧ (x < 4 → hexP s i x ≤ 4095) := by
  obtain ⟨h1, h2⟩ := hexP_range h
  have h4 : x = 0 ∨ x = 1 ∨ x = 2 ∨ x = 3 ∨ x = 4 := by omega
  rcases h4 with rfl | rfl | rfl | rfl | rfl <;> simp at h2 <;> omega
/-- What a call of 'hex' returns and leaves. -/
def Hex1 (w : World) (b : Nat) (s : ByteArray) (i : Nat) (bad : Bool) (e : Ending) (w' : World) : Prop :=
  ∃ (n : Int) (j : Nat) (bad' : Bool), e = .returned (.int .i64 n) ∧ 0 ≤ n ∧ n ≤ 65535 ∧ Rd w' b s j bad' ∧ Upd [b] w w' ∧ Went s i bad j bad' (j = i + 4 ∧ HexQ s i 4 ∧ n = hexP s i 4)

set_option maxHeartbeats 2000000 in
theorem hex_any (w : World) (b : Nat) (s : ByteArray) (i : Nat) (bad : Bool) (hr : Rd w b s i bad) (hs : s.size ≤ 65536) (hi : i ≤ s.size) :
    Calls Tryz.prog 68 #[.pointer (some ⟨b, 0, none⟩)] w fun e w' => Hex1 w b s i bad e w' := by
  go_enter Tryz.func68, Tryz.ntmps68
  go_wp2
  go_loopg [3, 5] 4 (fun g v x wr => ∃ k : Nat, k ≤ 4 ∧ v = .int .i64 (hexP s i k) ∧ x = .int .i64 k ∧ g = 4 - k ∧ i + k ≤ s.size ∧ Rd wr b s (i + k) bad ∧ Upd [b] w wr ∧ Hid (HexQ s i k))
  case atStart => exact ⟨0, by omega, rfl, rfl, rfl, by omega, hr, Upd.refl _ _, fun k hk => by omega⟩
  case round =>
    obtain ⟨k, hk, rfl, rfl, hg, hik, hrd, hu, hq⟩ := hrel
    have HG := Lib.hid hg; clear hg
    have h1 := hrd.c1
    have h2 := hrd.c2
    have hf1 := hrd.fr 1
    have hf2 := hrd.fr 2
    obtain ⟨p1, p2, p3⟩ := hexP_bound hq.out hk
    by_cases hlt : k < 4
    · have p4 := p3 hlt
      obtain ⟨c1, c2⟩ := bt_range s (i + k)
      have fin : isHex (bt s (i + k)) → Hid (HexQ s i (k + 1)) := fun h x hx => by
        rcases Nat.lt_or_ge x k with hl | hg
        · exact hq.out x hl
        · have : x = k := by omega
          subst this; exact h
      have hl : isHex (bt s (i + k)) → i + k < s.size := fun h => lt_of_bt (by unfold isHex at h; omega)
      clear p3
      have hstep : ∀ n, Rd ((wr.drewN n).setCell ⟨b, 1, none⟩ (.int .i64 ((i + (k + 1) : Nat) : Int))) b s (i + (k + 1)) bad := fun n => (hrd.drewN n).setAt _
      by_cases dig : 48 ≤ bt s (i + k) ∧ bt s (i + k) ≤ 57
      · have hx : isHex (bt s (i + k)) := by unfold isHex; omega
        have hl1 := hl hx
        have hf := fin hx
        have hv : Hid (hexP s i (k + 1) = hexP s i k * 16 + (bt s (i + k) - 48)) := by simp only [hexP, hexD]; rw [if_pos (by omega)]; rfl
        have d0 : decide (48 ≤ bt s (i + k)) = true := by simp; omega
        have d1 : decide (bt s (i + k) ≤ 57) = true := by simp; omega
        have q1 : 0 ≤ bt s (i + k) - 48 := by omega
        have q2 : bt s (i + k) - 48 ≤ 15 := by omega
        clear fin hl hx
        go_wp2_with fail
        refine (next_any _ b s (i + k) bad hrd hs).mono ?_
        rintro e w1 ⟨rfl, n, rfl⟩
        go_wp2_with fail
        go_roundg (4 - (k + 1))
        case measure => have := HG.out; omega
        case rel => exact ⟨k + 1, by omega, by rw [hv.out], by go_num, rfl, by omega, hstep n, (hu.drewN n).setCell (p := ⟨b, 1, none⟩) (.inl (.head _)) _, hf⟩
      by_cases low : 97 ≤ bt s (i + k) ∧ bt s (i + k) ≤ 102
      · have hx : isHex (bt s (i + k)) := by unfold isHex; omega
        have hl1 := hl hx
        have hf := fin hx
        have hv : Hid (hexP s i (k + 1) = hexP s i k * 16 + (bt s (i + k) - 87)) := by simp only [hexP, hexD]; rw [if_neg (by omega), if_neg (by omega)]; rfl
        have d0 : decide (48 ≤ bt s (i + k)) = true := by simp; omega
        have d1 : decide (bt s (i + k) ≤ 57) = false := by simp; omega
        have d2 : decide (97 ≤ bt s (i + k)) = true := by simp; omega
        have d3 : decide (bt s (i + k) ≤ 102) = true := by simp; omega
        have q1 : 0 ≤ bt s (i + k) - 87 := by omega
        have q2 : bt s (i + k) - 87 ≤ 15 := by omega
        clear fin hl hx
        go_wp2_with fail
        refine (next_any _ b s (i + k) bad hrd hs).mono ?_
        rintro e w1 ⟨rfl, n, rfl⟩
        go_wp2_with fail
        go_roundg (4 - (k + 1))
        case measure => have := HG.out; omega
        case rel => exact ⟨k + 1, by omega, by rw [hv.out], by go_num, rfl, by omega, hstep n, (hu.drewN n).setCell (p := ⟨b, 1, none⟩) (.inl (.head _)) _, hf⟩
      by_cases up : 65 ≤ bt s (i + k) ∧ bt s (i + k) ≤ 70
      · have hx : isHex (bt s (i + k)) := by unfold isHex; omega
        have hl1 := hl hx
        have hf := fin hx
        have hv : Hid (hexP s i (k + 1) = hexP s i k * 16 + (bt s (i + k) - 55)) := by simp only [hexP, hexD]; rw [if_neg (by omega), if_pos (by omega)]; rfl
        have d0 : decide (48 ≤ bt s (i + k)) = true := by simp; omega
        have d1 : decide (bt s (i + k) ≤ 57) = false := by simp; omega
        have d2 : decide (97 ≤ bt s (i + k)) = false := by simp; omega
        have d3 : decide (65 ≤ bt s (i + k)) = true := by simp; omega
        have d4 : decide (bt s (i + k) ≤ 70) = true := by simp; omega
        have q1 : 0 ≤ bt s (i + k) - 55 := by omega
        have q2 : bt s (i + k) - 55 ≤ 15 := by omega
        clear fin hl hx
        go_wp2_with fail
        refine (next_any _ b s (i + k) bad hrd hs).mono ?_
        rintro e w1 ⟨rfl, n, rfl⟩
        go_wp2_with fail
        go_roundg (4 - (k + 1))
        case measure => have := HG.out; omega
        case rel => exact ⟨k + 1, by omega, by rw [hv.out], by go_num, rfl, by omega, hstep n, (hu.drewN n).setCell (p := ⟨b, 1, none⟩) (.inl (.head _)) _, hf⟩
      by_cases b1 : bt s (i + k) < 48
      · clear fin hl
        have d0 : decide (48 ≤ bt s (i + k)) = false := by simp; omega
        have d1 : decide (97 ≤ bt s (i + k)) = false := by simp; omega
        have d2 : decide (65 ≤ bt s (i + k)) = false := by simp; omega
        go_wp2_with fail
        refine (next_any _ b s (i + k) bad hrd hs).mono ?_
        rintro e w1 ⟨rfl, n, rfl⟩
        go_wp2_with fail
        go_ret
        exact ⟨0, i + k, true, rfl, by decide, by decide, (hrd.drewN n).setBad true, (hu.drewN n).setCell (p := ⟨b, 2, none⟩) (.inl (.head _)) _, by omega, hik, fun h => by cases h⟩
      by_cases b2 : bt s (i + k) < 65
      · clear fin hl
        have d0 : decide (48 ≤ bt s (i + k)) = true := by simp; omega
        have d1 : decide (bt s (i + k) ≤ 57) = false := by simp; omega
        have d2 : decide (97 ≤ bt s (i + k)) = false := by simp; omega
        have d3 : decide (65 ≤ bt s (i + k)) = false := by simp; omega
        go_wp2_with fail
        refine (next_any _ b s (i + k) bad hrd hs).mono ?_
        rintro e w1 ⟨rfl, n, rfl⟩
        go_wp2_with fail
        go_ret
        exact ⟨0, i + k, true, rfl, by decide, by decide, (hrd.drewN n).setBad true, (hu.drewN n).setCell (p := ⟨b, 2, none⟩) (.inl (.head _)) _, by omega, hik, fun h => by cases h⟩
      by_cases b3 : bt s (i + k) < 97
      · clear fin hl
        have d0 : decide (48 ≤ bt s (i + k)) = true := by simp; omega
        have d1 : decide (bt s (i + k) ≤ 57) = false := by simp; omega
        have d2 : decide (97 ≤ bt s (i + k)) = false := by simp; omega
        have d3 : decide (65 ≤ bt s (i + k)) = true := by simp; omega
        have d4 : decide (bt s (i + k) ≤ 70) = false := by simp; omega
        go_wp2_with fail
        refine (next_any _ b s (i + k) bad hrd hs).mono ?_
        rintro e w1 ⟨rfl, n, rfl⟩
        go_wp2_with fail
        go_ret
        exact ⟨0, i + k, true, rfl, by decide, by decide, (hrd.drewN n).setBad true, (hu.drewN n).setCell (p := ⟨b, 2, none⟩) (.inl (.head _)) _, by omega, hik, fun h => by cases h⟩
      clear fin hl
      have d0 : decide (48 ≤ bt s (i + k)) = true := by simp; omega
      have d1 : decide (bt s (i + k) ≤ 57) = false := by simp; omega
      have d2 : decide (97 ≤ bt s (i + k)) = true := by simp; omega
      have d3 : decide (bt s (i + k) ≤ 102) = false := by simp; omega
      have d4 : decide (65 ≤ bt s (i + k)) = true := by simp; omega
      have d5 : decide (bt s (i + k) ≤ 70) = false := by simp; omega
      go_wp2_with fail
      refine (next_any _ b s (i + k) bad hrd hs).mono ?_
      rintro e w1 ⟨rfl, n, rfl⟩
      go_wp2_with fail
      go_ret
      exact ⟨0, i + k, true, rfl, by decide, by decide, (hrd.drewN n).setBad true, (hu.drewN n).setCell (p := ⟨b, 2, none⟩) (.inl (.head _)) _, by omega, hik, fun h => by cases h⟩
    · have h4 : k = 4 := by omega
      subst h4
      go_wp2_with fail
      go_ret
      exact ⟨_, i + 4, bad, rfl, p1, p2, hrd, hu, by omega, hik, fun h => ⟨h, rfl, hq.out, rfl⟩⟩
end Go.Proofs.YtcnkbdbkglggcaaGreatDoor
