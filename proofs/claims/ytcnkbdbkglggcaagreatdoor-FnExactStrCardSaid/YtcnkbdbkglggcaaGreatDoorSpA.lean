/-
  The reader's leaves next, blank, take, word: what each call returns and leaves in memory. Condition: the text has at most 65536 bytes.
-/
import Derived.Test.YtcnkbdbkglggcaaGreatDoorBase
namespace Go.Proofs.YtcnkbdbkglggcaaGreatDoor
open Go.RowKit

set_option maxHeartbeats 400000 in
theorem next_any (w : World) (b : Nat) (s : ByteArray) (i : Nat) (bad : Bool) (hr : Rd w b s i bad) (hs : s.size ≤ 65536) :
    Calls Tryz.prog 29 #[.pointer (some ⟨b, 0, none⟩)] w fun e w' => e = .returned (.int .u8 (bt s i)) ∧ ∃ n, w' = w.drewN n := by
  have _hs := hs
  have h0 := hr.c0
  have h1 := hr.c1
  by_cases hlt : i < s.size
  · have HB := Lib.hid (bt_lt hlt)
    go_enter Tryz.func29, Tryz.ntmps29
    go_wp2
    go_quiet (fail)
    go_wp2
    go_quiet (fail)
    go_wp2
    go_ret
    exact ⟨ret_u8 HB.out, _, drewN_two _ _ _⟩
  · have HB := Lib.hid (bt_ge hlt)
    go_enter Tryz.func29, Tryz.ntmps29
    go_wp2
    go_quiet (fail)
    go_wp2
    go_ret
    exact ⟨ret_u8 HB.out.symm, _, rfl⟩

set_option maxHeartbeats 1000000 in
theorem take_any (w : World) (b : Nat) (s : ByteArray) (i : Nat) (bad : Bool) (c : Int) (hr : Rd w b s i bad) (hs : s.size ≤ 65536) (hi : i ≤ s.size) :
    Calls Tryz.prog 48 #[.pointer (some ⟨b, 0, none⟩), .int .u8 c] w fun e w' => e = .returned (.tuple #[]) ∧ Read1 w b s i bad (fun j => i < s.size ∧ bt s i = c ∧ j = i + 1) w' := by
  have h0 := hr.c0
  have h1 := hr.c1
  have hf := hr.fr 1
  have hf2 := hr.fr 2
  have h2 := hr.c2
  by_cases hlt : i < s.size
  · have HB := Lib.hid (bt_lt hlt)
    have hd : decide (s.size ≤ i) = false := by simpa using hlt
    by_cases hc : (s[i].toNat : Int) = c
    · have HC := Lib.hid hc
      have d1 : ((s[i].toNat : Int) != c) = false := by simpa using hc
      clear hc
      go_enter Tryz.func48, Tryz.ntmps48
      go_wp2
      go_quiet (fail)
      go_wp2
      go_end0
      exact ⟨rfl, i + 1, bad, (hr.drewN _).setAt (i + 1), ((Upd.refl [b] w).drewN _).setCell (.inl (.head _)) _, by omega, by omega, fun hb => ⟨hb, hlt, by rw [← HB.out]; exact HC.out, rfl⟩⟩
    · have d1 : ((s[i].toNat : Int) != c) = true := by simpa using hc
      clear hc
      go_enter Tryz.func48, Tryz.ntmps48
      go_wp2
      go_quiet (fail)
      go_wp2
      refine bodyPost_ret (results_none rfl _ _ _) rfl ?_
      exact ⟨rfl, i, true, (hr.drewN _).setBad true, ((Upd.refl [b] w).drewN _).setCell (.inl (.head _)) _, by omega, by omega, fun hb => by cases hb⟩
  · have hd : decide (s.size ≤ i) = true := by simpa using hlt
    go_enter Tryz.func48, Tryz.ntmps48
    go_wp2
    go_quiet (fail)
    go_wp2
    refine bodyPost_ret (results_none rfl _ _ _) rfl ?_
    exact ⟨rfl, i, true, (hr.drewN _).setBad true, ((Upd.refl [b] w).drewN _).setCell (.inl (.head _)) _, by omega, by omega, fun hb => by cases hb⟩

set_option maxHeartbeats 1000000 in
theorem word_any (w : World) (b : Nat) (s u : ByteArray) (i : Nat) (bad : Bool) (hr : Rd w b s i bad) (hs : s.size ≤ 65536) (hi : i ≤ s.size) (hu : u.size ≤ 100) :
    Calls Tryz.prog 31 #[.pointer (some ⟨b, 0, none⟩), .string u] w fun e w' => e = .returned (.tuple #[]) ∧ Read1 w b s i bad (fun j => j = i + u.size ∧ ∀ k, k < u.size → bt s (i + k) = bt u k) w' := by
  go_enter Tryz.func31, Tryz.ntmps31
  go_wp2
  go_loopg [4] u.size (fun g v wr => ∃ x : Nat, x ≤ u.size ∧ v = .int .i64 x ∧ g = u.size - x ∧ ∃ (j : Nat) (bad' : Bool), Rd wr b s j bad' ∧ Upd [b] w wr ∧ j ≤ s.size ∧
      Hid (Went s i bad j bad' (j = i + x ∧ ∀ k, k < x → bt s (i + k) = bt u k)))
  case atStart => exact ⟨0, by omega, rfl, rfl, i, bad, hr, Upd.refl _ _, hi, ⟨Nat.le_refl _, hi, fun h => ⟨h, rfl, fun k hk => by omega⟩⟩⟩
  case round =>
    obtain ⟨x, hx, rfl, hg, j, bad', hr', hup, hj, hw⟩ := hrel
    have HG := Lib.hid hg; clear hg
    have h2 := hr'.c2
    by_cases hlt : x < u.size
    · have HB := Lib.hid (bt_lt hlt)
      cases bad' with
      | true =>
        go_wp2
        go_end0
        exact ⟨rfl, j, true, hr', hup, hw.out.1, hj, fun h => by cases h⟩
      | false =>
        go_wp2_with (go_at_call 48; refine (take_any _ b s j false _ hr' hs hj).mono ?_; rintro e w1 ⟨rfl, j1, bad1, hr1, hu1, ht⟩)
        go_roundg (u.size - (x + 1))
        case measure => have := HG.out; omega
        case rel =>
          refine ⟨x + 1, by omega, by go_num, rfl, j1, bad1, hr1, hup.trans hu1, ht.2.1, ?_⟩
          refine ⟨Nat.le_trans hw.out.1 ht.1, ht.2.1, fun hf => ?_⟩
          obtain ⟨_, g1, g2, g3⟩ := ht.2.2 hf
          obtain ⟨k1, k2, k3⟩ := hw.out.2.2 rfl
          refine ⟨k1, by omega, fun k hk => ?_⟩
          rcases Nat.lt_or_ge k x with hl | hg
          · exact k3 k hl
          · have : k = x := by omega
            subst this
            rw [← k2, g2]; exact HB.out
    · have hx' : x = u.size := by omega
      have HX := Lib.hid hx'; clear hx'
      go_wp2
      go_end0
      refine ⟨rfl, j, bad', hr', hup, hw.out.1, hj, fun hf => ?_⟩
      obtain ⟨k1, k2, k3⟩ := hw.out.2.2 hf
      exact ⟨k1, by rw [← HX.out]; exact k2, fun k hk => k3 k (by rw [HX.out]; exact hk)⟩
end Go.Proofs.YtcnkbdbkglggcaaGreatDoor
