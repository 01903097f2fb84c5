/-
  The reader's 'blank': it passes white space by. Condition: the text has at most 65536 bytes.
-/
import Derived.Test.YtcnkbdbkglggcaaGreatDoorBase
namespace Go.Proofs.YtcnkbdbkglggcaaGreatDoor
open Go.RowKit

set_option maxHeartbeats 1000000 in
theorem blank_any (w : World) (b : Nat) (s : ByteArray) (i : Nat) (bad : Bool) (hr : Rd w b s i bad) (hs : s.size ≤ 65536) (hi : i ≤ s.size) :
    Calls Tryz.prog 18 #[.pointer (some ⟨b, 0, none⟩)] w fun e w' => e = .returned (.tuple #[]) ∧ ∃ j : Nat, Rd w' b s j bad ∧ Upd [b] w w' ∧ Ws s i j := by
  go_enter Tryz.func18, Tryz.ntmps18
  go_wp2
  go_loopg [2] (s.size - i) (fun g _ wr => ∃ k : Nat, i ≤ k ∧ k ≤ s.size ∧ Rd wr b s k bad ∧ Upd [b] w wr ∧ Hid ((∀ x, i ≤ x → x < k → isWs (bt s x)) ∧ g = s.size - k))
  case atStart => exact ⟨i, Nat.le_refl _, hi, hr, Upd.refl _ _, ⟨fun x h1 h2 => by omega, rfl⟩⟩
  case round =>
    obtain ⟨k, hk1, hk2, hrd, hu, hsk⟩ := hrel
    have h0 := hrd.c0
    have h1 := hrd.c1
    have hf := hrd.fr 1
    by_cases hlt : k < s.size
    · have step : isWs (s[k].toNat : Int) → Hid (∀ x, i ≤ x → x < k + 1 → isWs (bt s x)) := fun h x h1 h2 => by
        rcases Nat.lt_or_ge x k with hl | hg
        · exact hsk.out.1 x h1 hl
        · have : x = k := by omega
          subst this; rw [← bt_lt hlt]; exact h
      have stop : ¬ isWs (s[k].toNat : Int) → Hid (Ws s i k) := fun h => ⟨hk1, hk2, hsk.out.1, by rw [← bt_lt hlt]; exact h⟩
      by_cases c1 : s[k].toNat = 32
      · have st := step (by unfold isWs; omega)
        clear step stop
        go_wp2
        go_quiet (fail)
        go_wp2
        go_roundg (s.size - (k + 1))
        case measure => have := hsk.out.2; omega
        case rel => exact ⟨k + 1, by omega, by omega, (hrd.drewN _).setAt (k + 1), (hu.drewN _).setCell (.inl (.head _)) _, ⟨st.out, rfl⟩⟩
      by_cases c2 : s[k].toNat = 9
      · have st := step (by unfold isWs; omega)
        clear step stop
        go_wp2
        go_quiet (fail)
        go_wp2
        go_roundg (s.size - (k + 1))
        case measure => have := hsk.out.2; omega
        case rel => exact ⟨k + 1, by omega, by omega, (hrd.drewN _).setAt (k + 1), (hu.drewN _).setCell (.inl (.head _)) _, ⟨st.out, rfl⟩⟩
      by_cases c3 : s[k].toNat = 10
      · have st := step (by unfold isWs; omega)
        clear step stop
        go_wp2
        go_quiet (fail)
        go_wp2
        go_roundg (s.size - (k + 1))
        case measure => have := hsk.out.2; omega
        case rel => exact ⟨k + 1, by omega, by omega, (hrd.drewN _).setAt (k + 1), (hu.drewN _).setCell (.inl (.head _)) _, ⟨st.out, rfl⟩⟩
      by_cases c4 : s[k].toNat = 13
      · have st := step (by unfold isWs; omega)
        clear step stop
        go_wp2
        go_quiet (fail)
        go_wp2
        go_roundg (s.size - (k + 1))
        case measure => have := hsk.out.2; omega
        case rel => exact ⟨k + 1, by omega, by omega, (hrd.drewN _).setAt (k + 1), (hu.drewN _).setCell (.inl (.head _)) _, ⟨st.out, rfl⟩⟩
      have st := stop (by unfold isWs; omega)
      clear step stop
      have d1 : ((s[k].toNat : Int) == 32) = false := by rw [beq_eq_false_iff_ne]; omega
      have d2 : ((s[k].toNat : Int) == 9) = false := by rw [beq_eq_false_iff_ne]; omega
      have d3 : ((s[k].toNat : Int) == 10) = false := by rw [beq_eq_false_iff_ne]; omega
      have d4 : ((s[k].toNat : Int) == 13) = false := by rw [beq_eq_false_iff_ne]; omega
      clear c1 c2 c3 c4
      go_wp2
      go_quiet (fail)
      go_wp2
      go_end0
      exact ⟨rfl, k, hrd.drewN _, hu.drewN _, st.out⟩
    · have st : Hid (Ws s i k) := ⟨hk1, hk2, hsk.out.1, by rw [bt_ge hlt]; unfold isWs; omega⟩
      have hd : decide (k < s.size) = false := by simpa using hlt
      go_wp2
      go_quiet (fail)
      go_wp2
      go_end0
      exact ⟨rfl, k, hrd.drewN _, hu.drewN _, st.out⟩
end Go.Proofs.YtcnkbdbkglggcaaGreatDoor
