/-
  The law FnExactString. Condition: what the library's variables hold that the road reads.
-/
import Derived.Test.YtcnkbdbkglggcaaGreatDoorGpH
namespace Go.Proofs.YtcnkbdbkglggcaaGreatDoor
open Go.RowKit

theorem kind_cases (c : Int) : c = 34 ∨ c = 116 ∨ c = 102 ∨ c = 110 ∨ (c = 123 ∨ c = 91) ∨ kindOf c = 2 := by
  unfold kindOf
  by_cases h1 : c = 34
  · exact .inl h1
  by_cases h2 : c = 116
  · exact .inr (.inl h2)
  by_cases h3 : c = 102
  · exact .inr (.inr (.inl h3))
  by_cases h4 : c = 110
  · exact .inr (.inr (.inr (.inl h4)))
  by_cases h5 : c = 123
  · exact .inr (.inr (.inr (.inr (.inl (.inl h5)))))
  by_cases h6 : c = 91
  · exact .inr (.inr (.inr (.inr (.inl (.inr h6)))))
  · rw [if_neg h1, if_neg h2, if_neg h3, if_neg h4, if_neg h5, if_neg h6]
    exact .inr (.inr (.inr (.inr (.inr rfl))))
/-- White space behind a list is trimmed. -/
theorem trim_list (w : World) (s : ByteArray) (i j : Nat) (hs : s.size ≤ 2 ^ 31) (hij : i + 2 ≤ j) (hj : j ≤ s.size) (hws : Ws s j s.size) (hn : ¬ isWs (bt s (j - 1))) :
    Calls Tryz.prog 11 #[.string (s.extract i s.size)] w fun e w' => e = .returned (.string (s.extract i j)) ∧ w' = w := by
  have hz : (s.extract i s.size).size = s.size - i := by simp only [ByteArray.size_extract]; omega
  have h1 : (s.extract i s.size).extract 0 (j - i) = s.extract i j := by
    rw [ByteArray.extract_extract]
    congr 1
    omega
  rw [← h1]
  refine trimmed_any w (s.extract i s.size) (j - i) (by omega) (by omega) (fun k h2 h3 => ?_) (fun h2 => ?_)
  · rw [bt_extract (by omega) (Nat.le_refl _)]
    exact hws.2.2.1 _ (by omega) (by omega)
  · rw [bt_extract (by omega) (Nat.le_refl _), show i + (j - i - 1) = j - 1 by omega]
    exact hn
theorem trim_word (w : World) (u : ByteArray) (hs : u.size ≤ 2 ^ 31) (hn : 0 < u.size → ¬ isWs (bt u (u.size - 1))) :
    Calls Tryz.prog 11 #[.string u] w fun e w' => e = .returned (.string u) ∧ w' = w := by
  have h := trimmed_any w u u.size (Nat.le_refl _) hs (fun k h1 h2 => by omega) hn
  rw [ByteArray.extract_zero_size] at h
  exact h

set_option maxRecDepth 100000 in
set_option maxHeartbeats 4000000 in
theorem law_string (w : World) (s : ByteArray) (hg : Gl w) (hs47 : s.size ≤ 2 ^ 47) : Calls Tryz.prog 4 #[.string s] w fun e w' => e = .returned (.bool true) ∧ Upd [] w w' := by
  by_cases hbig : 2147483647 < s.size
  · have d0 : decide ((2147483647 : Int) < (s.size : Int)) = true := decide_eq_true (by omega)
    go_enter Tryz.func4, Tryz.ntmps4
    go_wp2_with fail
    go_ret
    exact ⟨rfl, Upd.refl _ _⟩
  · have d0 : decide ((2147483647 : Int) < (s.size : Int)) = false := decide_eq_false (by omega)
    have hs31 : s.size ≤ 2 ^ 31 := by omega
    go_enter Tryz.func4, Tryz.ntmps4
    go_wp2_with fail
    refine (read_any w s hs47).mono ?_
    rintro e w1 ⟨t, raw, i, ok, rfl, hu1, hown, hq⟩
    have hg1 := hg.upd hu1
    obtain ⟨A1, n1, hkv⟩ := own_slice hown.1
    obtain ⟨A2, n2, hiv⟩ := own_slice hown.2.1
    clear hown
    obtain ⟨kind, o, pairs, kv, iv, ks, its⟩ := t
    dsimp only at hkv hiv
    subst hkv hiv
    dsimp only [TreeV.cells]
    have hu2 := hu1.alloc (.cells #[.int .i64 kind, .string raw, .int .i64 i, .string (strOfNums o), .bool pairs, .slice A1 ks.length n1, .slice A2 its.length n2] 25)
    have hg2 := hg.upd hu2
    cases ok with
    | false =>
      clear hq
      go_wp2_with fail
      go_ret
      exact ⟨rfl, hu2⟩
    | true =>
      obtain ⟨_, hk, j, d, hws0, hraw, hij, hj, hsh, hwsj, _⟩ := hq rfl
      dsimp only at hk
      clear hq
      rcases kind_cases (bt s i) with hc | hc | hc | hc | hc | hc
      · have hk3 : kind = 3 := by rw [hk, hc]; decide
        subst hk3 hraw
        clear hk hc hsh
        go_wp2_with fail
        go_ret
        exact ⟨rfl, hu2⟩
      · have hk4 : kind = 4 := by rw [hk, hc]; decide
        have hr := hraw.trans (word_raw (hsh.2.1 hc) hj)
        subst hk4 hr
        clear hk hsh hraw
        have HC := Lib.hid hc; clear hc
        go_wp2_with fail
        refine (string_word_true _ s i hs31 hws0 HC.out).mono ?_
        rintro e w3 ⟨rfl, hu3⟩
        have hu4 := hu2.trans hu3
        have hg4 := hg.upd hu4
        go_wp2_with fail
        refine (trim_word _ uTrue (by decide) (fun _ => by decide)).mono ?_
        rintro e w4 ⟨rfl, rfl⟩
        go_wp2_with fail
        refine (string_one _ hg4).mono ?_
        rintro e w5 ⟨rfl, hu5⟩
        go_wp2_with fail
        go_ret
        exact ⟨rfl, hu4.trans hu5⟩
      · have hk4 : kind = 1 := by rw [hk, hc]; decide
        have hr := hraw.trans (word_raw (hsh.2.2.1 hc) hj)
        subst hk4 hr
        clear hk hsh hraw
        have HC := Lib.hid hc; clear hc
        go_wp2_with fail
        refine (string_word_false _ s i hs31 hws0 HC.out).mono ?_
        rintro e w3 ⟨rfl, hu3⟩
        have hu4 := hu2.trans hu3
        have hg4 := hg.upd hu4
        go_wp2_with fail
        refine (trim_word _ uFalse (by decide) (fun _ => by decide)).mono ?_
        rintro e w4 ⟨rfl, rfl⟩
        go_wp2_with fail
        refine (string_one _ hg4).mono ?_
        rintro e w5 ⟨rfl, hu5⟩
        go_wp2_with fail
        go_ret
        exact ⟨rfl, hu4.trans hu5⟩
      · have hk4 : kind = 0 := by rw [hk, hc]; decide
        have hwq := hsh.2.2.2.1 hc
        have hc2 : bt s (i + 1) = 117 := (hwq.2 1 (by decide)).trans (by decide)
        subst hk4 hraw
        clear hk hsh hwq
        have HC := Lib.hid hc; clear hc
        have HC2 := Lib.hid hc2; clear hc2
        go_wp2_with fail
        refine (string_word_null _ s i hs31 hws0 HC.out HC2.out).mono ?_
        rintro e w3 ⟨rfl, hu3⟩
        have hu4 := hu2.trans hu3
        have hg4 := hg.upd hu4
        go_wp2_with fail
        refine (trim_word _ ⟨#[]⟩ (by decide) (fun h => absurd h (by decide))).mono ?_
        rintro e w4 ⟨rfl, rfl⟩
        go_wp2_with fail
        refine (string_one _ hg4).mono ?_
        rintro e w5 ⟨rfl, hu5⟩
        go_wp2_with fail
        go_ret
        exact ⟨rfl, hu4.trans hu5⟩
      · have hk4 : kind = 5 := by rcases hc with hc | hc <;> rw [hk, hc] <;> decide
        have hlast : i + 2 ≤ j ∧ ¬ isWs (bt s (j - 1)) := by
          rcases hc with hc | hc
          · obtain ⟨h1, h2⟩ := hsh.2.2.2.2.1 hc
            exact ⟨h1, by rw [h2]; decide⟩
          · obtain ⟨h1, h2⟩ := hsh.2.2.2.2.2.1 hc
            exact ⟨h1, by rw [h2]; decide⟩
        subst hk4 hraw
        clear hk hsh
        have HC := Lib.hid hc; clear hc
        have HL := Lib.hid hlast; clear hlast
        go_wp2_with fail
        refine (string_list _ s i hs31 hws0 HC.out).mono ?_
        rintro e w3 ⟨rfl, hu3⟩
        have hu4 := hu2.trans hu3
        have hg4 := hg.upd hu4
        go_wp2_with fail
        refine (trim_list _ s i j hs31 HL.out.1 hj hwsj HL.out.2).mono ?_
        rintro e w4 ⟨rfl, rfl⟩
        go_wp2_with fail
        refine (string_one _ hg4).mono ?_
        rintro e w5 ⟨rfl, hu5⟩
        go_wp2_with fail
        go_ret
        exact ⟨rfl, hu4.trans hu5⟩
      · rw [hc] at hk
        subst hk hraw
        clear hc hsh
        go_wp2_with fail
        go_ret
        exact ⟨rfl, hu2⟩
end Go.Proofs.YtcnkbdbkglggcaaGreatDoor
