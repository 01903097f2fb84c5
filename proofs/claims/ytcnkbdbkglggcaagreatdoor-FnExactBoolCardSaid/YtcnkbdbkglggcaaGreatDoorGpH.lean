/-
  The thin package's 'String', and the law FnExactString. Condition: what the library's variables hold that the road reads.
-/
import Derived.Test.YtcnkbdbkglggcaaGreatDoorSpO
import Derived.Test.YtcnkbdbkglggcaaGreatDoorGpF
import Derived.Test.YtcnkbdbkglggcaaGreatDoorGpG
namespace Go.Proofs.YtcnkbdbkglggcaaGreatDoor
open Go.RowKit

theorem impl_string (w : World) (s u : ByteArray) (P : Value → Prop) (hp : Calls Tryz.prog 20 #[.string s] w fun e w' => ∃ v, e = .returned v ∧ P v ∧ Upd [] w w')
    (hq : ∀ v w1, P v → Calls Tryz.prog 23 #[v] w1 fun e w' => e = .returned (.string u) ∧ Upd [] w1 w') :
    Calls Tryz.prog 12 #[.string s] w fun e w' => e = .returned (.string u) ∧ Upd [] w w' := by
  go_enter Tryz.func12, Tryz.ntmps12
  go_wp2_with fail
  refine hp.mono ?_
  rintro e w1 ⟨v, rfl, hv, hu1⟩
  go_wp2_with fail
  refine (hq v w1 hv).mono ?_
  rintro e w2 ⟨rfl, hu2⟩
  go_wp2_with fail
  go_ret
  exact ⟨rfl, hu1.trans hu2⟩
theorem ext_bt {a b : ByteArray} (hz : a.size = b.size) (h : ∀ k, k < a.size → bt a k = bt b k) : a = b := by
  apply ByteArray.ext_getElem hz
  intro k h1 h2
  have := h k h1
  unfold bt at this
  rw [dif_pos h1, dif_pos h2] at this
  exact UInt8.toNat_inj.1 (by omega)
theorem word_raw {s u : ByteArray} {i j : Nat} (h : WordQ s i j u) (hj : j ≤ s.size) : s.extract i j = u := by
  have hz : (s.extract i j).size = u.size := by
    have := h.1
    simp only [ByteArray.size_extract]; omega
  refine ext_bt hz fun k hk => ?_
  rw [bt_extract (by have := h.1; omega) hj]
  exact h.2 k (by omega)
theorem one_digs : DigsAt ⟨#[49]⟩ 0 := ⟨by decide, by decide, fun k _ h2 => by
  have h3 : k < 1 := h2
  have : k = 0 := by omega
  subst this
  exact ⟨by decide, by decide⟩, by decide⟩
theorem string_one (w : World) (hg : Gl w) : Calls Tryz.prog 12 #[.string ⟨#[49]⟩] w fun e w' => e = .returned (.string ⟨#[49]⟩) ∧ Upd [] w w' :=
  impl_string w _ _ (fun v => v = .agg (resCells 2 ⟨#[49]⟩ ⟨#[]⟩ (floatOfInt .f64 (dv ⟨#[49]⟩ 0 (ByteArray.mk #[49]).size : Int)) 0)) ((parse_one w hg ⟨#[49]⟩ one_digs (by decide) (by decide)).mono fun e w' h => ⟨_, h.1, rfl, h.2⟩)
    (fun v w1 hv => by subst hv; exact string_nat w1 _ _ _ _ one_digs)
theorem string_word_true (w : World) (s : ByteArray) (i : Nat) (hs : s.size ≤ 2 ^ 31) (hws : Ws s 0 i) (hc : bt s i = 116) : Calls Tryz.prog 12 #[.string s] w fun e w' => e = .returned (.string uTrue) ∧ Upd [] w w' :=
  impl_string w _ _ (fun v => ∃ r, v = .agg (resCells 4 r ⟨#[]⟩ 0 i)) ((parse_true w s i hs hws hc).mono fun e w' h => by obtain ⟨n, h1, _, h2⟩ := h; exact ⟨_, h1, ⟨_, rfl⟩, h2⟩)
    (fun v w1 hv => by obtain ⟨r, rfl⟩ := hv; exact string_true w1 _ _ _ _)
theorem string_word_false (w : World) (s : ByteArray) (i : Nat) (hs : s.size ≤ 2 ^ 31) (hws : Ws s 0 i) (hc : bt s i = 102) : Calls Tryz.prog 12 #[.string s] w fun e w' => e = .returned (.string uFalse) ∧ Upd [] w w' :=
  impl_string w _ _ (fun v => ∃ r, v = .agg (resCells 1 r ⟨#[]⟩ 0 i)) ((parse_false w s i hs hws hc).mono fun e w' h => by obtain ⟨n, h1, _, h2⟩ := h; exact ⟨_, h1, ⟨_, rfl⟩, h2⟩)
    (fun v w1 hv => by obtain ⟨r, rfl⟩ := hv; exact string_false w1 _ _ _ _)
theorem string_word_null (w : World) (s : ByteArray) (i : Nat) (hs : s.size ≤ 2 ^ 31) (hws : Ws s 0 i) (hc : bt s i = 110) (hc2 : bt s (i + 1) = 117) : Calls Tryz.prog 12 #[.string s] w fun e w' => e = .returned (.string ⟨#[]⟩) ∧ Upd [] w w' :=
  impl_string w _ _ (fun v => ∃ r, v = .agg (resCells 0 r ⟨#[]⟩ 0 i)) ((parse_null w s i hs hws hc hc2).mono fun e w' h => by obtain ⟨n, h1, _, h2⟩ := h; exact ⟨_, h1, ⟨_, rfl⟩, h2⟩)
    (fun v w1 hv => by obtain ⟨r, rfl⟩ := hv; exact string_null w1 _ _ _ _)
theorem string_list (w : World) (s : ByteArray) (i : Nat) (hs : s.size ≤ 2 ^ 31) (hws : Ws s 0 i) (hc : bt s i = 123 ∨ bt s i = 91) : Calls Tryz.prog 12 #[.string s] w fun e w' => e = .returned (.string (s.extract i s.size)) ∧ Upd [] w w' :=
  impl_string w _ _ (fun v => v = .agg (resCells 5 (s.extract i s.size) ⟨#[]⟩ 0 i)) ((parse_json w s i hs hws hc).mono fun e w' h => ⟨_, h.1, rfl, h.2⟩)
    (fun v w1 hv => by subst hv; exact string_json w1 _ _ _ _)
end Go.Proofs.YtcnkbdbkglggcaaGreatDoor
