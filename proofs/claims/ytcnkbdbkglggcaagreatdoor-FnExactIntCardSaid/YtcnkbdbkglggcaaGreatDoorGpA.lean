/-
  The program's small readers: 'tolit', 'Exists', and the specification's 'Trimmed'. Condition: the text has at most 2^31 bytes.
-/
import Derived.Test.YtcnkbdbkglggcaaGreatDoorBase
import Derived.RegionTactic
import Derived.ChangeAlike
namespace Go.Proofs.YtcnkbdbkglggcaaGreatDoor
open Go.RowKit

/-- A float is stored like any other value of one cell. -/
theorem run_store_float64 {P : Program} (w : World) (a : Addr) (m : Mode) (k : FloatKind) (x : Nat) : (store a (.float k x) m).run P w = stored P w a (.float k x) m := run_store P w a _ m rfl
/-- From 1 to n there are small letters, and at n is none. -/
def LitQ (s : ByteArray) (n : Nat) : Prop := 1 ≤ n ∧ n ≤ s.size ∧ (∀ k, 1 ≤ k → k < n → 97 ≤ bt s k ∧ bt s k ≤ 122) ∧ ¬ (97 ≤ bt s n ∧ bt s n ≤ 122)
def Lit1 (w : World) (s : ByteArray) (e : Ending) (w' : World) : Prop := ∃ n, e = .returned (.string (s.extract 0 n)) ∧ LitQ s n ∧ w' = w
theorem tolit_any (w : World) (s : ByteArray) (h1 : 1 ≤ s.size) (hs : s.size ≤ 2 ^ 31) : Calls Tryz.prog 35 #[.string s] w fun e w' => Lit1 w s e w' := by
  go_enter Tryz.func35, Tryz.ntmps35
  go_wp2_with fail
  go_loopg [3] (s.size - 1) (fun g v wr => ∃ k : Nat, 1 ≤ k ∧ k ≤ s.size ∧ v = .int .i64 k ∧ wr = w ∧ Hid ((∀ x, 1 ≤ x → x < k → 97 ≤ bt s x ∧ bt s x ≤ 122) ∧ g = s.size - k))
  case atStart => exact ⟨1, by omega, h1, rfl, rfl, fun x _ _ => by omega, rfl⟩
  case round =>
    obtain ⟨k, hk1, hk2, rfl, rfl, hh⟩ := hrel
    by_cases hlt : k < s.size
    · have HB := Lib.hid (bt_lt hlt)
      by_cases c1 : s[k].toNat < 97
      · go_wp2_with fail
        go_ret
        exact ⟨k, rfl, ⟨hk1, hk2, hh.out.1, fun h => by have := HB.out; omega⟩, rfl⟩
      by_cases c2 : 122 < s[k].toNat
      · go_wp2_with fail
        go_ret
        exact ⟨k, rfl, ⟨hk1, hk2, hh.out.1, fun h => by have := HB.out; omega⟩, rfl⟩
      go_wp2_with fail
      go_roundg (s.size - (k + 1))
      case measure => have := hh.out.2; omega
      case rel => exact ⟨k + 1, by omega, by omega, by go_num, rfl, fun x h1 h2 => by
        rcases Nat.lt_or_ge x k with hl | hg
        · exact hh.out.1 x h1 hl
        · have : x = k := by omega
          subst this; have := HB.out; omega, rfl⟩
    · have HK := Lib.hid (show k = s.size by omega)
      go_wp2_with fail
      go_ret
      refine ⟨k, ?_, ⟨hk1, hk2, hh.out.1, fun h => ?_⟩, rfl⟩
      · rw [HK.out, ByteArray.extract_zero_size]; rfl
      · rw [bt_ge hlt] at h; omega

theorem idx_nat (s : ByteArray) (i : Int) (j : Nat) (hij : i = (j : Int)) (h : j < s.size) (w : World) : (Instr.index 9 (.string s) (.int .i64 i)).run Tryz.prog w = .ok (.int .u8 (bt s j)) w := by
  subst hij
  rw [run_index_string w 9 s .i64 (j : Int) Tryz.underlying9]
  simp [h, bt]
theorem cut_nat (s : ByteArray) (i : Int) (j : Nat) (hij : i = (j : Int)) (h : j ≤ s.size) (w : World) : (Instr.slice 9 (.string s) none (some (.int .i64 i)) none).run Tryz.prog w = .ok (.string (s.extract 0 j)) w := by
  subst hij
  simp [Instr.slice, Instr.sliceBounds, Instr.sliceBound, asIntOf, run_underlying Tryz.underlying9]
  intro hc
  omega
theorem bt_extract {s : ByteArray} {a b k : Nat} (h : a + k < b) (hb : b ≤ s.size) : bt (s.extract a b) k = bt s (a + k) := by
  have h1 : k < (s.extract a b).size := by simp only [ByteArray.size_extract]; omega
  unfold bt
  rw [dif_pos h1, dif_pos (by omega), ByteArray.getElem_extract]
theorem ext_ext0 (s : ByteArray) {n m : Nat} (h : n ≤ m) (_hm : m ≤ s.size) : (s.extract 0 m).extract 0 n = s.extract 0 n := by
  rw [ByteArray.extract_extract]
  congr 1
  omega

/-- What 'Trimmed' returns: the text without the white space behind it. -/
theorem trimmed_any (w : World) (s : ByteArray) (j : Nat) (hj : j ≤ s.size) (hs : s.size ≤ 2 ^ 31) (hw : ∀ k, j ≤ k → k < s.size → isWs (bt s k)) (hn : 0 < j → ¬ isWs (bt s (j - 1))) :
    Calls Tryz.prog 11 #[.string s] w fun e w' => e = .returned (.string (s.extract 0 j)) ∧ w' = w := by
  have HW := Lib.hid hw; clear hw
  have HN := Lib.hid hn; clear hn
  go_enter Tryz.func11, Tryz.ntmps11
  go_wp2_with fail
  go_loopg [0] (s.size - j) (fun g v wr => ∃ u : ByteArray, v = .string u ∧ j ≤ u.size ∧ u.size ≤ s.size ∧ wr = w ∧ Hid (u = s.extract 0 u.size ∧ g = u.size - j))
  case atStart => exact ⟨s, rfl, hj, Nat.le_refl _, rfl, by rw [ByteArray.extract_zero_size], rfl⟩
  case round =>
    obtain ⟨u, rfl, hju, hus, rfl, hh⟩ := hrel
    have stop : j = u.size → (.returned (.string u) : Ending) = .returned (.string (s.extract 0 j)) := fun h => by rw [h, ← hh.out.1]
    by_cases h0 : 0 < u.size
    · have hbu : bt u (u.size - 1) = bt s (u.size - 1) := by
        have h := hh.out.1
        have h2 := bt_extract (s := s) (a := 0) (b := u.size) (k := u.size - 1) (by omega) hus
        rw [← h] at h2
        rw [h2, Nat.zero_add]
      have x1 : ∀ w, (Instr.index 9 (.string u) (.int .i64 ((u.size : Int) - 1))).run Tryz.prog w = .ok (.int .u8 (bt u (u.size - 1))) w := fun w => idx_nat u _ (u.size - 1) (by omega) (by omega) w
      have x2 : ∀ w, (Instr.slice 9 (.string u) none (some (.int .i64 ((u.size : Int) - 1))) none).run Tryz.prog w = .ok (.string (u.extract 0 (u.size - 1))) w := fun w => cut_nat u _ (u.size - 1) (by omega) (by omega) w
      have hmeas : ∀ (hlt : j < u.size), (u.extract 0 (u.size - 1)).size - j < u.size - j := fun hlt => by simp only [ByteArray.size_extract]; omega
      have next : j < u.size → ∃ u' : ByteArray, Value.string (u.extract 0 (u.size - 1)) = .string u' ∧ j ≤ u'.size ∧ u'.size ≤ s.size ∧ wr = wr ∧ Hid (u' = s.extract 0 u'.size ∧ u'.size - j = u'.size - j) := fun hlt => by
        have hz : (u.extract 0 (u.size - 1)).size = u.size - 1 := by simp only [ByteArray.size_extract]; omega
        refine ⟨_, rfl, by omega, by omega, rfl, ?_, rfl⟩
        rw [hz]
        conv => lhs; rw [hh.out.1]
        rw [ByteArray.size_extract]
        exact (by rw [show min u.size s.size - 0 - 1 = u.size - 1 by omega]; exact ext_ext0 s (by omega) hus)
      have more : isWs (bt u (u.size - 1)) → j < u.size := fun h => by
        rcases Nat.lt_or_ge j u.size with hl | hg
        · exact hl
        · have hE : j = u.size := by omega
          subst hE
          exact absurd (hbu ▸ h) (HN.out h0)
      by_cases c32 : bt u (u.size - 1) = 32
      · have C := Lib.hid c32
        have d32 : (bt u (u.size - 1) == 32) = true := by simpa using c32
        have e32 : decide (bt u (u.size - 1) = 32) = true := by simpa using c32
        clear c32
        have hlt := more (by rw [C.out]; decide)
        have st := Lib.hid (next hlt)
        have ms := Lib.hid (hmeas hlt)
        clear more next hmeas stop hbu hlt
        go_wp2_with fail
        clear x1 x2
        go_roundg ((u.extract 0 (u.size - 1)).size - j)
        case measure => have := ms.out; have := hh.out.2; omega
        case rel => obtain ⟨u', h, a, b, _, d⟩ := st.out; cases h; exact ⟨_, rfl, a, b, rfl, d.out.1, rfl⟩
      have d32 : (bt u (u.size - 1) == 32) = false := by simpa using c32
      have e32 : decide (bt u (u.size - 1) = 32) = false := by simpa using c32
      by_cases c9 : bt u (u.size - 1) = 9
      · have C := Lib.hid c9
        have d9 : (bt u (u.size - 1) == 9) = true := by simpa using c9
        have e9 : decide (bt u (u.size - 1) = 9) = true := by simpa using c9
        clear c9
        have hlt := more (by rw [C.out]; decide)
        have st := Lib.hid (next hlt)
        have ms := Lib.hid (hmeas hlt)
        clear more next hmeas stop hbu hlt
        go_wp2_with fail
        clear x1 x2
        go_roundg ((u.extract 0 (u.size - 1)).size - j)
        case measure => have := ms.out; have := hh.out.2; omega
        case rel => obtain ⟨u', h, a, b, _, d⟩ := st.out; cases h; exact ⟨_, rfl, a, b, rfl, d.out.1, rfl⟩
      have d9 : (bt u (u.size - 1) == 9) = false := by simpa using c9
      have e9 : decide (bt u (u.size - 1) = 9) = false := by simpa using c9
      by_cases c10 : bt u (u.size - 1) = 10
      · have C := Lib.hid c10
        have d10 : (bt u (u.size - 1) == 10) = true := by simpa using c10
        have e10 : decide (bt u (u.size - 1) = 10) = true := by simpa using c10
        clear c10
        have hlt := more (by rw [C.out]; decide)
        have st := Lib.hid (next hlt)
        have ms := Lib.hid (hmeas hlt)
        clear more next hmeas stop hbu hlt
        go_wp2_with fail
        clear x1 x2
        go_roundg ((u.extract 0 (u.size - 1)).size - j)
        case measure => have := ms.out; have := hh.out.2; omega
        case rel => obtain ⟨u', h, a, b, _, d⟩ := st.out; cases h; exact ⟨_, rfl, a, b, rfl, d.out.1, rfl⟩
      have d10 : (bt u (u.size - 1) == 10) = false := by simpa using c10
      have e10 : decide (bt u (u.size - 1) = 10) = false := by simpa using c10
      by_cases c13 : bt u (u.size - 1) = 13
      · have C := Lib.hid c13
        have d13 : (bt u (u.size - 1) == 13) = true := by simpa using c13
        have e13 : decide (bt u (u.size - 1) = 13) = true := by simpa using c13
        clear c13
        have hlt := more (by rw [C.out]; decide)
        have st := Lib.hid (next hlt)
        have ms := Lib.hid (hmeas hlt)
        clear more next hmeas stop hbu hlt
        go_wp2_with fail
        clear x1 x2
        go_roundg ((u.extract 0 (u.size - 1)).size - j)
        case measure => have := ms.out; have := hh.out.2; omega
        case rel => obtain ⟨u', h, a, b, _, d⟩ := st.out; cases h; exact ⟨_, rfl, a, b, rfl, d.out.1, rfl⟩
      have d13 : (bt u (u.size - 1) == 13) = false := by simpa using c13
      have e13 : decide (bt u (u.size - 1) = 13) = false := by simpa using c13
      have hE : j = u.size := by
        rcases Nat.lt_or_ge j u.size with hl | hg
        · have hk := HW.out (u.size - 1) (by omega) (by omega)
          rw [← hbu] at hk
          unfold isWs at hk
          omega
        · omega
      have st := Lib.hid (stop hE)
      clear more next hmeas stop hbu hE c32 c9 c10 c13 x2
      go_wp2_with fail
      go_ret
      exact ⟨st.out, rfl⟩
    · have hE : j = u.size := by omega
      have st := Lib.hid (stop hE)
      clear stop hE
      go_wp2_with fail
      go_ret
      exact ⟨st.out, rfl⟩

/-- A result of the program's in memory: its kind, text, string, number, place. -/
def resCells (k : Int) (raw str : ByteArray) (x : Nat) (i : Int) : Array Value := #[.int .i64 k, .string raw, .string str, .float .f64 x, .int .i64 i, .slice none 0 0]
theorem exists_yes (w : World) (k : Int) (raw str : ByteArray) (x : Nat) (i : Int) (h : k ≠ 0 ∨ 0 < raw.size) : Calls Tryz.prog 37 #[.agg (resCells k raw str x i)] w fun e w' => e = .returned (.bool true) ∧ w' = w.alloc (.cells (resCells k raw str x i) 49) := by
  unfold resCells
  by_cases hk : k = 0
  · have hr : 0 < raw.size := by
      rcases h with h | h
      · exact absurd hk h
      · exact h
    have d1 : (k != 0) = false := by simpa using hk
    have d2 : decide (k ≠ 0) = false := by simpa using hk
    have d3 : ((raw.size : Int) != 0) = true := bne_iff_ne.2 (by omega)
    have d4 : decide ((raw.size : Int) ≠ 0) = true := decide_eq_true (by omega)
    clear hk h
    go_enter Tryz.func37, Tryz.ntmps37
    go_wp2_with fail
    go_ret
    exact ⟨rfl, rfl⟩
  · have d1 : (k != 0) = true := by simpa using hk
    have d2 : decide (k ≠ 0) = true := by simpa using hk
    clear hk h
    go_enter Tryz.func37, Tryz.ntmps37
    go_wp2_with fail
    go_ret
    exact ⟨rfl, rfl⟩
end Go.Proofs.YtcnkbdbkglggcaaGreatDoor
