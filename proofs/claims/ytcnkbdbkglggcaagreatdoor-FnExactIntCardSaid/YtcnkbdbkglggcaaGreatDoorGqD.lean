/-
  Plain laws on a number's decimal digits: they spell the number. No program, no condition.
-/
import Derived.Test.YtcnkbdbkglggcaaGreatDoorGqB
namespace Go.Proofs.YtcnkbdbkglggcaaGreatDoor
open Go.RowKit

theorem bt_str1 (c : Int) (h0 : 0 ≤ c) (h1 : c < 256) : bt (strOfNums [c]) 0 = c := by
  unfold bt
  rw [dif_pos (by rw [strOfNums_size]; simp)]
  simp only [strOfNums, ByteArray.getElem_eq_getElem_data]
  simp
  omega
theorem bt_cat_lo {a b : ByteArray} {k : Nat} (h : k < a.size) : bt (a ++ b) k = bt a k := by
  have h1 : k < (a ++ b).size := by rw [ByteArray.size_append]; omega
  unfold bt
  rw [dif_pos h1, dif_pos h, ByteArray.getElem_append_left h]
theorem bt_cat_hi {a b : ByteArray} : bt (a ++ b) a.size = bt b 0 := by
  unfold bt
  by_cases hb : 0 < b.size
  · rw [dif_pos (by rw [ByteArray.size_append]; omega), dif_pos hb, ByteArray.getElem_append_right (Nat.le_refl _)]
    simp
  · rw [dif_neg (by rw [ByteArray.size_append]; omega), dif_neg hb]
theorem dv_cat (a b : ByteArray) (n : Nat) (h : n ≤ a.size) : dv (a ++ b) 0 n = dv a 0 n := by
  induction n with
  | zero => rfl
  | succ n ih =>
    rw [show dv (a ++ b) 0 (n + 1) = dv (a ++ b) 0 n * 10 + ((bt (a ++ b) (0 + n)).toNat - 48) from rfl, show dv a 0 (n + 1) = dv a 0 n * 10 + ((bt a (0 + n)).toNat - 48) from rfl, ih (by omega), bt_cat_lo (by omega)]
/-- The text spells the number. -/
structure DecOK (d : ByteArray) (m : Nat) : Prop where
  pos : 0 < d.size
  dig : ∀ k, k < d.size → isDig (bt d k)
  val : dv d 0 d.size = m
  first : 0 < m → 49 ≤ bt d 0
theorem dec_ok (m : Nat) : DecOK (decB m) m := by
  induction m using Nat.strongRecOn with
  | ind m ih =>
    rw [decB]
    split
    · rename_i h
      have hb : bt (strOfNums [48 + (m : Int)]) 0 = 48 + (m : Int) := bt_str1 _ (by omega) (by omega)
      have hz : (strOfNums [48 + (m : Int)]).size = 1 := by rw [strOfNums_size]; rfl
      refine ⟨by omega, fun k hk => ?_, ?_, fun h0 => by omega⟩
      · have : k = 0 := by omega
        subst this
        rw [hb]
        exact ⟨by omega, by omega⟩
      · rw [hz]
        show dv _ 0 0 * 10 + ((bt _ (0 + 0)).toNat - 48) = m
        rw [Nat.zero_add, hb]
        simp only [dv]
        omega
    · rename_i h
      have IH := ih (m / 10) (by omega)
      have hb : bt (strOfNums [48 + ((m % 10 : Nat) : Int)]) 0 = 48 + ((m % 10 : Nat) : Int) := bt_str1 _ (by omega) (by omega)
      have hz : (decB (m / 10) ++ strOfNums [48 + ((m % 10 : Nat) : Int)]).size = (decB (m / 10)).size + 1 := by rw [ByteArray.size_append, strOfNums_size]; rfl
      have hp := IH.pos
      refine ⟨by omega, fun k hk => ?_, ?_, fun _ => ?_⟩
      · rcases Nat.lt_or_ge k (decB (m / 10)).size with hl | hg
        · rw [bt_cat_lo hl]
          exact IH.dig k hl
        · have : k = (decB (m / 10)).size := by omega
          subst this
          rw [bt_cat_hi, hb]
          exact ⟨by omega, by omega⟩
      · rw [hz]
        show dv _ 0 _ * 10 + ((bt _ (0 + (decB (m / 10)).size)).toNat - 48) = m
        rw [Nat.zero_add, dv_cat _ _ _ (Nat.le_refl _), IH.val, bt_cat_hi, hb]
        omega
      · rw [bt_cat_lo hp]
        exact IH.first (by omega)
end Go.Proofs.YtcnkbdbkglggcaaGreatDoor
