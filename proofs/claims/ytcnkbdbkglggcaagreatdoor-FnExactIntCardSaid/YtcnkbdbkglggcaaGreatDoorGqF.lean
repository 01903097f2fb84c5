/-
  The library's reading of a whole number as a float, with a sign or without: from 'special' to 'ParseFloat' and 'tonum'. Condition: at most 18 digits, the number's magnitude below 2^52.
-/
import Derived.Test.YtcnkbdbkglggcaaGreatDoorGpE
import Derived.Test.YtcnkbdbkglggcaaGreatDoorGqE
import Derived.Laws.Externs
namespace Go.Proofs.YtcnkbdbkglggcaaGreatDoor
open Go.RowKit

set_option maxHeartbeats 1000000 in
theorem special_dig (w : World) (s : ByteArray) (hl : 0 < s.size) (hd : isDig (bt s 0)) :
    Calls Tryz.prog 141 #[.string s] w fun e w' => e = .returned (.tuple #[.float .f64 0, .int .i64 0, .bool false]) ∧ w' = w := by
  have hf : (s[0].toNat : Int) = bt s 0 := bt_lt hl
  have hb : 48 ≤ (s[0].toNat : Int) ∧ (s[0].toNat : Int) ≤ 57 := by
    unfold isDig at hd
    omega
  have e1 : decide (s = ByteArray.empty) = false := decide_eq_false (by rintro rfl; exact absurd hl (by decide))
  have d1 : ((s[0].toNat : Int) == 43) = false := beq_eq_false_iff_ne.2 (by omega)
  have d2 : ((s[0].toNat : Int) == 45) = false := beq_eq_false_iff_ne.2 (by omega)
  have d3 : ((s[0].toNat : Int) == 105) = false := beq_eq_false_iff_ne.2 (by omega)
  have d4 : ((s[0].toNat : Int) == 73) = false := beq_eq_false_iff_ne.2 (by omega)
  have d5 : ((s[0].toNat : Int) == 110) = false := beq_eq_false_iff_ne.2 (by omega)
  have d6 : ((s[0].toNat : Int) == 78) = false := beq_eq_false_iff_ne.2 (by omega)
  clear hb hf hd
  go_enter Tryz.func141, Tryz.ntmps141
  go_wp2_with fail
  refine bodyPost_ret (v := .tuple #[.float .f64 0, .int .i64 0, .bool false]) ?_ rfl ⟨rfl, rfl⟩
  simp [results, Tryz.results141, go_sem]


/-- A text that begins with a digit and a word that begins with a letter have no common beginning. -/
theorem common_no (w : World) (s : ByteArray) (hl : 0 < s.size) (hd : isDig (bt s 0)) :
    Calls Tryz.prog 160 #[.string s, .string ⟨#[105, 110, 102, 105, 110, 105, 116, 121]⟩] w fun e w' => e = .returned (.int .i64 0) ∧ w' = w := by
  have hf : (s[0].toNat : Int) = bt s 0 := bt_lt hl
  have hb : (s[0].toNat : Int) ≤ 57 := by
    unfold isDig at hd
    omega
  have d2 : ((s[0].toNat : Int) != 105) = true := bne_iff_ne.2 (by omega)
  have l0 : ((⟨#[105, 110, 102, 105, 110, 105, 116, 121]⟩ : ByteArray)[0].toNat : Int) = 105 := rfl
  clear hf hd
  go_enter Tryz.func160, Tryz.ntmps160
  by_cases h8 : 8 ≤ s.size
  all_goals
    go_wp2_with fail
    go_loopg [6] 0 (fun g v wr => v = .int .i64 0 ∧ wr = w)
    case atStart => exact ⟨rfl, rfl⟩
    case round =>
      obtain ⟨rfl, rfl⟩ := hrel
      go_wp2_with fail
      go_ret
      exact ⟨rfl, rfl⟩
set_option maxHeartbeats 1000000 in
theorem special_neg (w : World) (s : ByteArray) (h45 : bt s 0 = 45) (hl : 1 < s.size) (hd : isDig (bt s 1)) :
    Calls Tryz.prog 141 #[.string s] w fun e w' => e = .returned (.tuple #[.float .f64 0, .int .i64 0, .bool false]) ∧ w' = w := by
  have hl0 : 0 < s.size := by omega
  have hf : (s[0].toNat : Int) = bt s 0 := bt_lt hl0
  have e1 : decide (s = ByteArray.empty) = false := decide_eq_false (by rintro rfl; exact absurd hl (by decide))
  have d1 : ((s[0].toNat : Int) == 43) = false := beq_eq_false_iff_ne.2 (by omega)
  have d2 : ((s[0].toNat : Int) == 45) = true := beq_iff_eq.2 (by omega)
  have hz : (s.extract 1 s.size).size = s.size - 1 := by simp only [ByteArray.size_extract]; omega
  have hb1 : bt (s.extract 1 s.size) 0 = bt s 1 := bt_extract (by omega) (Nat.le_refl _)
  have cn := fun w => common_no w (s.extract 1 s.size) (by omega) (by rw [hb1]; exact hd)
  clear hf hd h45 hb1 hz
  go_enter Tryz.func141, Tryz.ntmps141
  go_wp2_with (go_at_call 160; refine (cn _).mono ?_; rintro e w1 ⟨rfl, rfl⟩)
  refine bodyPost_ret (v := .tuple #[.float .f64 0, .int .i64 0, .bool false]) ?_ rfl ⟨rfl, rfl⟩
  simp [results, Tryz.results141, go_sem]
theorem run_negf (k : FloatKind) (x : Nat) (w : World) : (Op.unary .neg (.float k x)).run Tryz.prog w = .ok (.float k (Op.negFloat k x)) w := rfl
theorem run_frombits (x : Int) (w : World) : (callFunc 151 #[.int .u64 x]).run Tryz.prog w = .ok (.value (.float .f64 x.toNat)) w := by
  rw [run_callFunc_extern Tryz.func151 (by kernel_rfl) (by kernel_rfl) (by kernel_rfl) (e := Extern.MathFloatBits.float64frombits) (by kernel_rfl)]
  rfl
set_option maxHeartbeats 1000000 in
theorem exact_neg (w : World) (hg : Gl w) (m : Nat) (hm : m < 4503599627370496) :
    Calls Tryz.prog 152 #[.int .u64 m, .int .i64 0, .bool true] w fun e w' => e = .returned (.tuple #[.float .f64 (Op.negFloat .f64 (floatOfInt .f64 (m : Int))), .bool true]) ∧ w' = w := by
  have h10 := hg.mant
  have rn := run_negf
  go_enter Tryz.func152, Tryz.ntmps152
  go_wp2_with fail
  go_ret2
  exact ⟨rfl, rfl⟩
theorem bool2_yes (w : World) : Calls Tryz.prog 150 #[.bool true] w fun e w' => e = .returned (.int .u64 1) ∧ w' = w := by
  go_enter Tryz.func150, Tryz.ntmps150
  go_wp2_with fail
  go_ret
  exact ⟨rfl, rfl⟩
/-- What 'atof64', 'ParseFloat' and 'tonum' return on a text. -/
def AtF (s : ByteArray) (x : Nat) : Prop := ∀ w : World, Gl w → Calls Tryz.prog 114 #[.string s] w fun e w' => e = .returned (.tuple #[.float .f64 x, .int .i64 s.size, .nilIface]) ∧ w' = w
def PFl (s : ByteArray) (x : Nat) : Prop := ∀ w : World, Gl w → Calls Tryz.prog 43 #[.string s, .int .i64 64] w fun e w' => e = .returned (.tuple #[.float .f64 x, .nilIface]) ∧ w' = w
def ToNum (s : ByteArray) (x : Nat) : Prop := ∀ w : World, Gl w → Calls Tryz.prog 34 #[.string s] w fun e w' => e = .returned (.tuple #[.string s, .float .f64 x]) ∧ w' = w

set_option maxRecDepth 100000 in
set_option maxHeartbeats 4000000 in
theorem atf_neg (s : ByteArray) (hd : DigsAt s 1) (h45 : bt s 0 = 45) (hm : dv s 1 (s.size - 1) < 4503599627370496) : AtF s (Op.negFloat .f64 (floatOfInt .f64 (dv s 1 (s.size - 1) : Int))) := by
  intro w hg
  have hl := hd.lt
  have hpos : (0 : Int) < (dv s 1 (s.size - 1) : Int) := by
    have h1 := dv_pos s 1 (s.size - 1) hd.first (by omega)
    omega
  have p1 : ((dv s 1 (s.size - 1) : Int) == 0) = false := beq_eq_false_iff_ne.2 (by omega)
  have h3 := hg.opt
  go_enter Tryz.func114, Tryz.ntmps114
  go_wp2_with fail
  refine (special_neg _ s h45 hl (hd.dig 1 (by omega) hl)).mono ?_
  rintro e w1 ⟨rfl, rfl⟩
  go_wp2_with fail
  refine (readFloat_neg _ s hd h45).mono ?_
  rintro e w1 ⟨rfl, rfl⟩
  go_wp2_with (first | (go_at_call 150; refine (bool2_yes _).mono ?_; rintro e w1 ⟨rfl, rfl⟩) | (go_at_call 152; refine (exact_neg _ hg _ hm).mono ?_; rintro e w1 ⟨rfl, rfl⟩))
  refine bodyPost_ret (v := .tuple #[.float .f64 (Op.negFloat .f64 (floatOfInt .f64 (dv s 1 (s.size - 1) : Int))), .int .i64 s.size, .nilIface]) ?_ rfl ⟨rfl, rfl⟩
  simp [results, Tryz.results114, go_sem]
set_option maxRecDepth 100000 in
set_option maxHeartbeats 4000000 in
theorem atf_zero (s : ByteArray) (hz : s.size = 1) (hc : bt s 0 = 48) : AtF s 0 := by
  intro w hg
  have hl : 0 < s.size := by omega
  have hd : isDig (bt s 0) := by rw [hc]; exact ⟨by decide, by decide⟩
  have h3 := hg.opt
  have rf := run_frombits
  have hb0 : bits BinOp.or IntKind.u64 0 0 = 0 := by decide
  go_enter Tryz.func114, Tryz.ntmps114
  go_wp2_with fail
  refine (special_dig _ s hl hd).mono ?_
  rintro e w1 ⟨rfl, rfl⟩
  go_wp2_with fail
  refine (readFloat_zero _ s hz hc).mono ?_
  rintro e w1 ⟨rfl, rfl⟩
  go_wp2_with (first | (go_at_call 150; refine (bool2_no _).mono ?_; rintro e w1 ⟨rfl, rfl⟩))
  refine bodyPost_ret (v := .tuple #[.float .f64 0, .int .i64 s.size, .nilIface]) ?_ rfl ⟨rfl, rfl⟩
  simp [results, Tryz.results114, go_sem, hz]
theorem pfl_of (s : ByteArray) (x : Nat) (h : AtF s x) (_hle : s.size ≤ 100) : PFl s x := by
  intro w hg
  have d1 : ((s.size : Int) != (s.size : Int)) = false := by simp
  have h85 : Calls Tryz.prog 85 #[.string s, .int .i64 64] w fun e w' => e = .returned (.tuple #[.float .f64 x, .int .i64 s.size, .nilIface]) ∧ w' = w := by
    go_enter Tryz.func85, Tryz.ntmps85
    go_wp2_with fail
    refine (h _ hg).mono ?_
    rintro e w1 ⟨rfl, rfl⟩
    go_wp2_with fail
    refine bodyPost_ret (v := .tuple #[.float .f64 x, .int .i64 s.size, .nilIface]) ?_ rfl ⟨rfl, rfl⟩
    simp [results, Tryz.results85, go_sem]
  have h65 : Calls Tryz.prog 65 #[.string s, .int .i64 64] w fun e w' => e = .returned (.tuple #[.float .f64 x, .nilIface]) ∧ w' = w := by
    go_enter Tryz.func65, Tryz.ntmps65
    go_wp2_with fail
    refine h85.mono ?_
    rintro e w1 ⟨rfl, rfl⟩
    go_wp2_with fail
    go_ret2
    exact ⟨rfl, rfl⟩
  go_enter Tryz.func43, Tryz.ntmps43
  go_wp2_with fail
  refine h65.mono ?_
  rintro e w1 ⟨rfl, rfl⟩
  go_wp2_with fail
  go_ret2
  exact ⟨rfl, rfl⟩
set_option maxHeartbeats 1000000 in
theorem tonum_of (s : ByteArray) (x : Nat) (h : PFl s x) (hl : 0 < s.size) (hle : s.size ≤ 100) (hdig : ∀ k, 1 ≤ k → k < s.size → isDig (bt s k)) : ToNum s x := by
  intro w hg
  have D := Lib.hid hdig
  have M := Lib.hid h
  clear hdig h
  go_enter Tryz.func34, Tryz.ntmps34
  go_wp2_with fail
  go_loopg [2, 4] (s.size - 1) (fun g v2 v wr => ∃ k : Nat, 1 ≤ k ∧ k ≤ s.size ∧ v2 = .string ⟨#[]⟩ ∧ v = .int .i64 k ∧ wr = w ∧ Hid (g = s.size - k))
  case atStart => exact ⟨1, by omega, by omega, rfl, rfl, rfl, rfl⟩
  case round =>
    obtain ⟨k, hk0, hk, rfl, rfl, rfl, hh⟩ := hrel
    by_cases hlt : k < s.size
    · have hk1 : 48 ≤ (s[k].toNat : Int) ∧ (s[k].toNat : Int) ≤ 57 := by
        have h1 := D.out k (by omega) hlt
        have h3 := bt_lt hlt
        unfold isDig at h1
        omega
      have g45 : decide ((s[k].toNat : Int) ≤ 45) = false := decide_eq_false (by omega)
      have g93 : ((s[k].toNat : Int) == 93) = false := beq_eq_false_iff_ne.2 (by omega)
      have g125 : ((s[k].toNat : Int) == 125) = false := beq_eq_false_iff_ne.2 (by omega)
      go_wp2_with fail
      go_roundg (s.size - (k + 1))
      case measure => have := hh.out; omega
      case rel => exact ⟨k + 1, by omega, by omega, rfl, by go_num, rfl, rfl⟩
    · go_wp2_with fail
      refine (M.out _ hg).mono ?_
      rintro e w1 ⟨rfl, rfl⟩
      go_wp2_with fail
      go_ret2
      exact ⟨rfl, rfl⟩
end Go.Proofs.YtcnkbdbkglggcaaGreatDoor
