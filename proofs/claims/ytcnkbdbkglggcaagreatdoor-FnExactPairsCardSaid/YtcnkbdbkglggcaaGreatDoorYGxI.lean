/-
  The library's 'readFloat' on every text of bytes of numbers: it returns, and the number that it has read has at most 19 digits. Condition: the text has at most 2^31 bytes.
-/
import Derived.Test.YtcnkbdbkglggcaaGreatDoorYGxH
set_option linter.unusedVariables false
set_option linter.unusedSimpArgs false
namespace Go.Proofs.YtcnkbdbkglggcaaGreatDoor
open Go.RowKit

theorem res_rfl {w : World} {L : List Value} {a b c d e f g : Value} (h2 : L[2]? = some a) (h3 : L[3]? = some b) (h4 : L[4]? = some c) (h5 : L[5]? = some d) (h6 : L[6]? = some e) (h7 : L[7]? = some f) (h8 : L[8]? = some g) :
    (results Tryz.f142 L.toArray).run Tryz.prog w = .ok (.tuple #[a, b, c, d, e, f, g]) w := by
  simp [results, Tryz.results142, go_sem, h2, h3, h4, h5, h6, h7, h8]
set_option maxRecDepth 100000 in
set_option maxHeartbeats 16000000 in
theorem readf_any (w : World) (s : ByteArray) (h1 : 0 < s.size) (hs : s.size ≤ 2 ^ 31) (hn : Nums s 0 s.size) :
    Calls Tryz.prog 142 #[.string s] w fun e w' => RfOut w s e w' := by
  have e0 : decide (s = ByteArray.empty) = false := decide_eq_false (by rintro rfl; exact absurd h1 (by decide))
  have HN := Lib.hid hn
  clear hn
  go_enter Tryz.func142, Tryz.ntmps142
  go_wp2_with fail
  go_step3
  go_upto_block 0 with fail
  go_cut [4, 7] (fun x4 x7 wx => ∃ (ng : Bool) (i : Nat), x4 = .bool ng ∧ x7 = .int .i64 i ∧ i ≤ 1 ∧ wx = w)
  case first =>
    by_cases c43 : (s[0].toNat : Int) = 43
    · have d1 : ((s[0].toNat : Int) == 43) = true := beq_iff_eq.2 c43
      clear c43
      go_wp2_with fail
      go_meet
      exact ⟨_, 1, rfl, by go_num, by decide, rfl⟩
    · have d1 : ((s[0].toNat : Int) == 43) = false := beq_eq_false_iff_ne.2 c43
      clear c43
      by_cases c45 : (s[0].toNat : Int) = 45
      · have d2 : ((s[0].toNat : Int) == 45) = true := beq_iff_eq.2 c45
        clear c45
        go_wp2_with fail
        go_meet
        exact ⟨_, 1, rfl, by go_num, by decide, rfl⟩
      · have d2 : ((s[0].toNat : Int) == 45) = false := beq_eq_false_iff_ne.2 c45
        clear c45
        go_wp2_with fail
        go_meet
        exact ⟨_, 0, rfl, by go_num, by decide, rfl⟩
  case rest =>
    obtain ⟨ng, i0, rfl, rfl, hi0, rfl⟩ := hcut
    have hw2 : IntKind.i64.wrap ((i0 : Int) + 2) = (i0 : Int) + 2 := IntWalk.i64_in _ (by omega)
    have hw1 : IntKind.i64.wrap ((i0 : Int) + 1) = (i0 : Int) + 1 := IntWalk.i64_in _ (by omega)
    by_cases h2 : i0 + 2 < s.size
    · have g1 : decide ((i0 : Int) + 2 < (s.size : Int)) = true := decide_eq_true (by omega)
      have hlt : i0 < s.size := by omega
      have hlt1 : i0 + 1 < s.size := by omega
      have hz : (0 : Int) ≤ (i0 : Int) + 1 := by omega
      have hz2 : ((i0 : Int) + 1).toNat = i0 + 1 := by omega
      have hz3 : (i0 : Int) + 1 < (s.size : Int) := by omega
      have hk : isNum (s[i0 + 1].toNat : Int) := by rw [bt_lt hlt1]; exact HN.out _ (Nat.zero_le _) hlt1
      have HK := Lib.hid hk
      clear hk
      by_cases c48 : (s[i0].toNat : Int) = 48
      · have d48 : ((s[i0].toNat : Int) == 48) = true := beq_iff_eq.2 c48
        clear c48
        go_upto_if 54 with (go_at_call 121; refine (lower_num _ _ HK.out).mono ?_; rintro e w1 ⟨⟨v, rfl, hv⟩, rfl⟩; have dv : (v == 120) = false := beq_eq_false_iff_ne.2 hv; clear hv)
        go_cut [6, 7, 10, 11, 12] (fun x6 x7 x10 x11 x12 wx => x6 = .bool false ∧ x7 = .int .i64 i0 ∧ x10 = .int .u64 10 ∧ x11 = .int .i64 19 ∧ x12 = .int .u8 101 ∧ wx = w1)
        case first =>
          go_wp2_with fail
          go_meet
          exact ⟨rfl, rfl, rfl, rfl, rfl, rfl⟩
        case rest =>
          obtain ⟨rfl, rfl, rfl, rfl, rfl, rfl⟩ := hcut
          go_step
          refine rf_loop _ _ s hs HN i0 ng (by omega) _ ?_ fun L m2 i2 ex ng2 tr2 ok q2 q3 q4 q5 q6 q7 q8 z1 z2 z3 => ?_
          · exact FrR0.intro rfl rfl rfl rfl rfl rfl rfl rfl rfl rfl rfl rfl rfl
          rw [Exit.noGoto_ret]
          exact bodyPost_ret (res_rfl q2 q3 q4 q5 q6 q7 q8) rfl ⟨⟨m2, i2, ex, ng2, tr2, ok, rfl, z1, z2, z3⟩, rfl⟩
      · have d48 : ((s[i0].toNat : Int) == 48) = false := beq_eq_false_iff_ne.2 c48
        clear c48
        go_upto_if 54 with fail
        go_cut [6, 7, 10, 11, 12] (fun x6 x7 x10 x11 x12 wx => x6 = .bool false ∧ x7 = .int .i64 i0 ∧ x10 = .int .u64 10 ∧ x11 = .int .i64 19 ∧ x12 = .int .u8 101 ∧ wx = wc)
        case first =>
          go_wp2_with fail
          go_meet
          exact ⟨rfl, rfl, rfl, rfl, rfl, rfl⟩
        case rest =>
          obtain ⟨rfl, rfl, rfl, rfl, rfl, rfl⟩ := hcut
          go_step
          refine rf_loop _ _ s hs HN i0 ng (by omega) _ ?_ fun L m2 i2 ex ng2 tr2 ok q2 q3 q4 q5 q6 q7 q8 z1 z2 z3 => ?_
          · exact FrR0.intro rfl rfl rfl rfl rfl rfl rfl rfl rfl rfl rfl rfl rfl
          rw [Exit.noGoto_ret]
          exact bodyPost_ret (res_rfl q2 q3 q4 q5 q6 q7 q8) rfl ⟨⟨m2, i2, ex, ng2, tr2, ok, rfl, z1, z2, z3⟩, rfl⟩
    · have g1 : decide ((i0 : Int) + 2 < (s.size : Int)) = false := decide_eq_false (by omega)
      go_upto_if 54 with fail
      go_cut [6, 7, 10, 11, 12] (fun x6 x7 x10 x11 x12 wx => x6 = .bool false ∧ x7 = .int .i64 i0 ∧ x10 = .int .u64 10 ∧ x11 = .int .i64 19 ∧ x12 = .int .u8 101 ∧ wx = wc)
      case first =>
        go_wp2_with fail
        go_meet
        exact ⟨rfl, rfl, rfl, rfl, rfl, rfl⟩
      case rest =>
        obtain ⟨rfl, rfl, rfl, rfl, rfl, rfl⟩ := hcut
        go_step
        refine rf_loop _ _ s hs HN i0 ng (by omega) _ ?_ fun L m2 i2 ex ng2 tr2 ok q2 q3 q4 q5 q6 q7 q8 z1 z2 z3 => ?_
        · exact FrR0.intro rfl rfl rfl rfl rfl rfl rfl rfl rfl rfl rfl rfl rfl
        rw [Exit.noGoto_ret]
        exact bodyPost_ret (res_rfl q2 q3 q4 q5 q6 q7 q8) rfl ⟨⟨m2, i2, ex, ng2, tr2, ok, rfl, z1, z2, z3⟩, rfl⟩
end Go.Proofs.YtcnkbdbkglggcaaGreatDoor
