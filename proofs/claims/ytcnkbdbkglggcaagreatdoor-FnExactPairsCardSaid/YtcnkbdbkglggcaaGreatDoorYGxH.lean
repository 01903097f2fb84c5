/-
  The library's 'readFloat' on every text of bytes of numbers: it returns, and the number that it has read has at most 19 digits. Condition: the text has at most 2^31 bytes.
-/
import Derived.Test.YtcnkbdbkglggcaaGreatDoorYGxG
set_option linter.unusedVariables false
set_option linter.unusedSimpArgs false
namespace Go.Proofs.YtcnkbdbkglggcaaGreatDoor
open Go.RowKit

noncomputable def rfRest : Code := dropSeq 14 (match dropSeq 1 (bodyOf Tryz.f142) with | .scope c => c | c => c)
set_option maxRecDepth 100000 in
set_option maxHeartbeats 16000000 in
theorem rf_rest (Q : Exit → Act → World → Prop) (w : World) (s : ByteArray) (hs : s.size ≤ 2 ^ 31) (HN : Hid (Nums s 0 s.size)) (m i : Nat) (nd nm dp : Int) (ng tr sd sg : Bool) (his : i ≤ s.size) (hi1 : sg = true → 1 ≤ i) (HM : Hid (m < 10000000000000000000)) (x : Act) (hF : FrRf s m ng tr i sd sg nd nm dp x)
    (hQ : ∀ (L : List Value) (m2 i2 : Nat) (ex : Int) (ng tr ok : Bool), L[2]? = some (.int .u64 m2) → L[3]? = some (.int .i64 ex) → L[4]? = some (.bool ng) → L[5]? = some (.bool tr) → L[6]? = some (.bool false) → L[7]? = some (.int .i64 i2) → L[8]? = some (.bool ok) → m2 < 10000000000000000000 → i2 ≤ s.size → (ok = true → 1 ≤ i2) → Q .ret ⟨L.toArray, []⟩ w) : rfRest.wp Tryz.prog Q x w := by
  obtain ⟨fr, rfl⟩ := hF.open_
  clear hF
  conv => arg 2; whnf
  cases sg
  · go_wp2_with fail
    exact hQ _ m i _ _ _ _ rfl rfl rfl rfl rfl rfl rfl HM.out his (fun h => absurd h (by decide))
  · have hi2 := hi1 rfl
    go_upto_if 142 with fail
    go_cut [17] from 143 to 149 (fun x17 wx => ∃ dq : Int, x17 = .int .i64 dq ∧ wx = w)
    case first =>
      cases sd
      all_goals
        go_wp2_with fail
        go_meet
        exact ⟨_, rfl, rfl⟩
    case rest =>
      obtain ⟨dq, rfl, rfl⟩ := hcut
      go_step
      go_upto_if 145 with fail
      go_cut [16, 17] from 143 to 149 (fun x16 x17 wx => x16 = .int .i64 nm ∧ x17 = .int .i64 dq ∧ wx = wc)
      case first =>
        go_wp2_with fail
        go_meet
        exact ⟨rfl, rfl, rfl⟩
      case rest =>
        obtain ⟨rfl, rfl, rfl⟩ := hcut
        go_step
        refine rf_exp (sd := sd) (sg := true) Q wc s hs HN m i nd nm dq ng tr his hi2 HM _ ?_ hQ
        exact FrRf.intro rfl rfl rfl rfl rfl rfl rfl rfl rfl rfl rfl rfl rfl rfl rfl rfl rfl rfl
set_option maxRecDepth 100000 in
theorem FrR0_tab (f : Nat → Value) : (List.range 253).map f = [f 0, f 1, f 2, f 3, f 4, f 5, f 6, f 7, f 8, f 9, f 10, f 11, f 12, f 13, f 14, f 15, f 16, f 17, f 18, f 19, f 20, f 21, f 22, f 23, f 24, f 25, f 26, f 27, f 28, f 29, f 30, f 31, f 32, f 33, f 34, f 35, f 36, f 37, f 38, f 39, f 40, f 41, f 42, f 43, f 44, f 45, f 46, f 47, f 48, f 49, f 50, f 51, f 52, f 53, f 54, f 55, f 56, f 57, f 58, f 59, f 60, f 61, f 62, f 63, f 64, f 65, f 66, f 67, f 68, f 69, f 70, f 71, f 72, f 73, f 74, f 75, f 76, f 77, f 78, f 79, f 80, f 81, f 82, f 83, f 84, f 85, f 86, f 87, f 88, f 89, f 90, f 91, f 92, f 93, f 94, f 95, f 96, f 97, f 98, f 99, f 100, f 101, f 102, f 103, f 104, f 105, f 106, f 107, f 108, f 109, f 110, f 111, f 112, f 113, f 114, f 115, f 116, f 117, f 118, f 119, f 120, f 121, f 122, f 123, f 124, f 125, f 126, f 127, f 128, f 129, f 130, f 131, f 132, f 133, f 134, f 135, f 136, f 137, f 138, f 139, f 140, f 141, f 142, f 143, f 144, f 145, f 146, f 147, f 148, f 149, f 150, f 151, f 152, f 153, f 154, f 155, f 156, f 157, f 158, f 159, f 160, f 161, f 162, f 163, f 164, f 165, f 166, f 167, f 168, f 169, f 170, f 171, f 172, f 173, f 174, f 175, f 176, f 177, f 178, f 179, f 180, f 181, f 182, f 183, f 184, f 185, f 186, f 187, f 188, f 189, f 190, f 191, f 192, f 193, f 194, f 195, f 196, f 197, f 198, f 199, f 200, f 201, f 202, f 203, f 204, f 205, f 206, f 207, f 208, f 209, f 210, f 211, f 212, f 213, f 214, f 215, f 216, f 217, f 218, f 219, f 220, f 221, f 222, f 223, f 224, f 225, f 226, f 227, f 228, f 229, f 230, f 231, f 232, f 233, f 234, f 235, f 236, f 237, f 238, f 239, f 240, f 241, f 242, f 243, f 244, f 245, f 246, f 247, f 248, f 249, f 250, f 251, f 252] := by kernel_rfl
def FrR0 (s : ByteArray) (ng : Bool) (i : Int) (x : Act) : Prop := x.defers = [] ∧ ∃ L : List Value, L.length = 253 ∧ x.tmps = L.toArray ∧ L[0]? = some (.string s) ∧ L[2]? = some (.int .u64 0) ∧ L[3]? = some (.int .i64 0) ∧ L[4]? = some (.bool ng) ∧ L[5]? = some (.bool false) ∧ L[6]? = some (.bool false) ∧ L[7]? = some (.int .i64 i) ∧ L[8]? = some (.bool false) ∧ L[9]? = some (.bool false) ∧ L[10]? = some (.int .u64 10) ∧ L[11]? = some (.int .i64 19) ∧ L[12]? = some (.int .u8 101)
set_option maxRecDepth 100000 in
theorem FrR0.open_ {s : ByteArray} {ng : Bool} {i : Int} {x : Act} (h : FrR0 s ng i x) : ∃ f : Nat → Value, x = ⟨#[.string s, f 1, .int .u64 0, .int .i64 0, .bool ng, .bool false, .bool false, .int .i64 i, .bool false, .bool false, .int .u64 10, .int .i64 19, .int .u8 101, f 13, f 14, f 15, f 16, f 17, f 18, f 19, f 20, f 21, f 22, f 23, f 24, f 25, f 26, f 27, f 28, f 29, f 30, f 31, f 32, f 33, f 34, f 35, f 36, f 37, f 38, f 39, f 40, f 41, f 42, f 43, f 44, f 45, f 46, f 47, f 48, f 49, f 50, f 51, f 52, f 53, f 54, f 55, f 56, f 57, f 58, f 59, f 60, f 61, f 62, f 63, f 64, f 65, f 66, f 67, f 68, f 69, f 70, f 71, f 72, f 73, f 74, f 75, f 76, f 77, f 78, f 79, f 80, f 81, f 82, f 83, f 84, f 85, f 86, f 87, f 88, f 89, f 90, f 91, f 92, f 93, f 94, f 95, f 96, f 97, f 98, f 99, f 100, f 101, f 102, f 103, f 104, f 105, f 106, f 107, f 108, f 109, f 110, f 111, f 112, f 113, f 114, f 115, f 116, f 117, f 118, f 119, f 120, f 121, f 122, f 123, f 124, f 125, f 126, f 127, f 128, f 129, f 130, f 131, f 132, f 133, f 134, f 135, f 136, f 137, f 138, f 139, f 140, f 141, f 142, f 143, f 144, f 145, f 146, f 147, f 148, f 149, f 150, f 151, f 152, f 153, f 154, f 155, f 156, f 157, f 158, f 159, f 160, f 161, f 162, f 163, f 164, f 165, f 166, f 167, f 168, f 169, f 170, f 171, f 172, f 173, f 174, f 175, f 176, f 177, f 178, f 179, f 180, f 181, f 182, f 183, f 184, f 185, f 186, f 187, f 188, f 189, f 190, f 191, f 192, f 193, f 194, f 195, f 196, f 197, f 198, f 199, f 200, f 201, f 202, f 203, f 204, f 205, f 206, f 207, f 208, f 209, f 210, f 211, f 212, f 213, f 214, f 215, f 216, f 217, f 218, f 219, f 220, f 221, f 222, f 223, f 224, f 225, f 226, f 227, f 228, f 229, f 230, f 231, f 232, f 233, f 234, f 235, f 236, f 237, f 238, f 239, f 240, f 241, f 242, f 243, f 244, f 245, f 246, f 247, f 248, f 249, f 250, f 251, f 252], []⟩ := by
  obtain ⟨hd, L, hl, ht, g0, g2, g3, g4, g5, g6, g7, g8, g9, g10, g11, g12⟩ := h
  obtain ⟨f, hf⟩ : ∃ f : Nat → Value, ∀ k, f k = L.getD k undef := ⟨_, fun _ => rfl⟩
  have key : ∀ k y, L[k]? = some y → f k = y := fun k y hk => by rw [hf, List.getD_eq_getElem?_getD, hk]; rfl
  have h := frame_tab L
  rw [hl, show (fun k => L.getD k undef) = f from funext fun k => (hf k).symm, FrR0_tab, key 0 _ g0, key 2 _ g2, key 3 _ g3, key 4 _ g4, key 5 _ g5, key 6 _ g6, key 7 _ g7, key 8 _ g8, key 9 _ g9, key 10 _ g10, key 11 _ g11, key 12 _ g12] at h
  refine ⟨f, ?_⟩
  obtain ⟨tm, df⟩ := x
  dsimp only at hd ht
  rw [hd, ht, h]
theorem FrR0.intro {s : ByteArray} {ng : Bool} {i : Int} {L : List Value} (hl : L.length = 253) (g0 : L[0]? = some (.string s)) (g2 : L[2]? = some (.int .u64 0)) (g3 : L[3]? = some (.int .i64 0)) (g4 : L[4]? = some (.bool ng)) (g5 : L[5]? = some (.bool false)) (g6 : L[6]? = some (.bool false)) (g7 : L[7]? = some (.int .i64 i)) (g8 : L[8]? = some (.bool false)) (g9 : L[9]? = some (.bool false)) (g10 : L[10]? = some (.int .u64 10)) (g11 : L[11]? = some (.int .i64 19)) (g12 : L[12]? = some (.int .u8 101)) : FrR0 s ng i ⟨L.toArray, []⟩ := ⟨rfl, L, hl, rfl, g0, g2, g3, g4, g5, g6, g7, g8, g9, g10, g11, g12⟩
noncomputable def rfLoop : Code := dropSeq 7 (match dropSeq 1 (bodyOf Tryz.f142) with | .scope c => c | c => c)
set_option maxRecDepth 100000 in
set_option maxHeartbeats 16000000 in
theorem rf_loop (Q : Exit → Act → World → Prop) (w : World) (s : ByteArray) (hs : s.size ≤ 2 ^ 31) (HN : Hid (Nums s 0 s.size)) (i0 : Nat) (ng : Bool) (hi0 : i0 ≤ s.size) (x : Act) (hF : FrR0 s ng i0 x)
    (hQ : ∀ (L : List Value) (m2 i2 : Nat) (ex : Int) (ng tr ok : Bool), L[2]? = some (.int .u64 m2) → L[3]? = some (.int .i64 ex) → L[4]? = some (.bool ng) → L[5]? = some (.bool tr) → L[6]? = some (.bool false) → L[7]? = some (.int .i64 i2) → L[8]? = some (.bool ok) → m2 < 10000000000000000000 → i2 ≤ s.size → (ok = true → 1 ≤ i2) → Q .ret ⟨L.toArray, []⟩ w) : rfLoop.wp Tryz.prog Q x w := by
  obtain ⟨fr, rfl⟩ := hF.open_
  clear hF
  conv => arg 2; whnf
  go_wp2_with fail
  go_step3
  go_upto_block 1 with fail
  go_cut [2, 5, 7, 9, 13, 14, 15, 16, 17] from 57 to 138 (fun x2 x5 x7 x9 x13 x14 x15 x16 x17 wx => ∃ (m i nm : Nat) (nd dp : Int) (tr sd sg : Bool), x2 = .int .u64 m ∧ x5 = .bool tr ∧ x7 = .int .i64 i ∧ x9 = .bool false ∧ x13 = .bool sd ∧ x14 = .bool sg ∧ x15 = .int .i64 nd ∧ x16 = .int .i64 nm ∧ x17 = .int .i64 dp ∧ i ≤ s.size ∧ nm ≤ 19 ∧ wx = w ∧ Hid (m < 10 ^ nm) ∧ Hid (sg = true → 1 ≤ i))
  case first =>
    go_wp2_with fail
    go_loopg [2, 5, 7, 9, 13, 14, 15, 16, 17] (s.size - i0) (fun gg x2 x5 x7 x9 x13 x14 x15 x16 x17 wr => ∃ (m i nm : Nat) (nd dp : Int) (tr sd sg : Bool), x2 = .int .u64 m ∧ x5 = .bool tr ∧ x7 = .int .i64 i ∧ x9 = .bool false ∧ x13 = .bool sd ∧ x14 = .bool sg ∧ x15 = .int .i64 nd ∧ x16 = .int .i64 nm ∧ x17 = .int .i64 dp ∧ i ≤ s.size ∧ nm ≤ 19 ∧ wr = w ∧ Hid (m < 10 ^ nm) ∧ Hid (sg = true → 1 ≤ i) ∧ Hid (gg = s.size - i))
    case atStart => exact ⟨0, i0, 0, 0, 0, false, false, false, rfl, rfl, rfl, rfl, rfl, rfl, rfl, rfl, rfl, by omega, by decide, rfl, (by decide : 0 < 10 ^ 0), (fun h => absurd h (by decide)), rfl⟩
    case round =>
      obtain ⟨m, i, nm, nd, dp, tr, sd, sg, rfl, rfl, rfl, rfl, rfl, rfl, rfl, rfl, rfl, his, hnm, rfl, HMM, HSG, hh⟩ := hrel
      by_cases hlt : i < s.size
      · have hk := num_kinds (HN.out i (Nat.zero_le _) hlt)
        rw [← bt_lt hlt] at hk
        have hw5 : IntKind.i64.wrap ((i : Int) + 1) = (i : Int) + 1 := IntWalk.i64_in _ (by omega)
        have f95 : ((s[i].toNat : Int) == 95) = false := beq_eq_false_iff_ne.2 (by omega)
        by_cases hdig : 48 ≤ (s[i].toNat : Int) ∧ (s[i].toNat : Int) ≤ 57
        · have f46 : ((s[i].toNat : Int) == 46) = false := beq_eq_false_iff_ne.2 (by omega)
          have g48 : decide (48 ≤ (s[i].toNat : Int)) = true := decide_eq_true hdig.1
          have g57 : decide ((s[i].toNat : Int) ≤ 57) = true := decide_eq_true hdig.2
          have HDIG := Lib.hid hdig
          obtain ⟨cc, hcc⟩ : ∃ c, c = (s[i].toNat : Int) := ⟨_, rfl⟩
          have HCC := Lib.hid hcc
          have u1 : IntKind.u8.wrap ((s[i].toNat : Int) - 48) = (s[i].toNat : Int) - 48 := by rw [IntKind.wrap_u8']; omega
          have u2 : IntKind.u64.wrap ((s[i].toNat : Int) - 48) = (s[i].toNat : Int) - 48 := by rw [wrap_u64']; omega
          clear hk hdig hcc
          by_cases hz : (s[i].toNat : Int) = 48 ∧ nd = 0
          · have d48 : ((s[i].toNat : Int) == 48) = true := beq_iff_eq.2 hz.1
            obtain rfl := hz.2
            clear hz
            go_wp2_with fail
            go_roundg (s.size - (i + 1))
            case measure => have := hh.out; omega
            case rel => exact ⟨m, i + 1, nm, 0, _, tr, sd, true, rfl, rfl, by go_num, rfl, rfl, rfl, rfl, rfl, rfl, by omega, hnm, rfl, HMM, (fun _ => by omega), rfl⟩
          · have go1 : Hid True := trivial
            by_cases h19 : nm < 19
            · have g19 : decide ((nm : Int) < 19) = true := decide_eq_true (by omega)
              have g19' : decide (nm < 19) = true := decide_eq_true h19
              obtain ⟨q1, q2, q3⟩ := mant_next HMM.out h19 HDIG.out.1 HDIG.out.2
              have HQ1 := Lib.hid q1
              have HQ2 := Lib.hid q2
              have u3 : IntKind.u64.wrap ((m : Int) * 10) = (m : Int) * 10 := by rw [wrap_u64']; have := HDIG.out; omega
              have u4 : IntKind.u64.wrap ((m : Int) * 10 + ((s[i].toNat : Int) - 48)) = (m : Int) * 10 + ((s[i].toNat : Int) - 48) := by rw [wrap_u64']; have := HDIG.out; omega
              have n5 : IntKind.i64.wrap ((nm : Int) + 1) = (nm : Int) + 1 := IntWalk.i64_in _ (by omega)
              clear q1 q2 q3
              by_cases c48 : (s[i].toNat : Int) = 48
              · have d48 : ((s[i].toNat : Int) == 48) = true := beq_iff_eq.2 c48
                have n0 : (nd == 0) = false := beq_eq_false_iff_ne.2 (fun h => hz ⟨c48, h⟩)
                clear c48 hz
                go_wp2_with fail
                go_roundg (s.size - (i + 1))
                case measure => have := hh.out; omega
                case rel => exact ⟨_, i + 1, nm + 1, _, _, tr, sd, true, by rw [HQ2.out], rfl, by go_num, rfl, rfl, rfl, rfl, by go_num, rfl, by omega, by omega, rfl, HQ1, (fun _ => by omega), rfl⟩
              · have d48 : ((s[i].toNat : Int) == 48) = false := beq_eq_false_iff_ne.2 c48
                clear c48 hz
                go_wp2_with fail
                go_roundg (s.size - (i + 1))
                case measure => have := hh.out; omega
                case rel => exact ⟨_, i + 1, nm + 1, _, _, tr, sd, true, by rw [HQ2.out], rfl, by go_num, rfl, rfl, rfl, rfl, by go_num, rfl, by omega, by omega, rfl, HQ1, (fun _ => by omega), rfl⟩
            · have g19 : decide ((nm : Int) < 19) = false := decide_eq_false (by omega)
              have g19' : decide (nm < 19) = false := decide_eq_false h19
              by_cases c48 : (s[i].toNat : Int) = 48
              · have d48 : ((s[i].toNat : Int) == 48) = true := beq_iff_eq.2 c48
                have d48' : ((s[i].toNat : Int) != 48) = false := by simpa using c48
                have n0 : (nd == 0) = false := beq_eq_false_iff_ne.2 (fun h => hz ⟨c48, h⟩)
                clear c48 hz
                go_wp2_with fail
                go_roundg (s.size - (i + 1))
                case measure => have := hh.out; omega
                case rel => exact ⟨m, i + 1, nm, _, _, _, sd, true, rfl, rfl, by go_num, rfl, rfl, rfl, rfl, rfl, rfl, by omega, hnm, rfl, HMM, (fun _ => by omega), rfl⟩
              · have d48 : ((s[i].toNat : Int) == 48) = false := beq_eq_false_iff_ne.2 c48
                have d48' : ((s[i].toNat : Int) != 48) = true := by simpa using c48
                clear c48 hz
                go_wp2_with fail
                go_roundg (s.size - (i + 1))
                case measure => have := hh.out; omega
                case rel => exact ⟨m, i + 1, nm, _, _, _, sd, true, rfl, rfl, by go_num, rfl, rfl, rfl, rfl, rfl, rfl, by omega, hnm, rfl, HMM, (fun _ => by omega), rfl⟩
        · by_cases c46 : (s[i].toNat : Int) = 46
          · have f46 : ((s[i].toNat : Int) == 46) = true := beq_iff_eq.2 c46
            clear hk hdig c46
            cases sd
            · go_wp2_with fail
              go_roundg (s.size - (i + 1))
              case measure => have := hh.out; omega
              case rel => exact ⟨m, i + 1, nm, _, _, tr, true, sg, rfl, rfl, by go_num, rfl, rfl, rfl, rfl, rfl, rfl, by omega, hnm, rfl, HMM, (fun _ => by omega), rfl⟩
            · go_wp2_with fail
              go_meet
              exact ⟨m, i, nm, _, _, tr, true, sg, rfl, rfl, rfl, rfl, rfl, rfl, rfl, rfl, rfl, his, hnm, rfl, HMM, HSG⟩
          · have f46 : ((s[i].toNat : Int) == 46) = false := beq_eq_false_iff_ne.2 c46
            by_cases h48 : 48 ≤ (s[i].toNat : Int)
            · have g48 : decide (48 ≤ (s[i].toNat : Int)) = true := decide_eq_true h48
              have g57 : decide ((s[i].toNat : Int) ≤ 57) = false := decide_eq_false (by omega)
              clear hk hdig c46 h48
              go_wp2_with fail
              go_meet
              exact ⟨m, i, nm, _, _, tr, sd, sg, rfl, rfl, rfl, rfl, rfl, rfl, rfl, rfl, rfl, his, hnm, rfl, HMM, HSG⟩
            · have g48 : decide (48 ≤ (s[i].toNat : Int)) = false := decide_eq_false h48
              clear hk hdig c46 h48
              go_wp2_with fail
              go_meet
              exact ⟨m, i, nm, _, _, tr, sd, sg, rfl, rfl, rfl, rfl, rfl, rfl, rfl, rfl, rfl, his, hnm, rfl, HMM, HSG⟩
      · go_wp2_with fail
        go_meet
        exact ⟨m, i, nm, _, _, tr, sd, sg, rfl, rfl, rfl, rfl, rfl, rfl, rfl, rfl, rfl, his, hnm, rfl, HMM, HSG⟩
  case rest =>
    obtain ⟨m, i, nm, nd, dp, tr, sd, sg, rfl, rfl, rfl, rfl, rfl, rfl, rfl, rfl, rfl, his, hnm, rfl, HMM, HSG⟩ := hcut
    go_step
    refine rf_rest Q wc s hs HN m i nd nm dp ng tr sd sg his HSG.out (mant_lt HMM.out hnm) _ ?_ hQ
    exact FrRf.intro rfl rfl rfl rfl rfl rfl rfl rfl rfl rfl rfl rfl rfl rfl rfl rfl rfl rfl
end Go.Proofs.YtcnkbdbkglggcaaGreatDoor
