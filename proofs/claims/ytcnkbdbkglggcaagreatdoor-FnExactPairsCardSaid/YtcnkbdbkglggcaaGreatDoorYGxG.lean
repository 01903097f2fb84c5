/-
  The library's 'readFloat' on every text of bytes of numbers: it returns, and the number that it has read has at most 19 digits. Condition: the text has at most 2^31 bytes.
-/
import Derived.Test.YtcnkbdbkglggcaaGreatDoorYGxF
set_option linter.unusedVariables false
set_option linter.unusedSimpArgs false
namespace Go.Proofs.YtcnkbdbkglggcaaGreatDoor
open Go.RowKit

def RfOut (w : World) (s : ByteArray) (e : Ending) (w' : World) : Prop :=
  (∃ (m i : Nat) (ex : Int) (ng tr ok : Bool), e = .returned (.tuple #[.int .u64 m, .int .i64 ex, .bool ng, .bool tr, .bool false, .int .i64 i, .bool ok]) ∧ m < 10000000000000000000 ∧ i ≤ s.size ∧ (ok = true → 1 ≤ i)) ∧ w' = w
theorem res_rf {w : World} {tmps : Array Value} {a b c d e f g : Value} (h2 : tmps.getD 2 undef = a) (h3 : tmps.getD 3 undef = b) (h4 : tmps.getD 4 undef = c) (h5 : tmps.getD 5 undef = d) (h6 : tmps.getD 6 undef = e) (h7 : tmps.getD 7 undef = f) (h8 : tmps.getD 8 undef = g) :
    (results Tryz.f142 tmps).run Tryz.prog w = .ok (.tuple #[a, b, c, d, e, f, g]) w := by
  have g2 : tmps[2]?.getD undef = a := by simpa using h2
  have g3 : tmps[3]?.getD undef = b := by simpa using h3
  have g4 : tmps[4]?.getD undef = c := by simpa using h4
  have g5 : tmps[5]?.getD undef = d := by simpa using h5
  have g6 : tmps[6]?.getD undef = e := by simpa using h6
  have g7 : tmps[7]?.getD undef = f := by simpa using h7
  have g8 : tmps[8]?.getD undef = g := by simpa using h8
  simp [results, Tryz.results142, go_sem, g2, g3, g4, g5, g6, g7, g8]
set_option maxRecDepth 10000 in
theorem lower_num (w : World) (c : Int) (h : isNum c) : Calls Tryz.prog 121 #[.int .u8 c] w fun e w' => (∃ v : Int, e = .returned (.int .u8 v) ∧ v ≠ 120) ∧ w' = w := by
  have key : ∀ n : Nat, n < 256 → ((48 ≤ n ∧ n ≤ 57) ∨ n = 46 ∨ n = 43 ∨ n = 45 ∨ n = 101 ∨ n = 69) → bits .or .u8 (n : Int) 32 ≠ 120 := by decide
  have hk := num_kinds h
  have h2 := key c.toNat (by omega) (by omega)
  rw [Int.toNat_of_nonneg (by omega)] at h2
  have H2 := Lib.hid h2
  clear h2
  go_enter Tryz.func121, Tryz.ntmps121
  go_wp2_with fail
  go_ret
  exact ⟨⟨_, rfl, H2.out⟩, rfl⟩
/-- What is known between the parts of 'readFloat'. -/
def RfSt (s : ByteArray) (x2 x5 x7 x9 x13 x14 x15 x16 x17 : Value) (m i nm : Nat) (nd dp : Int) (tr sd sg : Bool) : Prop :=
  x2 = .int .u64 m ∧ x5 = .bool tr ∧ x7 = .int .i64 i ∧ x9 = .bool false ∧ x13 = .bool sd ∧ x14 = .bool sg ∧ x15 = .int .i64 nd ∧ x16 = .int .i64 nm ∧ x17 = .int .i64 dp
theorem mant_next {m nm : Nat} {c : Int} (h : m < 10 ^ nm) (hn : nm < 19) (h0 : 48 ≤ c) (h1 : c ≤ 57) :
    m * 10 + (c - 48).toNat < 10 ^ (nm + 1) ∧ (m : Int) * 10 + (c - 48) = ((m * 10 + (c - 48).toNat : Nat) : Int) ∧ m * 10 + (c - 48).toNat < 10000000000000000000 := by
  have h2 : m * 10 + (c - 48).toNat < 10 ^ (nm + 1) := by
    rw [Nat.pow_succ]
    omega
  have h3 : 10 ^ (nm + 1) ≤ 10 ^ 19 := Nat.pow_le_pow_right (by decide) (by omega)
  exact ⟨h2, by omega, by omega⟩
theorem mant_lt {m nm : Nat} (h : m < 10 ^ nm) (hn : nm ≤ 19) : m < 10000000000000000000 := by
  have h3 : 10 ^ nm ≤ 10 ^ 19 := Nat.pow_le_pow_right (by decide) hn
  omega
set_option maxRecDepth 100000 in
theorem FrRf_tab (f : Nat → Value) : (List.range 253).map f = [f 0, f 1, f 2, f 3, f 4, f 5, f 6, f 7, f 8, f 9, f 10, f 11, f 12, f 13, f 14, f 15, f 16, f 17, f 18, f 19, f 20, f 21, f 22, f 23, f 24, f 25, f 26, f 27, f 28, f 29, f 30, f 31, f 32, f 33, f 34, f 35, f 36, f 37, f 38, f 39, f 40, f 41, f 42, f 43, f 44, f 45, f 46, f 47, f 48, f 49, f 50, f 51, f 52, f 53, f 54, f 55, f 56, f 57, f 58, f 59, f 60, f 61, f 62, f 63, f 64, f 65, f 66, f 67, f 68, f 69, f 70, f 71, f 72, f 73, f 74, f 75, f 76, f 77, f 78, f 79, f 80, f 81, f 82, f 83, f 84, f 85, f 86, f 87, f 88, f 89, f 90, f 91, f 92, f 93, f 94, f 95, f 96, f 97, f 98, f 99, f 100, f 101, f 102, f 103, f 104, f 105, f 106, f 107, f 108, f 109, f 110, f 111, f 112, f 113, f 114, f 115, f 116, f 117, f 118, f 119, f 120, f 121, f 122, f 123, f 124, f 125, f 126, f 127, f 128, f 129, f 130, f 131, f 132, f 133, f 134, f 135, f 136, f 137, f 138, f 139, f 140, f 141, f 142, f 143, f 144, f 145, f 146, f 147, f 148, f 149, f 150, f 151, f 152, f 153, f 154, f 155, f 156, f 157, f 158, f 159, f 160, f 161, f 162, f 163, f 164, f 165, f 166, f 167, f 168, f 169, f 170, f 171, f 172, f 173, f 174, f 175, f 176, f 177, f 178, f 179, f 180, f 181, f 182, f 183, f 184, f 185, f 186, f 187, f 188, f 189, f 190, f 191, f 192, f 193, f 194, f 195, f 196, f 197, f 198, f 199, f 200, f 201, f 202, f 203, f 204, f 205, f 206, f 207, f 208, f 209, f 210, f 211, f 212, f 213, f 214, f 215, f 216, f 217, f 218, f 219, f 220, f 221, f 222, f 223, f 224, f 225, f 226, f 227, f 228, f 229, f 230, f 231, f 232, f 233, f 234, f 235, f 236, f 237, f 238, f 239, f 240, f 241, f 242, f 243, f 244, f 245, f 246, f 247, f 248, f 249, f 250, f 251, f 252] := by kernel_rfl
def FrRf (s : ByteArray) (m : Int) (ng tr : Bool) (i : Int) (sd sg : Bool) (nd nm dp : Int) (x : Act) : Prop := x.defers = [] ∧ ∃ L : List Value, L.length = 253 ∧ x.tmps = L.toArray ∧ L[0]? = some (.string s) ∧ L[2]? = some (.int .u64 m) ∧ L[3]? = some (.int .i64 0) ∧ L[4]? = some (.bool ng) ∧ L[5]? = some (.bool tr) ∧ L[6]? = some (.bool false) ∧ L[7]? = some (.int .i64 i) ∧ L[8]? = some (.bool false) ∧ L[9]? = some (.bool false) ∧ L[10]? = some (.int .u64 10) ∧ L[11]? = some (.int .i64 19) ∧ L[12]? = some (.int .u8 101) ∧ L[13]? = some (.bool sd) ∧ L[14]? = some (.bool sg) ∧ L[15]? = some (.int .i64 nd) ∧ L[16]? = some (.int .i64 nm) ∧ L[17]? = some (.int .i64 dp)
set_option maxRecDepth 100000 in
theorem FrRf.open_ {s : ByteArray} {m : Int} {ng tr : Bool} {i : Int} {sd sg : Bool} {nd nm dp : Int} {x : Act} (h : FrRf s m ng tr i sd sg nd nm dp x) : ∃ f : Nat → Value, x = ⟨#[.string s, f 1, .int .u64 m, .int .i64 0, .bool ng, .bool tr, .bool false, .int .i64 i, .bool false, .bool false, .int .u64 10, .int .i64 19, .int .u8 101, .bool sd, .bool sg, .int .i64 nd, .int .i64 nm, .int .i64 dp, f 18, f 19, f 20, f 21, f 22, f 23, f 24, f 25, f 26, f 27, f 28, f 29, f 30, f 31, f 32, f 33, f 34, f 35, f 36, f 37, f 38, f 39, f 40, f 41, f 42, f 43, f 44, f 45, f 46, f 47, f 48, f 49, f 50, f 51, f 52, f 53, f 54, f 55, f 56, f 57, f 58, f 59, f 60, f 61, f 62, f 63, f 64, f 65, f 66, f 67, f 68, f 69, f 70, f 71, f 72, f 73, f 74, f 75, f 76, f 77, f 78, f 79, f 80, f 81, f 82, f 83, f 84, f 85, f 86, f 87, f 88, f 89, f 90, f 91, f 92, f 93, f 94, f 95, f 96, f 97, f 98, f 99, f 100, f 101, f 102, f 103, f 104, f 105, f 106, f 107, f 108, f 109, f 110, f 111, f 112, f 113, f 114, f 115, f 116, f 117, f 118, f 119, f 120, f 121, f 122, f 123, f 124, f 125, f 126, f 127, f 128, f 129, f 130, f 131, f 132, f 133, f 134, f 135, f 136, f 137, f 138, f 139, f 140, f 141, f 142, f 143, f 144, f 145, f 146, f 147, f 148, f 149, f 150, f 151, f 152, f 153, f 154, f 155, f 156, f 157, f 158, f 159, f 160, f 161, f 162, f 163, f 164, f 165, f 166, f 167, f 168, f 169, f 170, f 171, f 172, f 173, f 174, f 175, f 176, f 177, f 178, f 179, f 180, f 181, f 182, f 183, f 184, f 185, f 186, f 187, f 188, f 189, f 190, f 191, f 192, f 193, f 194, f 195, f 196, f 197, f 198, f 199, f 200, f 201, f 202, f 203, f 204, f 205, f 206, f 207, f 208, f 209, f 210, f 211, f 212, f 213, f 214, f 215, f 216, f 217, f 218, f 219, f 220, f 221, f 222, f 223, f 224, f 225, f 226, f 227, f 228, f 229, f 230, f 231, f 232, f 233, f 234, f 235, f 236, f 237, f 238, f 239, f 240, f 241, f 242, f 243, f 244, f 245, f 246, f 247, f 248, f 249, f 250, f 251, f 252], []⟩ := by
  obtain ⟨hd, L, hl, ht, g0, g2, g3, g4, g5, g6, g7, g8, g9, g10, g11, g12, g13, g14, g15, g16, g17⟩ := h
  obtain ⟨f, hf⟩ : ∃ f : Nat → Value, ∀ k, f k = L.getD k undef := ⟨_, fun _ => rfl⟩
  have key : ∀ k y, L[k]? = some y → f k = y := fun k y hk => by rw [hf, List.getD_eq_getElem?_getD, hk]; rfl
  have h := frame_tab L
  rw [hl, show (fun k => L.getD k undef) = f from funext fun k => (hf k).symm, FrRf_tab, key 0 _ g0, key 2 _ g2, key 3 _ g3, key 4 _ g4, key 5 _ g5, key 6 _ g6, key 7 _ g7, key 8 _ g8, key 9 _ g9, key 10 _ g10, key 11 _ g11, key 12 _ g12, key 13 _ g13, key 14 _ g14, key 15 _ g15, key 16 _ g16, key 17 _ g17] at h
  refine ⟨f, ?_⟩
  obtain ⟨tm, df⟩ := x
  dsimp only at hd ht
  rw [hd, ht, h]
theorem FrRf.intro {s : ByteArray} {m : Int} {ng tr : Bool} {i : Int} {sd sg : Bool} {nd nm dp : Int} {L : List Value} (hl : L.length = 253) (g0 : L[0]? = some (.string s)) (g2 : L[2]? = some (.int .u64 m)) (g3 : L[3]? = some (.int .i64 0)) (g4 : L[4]? = some (.bool ng)) (g5 : L[5]? = some (.bool tr)) (g6 : L[6]? = some (.bool false)) (g7 : L[7]? = some (.int .i64 i)) (g8 : L[8]? = some (.bool false)) (g9 : L[9]? = some (.bool false)) (g10 : L[10]? = some (.int .u64 10)) (g11 : L[11]? = some (.int .i64 19)) (g12 : L[12]? = some (.int .u8 101)) (g13 : L[13]? = some (.bool sd)) (g14 : L[14]? = some (.bool sg)) (g15 : L[15]? = some (.int .i64 nd)) (g16 : L[16]? = some (.int .i64 nm)) (g17 : L[17]? = some (.int .i64 dp)) : FrRf s m ng tr i sd sg nd nm dp ⟨L.toArray, []⟩ := ⟨rfl, L, hl, rfl, g0, g2, g3, g4, g5, g6, g7, g8, g9, g10, g11, g12, g13, g14, g15, g16, g17⟩
noncomputable def rfExp : Code := dropSeq 3 (dropSeq 14 (match dropSeq 1 (bodyOf Tryz.f142) with | .scope c => c | c => c))
set_option maxRecDepth 100000 in
set_option maxHeartbeats 16000000 in
theorem rf_exp (Q : Exit → Act → World → Prop) (w : World) (s : ByteArray) (hs : s.size ≤ 2 ^ 31) (HN : Hid (Nums s 0 s.size)) (m i : Nat) (nd nm dp : Int) (ng tr sd sg : Bool) (his : i ≤ s.size) (hi1 : 1 ≤ i) (HM : Hid (m < 10000000000000000000)) (x : Act) (hF : FrRf s m ng tr i sd sg nd nm dp x)
    (hQ : ∀ (L : List Value) (m2 i2 : Nat) (ex : Int) (ng tr ok : Bool), L[2]? = some (.int .u64 m2) → L[3]? = some (.int .i64 ex) → L[4]? = some (.bool ng) → L[5]? = some (.bool tr) → L[6]? = some (.bool false) → L[7]? = some (.int .i64 i2) → L[8]? = some (.bool ok) → m2 < 10000000000000000000 → i2 ≤ s.size → (ok = true → 1 ≤ i2) → Q .ret ⟨L.toArray, []⟩ w) : rfExp.wp Tryz.prog Q x w := by
  obtain ⟨fr, rfl⟩ := hF.open_
  clear hF
  conv => arg 2; whnf
  by_cases hlt : i < s.size
  · have g1 : decide ((i : Int) < (s.size : Int)) = true := decide_eq_true (by omega)
    have g1' : decide (i < s.size) = true := decide_eq_true hlt
    have hw5 : IntKind.i64.wrap ((i : Int) + 1) = (i : Int) + 1 := IntWalk.i64_in _ (by omega)
    go_upto_if 161 with (go_at_call 121; refine (lower_any _ _).mono ?_; rintro e w1 ⟨⟨v, rfl⟩, rfl⟩)
    by_cases hv : v = 101
    · have dv : (v == 101) = true := beq_iff_eq.2 hv
      clear hv g1 g1'
      by_cases hlt2 : i + 1 < s.size
      · have g1 : decide ((s.size : Int) ≤ (i : Int) + 1) = false := decide_eq_false (by omega)
        have g2 : decide (s.size ≤ i + 1) = false := decide_eq_false (by omega)
        have hz : (0 : Int) ≤ (i : Int) + 1 := by omega
        have hz2 : ((i : Int) + 1).toNat = i + 1 := by omega
        have hz3 : (i : Int) + 1 < (s.size : Int) := by omega
        have hz4 : IntKind.i64.wrap ((i : Int) + 1 + 1) = (i : Int) + 1 + 1 := IntWalk.i64_in _ (by omega)
        go_upto_block 4 with fail
        go_cut [7, 19] from 171 to 178 (fun x7 x19 wx => ∃ (j : Nat) (es : Int), x7 = .int .i64 j ∧ x19 = .int .i64 es ∧ 1 ≤ j ∧ j ≤ s.size ∧ wx = w1)
        case first =>
          by_cases c43 : (s[i + 1].toNat : Int) = 43
          · have d1 : ((s[i + 1].toNat : Int) == 43) = true := beq_iff_eq.2 c43
            clear c43
            go_wp2_with fail
            go_meet
            exact ⟨i + 2, _, by go_num, rfl, by omega, by omega, rfl⟩
          · have d1 : ((s[i + 1].toNat : Int) == 43) = false := beq_eq_false_iff_ne.2 c43
            clear c43
            by_cases c45 : (s[i + 1].toNat : Int) = 45
            · have d2 : ((s[i + 1].toNat : Int) == 45) = true := beq_iff_eq.2 c45
              clear c45
              go_wp2_with fail
              go_meet
              exact ⟨i + 2, _, by go_num, rfl, by omega, by omega, rfl⟩
            · have d2 : ((s[i + 1].toNat : Int) == 45) = false := beq_eq_false_iff_ne.2 c45
              clear c45
              go_wp2_with fail
              go_meet
              exact ⟨i + 1, _, by go_num, rfl, by omega, by omega, rfl⟩
        case rest =>
          clear g1 g2 hz4 hw5
          obtain ⟨j, es, rfl, rfl, hj1, hjs, rfl⟩ := hcut
          by_cases hj : j < s.size
          · have g1 : decide ((s.size : Int) ≤ (j : Int)) = false := decide_eq_false (by omega)
            have g2 : decide (s.size ≤ j) = false := decide_eq_false (by omega)
            by_cases h48 : (s[j].toNat : Int) < 48
            · have g3 : decide ((s[j].toNat : Int) < 48) = true := decide_eq_true h48
              have g3' : decide (s[j].toNat < 48) = true := decide_eq_true (by omega)
              clear h48
              go_wp2_with fail
              exact hQ _ m (j) _ _ _ _ rfl rfl rfl rfl rfl (by go_num) rfl HM.out (by omega) (fun _ => by omega)
            · have g3 : decide ((s[j].toNat : Int) < 48) = false := decide_eq_false h48
              have g3' : decide (s[j].toNat < 48) = false := decide_eq_false (by omega)
              by_cases h57 : 57 < (s[j].toNat : Int)
              · have g4 : decide (57 < (s[j].toNat : Int)) = true := decide_eq_true h57
                have g4' : decide (57 < s[j].toNat) = true := decide_eq_true (by omega)
                clear h48 h57
                go_wp2_with fail
                exact hQ _ m (j) _ _ _ _ rfl rfl rfl rfl rfl (by go_num) rfl HM.out (by omega) (fun _ => by omega)
              · have g4 : decide (57 < (s[j].toNat : Int)) = false := decide_eq_false h57
                have g4' : decide (57 < s[j].toNat) = false := decide_eq_false (by omega)
                clear h48 h57
                go_wp2_with fail
                clear g1 g2 g3 g4 g3' g4'
                go_loopg [7, 9, 20] (s.size - j) (fun gg x7 x9 x20 wr => ∃ (k : Nat) (ev : Int), x7 = .int .i64 k ∧ x9 = .bool false ∧ x20 = .int .i64 ev ∧ 1 ≤ k ∧ k ≤ s.size ∧ wr = wc ∧ Hid (gg = s.size - k))
                case atStart => exact ⟨j, _, rfl, rfl, rfl, hj1, hjs, rfl, rfl⟩
                case round =>
                  obtain ⟨k, ev, rfl, rfl, rfl, hk1, hks, rfl, hh⟩ := hrel
                  by_cases hk : k < s.size
                  · have g1 : decide ((k : Int) < (s.size : Int)) = true := decide_eq_true (by omega)
                    have g1' : decide (k < s.size) = true := decide_eq_true hk
                    have hk5 : IntKind.i64.wrap ((k : Int) + 1) = (k : Int) + 1 := IntWalk.i64_in _ (by omega)
                    have hkk := num_kinds (HN.out k (Nat.zero_le _) hk)
                    rw [← bt_lt hk] at hkk
                    have f95 : ((s[k].toNat : Int) == 95) = false := beq_eq_false_iff_ne.2 (by omega)
                    by_cases h48 : 48 ≤ (s[k].toNat : Int)
                    · have g3 : decide (48 ≤ (s[k].toNat : Int)) = true := decide_eq_true h48
                      have g3' : decide (48 ≤ s[k].toNat) = true := decide_eq_true (by omega)
                      by_cases h57 : (s[k].toNat : Int) ≤ 57
                      · have g4 : decide ((s[k].toNat : Int) ≤ 57) = true := decide_eq_true h57
                        have g4' : decide (s[k].toNat ≤ 57) = true := decide_eq_true (by omega)
                        clear h48 h57 hkk
                        by_cases he : ev < 10000
                        · have ge : decide (ev < 10000) = true := decide_eq_true he
                          clear he
                          go_wp2_with fail
                          go_roundg (s.size - (k + 1))
                          case measure => have := hh.out; omega
                          case rel => exact ⟨k + 1, _, by go_num, rfl, rfl, by omega, by omega, rfl, rfl⟩
                        · have ge : decide (ev < 10000) = false := decide_eq_false he
                          clear he
                          go_wp2_with fail
                          go_roundg (s.size - (k + 1))
                          case measure => have := hh.out; omega
                          case rel => exact ⟨k + 1, _, by go_num, rfl, rfl, by omega, by omega, rfl, rfl⟩
                      · have g4 : decide ((s[k].toNat : Int) ≤ 57) = false := decide_eq_false h57
                        have g4' : decide (s[k].toNat ≤ 57) = false := decide_eq_false (by omega)
                        clear h48 h57 hkk
                        go_wp2_with fail
                        all_goals exact hQ _ m (k) _ _ _ _ rfl rfl rfl rfl rfl (by go_num) rfl HM.out (by omega) (fun _ => by omega)
                    · have g3 : decide (48 ≤ (s[k].toNat : Int)) = false := decide_eq_false h48
                      have g3' : decide (48 ≤ s[k].toNat) = false := decide_eq_false (by omega)
                      clear h48 hkk
                      go_wp2_with fail
                      all_goals exact hQ _ m (k) _ _ _ _ rfl rfl rfl rfl rfl (by go_num) rfl HM.out (by omega) (fun _ => by omega)
                  · have g1 : decide ((k : Int) < (s.size : Int)) = false := decide_eq_false (by omega)
                    have g1' : decide (k < s.size) = false := decide_eq_false hk
                    clear hk
                    go_wp2_with fail
                    all_goals exact hQ _ m (k) _ _ _ _ rfl rfl rfl rfl rfl (by go_num) rfl HM.out (by omega) (fun _ => by omega)
          · have g1 : decide ((s.size : Int) ≤ (j : Int)) = true := decide_eq_true (by omega)
            have g2 : decide (s.size ≤ j) = true := decide_eq_true (by omega)
            go_wp2_with fail
            exact hQ _ m (j) _ _ _ _ rfl rfl rfl rfl rfl (by go_num) rfl HM.out (by omega) (fun _ => by omega)
      · have g1 : decide ((s.size : Int) ≤ (i : Int) + 1) = true := decide_eq_true (by omega)
        have g2 : decide (s.size ≤ i + 1) = true := decide_eq_true (by omega)
        go_wp2_with fail
        exact hQ _ m (i + 1) _ _ _ _ rfl rfl rfl rfl rfl (by go_num) rfl HM.out (by omega) (fun _ => by omega)
    · have dv : (v == 101) = false := beq_eq_false_iff_ne.2 hv
      clear hv g1'
      clear g1
      go_wp2_with fail
      all_goals exact hQ _ m (i) _ _ _ _ rfl rfl rfl rfl rfl (by go_num) rfl HM.out (by omega) (fun _ => by omega)
  · have g1 : decide ((i : Int) < (s.size : Int)) = false := decide_eq_false (by omega)
    have g1' : decide (i < s.size) = false := decide_eq_false hlt
    go_wp2_with fail
    all_goals exact hQ _ m (i) _ _ _ _ rfl rfl rfl rfl rfl (by go_num) rfl HM.out (by omega) (fun _ => by omega)
end Go.Proofs.YtcnkbdbkglggcaaGreatDoor
