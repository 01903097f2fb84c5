/-
  The library's 'set' of a decimal on every text of bytes of numbers: it returns, and the digits are digits. Condition: the text has at most 2^31 bytes.
-/
import Derived.Test.YtcnkbdbkglggcaaGreatDoorZML
import Derived.Deep.CutBlock
import Derived.Deep.DeepCutAuto
import Derived.RegionTactic
set_option linter.unusedVariables false
set_option linter.unusedSimpArgs false
namespace Go.Proofs.YtcnkbdbkglggcaaGreatDoor
open Go.RowKit

/-- What is known of a decimal while it is read. -/
def DSt (w0 : World) (g : Nat) (w : World) : Prop := ∃ (f : Nat → Int) (n : Nat) (dp : Int) (ng tr : Bool), DB w g f n dp ng tr ∧ n ≤ 800 ∧ Dg f n ∧ (1 ≤ n → f 0 ≠ 48) ∧ Upd [g] w0 w
def SetOut (w0 : World) (g : Nat) (e : Ending) (w : World) : Prop := (∃ ok : Bool, e = .returned (.bool ok)) ∧ DSt w0 g w
theorem DB.drew {w : World} {g : Nat} {f : Nat → Int} {nd dp : Int} {ng tr : Bool} (h : DB w g f nd dp ng tr) : DB w.drew g f nd dp ng tr := Blk.drew h
theorem lower_any (w : World) (c : Int) : Calls Tryz.prog 121 #[.int .u8 c] w fun e w' => (∃ v : Int, e = .returned (.int .u8 v)) ∧ w' = w := by
  go_enter Tryz.func121, Tryz.ntmps121
  go_wp2_with fail
  go_ret
  exact ⟨⟨_, rfl⟩, rfl⟩
theorem Dg.put {f : Nat → Int} {n : Nat} {c : Int} (h : Dg f n) (h0 : 48 ≤ c) (h1 : c ≤ 57) : Dg (putD f n c) (n + 1) := fun j hj => by
  unfold putD
  by_cases hjn : j = n
  · rw [if_pos hjn]; exact ⟨h0, h1⟩
  · rw [if_neg hjn]; exact h j (by omega)
theorem put_first {f : Nat → Int} {n : Nat} {c : Int} (h : 1 ≤ n → f 0 ≠ 48) (hc : c = 48 → n ≠ 0) : putD f n c 0 ≠ 48 := by
  unfold putD
  by_cases h0 : 0 = n
  · rw [if_pos h0]; exact fun h2 => hc h2 h0.symm
  · rw [if_neg h0]; exact h (by omega)
/-- A byte of a number: a digit, a point, a sign, an e. -/
theorem num_kinds {c : Int} (h : isNum c) : (48 ≤ c ∧ c ≤ 57) ∨ c = 46 ∨ c = 43 ∨ c = 45 ∨ c = 101 ∨ c = 69 := by
  unfold isNum isDig at h
  omega
theorem frame_tab (L : List Value) : L = (List.range L.length).map fun k => L.getD k undef := by
  refine List.ext_getElem (by simp) fun k h1 h2 => ?_
  simp [List.getD_eq_getElem?_getD, List.getElem?_eq_getElem h1]
/-- What stands behind the first n parts of a text. -/
def dropSeq : Nat → Code → Code
  | 0, c => c
  | n + 1, .seq _ b => dropSeq n b
  | _ + 1, _ => .skip
def bodyOf (f : Func) : Code := f.body.getD .skip
set_option maxRecDepth 100000 in
theorem FrSet_tab (f : Nat → Value) : (List.range 224).map f = [f 0, f 1, f 2, f 3, f 4, f 5, f 6, f 7, f 8, f 9, f 10, f 11, f 12, f 13, f 14, f 15, f 16, f 17, f 18, f 19, f 20, f 21, f 22, f 23, f 24, f 25, f 26, f 27, f 28, f 29, f 30, f 31, f 32, f 33, f 34, f 35, f 36, f 37, f 38, f 39, f 40, f 41, f 42, f 43, f 44, f 45, f 46, f 47, f 48, f 49, f 50, f 51, f 52, f 53, f 54, f 55, f 56, f 57, f 58, f 59, f 60, f 61, f 62, f 63, f 64, f 65, f 66, f 67, f 68, f 69, f 70, f 71, f 72, f 73, f 74, f 75, f 76, f 77, f 78, f 79, f 80, f 81, f 82, f 83, f 84, f 85, f 86, f 87, f 88, f 89, f 90, f 91, f 92, f 93, f 94, f 95, f 96, f 97, f 98, f 99, f 100, f 101, f 102, f 103, f 104, f 105, f 106, f 107, f 108, f 109, f 110, f 111, f 112, f 113, f 114, f 115, f 116, f 117, f 118, f 119, f 120, f 121, f 122, f 123, f 124, f 125, f 126, f 127, f 128, f 129, f 130, f 131, f 132, f 133, f 134, f 135, f 136, f 137, f 138, f 139, f 140, f 141, f 142, f 143, f 144, f 145, f 146, f 147, f 148, f 149, f 150, f 151, f 152, f 153, f 154, f 155, f 156, f 157, f 158, f 159, f 160, f 161, f 162, f 163, f 164, f 165, f 166, f 167, f 168, f 169, f 170, f 171, f 172, f 173, f 174, f 175, f 176, f 177, f 178, f 179, f 180, f 181, f 182, f 183, f 184, f 185, f 186, f 187, f 188, f 189, f 190, f 191, f 192, f 193, f 194, f 195, f 196, f 197, f 198, f 199, f 200, f 201, f 202, f 203, f 204, f 205, f 206, f 207, f 208, f 209, f 210, f 211, f 212, f 213, f 214, f 215, f 216, f 217, f 218, f 219, f 220, f 221, f 222, f 223] := by kernel_rfl
def FrSet (g : Nat) (s : ByteArray) (i : Int) (sd : Bool) (sg : Bool) (x : Act) : Prop := x.defers = [] ∧ ∃ L : List Value, L.length = 224 ∧ x.tmps = L.toArray ∧ L[0]? = some (.pointer (some ⟨g, 0, none⟩)) ∧ L[1]? = some (.string s) ∧ L[4]? = some (.bool false) ∧ L[5]? = some (.int .i64 i) ∧ L[6]? = some (.bool sd) ∧ L[7]? = some (.bool sg)
set_option maxRecDepth 100000 in
theorem FrSet.open_ {g : Nat} {s : ByteArray} {i : Int} {sd : Bool} {sg : Bool} {x : Act} (h : FrSet g s i sd sg x) : ∃ f : Nat → Value, x = ⟨#[.pointer (some ⟨g, 0, none⟩), .string s, f 2, f 3, .bool false, .int .i64 i, .bool sd, .bool sg, f 8, f 9, f 10, f 11, f 12, f 13, f 14, f 15, f 16, f 17, f 18, f 19, f 20, f 21, f 22, f 23, f 24, f 25, f 26, f 27, f 28, f 29, f 30, f 31, f 32, f 33, f 34, f 35, f 36, f 37, f 38, f 39, f 40, f 41, f 42, f 43, f 44, f 45, f 46, f 47, f 48, f 49, f 50, f 51, f 52, f 53, f 54, f 55, f 56, f 57, f 58, f 59, f 60, f 61, f 62, f 63, f 64, f 65, f 66, f 67, f 68, f 69, f 70, f 71, f 72, f 73, f 74, f 75, f 76, f 77, f 78, f 79, f 80, f 81, f 82, f 83, f 84, f 85, f 86, f 87, f 88, f 89, f 90, f 91, f 92, f 93, f 94, f 95, f 96, f 97, f 98, f 99, f 100, f 101, f 102, f 103, f 104, f 105, f 106, f 107, f 108, f 109, f 110, f 111, f 112, f 113, f 114, f 115, f 116, f 117, f 118, f 119, f 120, f 121, f 122, f 123, f 124, f 125, f 126, f 127, f 128, f 129, f 130, f 131, f 132, f 133, f 134, f 135, f 136, f 137, f 138, f 139, f 140, f 141, f 142, f 143, f 144, f 145, f 146, f 147, f 148, f 149, f 150, f 151, f 152, f 153, f 154, f 155, f 156, f 157, f 158, f 159, f 160, f 161, f 162, f 163, f 164, f 165, f 166, f 167, f 168, f 169, f 170, f 171, f 172, f 173, f 174, f 175, f 176, f 177, f 178, f 179, f 180, f 181, f 182, f 183, f 184, f 185, f 186, f 187, f 188, f 189, f 190, f 191, f 192, f 193, f 194, f 195, f 196, f 197, f 198, f 199, f 200, f 201, f 202, f 203, f 204, f 205, f 206, f 207, f 208, f 209, f 210, f 211, f 212, f 213, f 214, f 215, f 216, f 217, f 218, f 219, f 220, f 221, f 222, f 223], []⟩ := by
  obtain ⟨hd, L, hl, ht, g0, g1, g4, g5, g6, g7⟩ := h
  obtain ⟨f, hf⟩ : ∃ f : Nat → Value, ∀ k, f k = L.getD k undef := ⟨_, fun _ => rfl⟩
  have key : ∀ k y, L[k]? = some y → f k = y := fun k y hk => by rw [hf, List.getD_eq_getElem?_getD, hk]; rfl
  have h := frame_tab L
  rw [hl, show (fun k => L.getD k undef) = f from funext fun k => (hf k).symm, FrSet_tab, key 0 _ g0, key 1 _ g1, key 4 _ g4, key 5 _ g5, key 6 _ g6, key 7 _ g7] at h
  refine ⟨f, ?_⟩
  obtain ⟨tm, df⟩ := x
  dsimp only at hd ht
  rw [hd, ht, h]
theorem FrSet.intro {g : Nat} {s : ByteArray} {i : Int} {sd : Bool} {sg : Bool} {L : List Value} (hl : L.length = 224) (g0 : L[0]? = some (.pointer (some ⟨g, 0, none⟩))) (g1 : L[1]? = some (.string s)) (g4 : L[4]? = some (.bool false)) (g5 : L[5]? = some (.int .i64 i)) (g6 : L[6]? = some (.bool sd)) (g7 : L[7]? = some (.bool sg)) : FrSet g s i sd sg ⟨L.toArray, []⟩ := ⟨rfl, L, hl, rfl, g0, g1, g4, g5, g6, g7⟩
theorem res_set {w : World} {L : List Value} {b : Bool} (h : L[4]? = some (.bool b)) : (results Tryz.f148 L.toArray).run Tryz.prog w = .ok (.bool b) w := by
  simp [results, Tryz.results148, go_sem, h]
noncomputable def setExp : Code := dropSeq 11 (bodyOf Tryz.f148)
set_option maxRecDepth 100000 in
set_option maxHeartbeats 8000000 in
theorem set_exp (Q : Exit → Act → World → Prop) (wr0 wX : World) (g : Nat) (s : ByteArray) (hs : s.size ≤ 2 ^ 31) (HN : Hid (Nums s 0 s.size)) (i : Nat) {sd sg : Bool} (his : i ≤ s.size) (HX : Hid (DSt wr0 g wX)) (x : Act) (hF : FrSet g s i sd sg x)
    (hQ : ∀ (L : List Value) (w : World) (ok : Bool), L[4]? = some (.bool ok) → DSt wr0 g w → Q .ret ⟨L.toArray, []⟩ w) : setExp.wp Tryz.prog Q x wX := by
  obtain ⟨fr, rfl⟩ := hF.open_
  clear hF
  conv => arg 2; whnf
  by_cases hlt : i < s.size
  · have g1 : decide ((i : Int) < (s.size : Int)) = true := decide_eq_true (by omega)
    have g1' : decide (i < s.size) = true := decide_eq_true hlt
    have hw5 : IntKind.i64.wrap ((i : Int) + 1) = (i : Int) + 1 := IntWalk.i64_in _ (by omega)
    go_upto_if 138 with (go_at_call 121; refine (lower_any _ _).mono ?_; rintro e w1 ⟨⟨v, rfl⟩, rfl⟩)
    by_cases hv : v = 101
    · have dv : (v == 101) = true := beq_iff_eq.2 hv
      clear hv g1 g1'
      by_cases hlt2 : i + 1 < s.size
      · have g1 : decide ((s.size : Int) ≤ (i : Int) + 1) = false := decide_eq_false (by omega)
        have g2 : decide (s.size ≤ i + 1) = false := decide_eq_false (by omega)
        have hz : (0 : Int) ≤ (i : Int) + 1 := by omega
        have hz2 : ((i : Int) + 1).toNat = i + 1 := by omega
        have hz3 : (i : Int) + 1 < (s.size : Int) := by omega
        have hz4 : IntKind.i64.wrap ((i : Int) + 1 + 1) = (i : Int) + 1 + 1 := IntWalk.i64_in _ (by omega)
        go_upto_block 4 with fail
        go_cut [5, 8] from 148 to 155 (fun x5 x8 wx => ∃ (j : Nat) (es : Int), x5 = .int .i64 j ∧ x8 = .int .i64 es ∧ j ≤ s.size ∧ wx = w1)
        case first =>
          by_cases c43 : (s[i + 1].toNat : Int) = 43
          · have d1 : ((s[i + 1].toNat : Int) == 43) = true := beq_iff_eq.2 c43
            clear c43
            go_wp2_with fail
            go_meet
            exact ⟨i + 2, _, by go_num, rfl, by omega, rfl⟩
          · have d1 : ((s[i + 1].toNat : Int) == 43) = false := beq_eq_false_iff_ne.2 c43
            clear c43
            by_cases c45 : (s[i + 1].toNat : Int) = 45
            · have d2 : ((s[i + 1].toNat : Int) == 45) = true := beq_iff_eq.2 c45
              clear c45
              go_wp2_with fail
              go_meet
              exact ⟨i + 2, _, by go_num, rfl, by omega, rfl⟩
            · have d2 : ((s[i + 1].toNat : Int) == 45) = false := beq_eq_false_iff_ne.2 c45
              clear c45
              go_wp2_with fail
              go_meet
              exact ⟨i + 1, _, by go_num, rfl, by omega, rfl⟩
        case rest =>
          clear g1 g2 hz4 hw5
          obtain ⟨j, es, rfl, rfl, hjs, rfl⟩ := hcut
          by_cases hj : j < s.size
          · have g1 : decide ((s.size : Int) ≤ (j : Int)) = false := decide_eq_false (by omega)
            have g2 : decide (s.size ≤ j) = false := decide_eq_false (by omega)
            by_cases h48 : (s[j].toNat : Int) < 48
            · have g3 : decide ((s[j].toNat : Int) < 48) = true := decide_eq_true h48
              have g3' : decide (s[j].toNat < 48) = true := decide_eq_true (by omega)
              clear h48
              go_wp2_with fail
              exact hQ _ _ _ rfl HX.out
            · have g3 : decide ((s[j].toNat : Int) < 48) = false := decide_eq_false h48
              have g3' : decide (s[j].toNat < 48) = false := decide_eq_false (by omega)
              by_cases h57 : 57 < (s[j].toNat : Int)
              · have g4 : decide (57 < (s[j].toNat : Int)) = true := decide_eq_true h57
                have g4' : decide (57 < s[j].toNat) = true := decide_eq_true (by omega)
                clear h48 h57
                go_wp2_with fail
                exact hQ _ _ _ rfl HX.out
              · have g4 : decide (57 < (s[j].toNat : Int)) = false := decide_eq_false h57
                have g4' : decide (57 < s[j].toNat) = false := decide_eq_false (by omega)
                clear h48 h57
                go_wp2_with fail
                clear g1 g2 g3 g4 g3' g4'
                obtain ⟨wo, hwo⟩ : ∃ x : World, x = wc := ⟨_, rfl⟩
                rw [← hwo] at HX
                rw [← hwo]
                clear hwo
                go_loopg [5, 9] (s.size - j) (fun gg x5 x9 wr => ∃ (k : Nat) (ev : Int), x5 = .int .i64 k ∧ x9 = .int .i64 ev ∧ k ≤ s.size ∧ wr = wo ∧ Hid (gg = s.size - k))
                case atStart => exact ⟨j, _, rfl, rfl, hjs, rfl, rfl⟩
                case round =>
                  obtain ⟨k, ev, rfl, rfl, hks, rfl, hh⟩ := hrel
                  by_cases hk : k < s.size
                  · have g1 : decide ((k : Int) < (s.size : Int)) = true := decide_eq_true (by omega)
                    have g1' : decide (k < s.size) = true := decide_eq_true hk
                    have hk5 : IntKind.i64.wrap ((k : Int) + 1) = (k : Int) + 1 := IntWalk.i64_in _ (by omega)
                    have hkk := num_kinds (HN.out k (Nat.zero_le _) hk)
                    rw [← bt_lt hk] at hkk
                    have f95 : ((s[k].toNat : Int) == 95) = false := beq_eq_false_iff_ne.2 (by omega)
                    by_cases h48 : 48 ≤ (s[k].toNat : Int)
                    · have g3 : decide (48 ≤ (s[k].toNat : Int)) = true := decide_eq_true h48
                      have g3' : decide (48 ≤ s[k].toNat) = true := decide_eq_true (by omega)
                      by_cases h57 : (s[k].toNat : Int) ≤ 57
                      · have g4 : decide ((s[k].toNat : Int) ≤ 57) = true := decide_eq_true h57
                        have g4' : decide (s[k].toNat ≤ 57) = true := decide_eq_true (by omega)
                        clear h48 h57 hkk
                        by_cases he : ev < 10000
                        · have ge : decide (ev < 10000) = true := decide_eq_true he
                          clear he
                          go_wp2_with fail
                          go_roundg (s.size - (k + 1))
                          case measure => have := hh.out; omega
                          case rel => exact ⟨k + 1, _, by go_num, rfl, by omega, rfl, rfl⟩
                        · have ge : decide (ev < 10000) = false := decide_eq_false he
                          clear he
                          go_wp2_with fail
                          go_roundg (s.size - (k + 1))
                          case measure => have := hh.out; omega
                          case rel => exact ⟨k + 1, _, by go_num, rfl, by omega, rfl, rfl⟩
                      · have g4 : decide ((s[k].toNat : Int) ≤ 57) = false := decide_eq_false h57
                        have g4' : decide (s[k].toNat ≤ 57) = false := decide_eq_false (by omega)
                        clear h48 h57 hkk
                        obtain ⟨f, n, dp, ng, tr, hb, h8, hd, hf, hu⟩ := HX.out
                        have tf := Blk.frozen hb
                        have c801 := hb.cdp
                        have HB := Lib.hid hb
                        have HD := Lib.hid hd
                        have HF := Lib.hid hf
                        have HU := Lib.hid hu
                        clear hb hd hf hu
                        go_wp2_with fail
                        all_goals exact hQ _ _ _ rfl ⟨f, n, _, ng, tr, (HB.out).setDp _, h8, HD.out, HF.out, (HU.out).setCell (.inl (.head _)) _⟩
                    · have g3 : decide (48 ≤ (s[k].toNat : Int)) = false := decide_eq_false h48
                      have g3' : decide (48 ≤ s[k].toNat) = false := decide_eq_false (by omega)
                      clear h48 hkk
                      obtain ⟨f, n, dp, ng, tr, hb, h8, hd, hf, hu⟩ := HX.out
                      have tf := Blk.frozen hb
                      have c801 := hb.cdp
                      have HB := Lib.hid hb
                      have HD := Lib.hid hd
                      have HF := Lib.hid hf
                      have HU := Lib.hid hu
                      clear hb hd hf hu
                      go_wp2_with fail
                      all_goals exact hQ _ _ _ rfl ⟨f, n, _, ng, tr, (HB.out).setDp _, h8, HD.out, HF.out, (HU.out).setCell (.inl (.head _)) _⟩
                  · have g1 : decide ((k : Int) < (s.size : Int)) = false := decide_eq_false (by omega)
                    have g1' : decide (k < s.size) = false := decide_eq_false hk
                    clear hk
                    obtain ⟨f, n, dp, ng, tr, hb, h8, hd, hf, hu⟩ := HX.out
                    have tf := Blk.frozen hb
                    have c801 := hb.cdp
                    have HB := Lib.hid hb
                    have HD := Lib.hid hd
                    have HF := Lib.hid hf
                    have HU := Lib.hid hu
                    clear hb hd hf hu
                    go_wp2_with fail
                    all_goals exact hQ _ _ _ rfl ⟨f, n, _, ng, tr, (HB.out).setDp _, h8, HD.out, HF.out, (HU.out).setCell (.inl (.head _)) _⟩
          · have g1 : decide ((s.size : Int) ≤ (j : Int)) = true := decide_eq_true (by omega)
            have g2 : decide (s.size ≤ j) = true := decide_eq_true (by omega)
            go_wp2_with fail
            exact hQ _ _ _ rfl HX.out
      · have g1 : decide ((s.size : Int) ≤ (i : Int) + 1) = true := decide_eq_true (by omega)
        have g2 : decide (s.size ≤ i + 1) = true := decide_eq_true (by omega)
        go_wp2_with fail
        exact hQ _ _ _ rfl HX.out
    · have dv : (v == 101) = false := beq_eq_false_iff_ne.2 hv
      clear hv g1 g1'
      go_wp2_with fail
      all_goals exact hQ _ _ _ rfl HX.out
  · have g1 : decide ((i : Int) < (s.size : Int)) = false := decide_eq_false (by omega)
    have g1' : decide (i < s.size) = false := decide_eq_false hlt
    go_wp2_with fail
    all_goals exact hQ _ _ _ rfl HX.out
end Go.Proofs.YtcnkbdbkglggcaaGreatDoor
