/-
  The library's 'set' of a decimal on every text of bytes of numbers: it returns, and the digits are digits. Condition: the text has at most 2^31 bytes.
-/
import Derived.Test.YtcnkbdbkglggcaaGreatDoorYGxE
set_option linter.unusedVariables false
set_option linter.unusedSimpArgs false
namespace Go.Proofs.YtcnkbdbkglggcaaGreatDoor
open Go.RowKit

noncomputable def setRest : Code := dropSeq 9 (bodyOf Tryz.f148)
set_option maxRecDepth 100000 in
set_option maxHeartbeats 8000000 in
theorem set_rest (Q : Exit → Act → World → Prop) (wr0 wc : World) (g : Nat) (s : ByteArray) (hs : s.size ≤ 2 ^ 31) (HN : Hid (Nums s 0 s.size)) (i : Nat) (sd sg : Bool) (his : i ≤ s.size) (HS2 : Hid (DSt wr0 g wc)) (x : Act) (hF : FrSet g s i sd sg x)
    (hQ : ∀ (L : List Value) (w : World) (ok : Bool), L[4]? = some (.bool ok) → DSt wr0 g w → Q .ret ⟨L.toArray, []⟩ w) : setRest.wp Tryz.prog Q x wc := by
  obtain ⟨fr, rfl⟩ := hF.open_
  clear hF
  conv => arg 2; whnf
  cases sg
  · go_wp2_with fail
    exact hQ _ _ _ rfl HS2.out
  · go_upto_if 120 with fail
    go_cut [] from 121 to 127 (fun wx => Hid (DSt wr0 g wx))
    case first =>
      cases sd
      · obtain ⟨f, n, dp, ng, tr, hb, h8, hd, hf, hu⟩ := HS2.out
        have tf := Blk.frozen hb
        have c800 := hb.cnd
        have c801 := hb.cdp
        have HX : Hid (DSt wr0 g (wc.setCell ⟨g, 801, none⟩ (.int .i64 n))) := ⟨f, n, n, ng, tr, hb.setDp n, h8, hd, hf, hu.setCell (.inl (.head _)) _⟩
        clear hb hd hf hu
        go_wp2_with fail
        go_meet
        exact HX
      · go_wp2_with fail
        go_meet
        exact HS2
    case rest =>
      clear HS2
      go_step
      refine set_exp (sd := sd) (sg := true) Q wr0 _ g s hs HN i his hcut _ ?_ hQ
      exact FrSet.intro rfl rfl rfl rfl rfl rfl rfl
set_option maxRecDepth 100000 in
set_option maxHeartbeats 8000000 in
theorem set_any (w : World) (g : Nat) (s : ByteArray) (hb : DB w g (fun _ => 0) 0 0 false false) (h1 : 0 < s.size) (hs : s.size ≤ 2 ^ 31) (hn : Nums s 0 s.size) :
    Calls Tryz.prog 148 #[.pointer (some ⟨g, 0, none⟩), .string s] w fun e w' => SetOut w g e w' := by
  have tf := Blk.frozen hb
  have c802 := hb.cng
  have c803 := hb.ctr
  have e0 : decide (s = ByteArray.empty) = false := decide_eq_false (by rintro rfl; exact absurd h1 (by decide))
  obtain ⟨wr0, hwr0⟩ : ∃ x : World, x = w := ⟨_, rfl⟩
  have HS : Hid (DSt wr0 g ((w.setCell ⟨g, 802, none⟩ (.bool false)).setCell ⟨g, 803, none⟩ (.bool false))) := ⟨fun _ => 0, 0, 0, false, false, (hb.setNg false).setTr false, by decide, fun j hj => absurd hj (by omega), fun h => absurd h (by decide), by rw [hwr0]; exact ((Upd.refl [g] w).setCell (.inl (.head _)) _).setCell (.inl (.head _)) _⟩
  have HN := Lib.hid hn
  have HWX : Hid (∀ e X, SetOut wr0 g e X → SetOut w g e X) := fun e X h => by rw [hwr0] at h; exact h
  clear hb hn hwr0
  go_enter Tryz.func148, Tryz.ntmps148
  go_upto_block 0 with fail
  clear c802 c803 tf
  go_cut [5] (fun x5 wx => ∃ i : Nat, x5 = .int .i64 i ∧ i ≤ 1 ∧ Hid (DSt wr0 g wx))
  case first =>
    generalize (w.setCell ⟨g, 802, none⟩ (.bool false)).setCell ⟨g, 803, none⟩ (.bool false) = W at *
    by_cases c43 : (s[0].toNat : Int) = 43
    · have d1 : ((s[0].toNat : Int) == 43) = true := beq_iff_eq.2 c43
      clear c43
      go_wp2_with fail
      go_meet
      exact ⟨1, by go_num, by decide, HS.out⟩
    · have d1 : ((s[0].toNat : Int) == 43) = false := beq_eq_false_iff_ne.2 c43
      clear c43
      by_cases c45 : (s[0].toNat : Int) = 45
      · have d2 : ((s[0].toNat : Int) == 45) = true := beq_iff_eq.2 c45
        clear c45
        obtain ⟨f, n, dp, ng, tr, hb, h8, hd, hf, hu⟩ := HS.out
        have c802 := hb.cng
        have tf := Blk.frozen hb
        have HX : Hid (DSt wr0 g (W.setCell ⟨g, 802, none⟩ (.bool true))) := ⟨f, n, dp, true, tr, hb.setNg true, h8, hd, hf, hu.setCell (.inl (.head _)) _⟩
        clear hb hd hf hu
        go_wp2_with fail
        go_meet
        exact ⟨1, by go_num, by decide, HX.out⟩
      · have d2 : ((s[0].toNat : Int) == 45) = false := beq_eq_false_iff_ne.2 c45
        clear c45
        go_wp2_with fail
        go_meet
        exact ⟨0, by go_num, by decide, HS.out⟩
  case rest =>
    clear HS
    obtain ⟨i0, rfl, hi0, HS1⟩ := hcut
    go_upto_block 1 with fail
    go_cut [5, 6, 7] (fun x5 x6 x7 wx => ∃ (i : Nat) (sd sg : Bool), x5 = .int .i64 i ∧ x6 = .bool sd ∧ x7 = .bool sg ∧ i ≤ s.size ∧ Hid (DSt wr0 g wx))
    case first =>
      go_wp2_with fail
      go_loopg [5, 6, 7] (s.size - i0) (fun gg x5 x6 x7 wr => ∃ (i : Nat) (sd sg : Bool), x5 = .int .i64 i ∧ x6 = .bool sd ∧ x7 = .bool sg ∧ i ≤ s.size ∧ Hid (DSt wr0 g wr ∧ gg = s.size - i))
      case atStart => exact ⟨i0, false, false, rfl, rfl, rfl, by omega, HS1.out, rfl⟩
      case round =>
        clear HS1
        obtain ⟨i, sd, sg, rfl, rfl, rfl, his, hh⟩ := hrel
        by_cases hlt : i < s.size
        · have hk := num_kinds (HN.out i (Nat.zero_le _) hlt)
          rw [← bt_lt hlt] at hk
          have hw5 : IntKind.i64.wrap ((i : Int) + 1) = (i : Int) + 1 := IntWalk.i64_in _ (by omega)
          have f95 : ((s[i].toNat : Int) == 95) = false := beq_eq_false_iff_ne.2 (by omega)
          by_cases hdig : 48 ≤ (s[i].toNat : Int) ∧ (s[i].toNat : Int) ≤ 57
          · have f46 : ((s[i].toNat : Int) == 46) = false := beq_eq_false_iff_ne.2 (by omega)
            have g48 : decide (48 ≤ (s[i].toNat : Int)) = true := decide_eq_true hdig.1
            have g57 : decide ((s[i].toNat : Int) ≤ 57) = true := decide_eq_true hdig.2
            obtain ⟨f, n, dp, ng, tr, hb, h8, hd, hf, hu⟩ := hh.out.1
            have tf := Blk.frozen hb
            have c800 := hb.cnd
            have c801 := hb.cdp
            have c803 := hb.ctr
            have HB := Lib.hid hb
            have HD := Lib.hid hd
            have HF := Lib.hid hf
            have HU := Lib.hid hu
            have HDIG := Lib.hid hdig
            obtain ⟨cc, hcc⟩ : ∃ c, c = (s[i].toNat : Int) := ⟨_, rfl⟩
            have HCC := Lib.hid hcc
            clear hk hb hd hf hu hdig
            by_cases c48 : (s[i].toNat : Int) = 48
            · have d48 : ((s[i].toNat : Int) == 48) = true := beq_iff_eq.2 c48
              have d48' : ((s[i].toNat : Int) != 48) = false := by simpa using c48
              by_cases hn0 : n = 0
              · subst hn0
                clear c48 hcc
                go_wp2_with fail
                go_roundg (s.size - (i + 1))
                case measure => have := hh.out.2; omega
                case rel => exact ⟨i + 1, sd, true, by go_num, rfl, rfl, by omega, ⟨f, 0, _, ng, tr, HB.out.setDp _, h8, HD.out, HF.out, (HU.out).setCell (.inl (.head _)) _⟩, rfl⟩
              · have dn0 : ((n : Int) == 0) = false := beq_eq_false_iff_ne.2 (by omega)
                have dn0' : decide (n = 0) = false := decide_eq_false hn0
                have dn0'' : (n == 0) = false := beq_eq_false_iff_ne.2 hn0
                have HN0 := Lib.hid hn0
                clear c48 hcc hn0
                by_cases hn8 : n < 800
                · have d8 : decide ((n : Int) < 800) = true := decide_eq_true (by omega)
                  have d8' : decide (n < 800) = true := decide_eq_true hn8
                  have cn := HB.out.dig n hn8
                  have w5 : IntKind.i64.wrap ((n : Int) + 1) = (n : Int) + 1 := IntWalk.i64_in _ (by omega)
                  go_wp2_with fail
                  go_region
                  go_wp2_with fail
                  go_roundg (s.size - (i + 1))
                  case measure => have := hh.out.2; omega
                  case rel => exact ⟨i + 1, sd, true, by go_num, rfl, rfl, by omega, ⟨putD f n (s[i].toNat : Int), n + 1, dp, ng, tr, DB.drew (((HB.out).setDig n hn8 _).setNd _), by omega, HD.out.put HDIG.out.1 HDIG.out.2, fun _ => put_first HF.out (fun _ => HN0.out), (((HU.out).setCell (.inl (.head _)) _).setCell (.inl (.head _)) _).drew⟩, rfl⟩
                · have d8 : decide ((n : Int) < 800) = false := decide_eq_false (by omega)
                  have d8' : decide (n < 800) = false := decide_eq_false hn8
                  go_wp2_with fail
                  go_roundg (s.size - (i + 1))
                  case measure => have := hh.out.2; omega
                  case rel => exact ⟨i + 1, sd, true, by go_num, rfl, rfl, by omega, ⟨f, n, dp, ng, tr, HB.out, h8, HD.out, HF.out, HU.out⟩, rfl⟩
            · have d48 : ((s[i].toNat : Int) == 48) = false := beq_eq_false_iff_ne.2 c48
              have d48' : ((s[i].toNat : Int) != 48) = true := by simpa using c48
              have H48 := Lib.hid c48
              clear c48 hcc
              by_cases hn8 : n < 800
              · have d8 : decide ((n : Int) < 800) = true := decide_eq_true (by omega)
                have d8' : decide (n < 800) = true := decide_eq_true hn8
                have cn := HB.out.dig n hn8
                have w5 : IntKind.i64.wrap ((n : Int) + 1) = (n : Int) + 1 := IntWalk.i64_in _ (by omega)
                go_wp2_with fail
                go_region
                go_wp2_with fail
                go_roundg (s.size - (i + 1))
                case measure => have := hh.out.2; omega
                case rel => exact ⟨i + 1, sd, true, by go_num, rfl, rfl, by omega, ⟨putD f n (s[i].toNat : Int), n + 1, dp, ng, tr, DB.drew (((HB.out).setDig n hn8 _).setNd _), by omega, HD.out.put HDIG.out.1 HDIG.out.2, fun _ => put_first HF.out (fun h => absurd h H48.out), (((HU.out).setCell (.inl (.head _)) _).setCell (.inl (.head _)) _).drew⟩, rfl⟩
              · have d8 : decide ((n : Int) < 800) = false := decide_eq_false (by omega)
                have d8' : decide (n < 800) = false := decide_eq_false hn8
                go_wp2_with fail
                go_roundg (s.size - (i + 1))
                case measure => have := hh.out.2; omega
                case rel => exact ⟨i + 1, sd, true, by go_num, rfl, rfl, by omega, ⟨f, n, dp, ng, true, (HB.out).setTr true, h8, HD.out, HF.out, (HU.out).setCell (.inl (.head _)) _⟩, rfl⟩
          · by_cases c46 : (s[i].toNat : Int) = 46
            · have f46 : ((s[i].toNat : Int) == 46) = true := beq_iff_eq.2 c46
              clear hk hdig c46
              cases sd
              · obtain ⟨f, n, dp, ng, tr, hb, h8, hd, hf, hu⟩ := hh.out.1
                have tf := Blk.frozen hb
                have c800 := hb.cnd
                have c801 := hb.cdp
                have HX : Hid (DSt wr0 g (wr.setCell ⟨g, 801, none⟩ (.int .i64 n))) := ⟨f, n, n, ng, tr, hb.setDp n, h8, hd, hf, hu.setCell (.inl (.head _)) _⟩
                clear hb hd hf hu
                go_wp2_with fail
                go_roundg (s.size - (i + 1))
                case measure => have := hh.out.2; omega
                case rel => exact ⟨i + 1, true, sg, by go_num, rfl, rfl, by omega, HX.out, rfl⟩
              · go_wp2_with fail
                go_ret
                exact HWX.out _ _ ⟨⟨_, rfl⟩, hh.out.1⟩
            · have f46 : ((s[i].toNat : Int) == 46) = false := beq_eq_false_iff_ne.2 c46
              by_cases h48 : 48 ≤ (s[i].toNat : Int)
              · have g48 : decide (48 ≤ (s[i].toNat : Int)) = true := decide_eq_true h48
                have g57 : decide ((s[i].toNat : Int) ≤ 57) = false := decide_eq_false (by omega)
                clear hk hdig c46 h48
                go_wp2_with fail
                go_meet
                exact ⟨i, sd, sg, rfl, rfl, rfl, his, hh.out.1⟩
              · have g48 : decide (48 ≤ (s[i].toNat : Int)) = false := decide_eq_false h48
                clear hk hdig c46 h48
                go_wp2_with fail
                go_meet
                exact ⟨i, sd, sg, rfl, rfl, rfl, his, hh.out.1⟩
        · go_wp2_with fail
          go_meet
          exact ⟨i, sd, sg, rfl, rfl, rfl, his, hh.out.1⟩
    case rest =>
      clear HS1
      obtain ⟨i, sd, sg, rfl, rfl, rfl, his, HS2⟩ := hcut
      go_step
      refine set_rest _ wr0 wc g s hs HN i sd sg his HS2 _ ?_ fun L w ok h4 hd => ?_
      · exact FrSet.intro rfl rfl rfl rfl rfl rfl rfl
      exact bodyPost_ret (res_set h4) rfl (HWX.out _ _ ⟨⟨ok, rfl⟩, hd⟩)
end Go.Proofs.YtcnkbdbkglggcaaGreatDoor
