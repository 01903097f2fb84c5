/-
  The reader's 'number': where it is not bad, it has passed bytes of numbers alone, the first a digit, or a minus and a digit. Condition: the text has at most 65536 bytes.
-/
import Derived.Test.YtcnkbdbkglggcaaGreatDoorSpC
import Derived.Deep.DeepCutAuto
namespace Go.Proofs.YtcnkbdbkglggcaaGreatDoor
open Go.RowKit

def Part (s : ByteArray) (i : Nat) (bad : Bool) (j : Nat) (bad' : Bool) : Prop := i ≤ j ∧ j ≤ s.size ∧ (bad' = false → bad = false ∧ Nums s i j)
theorem Part.cat {s : ByteArray} {i j k : Nat} {a b c : Bool} (h : Part s i a j b) (h' : Part s j b k c) : Part s i a k c :=
  ⟨Nat.le_trans h.1 h'.1, h'.2.1, fun hf => by
    obtain ⟨x, y⟩ := h'.2.2 hf
    obtain ⟨z, w⟩ := h.2.2 x
    exact ⟨z, w.cat y⟩⟩
theorem Part.step {s : ByteArray} {i : Nat} {a : Bool} (hi : i < s.size) (h : isNum (bt s i)) : Part s i a (i + 1) a := ⟨by omega, by omega, fun hf => ⟨hf, .one h⟩⟩
theorem Part.none_ {s : ByteArray} {i : Nat} {a : Bool} (hi : i ≤ s.size) : Part s i a i a := ⟨by omega, hi, fun hf => ⟨hf, .refl _ _⟩⟩
theorem Part.of_dig {s : ByteArray} {i j : Nat} {a b : Bool} (h : Went s i a j b (DigQ s i j)) : Part s i a j b := ⟨h.1, h.2.1, fun hf => ⟨(h.2.2 hf).1, .of_dig (h.2.2 hf).2.2⟩⟩
/-- How a number begins. -/
def Begin (s : ByteArray) (i : Nat) : Prop := isDig (bt s i) ∨ bt s i = 45 ∧ isDig (bt s (i + 1))
def NumQ (s : ByteArray) (i j : Nat) : Prop := i < j ∧ Begin s i ∧ Nums s i j
/-- The state between two parts of a number. -/
def St (w : World) (b : Nat) (s : ByteArray) (i : Nat) (bad : Bool) (Q : Nat → Bool → Prop) (w' : World) : Prop := ∃ (j : Nat) (bad' : Bool), Rd w' b s j bad' ∧ Upd [b] w w' ∧ Part s i bad j bad' ∧ Q j bad'

/-- A letter e. -/
def isE (x : Int) : Bool := decide (x = 101 ∨ x = 69)

set_option maxHeartbeats 2000000 in
theorem number_any (w : World) (b : Nat) (s : ByteArray) (i : Nat) (bad : Bool) (hr : Rd w b s i bad) (hs : s.size ≤ 65536) (hi : i ≤ s.size) :
    Calls Tryz.prog 33 #[.pointer (some ⟨b, 0, none⟩)] w fun e w' => e = .returned (.tuple #[]) ∧ Read1 w b s i bad (NumQ s i) w' := by
  have h1 := hr.c1
  have hf1 := hr.fr 1
  go_enter Tryz.func33, Tryz.ntmps33
  go_wp2_with fail
  refine (next_any _ b s i bad hr hs).mono ?_
  rintro e w1 ⟨rfl, n, rfl⟩
  go_upto_if 4 with fail
  go_cut [2] (fun _ wx => St w b s i bad (fun j bad' => bad' = bad ∧ (j = i ∨ j = i + 1 ∧ bt s i = 45)) wx)
  case first =>
    by_cases h45 : bt s i = 45
    · have hl : i < s.size := lt_of_bt (by omega)
      have H := Lib.hid h45
      have d : (bt s i == 45) = true := by simpa using h45
      clear h45
      go_wp2_with fail
      go_meet
      exact ⟨i + 1, bad, (hr.drewN _).setAt (i + 1), ((Upd.refl [b] w).drewN _).setCell (.inl (.head _)) _, Part.step hl (by have := H.out; unfold isNum; omega), rfl, .inr ⟨rfl, H.out⟩⟩
    · have d : (bt s i == 45) = false := by simpa using h45
      clear h45
      go_wp2_with fail
      go_meet
      exact ⟨i, bad, hr.drewN _, (Upd.refl [b] w).drewN _, Part.none_ hi, rfl, .inl rfl⟩
  case rest =>
    clear h1 hf1
    obtain ⟨j, bad', hrj, huj, hp, hb, hj⟩ := hcut
    have HB := Lib.hid hb; clear hb
    have HJ := Lib.hid hj; clear hj
    have h1 := hrj.c1
    have hf1 := hrj.fr 1
    have hjs := hp.2.1
    go_wp2_with fail
    refine (next_any _ b s j bad' hrj hs).mono ?_
    rintro e w1 ⟨rfl, n1, rfl⟩
    go_upto_if 14 with fail
    go_cut [12] (fun _ wx => St w b s i bad (fun j1 bad1 => bad1 = false → i < j1 ∧ Begin s i) wx)
    case first =>
      have beg : isDig (bt s j) → Begin s i := fun hd => by
        rcases HJ.out with h | ⟨h, h'⟩
        · subst h; exact .inl hd
        · subst h; exact .inr ⟨h', hd⟩
      by_cases h48 : bt s j = 48
      · have hl : j < s.size := lt_of_bt (by omega)
        have H := Lib.hid h48
        have d : (bt s j == 48) = true := by simpa using h48
        clear h48
        go_wp2_with fail
        go_meet
        exact ⟨j + 1, bad', (hrj.drewN _).setAt (j + 1), (huj.drewN _).setCell (p := ⟨b, 1, none⟩) (.inl (.head _)) _, hp.cat (Part.step hl (by have := H.out; unfold isNum isDig; omega)), fun _ => ⟨by have := hp.1; omega, beg (by have := H.out; unfold isDig; omega)⟩⟩
      · have d : (bt s j == 48) = false := by simpa using h48
        clear h48
        go_wp2_with fail
        refine (digits_any _ b s j bad' (hrj.drewN n1) hs hjs).mono ?_
        rintro e w1 ⟨rfl, j1, bad1, hr1, hu1, hw1⟩
        go_wp2_with fail
        go_meet
        exact ⟨j1, bad1, hr1, (huj.drewN n1).trans hu1, hp.cat (Part.of_dig hw1), fun hf => ⟨by have := (hw1.2.2 hf).2.1; have := hp.1; omega, beg ((hw1.2.2 hf).2.2 j (Nat.le_refl _) (hw1.2.2 hf).2.1)⟩⟩
    case rest =>
      clear h1 hf1 hrj huj hp HB HJ hjs
      clear j bad'
      obtain ⟨j, bad', hrj, huj, hp, hq⟩ := hcut
      have HQ := Lib.hid hq; clear hq
      have h1 := hrj.c1
      have hf1 := hrj.fr 1
      have hjs := hp.2.1
      go_wp2_with fail
      refine (next_any _ b s j bad' hrj hs).mono ?_
      rintro e w1 ⟨rfl, n2, rfl⟩
      go_upto_if 26 with fail
      go_cut [24] (fun _ wx => St w b s i bad (fun j1 bad1 => bad1 = false → i < j1 ∧ Begin s i) wx)
      case first =>
        by_cases h46 : bt s j = 46
        · have hl : j < s.size := lt_of_bt (by omega)
          have H := Lib.hid h46
          have d : (bt s j == 46) = true := by simpa using h46
          clear h46
          have hrn := (hrj.drewN n2).setAt (j + 1)
          go_wp2_with fail
          refine (digits_any _ b s (j + 1) bad' hrn hs (by omega)).mono ?_
          rintro e w1 ⟨rfl, j1, bad1, hr1, hu1, hw1⟩
          go_wp2_with fail
          go_meet
          exact ⟨j1, bad1, hr1, ((huj.drewN n2).setCell (p := ⟨b, 1, none⟩) (.inl (.head _)) _).trans hu1, (hp.cat (Part.step hl (by have := H.out; unfold isNum; omega))).cat (Part.of_dig hw1),
            fun hf => ⟨by have := (HQ.out (hw1.2.2 hf).1).1; have := hw1.1; omega, (HQ.out (hw1.2.2 hf).1).2⟩⟩
        · have d : (bt s j == 46) = false := by simpa using h46
          clear h46
          go_wp2_with fail
          go_meet
          exact ⟨j, bad', hrj.drewN _, huj.drewN _, hp, HQ.out⟩
      case rest =>
        clear h1 hf1 hrj huj hp HQ hjs
        clear j bad'
        obtain ⟨j, bad', hrj, huj, hp, hq⟩ := hcut
        have HQ := Lib.hid hq; clear hq
        have h1 := hrj.c1
        have hf1 := hrj.fr 1
        have hjs := hp.2.1
        go_upto_region 8 with fail
        go_cut [43] (fun c wx => c = .bool (isE (bt s j)) ∧ Rd wx b s j bad' ∧ Upd [b] w wx)
        case first =>
          by_cases ha : bt s j = 101
          · have H := Lib.hid ha
            have d : (bt s j == 101) = true := by simpa using ha
            clear ha
            go_wp2_with fail
            refine (next_any _ b s j bad' hrj hs).mono ?_
            rintro e w1 ⟨rfl, m1, rfl⟩
            go_wp2_with fail
            go_meet
            exact ⟨congrArg Value.bool (decide_eq_true (p := bt s j = 101 ∨ bt s j = 69) (.inl H.out)).symm, hrj.drewN _, huj.drewN _⟩
          · have d : (bt s j == 101) = false := by simpa using ha
            by_cases hb : bt s j = 69
            · have H := Lib.hid hb
              have d2 : (bt s j == 69) = true := by simpa using hb
              clear ha hb
              go_wp2_with fail
              refine (next_any _ b s j bad' hrj hs).mono ?_
              rintro e w1 ⟨rfl, m1, rfl⟩
              go_wp2_with fail
              refine (next_any _ b s j bad' (hrj.drewN m1) hs).mono ?_
              rintro e w1 ⟨rfl, m2, rfl⟩
              go_wp2_with fail
              go_meet
              exact ⟨congrArg Value.bool (decide_eq_true (p := bt s j = 101 ∨ bt s j = 69) (.inr H.out)).symm, hrj.drewN _, huj.drewN _⟩
            · have H := Lib.hid (show ¬ (bt s j = 101 ∨ bt s j = 69) by omega)
              have d2 : (bt s j == 69) = false := by simpa using hb
              clear ha hb
              go_wp2_with fail
              refine (next_any _ b s j bad' hrj hs).mono ?_
              rintro e w1 ⟨rfl, m1, rfl⟩
              go_wp2_with fail
              refine (next_any _ b s j bad' (hrj.drewN m1) hs).mono ?_
              rintro e w1 ⟨rfl, m2, rfl⟩
              go_wp2_with fail
              go_meet
              exact ⟨congrArg Value.bool (decide_eq_false (p := bt s j = 101 ∨ bt s j = 69) H.out).symm, hrj.drewN _, huj.drewN _⟩
        case rest =>
          clear h1 hf1
          obtain ⟨hc8, hr8, hu8⟩ := hcut
          have h1 := hr8.c1
          have hf1 := hr8.fr 1
          by_cases hE : bt s j = 101 ∨ bt s j = 69
          · have hl : j < s.size := lt_of_bt (by omega)
            have pE : Part s i bad (j + 1) bad' := hp.cat (Part.step hl (by unfold isNum; omega))
            rw [show isE (bt s j) = true from decide_eq_true hE] at hc8
            subst hc8
            clear hE hp
            have hr9 := hr8.setAt (j + 1)
            have hu9 := hu8.setCell (p := ⟨b, 1, none⟩) (.inl (.head _)) (.int .i64 ((j + 1 : Nat) : Int))
            by_cases ha : bt s (j + 1) = 43
            · have d : (bt s (j + 1) == 43) = true := by simpa using ha
              have hl2 : j + 1 < s.size := lt_of_bt (by omega)
              have pS : Part s i bad (j + 1 + 1) bad' := pE.cat (Part.step hl2 (by unfold isNum; omega))
              clear ha pE
              have hrb : ∀ n, Rd (((wc.setCell ⟨b, 1, none⟩ (.int .i64 ((j + 1 : Nat) : Int))).drewN n).setCell ⟨b, 1, none⟩ (.int .i64 ((j + 1 + 1 : Nat) : Int))) b s (j + 1 + 1) bad' := fun n => (hr9.drewN n).setAt _
              have hub : ∀ n, Upd [b] w (((wc.setCell ⟨b, 1, none⟩ (.int .i64 ((j + 1 : Nat) : Int))).drewN n).setCell ⟨b, 1, none⟩ (.int .i64 ((j + 1 + 1 : Nat) : Int))) := fun n => (hu9.drewN n).setCell (.inl (.head _)) _
              have h19 := hr9.c1
              go_wp2_with fail
              refine (next_any _ b s (j + 1) bad' hr9 hs).mono ?_
              rintro e w1 ⟨rfl, m1, rfl⟩
              go_wp2_with fail
              refine (digits_any _ b s (j + 1 + 1) bad' (hrb _) hs (by omega)).mono ?_
              rintro e w1 ⟨rfl, j1, bad1, hr1, hu1, hw1⟩
              go_wp2_with fail
              go_end0
              have p1 := pS.cat (Part.of_dig hw1)
              exact ⟨rfl, j1, bad1, hr1, (hub _).trans hu1, p1.1, p1.2.1, fun hf => ⟨(p1.2.2 hf).1, by have := (HQ.out (hw1.2.2 hf).1).1; have := hw1.1; omega, (HQ.out (hw1.2.2 hf).1).2, (p1.2.2 hf).2⟩⟩
            · have d : (bt s (j + 1) == 43) = false := by simpa using ha
              by_cases hb : bt s (j + 1) = 45
              · have d2 : (bt s (j + 1) == 45) = true := by simpa using hb
                have hl2 : j + 1 < s.size := lt_of_bt (by omega)
                have pS : Part s i bad (j + 1 + 1) bad' := pE.cat (Part.step hl2 (by unfold isNum; omega))
                clear ha hb pE
                have hrb : ∀ n, Rd (((wc.setCell ⟨b, 1, none⟩ (.int .i64 ((j + 1 : Nat) : Int))).drewN n).setCell ⟨b, 1, none⟩ (.int .i64 ((j + 1 + 1 : Nat) : Int))) b s (j + 1 + 1) bad' := fun n => (hr9.drewN n).setAt _
                have hub : ∀ n, Upd [b] w (((wc.setCell ⟨b, 1, none⟩ (.int .i64 ((j + 1 : Nat) : Int))).drewN n).setCell ⟨b, 1, none⟩ (.int .i64 ((j + 1 + 1 : Nat) : Int))) := fun n => (hu9.drewN n).setCell (.inl (.head _)) _
                have h19 := hr9.c1
                go_wp2_with fail
                refine (next_any _ b s (j + 1) bad' hr9 hs).mono ?_
                rintro e w1 ⟨rfl, m1, rfl⟩
                go_wp2_with fail
                refine (next_any _ b s (j + 1) bad' (hr9.drewN m1) hs).mono ?_
                rintro e w1 ⟨rfl, m2, rfl⟩
                go_wp2_with fail
                refine (digits_any _ b s (j + 1 + 1) bad' (hrb _) hs (by omega)).mono ?_
                rintro e w1 ⟨rfl, j1, bad1, hr1, hu1, hw1⟩
                go_wp2_with fail
                go_end0
                have p1 := pS.cat (Part.of_dig hw1)
                exact ⟨rfl, j1, bad1, hr1, (hub _).trans hu1, p1.1, p1.2.1, fun hf => ⟨(p1.2.2 hf).1, by have := (HQ.out (hw1.2.2 hf).1).1; have := hw1.1; omega, (HQ.out (hw1.2.2 hf).1).2, (p1.2.2 hf).2⟩⟩
              · have d2 : (bt s (j + 1) == 45) = false := by simpa using hb
                clear ha hb
                go_wp2_with fail
                refine (next_any _ b s (j + 1) bad' hr9 hs).mono ?_
                rintro e w1 ⟨rfl, m1, rfl⟩
                go_wp2_with fail
                refine (next_any _ b s (j + 1) bad' (hr9.drewN m1) hs).mono ?_
                rintro e w1 ⟨rfl, m2, rfl⟩
                go_wp2_with fail
                refine (digits_any _ b s (j + 1) bad' (hr9.drewN (m1 + m2)) hs (by omega)).mono ?_
                rintro e w1 ⟨rfl, j1, bad1, hr1, hu1, hw1⟩
                have hub := hu9.drewN (m1 + m2)
                go_wp2_with fail
                go_end0
                have p1 := pE.cat (Part.of_dig hw1)
                exact ⟨rfl, j1, bad1, hr1, hub.trans hu1, p1.1, p1.2.1, fun hf => ⟨(p1.2.2 hf).1, by have := (HQ.out (hw1.2.2 hf).1).1; have := hw1.1; omega, (HQ.out (hw1.2.2 hf).1).2, (p1.2.2 hf).2⟩⟩
          · rw [show isE (bt s j) = false from decide_eq_false hE] at hc8
            subst hc8
            clear hE
            go_wp2_with fail
            go_end0
            exact ⟨rfl, j, bad', hr8, hu8, hp.1, hp.2.1, fun hf => ⟨(hp.2.2 hf).1, (HQ.out hf).1, (HQ.out hf).2, (hp.2.2 hf).2⟩⟩
end Go.Proofs.YtcnkbdbkglggcaaGreatDoor
