/-
  The library's 'ParseFloat' on every text of bytes of numbers that begins as a number: it returns. Condition: what the library's variables hold; the text has at most 2^31 bytes.
  The program's 'tonum' on a text that begins with a number: the number's text, and a float. Condition: what the library's variables hold.
-/
import Derived.Test.YtcnkbdbkglggcaaGreatDoorYGxI
import Derived.Test.YtcnkbdbkglggcaaGreatDoorYGxJ
import Derived.Test.YtcnkbdbkglggcaaGreatDoorYGxC
import Derived.Test.YtcnkbdbkglggcaaGreatDoorZMO
import Derived.Test.YtcnkbdbkglggcaaGreatDoorYGvH
import Derived.Test.YtcnkbdbkglggcaaGreatDoorZMB
import Derived.Test.YtcnkbdbkglggcaaGreatDoorZMF
set_option linter.unusedVariables false
set_option linter.unusedSimpArgs false
namespace Go.Proofs.YtcnkbdbkglggcaaGreatDoor
open Go.RowKit

/-- What the library's variables hold that 'ParseFloat' reads. -/
structure Flt (w : World) (B : Nat) : Prop where
  gl : Gl w
  pow : PowT w
  p10 : ∃ b o cap, Pw10 w B b o cap
  cht : ∃ b o cap, Cht w B b o cap
  fpt : ∃ b o cap, Fpt w B b o cap
  err : ErrG w
  size : B ≤ w.heap.size
theorem Flt.upd {w w' : World} {B : Nat} (h : Flt w B) (hu : Upd [] w w') : Flt w' B := by
  obtain ⟨a, b, c, h1⟩ := h.p10
  obtain ⟨d, e, f, h2⟩ := h.cht
  obtain ⟨x, y, z, h3⟩ := h.fpt
  have hm : Upd [w.heap.size] w w' := hu.mono (by simp)
  exact ⟨h.gl.upd hu, h.pow.upd hu, ⟨a, b, c, h1.upd hu⟩, ⟨d, e, f, h2.upd h.size hm⟩, ⟨x, y, z, h3.upd h.size hm⟩, h.err.upd hu, Nat.le_trans h.size hu.size⟩
def AtAny (w : World) (_s : ByteArray) (e : Ending) (w' : World) : Prop := (∃ (x n : Nat) (v : Value), e = .returned (.tuple #[.float .f64 x, .int .i64 n, v]) ∧ (v = .nilIface ∨ v = .iface 105 (.int .i64 1) ∨ v = .iface 105 (.int .i64 2))) ∧ Upd [] w w'
theorem res_at {w : World} {tmps : Array Value} {a b c : Value} (h2 : tmps.getD 2 undef = a) (h3 : tmps.getD 3 undef = b) (h4 : tmps.getD 4 undef = c) :
    (results Tryz.f114 tmps).run Tryz.prog w = .ok (.tuple #[a, b, c]) w := by
  have g2 : tmps[2]?.getD undef = a := by simpa using h2
  have g3 : tmps[3]?.getD undef = b := by simpa using h3
  have g4 : tmps[4]?.getD undef = c := by simpa using h4
  simp [results, Tryz.results114, go_sem, g2, g3, g4]
theorem zero_db (w : World) : DB (w.alloc (.cells Tryz.zeroCells153 153)) w.heap.size (fun _ => 0) 0 0 false false := by
  have h : Tryz.zeroCells153 = dcs (fun _ => 0) 0 0 false false := by kernel_rfl
  rw [h]
  exact Blk.new w 153 _
theorem special_num (w : World) (s : ByteArray) (hb : Begin s 0) (hs1 : 0 < s.size) : Calls Tryz.prog 141 #[.string s] w fun e w' => e = .returned (.tuple #[.float .f64 0, .int .i64 0, .bool false]) ∧ w' = w := by
  rcases hb with h | ⟨h45, hd⟩
  · exact special_dig w s hs1 h
  · have hl : 1 < s.size := by
      refine lt_of_bt (fun h => ?_)
      rw [show (0 + 1) = 1 from rfl, h] at hd
      exact absurd hd.1 (by decide)
    exact special_neg w s h45 hl hd
theorem nums_cut {s : ByteArray} {n : Nat} (h : Nums s 0 s.size) (hn : n ≤ s.size) : Nums (s.extract 0 n) 0 (s.extract 0 n).size := fun k h1 h2 => by
  have hz : (s.extract 0 n).size = n := by simp only [ByteArray.size_extract]; omega
  rw [bt_extract (by omega) hn]
  exact h _ (by omega) (by omega)
set_option maxRecDepth 100000 in
set_option maxHeartbeats 8000000 in
theorem atf_any (w : World) (B : Nat) (hg : Flt w B) (s : ByteArray) (h1 : 0 < s.size) (hs : s.size ≤ 2 ^ 31) (hn : Nums s 0 s.size) (hb : Begin s 0) : Calls Tryz.prog 114 #[.string s] w fun e w' => AtAny w s e w' := by
  have h3 := hg.gl.opt
  have rf := run_frombits
  have HG := Lib.hid hg
  have HN := Lib.hid hn
  have HB := Lib.hid hb
  clear hg hn hb
  go_enter Tryz.func114, Tryz.ntmps114
  go_upto_region 5 with (first | (go_at_call 141; refine (special_num _ s HB.out h1).mono ?_; rintro e w1 ⟨rfl, rfl⟩) | (go_at_call 142; refine (readf_any _ s h1 hs HN.out).mono ?_; rintro e w1 ⟨⟨m, i, ex, ng, tr, ok, rfl, hm, hi, hok⟩, rfl⟩))
  cases ok
  · go_wp2_with fail
    exact bodyPost_ret (res_at rfl rfl rfl) rfl ⟨⟨_, _, _, rfl, .inr (.inr rfl)⟩, Upd.refl [] _⟩
  · have hi1 := hok rfl
    go_upto_region 12 with (go_at_call 150; refine (bool2_any _ _).mono ?_; rintro e w1 ⟨⟨sv, rfl⟩, rfl⟩)
    by_cases hm0 : m = 0
    · subst hm0
      go_wp2_with fail
      exact bodyPost_ret (res_at rfl rfl rfl) rfl ⟨⟨_, _, _, rfl, .inl rfl⟩, Upd.refl [] _⟩
    · have dm : ((m : Int) == 0) = false := beq_eq_false_iff_ne.2 (by omega)
      have dm' : (m == 0) = false := beq_eq_false_iff_ne.2 hm0
      have dm2 : decide (m = 0) = false := decide_eq_false hm0
      by_cases h310 : 310 < ex
      · have d1 : decide (310 < ex) = true := decide_eq_true h310
        go_wp2_with fail
        exact bodyPost_ret (res_at rfl rfl rfl) rfl ⟨⟨_, _, _, rfl, .inr (.inl rfl)⟩, Upd.refl [] _⟩
      · have d1 : decide (310 < ex) = false := decide_eq_false h310
        by_cases h345 : ex < -345
        · have d2 : decide (ex < -345) = true := decide_eq_true h345
          go_wp2_with fail
          exact bodyPost_ret (res_at rfl rfl rfl) rfl ⟨⟨_, _, _, rfl, .inl rfl⟩, Upd.refl [] _⟩
        · have d2 : decide (ex < -345) = false := decide_eq_false h345
          obtain ⟨b1, o1, cap1, hp10⟩ := HG.out.p10
          have HP10 := Lib.hid hp10
          clear hp10
          cases tr
          · go_upto_region 20 with (go_at_call 152; refine (exact_any _ HG.out.gl B b1 o1 cap1 HP10.out m ex ng (by omega) (by omega)).mono ?_; rintro e w1 ⟨⟨xx, okk, rfl⟩, rfl⟩)
            cases okk
            · go_wp2_with (go_at_call 153; refine (pf64_all _ HG.out.pow m ex _ (by omega) (by omega) (by omega) (by omega)).mono ?_; rintro e w2 ⟨⟨x2, v2, rfl, hv2⟩, hu2⟩)
              exact bodyPost_ret (res_at rfl rfl rfl) rfl ⟨⟨_, _, _, rfl, hv2.imp id .inl⟩, hu2⟩
            · go_wp2_with fail
              exact bodyPost_ret (res_at rfl rfl rfl) rfl ⟨⟨_, _, _, rfl, .inl rfl⟩, Upd.refl [] _⟩
          · have wm : IntKind.u64.wrap ((m : Int) + 1) = (m : Int) + 1 := by rw [wrap_u64']; omega
            go_upto_region 25 with (go_at_call 153; refine (pf64_all _ HG.out.pow m ex _ (by omega) (by omega) (by omega) (by omega)).mono ?_; rintro e w2 ⟨⟨x2, v2, rfl, hv2⟩, hu2⟩)
            have HG2 := Lib.hid (HG.out.upd hu2)
            go_upto_region 26 with (go_at_call 153; refine (pf64_all _ HG2.out.pow ((m : Int) + 1) ex _ (by omega) (by omega) (by omega) (by omega)).mono ?_; rintro e w3 ⟨⟨x3, v3, rfl, hv3⟩, hu3⟩)
            have HG3 := Lib.hid (HG2.out.upd hu3)
            have HU3 := Lib.hid (hu2.trans hu3)
            clear HG2 hu2 hu3
            obtain ⟨bb, hbb⟩ : ∃ b : Bool, ((FloatKind.f64).format.order x2 x3 == some .eq) = b := ⟨_, rfl⟩
            cases bb
            · go_upto_region 29 with fail
              have HB0 : Hid (DB (w3.alloc (.cells Tryz.zeroCells153 153)) w3.heap.size (fun _ => 0) 0 0 false false) := zero_db w3
              have HU4 := Lib.hid (HU3.out.alloc (.cells Tryz.zeroCells153 153))
              have HG4 := Lib.hid (HG3.out.upd ((Upd.refl [] w3).alloc (.cells Tryz.zeroCells153 153)))
              have hBg := HG3.out.size
              have hwg := HU3.out.size
              generalize w3.heap.size = g at *
              generalize w3.alloc (.cells Tryz.zeroCells153 153) = W4 at *
              have ys : ∀ w, (Instr.slice 9 (.string s) none (some (.int .i64 (i : Int))) none).run Tryz.prog w = .ok (.string (s.extract 0 i)) w := fun w => cut_nat s _ i rfl hi w
              have hz : (s.extract 0 i).size = i := by simp only [ByteArray.size_extract]; omega
              have HC := Lib.hid (nums_cut HN.out hi)
              go_upto_region 30 with (go_at_call 148; refine (set_any _ g (s.extract 0 i) HB0.out (by omega) (by omega) HC.out).mono ?_; rintro e w5 ⟨⟨ok5, rfl⟩, f5, n5, dp5, ng5, tr5, hb5, h85, hd5, hf5, hu5⟩)
              · go_wp2_with fail
                exact bodyPost_ret (res_at rfl rfl rfl) rfl ⟨⟨_, _, _, rfl, .inr (.inr rfl)⟩, HU4.out.then hu5 (fun x hx => .inr (by simp only [List.mem_singleton] at hx; omega))⟩
              · have HG5 : Hid (∃ b o cap b2 o2 cap2, Cht w5 B b o cap ∧ Fpt w5 B b2 o2 cap2) := by
                  obtain ⟨b, o, cap, q1⟩ := HG4.out.cht
                  obtain ⟨b2, o2, cap2, q2⟩ := HG4.out.fpt
                  exact ⟨b, o, cap, b2, o2, cap2, q1.upd hBg hu5, q2.upd hBg hu5⟩
                obtain ⟨b, o, cap, b2, o2, cap2, q1, q2⟩ := HG5.out
                go_wp2_with (go_at_call 149; refine (fbits_any _ g f5 n5 dp5 ng5 tr5 B b o cap b2 o2 cap2 q1 q2 hBg hb5 h85 hd5 hf5).mono ?_; rintro e w6 ⟨v6, ov6, rfl, hu6⟩)
                all_goals exact bodyPost_ret (res_at rfl rfl rfl) rfl ⟨⟨_, _, _, rfl, by first | exact .inl rfl | exact .inr (.inl rfl)⟩, HU4.out.then (hu5.trans hu6) (fun x hx => .inr (by simp only [List.mem_singleton] at hx; omega))⟩
            · go_wp2_with fail
              exact bodyPost_ret (res_at rfl rfl rfl) rfl ⟨⟨_, _, _, rfl, hv2.imp id .inl⟩, HU3.out⟩
/-- A call that returns a float and an error. -/
def PfOut (w : World) (e : Ending) (w' : World) : Prop := (∃ (x : Nat) (v : Value), e = .returned (.tuple #[.float .f64 x, v])) ∧ Upd [] w w'
def PfIn (w : World) (e : Ending) (w' : World) : Prop := (∃ (x : Nat) (v : Value), e = .returned (.tuple #[.float .f64 x, v]) ∧ (v = .nilIface ∨ v = .iface 105 (.int .i64 1) ∨ v = .iface 105 (.int .i64 2))) ∧ Upd [] w w'
theorem res_85 {w : World} {tmps : Array Value} {a b c : Value} (h2 : tmps.getD 4 undef = a) (h3 : tmps.getD 5 undef = b) (h4 : tmps.getD 6 undef = c) :
    (results Tryz.f85 tmps).run Tryz.prog w = .ok (.tuple #[a, b, c]) w := by
  have g2 : tmps[4]?.getD undef = a := by simpa using h2
  have g3 : tmps[5]?.getD undef = b := by simpa using h3
  have g4 : tmps[6]?.getD undef = c := by simpa using h4
  simp [results, Tryz.results85, go_sem, g2, g3, g4]
theorem atf_85 (w : World) (B : Nat) (hg : Flt w B) (s : ByteArray) (h1 : 0 < s.size) (hs : s.size ≤ 2 ^ 31) (hn : Nums s 0 s.size) (hb : Begin s 0) : Calls Tryz.prog 85 #[.string s, .int .i64 64] w fun e w' => AtAny w s e w' := by
  go_enter Tryz.func85, Tryz.ntmps85
  go_wp2_with (go_at_call 114; refine (atf_any _ B hg s h1 hs hn hb).mono ?_; rintro e w1 ⟨⟨x, n, v, rfl, hv⟩, hu⟩)
  exact bodyPost_ret (res_85 rfl rfl rfl) rfl ⟨⟨_, _, _, rfl, hv⟩, hu⟩
theorem pf_65 (w : World) (B : Nat) (hg : Flt w B) (s : ByteArray) (h1 : 0 < s.size) (hs : s.size ≤ 2 ^ 31) (hn : Nums s 0 s.size) (hb : Begin s 0) : Calls Tryz.prog 65 #[.string s, .int .i64 64] w fun e w' => PfIn w e w' := by
  go_enter Tryz.func65, Tryz.ntmps65
  go_wp2_with (go_at_call 85; refine (atf_85 _ B hg s h1 hs hn hb).mono ?_; rintro e w1 ⟨⟨x, n, v, rfl, hv⟩, hu⟩)
  all_goals go_ret2
  · exact ⟨⟨_, _, rfl, .inr (.inr rfl)⟩, hu⟩
  · exact ⟨⟨_, _, rfl, hv⟩, hu⟩
theorem pf_43 (w : World) (B : Nat) (hg : Flt w B) (s : ByteArray) (h1 : 0 < s.size) (hs : s.size ≤ 2 ^ 31) (hn : Nums s 0 s.size) (hb : Begin s 0) : Calls Tryz.prog 43 #[.string s, .int .i64 64] w fun e w' => PfOut w e w' := by
  go_enter Tryz.func43, Tryz.ntmps43
  go_wp2_with fail
  refine (pf_65 _ B hg s h1 hs hn hb).mono ?_
  rintro e w1 ⟨⟨x, v, rfl, hv⟩, hu⟩
  have hg1 := (hg.upd hu).err
  rcases hv with rfl | rfl | rfl
  · go_wp2_with fail
    go_ret2
    exact ⟨⟨_, _, rfl⟩, hu⟩
  · go_wp2_with (go_at_call 52; refine (toerr_any _ _ s 1 (.inl rfl) hg1 h1 hs).mono ?_; rintro e w2 ⟨⟨v, rfl⟩, hu2⟩)
    go_ret2
    exact ⟨⟨_, _, rfl⟩, hu.trans hu2⟩
  · go_wp2_with (go_at_call 52; refine (toerr_any _ _ s 2 (.inr rfl) hg1 h1 hs).mono ?_; rintro e w2 ⟨⟨v, rfl⟩, hu2⟩)
    go_ret2
    exact ⟨⟨_, _, rfl⟩, hu.trans hu2⟩
end Go.Proofs.YtcnkbdbkglggcaaGreatDoor

namespace Go.Proofs.YtcnkbdbkglggcaaGreatDoor
open Go.RowKit

def ToN (w : World) (raw : ByteArray) (e : Ending) (w' : World) : Prop := (∃ x : Nat, e = .returned (.tuple #[.string raw, .float .f64 x])) ∧ Upd [] w w'
set_option maxHeartbeats 2000000 in
theorem tonum_num (w : World) (B : Nat) (hg : Flt w B) (v : ByteArray) (k : Nat) (h1 : 1 ≤ k) (hk : k ≤ v.size) (hs : v.size ≤ 2 ^ 31) (hq : NumQ v 0 k) (hout : k < v.size → numEnd (bt v k)) :
    Calls Tryz.prog 34 #[.string v] w fun e w' => ToN w (v.extract 0 k) e w' := by
  have hz : (v.extract 0 k).size = k := by simp only [ByteArray.size_extract]; omega
  have hbt : ∀ y, y < k → bt (v.extract 0 k) y = bt v y := fun y hy => by rw [bt_extract (by omega) hk, Nat.zero_add]
  have hn : Nums (v.extract 0 k) 0 (v.extract 0 k).size := fun y h2 h3 => by
    rw [hbt y (by omega)]
    exact hq.2.2 y h2 (by omega)
  have hb : Begin (v.extract 0 k) 0 := by
    unfold Begin
    rcases hq.2.1 with h | ⟨h45, hd⟩
    · exact .inl (by rw [hbt 0 (by omega)]; exact h)
    · have h2 : 1 < k := by
        rcases Nat.lt_or_ge 1 k with h3 | h3
        · exact h3
        · have h4 : k = 1 := by omega
          subst h4
          exfalso
          have h5 : 1 < v.size := lt_of_bt (fun h => by rw [show 0 + 1 = 1 from rfl, h] at hd; exact absurd hd.1 (by decide))
          have h6 := hout h5
          unfold numEnd at h6
          unfold isDig at hd
          rw [show 0 + 1 = 1 from rfl] at hd
          omega
      exact .inr ⟨by rw [hbt 0 (by omega)]; exact h45, by rw [hbt _ (by omega)]; exact hd⟩
  have PF := Lib.hid (fun w1 : World => fun hu : Upd [] w w1 => pf_43 w1 B (hg.upd hu) (v.extract 0 k) (by omega) (by omega) hn hb)
  have HQ := Lib.hid hq.2.2
  have HO := Lib.hid hout
  have PFW := Lib.hid (PF.out w (Upd.refl [] w))
  clear hq hout hbt hn hb hg PF
  go_enter Tryz.func34, Tryz.ntmps34
  go_wp2_with fail
  go_loopg [2, 4] (k - 1) (fun g v2 v4 wr => ∃ j : Nat, 1 ≤ j ∧ j ≤ k ∧ v2 = .string ⟨#[]⟩ ∧ v4 = .int .i64 j ∧ wr = w ∧ Hid (g = k - j))
  case atStart => exact ⟨1, by omega, h1, rfl, rfl, rfl, rfl⟩
  case round =>
    obtain ⟨j, hj1, hj, rfl, rfl, rfl, hh⟩ := hrel
    by_cases hlt : j < k
    · have hls : j < v.size := by omega
      have hn := HQ.out j (Nat.zero_le _) hlt
      rw [← bt_lt hls] at hn
      unfold isNum isDig at hn
      have c44 : ((v[j].toNat : Int) == 44) = false := beq_eq_false_iff_ne.2 (by omega)
      have c93 : ((v[j].toNat : Int) == 93) = false := beq_eq_false_iff_ne.2 (by omega)
      have c125 : ((v[j].toNat : Int) == 125) = false := beq_eq_false_iff_ne.2 (by omega)
      have c32 : decide ((v[j].toNat : Int) ≤ 32) = false := decide_eq_false (by omega)
      have c32' : decide (v[j].toNat ≤ 32) = false := decide_eq_false (by omega)
      clear hn
      by_cases h45 : (v[j].toNat : Int) ≤ 45
      all_goals
        go_wp2_with fail
        go_roundg (k - (j + 1))
        case measure => have := hh.out; omega
        case rel => exact ⟨j + 1, by omega, by omega, rfl, by go_num, rfl, rfl⟩
    · have hjk : j = k := by omega
      subst hjk
      by_cases hls : j < v.size
      · have hn := HO.out hls
        rw [← bt_lt hls] at hn
        unfold numEnd at hn
        have ys : ∀ w, (Instr.slice 9 (.string v) none (some (.int .i64 (j : Int))) none).run Tryz.prog w = .ok (.string (v.extract 0 j)) w := fun w => cut_nat v _ j rfl hk w
        by_cases c32 : (v[j].toNat : Int) ≤ 32
        · have d1 : decide ((v[j].toNat : Int) ≤ 45) = true := decide_eq_true (by omega)
          have d1' : decide (v[j].toNat ≤ 45) = true := decide_eq_true (by omega)
          have d2 : decide ((v[j].toNat : Int) ≤ 32) = true := decide_eq_true c32
          have d2' : decide (v[j].toNat ≤ 32) = true := decide_eq_true (by omega)
          clear hn c32
          go_wp2_with (go_at_call 43; refine (PFW.out).mono ?_; rintro e w1 ⟨⟨x, v2, rfl⟩, hu⟩)
          go_ret2
          exact ⟨⟨_, rfl⟩, hu⟩
        · have d2 : decide ((v[j].toNat : Int) ≤ 32) = false := decide_eq_false c32
          have d2' : decide (v[j].toNat ≤ 32) = false := decide_eq_false (by omega)
          by_cases c44 : (v[j].toNat : Int) = 44
          · have d1 : decide ((v[j].toNat : Int) ≤ 45) = true := decide_eq_true (by omega)
            have d1' : decide (v[j].toNat ≤ 45) = true := decide_eq_true (by omega)
            have d3 : ((v[j].toNat : Int) == 44) = true := beq_iff_eq.2 c44
            clear hn c32 c44
            go_wp2_with (go_at_call 43; refine (PFW.out).mono ?_; rintro e w1 ⟨⟨x, v2, rfl⟩, hu⟩)
            go_ret2
            exact ⟨⟨_, rfl⟩, hu⟩
          · have d1 : decide ((v[j].toNat : Int) ≤ 45) = false := decide_eq_false (by omega)
            have d1' : decide (v[j].toNat ≤ 45) = false := decide_eq_false (by omega)
            by_cases c93 : (v[j].toNat : Int) = 93
            · have d3 : ((v[j].toNat : Int) == 93) = true := beq_iff_eq.2 c93
              clear hn c32 c44 c93
              go_wp2_with (go_at_call 43; refine (PFW.out).mono ?_; rintro e w1 ⟨⟨x, v2, rfl⟩, hu⟩)
              go_ret2
              exact ⟨⟨_, rfl⟩, hu⟩
            · have d3 : ((v[j].toNat : Int) == 93) = false := beq_eq_false_iff_ne.2 c93
              have d4 : ((v[j].toNat : Int) == 125) = true := beq_iff_eq.2 (by omega)
              clear hn c32 c44 c93
              go_wp2_with (go_at_call 43; refine (PFW.out).mono ?_; rintro e w1 ⟨⟨x, v2, rfl⟩, hu⟩)
              go_ret2
              exact ⟨⟨_, rfl⟩, hu⟩
      · have hjs : j = v.size := by omega
        have HVV : Hid (v.extract 0 j = v) := by show v.extract 0 j = v; rw [hjs, ByteArray.extract_zero_size]
        rw [show v.extract 0 j = v from HVV.out] at PFW
        go_wp2_with (go_at_call 43; refine PFW.out.mono ?_; rintro e w1 ⟨⟨x, v2, rfl⟩, hu⟩)
        go_ret2
        exact ⟨⟨x, congrArg (fun u : ByteArray => Ending.returned (.tuple #[.string u, .float .f64 x])) (show v = v.extract 0 j from Eq.symm HVV.out)⟩, hu⟩
end Go.Proofs.YtcnkbdbkglggcaaGreatDoor
