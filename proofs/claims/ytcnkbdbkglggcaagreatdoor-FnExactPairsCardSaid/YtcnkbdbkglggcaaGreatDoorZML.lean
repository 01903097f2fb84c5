/-
  The library's 'leftShift' on a decimal that is not 0.
  The library's shift of a decimal by any number of places.
  A scope whose jumps go to labels that are walked where they are met; the library's rounding of a decimal.
-/
import Derived.Test.YtcnkbdbkglggcaaGreatDoorZMK
import Derived.Scope
import Derived.WalkMore
set_option linter.unusedVariables false
set_option linter.unusedSimpArgs false
namespace Go.Proofs.YtcnkbdbkglggcaaGreatDoor
open Go.RowKit

/-- The table of left shifts in memory, below block B. -/
structure Cht (w : World) (B b o : Nat) (cap : Nat) : Prop where
  lt : 12 < B
  size : B ≤ w.heap.size
  bB : b < B
  sl : w.cell? ⟨12, 0, none⟩ = some (.slice (some ⟨b, o, none⟩) 61 cap)
  row : ∀ k, k ≤ 60 → ∃ (dl : Nat) (c : ByteArray), w.cell? ⟨b, o + k * 2, none⟩ = some (.int .i64 (dl : Int)) ∧ w.cell? ⟨b, o + k * 2 + 1, none⟩ = some (.string c) ∧ c.size < 1000 ∧ dl ≤ 19 ∧ (1 ≤ k → CheatOK k dl (bt c) c.size)
theorem Cht.upd {w w' : World} {B b o g : Nat} {cap : Nat} (h : Cht w B b o cap) (hg : B ≤ g) (hu : Upd [g] w w') : Cht w' B b o cap := by
  have e : ∀ (x y : Nat), x < B → w'.cell? ⟨x, y, none⟩ = w.cell? ⟨x, y, none⟩ := fun x y hx =>
    hu.cell (p := ⟨x, y, none⟩) (Nat.lt_of_lt_of_le hx h.size) (by simp; omega)
  refine ⟨h.lt, Nat.le_trans h.size hu.size, h.bB, by rw [e 12 0 h.lt]; exact h.sl, fun k hk => ?_⟩
  obtain ⟨dl, c, h1, h2, h3⟩ := h.row k hk
  exact ⟨dl, c, by rw [e _ _ h.bB]; exact h1, by rw [e _ _ h.bB]; exact h2, h3⟩
theorem CheatOK.pos {k dl l : Nat} {c : Nat → Int} (h : CheatOK k dl c l) (hk : 1 ≤ k) : 1 ≤ dl := by
  have h1 := h.low
  have h2 := h.len
  rcases Nat.eq_zero_or_pos dl with h0 | h0
  · have h3 : l - 1 = k := by omega
    rw [h3] at h1
    have := Nat.pow_lt_pow_left (show 5 < 10 by decide) (n := k) (by omega)
    omega
  · exact h0
/-- One digit more is taken from behind. -/
theorem dec_step {f : Nat → Int} {n k N r x : Nat} {t : Int} (hN : N = dvl f n * 2 ^ k) (hh : x + dvl f r * 2 ^ k = N / 10 ^ (n - r)) (hrn : r ≤ n) (hr : 1 ≤ r) (hd : 48 ≤ f (r - 1) ∧ f (r - 1) ≤ 57)
    (ht : t = (x : Int) + (f (r - 1) - 48) * 2 ^ k) :
    (∀ y : Nat, (y : Int) = t / 10 → y + dvl f (r - 1) * 2 ^ k = N / 10 ^ (n - (r - 1))) ∧ (∀ y : Nat, (y : Int) = t / 10 → r = 1 → t % 10 = ((N / 10 ^ (n - 1) % 10 : Nat) : Int)) := by
  obtain ⟨d, hdd⟩ : ∃ d : Nat, f (r - 1) = 48 + (d : Int) := ⟨(f (r - 1) - 48).toNat, by omega⟩
  have e1 : dvl f r = dvl f (r - 1) * 10 + d := by
    have := dvl_succ f (r - 1)
    rw [show r - 1 + 1 = r by omega, hdd] at this
    rw [this]
    congr 1
    omega
  obtain ⟨T, hT⟩ : ∃ T : Nat, T = x + d * 2 ^ k := ⟨_, rfl⟩
  have e2 : t = (T : Int) := by
    rw [ht, hT, hdd, show (48 + (d : Int) - 48) = (d : Int) by omega]
    simp
  have e3 : N / 10 ^ (n - r) = T + dvl f (r - 1) * 2 ^ k * 10 := by
    rw [← hh, e1, hT, Nat.add_mul, Nat.mul_right_comm]
    omega
  constructor
  · intro y hy
    have e4 : y = T / 10 := by omega
    rw [show n - (r - 1) = (n - r) + 1 by omega, Nat.pow_succ, ← Nat.div_div_eq_div_mul, e3, e4]
    omega
  · intro y hy h1
    subst h1
    rw [e3, e2]
    omega
theorem top_digits {f f2 : Nat → Int} {n k N δ x : Nat} (hU : N < 10 ^ (n + δ)) (hL : 10 ^ (n + δ) ≤ N * 10) (hN : N = dvl f n * 2 ^ k) (hd : Dg f n) (h1 : 1 ≤ n) (h0 : f 0 ≠ 48) (hk : 1 ≤ k)
    (hx : x = N / 10 ^ n) (h2 : δ = 0 → f2 0 = 48 + ((N / 10 ^ (n - 1) % 10 : Nat) : Int)) : (δ = 0 ∧ x = 0 ∧ f2 0 ≠ 48 ∧ f 0 < f2 0) ∨ (1 ≤ δ ∧ 10 ^ (δ - 1) ≤ x ∧ x < 10 ^ δ) := by
  have pn : 0 < 10 ^ n := Nat.pow_pos (by decide)
  rcases Nat.eq_zero_or_pos δ with hz | hz
  · subst hz
    have hd0 := hd 0 (by omega)
    obtain ⟨a, b⟩ := lead_grows hd h1 h0 hk (by rw [← hN]; simpa using hU)
    rw [← hN] at a b
    have h3 := h2 rfl
    rw [Nat.mod_eq_of_lt a] at h3
    refine .inl ⟨rfl, ?_, by omega, by omega⟩
    rw [hx]
    exact Nat.div_eq_of_lt (by simpa using hU)
  · refine .inr ⟨hz, ?_, ?_⟩
    · rw [hx, Nat.le_div_iff_mul_le pn, ← Nat.pow_add]
      have e : 10 ^ (n + δ) = 10 ^ (δ - 1 + n) * 10 := by
        rw [← Nat.pow_succ]
        congr 1
        omega
      omega
    · rw [hx, Nat.div_lt_iff_lt_mul pn, ← Nat.pow_add, Nat.add_comm]
      exact hU
theorem put_top {f3 : Nat → Int} {v x y δ : Nat} {m : Int} {P : Prop} (h : 1 ≤ v ∧ 10 ^ (v - 1) ≤ x ∧ x < 10 ^ v) (hy : (y : Int) = (x : Int) / 10) (hm : m = (x : Int) - 10 * (y : Int)) (hδ : δ = 0 → P) :
    (v - 1 = 0 ∧ y = 0 ∧ putD f3 (v - 1) (m + 48) 0 ≠ 48 ∧ (δ = 0 → P)) ∨ (1 ≤ v - 1 ∧ 10 ^ (v - 1 - 1) ≤ y ∧ y < 10 ^ (v - 1)) := by
  obtain ⟨h1, h2, h3⟩ := h
  rcases Nat.lt_or_ge v 2 with hv | hv
  · have hv1 : v = 1 := by omega
    subst hv1
    refine .inl ⟨rfl, by omega, ?_, hδ⟩
    unfold putD
    simp only [Nat.sub_self, if_pos]
    simp at h2 h3
    omega
  · refine .inr ⟨by omega, ?_, ?_⟩
    · have e : 10 ^ (v - 1) = 10 ^ (v - 1 - 1) * 10 := by
        rw [← Nat.pow_succ]
        congr 1
        omega
      omega
    · have e : 10 ^ v = 10 ^ (v - 1) * 10 := by
        rw [← Nat.pow_succ]
        congr 1
        omega
      omega
theorem lshR {dp a b : Int} {δ : Nat} (h : δ = 0 → a < b) (hd : δ ≤ 19) : (dp < dp + (δ : Int) ∨ dp + (δ : Int) = dp ∧ a < b) ∧ dp ≤ dp + (δ : Int) ∧ dp + (δ : Int) ≤ dp + 20 := by
  rcases Nat.eq_zero_or_pos δ with hz | hz
  · subst hz
    exact ⟨.inr ⟨by simp, h rfl⟩, by omega, by omega⟩
  · exact ⟨.inl (by omega), by omega, by omega⟩
set_option maxHeartbeats 4000000 in
theorem lshift_any (w : World) (g : Nat) (f : Nat → Int) (n : Nat) (dp : Int) (ng tr : Bool) (k : Nat) (B b o : Nat) (cap : Nat) (hT : Cht w B b o cap) (hB : B ≤ g) (hb : DB w g f n dp ng tr) (h1 : 1 ≤ n) (h8 : n ≤ 800) (hf : f 0 ≠ 48) (hd : Dg f n) (hk1 : 1 ≤ k) (hk : k ≤ 60) (hdp : -1000000000 ≤ dp) (hdp2 : dp ≤ 1000000000) :
    Calls Tryz.prog 135 #[.pointer (some ⟨g, 0, none⟩), .int .u64 (k : Int)] w fun e w' => Shf w g ng (fun f' dp' => (dp < dp' ∨ dp' = dp ∧ f 0 < f' 0) ∧ dp ≤ dp' ∧ dp' ≤ dp + 20) e w' := by
  obtain ⟨hP2, hP60⟩ := pw_bounds k hk1 hk
  have HB := Lib.hid hb
  have HF := Lib.hid hf
  have HD := Lib.hid hd
  have c800 := hb.cnd
  have s12 := hT.sl
  obtain ⟨dl, c, ht0, ht1, hcs, hdl, hck⟩ := hT.row k hk
  have HCK := Lib.hid (hck hk1)
  have zn0 : (0 : Int) ≤ (n : Int) := by omega
  have zn8 : (n : Int) ≤ 800 := by omega
  have zk : k < 61 := by omega
  have zk2 : (k : Int) < 61 := by omega
  obtain ⟨wr0, hwr0⟩ : ∃ x : World, x = w := ⟨_, rfl⟩
  have HU0 : Hid (Upd [g] wr0 w) := by rw [hwr0]; exact Upd.refl [g] w
  have HW0 := Lib.hid hwr0
  clear hb hf hd hwr0 hck
  have tf := Blk.frozen HB.out
  have hr : ∀ j, j < n → w.cell? ⟨g, j, none⟩ = some (.int .u8 (f j)) := fun j hj => HB.out.dig j (by omega)
  have HR := Lib.hid hr
  clear hr
  go_enter Tryz.func135, Tryz.ntmps135
  go_wp2_with fail
  go_quiet ((go_at_call 159; refine Calls.quiet_of (prefix_said _ g f n c 800 h8 hcs ?_); exact HR.out))
  have hck1x : True := trivial
  cases hpl : plessB f n c
  · obtain ⟨δ, hδ⟩ : ∃ δ, δ = dl := ⟨_, rfl⟩
    rw [← hδ] at ht0 hdl HCK
    have hdel : (Less f n (bt c) c.size ∧ δ + 1 = δ) ∨ (NotLess f n (bt c) c.size ∧ δ = δ) := .inr ⟨plessB_no hpl, rfl⟩
    rw [← hδ]
    clear hpl hδ
    go_upto_region 3 with fail
    clear s12 ht0 ht1 hcs zk zk2 zn0 hck1x
    obtain ⟨hU, hL⟩ := shift_digits HCK.out HD.out h1 HF.out hdel
    have HUU := Lib.hid hU
    have HLL := Lib.hid hL
    obtain ⟨N, hN⟩ : ∃ N, N = dvl f n * 2 ^ k := ⟨_, rfl⟩
    rw [← hN] at HUU HLL
    clear hU hL
    have HNE := Lib.hid hN
    clear hN
    have p2n : ((2 ^ k : Nat) : Int) = (2 : Int) ^ k := by simp
    have hd19 : δ ≤ 19 := hdl
    clear hdel
    obtain ⟨wq, hwq⟩ : ∃ x : World, x = w.drewN nq := ⟨_, rfl⟩
    have HB1 : Hid (DB wq g f n dp ng tr) := by rw [hwq]; exact HB.out.drewN _
    have HU1 : Hid (Upd [g] wr0 wq) := by rw [hwq]; exact HU0.out.drewN _
    have c800 := HB1.out.cnd
    rw [← hwq]
    clear hwq tf HB HU0 HR
    have w0 : IntKind.i64.wrap ((n : Int) - 1) = (n : Int) - 1 := IntWalk.i64_in _ (by omega)
    have w1 : IntKind.i64.wrap ((n : Int) + (δ : Int)) = (n : Int) + (δ : Int) := IntWalk.i64_in _ (by omega)
    go_wp2_with fail
    go_loopg [5, 6, 7] n (fun gg x5 x6 x7 wr => ∃ (r x : Nat) (f2 : Nat → Int) (tr2 : Bool), x5 = .int .i64 ((r : Int) - 1) ∧ x6 = .int .i64 ((r : Int) + (δ : Int)) ∧ x7 = .int .u64 (x : Int) ∧ r ≤ n ∧ (x : Int) < 2 ^ k ∧ Hid (DB wr g f2 n dp ng tr2 ∧ Upd [g] wr0 wr ∧ (∀ j, j < r → f2 j = f j) ∧ (∀ j, r + δ ≤ j → j < n + δ → j < 800 → 48 ≤ f2 j ∧ f2 j ≤ 57) ∧ x + dvl f r * 2 ^ k = N / 10 ^ (n - r) ∧ (r = 0 → δ = 0 → f2 0 = 48 + ((N / 10 ^ (n - 1) % 10 : Nat) : Int)) ∧ gg = r))
    case atStart => exact ⟨n, 0, f, tr, rfl, rfl, rfl, Nat.le_refl _, by omega, HB1.out, HU1.out, (fun j _ => rfl), (fun j h2 h3 => by omega), (by rw [Nat.sub_self, HNE.out]; simp), (fun h => by omega), rfl⟩
    case round =>
      clear HB1 HU1 c800 w0 w1
      obtain ⟨r, x, f2, tr2, rfl, rfl, rfl, hrn, hx, hh⟩ := hrel
      rcases Nat.eq_zero_or_pos r with hr0 | hr1
      · subst hr0
        have d0 : decide ((0 : Int) ≤ ((0 : Nat) : Int) - 1) = false := by decide
        have hx2 : x = N / 10 ^ n := by have := hh.out.2.2.2.2.1; simpa [dvl] using this
        have HV : Hid ((δ = 0 ∧ x = 0 ∧ f2 0 ≠ 48 ∧ f 0 < f2 0) ∨ (1 ≤ δ ∧ 10 ^ (δ - 1) ≤ x ∧ x < 10 ^ δ)) := top_digits HUU.out HLL.out HNE.out HD.out h1 HF.out hk1 hx2 (fun h => hh.out.2.2.2.2.2.1 rfl h)
        have HL : Hid (DB wr g f2 n dp ng tr2 ∧ Upd [g] wr0 wr ∧ ∀ j, δ ≤ j → j < n + δ → j < 800 → 48 ≤ f2 j ∧ f2 j ≤ 57) := ⟨hh.out.1, hh.out.2.1, fun j h2 h3 h4 => hh.out.2.2.2.1 j (by omega) h3 h4⟩
        clear hh hx2 HD HNE HUU HLL HCK
        go_upto_region 18 with fail
        have hx64 : (x : Int) < 18446744073709551616 := by omega
        clear hx
        obtain ⟨wo, hwo⟩ : ∃ wo : World, wo = wr := ⟨_, rfl⟩
        rw [← hwo] at HL
        rw [← hwo]
        clear hwo
        go_loopg [6, 7] δ (fun gg x6 x7 wr => ∃ (v x : Nat) (f3 : Nat → Int), x6 = .int .i64 (v : Int) ∧ x7 = .int .u64 (x : Int) ∧ v ≤ δ ∧ (x : Int) < 18446744073709551616 ∧ Hid (DB wr g f3 n dp ng tr2 ∧ Upd [g] wr0 wr ∧ (∀ j, v ≤ j → j < n + δ → j < 800 → 48 ≤ f3 j ∧ f3 j ≤ 57) ∧ ((v = 0 ∧ x = 0 ∧ f3 0 ≠ 48 ∧ (δ = 0 → f 0 < f3 0)) ∨ (1 ≤ v ∧ 10 ^ (v - 1) ≤ x ∧ x < 10 ^ v)) ∧ gg = v))
        case atStart => exact ⟨δ, x, f2, by go_num, rfl, Nat.le_refl _, by omega, HL.out.1, HL.out.2.1, HL.out.2.2, HV.out.imp (fun h => ⟨h.1, h.2.1, h.2.2.1, fun _ => h.2.2.2⟩) id, rfl⟩
        case round =>
          clear HL HV
          obtain ⟨v, x2, f3, rfl, rfl, hv, hx2, hh3⟩ := hrel
          have tf := Blk.frozen hh3.out.1
          rcases Nat.eq_zero_or_pos x2 with hz | hz
          · subst hz
            have hE := hh3.out.2.2.2.1.resolve_right (by rintro ⟨_, h, _⟩; have : 0 < 10 ^ (v - 1) := Nat.pow_pos (by decide); omega)
            obtain ⟨hv0, -, hne, hgr⟩ := hE
            subst hv0
            have HNE2 := Lib.hid hne
            have HGR := Lib.hid hgr
            clear hne hgr
            have c800 := hh3.out.1.cnd
            have c801 := hh3.out.1.cdp
            have w1 : IntKind.i64.wrap ((n : Int) + (δ : Int)) = (n : Int) + (δ : Int) := IntWalk.i64_in _ (by omega)
            have w2 : IntKind.i64.wrap (dp + (δ : Int)) = dp + (δ : Int) := IntWalk.i64_in _ (by omega)
            have dz : decide ((0 : Int) < ((0 : Nat) : Int)) = false := by decide
            by_cases h8n : n + δ < 800
            · have d8 : decide (800 ≤ (n : Int) + (δ : Int)) = false := decide_eq_false (by omega)
              have d8' : decide (800 ≤ n + δ) = false := decide_eq_false (by omega)
              have HT : Hid (DB ((wr.setCell ⟨g, 800, none⟩ (.int .i64 ((n : Int) + (δ : Int)))).setCell ⟨g, 801, none⟩ (.int .i64 (dp + (δ : Int)))) g f3 ((n + δ : Nat) : Int) (dp + δ) ng tr2) := ((hh3.out.1.setNd ((n + δ : Nat) : Int)).setDp (dp + δ))
              have HU3 : Hid (Upd [g] wr0 ((wr.setCell ⟨g, 800, none⟩ (.int .i64 ((n : Int) + (δ : Int)))).setCell ⟨g, 801, none⟩ (.int .i64 (dp + (δ : Int))))) := ((hh3.out.2.1).setCell (p := ⟨g, 800, none⟩) (.inl (.head _)) _).setCell (p := ⟨g, 801, none⟩) (.inl (.head _)) _
              go_wp2_with (go_at_call 134; refine (trim_any _ g f3 (n + δ) (dp + δ) ng tr2 HT.out (by omega) (by omega) HNE2.out).mono ?_; rintro e w4 ⟨rfl, m, hm1, hm2, hdb, hu4⟩)
              go_end0
              exact ⟨rfl, f3, m, dp + δ, tr2, hm1, by omega, hdb, (fun j hj => hh3.out.2.2.1 j (by omega) (by omega) (by omega)), HNE2.out, lshR HGR.out hd19, by rw [← HW0.out]; exact (HU3.out).trans hu4⟩
            · have d8 : decide (800 ≤ (n : Int) + (δ : Int)) = true := decide_eq_true (by omega)
              have d8' : decide (800 ≤ n + δ) = true := decide_eq_true (by omega)
              have HT : Hid (DB (((wr.setCell ⟨g, 800, none⟩ (.int .i64 ((n : Int) + (δ : Int)))).setCell ⟨g, 800, none⟩ (.int .i64 800)).setCell ⟨g, 801, none⟩ (.int .i64 (dp + (δ : Int)))) g f3 ((800 : Nat) : Int) (dp + δ) ng tr2) := (((hh3.out.1.setNd ((n : Int) + δ)).setNd 800).setDp (dp + δ))
              have HU3 : Hid (Upd [g] wr0 (((wr.setCell ⟨g, 800, none⟩ (.int .i64 ((n : Int) + (δ : Int)))).setCell ⟨g, 800, none⟩ (.int .i64 800)).setCell ⟨g, 801, none⟩ (.int .i64 (dp + (δ : Int))))) := (((hh3.out.2.1).setCell (p := ⟨g, 800, none⟩) (.inl (.head _)) _).setCell (p := ⟨g, 800, none⟩) (.inl (.head _)) _).setCell (p := ⟨g, 801, none⟩) (.inl (.head _)) _
              go_wp2_with (go_at_call 134; refine (trim_any _ g f3 800 (dp + δ) ng tr2 HT.out (by omega) (by omega) HNE2.out).mono ?_; rintro e w4 ⟨rfl, m, hm1, hm2, hdb, hu4⟩)
              go_end0
              exact ⟨rfl, f3, m, dp + δ, tr2, hm1, by omega, hdb, (fun j hj => hh3.out.2.2.1 j (by omega) (by omega) (by omega)), HNE2.out, lshR HGR.out hd19, by rw [← HW0.out]; exact (HU3.out).trans hu4⟩
          · have hE := hh3.out.2.2.2.1.resolve_left (by rintro ⟨_, h, _⟩; omega)
            have HE := Lib.hid hE
            have hv1 := hE.1
            clear hE
            have dz : decide ((0 : Int) < (x2 : Int)) = true := decide_eq_true (by omega)
            have dz' : decide (0 < x2) = true := decide_eq_true hz
            have cw := hh3.out.1.dig (v - 1) (by omega)
            obtain ⟨m, hm⟩ : ∃ m, m = (x2 : Int) - 10 * ((x2 : Int) / 10) := ⟨_, rfl⟩
            have hm0 : 0 ≤ m ∧ m ≤ 9 := by omega
            have HM := Lib.hid hm
            replace hm := hm.symm
            obtain ⟨y, hy⟩ : ∃ y : Nat, (y : Int) = (x2 : Int) / 10 := ⟨x2 / 10, by omega⟩
            have HY := Lib.hid hy
            have hyb : (y : Int) < 18446744073709551616 := by omega
            have hy2 : 10 * (y : Int) ≤ x2 := by omega
            replace hy : (x2 : Int) / 10 = (y : Int) := hy.symm
            rw [hy] at hm
            have w48b : IntKind.u64.wrap (m + 48) = m + 48 := by rw [wrap_u64']; omega
            have w48c : IntKind.u8.wrap (m + 48) = m + 48 := by rw [IntKind.wrap_u8']; omega
            have wy : IntKind.u64.wrap (10 * (y : Int)) = 10 * (y : Int) := by rw [wrap_u64']; omega
            have wm : IntKind.u64.wrap ((x2 : Int) - 10 * (y : Int)) = m := by rw [← hm, wrap_u64']; omega
            have w6 : IntKind.i64.wrap ((v : Int) - 1) = (v : Int) - 1 := IntWalk.i64_in _ (by omega)
            have h800 : v - 1 < 800 := by omega
            have d8 : decide ((v : Int) - 1 < 800) = true := decide_eq_true (by omega)
            have y0 : (0 : Int) ≤ (v : Int) - 1 := by omega
            have y1 : (v : Int) - 1 < 800 := by omega
            have y2 : ((v : Int) - 1).toNat = v - 1 := by omega
            go_wp2_with fail
            go_roundg (v - 1)
            case measure => have := hh3.out.2.2.2.2; omega
            case rel =>
              refine ⟨v - 1, y, putD f3 (v - 1) (m + 48), by go_num, rfl, by omega, hyb, hh3.out.1.setDig _ h800 _, (hh3.out.2.1).setCell (p := ⟨g, v - 1, none⟩) (.inl (.head _)) _, fun j h2 h3 h4 => ?_, ?_, rfl⟩
              · unfold putD
                split
                · omega
                · exact hh3.out.2.2.1 j (by omega) h3 h4
              · exact put_top HE.out HY.out (by have a := HM.out; have b := HY.out; omega) (fun h => by omega)
      · have d0 : decide ((0 : Int) ≤ (r : Int) - 1) = true := decide_eq_true (by omega)
        have cr := hh.out.1.dig (r - 1) (by omega)
        rw [hh.out.2.2.1 (r - 1) (by omega)] at cr
        have hdr := HD.out (r - 1) (by omega)
        have tf := Blk.frozen hh.out.1
        have z0 : (0 : Int) ≤ (r : Int) - 1 := by omega
        have z1 : (r : Int) - 1 < 800 := by omega
        have z2 : ((r : Int) - 1).toNat = r - 1 := by omega
        obtain ⟨c, hcc⟩ : ∃ c, c = f (r - 1) := ⟨_, rfl⟩
        rw [← hcc] at cr hdr
        have HCC := Lib.hid hcc
        clear hcc
        have HQ : Hid (0 ≤ (c - 48) * 2 ^ k ∧ (c - 48) * 2 ^ k ≤ 9 * 2 ^ k) := ⟨Int.mul_nonneg (by omega) (by omega), Int.mul_le_mul_of_nonneg_right (by omega) (by omega)⟩
        obtain ⟨q2, hq2⟩ : ∃ q, q = (c - 48) * 2 ^ k := ⟨_, rfl⟩
        rw [← hq2] at HQ
        have HQE := Lib.hid hq2
        have sh : IntKind.u64.wrap ((c - 48) * 2 ^ k) = q2 := by rw [← hq2, wrap_u64']; have := HQ.out; omega
        have w48 : IntKind.u64.wrap (c - 48) = c - 48 := by rw [wrap_u64']; omega
        clear hq2
        obtain ⟨t, ht⟩ : ∃ t, t = (x : Int) + q2 := ⟨_, rfl⟩
        have HT := Lib.hid ht
        have ht0 : 0 ≤ t ∧ t < 11529215046068469760 ∧ t < 10 * 2 ^ k := by have := HQ.out; omega
        have wt : IntKind.u64.wrap ((x : Int) + q2) = t := by rw [← ht, wrap_u64']; omega
        clear ht
        have HR1 := dec_step (t := t) HNE.out hh.out.2.2.2.2.1 hrn hr1 (by rw [← HCC.out]; exact hdr) (by rw [HT.out, HQE.out, HCC.out])
        obtain ⟨m, hm⟩ : ∃ m, m = t - 10 * (t / 10) := ⟨_, rfl⟩
        have hm0 : 0 ≤ m ∧ m ≤ 9 := by omega
        have HM := Lib.hid hm
        replace hm := hm.symm
        obtain ⟨y, hy⟩ : ∃ y : Nat, (y : Int) = t / 10 := ⟨(t / 10).toNat, by omega⟩
        have HY := Lib.hid hy
        have hyb : (y : Int) < 2 ^ k := by omega
        replace hy : t / 10 = (y : Int) := hy.symm
        rw [hy] at hm
        have w48b : IntKind.u64.wrap (m + 48) = m + 48 := by rw [wrap_u64']; omega
        have w48c : IntKind.u8.wrap (m + 48) = m + 48 := by rw [IntKind.wrap_u8']; omega
        have wy : IntKind.u64.wrap (10 * (y : Int)) = 10 * (y : Int) := by rw [wrap_u64']; omega
        have wm : IntKind.u64.wrap (t - 10 * (y : Int)) = m := by rw [← hm, wrap_u64']; omega
        have w6 : IntKind.i64.wrap ((r : Int) + (δ : Int) - 1) = (r : Int) + (δ : Int) - 1 := IntWalk.i64_in _ (by omega)
        have w5 : IntKind.i64.wrap ((r : Int) - 1 - 1) = (r : Int) - 1 - 1 := IntWalk.i64_in _ (by omega)
        clear ht0
        by_cases h800 : r + δ - 1 < 800
        · have cw := hh.out.1.dig (r + δ - 1) h800
          have d8 : decide ((r : Int) + (δ : Int) - 1 < 800) = true := decide_eq_true (by omega)
          have y0 : (0 : Int) ≤ (r : Int) + (δ : Int) - 1 := by omega
          have y1 : (r : Int) + (δ : Int) - 1 < 800 := by omega
          have y2 : ((r : Int) + (δ : Int) - 1).toNat = r + δ - 1 := by omega
          go_wp2_with fail
          go_roundg (r - 1)
          case measure => have := hh.out.2.2.2.2.2.2; omega
          case rel =>
            refine ⟨r - 1, y, putD f2 (r + δ - 1) (m + 48), tr2, by go_num, by go_num, (by first | rfl | rw [HY.out]), by omega, hyb, hh.out.1.setDig _ h800 _, (hh.out.2.1).setCell (p := ⟨g, r + δ - 1, none⟩) (.inl (.head _)) _, fun j hj => ?_, fun j h2 h3 h4 => ?_, ?_, fun h2 h3 => ?_, rfl⟩
            · unfold putD
              rw [if_neg (by omega)]
              exact hh.out.2.2.1 j (by omega)
            · unfold putD
              split
              · omega
              · exact hh.out.2.2.2.1 j (by omega) h3 h4
            · exact HR1.1 y HY.out
            · unfold putD
              rw [if_pos (by omega)]
              have h4 := HR1.2 y HY.out (by omega)
              have h5 := HM.out
              have h6 := HY.out
              omega
        · have d8 : decide ((r : Int) + (δ : Int) - 1 < 800) = false := decide_eq_false (by omega)
          have c803 := hh.out.1.ctr
          by_cases hm1 : m = 0
          · have dm : (m != 0) = false := by simp [hm1]
            go_wp2_with fail
            go_roundg (r - 1)
            case measure => have := hh.out.2.2.2.2.2.2; omega
            case rel =>
              exact ⟨r - 1, y, f2, tr2, by go_num, by go_num, (by first | rfl | rw [HY.out]), by omega, hyb, hh.out.1, hh.out.2.1, (fun j hj => hh.out.2.2.1 j (by omega)), (fun j h2 h3 h4 => hh.out.2.2.2.1 j (by omega) h3 h4), HR1.1 y HY.out, (fun h2 h3 => by omega), rfl⟩
          · have dm : (m != 0) = true := bne_iff_ne.2 hm1
            go_wp2_with fail
            go_roundg (r - 1)
            case measure => have := hh.out.2.2.2.2.2.2; omega
            case rel =>
              exact ⟨r - 1, y, f2, true, by go_num, by go_num, (by first | rfl | rw [HY.out]), by omega, hyb, hh.out.1.setTr true, (hh.out.2.1).setCell (p := ⟨g, 803, none⟩) (.inl (.head _)) _, (fun j hj => hh.out.2.2.1 j (by omega)), (fun j h2 h3 h4 => hh.out.2.2.2.1 j (by omega) h3 h4), HR1.1 y HY.out, (fun h2 h3 => by omega), rfl⟩
  · obtain ⟨δ, hδ⟩ : ∃ δ, dl = δ + 1 := ⟨dl - 1, by have := HCK.out.pos hk1; omega⟩
    rw [hδ] at ht0 hdl HCK
    have hdel : (Less f n (bt c) c.size ∧ δ + 1 = δ + 1) ∨ (NotLess f n (bt c) c.size ∧ δ = δ + 1) := .inl ⟨plessB_yes hpl, rfl⟩
    rw [hδ]
    clear hpl hδ
    have wd : IntKind.i64.wrap (((δ + 1 : Nat) : Int) - 1) = (δ : Int) := by rw [IntWalk.i64_in _ (by omega)]; omega
    go_upto_region 3 with fail
    clear s12 ht0 ht1 hcs zk zk2 zn0 hck1x
    obtain ⟨hU, hL⟩ := shift_digits HCK.out HD.out h1 HF.out hdel
    have HUU := Lib.hid hU
    have HLL := Lib.hid hL
    obtain ⟨N, hN⟩ : ∃ N, N = dvl f n * 2 ^ k := ⟨_, rfl⟩
    rw [← hN] at HUU HLL
    clear hU hL
    have HNE := Lib.hid hN
    clear hN
    have p2n : ((2 ^ k : Nat) : Int) = (2 : Int) ^ k := by simp
    have hd19 : δ ≤ 19 := by omega
    clear hdel
    obtain ⟨wq, hwq⟩ : ∃ x : World, x = w.drewN nq := ⟨_, rfl⟩
    have HB1 : Hid (DB wq g f n dp ng tr) := by rw [hwq]; exact HB.out.drewN _
    have HU1 : Hid (Upd [g] wr0 wq) := by rw [hwq]; exact HU0.out.drewN _
    have c800 := HB1.out.cnd
    rw [← hwq]
    clear hwq tf HB HU0 HR
    have w0 : IntKind.i64.wrap ((n : Int) - 1) = (n : Int) - 1 := IntWalk.i64_in _ (by omega)
    have w1 : IntKind.i64.wrap ((n : Int) + (δ : Int)) = (n : Int) + (δ : Int) := IntWalk.i64_in _ (by omega)
    go_wp2_with fail
    go_loopg [5, 6, 7] n (fun gg x5 x6 x7 wr => ∃ (r x : Nat) (f2 : Nat → Int) (tr2 : Bool), x5 = .int .i64 ((r : Int) - 1) ∧ x6 = .int .i64 ((r : Int) + (δ : Int)) ∧ x7 = .int .u64 (x : Int) ∧ r ≤ n ∧ (x : Int) < 2 ^ k ∧ Hid (DB wr g f2 n dp ng tr2 ∧ Upd [g] wr0 wr ∧ (∀ j, j < r → f2 j = f j) ∧ (∀ j, r + δ ≤ j → j < n + δ → j < 800 → 48 ≤ f2 j ∧ f2 j ≤ 57) ∧ x + dvl f r * 2 ^ k = N / 10 ^ (n - r) ∧ (r = 0 → δ = 0 → f2 0 = 48 + ((N / 10 ^ (n - 1) % 10 : Nat) : Int)) ∧ gg = r))
    case atStart => exact ⟨n, 0, f, tr, rfl, rfl, rfl, Nat.le_refl _, by omega, HB1.out, HU1.out, (fun j _ => rfl), (fun j h2 h3 => by omega), (by rw [Nat.sub_self, HNE.out]; simp), (fun h => by omega), rfl⟩
    case round =>
      clear HB1 HU1 c800 w0 w1
      obtain ⟨r, x, f2, tr2, rfl, rfl, rfl, hrn, hx, hh⟩ := hrel
      rcases Nat.eq_zero_or_pos r with hr0 | hr1
      · subst hr0
        have d0 : decide ((0 : Int) ≤ ((0 : Nat) : Int) - 1) = false := by decide
        have hx2 : x = N / 10 ^ n := by have := hh.out.2.2.2.2.1; simpa [dvl] using this
        have HV : Hid ((δ = 0 ∧ x = 0 ∧ f2 0 ≠ 48 ∧ f 0 < f2 0) ∨ (1 ≤ δ ∧ 10 ^ (δ - 1) ≤ x ∧ x < 10 ^ δ)) := top_digits HUU.out HLL.out HNE.out HD.out h1 HF.out hk1 hx2 (fun h => hh.out.2.2.2.2.2.1 rfl h)
        have HL : Hid (DB wr g f2 n dp ng tr2 ∧ Upd [g] wr0 wr ∧ ∀ j, δ ≤ j → j < n + δ → j < 800 → 48 ≤ f2 j ∧ f2 j ≤ 57) := ⟨hh.out.1, hh.out.2.1, fun j h2 h3 h4 => hh.out.2.2.2.1 j (by omega) h3 h4⟩
        clear hh hx2 HD HNE HUU HLL HCK
        go_upto_region 18 with fail
        have hx64 : (x : Int) < 18446744073709551616 := by omega
        clear hx
        obtain ⟨wo, hwo⟩ : ∃ wo : World, wo = wr := ⟨_, rfl⟩
        rw [← hwo] at HL
        rw [← hwo]
        clear hwo
        go_loopg [6, 7] δ (fun gg x6 x7 wr => ∃ (v x : Nat) (f3 : Nat → Int), x6 = .int .i64 (v : Int) ∧ x7 = .int .u64 (x : Int) ∧ v ≤ δ ∧ (x : Int) < 18446744073709551616 ∧ Hid (DB wr g f3 n dp ng tr2 ∧ Upd [g] wr0 wr ∧ (∀ j, v ≤ j → j < n + δ → j < 800 → 48 ≤ f3 j ∧ f3 j ≤ 57) ∧ ((v = 0 ∧ x = 0 ∧ f3 0 ≠ 48 ∧ (δ = 0 → f 0 < f3 0)) ∨ (1 ≤ v ∧ 10 ^ (v - 1) ≤ x ∧ x < 10 ^ v)) ∧ gg = v))
        case atStart => exact ⟨δ, x, f2, by go_num, rfl, Nat.le_refl _, by omega, HL.out.1, HL.out.2.1, HL.out.2.2, HV.out.imp (fun h => ⟨h.1, h.2.1, h.2.2.1, fun _ => h.2.2.2⟩) id, rfl⟩
        case round =>
          clear HL HV
          obtain ⟨v, x2, f3, rfl, rfl, hv, hx2, hh3⟩ := hrel
          have tf := Blk.frozen hh3.out.1
          rcases Nat.eq_zero_or_pos x2 with hz | hz
          · subst hz
            have hE := hh3.out.2.2.2.1.resolve_right (by rintro ⟨_, h, _⟩; have : 0 < 10 ^ (v - 1) := Nat.pow_pos (by decide); omega)
            obtain ⟨hv0, -, hne, hgr⟩ := hE
            subst hv0
            have HNE2 := Lib.hid hne
            have HGR := Lib.hid hgr
            clear hne hgr
            have c800 := hh3.out.1.cnd
            have c801 := hh3.out.1.cdp
            have w1 : IntKind.i64.wrap ((n : Int) + (δ : Int)) = (n : Int) + (δ : Int) := IntWalk.i64_in _ (by omega)
            have w2 : IntKind.i64.wrap (dp + (δ : Int)) = dp + (δ : Int) := IntWalk.i64_in _ (by omega)
            have dz : decide ((0 : Int) < ((0 : Nat) : Int)) = false := by decide
            by_cases h8n : n + δ < 800
            · have d8 : decide (800 ≤ (n : Int) + (δ : Int)) = false := decide_eq_false (by omega)
              have d8' : decide (800 ≤ n + δ) = false := decide_eq_false (by omega)
              have HT : Hid (DB ((wr.setCell ⟨g, 800, none⟩ (.int .i64 ((n : Int) + (δ : Int)))).setCell ⟨g, 801, none⟩ (.int .i64 (dp + (δ : Int)))) g f3 ((n + δ : Nat) : Int) (dp + δ) ng tr2) := ((hh3.out.1.setNd ((n + δ : Nat) : Int)).setDp (dp + δ))
              have HU3 : Hid (Upd [g] wr0 ((wr.setCell ⟨g, 800, none⟩ (.int .i64 ((n : Int) + (δ : Int)))).setCell ⟨g, 801, none⟩ (.int .i64 (dp + (δ : Int))))) := ((hh3.out.2.1).setCell (p := ⟨g, 800, none⟩) (.inl (.head _)) _).setCell (p := ⟨g, 801, none⟩) (.inl (.head _)) _
              go_wp2_with (go_at_call 134; refine (trim_any _ g f3 (n + δ) (dp + δ) ng tr2 HT.out (by omega) (by omega) HNE2.out).mono ?_; rintro e w4 ⟨rfl, m, hm1, hm2, hdb, hu4⟩)
              go_end0
              exact ⟨rfl, f3, m, dp + δ, tr2, hm1, by omega, hdb, (fun j hj => hh3.out.2.2.1 j (by omega) (by omega) (by omega)), HNE2.out, lshR HGR.out hd19, by rw [← HW0.out]; exact (HU3.out).trans hu4⟩
            · have d8 : decide (800 ≤ (n : Int) + (δ : Int)) = true := decide_eq_true (by omega)
              have d8' : decide (800 ≤ n + δ) = true := decide_eq_true (by omega)
              have HT : Hid (DB (((wr.setCell ⟨g, 800, none⟩ (.int .i64 ((n : Int) + (δ : Int)))).setCell ⟨g, 800, none⟩ (.int .i64 800)).setCell ⟨g, 801, none⟩ (.int .i64 (dp + (δ : Int)))) g f3 ((800 : Nat) : Int) (dp + δ) ng tr2) := (((hh3.out.1.setNd ((n : Int) + δ)).setNd 800).setDp (dp + δ))
              have HU3 : Hid (Upd [g] wr0 (((wr.setCell ⟨g, 800, none⟩ (.int .i64 ((n : Int) + (δ : Int)))).setCell ⟨g, 800, none⟩ (.int .i64 800)).setCell ⟨g, 801, none⟩ (.int .i64 (dp + (δ : Int))))) := (((hh3.out.2.1).setCell (p := ⟨g, 800, none⟩) (.inl (.head _)) _).setCell (p := ⟨g, 800, none⟩) (.inl (.head _)) _).setCell (p := ⟨g, 801, none⟩) (.inl (.head _)) _
              go_wp2_with (go_at_call 134; refine (trim_any _ g f3 800 (dp + δ) ng tr2 HT.out (by omega) (by omega) HNE2.out).mono ?_; rintro e w4 ⟨rfl, m, hm1, hm2, hdb, hu4⟩)
              go_end0
              exact ⟨rfl, f3, m, dp + δ, tr2, hm1, by omega, hdb, (fun j hj => hh3.out.2.2.1 j (by omega) (by omega) (by omega)), HNE2.out, lshR HGR.out hd19, by rw [← HW0.out]; exact (HU3.out).trans hu4⟩
          · have hE := hh3.out.2.2.2.1.resolve_left (by rintro ⟨_, h, _⟩; omega)
            have HE := Lib.hid hE
            have hv1 := hE.1
            clear hE
            have dz : decide ((0 : Int) < (x2 : Int)) = true := decide_eq_true (by omega)
            have dz' : decide (0 < x2) = true := decide_eq_true hz
            have cw := hh3.out.1.dig (v - 1) (by omega)
            obtain ⟨m, hm⟩ : ∃ m, m = (x2 : Int) - 10 * ((x2 : Int) / 10) := ⟨_, rfl⟩
            have hm0 : 0 ≤ m ∧ m ≤ 9 := by omega
            have HM := Lib.hid hm
            replace hm := hm.symm
            obtain ⟨y, hy⟩ : ∃ y : Nat, (y : Int) = (x2 : Int) / 10 := ⟨x2 / 10, by omega⟩
            have HY := Lib.hid hy
            have hyb : (y : Int) < 18446744073709551616 := by omega
            have hy2 : 10 * (y : Int) ≤ x2 := by omega
            replace hy : (x2 : Int) / 10 = (y : Int) := hy.symm
            rw [hy] at hm
            have w48b : IntKind.u64.wrap (m + 48) = m + 48 := by rw [wrap_u64']; omega
            have w48c : IntKind.u8.wrap (m + 48) = m + 48 := by rw [IntKind.wrap_u8']; omega
            have wy : IntKind.u64.wrap (10 * (y : Int)) = 10 * (y : Int) := by rw [wrap_u64']; omega
            have wm : IntKind.u64.wrap ((x2 : Int) - 10 * (y : Int)) = m := by rw [← hm, wrap_u64']; omega
            have w6 : IntKind.i64.wrap ((v : Int) - 1) = (v : Int) - 1 := IntWalk.i64_in _ (by omega)
            have h800 : v - 1 < 800 := by omega
            have d8 : decide ((v : Int) - 1 < 800) = true := decide_eq_true (by omega)
            have y0 : (0 : Int) ≤ (v : Int) - 1 := by omega
            have y1 : (v : Int) - 1 < 800 := by omega
            have y2 : ((v : Int) - 1).toNat = v - 1 := by omega
            go_wp2_with fail
            go_roundg (v - 1)
            case measure => have := hh3.out.2.2.2.2; omega
            case rel =>
              refine ⟨v - 1, y, putD f3 (v - 1) (m + 48), by go_num, rfl, by omega, hyb, hh3.out.1.setDig _ h800 _, (hh3.out.2.1).setCell (p := ⟨g, v - 1, none⟩) (.inl (.head _)) _, fun j h2 h3 h4 => ?_, ?_, rfl⟩
              · unfold putD
                split
                · omega
                · exact hh3.out.2.2.1 j (by omega) h3 h4
              · exact put_top HE.out HY.out (by have a := HM.out; have b := HY.out; omega) (fun h => by omega)
      · have d0 : decide ((0 : Int) ≤ (r : Int) - 1) = true := decide_eq_true (by omega)
        have cr := hh.out.1.dig (r - 1) (by omega)
        rw [hh.out.2.2.1 (r - 1) (by omega)] at cr
        have hdr := HD.out (r - 1) (by omega)
        have tf := Blk.frozen hh.out.1
        have z0 : (0 : Int) ≤ (r : Int) - 1 := by omega
        have z1 : (r : Int) - 1 < 800 := by omega
        have z2 : ((r : Int) - 1).toNat = r - 1 := by omega
        obtain ⟨c, hcc⟩ : ∃ c, c = f (r - 1) := ⟨_, rfl⟩
        rw [← hcc] at cr hdr
        have HCC := Lib.hid hcc
        clear hcc
        have HQ : Hid (0 ≤ (c - 48) * 2 ^ k ∧ (c - 48) * 2 ^ k ≤ 9 * 2 ^ k) := ⟨Int.mul_nonneg (by omega) (by omega), Int.mul_le_mul_of_nonneg_right (by omega) (by omega)⟩
        obtain ⟨q2, hq2⟩ : ∃ q, q = (c - 48) * 2 ^ k := ⟨_, rfl⟩
        rw [← hq2] at HQ
        have HQE := Lib.hid hq2
        have sh : IntKind.u64.wrap ((c - 48) * 2 ^ k) = q2 := by rw [← hq2, wrap_u64']; have := HQ.out; omega
        have w48 : IntKind.u64.wrap (c - 48) = c - 48 := by rw [wrap_u64']; omega
        clear hq2
        obtain ⟨t, ht⟩ : ∃ t, t = (x : Int) + q2 := ⟨_, rfl⟩
        have HT := Lib.hid ht
        have ht0 : 0 ≤ t ∧ t < 11529215046068469760 ∧ t < 10 * 2 ^ k := by have := HQ.out; omega
        have wt : IntKind.u64.wrap ((x : Int) + q2) = t := by rw [← ht, wrap_u64']; omega
        clear ht
        have HR1 := dec_step (t := t) HNE.out hh.out.2.2.2.2.1 hrn hr1 (by rw [← HCC.out]; exact hdr) (by rw [HT.out, HQE.out, HCC.out])
        obtain ⟨m, hm⟩ : ∃ m, m = t - 10 * (t / 10) := ⟨_, rfl⟩
        have hm0 : 0 ≤ m ∧ m ≤ 9 := by omega
        have HM := Lib.hid hm
        replace hm := hm.symm
        obtain ⟨y, hy⟩ : ∃ y : Nat, (y : Int) = t / 10 := ⟨(t / 10).toNat, by omega⟩
        have HY := Lib.hid hy
        have hyb : (y : Int) < 2 ^ k := by omega
        replace hy : t / 10 = (y : Int) := hy.symm
        rw [hy] at hm
        have w48b : IntKind.u64.wrap (m + 48) = m + 48 := by rw [wrap_u64']; omega
        have w48c : IntKind.u8.wrap (m + 48) = m + 48 := by rw [IntKind.wrap_u8']; omega
        have wy : IntKind.u64.wrap (10 * (y : Int)) = 10 * (y : Int) := by rw [wrap_u64']; omega
        have wm : IntKind.u64.wrap (t - 10 * (y : Int)) = m := by rw [← hm, wrap_u64']; omega
        have w6 : IntKind.i64.wrap ((r : Int) + (δ : Int) - 1) = (r : Int) + (δ : Int) - 1 := IntWalk.i64_in _ (by omega)
        have w5 : IntKind.i64.wrap ((r : Int) - 1 - 1) = (r : Int) - 1 - 1 := IntWalk.i64_in _ (by omega)
        clear ht0
        by_cases h800 : r + δ - 1 < 800
        · have cw := hh.out.1.dig (r + δ - 1) h800
          have d8 : decide ((r : Int) + (δ : Int) - 1 < 800) = true := decide_eq_true (by omega)
          have y0 : (0 : Int) ≤ (r : Int) + (δ : Int) - 1 := by omega
          have y1 : (r : Int) + (δ : Int) - 1 < 800 := by omega
          have y2 : ((r : Int) + (δ : Int) - 1).toNat = r + δ - 1 := by omega
          go_wp2_with fail
          go_roundg (r - 1)
          case measure => have := hh.out.2.2.2.2.2.2; omega
          case rel =>
            refine ⟨r - 1, y, putD f2 (r + δ - 1) (m + 48), tr2, by go_num, by go_num, (by first | rfl | rw [HY.out]), by omega, hyb, hh.out.1.setDig _ h800 _, (hh.out.2.1).setCell (p := ⟨g, r + δ - 1, none⟩) (.inl (.head _)) _, fun j hj => ?_, fun j h2 h3 h4 => ?_, ?_, fun h2 h3 => ?_, rfl⟩
            · unfold putD
              rw [if_neg (by omega)]
              exact hh.out.2.2.1 j (by omega)
            · unfold putD
              split
              · omega
              · exact hh.out.2.2.2.1 j (by omega) h3 h4
            · exact HR1.1 y HY.out
            · unfold putD
              rw [if_pos (by omega)]
              have h4 := HR1.2 y HY.out (by omega)
              have h5 := HM.out
              have h6 := HY.out
              omega
        · have d8 : decide ((r : Int) + (δ : Int) - 1 < 800) = false := decide_eq_false (by omega)
          have c803 := hh.out.1.ctr
          by_cases hm1 : m = 0
          · have dm : (m != 0) = false := by simp [hm1]
            go_wp2_with fail
            go_roundg (r - 1)
            case measure => have := hh.out.2.2.2.2.2.2; omega
            case rel =>
              exact ⟨r - 1, y, f2, tr2, by go_num, by go_num, (by first | rfl | rw [HY.out]), by omega, hyb, hh.out.1, hh.out.2.1, (fun j hj => hh.out.2.2.1 j (by omega)), (fun j h2 h3 h4 => hh.out.2.2.2.1 j (by omega) h3 h4), HR1.1 y HY.out, (fun h2 h3 => by omega), rfl⟩
          · have dm : (m != 0) = true := bne_iff_ne.2 hm1
            go_wp2_with fail
            go_roundg (r - 1)
            case measure => have := hh.out.2.2.2.2.2.2; omega
            case rel =>
              exact ⟨r - 1, y, f2, true, by go_num, by go_num, (by first | rfl | rw [HY.out]), by omega, hyb, hh.out.1.setTr true, (hh.out.2.1).setCell (p := ⟨g, 803, none⟩) (.inl (.head _)) _, (fun j hj => hh.out.2.2.1 j (by omega)), (fun j h2 h3 h4 => hh.out.2.2.2.1 j (by omega) h3 h4), HR1.1 y HY.out, (fun h2 h3 => by omega), rfl⟩
end Go.Proofs.YtcnkbdbkglggcaaGreatDoor

namespace Go.Proofs.YtcnkbdbkglggcaaGreatDoor
open Go.RowKit

def Grew (f : Nat → Int) (dp : Int) (f' : Nat → Int) (dp' : Int) : Prop := dp < dp' ∨ dp' = dp ∧ f 0 < f' 0
theorem Grew.trans {f f' f'' : Nat → Int} {dp dp' dp'' : Int} (h : Grew f dp f' dp') (k : Grew f' dp' f'' dp'') : Grew f dp f'' dp'' := by
  unfold Grew at *
  omega
set_option maxHeartbeats 4000000 in
theorem shift_up (w : World) (g : Nat) (f : Nat → Int) (n : Nat) (dp : Int) (ng tr : Bool) (kk : Int) (B b o : Nat) (cap : Nat) (hT : Cht w B b o cap) (hB : B ≤ g) (hb : DB w g f n dp ng tr) (h1 : 1 ≤ n) (h8 : n ≤ 800) (hf : f 0 ≠ 48) (hd : Dg f n) (hk1 : 1 ≤ kk) (hk : kk ≤ 1000000) (hdp : -10000000 ≤ dp) (hdp2 : dp ≤ 10000000) :
    Calls Tryz.prog 109 #[.pointer (some ⟨g, 0, none⟩), .int .i64 kk] w fun e w' => Shf w g ng (fun f' dp' => Grew f dp f' dp' ∧ dp ≤ dp' ∧ dp' ≤ dp + 20 * kk) e w' := by
  have c800 := hb.cnd
  have tf := Blk.frozen hb
  have d0 : ((n : Int) == 0) = false := beq_eq_false_iff_ne.2 (by omega)
  have d0' : (n == 0) = false := beq_eq_false_iff_ne.2 (by omega)
  have d1 : decide (0 < kk) = true := decide_eq_true (by omega)
  obtain ⟨wr0, hwr0⟩ : ∃ x : World, x = w := ⟨_, rfl⟩
  have HS : Hid (DB w g f n dp ng tr ∧ Upd [g] wr0 w ∧ Dg f n ∧ f 0 ≠ 48) := ⟨hb, by rw [hwr0]; exact Upd.refl [g] w, hd, hf⟩
  have HW0 := Lib.hid hwr0
  have HT0 : Hid (Cht wr0 B b o cap) := by rw [hwr0]; exact hT
  clear hb hd hf hwr0 hT
  go_enter Tryz.func109, Tryz.ntmps109
  go_wp2_with fail
  go_loopg [1] kk.toNat (fun gg x1 wr => ∃ (q : Int) (f2 : Nat → Int) (n2 : Nat) (dp2 : Int) (tr2 : Bool), x1 = .int .i64 q ∧ 1 ≤ q ∧ q ≤ kk ∧ 1 ≤ n2 ∧ n2 ≤ 800 ∧ dp ≤ dp2 ∧ dp2 ≤ dp + 20 * (kk - q) ∧ Hid (DB wr g f2 n2 dp2 ng tr2 ∧ Upd [g] wr0 wr ∧ Dg f2 n2 ∧ f2 0 ≠ 48 ∧ (q = kk ∧ f2 = f ∧ dp2 = dp ∨ Grew f dp f2 dp2) ∧ gg = q.toNat))
  case atStart => exact ⟨kk, f, n, dp, tr, rfl, hk1, Int.le_refl _, h1, h8, Int.le_refl _, by omega, HS.out.1, HS.out.2.1, HS.out.2.2.1, HS.out.2.2.2, .inl ⟨rfl, rfl, rfl⟩, rfl⟩
  case round =>
    clear HS c800 tf
    obtain ⟨q, f2, n2, dp2, tr2, rfl, hq1, hqk, hn1, hn8, hp1, hp2, hh⟩ := hrel
    have w1 : IntKind.i64.wrap (q - 60) = q - 60 := IntWalk.i64_in _ (by omega)
    by_cases hq : 60 < q
    · have dq : decide (60 < q) = true := decide_eq_true hq
      go_wp2_with (go_at_call 135; refine (lshift_any _ g f2 n2 dp2 ng tr2 60 B b o cap (HT0.out.upd hB hh.out.2.1) hB hh.out.1 hn1 hn8 hh.out.2.2.2.1 hh.out.2.2.1 (by decide) (by decide) (by omega) (by omega)).mono ?_; rintro e w4 ⟨rfl, f3, n3, dp3, tr3, hm1, hm2, hdb, hdg, hne, hR, hu⟩)
      go_roundg (q - 60).toNat
      case measure => have := hh.out.2.2.2.2.2; omega
      case rel =>
        refine ⟨q - 60, f3, n3, dp3, tr3, rfl, by omega, by omega, hm1, hm2, by omega, by omega, hdb, (hh.out.2.1).trans hu, hdg, hne, .inr ?_, rfl⟩
        rcases hh.out.2.2.2.2.1 with ⟨-, h4, h5⟩ | h4
        · subst h5
          rw [h4] at hR
          exact hR.1
        · exact h4.trans hR.1
    · have dq : decide (60 < q) = false := decide_eq_false hq
      have wq : IntKind.u64.wrap q = q := by rw [wrap_u64']; omega
      obtain ⟨qn, hqn⟩ : ∃ qn : Nat, (qn : Int) = q := ⟨q.toNat, by omega⟩
      subst hqn
      go_wp2_with (go_at_call 135; refine (lshift_any _ g f2 n2 dp2 ng tr2 qn B b o cap (HT0.out.upd hB hh.out.2.1) hB hh.out.1 hn1 hn8 hh.out.2.2.2.1 hh.out.2.2.1 (by omega) (by omega) (by omega) (by omega)).mono ?_; rintro e w4 ⟨rfl, f3, n3, dp3, tr3, hm1, hm2, hdb, hdg, hne, hR, hu⟩)
      go_end0
      refine ⟨rfl, f3, n3, dp3, tr3, hm1, hm2, hdb, hdg, hne, ⟨?_, by omega, by omega⟩, by rw [← HW0.out]; exact (hh.out.2.1).trans hu⟩
      rcases hh.out.2.2.2.2.1 with ⟨-, h4, h5⟩ | h4
      · subst h5
        rw [h4] at hR
        exact hR.1
      · exact h4.trans hR.1
set_option maxHeartbeats 4000000 in
theorem shift_down (w : World) (g : Nat) (f : Nat → Int) (n : Nat) (dp : Int) (ng tr : Bool) (kk : Int) (hb : DB w g f n dp ng tr) (h1 : 1 ≤ n) (h8 : n ≤ 800) (hf : f 0 ≠ 48) (hd : Dg f n) (hk1 : kk ≤ -1) (hk : -1000000 ≤ kk) (hdp : -10000000 ≤ dp) (hdp2 : dp ≤ 10000000) :
    Calls Tryz.prog 109 #[.pointer (some ⟨g, 0, none⟩), .int .i64 kk] w fun e w' => Shf w g ng (fun f' dp' => Grew f' dp' f dp ∧ dp' ≤ dp ∧ dp + 15 * kk - 900 ≤ dp') e w' := by
  have c800 := hb.cnd
  have tf := Blk.frozen hb
  have d0 : ((n : Int) == 0) = false := beq_eq_false_iff_ne.2 (by omega)
  have d0' : (n == 0) = false := beq_eq_false_iff_ne.2 (by omega)
  have d1 : decide (0 < kk) = false := decide_eq_false (by omega)
  have d2 : decide (kk < 0) = true := decide_eq_true (by omega)
  obtain ⟨wr0, hwr0⟩ : ∃ x : World, x = w := ⟨_, rfl⟩
  have HS : Hid (DB w g f n dp ng tr ∧ Upd [g] wr0 w ∧ Dg f n ∧ f 0 ≠ 48) := ⟨hb, by rw [hwr0]; exact Upd.refl [g] w, hd, hf⟩
  have HW0 := Lib.hid hwr0
  clear hb hd hf hwr0
  go_enter Tryz.func109, Tryz.ntmps109
  go_wp2_with fail
  go_loopg [1] (-kk).toNat (fun gg x1 wr => ∃ (q : Int) (f2 : Nat → Int) (n2 : Nat) (dp2 : Int) (tr2 : Bool), x1 = .int .i64 q ∧ q ≤ -1 ∧ kk ≤ q ∧ 1 ≤ n2 ∧ n2 ≤ 800 ∧ dp2 ≤ dp ∧ dp + 15 * (kk - q) ≤ dp2 ∧ Hid (DB wr g f2 n2 dp2 ng tr2 ∧ Upd [g] wr0 wr ∧ Dg f2 n2 ∧ f2 0 ≠ 48 ∧ (q = kk ∧ f2 = f ∧ dp2 = dp ∨ Grew f2 dp2 f dp) ∧ gg = (-q).toNat))
  case atStart => exact ⟨kk, f, n, dp, tr, rfl, hk1, Int.le_refl _, h1, h8, Int.le_refl _, by omega, HS.out.1, HS.out.2.1, HS.out.2.2.1, HS.out.2.2.2, .inl ⟨rfl, rfl, rfl⟩, rfl⟩
  case round =>
    clear HS c800 tf
    obtain ⟨q, f2, n2, dp2, tr2, rfl, hq1, hqk, hn1, hn8, hp1, hp2, hh⟩ := hrel
    have w1 : IntKind.i64.wrap (q + 60) = q + 60 := IntWalk.i64_in _ (by omega)
    have wn : IntKind.i64.wrap (-q) = -q := IntWalk.i64_in _ (by omega)
    by_cases hq : q < -60
    · have dq : decide (q < -60) = true := decide_eq_true hq
      go_wp2_with (go_at_call 136; refine (rshift_any _ g f2 n2 dp2 ng tr2 60 hh.out.1 hn1 hn8 hh.out.2.2.2.1 hh.out.2.2.1 (by decide) (by decide) (by omega) (by omega)).mono ?_; rintro e w4 ⟨rfl, f3, n3, dp3, tr3, hm1, hm2, hdb, hdg, hne, hR, hu⟩)
      have HG : Grew f3 dp3 f2 dp2 := hR.1.imp id (fun h => ⟨h.1.symm, h.2⟩)
      go_roundg (-(q + 60)).toNat
      case measure => have := hh.out.2.2.2.2.2; omega
      case rel =>
        refine ⟨q + 60, f3, n3, dp3, tr3, rfl, by omega, by omega, hm1, hm2, by omega, by omega, hdb, (hh.out.2.1).trans hu, hdg, hne, .inr ?_, rfl⟩
        rcases hh.out.2.2.2.2.1 with ⟨-, h4, h5⟩ | h4
        · subst h5
          rw [h4] at HG
          exact HG
        · exact HG.trans h4
    · have dq : decide (q < -60) = false := decide_eq_false hq
      obtain ⟨qn, rfl⟩ : ∃ qn : Nat, q = -(qn : Int) := ⟨(-q).toNat, by omega⟩
      rw [Int.neg_neg] at wn
      have wq : IntKind.u64.wrap (qn : Int) = qn := by rw [wrap_u64']; omega
      go_wp2_with (go_at_call 136; refine (rshift_any _ g f2 n2 dp2 ng tr2 qn hh.out.1 hn1 hn8 hh.out.2.2.2.1 hh.out.2.2.1 (by omega) (by omega) (by omega) (by omega)).mono ?_; rintro e w4 ⟨rfl, f3, n3, dp3, tr3, hm1, hm2, hdb, hdg, hne, hR, hu⟩)
      have HG : Grew f3 dp3 f2 dp2 := hR.1.imp id (fun h => ⟨h.1.symm, h.2⟩)
      go_end0
      refine ⟨rfl, f3, n3, dp3, tr3, hm1, hm2, hdb, hdg, hne, ⟨?_, by omega, by omega⟩, by rw [← HW0.out]; exact (hh.out.2.1).trans hu⟩
      rcases hh.out.2.2.2.2.1 with ⟨-, h4, h5⟩ | h4
      · subst h5
        rw [h4] at HG
        exact HG
      · exact HG.trans h4
end Go.Proofs.YtcnkbdbkglggcaaGreatDoor

namespace Go.Proofs.YtcnkbdbkglggcaaGreatDoor
open Go.RowKit

/-- As Q; a jump goes on at its label, at most n times. -/
def viaLabels (P : Program) (c : Code) (Q : Exit → Act → World → Prop) : Nat → Exit → Act → World → Prop
  | 0 => fun e a w => match e with
    | .goto _ => False
    | e => Q e a w
  | n + 1 => fun e a w => match e with
    | .goto l => ∃ rest, findLabel c l = some rest ∧ rest.wp P (viaLabels P c Q n) a w
    | e => Q e a w
section
variable {P : Program} {c : Code} {Q : Exit → Act → World → Prop} {a : Act} {w : World}
theorem via_goto {n l : Nat} : viaLabels P c Q (n + 1) (.goto l) a w = ∃ rest, findLabel c l = some rest ∧ rest.wp P (viaLabels P c Q n) a w := rfl
theorem via_ret {n : Nat} : viaLabels P c Q n .ret a w = Q .ret a w := by cases n <;> rfl
theorem via_normal {n : Nat} : viaLabels P c Q n .normal a w = Q .normal a w := by cases n <;> rfl
theorem via_exit {n i : Nat} : viaLabels P c Q n (.exit i) a w = Q (.exit i) a w := by cases n <;> rfl
theorem wp_scope_via (n : Nat) (h : c.wp P (viaLabels P c Q n) a w) : (Code.scope c).wp P Q a w := by
  intro b k cs
  have key : ∀ n (d : Code) a w, d.wp P (viaLabels P c Q n) a w → ∃ e a' w', Q e a' w' ∧ Arrives P (lone (b.at a (.code d :: .inScope c :: k)) cs w) b k cs e a' w' := by
    intro n
    induction n with
    | zero =>
      intro d a w h
      obtain ⟨e, a₁, w₁, hq, harr⟩ := h b (.inScope c :: k) cs
      cases e with
      | normal => exact ⟨.normal, a₁, w₁, hq, Steps.trans harr (.one step_inScope)⟩
      | exit id => exact ⟨.exit id, a₁, w₁, hq, fun k' hk => harr k' (by simp [exitTo, hk])⟩
      | goto l' => exact hq.elim
      | ret => exact ⟨_, a₁, w₁, hq, harr⟩
      | panic ch => exact ⟨_, a₁, w₁, hq, harr⟩
      | outgrown => exact ⟨_, a₁, w₁, hq, harr⟩
    | succ n ih =>
      intro d a w h
      obtain ⟨e, a₁, w₁, hq, harr⟩ := h b (.inScope c :: k) cs
      cases e with
      | normal => exact ⟨.normal, a₁, w₁, hq, Steps.trans harr (.one step_inScope)⟩
      | exit id => exact ⟨.exit id, a₁, w₁, hq, fun k' hk => harr k' (by simp [exitTo, hk])⟩
      | goto l' =>
        obtain ⟨rest, hf, hr⟩ := hq
        obtain ⟨e₂, a₂, w₂, hq₂, harr₂⟩ := ih rest a₁ w₁ hr
        have hg : gotoIn l' (.inScope c :: k) = some (.code rest :: .inScope c :: k) := by simp [gotoIn, hf]
        exact ⟨e₂, a₂, w₂, hq₂, .of_steps (harr _ hg) harr₂⟩
      | ret => exact ⟨_, a₁, w₁, hq, harr⟩
      | panic ch => exact ⟨_, a₁, w₁, hq, harr⟩
      | outgrown => exact ⟨_, a₁, w₁, hq, harr⟩
  obtain ⟨e, a₁, w₁, hq, harr⟩ := key n c a w h
  cases e with
  | normal => exact ⟨.normal, a₁, w₁, hq, .head step_scope harr⟩
  | exit id => exact ⟨.exit id, a₁, w₁, hq, fun k' hk => .head step_scope (harr k' hk)⟩
  | goto l => exact ⟨.goto l, a₁, w₁, hq, fun k' hk => .head step_scope (harr k' hk)⟩
  | ret => exact ⟨_, a₁, w₁, hq, .of_steps (.one step_scope) harr⟩
  | panic ch => exact ⟨_, a₁, w₁, hq, .of_steps (.one step_scope) harr⟩
  | outgrown => exact ⟨_, a₁, w₁, hq, .of_steps (.one step_scope) harr⟩
end

def SomeBool (w : World) (e : Ending) (w' : World) : Prop := (∃ b : Bool, e = .returned (.bool b)) ∧ w' = w
def SomeU64 (w : World) (e : Ending) (w' : World) : Prop := (∃ v : Int, e = .returned (.int .u64 v) ∧ 0 ≤ v ∧ v < 18446744073709551616) ∧ w' = w
theorem u64_range (v : Int) : 0 ≤ IntKind.u64.wrap v ∧ IntKind.u64.wrap v < 18446744073709551616 := by
  rw [wrap_u64']
  omega
set_option maxHeartbeats 2000000 in
theorem round_up (w : World) (g : Nat) (f : Nat → Int) (n : Nat) (dp q : Int) (ng tr : Bool) (hb : DB w g f n dp ng tr) (h8 : n ≤ 800) (hd : Dg f n) (hq : -1000000000 ≤ q) (hq2 : q ≤ 1000000000) :
    Calls Tryz.prog 137 #[.pointer (some ⟨g, 0, none⟩), .int .i64 q] w fun e w' => SomeBool w e w' := by
  have c800 := hb.cnd
  have c803 := hb.ctr
  have HD := Lib.hid hd
  go_enter Tryz.func137, Tryz.ntmps137
  by_cases h1 : q < 0
  · have d1 : decide (q < 0) = true := decide_eq_true h1
    go_wp2_with fail
    go_ret
    exact ⟨⟨_, rfl⟩, rfl⟩
  · have d1 : decide (q < 0) = false := decide_eq_false h1
    obtain ⟨m, rfl⟩ : ∃ m : Nat, q = (m : Int) := ⟨q.toNat, by omega⟩
    by_cases h2 : n ≤ m
    · have d2 : decide ((n : Int) ≤ (m : Int)) = true := decide_eq_true (by omega)
      have d2' : decide (n ≤ m) = true := decide_eq_true h2
      go_wp2_with fail
      go_ret
      exact ⟨⟨_, rfl⟩, rfl⟩
    · have d2 : decide ((n : Int) ≤ (m : Int)) = false := decide_eq_false (by omega)
      have d2' : decide (n ≤ m) = false := decide_eq_false h2
      have cm := hb.dig m (by omega)
      have m8 : m < 800 := by omega
      have w1 : IntKind.i64.wrap ((m : Int) + 1) = (m : Int) + 1 := IntWalk.i64_in _ (by omega)
      by_cases h5 : f m = 53
      · have d5 : (f m == 53) = true := by simp [h5]
        clear h5
        generalize f m = cc at *
        by_cases h6 : (m : Int) + 1 = n
        · have d6 : ((m : Int) + 1 == (n : Int)) = true := beq_iff_eq.2 h6
          cases tr
          · rcases Nat.eq_zero_or_pos m with h0 | h0
            · subst h0
              have d0 : decide ((0 : Int) < ((0 : Nat) : Int)) = false := by decide
              go_wp2_with fail
              go_ret
              exact ⟨⟨_, rfl⟩, rfl⟩
            · have d0 : decide ((0 : Int) < (m : Int)) = true := decide_eq_true (by omega)
              have d0' : decide (0 < m) = true := decide_eq_true h0
              have cm1 := hb.dig (m - 1) (by omega)
              have hdm := HD.out (m - 1) (by omega)
              generalize f (m - 1) = dd at *
              have w2 : IntKind.i64.wrap ((m : Int) - 1) = (m : Int) - 1 := IntWalk.i64_in _ (by omega)
              have z0 : (0 : Int) ≤ (m : Int) - 1 := by omega
              have z1 : (m : Int) - 1 < 800 := by omega
              have z2 : ((m : Int) - 1).toNat = m - 1 := by omega
              have w3 : IntKind.u8.wrap (dd - 48) = dd - 48 := by rw [IntKind.wrap_u8']; omega
              go_wp2_with fail
              go_ret
              exact ⟨⟨_, rfl⟩, rfl⟩
          · go_wp2_with fail
            go_ret
            exact ⟨⟨_, rfl⟩, rfl⟩
        · have d6 : ((m : Int) + 1 == (n : Int)) = false := beq_eq_false_iff_ne.2 h6
          go_wp2_with fail
          go_ret
          exact ⟨⟨_, rfl⟩, rfl⟩
      · have d5 : (f m == 53) = false := beq_eq_false_iff_ne.2 h5
        clear h5
        generalize f m = cc at *
        go_wp2_with fail
        go_ret
        exact ⟨⟨_, rfl⟩, rfl⟩
set_option maxHeartbeats 2000000 in
theorem rounded_any (w : World) (g : Nat) (f : Nat → Int) (n : Nat) (dp : Int) (ng tr : Bool) (hb : DB w g f n dp ng tr) (h8 : n ≤ 800) (hd : Dg f n) (hq : -1000000000 ≤ dp) (hq2 : dp ≤ 1000000000) :
    Calls Tryz.prog 164 #[.pointer (some ⟨g, 0, none⟩)] w fun e w' => SomeU64 w e w' := by
  have c800 := hb.cnd
  have c801 := hb.cdp
  have HD := Lib.hid hd
  have HB := Lib.hid hb
  clear hd hb
  go_enter Tryz.func164, Tryz.ntmps164
  by_cases h20 : 20 < dp
  · have d1 : decide (20 < dp) = true := decide_eq_true h20
    go_wp2_with fail
    go_ret
    exact ⟨⟨_, rfl, by decide, by decide⟩, rfl⟩
  · have d1 : decide (20 < dp) = false := decide_eq_false h20
    go_wp2_with fail
    go_loopg [3, 4] (n) (fun gg x3 x4 wr => ∃ (i : Nat) (v : Int), x3 = .int .i64 (i : Int) ∧ x4 = .int .u64 v ∧ 0 ≤ v ∧ v < 18446744073709551616 ∧ i ≤ n ∧ i ≤ 20 ∧ wr = w ∧ Hid (gg = n - i))
    case atStart => exact ⟨0, 0, rfl, rfl, by decide, by decide, by omega, by omega, rfl, rfl⟩
    case round =>
      obtain ⟨i, v, rfl, rfl, hv0, hv1, hin, hi20, rfl, hh⟩ := hrel
      by_cases hA : (i : Int) < dp
      · have d2 : decide ((i : Int) < dp) = true := decide_eq_true hA
        by_cases hB : i < n
        · have d3 : decide ((i : Int) < (n : Int)) = true := decide_eq_true (by omega)
          have d3' : decide (i < n) = true := decide_eq_true hB
          have ci := HB.out.dig i (by omega)
          have i8 : i < 800 := by omega
          have hdi := HD.out i hB
          obtain ⟨cc, hcc⟩ : ∃ c, c = f i := ⟨_, rfl⟩
          rw [← hcc] at ci hdi
          clear hcc
          have w3 : IntKind.u8.wrap (cc - 48) = cc - 48 := by rw [IntKind.wrap_u8']; omega
          have w3b : IntKind.u64.wrap (cc - 48) = cc - 48 := by rw [wrap_u64']; omega
          have w5 : IntKind.i64.wrap ((i : Int) + 1) = (i : Int) + 1 := IntWalk.i64_in _ (by omega)
          go_wp2_with fail
          go_roundg (n - (i + 1))
          case measure => have := hh.out; omega
          case rel => exact ⟨i + 1, _, by go_num, rfl, (u64_range _).1, (u64_range _).2, by omega, by omega, rfl, rfl⟩
        · have d3 : decide ((i : Int) < (n : Int)) = false := decide_eq_false (by omega)
          have d3' : decide (i < n) = false := decide_eq_false hB
          go_wp2_with fail
          obtain ⟨wo, rfl⟩ : ∃ wo : World, wo = wr := ⟨_, rfl⟩
          go_loopg [3, 4] (20 - i) (fun gg x3 x4 wr2 => ∃ (i2 : Nat) (v2 : Int), x3 = .int .i64 (i2 : Int) ∧ x4 = .int .u64 v2 ∧ 0 ≤ v2 ∧ v2 < 18446744073709551616 ∧ i2 ≤ 20 ∧ wr2 = wo ∧ Hid (gg = 20 - i2))
          case atStart => exact ⟨i, v, rfl, rfl, hv0, hv1, hi20, rfl, rfl⟩
          case round =>
            clear d2 d3 d3'
            obtain ⟨i2, v2, rfl, rfl, hv20, hv21, hi2, rfl, hh2⟩ := hrel
            by_cases hC : (i2 : Int) < dp
            · have d2 : decide ((i2 : Int) < dp) = true := decide_eq_true hC
              have w5 : IntKind.i64.wrap ((i2 : Int) + 1) = (i2 : Int) + 1 := IntWalk.i64_in _ (by omega)
              go_wp2_with fail
              go_roundg (20 - (i2 + 1))
              case measure => have := hh2.out; omega
              case rel => exact ⟨i2 + 1, _, by go_num, rfl, (u64_range _).1, (u64_range _).2, by omega, rfl, rfl⟩
            · have d2 : decide ((i2 : Int) < dp) = false := decide_eq_false hC
              go_wp2_with (go_at_call 137; refine (round_up _ g f n dp dp ng tr HB.out h8 HD.out hq hq2).mono ?_; rintro e w4 ⟨⟨b, rfl⟩, rfl⟩)
              all_goals go_ret
              all_goals first | exact ⟨⟨_, rfl, hv20, hv21⟩, rfl⟩ | exact ⟨⟨_, rfl, (u64_range _).1, (u64_range _).2⟩, rfl⟩
      · have d2 : decide ((i : Int) < dp) = false := decide_eq_false hA
        go_wp2_with fail
        obtain ⟨wo, rfl⟩ : ∃ wo : World, wo = wr := ⟨_, rfl⟩
        go_loopg [3, 4] (20 - i) (fun gg x3 x4 wr2 => ∃ (i2 : Nat) (v2 : Int), x3 = .int .i64 (i2 : Int) ∧ x4 = .int .u64 v2 ∧ 0 ≤ v2 ∧ v2 < 18446744073709551616 ∧ i2 ≤ 20 ∧ wr2 = wo ∧ Hid (gg = 20 - i2))
        case atStart => exact ⟨i, v, rfl, rfl, hv0, hv1, hi20, rfl, rfl⟩
        case round =>
          clear d2
          obtain ⟨i2, v2, rfl, rfl, hv20, hv21, hi2, rfl, hh2⟩ := hrel
          by_cases hC : (i2 : Int) < dp
          · have d2 : decide ((i2 : Int) < dp) = true := decide_eq_true hC
            have w5 : IntKind.i64.wrap ((i2 : Int) + 1) = (i2 : Int) + 1 := IntWalk.i64_in _ (by omega)
            go_wp2_with fail
            go_roundg (20 - (i2 + 1))
            case measure => have := hh2.out; omega
            case rel => exact ⟨i2 + 1, _, by go_num, rfl, (u64_range _).1, (u64_range _).2, by omega, rfl, rfl⟩
          · have d2 : decide ((i2 : Int) < dp) = false := decide_eq_false hC
            go_wp2_with (go_at_call 137; refine (round_up _ g f n dp dp ng tr HB.out h8 HD.out hq hq2).mono ?_; rintro e w4 ⟨⟨b, rfl⟩, rfl⟩)
            all_goals go_ret
            all_goals first | exact ⟨⟨_, rfl, hv20, hv21⟩, rfl⟩ | exact ⟨⟨_, rfl, (u64_range _).1, (u64_range _).2⟩, rfl⟩
end Go.Proofs.YtcnkbdbkglggcaaGreatDoor
