/-
  The program's 'parseSquash' from the bracket of an object or an array: it returns the text up to the bracket that ends it. Condition: what the table of classes of bytes holds.
-/
import Derived.Test.YtcnkbdbkglggcaaGreatDoorZMD
import Derived.Test.YtcnkbdbkglggcaaGreatDoorZMF
namespace Go.Proofs.YtcnkbdbkglggcaaGreatDoor
open Go.RowKit

theorem Fr.intro {v : ByteArray} {a i d : Int} {c p : Value} {L : List Value} (hl : L.length = 230) (h0 : L[0]? = some (.string v)) (h1 : L[1]? = some (.int .i64 i)) (h6 : L[6]? = some (.int .i64 a)) (h7 : L[7]? = some (.int .i64 d)) (h8 : L[8]? = some c) (h10 : L[10]? = some p) (h2 : L[2]? = some undef) (h3 : L[3]? = some undef) (h14 : L[14]? = some (.int .i64 a)) (h15 : L[15]? = some (.int .i64 a)) (h16 : L[16]? = some (.int .i64 (a + 1))) (z6 : L[226]? = some undef) (z7 : L[227]? = some undef) (z8 : L[228]? = some undef) (z9 : L[229]? = some undef) :
    Fr v a i d c p ⟨L.toArray, []⟩ := ⟨rfl, L, hl, rfl, h0, h1, h6, h7, h8, h10, h2, h3, h14, h15, h16, z6, z7, z8, z9⟩
/-- What is known at a label inside a string: q its last quote. -/
def Js (v : ByteArray) (a d : Int) (j q t : Nat) (w0 : World) (n : Nat) (x : Act) (w : World) : Prop :=
  w = w0 ∧ ∃ (i : Nat) (I P : Int) (c : Value), Fr v a I d c (.int .i64 P) x ∧ I = i ∧ P = j + 1 ∧ j + 1 ≤ i ∧ i ≤ q ∧ n = 3 * (q - i) + t ∧ (t = 1 → bt v i = 34)
/-- What is known behind a string: at its last quote, or behind it. -/
def SqOut (v : ByteArray) (a d : Int) (q : Nat) (w0 : World) (e : Exit) (x : Act) (w : World) : Prop :=
  w = w0 ∧ ∃ (I : Int) (c p : Value), Fr v a I d c p x ∧ ((e = .exit 1 ∧ I = (q : Int) + 1) ∨ (e = .normal ∧ I = q))
/-- What is known where a byte of a class has been met. -/
def Tok (v : ByteArray) (a : Int) (k i d : Nat) (w0 : World) (x : Act) (w : World) : Prop :=
  w = w0 ∧ ∃ (j : Nat) (I : Int) (p : Value), Fr v a I d (.int .u8 (vcls (bt v j))) p x ∧ I = j ∧ i ≤ j ∧ vcls (bt v j) ≠ 0 ∧ Sq v k j d
section
variable {P : Program} {Q : Exit → Act → World → Prop} {a : Act} {w : World} {l1 l2 l3 : Nat} {J1 J2 J3 : Nat → Act → World → Prop} {n : Nat}
theorem goto3_1 (m : Nat) (hm : m < n) (h : J1 m a w) : Exit3 l1 l2 l3 J1 J2 J3 n Q (.goto l1) a w := ⟨m, hm, .inl ⟨rfl, h⟩⟩
theorem goto3_2 (m : Nat) (hm : m < n) (h : J2 m a w) : Exit3 l1 l2 l3 J1 J2 J3 n Q (.goto l2) a w := ⟨m, hm, .inr (.inl ⟨rfl, h⟩)⟩
theorem goto3_3 (m : Nat) (hm : m < n) (h : J3 m a w) : Exit3 l1 l2 l3 J1 J2 J3 n Q (.goto l3) a w := ⟨m, hm, .inr (.inr ⟨rfl, h⟩)⟩
theorem then_goto' {K : Act → World → Prop} (l : Nat) : Exit.then K Q (.goto l) a w = Q (.goto l) a w := rfl
theorem inBlock_goto' (i l : Nat) : Exit.inBlock i Q (.goto l) a w = Q (.goto l) a w := rfl
theorem goto_jump {l : Nat} {J : Act → World → Prop} (h : J a w) : Exit.jump l J Q (.goto l) a w := ⟨rfl, h⟩
end
theorem bsl_even_end {v : ByteArray} {j q i : Nat} (h : StrR v j q) (hi : j + 1 ≤ i) (hq : i ≤ q) (h34 : bt v i = 34) (he : bsl v (j + 1) i % 2 = 0) : i = q := by
  rcases Nat.lt_or_ge i q with hl | hg
  · have := h.2.2.2.2 i hi hl h34
    omega
  · omega
theorem bsl_odd_in {v : ByteArray} {j q i : Nat} (h : StrR v j q) (hq : i ≤ q) (he : bsl v (j + 1) i % 2 = 1) : i < q := by
  rcases Nat.lt_or_ge i q with hl | hg
  · exact hl
  · have h1 : i = q := by omega
    subst h1
    have := h.2.2.2.1
    omega
set_option maxRecDepth 100000 in
set_option maxHeartbeats 16000000 in
theorem psquash_any (w : World) (v : ByteArray) (a k : Nat) (hs : v.size ≤ 2 ^ 31) (hq : Sq v k (a + 1) 1) (hV : ∀ x : Int, 0 ≤ x → x < 256 → w.cell? ⟨4, x.toNat, none⟩ = some (.int .u8 (vcls x))) :
    Calls Tryz.prog 86 #[.string v, .int .i64 (a : Int)] w fun e w' => e = .returned (.tuple #[.int .i64 (k + 1 : Nat), .string (v.extract a (k + 1))]) ∧ Upd [] w w' := by
  have hk1 := hq.facts.1
  have hks := hq.facts.2.2
  have HQ := Lib.hid hq
  have HV := Lib.hid hV
  clear hq hV
  go_enter Tryz.func86, Tryz.ntmps86
  go_wp2_with fail
  go_loopg [1, 7] (k + 1 - (a + 1)) (fun g x1 x7 wr => ∃ i d : Nat, x1 = .int .i64 i ∧ x7 = .int .i64 d ∧ i ≤ k ∧ a + d ≤ i ∧ wr = w ∧ Hid (Sq v k i d ∧ g = k + 1 - i))
  case atStart => exact ⟨a + 1, 1, by go_num, rfl, hk1, Nat.le_refl _, rfl, HQ.out, rfl⟩
  case round =>
    obtain ⟨i, d, rfl, rfl, hik, had, rfl, hh⟩ := hrel
    have hil : i < v.size := by omega
    go_wp2_with fail
    refine wp_scope_mid 0 (Tok v a k i d wr) rfl ?pass ?first
    case pass =>
      clear u4 u5 u8 u9 u10 u11 u12 u13 u17 u18 u19 u20 u21 u22 u23 u24 u25 u26 u27 u28 u29 u30 u31 u32 u33 u34 u35 u36 u37 u38 u39 u40 u41 u42 u43 u44 u45 u46 u47 u48 u49 u50 u51 u52 u53 u54 u55 u56 u57 u58 u59 u60 u61 u62 u63 u64 u65 u66 u67 u68 u69 u70 u71 u72 u73 u74 u75 u76 u77 u78 u79 u80 u81 u82 u83 u84 u85 u86 u87 u88 u89 u90 u91 u92 u93 u94 u95 u96 u97 u98 u99 u100 u101 u102 u103 u104 u105 u106 u107 u108 u109 u110 u111 u112 u113 u114 u115 u116 u117 u118 u119 u120 u121 u122 u123 u124 u125 u126 u127 u128 u129 u130 u131 u132 u133 u134 u135 u136 u137 u138 u139 u140 u141 u142 u143 u144 u145 u146 u147 u148 u149 u150 u151 u152 u153 u154 u155 u156 u157 u158 u159 u160 u161 u162 u163 u164 u165 u166 u167 u168 u169 u170 u171 u172 u173 u174 u175 u176 u177 u178 u179 u180 u181 u182 u183 u184 u185 u186 u187 u188 u189 u190 u191 u192 u193 u194 u195 u196 u197 u198 u199 u200 u201 u202 u203 u204 u205 u206 u207 u208 u209 u210 u211 u212 u213 u214 u215 u216 u217 u218 u219 u220 u221 u222 u223 u224 u225
      intro x w0 hT
      obtain ⟨rfl, j, I, p0, hF, rfl, hij, hne, hSq⟩ := hT
      obtain ⟨f, rfl⟩ := hF.open_
      clear hF
      have hjk := hSq.facts.1
      have hks := hSq.facts.2.2
      have r1 : IntKind.i64.wrap ((j : Int) + 1) = (j : Int) + 1 := IntWalk.i64_in _ (by omega)
      rcases vcls_cases (bt v j) with ⟨hc, hcl⟩ | ⟨hc, hcl⟩ | ⟨hc, hcl⟩ | ⟨hc, hcl⟩
      · obtain ⟨q, hD, hSq2⟩ := hSq.quote hc
        have hq2 := hSq2.facts.1
        have hqj : j + 1 ≤ q := hD.2.2.1
        have HD := Lib.hid hD
        have HSQ := Lib.hid hSq2
        rw [hcl]
        clear hcl hc hne hSq hSq2 hD
        go_wp2_with fail
        refine wp_mono (Q := SqOut v a d q w0) ?str ?after
        case after =>
          intro e x w1 hout
          obtain ⟨rfl, I, c, p, hF, h⟩ := hout
          obtain ⟨f2, rfl⟩ := hF.open_
          clear hF
          have rq : IntKind.i64.wrap ((q : Int) + 1) = (q : Int) + 1 := IntWalk.i64_in _ (by omega)
          rcases h with ⟨rfl, rfl⟩ | ⟨rfl, rfl⟩
          all_goals
            go_wp2_with fail
            first | rw [Exit.noGoto_normal] | rw [Exit.noGoto_exit]
            go_wp2_with fail
            go_roundg (k + 1 - (q + 1))
            case measure => have := hh.out.2; omega
            case rel => exact ⟨q + 1, d, by go_num, rfl, by omega, by omega, rfl, HSQ.out, rfl⟩
        case str =>
          refine wp_scope_three (l1 := 2) (l2 := 1) (l3 := 3) (J1 := Js v a d j q 2 w0) (J2 := Js v a d j q 1 w0) (J3 := Js v a d j q 0 w0) (3 * (q - (j + 1)) + 3) rfl rfl rfl ?p3 ?p2 ?p1 ?entry
          case p3 =>
            intro n x w' hJ
            obtain ⟨rfl, i0, I, P, c, hF, rfl, hP, hpi0, hiq0, hn, -⟩ := hJ
            obtain ⟨f, rfl⟩ := hF.open_
            clear hF
            have wP : IntKind.i64.wrap (P - 1) = (j : Int) := by rw [hP, show (j : Int) + 1 - 1 = j by omega]; exact IntWalk.i64_in _ (by omega)
            have HP := Lib.hid hP
            have HN := Lib.hid hn
            clear hP hn
            go_wp2_with fail
            go_loopg [1] (q - i0) (fun g x1 wr => ∃ i : Nat, j + 1 ≤ i ∧ i ≤ q ∧ i0 ≤ i ∧ x1 = .int .i64 i ∧ wr = w' ∧ Hid (g = q - i))
            case atStart => exact ⟨i0, hpi0, hiq0, Nat.le_refl _, rfl, rfl, rfl⟩
            case round =>
              obtain ⟨i, hpi, hiq, hi0, rfl, rfl, hh⟩ := hrel
              have hil : i < v.size := by omega
              have HB := Lib.hid (bt_lt hil)
              by_cases c34 : (v[i].toNat : Int) = 34
              · have C34 : Hid (bt v i = 34) := by rw [← HB.out]; exact c34
                have d1 : decide (92 < (v[i].toNat : Int)) = false := decide_eq_false (by omega)
                have d2 : ((v[i].toNat : Int) != 34) = false := by simpa using c34
                clear c34
                have x1 : ∀ w, (Instr.index 9 (.string v) (.int .i64 ((i : Int) - 1))).run Tryz.prog w = .ok (.int .u8 (bt v (i - 1))) w := fun w => idx_nat v _ (i - 1) (by omega) (by omega) w
                by_cases c92 : bt v (i - 1) = 92
                · have d3 : (bt v (i - 1) == 92) = true := beq_iff_eq.2 c92
                  have d3' : decide (bt v (i - 1) = 92) = true := decide_eq_true c92
                  have hpi1 : j + 2 ≤ i := by
                    rcases Nat.eq_or_lt_of_le hpi with h3 | h3
                    · rw [← h3, Nat.add_sub_cancel] at c92
                      have := HD.out.1
                      omega
                    · omega
                  have HBL : Hid (bsl v (j + 1) i = bsl v (j + 1) (i - 1) + 1) := by
                    have := bsl_yes (s := v) (p := j + 1) (q := i - 1) (by omega) c92
                    rw [show i - 1 + 1 = i by omega] at this
                    exact this
                  clear c92
                  go_wp2_with fail
                  clear x1 d1 d2 d3 d3'
                  obtain ⟨wo2, rfl⟩ : ∃ wo2 : World, wo2 = wr := ⟨_, rfl⟩
                  go_loopg [12, 13] (i - 2) (fun g x5 x6 wr3 => ∃ n x : Nat, x + 2 ≤ i ∧ j ≤ x ∧ x5 = .int .i64 n ∧ x6 = .int .i64 x ∧ wr3 = wo2 ∧ n ≤ i ∧ Hid (g = x ∧ n + bsl v (j + 1) (x + 1) = bsl v (j + 1) (i - 1)))
                  case atStart => exact ⟨0, i - 2, by omega, by omega, rfl, by go_num, rfl, by omega, rfl, by rw [show i - 2 + 1 = i - 1 by omega, Nat.zero_add]⟩
                  case round =>
                    obtain ⟨n2, x, hx2, hjx, rfl, rfl, rfl, hnj, hh3⟩ := hrel
                    by_cases hx0 : j < x
                    · have dj : decide (j < x) = true := decide_eq_true hx0
                      have dj' : decide ((j : Int) < (x : Int)) = true := decide_eq_true (by omega)
                      have hxl : x < v.size := by omega
                      have HB3 := Lib.hid (bt_lt hxl)
                      by_cases cx : (v[x].toNat : Int) = 92
                      · have e1 : ((v[x].toNat : Int) != 92) = false := by simpa using cx
                        have HX : Hid (bsl v (j + 1) (x + 1) = bsl v (j + 1) x + 1) := bsl_yes (by omega) (by rw [← HB3.out]; exact cx)
                        have HN2 : Hid (n2 + 1 ≤ i) := by
                          have h1 := hh3.out.2
                          have h2 := HX.out
                          have h3 : bsl v (j + 1) (i - 1) ≤ i - 1 := bsl_le
                          show n2 + 1 ≤ i
                          omega
                        clear cx
                        go_wp2_with fail
                        go_roundg (x - 1)
                        case measure => have := hh3.out.1; omega
                        case rel => exact ⟨n2 + 1, x - 1, by omega, by omega, by go_num, by go_num, rfl, HN2.out, rfl, by have h1 := hh3.out.2; have h2 := HX.out; rw [show x - 1 + 1 = x by omega]; omega⟩
                      · have e1 : ((v[x].toNat : Int) != 92) = true := by simpa using cx
                        have HBJ : Hid (bsl v (j + 1) i = n2 + 1) := by
                          have h1 : bsl v (j + 1) (x + 1) = 0 := bsl_no (by rw [← HB3.out]; exact cx)
                          have h2 := hh3.out.2
                          have h3 := HBL.out
                          show bsl v (j + 1) i = n2 + 1
                          omega
                        clear cx
                        by_cases ev : n2 % 2 = 0
                        · have q1 : (n2 : Int).tmod 2 = 0 := by rw [Int.tmod_eq_emod_of_nonneg (by omega)]; omega
                          have hjk : i < q := bsl_odd_in HD.out hiq (by have h2 := HBJ.out; omega)
                          have HJK := Lib.hid hjk
                          clear hjk ev
                          go_wp2_with fail
                          go_step3
                          repeat (first | rw [then_goto'] | rw [inBlock_goto'])
                          exact goto3_1 (3 * (q - (i + 1)) + 2) (by have := HJK.out; have := HN.out; omega) ⟨rfl, i + 1, _, _, _, Fr.intro rfl rfl rfl rfl rfl rfl rfl rfl rfl rfl rfl rfl rfl rfl rfl rfl, by omega, HP.out, by omega, HJK.out, rfl, fun h => absurd h (by decide)⟩
                        · have q1 : (n2 : Int).tmod 2 = 1 := by rw [Int.tmod_eq_emod_of_nonneg (by omega)]; omega
                          have hjk : i = q := bsl_even_end HD.out hpi hiq C34.out (by have h2 := HBJ.out; omega)
                          have HJK := Lib.hid hjk
                          clear hjk ev
                          go_wp2_with fail
                          exact ⟨rfl, _, _, _, Fr.intro rfl rfl rfl rfl rfl rfl rfl rfl rfl rfl rfl rfl rfl rfl rfl rfl, .inr ⟨rfl, by rw [HJK.out]⟩⟩
                    · have hx00 : x = j := by omega
                      have dj : decide (j < x) = false := decide_eq_false hx0
                      have dj' : decide ((j : Int) < (x : Int)) = false := decide_eq_false (by omega)
                      have HBJ : Hid (bsl v (j + 1) i = n2 + 1) := by
                        have h1 : bsl v (j + 1) (x + 1) = 0 := bsl_low (by omega)
                        have h2 := hh3.out.2
                        have h3 := HBL.out
                        show bsl v (j + 1) i = n2 + 1
                        omega
                      clear hx00
                      by_cases ev : n2 % 2 = 0
                      · have q1 : (n2 : Int).tmod 2 = 0 := by rw [Int.tmod_eq_emod_of_nonneg (by omega)]; omega
                        have hjk : i < q := bsl_odd_in HD.out hiq (by have h2 := HBJ.out; omega)
                        have HJK := Lib.hid hjk
                        clear hjk ev
                        go_wp2_with fail
                        go_step3
                        repeat (first | rw [then_goto'] | rw [inBlock_goto'])
                        exact goto3_1 (3 * (q - (i + 1)) + 2) (by have := HJK.out; have := HN.out; omega) ⟨rfl, i + 1, _, _, _, Fr.intro rfl rfl rfl rfl rfl rfl rfl rfl rfl rfl rfl rfl rfl rfl rfl rfl, by omega, HP.out, by omega, HJK.out, rfl, fun h => absurd h (by decide)⟩
                      · have q1 : (n2 : Int).tmod 2 = 1 := by rw [Int.tmod_eq_emod_of_nonneg (by omega)]; omega
                        have hjk : i = q := bsl_even_end HD.out hpi hiq C34.out (by have h2 := HBJ.out; omega)
                        have HJK := Lib.hid hjk
                        clear hjk ev
                        go_wp2_with fail
                        exact ⟨rfl, _, _, _, Fr.intro rfl rfl rfl rfl rfl rfl rfl rfl rfl rfl rfl rfl rfl rfl rfl rfl, .inr ⟨rfl, by rw [HJK.out]⟩⟩
                · have d3 : (bt v (i - 1) == 92) = false := beq_eq_false_iff_ne.2 c92
                  have d3' : decide (bt v (i - 1) = 92) = false := decide_eq_false c92
                  have HBL : Hid (bsl v (j + 1) i = 0) := by
                    have := bsl_no (s := v) (p := j + 1) (q := i - 1) c92
                    rw [show i - 1 + 1 = i by omega] at this
                    exact this
                  clear c92
                  have hjk : i = q := bsl_even_end HD.out hpi hiq C34.out (by rw [HBL.out])
                  have HJK := Lib.hid hjk
                  clear hjk
                  go_wp2_with fail
                  exact ⟨rfl, _, _, _, Fr.intro rfl rfl rfl rfl rfl rfl rfl rfl rfl rfl rfl rfl rfl rfl rfl rfl, .inr ⟨rfl, by rw [HJK.out]⟩⟩
              · have hjk2 : i < q := by
                  rcases Nat.lt_or_ge i q with hl | hg
                  · exact hl
                  · have h1 : i = q := by omega
                    subst h1
                    exact absurd (HB.out.trans HD.out.2.1) c34
                have d2 : ((v[i].toNat : Int) != 34) = true := by simpa using c34
                clear c34
                by_cases cg : 92 < (v[i].toNat : Int)
                all_goals
                  go_wp2_with fail
                  go_roundg (q - (i + 1))
                  case measure => have := hh.out; omega
                  case rel => exact ⟨i + 1, by omega, by omega, by omega, by go_num, rfl, rfl⟩
          case p2 =>
            intro hS n x w' hJ
            obtain ⟨rfl, i, I, P, c, hF, rfl, hP, hpi, hiq, hn, h34⟩ := hJ
            obtain ⟨f, rfl⟩ := hF.open_
            clear hF
            have C34 := Lib.hid (h34 rfl)
            have HP := Lib.hid hP
            have HN := Lib.hid hn
            have HS3 := Lib.hid hS
            clear hP hn h34 hS
            have x1 : ∀ w, (Instr.index 9 (.string v) (.int .i64 ((i : Int) - 1))).run Tryz.prog w = .ok (.int .u8 (bt v (i - 1))) w := fun w => idx_nat v _ (i - 1) (by omega) (by omega) w
            by_cases c92 : bt v (i - 1) = 92
            · have d3 : (bt v (i - 1) != 92) = false := by simpa using c92
              have d3' : decide (bt v (i - 1) = 92) = true := decide_eq_true c92
              clear c92
              go_wp2_with fail
              go_step3
              go_step
              go_step
              refine wp_mono (HS3.out (n - 1) _ _ ?_) (exit3_mono (by omega))
              exact ⟨rfl, i, _, _, _, Fr.intro rfl rfl rfl rfl rfl rfl rfl rfl rfl rfl rfl rfl rfl rfl rfl rfl, rfl, HP.out, hpi, hiq, by have := HN.out; omega, fun h => absurd h (by decide)⟩
            · have d3 : (bt v (i - 1) != 92) = true := by simpa using c92
              have d3' : decide (bt v (i - 1) = 92) = false := decide_eq_false c92
              have hjk : i = q := bsl_even_end HD.out hpi hiq C34.out (by
                have := bsl_no (s := v) (p := j + 1) (q := i - 1) c92
                rw [show i - 1 + 1 = i by omega] at this
                rw [this])
              have HJK := Lib.hid hjk
              clear hjk c92
              go_wp2_with fail
              exact ⟨rfl, _, _, _, Fr.intro rfl rfl rfl rfl rfl rfl rfl rfl rfl rfl rfl rfl rfl rfl rfl rfl, .inl ⟨rfl, by rw [HJK.out]⟩⟩
          case p1 =>
            intro n x w' hJ
            obtain ⟨rfl, i0, I, P, c, hF, rfl, hP, hpi0, hiq0, hn, -⟩ := hJ
            obtain ⟨f, rfl⟩ := hF.open_
            clear hF
            have HP := Lib.hid hP
            have HN := Lib.hid hn
            clear hP hn
            go_wp2_with fail
            go_loopg [1] (q - i0) (fun g x1 wr => ∃ i : Nat, j + 1 ≤ i ∧ i ≤ q ∧ i0 ≤ i ∧ x1 = .int .i64 i ∧ wr = w' ∧ Hid (g = q - i))
            case atStart => exact ⟨i0, hpi0, hiq0, Nat.le_refl _, rfl, rfl, rfl⟩
            case round =>
              obtain ⟨i, hpi, hiq, hi0, rfl, rfl, hh⟩ := hrel
              have w8 : IntKind.i64.wrap ((v.size : Int) - 8) = (v.size : Int) - 8 := IntWalk.i64_in _ (by omega)
              by_cases h8 : (i : Int) < (v.size : Int) - 8
              · have d8 : decide ((i : Int) < (v.size : Int) - 8) = true := decide_eq_true h8
                have hi8 : i + 8 ≤ v.size := by omega
                obtain ⟨J8, hJ8⟩ : ∃ J, J = v.extract i (i + 8) := ⟨_, rfl⟩
                have ys : ∀ w, (Instr.slice 9 (.string v) (some (.int .i64 (i : Int))) (some (.int .i64 ((i : Int) + 8))) none).run Tryz.prog w = .ok (.string J8) w := fun w => by rw [hJ8]; exact cut_two v i (i + 8) _ _ rfl (by omega) (by omega) hi8 w
                have HX8 : Hid (∀ t : Nat, t < 8 → ∀ w, (Instr.index 9 (.string J8) (.int .i64 (t : Int))).run Tryz.prog w = .ok (.int .u8 (bt v (i + t))) w) := fun t ht w => by
                  have hz : J8.size = 8 := by rw [hJ8]; simp only [ByteArray.size_extract]; omega
                  rw [idx_nat J8 _ t rfl (by omega) w, hJ8, bt_extract (by omega) hi8]
                have r8 : IntKind.i64.wrap ((i : Int) + 8) = (i : Int) + 8 := IntWalk.i64_in _ (by omega)
                clear hJ8 h8
                have hq0 : i + 0 ≤ q := hiq
                obtain ⟨c0, hc0⟩ : ∃ c, c = bt v (i + 0) := ⟨_, rfl⟩
                have y0 : ∀ w, (Instr.index 9 (.string J8) (.int .i64 0)).run Tryz.prog w = .ok (.int .u8 c0) w := fun w => by rw [hc0]; exact HX8.out 0 (by decide) w
                by_cases g0 : c0 = 34
                · have e0 : (c0 == 34) = true := beq_iff_eq.2 g0
                  have e0' : decide (c0 = 34) = true := decide_eq_true g0
                  have C34 : Hid (bt v (i + 0) = 34) := by rw [← hc0]; exact g0
                  clear g0 hc0 HX8
                  go_wp2_with fail
                  go_step3
                  repeat (first | rw [then_goto'] | rw [inBlock_goto'])
                  exact goto3_2 (3 * (q - (i + 0)) + 1) (by have := HN.out; omega) ⟨rfl, i + 0, _, _, _, Fr.intro rfl rfl rfl rfl rfl rfl rfl rfl rfl rfl rfl rfl rfl rfl rfl rfl, by omega, HP.out, by omega, hq0, rfl, fun _ => C34.out⟩
                · have e0 : (c0 == 34) = false := beq_eq_false_iff_ne.2 g0
                  have e0' : decide (c0 = 34) = false := decide_eq_false g0
                  have hq1 : i + 1 ≤ q := by
                    rcases Nat.eq_or_lt_of_le hq0 with h1 | h1
                    · rw [hc0, h1] at g0
                      exact absurd HD.out.2.1 g0
                    · omega
                  clear g0 hc0
                  obtain ⟨c1, hc1⟩ : ∃ c, c = bt v (i + 1) := ⟨_, rfl⟩
                  have y1 : ∀ w, (Instr.index 9 (.string J8) (.int .i64 1)).run Tryz.prog w = .ok (.int .u8 c1) w := fun w => by rw [hc1]; exact HX8.out 1 (by decide) w
                  by_cases g1 : c1 = 34
                  · have e1 : (c1 == 34) = true := beq_iff_eq.2 g1
                    have e1' : decide (c1 = 34) = true := decide_eq_true g1
                    have C34 : Hid (bt v (i + 1) = 34) := by rw [← hc1]; exact g1
                    clear g1 hc1 HX8
                    go_wp2_with fail
                    go_step3
                    repeat (first | rw [then_goto'] | rw [inBlock_goto'])
                    exact goto3_2 (3 * (q - (i + 1)) + 1) (by have := HN.out; omega) ⟨rfl, i + 1, _, _, _, Fr.intro rfl rfl rfl rfl rfl rfl rfl rfl rfl rfl rfl rfl rfl rfl rfl rfl, by omega, HP.out, by omega, hq1, rfl, fun _ => C34.out⟩
                  · have e1 : (c1 == 34) = false := beq_eq_false_iff_ne.2 g1
                    have e1' : decide (c1 = 34) = false := decide_eq_false g1
                    have hq2 : i + 2 ≤ q := by
                      rcases Nat.eq_or_lt_of_le hq1 with h1 | h1
                      · rw [hc1, h1] at g1
                        exact absurd HD.out.2.1 g1
                      · omega
                    clear g1 hc1
                    obtain ⟨c2, hc2⟩ : ∃ c, c = bt v (i + 2) := ⟨_, rfl⟩
                    have y2 : ∀ w, (Instr.index 9 (.string J8) (.int .i64 2)).run Tryz.prog w = .ok (.int .u8 c2) w := fun w => by rw [hc2]; exact HX8.out 2 (by decide) w
                    by_cases g2 : c2 = 34
                    · have e2 : (c2 == 34) = true := beq_iff_eq.2 g2
                      have e2' : decide (c2 = 34) = true := decide_eq_true g2
                      have C34 : Hid (bt v (i + 2) = 34) := by rw [← hc2]; exact g2
                      clear g2 hc2 HX8
                      go_wp2_with fail
                      go_step3
                      repeat (first | rw [then_goto'] | rw [inBlock_goto'])
                      exact goto3_2 (3 * (q - (i + 2)) + 1) (by have := HN.out; omega) ⟨rfl, i + 2, _, _, _, Fr.intro rfl rfl rfl rfl rfl rfl rfl rfl rfl rfl rfl rfl rfl rfl rfl rfl, by omega, HP.out, by omega, hq2, rfl, fun _ => C34.out⟩
                    · have e2 : (c2 == 34) = false := beq_eq_false_iff_ne.2 g2
                      have e2' : decide (c2 = 34) = false := decide_eq_false g2
                      have hq3 : i + 3 ≤ q := by
                        rcases Nat.eq_or_lt_of_le hq2 with h1 | h1
                        · rw [hc2, h1] at g2
                          exact absurd HD.out.2.1 g2
                        · omega
                      clear g2 hc2
                      obtain ⟨c3, hc3⟩ : ∃ c, c = bt v (i + 3) := ⟨_, rfl⟩
                      have y3 : ∀ w, (Instr.index 9 (.string J8) (.int .i64 3)).run Tryz.prog w = .ok (.int .u8 c3) w := fun w => by rw [hc3]; exact HX8.out 3 (by decide) w
                      by_cases g3 : c3 = 34
                      · have e3 : (c3 == 34) = true := beq_iff_eq.2 g3
                        have e3' : decide (c3 = 34) = true := decide_eq_true g3
                        have C34 : Hid (bt v (i + 3) = 34) := by rw [← hc3]; exact g3
                        clear g3 hc3 HX8
                        go_wp2_with fail
                        go_step3
                        repeat (first | rw [then_goto'] | rw [inBlock_goto'])
                        exact goto3_2 (3 * (q - (i + 3)) + 1) (by have := HN.out; omega) ⟨rfl, i + 3, _, _, _, Fr.intro rfl rfl rfl rfl rfl rfl rfl rfl rfl rfl rfl rfl rfl rfl rfl rfl, by omega, HP.out, by omega, hq3, rfl, fun _ => C34.out⟩
                      · have e3 : (c3 == 34) = false := beq_eq_false_iff_ne.2 g3
                        have e3' : decide (c3 = 34) = false := decide_eq_false g3
                        have hq4 : i + 4 ≤ q := by
                          rcases Nat.eq_or_lt_of_le hq3 with h1 | h1
                          · rw [hc3, h1] at g3
                            exact absurd HD.out.2.1 g3
                          · omega
                        clear g3 hc3
                        obtain ⟨c4, hc4⟩ : ∃ c, c = bt v (i + 4) := ⟨_, rfl⟩
                        have y4 : ∀ w, (Instr.index 9 (.string J8) (.int .i64 4)).run Tryz.prog w = .ok (.int .u8 c4) w := fun w => by rw [hc4]; exact HX8.out 4 (by decide) w
                        by_cases g4 : c4 = 34
                        · have e4 : (c4 == 34) = true := beq_iff_eq.2 g4
                          have e4' : decide (c4 = 34) = true := decide_eq_true g4
                          have C34 : Hid (bt v (i + 4) = 34) := by rw [← hc4]; exact g4
                          clear g4 hc4 HX8
                          go_wp2_with fail
                          go_step3
                          repeat (first | rw [then_goto'] | rw [inBlock_goto'])
                          exact goto3_2 (3 * (q - (i + 4)) + 1) (by have := HN.out; omega) ⟨rfl, i + 4, _, _, _, Fr.intro rfl rfl rfl rfl rfl rfl rfl rfl rfl rfl rfl rfl rfl rfl rfl rfl, by omega, HP.out, by omega, hq4, rfl, fun _ => C34.out⟩
                        · have e4 : (c4 == 34) = false := beq_eq_false_iff_ne.2 g4
                          have e4' : decide (c4 = 34) = false := decide_eq_false g4
                          have hq5 : i + 5 ≤ q := by
                            rcases Nat.eq_or_lt_of_le hq4 with h1 | h1
                            · rw [hc4, h1] at g4
                              exact absurd HD.out.2.1 g4
                            · omega
                          clear g4 hc4
                          obtain ⟨c5, hc5⟩ : ∃ c, c = bt v (i + 5) := ⟨_, rfl⟩
                          have y5 : ∀ w, (Instr.index 9 (.string J8) (.int .i64 5)).run Tryz.prog w = .ok (.int .u8 c5) w := fun w => by rw [hc5]; exact HX8.out 5 (by decide) w
                          by_cases g5 : c5 = 34
                          · have e5 : (c5 == 34) = true := beq_iff_eq.2 g5
                            have e5' : decide (c5 = 34) = true := decide_eq_true g5
                            have C34 : Hid (bt v (i + 5) = 34) := by rw [← hc5]; exact g5
                            clear g5 hc5 HX8
                            go_wp2_with fail
                            go_step3
                            repeat (first | rw [then_goto'] | rw [inBlock_goto'])
                            exact goto3_2 (3 * (q - (i + 5)) + 1) (by have := HN.out; omega) ⟨rfl, i + 5, _, _, _, Fr.intro rfl rfl rfl rfl rfl rfl rfl rfl rfl rfl rfl rfl rfl rfl rfl rfl, by omega, HP.out, by omega, hq5, rfl, fun _ => C34.out⟩
                          · have e5 : (c5 == 34) = false := beq_eq_false_iff_ne.2 g5
                            have e5' : decide (c5 = 34) = false := decide_eq_false g5
                            have hq6 : i + 6 ≤ q := by
                              rcases Nat.eq_or_lt_of_le hq5 with h1 | h1
                              · rw [hc5, h1] at g5
                                exact absurd HD.out.2.1 g5
                              · omega
                            clear g5 hc5
                            obtain ⟨c6, hc6⟩ : ∃ c, c = bt v (i + 6) := ⟨_, rfl⟩
                            have y6 : ∀ w, (Instr.index 9 (.string J8) (.int .i64 6)).run Tryz.prog w = .ok (.int .u8 c6) w := fun w => by rw [hc6]; exact HX8.out 6 (by decide) w
                            by_cases g6 : c6 = 34
                            · have e6 : (c6 == 34) = true := beq_iff_eq.2 g6
                              have e6' : decide (c6 = 34) = true := decide_eq_true g6
                              have C34 : Hid (bt v (i + 6) = 34) := by rw [← hc6]; exact g6
                              clear g6 hc6 HX8
                              go_wp2_with fail
                              go_step3
                              repeat (first | rw [then_goto'] | rw [inBlock_goto'])
                              exact goto3_2 (3 * (q - (i + 6)) + 1) (by have := HN.out; omega) ⟨rfl, i + 6, _, _, _, Fr.intro rfl rfl rfl rfl rfl rfl rfl rfl rfl rfl rfl rfl rfl rfl rfl rfl, by omega, HP.out, by omega, hq6, rfl, fun _ => C34.out⟩
                            · have e6 : (c6 == 34) = false := beq_eq_false_iff_ne.2 g6
                              have e6' : decide (c6 = 34) = false := decide_eq_false g6
                              have hq7 : i + 7 ≤ q := by
                                rcases Nat.eq_or_lt_of_le hq6 with h1 | h1
                                · rw [hc6, h1] at g6
                                  exact absurd HD.out.2.1 g6
                                · omega
                              clear g6 hc6
                              obtain ⟨c7, hc7⟩ : ∃ c, c = bt v (i + 7) := ⟨_, rfl⟩
                              have y7 : ∀ w, (Instr.index 9 (.string J8) (.int .i64 7)).run Tryz.prog w = .ok (.int .u8 c7) w := fun w => by rw [hc7]; exact HX8.out 7 (by decide) w
                              by_cases g7 : c7 = 34
                              · have e7 : (c7 == 34) = true := beq_iff_eq.2 g7
                                have e7' : decide (c7 = 34) = true := decide_eq_true g7
                                have C34 : Hid (bt v (i + 7) = 34) := by rw [← hc7]; exact g7
                                clear g7 hc7 HX8
                                go_wp2_with fail
                                go_step3
                                repeat (first | rw [then_goto'] | rw [inBlock_goto'])
                                exact goto3_2 (3 * (q - (i + 7)) + 1) (by have := HN.out; omega) ⟨rfl, i + 7, _, _, _, Fr.intro rfl rfl rfl rfl rfl rfl rfl rfl rfl rfl rfl rfl rfl rfl rfl rfl, by omega, HP.out, by omega, hq7, rfl, fun _ => C34.out⟩
                              · have e7 : (c7 == 34) = false := beq_eq_false_iff_ne.2 g7
                                have e7' : decide (c7 = 34) = false := decide_eq_false g7
                                have hq8 : i + 8 ≤ q := by
                                  rcases Nat.eq_or_lt_of_le hq7 with h1 | h1
                                  · rw [hc7, h1] at g7
                                    exact absurd HD.out.2.1 g7
                                  · omega
                                clear g7 hc7
                                have hn8 : i + 8 ≤ q := by omega
                                have HN8 := Lib.hid hn8
                                clear hn8
                                go_wp2_with fail
                                go_roundg (q - (i + 8))
                                case measure => have := hh.out; have := HN8.out; omega
                                case rel => exact ⟨i + 8, by omega, HN8.out, by omega, by go_num, rfl, rfl⟩
              · have d8 : decide ((i : Int) < (v.size : Int) - 8) = false := decide_eq_false h8
                clear h8
                go_wp2_with fail
                go_step3
                repeat (first | rw [then_goto'] | rw [inBlock_goto'])
                exact goto3_3 (3 * (q - i) + 0) (by have := HN.out; omega) ⟨rfl, i, _, _, _, Fr.intro rfl rfl rfl rfl rfl rfl rfl rfl rfl rfl rfl rfl rfl rfl rfl rfl, rfl, HP.out, hpi, hiq, rfl, fun h => absurd h (by decide)⟩
          case entry =>
            intro hN
            go_wp2_with fail
            go_step3
            go_step
            go_step
            refine wp_mono (hN (3 * (q - (j + 1)) + 2) _ _ ?_) (exit3_mono (by omega))
            exact ⟨rfl, j + 1, _, _, _, Fr.intro rfl rfl rfl rfl rfl rfl rfl rfl rfl rfl rfl rfl rfl rfl rfl rfl, by omega, rfl, Nat.le_refl _, HD.out.2.2.1, rfl, fun h => absurd h (by decide)⟩
      · have hSq2 := hSq.open_ hcl
        have hjk2 := hSq2.facts.1
        have HSQ := Lib.hid hSq2
        have rd : IntKind.i64.wrap ((d : Int) + 1) = (d : Int) + 1 := IntWalk.i64_in _ (by omega)
        have d0 : ((d : Int) + 1 == 0) = false := beq_eq_false_iff_ne.2 (by omega)
        have d0' : decide ((d : Int) + 1 = 0) = false := decide_eq_false (by omega)
        rw [hcl]
        clear hcl hc hne hSq hSq2
        go_wp2_with fail
        rw [Exit.noGoto_normal]
        go_wp2_with fail
        go_roundg (k + 1 - (j + 1))
        case measure => have := hh.out.2; omega
        case rel => exact ⟨j + 1, d + 1, by go_num, by go_num, by omega, by omega, rfl, HSQ.out, rfl⟩
      · have rm : IntKind.i64.wrap (1 - 2) = -1 := by decide
        have rd : IntKind.i64.wrap ((d : Int) + -1) = (d : Int) + -1 := IntWalk.i64_in _ (by omega)
        rcases hSq.close hcl with ⟨hd1, hjk3⟩ | ⟨hd2, hSq2⟩
        · have ys : ∀ w, (Instr.slice 9 (.string v) (some (.int .i64 (a : Int))) (some (.int .i64 ((j : Int) + 1))) none).run Tryz.prog w = .ok (.string (v.extract a (j + 1))) w := fun w => cut_two v a (j + 1) _ _ rfl (by omega) (by omega) (by omega) w
          rw [hcl]
          have HJK := Lib.hid hjk3
          subst hd1
          clear hcl hc hne hSq hjk3
          go_wp2_with fail
          go_quiet (fail)
          go_wp2_with fail
          rw [Exit.noGoto_ret]
          go_wp2_with fail
          refine bodyPost_ret (v := .tuple #[.int .i64 ((j : Int) + 1), .string (v.extract a (j + 1))]) ?_ rfl ⟨by rw [← HJK.out]; rfl, (Upd.refl [] _).drewN _⟩
          simp [results, Tryz.results86, go_sem]
        · have d0 : ((d : Int) + -1 == 0) = false := beq_eq_false_iff_ne.2 (by omega)
          have d0' : decide ((d : Int) + -1 = 0) = false := decide_eq_false (by omega)
          have hjk2 := hSq2.facts.1
          have HSQ := Lib.hid hSq2
          rw [hcl]
          clear hcl hc hne hSq hSq2
          go_wp2_with fail
          rw [Exit.noGoto_normal]
          go_wp2_with fail
          go_roundg (k + 1 - (j + 1))
          case measure => have := hh.out.2; omega
          case rel => exact ⟨j + 1, d - 1, by go_num, by go_num, by omega, by omega, rfl, HSQ.out, rfl⟩
      · exact absurd hcl hne
    case first =>
      intro hTok
      have HT := Lib.hid hTok
      clear hTok
      go_wp2_with fail
      obtain ⟨wo, rfl⟩ : ∃ wo : World, wo = wr := ⟨_, rfl⟩
      go_loopg [1] (k + 1 - i) (fun g x1 wr2 => ∃ i2 : Nat, x1 = .int .i64 i2 ∧ i ≤ i2 ∧ i2 ≤ k ∧ wr2 = wo ∧ Hid (Sq v k i2 d ∧ g = k + 1 - i2))
      case atStart => exact ⟨i, rfl, Nat.le_refl _, hik, rfl, hh.out.1, rfl⟩
      case round =>
        obtain ⟨i2, rfl, hi2, hi2k, rfl, hh2⟩ := hrel
        have w8 : IntKind.i64.wrap ((v.size : Int) - 8) = (v.size : Int) - 8 := IntWalk.i64_in _ (by omega)
        by_cases h8 : (i2 : Int) < (v.size : Int) - 8
        · have d8 : decide ((i2 : Int) < (v.size : Int) - 8) = true := decide_eq_true h8
          have hi8 : i2 + 8 ≤ v.size := by omega
          obtain ⟨J8, hJ8⟩ : ∃ J, J = v.extract i2 (i2 + 8) := ⟨_, rfl⟩
          have ys : ∀ w, (Instr.slice 9 (.string v) (some (.int .i64 (i2 : Int))) (some (.int .i64 ((i2 : Int) + 8))) none).run Tryz.prog w = .ok (.string J8) w := fun w => by rw [hJ8]; exact cut_two v i2 (i2 + 8) _ _ rfl (by omega) (by omega) hi8 w
          have HX8 : Hid (∀ t : Nat, t < 8 → ∀ w, (Instr.index 9 (.string J8) (.int .i64 (t : Int))).run Tryz.prog w = .ok (.int .u8 (bt v (i2 + t))) w) := fun t ht w => by
            have hz : J8.size = 8 := by rw [hJ8]; simp only [ByteArray.size_extract]; omega
            rw [idx_nat J8 _ t rfl (by omega) w, hJ8, bt_extract (by omega) hi8]
          have r8 : IntKind.i64.wrap ((i2 : Int) + 8) = (i2 : Int) + 8 := IntWalk.i64_in _ (by omega)
          clear hJ8 h8
          have hs0 : Sq v k (i2 + 0) d := hh2.out.1
          have hkk0 := hs0.facts.1
          obtain ⟨c0, hc0⟩ : ∃ c, c = bt v (i2 + 0) := ⟨_, rfl⟩
          have y0 : ∀ w, (Instr.index 9 (.string J8) (.int .i64 0)).run Tryz.prog w = .ok (.int .u8 c0) w := fun w => by rw [hc0]; exact HX8.out 0 (by decide) w
          obtain ⟨rl0, rh0⟩ : 0 ≤ c0 ∧ c0 < 256 := by rw [hc0]; exact bt_range v _
          have z0 := HV.out c0 rl0 rh0
          obtain ⟨b0, hb0⟩ : ∃ b, b = vcls c0 := ⟨_, rfl⟩
          rw [← hb0] at z0
          by_cases g0 : b0 = 0
          · have e0 : (b0 != 0) = false := by simpa using g0
            have hs1 : Sq v k (i2 + 0 + 1) d := hs0.zero (by rw [← hc0, ← hb0]; exact g0)
            rw [show i2 + 0 + 1 = i2 + 1 by omega] at hs1
            clear g0 hc0 hb0 hs0
            have hkk1 := hs1.facts.1
            obtain ⟨c1, hc1⟩ : ∃ c, c = bt v (i2 + 1) := ⟨_, rfl⟩
            have y1 : ∀ w, (Instr.index 9 (.string J8) (.int .i64 1)).run Tryz.prog w = .ok (.int .u8 c1) w := fun w => by rw [hc1]; exact HX8.out 1 (by decide) w
            obtain ⟨rl1, rh1⟩ : 0 ≤ c1 ∧ c1 < 256 := by rw [hc1]; exact bt_range v _
            have z1 := HV.out c1 rl1 rh1
            obtain ⟨b1, hb1⟩ : ∃ b, b = vcls c1 := ⟨_, rfl⟩
            rw [← hb1] at z1
            by_cases g1 : b1 = 0
            · have e1 : (b1 != 0) = false := by simpa using g1
              have hs2 : Sq v k (i2 + 1 + 1) d := hs1.zero (by rw [← hc1, ← hb1]; exact g1)
              rw [show i2 + 1 + 1 = i2 + 2 by omega] at hs2
              clear g1 hc1 hb1 hs1
              have hkk2 := hs2.facts.1
              obtain ⟨c2, hc2⟩ : ∃ c, c = bt v (i2 + 2) := ⟨_, rfl⟩
              have y2 : ∀ w, (Instr.index 9 (.string J8) (.int .i64 2)).run Tryz.prog w = .ok (.int .u8 c2) w := fun w => by rw [hc2]; exact HX8.out 2 (by decide) w
              obtain ⟨rl2, rh2⟩ : 0 ≤ c2 ∧ c2 < 256 := by rw [hc2]; exact bt_range v _
              have z2 := HV.out c2 rl2 rh2
              obtain ⟨b2, hb2⟩ : ∃ b, b = vcls c2 := ⟨_, rfl⟩
              rw [← hb2] at z2
              by_cases g2 : b2 = 0
              · have e2 : (b2 != 0) = false := by simpa using g2
                have hs3 : Sq v k (i2 + 2 + 1) d := hs2.zero (by rw [← hc2, ← hb2]; exact g2)
                rw [show i2 + 2 + 1 = i2 + 3 by omega] at hs3
                clear g2 hc2 hb2 hs2
                have hkk3 := hs3.facts.1
                obtain ⟨c3, hc3⟩ : ∃ c, c = bt v (i2 + 3) := ⟨_, rfl⟩
                have y3 : ∀ w, (Instr.index 9 (.string J8) (.int .i64 3)).run Tryz.prog w = .ok (.int .u8 c3) w := fun w => by rw [hc3]; exact HX8.out 3 (by decide) w
                obtain ⟨rl3, rh3⟩ : 0 ≤ c3 ∧ c3 < 256 := by rw [hc3]; exact bt_range v _
                have z3 := HV.out c3 rl3 rh3
                obtain ⟨b3, hb3⟩ : ∃ b, b = vcls c3 := ⟨_, rfl⟩
                rw [← hb3] at z3
                by_cases g3 : b3 = 0
                · have e3 : (b3 != 0) = false := by simpa using g3
                  have hs4 : Sq v k (i2 + 3 + 1) d := hs3.zero (by rw [← hc3, ← hb3]; exact g3)
                  rw [show i2 + 3 + 1 = i2 + 4 by omega] at hs4
                  clear g3 hc3 hb3 hs3
                  have hkk4 := hs4.facts.1
                  obtain ⟨c4, hc4⟩ : ∃ c, c = bt v (i2 + 4) := ⟨_, rfl⟩
                  have y4 : ∀ w, (Instr.index 9 (.string J8) (.int .i64 4)).run Tryz.prog w = .ok (.int .u8 c4) w := fun w => by rw [hc4]; exact HX8.out 4 (by decide) w
                  obtain ⟨rl4, rh4⟩ : 0 ≤ c4 ∧ c4 < 256 := by rw [hc4]; exact bt_range v _
                  have z4 := HV.out c4 rl4 rh4
                  obtain ⟨b4, hb4⟩ : ∃ b, b = vcls c4 := ⟨_, rfl⟩
                  rw [← hb4] at z4
                  by_cases g4 : b4 = 0
                  · have e4 : (b4 != 0) = false := by simpa using g4
                    have hs5 : Sq v k (i2 + 4 + 1) d := hs4.zero (by rw [← hc4, ← hb4]; exact g4)
                    rw [show i2 + 4 + 1 = i2 + 5 by omega] at hs5
                    clear g4 hc4 hb4 hs4
                    have hkk5 := hs5.facts.1
                    obtain ⟨c5, hc5⟩ : ∃ c, c = bt v (i2 + 5) := ⟨_, rfl⟩
                    have y5 : ∀ w, (Instr.index 9 (.string J8) (.int .i64 5)).run Tryz.prog w = .ok (.int .u8 c5) w := fun w => by rw [hc5]; exact HX8.out 5 (by decide) w
                    obtain ⟨rl5, rh5⟩ : 0 ≤ c5 ∧ c5 < 256 := by rw [hc5]; exact bt_range v _
                    have z5 := HV.out c5 rl5 rh5
                    obtain ⟨b5, hb5⟩ : ∃ b, b = vcls c5 := ⟨_, rfl⟩
                    rw [← hb5] at z5
                    by_cases g5 : b5 = 0
                    · have e5 : (b5 != 0) = false := by simpa using g5
                      have hs6 : Sq v k (i2 + 5 + 1) d := hs5.zero (by rw [← hc5, ← hb5]; exact g5)
                      rw [show i2 + 5 + 1 = i2 + 6 by omega] at hs6
                      clear g5 hc5 hb5 hs5
                      have hkk6 := hs6.facts.1
                      obtain ⟨c6, hc6⟩ : ∃ c, c = bt v (i2 + 6) := ⟨_, rfl⟩
                      have y6 : ∀ w, (Instr.index 9 (.string J8) (.int .i64 6)).run Tryz.prog w = .ok (.int .u8 c6) w := fun w => by rw [hc6]; exact HX8.out 6 (by decide) w
                      obtain ⟨rl6, rh6⟩ : 0 ≤ c6 ∧ c6 < 256 := by rw [hc6]; exact bt_range v _
                      have z6 := HV.out c6 rl6 rh6
                      obtain ⟨b6, hb6⟩ : ∃ b, b = vcls c6 := ⟨_, rfl⟩
                      rw [← hb6] at z6
                      by_cases g6 : b6 = 0
                      · have e6 : (b6 != 0) = false := by simpa using g6
                        have hs7 : Sq v k (i2 + 6 + 1) d := hs6.zero (by rw [← hc6, ← hb6]; exact g6)
                        rw [show i2 + 6 + 1 = i2 + 7 by omega] at hs7
                        clear g6 hc6 hb6 hs6
                        have hkk7 := hs7.facts.1
                        obtain ⟨c7, hc7⟩ : ∃ c, c = bt v (i2 + 7) := ⟨_, rfl⟩
                        have y7 : ∀ w, (Instr.index 9 (.string J8) (.int .i64 7)).run Tryz.prog w = .ok (.int .u8 c7) w := fun w => by rw [hc7]; exact HX8.out 7 (by decide) w
                        obtain ⟨rl7, rh7⟩ : 0 ≤ c7 ∧ c7 < 256 := by rw [hc7]; exact bt_range v _
                        have z7 := HV.out c7 rl7 rh7
                        obtain ⟨b7, hb7⟩ : ∃ b, b = vcls c7 := ⟨_, rfl⟩
                        rw [← hb7] at z7
                        by_cases g7 : b7 = 0
                        · have e7 : (b7 != 0) = false := by simpa using g7
                          have hs8 : Sq v k (i2 + 7 + 1) d := hs7.zero (by rw [← hc7, ← hb7]; exact g7)
                          rw [show i2 + 7 + 1 = i2 + 8 by omega] at hs8
                          clear g7 hc7 hb7 hs7
                          have HN8 := Lib.hid hs8
                          have hk8 := hs8.facts.1
                          clear hs8
                          go_wp2_with fail
                          go_roundg (k + 1 - (i2 + 8))
                          case measure => have := hh2.out.2; omega
                          case rel => exact ⟨i2 + 8, by go_num, by omega, by omega, rfl, HN8.out, rfl⟩
                        · have e7 : (b7 != 0) = true := by simpa using g7
                          have HSQ := Lib.hid hs7
                          have HNE : Hid (vcls (bt v (i2 + 7)) ≠ 0) := by rw [← hc7, ← hb7]; exact g7
                          have HBE : Hid (b7 = vcls (bt v (i2 + 7))) := by rw [← hc7]; exact hb7
                          clear g7 hc7 hb7 hs7 HX8
                          go_wp2_with fail
                          go_step3
                          repeat (first | rw [then_goto'] | rw [inBlock_goto'])
                          refine goto_jump ⟨rfl, i2 + 7, (i2 : Int) + 7, u10, ?_, by omega, by omega, HNE.out, HSQ.out⟩
                          rw [← HBE.out]
                          exact Fr.intro rfl rfl rfl rfl rfl rfl rfl rfl rfl rfl rfl rfl rfl rfl rfl rfl
                      · have e6 : (b6 != 0) = true := by simpa using g6
                        have HSQ := Lib.hid hs6
                        have HNE : Hid (vcls (bt v (i2 + 6)) ≠ 0) := by rw [← hc6, ← hb6]; exact g6
                        have HBE : Hid (b6 = vcls (bt v (i2 + 6))) := by rw [← hc6]; exact hb6
                        clear g6 hc6 hb6 hs6 HX8
                        go_wp2_with fail
                        go_step3
                        repeat (first | rw [then_goto'] | rw [inBlock_goto'])
                        refine goto_jump ⟨rfl, i2 + 6, (i2 : Int) + 6, u10, ?_, by omega, by omega, HNE.out, HSQ.out⟩
                        rw [← HBE.out]
                        exact Fr.intro rfl rfl rfl rfl rfl rfl rfl rfl rfl rfl rfl rfl rfl rfl rfl rfl
                    · have e5 : (b5 != 0) = true := by simpa using g5
                      have HSQ := Lib.hid hs5
                      have HNE : Hid (vcls (bt v (i2 + 5)) ≠ 0) := by rw [← hc5, ← hb5]; exact g5
                      have HBE : Hid (b5 = vcls (bt v (i2 + 5))) := by rw [← hc5]; exact hb5
                      clear g5 hc5 hb5 hs5 HX8
                      go_wp2_with fail
                      go_step3
                      repeat (first | rw [then_goto'] | rw [inBlock_goto'])
                      refine goto_jump ⟨rfl, i2 + 5, (i2 : Int) + 5, u10, ?_, by omega, by omega, HNE.out, HSQ.out⟩
                      rw [← HBE.out]
                      exact Fr.intro rfl rfl rfl rfl rfl rfl rfl rfl rfl rfl rfl rfl rfl rfl rfl rfl
                  · have e4 : (b4 != 0) = true := by simpa using g4
                    have HSQ := Lib.hid hs4
                    have HNE : Hid (vcls (bt v (i2 + 4)) ≠ 0) := by rw [← hc4, ← hb4]; exact g4
                    have HBE : Hid (b4 = vcls (bt v (i2 + 4))) := by rw [← hc4]; exact hb4
                    clear g4 hc4 hb4 hs4 HX8
                    go_wp2_with fail
                    go_step3
                    repeat (first | rw [then_goto'] | rw [inBlock_goto'])
                    refine goto_jump ⟨rfl, i2 + 4, (i2 : Int) + 4, u10, ?_, by omega, by omega, HNE.out, HSQ.out⟩
                    rw [← HBE.out]
                    exact Fr.intro rfl rfl rfl rfl rfl rfl rfl rfl rfl rfl rfl rfl rfl rfl rfl rfl
                · have e3 : (b3 != 0) = true := by simpa using g3
                  have HSQ := Lib.hid hs3
                  have HNE : Hid (vcls (bt v (i2 + 3)) ≠ 0) := by rw [← hc3, ← hb3]; exact g3
                  have HBE : Hid (b3 = vcls (bt v (i2 + 3))) := by rw [← hc3]; exact hb3
                  clear g3 hc3 hb3 hs3 HX8
                  go_wp2_with fail
                  go_step3
                  repeat (first | rw [then_goto'] | rw [inBlock_goto'])
                  refine goto_jump ⟨rfl, i2 + 3, (i2 : Int) + 3, u10, ?_, by omega, by omega, HNE.out, HSQ.out⟩
                  rw [← HBE.out]
                  exact Fr.intro rfl rfl rfl rfl rfl rfl rfl rfl rfl rfl rfl rfl rfl rfl rfl rfl
              · have e2 : (b2 != 0) = true := by simpa using g2
                have HSQ := Lib.hid hs2
                have HNE : Hid (vcls (bt v (i2 + 2)) ≠ 0) := by rw [← hc2, ← hb2]; exact g2
                have HBE : Hid (b2 = vcls (bt v (i2 + 2))) := by rw [← hc2]; exact hb2
                clear g2 hc2 hb2 hs2 HX8
                go_wp2_with fail
                go_step3
                repeat (first | rw [then_goto'] | rw [inBlock_goto'])
                refine goto_jump ⟨rfl, i2 + 2, (i2 : Int) + 2, u10, ?_, by omega, by omega, HNE.out, HSQ.out⟩
                rw [← HBE.out]
                exact Fr.intro rfl rfl rfl rfl rfl rfl rfl rfl rfl rfl rfl rfl rfl rfl rfl rfl
            · have e1 : (b1 != 0) = true := by simpa using g1
              have HSQ := Lib.hid hs1
              have HNE : Hid (vcls (bt v (i2 + 1)) ≠ 0) := by rw [← hc1, ← hb1]; exact g1
              have HBE : Hid (b1 = vcls (bt v (i2 + 1))) := by rw [← hc1]; exact hb1
              clear g1 hc1 hb1 hs1 HX8
              go_wp2_with fail
              go_step3
              repeat (first | rw [then_goto'] | rw [inBlock_goto'])
              refine goto_jump ⟨rfl, i2 + 1, (i2 : Int) + 1, u10, ?_, by omega, by omega, HNE.out, HSQ.out⟩
              rw [← HBE.out]
              exact Fr.intro rfl rfl rfl rfl rfl rfl rfl rfl rfl rfl rfl rfl rfl rfl rfl rfl
          · have e0 : (b0 != 0) = true := by simpa using g0
            have HSQ := Lib.hid hs0
            have HNE : Hid (vcls (bt v (i2 + 0)) ≠ 0) := by rw [← hc0, ← hb0]; exact g0
            have HBE : Hid (b0 = vcls (bt v (i2 + 0))) := by rw [← hc0]; exact hb0
            clear g0 hc0 hb0 hs0 HX8
            go_wp2_with fail
            go_step3
            repeat (first | rw [then_goto'] | rw [inBlock_goto'])
            refine goto_jump ⟨rfl, i2 + 0, (i2 : Int) + 0, u10, ?_, by omega, by omega, HNE.out, HSQ.out⟩
            rw [← HBE.out]
            exact Fr.intro rfl rfl rfl rfl rfl rfl rfl rfl rfl rfl rfl rfl rfl rfl rfl rfl
        · have d8 : decide ((i2 : Int) < (v.size : Int) - 8) = false := decide_eq_false h8
          have hi2s : i2 < v.size := by omega
          clear h8
          have hs0 := hh2.out.1
          obtain ⟨c0, hc0⟩ : ∃ c, c = bt v i2 := ⟨_, rfl⟩
          have y0 : ∀ w, (Instr.index 9 (.string v) (.int .i64 (i2 : Int))).run Tryz.prog w = .ok (.int .u8 c0) w := fun w => by rw [hc0]; exact idx_nat v _ i2 rfl hi2s w
          have hb2 : (v[i2].toNat : Int) = c0 := by rw [hc0]; exact bt_lt hi2s
          obtain ⟨rl0, rh0⟩ : 0 ≤ c0 ∧ c0 < 256 := by rw [hc0]; exact bt_range v _
          have z0 := HV.out c0 rl0 rh0
          obtain ⟨b0, hb0⟩ : ∃ b, b = vcls c0 := ⟨_, rfl⟩
          rw [← hb0] at z0
          by_cases g0 : b0 = 0
          · have e0 : (b0 == 0) = true := beq_iff_eq.2 g0
            have e0' : decide (b0 = 0) = true := decide_eq_true g0
            have hs1 := hs0.zero (by rw [← hc0, ← hb0]; exact g0)
            have hk1 := hs1.facts.1
            have HSQ := Lib.hid hs1
            clear g0 hc0 hb0 hs0 hs1
            go_wp2_with fail
            rw [jump_exit]
            go_wp2_with fail
            go_roundg (k + 1 - (i2 + 1))
            case measure => have := hh.out.2; omega
            case rel => exact ⟨i2 + 1, d, by go_num, rfl, by omega, by omega, rfl, HSQ.out, rfl⟩
          · have e0 : (b0 == 0) = false := beq_eq_false_iff_ne.2 g0
            have e0' : decide (b0 = 0) = false := decide_eq_false g0
            have HSQ := Lib.hid hs0
            have HNE : Hid (vcls (bt v i2) ≠ 0) := by rw [← hc0, ← hb0]; exact g0
            have HBE : Hid (b0 = vcls (bt v i2)) := by rw [← hc0]; exact hb0
            clear g0 hc0 hb0 hs0
            go_wp2_with fail
            go_step3
            go_step
            go_step
            refine HT.out _ _ ⟨rfl, i2, (i2 : Int), u10, ?_, rfl, by omega, HNE.out, HSQ.out⟩
            rw [← HBE.out]
            exact Fr.intro rfl rfl rfl rfl rfl rfl rfl rfl rfl rfl rfl rfl rfl rfl rfl rfl
end Go.Proofs.YtcnkbdbkglggcaaGreatDoor
