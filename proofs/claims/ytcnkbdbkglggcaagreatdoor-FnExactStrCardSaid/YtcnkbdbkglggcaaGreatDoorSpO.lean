/-
  The specification's reader, whole: 'tree' at every depth, and 'Read'. No condition.
-/
import Derived.Test.YtcnkbdbkglggcaaGreatDoorSpK
import Derived.Test.YtcnkbdbkglggcaaGreatDoorSpM
import Derived.Test.YtcnkbdbkglggcaaGreatDoorSpN
import Derived.RegionTactic
import Derived.ChangeAlike
namespace Go.Proofs.YtcnkbdbkglggcaaGreatDoor
open Go.RowKit

theorem list_step (d : Nat) (hT : TreeOK d) : ListOK (d + 1) := by
  intro w b tb s i bad keys endc c0 c1 c2 c3 hr hs hi hd hbt ht he
  subst he
  cases keys with
  | true => exact list_obj d hT w b tb s i bad c0 c1 c2 c3 hr hs hi hd hbt ht
  | false => exact list_arr d hT w b tb s i bad c0 c1 c2 c3 hr hs hi hd hbt ht
theorem tree_all (d : Nat) : TreeOK d := by
  induction d with
  | zero => exact fun w b s i bad hr hs hi hd => tree_step 0 (fun _ _ _ _ _ _ _ _ _ _ _ _ _ _ hi' hd' => by omega) w b s i bad hr hs hi hd
  | succ d ih => exact fun w b s i bad hr hs hi hd => tree_step (d + 1) (list_step d ih) w b s i bad hr hs hi hd
/-- What is known of a text that is a value of JSON between white space. -/
def DocQ (s : ByteArray) (t : TreeV) (i : Nat) (raw : ByteArray) : Prop :=
  s.size ≤ 65536 ∧ t.kind = kindOf (bt s i) ∧ ∃ (j d : Nat), Ws s 0 i ∧ raw = s.extract i j ∧ i ≤ j ∧ j ≤ s.size ∧ Shape s i j ∧ Ws s j s.size ∧ (t.pairs = true → Top s (Val s d) i j t.kind t.o t.ks t.its)
/-- What a call of 'Read' returns and leaves. -/
def Doc1 (w : World) (s : ByteArray) (e : Ending) (w' : World) : Prop :=
  ∃ (t : TreeV) (raw : ByteArray) (i : Nat) (ok : Bool), e = .returned (.tuple #[.agg (t.cells i raw), .bool ok]) ∧ Upd [] w w' ∧ OwnT w' w.heap.size t ∧ (ok = true → DocQ s t i raw)
theorem res_read {W : World} {rb : Nat} {c0 c1 c2 c3 c4 c5 c6 : Value} {ok : Bool} (h : Blk W rb 25 #[c0, c1, c2, c3, c4, c5, c6]) (tmps : Array Value) (ht : tmps.getD 2 undef = .pointer (some ⟨rb, 0, none⟩)) (ht3 : tmps.getD 3 undef = .bool ok) :
    (results Tryz.f8 tmps).run Tryz.prog W = .ok (.tuple #[.agg #[c0, c1, c2, c3, c4, c5, c6], .bool ok]) W := by
  have r0 := h.cell 0
  have r1 := h.cell 1
  have r2 := h.cell 2
  have r3 := h.cell 3
  have r4 := h.cell 4
  have r5 := h.cell 5
  have r6 := h.cell 6
  simp only [List.getElem?_toArray, List.getElem?_cons_zero, List.getElem?_cons_succ] at r0 r1 r2 r3 r4 r5 r6
  have ht' : tmps[2]?.getD undef = .pointer (some ⟨rb, 0, none⟩) := by simpa using ht
  have ht3' : tmps[3]?.getD undef = .bool ok := by simpa using ht3
  simp [results, Tryz.results8, go_sem, ht', ht3', r0, r1, r2, r3, r4, r5, r6]

theorem Rd.new0 (w : World) (s : ByteArray) : Rd (w.alloc (.cells #[.string s, .int .i64 0, .bool false] 44)) w.heap.size s 0 false := Blk.new w 44 _

theorem read_end {w w4 : World} {s raw : ByteArray} {t : TreeV} {i : Nat} (ok : Bool) {v0 v1 v2 v3 v4 v5 v6 : Value} (hup : Upd [] w w4) (hown : OwnT w4 (w.heap.size + 2) t) (hq : ok = true → DocQ s t i raw) :
    Doc1 w s (.returned (.tuple #[.agg (t.cells i raw), .bool ok])) (((((((w4.setCell ⟨w.heap.size, 0, none⟩ v0).setCell ⟨w.heap.size, 1, none⟩ v1).setCell ⟨w.heap.size, 2, none⟩ v2).setCell ⟨w.heap.size, 3, none⟩ v3).setCell ⟨w.heap.size, 4, none⟩ v4).setCell ⟨w.heap.size, 5, none⟩ v5).setCell ⟨w.heap.size, 6, none⟩ v6).drew := by
  have hu := ((((((((Upd.refl [w.heap.size] w4).setCell (p := ⟨w.heap.size, 0, none⟩) (.inl (.head _)) v0).setCell (p := ⟨w.heap.size, 1, none⟩) (.inl (.head _)) v1).setCell (p := ⟨w.heap.size, 2, none⟩) (.inl (.head _)) v2).setCell (p := ⟨w.heap.size, 3, none⟩) (.inl (.head _)) v3).setCell (p := ⟨w.heap.size, 4, none⟩) (.inl (.head _)) v4).setCell (p := ⟨w.heap.size, 5, none⟩) (.inl (.head _)) v5).setCell (p := ⟨w.heap.size, 6, none⟩) (.inl (.head _)) v6).drew
  refine ⟨t, raw, i, ok, rfl, hup.then hu (by simp), (hown.upd hu (fun k h => ?_) (fun k h => ?_)).base (by omega), hq⟩
  · have := (hown.1.lt k h).1; simp; omega
  · have := (hown.2.1.lt k h).1; simp; omega

set_option maxRecDepth 100000 in
set_option maxHeartbeats 4000000 in
theorem read_any (w : World) (s : ByteArray) (hlen : s.size ≤ 2 ^ 47) : Calls Tryz.prog 8 #[.string s] w fun e w' => Doc1 w s e w' := by
  go_enter Tryz.func8, Tryz.ntmps8
  by_cases hs : s.size ≤ 65536
  · have d0 : decide ((65536 : Int) < (s.size : Int)) = false := by simp; omega
    go_wp2_with fail
    have hz : (w.alloc (.cells #[.int .i64 0, .string ⟨#[]⟩, .int .i64 0, .string ⟨#[]⟩, .bool false, .slice none 0 0, .slice none 0 0] 25)).heap.size = w.heap.size + 1 := by simp
    have hrd := Rd.new0 (w.alloc (.cells #[.int .i64 0, .string ⟨#[]⟩, .int .i64 0, .string ⟨#[]⟩, .bool false, .slice none 0 0, .slice none 0 0] 25)) s
    rw [hz] at hrd
    have hup := ((Upd.refl [] w).alloc (.cells #[.int .i64 0, .string ⟨#[]⟩, .int .i64 0, .string ⟨#[]⟩, .bool false, .slice none 0 0, .slice none 0 0] 25)).alloc (.cells #[.string s, .int .i64 0, .bool false] 44)
    have hrb := (Blk.new w 25 #[.int .i64 0, .string ⟨#[]⟩, .int .i64 0, .string ⟨#[]⟩, .bool false, .slice none 0 0, .slice none 0 0]).alloc (.cells #[.string s, .int .i64 0, .bool false] 44)
    clear hz
    generalize (w.alloc (.cells #[.int .i64 0, .string ⟨#[]⟩, .int .i64 0, .string ⟨#[]⟩, .bool false, .slice none 0 0, .slice none 0 0] 25)).alloc (.cells #[.string s, .int .i64 0, .bool false] 44) = W at *
    refine (blank_any _ (w.heap.size + 1) s 0 false hrd hs (by omega)).mono ?_
    rintro e w1 ⟨rfl, i, hr1, hu1, hws⟩
    have his := hws.2.1
    have hrb1 := hrb.upd hu1 (by simp)
    have hup1 := hup.then hu1 (by simp)
    clear hrd hup hrb hu1
    go_wp2_with fail
    refine (tree_all (s.size - i) w1 (w.heap.size + 1) s i false hr1 hs his (by omega)).mono ?_
    rintro e w2 ⟨t, raw, j, bad2, rfl, hk, hr2, hu2, hown, hw2⟩
    have hj := hw2.1
    have hjs := hw2.2.1
    have hrb2 := hrb1.upd hu2 (by simp)
    have hup2 := hup1.then hu2 (by simp)
    have hb1 := hr1.lt
    have hown1 := hown.base (base' := w.heap.size + 2) (by omega)
    clear hr1 hrb1 hup1 hu2 hown
    obtain ⟨A1, n1, hkv⟩ := own_slice hown1.1
    obtain ⟨A2, n2, hiv⟩ := own_slice hown1.2.1
    obtain ⟨kind, o, pairs, kv, iv, ks, its⟩ := t
    dsimp only at hkv hiv hk
    subst hkv hiv
    have HW := Lib.hid hw2; clear hw2
    dsimp only [TreeV.cells]
    have hrd3 := hr2.alloc (.cells #[.int .i64 kind, .string raw, .int .i64 i, .string (strOfNums o), .bool pairs, .slice A1 ks.length n1, .slice A2 its.length n2] 25)
    have hrb3 := hrb2.alloc (.cells #[.int .i64 kind, .string raw, .int .i64 i, .string (strOfNums o), .bool pairs, .slice A1 ks.length n1, .slice A2 its.length n2] 25)
    have htb3 := Blk.new w2 25 #[.int .i64 kind, .string raw, .int .i64 i, .string (strOfNums o), .bool pairs, .slice A1 ks.length n1, .slice A2 its.length n2]
    have hup3 := hup2.alloc (.cells #[.int .i64 kind, .string raw, .int .i64 i, .string (strOfNums o), .bool pairs, .slice A1 ks.length n1, .slice A2 its.length n2] 25)
    have hown3 := hown1.upd ((Upd.refl [] w2).alloc (.cells #[.int .i64 kind, .string raw, .int .i64 i, .string (strOfNums o), .bool pairs, .slice A1 ks.length n1, .slice A2 its.length n2] 25)) (fun k h => by simp) (fun k h => by simp)
    have hlt2 := hr2.lt
    have hsz3 : (w2.alloc (.cells #[.int .i64 kind, .string raw, .int .i64 i, .string (strOfNums o), .bool pairs, .slice A1 ks.length n1, .slice A2 its.length n2] 25)).heap.size = w2.heap.size + 1 := by simp
    have HK := Lib.hid hk
    clear hr2 hrb2 hup2 hown1 hk
    go_wp2_with fail
    generalize w2.alloc (.cells #[.int .i64 kind, .string raw, .int .i64 i, .string (strOfNums o), .bool pairs, .slice A1 ks.length n1, .slice A2 its.length n2] 25) = w3 at *
    refine (blank_any w3 (w.heap.size + 1) s j bad2 hrd3 hs hjs).mono ?_
    rintro e w4 ⟨rfl, j4, hr4, hu4, hws4⟩
    have hrb4 := hrb3.upd hu4 (by simp)
    have htb4 := htb3.upd hu4 (by simp; omega)
    have hup4 := hup3.then hu4 (by simp)
    have hown4 := hown3.upd hu4 (fun k h => by have := (hown3.1.lt k h).1; simp; omega) (fun k h => by have := (hown3.2.1.lt k h).1; simp; omega)
    clear hrd3 hrb3 htb3 hup3 hu4
    have h1 := hr4.c1
    have h2 := hr4.c2
    have tf := htb4.frozen
    have rf := hrb4.frozen
    have ef := hr4.fr
    have t0 := htb4.cell 0
    have t1 := htb4.cell 1
    have t2 := htb4.cell 2
    have t3 := htb4.cell 3
    have t4 := htb4.cell 4
    have t5 := htb4.cell 5
    have t6 := htb4.cell 6
    have r0 := hrb4.cell 0
    have r1 := hrb4.cell 1
    have r2 := hrb4.cell 2
    have r3 := hrb4.cell 3
    have r4 := hrb4.cell 4
    have r5 := hrb4.cell 5
    have r6 := hrb4.cell 6
    simp only [List.getElem?_toArray, List.getElem?_cons_zero, List.getElem?_cons_succ] at t0 t1 t2 t3 t4 t5 t6 r0 r1 r2 r3 r4 r5 r6
    cases bad2 with
    | true =>
      go_wp2_with fail
      go_region
      go_wp2_with fail
      have HB := ((((((hrb4.set_ 0 (.int .i64 kind)).set_ 1 (.string raw)).set_ 2 (.int .i64 i)).set_ 3 (.string (strOfNums o))).set_ 4 (.bool pairs)).set_ 5 (.slice A1 ks.length n1)).set_ 6 (.slice A2 its.length n2)
      refine bodyPost_ret (res_read (c0 := .int .i64 kind) (c1 := .string raw) (c2 := .int .i64 i) (c3 := .string (strOfNums o)) (c4 := .bool pairs) (c5 := .slice A1 ks.length n1) (c6 := .slice A2 its.length n2) (ok := false) (Blk.drew HB) _ rfl rfl) rfl ?_
      exact read_end false hup4 hown4 fun h => by cases h
    | false =>
      by_cases hj4 : j4 = s.size
      · have d1 : decide ((j4 : Int) = (s.size : Int)) = true := by simp; omega
        have d2 : ((j4 : Int) == (s.size : Int)) = true := by simp; omega
        have HJ := Lib.hid hj4; clear hj4
        go_wp2_with fail
        go_region
        go_wp2_with fail
        have HB := ((((((hrb4.set_ 0 (.int .i64 kind)).set_ 1 (.string raw)).set_ 2 (.int .i64 i)).set_ 3 (.string (strOfNums o))).set_ 4 (.bool pairs)).set_ 5 (.slice A1 ks.length n1)).set_ 6 (.slice A2 its.length n2)
        refine bodyPost_ret (res_read (c0 := .int .i64 kind) (c1 := .string raw) (c2 := .int .i64 i) (c3 := .string (strOfNums o)) (c4 := .bool pairs) (c5 := .slice A1 ks.length n1) (c6 := .slice A2 its.length n2) (ok := true) (Blk.drew HB) _ rfl rfl) rfl ?_
        exact read_end true hup4 hown4 fun _ => ⟨hs, HK.out, j, s.size - i, hws, (HW.out.2.2 rfl).2.1, HW.out.1, HW.out.2.1, (HW.out.2.2 rfl).2.2.1, HJ.out ▸ hws4, (HW.out.2.2 rfl).2.2.2⟩
      · have d1 : decide ((j4 : Int) = (s.size : Int)) = false := by simp; omega
        have d2 : ((j4 : Int) == (s.size : Int)) = false := by simp; omega
        clear hj4
        go_wp2_with fail
        go_region
        go_wp2_with fail
        have HB := ((((((hrb4.set_ 0 (.int .i64 kind)).set_ 1 (.string raw)).set_ 2 (.int .i64 i)).set_ 3 (.string (strOfNums o))).set_ 4 (.bool pairs)).set_ 5 (.slice A1 ks.length n1)).set_ 6 (.slice A2 its.length n2)
        refine bodyPost_ret (res_read (c0 := .int .i64 kind) (c1 := .string raw) (c2 := .int .i64 i) (c3 := .string (strOfNums o)) (c4 := .bool pairs) (c5 := .slice A1 ks.length n1) (c6 := .slice A2 its.length n2) (ok := false) (Blk.drew HB) _ rfl rfl) rfl ?_
        exact read_end false hup4 hown4 fun h => by cases h
  · have d0 : decide ((65536 : Int) < (s.size : Int)) = true := by simp; omega
    have HB := Blk.new w 25 #[.int .i64 0, .string ⟨#[]⟩, .int .i64 0, .string ⟨#[]⟩, .bool false, .slice none 0 0, .slice none 0 0]
    have rf := HB.frozen
    go_wp2_with fail
    clear rf
    refine bodyPost_ret (res_read (ok := false) HB _ rfl rfl) rfl ?_
    exact ⟨⟨0, [], false, .slice none 0 0, .slice none 0 0, [], []⟩, ByteArray.empty, 0, false, rfl, (Upd.refl [] w).alloc _, own_none _ _ _ _ _, fun h => by cases h⟩
end Go.Proofs.YtcnkbdbkglggcaaGreatDoor
