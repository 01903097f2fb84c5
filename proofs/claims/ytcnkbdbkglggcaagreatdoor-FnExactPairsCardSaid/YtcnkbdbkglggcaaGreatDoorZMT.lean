/-
  What the listed variables hold that the laws' roads read. No condition.
  What the listed table of powers of ten holds at the power nought. No condition.
  From the list of a row to what memory holds: a slice that is not empty, an interface value, an array of integers, of any program; the table of left shifts is right. No condition.
  What the listed variables hold that the law FnExactPairs reads. No condition.
-/
import Derived.Test.YtcnkbdbkglggcaaGreatDoorCards
import Derived.Test.YtcnkbdbkglggcaaGreatDoorZMM
import Derived.Test.YtcnkbdbkglggcaaGreatDoorZML
import Derived.Test.YtcnkbdbkglggcaaGreatDoorYGvH
import Derived.Test.YtcnkbdbkglggcaaGreatDoorYGxC
import Derived.Test.YtcnkbdbkglggcaaGreatDoorZMO
import Derived.Test.YtcnkbdbkglggcaaGreatDoorYGxJ
import Derived.Test.YtcnkbdbkglggcaaGreatDoorZMD
import Derived.Test.YtcnkbdbkglggcaaGreatDoorZMQ
import Derived.ProofKit
import Derived.OpenShut
import Derived.ChangeMaps5
import Derived.Lib.LaidU8
import Derived.Lay
import Derived.LaidOnce
import Derived.SevenTiedAt
set_option linter.unusedVariables false
set_option linter.unusedSimpArgs false
namespace Go.Proofs.YtcnkbdbkglggcaaGreatDoor
open Go.ChangeShapes Go.WideShapes Go.ChangeAt Go.RowKit
open Go.ChangeMaps (open_string shut_string)

theorem ownKnob_seat : ownKnob Tryz.prog.godebug = none := by kernel_rfl
theorem glob3_name : Tryz.prog.globalNamed "internal/strconv.optimize" = some 3 := by kernel_rfl
theorem glob3_type : (Tryz.prog.globals[3]?).map (·.type) = some 4 := by kernel_rfl
theorem glob10_name : Tryz.prog.globalNamed "internal/strconv.float64info" = some 10 := by kernel_rfl
theorem glob10_type : (Tryz.prog.globals[10]?).map (·.type) = some 193 := by kernel_rfl
/-- From the list: what the two variables hold. -/
theorem gl_of_list {W : World} {l : List (String × DataW Unit)} (hL : laidMet Tryz.prog l W) (h1 : ("internal/strconv.optimize", Rows.laid_internal_strconv_optimize) ∈ l) (h2 : ("internal/strconv.float64info", Rows.laid_internal_strconv_float64info) ∈ l) : Gl W := by
  obtain ⟨g, t, cs, fuel, p, hg, ht, hv, htr⟩ := Lib.laidMet.reads hL h1
  obtain rfl : 3 = g := Option.some.inj (glob3_name.symm.trans hg)
  obtain rfl : 4 = t := Option.some.inj (glob3_type.symm.trans ht)
  obtain ⟨b, hcs, hx⟩ := DataW.trod_bool Tryz.underlying4 htr
  have hb : b = true := by
    have := congrArg Prod.fst hx
    simpa [Rows.laid_internal_strconv_optimize] using this.symm
  subst hb
  obtain ⟨g, t, cs2, fuel2, p2, hg2, ht2, hv2, htr2⟩ := Lib.laidMet.reads hL h2
  obtain rfl : 10 = g := Option.some.inj (glob10_name.symm.trans hg2)
  obtain rfl : 193 = t := Option.some.inj (glob10_type.symm.trans ht2)
  obtain ⟨xs, n, _, hx2, hlen, hxl, hall⟩ := DataW.trod_struct Tryz.underlying193 htr2
  have hxs : xs.map (·.1) = [.lit (.int .u64 52), .lit (.int .u64 11), .lit (.int .i64 (-1023))] := by
    have := congrArg Prod.fst hx2
    simpa [Rows.laid_internal_strconv_float64info] using this.symm
  have h0 := hall 0 _ rfl
  have c120 : Tryz.prog.cellsOf 120 = 1 := by kernel_rfl
  obtain ⟨y, hy, hy1⟩ : ∃ y, xs[0]? = some y ∧ y.1 = .lit (.int .u64 52) := by
    cases xs with
    | nil => simp at hxs
    | cons y ys =>
      simp only [List.map_cons, List.cons.injEq] at hxs
      exact ⟨y, rfl, hxs.1⟩
  obtain ⟨z, hz, hyz, _⟩ := DataW.trod_int (k := .u64) Tryz.underlying120 (h0.trans hy)
  have hz52 : z = 52 := by
    rw [hyz] at hy1
    simpa using hy1
  subst hz52
  have hcell : cs2[0]? = some (.int .u64 52) := by
    have hq : ((cs2.toList.drop 0).take (Tryz.prog.cellsOf 120))[0]? = some (.int .u64 52) := by
      have := congrArg (·[0]?) hz
      simpa using this
    rw [c120] at hq
    simpa using hq
  refine ⟨?_, ?_, ?_⟩
  · rw [World.var?_cell glob3_name hv 0, ← Array.getElem?_toList, hcs]; rfl
  · rw [World.var?_cell glob10_name hv2 0]; exact hcell
  · simp only [World.var?, glob10_name, Option.bind_some] at hv2
    split at hv2
    · rename_i h
      exact lt_of_block h
    · cases hv2

end Go.Proofs.YtcnkbdbkglggcaaGreatDoor

namespace Go.Proofs.YtcnkbdbkglggcaaGreatDoor
open Go.ChangeShapes Go.WideShapes Go.ChangeAt Go.RowKit

theorem glob11_name : Tryz.prog.globalNamed "internal/strconv.pow10Tab" = some 11 := by kernel_rfl
theorem glob11_type : (Tryz.prog.globals[11]?).map (·.type) = some 215 := by kernel_rfl
theorem pow_row : Go.Pinned.pow10Rows[348]? = some (9223372036854775808, 0) := by kernel_rfl
theorem trod_two {H : Type} {enc : TypeId × Value → H} {w : World} {base : Nat} {spare : Nat → Bool} {held : Bool} {fuel : Nat} {cs : List Value} {y : DataW H × List MemPlace} {a b : Int}
    (h : DataW.trod enc Tryz.prog w base spare held fuel 214 cs = some y) (hy : y.1 = .agg [.lit (.int .u64 a), .lit (.int .u64 b)]) : cs[0]? = some (.int .u64 a) ∧ cs[1]? = some (.int .u64 b) := by
  obtain ⟨xs, n, _, hx, hlen, hxl, hall⟩ := DataW.trod_struct Tryz.underlying214 h
  have c97 : Tryz.prog.cellsOf 97 = 1 := by kernel_rfl
  have hm : xs.map (·.1) = [.lit (.int .u64 a), .lit (.int .u64 b)] := by
    have h1 := congrArg Prod.fst hx
    rw [hy] at h1
    simpa using h1.symm
  cases xs with
  | nil => simp at hm
  | cons u us =>
  cases us with
  | nil => simp at hm
  | cons v vs =>
  simp only [List.map_cons, List.cons.injEq] at hm
  have h0 := hall 0 _ rfl
  have h1 := hall 1 _ rfl
  simp only [List.getElem?_cons_zero, List.getElem?_cons_succ] at h0 h1
  obtain ⟨z0, hz0, hu, _⟩ := DataW.trod_int (k := .u64) Tryz.underlying97 h0
  obtain ⟨z1, hz1, hv, _⟩ := DataW.trod_int (k := .u64) Tryz.underlying97 h1
  have e0 : z0 = a := by
    have := hm.1
    rw [hu] at this
    simpa using this
  have e1 : z1 = b := by
    have := hm.2.1
    rw [hv] at this
    simpa using this
  subst e0 e1
  refine ⟨?_, ?_⟩
  · have hq : ((cs.drop 0).take (Tryz.prog.cellsOf 97))[0]? = some (.int .u64 z0) := by
      have := congrArg (·[0]?) hz0
      simpa using this
    rw [c97] at hq
    simpa using hq
  · have hq : ((cs.drop 1).take (Tryz.prog.cellsOf 97))[0]? = some (.int .u64 z1) := by
      have := congrArg (·[0]?) hz1
      simpa using this
    rw [c97] at hq
    simpa using hq
theorem get_row {α : Type} {xs : List α} {f : Nat × Nat → α} {R : List (Nat × Nat)} {r : Nat × Nat} (h : R[348]? = some r) (hm : xs = R.map f) : xs[348]? = some (f r) := by
  rw [hm, List.getElem?_map, h]
  rfl
theorem take_drop0 {α : Type} {l : List α} {k c : Nat} {x : α} (hc : c = 2) (h : ((l.drop (k * c)).take c)[0]? = some x) : l[k * 2]? = some x := by
  subst hc
  simpa [List.getElem?_take, List.getElem?_drop] using h
theorem take_drop1 {α : Type} {l : List α} {k c : Nat} {x : α} (hc : c = 2) (h : ((l.drop (k * c)).take c)[1]? = some x) : l[k * 2 + 1]? = some x := by
  subst hc
  simpa [List.getElem?_take, List.getElem?_drop] using h
set_option maxRecDepth 100000 in
theorem pow_of_list {W : World} {l : List (String × DataW Unit)} (hL : laidMet Tryz.prog l W) (h1 : ("internal/strconv.pow10Tab", Rows.laid_internal_strconv_pow10Tab) ∈ l) :
    W.cell? ⟨11, 696, none⟩ = some (.int .u64 9223372036854775808) ∧ W.cell? ⟨11, 697, none⟩ = some (.int .u64 0) ∧ 11 < W.heap.size := by
  obtain ⟨g, t, cs, fuel, p, hg, ht, hv, htr⟩ := Lib.laidMet.reads hL h1
  obtain rfl : 11 = g := Option.some.inj (glob11_name.symm.trans hg)
  obtain rfl : 215 = t := Option.some.inj (glob11_type.symm.trans ht)
  obtain ⟨xs, m, _, hx, hlen, hxl, hall⟩ := DataW.trod_array Tryz.underlying215 htr
  have c214 : Tryz.prog.cellsOf 214 = 2 := by kernel_rfl
  have h348 := hall 348 (by decide)
  have hm : xs.map (·.1) = Go.Pinned.pow10Rows.map fun x => .agg [.lit (.int .u64 x.1), .lit (.int .u64 x.2)] := by
    have h2 := congrArg Prod.fst hx
    have h3 : (Rows.laid_internal_strconv_pow10Tab : DataW Unit) = .agg (Go.Pinned.pow10Rows.map fun x => .agg [.lit (.int .u64 x.1), .lit (.int .u64 x.2)]) := rfl
    rw [h3] at h2
    exact (DataW.agg.inj h2).symm
  have hget : (xs.map (·.1))[348]? = some (.agg [.lit (.int .u64 9223372036854775808), .lit (.int .u64 0)]) := get_row (f := fun x => (.agg [.lit (.int .u64 x.1), .lit (.int .u64 x.2)] : DataW Unit)) pow_row hm
  rw [List.getElem?_map] at hget
  obtain ⟨y, hy, hy1⟩ := Option.map_eq_some_iff.1 hget
  obtain ⟨q0, q1⟩ := trod_two (h348.trans hy) hy1
  have q0 := take_drop0 c214 q0
  have q1 := take_drop1 c214 q1
  refine ⟨?_, ?_, ?_⟩
  · rw [World.var?_cell glob11_name hv 696, ← Array.getElem?_toList]
    exact q0
  · rw [World.var?_cell glob11_name hv 697, ← Array.getElem?_toList]
    exact q1
  · simp only [World.var?, glob11_name, Option.bind_some] at hv
    split at hv
    · rename_i h
      exact lt_of_block h
    · cases hv
end Go.Proofs.YtcnkbdbkglggcaaGreatDoor

namespace Go.Proofs.YtcnkbdbkglggcaaGreatDoor
open Go.ChangeShapes Go.WideShapes Go.ChangeAt Go.RowKit

section
variable {P : Program} {W : World} {l : List (String × DataW Unit)}
/-- A slice that is not empty. -/
theorem slice_of_list (hL : laidMet P l W) {n : String} {ds : List (DataW Unit)} (h1 : (n, .slice ds []) ∈ l) {g : Nat} {t e : TypeId} {ce : Nat} (hg0 : P.globalNamed n = some g) (ht0 : (P.globals[g]?).map (·.type) = some t) (hu : P.underlying t = some (.slice e))
    (hce : P.cellsOf e = ce) (h0 : 0 < ds.length) (hce0 : 0 < ce) :
    g < W.heap.size ∧ ∃ b o cap, b < W.heap.size ∧ W.cell? ⟨g, 0, none⟩ = some (.slice (some ⟨b, o, none⟩) ds.length cap) ∧
      ∀ i d, ds[i]? = some d → ∃ cs fuel q, cs.length = ce ∧ (∀ j, j < ce → W.cell? ⟨b, o + i * ce + j, none⟩ = cs[j]?) ∧ DataW.trod (fun _ => ()) P W 0 (fun _ => true) false fuel e cs = some (d, q) := by
  obtain ⟨g', t', cs, fuel, p, hg, ht, hv, htr⟩ := Lib.laidMet.reads hL h1
  obtain rfl : g = g' := Option.some.inj (hg0.symm.trans hg)
  obtain rfl : t = t' := Option.some.inj (ht0.symm.trans ht)
  rcases DataW.trod_slice hu htr with ⟨_, hx⟩ | ⟨a, len, cap, el, rs, m, rfl, hcs, hx, _, hlc, _, hel, helem, _⟩
  · cases hx
  simp only [Prod.mk.injEq, DataW.slice.injEq] at hx
  obtain ⟨⟨eE, _⟩, _⟩ := hx
  have hlen : ds.length = len := by rw [eE, List.length_map, hel]
  subst hlen
  have helem' : ∀ i d, ds[i]? = some d → ∃ cs' q, cs'.length = ce ∧ (∀ j, j < ce → W.cell? ((a.add (i * ce)).add j) = cs'[j]?) ∧ DataW.trod (fun _ => ()) P W 0 (fun _ => true) false m e cs' = some (d, q) := by
    intro i d hi
    have hil : i < ds.length := (List.getElem?_eq_some_iff.1 hi).1
    have h2 := helem i hil
    rw [hce] at h2
    rw [eE, List.getElem?_map] at hi
    obtain ⟨y, hy, rfl⟩ := Option.map_eq_some_iff.1 hi
    rw [hy] at h2
    obtain ⟨ce', hce', hte⟩ := Option.bind_eq_some_iff.1 h2
    obtain ⟨_, hl, hcc⟩ := World.cells?_some hce'
    exact ⟨ce', y.2, hl, hcc, hte⟩
  obtain ⟨d0, hd0⟩ : ∃ d0, ds[0]? = some d0 := ⟨_, List.getElem?_eq_getElem h0⟩
  obtain ⟨cs', q', hl', hc', _⟩ := helem' 0 d0 hd0
  have h3 := hc' 0 hce0
  rw [List.getElem?_eq_getElem (by omega)] at h3
  obtain ⟨b, o, sp⟩ := a
  obtain rfl : sp = none := by
    have h4 : (Addr.add (Addr.add ⟨b, o, sp⟩ (0 * ce)) 0) = ⟨b, o, sp⟩ := by simp [Addr.add]
    rw [h4] at h3
    exact cell_spot h3
  have hcell : W.cell? ⟨g, 0, none⟩ = some (.slice (some ⟨b, o, none⟩) ds.length cap) := by
    rw [World.var?_cell hg hv 0, ← Array.getElem?_toList, hcs]
    rfl
  refine ⟨World.block_lt_of_cell? W _ hcell, b, o, cap, ?_, hcell, fun i d hi => ?_⟩
  · rw [Addr.add_lit, Addr.add_lit] at h3
    exact World.block_lt_of_cell? W _ h3
  · obtain ⟨cs', q, h5, h6, h7⟩ := helem' i d hi
    refine ⟨cs', m, q, h5, fun j hj => ?_, h7⟩
    have := h6 j hj
    rw [Addr.add_lit, Addr.add_lit] at this
    exact this
/-- An interface value. -/
theorem iface_of_list (hL : laidMet P l W) {n nm : String} {d : DataW Unit} (h1 : (n, .iface nm d) ∈ l) {g : Nat} {t : TypeId} {ms} (hg0 : P.globalNamed n = some g) (ht0 : (P.globals[g]?).map (·.type) = some t) (hu : P.underlying t = some (.interface ms)) :
    g < W.heap.size ∧ ∃ te pe, W.cell? ⟨g, 0, none⟩ = some (.iface te pe) := by
  obtain ⟨g', t', cs, fuel, p, hg, ht, hv, htr⟩ := Lib.laidMet.reads hL h1
  obtain rfl : g = g' := Option.some.inj (hg0.symm.trans hg)
  obtain rfl : t = t' := Option.some.inj (ht0.symm.trans ht)
  have h2 : ∃ te pe, cs.toList = [.iface te pe] := by
    cases fuel with
    | zero => simp [DataW.trod] at htr
    | succ m =>
      unfold DataW.trod at htr
      rw [hu] at htr
      split at htr <;> first | (cases htr; done) | (simp_all; done) | skip
  obtain ⟨te, pe, h2⟩ := h2
  have hcell : W.cell? ⟨g, 0, none⟩ = some (.iface te pe) := by
    rw [World.var?_cell hg hv 0, ← Array.getElem?_toList, h2]
    rfl
  exact ⟨World.block_lt_of_cell? W _ hcell, te, pe, hcell⟩
theorem trod_float {H : Type} {enc : TypeId × Value → H} {base : Nat} {sp : Nat → Bool} {held : Bool} {fuel : Nat} {t : TypeId} {cs : List Value} {k : FloatKind} {x : Nat} {q : List MemPlace} (ht : P.underlying t = some (.float k))
    (h : DataW.trod enc P W base sp held fuel t cs = some (.lit (.float k x), q)) : cs = [.float k x] := by
  cases fuel with
  | zero => simp [DataW.trod] at h
  | succ m =>
    unfold DataW.trod at h
    rw [ht] at h
    split at h <;> simp_all
end
/-! ### the tables -/
def nzb (x : Nat) : Bool := match Ieee.double.read x with
  | .number _ n _ => decide (n ≠ 0)
  | _ => false
theorem nz_of_b {x : Nat} (h : nzb x = true) : NZ x := by
  unfold nzb at h
  split at h
  · rename_i t n j he
    exact ⟨t, n, j, of_decide_eq_true h, he⟩
  · cases h
def bz (r : List UInt8) (i : Nat) : Int := ((r.getD i 0).toNat : Int)
def chb (k : Nat) (r : Nat × List UInt8) : Bool :=
  decide (r.2.length < 1000) && decide (r.1 ≤ 19) && (k == 0 || (r.2.all (fun b => decide (48 ≤ b.toNat) && decide (b.toNat ≤ 57)) && (dvl (bz r.2) r.2.length == 5 ^ k) && (r.1 + r.2.length == k + 1) && decide (10 ^ (r.2.length - 1) ≤ 5 ^ k) && decide (1 ≤ r.2.length) && (dvl (bz r.2) r.2.length % 10 != 0)))
theorem cheat_rows : ((List.range 61).all fun k => match Go.Pinned.cheatRows[k]? with
  | some r => chb k r
  | none => false) = true := by kernel_rfl
theorem cheat_len : Go.Pinned.cheatRows.length = 61 := by kernel_rfl
theorem cheat_row (k : Nat) (hk : k ≤ 60) : ∃ r, Go.Pinned.cheatRows[k]? = some r ∧ chb k r = true := by
  have h := (List.all_eq_true.1 cheat_rows) k (List.mem_range.2 (by omega))
  revert h
  cases Go.Pinned.cheatRows[k]? with
  | none => exact fun h => by cases h
  | some r => exact fun h => ⟨r, rfl, h⟩
theorem bt_toList {s : ByteArray} {r : List UInt8} (h : s.data.toList = r) : s.size = r.length ∧ ∀ i, i < r.length → bt s i = bz r i := by
  have hz : s.size = r.length := by rw [← h]; simp
  refine ⟨hz, fun i hi => ?_⟩
  have hi2 : i < s.size := by omega
  rw [← bt_lt hi2]
  unfold bz
  subst h
  rw [List.getD_eq_getElem?_getD, List.getElem?_eq_getElem hi]
  rfl
theorem chb_ok {k : Nat} {r : Nat × List UInt8} {s : ByteArray} (h : chb k r = true) (hs : s.data.toList = r.2) : s.size < 1000 ∧ r.1 ≤ 19 ∧ (1 ≤ k → CheatOK k r.1 (bt s) s.size) := by
  obtain ⟨hz, hb⟩ := bt_toList hs
  unfold chb at h
  simp only [Bool.and_eq_true, Bool.or_eq_true, decide_eq_true_eq, beq_iff_eq, bne_iff_ne, List.all_eq_true] at h
  obtain ⟨⟨h1, h2⟩, h3⟩ := h
  refine ⟨by omega, h2, fun hk => ?_⟩
  rcases h3 with h3 | ⟨⟨⟨⟨⟨a1, a2⟩, a3⟩, a4⟩, a5⟩, a6⟩
  · omega
  have hd : dvl (bt s) s.size = dvl (bz r.2) r.2.length := by
    rw [hz]
    exact dvl_congr fun j hj => hb j hj
  refine ⟨fun j hj => ?_, by rw [hd]; exact a2, by omega, by rw [hz]; exact a4, by omega, by rw [hd]; exact a6⟩
  rw [hb j (by omega)]
  have hj2 : j < r.2.length := by omega
  have := a1 (r.2[j]) (List.getElem_mem hj2)
  unfold bz
  rw [List.getD_eq_getElem?_getD, List.getElem?_eq_getElem hj2]
  simp only [Option.getD_some]
  omega
end Go.Proofs.YtcnkbdbkglggcaaGreatDoor

namespace Go.Proofs.YtcnkbdbkglggcaaGreatDoor
open Go.ChangeShapes Go.WideShapes Go.ChangeAt Go.RowKit

theorem globS_name : Tryz.prog.globalNamed "strconv.ErrSyntax" = some 0 := by kernel_rfl
theorem globS_type : (Tryz.prog.globals[0]?).map (·.type) = some 69 := by kernel_rfl
theorem globR_name : Tryz.prog.globalNamed "strconv.ErrRange" = some 1 := by kernel_rfl
theorem globR_type : (Tryz.prog.globals[1]?).map (·.type) = some 69 := by kernel_rfl
theorem globV_name : Tryz.prog.globalNamed "loop.example/pub-jsonroads/pub/gjson.vchars" = some 4 := by kernel_rfl
theorem globV_type : (Tryz.prog.globals[4]?).map (·.type) = some 158 := by kernel_rfl
theorem globC_name : Tryz.prog.globalNamed "internal/strconv.leftcheats" = some 12 := by kernel_rfl
theorem globC_type : (Tryz.prog.globals[12]?).map (·.type) = some 221 := by kernel_rfl
theorem globP_name : Tryz.prog.globalNamed "internal/strconv.powtab" = some 14 := by kernel_rfl
theorem globP_type : (Tryz.prog.globals[14]?).map (·.type) = some 47 := by kernel_rfl
theorem globF_name : Tryz.prog.globalNamed "internal/strconv.float64pow10" = some 15 := by kernel_rfl
theorem globF_type : (Tryz.prog.globals[15]?).map (·.type) = some 228 := by kernel_rfl
theorem cells3 : Tryz.prog.cellsOf 3 = 1 := by kernel_rfl
theorem cells5 : Tryz.prog.cellsOf 5 = 1 := by kernel_rfl
theorem cells9 : Tryz.prog.cellsOf 9 = 1 := by kernel_rfl
theorem cells32 : Tryz.prog.cellsOf 32 = 1 := by kernel_rfl
theorem cells158 : Tryz.prog.cellsOf 158 = 256 := by kernel_rfl
theorem cells220 : Tryz.prog.cellsOf 220 = 2 := by kernel_rfl
theorem trod_cheat {H : Type} {enc : TypeId × Value → H} {w : World} {base : Nat} {spare : Nat → Bool} {held : Bool} {fuel : Nat} {cs : List Value} {a : Int} {r : List UInt8} {q : List MemPlace}
    (h : DataW.trod enc Tryz.prog w base spare held fuel 220 cs = some (.agg [.lit (.int .i64 a), .lit (.string r)], q)) : cs[0]? = some (.int .i64 a) ∧ ∃ s : ByteArray, cs[1]? = some (.string s) ∧ s.data.toList = r := by
  obtain ⟨xs, n, _, hx, hlen, hxl, hall⟩ := DataW.trod_struct Tryz.underlying220 h
  have hm : xs.map (·.1) = [.lit (.int .i64 a), .lit (.string r)] := by
    have h1 := congrArg Prod.fst hx
    simpa using h1.symm
  cases xs with
  | nil => simp at hm
  | cons u us =>
  cases us with
  | nil => simp at hm
  | cons v vs =>
  simp only [List.map_cons, List.cons.injEq] at hm
  have h0 := hall 0 _ rfl
  have h1 := hall 1 _ rfl
  simp only [List.getElem?_cons_zero, List.getElem?_cons_succ] at h0 h1
  obtain ⟨z0, hz0, hu, _⟩ := DataW.trod_int (k := .i64) Tryz.underlying3 h0
  obtain ⟨s, hz1, hv, _⟩ := DataW.trod_string Tryz.underlying9 h1
  have e0 : z0 = a := by
    have := hm.1
    rw [hu] at this
    simpa using this
  have e1 : s.data.toList = r := by
    have := hm.2.1
    rw [hv] at this
    simpa using this
  subst e0
  refine ⟨?_, s, ?_, e1⟩
  · have hq : ((cs.drop 0).take (Tryz.prog.cellsOf 3))[0]? = some (.int .i64 z0) := by
      have := congrArg (·[0]?) hz0
      simpa using this
    rw [cells3] at hq
    simpa using hq
  · have hq : ((cs.drop 1).take (Tryz.prog.cellsOf 9))[0]? = some (.string s) := by
      have := congrArg (·[0]?) hz1
      simpa using this
    rw [cells9] at hq
    simpa using hq
theorem powtab_is : (Rows.laid_internal_strconv_powtab : DataW Unit) = .slice ((List.range 9).map fun i => .lit (.int .i64 (powt i))) [] := by kernel_rfl
theorem floatpow_is : ∃ zs : List Nat, (Rows.laid_internal_strconv_float64pow10 : DataW Unit) = .slice (zs.map fun x => .lit (.float .f64 x)) [] ∧ zs.length = 23 ∧ zs.all nzb = true := by
  refine ⟨[4607182418800017408, 4621819117588971520, 4636737291354636288, 4652007308841189376, 4666723172467343360, 4681608360884174848, 4696837146684686336, 4711630319722168320, 4726483295884279808, 4741671816366391296, 4756540486875873280, 4771362005757984768, 4786511204640096256, 4801453603149578240, 4816244402031689728, 4831355200913801216, 4846369599423283200, 4861130398305394688, 4876203697187506176, 4891288408196988160, 4906019910204099648, 4921056587992461136, 4936209963552724370], ?_, by kernel_rfl, by kernel_rfl⟩
  kernel_rfl
def vtab : List Int := (List.range 256).map fun (c : Nat) => vcls (c : Int)
theorem vchars_is : (Rows.laid_loop_example_pub_jsonroads_pub_gjson_vchars : DataW Unit) = Lib.tabData .u8 vtab := by kernel_rfl
/-- The table of brackets and quotes: its cells. -/
theorem vchars_cells {W : World} {l : List (String × DataW Unit)} (hL : laidMet Tryz.prog l W) (h1 : ("loop.example/pub-jsonroads/pub/gjson.vchars", Rows.laid_loop_example_pub_jsonroads_pub_gjson_vchars) ∈ l) :
    ∃ cs, W.var? Tryz.prog "loop.example/pub-jsonroads/pub/gjson.vchars" = some cs ∧ cs.toList = vtab.map fun z => Value.int .u8 z := by
  obtain ⟨g, t, cs, fuel, p, hg, ht, hv, htr⟩ := Lib.laidMet.reads hL h1
  obtain rfl : 4 = g := Option.some.inj (globV_name.symm.trans hg)
  obtain rfl : 158 = t := Option.some.inj (globV_type.symm.trans ht)
  rw [vchars_is] at htr
  exact ⟨cs, hv, Lib.cells_of_tab Tryz.underlying158 Tryz.underlying5 cells5 cells158 htr⟩
theorem vch_of_list {W : World} {l : List (String × DataW Unit)} (hL : laidMet Tryz.prog l W) (h1 : ("loop.example/pub-jsonroads/pub/gjson.vchars", Rows.laid_loop_example_pub_jsonroads_pub_gjson_vchars) ∈ l) :
    ∀ x : Int, 0 ≤ x → x < 256 → W.cell? ⟨4, x.toNat, none⟩ = some (.int .u8 (vcls x)) := fun x h0 h2 => by
  obtain ⟨cs, hv, hcs⟩ := vchars_cells hL h1
  rw [World.var?_cell globV_name hv x.toNat, ← Array.getElem?_toList, hcs]
  unfold vtab
  rw [List.getElem?_map, List.getElem?_map, List.getElem?_range (by omega)]
  simp only [Option.map_some]
  rw [show ((x.toNat : Nat) : Int) = x by omega]
theorem powT_of_list {W : World} {l : List (String × DataW Unit)} (hL : laidMet Tryz.prog l W) (h1 : ("internal/strconv.pow10Tab", Rows.laid_internal_strconv_pow10Tab) ∈ l) : PowT W := by
  refine ⟨fun i hi => ?_, (pow_of_list hL h1).2.2⟩
  obtain ⟨g, t, cs, fuel, p, hg, ht, hv, htr⟩ := Lib.laidMet.reads hL h1
  obtain rfl : 11 = g := Option.some.inj (glob11_name.symm.trans hg)
  obtain rfl : 215 = t := Option.some.inj (glob11_type.symm.trans ht)
  have c214 : Tryz.prog.cellsOf 214 = 2 := by kernel_rfl
  rw [show (Rows.laid_internal_strconv_pow10Tab : DataW Unit) = .agg (Go.Pinned.pow10Rows.map fun x => .agg [.lit (.int .u64 x.1), .lit (.int .u64 x.2)]) from rfl] at htr
  obtain ⟨fuel', d, q, hd, he⟩ := Lib.array_elem Tryz.underlying215 htr i hi
  rw [List.getElem?_map] at hd
  obtain ⟨r, _, rfl⟩ := Option.map_eq_some_iff.1 hd
  obtain ⟨q0, q1⟩ := trod_two he rfl
  have q0 := take_drop0 c214 q0
  have q1 := take_drop1 c214 q1
  refine ⟨r.1, r.2, ?_, ?_⟩
  · rw [World.var?_cell glob11_name hv (i * 2), ← Array.getElem?_toList]
    exact q0
  · rw [World.var?_cell glob11_name hv (i * 2 + 1), ← Array.getElem?_toList]
    exact q1
theorem pw10_of_list {W : World} {l : List (String × DataW Unit)} (hL : laidMet Tryz.prog l W) (h1 : ("internal/strconv.float64pow10", Rows.laid_internal_strconv_float64pow10) ∈ l) : ∃ b o cap, Pw10 W W.heap.size b o cap := by
  obtain ⟨zs, hzs, hzl, hnz⟩ := floatpow_is
  rw [hzs] at h1
  have hdl : (zs.map fun x => (DataW.lit (.float .f64 x) : DataW Unit)).length = 23 := by rw [List.length_map, hzl]
  obtain ⟨hg, b, o, cap, hb, hc, hall⟩ := slice_of_list hL h1 globF_name globF_type Tryz.underlying228 cells32 (by omega) (by omega)
  rw [hdl] at hc
  refine ⟨b, o, cap, hg, Nat.le_refl _, hb, hc, fun i hi => ?_⟩
  have hi2 : i < zs.length := by omega
  obtain ⟨cs, fuel, q, h2, h3, h4⟩ := hall i (.lit (.float .f64 zs[i])) (by rw [List.getElem?_map, List.getElem?_eq_getElem hi2]; rfl)
  have h5 := trod_float Tryz.underlying32 h4
  have h6 := h3 0 (by omega)
  rw [h5, Nat.mul_one, Nat.add_zero] at h6
  exact ⟨zs[i], h6, nz_of_b (List.all_eq_true.1 hnz _ (List.getElem_mem hi2))⟩
theorem cht_of_list {W : World} {l : List (String × DataW Unit)} (hL : laidMet Tryz.prog l W) (h1 : ("internal/strconv.leftcheats", Rows.laid_internal_strconv_leftcheats) ∈ l) : ∃ b o cap, Cht W W.heap.size b o cap := by
  rw [show (Rows.laid_internal_strconv_leftcheats : DataW Unit) = .slice (Go.Pinned.cheatRows.map fun x => .agg [.lit (.int .i64 x.1), .lit (.string x.2)]) [] from rfl] at h1
  have hdl : (Go.Pinned.cheatRows.map fun x => (.agg [.lit (.int .i64 x.1), .lit (.string x.2)] : DataW Unit)).length = 61 := by rw [List.length_map, cheat_len]
  obtain ⟨hg, b, o, cap, hb, hc, hall⟩ := slice_of_list hL h1 globC_name globC_type Tryz.underlying221 cells220 (by omega) (by omega)
  rw [hdl] at hc
  refine ⟨b, o, cap, hg, Nat.le_refl _, hb, hc, fun k hk => ?_⟩
  obtain ⟨r, hr, hck⟩ := cheat_row k hk
  obtain ⟨cs, fuel, q, h2, h3, h4⟩ := hall k (.agg [.lit (.int .i64 r.1), .lit (.string r.2)]) (by rw [List.getElem?_map, hr]; rfl)
  obtain ⟨e0, s, e1, hs⟩ := trod_cheat h4
  obtain ⟨z1, z2, z3⟩ := chb_ok hck hs
  have h5 := h3 0 (by omega)
  have h6 := h3 1 (by omega)
  rw [e0, Nat.add_zero] at h5
  rw [e1] at h6
  exact ⟨r.1, s, h5, h6, z1, z2, z3⟩
theorem info_of_list {W : World} {l : List (String × DataW Unit)} (hL : laidMet Tryz.prog l W) (h2 : ("internal/strconv.float64info", Rows.laid_internal_strconv_float64info) ∈ l) :
    W.cell? ⟨10, 0, none⟩ = some (.int .u64 52) ∧ W.cell? ⟨10, 1, none⟩ = some (.int .u64 11) ∧ W.cell? ⟨10, 2, none⟩ = some (.int .i64 (-1023)) := by
  obtain ⟨g, t, cs2, fuel2, p2, hg2, ht2, hv2, htr2⟩ := Lib.laidMet.reads hL h2
  obtain rfl : 10 = g := Option.some.inj (glob10_name.symm.trans hg2)
  obtain rfl : 193 = t := Option.some.inj (glob10_type.symm.trans ht2)
  obtain ⟨xs, n, _, hx2, hlen, hxl, hall⟩ := DataW.trod_struct Tryz.underlying193 htr2
  have hxs : xs.map (·.1) = [.lit (.int .u64 52), .lit (.int .u64 11), .lit (.int .i64 (-1023))] := by
    have := congrArg Prod.fst hx2
    simpa [Rows.laid_internal_strconv_float64info] using this.symm
  have c120 : Tryz.prog.cellsOf 120 = 1 := by kernel_rfl
  have h0 := hall 0 _ rfl
  have h1 := hall 1 _ rfl
  have h3 := hall 2 _ rfl
  match xs, hxs with
  | [y0, y1, y2], hxs =>
    simp only [List.map_cons, List.map_nil, List.cons.injEq, and_true] at hxs
    obtain ⟨e0, e1, e2⟩ := hxs
    simp only [List.getElem?_cons_zero, List.getElem?_cons_succ] at h0 h1 h3
    obtain ⟨z0, hz0, hy0, _⟩ := DataW.trod_int (k := .u64) Tryz.underlying120 h0
    obtain ⟨z1, hz1, hy1, _⟩ := DataW.trod_int (k := .u64) Tryz.underlying120 h1
    obtain ⟨z2, hz2, hy2, _⟩ := DataW.trod_int (k := .i64) Tryz.underlying3 h3
    rw [hy0] at e0
    rw [hy1] at e1
    rw [hy2] at e2
    simp only [DataW.lit.injEq, Lit.int.injEq, true_and] at e0 e1 e2
    subst e0 e1 e2
    have k0 := congrArg (·[0]?) hz0
    have k1 := congrArg (·[0]?) hz1
    have k2 := congrArg (·[0]?) hz2
    simp [List.getElem?_drop, c120, cells3] at k0 k1 k2
    refine ⟨?_, ?_, ?_⟩
    · rw [World.var?_cell glob10_name hv2 0]; simpa using k0
    · rw [World.var?_cell glob10_name hv2 1]; simpa using k1
    · rw [World.var?_cell glob10_name hv2 2]; simpa using k2
theorem fpt_of_list {W : World} {l : List (String × DataW Unit)} (hL : laidMet Tryz.prog l W) (h1 : ("internal/strconv.powtab", Rows.laid_internal_strconv_powtab) ∈ l) (h2 : ("internal/strconv.float64info", Rows.laid_internal_strconv_float64info) ∈ l) : ∃ b o cap, Fpt W W.heap.size b o cap := by
  rw [powtab_is] at h1
  have hdl : ((List.range 9).map fun i => (.lit (.int .i64 (powt i)) : DataW Unit)).length = 9 := by simp
  obtain ⟨hg, b, o, cap, hb, hc, hall⟩ := slice_of_list hL h1 globP_name globP_type Tryz.underlying47 cells3 (by omega) (by omega)
  rw [hdl] at hc
  obtain ⟨i0, i1, i2⟩ := info_of_list hL h2
  refine ⟨b, o, cap, hg, Nat.le_refl _, hb, hc, fun i hi => ?_, i0, i1, i2⟩
  obtain ⟨cs, fuel, q, h2, h3, h4⟩ := hall i (.lit (.int .i64 (powt i))) (by rw [List.getElem?_map, List.getElem?_range (by omega)]; rfl)
  obtain ⟨z, hz, hx, _⟩ := DataW.trod_int (k := .i64) Tryz.underlying3 h4
  simp only [Prod.mk.injEq, DataW.lit.injEq, Lit.int.injEq, true_and] at hx
  obtain ⟨rfl, _⟩ := hx
  have h6 := h3 0 (by omega)
  rw [hz, Nat.mul_one, Nat.add_zero] at h6
  exact h6
/-- All of it. -/
theorem glb_of_list {W : World} {l : List (String × DataW Unit)} (hL : laidMet Tryz.prog l W)
    (m0 : ("strconv.ErrSyntax", Rows.laid_strconv_ErrSyntax) ∈ l) (m1 : ("strconv.ErrRange", Rows.laid_strconv_ErrRange) ∈ l) (m3 : ("internal/strconv.optimize", Rows.laid_internal_strconv_optimize) ∈ l)
    (m4 : ("loop.example/pub-jsonroads/pub/gjson.vchars", Rows.laid_loop_example_pub_jsonroads_pub_gjson_vchars) ∈ l) (m10 : ("internal/strconv.float64info", Rows.laid_internal_strconv_float64info) ∈ l)
    (m11 : ("internal/strconv.pow10Tab", Rows.laid_internal_strconv_pow10Tab) ∈ l) (m12 : ("internal/strconv.leftcheats", Rows.laid_internal_strconv_leftcheats) ∈ l) (m14 : ("internal/strconv.powtab", Rows.laid_internal_strconv_powtab) ∈ l)
    (m15 : ("internal/strconv.float64pow10", Rows.laid_internal_strconv_float64pow10) ∈ l) : Glb W W.heap.size := by
  have hg := gl_of_list hL m3 m10
  have hlt := hg.lt
  obtain ⟨_, e0⟩ := iface_of_list hL m0 globS_name globS_type Tryz.underlying69
  obtain ⟨hl1, e1⟩ := iface_of_list hL m1 globR_name globR_type Tryz.underlying69
  exact ⟨⟨hg, powT_of_list hL m11, pw10_of_list hL m15, cht_of_list hL m12, fpt_of_list hL m14 m10, ⟨e0, e1, hl1⟩, Nat.le_refl _⟩, vch_of_list hL m4, by omega⟩
end Go.Proofs.YtcnkbdbkglggcaaGreatDoor
