/-
  What the listed table of powers of ten holds at the power nought. No condition.
-/
import Derived.Test.YtcnkbdbkglggcaaGreatDoorGqK
namespace Go.Proofs.YtcnkbdbkglggcaaGreatDoor
open Go.ChangeShapes Go.WideShapes Go.ChangeAt Go.RowKit

theorem glob11_name : Tryz.prog.globalNamed "internal/strconv.pow10Tab" = some 11 := by kernel_rfl
theorem glob11_type : (Tryz.prog.globals[11]?).map (·.type) = some 215 := by kernel_rfl
theorem pow_row : Go.Pinned.pow10Rows[348]? = some (9223372036854775808, 0) := by kernel_rfl
theorem trod_two {H : Type} {enc : TypeId × Value → H} {w : World} {base : Nat} {spare : Nat → Bool} {held : Bool} {fuel : Nat} {cs : List Value} {y : DataW H × List MemPlace} {a b : Int}
    (h : DataW.trod enc Tryz.prog w base spare held fuel 214 cs = some y) (hy : y.1 = .agg [.lit (.int .u64 a), .lit (.int .u64 b)]) : cs[0]? = some (.int .u64 a) ∧ cs[1]? = some (.int .u64 b) := by
  obtain ⟨xs, n, _, hx, hlen, hxl, hall⟩ := DataW.trod_struct Tryz.underlying214 h
  have c97 : Tryz.prog.cellsOf 97 = 1 := by kernel_rfl
  have hm : xs.map (·.1) = [.lit (.int .u64 a), .lit (.int .u64 b)] := by
    have h1 := congrArg Prod.fst hx
    rw [hy] at h1
    simpa using h1.symm
  cases xs with
  | nil => simp at hm
  | cons u us =>
  cases us with
  | nil => simp at hm
  | cons v vs =>
  simp only [List.map_cons, List.cons.injEq] at hm
  have h0 := hall 0 _ rfl
  have h1 := hall 1 _ rfl
  simp only [List.getElem?_cons_zero, List.getElem?_cons_succ] at h0 h1
  obtain ⟨z0, hz0, hu, _⟩ := DataW.trod_int (k := .u64) Tryz.underlying97 h0
  obtain ⟨z1, hz1, hv, _⟩ := DataW.trod_int (k := .u64) Tryz.underlying97 h1
  have e0 : z0 = a := by
    have := hm.1
    rw [hu] at this
    simpa using this
  have e1 : z1 = b := by
    have := hm.2.1
    rw [hv] at this
    simpa using this
  subst e0 e1
  refine ⟨?_, ?_⟩
  · have hq : ((cs.drop 0).take (Tryz.prog.cellsOf 97))[0]? = some (.int .u64 z0) := by
      have := congrArg (·[0]?) hz0
      simpa using this
    rw [c97] at hq
    simpa using hq
  · have hq : ((cs.drop 1).take (Tryz.prog.cellsOf 97))[0]? = some (.int .u64 z1) := by
      have := congrArg (·[0]?) hz1
      simpa using this
    rw [c97] at hq
    simpa using hq
theorem get_row {α : Type} {xs : List α} {f : Nat × Nat → α} {R : List (Nat × Nat)} {r : Nat × Nat} (h : R[348]? = some r) (hm : xs = R.map f) : xs[348]? = some (f r) := by
  rw [hm, List.getElem?_map, h]
  rfl
theorem take_drop0 {α : Type} {l : List α} {k c : Nat} {x : α} (hc : c = 2) (h : ((l.drop (k * c)).take c)[0]? = some x) : l[k * 2]? = some x := by
  subst hc
  simpa [List.getElem?_take, List.getElem?_drop] using h
theorem take_drop1 {α : Type} {l : List α} {k c : Nat} {x : α} (hc : c = 2) (h : ((l.drop (k * c)).take c)[1]? = some x) : l[k * 2 + 1]? = some x := by
  subst hc
  simpa [List.getElem?_take, List.getElem?_drop] using h
set_option maxRecDepth 100000 in
theorem pow_of_list {W : World} {l : List (String × DataW Unit)} (hL : laidMet Tryz.prog l W) (h1 : ("internal/strconv.pow10Tab", Rows.laid_internal_strconv_pow10Tab) ∈ l) :
    W.cell? ⟨11, 696, none⟩ = some (.int .u64 9223372036854775808) ∧ W.cell? ⟨11, 697, none⟩ = some (.int .u64 0) ∧ 11 < W.heap.size := by
  obtain ⟨g, t, cs, fuel, p, hg, ht, hv, htr⟩ := Lib.laidMet.reads hL h1
  obtain rfl : 11 = g := Option.some.inj (glob11_name.symm.trans hg)
  obtain rfl : 215 = t := Option.some.inj (glob11_type.symm.trans ht)
  obtain ⟨xs, m, _, hx, hlen, hxl, hall⟩ := DataW.trod_array Tryz.underlying215 htr
  have c214 : Tryz.prog.cellsOf 214 = 2 := by kernel_rfl
  have h348 := hall 348 (by decide)
  have hm : xs.map (·.1) = Go.Pinned.pow10Rows.map fun x => .agg [.lit (.int .u64 x.1), .lit (.int .u64 x.2)] := by
    have h2 := congrArg Prod.fst hx
    have h3 : (Rows.laid_internal_strconv_pow10Tab : DataW Unit) = .agg (Go.Pinned.pow10Rows.map fun x => .agg [.lit (.int .u64 x.1), .lit (.int .u64 x.2)]) := rfl
    rw [h3] at h2
    exact (DataW.agg.inj h2).symm
  have hget : (xs.map (·.1))[348]? = some (.agg [.lit (.int .u64 9223372036854775808), .lit (.int .u64 0)]) := get_row (f := fun x => (.agg [.lit (.int .u64 x.1), .lit (.int .u64 x.2)] : DataW Unit)) pow_row hm
  rw [List.getElem?_map] at hget
  obtain ⟨y, hy, hy1⟩ := Option.map_eq_some_iff.1 hget
  obtain ⟨q0, q1⟩ := trod_two (h348.trans hy) hy1
  have q0 := take_drop0 c214 q0
  have q1 := take_drop1 c214 q1
  refine ⟨?_, ?_, ?_⟩
  · rw [World.var?_cell glob11_name hv 696, ← Array.getElem?_toList]
    exact q0
  · rw [World.var?_cell glob11_name hv 697, ← Array.getElem?_toList]
    exact q1
  · simp only [World.var?, glob11_name, Option.bind_some] at hv
    split at hv
    · rename_i h
      exact lt_of_block h
    · cases hv
end Go.Proofs.YtcnkbdbkglggcaaGreatDoor
