/-
  What the listed variables hold that the laws' roads read. No condition.
-/
import Derived.Test.YtcnkbdbkglggcaaGreatDoorCards
import Derived.Test.YtcnkbdbkglggcaaGreatDoorGpE
import Derived.ProofKit
import Derived.OpenShut
import Derived.ChangeMaps5
import Derived.Lib.LaidU8
import Derived.Lay
import Derived.LaidOnce
import Derived.SevenTiedAt
namespace Go.Proofs.YtcnkbdbkglggcaaGreatDoor
open Go.ChangeShapes Go.WideShapes Go.ChangeAt Go.RowKit
open Go.ChangeMaps (open_string shut_string)

theorem ownKnob_seat : ownKnob Tryz.prog.godebug = none := by kernel_rfl
theorem glob3_name : Tryz.prog.globalNamed "internal/strconv.optimize" = some 3 := by kernel_rfl
theorem glob3_type : (Tryz.prog.globals[3]?).map (·.type) = some 4 := by kernel_rfl
theorem glob10_name : Tryz.prog.globalNamed "internal/strconv.float64info" = some 10 := by kernel_rfl
theorem glob10_type : (Tryz.prog.globals[10]?).map (·.type) = some 193 := by kernel_rfl
/-- From the list: what the two variables hold. -/
theorem gl_of_list {W : World} {l : List (String × DataW Unit)} (hL : laidMet Tryz.prog l W) (h1 : ("internal/strconv.optimize", Rows.laid_internal_strconv_optimize) ∈ l) (h2 : ("internal/strconv.float64info", Rows.laid_internal_strconv_float64info) ∈ l) : Gl W := by
  obtain ⟨g, t, cs, fuel, p, hg, ht, hv, htr⟩ := Lib.laidMet.reads hL h1
  obtain rfl : 3 = g := Option.some.inj (glob3_name.symm.trans hg)
  obtain rfl : 4 = t := Option.some.inj (glob3_type.symm.trans ht)
  obtain ⟨b, hcs, hx⟩ := DataW.trod_bool Tryz.underlying4 htr
  have hb : b = true := by
    have := congrArg Prod.fst hx
    simpa [Rows.laid_internal_strconv_optimize] using this.symm
  subst hb
  obtain ⟨g, t, cs2, fuel2, p2, hg2, ht2, hv2, htr2⟩ := Lib.laidMet.reads hL h2
  obtain rfl : 10 = g := Option.some.inj (glob10_name.symm.trans hg2)
  obtain rfl : 193 = t := Option.some.inj (glob10_type.symm.trans ht2)
  obtain ⟨xs, n, _, hx2, hlen, hxl, hall⟩ := DataW.trod_struct Tryz.underlying193 htr2
  have hxs : xs.map (·.1) = [.lit (.int .u64 52), .lit (.int .u64 11), .lit (.int .i64 (-1023))] := by
    have := congrArg Prod.fst hx2
    simpa [Rows.laid_internal_strconv_float64info] using this.symm
  have h0 := hall 0 _ rfl
  have c120 : Tryz.prog.cellsOf 120 = 1 := by kernel_rfl
  obtain ⟨y, hy, hy1⟩ : ∃ y, xs[0]? = some y ∧ y.1 = .lit (.int .u64 52) := by
    cases xs with
    | nil => simp at hxs
    | cons y ys =>
      simp only [List.map_cons, List.cons.injEq] at hxs
      exact ⟨y, rfl, hxs.1⟩
  obtain ⟨z, hz, hyz, _⟩ := DataW.trod_int (k := .u64) Tryz.underlying120 (h0.trans hy)
  have hz52 : z = 52 := by
    rw [hyz] at hy1
    simpa using hy1
  subst hz52
  have hcell : cs2[0]? = some (.int .u64 52) := by
    have hq : ((cs2.toList.drop 0).take (Tryz.prog.cellsOf 120))[0]? = some (.int .u64 52) := by
      have := congrArg (·[0]?) hz
      simpa using this
    rw [c120] at hq
    simpa using hq
  refine ⟨?_, ?_, ?_⟩
  · rw [World.var?_cell glob3_name hv 0, ← Array.getElem?_toList, hcs]; rfl
  · rw [World.var?_cell glob10_name hv2 0]; exact hcell
  · simp only [World.var?, glob10_name, Option.bind_some] at hv2
    split at hv2
    · rename_i h
      exact lt_of_block h
    · cases hv2

end Go.Proofs.YtcnkbdbkglggcaaGreatDoor
