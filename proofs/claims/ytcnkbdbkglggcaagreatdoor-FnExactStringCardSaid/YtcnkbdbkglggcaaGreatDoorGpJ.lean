/-
  The row and the tied card of FnExactString. No condition.
-/
import Derived.Test.YtcnkbdbkglggcaaGreatDoorCards
import Derived.Test.YtcnkbdbkglggcaaGreatDoorTie
import Derived.Test.YtcnkbdbkglggcaaGreatDoorGpI
import Derived.ProofKit
import Derived.OpenShut
import Derived.ChangeMaps5
import Derived.Lib.LaidU8
import Derived.Lay
import Derived.LaidOnce
import Derived.SevenTiedAt
namespace Go.Proofs.YtcnkbdbkglggcaaGreatDoor
open Go.ChangeShapes Go.WideShapes Go.ChangeAt Go.RowKit
open Go.ChangeMaps (open_string shut_string)

theorem ownKnob_tryz : ownKnob Tryz.prog.godebug = none := by kernel_rfl
theorem g3_name : Tryz.prog.globalNamed "internal/strconv.optimize" = some 3 := by kernel_rfl
theorem g3_type : (Tryz.prog.globals[3]?).map (·.type) = some 4 := by kernel_rfl
theorem g10_name : Tryz.prog.globalNamed "internal/strconv.float64info" = some 10 := by kernel_rfl
theorem g10_type : (Tryz.prog.globals[10]?).map (·.type) = some 193 := by kernel_rfl
/-- From the list: what the two variables hold. -/
theorem gl_of_laid {W : World} {l : List (String × DataW Unit)} (hL : laidMet Tryz.prog l W) (h1 : ("internal/strconv.optimize", Rows.laid_internal_strconv_optimize) ∈ l) (h2 : ("internal/strconv.float64info", Rows.laid_internal_strconv_float64info) ∈ l) : Gl W := by
  obtain ⟨g, t, cs, fuel, p, hg, ht, hv, htr⟩ := Lib.laidMet.reads hL h1
  obtain rfl : 3 = g := Option.some.inj (g3_name.symm.trans hg)
  obtain rfl : 4 = t := Option.some.inj (g3_type.symm.trans ht)
  obtain ⟨b, hcs, hx⟩ := DataW.trod_bool Tryz.underlying4 htr
  have hb : b = true := by
    have := congrArg Prod.fst hx
    simpa [Rows.laid_internal_strconv_optimize] using this.symm
  subst hb
  obtain ⟨g, t, cs2, fuel2, p2, hg2, ht2, hv2, htr2⟩ := Lib.laidMet.reads hL h2
  obtain rfl : 10 = g := Option.some.inj (g10_name.symm.trans hg2)
  obtain rfl : 193 = t := Option.some.inj (g10_type.symm.trans ht2)
  obtain ⟨xs, n, _, hx2, hlen, hxl, hall⟩ := DataW.trod_struct Tryz.underlying193 htr2
  have hxs : xs.map (·.1) = [.lit (.int .u64 52), .lit (.int .u64 11), .lit (.int .i64 (-1023))] := by
    have := congrArg Prod.fst hx2
    simpa [Rows.laid_internal_strconv_float64info] using this.symm
  have h0 := hall 0 _ rfl
  have c120 : Tryz.prog.cellsOf 120 = 1 := by kernel_rfl
  obtain ⟨y, hy, hy1⟩ : ∃ y, xs[0]? = some y ∧ y.1 = .lit (.int .u64 52) := by
    cases xs with
    | nil => simp at hxs
    | cons y ys =>
      simp only [List.map_cons, List.cons.injEq] at hxs
      exact ⟨y, rfl, hxs.1⟩
  obtain ⟨z, hz, hyz, _⟩ := DataW.trod_int (k := .u64) Tryz.underlying120 (h0.trans hy)
  have hz52 : z = 52 := by
    rw [hyz] at hy1
    simpa using hy1
  subst hz52
  have hcell : cs2[0]? = some (.int .u64 52) := by
    have hq : ((cs2.toList.drop 0).take (Tryz.prog.cellsOf 120))[0]? = some (.int .u64 52) := by
      have := congrArg (·[0]?) hz
      simpa using this
    rw [c120] at hq
    simpa using hq
  refine ⟨?_, ?_, ?_⟩
  · rw [World.var?_cell g3_name hv 0, ← Array.getElem?_toList, hcs]; rfl
  · rw [World.var?_cell g10_name hv2 0]; exact hcell
  · simp only [World.var?, g10_name, Option.bind_some] at hv2
    split at hv2
    · rename_i h
      exact lt_of_block h
    · cases hv2

theorem law_string_big (w : World) (s : ByteArray) (h : 2147483647 < s.size) : Calls Tryz.prog 4 #[.string s] w fun e w' => e = .returned (.bool true) ∧ Upd [] w w' := by
  have d0 : decide ((2147483647 : Int) < (s.size : Int)) = true := decide_eq_true (by omega)
  go_enter Tryz.func4, Tryz.ntmps4
  go_wp2_with fail
  go_ret
  exact ⟨rfl, Upd.refl _ _⟩
theorem law_string_all (w : World) (s : ByteArray) (hg : Gl w) : Calls Tryz.prog 4 #[.string s] w fun e w' => e = .returned (.bool true) ∧ Upd [] w w' := by
  rcases Nat.lt_or_ge 2147483647 s.size with h | h
  · exact law_string_big w s h
  · exact law_string w s hg (by omega)
set_option maxRecDepth 100000 in
theorem string_lifted (os : Os) (started : os.Started) (H : Type) (enc : TypeId × Value → H) :
    ReturnsInHanded {} Tryz.checked os 4 .any (fun w args => (Rows.fnExactStringSpec.pre enc Tryz.prog Tryz.f4 [] false w args ∧ laidMetH Tryz.prog Rows.fnExactStringRow.laid w) ∧ sizedMet enc Tryz.prog Tryz.f4 (OpenSpec.ofChange Rows.fnExactStringSpec) false w args)
      (Rows.fnExactStringSpec.post enc Tryz.prog Tryz.f4 false true false false) := by
  refine returnsInHanded_of_change_and (C := Tryz.checked) (X := fun w _ => laidMetH Tryz.prog Rows.fnExactStringRow.laid w) (fun _ _ _ hh h => h.of_heap hh) ownKnob_tryz started (by kernel_rfl) Tryz.func4
    (ChangeSpec.witness_shaped (enc := enc) (C := Tryz.checked) (os := os) (X := fun w _ => laidMetH Tryz.prog Rows.fnExactStringRow.laid w) false (World.laidAll Tryz.prog os Rows.fnExactStringRow.laid) #[.string ⟨#[]⟩] 8 (World.laidAll_os _ _ _)
      (World.shaped_of_ZipB (by kernel_rfl) (by kernel_rfl)) (by kernel_rfl) (by kernel_rfl) (by kernel_rfl)
      (by rw [MakeChecks.laidMetH_plain _ _ _ (by kernel_rfl)]; exact laidMet_laidAll _ (by kernel_rfl) (by kernel_rfl))) ?_
  intro W base args ds gs before hval0 hW _ _ hL _
  have hval : ∀ (j : Nat) t v, Tryz.f4.params[j]? = some t → args[j]? = some v → Value.okWide Tryz.prog W .any base t v := hval0
  have hW' := hW
  obtain ⟨p, q, hA0, hV, rfl, _, _⟩ := hW
  have hA : DataW.TrodAll enc Tryz.prog W 0 (fun _ => true) true Tryz.f4.params.toList args.toList ds p := hA0
  rw [Tryz.params4] at hA hval
  obtain ⟨v0, d0, rfl, rfl, h0⟩ := trodAll_one hA
  obtain ⟨rfl, rfl⟩ := trodVars_none hV
  obtain ⟨s, rfl, rfl, rfl, ws⟩ := open_string Tryz.underlying9 (hval 0 9 v0 rfl rfl) h0
  simp only [List.append_nil] at hW'
  rw [MakeChecks.laidMetH_plain _ _ _ (by kernel_rfl)] at hL
  have hg : Gl W := gl_of_laid hL (.tail _ (.tail _ (.tail _ (.tail _ (.head _))))) (.tail _ (.tail _ (.tail _ (.head _))))
  refine (law_string_all W s hg).mono fun e W' ⟨he, hu⟩ => ?_
  subst he
  exact ⟨_, rfl, _, _, _, [], [], [], hW', trodAll_mk1 (shut_bool Tryz.underlying4 _), trodAll_mk1 (shut_string Tryz.underlying9 ws), rfl, hu.below.frame _, fun h => by cases h⟩
theorem string_said : Rows.FnExactStringSaid :=
  OpenClaim.holds_of_wide 4 Tryz.f4 rfl rfl rfl rfl rfl rfl rfl ⟨rfl, rfl, rfl, rfl, rfl⟩ rfl rfl rfl rfl rfl (by kernel_rfl) Tryz.func4 (by kernel_rfl)
    (of_decide_eq_true (by kernel_rfl)) (by unfold Func.isWrapper; first | (rw [if_pos (by decide +kernel)]; kernel_rfl) | (rw [if_neg (by decide +kernel)]; exact ⟨rfl, rfl⟩))
    (fun os started H enc _ => string_lifted os started H enc)
theorem string_plain (f : FuncId) (fn : Func) (hf : Tryz.pinned.checked.prog.funcNamed "loop.example/pub-jsonroads/laws.FnExactString" = some f) (hfn : Tryz.pinned.checked.prog.funcs[f]? = some fn) :
    true = Tryz.pinned.checked.prog.looks [] ∧ ∀ (j : Nat) t, fn.params[j]? = some t → Tryz.pinned.checked.prog.wantsStandIn t = false := by
  obtain rfl : f = 4 := Option.some.inj ((show Tryz.prog.funcNamed "loop.example/pub-jsonroads/laws.FnExactString" = some 4 by kernel_rfl).symm.trans hf) |>.symm
  obtain rfl : fn = Tryz.f4 := (Option.some.inj (Tryz.func4.symm.trans hfn)).symm
  refine ⟨by kernel_rfl, fun j t ht => ?_⟩
  rw [Tryz.params4] at ht
  obtain rfl : t = 9 := by simpa using Array.mem_of_getElem? ht
  exact (show Tryz.prog.wantsStandIn 9 = false by kernel_rfl)
/-- The card. -/
theorem string_card : Rows.FnExactStringCardSaid :=
  Claim7.holds_tied_plain_at .later [] _ _ _ _ string_said (fun _ h => by cases h) (by kernel_rfl) (fun _ h => by cases h) fnExactString_row_tie rfl ⟨rfl, rfl⟩ (by kernel_rfl) rfl string_plain (by kernel_rfl)
#print axioms string_card
end Go.Proofs.YtcnkbdbkglggcaaGreatDoor
