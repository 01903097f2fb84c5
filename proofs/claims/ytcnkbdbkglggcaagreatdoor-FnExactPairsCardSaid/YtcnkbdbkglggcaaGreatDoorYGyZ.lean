/-
  The row and the tied card of FnExactPairs. No condition.
-/
import Derived.Test.YtcnkbdbkglggcaaGreatDoorTie
import Derived.Test.YtcnkbdbkglggcaaGreatDoorYGyX
import Derived.Test.YtcnkbdbkglggcaaGreatDoorZMT
set_option linter.unusedVariables false
set_option linter.unusedSimpArgs false
namespace Go.Proofs.YtcnkbdbkglggcaaGreatDoor
open Go.ChangeShapes Go.WideShapes Go.ChangeAt Go.RowKit
open Go.ChangeMaps (open_string shut_string)

theorem law_pairs_big (w : World) (s : ByteArray) (h : 2147483647 < s.size) : Calls Tryz.prog 7 #[.string s] w fun e w' => e = .returned (.bool true) ∧ Upd [] w w' := by
  have d0 : decide ((2147483647 : Int) < (s.size : Int)) = true := decide_eq_true (by omega)
  go_enter Tryz.func7, Tryz.ntmps7
  go_wp2_with fail
  go_ret
  exact ⟨rfl, Upd.refl _ _⟩
theorem law_pairs_all (w : World) (B : Nat) (hg : Glb w B) (s : ByteArray) : Calls Tryz.prog 7 #[.string s] w fun e w' => e = .returned (.bool true) ∧ Upd [] w w' := by
  rcases Nat.lt_or_ge 2147483647 s.size with h | h
  · exact law_pairs_big w s h
  · exact law_pairs w B hg s (by omega)
theorem reads_vtab {H : Type} (enc : TypeId × Value → H) (W : World) (sp : Nat → Bool) : DataW.trod enc Tryz.prog W 0 sp true 2 158 (vtab.map fun z => Value.int .u8 z) = some (Lib.tabData .u8 vtab, []) := by kernel_rfl
theorem var_upd {W W' : World} {n : String} {g : Nat} {cs : Array Value} (hg : Tryz.prog.globalNamed n = some g) (h : W.var? Tryz.prog n = some cs) (hb : W'.heap[g]? = W.heap[g]?) : W'.var? Tryz.prog n = some cs := by
  simp only [World.var?, hg, Option.bind_some] at h ⊢
  rw [hb]
  exact h
set_option maxRecDepth 100000 in
theorem pairs_lifted (os : Os) (started : os.Started) (H : Type) (enc : TypeId × Value → H) :
    ReturnsInHanded {} Tryz.checked os 7 .any (fun w args => (Rows.fnExactPairsSpec.pre enc Tryz.prog Tryz.f7 [] false w args ∧ laidMetH Tryz.prog Rows.fnExactPairsRow.laid w) ∧ sizedMet enc Tryz.prog Tryz.f7 (OpenSpec.ofChange Rows.fnExactPairsSpec) false w args)
      (Rows.fnExactPairsSpec.post enc Tryz.prog Tryz.f7 false true false false) := by
  refine returnsInHanded_of_change_and (C := Tryz.checked) (X := fun w _ => laidMetH Tryz.prog Rows.fnExactPairsRow.laid w) (fun _ _ _ hh h => h.of_heap hh) ownKnob_seat started (by kernel_rfl) Tryz.func7
    (ChangeSpec.witness_shaped (enc := enc) (C := Tryz.checked) (os := os) (X := fun w _ => laidMetH Tryz.prog Rows.fnExactPairsRow.laid w) false (World.laidAll Tryz.prog os Rows.fnExactPairsRow.laid) #[.string ⟨#[]⟩] 8 (World.laidAll_os _ _ _)
      (World.shaped_of_ZipB (by kernel_rfl) (by kernel_rfl)) (by kernel_rfl) (by kernel_rfl) (by kernel_rfl)
      (by rw [MakeChecks.laidMetH_plain _ _ _ (by kernel_rfl)]; exact laidMet_laidAll _ (by kernel_rfl) (by kernel_rfl))) ?_
  intro W base args ds gs before hval0 hW _ _ hL _
  have hval : ∀ (j : Nat) t v, Tryz.f7.params[j]? = some t → args[j]? = some v → Value.okWide Tryz.prog W .any base t v := hval0
  have hW' := hW
  obtain ⟨p, q, hA0, hV0, rfl, _, _⟩ := hW
  have hA : DataW.TrodAll enc Tryz.prog W 0 (fun _ => true) true Tryz.f7.params.toList args.toList ds p := hA0
  have hV : DataW.TrodVars enc Tryz.prog W (fun _ => true) ["loop.example/pub-jsonroads/pub/gjson.vchars"] gs q := hV0
  rw [Tryz.params7] at hA hval
  obtain ⟨v0, d0, rfl, rfl, h0⟩ := trodAll_one hA
  obtain ⟨s, rfl, rfl, rfl, ws⟩ := open_string Tryz.underlying9 (hval 0 9 v0 rfl rfl) h0
  rw [MakeChecks.laidMetH_plain _ _ _ (by kernel_rfl)] at hL
  have mem : ∀ (k : Nat) (y : String × DataW Unit), Rows.fnExactPairsRow.laid[k]? = some y → y ∈ Rows.fnExactPairsRow.laid := fun k y h => List.mem_of_getElem? h
  have hg : Glb W W.heap.size := glb_of_list hL (mem 10 _ rfl) (mem 9 _ rfl) (mem 4 _ rfl) (mem 11 _ rfl) (mem 3 _ rfl) (mem 13 _ rfl) (mem 12 _ rfl) (mem 5 _ rfl) (mem 6 _ rfl)
  obtain ⟨cs', hv', hcs'⟩ := vchars_cells hL (mem 11 _ rfl)
  obtain ⟨g, t, cs, fuel, d, p', rfl, hgn, hgt, hvar, hd, rfl⟩ := trodVars_one hV
  obtain rfl : 4 = g := Option.some.inj (globV_name.symm.trans hgn)
  obtain rfl : 158 = t := Option.some.inj (globV_type.symm.trans hgt)
  obtain rfl : cs = cs' := Option.some.inj (hvar.symm.trans hv')
  rw [hcs'] at hd
  obtain ⟨rfl, rfl⟩ : d = Lib.tabData .u8 vtab ∧ p' = [] := by
    have a := DataW.trod_le (Nat.le_max_left fuel 2) hd
    have b := DataW.trod_le (Nat.le_max_right fuel 2) (reads_vtab enc W (fun _ => true))
    rw [a] at b
    simpa using b
  refine (law_pairs_all W _ hg s).mono fun e W' ⟨he, hu⟩ => ?_
  subst he
  have hvar' : W'.var? Tryz.prog "loop.example/pub-jsonroads/pub/gjson.vchars" = some cs := var_upd globV_name hvar (hu.block 4 (Nat.lt_of_lt_of_le hg.lt hg.flt.size) (by simp))
  exact ⟨_, rfl, _, _, _, [], [], _, hW', trodAll_mk1 (shut_bool Tryz.underlying4 _), trodAll_mk1 (shut_string Tryz.underlying9 ws), trodVars_mk1 globV_name globV_type hvar' (by rw [hcs']; exact reads_vtab enc W' _), hu.below.frame _, fun h => by cases h⟩
theorem pairs_said : Rows.FnExactPairsSaid :=
  OpenClaim.holds_of_wide 7 Tryz.f7 rfl rfl rfl rfl rfl rfl rfl ⟨rfl, rfl, rfl, rfl, rfl⟩ rfl rfl rfl rfl rfl (by kernel_rfl) Tryz.func7 (by kernel_rfl)
    (of_decide_eq_true (by kernel_rfl)) (by unfold Func.isWrapper; first | (rw [if_pos (by decide +kernel)]; kernel_rfl) | (rw [if_neg (by decide +kernel)]; exact ⟨rfl, rfl⟩))
    (fun os started H enc _ => pairs_lifted os started H enc)
theorem pairs_plain_card (f : FuncId) (fn : Func) (hf : Tryz.pinned.checked.prog.funcNamed "loop.example/pub-jsonroads/laws.FnExactPairs" = some f) (hfn : Tryz.pinned.checked.prog.funcs[f]? = some fn) :
    true = Tryz.pinned.checked.prog.looks [] ∧ ∀ (j : Nat) t, fn.params[j]? = some t → Tryz.pinned.checked.prog.wantsStandIn t = false := by
  obtain rfl : f = 7 := Option.some.inj ((show Tryz.prog.funcNamed "loop.example/pub-jsonroads/laws.FnExactPairs" = some 7 by kernel_rfl).symm.trans hf) |>.symm
  obtain rfl : fn = Tryz.f7 := (Option.some.inj (Tryz.func7.symm.trans hfn)).symm
  refine ⟨by kernel_rfl, fun j t ht => ?_⟩
  rw [Tryz.params7] at ht
  obtain rfl : t = 9 := by simpa using Array.mem_of_getElem? ht
  exact (show Tryz.prog.wantsStandIn 9 = false by kernel_rfl)
/-- The card. -/
theorem pairs_card : Rows.FnExactPairsCardSaid :=
  Claim7.holds_tied_plain_at .later [] _ _ _ _ pairs_said (fun _ h => by cases h) (by kernel_rfl) (fun _ h => by cases h) fnExactPairs_row_tie rfl ⟨rfl, rfl⟩ (by kernel_rfl) rfl pairs_plain_card (by kernel_rfl)
#print axioms pairs_card
end Go.Proofs.YtcnkbdbkglggcaaGreatDoor
