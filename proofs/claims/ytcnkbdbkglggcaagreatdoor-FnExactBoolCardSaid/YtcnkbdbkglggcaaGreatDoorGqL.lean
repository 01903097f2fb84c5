/-
  The row and the tied card of FnExactBool. No condition.
-/
import Derived.Test.YtcnkbdbkglggcaaGreatDoorTie
import Derived.Test.YtcnkbdbkglggcaaGreatDoorGqJ
import Derived.Test.YtcnkbdbkglggcaaGreatDoorGqK
namespace Go.Proofs.YtcnkbdbkglggcaaGreatDoor
open Go.ChangeShapes Go.WideShapes Go.ChangeAt Go.RowKit
open Go.ChangeMaps (open_string shut_string)

theorem law_bool_big (w : World) (s : ByteArray) (n : Int) (h : 2147483647 < s.size) : Calls Tryz.prog 3 #[.string s, .int .i64 n] w fun e w' => e = .returned (.bool true) ∧ Upd [] w w' := by
  have d0 : decide ((2147483647 : Int) < (s.size : Int)) = true := decide_eq_true (by omega)
  go_enter Tryz.func3, Tryz.ntmps3
  go_wp2_with fail
  go_ret
  exact ⟨rfl, Upd.refl _ _⟩
theorem law_bool_all (w : World) (s : ByteArray) (n : Int) (hg : Gl w) : Calls Tryz.prog 3 #[.string s, .int .i64 n] w fun e w' => e = .returned (.bool true) ∧ Upd [] w w' := by
  rcases Nat.lt_or_ge 2147483647 s.size with h | h
  · exact law_bool_big w s n h
  · exact law_bool w s n hg (by omega)
set_option maxRecDepth 100000 in
theorem bool_lifted (os : Os) (started : os.Started) (H : Type) (enc : TypeId × Value → H) :
    ReturnsInHanded {} Tryz.checked os 3 .any (fun w args => (Rows.fnExactBoolSpec.pre enc Tryz.prog Tryz.f3 [] false w args ∧ laidMetH Tryz.prog Rows.fnExactBoolRow.laid w) ∧ sizedMet enc Tryz.prog Tryz.f3 (OpenSpec.ofChange Rows.fnExactBoolSpec) false w args)
      (Rows.fnExactBoolSpec.post enc Tryz.prog Tryz.f3 false true false false) := by
  refine returnsInHanded_of_change_and (C := Tryz.checked) (X := fun w _ => laidMetH Tryz.prog Rows.fnExactBoolRow.laid w) (fun _ _ _ hh h => h.of_heap hh) ownKnob_seat started (by kernel_rfl) Tryz.func3
    (ChangeSpec.witness_shaped (enc := enc) (C := Tryz.checked) (os := os) (X := fun w _ => laidMetH Tryz.prog Rows.fnExactBoolRow.laid w) false (World.laidAll Tryz.prog os Rows.fnExactBoolRow.laid) #[.string ⟨#[]⟩, .int .i64 0] 8 (World.laidAll_os _ _ _)
      (World.shaped_of_ZipB (by kernel_rfl) (by kernel_rfl)) (by kernel_rfl) (by kernel_rfl) (by kernel_rfl)
      (by rw [MakeChecks.laidMetH_plain _ _ _ (by kernel_rfl)]; exact laidMet_laidAll _ (by kernel_rfl) (by kernel_rfl))) ?_
  intro W base args ds gs before hval0 hW _ _ hL _
  have hval : ∀ (j : Nat) t v, Tryz.f3.params[j]? = some t → args[j]? = some v → Value.okWide Tryz.prog W .any base t v := hval0
  have hW' := hW
  obtain ⟨p, q, hA0, hV, rfl, _, _⟩ := hW
  have hA : DataW.TrodAll enc Tryz.prog W 0 (fun _ => true) true Tryz.f3.params.toList args.toList ds p := hA0
  rw [Tryz.params3] at hA hval
  obtain ⟨v0, v1, d0, d1, p0, p1, rfl, rfl, rfl, h0, h1⟩ := trodAll_two hA
  obtain ⟨rfl, rfl⟩ := trodVars_none hV
  obtain ⟨s, rfl, rfl, rfl, ws⟩ := open_string Tryz.underlying9 (hval 0 9 v0 rfl rfl) h0
  obtain ⟨n, rfl, rfl, rfl, wn⟩ := open_int Tryz.underlying2 (hval 1 2 v1 rfl rfl) h1
  simp only [List.append_nil] at hW'
  rw [MakeChecks.laidMetH_plain _ _ _ (by kernel_rfl)] at hL
  have hg : Gl W := gl_of_list hL (.tail _ (.tail _ (.tail _ (.tail _ (.head _))))) (.tail _ (.tail _ (.tail _ (.head _))))
  refine (law_bool_all W s n hg).mono fun e W' ⟨he, hu⟩ => ?_
  subst he
  exact ⟨_, rfl, _, _, _, [], [], [], hW', trodAll_mk1 (shut_bool Tryz.underlying4 _), trodAll_mk2 (shut_string Tryz.underlying9 ws) (shut_int Tryz.underlying2 wn), rfl, hu.below.frame _, fun h => by cases h⟩
theorem bool_said : Rows.FnExactBoolSaid :=
  OpenClaim.holds_of_wide 3 Tryz.f3 rfl rfl rfl rfl rfl rfl rfl ⟨rfl, rfl, rfl, rfl, rfl⟩ rfl rfl rfl rfl rfl (by kernel_rfl) Tryz.func3 (by kernel_rfl)
    (of_decide_eq_true (by kernel_rfl)) (by unfold Func.isWrapper; first | (rw [if_pos (by decide +kernel)]; kernel_rfl) | (rw [if_neg (by decide +kernel)]; exact ⟨rfl, rfl⟩))
    (fun os started H enc _ => bool_lifted os started H enc)
theorem bool_plain (f : FuncId) (fn : Func) (hf : Tryz.pinned.checked.prog.funcNamed "loop.example/pub-jsonroads/laws.FnExactBool" = some f) (hfn : Tryz.pinned.checked.prog.funcs[f]? = some fn) :
    true = Tryz.pinned.checked.prog.looks [] ∧ ∀ (j : Nat) t, fn.params[j]? = some t → Tryz.pinned.checked.prog.wantsStandIn t = false := by
  obtain rfl : f = 3 := Option.some.inj ((show Tryz.prog.funcNamed "loop.example/pub-jsonroads/laws.FnExactBool" = some 3 by kernel_rfl).symm.trans hf) |>.symm
  obtain rfl : fn = Tryz.f3 := (Option.some.inj (Tryz.func3.symm.trans hfn)).symm
  refine ⟨by kernel_rfl, fun j t ht => ?_⟩
  rw [Tryz.params3] at ht
  have hm : t = 9 ∨ t = 2 := by simpa using Array.mem_of_getElem? ht
  rcases hm with rfl | rfl
  · exact (show Tryz.prog.wantsStandIn 9 = false by kernel_rfl)
  · exact (show Tryz.prog.wantsStandIn 2 = false by kernel_rfl)
/-- The card. -/
theorem bool_card : Rows.FnExactBoolCardSaid :=
  Claim7.holds_tied_plain_at .later [] _ _ _ _ bool_said (fun _ h => by cases h) (by kernel_rfl) (fun _ h => by cases h) fnExactBool_row_tie rfl ⟨rfl, rfl⟩ (by kernel_rfl) rfl bool_plain (by kernel_rfl)
#print axioms bool_card
end Go.Proofs.YtcnkbdbkglggcaaGreatDoor
