/- laws.FnRaw: the row's statement. -/
import Derived.Test.YtkdialecadjedaaGreatDoorRawC
import Derived.Test.YtkdialecadjedaaGreatDoorOpenData
namespace Go.Proofs.YtkdialecadjedaaGreatDoor
set_option linter.unusedVariables false
set_option linter.unusedSimpArgs false
set_option linter.unusedSectionVars false
open Go.ChangeShapes Go.WideShapes Go.ChangeAt Go.WideMaps Go.WideElems Go.RowKit Go.Joins

set_option maxRecDepth 100000 in
theorem raw_lifted (os : Os) (started : os.Started) (H : Type) (enc : TypeId × Value → H) :
    ReturnsInHanded {} Tryz.checked os 9 .any (fun w args => (Rows.fnRawSpec.pre enc Tryz.prog Tryz.f9 [] false w args ∧ laidMetH Tryz.prog laid3 w) ∧ sizedMet enc Tryz.prog Tryz.f9 (OpenSpec.ofChange Rows.fnRawSpec) false w args)
      (Rows.fnRawSpec.post enc Tryz.prog Tryz.f9 false true false false) := by
  refine returnsInHanded_of_change_and (C := Tryz.checked) (X := fun w _ => laidMetH Tryz.prog laid3 w) (fun _ _ _ hh h => h.of_heap hh) own started (by kernel_rfl) Tryz.func9
    (ChangeSpec.witness_shaped (enc := enc) (C := Tryz.checked) (os := os) (X := fun w _ => laidMetH Tryz.prog laid3 w) false (World.doorLaid Tryz.prog 20000 os) #[.slice none 0 0] 8 rfl (World.shaped_of_RefB (by kernel_rfl) (by kernel_rfl)) (by kernel_rfl) (by kernel_rfl) (by kernel_rfl) (door_met os _)) ?_
  intro W base args ds gs before hval0 hW _ _ hL _
  have hval : ∀ (j : Nat) t v, Tryz.f9.params[j]? = some t → args[j]? = some v → Value.okWide Tryz.prog W .any base t v := hval0
  have hW' := hW
  obtain ⟨p, q, hA0, hV, rfl, hfz, hnd⟩ := hW
  have hA : DataW.TrodAll enc Tryz.prog W 0 (fun _ => true) true Tryz.f9.params.toList args.toList ds p := hA0
  rw [Tryz.params9] at hA hval
  obtain ⟨v0, d0, rfl, rfl, h0⟩ := trodAll_one hA
  obtain ⟨rfl, rfl⟩ := trodVars_none hV
  have hE := errs_of_laid hL
  obtain ⟨b, a, l, c, xs, rfl, hB, pa, hrd⟩ := open_data (hval 0 22 v0 rfl rfl) h0 hE
  refine (c9 hB hE).mono ?_
  rintro e W' ⟨rfl, hg, _⟩
  have e1 : Rows.fnRawSpec.fn H ([d0] ++ []) = { results := [.lit (.bool true)], args := [d0] } := by simp [Rows.fnRawSpec]
  refine ⟨_, rfl, _, _, _, [], pa, [], hW', ?_, ?_, ?_, kept_grown _ hg, fun h => by cases h⟩
  · rw [e1]; exact trodAll_mk1 (shut_bool Tryz.underlying4 true)
  · rw [e1]; exact trodAll_mk1 (hrd W' hg _ (fun q hq => by simpa using hW'.lt q (by simp [hq])))
  · rw [e1]; rfl

theorem fnRaw_holds : Rows.FnRawSaid :=
  OpenClaim.holds_of_wide 9 Tryz.f9 rfl rfl rfl rfl rfl rfl rfl ⟨rfl, rfl, rfl, rfl, rfl⟩ rfl rfl rfl rfl rfl (by kernel_rfl) Tryz.func9 (by kernel_rfl)
    (of_decide_eq_true (by kernel_rfl)) (by unfold Func.isWrapper; first | (rw [if_pos (by decide +kernel)]; kernel_rfl) | (rw [if_neg (by decide +kernel)]; exact ⟨rfl, rfl⟩))
    (fun os started H enc _ => raw_lifted os started H enc)
#print axioms fnRaw_holds
end Go.Proofs.YtkdialecadjedaaGreatDoor
