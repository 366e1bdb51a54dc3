/- laws.FnTransport: the row's statement. -/
import Derived.Test.YtkdialecadjedaaGreatOpenZ
namespace Go.Proofs.YtkdialecadjedaaGreat
set_option linter.unusedVariables false
set_option linter.unusedSimpArgs false
set_option linter.unusedSectionVars false
open Go.ChangeShapes Go.WideShapes Go.ChangeAt Go.WideMaps Go.WideElems Go.RowKit Go.Joins

set_option maxRecDepth 100000 in
theorem transport_lifted (os : Os) (started : os.Started) (H : Type) (enc : TypeId × Value → H) :
    ReturnsInHanded {} Tryz.checked os 3 .any (Rows.fnTransportSpec.pre6 enc Tryz.prog Tryz.f3 Rows.fnTransportRow.domain false) (Rows.fnTransportSpec.post enc Tryz.prog Tryz.f3 false true false false) := by
  refine returnsInHanded_of_change (C := Tryz.checked) own started (by kernel_rfl) Tryz.func3
    (ChangeSpec.witness6 (enc := enc) (C := Tryz.checked) false ⟨#[], #[.slice none 0 0], []⟩ 8 (by kernel_rfl) (by kernel_rfl) (by kernel_rfl) (by kernel_rfl)) ?_
  intro W base args ds gs before hval0 hW _ _
  have hval : ∀ (j : Nat) t v, Tryz.f3.params[j]? = some t → args[j]? = some v → Value.okWide Tryz.prog W .any base t v := hval0
  have hW' := hW
  obtain ⟨p, q, hA0, hV, rfl, hfz, hnd⟩ := hW
  have hA : DataW.TrodAll enc Tryz.prog W 0 (fun _ => true) true Tryz.f3.params.toList args.toList ds p := hA0
  rw [Tryz.params3] at hA hval
  obtain ⟨v0, d0, rfl, rfl, h0⟩ := trodAll_one hA
  obtain ⟨rfl, rfl⟩ := trodVars_none hV
  obtain ⟨a, l, c, xs, rfl, hB, hD, pa, hrd⟩ := open_data (hval 0 22 v0 rfl rfl) h0
  have HS : Sat ⟨W, fun _ => False⟩ W [] [Ro.B xs a l c] := Sat.start (by simp [foots]) (by simp [foots]) (by simp) (by
    intro r hr
    simp only [List.mem_singleton] at hr
    subst hr
    exact DeepL.cons (hD.keep (Gr.refl W (fun _ => False)) (fun b _ _ => ⟨id, by simp [foots]⟩)) (DeepL.nil _ _))
  refine (c3 HS hB).mono ?_
  rintro e W' ⟨rfl, hg⟩
  have e1 : Rows.fnTransportSpec.fn H ([d0] ++ []) = { results := [.lit (.bool true)], args := [d0] } := by simp [Rows.fnTransportSpec]
  refine ⟨_, rfl, _, _, _, [], pa, [], hW', ?_, ?_, ?_, kept_grown _ hg, fun h => by cases h⟩
  · rw [e1]; exact trodAll_mk1 (shut_bool Tryz.underlying4 true)
  · rw [e1]; exact trodAll_mk1 (hrd W' hg _ (fun q hq => by simpa using hW'.lt q (by simp [hq])))
  · rw [e1]; rfl

theorem fnTransport_holds : Rows.FnTransportSaid :=
  OpenClaim.holds_of_wide 3 Tryz.f3 rfl rfl rfl rfl rfl rfl rfl ⟨rfl, rfl, rfl, rfl, rfl⟩ rfl rfl rfl rfl rfl (by kernel_rfl) Tryz.func3 (by kernel_rfl)
    (of_decide_eq_true (by kernel_rfl)) (by unfold Func.isWrapper; first | (rw [if_pos (by decide +kernel)]; kernel_rfl) | (rw [if_neg (by decide +kernel)]; exact ⟨rfl, rfl⟩))
    (fun os started H enc _ => transport_lifted os started H enc)
#print axioms fnTransport_holds
end Go.Proofs.YtkdialecadjedaaGreat
