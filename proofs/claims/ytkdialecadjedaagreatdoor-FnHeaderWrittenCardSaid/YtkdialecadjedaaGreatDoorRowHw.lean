/- laws.FnHeaderWritten: the row's statement. -/
import Derived.Test.YtkdialecadjedaaGreatDoorLawFit
namespace Go.Proofs.YtkdialecadjedaaGreatDoor
set_option linter.unusedVariables false
set_option linter.unusedSimpArgs false
set_option linter.unusedSectionVars false
open Go.ChangeShapes Go.WideShapes Go.ChangeAt Go.WideMaps Go.WideElems Go.RowKit Go.Joins

/-- Behind a call that made new blocks alone, what was read reads as it did. -/
theorem kept_grown {W W' : World} (may : MemPlace → Prop) (h : W.grownBy W' none) : W.keptBut W' may := by
  refine ⟨h.os, h.output, fun i hi => ?_⟩
  rw [h.block i hi (by simp)]
  cases W.heap[i]? with
  | none => rfl
  | some o => cases o <;> first
    | exact ⟨rfl, rfl, rfl, fun _ _ => rfl⟩
    | exact .inr ⟨rfl, rfl⟩
    | rfl
theorem wf_nat {k : IntKind} {n : Int} (hk : k.signed = false) (h : (Lit.int k n).wf = true) : 0 ≤ n ∧ n < 2 ^ k.bits := by
  simp only [Lit.wf, Bool.and_eq_true, decide_eq_true_eq, IntKind.min, IntKind.max, hk, Bool.false_eq_true, if_false] at h
  omega
set_option maxRecDepth 100000 in
theorem hw_lifted (os : Os) (started : os.Started) (H : Type) (enc : TypeId × Value → H) :
    ReturnsInHanded {} Tryz.checked os 6 .any (fun w args => (Rows.fnHeaderWrittenSpec.pre enc Tryz.prog Tryz.f6 [] false w args ∧ laidMetH Tryz.prog laid3 w) ∧ sizedMet enc Tryz.prog Tryz.f6 (OpenSpec.ofChange Rows.fnHeaderWrittenSpec) false w args)
      (Rows.fnHeaderWrittenSpec.post enc Tryz.prog Tryz.f6 false true false false) := by
  refine returnsInHanded_of_change_and (C := Tryz.checked) (X := fun w _ => laidMetH Tryz.prog laid3 w) (fun _ _ _ hh h => h.of_heap hh) own started (by kernel_rfl) Tryz.func6
    (ChangeSpec.witness_shaped (enc := enc) (C := Tryz.checked) (os := os) (X := fun w _ => laidMetH Tryz.prog laid3 w) false (World.doorLaid Tryz.prog 20000 os) #[hdrA false 0 0 0] 8 rfl (World.shaped_of_RefB (by kernel_rfl) (by kernel_rfl)) (by kernel_rfl) (by kernel_rfl) (by kernel_rfl) (door_met os _)) ?_
  intro W base args ds gs before hval0 hW _ _ hL _
  have hval : ∀ (j : Nat) t v, Tryz.f6.params[j]? = some t → args[j]? = some v → Value.okWide Tryz.prog W .any base t v := hval0
  have hW' := hW
  obtain ⟨p, q, hA0, hV, rfl, hfz, hnd⟩ := hW
  have hA : DataW.TrodAll enc Tryz.prog W 0 (fun _ => true) true Tryz.f6.params.toList args.toList ds p := hA0
  rw [Tryz.params6] at hA hval
  obtain ⟨v0, d0, rfl, rfl, h0⟩ := trodAll_one hA
  obtain ⟨rfl, rfl⟩ := trodVars_none hV
  have hE := errs_of_laid hL
  obtain ⟨v0, v1, v2, v3, y0, y1, y2, y3, n, rfl, rfl, rfl, t0, t1, t2, t3⟩ := open_agg4 Tryz.underlying42 (by kernel_rfl) (by kernel_rfl) (hval 0 42 v0 rfl rfl) h0
  obtain ⟨x0, c0, rfl⟩ := DataW.trod_bool Tryz.underlying4 t0
  obtain ⟨x1, c1, rfl, w1⟩ := DataW.trod_int Tryz.underlying5 t1
  obtain ⟨x2, c2, rfl, w2⟩ := DataW.trod_int Tryz.underlying5 t2
  obtain ⟨x3, c3, rfl, w3⟩ := DataW.trod_int Tryz.underlying40 t3
  simp only [List.cons.injEq, and_true] at c0 c1 c2 c3
  subst c0 c1 c2 c3
  refine (c6 (p := x0) (wf_nat (by rfl) w1) (wf_nat (by rfl) w2) (wf_nat (by rfl) w3) hE).mono ?_
  rintro e W' ⟨rfl, hg, _⟩
  have e1 : Rows.fnHeaderWrittenSpec.fn H ([.agg [.lit (.bool x0), .lit (.int .u8 x1), .lit (.int .u8 x2), .lit (.int .u16 x3)]] ++ []) = { results := [.lit (.bool true)], args := [.agg [.lit (.bool x0), .lit (.int .u8 x1), .lit (.int .u8 x2), .lit (.int .u16 x3)]] } := by simp [Rows.fnHeaderWrittenSpec]
  refine ⟨_, rfl, _, _, _, [], [], [], hW', ?_, ?_, ?_, kept_grown _ hg, fun h => by cases h⟩
  · rw [e1]; exact trodAll_mk1 (shut_bool Tryz.underlying4 true)
  · rw [e1]
    refine trodAll_mk1 (shut_agg4 (y0 := (.lit (.bool x0), [])) (y1 := (.lit (.int .u8 x1), [])) (y2 := (.lit (.int .u8 x2), [])) (y3 := (.lit (.int .u16 x3), [])) Tryz.underlying42 (by kernel_rfl) (by kernel_rfl) ?_ ?_ ?_ ?_)
    · exact shut_bool Tryz.underlying4 x0
    · exact ⟨_, trod_int_mk 0 Tryz.underlying5 w1⟩
    · exact ⟨_, trod_int_mk 0 Tryz.underlying5 w2⟩
    · exact ⟨_, trod_int_mk 0 Tryz.underlying40 w3⟩
  · rw [e1]; rfl

theorem fnHeaderWritten_holds : Rows.FnHeaderWrittenSaid :=
  OpenClaim.holds_of_wide 6 Tryz.f6 rfl rfl rfl rfl rfl rfl rfl ⟨rfl, rfl, rfl, rfl, rfl⟩ rfl rfl rfl rfl rfl (by kernel_rfl) Tryz.func6 (by kernel_rfl)
    (of_decide_eq_true (by kernel_rfl)) (by unfold Func.isWrapper; first | (rw [if_pos (by decide +kernel)]; kernel_rfl) | (rw [if_neg (by decide +kernel)]; exact ⟨rfl, rfl⟩))
    (fun os started H enc _ => hw_lifted os started H enc)
#print axioms fnHeaderWritten_holds
end Go.Proofs.YtkdialecadjedaaGreatDoor
