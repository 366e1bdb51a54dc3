/- The words in which the printed conditions are told (no statement of the seat is proved here; conditions: none). -/
import Derived.Test.YtkdialecadjedaaGreatVc7
namespace Go.Proofs.YtkdialecadjedaaGreat
set_option linter.unusedVariables false
set_option linter.unusedSimpArgs false
set_option linter.unusedSectionVars false
open Go

noncomputable abbrev pg : Program := Tryz.prog
def bodyOf (fn : Func) : Code := fn.body.getD .skip
/-- A call of a method on an interface's value: the function that answers is the hand's to name. -/
def Invk (r : Value) (name : String) (args : Array Value) (w : World) (R : Ending → World → Prop) : Prop :=
  ∃ t v f rc, r = .iface t v ∧ (method (pg.types.size + Made.depth) t v name).run pg w = .ok (f, rc) w ∧ hasBody pg f = true ∧ Calls pg f (#[rc] ++ args) w R
theorem calls_by (H : Hints) {f : FuncId} (fn : Func) {args : List Value} {w : World} {R : Ending → World → Prop} (hf : pg.funcs[f]? = some fn) {p : Prop} (h : p)
    (hn : (fn.body.isSome && Nat.ble args.length fn.ntmps) = true)
    (hp : p = codeVc pg H (bodyOf fn) (fun d => Nat.blt d fn.ntmps) (resVc pg fn.results.toList R) [] (resVc pg fn.results.toList R) (argEnv args 0) w) : Calls pg f args.toArray w R := by
  rw [hp] at h
  simp only [Bool.and_eq_true] at hn
  obtain ⟨c, hc⟩ := Option.isSome_iff_exists.1 hn.1
  exact calls_vc fine H hf hc hn.2 (by unfold bodyOf at h; rw [hc] at h; exact h)
end Go.Proofs.YtkdialecadjedaaGreat
