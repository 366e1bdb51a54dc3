/- impl.try: a function that is called, and a deferred closure that recovers (no statement of the seat is proved here; condition: the function does not panic). -/
import Derived.Test.YtkdialecadjedaaGreatVc8
import Derived.Tactics
import Derived.Tactics2
import Derived.Defers
import Derived.Recover
import Derived.Laws.Pointers
namespace Go.Proofs.YtkdialecadjedaaGreat
set_option linter.unusedVariables false
set_option linter.unusedSimpArgs false
set_option linter.unusedSectionVars false
open Go

theorem recover_idle (p : Addr) (w : World) :
    CallsD Tryz.prog 29 #[.pointer (some p)] .returning w fun e u' w' => e = .returned (.tuple #[]) ∧ u' = .returning ∧ w' = w := by
  refine callsD_of_wpS Tryz.func29 rfl fun c₀ cs hu => ?_
  apply wpS_seq
  apply wpS_region
  simp [wpOpsS, go_sem, recoverD, hu, Tryz.ntmps29, Exit.thenS]
  refine wpS_cond (t := false) (by simp [Act.eval, Array.replicate]) ?_
  simp only [Bool.false_eq_true, if_false]
  refine wpS_of_wp (wp_skip ?_)
  cases c₀
  simp_all [bodyPostS, results, Tryz.results29]

/-- Where the function answers with a Bool, 'try' does. -/
theorem ofTry {fid : FuncId} {caps : Array Value} {R : Ending → World → Prop} {w : World} (hb : hasBody pg fid = true)
    (h : Calls pg fid caps (w.alloc (.cells #[.bool false] 4)) fun en w' => ∃ b : Bool, en = .returned (.bool b) ∧ (∃ x, w'.cell? ⟨w.heap.size, 0, none⟩ = some x) ∧ w'.frozen? ⟨w.heap.size, 0, none⟩ = false ∧ R (.returned (.bool b)) (w'.setCell ⟨w.heap.size, 0, none⟩ (.bool b))) :
    Calls pg 16 #[.func (.func fid) #[] caps] w R := by
  have hmf : ∀ (fn : Fn) (first cap : Array Value) (w : World), (Instr.makeFunc fn first cap).run Tryz.prog w = .ok (.func fn first cap) w := fun _ _ _ _ => rfl
  have hcf : ∀ w : World, (callFunc fid caps).run Tryz.prog w = .ok (.enter fid caps) w := fun w => run_callFunc_body fine hb
  go_enter_defers Tryz.func16, Tryz.ntmps16
  go_wp2
  rename_i K1 hK1 K0 hK0
  refine h.mono ?_
  rintro e w' ⟨b, rfl, ⟨x, hx⟩, hz, hR⟩
  refine hK0 _ _ ?_
  go_wp2
  refine leaves_cons (f := 29) (args := #[.pointer (some ⟨w.heap.size, 0, none⟩)]) (by simp) (by simp [go_sem]) ?_
  refine (recover_idle ⟨w.heap.size, 0, none⟩ _).mono ?_
  rintro e u' w'' ⟨rfl, rfl, rfl⟩
  simp [Leaves, settle, results, Tryz.results16, go_sem]
  rw [World.cell?_setCell_same _ _ _ hx]
  exact ⟨_, rfl, hR⟩
end Go.Proofs.YtkdialecadjedaaGreat
