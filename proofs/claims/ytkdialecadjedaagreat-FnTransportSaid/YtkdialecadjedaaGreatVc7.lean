/- A call of a function, out of its verification conditions (no statement of the seat is proved here; conditions: none). -/
import Derived.Test.YtkdialecadjedaaGreatVc6
namespace Go.Proofs.YtkdialecadjedaaGreat
set_option linter.unusedVariables false
set_option linter.unusedSimpArgs false
set_option linter.unusedSectionVars false
open Go

def rvVc (P : Program) (r : ResultVar) (e : Env) (w : World) (Q : Value → Prop) : Prop :=
  match r with
  | .tmp t => Q (e.val t)
  | .cell a t => ldVc P t (e.val a) (fun v _ => Q v) w
def rvsVc (P : Program) (e : Env) (w : World) : List ResultVar → (List Value → Prop) → Prop
  | [], Q => Q []
  | r :: rs, Q => rvVc P r e w fun v => rvsVc P e w rs fun vs => Q (v :: vs)
def resVc (P : Program) (rs : List ResultVar) (R : Ending → World → Prop) : Post := fun e w =>
  match rs with
  | [r] => rvVc P r e w fun v => R (.returned v) w
  | rs => rvsVc P e w rs fun vs => R (.returned (.tuple vs.toArray)) w
def argEnv : List Value → Nat → Env
  | [], _ => []
  | v :: r, i => (i, v, none) :: argEnv r (i + 1)
theorem argEnv_val : ∀ (vs : List Value) (i j : Nat), (argEnv vs i).val j = if i ≤ j then vs.getD (j - i) undef else undef
  | [], i, j => by simp [argEnv, Env.val]
  | v :: r, i, j => by
    simp only [argEnv, Env.val_cons, argEnv_val r (i + 1) j]
    by_cases h : i = j
    · subst h; simp
    · rw [if_neg h]
      by_cases h1 : i + 1 ≤ j
      · rw [if_pos h1, if_pos (by omega), show j - i = (j - (i + 1)) + 1 by omega]; simp
      · rw [if_neg h1, if_neg (by omega)]
theorem argEnv_dec : ∀ (vs : List Value) (i j : Nat), (argEnv vs i).dec j = none
  | [], i, j => rfl
  | v :: r, i, j => by
    simp only [argEnv, Env.dec_cons, argEnv_dec r (i + 1) j]
    simp

def rvRead (tmps : Array Value) : ResultVar → Sem Value
  | .tmp t => pure (tmps.getD t undef)
  | .cell a t => do loadVar t (← asAddr (tmps.getD a undef))
theorem rv_ok {P : Program} {r : ResultVar} {n : Nat} {e : Env} {a : Act} {w : World} {Q : Value → Prop} (ha : Agree n e a) (h : rvVc P r e w Q) : ∃ v, Q v ∧ (rvRead a.tmps r).run P w = .ok v w := by
  cases r with
  | tmp t => exact ⟨_, h, by rw [← ha.get t]; rfl⟩
  | cell ad t =>
    simp only [rvVc] at h
    obtain ⟨v, hr, hq⟩ := ldVc_ok h
    refine ⟨v, hq, ?_⟩
    simp only [rvRead, Sem.run_bind, ha.get]
    cases hv : e.val ad <;> rw [hv] at hr <;> first
      | (simp [Instr.loadAt, Instr.sureAddr] at hr; done)
      | skip
    rename_i p
    cases p with
    | none => simp [Instr.loadAt, Instr.sureAddr] at hr
    | some p =>
      simp only [Instr.loadAt, Instr.sureAddr, Sem.run_bind, Sem.run_pure, Result.andThen_ok] at hr
      simp only [asAddr, Sem.run_pure, Result.andThen_ok]
      exact hr
theorem rvs_ok {P : Program} {n : Nat} {e : Env} {a : Act} {w : World} (ha : Agree n e a) : ∀ (rs : List ResultVar) (Q : List Value → Prop), rvsVc P e w rs Q → ∃ vs, Q vs ∧ vs.length = rs.length ∧ (rs.mapM (rvRead a.tmps)).run P w = .ok vs w
  | [], Q, h => ⟨[], h, rfl, rfl⟩
  | r :: rs, Q, h => by
    obtain ⟨v, h, hv⟩ := rv_ok ha h
    obtain ⟨vs, hq, hl, hr⟩ := rvs_ok ha rs _ h
    exact ⟨v :: vs, hq, by simp [hl], by rw [List.mapM_cons]; simp only [Sem.run_bind, hv, Result.andThen_ok, hr, Sem.run_pure]⟩
theorem results_eq (fn : Func) (tmps : Array Value) (P : Program) (w : World) : (results fn tmps).run P w = ((fn.results.toList.mapM (rvRead tmps)).run P w).andThen fun vs w' => .ok (match vs with | [v] => v | vs => .tuple vs.toArray) w' := by
  unfold results
  rw [Array.mapM_eq_mapM_toList]
  simp only [Sem.run_bind, Sem.run_map]
  change (((Sem.run P (List.mapM (rvRead tmps) fn.results.toList) w).andThen fun a w' => Result.ok a.toArray w').andThen _) = _
  cases (List.mapM (rvRead tmps) fn.results.toList).run P w with
  | halt x w' => rfl
  | ok vs w' =>
    simp only [Result.andThen_ok, Sem.run_pure]
    congr 1
    match vs with
    | [] => rfl
    | [v] => rfl
    | v :: u :: r => simp
theorem resVc_ok {P : Program} {fn : Func} {n : Nat} {e : Env} {a : Act} {w : World} {R : Ending → World → Prop} (ha : Agree n e a) (h : resVc P fn.results.toList R e w) :
    a.defers = [] ∧ ∃ v, (results fn a.tmps).run P w = .ok v w ∧ R (.returned v) w := by
  refine ⟨ha.defers, ?_⟩
  rw [results_eq]
  unfold resVc at h
  split at h
  · rename_i r hr
    rw [hr]
    obtain ⟨v, hq, hv⟩ := rv_ok ha h
    exact ⟨v, by rw [List.mapM_cons]; simp only [Sem.run_bind, hv, Result.andThen_ok, List.mapM_nil, Sem.run_pure], hq⟩
  · rename_i hne
    obtain ⟨vs, hq, hl, hr⟩ := rvs_ok ha _ _ h
    refine ⟨_, by rw [hr]; rfl, ?_⟩
    match vs, hl with
    | [], _ => exact hq
    | [v], hl =>
      exfalso
      match hrs : fn.results.toList, hl with
      | [r], _ => exact hne r hrs
    | v :: u :: r, _ => exact hq

/-- A call, out of the conditions of its body. -/
theorem calls_vc {P : Program} (hP : Fine P) (H : Hints) {f : FuncId} {fn : Func} {c : Code} {args : List Value} {w : World} {R : Ending → World → Prop} (hf : P.funcs[f]? = some fn) (hb : fn.body = some c) (hn : Nat.ble args.length fn.ntmps = true)
    (h : codeVc P H c (fun d => Nat.blt d fn.ntmps) (resVc P fn.results.toList R) [] (resVc P fn.results.toList R) (argEnv args 0) w) : Calls P f args.toArray w R := by
  have hn' : args.length ≤ fn.ntmps := Nat.le_of_ble_eq_true hn
  refine calls_of_wp hf hb ?_
  have ha : Ag fn.ntmps (fun d => Nat.blt d fn.ntmps) (argEnv args 0).val (argEnv args 0) { tmps := args.toArray ++ Array.replicate (fn.ntmps - args.toArray.size) undef, defers := [] } := by
    refine ⟨⟨by simp; omega, fun j => ?_, fun j b hd => (by rw [argEnv_dec] at hd; cases hd), rfl⟩, fun d hd => by simp only [Nat.blt, Nat.ble_eq] at hd; omega, fun _ _ => rfl⟩
    rw [argEnv_val, if_pos (Nat.zero_le _), Nat.sub_zero, Array.getD_eq_getD_getElem?, Array.getElem?_append]
    split
    · rename_i hj
      simp [List.getD]
    · rename_i hj
      rw [List.getD, List.getElem?_eq_none (by simpa using hj)]
      simp only [Option.getD_none]
      rw [Array.getElem?_replicate]
      split <;> rfl
  refine Code.wp_mono (fun ex a w hq => ?_) (codeVc_ok hP H c _ _ _ _ _ _ _ w h ha)
  cases ex <;> first | exact hq.elim | skip
  case normal => obtain ⟨e, ha, hr⟩ := hq; exact resVc_ok ha.ag hr
  case exit id => obtain ⟨e, ha, K, hl, _⟩ := hq; cases hl
  case ret => obtain ⟨e, ha, hr⟩ := hq; exact resVc_ok ha.ag hr

theorem fine : Fine Tryz.prog where
  mixed := by kernel_rfl
  names f fn hf := by
    have hall : (Tryz.prog.funcs.all fun fn => !(fn.name == "runtime.NumGoroutine")) = true := by kernel_rfl
    have := Array.all_eq_true_iff_forall_mem.1 hall fn (Array.mem_of_getElem? hf)
    simpa using this
end Go.Proofs.YtkdialecadjedaaGreat
