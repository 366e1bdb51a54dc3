/- The verification conditions of an operation that looks at memory or calls, and that they are enough (no statement of the seat is proved here; conditions: none). -/
import Derived.Test.YtkdialecadjedaaGreatVc
namespace Go.Proofs.YtkdialecadjedaaGreat
set_option linter.unusedVariables false
set_option linter.unusedSimpArgs false
set_option linter.unusedSectionVars false
open Go

/-- What is asked of the program once. -/
structure Fine (P : Program) : Prop where
  mixed : P.follows .mixedOrders = true
  names : ∀ (f : FuncId) (fn : Func), P.funcs[f]? = some fn → (fn.name == "runtime.NumGoroutine") = false

def retK (P : Program) (ty : TypeId) (K : Value → World → Prop) : Ending → World → Prop := fun en w' => exT P ty fun v => en = .returned v ∧ K v w'
def hasBody (P : Program) (f : FuncId) : Bool := match P.funcs[f]? with
  | some fn => fn.body.isSome
  | none => false
def fnVc (P : Program) (f : FuncId) (args : Array Value) (ty : TypeId) (K : Value → World → Prop) (w : World) : Prop :=
  match hasBody P f with
  | true => Calls P f args w (retK P ty K)
  | false => exT P ty fun v => ∃ w', (callFunc f args).run P w = .ok (.value v) w' ∧ K v w'
def ivVc (P : Program) (r : Value) (name : String) (args : Array Value) (ty : TypeId) (K : Value → World → Prop) (w : World) : Prop :=
  ∃ t v f rc, r = .iface t v ∧ (method (P.types.size + Made.depth) t v name).run P w = .ok (f, rc) w ∧ hasBody P f = true ∧ Calls P f (#[rc] ++ args) w (retK P ty K)
def ldVc (P : Program) (t : TypeId) (a : Value) (K : Value → World → Prop) (w : World) : Prop :=
  match a with
  | .pointer (some ad) => (match P.underlying t with
    | some (.struct _) => bif Nat.ble (P.cellsOf t) 8 then exs (cellKs P 3 t) fun vs => LdV P t ad (.agg vs.toArray) w ∧ K (.agg vs.toArray) w else ∃ v, LdV P t ad v w ∧ K v w
    | some (.array _ _) => ∃ v, LdV P t ad v w ∧ K v w
    | some k => ex1 k fun v => w.cell? ad = some v ∧ K v w
    | none => False)
  | _ => False
def bsVc (P : Program) (t : TypeId) (n : Nat) (parts : List (Nat × Value)) (K : Value → World → Prop) (w : World) : Prop :=
  match P.underlying t with
  | some (.slice el) => (match n, parts, hasZero P el, Nat.ble (n * P.cellsOf el) 16777216 with
    | 1, [(0, v)], true, true => v.cells.size = P.cellsOf el ∧ gNew v.cells el (fun a w' => K (.slice (some a) 1 1) w') w
    | _, _, true, true => (match Instr.fill (fun i => some (i * P.cellsOf el, P.cellsOf el)) ((Array.range (n * P.cellsOf el)).map ((if n * P.cellsOf el = 0 then #[] else zeroC P el)[· % (if n * P.cellsOf el = 0 then #[] else zeroC P el).size]!)) parts with
      | some cs => gNew cs el (fun a w' => K (.slice (some a) n n) w') w
      | none => False)
    | _, _, _, _ => False)
  | _ => False
def callVc (P : Program) (c : Call) (ty : TypeId) (e : Env) (K : Value → World → Prop) (w : World) : Prop :=
  match c.callee with
  | .builtin .append => gSem P ty (Builtin.append_ c.argTypes ty (c.args.map e.op)) K w
  | .builtin .copy => gSem P ty (Builtin.copy_ c.argTypes ty (c.args.map e.op)) K w
  | .value f => (match e.op f with
    | .func (.func id) first captured => fnVc P id (first ++ c.args.map e.op ++ captured) ty K w
    | _ => False)
  | .invoke r name => ivVc P (e.op r) name (c.args.map e.op) ty K w
  | _ => False
def goVc (P : Program) (o : Oper) (e : Env) (K : Value → World → Prop) (w : World) : Prop :=
  match o.op with
  | .alloc t => (match hasZero P t with | true => gNew (zeroC P t) t (fun a w' => K (.pointer (some a)) w') w | false => False)
  | .box t x => gNew (e.op x).cells t (fun a w' => K (.pointer (some a)) w') w
  | .buildSlice t n ps => bsVc P t n (ps.toList.map fun p => (p.1, e.op p.2)) K w
  | .load t a => ldVc P t (e.op a) K w
  | .store t a x => (match e.op a with | .pointer (some ad) => ∃ w', StV P t ad (e.op x) w w' ∧ K undef w' | _ => False)
  | .convert s d x => gSem P d (convert s d (e.op x)) K w
  | .binOp op t x y _ => (match e.op x with
    | .float _ _ => gSem P o.type (binOp op t (e.op x) (e.op y)) K w
    | .agg _ => (eqGuard op t x y (e.op x) (e.op y)).run P w = .ok () w ∧ gSem P o.type (binOp op t (e.op x) (e.op y)) K w
    | _ => False)
  | .unOp op _ x => gSem P o.type (Op.unary op (e.op x)) K w
  | .makeSlice t l c => gSem P t (Instr.makeSlice t (e.op l) (e.op c)) K w
  | .makeMap t r => gSem P t (Instr.makeMap t (r.map e.op)) K w
  | .insert t m k x => ∃ w', (Instr.mapUpdate t (e.op m) (e.op k) (e.op x)).run P w = .ok () w' ∧ K undef w'
  | .lookup t x i ok => gSem P o.type (Instr.lookup t (e.op x) (e.op i) ok) K w
  | .call c => callVc P c o.type e K w
  | _ => False
def opVc (P : Program) (o : Oper) (e : Env) (K : Value → World → Prop) (w : World) : Prop :=
  match isPure P o.op with
  | true => pureVc P o.op e fun v => K v w
  | false => goVc P o e K w

/-! ### They are enough -/
theorem run_alloc_ok {P : Program} {t : TypeId} {w : World} (h : hasZero P t = true) : (Instr.alloc t true (.tuple #[])).run P w = .ok (.pointer (some ⟨w.heap.size, 0, none⟩)) (w.alloc (.cells (zeroC P t) t)) := by
  obtain ⟨z, hz⟩ := Option.isSome_iff_exists.1 h
  obtain ⟨i, hi, hz'⟩ := Option.bind_eq_some_iff.1 hz
  simp [Instr.alloc, zeroValue, typeInfo, hi, hz', newVar, newRow, zeroC]
theorem run_box_ok {P : Program} {t : TypeId} {v : Value} {w : World} : (Instr.box t v).run P w = .ok (.pointer (some ⟨w.heap.size, 0, none⟩)) (w.alloc (.cells v.cells t)) := by
  simp [Instr.box, newVar, newRow]
theorem foldl_set (l : List Value) : ∀ (m : Nat) (acc : Array Value), ∀ k, ((l.zipIdx m).foldl (fun cs (p : Value × Nat) => cs.setIfInBounds p.2 p.1) acc)[k]? = if m ≤ k ∧ k < m + l.length ∧ k < acc.size then l[k - m]? else acc[k]? := by
  induction l with
  | nil => intro m acc k; simp; intro h1 h2; omega
  | cons x r ih =>
    intro m acc k
    simp only [List.zipIdx_cons, List.foldl_cons, ih, Array.size_setIfInBounds, List.length_cons]
    by_cases h1 : m + 1 ≤ k ∧ k < m + 1 + r.length ∧ k < acc.size
    · rw [if_pos h1, if_pos (by omega), show k - m = (k - (m + 1)) + 1 by omega, List.getElem?_cons_succ]
    · rw [if_neg h1]
      by_cases h2 : k = m
      · subst h2
        by_cases h3 : k < acc.size
        · rw [if_pos (by omega)]; simp [h3]
        · rw [if_neg (by omega), Array.getElem?_eq_none (by simp; omega), Array.getElem?_eq_none (by omega)]
      · rw [Array.getElem?_setIfInBounds_ne (Ne.symm h2), if_neg (by omega)]
theorem fill_one {size : Nat} {v : Value} {cells : Array Value} {place : Nat → Option (Nat × Nat)} (hp : place 0 = some (0, size)) (hs : v.cells.size = size) (hc : cells.size = size) :
    Instr.fill place cells [(0, v)] = some v.cells := by
  simp only [Instr.fill, hp]
  rw [if_neg (by simp; omega)]
  congr 1
  apply Array.ext_getElem?
  intro k
  have := foldl_set v.cells.toList 0 cells k
  simp only [Nat.zero_le, true_and, Nat.zero_add, Nat.sub_zero, Array.length_toList, Array.getElem?_toList] at this
  rw [← Array.foldl_toList, Array.toList_zipIdx]
  simp only [Nat.zero_add]
  rw [this]
  by_cases h : k < v.cells.size
  · rw [if_pos (by omega)]
  · rw [if_neg (by omega), Array.getElem?_eq_none (by omega), Array.getElem?_eq_none (by omega)]
theorem run_buildSlice {P : Program} {t el : TypeId} {n : Nat} {parts : Array (Nat × Value)} {w : World} {cs : Array Value} (ht : P.underlying t = some (.slice el)) (hz : hasZero P el = true) (hb : n * P.cellsOf el ≤ 16777216)
    (hf : Instr.fill (fun i => some (i * P.cellsOf el, P.cellsOf el)) ((Array.range (n * P.cellsOf el)).map ((if n * P.cellsOf el = 0 then #[] else zeroC P el)[· % (if n * P.cellsOf el = 0 then #[] else zeroC P el).size]!)) parts.toList = some cs) :
    (Instr.buildSlice t n parts).run P w = .ok (.slice (some ⟨w.heap.size, 0, none⟩) n n) (w.alloc (.cells cs el)) := by
  obtain ⟨z, hz⟩ := Option.isSome_iff_exists.1 hz
  obtain ⟨i, hi, hz'⟩ := Option.bind_eq_some_iff.1 hz
  have hzc : zeroC P el = z.cells := by simp [zeroC, hi, hz']
  have e := run_sizeOf P w el (by simp [hi])
  have ez : (zeroValue el).run P w = .ok z w := by simp [zeroValue, typeInfo, hi, hz']
  have hle : ¬ n * P.cellsOf el > 2 ^ 24 := by omega
  rw [hzc] at hf
  by_cases h0 : n * P.cellsOf el = 0
  · rw [if_pos h0] at hf
    simp only [Instr.buildSlice, Sem.run_bind, run_underlying ht, Result.andThen_ok, e, if_neg hle]
    rw [if_pos h0]
    simp only [Sem.run_pure, Sem.run_bind, Result.andThen_ok, hf]
    simp [newRow]
  · rw [if_neg h0] at hf
    simp only [Instr.buildSlice, Sem.run_bind, run_underlying ht, Result.andThen_ok, e, if_neg hle]
    rw [if_neg h0]
    simp only [Sem.run_pure, Sem.run_bind, Result.andThen_ok, ez, hf]
    simp [newRow]
theorem bsVc_ok {P : Program} {t : TypeId} {n : Nat} {parts : Array (Nat × Value)} {K : Value → World → Prop} {w : World} (h : bsVc P t n parts.toList K w) :
    ∃ v w', (Instr.buildSlice t n parts).run P w = .ok v w' ∧ K v w' := by
  unfold bsVc at h
  split at h
  · rename_i el ht
    split at h
    · rename_i v hparts hz hb
      have hb' : 1 * P.cellsOf el ≤ 16777216 := Nat.le_of_ble_eq_true hb
      refine ⟨_, _, run_buildSlice (cs := v.cells) ht hz hb' ?_, h.2⟩
      rw [hparts]
      exact fill_one (by simp) h.1 (by simp)
    · rename_i hz hb _
      split at h
      · rename_i cs hf
        exact ⟨_, _, run_buildSlice ht hz (Nat.le_of_ble_eq_true hb) hf, h⟩
      · exact h.elim
    · exact h.elim
  · exact h.elim
theorem run_loadVar_one {P : Program} {t : TypeId} {k : TypeDesc} {w : World} {a : Addr} {v : Value} (ht : P.underlying t = some k) (hk : (match k with | .struct _ | .array _ _ => true | _ => false) = false) (hc : w.cell? a = some v) :
    (loadVar t a).run P w = .ok v w := by
  have e : (isAgg t).run P w = .ok false w := by
    unfold isAgg
    simp only [Sem.run_bind, run_underlying ht, Result.andThen_ok]
    cases k <;> first | rfl | (simp at hk)
  simp only [loadVar, Sem.run_bind, e, Result.andThen_ok, Bool.false_eq_true, if_false, run_load, hc]
theorem ldVc_ok {P : Program} {t : TypeId} {a : Value} {K : Value → World → Prop} {w : World} (h : ldVc P t a K w) : ∃ v, (Instr.loadAt t a).run P w = .ok v w ∧ K v w := by
  unfold ldVc at h
  split at h
  · rename_i ad
    have lift : ∀ {v}, (loadVar t ad).run P w = .ok v w → (Instr.loadAt t (.pointer (some ad))).run P w = .ok v w := fun hv => by
      simp [Instr.loadAt, Instr.sureAddr, hv]
    split at h
    · cases hb : Nat.ble (P.cellsOf t) 8 <;> simp only [hb, cond_true, cond_false] at h
      · obtain ⟨v, h1, h2⟩ := h; exact ⟨v, lift h1, h2⟩
      · obtain ⟨vs, h1, h2⟩ := exs_some h; exact ⟨_, lift h1, h2⟩
    · obtain ⟨v, h1, h2⟩ := h; exact ⟨v, lift h1, h2⟩
    · rename_i k hs1 hs2 hk
      obtain ⟨v, h1, h2⟩ := ex1_some h
      refine ⟨v, lift (run_loadVar_one hk ?_ h1), h2⟩
      cases k <;> first | rfl | (exfalso; first | exact hs1 _ rfl | exact hs2 _ _ rfl)
    · exact h.elim
  · exact h.elim
theorem gSem_ok {P : Program} {t : TypeId} {s : Sem Value} {K : Value → World → Prop} {w : World} (h : gSem P t s K w) : ∃ v w', s.run P w = .ok v w' ∧ K v w' := by
  obtain ⟨v, w', h1, h2⟩ := exT_some h
  exact ⟨v, w', h1, h2⟩
theorem calls_ret {P : Program} {f : FuncId} {args : Array Value} {w : World} {ty : TypeId} {K : Value → World → Prop} {R : Ending → World → Prop} (h : Calls P f args w (retK P ty K)) (hr : ∀ v w', K v w' → R (.returned v) w') :
    Calls P f args w R := h.mono fun e w' he => by
  obtain ⟨v, rfl, hk⟩ := exT_some he
  exact hr v w' hk
theorem run_callFunc_body {P : Program} (hP : Fine P) {f : FuncId} {args : Array Value} {w : World} (h : hasBody P f = true) : (callFunc f args).run P w = .ok (.enter f args) w := by
  unfold hasBody at h
  split at h
  · rename_i fn hf
    have hn := hP.names f fn hf
    simp only [callFunc, Sem.run_bind, run_program, Result.andThen_ok, hf, hn, Bool.false_eq_true, if_false]
    have hb : fn.body.isNone = false := by cases hq : fn.body <;> simp_all
    simp only [hb, Bool.false_eq_true, if_false, Sem.run_pure]
  · cases h

theorem opVc_ok {P : Program} (hP : Fine P) {o : Oper} {n : Nat} {e : Env} {a : Act} {K : Value → World → Prop} {w : World} (ha : Agree n e a) (h : opVc P o e K w) {next : Act → World → Prop} {Q : Exit → Act → World → Prop}
    (hK : ∀ v w', K v w' → next (a.put o.dst v) w') : o.wp P a w next Q := by
  have value : ∀ {v w'}, (execOp e.op o).run P w = .ok (.value v) w' → K v w' → o.wp P a w next Q := fun hr hk => by
    unfold Oper.wp; rw [ha.evals, hr]; exact hK _ _ hk
  have skip : ∀ {w'}, (execOp e.op o).run P w = .ok .skip w' → K undef w' → o.wp P a w next Q := fun hr hk => by
    unfold Oper.wp; rw [ha.evals, hr]; exact hK _ _ hk
  have enter : ∀ {f args ty}, (execOp e.op o).run P w = .ok (.enter f args) w → Calls P f args w (retK P ty K) → o.wp P a w next Q := fun hr hk => by
    unfold Oper.wp; rw [ha.evals, hr]
    exact calls_ret hk fun v w' hv => hK v w' hv
  unfold opVc at h
  split at h
  · obtain ⟨v, hk, hv⟩ := pureVc_ok (fun x b hx => ha.decOp hx) h
    exact value (hv w) hk
  rename_i hp
  obtain ⟨dst, op, type, pos, after, guard⟩ := o
  cases op <;> simp only [goVc] at h
  case alloc t =>
    split at h
    · rename_i hz; exact value (v := .pointer (some ⟨w.heap.size, 0, none⟩)) (by simp [execOp, run_alloc_ok hz]) h
    · exact h.elim
  case box t x => exact value (v := .pointer (some ⟨w.heap.size, 0, none⟩)) (by simp [execOp, run_box_ok]) h
  case buildSlice t m ps =>
    obtain ⟨v, w', hr, hk⟩ := bsVc_ok (parts := ps.map fun p => (p.1, e.op p.2)) (by simpa using h)
    exact value (by simp [execOp, hr]) hk
  case load t x =>
    obtain ⟨v, hr, hk⟩ := ldVc_ok h
    exact value (by simp [execOp, hr]) hk
  case store t x y =>
    split at h
    · rename_i ad hx
      obtain ⟨w', hs, hk⟩ := h
      exact skip (w' := w') (by unfold StV at hs; simp [execOp, Instr.storeAt, hx, Instr.sureAddr, hs]) hk
    · exact h.elim
  case convert s d x =>
    obtain ⟨v, w', hr, hk⟩ := gSem_ok h
    exact value (by simp [execOp, hr]) hk
  case binOp op t x y yt =>
    split at h
    · rename_i k b hx
      obtain ⟨v, w', hr, hk⟩ := gSem_ok h
      have hg := run_eqGuard P w op t x y (e.op x) (e.op y) (by rw [hx]; rintro _ _ ⟨h, _⟩; cases h) (by rw [hx]; intro h; cases h)
      exact value (by simp [execOp, hg, hr]) hk
    · obtain ⟨hg, h⟩ := h
      obtain ⟨v, w', hr, hk⟩ := gSem_ok h
      exact value (by simp [execOp, hg, hr]) hk
    · exact h.elim
  case unOp op t x =>
    obtain ⟨v, w', hr, hk⟩ := gSem_ok h
    exact value (by simp [execOp, hr]) hk
  case makeSlice t l c =>
    obtain ⟨v, w', hr, hk⟩ := gSem_ok h
    exact value (by simp [execOp, hr]) hk
  case makeMap t r =>
    obtain ⟨v, w', hr, hk⟩ := gSem_ok h
    exact value (by simp [execOp, hr]) hk
  case insert t m k x =>
    obtain ⟨w', hr, hk⟩ := h
    exact skip (by simp [execOp, hr]) hk
  case lookup t x i ok =>
    obtain ⟨v, w', hr, hk⟩ := gSem_ok h
    exact value (by simp [execOp, hr]) hk
  case call c =>
    obtain ⟨callee, args, argTypes⟩ := c
    cases callee with
    | value f =>
      simp only [callVc] at h
      split at h
      · rename_i id first captured hf
        unfold fnVc at h
        have hr : (execOp e.op ⟨dst, .call ⟨.value f, args, argTypes⟩, type, pos, after, guard⟩).run P w = (callFunc id (first ++ args.map e.op ++ captured)).run P w := by
          simp [execOp, resolve, hf, Deferred.ofValue, invoke]
        split at h
        · rename_i hb
          exact enter (hr.trans (run_callFunc_body hP hb)) h
        · obtain ⟨v, w', h1, h2⟩ := exT_some h
          exact value (hr.trans h1) h2
      · exact h.elim
    | invoke r m =>
      simp only [callVc] at h
      obtain ⟨t, v, f, rc, hv, hm, hb, hc⟩ := h
      refine enter (f := f) (args := #[rc] ++ args.map e.op) (ty := type) ?_ hc
      have hcf := run_callFunc_body hP (args := #[rc] ++ args.map e.op) (w := w) hb
      have h1 : (#[Value.iface t v] ++ Array.map e.op args).extract 1 (#[Value.iface t v] ++ Array.map e.op args).size = Array.map e.op args := by
        apply Array.ext_getElem?
        intro i
        rw [Array.getElem?_extract]
        split
        · rw [Array.getElem?_append, if_neg (by simp)]; simp
        · rename_i hi
          rw [Array.getElem?_eq_none (by simp at hi ⊢; omega)]
      have h0 : (#[Value.iface t v] ++ Array.map e.op args)[0]? = some (.iface t v) := by
        rw [Array.getElem?_append, if_pos (by simp)]; rfl
      have hcm : (callMethod (.iface t v) m (args.map e.op)).run P w = .ok (.enter f (#[rc] ++ args.map e.op)) w := by
        simp only [callMethod, Sem.run_bind, run_program, Result.andThen_ok, hm]
        exact hcf
      simp only [execOp, resolve, hv, Sem.run_bind, Sem.run_pure, Result.andThen_ok]
      simp only [invoke, h0, h1]
      exact hcm
    | builtin b =>
      cases b <;> simp only [callVc] at h <;> first | exact h.elim | skip
      case append =>
        obtain ⟨v, w', hr, hk⟩ := gSem_ok h
        exact value (by simp [execOp, resolve, invoke, builtin, hr]) hk
      case copy =>
        obtain ⟨v, w', hr, hk⟩ := gSem_ok h
        exact value (by simp [execOp, resolve, invoke, builtin, hr]) hk
  all_goals exact h.elim
end Go.Proofs.YtkdialecadjedaaGreat
