/- The verification conditions of a region whose order is open, walked in one order, and that they are enough (no statement of the seat is proved here; conditions: none). -/
import Derived.Test.YtkdialecadjedaaGreatVc3
namespace Go.Proofs.YtkdialecadjedaaGreat
set_option linter.unusedVariables false
set_option linter.unusedSimpArgs false
set_option linter.unusedSectionVars false
open Go

/-- One order of the operations, or two where two are ready and neither can be taken first. -/
inductive Plan where
  | done
  | one (i : Nat) (take : Bool) (rest : Plan)
  | two (i j : Nat) (a b : Plan)
def emask (o : Oper) : Nat := o.after.toList.foldl (fun m ed => bif Region.binds .any ed then m ||| 2 ^ ed.on else m) 0
/-- 'm' holds all of 'd'. -/
def within (m d : Nat) : Bool := Nat.beq (m &&& d) m
def othersOk (tail : Bool) (oi : Oper) (i : Nat) (arr : Array Oper) (tl : Nat) (done : Nat) : List Oper → List Nat → Nat → Bool
  | [], _, _ => true
  | oj :: r, m :: ms, j => (done.testBit j || Nat.beq j i || m.testBit i || (oi.apart arr oj && (tail || !tl.testBit j))) && othersOk tail oi i arr tl done r ms (j + 1)
  | _ :: _, [], _ => false
def noneReady (i k : Nat) (done : Nat) : List Nat → Nat → Bool
  | [], _ => true
  | m :: ms, j => (done.testBit j || Nat.beq j i || Nat.beq j k || !within m done) && noneReady i k done ms (j + 1)
/-- 'tl': the operations of the tail; 'past': one of them has been listed. -/
def planOk (arr : Array Oper) (all : List Oper) (ms : List Nat) (tl : Nat) : Plan → Nat → Bool → Bool
  | .done, done, _ => Nat.beq (done + 1) (2 ^ all.length)
  | .one i take rest, done, past => (match all[i]?, ms[i]? with
    | some oi, some m => !done.testBit i && within m done && (!past || tl.testBit i) && (bif take then othersOk (tl.testBit i) oi i arr tl done all ms 0 else noneReady i i done ms 0) && planOk arr all ms tl rest (done ||| 2 ^ i) (tl.testBit i)
    | _, _ => false)
  | .two i j a b, done, past => (match ms[i]?, ms[j]? with
    | some m, some n => !done.testBit i && !done.testBit j && within m done && within n done && (!past || (tl.testBit i && tl.testBit j)) && noneReady i j done ms 0 &&
        planOk arr all ms tl a (done ||| 2 ^ i) (tl.testBit i) && planOk arr all ms tl b (done ||| 2 ^ j) (tl.testBit j)
    | _, _ => false)
def planDepth : Plan → Nat → Bool
  | .done, n => Nat.beq n 0
  | .one _ _ r, n + 1 => planDepth r n
  | .two _ _ a b, n + 1 => planDepth a n && planDepth b n
  | _, 0 => false
/-- Something that is not taken stands outside the tail. -/
def planRow (tl : Nat) : Plan → Bool
  | .done => false
  | .one i take r => (!take && !tl.testBit i) || planRow tl r
  | .two i j a b => !tl.testBit i || !tl.testBit j || planRow tl a || planRow tl b

/-- A load that may be taken first: it reads what no call of the region turns. -/
def ldTVc (P : Program) (t : TypeId) (a : Value) (row : Option (Option Nat)) (w0 : World) (Q : Value → Prop) : Prop :=
  match row with
  | none => ldVc P t a (fun v _ => Q v) w0
  | some r => (match a with
    | .pointer (some ad) => some ad.block ≠ r ∧ (∃ c ty f, w0.heap[ad.block]? = some (.cells c ty f)) ∧ ldVc P t (.pointer (some ad)) (fun v _ => Q v) w0
    | _ => False)
/-- A conversion that reads (the bytes of a slice). -/
def cvTVc (P : Program) (s d : TypeId) (x : Value) (row : Option (Option Nat)) (w0 : World) (Q : Value → Prop) : Prop :=
  match row with
  | none => exT P d fun v => (convert s d x).run P w0 = .ok v w0 ∧ Q v
  | some r => exT P d fun v => (∀ w, w0.grownBy w r → (convert s d x).run P w = .ok v w) ∧ Q v
def takeVc (P : Program) (o : Oper) (tail : Bool) (e : Env) (row : Option (Option Nat)) (w0 : World) (Q : Value → Prop) : Prop :=
  match isPure P o.op with
  | true => pureVc P o.op e Q
  | false => (match o.op, tail with
    | .load t x, false => ldTVc P t (e.op x) row w0 Q
    | .convert s d x, false => cvTVc P s d (e.op x) row w0 Q
    | _, _ => False)
def takeStep (P : Program) (M : Nat → Bool) (o : Oper) (tail : Bool) (e : Env) (row : Option (Option Nat)) (w0 : World) (K : Env → Prop) : Prop :=
  match o.op with
  | .move x => putVc M o (e.op x) (e.decOp x) e K
  | .assign x => putVc M o (e.op x) (e.decOp x) e K
  | .pick c a b => (match e.decOp c with
    | some true => putVc M o (e.op a) (e.decOp a) e K
    | some false => putVc M o (e.op b) (e.decOp b) e K
    | none => pickVc (e.op c) (e.op a) (e.op b) fun v => putVc M o v none e K)
  | _ => takeVc P o tail e row w0 fun v => putVc M o v none e K
def keptVc (tail : Bool) (row : Option (Option Nat)) (w0 w' : World) (p : Prop) : Prop :=
  match tail with
  | true => p
  | false => (match row with
    | none => False
    | some r => w0.grownBy w' r ∧ p)
/-- One operation that is carried out, in its place. -/
def oneVc (P : Program) (M : Nat → Bool) (all : List Oper) (tl : Nat) (row : Option (Option Nat)) (w0 : World) (i : Nat) (take : Bool) (e : Env) (w : World) (K : Env → World → Prop) : Prop :=
  match all[i]? with
    | none => False
    | some o => guardVc all o e
        (fun e => match take with
          | true => takeStep P M o (tl.testBit i) e row w0 fun e' => K e' w
          | false => stepVc P M o e (fun e' w' => keptVc (tl.testBit i) row w0 w' (K e' w')) w)
        (fun e => putVc M o undef none e fun e' => K e' w)
def planVc (P : Program) (M : Nat → Bool) (all : List Oper) (tl : Nat) (row : Option (Option Nat)) (w0 : World) : Plan → Env → (Env → World → Prop) → World → Prop
  | .done, e, K, w => K e w
  | .one i take rest, e, K, w => oneVc P M all tl row w0 i take e w fun e' w' => planVc P M all tl row w0 rest e' K w'
  | .two i j a b, e, K, w => (oneVc P M all tl row w0 i false e w fun e' w' => planVc P M all tl row w0 a e' K w') ∧ (oneVc P M all tl row w0 j false e w fun e' w' => planVc P M all tl row w0 b e' K w')
def drawVc (P : Program) (M : Nat → Bool) (ops : Array Oper) (ms : List Nat) (tl : Nat) (p : Plan) (e : Env) (K : Env → World → Prop) (w : World) : Prop :=
  match (planDepth p ops.toList.length && (ops.toList.map emask == ms) && planOk ops ops.toList ms tl p 0 false && Region.noSelect ops), planRow tl p with
  | true, false => planVc P M ops.toList tl none w.drew p e K w.drew
  | true, true => ∃ r : Option Nat, planVc P M ops.toList tl (some r) w.drew p e K w.drew
  | false, _ => False

/-! ### It is enough -/
structure Lst (ops : Array Oper) (done : Nat) (listed : Array Bool) : Prop where
  size : listed.size = ops.size
  lt : done < 2 ^ ops.size
  iff : ∀ j, j < ops.size → listed.getD j true = done.testBit j
theorem Lst.getD_false {ops : Array Oper} {done : Nat} {listed : Array Bool} (h : Lst ops done listed) (j : Nat) : listed.getD j false = (decide (j < ops.size) && done.testBit j) := by
  by_cases hj : j < ops.size
  · have := h.iff j hj
    rw [Array.getD_eq_getD_getElem?, Array.getElem?_eq_getElem (by rw [h.size]; exact hj), Option.getD_some] at this
    rw [Array.getD_eq_getD_getElem?, Array.getElem?_eq_getElem (by rw [h.size]; exact hj), Option.getD_some, this]
    simp [hj]
  · rw [Array.getD_eq_getD_getElem?, Array.getElem?_eq_none (by rw [h.size]; omega)]
    simp [hj]
theorem testBit_lor_pow (d i j : Nat) : (d ||| 2 ^ i).testBit j = (d.testBit j || decide (i = j)) := by
  rw [Nat.testBit_or, Nat.testBit_two_pow]
theorem Lst.step {ops : Array Oper} {done : Nat} {listed : Array Bool} (h : Lst ops done listed) (i : Nat) (hi : i < ops.size) : Lst ops (done ||| 2 ^ i) (listed.setIfInBounds i true) where
  size := by simp [h.size]
  lt := Nat.or_lt_two_pow h.lt (Nat.pow_lt_pow_right (by omega) hi)
  iff j hj := by
    rw [testBit_lor_pow]
    by_cases hij : i = j
    · subst hij
      simp [Array.getElem?_setIfInBounds_self, h.size, hj]
    · rw [getD_set_ne true hij, h.iff j hj]; simp [hij]
theorem emask_spec {o : Oper} {k : Nat} : (emask o).testBit k = true ↔ ∃ ed ∈ o.after, Region.binds .any ed = true ∧ ed.on = k := by
  have gen : ∀ (l : List Edge) (m : Nat), (l.foldl (fun m ed => bif Region.binds .any ed then m ||| 2 ^ ed.on else m) m).testBit k = true ↔ m.testBit k = true ∨ ∃ ed ∈ l, Region.binds .any ed = true ∧ ed.on = k := by
    intro l
    induction l with
    | nil => intro m; simp
    | cons x r ih =>
      intro m
      rw [List.foldl_cons, ih]
      cases hb : Region.binds .any x
      · simp [hb]
      · simp only [cond_true, testBit_lor_pow, Bool.or_eq_true, decide_eq_true_eq, List.mem_cons, exists_eq_or_imp, hb, true_and]
        exact or_assoc
  unfold emask
  rw [gen]
  simp

theorem within_spec {m d k : Nat} (h : within m d = true) (hk : m.testBit k = true) : d.testBit k = true := by
  have h1 : m &&& d = m := Nat.eq_of_beq_eq_true h
  have h2 := congrArg (fun x => Nat.testBit x k) h1
  simp only [Nat.testBit_and, hk, Bool.true_and] at h2
  exact h2
theorem othersOk_spec {tail : Bool} {oi : Oper} {i : Nat} {arr : Array Oper} {tl : Nat} {done : Nat} : ∀ (l : List Oper) (j0 : Nat), othersOk tail oi i arr tl done l (l.map emask) j0 = true →
    ∀ (k : Nat) (oj : Oper), l[k]? = some oj → done.testBit (j0 + k) = false → j0 + k ≠ i → (emask oj).testBit i = false → oi.apart arr oj = true ∧ (tail = false → tl.testBit (j0 + k) = false)
  | [], _, _, _, _, hk, _, _, _ => by simp at hk
  | o :: r, j0, h, k, oj, hk, h1, h2, h3 => by
    simp only [List.map_cons, othersOk, Bool.and_eq_true] at h
    cases k with
    | zero =>
      simp only [List.getElem?_cons_zero, Option.some.injEq] at hk
      subst hk
      have h4 := h.1
      simp only [Nat.add_zero] at h1 h2 ⊢
      have h5 : Nat.beq j0 i = false := by rw [← Bool.not_eq_true]; exact fun hb => h2 (Nat.eq_of_beq_eq_true hb)
      simp only [h1, h5, h3, Bool.false_or, Bool.and_eq_true, Bool.or_eq_true, Bool.not_eq_true'] at h4
      exact ⟨h4.1, fun ht => h4.2.resolve_left (by simp [ht])⟩
    | succ k =>
      have := othersOk_spec r (j0 + 1) h.2 k oj (by simpa using hk) (by rw [show j0 + 1 + k = j0 + (k + 1) by omega]; exact h1) (by omega) h3
      rwa [show j0 + 1 + k = j0 + (k + 1) by omega] at this
theorem noneReady_spec {i q : Nat} {done : Nat} : ∀ (l : List Oper) (j0 : Nat), noneReady i q done (l.map emask) j0 = true →
    ∀ (k : Nat) (oj : Oper), l[k]? = some oj → done.testBit (j0 + k) = false → j0 + k ≠ i → j0 + k ≠ q → within (emask oj) done = false
  | [], _, _, _, _, hk, _, _, _ => by simp at hk
  | o :: r, j0, h, k, oj, hk, h1, h2, h3 => by
    simp only [List.map_cons, noneReady, Bool.and_eq_true] at h
    cases k with
    | zero =>
      simp only [List.getElem?_cons_zero, Option.some.injEq] at hk
      subst hk
      have h4 := h.1
      simp only [Nat.add_zero] at h1 h2 h3
      have h5 : Nat.beq j0 i = false := by rw [← Bool.not_eq_true]; exact fun hb => h2 (Nat.eq_of_beq_eq_true hb)
      have h6 : Nat.beq j0 q = false := by rw [← Bool.not_eq_true]; exact fun hb => h3 (Nat.eq_of_beq_eq_true hb)
      simpa only [h1, h5, h6, Bool.false_or, Bool.not_eq_true'] using h4
    | succ k => exact noneReady_spec r (j0 + 1) h.2 k oj (by simpa using hk) (by rw [show j0 + 1 + k = j0 + (k + 1) by omega]; exact h1) (by omega) (by omega)

theorem load_same {P : Program} {w w' : World} {a : Addr} {v : Value} {c : Array Value} {ty : TypeId} {f : Nat × Nat} (hb : w.heap[a.block]? = some (.cells c ty f)) (hs : w'.heap[a.block]? = w.heap[a.block]?)
    (h : (load a).run P w = .ok v w) : (load a).run P w' = .ok v w' := by
  rw [run_load] at h ⊢
  rw [World.cell?_of_block (w := w) (w' := w') hs]
  cases hc : w.cell? a with
  | some u => rw [hc] at h; simp only [Result.ok.injEq, and_true] at h ⊢; exact h
  | none =>
    rw [hc] at h
    simp only [World.farLoad, hb] at h
    cases h
theorem loadCellsFrom_same {P : Program} {w w' : World} {a : Addr} {c : Array Value} {ty : TypeId} {f : Nat × Nat} (hb : w.heap[a.block]? = some (.cells c ty f)) (hs : w'.heap[a.block]? = w.heap[a.block]?) :
    ∀ (n i : Nat) (acc r : Array Value), (loadCellsFrom a i n acc).run P w = .ok r w → (loadCellsFrom a i n acc).run P w' = .ok r w'
  | 0, i, acc, r, h => by
    simp only [loadCellsFrom, Sem.run_pure, Result.ok.injEq, and_true] at h ⊢
    exact h
  | n + 1, i, acc, r, h => by
    have hblk : (a.add i).block = a.block := by unfold Addr.add; split <;> rfl
    simp only [loadCellsFrom, Sem.run_bind] at h ⊢
    have hc := run_load P w (a.add i) .plain
    cases hv : w.cell? (a.add i) with
    | some u =>
      rw [hv] at hc
      have hc' := load_same (P := P) (w' := w') (by rw [hblk]; exact hb) (by rw [hblk]; exact hs) hc
      rw [hc] at h
      rw [hc']
      exact loadCellsFrom_same hb hs n (i + 1) (acc.push u) r h
    | none =>
      rw [hv] at hc
      simp only [World.farLoad, hblk, hb] at hc
      rw [hc] at h
      cases h
theorem loadVar_same {P : Program} {w w' : World} {t : TypeId} {a : Addr} {v : Value} {c : Array Value} {ty : TypeId} {f : Nat × Nat} (hb : w.heap[a.block]? = some (.cells c ty f)) (hs : w'.heap[a.block]? = w.heap[a.block]?)
    (h : (loadVar t a).run P w = .ok v w) : (loadVar t a).run P w' = .ok v w' := by
  cases ht : P.underlying t with
  | none => simp [loadVar, isAgg, underlying, ht] at h
  | some k =>
    cases hi : P.info? t with
    | none => simp [Program.underlying, hi] at ht
    | some i =>
      have ha : ∃ b, ∀ w, (isAgg t).run P w = .ok b w := by
        cases k <;> exact ⟨_, fun w => by simp only [isAgg, Sem.run_bind, run_underlying ht, Result.andThen_ok]; rfl⟩
      obtain ⟨b, ha⟩ := ha
      have hz : ∀ w, (sizeOf t).run P w = .ok i.size w := fun w => by simp [sizeOf, typeInfo, hi]
      cases b
      · simp only [loadVar, Sem.run_bind, ha, Result.andThen_ok, Bool.false_eq_true, if_false] at h ⊢
        exact load_same hb hs h
      · simp only [loadVar, Sem.run_bind, ha, Result.andThen_ok, if_true, hz, loadCells] at h ⊢
        cases hr : (loadCellsFrom a 0 i.size #[]).run P w with
        | halt x w1 => rw [hr] at h; cases h
        | ok r w1 =>
          rw [hr] at h
          simp only [Result.andThen_ok, Sem.run_pure, Result.ok.injEq] at h
          obtain ⟨h1, h2⟩ := h
          subst h2
          rw [loadCellsFrom_same hb hs _ _ _ _ hr]
          simp [h1]
end Go.Proofs.YtkdialecadjedaaGreat
