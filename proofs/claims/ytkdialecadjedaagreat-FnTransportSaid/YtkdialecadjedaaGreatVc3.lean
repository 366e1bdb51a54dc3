/- The verification conditions of a region, in one order or in any, and that they are enough (no statement of the seat is proved here; conditions: none). -/
import Derived.Test.YtkdialecadjedaaGreatVc2
namespace Go.Proofs.YtkdialecadjedaaGreat
set_option linter.unusedVariables false
set_option linter.unusedSimpArgs false
set_option linter.unusedSectionVars false
open Go

/-- The frame agrees with the list; slots that the scope 'M' does not let be written are as in 'base'. -/
structure Ag (n : Nat) (M : Nat → Bool) (base : Nat → Value) (e : Env) (a : Act) : Prop where
  ag : Agree n e a
  lt : ∀ d, M d = true → d < n
  only : ∀ j, M j = false → e.val j = base j

def putVc (M : Nat → Bool) (o : Oper) (v : Value) (k : Option Bool) (e : Env) (K : Env → Prop) : Prop :=
  match o.dst with
  | none => K e
  | some d => (match M d with
    | true => K ((d, v, k) :: e)
    | false => False)
theorem putVc_ok {n : Nat} {M : Nat → Bool} {base : Nat → Value} {o : Oper} {v : Value} {k : Option Bool} {e : Env} {K : Env → Prop} {a : Act} (h : putVc M o v k e K) (ha : Ag n M base e a) (hk : ∀ b, k = some b → v = .bool b) :
    ∃ e', Ag n M base e' (a.put o.dst v) ∧ K e' := by
  unfold putVc at h
  split at h
  · rename_i hd; rw [hd]; exact ⟨e, ha, h⟩
  · rename_i d hd
    split at h
    · rename_i hM
      rw [hd]
      refine ⟨_, ⟨ha.ag.put d (ha.lt d hM) v k hk, ha.lt, fun j hj => ?_⟩, h⟩
      rw [Env.val_cons, if_neg (by rintro rfl; rw [hM] at hj; cases hj)]
      exact ha.only j hj
    · exact h.elim

def guardVc (all : List Oper) (o : Oper) (e : Env) (yes no : Env → Prop) : Prop :=
  match o.guard with
  | none => yes e
  | some (j, want) => (match (all[j]?).bind (·.dst) with
    | none => False
    | some d => (match e.dec d with
      | some b => (match b == want with | true => yes e | false => no e)
      | none => (match e.val d with
        | .bool b => (b = true → (match want with | true => yes | false => no) ((d, .bool true, some true) :: e)) ∧ (b = false → (match want with | true => no | false => yes) ((d, .bool false, some false) :: e))
        | .tuple _ => no e
        | _ => False)))
theorem Ag.same {n : Nat} {M : Nat → Bool} {base : Nat → Value} {e : Env} {a : Act} (h : Ag n M base e a) {d : Nat} {b : Bool} (hv : e.val d = .bool b) : Ag n M base ((d, .bool b, some b) :: e) a where
  ag := h.ag.same d b hv
  lt := h.lt
  only j hj := by
    rw [Env.val_cons]
    by_cases hd : d = j
    · subst hd; rw [if_pos rfl, ← hv]; exact h.only d hj
    · rw [if_neg hd]; exact h.only j hj
theorem yielded_eq {n : Nat} {e : Env} {a : Act} (ha : Agree n e a) {ops : Array Oper} {j d : Nat} (hd : (ops.toList[j]?).bind (·.dst) = some d) (hlt : ∀ b, e.val d = .bool b → d < n) :
    yielded ops a.tmps j = match e.val d with | .bool b => some b | _ => none := by
  unfold yielded
  rw [Array.getElem?_toList] at hd
  rw [hd]
  simp only [Option.bind_some]
  have hg := ha.get d
  by_cases h : d < a.tmps.size
  · rw [Array.getD_eq_getD_getElem?, Array.getElem?_eq_getElem h, Option.getD_some] at hg
    rw [Array.getElem?_eq_getElem h, hg]
    cases e.val d <;> rfl
  · rw [Array.getElem?_eq_none (by omega)]
    cases hv : e.val d <;> simp
    have := hlt _ hv
    rw [ha.size] at h
    exact h this
theorem guardVc_ok {n : Nat} {M : Nat → Bool} {base : Nat → Value} {ops : Array Oper} {o : Oper} {e : Env} {yes no : Env → Prop} {a : Act} (h : guardVc ops.toList o e yes no) (ha : Ag n M base e a) :
    ∃ e', Ag n M base e' a ∧ ((Region.wanted o (yielded ops a.tmps) = true ∧ yes e') ∨ (Region.wanted o (yielded ops a.tmps) = false ∧ no e')) := by
  have inR : ∀ d b, e.val d = .bool b → d < n := fun d b hv => by
    have hg := ha.ag.get d
    by_cases h : d < a.tmps.size
    · rw [← ha.ag.size]; exact h
    · rw [Array.getD_eq_getD_getElem?, Array.getElem?_eq_none (by omega), Option.getD_none, hv] at hg
      cases hg
  unfold guardVc at h
  split at h
  · rename_i hg; exact ⟨e, ha, .inl ⟨by simp [Region.wanted, hg], h⟩⟩
  · rename_i j want hg
    split at h
    · exact h.elim
    · rename_i d hd
      have hy := yielded_eq ha.ag hd (inR d)
      split at h
      · rename_i b hb
        have hv := ha.ag.dec d b hb
        rw [hv] at hy
        split at h
        · rename_i he; exact ⟨e, ha, .inl ⟨by simp [Region.wanted, hg, hy]; simpa using he, h⟩⟩
        · rename_i he; exact ⟨e, ha, .inr ⟨by simp [Region.wanted, hg, hy]; simpa using he, h⟩⟩
      · split at h
        · rename_i b hv
          rw [hv] at hy
          cases b
          · have h2 := h.2 rfl
            refine ⟨_, ha.same hv, ?_⟩
            cases want
            · exact .inl ⟨by simp [Region.wanted, hg, hy], h2⟩
            · exact .inr ⟨by simp [Region.wanted, hg, hy], h2⟩
          · have h1 := h.1 rfl
            refine ⟨_, ha.same hv, ?_⟩
            cases want
            · exact .inr ⟨by simp [Region.wanted, hg, hy], h1⟩
            · exact .inl ⟨by simp [Region.wanted, hg, hy], h1⟩
        · rename_i hv
          rw [hv] at hy
          exact ⟨e, ha, .inr ⟨by simp [Region.wanted, hg, hy], h⟩⟩
        · exact h.elim

/-- One operation that is carried out. -/
def stepVc (P : Program) (M : Nat → Bool) (o : Oper) (e : Env) (K : Env → World → Prop) (w : World) : Prop :=
  match o.op with
  | .move x => putVc M o (e.op x) (e.decOp x) e fun e' => K e' w
  | .assign x => putVc M o (e.op x) (e.decOp x) e fun e' => K e' w
  | .pick c a b => (match e.decOp c with
    | some true => putVc M o (e.op a) (e.decOp a) e fun e' => K e' w
    | some false => putVc M o (e.op b) (e.decOp b) e fun e' => K e' w
    | none => pickVc (e.op c) (e.op a) (e.op b) fun v => putVc M o v none e fun e' => K e' w)
  | _ => opVc P o e (fun v w' => putVc M o v none e fun e' => K e' w') w
theorem stepVc_ok {P : Program} (hP : Fine P) {n : Nat} {M : Nat → Bool} {base : Nat → Value} {o : Oper} {e : Env} {K : Env → World → Prop} {w : World} {a : Act} (h : stepVc P M o e K w) (ha : Ag n M base e a)
    {next : Act → World → Prop} {Q : Exit → Act → World → Prop} (hK : ∀ e' a' w', Ag n M base e' a' → K e' w' → next a' w') : o.wp P a w next Q := by
  have plain : ∀ {v k}, (execOp e.op o).run P w = .ok (.value v) w → (∀ b, k = some b → v = .bool b) → putVc M o v k e (fun e' => K e' w) → o.wp P a w next Q := fun hr hk hp => by
    obtain ⟨e', ha', hk'⟩ := putVc_ok hp ha hk
    unfold Oper.wp
    rw [ha.ag.evals, hr]
    exact hK _ _ _ ha' hk'
  have gen : opVc P o e (fun v w' => putVc M o v none e fun e' => K e' w') w → o.wp P a w next Q := fun h =>
    opVc_ok hP ha.ag h fun v w' hv => by
      obtain ⟨e', ha', hk'⟩ := putVc_ok hv ha (by simp)
      exact hK _ _ _ ha' hk'
  obtain ⟨dst, op, type, pos, after, guard⟩ := o
  cases op <;> simp only [stepVc] at h
  case move x => exact plain rfl (fun b hb => ha.ag.decOp hb) h
  case assign x => exact plain rfl (fun b hb => ha.ag.decOp hb) h
  case pick c x y =>
    split at h
    · rename_i hc; exact plain (by simp [execOp, ha.ag.decOp hc, asBool]) (fun b hb => ha.ag.decOp hb) h
    · rename_i hc; exact plain (by simp [execOp, ha.ag.decOp hc, asBool]) (fun b hb => ha.ag.decOp hb) h
    · obtain ⟨p, q, r, h1, h2, h3, hq⟩ := pickVc_ok h
      exact plain (by cases p <;> simp [execOp, h1, h2, h3, asBool]) (by simp) hq
  all_goals exact gen h

def opsVc (P : Program) (M : Nat → Bool) (all : List Oper) : List Oper → Env → (Env → World → Prop) → World → Prop
  | [], e, K, w => K e w
  | o :: rest, e, K, w => guardVc all o e (fun e => stepVc P M o e (fun e' w' => opsVc P M all rest e' K w') w) (fun e => putVc M o undef none e fun e' => opsVc P M all rest e' K w)
theorem opsVc_ok {P : Program} (hP : Fine P) {n : Nat} {M : Nat → Bool} {base : Nat → Value} {ops : Array Oper} {Q : Exit → Act → World → Prop} {K : Env → World → Prop}
    (hQ : ∀ e a w, Ag n M base e a → K e w → Q .normal a w) : ∀ (l : List Oper) (e : Env) (a : Act) (w : World), opsVc P M ops.toList l e K w → Ag n M base e a → wpList P ops Q l a w
  | [], e, a, w, h, ha => hQ e a w ha h
  | o :: rest, e, a, w, h, ha => by
    obtain ⟨e1, ha1, hc⟩ := guardVc_ok h ha
    unfold wpList
    rcases hc with ⟨hw, hy⟩ | ⟨hw, hn⟩
    · rw [if_pos hw]
      exact .inl (stepVc_ok hP hy ha1 fun e' a' w' ha' hk => opsVc_ok hP hQ rest e' a' w' hk ha')
    · rw [if_neg (by rw [hw]; exact Bool.false_ne_true)]
      obtain ⟨e2, ha2, hk⟩ := putVc_ok hn ha1 (by simp)
      exact opsVc_ok hP hQ rest e2 _ w hk ha2

/-! ### A region whose order is open -/
section
variable {P : Program} {ops : Array Oper} {Q : Exit → Act → World → Prop} {S : World → Prop} {T : Nat → Bool}
/-- Whatever order is picked, S holding behind each operation outside the tail T. -/
def wpAnyT (P : Program) (ops : Array Oper) (Q : Exit → Act → World → Prop) (S : World → Prop) (T : Nat → Bool) : Nat → Array Bool → Act → World → Prop
  | 0, listed, a, w => Region.ready .any ops listed = [] ∧ Q .normal a w
  | fuel + 1, listed, a, w => (Region.ready .any ops listed = [] → Q .normal a w) ∧
    ∀ i ∈ Region.ready .any ops listed, wpOp P ops Q i (fun a' w' => (T i = false → S w') ∧ wpAnyT P ops Q S T fuel (listed.setIfInBounds i true) a' w') a w
theorem wpAny_of_T : ∀ (fuel : Nat) (listed : Array Bool) (a : Act) (w : World), wpAnyT P ops Q S T fuel listed a w → wpAny P .any ops Q fuel listed a w
  | 0, _, _, _, h => h
  | fuel + 1, _, _, _, h => ⟨h.1, fun i hi => wpOp_mono (fun a' w' h' => wpAny_of_T fuel _ a' w' h'.2) (h.2 i hi)⟩
theorem wpAnyT_first {i : Nat} {oi : Oper} {v : Value} (hi : ops[i]? = some oi) (hsel : ∀ (j : Nat) (o : Oper) cs b, ops[j]? = some o → o.op ≠ .select cs b)
    (hQ : ∀ c a w, Q (.panic c) (a.put oi.dst v) w → Q (.panic c) a w) :
    ∀ (fuel : Nat) (listed : Array Bool) (a : Act) (w : World),
      (∀ (j : Nat) (oj : Oper), ops[j]? = some oj → j ≠ i → listed.getD j true = false → (∀ ed ∈ oj.after, Region.binds .any ed = true → ed.on ≠ i) → oi.apart ops oj = true ∧ (T i = false → T j = false)) →
      i ∈ Region.ready .any ops listed → YieldsIf P ops (fun w => T i = false → S w) oi v a → (T i = false → S w) →
      wpAnyT P ops Q S T fuel (listed.setIfInBounds i true) (a.put oi.dst v) w → wpAnyT P ops Q S T (fuel + 1) listed a w := by
  intro fuel
  induction fuel with
  | zero =>
    intro listed a w _ hr hy hS H
    refine ⟨fun h => (by rw [h] at hr; cases hr), fun j hj => ?_⟩
    by_cases hji : j = i
    · subst hji; exact hy.wpOp hi hS ⟨hS, H⟩
    · have := ready_mono hj hji
      rw [H.1] at this
      cases this
  | succ fuel ih =>
    intro listed a w hfree hr hy hS H
    refine ⟨fun h => (by rw [h] at hr; cases hr), fun j hj => ?_⟩
    by_cases hji : j = i
    · subst hji; exact hy.wpOp hi hS ⟨hS, H⟩
    · have h1 := H.2 j (ready_mono hj hji)
      obtain ⟨hjun, oj, hoj, hall⟩ := mem_ready.1 hj
      have hnot : ∀ ed ∈ oj.after, Region.binds .any ed = true → ed.on ≠ i := fun ed he hb heq => by
        have h1 := hall ed he hb
        have h0 := (mem_ready.1 hr).1
        rw [heq] at h1
        rcases Nat.lt_or_ge i listed.size with h' | h'
        · simp [h'] at h0 h1; rw [h0] at h1; cases h1
        · simp [Array.getElem?_eq_none h'] at h1
      have hfj := hfree j oj hoj hji hjun hnot
      have h2 := wpOp_putIf hoj hfj.1 (fun cs b => hsel i oi cs b hi) (fun cs b => hsel j oj cs b hoj) hQ hy h1
      refine wpOp_mono (fun a' w' h3 => ⟨h3.2.1, ?_⟩) h2
      refine ih (listed.setIfInBounds j true) a' w' (fun k ok hk hki hun hno => hfree k ok hk hki ?_ hno) (ready_mono hr (Ne.symm hji)) h3.1 (fun hT => h3.2.1 (hfj.2 hT)) ?_
      · by_cases hjk : j = k
        · subst hjk; exact hjun
        · rw [getD_set_ne true hjk] at hun; exact hun
      · rw [Array.setIfInBounds_comm _ _ hji]
        exact h3.2.2
end
end Go.Proofs.YtkdialecadjedaaGreat
