/- The verification conditions of a function, and that they are enough (no statement of the seat is proved here; conditions: none). -/
import Derived.Test.YtkdialecadjedaaGreatDoorVc5
namespace Go.Proofs.YtkdialecadjedaaGreatDoor
set_option linter.unusedVariables false
set_option linter.unusedSimpArgs false
set_option linter.unusedSectionVars false
open Go

structure Hints where
  plans : List (Nat × List Nat × Plan)
  loops : List (Nat × List (Nat × TypeId) × List Nat)
  cuts : List (Nat × List (Nat × TypeId) × List Nat)
def look {α : Type} : List (Nat × α) → Nat → Option α
  | [], _ => none
  | (i, x) :: r, j => bif Nat.beq i j then some x else look r j
theorem look_cons {α : Type} (i : Nat) (x : α) (r : List (Nat × α)) (j : Nat) : look ((i, x) :: r) j = if i = j then some x else look r j := by
  by_cases h : i = j
  · subst h; simp [look]
  · have : Nat.beq i j = false := by rw [← Bool.not_eq_true]; exact fun hb => h (Nat.eq_of_beq_eq_true hb)
    simp [look, this, h]
def firstReg : Code → Option Nat
  | .region id _ _ => some id
  | .seq a _ => firstReg a
  | .block _ c => firstReg c
  | .loop c => firstReg c
  | _ => none
def inL : List Nat → Nat → Bool
  | [], _ => false
  | i :: r, j => Nat.beq i j || inL r j
def und (P : Program) (t : TypeId) : TypeDesc := (P.underlying t).getD .invalid
def havoc : List Nat → (Nat → Value) → Env → Env
  | [], _, e => e
  | s :: r, d, e => (s, d s, none) :: havoc r d e
def entries : List (Nat × TypeId) → List Value → Env → Env
  | (s, _) :: r, v :: vs, e => (s, v, none) :: entries r vs e
  | _, _, e => e
def valsOf (sl : List (Nat × TypeId)) (e : Env) : List Value := sl.map fun s => e.val s.1
def kindsOf (P : Program) (sl : List (Nat × TypeId)) : List TypeDesc := sl.map fun s => und P s.2

abbrev Post := Env → World → Prop
def codeVc (P : Program) (H : Hints) : Code → (Nat → Bool) → Post → List (Nat × Post) → Post → Env → World → Prop
  | .skip, _, K, _, _, e, w => K e w
  | .region id ops draw, M, K, _, _, e, w => (match draw with
    | true => (match look H.plans id with
      | some (ms, p) => drawVc P M ops ms p e K w
      | none => False)
    | false => opsVc P M ops.toList ops.toList e K w)
  | .seq a b, M, K, X, Rt, e, w => (match (firstReg b).bind (look H.cuts) with
    | none => codeVc P H a M (fun e' w' => codeVc P H b M K X Rt e' w') X Rt e w
    | some (sl, ms) => ∃ J : CurL (kindsOf P sl), codeVc P H a (fun d => M d && inL ms d) (fun e' w' => appL (kindsOf P sl) J (valsOf sl e') 0 w') X Rt e w ∧
        ∀ d : Nat → Value, allL (kindsOf P sl) J fun vs f => ∀ w', f 0 w' → codeVc P H b M K X Rt (entries sl vs (havoc ms d e)) w')
  | .cond c t f, M, K, X, Rt, e, w => (match e.decOp c with
    | some true => codeVc P H t M K X Rt e w
    | some false => codeVc P H f M K X Rt e w
    | none => (match e.op c with
      | .bool b => (b = true → codeVc P H t M K X Rt e w) ∧ (b = false → codeVc P H f M K X Rt e w)
      | _ => False))
  | .block id (.loop body), M, K, X, Rt, e, w => (match look H.loops id with
    | some (sl, ms) => ∃ Inv : CurL (kindsOf P sl), (∃ m, appL (kindsOf P sl) Inv (valsOf sl e) m w) ∧
        ∀ d : Nat → Value, allL (kindsOf P sl) Inv fun vs f => ∀ m w', f m w' →
          codeVc P H body (fun d => M d && inL ms d) (fun e' w'' => ∃ m', m' < m ∧ appL (kindsOf P sl) Inv (valsOf sl e') m' w'') ((id, K) :: X) Rt (entries sl vs (havoc ms d e)) w'
    | none => False)
  | .block id c, M, K, X, Rt, e, w => codeVc P H c M K ((id, K) :: X) Rt e w
  | .exit id, _, _, X, _, e, w => (match look X id with
    | some K' => K' e w
    | none => False)
  | .ret, _, _, _, Rt, e, w => Rt e w
  | _, _, _, _, _, _, _ => False

def QQ (n : Nat) (M : Nat → Bool) (base : Nat → Value) (K : Post) (X : List (Nat × Post)) (Rt : Post) : Exit → Act → World → Prop
  | .normal, a, w => ∃ e, Ag n M base e a ∧ K e w
  | .exit id, a, w => ∃ e, Ag n M base e a ∧ ∃ K', look X id = some K' ∧ K' e w
  | .ret, a, w => ∃ e, Ag n M base e a ∧ Rt e w
  | _, _, _ => False

theorem inL_iff {l : List Nat} {j : Nat} : inL l j = true ↔ j ∈ l := by
  induction l with
  | nil => simp [inL]
  | cons i r ih =>
    simp only [inL, Bool.or_eq_true, ih, List.mem_cons]
    constructor
    · rintro (h | h)
      · exact .inl (Nat.eq_of_beq_eq_true h).symm
      · exact .inr h
    · rintro (rfl | h)
      · exact .inl (Nat.beq_refl _)
      · exact .inr h
theorem havoc_val (ms : List Nat) (d : Nat → Value) (e : Env) (j : Nat) : (havoc ms d e).val j = if j ∈ ms then d j else e.val j := by
  induction ms with
  | nil => simp [havoc]
  | cons s r ih =>
    simp only [havoc, Env.val_cons, ih, List.mem_cons]
    by_cases h : s = j
    · subst h; simp
    · simp [h, Ne.symm h]
theorem havoc_dec (ms : List Nat) (d : Nat → Value) (e : Env) (j : Nat) : (havoc ms d e).dec j = if j ∈ ms then none else e.dec j := by
  induction ms with
  | nil => simp [havoc]
  | cons s r ih =>
    simp only [havoc, Env.dec_cons, ih, List.mem_cons]
    by_cases h : s = j
    · subst h; simp
    · simp [h, Ne.symm h]
theorem entries_val (sl : List (Nat × TypeId)) (g : Nat → Value) (e : Env) (j : Nat) : (entries sl (sl.map fun s => g s.1) e).val j = if j ∈ sl.map (·.1) then g j else e.val j := by
  induction sl with
  | nil => simp [entries]
  | cons s r ih =>
    obtain ⟨s, t⟩ := s
    simp only [List.map_cons, entries, Env.val_cons, ih, List.mem_cons]
    by_cases h : s = j
    · subst h; simp
    · have h' : ¬ j = s := fun e => h e.symm
      rw [if_neg h]
      simp only [h', false_or]
theorem entries_dec (sl : List (Nat × TypeId)) (g : Nat → Value) (e : Env) (j : Nat) : (entries sl (sl.map fun s => g s.1) e).dec j = if j ∈ sl.map (·.1) then none else e.dec j := by
  induction sl with
  | nil => simp [entries]
  | cons s r ih =>
    obtain ⟨s, t⟩ := s
    simp only [List.map_cons, entries, Env.dec_cons, ih, List.mem_cons]
    by_cases h : s = j
    · subst h; simp
    · have h' : ¬ j = s := fun e => h e.symm
      rw [if_neg h]
      simp only [h', false_or]

/-- Behind a piece that wrote the slots 'ms' alone: the frame is the old list with those slots' values put in front. -/
theorem Ag.meet {n : Nat} {M : Nat → Bool} {base : Nat → Value} {e e' : Env} {a a' : Act} {ms : List Nat} (ha : Ag n M base e a) (ha' : Ag n (fun d => M d && inL ms d) e.val e' a') (sl : List (Nat × TypeId)) :
    Ag n (fun d => M d && inL ms d) e.val (entries sl (valsOf sl e') (havoc ms e'.val e)) a' ∧ (∀ j, M j = false → (entries sl (valsOf sl e') (havoc ms e'.val e)).val j = base j) := by
  have hv : ∀ j, (entries sl (valsOf sl e') (havoc ms e'.val e)).val j = e'.val j := fun j => by
    unfold valsOf
    rw [entries_val sl e'.val, havoc_val]
    split
    · rfl
    · split
      · rfl
      · rename_i h
        refine (ha'.only j ?_).symm
        have : inL ms j = false := by rw [← Bool.not_eq_true, inL_iff]; exact h
        simp [this]
  refine ⟨⟨⟨ha'.ag.size, fun j => by rw [hv]; exact ha'.ag.get j, fun j b hb => ?_, ha'.ag.defers⟩, ha'.lt, fun j hj => by rw [hv]; exact ha'.only j hj⟩, fun j hj => ?_⟩
  · rw [hv]
    unfold valsOf at hb
    rw [entries_dec sl e'.val, havoc_dec] at hb
    split at hb
    · cases hb
    · split at hb
      · cases hb
      · rename_i h
        have : inL ms j = false := by rw [← Bool.not_eq_true, inL_iff]; exact h
        rw [ha'.only j (by simp [this])]
        exact ha.ag.dec j b hb
  · rw [hv, ha'.only j (by simp [hj])]
    exact ha.only j hj
theorem Ag.outer {n : Nat} {M M' : Nat → Bool} {base : Nat → Value} {e e' : Env} {a a' : Act} (ha : Ag n M base e a) (hM : ∀ d, M d = false → M' d = false) (ha' : Ag n M' e.val e' a') : Ag n M base e' a' where
  ag := ha'.ag
  lt := ha.lt
  only j hj := by rw [ha'.only j (hM j hj)]; exact ha.only j hj

theorem least {p : Nat → Prop} (h : ∃ n, p n) : ∃ n, p n ∧ ∀ m, p m → n ≤ m := by
  obtain ⟨n, hn⟩ := h
  induction n using Nat.strongRecOn with
  | _ n ih =>
    by_cases hex : ∃ m, m < n ∧ p m
    · obtain ⟨m, hm, hp⟩ := hex; exact ih m hm hp
    · exact ⟨n, hn, fun m hm => by
        rcases Nat.lt_or_ge m n with h | h
        · exact absurd ⟨m, h, hm⟩ hex
        · exact h⟩

theorem wp_loop_m {P : Program} {Q : Exit → Act → World → Prop} {c : Code} (J : Nat → Act → World → Prop) {a : Act} {w : World} (h₀ : ∃ m, J m a w)
    (round : ∀ m a w, J m a w → c.wp P (Exit.then (fun a' w' => ∃ m', m' < m ∧ J m' a' w') Q) a w) : (Code.loop c).wp P Q a w := by
  classical
  let μ : Act → World → Nat := fun a w => if h : ∃ m, J m a w then Classical.choose (least h) else 0
  have hμ : ∀ a w, (∃ m, J m a w) → J (μ a w) a w ∧ ∀ m, J m a w → μ a w ≤ m := fun a w h => by
    simp only [μ, dif_pos h]
    exact Classical.choose_spec (least h)
  refine wp_loop (fun a w => ∃ m, J m a w) μ h₀ fun a w hI => ?_
  obtain ⟨h1, h2⟩ := hμ a w hI
  refine Code.wp_mono (fun e a' w' hq => ?_) (round _ a w h1)
  cases e <;> first | exact hq | skip
  obtain ⟨m', hlt, hJ⟩ := hq
  exact ⟨⟨m', hJ⟩, Nat.lt_of_le_of_lt ((hμ a' w' ⟨m', hJ⟩).2 m' hJ) hlt⟩

theorem codeVc_ok {P : Program} (hP : Fine P) (H : Hints) {n : Nat} : ∀ (c : Code) (M : Nat → Bool) (base : Nat → Value) (K : Post) (X : List (Nat × Post)) (Rt : Post) (e : Env) (a : Act) (w : World),
    codeVc P H c M K X Rt e w → Ag n M base e a → c.wp P (QQ n M base K X Rt) a w
  | .skip, M, base, K, X, Rt, e, a, w, h, ha => wp_skip ⟨e, ha, h⟩
  | .region id ops draw, M, base, K, X, Rt, e, a, w, h, ha => by
    cases draw
    · simp only [codeVc] at h
      exact wp_region_list (opsVc_ok hP (fun e a w ha hk => ⟨e, ha, hk⟩) ops.toList e a w h ha)
    · simp only [codeVc] at h
      split at h
      · exact drawVc_ok hP h ha (fun _ _ _ h => h) (fun e a w ha hk => ⟨e, ha, hk⟩)
      · exact h.elim
  | .seq x y, M, base, K, X, Rt, e, a, w, h, ha => by
    simp only [codeVc] at h
    refine wp_seq ?_
    split at h
    · refine Code.wp_mono (fun ex a' w' hq => ?_) (codeVc_ok hP H x M base _ X Rt e a w h ha)
      cases ex <;> first | exact hq | skip
      obtain ⟨e', ha', hk⟩ := hq
      exact codeVc_ok hP H y M base K X Rt e' a' w' hk ha'
    · rename_i sl ms hc
      obtain ⟨J, h1, h2⟩ := h
      have hin : Ag n (fun d => M d && inL ms d) e.val e a := ⟨ha.ag, fun d hd => ha.lt d (by simp only [Bool.and_eq_true] at hd; exact hd.1), fun _ _ => rfl⟩
      refine Code.wp_mono (fun ex a' w' hq => ?_) (codeVc_ok hP H x _ e.val _ X Rt e a w h1 hin)
      have out : ∀ e', Ag n (fun d => M d && inL ms d) e.val e' a' → Ag n M base e' a' := fun e' => ha.outer (fun d hd => by simp [hd])
      cases ex <;> first | exact hq | skip
      case normal =>
        obtain ⟨e', ha', hk⟩ := hq
        obtain ⟨vs, g, hvs, _, hg, hR⟩ := allL_appL hk (h2 e'.val)
        rw [List.take_of_length_le (by simp [valsOf, kindsOf])] at hvs
        subst hvs
        obtain ⟨hm, hm2⟩ := ha.meet ha' sl
        exact codeVc_ok hP H y M base K X Rt _ a' w' (hR w' hg) ⟨hm.ag, ha.lt, hm2⟩
      case exit id =>
        obtain ⟨e', ha', hk⟩ := hq
        exact ⟨e', out e' ha', hk⟩
      case ret =>
        obtain ⟨e', ha', hk⟩ := hq
        exact ⟨e', out e' ha', hk⟩
  | .cond c x y, M, base, K, X, Rt, e, a, w, h, ha => by
    simp only [codeVc] at h
    split at h
    · rename_i hd
      exact wp_cond_true (by rw [ha.ag.eval]; exact ha.ag.decOp hd) (codeVc_ok hP H x M base K X Rt e a w h ha)
    · rename_i hd
      exact wp_cond_false (by rw [ha.ag.eval]; exact ha.ag.decOp hd) (codeVc_ok hP H y M base K X Rt e a w h ha)
    · split at h
      · rename_i b hb
        exact wp_cond_split (by rw [ha.ag.eval]; exact hb) (fun hbt => codeVc_ok hP H x M base K X Rt e a w (h.1 hbt) ha) (fun hbf => codeVc_ok hP H y M base K X Rt e a w (h.2 hbf) ha)
      · exact h.elim
  | .block id (.loop body), M, base, K, X, Rt, e, a, w, h, ha => by
    simp only [codeVc] at h
    split at h
    · rename_i sl ms hc
      obtain ⟨Inv, h1, h2⟩ := h
      have hin : Ag n (fun d => M d && inL ms d) e.val e a := ⟨ha.ag, fun d hd => ha.lt d (by simp only [Bool.and_eq_true] at hd; exact hd.1), fun _ _ => rfl⟩
      refine wp_block (wp_loop_m (fun m a w => ∃ e', Ag n (fun d => M d && inL ms d) e.val e' a ∧ appL (kindsOf P sl) Inv (valsOf sl e') m w) ?_ ?_)
      · obtain ⟨m, h1⟩ := h1
        exact ⟨m, e, hin, h1⟩
      · rintro m a' w' ⟨e', ha', hk⟩
        obtain ⟨vs, g, hvs, _, hg, hR⟩ := allL_appL hk (h2 e'.val)
        rw [List.take_of_length_le (by simp [valsOf, kindsOf])] at hvs
        subst hvs
        obtain ⟨hm, _⟩ := ha.meet ha' sl
        refine Code.wp_mono (fun ex a'' w'' hq => ?_) (codeVc_ok hP H body _ e.val _ _ Rt _ a' w' (hR m w' hg) hm)
        have out : ∀ e'', Ag n (fun d => M d && inL ms d) e.val e'' a'' → Ag n M base e'' a'' := fun e'' => ha.outer (fun d hd => by simp [hd])
        cases ex <;> first | exact hq.elim | skip
        case normal =>
          obtain ⟨e'', ha'', m', hlt, hk''⟩ := hq
          exact ⟨m', hlt, e'', ha'', hk''⟩
        case exit id' =>
          obtain ⟨e'', ha'', K', hl, hk''⟩ := hq
          simp only [Exit.then, Exit.inBlock]
          rw [look_cons] at hl
          by_cases hid : id = id'
          · rw [if_pos hid] at hl
            rw [if_pos hid.symm]
            cases hl
            exact ⟨e'', out e'' ha'', hk''⟩
          · rw [if_neg hid] at hl
            rw [if_neg (Ne.symm hid)]
            exact ⟨e'', out e'' ha'', K', hl, hk''⟩
        case ret =>
          obtain ⟨e'', ha'', hk''⟩ := hq
          exact ⟨e'', out e'' ha'', hk''⟩
    · exact h.elim
  | .block id (.skip), M, base, K, X, Rt, e, a, w, h, ha => block_ok (codeVc_ok hP H .skip M base K _ Rt e a w h ha)
  | .block id (.region i o d), M, base, K, X, Rt, e, a, w, h, ha => block_ok (codeVc_ok hP H (.region i o d) M base K _ Rt e a w h ha)
  | .block id (.seq x y), M, base, K, X, Rt, e, a, w, h, ha => block_ok (codeVc_ok hP H (.seq x y) M base K _ Rt e a w h ha)
  | .block id (.cond c x y), M, base, K, X, Rt, e, a, w, h, ha => block_ok (codeVc_ok hP H (.cond c x y) M base K _ Rt e a w h ha)
  | .block id (.block i c), M, base, K, X, Rt, e, a, w, h, ha => block_ok (codeVc_ok hP H (.block i c) M base K _ Rt e a w h ha)
  | .block id (.exit i), M, base, K, X, Rt, e, a, w, h, ha => block_ok (codeVc_ok hP H (.exit i) M base K _ Rt e a w h ha)
  | .block id (.ret), M, base, K, X, Rt, e, a, w, h, ha => block_ok (codeVc_ok hP H .ret M base K _ Rt e a w h ha)
  | .block id (.rangeFunc ..), _, _, _, _, _, _, _, _, h, _ => h.elim
  | .block id (.scope _), _, _, _, _, _, _, _, _, h, _ => h.elim
  | .block id (.label _), _, _, _, _, _, _, _, _, h, _ => h.elim
  | .block id (.goto _), _, _, _, _, _, _, _, _, h, _ => h.elim
  | .block id (.refuse _), _, _, _, _, _, _, _, _, h, _ => h.elim
  | .loop _, _, _, _, _, _, _, _, _, h, _ => h.elim
  | .exit id, M, base, K, X, Rt, e, a, w, h, ha => by
    simp only [codeVc] at h
    split at h
    · rename_i K' hl; exact wp_exit ⟨e, ha, K', hl, h⟩
    · exact h.elim
  | .ret, M, base, K, X, Rt, e, a, w, h, ha => wp_ret ⟨e, ha, h⟩
  | .rangeFunc .., _, _, _, _, _, _, _, _, h, _ => h.elim
  | .scope _, _, _, _, _, _, _, _, _, h, _ => h.elim
  | .label _, _, _, _, _, _, _, _, _, h, _ => h.elim
  | .goto _, _, _, _, _, _, _, _, _, h, _ => h.elim
  | .refuse _, _, _, _, _, _, _, _, _, h, _ => h.elim
  where
  block_ok {P : Program} {n : Nat} {M : Nat → Bool} {base : Nat → Value} {K : Post} {X : List (Nat × Post)} {Rt : Post} {id : Nat} {c : Code} {a : Act} {w : World} (h : c.wp P (QQ n M base K ((id, K) :: X) Rt) a w) : (Code.block id c).wp P (QQ n M base K X Rt) a w := by
    refine wp_block (Code.wp_mono (fun ex a' w' hq => ?_) h)
    cases ex <;> first | exact hq | skip
    case exit id' =>
      obtain ⟨e', ha', K', hl, hk⟩ := hq
      simp only [Exit.inBlock]
      rw [look_cons] at hl
      by_cases hid : id = id'
      · rw [if_pos hid] at hl
        rw [if_pos hid.symm]
        cases hl
        exact ⟨e', ha', hk⟩
      · rw [if_neg hid] at hl
        rw [if_neg (Ne.symm hid)]
        exact ⟨e', ha', K', hl, hk⟩
end Go.Proofs.YtkdialecadjedaaGreatDoor
