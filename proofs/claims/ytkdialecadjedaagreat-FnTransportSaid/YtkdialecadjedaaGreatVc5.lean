/- The verification conditions of a function's body, and that they are enough (no statement of the seat is proved here; conditions: none). -/
import Derived.Test.YtkdialecadjedaaGreatVc4
namespace Go.Proofs.YtkdialecadjedaaGreat
set_option linter.unusedVariables false
set_option linter.unusedSimpArgs false
set_option linter.unusedSectionVars false
open Go

def holdS (row : Option (Option Nat)) (w0 w : World) : Prop := match row with
  | none => w = w0
  | some r => w0.grownBy w r

theorem ldTVc_ok {P : Program} {t : TypeId} {a : Value} {row : Option (Option Nat)} {w0 : World} {Q : Value → Prop} (h : ldTVc P t a row w0 Q) : ∃ v, Q v ∧ ∀ w, holdS row w0 w → (Instr.loadAt t a).run P w = .ok v w := by
  unfold ldTVc at h
  split at h
  · obtain ⟨v, hr, hq⟩ := ldVc_ok h
    exact ⟨v, hq, fun w hw => by cases hw; exact hr⟩
  · rename_i r
    split at h
    · rename_i ad
      obtain ⟨hne, ⟨c, ty, f, hb⟩, h⟩ := h
      obtain ⟨v, hr, hq⟩ := ldVc_ok h
      refine ⟨v, hq, fun w hw => ?_⟩
      have hlt : ad.block < w0.heap.size := (Array.getElem?_eq_some_iff.1 hb).1
      have hs := World.grownBy.block hw ad.block hlt hne
      simp only [Instr.loadAt, Instr.sureAddr, Sem.run_bind, Sem.run_pure, Result.andThen_ok] at hr ⊢
      exact loadVar_same hb hs hr
    · exact h.elim

theorem cvTVc_ok {P : Program} {s d : TypeId} {x : Value} {row : Option (Option Nat)} {w0 : World} {Q : Value → Prop} (h : cvTVc P s d x row w0 Q) : ∃ v, Q v ∧ ∀ w, holdS row w0 w → (convert s d x).run P w = .ok v w := by
  unfold cvTVc at h
  split at h
  · obtain ⟨v, hr, hq⟩ := exT_some h
    exact ⟨v, hq, fun w hw => by cases hw; exact hr⟩
  · obtain ⟨v, hr, hq⟩ := exT_some h
    exact ⟨v, hq, fun w hw => hr w hw⟩

section
variable {P : Program} {ops : Array Oper} {Q : Exit → Act → World → Prop}
theorem planVc_ok (hP : Fine P) {n : Nat} {M : Nat → Bool} {base : Nat → Value} (hsel : Region.noSelect ops = true) (hQp : ∀ c a w, ¬ Q (.panic c) a w) {K : Env → World → Prop}
    (hQ : ∀ e a w, Ag n M base e a → K e w → Q .normal a w) {row : Option (Option Nat)} {w0 : World} {tl : Nat} :
    ∀ (p : Plan) (d : Nat) (done : Nat) (listed : Array Bool) (e : Env) (a : Act) (w : World) (past : Bool), planDepth p d = true → planOk ops ops.toList (ops.toList.map emask) tl p done past = true → (past = false → holdS row w0 w) →
      Lst ops done listed → Ag n M base e a → planVc P M ops.toList tl row w0 p e K w → wpAnyT P ops Q (holdS row w0) (fun i => tl.testBit i) d listed a w := by
  have readyOf : ∀ (i : Nat) (oi : Oper) (done : Nat) (listed : Array Bool), ops[i]? = some oi → done.testBit i = false → within (emask oi) done = true → Lst ops done listed → i ∈ Region.ready .any ops listed := by
    intro i oi done listed hoi hnd hwi hl
    have hlt : i < ops.size := (Array.getElem?_eq_some_iff.1 hoi).1
    refine mem_ready.2 ⟨by rw [hl.iff i hlt]; exact hnd, oi, hoi, fun ed he hb => ?_⟩
    have ht : (emask oi).testBit ed.on = true := emask_spec.2 ⟨ed, he, hb, rfl⟩
    have hd := within_spec hwi ht
    rw [hl.getD_false, hd, Bool.and_true, decide_eq_true_eq]
    rcases Nat.lt_or_ge ed.on ops.size with h1 | h1
    · exact h1
    · have := Nat.testBit_lt_two_pow (Nat.lt_of_lt_of_le hl.lt (Nat.pow_le_pow_right (by omega) h1))
      rw [this] at hd; cases hd
  have onlyOf : ∀ (i k : Nat) (done : Nat) (listed : Array Bool), noneReady i k done (ops.toList.map emask) 0 = true → Lst ops done listed → ∀ j ∈ Region.ready .any ops listed, j = i ∨ j = k := by
    intro i k done listed hcond hl j hj
    obtain ⟨h0, oj, hoj, hall⟩ := mem_ready.1 hj
    have hjlt : j < ops.size := (Array.getElem?_eq_some_iff.1 hoj).1
    rw [hl.iff j hjlt] at h0
    apply Classical.byContradiction
    intro hne
    have hne1 : j ≠ i := fun e => hne (.inl e)
    have hne2 : j ≠ k := fun e => hne (.inr e)
    have := noneReady_spec ops.toList 0 hcond j oj (by rw [Array.getElem?_toList]; exact hoj) (by simpa using h0) (by simpa using hne1) (by simpa using hne2)
    have hin : within (emask oj) done = true := by
      unfold within
      have : (emask oj &&& done) = emask oj := by
        apply Nat.eq_of_testBit_eq
        intro q
        rw [Nat.testBit_and]
        cases hq : (emask oj).testBit q
        · rfl
        · obtain ⟨ed, he, hb, rfl⟩ := emask_spec.1 hq
          have := hall ed he hb
          rw [hl.getD_false, Bool.and_eq_true] at this
          rw [this.2]; rfl
      rw [this]; exact Nat.beq_refl _
    rw [hin] at this; cases this
  have goStep : ∀ (i : Nat) (oi : Oper) (e : Env) (a : Act) (w : World) (L : Act → World → Prop) (Kn : Env → World → Prop), ops[i]? = some oi → (tl.testBit i = false → holdS row w0 w) → Ag n M base e a →
      oneVc P M ops.toList tl row w0 i false e w Kn → (∀ e' a' w', Ag n M base e' a' → (tl.testBit i = false → holdS row w0 w') → Kn e' w' → L a' w') →
      wpOp P ops Q i (fun a' w' => (tl.testBit i = false → holdS row w0 w') ∧ L a' w') a w := by
    intro i oi e a w L Kn hoi' hS ha h next
    have hoi : ops.toList[i]? = some oi := by rw [Array.getElem?_toList]; exact hoi'
    simp only [oneVc, hoi] at h
    obtain ⟨e1, ha1, hc⟩ := guardVc_ok h ha
    unfold wpOp
    simp only [hoi']
    rcases hc with ⟨hw, hy⟩ | ⟨hw, hn⟩
    · rw [if_pos hw]
      refine .inl (stepVc_ok hP hy ha1 fun e' a' w' ha' hk => ?_)
      unfold keptVc at hk
      cases ht : tl.testBit i
      · rw [ht] at hk
        cases row with
        | none => exact hk.elim
        | some r => exact ⟨fun _ => hk.1, next e' a' w' ha' (fun _ => hk.1) hk.2⟩
      · rw [ht] at hk
        exact ⟨fun h => (by cases h), next e' a' w' ha' (fun h => (by rw [ht] at h; cases h)) hk⟩
    · rw [if_neg (by rw [hw]; exact Bool.false_ne_true)]
      obtain ⟨e2, ha2, hk⟩ := putVc_ok hn ha1 (by simp)
      exact ⟨hS, next e2 _ w ha2 hS hk⟩
  intro p
  induction p with
  | done =>
    intro d done listed e a w past hdp hok _ hl ha h
    cases d with
    | succ d => simp [planDepth] at hdp
    | zero =>
      refine ⟨?_, hQ e a w ha h⟩
      rw [List.eq_nil_iff_forall_not_mem]
      intro j hj
      obtain ⟨h0, o, ho, _⟩ := mem_ready.1 hj
      have hlt : j < ops.size := (Array.getElem?_eq_some_iff.1 ho).1
      rw [hl.iff j hlt] at h0
      have hd : done + 1 = 2 ^ ops.toList.length := Nat.eq_of_beq_eq_true hok
      have hd' : done = 2 ^ ops.size - 1 := by rw [Array.length_toList] at hd; omega
      rw [hd', Nat.testBit_two_pow_sub_one] at h0
      simp [hlt] at h0
  | one i take rest ih =>
    intro d done listed e a w past hdp hok hS hl ha h
    cases d with
    | zero => simp [planDepth] at hdp
    | succ d =>
    simp only [planDepth] at hdp
    simp only [planOk] at hok
    split at hok
    case h_2 => cases hok
    rename_i oi m hoi hm
    have hoi' : ops[i]? = some oi := by rw [← Array.getElem?_toList]; exact hoi
    have hlt : i < ops.size := (Array.getElem?_eq_some_iff.1 hoi').1
    rw [List.getElem?_map, hoi, Option.map_some, Option.some.injEq] at hm
    subst hm
    simp only [Bool.and_eq_true, Bool.not_eq_true', Bool.or_eq_true] at hok
    obtain ⟨⟨⟨⟨hnd, hwi⟩, hpast⟩, hcond⟩, hrest⟩ := hok
    have hSi : tl.testBit i = false → holdS row w0 w := fun ht => hS (hpast.resolve_right (by simp [ht]))
    have hready := readyOf i oi done listed hoi' hnd hwi hl
    have next : ∀ {e' : Env} {a' : Act} {w' : World}, Ag n M base e' a' → (tl.testBit i = false → holdS row w0 w') → planVc P M ops.toList tl row w0 rest e' K w' → wpAnyT P ops Q (holdS row w0) (fun i => tl.testBit i) d (listed.setIfInBounds i true) a' w' := fun {e' a' w'} ha' hw' hk =>
      ih d (done ||| 2 ^ i) _ e' a' w' (tl.testBit i) hdp hrest hw' (hl.step i hlt) ha' hk
    cases take with
    | false =>
      simp only [cond_false] at hcond
      refine ⟨fun h0 => absurd hready (by rw [h0]; simp), fun j hj => ?_⟩
      obtain rfl : j = i := by rcases onlyOf i i done listed hcond hl j hj with h | h <;> exact h
      exact goStep j oi e a w _ _ hoi' hSi ha h fun e' a' w' ha' hw' hk => next ha' hw' hk
    | true =>
      simp only [planVc, oneVc, hoi] at h
      obtain ⟨e1, ha1, hc⟩ := guardVc_ok h ha
      simp only [cond_true] at hcond
      have key : ∃ v e', YieldsIf P ops (fun w => tl.testBit i = false → holdS row w0 w) oi v a ∧ Ag n M base e' (a.put oi.dst v) ∧ planVc P M ops.toList tl row w0 rest e' K w := by
        rcases hc with ⟨hw, hy⟩ | ⟨hw, hn⟩
        · have plain : ∀ {v k}, (∀ w, (execOp e1.op oi).run P w = .ok (.value v) w) → (∀ b, k = some b → v = .bool b) → putVc M oi v k e1 (fun e' => planVc P M ops.toList tl row w0 rest e' K w) →
              ∃ v e', YieldsIf P ops (fun w => tl.testBit i = false → holdS row w0 w) oi v a ∧ Ag n M base e' (a.put oi.dst v) ∧ planVc P M ops.toList tl row w0 rest e' K w := fun {v k} hr hk hp => by
            obtain ⟨e', ha', hk'⟩ := putVc_ok hp ha1 hk
            exact ⟨v, e', .inl ⟨hw, fun w _ => by rw [ha1.ag.evals]; exact hr w⟩, ha', hk'⟩
          have gen : takeVc P oi (tl.testBit i) e1 row w0 (fun v => putVc M oi v none e1 (fun e' => planVc P M ops.toList tl row w0 rest e' K w)) →
              ∃ v e', YieldsIf P ops (fun w => tl.testBit i = false → holdS row w0 w) oi v a ∧ Ag n M base e' (a.put oi.dst v) ∧ planVc P M ops.toList tl row w0 rest e' K w := fun hy => by
            unfold takeVc at hy
            split at hy
            · obtain ⟨v, hp, hr⟩ := pureVc_ok (fun x b hx => ha1.ag.decOp hx) hy
              exact plain hr (by simp) hp
            · split at hy
              · rename_i t x hop htl
                obtain ⟨v, hp, hr⟩ := ldTVc_ok hy
                obtain ⟨e', ha', hk'⟩ := putVc_ok hp ha1 (by simp)
                refine ⟨v, e', .inl ⟨hw, fun w hw' => ?_⟩, ha', hk'⟩
                have := hr w (hw' htl)
                rw [ha1.ag.evals]
                simp [execOp, hop, this]
              · rename_i s d' x hop htl
                obtain ⟨v, hp, hr⟩ := cvTVc_ok hy
                obtain ⟨e', ha', hk'⟩ := putVc_ok hp ha1 (by simp)
                refine ⟨v, e', .inl ⟨hw, fun w hw' => ?_⟩, ha', hk'⟩
                have := hr w (hw' htl)
                rw [ha1.ag.evals]
                simp [execOp, hop, this]
              · exact hy.elim
          change takeStep P M oi (tl.testBit i) e1 row w0 _ at hy
          unfold takeStep at hy
          split at hy
          · rename_i x hop
            exact plain (fun w => by simp [execOp, hop]) (fun b hb => ha1.ag.decOp hb) hy
          · rename_i x hop
            exact plain (fun w => by simp [execOp, hop]) (fun b hb => ha1.ag.decOp hb) hy
          · rename_i c x y hop
            split at hy
            · rename_i hcc; exact plain (fun w => by simp [execOp, hop, ha1.ag.decOp hcc, asBool]) (fun b hb => ha1.ag.decOp hb) hy
            · rename_i hcc; exact plain (fun w => by simp [execOp, hop, ha1.ag.decOp hcc, asBool]) (fun b hb => ha1.ag.decOp hb) hy
            · obtain ⟨p, q, r, h1, h2, h3, hq⟩ := pickVc_ok hy
              exact plain (fun w => by cases p <;> simp [execOp, hop, h1, h2, h3, asBool]) (by simp) hq
          · exact gen hy
        · obtain ⟨e', ha', hk'⟩ := putVc_ok hn ha1 (by simp)
          exact ⟨undef, e', .inr ⟨hw, rfl⟩, ha', hk'⟩
      obtain ⟨v, e', hy, ha', hk'⟩ := key
      refine wpAnyT_first hoi' (Region.noSelect_spec hsel) (fun c a w hq => absurd hq (hQp c _ w)) d listed a w ?_ hready hy hSi (next ha' hSi hk')
      intro j oj hoj hne hun hno
      have hjlt : j < ops.size := (Array.getElem?_eq_some_iff.1 hoj).1
      rw [hl.iff j hjlt] at hun
      have hem : (emask oj).testBit i = false := by
        rw [← Bool.not_eq_true]
        intro hb
        obtain ⟨ed, he, hb2, he2⟩ := emask_spec.1 hb
        exact hno ed he hb2 he2
      have := othersOk_spec ops.toList 0 hcond j oj (by rw [Array.getElem?_toList]; exact hoj) (by simpa using hun) (by simpa using hne) hem
      exact ⟨this.1, fun ht => by have h2 := this.2 ht; simpa using h2⟩
  | two i j x y ihx ihy =>
    intro d done listed e a w past hdp hok hS hl ha h
    cases d with
    | zero => simp [planDepth] at hdp
    | succ d =>
    simp only [planDepth, Bool.and_eq_true] at hdp
    simp only [planOk] at hok
    split at hok
    case h_2 => cases hok
    rename_i m q hm hq
    simp only [Bool.and_eq_true, Bool.not_eq_true', Bool.or_eq_true] at hok
    obtain ⟨⟨⟨⟨⟨⟨⟨hndi, hndj⟩, hwi⟩, hwj⟩, hpast⟩, hnone⟩, hx⟩, hy⟩ := hok
    have at_ : ∀ {k m : Nat}, (ops.toList.map emask)[k]? = some m → ∃ o, ops[k]? = some o ∧ m = emask o := by
      intro k m hk
      rw [List.getElem?_map] at hk
      cases ho : ops.toList[k]? with
      | none => rw [ho] at hk; cases hk
      | some o =>
        rw [ho, Option.map_some, Option.some.injEq] at hk
        exact ⟨o, by rw [← Array.getElem?_toList]; exact ho, hk.symm⟩
    obtain ⟨oi, hoi, rfl⟩ := at_ hm
    obtain ⟨oj, hoj, rfl⟩ := at_ hq
    have hlti : i < ops.size := (Array.getElem?_eq_some_iff.1 hoi).1
    have hltj : j < ops.size := (Array.getElem?_eq_some_iff.1 hoj).1
    have hSi : tl.testBit i = false → holdS row w0 w := fun ht => hS (hpast.resolve_right (by simp [ht]))
    have hSj : tl.testBit j = false → holdS row w0 w := fun ht => hS (hpast.resolve_right (by simp [ht]))
    have hready := readyOf i oi done listed hoi hndi hwi hl
    refine ⟨fun h0 => absurd hready (by rw [h0]; simp), fun k hk => ?_⟩
    rcases onlyOf i j done listed hnone hl k hk with rfl | rfl
    · exact goStep k oi e a w _ _ hoi hSi ha h.1 fun e' a' w' ha' hw' hk' => ihx d (done ||| 2 ^ k) _ e' a' w' (tl.testBit k) hdp.1 hx hw' (hl.step k hlti) ha' hk'
    · exact goStep k oj e a w _ _ hoj hSj ha h.2 fun e' a' w' ha' hw' hk' => ihy d (done ||| 2 ^ k) _ e' a' w' (tl.testBit k) hdp.2 hy hw' (hl.step k hltj) ha' hk'

end

theorem drawVc_ok {P : Program} (hP : Fine P) {n : Nat} {M : Nat → Bool} {base : Nat → Value} {ops : Array Oper} {ms : List Nat} {tl : Nat} {p : Plan} {e : Env} {K : Env → World → Prop} {a : Act} {w : World} {id : Nat} {Q : Exit → Act → World → Prop}
    (h : drawVc P M ops ms tl p e K w) (ha : Ag n M base e a) (hQp : ∀ c a w, ¬ Q (.panic c) a w) (hQ : ∀ e a w, Ag n M base e a → K e w → Q .normal a w) : (Code.region id ops true).wp P Q a w := by
  refine wp_region_any hP.mixed ?_
  have start : Lst ops 0 (Array.replicate ops.size false) := ⟨by simp, Nat.two_pow_pos _, fun j hj => by simp [hj]⟩
  unfold drawVc at h
  split at h
  · rename_i hb _
    simp only [Bool.and_eq_true, beq_iff_eq] at hb
    obtain ⟨⟨⟨hd, rfl⟩, hok⟩, hsel⟩ := hb
    rw [Array.length_toList] at hd
    exact wpAny_of_T _ _ _ _ (planVc_ok (row := none) (w0 := w.drew) hP hsel hQp hQ p ops.size 0 _ e a _ false hd hok (fun _ => rfl) start ha h)
  · rename_i hb _
    simp only [Bool.and_eq_true, beq_iff_eq] at hb
    obtain ⟨⟨⟨hd, rfl⟩, hok⟩, hsel⟩ := hb
    obtain ⟨r, h⟩ := h
    rw [Array.length_toList] at hd
    exact wpAny_of_T _ _ _ _ (planVc_ok (row := some r) (w0 := w.drew) hP hsel hQp hQ p ops.size 0 _ e a _ false hd hok (fun _ => ⟨rfl, rfl, rfl, Nat.le_refl _, fun _ _ _ => rfl⟩) start ha h)
  · exact h.elim

/-! ### What holds at a loop's head and where ways meet: a relation over the slots' values -/
def Cur1 (k : TypeDesc) (A : Type) : Type :=
  match k with
  | .int _ => Int → A
  | .bool => Bool → A
  | .string => ByteArray → A
  | .pointer _ => Option Addr → A
  | .slice _ => Option Addr → Nat → Nat → A
  | .float _ => Nat → A
  | .interface _ => Value → A
  | _ => A
def app1 {A : Type} (k : TypeDesc) (f : Cur1 k A) (v : Value) (Q : A → Prop) : Prop :=
  match k, f, v with
  | .int k', f, .int k'' n => sameK k' k'' (Q (f n))
  | .bool, f, .bool b => Q (f b)
  | .string, f, .string s => Q (f s)
  | .pointer _, f, .pointer a => Q (f a)
  | .slice _, f, .slice a l c => Q (f a l c)
  | .float k', f, .float k'' n => (match decide (k' = k'') with | true => Q (f n) | false => False)
  | .interface _, f, v => Q (f v)
  | _, _, _ => False
def all1 {A : Type} (k : TypeDesc) (f : Cur1 k A) (Q : Value → A → Prop) : Prop :=
  match k, f with
  | .int k', f => ∀ n : Int, Q (.int k' n) (f n)
  | .bool, f => ∀ b : Bool, Q (.bool b) (f b)
  | .string, f => ∀ s : ByteArray, Q (.string s) (f s)
  | .pointer _, f => ∀ a : Option Addr, Q (.pointer a) (f a)
  | .slice _, f => ∀ (a : Option Addr) (l c : Nat), Q (.slice a l c) (f a l c)
  | .float k', f => ∀ b : Nat, Q (.float k' b) (f b)
  | .interface _, f => ∀ v : Value, Q v (f v)
  | _, _ => True
def CurL : List TypeDesc → Type
  | [] => Nat → World → Prop
  | k :: ks => Cur1 k (CurL ks)
def appL : (ks : List TypeDesc) → CurL ks → List Value → Nat → World → Prop
  | [], f, _, n, w => f n w
  | _ :: _, _, [], _, _ => False
  | k :: ks, f, v :: vs, n, w => app1 k f v fun g => appL ks g vs n w
def allL : (ks : List TypeDesc) → CurL ks → (List Value → (Nat → World → Prop) → Prop) → Prop
  | [], f, Q => Q [] f
  | k :: ks, f, Q => all1 k f fun v g => allL ks g fun vs h => Q (v :: vs) h
theorem all1_app1 {A : Type} {k : TypeDesc} {f : Cur1 k A} {v : Value} {Q : A → Prop} {R : Value → A → Prop} (ha : app1 k f v Q) (hall : all1 k f R) : ∃ g, Q g ∧ R v g := by
  cases k <;> simp only [app1] at ha <;> first
    | exact ha.elim
    | exact ⟨_, ha, hall v⟩
    | (cases v <;> first | exact ha.elim | exact ⟨_, ha, hall _⟩ | exact ⟨_, ha, hall _ _ _⟩ | (obtain ⟨rfl, hq⟩ := sameK_iff ha; exact ⟨_, hq, hall _⟩)
                         | (simp only at ha; split at ha; (rename_i hd; obtain rfl := of_decide_eq_true hd; exact ⟨_, ha, hall _⟩); exact ha.elim))
theorem allL_appL : ∀ {ks : List TypeDesc} {f : CurL ks} {vs : List Value} {n : Nat} {w : World} {R : List Value → (Nat → World → Prop) → Prop}, appL ks f vs n w → allL ks f R → ∃ vs' g, vs' = vs.take ks.length ∧ vs'.length = ks.length ∧ g n w ∧ R vs' g
  | [], f, vs, n, w, R, ha, hall => ⟨[], f, by simp, rfl, ha, hall⟩
  | k :: ks, f, [], n, w, R, ha, hall => ha.elim
  | k :: ks, f, v :: vs, n, w, R, ha, hall => by
    obtain ⟨g, hg, hr⟩ := all1_app1 ha hall
    obtain ⟨vs', g', rfl, hlen, hh, hR⟩ := allL_appL hg hr
    exact ⟨_, g', by simp, by simp at hlen ⊢; omega, hh, hR⟩
end Go.Proofs.YtkdialecadjedaaGreat
