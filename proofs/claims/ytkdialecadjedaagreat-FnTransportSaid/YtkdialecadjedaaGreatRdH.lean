/- spec.ReadOne: what it computes (no statement of the seat is proved here; conditions: its slice reads bytes). -/
import Derived.Test.YtkdialecadjedaaGreatRdG
namespace Go.Proofs.YtkdialecadjedaaGreat
set_option linter.unusedVariables false
set_option linter.unusedSimpArgs false
set_option linter.unusedSectionVars false
open Go

theorem blk_foots {b : Nat} {t : TypeId} {l : List Value} {ex : List Ex} (h : Ex.blk b t l ∈ ex) : b ∈ foots ex := mem_foots (by simp [Ex.foot]) h
def OnePost (F : Fr) (ex : List Ex) (ro : List Ro) (xs : List Int) (en : Ending) (w' : World) : Prop :=
  ∃ cells : List Value, en = .returned (.tuple #[.agg cells.toArray, .int .i64 (rdOne xs).1]) ∧ Sat F w' ex (.deep (rdOne xs).2.dat cells :: ro)
theorem OnePost.mk {F : Fr} {ex ex' : List Ex} {ro ro' : List Ro} {xs : List Int} {w : World} {k : Int} {pk : Pk} {cells : List Value} (hq : rdOne xs = (k, pk)) (H : Sat F w ex' ro') (hs : ex.Sublist ex') (hr : ∀ r ∈ ro, r ∈ ro')
    (hD : ∀ G : Nat → Prop, (∀ r ∈ ro', Ro.holds w G r) → DeepL w G pk.dat cells) : OnePost F ex ro xs (.returned (.tuple #[.agg cells.toArray, .int .i64 k])) w := by
  refine ⟨cells, by rw [hq], ?_⟩
  rw [hq]
  refine (H.addD hD).sub hs fun r hx => ?_
  rcases List.mem_cons.1 hx with rfl | hx
  · exact List.mem_cons_self
  · exact List.mem_cons_of_mem _ (hr r hx)
def Dat.flat : Dat → Bool
  | .one v => v.oneCell'
  | _ => true
theorem Deep.flat {w : World} {G : Nat → Prop} {d : Dat} {v : Value} (h : Deep w G d v) (hd : d.flat = true) : v.oneCell' = true := by
  cases h <;> first | exact hd | rfl
theorem DeepL.flat {w : World} {G : Nat → Prop} : ∀ {ds : List Dat} {vs : List Value}, DeepL w G ds vs → ds.all Dat.flat = true → vs.all Value.oneCell' = true
  | [], [], _, _ => rfl
  | [], _ :: _, h, _ => by have := h.1; simp at this
  | _ :: _, [], h, _ => by have := h.1; simp at this
  | d :: ds, v :: vs, h, ha => by
    simp only [List.all_cons, Bool.and_eq_true] at ha ⊢
    exact ⟨h.head.flat ha.1, DeepL.flat h.tail ha.2⟩
theorem Pk.flat (p : Pk) : p.dat.all Dat.flat = true := rfl
theorem Pk.len {w : World} {G : Nat → Prop} {p : Pk} {cells : List Value} (h : DeepL w G p.dat cells) : cells.length = 30 := h.1
theorem oneTail {F : Fr} {ex : List Ex} {ro ro' : List Ro} {xs : List Int} {q : Option Pk} {p1 p9 p23 : Nat} {t9 : TypeId} {l9 : List Value} {en : Ending} {w : World}
    (h : RdPost F p23 (.blk p9 t9 l9 :: .blk p1 38 (pk0 0 0 0 false 0 0 0) :: ex) ro' q en w) (hr : ∀ r ∈ ro, r ∈ ro') (hq : rdOne xs = oneOf q) :
    ∃ b : Bool, en = .returned (.bool b) ∧
      ((!b) = true → ∃ w1, StV pg 38 ⟨p1, 0, none⟩ (.agg (pk0 0 0 0 false 0 0 0).toArray) w w1 ∧ ∃ v : Value, LdV pg 38 ⟨p1, 0, none⟩ v w1 ∧ OnePost F ex ro xs (.returned (.tuple #[v, .int .i64 2])) w1) ∧
      ((!b) = false → ∃ x : Value, LdV pg 38 ⟨p23, 0, none⟩ x w ∧ ∃ w1, StV pg 38 ⟨p1, 0, none⟩ x w w1 ∧ ∃ v : Value, LdV pg 38 ⟨p1, 0, none⟩ v w1 ∧ OnePost F ex ro xs (.returned (.tuple #[v, .int .i64 0])) w1) := by
  cases q with
  | none =>
    obtain ⟨rfl, cells, H⟩ := h
    refine ⟨false, rfl, fun _ => ?_, fun h => by cases h⟩
    refine sSw2 H rfl (by kernel_rfl) (by rfl) (by first | rfl | (simp only [List.all_cons, List.all_nil, Value.cells]; simp [*])) ?_; clear H; intro w _ H
    exact ⟨_, Ld0 rfl H.b2 (by kernel_rfl), OnePost.mk hq H (by repeat (first | exact List.Sublist.refl _ | exact List.nil_sublist _ | apply List.Sublist.cons_cons | apply List.Sublist.cons)) hr (fun G h => by repeat (first | exact DeepL.nil _ _ | exact DeepL.ones _ | refine DeepL.cons (Deep.emp _ _) ?_ | refine DeepL.cons (Deep.one _) ?_ | refine DeepL.cons (h (.deep [_] [_]) (by assumption)).head ?_ | refine DeepL.cons (h (.deep [_] [_]) (by first | assumption | exact List.mem_cons_self | (apply List.mem_cons_of_mem; first | assumption | exact List.mem_cons_self | (apply List.mem_cons_of_mem; first | assumption | exact List.mem_cons_self | (apply List.mem_cons_of_mem; first | assumption | exact List.mem_cons_self | (apply List.mem_cons_of_mem; first | assumption | exact List.mem_cons_self | (apply List.mem_cons_of_mem; first | assumption | exact List.mem_cons_self))))))).head ?_))⟩
  | some pk =>
    obtain ⟨rfl, cells, H⟩ := h
    refine ⟨true, rfl, fun h => (by cases h), fun _ => ?_⟩
    have hD := H.deep List.mem_cons_self
    have hcl := Pk.len hD
    have hfl := hD.flat (Pk.flat pk)
    refine ⟨.agg cells.toArray, Ld0 rfl H.b0 (by rw [hcl]; kernel_rfl), ?_⟩
    refine sSw2 H rfl (by rw [hcl]; kernel_rfl) (by rw [hcl]; rfl) hfl ?_
    clear H; intro w _ H
    refine ⟨_, Ld0 rfl H.b2 (by rw [hcl]; kernel_rfl), OnePost.mk hq H (by repeat (first | exact List.Sublist.refl _ | exact List.nil_sublist _ | apply List.Sublist.cons_cons | apply List.Sublist.cons)) (fun r h => List.mem_cons_of_mem _ (hr r h)) (fun G h => h _ List.mem_cons_self)⟩
set_option maxHeartbeats 2000000 in
set_option maxRecDepth 20000 in
theorem c4 {F : Fr} {w : World} {ex : List Ex} {ro : List Ro} {xs : List Int} {a : Option Addr} {n c : Nat} (H : Sat F w ex ro) (hx : Ro.B xs a n c ∈ ro) (hb : By xs) (hn : n ≤ 1000000) :
    Calls pg 4 #[.slice a n c] w (OnePost F ex ro xs) := by
  apply of4
  have hlen := H.lenB hx
  refine sNew H ?_; clear H; intro b1 w _ H
  refine call_j (c8 (H.rd hx) hb) ?_
  rintro _ w ⟨rfl, g⟩
  replace H := H.grow g; clear g
  have hshape : ∃ (x3 : Bool) (x4 x5 x6 : Int), hdrVal xs = .agg #[.bool x3, .int .u8 x4, .int .u8 x5, .int .u16 x6] ∧ (hdrOk xs = true → x3 = hP xs ∧ x4 = hC xs ∧ x5 = hT xs ∧ x6 = hL xs) := by
    unfold hdrVal
    by_cases h : hdrOk xs = true
    · rw [if_pos h]; exact ⟨_, _, _, _, rfl, fun _ => ⟨rfl, rfl, rfl, rfl⟩⟩
    · rw [if_neg h]; exact ⟨_, _, _, _, rfl, fun h' => absurd h' h⟩
  obtain ⟨x3, x4, x5, x6, hv, hxx⟩ := hshape
  rw [hv]
  refine ⟨_, _, _, _, _, rfl, ?_⟩
  refine sNew H ?_; clear H; intro b9 w _ H
  refine sSw0 H rfl (by kernel_rfl) (by rfl) (by first | rfl | (simp only [List.all_cons, List.all_nil, Value.cells]; simp [*])) ?_; clear H; intro w _ H
  refine ⟨fun h1 => ?_, fun h1 => ?_⟩   -- (!x7)
  · have h1 : hdrOk xs = false := by simpa using h1
    have hU : rdOne xs = (1, {}) := by unfold rdOne; rw [if_pos h1]
    refine sSw1 H rfl (by kernel_rfl) (by rfl) (by first | rfl | (simp only [List.all_cons, List.all_nil, Value.cells]; simp [*])) ?_; clear H; intro w _ H
    exact ⟨_, (by first | exact Ld0 rfl H.b0 (by kernel_rfl) | exact Ld0 rfl H.b1 (by kernel_rfl) | exact Ld0 rfl H.b2 (by kernel_rfl) | exact Ld0 rfl H.b3 (by kernel_rfl) | exact Ld0 rfl H.b4 (by kernel_rfl) | exact Ld0 rfl H.b5 (by kernel_rfl) | exact Ld0 rfl H.b6 (by kernel_rfl) | exact Ld0 rfl H.b7 (by kernel_rfl) | exact Ld0 rfl H.b8 (by kernel_rfl) | exact Ld0 rfl H.b9 (by kernel_rfl)), OnePost.mk hU H (by repeat (first | exact List.Sublist.refl _ | exact List.nil_sublist _ | apply List.Sublist.cons_cons | apply List.Sublist.cons)) (fun r hr => by (try simp only [List.mem_cons] at hr ⊢); (repeat (first | (rcases hr with rfl | hr; (first | (left; rfl) | (right; left; rfl) | (right; right; left; rfl) | (right; right; right; left; rfl) | (right; right; right; right; left; rfl)))  | (simp [hr]; done) | assumption | exact hr.elim))) (fun G h => by repeat (first | exact DeepL.nil _ _ | exact DeepL.ones _ | refine DeepL.cons (Deep.emp _ _) ?_ | refine DeepL.cons (Deep.one _) ?_ | refine DeepL.cons (h (.deep [_] [_]) (by assumption)).head ?_ | refine DeepL.cons (h (.deep [_] [_]) (by first | assumption | exact List.mem_cons_self | (apply List.mem_cons_of_mem; first | assumption | exact List.mem_cons_self | (apply List.mem_cons_of_mem; first | assumption | exact List.mem_cons_self | (apply List.mem_cons_of_mem; first | assumption | exact List.mem_cons_self | (apply List.mem_cons_of_mem; first | assumption | exact List.mem_cons_self | (apply List.mem_cons_of_mem; first | assumption | exact List.mem_cons_self))))))).head ?_))⟩
  have h1 : hdrOk xs = true := by simpa using h1
  obtain ⟨rfl, rfl, rfl, rfl⟩ := hxx h1
  have hL' : 0 ≤ hL xs ∧ hL xs < 65536 := n16_lt (hb.drop 2)
  have hn4 : 4 ≤ n := by
    unfold hdrOk at h1
    simp only [Bool.and_eq_true, decide_eq_true_eq] at h1
    omega
  refine ⟨_, (by first | exact Ce (by first | exact add_flat _ _ _ | exact add_flat2 _ _ _ _ | rfl) H.b0 rfl | exact Ce (by first | exact add_flat _ _ _ | exact add_flat2 _ _ _ _ | rfl) H.b1 rfl | exact Ce (by first | exact add_flat _ _ _ | exact add_flat2 _ _ _ _ | rfl) H.b2 rfl | exact Ce (by first | exact add_flat _ _ _ | exact add_flat2 _ _ _ _ | rfl) H.b3 rfl | exact Ce (by first | exact add_flat _ _ _ | exact add_flat2 _ _ _ _ | rfl) H.b4 rfl | exact Ce (by first | exact add_flat _ _ _ | exact add_flat2 _ _ _ _ | rfl) H.b5 rfl | exact Ce (by first | exact add_flat _ _ _ | exact add_flat2 _ _ _ _ | rfl) H.b6 rfl | exact Ce (by first | exact add_flat _ _ _ | exact add_flat2 _ _ _ _ | rfl) H.b7 rfl | exact Ce (by first | exact add_flat _ _ _ | exact add_flat2 _ _ _ _ | rfl) H.b8 rfl | exact Ce (by first | exact add_flat _ _ _ | exact add_flat2 _ _ _ _ | rfl) H.b9 rfl), ?_⟩   -- w_11.cell? (p_9.add 3) = some (.int .u16 x14)
  rw [wi64_of (n := hL xs) (by omega) (by omega), wi64_of (n := hL xs + 1) (by omega) (by omega), wi64_of (n := 4 * (hL xs + 1)) (by omega) (by omega)]
  refine ⟨fun h2 => ?_, fun h2 => ?_⟩
  · have h2 : ¬ 4 * (hL xs + 1) = (n : Int) := by simpa using h2
    have hU : rdOne xs = (1, {}) := by unfold rdOne; rw [if_neg (by rw [h1]; exact Bool.noConfusion), if_pos (by rw [hlen]; exact h2)]
    refine sSw1 H rfl (by kernel_rfl) (by rfl) (by first | rfl | (simp only [List.all_cons, List.all_nil, Value.cells]; simp [*])) ?_; clear H; intro w _ H
    exact ⟨_, (by first | exact Ld0 rfl H.b0 (by kernel_rfl) | exact Ld0 rfl H.b1 (by kernel_rfl) | exact Ld0 rfl H.b2 (by kernel_rfl) | exact Ld0 rfl H.b3 (by kernel_rfl) | exact Ld0 rfl H.b4 (by kernel_rfl) | exact Ld0 rfl H.b5 (by kernel_rfl) | exact Ld0 rfl H.b6 (by kernel_rfl) | exact Ld0 rfl H.b7 (by kernel_rfl) | exact Ld0 rfl H.b8 (by kernel_rfl) | exact Ld0 rfl H.b9 (by kernel_rfl)), OnePost.mk hU H (by repeat (first | exact List.Sublist.refl _ | exact List.nil_sublist _ | apply List.Sublist.cons_cons | apply List.Sublist.cons)) (fun r hr => by (try simp only [List.mem_cons] at hr ⊢); (repeat (first | (rcases hr with rfl | hr; (first | (left; rfl) | (right; left; rfl) | (right; right; left; rfl) | (right; right; right; left; rfl) | (right; right; right; right; left; rfl)))  | (simp [hr]; done) | assumption | exact hr.elim))) (fun G h => by repeat (first | exact DeepL.nil _ _ | exact DeepL.ones _ | refine DeepL.cons (Deep.emp _ _) ?_ | refine DeepL.cons (Deep.one _) ?_ | refine DeepL.cons (h (.deep [_] [_]) (by assumption)).head ?_ | refine DeepL.cons (h (.deep [_] [_]) (by first | assumption | exact List.mem_cons_self | (apply List.mem_cons_of_mem; first | assumption | exact List.mem_cons_self | (apply List.mem_cons_of_mem; first | assumption | exact List.mem_cons_self | (apply List.mem_cons_of_mem; first | assumption | exact List.mem_cons_self | (apply List.mem_cons_of_mem; first | assumption | exact List.mem_cons_self | (apply List.mem_cons_of_mem; first | assumption | exact List.mem_cons_self))))))).head ?_))⟩
  have h2 : 4 * (hL xs + 1) = (n : Int) := by simpa using h2
  have hU0 : rdOne xs = if kindOf (hT xs) (hC xs) = 0 then (if hT xs = 207 then (2, {}) else (0, { data := xs })) else if hP xs then (2, {}) else oneOf (rdBody xs) := by
    unfold rdOne; rw [if_neg (by rw [h1]; exact Bool.noConfusion), if_neg (by rw [hlen]; exact fun h => h h2)]
  refine ⟨_, _, _, _, (by first | exact Ld0 rfl H.b0 (by kernel_rfl) | exact Ld0 rfl H.b1 (by kernel_rfl) | exact Ld0 rfl H.b2 (by kernel_rfl) | exact Ld0 rfl H.b3 (by kernel_rfl) | exact Ld0 rfl H.b4 (by kernel_rfl) | exact Ld0 rfl H.b5 (by kernel_rfl) | exact Ld0 rfl H.b6 (by kernel_rfl) | exact Ld0 rfl H.b7 (by kernel_rfl) | exact Ld0 rfl H.b8 (by kernel_rfl) | exact Ld0 rfl H.b9 (by kernel_rfl)), ?_⟩
  refine call_j c9 ?_
  rintro _ w ⟨rfl, g⟩
  replace H := H.grow g; clear g
  refine ⟨_, rfl, ?_⟩
  have hcr : 0 ≤ hC xs ∧ hC xs ≤ 31 := by have := hb.getD 0; unfold hC; omega
  obtain ⟨C, hCe⟩ : ∃ C : Nat, hC xs = (C : Int) := ⟨(hC xs).toNat, by omega⟩
  have hbody : rdBody xs = rdBody xs := rfl
  conv at hbody => rhs; unfold rdBody
  simp only at hbody
  have hkr : kindOf (hT xs) (hC xs) = 0 ∨ kindOf (hT xs) (hC xs) = 1 ∨ kindOf (hT xs) (hC xs) = 2 ∨ kindOf (hT xs) (hC xs) = 3 ∨ kindOf (hT xs) (hC xs) = 4 ∨ kindOf (hT xs) (hC xs) = 5 ∨ kindOf (hT xs) (hC xs) = 6 ∨ kindOf (hT xs) (hC xs) = 7 ∨ kindOf (hT xs) (hC xs) = 8 ∨ kindOf (hT xs) (hC xs) = 9 ∨ kindOf (hT xs) (hC xs) = 10 ∨ kindOf (hT xs) (hC xs) = 11 ∨ kindOf (hT xs) (hC xs) = 12 ∨ kindOf (hT xs) (hC xs) = 13 := by
    unfold kindOf
    repeat (first | omega | split)
  generalize hk : kindOf (hT xs) (hC xs) = k at hU0 hbody hkr ⊢
  rw [hCe] at hcr
  rw [hCe, Int.toNat_natCast] at hbody
  rw [hCe] at H
  generalize hT xs = T at hU0 hbody H ⊢
  generalize hP xs = PB at hU0 hbody H ⊢
  generalize hL xs = LL at hbody H ⊢
  refine sNew H ?_; clear H; intro b23 w _ H
  refine sSw0 H rfl (by kernel_rfl) (by rfl) (by first | rfl | (simp only [List.all_cons, List.all_nil, Value.cells]; simp [*])) ?_; clear H; intro w _ H
  replace H := H.sub (ex' := .blk b23 38 (pk0 k 0 0 false 0 0 0) :: _) (ro' := ro) (by repeat (first | exact List.Sublist.refl _ | exact List.nil_sublist _ | apply List.Sublist.cons_cons | apply List.Sublist.cons)) (fun _ h => h)
  refine ⟨_, (by first | exact Ce (by first | exact add_flat _ _ _ | exact add_flat2 _ _ _ _ | rfl) H.b0 rfl | exact Ce (by first | exact add_flat _ _ _ | exact add_flat2 _ _ _ _ | rfl) H.b1 rfl | exact Ce (by first | exact add_flat _ _ _ | exact add_flat2 _ _ _ _ | rfl) H.b2 rfl | exact Ce (by first | exact add_flat _ _ _ | exact add_flat2 _ _ _ _ | rfl) H.b3 rfl | exact Ce (by first | exact add_flat _ _ _ | exact add_flat2 _ _ _ _ | rfl) H.b4 rfl | exact Ce (by first | exact add_flat _ _ _ | exact add_flat2 _ _ _ _ | rfl) H.b5 rfl | exact Ce (by first | exact add_flat _ _ _ | exact add_flat2 _ _ _ _ | rfl) H.b6 rfl | exact Ce (by first | exact add_flat _ _ _ | exact add_flat2 _ _ _ _ | rfl) H.b7 rfl | exact Ce (by first | exact add_flat _ _ _ | exact add_flat2 _ _ _ _ | rfl) H.b8 rfl | exact Ce (by first | exact add_flat _ _ _ | exact add_flat2 _ _ _ _ | rfl) H.b9 rfl), ?_⟩   -- w_25.cell? (p_23.add 0) = some (.int .i64 x26)
  refine ⟨fun h3 => ?_, fun h3 => ?_⟩   -- (x26 == (0 : Int))
  · have h3 : k = 0 := by simpa using h3
    rw [if_pos h3] at hU0
    refine ⟨_, (by first | exact Ce (by first | exact add_flat _ _ _ | exact add_flat2 _ _ _ _ | rfl) H.b0 rfl | exact Ce (by first | exact add_flat _ _ _ | exact add_flat2 _ _ _ _ | rfl) H.b1 rfl | exact Ce (by first | exact add_flat _ _ _ | exact add_flat2 _ _ _ _ | rfl) H.b2 rfl | exact Ce (by first | exact add_flat _ _ _ | exact add_flat2 _ _ _ _ | rfl) H.b3 rfl | exact Ce (by first | exact add_flat _ _ _ | exact add_flat2 _ _ _ _ | rfl) H.b4 rfl | exact Ce (by first | exact add_flat _ _ _ | exact add_flat2 _ _ _ _ | rfl) H.b5 rfl | exact Ce (by first | exact add_flat _ _ _ | exact add_flat2 _ _ _ _ | rfl) H.b6 rfl | exact Ce (by first | exact add_flat _ _ _ | exact add_flat2 _ _ _ _ | rfl) H.b7 rfl | exact Ce (by first | exact add_flat _ _ _ | exact add_flat2 _ _ _ _ | rfl) H.b8 rfl | exact Ce (by first | exact add_flat _ _ _ | exact add_flat2 _ _ _ _ | rfl) H.b9 rfl), ?_⟩   -- w_25.cell? (p_9.add 2) = some (.int .u8 x27)
    refine ⟨fun h4 => ?_, fun h4 => ?_⟩   -- (x27 == (207 : Int))
    · have h4 : T = 207 := by simpa using h4
      rw [if_pos h4] at hU0
      have hU := hU0
      refine sSw2 H rfl (by kernel_rfl) (by rfl) (by first | rfl | (simp only [List.all_cons, List.all_nil, Value.cells]; simp [*])) ?_; clear H; intro w _ H
      exact ⟨_, (by first | exact Ld0 rfl H.b0 (by kernel_rfl) | exact Ld0 rfl H.b1 (by kernel_rfl) | exact Ld0 rfl H.b2 (by kernel_rfl) | exact Ld0 rfl H.b3 (by kernel_rfl) | exact Ld0 rfl H.b4 (by kernel_rfl) | exact Ld0 rfl H.b5 (by kernel_rfl) | exact Ld0 rfl H.b6 (by kernel_rfl) | exact Ld0 rfl H.b7 (by kernel_rfl) | exact Ld0 rfl H.b8 (by kernel_rfl) | exact Ld0 rfl H.b9 (by kernel_rfl)), OnePost.mk hU H (by repeat (first | exact List.Sublist.refl _ | exact List.nil_sublist _ | apply List.Sublist.cons_cons | apply List.Sublist.cons)) (fun r hr => by (try simp only [List.mem_cons] at hr ⊢); (repeat (first | (rcases hr with rfl | hr; (first | (left; rfl) | (right; left; rfl) | (right; right; left; rfl) | (right; right; right; left; rfl) | (right; right; right; right; left; rfl)))  | (simp [hr]; done) | assumption | exact hr.elim))) (fun G h => by repeat (first | exact DeepL.nil _ _ | exact DeepL.ones _ | refine DeepL.cons (Deep.emp _ _) ?_ | refine DeepL.cons (Deep.one _) ?_ | refine DeepL.cons (h (.deep [_] [_]) (by assumption)).head ?_ | refine DeepL.cons (h (.deep [_] [_]) (by first | assumption | exact List.mem_cons_self | (apply List.mem_cons_of_mem; first | assumption | exact List.mem_cons_self | (apply List.mem_cons_of_mem; first | assumption | exact List.mem_cons_self | (apply List.mem_cons_of_mem; first | assumption | exact List.mem_cons_self | (apply List.mem_cons_of_mem; first | assumption | exact List.mem_cons_self | (apply List.mem_cons_of_mem; first | assumption | exact List.mem_cons_self))))))).head ?_))⟩
    · have h4 : ¬ T = 207 := by simpa using h4
      rw [if_neg h4] at hU0
      have hU := hU0
      subst h3
      refine sSt0 H (by first | exact add_flat _ _ _ | exact add_flat2 _ _ _ _ | rfl) (by kernel_rfl) (by rfl) (by first | rfl | (simp only [List.all_cons, List.all_nil, Value.cells]; simp [*])) ?_; clear H; intro w _ H
      refine ⟨_, (by first | exact Ld0 rfl H.b0 (by kernel_rfl) | exact Ld0 rfl H.b1 (by kernel_rfl) | exact Ld0 rfl H.b2 (by kernel_rfl) | exact Ld0 rfl H.b3 (by kernel_rfl) | exact Ld0 rfl H.b4 (by kernel_rfl) | exact Ld0 rfl H.b5 (by kernel_rfl) | exact Ld0 rfl H.b6 (by kernel_rfl) | exact Ld0 rfl H.b7 (by kernel_rfl) | exact Ld0 rfl H.b8 (by kernel_rfl) | exact Ld0 rfl H.b9 (by kernel_rfl)), ?_⟩
      refine sSw2 H rfl (by kernel_rfl) (by rfl) (by rfl) ?_
      clear H; intro w _ H
      exact ⟨_, (by first | exact Ld0 rfl H.b0 (by kernel_rfl) | exact Ld0 rfl H.b1 (by kernel_rfl) | exact Ld0 rfl H.b2 (by kernel_rfl) | exact Ld0 rfl H.b3 (by kernel_rfl) | exact Ld0 rfl H.b4 (by kernel_rfl) | exact Ld0 rfl H.b5 (by kernel_rfl) | exact Ld0 rfl H.b6 (by kernel_rfl) | exact Ld0 rfl H.b7 (by kernel_rfl) | exact Ld0 rfl H.b8 (by kernel_rfl) | exact Ld0 rfl H.b9 (by kernel_rfl)), OnePost.mk hU H (by repeat (first | exact List.Sublist.refl _ | exact List.nil_sublist _ | apply List.Sublist.cons_cons | apply List.Sublist.cons)) (fun r hr => by (try simp only [List.mem_cons] at hr ⊢); (repeat (first | (rcases hr with rfl | hr; (first | (left; rfl) | (right; left; rfl) | (right; right; left; rfl) | (right; right; right; left; rfl) | (right; right; right; right; left; rfl)))  | (simp [hr]; done) | assumption | exact hr.elim))) (fun G h => by repeat (first | exact DeepL.nil _ _ | exact DeepL.ones _ | refine DeepL.cons (Deep.emp _ _) ?_ | refine DeepL.cons (Deep.one _) ?_ | refine DeepL.cons (h (.deep [_] [_]) (by assumption)).head ?_ | refine DeepL.cons (h (.deep [_] [_]) (by first | assumption | exact List.mem_cons_self | (apply List.mem_cons_of_mem; first | assumption | exact List.mem_cons_self | (apply List.mem_cons_of_mem; first | assumption | exact List.mem_cons_self | (apply List.mem_cons_of_mem; first | assumption | exact List.mem_cons_self | (apply List.mem_cons_of_mem; first | assumption | exact List.mem_cons_self | (apply List.mem_cons_of_mem; first | assumption | exact List.mem_cons_self))))))).head ?_))⟩
  have h3 : ¬ k = 0 := by simpa using h3
  rw [if_neg h3] at hU0
  refine ⟨_, (by first | exact Ce (by first | exact add_flat _ _ _ | exact add_flat2 _ _ _ _ | rfl) H.b0 rfl | exact Ce (by first | exact add_flat _ _ _ | exact add_flat2 _ _ _ _ | rfl) H.b1 rfl | exact Ce (by first | exact add_flat _ _ _ | exact add_flat2 _ _ _ _ | rfl) H.b2 rfl | exact Ce (by first | exact add_flat _ _ _ | exact add_flat2 _ _ _ _ | rfl) H.b3 rfl | exact Ce (by first | exact add_flat _ _ _ | exact add_flat2 _ _ _ _ | rfl) H.b4 rfl | exact Ce (by first | exact add_flat _ _ _ | exact add_flat2 _ _ _ _ | rfl) H.b5 rfl | exact Ce (by first | exact add_flat _ _ _ | exact add_flat2 _ _ _ _ | rfl) H.b6 rfl | exact Ce (by first | exact add_flat _ _ _ | exact add_flat2 _ _ _ _ | rfl) H.b7 rfl | exact Ce (by first | exact add_flat _ _ _ | exact add_flat2 _ _ _ _ | rfl) H.b8 rfl | exact Ce (by first | exact add_flat _ _ _ | exact add_flat2 _ _ _ _ | rfl) H.b9 rfl), ?_⟩   -- w_25.cell? (p_9.add 0) = some (.bool x34)
  refine ⟨fun h4 => ?_, fun h4 => ?_⟩   -- x34
  · subst h4
    have hU : rdOne xs = (2, {}) := by rw [hU0]; rfl
    refine sSw2 H rfl (by kernel_rfl) (by rfl) (by first | rfl | (simp only [List.all_cons, List.all_nil, Value.cells]; simp [*])) ?_; clear H; intro w _ H
    exact ⟨_, (by first | exact Ld0 rfl H.b0 (by kernel_rfl) | exact Ld0 rfl H.b1 (by kernel_rfl) | exact Ld0 rfl H.b2 (by kernel_rfl) | exact Ld0 rfl H.b3 (by kernel_rfl) | exact Ld0 rfl H.b4 (by kernel_rfl) | exact Ld0 rfl H.b5 (by kernel_rfl) | exact Ld0 rfl H.b6 (by kernel_rfl) | exact Ld0 rfl H.b7 (by kernel_rfl) | exact Ld0 rfl H.b8 (by kernel_rfl) | exact Ld0 rfl H.b9 (by kernel_rfl)), OnePost.mk hU H (by repeat (first | exact List.Sublist.refl _ | exact List.nil_sublist _ | apply List.Sublist.cons_cons | apply List.Sublist.cons)) (fun r hr => by (try simp only [List.mem_cons] at hr ⊢); (repeat (first | (rcases hr with rfl | hr; (first | (left; rfl) | (right; left; rfl) | (right; right; left; rfl) | (right; right; right; left; rfl) | (right; right; right; right; left; rfl)))  | (simp [hr]; done) | assumption | exact hr.elim))) (fun G h => by repeat (first | exact DeepL.nil _ _ | exact DeepL.ones _ | refine DeepL.cons (Deep.emp _ _) ?_ | refine DeepL.cons (Deep.one _) ?_ | refine DeepL.cons (h (.deep [_] [_]) (by assumption)).head ?_ | refine DeepL.cons (h (.deep [_] [_]) (by first | assumption | exact List.mem_cons_self | (apply List.mem_cons_of_mem; first | assumption | exact List.mem_cons_self | (apply List.mem_cons_of_mem; first | assumption | exact List.mem_cons_self | (apply List.mem_cons_of_mem; first | assumption | exact List.mem_cons_self | (apply List.mem_cons_of_mem; first | assumption | exact List.mem_cons_self | (apply List.mem_cons_of_mem; first | assumption | exact List.mem_cons_self))))))).head ?_))⟩
  subst h4
  have hU1 : rdOne xs = oneOf (rdBody xs) := by rw [hU0]; rfl
  clear hU0
  refine ⟨by omega, by omega, ?_⟩
  refine ⟨_, (by first | exact Ce (by first | exact add_flat _ _ _ | exact add_flat2 _ _ _ _ | rfl) H.b0 rfl | exact Ce (by first | exact add_flat _ _ _ | exact add_flat2 _ _ _ _ | rfl) H.b1 rfl | exact Ce (by first | exact add_flat _ _ _ | exact add_flat2 _ _ _ _ | rfl) H.b2 rfl | exact Ce (by first | exact add_flat _ _ _ | exact add_flat2 _ _ _ _ | rfl) H.b3 rfl | exact Ce (by first | exact add_flat _ _ _ | exact add_flat2 _ _ _ _ | rfl) H.b4 rfl | exact Ce (by first | exact add_flat _ _ _ | exact add_flat2 _ _ _ _ | rfl) H.b5 rfl | exact Ce (by first | exact add_flat _ _ _ | exact add_flat2 _ _ _ _ | rfl) H.b6 rfl | exact Ce (by first | exact add_flat _ _ _ | exact add_flat2 _ _ _ _ | rfl) H.b7 rfl | exact Ce (by first | exact add_flat _ _ _ | exact add_flat2 _ _ _ _ | rfl) H.b8 rfl | exact Ce (by first | exact add_flat _ _ _ | exact add_flat2 _ _ _ _ | rfl) H.b9 rfl), ?_⟩   -- w_25.cell? (p_9.add 1) = some (.int .u8 x37)
  refine ⟨_, (by first | exact Ce (by first | exact add_flat _ _ _ | exact add_flat2 _ _ _ _ | rfl) H.b0 rfl | exact Ce (by first | exact add_flat _ _ _ | exact add_flat2 _ _ _ _ | rfl) H.b1 rfl | exact Ce (by first | exact add_flat _ _ _ | exact add_flat2 _ _ _ _ | rfl) H.b2 rfl | exact Ce (by first | exact add_flat _ _ _ | exact add_flat2 _ _ _ _ | rfl) H.b3 rfl | exact Ce (by first | exact add_flat _ _ _ | exact add_flat2 _ _ _ _ | rfl) H.b4 rfl | exact Ce (by first | exact add_flat _ _ _ | exact add_flat2 _ _ _ _ | rfl) H.b5 rfl | exact Ce (by first | exact add_flat _ _ _ | exact add_flat2 _ _ _ _ | rfl) H.b6 rfl | exact Ce (by first | exact add_flat _ _ _ | exact add_flat2 _ _ _ _ | rfl) H.b7 rfl | exact Ce (by first | exact add_flat _ _ _ | exact add_flat2 _ _ _ _ | rfl) H.b8 rfl | exact Ce (by first | exact add_flat _ _ _ | exact add_flat2 _ _ _ _ | rfl) H.b9 rfl), ?_⟩   -- w_25.cell? (p_23.add 0) = some (.int .i64 x38)
  have H1 := H.skipB hx 4 hn4
  replace H := H1; clear H1
  have hb4 := hb.drop 4
  have hl4 : (xs.drop 4).length = n - 4 := by rw [List.length_drop, hlen]
  rw [hl4] at hbody
  rw [wi64_of (n := (C : Int)) (by omega) (by omega), wi64_of (n := 24 * (C : Int)) (by omega) (by omega), wi64_of (n := 24 + 24 * (C : Int)) (by omega) (by omega), wi64_of (n := 4 + 24 * (C : Int)) (by omega) (by omega)]
  have hcap := (H.deep1 (d := .row 1 (ob (xs.drop 4))) (v := .slice (cutA a 4 c 1) (n - 4) (c - 4)) (by first | assumption | exact List.mem_cons_self | (apply List.mem_cons_of_mem; first | assumption | exact List.mem_cons_self | (apply List.mem_cons_of_mem; first | assumption | exact List.mem_cons_self | (apply List.mem_cons_of_mem; first | assumption | exact List.mem_cons_self | (apply List.mem_cons_of_mem; first | assumption | exact List.mem_cons_self | (apply List.mem_cons_of_mem; first | assumption | exact List.mem_cons_self))))))).len
  refine ⟨fun h5 => ?_, fun h5 => ?_⟩   -- (x38 == (1 : Int))
  · have h5 : k = 1 := by simpa using h5
    subst h5
    rw [if_pos rfl] at hbody
    by_cases hd : ((n - 4 : Nat) : Int) ≥ 24 + 24 * (C : Int)
    · rw [decide_eq_true hd]
      rw [if_neg (by omega)] at hbody
      have hU := hU1.trans (congrArg oneOf hbody)
      refine ⟨fun _ => ?_, fun h => by cases h⟩
      refine ⟨by omega, by omega, by omega, by omega, by omega, by omega, by omega, by omega, ?_⟩
      replace H := H.drew; generalize w.drew = w at H ⊢
      refine call_j (c10 (H.rd (xs := xs.drop 4) (by first | assumption | exact List.mem_cons_self | (apply List.mem_cons_of_mem; first | assumption | exact List.mem_cons_self | (apply List.mem_cons_of_mem; first | assumption | exact List.mem_cons_self | (apply List.mem_cons_of_mem; first | assumption | exact List.mem_cons_self | (apply List.mem_cons_of_mem; first | assumption | exact List.mem_cons_self | (apply List.mem_cons_of_mem; first | assumption | exact List.mem_cons_self))))))) hb4 (by omega)) ?_
      rintro _ w ⟨rfl, g⟩
      replace H := H.grow g; clear g
      refine ⟨_, rfl, ?_⟩
      refine call_j (c11 (Rd.skip (H.rd (xs := xs.drop 4) (by first | assumption | exact List.mem_cons_self | (apply List.mem_cons_of_mem; first | assumption | exact List.mem_cons_self | (apply List.mem_cons_of_mem; first | assumption | exact List.mem_cons_self | (apply List.mem_cons_of_mem; first | assumption | exact List.mem_cons_self | (apply List.mem_cons_of_mem; first | assumption | exact List.mem_cons_self | (apply List.mem_cons_of_mem; first | assumption | exact List.mem_cons_self))))))) 4 (by omega)) (hb4.drop 4) (by omega)) ?_
      rintro _ w ⟨rfl, g⟩
      replace H := H.grow g; clear g
      refine ⟨_, rfl, ?_⟩
      refine call_j (c10 (Rd.skip (H.rd (xs := xs.drop 4) (by first | assumption | exact List.mem_cons_self | (apply List.mem_cons_of_mem; first | assumption | exact List.mem_cons_self | (apply List.mem_cons_of_mem; first | assumption | exact List.mem_cons_self | (apply List.mem_cons_of_mem; first | assumption | exact List.mem_cons_self | (apply List.mem_cons_of_mem; first | assumption | exact List.mem_cons_self | (apply List.mem_cons_of_mem; first | assumption | exact List.mem_cons_self))))))) 12 (by omega)) (hb4.drop 12) (by omega)) ?_
      rintro _ w ⟨rfl, g⟩
      replace H := H.grow g; clear g
      refine ⟨_, rfl, ?_⟩
      refine call_j (c10 (Rd.skip (H.rd (xs := xs.drop 4) (by first | assumption | exact List.mem_cons_self | (apply List.mem_cons_of_mem; first | assumption | exact List.mem_cons_self | (apply List.mem_cons_of_mem; first | assumption | exact List.mem_cons_self | (apply List.mem_cons_of_mem; first | assumption | exact List.mem_cons_self | (apply List.mem_cons_of_mem; first | assumption | exact List.mem_cons_self | (apply List.mem_cons_of_mem; first | assumption | exact List.mem_cons_self))))))) 16 (by omega)) (hb4.drop 16) (by omega)) ?_
      rintro _ w ⟨rfl, g⟩
      replace H := H.grow g; clear g
      refine ⟨_, rfl, ?_⟩
      refine call_j (c10 (Rd.skip (H.rd (xs := xs.drop 4) (by first | assumption | exact List.mem_cons_self | (apply List.mem_cons_of_mem; first | assumption | exact List.mem_cons_self | (apply List.mem_cons_of_mem; first | assumption | exact List.mem_cons_self | (apply List.mem_cons_of_mem; first | assumption | exact List.mem_cons_self | (apply List.mem_cons_of_mem; first | assumption | exact List.mem_cons_self | (apply List.mem_cons_of_mem; first | assumption | exact List.mem_cons_self))))))) 20 (by omega)) (hb4.drop 20) (by omega)) ?_
      rintro _ w ⟨rfl, g⟩
      replace H := H.grow g; clear g
      refine ⟨_, rfl, ?_⟩
      refine sSt0 H (by first | exact add_flat _ _ _ | exact add_flat2 _ _ _ _ | rfl) (by kernel_rfl) (by rfl) (by first | rfl | (simp only [List.all_cons, List.all_nil, Value.cells]; simp [*])) ?_; clear H; intro w _ H
      refine sSt0 H (by first | exact add_flat _ _ _ | exact add_flat2 _ _ _ _ | rfl) (by kernel_rfl) (by rfl) (by first | rfl | (simp only [List.all_cons, List.all_nil, Value.cells]; simp [*])) ?_; clear H; intro w _ H
      refine sSt0 H (by first | exact add_flat _ _ _ | exact add_flat2 _ _ _ _ | rfl) (by kernel_rfl) (by rfl) (by first | rfl | (simp only [List.all_cons, List.all_nil, Value.cells]; simp [*])) ?_; clear H; intro w _ H
      refine sSt0 H (by first | exact add_flat _ _ _ | exact add_flat2 _ _ _ _ | rfl) (by kernel_rfl) (by rfl) (by first | rfl | (simp only [List.all_cons, List.all_nil, Value.cells]; simp [*])) ?_; clear H; intro w _ H
      refine sSt0 H (by first | exact add_flat _ _ _ | exact add_flat2 _ _ _ _ | rfl) (by kernel_rfl) (by rfl) (by first | rfl | (simp only [List.all_cons, List.all_nil, Value.cells]; simp [*])) ?_; clear H; intro w _ H
      refine ⟨by omega, by omega, ?_⟩
      have H1 := H.skipB (xs := xs.drop 4) (a := cutA a 4 c 1) (n := n - 4) (c := c - 4) (by first | assumption | exact List.mem_cons_self | (apply List.mem_cons_of_mem; first | assumption | exact List.mem_cons_self | (apply List.mem_cons_of_mem; first | assumption | exact List.mem_cons_self | (apply List.mem_cons_of_mem; first | assumption | exact List.mem_cons_self | (apply List.mem_cons_of_mem; first | assumption | exact List.mem_cons_self | (apply List.mem_cons_of_mem; first | assumption | exact List.mem_cons_self)))))) 24 (by omega)
      refine call_j (c12 H1 List.mem_cons_self (hb4.drop 24) (by omega) (by omega)) ?_
      clear H H1
      rintro _ w ⟨a1, c1, a2, n2, c2, rfl, H⟩
      refine ⟨_, _, _, _, _, _, rfl, ?_⟩
      refine sSt0 H (by first | exact add_flat _ _ _ | exact add_flat2 _ _ _ _ | rfl) (by kernel_rfl) (by rfl) (by first | rfl | (simp only [List.all_cons, List.all_nil, Value.cells]; simp [*])) ?_; clear H; intro w _ H
      refine sSt0 H (by first | exact add_flat _ _ _ | exact add_flat2 _ _ _ _ | rfl) (by kernel_rfl) (by rfl) (by first | rfl | (simp only [List.all_cons, List.all_nil, Value.cells]; simp [*])) ?_; clear H; intro w _ H
      refine ⟨fun h => (by cases h), fun _ => ?_⟩
      refine ⟨_, (by first | exact Ld0 rfl H.b0 (by kernel_rfl) | exact Ld0 rfl H.b1 (by kernel_rfl) | exact Ld0 rfl H.b2 (by kernel_rfl) | exact Ld0 rfl H.b3 (by kernel_rfl) | exact Ld0 rfl H.b4 (by kernel_rfl) | exact Ld0 rfl H.b5 (by kernel_rfl) | exact Ld0 rfl H.b6 (by kernel_rfl) | exact Ld0 rfl H.b7 (by kernel_rfl) | exact Ld0 rfl H.b8 (by kernel_rfl) | exact Ld0 rfl H.b9 (by kernel_rfl)), ?_⟩
      refine sSw2 H rfl (by kernel_rfl) (by rfl) (by rfl) ?_
      clear H; intro w _ H
      exact ⟨_, (by first | exact Ld0 rfl H.b0 (by kernel_rfl) | exact Ld0 rfl H.b1 (by kernel_rfl) | exact Ld0 rfl H.b2 (by kernel_rfl) | exact Ld0 rfl H.b3 (by kernel_rfl) | exact Ld0 rfl H.b4 (by kernel_rfl) | exact Ld0 rfl H.b5 (by kernel_rfl) | exact Ld0 rfl H.b6 (by kernel_rfl) | exact Ld0 rfl H.b7 (by kernel_rfl) | exact Ld0 rfl H.b8 (by kernel_rfl) | exact Ld0 rfl H.b9 (by kernel_rfl)), OnePost.mk hU H (by repeat (first | exact List.Sublist.refl _ | exact List.nil_sublist _ | apply List.Sublist.cons_cons | apply List.Sublist.cons)) (fun r hr => by (try simp only [List.mem_cons] at hr ⊢); (repeat (first | (rcases hr with rfl | hr; (first | (left; rfl) | (right; left; rfl) | (right; right; left; rfl) | (right; right; right; left; rfl) | (right; right; right; right; left; rfl)))  | (simp [hr]; done) | assumption | exact hr.elim))) (fun G h => by repeat (first | exact DeepL.nil _ _ | exact DeepL.ones _ | refine DeepL.cons (Deep.emp _ _) ?_ | refine DeepL.cons (Deep.one _) ?_ | refine DeepL.cons (h (.deep [_] [_]) (by assumption)).head ?_ | refine DeepL.cons (h (.deep [_] [_]) (by first | assumption | exact List.mem_cons_self | (apply List.mem_cons_of_mem; first | assumption | exact List.mem_cons_self | (apply List.mem_cons_of_mem; first | assumption | exact List.mem_cons_self | (apply List.mem_cons_of_mem; first | assumption | exact List.mem_cons_self | (apply List.mem_cons_of_mem; first | assumption | exact List.mem_cons_self | (apply List.mem_cons_of_mem; first | assumption | exact List.mem_cons_self))))))).head ?_))⟩
    · rw [decide_eq_false hd]
      rw [if_pos (by omega)] at hbody
      have hU : rdOne xs = (2, {}) := by rw [hU1, hbody]; rfl
      refine ⟨fun h => (by cases h), fun _ => ⟨fun _ => ?_, fun h => by cases h⟩⟩
      refine sSw2 H rfl (by kernel_rfl) (by rfl) (by first | rfl | (simp only [List.all_cons, List.all_nil, Value.cells]; simp [*])) ?_; clear H; intro w _ H
      exact ⟨_, (by first | exact Ld0 rfl H.b0 (by kernel_rfl) | exact Ld0 rfl H.b1 (by kernel_rfl) | exact Ld0 rfl H.b2 (by kernel_rfl) | exact Ld0 rfl H.b3 (by kernel_rfl) | exact Ld0 rfl H.b4 (by kernel_rfl) | exact Ld0 rfl H.b5 (by kernel_rfl) | exact Ld0 rfl H.b6 (by kernel_rfl) | exact Ld0 rfl H.b7 (by kernel_rfl) | exact Ld0 rfl H.b8 (by kernel_rfl) | exact Ld0 rfl H.b9 (by kernel_rfl)), OnePost.mk hU H (by repeat (first | exact List.Sublist.refl _ | exact List.nil_sublist _ | apply List.Sublist.cons_cons | apply List.Sublist.cons)) (fun r hr => by (try simp only [List.mem_cons] at hr ⊢); (repeat (first | (rcases hr with rfl | hr; (first | (left; rfl) | (right; left; rfl) | (right; right; left; rfl) | (right; right; right; left; rfl) | (right; right; right; right; left; rfl)))  | (simp [hr]; done) | assumption | exact hr.elim))) (fun G h => by repeat (first | exact DeepL.nil _ _ | exact DeepL.ones _ | refine DeepL.cons (Deep.emp _ _) ?_ | refine DeepL.cons (Deep.one _) ?_ | refine DeepL.cons (h (.deep [_] [_]) (by assumption)).head ?_ | refine DeepL.cons (h (.deep [_] [_]) (by first | assumption | exact List.mem_cons_self | (apply List.mem_cons_of_mem; first | assumption | exact List.mem_cons_self | (apply List.mem_cons_of_mem; first | assumption | exact List.mem_cons_self | (apply List.mem_cons_of_mem; first | assumption | exact List.mem_cons_self | (apply List.mem_cons_of_mem; first | assumption | exact List.mem_cons_self | (apply List.mem_cons_of_mem; first | assumption | exact List.mem_cons_self))))))).head ?_))⟩
  have h5' : ¬ k = 1 := by simpa using h5
  rw [if_neg h5'] at hbody
  refine ⟨fun h5 => ?_, fun h5 => ?_⟩   -- (x38 == (2 : Int))
  · have h5 : k = 2 := by simpa using h5
    subst h5
    rw [if_pos rfl] at hbody
    by_cases hd : ((n - 4 : Nat) : Int) ≥ 4 + 24 * (C : Int)
    · rw [decide_eq_true hd]
      rw [if_neg (by omega)] at hbody
      have hU := hU1.trans (congrArg oneOf hbody)
      refine ⟨fun _ => ?_, fun h => by cases h⟩
      refine call_j (c10 (H.rd (xs := xs.drop 4) (by first | assumption | exact List.mem_cons_self | (apply List.mem_cons_of_mem; first | assumption | exact List.mem_cons_self | (apply List.mem_cons_of_mem; first | assumption | exact List.mem_cons_self | (apply List.mem_cons_of_mem; first | assumption | exact List.mem_cons_self | (apply List.mem_cons_of_mem; first | assumption | exact List.mem_cons_self | (apply List.mem_cons_of_mem; first | assumption | exact List.mem_cons_self))))))) hb4 (by omega)) ?_
      rintro _ w ⟨rfl, g⟩
      replace H := H.grow g; clear g
      refine ⟨_, rfl, ?_⟩
      refine sSt0 H (by first | exact add_flat _ _ _ | exact add_flat2 _ _ _ _ | rfl) (by kernel_rfl) (by rfl) (by first | rfl | (simp only [List.all_cons, List.all_nil, Value.cells]; simp [*])) ?_; clear H; intro w _ H
      refine ⟨by omega, by omega, ?_⟩
      have H1 := H.skipB (xs := xs.drop 4) (a := cutA a 4 c 1) (n := n - 4) (c := c - 4) (by first | assumption | exact List.mem_cons_self | (apply List.mem_cons_of_mem; first | assumption | exact List.mem_cons_self | (apply List.mem_cons_of_mem; first | assumption | exact List.mem_cons_self | (apply List.mem_cons_of_mem; first | assumption | exact List.mem_cons_self | (apply List.mem_cons_of_mem; first | assumption | exact List.mem_cons_self | (apply List.mem_cons_of_mem; first | assumption | exact List.mem_cons_self)))))) 4 (by omega)
      refine call_j (c12 H1 List.mem_cons_self (hb4.drop 4) (by omega) (by omega)) ?_
      clear H H1
      rintro _ w ⟨a1, c1, a2, n2, c2, rfl, H⟩
      refine ⟨_, _, _, _, _, _, rfl, ?_⟩
      refine sSt0 H (by first | exact add_flat _ _ _ | exact add_flat2 _ _ _ _ | rfl) (by kernel_rfl) (by rfl) (by first | rfl | (simp only [List.all_cons, List.all_nil, Value.cells]; simp [*])) ?_; clear H; intro w _ H
      refine sSt0 H (by first | exact add_flat _ _ _ | exact add_flat2 _ _ _ _ | rfl) (by kernel_rfl) (by rfl) (by first | rfl | (simp only [List.all_cons, List.all_nil, Value.cells]; simp [*])) ?_; clear H; intro w _ H
      refine ⟨fun h => (by cases h), fun _ => ?_⟩
      refine ⟨_, (by first | exact Ld0 rfl H.b0 (by kernel_rfl) | exact Ld0 rfl H.b1 (by kernel_rfl) | exact Ld0 rfl H.b2 (by kernel_rfl) | exact Ld0 rfl H.b3 (by kernel_rfl) | exact Ld0 rfl H.b4 (by kernel_rfl) | exact Ld0 rfl H.b5 (by kernel_rfl) | exact Ld0 rfl H.b6 (by kernel_rfl) | exact Ld0 rfl H.b7 (by kernel_rfl) | exact Ld0 rfl H.b8 (by kernel_rfl) | exact Ld0 rfl H.b9 (by kernel_rfl)), ?_⟩
      refine sSw2 H rfl (by kernel_rfl) (by rfl) (by rfl) ?_
      clear H; intro w _ H
      exact ⟨_, (by first | exact Ld0 rfl H.b0 (by kernel_rfl) | exact Ld0 rfl H.b1 (by kernel_rfl) | exact Ld0 rfl H.b2 (by kernel_rfl) | exact Ld0 rfl H.b3 (by kernel_rfl) | exact Ld0 rfl H.b4 (by kernel_rfl) | exact Ld0 rfl H.b5 (by kernel_rfl) | exact Ld0 rfl H.b6 (by kernel_rfl) | exact Ld0 rfl H.b7 (by kernel_rfl) | exact Ld0 rfl H.b8 (by kernel_rfl) | exact Ld0 rfl H.b9 (by kernel_rfl)), OnePost.mk hU H (by repeat (first | exact List.Sublist.refl _ | exact List.nil_sublist _ | apply List.Sublist.cons_cons | apply List.Sublist.cons)) (fun r hr => by (try simp only [List.mem_cons] at hr ⊢); (repeat (first | (rcases hr with rfl | hr; (first | (left; rfl) | (right; left; rfl) | (right; right; left; rfl) | (right; right; right; left; rfl) | (right; right; right; right; left; rfl)))  | (simp [hr]; done) | assumption | exact hr.elim))) (fun G h => by repeat (first | exact DeepL.nil _ _ | exact DeepL.ones _ | refine DeepL.cons (Deep.emp _ _) ?_ | refine DeepL.cons (Deep.one _) ?_ | refine DeepL.cons (h (.deep [_] [_]) (by assumption)).head ?_ | refine DeepL.cons (h (.deep [_] [_]) (by first | assumption | exact List.mem_cons_self | (apply List.mem_cons_of_mem; first | assumption | exact List.mem_cons_self | (apply List.mem_cons_of_mem; first | assumption | exact List.mem_cons_self | (apply List.mem_cons_of_mem; first | assumption | exact List.mem_cons_self | (apply List.mem_cons_of_mem; first | assumption | exact List.mem_cons_self | (apply List.mem_cons_of_mem; first | assumption | exact List.mem_cons_self))))))).head ?_))⟩
    · rw [decide_eq_false hd]
      rw [if_pos (by omega)] at hbody
      have hU : rdOne xs = (2, {}) := by rw [hU1, hbody]; rfl
      refine ⟨fun h => (by cases h), fun _ => ⟨fun _ => ?_, fun h => by cases h⟩⟩
      refine sSw2 H rfl (by kernel_rfl) (by rfl) (by first | rfl | (simp only [List.all_cons, List.all_nil, Value.cells]; simp [*])) ?_; clear H; intro w _ H
      exact ⟨_, (by first | exact Ld0 rfl H.b0 (by kernel_rfl) | exact Ld0 rfl H.b1 (by kernel_rfl) | exact Ld0 rfl H.b2 (by kernel_rfl) | exact Ld0 rfl H.b3 (by kernel_rfl) | exact Ld0 rfl H.b4 (by kernel_rfl) | exact Ld0 rfl H.b5 (by kernel_rfl) | exact Ld0 rfl H.b6 (by kernel_rfl) | exact Ld0 rfl H.b7 (by kernel_rfl) | exact Ld0 rfl H.b8 (by kernel_rfl) | exact Ld0 rfl H.b9 (by kernel_rfl)), OnePost.mk hU H (by repeat (first | exact List.Sublist.refl _ | exact List.nil_sublist _ | apply List.Sublist.cons_cons | apply List.Sublist.cons)) (fun r hr => by (try simp only [List.mem_cons] at hr ⊢); (repeat (first | (rcases hr with rfl | hr; (first | (left; rfl) | (right; left; rfl) | (right; right; left; rfl) | (right; right; right; left; rfl) | (right; right; right; right; left; rfl)))  | (simp [hr]; done) | assumption | exact hr.elim))) (fun G h => by repeat (first | exact DeepL.nil _ _ | exact DeepL.ones _ | refine DeepL.cons (Deep.emp _ _) ?_ | refine DeepL.cons (Deep.one _) ?_ | refine DeepL.cons (h (.deep [_] [_]) (by assumption)).head ?_ | refine DeepL.cons (h (.deep [_] [_]) (by first | assumption | exact List.mem_cons_self | (apply List.mem_cons_of_mem; first | assumption | exact List.mem_cons_self | (apply List.mem_cons_of_mem; first | assumption | exact List.mem_cons_self | (apply List.mem_cons_of_mem; first | assumption | exact List.mem_cons_self | (apply List.mem_cons_of_mem; first | assumption | exact List.mem_cons_self | (apply List.mem_cons_of_mem; first | assumption | exact List.mem_cons_self))))))).head ?_))⟩
  have h6 : ¬ k = 2 := by simpa using h5
  rw [if_neg h6] at hbody
  refine ⟨fun h5 => ?_, fun h5 => ?_⟩   -- (x38 == (3 : Int))
  · have h5 : k = 3 := by simpa using h5
    subst h5
    rw [if_pos rfl] at hbody
    refine call_j (c13 H List.mem_cons_self hb4 (by omega) (by omega)) ?_
    intro en w' hP'
    exact oneTail hP' (fun r h => List.mem_cons_of_mem _ h) (by rw [hU1, hbody])
  have h7 : ¬ k = 3 := by simpa using h5
  rw [if_neg h7] at hbody
  refine ⟨fun h5 => ?_, fun h5 => ?_⟩   -- (x38 == (4 : Int))
  · have h5 : k = 4 := by simpa using h5
    subst h5
    rw [if_pos rfl] at hbody
    refine call_j (c14 H List.mem_cons_self hb4 (by omega) (by omega)) ?_
    intro en w' hP'
    exact oneTail hP' (fun r h => List.mem_cons_of_mem _ h) (by rw [hU1, hbody])
  have h8 : ¬ k = 4 := by simpa using h5
  rw [if_neg h8] at hbody
  refine ⟨fun h5 => ?_, fun h5 => ?_⟩   -- (x38 == (5 : Int))
  · have h5 : k = 5 := by simpa using h5
    subst h5
    rw [if_pos rfl] at hbody
    by_cases hd : ((n - 4 : Nat) : Int) ≥ (8 : Int)
    · rw [decide_eq_true hd]
      rw [if_neg (by omega)] at hbody
      have hU := hU1.trans (congrArg oneOf hbody)
      refine ⟨fun _ => ?_, fun h => by cases h⟩
      have hbl := hb4
      refine ⟨some b23, ?_⟩; replace H := H.drew; generalize w.drew = wd1 at H ⊢; have K := grew_refl wd1 (some b23)
      refine ⟨by omega, by omega, by omega, by omega, ?_⟩
      have HT := H.cutB (xs := xs.drop 4) (a := cutA a 4 c 1) (n := n - 4) (c := c - 4) (by first | assumption | exact List.mem_cons_self | (apply List.mem_cons_of_mem; first | assumption | exact List.mem_cons_self | (apply List.mem_cons_of_mem; first | assumption | exact List.mem_cons_self | (apply List.mem_cons_of_mem; first | assumption | exact List.mem_cons_self | (apply List.mem_cons_of_mem; first | assumption | exact List.mem_cons_self | (apply List.mem_cons_of_mem; first | assumption | exact List.mem_cons_self)))))) 4 8 (by omega) (by omega)
      refine ⟨_, strRow HT List.mem_cons_self (fun b hb => by injection hb with hb; subst hb; exact blk_foots (by first | exact List.mem_cons_self | (apply List.mem_cons_of_mem; first | exact List.mem_cons_self | (apply List.mem_cons_of_mem; first | exact List.mem_cons_self | (apply List.mem_cons_of_mem; first | exact List.mem_cons_self | (apply List.mem_cons_of_mem; first | exact List.mem_cons_self | (apply List.mem_cons_of_mem; first | exact List.mem_cons_self | (apply List.mem_cons_of_mem; first | exact List.mem_cons_self | (apply List.mem_cons_of_mem; first | exact List.mem_cons_self))))))))) uSl uU8 uStr, ?_⟩
      clear HT
      have hne : b9 ≠ b23 := by
        have := H.nd
        simp only [foots, Ex.foot, List.flatMap_cons, List.cons_append, List.nil_append, List.nodup_cons, List.mem_cons, not_or] at this
        exact fun e => this.1.1 e.symm
      refine ⟨fun e => by injection e with e; exact hne e, ?_⟩
      refine ⟨(by first | exact H.b0.row | exact H.b1.row | exact H.b2.row | exact H.b3.row | exact H.b4.row | exact H.b5.row | exact H.b6.row | exact H.b7.row), ?_⟩
      refine ⟨_, (by first | exact Ce (by first | exact add_flat _ _ _ | exact add_flat2 _ _ _ _ | rfl) H.b0 rfl | exact Ce (by first | exact add_flat _ _ _ | exact add_flat2 _ _ _ _ | rfl) H.b1 rfl | exact Ce (by first | exact add_flat _ _ _ | exact add_flat2 _ _ _ _ | rfl) H.b2 rfl | exact Ce (by first | exact add_flat _ _ _ | exact add_flat2 _ _ _ _ | rfl) H.b3 rfl | exact Ce (by first | exact add_flat _ _ _ | exact add_flat2 _ _ _ _ | rfl) H.b4 rfl | exact Ce (by first | exact add_flat _ _ _ | exact add_flat2 _ _ _ _ | rfl) H.b5 rfl | exact Ce (by first | exact add_flat _ _ _ | exact add_flat2 _ _ _ _ | rfl) H.b6 rfl | exact Ce (by first | exact add_flat _ _ _ | exact add_flat2 _ _ _ _ | rfl) H.b7 rfl | exact Ce (by first | exact add_flat _ _ _ | exact add_flat2 _ _ _ _ | rfl) H.b8 rfl | exact Ce (by first | exact add_flat _ _ _ | exact add_flat2 _ _ _ _ | rfl) H.b9 rfl), ?_⟩
      refine ⟨by omega, by omega, ?_⟩
      refine call_j (c10 (H.rd (xs := xs.drop 4) (by first | assumption | exact List.mem_cons_self | (apply List.mem_cons_of_mem; first | assumption | exact List.mem_cons_self | (apply List.mem_cons_of_mem; first | assumption | exact List.mem_cons_self | (apply List.mem_cons_of_mem; first | assumption | exact List.mem_cons_self | (apply List.mem_cons_of_mem; first | assumption | exact List.mem_cons_self | (apply List.mem_cons_of_mem; first | assumption | exact List.mem_cons_self))))))) hb4 (by omega)) ?_
      rintro _ w ⟨rfl, g⟩
      replace H := H.grow g; replace K := World.grownBy.trans K (grew_none _ g); clear g
      refine ⟨_, rfl, K, ?_⟩
      refine sSt0 H (by first | exact add_flat _ _ _ | exact add_flat2 _ _ _ _ | rfl) (by kernel_rfl) (by rfl) (by first | rfl | (simp only [List.all_cons, List.all_nil, Value.cells]; simp [*])) ?_; clear H; intro w g H; replace K := World.grownBy.trans K g; clear g
      refine ⟨K, ?_⟩
      refine sSt0 H (by first | exact add_flat _ _ _ | exact add_flat2 _ _ _ _ | rfl) (by kernel_rfl) (by rfl) (by first | rfl | (simp only [List.all_cons, List.all_nil, Value.cells]; simp [*])) ?_; clear H; intro w g H; replace K := World.grownBy.trans K g; clear g
      refine ⟨K, ?_⟩
      refine sSt0 H (by first | exact add_flat _ _ _ | exact add_flat2 _ _ _ _ | rfl) (by kernel_rfl) (by rfl) (by first | rfl | (simp only [List.all_cons, List.all_nil, Value.cells]; simp [*])) ?_; clear H; intro w g H; replace K := World.grownBy.trans K g; clear g
      refine ⟨K, ?_⟩
      refine sSt0 H (by first | exact add_flat _ _ _ | exact add_flat2 _ _ _ _ | rfl) (by kernel_rfl) (by rfl) (by first | rfl | (simp only [List.all_cons, List.all_nil, Value.cells]; simp [*])) ?_; clear H; intro w _ H
      refine ⟨fun h => (by cases h), fun _ => ?_⟩
      have H1 := H.skipB (xs := xs.drop 4) (a := cutA a 4 c 1) (n := n - 4) (c := c - 4) (by first | assumption | exact List.mem_cons_self | (apply List.mem_cons_of_mem; first | assumption | exact List.mem_cons_self | (apply List.mem_cons_of_mem; first | assumption | exact List.mem_cons_self | (apply List.mem_cons_of_mem; first | assumption | exact List.mem_cons_self | (apply List.mem_cons_of_mem; first | assumption | exact List.mem_cons_self | (apply List.mem_cons_of_mem; first | assumption | exact List.mem_cons_self)))))) 8 (by omega)
      replace H := H1; clear H1
      refine ⟨_, (by first | exact Ld0 rfl H.b0 (by kernel_rfl) | exact Ld0 rfl H.b1 (by kernel_rfl) | exact Ld0 rfl H.b2 (by kernel_rfl) | exact Ld0 rfl H.b3 (by kernel_rfl) | exact Ld0 rfl H.b4 (by kernel_rfl) | exact Ld0 rfl H.b5 (by kernel_rfl) | exact Ld0 rfl H.b6 (by kernel_rfl) | exact Ld0 rfl H.b7 (by kernel_rfl) | exact Ld0 rfl H.b8 (by kernel_rfl) | exact Ld0 rfl H.b9 (by kernel_rfl)), ?_⟩
      refine sSw2 H rfl (by kernel_rfl) (by rfl) (by rfl) ?_
      clear H; intro w _ H
      exact ⟨_, (by first | exact Ld0 rfl H.b0 (by kernel_rfl) | exact Ld0 rfl H.b1 (by kernel_rfl) | exact Ld0 rfl H.b2 (by kernel_rfl) | exact Ld0 rfl H.b3 (by kernel_rfl) | exact Ld0 rfl H.b4 (by kernel_rfl) | exact Ld0 rfl H.b5 (by kernel_rfl) | exact Ld0 rfl H.b6 (by kernel_rfl) | exact Ld0 rfl H.b7 (by kernel_rfl) | exact Ld0 rfl H.b8 (by kernel_rfl) | exact Ld0 rfl H.b9 (by kernel_rfl)), OnePost.mk hU H (by repeat (first | exact List.Sublist.refl _ | exact List.nil_sublist _ | apply List.Sublist.cons_cons | apply List.Sublist.cons)) (fun r hr => by (try simp only [List.mem_cons] at hr ⊢); (repeat (first | (rcases hr with rfl | hr; (first | (left; rfl) | (right; left; rfl) | (right; right; left; rfl) | (right; right; right; left; rfl) | (right; right; right; right; left; rfl)))  | (simp [hr]; done) | assumption | exact hr.elim))) (fun G h => by repeat (first | exact DeepL.nil _ _ | exact DeepL.ones _ | refine DeepL.cons (Deep.emp _ _) ?_ | refine DeepL.cons (Deep.one _) ?_ | refine DeepL.cons (h (.deep [_] [_]) (by assumption)).head ?_ | refine DeepL.cons (h (.deep [_] [_]) (by first | assumption | exact List.mem_cons_self | (apply List.mem_cons_of_mem; first | assumption | exact List.mem_cons_self | (apply List.mem_cons_of_mem; first | assumption | exact List.mem_cons_self | (apply List.mem_cons_of_mem; first | assumption | exact List.mem_cons_self | (apply List.mem_cons_of_mem; first | assumption | exact List.mem_cons_self | (apply List.mem_cons_of_mem; first | assumption | exact List.mem_cons_self))))))).head ?_))⟩
    · rw [decide_eq_false hd]
      rw [if_pos (by omega)] at hbody
      have hU : rdOne xs = (2, {}) := by rw [hU1, hbody]; rfl
      refine ⟨fun h => (by cases h), fun _ => ⟨fun _ => ?_, fun h => by cases h⟩⟩
      refine sSw2 H rfl (by kernel_rfl) (by rfl) (by first | rfl | (simp only [List.all_cons, List.all_nil, Value.cells]; simp [*])) ?_; clear H; intro w _ H
      exact ⟨_, (by first | exact Ld0 rfl H.b0 (by kernel_rfl) | exact Ld0 rfl H.b1 (by kernel_rfl) | exact Ld0 rfl H.b2 (by kernel_rfl) | exact Ld0 rfl H.b3 (by kernel_rfl) | exact Ld0 rfl H.b4 (by kernel_rfl) | exact Ld0 rfl H.b5 (by kernel_rfl) | exact Ld0 rfl H.b6 (by kernel_rfl) | exact Ld0 rfl H.b7 (by kernel_rfl) | exact Ld0 rfl H.b8 (by kernel_rfl) | exact Ld0 rfl H.b9 (by kernel_rfl)), OnePost.mk hU H (by repeat (first | exact List.Sublist.refl _ | exact List.nil_sublist _ | apply List.Sublist.cons_cons | apply List.Sublist.cons)) (fun r hr => by (try simp only [List.mem_cons] at hr ⊢); (repeat (first | (rcases hr with rfl | hr; (first | (left; rfl) | (right; left; rfl) | (right; right; left; rfl) | (right; right; right; left; rfl) | (right; right; right; right; left; rfl)))  | (simp [hr]; done) | assumption | exact hr.elim))) (fun G h => by repeat (first | exact DeepL.nil _ _ | exact DeepL.ones _ | refine DeepL.cons (Deep.emp _ _) ?_ | refine DeepL.cons (Deep.one _) ?_ | refine DeepL.cons (h (.deep [_] [_]) (by assumption)).head ?_ | refine DeepL.cons (h (.deep [_] [_]) (by first | assumption | exact List.mem_cons_self | (apply List.mem_cons_of_mem; first | assumption | exact List.mem_cons_self | (apply List.mem_cons_of_mem; first | assumption | exact List.mem_cons_self | (apply List.mem_cons_of_mem; first | assumption | exact List.mem_cons_self | (apply List.mem_cons_of_mem; first | assumption | exact List.mem_cons_self | (apply List.mem_cons_of_mem; first | assumption | exact List.mem_cons_self))))))).head ?_))⟩
  have h9 : ¬ k = 5 := by simpa using h5
  rw [if_neg h9] at hbody
  by_cases hd : ((n - 4 : Nat) : Int) ≥ (8 : Int)
  · rw [decide_eq_true hd]
    rw [if_neg (by omega)] at hbody
    refine ⟨fun _ => ?_, fun h => by cases h⟩
    refine ⟨by omega, by omega, ?_⟩
    replace H := H.drew; generalize w.drew = w at H ⊢
    refine call_j (c10 (H.rd (xs := xs.drop 4) (by first | assumption | exact List.mem_cons_self | (apply List.mem_cons_of_mem; first | assumption | exact List.mem_cons_self | (apply List.mem_cons_of_mem; first | assumption | exact List.mem_cons_self | (apply List.mem_cons_of_mem; first | assumption | exact List.mem_cons_self | (apply List.mem_cons_of_mem; first | assumption | exact List.mem_cons_self | (apply List.mem_cons_of_mem; first | assumption | exact List.mem_cons_self))))))) hb4 (by omega)) ?_
    rintro _ w ⟨rfl, g⟩
    replace H := H.grow g; clear g
    refine ⟨_, rfl, ?_⟩
    refine call_j (c10 (Rd.skip (H.rd (xs := xs.drop 4) (by first | assumption | exact List.mem_cons_self | (apply List.mem_cons_of_mem; first | assumption | exact List.mem_cons_self | (apply List.mem_cons_of_mem; first | assumption | exact List.mem_cons_self | (apply List.mem_cons_of_mem; first | assumption | exact List.mem_cons_self | (apply List.mem_cons_of_mem; first | assumption | exact List.mem_cons_self | (apply List.mem_cons_of_mem; first | assumption | exact List.mem_cons_self))))))) 4 (by omega)) (hb4.drop 4) (by omega)) ?_
    rintro _ w ⟨rfl, g⟩
    replace H := H.grow g; clear g
    refine ⟨_, rfl, ?_⟩
    refine sSt0 H (by first | exact add_flat _ _ _ | exact add_flat2 _ _ _ _ | rfl) (by kernel_rfl) (by rfl) (by first | rfl | (simp only [List.all_cons, List.all_nil, Value.cells]; simp [*])) ?_; clear H; intro w _ H
    refine sSt0 H (by first | exact add_flat _ _ _ | exact add_flat2 _ _ _ _ | rfl) (by kernel_rfl) (by rfl) (by first | rfl | (simp only [List.all_cons, List.all_nil, Value.cells]; simp [*])) ?_; clear H; intro w _ H
    refine ⟨_, _, _, _, (by first | exact Ld0 rfl H.b0 (by kernel_rfl) | exact Ld0 rfl H.b1 (by kernel_rfl) | exact Ld0 rfl H.b2 (by kernel_rfl) | exact Ld0 rfl H.b3 (by kernel_rfl) | exact Ld0 rfl H.b4 (by kernel_rfl) | exact Ld0 rfl H.b5 (by kernel_rfl) | exact Ld0 rfl H.b6 (by kernel_rfl) | exact Ld0 rfl H.b7 (by kernel_rfl) | exact Ld0 rfl H.b8 (by kernel_rfl) | exact Ld0 rfl H.b9 (by kernel_rfl)), ?_⟩
    refine call_j (c15 (H.sub (ex' := .blk b23 38 (pk0 k (n32 (xs.drop 4)) (n32 ((xs.drop 4).drop 4)) false 0 0 0) :: _) (ro' := _) (by repeat (first | exact List.Sublist.refl _ | exact List.nil_sublist _ | apply List.Sublist.cons_cons | apply List.Sublist.cons)) (fun _ h => h)) List.mem_cons_self hb4 (by omega) (by omega) (by omega)) ?_
    intro en w' hP'
    exact oneTail hP' (fun r h => List.mem_cons_of_mem _ h) (by rw [hU1, hbody])
  · rw [decide_eq_false hd]
    rw [if_pos (by omega)] at hbody
    have hU : rdOne xs = (2, {}) := by rw [hU1, hbody]; rfl
    refine ⟨fun h => (by cases h), fun _ => ⟨fun _ => ?_, fun h => by cases h⟩⟩
    refine sSw2 H rfl (by kernel_rfl) (by rfl) (by first | rfl | (simp only [List.all_cons, List.all_nil, Value.cells]; simp [*])) ?_; clear H; intro w _ H
    exact ⟨_, (by first | exact Ld0 rfl H.b0 (by kernel_rfl) | exact Ld0 rfl H.b1 (by kernel_rfl) | exact Ld0 rfl H.b2 (by kernel_rfl) | exact Ld0 rfl H.b3 (by kernel_rfl) | exact Ld0 rfl H.b4 (by kernel_rfl) | exact Ld0 rfl H.b5 (by kernel_rfl) | exact Ld0 rfl H.b6 (by kernel_rfl) | exact Ld0 rfl H.b7 (by kernel_rfl) | exact Ld0 rfl H.b8 (by kernel_rfl) | exact Ld0 rfl H.b9 (by kernel_rfl)), OnePost.mk hU H (by repeat (first | exact List.Sublist.refl _ | exact List.nil_sublist _ | apply List.Sublist.cons_cons | apply List.Sublist.cons)) (fun r hr => by (try simp only [List.mem_cons] at hr ⊢); (repeat (first | (rcases hr with rfl | hr; (first | (left; rfl) | (right; left; rfl) | (right; right; left; rfl) | (right; right; right; left; rfl) | (right; right; right; right; left; rfl)))  | (simp [hr]; done) | assumption | exact hr.elim))) (fun G h => by repeat (first | exact DeepL.nil _ _ | exact DeepL.ones _ | refine DeepL.cons (Deep.emp _ _) ?_ | refine DeepL.cons (Deep.one _) ?_ | refine DeepL.cons (h (.deep [_] [_]) (by assumption)).head ?_ | refine DeepL.cons (h (.deep [_] [_]) (by first | assumption | exact List.mem_cons_self | (apply List.mem_cons_of_mem; first | assumption | exact List.mem_cons_self | (apply List.mem_cons_of_mem; first | assumption | exact List.mem_cons_self | (apply List.mem_cons_of_mem; first | assumption | exact List.mem_cons_self | (apply List.mem_cons_of_mem; first | assumption | exact List.mem_cons_self | (apply List.mem_cons_of_mem; first | assumption | exact List.mem_cons_self))))))).head ?_))⟩
end Go.Proofs.YtkdialecadjedaaGreat
