/- The package impl: cloning, headers, and the frame of its calls (no statement of the seat is proved here; conditions: none). -/
import Derived.Test.YtkdialecadjedaaGreatT5
import Derived.Test.YtkdialecadjedaaGreatTry
import Derived.Test.YtkdialecadjedaaGreatInv
import Derived.Test.YtkdialecadjedaaGreatSwI
namespace Go.Proofs.YtkdialecadjedaaGreat
set_option linter.unusedVariables false
set_option linter.unusedSimpArgs false
set_option linter.unusedSectionVars false
open Go

/-! ### Reading through -/
theorem Sat.ifc {F : Fr} {w : World} {ex : List Ex} {ro : List Ro} {t : TypeId} {d : Dat} {u : Value} (H : Sat F w ex ro) (h : Ro.deep [.ifc t d] [u] ∈ ro) : ∃ v, u = .iface t v ∧ Sat F w ex (.deep [d] [v] :: ro) := by
  have hd := H.deep1 h
  cases hd with
  | ifc _ _ v h1 => exact ⟨v, rfl, H.addRo (DeepL.cons h1 (DeepL.nil _ _))⟩
theorem Sat.ptr {F : Fr} {w : World} {ex : List Ex} {ro : List Ro} {ds : List Dat} {v : Value} (H : Sat F w ex ro) (h : Ro.deep [.ptr ds] [v] ∈ ro) :
    ∃ b vs, v = .pointer (some ⟨b, 0, none⟩) ∧ (∀ (i : Nat) (u : Value), vs[i]? = some u → w.cell? ⟨b, i, none⟩ = some u) ∧ (∃ c ty f, w.heap[b]? = some (.cells c ty f)) ∧ b ∉ foots ex ∧ Sat F w ex (.deep ds vs :: ro) := by
  have hd := H.deep1 h
  cases hd with
  | ptr b t fz _ vs hG hb hv hdd =>
    refine ⟨b, vs, rfl, fun i u hu => ?_, ⟨_, _, _, hb⟩, hG, H.addRo ⟨hv, hdd⟩⟩
    simp [World.cell?, hb, hu]
theorem Sat.ones {F : Fr} {w : World} {ex : List Ex} {ro : List Ro} {us vs : List Value} (H : Sat F w ex ro) (h : Ro.deep (us.map .one) vs ∈ ro) : vs = us := DeepL.of_ones (H.deep h)
theorem Sat.one1 {F : Fr} {w : World} {ex : List Ex} {ro : List Ro} {u v : Value} {ds : List Dat} {vs : List Value} (H : Sat F w ex ro) (h : Ro.deep (.one u :: ds) (v :: vs) ∈ ro) : v = u := by
  have hd := (H.deep h).head
  cases hd; rfl
theorem Sat.rowS {F : Fr} {w : World} {ex : List Ex} {ro : List Ro} {sz : Nat} {ds : List Dat} {v : Value} (H : Sat F w ex ro) (h : Ro.deep [.row sz ds] [v] ∈ ro) : ∃ a n c, v = .slice a n c ∧ ds.length = n * sz := by
  have hd := H.deep1 h
  have hl : ∀ a n c, v = .slice a n c → ds.length = n * sz := by rintro a n c rfl; exact hd.len.1
  cases hd with
  | emp => exact ⟨_, _, _, rfl, by simp⟩
  | row _ b o n c _ vs => exact ⟨_, _, _, rfl, hl _ _ _ rfl⟩
theorem Sat.uncons {F : Fr} {w : World} {ex : List Ex} {ro : List Ro} {d : Dat} {ds : List Dat} {vs : List Value} (H : Sat F w ex ro) (h : Ro.deep (d :: ds) vs ∈ ro) : ∃ v us, vs = v :: us ∧ Sat F w ex (.deep [d] [v] :: .deep ds us :: ro) := by
  have hd := H.deep h
  cases vs with
  | nil => have := hd.1; simp at this
  | cons v us => exact ⟨v, us, rfl, (H.addRo (r := .deep ds us) hd.tail).addRo (DeepL.cons hd.head (DeepL.nil _ _))⟩
/-- The cells of a row's element. -/
theorem run_loadC {P : Program} {a : Addr} {w : World} : ∀ (vs : List Value) (i : Nat) (acc : Array Value), (∀ (j : Nat) (u : Value), vs[j]? = some u → w.cell? (a.add (i + j)) = some u) →
    (loadCellsFrom a i vs.length acc).run P w = .ok (acc ++ vs.toArray) w
  | [], i, acc, _ => by simp [loadCellsFrom]
  | v :: vs, i, acc, h => by
    have hc := h 0 v rfl
    rw [Nat.add_zero] at hc
    simp only [List.length_cons, loadCellsFrom, Sem.run_bind, run_load, hc, Result.andThen_ok]
    rw [run_loadC vs (i + 1) _ (fun j u hu => by rw [Nat.add_assoc, Nat.add_comm 1 j]; exact h (j + 1) u (by simpa using hu))]
    congr 1
    simp
theorem LdC {P : Program} {t : TypeId} {w : World} {a : Addr} (vs : List Value) (ht : aggT P t vs.length = true) (hc : ∀ (j : Nat) (u : Value), vs[j]? = some u → w.cell? (a.add j) = some u) : LdV P t a (.agg vs.toArray) w := by
  simp only [LdV, loadVar, Sem.run_bind, run_isAgg_agg ht, Result.andThen_ok, if_true, run_size_agg ht, loadCells]
  rw [run_loadC vs 0 #[] (fun j u hu => by rw [Nat.zero_add]; exact hc j u hu)]
  simp
theorem sNewB {F : Fr} {w : World} {ex : List Ex} {ro : List Ro} (H : Sat F w ex ro) {cs : Array Value} {t : TypeId} {K : Addr → World → Prop} (h : ∀ b w', w.heap.size ≤ b → w.grownBy w' none → Sat F w' (.blk b t cs.toList :: ex) ro → K ⟨b, 0, none⟩ w') : gNew cs t K w := by
  refine gNew_i fun b w' hb hs hg hB => h b w' (by omega) hg ?_
  refine Sat.step (used := []) (used' := [.blk b t cs.toList]) (rest := ex) H ((Gr.of hg).mono (fun k _ h => by cases h)) (by simp [foots, Ex.foot]) (fun q hq => ?_) (fun e he _ => ?_)
  · simp only [foots, Ex.foot, List.flatMap_cons, List.flatMap_nil, List.append_nil, List.mem_singleton] at hq
    subst hq
    exact ⟨by omega, .inr (by omega)⟩
  · simp only [List.mem_singleton] at he
    subst he
    exact hB
/-- A chunk, read through its pointer. -/
theorem Sat.chRun {F : Fr} {w : World} {ex : List Ex} {ro : List Ro} {us : List Value} {v : Value} (H : Sat F w ex ro) (h : Ro.deep [.ptr (us.map .one)] [v] ∈ ro) :
    ∃ b, v = .pointer (some ⟨b, 0, none⟩) ∧ (∀ (i : Nat) (u : Value), us[i]? = some u → w.cell? ⟨b, i, none⟩ = some u) ∧ (∃ c ty f, w.heap[b]? = some (.cells c ty f)) ∧ b ∉ foots ex := by
  obtain ⟨b, vs, h1, h2, h3, h4, H1⟩ := H.ptr h
  obtain rfl := H1.ones List.mem_cons_self
  exact ⟨b, h1, h2, h3, h4⟩
theorem Sat.chVec {F : Fr} {w : World} {ex : List Ex} {ro : List Ro} {a0 a1 a2 : Value} {l : List Dat} {v : Value} (H : Sat F w ex ro) (h : Ro.deep [.ptr [.one a0, .one a1, .one a2, .row 1 l]] [v] ∈ ro) :
    ∃ b sa sn sc, v = .pointer (some ⟨b, 0, none⟩) ∧ (∀ (i : Nat) (u : Value), [a0, a1, a2, .slice sa sn sc][i]? = some u → w.cell? ⟨b, i, none⟩ = some u) ∧ (∃ c ty f, w.heap[b]? = some (.cells c ty f)) ∧ b ∉ foots ex ∧ l.length = sn ∧ Sat F w ex (.deep [.row 1 l] [.slice sa sn sc] :: ro) := by
  obtain ⟨b, vs, h1, h2, h3, h4, H1⟩ := H.ptr h
  obtain ⟨x0, us0, rfl, H2⟩ := H1.uncons List.mem_cons_self
  obtain ⟨x1, us1, rfl, H3⟩ := H2.uncons (List.mem_cons_of_mem _ List.mem_cons_self)
  obtain ⟨x2, us2, rfl, H4⟩ := H3.uncons (List.mem_cons_of_mem _ List.mem_cons_self)
  obtain ⟨x3, us3, rfl, H5⟩ := H4.uncons (List.mem_cons_of_mem _ List.mem_cons_self)
  have hn : us3 = [] := by
    have := (H5.deep (List.mem_cons_of_mem _ List.mem_cons_self)).1
    exact List.eq_nil_of_length_eq_zero (by simpa using this)
  subst hn
  obtain rfl := H2.one1 List.mem_cons_self
  obtain rfl := H3.one1 List.mem_cons_self
  obtain rfl := H4.one1 List.mem_cons_self
  obtain ⟨sa, sn, sc, rfl, hl⟩ := H5.rowS List.mem_cons_self
  rw [Nat.mul_one] at hl
  refine ⟨b, sa, sn, sc, h1, h2, h3, h4, hl, H5.sub (List.Sublist.refl _) (fun r hr => ?_)⟩
  simp only [List.mem_cons] at hr ⊢
  rcases hr with rfl | hr
  · exact .inl rfl
  · simp [hr]
/-- slices.Clone, of scalars. -/
theorem clone_j {F : Fr} {w : World} {ex : List Ex} {ro : List Ro} {us : List Value} {a : Option Addr} {n c : Nat} (H : Sat F w ex ro) (hx : Ro.deep [.row 1 (us.map .one)] [.slice a n c] ∈ ro) (hn : n ≤ 10000000) (h1 : us.all Value.oneCell' = true) {t e bytes : Nat} (hap : apT pg t e 1 bytes = true) (hb : bytes ≤ 1000)
    {R : Ending → World → Prop} (hR : ∀ a' c' w', w.grownBy w' none → Sat F w' ex (.deep [.row 1 (us.map .one)] [.slice a' n c'] :: ro) → R (.returned (.slice a' n c')) w') :
    (a.isNone = true → R (.returned (.slice none 0 0)) w) ∧ (a.isNone = false → gNew #[] e (fun p_1 w_2 => ∃ (x3 : Option Addr) (x3l x3c : Nat), ∃ w_4, (Builtin.append_ #[t, t] t #[.slice (some p_1) 0 0, .slice a n c]).run pg w_2 = .ok (.slice x3 x3l x3c) w_4 ∧ R (.returned (.slice x3 x3l x3c)) w_4) w) := by
  have hl := (H.deep1 hx).len
  refine ⟨fun hc => ?_, fun hc => ?_⟩
  · have ha : a = none := by cases a with
      | none => rfl
      | some p => cases hc
    have h0 := hl.2.2.2 ha
    have hn0 : n = 0 := by omega
    have hu : us = [] := by have := hl.1; simpa [hn0] using this
    subst hn0; subst hu
    exact hR none 0 w (grew_refl _ _) (H.addRo (DeepL.cons (.emp _ _) (DeepL.nil _ _)))
  · refine sNewB H ?_; clear H; intro b1 w1 hsz g1 H
    have H1 := H.toOwn 1 0 [] (by rfl) (by decide) (fun G h => DeepL.nil _ _)
    obtain ⟨p, rfl⟩ : ∃ p, a = some p := by cases a with
      | none => cases hc
      | some p => exact ⟨p, rfl⟩
    have hlu : us.length = n := by have := hl.1; simpa using this
    have hm : n + 0 ≤ maxLen := by unfold maxLen; omega
    have hb2 : (0 + n) * bytes ≤ 140737488355328 := Nat.le_trans (Nat.mul_le_mul (show 0 + n ≤ 10000000 by omega) hb) (by decide)
    refine sApp0 H1 hap us (us.map .one) (by rw [hlu, Nat.mul_one]) ?_ (fun G h => DeepL.ones us) (fun u hu => List.all_eq_true.1 h1 u hu) (by unfold maxLen; omega) hb2 ?_
    · intro j u hu
      have hj := (List.getElem?_eq_some_iff.1 hu).1
      obtain ⟨bb, oo, ha, hcell⟩ := H1.elt hx (by omega)
      cases ha
      rw [add_flat]
      exact hcell j u (by rw [List.getElem?_map, hu]; rfl)
    · clear H H1; intro x3 x3l x3c x3r w ex3 g H
      rw [Nat.zero_add] at ex3
      subst ex3
      exact hR x3 x3c w (grew_step g (fun j e => by injection e with e; subst e; exact .inl hsz) g1) H.freeze
theorem all_u8 (xs : List Int) : (xs.map (Value.int .u8)).all Value.oneCell' = true := by rw [List.all_eq_true]; intro u hu; obtain ⟨x, _, rfl⟩ := List.mem_map.1 hu; rfl
theorem all_u16 (xs : List Int) : (xs.map (Value.int .u16)).all Value.oneCell' = true := by rw [List.all_eq_true]; intro u hu; obtain ⟨x, _, rfl⟩ := List.mem_map.1 hu; rfl
theorem c19 {F : Fr} {w : World} {ex : List Ex} {ro : List Ro} {xs : List Int} {a : Option Addr} {n c : Nat} (H : Sat F w ex ro) (hx : Ro.B xs a n c ∈ ro) (hn : n ≤ 10000000) : Calls pg 19 #[.slice a n c] w fun en w' =>
    ∃ a' c', en = .returned (.slice a' n c') ∧ w.grownBy w' none ∧ Sat F w' ex (Ro.B xs a' n c' :: ro) := by
  apply of19
  unfold Ro.B at hx ⊢
  rw [ob_ones] at hx ⊢
  exact clone_j (t := 22) (e := 5) (bytes := 1) (R := fun en w' => ∃ a' c', en = .returned (.slice a' n c') ∧ w.grownBy w' none ∧ Sat F w' ex (.deep [.row 1 ((xs.map (Value.int .u8)).map .one)] [.slice a' n c'] :: ro)) H hx hn (all_u8 xs) (by kernel_rfl) (by decide) (fun a' c' w' g H => ⟨a', c', rfl, g, H⟩)
theorem oi_ones (k : IntKind) (l : List Int) : oi k l = (l.map (Value.int k)).map .one := by simp [oi]
theorem c42 {F : Fr} {w : World} {ex : List Ex} {ro : List Ro} {l : List Int} {a : Option Addr} {n c : Nat} (H : Sat F w ex ro) (hx : Ro.deep [.row 1 (oi .u16 l)] [.slice a n c] ∈ ro) (hn : n ≤ 10000000) : Calls pg 42 #[.slice a n c] w fun en w' =>
    ∃ a' c', en = .returned (.slice a' n c') ∧ w.grownBy w' none ∧ Sat F w' ex (.deep [.row 1 (oi .u16 l)] [.slice a' n c'] :: ro) := by
  apply of42
  rw [oi_ones] at hx ⊢
  exact clone_j (t := 165) (e := 32) (bytes := 2) (R := fun en w' => ∃ a' c', en = .returned (.slice a' n c') ∧ w.grownBy w' none ∧ Sat F w' ex (.deep [.row 1 ((l.map (Value.int .u16)).map .one)] [.slice a' n c'] :: ro)) H hx hn (all_u16 l) (by kernel_rfl) (by decide) (fun a' c' w' g H => ⟨a', c', rfl, g, H⟩)
/-- Headers. -/
theorem c41 {w : World} {p : Bool} {c t n : Int} : Calls pg 41 #[.agg #[.bool p, .int .u8 c, .int .u8 t, .int .u16 n]] w fun en w' => en = .returned (.agg #[.bool p, .int .u8 c, .int .u8 t, .int .u16 n]) ∧ w.grownBy w' none := by
  apply of41
  have H : Sat ⟨w, fun _ => False⟩ w [] [] := Sat.start (by simp [foots]) (by simp [foots]) (by simp) (by simp)
  refine sNew H ?_; clear H; intro b1 w _ H
  refine sNew H ?_; clear H; intro b3 w _ H
  refine ⟨_, (by first | exact Ce (by first | exact add_flat _ _ _ | exact add_flat2 _ _ _ _ | rfl) H.b0 rfl | exact Ce (by first | exact add_flat _ _ _ | exact add_flat2 _ _ _ _ | rfl) H.b1 rfl | exact Ce (by first | exact add_flat _ _ _ | exact add_flat2 _ _ _ _ | rfl) H.b2 rfl | exact Ce (by first | exact add_flat _ _ _ | exact add_flat2 _ _ _ _ | rfl) H.b3 rfl | exact Ce (by first | exact add_flat _ _ _ | exact add_flat2 _ _ _ _ | rfl) H.b4 rfl | exact Ce (by first | exact add_flat _ _ _ | exact add_flat2 _ _ _ _ | rfl) H.b5 rfl | exact Ce (by first | exact add_flat _ _ _ | exact add_flat2 _ _ _ _ | rfl) H.b6 rfl | exact Ce (by first | exact add_flat _ _ _ | exact add_flat2 _ _ _ _ | rfl) H.b7 rfl | exact Ce (by first | exact add_flat _ _ _ | exact add_flat2 _ _ _ _ | rfl) H.b8 rfl | exact Ce (by first | exact add_flat _ _ _ | exact add_flat2 _ _ _ _ | rfl) H.b9 rfl), ?_⟩
  refine ⟨_, (by first | exact Ce (by first | exact add_flat _ _ _ | exact add_flat2 _ _ _ _ | rfl) H.b0 rfl | exact Ce (by first | exact add_flat _ _ _ | exact add_flat2 _ _ _ _ | rfl) H.b1 rfl | exact Ce (by first | exact add_flat _ _ _ | exact add_flat2 _ _ _ _ | rfl) H.b2 rfl | exact Ce (by first | exact add_flat _ _ _ | exact add_flat2 _ _ _ _ | rfl) H.b3 rfl | exact Ce (by first | exact add_flat _ _ _ | exact add_flat2 _ _ _ _ | rfl) H.b4 rfl | exact Ce (by first | exact add_flat _ _ _ | exact add_flat2 _ _ _ _ | rfl) H.b5 rfl | exact Ce (by first | exact add_flat _ _ _ | exact add_flat2 _ _ _ _ | rfl) H.b6 rfl | exact Ce (by first | exact add_flat _ _ _ | exact add_flat2 _ _ _ _ | rfl) H.b7 rfl | exact Ce (by first | exact add_flat _ _ _ | exact add_flat2 _ _ _ _ | rfl) H.b8 rfl | exact Ce (by first | exact add_flat _ _ _ | exact add_flat2 _ _ _ _ | rfl) H.b9 rfl), ?_⟩
  refine ⟨_, (by first | exact Ce (by first | exact add_flat _ _ _ | exact add_flat2 _ _ _ _ | rfl) H.b0 rfl | exact Ce (by first | exact add_flat _ _ _ | exact add_flat2 _ _ _ _ | rfl) H.b1 rfl | exact Ce (by first | exact add_flat _ _ _ | exact add_flat2 _ _ _ _ | rfl) H.b2 rfl | exact Ce (by first | exact add_flat _ _ _ | exact add_flat2 _ _ _ _ | rfl) H.b3 rfl | exact Ce (by first | exact add_flat _ _ _ | exact add_flat2 _ _ _ _ | rfl) H.b4 rfl | exact Ce (by first | exact add_flat _ _ _ | exact add_flat2 _ _ _ _ | rfl) H.b5 rfl | exact Ce (by first | exact add_flat _ _ _ | exact add_flat2 _ _ _ _ | rfl) H.b6 rfl | exact Ce (by first | exact add_flat _ _ _ | exact add_flat2 _ _ _ _ | rfl) H.b7 rfl | exact Ce (by first | exact add_flat _ _ _ | exact add_flat2 _ _ _ _ | rfl) H.b8 rfl | exact Ce (by first | exact add_flat _ _ _ | exact add_flat2 _ _ _ _ | rfl) H.b9 rfl), ?_⟩
  refine ⟨_, (by first | exact Ce (by first | exact add_flat _ _ _ | exact add_flat2 _ _ _ _ | rfl) H.b0 rfl | exact Ce (by first | exact add_flat _ _ _ | exact add_flat2 _ _ _ _ | rfl) H.b1 rfl | exact Ce (by first | exact add_flat _ _ _ | exact add_flat2 _ _ _ _ | rfl) H.b2 rfl | exact Ce (by first | exact add_flat _ _ _ | exact add_flat2 _ _ _ _ | rfl) H.b3 rfl | exact Ce (by first | exact add_flat _ _ _ | exact add_flat2 _ _ _ _ | rfl) H.b4 rfl | exact Ce (by first | exact add_flat _ _ _ | exact add_flat2 _ _ _ _ | rfl) H.b5 rfl | exact Ce (by first | exact add_flat _ _ _ | exact add_flat2 _ _ _ _ | rfl) H.b6 rfl | exact Ce (by first | exact add_flat _ _ _ | exact add_flat2 _ _ _ _ | rfl) H.b7 rfl | exact Ce (by first | exact add_flat _ _ _ | exact add_flat2 _ _ _ _ | rfl) H.b8 rfl | exact Ce (by first | exact add_flat _ _ _ | exact add_flat2 _ _ _ _ | rfl) H.b9 rfl), ?_⟩
  refine sSw0 H rfl (by kernel_rfl) (by rfl) (by first | rfl | (simp only [List.all_cons, List.all_nil, Value.cells]; simp [*])) ?_; clear H; intro w _ H
  refine ⟨_, _, _, _, (by first | exact Ld0 rfl H.b0 (by kernel_rfl) | exact Ld0 rfl H.b1 (by kernel_rfl) | exact Ld0 rfl H.b2 (by kernel_rfl) | exact Ld0 rfl H.b3 (by kernel_rfl) | exact Ld0 rfl H.b4 (by kernel_rfl) | exact Ld0 rfl H.b5 (by kernel_rfl) | exact Ld0 rfl H.b6 (by kernel_rfl) | exact Ld0 rfl H.b7 (by kernel_rfl) | exact Ld0 rfl H.b8 (by kernel_rfl) | exact Ld0 rfl H.b9 (by kernel_rfl)), ?_⟩
  exact ⟨rfl, Gr.none H.gr (fun k _ h => h)⟩
theorem c44 {w : World} {p : Bool} {c t n : Int} : Calls pg 44 #[.agg #[.bool p, .int .u8 c, .int .u8 t, .int .u16 n]] w fun en w' => en = .returned (.agg #[.bool p, .int .u8 c, .int .u8 t, .int .u16 n]) ∧ w.grownBy w' none := by
  apply of44
  have H : Sat ⟨w, fun _ => False⟩ w [] [] := Sat.start (by simp [foots]) (by simp [foots]) (by simp) (by simp)
  refine sNew H ?_; clear H; intro b1 w _ H
  refine sNew H ?_; clear H; intro b3 w _ H
  refine ⟨_, (by first | exact Ce (by first | exact add_flat _ _ _ | exact add_flat2 _ _ _ _ | rfl) H.b0 rfl | exact Ce (by first | exact add_flat _ _ _ | exact add_flat2 _ _ _ _ | rfl) H.b1 rfl | exact Ce (by first | exact add_flat _ _ _ | exact add_flat2 _ _ _ _ | rfl) H.b2 rfl | exact Ce (by first | exact add_flat _ _ _ | exact add_flat2 _ _ _ _ | rfl) H.b3 rfl | exact Ce (by first | exact add_flat _ _ _ | exact add_flat2 _ _ _ _ | rfl) H.b4 rfl | exact Ce (by first | exact add_flat _ _ _ | exact add_flat2 _ _ _ _ | rfl) H.b5 rfl | exact Ce (by first | exact add_flat _ _ _ | exact add_flat2 _ _ _ _ | rfl) H.b6 rfl | exact Ce (by first | exact add_flat _ _ _ | exact add_flat2 _ _ _ _ | rfl) H.b7 rfl | exact Ce (by first | exact add_flat _ _ _ | exact add_flat2 _ _ _ _ | rfl) H.b8 rfl | exact Ce (by first | exact add_flat _ _ _ | exact add_flat2 _ _ _ _ | rfl) H.b9 rfl), ?_⟩
  refine ⟨_, (by first | exact Ce (by first | exact add_flat _ _ _ | exact add_flat2 _ _ _ _ | rfl) H.b0 rfl | exact Ce (by first | exact add_flat _ _ _ | exact add_flat2 _ _ _ _ | rfl) H.b1 rfl | exact Ce (by first | exact add_flat _ _ _ | exact add_flat2 _ _ _ _ | rfl) H.b2 rfl | exact Ce (by first | exact add_flat _ _ _ | exact add_flat2 _ _ _ _ | rfl) H.b3 rfl | exact Ce (by first | exact add_flat _ _ _ | exact add_flat2 _ _ _ _ | rfl) H.b4 rfl | exact Ce (by first | exact add_flat _ _ _ | exact add_flat2 _ _ _ _ | rfl) H.b5 rfl | exact Ce (by first | exact add_flat _ _ _ | exact add_flat2 _ _ _ _ | rfl) H.b6 rfl | exact Ce (by first | exact add_flat _ _ _ | exact add_flat2 _ _ _ _ | rfl) H.b7 rfl | exact Ce (by first | exact add_flat _ _ _ | exact add_flat2 _ _ _ _ | rfl) H.b8 rfl | exact Ce (by first | exact add_flat _ _ _ | exact add_flat2 _ _ _ _ | rfl) H.b9 rfl), ?_⟩
  refine ⟨_, (by first | exact Ce (by first | exact add_flat _ _ _ | exact add_flat2 _ _ _ _ | rfl) H.b0 rfl | exact Ce (by first | exact add_flat _ _ _ | exact add_flat2 _ _ _ _ | rfl) H.b1 rfl | exact Ce (by first | exact add_flat _ _ _ | exact add_flat2 _ _ _ _ | rfl) H.b2 rfl | exact Ce (by first | exact add_flat _ _ _ | exact add_flat2 _ _ _ _ | rfl) H.b3 rfl | exact Ce (by first | exact add_flat _ _ _ | exact add_flat2 _ _ _ _ | rfl) H.b4 rfl | exact Ce (by first | exact add_flat _ _ _ | exact add_flat2 _ _ _ _ | rfl) H.b5 rfl | exact Ce (by first | exact add_flat _ _ _ | exact add_flat2 _ _ _ _ | rfl) H.b6 rfl | exact Ce (by first | exact add_flat _ _ _ | exact add_flat2 _ _ _ _ | rfl) H.b7 rfl | exact Ce (by first | exact add_flat _ _ _ | exact add_flat2 _ _ _ _ | rfl) H.b8 rfl | exact Ce (by first | exact add_flat _ _ _ | exact add_flat2 _ _ _ _ | rfl) H.b9 rfl), ?_⟩
  refine ⟨_, (by first | exact Ce (by first | exact add_flat _ _ _ | exact add_flat2 _ _ _ _ | rfl) H.b0 rfl | exact Ce (by first | exact add_flat _ _ _ | exact add_flat2 _ _ _ _ | rfl) H.b1 rfl | exact Ce (by first | exact add_flat _ _ _ | exact add_flat2 _ _ _ _ | rfl) H.b2 rfl | exact Ce (by first | exact add_flat _ _ _ | exact add_flat2 _ _ _ _ | rfl) H.b3 rfl | exact Ce (by first | exact add_flat _ _ _ | exact add_flat2 _ _ _ _ | rfl) H.b4 rfl | exact Ce (by first | exact add_flat _ _ _ | exact add_flat2 _ _ _ _ | rfl) H.b5 rfl | exact Ce (by first | exact add_flat _ _ _ | exact add_flat2 _ _ _ _ | rfl) H.b6 rfl | exact Ce (by first | exact add_flat _ _ _ | exact add_flat2 _ _ _ _ | rfl) H.b7 rfl | exact Ce (by first | exact add_flat _ _ _ | exact add_flat2 _ _ _ _ | rfl) H.b8 rfl | exact Ce (by first | exact add_flat _ _ _ | exact add_flat2 _ _ _ _ | rfl) H.b9 rfl), ?_⟩
  refine sSw0 H rfl (by kernel_rfl) (by rfl) (by first | rfl | (simp only [List.all_cons, List.all_nil, Value.cells]; simp [*])) ?_; clear H; intro w _ H
  refine ⟨_, _, _, _, (by first | exact Ld0 rfl H.b0 (by kernel_rfl) | exact Ld0 rfl H.b1 (by kernel_rfl) | exact Ld0 rfl H.b2 (by kernel_rfl) | exact Ld0 rfl H.b3 (by kernel_rfl) | exact Ld0 rfl H.b4 (by kernel_rfl) | exact Ld0 rfl H.b5 (by kernel_rfl) | exact Ld0 rfl H.b6 (by kernel_rfl) | exact Ld0 rfl H.b7 (by kernel_rfl) | exact Ld0 rfl H.b8 (by kernel_rfl) | exact Ld0 rfl H.b9 (by kernel_rfl)), ?_⟩
  exact ⟨rfl, Gr.none H.gr (fun k _ h => h)⟩
/-- impl.try, around a closure that answers. -/
theorem sTry {F : Fr} {w : World} {ex : List Ex} {ro : List Ro} (H : Sat F w ex ro) {fid : FuncId} {caps : Array Value} {R : Ending → World → Prop} (hb : hasBody pg fid = true)
    (h : ∀ tb w1, Sat F w1 (.blk tb 4 [.bool false] :: ex) ro → Calls pg fid caps w1 fun en w' => ∃ (b : Bool) (ex' : List Ex) (ro' : List Ro), en = .returned (.bool b) ∧ Sat F w' (.blk tb 4 [.bool false] :: ex') ro' ∧ ∀ w'', Sat F w'' ex' ro' → R (.returned (.bool b)) w'') :
    Calls pg 16 #[.func (.func fid) #[] caps] w R := by
  refine ofTry hb ?_
  have hS : gNew #[.bool false] 4 (fun p w' => p = ⟨w.heap.size, 0, none⟩ ∧ w' = w.alloc (.cells #[.bool false] 4)) w := ⟨rfl, rfl⟩
  have H1 : Sat F (w.alloc (.cells #[.bool false] 4)) (.blk w.heap.size 4 [.bool false] :: ex) ro := by
    refine Sat.step (used := []) (used' := [.blk w.heap.size 4 [.bool false]]) (rest := ex) H ((Gr.of (World.grownBy_alloc _ _ none)).mono (fun k _ h => by cases h)) (by simp [foots, Ex.foot]) (fun q hq => ?_) (fun e he _ => ?_)
    · simp only [foots, Ex.foot, List.flatMap_cons, List.flatMap_nil, List.append_nil, List.mem_singleton] at hq
      subst hq
      exact ⟨by simp, .inr (by omega)⟩
    · simp only [List.mem_singleton] at he
      subst he
      exact (⟨by simpa using heap_alloc_new w (.cells #[.bool false] 4)⟩ : Blk (w.alloc (.cells #[.bool false] 4)) w.heap.size 4 [.bool false])
  refine (h _ _ H1).mono ?_
  rintro en w2 ⟨b, ex', ro', rfl, H2, hR⟩
  refine ⟨b, rfl, ⟨_, H2.b0.cell (i := 0) rfl⟩, H2.b0.thaw 0, hR _ ?_⟩
  exact (H2.turn (setCell_grew _ _ _ _) (setCell_blk H2.b0)).sub (List.sublist_cons_self _ _) (fun _ h => h)
end Go.Proofs.YtkdialecadjedaaGreat
