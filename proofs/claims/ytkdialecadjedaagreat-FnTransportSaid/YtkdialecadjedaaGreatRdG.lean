/- spec.readFeedback: what it computes (no statement of the seat is proved here; conditions: its slice reads bytes). -/
import Derived.Test.YtkdialecadjedaaGreatRdF
namespace Go.Proofs.YtkdialecadjedaaGreat
set_option linter.unusedVariables false
set_option linter.unusedSimpArgs false
set_option linter.unusedSectionVars false
open Go

theorem pairsL_snoc : ∀ (i : Nat) (xs : List Int), pairsL (i + 1) xs = pairsL i xs ++ [(n16 (xs.drop (4 * i)), n16 ((xs.drop (4 * i)).drop 2))]
  | 0, xs => by simp [pairsL]
  | i + 1, xs => by
    rw [pairsL, pairsL_snoc i, pairsL]
    simp only [List.cons_append, List.drop_drop]
    rw [show 4 + 4 * i = 4 * (i + 1) by omega]
def sli1 (v : Int) : Sli := (v / 524288, v / 64 % 8192, v % 64)
theorem sliceL_snoc : ∀ (i : Nat) (xs : List Int), sliceL (i + 1) xs = sliceL i xs ++ [sli1 (n32 (xs.drop (4 * i)))]
  | 0, xs => by simp [sliceL, sli1]
  | i + 1, xs => by
    rw [sliceL, sliceL_snoc i, sliceL]
    simp only [List.cons_append, List.drop_drop]
    rw [show 4 + 4 * i = 4 * (i + 1) by omega]
theorem pairsL_length : ∀ (i : Nat) (xs : List Int), (pairsL i xs).length = i
  | 0, _ => rfl
  | i + 1, xs => by simp [pairsL, pairsL_length i]
theorem sliceL_length : ∀ (i : Nat) (xs : List Int), (sliceL i xs).length = i
  | 0, _ => rfl
  | i + 1, xs => by simp [sliceL, sliceL_length i]
theorem sli_bits {v : Int} (h : 0 ≤ v ∧ v < 4294967296) : IntKind.u16.wrap (ishr .u32 v (19 : Int)) = v / 524288 ∧ IntKind.u16.wrap (iand .u32 (ishr .u32 v (6 : Int)) (8191 : Int)) = v / 64 % 8192 ∧ IntKind.u8.wrap (iand .u32 v (63 : Int)) = v % 64 := by
  have e1 : ishr .u32 v (19 : Int) = v / 524288 := ishr_of 19 (by rfl) (by decide)
  have e2 : ishr .u32 v (6 : Int) = v / 64 := ishr_of 6 (by rfl) (by decide)
  have e3 : iand .u32 (v / 64) (8191 : Int) = v / 64 % 8192 := iand_low (k := .u32) (by rfl) 13 (by omega) (by simp only [IntKind.bits]; omega) (by omega) (by decide)
  have e4 : iand .u32 v (63 : Int) = v % 64 := iand_low (k := .u32) (by rfl) 6 h.1 (by simp only [IntKind.bits]; omega) (by omega) (by decide)
  rw [e1, e2, e3, e4, wu16, wu16, wu8]
  omega
/-- A fewer facts are kept. -/
theorem RdPost.weak {F : Fr} {p : Nat} {ex : List Ex} {ro : List Ro} {r : Ro} {q : Option Pk} {en : Ending} {w : World} (h : RdPost F p ex (r :: ro) q en w) : RdPost F p ex ro q en w := by
  unfold RdPost at h ⊢
  cases q with
  | none => obtain ⟨rfl, cells, H⟩ := h; exact ⟨rfl, _, H.sub (List.Sublist.refl _) (fun _ h => List.mem_cons_of_mem _ h)⟩
  | some pk =>
    obtain ⟨rfl, cells, H⟩ := h
    refine ⟨rfl, cells, H.sub (List.Sublist.refl _) (fun x hx => ?_)⟩
    rcases List.mem_cons.1 hx with rfl | hx
    · exact List.mem_cons_self
    · exact List.mem_cons_of_mem _ (List.mem_cons_of_mem _ hx)
theorem RdPost.ret {F : Fr} {p : Nat} {ex : List Ex} {ro : List Ro} {q : Option Pk} {en : Ending} {w : World} (h : RdPost F p ex ro q en w) : ∃ b : Bool, en = .returned (.bool b) ∧ RdPost F p ex ro q (.returned (.bool b)) w := by
  have h' := h
  unfold RdPost at h
  cases q with
  | none => obtain ⟨rfl, _⟩ := h; exact ⟨false, rfl, h'⟩
  | some pk => obtain ⟨rfl, _⟩ := h; exact ⟨true, rfl, h'⟩
set_option maxHeartbeats 2000000 in
theorem c15 {F : Fr} {w : World} {ex : List Ex} {ro : List Ro} {xs : List Int} {a : Option Addr} {n c : Nat} {p : Nat} {k : Int} {hp : Bool} {hc ht hl : Int} (H : Sat F w (.blk p 38 (pk0 k (n32 xs) (n32 (xs.drop 4)) false 0 0 0) :: ex) ro) (hx : Ro.B xs a n c ∈ ro) (hb : By xs)
    (hn : n ≤ 1000000) (hn8 : 8 ≤ n) (hk : k = 6 ∨ k = 7 ∨ k = 8 ∨ k = 9 ∨ k = 10 ∨ k = 11 ∨ k = 12 ∨ k = 13) :
    Calls pg 15 #[.pointer (some ⟨p, 0, none⟩), .slice a n c, .agg #[.bool hp, .int .u8 hc, .int .u8 ht, .int .u16 hl]] w (RdPost F p ex ro (rdFb k hp hc ht hl xs)) := by
  apply of15
  have hlen := H.lenB hx
  have hdl : (xs.drop 8).length = n - 8 := by rw [List.length_drop, hlen]
  generalize hsd : n32 xs = s at H
  generalize hmd : n32 (xs.drop 4) = m at H
  refine sNew H ?_; clear H; intro b1 w _ H
  refine ⟨by omega, by omega, ?_⟩
  refine ⟨_, rfl, ?_⟩
  refine ⟨_, (by first | exact Ce (by first | exact add_flat _ _ _ | exact add_flat2 _ _ _ _ | rfl) H.b0 rfl | exact Ce (by first | exact add_flat _ _ _ | exact add_flat2 _ _ _ _ | rfl) H.b1 rfl | exact Ce (by first | exact add_flat _ _ _ | exact add_flat2 _ _ _ _ | rfl) H.b2 rfl | exact Ce (by first | exact add_flat _ _ _ | exact add_flat2 _ _ _ _ | rfl) H.b3 rfl | exact Ce (by first | exact add_flat _ _ _ | exact add_flat2 _ _ _ _ | rfl) H.b4 rfl | exact Ce (by first | exact add_flat _ _ _ | exact add_flat2 _ _ _ _ | rfl) H.b5 rfl | exact Ce (by first | exact add_flat _ _ _ | exact add_flat2 _ _ _ _ | rfl) H.b6 rfl | exact Ce (by first | exact add_flat _ _ _ | exact add_flat2 _ _ _ _ | rfl) H.b7 rfl | exact Ce (by first | exact add_flat _ _ _ | exact add_flat2 _ _ _ _ | rfl) H.b8 rfl | exact Ce (by first | exact add_flat _ _ _ | exact add_flat2 _ _ _ _ | rfl) H.b9 rfl), ?_⟩   -- w_2.cell? (p_3.add 0) = some (.int .i64 x4)
  have hbody : ∀ q : Bool, (k = 7 ∨ k = 9) → q = (((n - 8 : Nat) : Int) == (0 : Int)) → RdPost F p ex ro (rdFb k hp hc ht hl xs) (.returned (.bool q)) w := by
    intro q hq e
    subst e
    have hU : rdFb k hp hc ht hl xs = if (xs.drop 8).length = 0 then some { kind := k, sender := s, media := m } else none := by
      unfold rdFb; rw [hsd, hmd]; simp only; rw [if_pos hq]
    by_cases h0 : n - 8 = 0
    · rw [show ((((n - 8 : Nat) : Int)) == (0 : Int)) = true by rw [h0]; rfl]
      rw [if_pos (by omega)] at hU
      exact RdPost.yes _ hU (H.sub (ex' := .blk p 38 (pk0 k s m false 0 0 0) :: ex) (ro' := ro) (by repeat (first | exact List.Sublist.refl _ | exact List.nil_sublist _ | apply List.Sublist.cons_cons | apply List.Sublist.cons)) (fun r hr => by (try simp only [List.mem_cons] at hr ⊢); (repeat (first | (rcases hr with rfl | hr; (first | (left; rfl) | (right; left; rfl) | (right; right; left; rfl) | (right; right; right; left; rfl) | (right; right; right; right; left; rfl)))  | (simp [hr]; done) | assumption | exact hr.elim)))) (fun _ h => h) (fun G h => by repeat (first | exact DeepL.nil _ _ | exact DeepL.ones _ | refine DeepL.cons (Deep.emp _ _) ?_ | refine DeepL.cons (Deep.one _) ?_ | refine DeepL.cons (h (.deep [_] [_]) (by assumption)).head ?_ | refine DeepL.cons (h (.deep [_] [_]) (by first | assumption | exact List.mem_cons_self | (apply List.mem_cons_of_mem; first | assumption | exact List.mem_cons_self | (apply List.mem_cons_of_mem; first | assumption | exact List.mem_cons_self | (apply List.mem_cons_of_mem; first | assumption | exact List.mem_cons_self | (apply List.mem_cons_of_mem; first | assumption | exact List.mem_cons_self | (apply List.mem_cons_of_mem; first | assumption | exact List.mem_cons_self))))))).head ?_))
    · rw [show ((((n - 8 : Nat) : Int)) == (0 : Int)) = false by rw [beq_eq_false_iff_ne]; omega]
      exact RdPost.no (by rw [hU, if_neg (by omega)]) (H.sub (by repeat (first | exact List.Sublist.refl _ | exact List.nil_sublist _ | apply List.Sublist.cons_cons | apply List.Sublist.cons)) (fun r hr => by (try simp only [List.mem_cons] at hr ⊢); (repeat (first | (rcases hr with rfl | hr; (first | (left; rfl) | (right; left; rfl) | (right; right; left; rfl) | (right; right; right; left; rfl) | (right; right; right; right; left; rfl)))  | (simp [hr]; done) | assumption | exact hr.elim))))
  refine ⟨fun h1 => ?_, fun h1 => ?_⟩   -- (x4 == (7 : Int))
  · exact ⟨fun _ => hbody _ (.inl (by simpa using h1)) rfl, fun h2 => absurd h1 (by rw [h2]; exact Bool.false_ne_true)⟩
  have h7 : ¬ k = 7 := by simpa using h1
  refine ⟨fun h1 => ?_, fun h1 => ?_⟩   -- (x4 == (9 : Int))
  · exact hbody _ (.inr (by simpa using h1)) rfl
  have h9 : ¬ k = 9 := by simpa using h1
  have h8 := hb.drop 8
  refine ⟨fun h1 => ?_, fun h1 => ?_⟩   -- (x4 == (6 : Int))
  · have h6 : k = 6 := by simpa using h1
    subst h6
    have hU : rdFb 6 hp hc ht hl xs = if (xs.drop 8).length / 4 = 0 then none else some { kind := 6, sender := s, media := m, pairs := pairsL ((xs.drop 8).length / 4) (xs.drop 8) } := by
      unfold rdFb; rw [hsd, hmd]; simp only; rw [if_neg (by omega), if_pos trivial]
    have H1 := H.skipB hx 8 (by omega)
    replace H := (H1.sub (ex' := .blk p 38 (pk0 6 s m false 0 0 0) :: ex) (ro' := _) (by repeat (first | exact List.Sublist.refl _ | exact List.nil_sublist _ | apply List.Sublist.cons_cons | apply List.Sublist.cons)) (fun _ h => h)).nilOwn 92 2
    clear H1 hbody
    generalize xs.drop 8 = bs at H hU hdl h8 ⊢
    refine ⟨fun b11 b11l b11c m_7 w => ∃ (i : Nat) (o : Option Addr) (oc : Nat) (r : Option Nat), i + m_7 = n ∧ b11l + 4 * i = n - 8 ∧
      Sat F w (.blk p 38 ((pk0 6 s m false 0 0 0).set 14 (.slice o i oc)) :: .own 92 2 o i oc r ((pairsL i bs).flatMap Par.dat) :: ex) (Ro.B (bs.drop (4 * i)) b11 b11l b11c :: ro), ⟨n, 0, none, 0, none, by omega, by omega, H.u1⟩, ?_⟩
    clear H; rintro dd6 b11 b11l b11c m_7 w ⟨i, o, oc, r, him, hbl, H⟩
    refine ⟨fun h2 => ?_, fun h2 => ?_⟩   -- (decide (((b11l : Nat) : Int) ≥ (4 : Int)))
    · rw [decide_eq_true_eq] at h2
      have hby : By (bs.drop (4 * i)) := h8.drop _
      refine ⟨r, ?_⟩; replace H := H.drew; generalize w.drew = wd1 at H ⊢; have K := grew_refl wd1 (r)
      refine ⟨_, rfl, ?_⟩
      refine ⟨(by first | exact Option.some_ne_none _ | exact H.ne (by first | exact List.mem_cons_self | (apply List.mem_cons_of_mem; first | exact List.mem_cons_self | (apply List.mem_cons_of_mem; first | exact List.mem_cons_self | (apply List.mem_cons_of_mem; first | exact List.mem_cons_self | (apply List.mem_cons_of_mem; first | exact List.mem_cons_self | (apply List.mem_cons_of_mem; first | exact List.mem_cons_self | (apply List.mem_cons_of_mem; first | exact List.mem_cons_self | (apply List.mem_cons_of_mem; first | exact List.mem_cons_self)))))))) (by first | exact List.mem_cons_self | (apply List.mem_cons_of_mem; first | exact List.mem_cons_self | (apply List.mem_cons_of_mem; first | exact List.mem_cons_self | (apply List.mem_cons_of_mem; first | exact List.mem_cons_self | (apply List.mem_cons_of_mem; first | exact List.mem_cons_self | (apply List.mem_cons_of_mem; first | exact List.mem_cons_self | (apply List.mem_cons_of_mem; first | exact List.mem_cons_self | (apply List.mem_cons_of_mem; first | exact List.mem_cons_self))))))))), ?_⟩   -- some ((p_13.add 14)).block ≠ r12
      refine ⟨(by first | exact H.b0.row | exact H.b1.row | exact H.b2.row | exact H.b3.row | exact H.b4.row | exact H.b5.row | exact H.b6.row | exact H.b7.row), ?_⟩   -- ∃ c ty f, wd1.heap[((p_13.add 14)).block]? = some (.cells c
      refine ⟨_, _, _, (by first | exact Ce (by first | exact add_flat _ _ _ | exact add_flat2 _ _ _ _ | rfl) H.b0 rfl | exact Ce (by first | exact add_flat _ _ _ | exact add_flat2 _ _ _ _ | rfl) H.b1 rfl | exact Ce (by first | exact add_flat _ _ _ | exact add_flat2 _ _ _ _ | rfl) H.b2 rfl | exact Ce (by first | exact add_flat _ _ _ | exact add_flat2 _ _ _ _ | rfl) H.b3 rfl | exact Ce (by first | exact add_flat _ _ _ | exact add_flat2 _ _ _ _ | rfl) H.b4 rfl | exact Ce (by first | exact add_flat _ _ _ | exact add_flat2 _ _ _ _ | rfl) H.b5 rfl | exact Ce (by first | exact add_flat _ _ _ | exact add_flat2 _ _ _ _ | rfl) H.b6 rfl | exact Ce (by first | exact add_flat _ _ _ | exact add_flat2 _ _ _ _ | rfl) H.b7 rfl | exact Ce (by first | exact add_flat _ _ _ | exact add_flat2 _ _ _ _ | rfl) H.b8 rfl | exact Ce (by first | exact add_flat _ _ _ | exact add_flat2 _ _ _ _ | rfl) H.b9 rfl), ?_⟩   -- wd1.cell? (p_13.add 14) = some (.slice x14 x14l x14c)
      refine ⟨by omega, by omega, ?_⟩
      refine call_j (c23 (by first | exact (Sat.rd H (by first | assumption | exact List.mem_cons_self | (apply List.mem_cons_of_mem; first | assumption | exact List.mem_cons_self | (apply List.mem_cons_of_mem; first | assumption | exact List.mem_cons_self | (apply List.mem_cons_of_mem; first | assumption | exact List.mem_cons_self | (apply List.mem_cons_of_mem; first | assumption | exact List.mem_cons_self | (apply List.mem_cons_of_mem; first | assumption | exact List.mem_cons_self))))))) | exact Rd.skip (Sat.rd H (by first | assumption | exact List.mem_cons_self | (apply List.mem_cons_of_mem; first | assumption | exact List.mem_cons_self | (apply List.mem_cons_of_mem; first | assumption | exact List.mem_cons_self | (apply List.mem_cons_of_mem; first | assumption | exact List.mem_cons_self | (apply List.mem_cons_of_mem; first | assumption | exact List.mem_cons_self | (apply List.mem_cons_of_mem; first | assumption | exact List.mem_cons_self))))))) _ (by omega) | exact Rd.skip (Rd.skip (Sat.rd H (by first | assumption | exact List.mem_cons_self | (apply List.mem_cons_of_mem; first | assumption | exact List.mem_cons_self | (apply List.mem_cons_of_mem; first | assumption | exact List.mem_cons_self | (apply List.mem_cons_of_mem; first | assumption | exact List.mem_cons_self | (apply List.mem_cons_of_mem; first | assumption | exact List.mem_cons_self | (apply List.mem_cons_of_mem; first | assumption | exact List.mem_cons_self))))))) _ (by omega)) _ (by omega) | exact Rd.cut (Sat.rd H (by first | assumption | exact List.mem_cons_self | (apply List.mem_cons_of_mem; first | assumption | exact List.mem_cons_self | (apply List.mem_cons_of_mem; first | assumption | exact List.mem_cons_self | (apply List.mem_cons_of_mem; first | assumption | exact List.mem_cons_self | (apply List.mem_cons_of_mem; first | assumption | exact List.mem_cons_self | (apply List.mem_cons_of_mem; first | assumption | exact List.mem_cons_self))))))) _ _ (by omega) (by omega) | exact Rd.skip (Rd.skip (Rd.skip (Sat.rd H (by first | assumption | exact List.mem_cons_self | (apply List.mem_cons_of_mem; first | assumption | exact List.mem_cons_self | (apply List.mem_cons_of_mem; first | assumption | exact List.mem_cons_self | (apply List.mem_cons_of_mem; first | assumption | exact List.mem_cons_self | (apply List.mem_cons_of_mem; first | assumption | exact List.mem_cons_self | (apply List.mem_cons_of_mem; first | assumption | exact List.mem_cons_self))))))) _ (by omega)) _ (by omega)) _ (by omega) | assumption) hby (by omega)) ?_
      rintro _ w ⟨rfl, g⟩
      replace H := H.grow g; replace K := World.grownBy.trans K (grew_none _ g); clear g
      refine ⟨_, rfl, ?_⟩
      refine ⟨K, ?_⟩   -- wd1.grownBy w_16 r12
      refine call_j (c23 (by first | exact (Sat.rd H (by first | assumption | exact List.mem_cons_self | (apply List.mem_cons_of_mem; first | assumption | exact List.mem_cons_self | (apply List.mem_cons_of_mem; first | assumption | exact List.mem_cons_self | (apply List.mem_cons_of_mem; first | assumption | exact List.mem_cons_self | (apply List.mem_cons_of_mem; first | assumption | exact List.mem_cons_self | (apply List.mem_cons_of_mem; first | assumption | exact List.mem_cons_self))))))) | exact Rd.skip (Sat.rd H (by first | assumption | exact List.mem_cons_self | (apply List.mem_cons_of_mem; first | assumption | exact List.mem_cons_self | (apply List.mem_cons_of_mem; first | assumption | exact List.mem_cons_self | (apply List.mem_cons_of_mem; first | assumption | exact List.mem_cons_self | (apply List.mem_cons_of_mem; first | assumption | exact List.mem_cons_self | (apply List.mem_cons_of_mem; first | assumption | exact List.mem_cons_self))))))) _ (by omega) | exact Rd.skip (Rd.skip (Sat.rd H (by first | assumption | exact List.mem_cons_self | (apply List.mem_cons_of_mem; first | assumption | exact List.mem_cons_self | (apply List.mem_cons_of_mem; first | assumption | exact List.mem_cons_self | (apply List.mem_cons_of_mem; first | assumption | exact List.mem_cons_self | (apply List.mem_cons_of_mem; first | assumption | exact List.mem_cons_self | (apply List.mem_cons_of_mem; first | assumption | exact List.mem_cons_self))))))) _ (by omega)) _ (by omega) | exact Rd.cut (Sat.rd H (by first | assumption | exact List.mem_cons_self | (apply List.mem_cons_of_mem; first | assumption | exact List.mem_cons_self | (apply List.mem_cons_of_mem; first | assumption | exact List.mem_cons_self | (apply List.mem_cons_of_mem; first | assumption | exact List.mem_cons_self | (apply List.mem_cons_of_mem; first | assumption | exact List.mem_cons_self | (apply List.mem_cons_of_mem; first | assumption | exact List.mem_cons_self))))))) _ _ (by omega) (by omega) | exact Rd.skip (Rd.skip (Rd.skip (Sat.rd H (by first | assumption | exact List.mem_cons_self | (apply List.mem_cons_of_mem; first | assumption | exact List.mem_cons_self | (apply List.mem_cons_of_mem; first | assumption | exact List.mem_cons_self | (apply List.mem_cons_of_mem; first | assumption | exact List.mem_cons_self | (apply List.mem_cons_of_mem; first | assumption | exact List.mem_cons_self | (apply List.mem_cons_of_mem; first | assumption | exact List.mem_cons_self))))))) _ (by omega)) _ (by omega)) _ (by omega) | assumption) (hby.drop 2) (by omega)) ?_
      rintro _ w ⟨rfl, g⟩
      replace H := H.grow g; replace K := World.grownBy.trans K (grew_none _ g); clear g
      refine ⟨_, rfl, ?_⟩
      refine ⟨K, ?_⟩   -- wd1.grownBy w_18 r12
      refine ⟨rfl, ?_⟩
      refine sNew H ?_; clear H; intro b19 w g H; replace K := World.grownBy.trans K (grew_none _ g); clear g   -- (#[.int .u16 x15, .int .u16 x17])
      refine ⟨K, ?_⟩   -- wd1.grownBy w_20 r12
      refine sApp2 H (bytes := 4) (by kernel_rfl) [.int .u16 (n16 (bs.drop (4 * i))), .int .u16 (n16 ((bs.drop (4 * i)).drop 2))] (Par.dat (n16 (bs.drop (4 * i)), n16 ((bs.drop (4 * i)).drop 2))) (by rfl) (fun j u hu => by rw [add_flat, Nat.zero_add]; exact H.b0.cell hu) (fun G h => by repeat (first | exact DeepL.nil _ _ | exact DeepL.ones _ | refine DeepL.cons (Deep.emp _ _) ?_ | refine DeepL.cons (Deep.one _) ?_ | refine DeepL.cons (h (.deep [_] [_]) (by assumption)).head ?_ | refine DeepL.cons (h (.deep [_] [_]) (by first | assumption | exact List.mem_cons_self | (apply List.mem_cons_of_mem; first | assumption | exact List.mem_cons_self | (apply List.mem_cons_of_mem; first | assumption | exact List.mem_cons_self | (apply List.mem_cons_of_mem; first | assumption | exact List.mem_cons_self | (apply List.mem_cons_of_mem; first | assumption | exact List.mem_cons_self | (apply List.mem_cons_of_mem; first | assumption | exact List.mem_cons_self))))))).head ?_)) (by simp [Value.oneCell']) (by unfold maxLen; omega) (by omega) ?_
      clear H; intro x21 x21l x21c x21r w ex21 g H
      replace K := World.grownBy.trans K g; clear g; replace H := H.sub (List.sublist_cons_self _ _) (fun _ h => h)
      refine ⟨K, ?_⟩   -- wd1.grownBy w_22 r12
      refine ⟨_, rfl, ?_⟩
      refine sSt0 H (by first | exact add_flat _ _ _ | exact add_flat2 _ _ _ _ | rfl) (by kernel_rfl) (by rfl) (by first | rfl | (simp only [List.all_cons, List.all_nil, Value.cells]; simp [*])) ?_; clear H; intro w _ H   -- StV pg 28 (p_23.add 14) (.slice x21 x21l x21c) w_22 w_24
      refine ⟨by omega, by omega, ?_⟩
      subst ex21
      refine ⟨m_7 - 1, by omega, i + 1, x21, x21c, x21r, by omega, by omega, ?_⟩
      have H2 := H.skipB List.mem_cons_self 4 (by omega)
      rw [show (bs.drop (4 * i)).drop 4 = bs.drop (4 * (i + 1)) by rw [List.drop_drop]; congr 1] at H2
      rw [pairsL_snoc, List.flatMap_append]
      exact H2.sub (by repeat (first | exact List.Sublist.refl _ | exact List.nil_sublist _ | apply List.Sublist.cons_cons | apply List.Sublist.cons)) (fun r hr => by (try simp only [List.mem_cons] at hr ⊢); (repeat (first | (rcases hr with rfl | hr; (first | (left; rfl) | (right; left; rfl) | (right; right; left; rfl) | (right; right; right; left; rfl) | (right; right; right; right; left; rfl)))  | (simp [hr]; done) | assumption | exact hr.elim)))
    · rw [decide_eq_false_iff_not] at h2
      refine ⟨_, rfl, ?_⟩
      refine ⟨_, _, _, (by first | exact Ce (by first | exact add_flat _ _ _ | exact add_flat2 _ _ _ _ | rfl) H.b0 rfl | exact Ce (by first | exact add_flat _ _ _ | exact add_flat2 _ _ _ _ | rfl) H.b1 rfl | exact Ce (by first | exact add_flat _ _ _ | exact add_flat2 _ _ _ _ | rfl) H.b2 rfl | exact Ce (by first | exact add_flat _ _ _ | exact add_flat2 _ _ _ _ | rfl) H.b3 rfl | exact Ce (by first | exact add_flat _ _ _ | exact add_flat2 _ _ _ _ | rfl) H.b4 rfl | exact Ce (by first | exact add_flat _ _ _ | exact add_flat2 _ _ _ _ | rfl) H.b5 rfl | exact Ce (by first | exact add_flat _ _ _ | exact add_flat2 _ _ _ _ | rfl) H.b6 rfl | exact Ce (by first | exact add_flat _ _ _ | exact add_flat2 _ _ _ _ | rfl) H.b7 rfl | exact Ce (by first | exact add_flat _ _ _ | exact add_flat2 _ _ _ _ | rfl) H.b8 rfl | exact Ce (by first | exact add_flat _ _ _ | exact add_flat2 _ _ _ _ | rfl) H.b9 rfl), ?_⟩   -- w_10.cell? (p_25.add 14) = some (.slice x26 x26l x26c)
      have hi : bs.length / 4 = i := by omega
      rw [hi] at hU
      replace H := H.r1.freeze
      by_cases h0 : i = 0
      · rw [show decide (((i : Nat) : Int) > (0 : Int)) = false by rw [decide_eq_false_iff_not]; omega]
        exact RdPost.no (by rw [hU, if_pos h0]) (H.sub (by repeat (first | exact List.Sublist.refl _ | exact List.nil_sublist _ | apply List.Sublist.cons_cons | apply List.Sublist.cons)) (fun r hr => by (try simp only [List.mem_cons] at hr ⊢); (repeat (first | (rcases hr with rfl | hr; (first | (left; rfl) | (right; left; rfl) | (right; right; left; rfl) | (right; right; right; left; rfl) | (right; right; right; right; left; rfl)))  | (simp [hr]; done) | assumption | exact hr.elim))))
      · rw [show decide (((i : Nat) : Int) > (0 : Int)) = true by rw [decide_eq_true_eq]; omega]
        rw [if_neg h0] at hU
        exact RdPost.yes _ hU H (fun r hr => by (try simp only [List.mem_cons] at hr ⊢); (repeat (first | (rcases hr with rfl | hr; (first | (left; rfl) | (right; left; rfl) | (right; right; left; rfl) | (right; right; right; left; rfl) | (right; right; right; right; left; rfl)))  | (simp [hr]; done) | assumption | exact hr.elim))) (fun G h => by repeat (first | exact DeepL.nil _ _ | exact DeepL.ones _ | refine DeepL.cons (Deep.emp _ _) ?_ | refine DeepL.cons (Deep.one _) ?_ | refine DeepL.cons (h (.deep [_] [_]) (by assumption)).head ?_ | refine DeepL.cons (h (.deep [_] [_]) (by first | assumption | exact List.mem_cons_self | (apply List.mem_cons_of_mem; first | assumption | exact List.mem_cons_self | (apply List.mem_cons_of_mem; first | assumption | exact List.mem_cons_self | (apply List.mem_cons_of_mem; first | assumption | exact List.mem_cons_self | (apply List.mem_cons_of_mem; first | assumption | exact List.mem_cons_self | (apply List.mem_cons_of_mem; first | assumption | exact List.mem_cons_self))))))).head ?_))
  have h6 : ¬ k = 6 := by simpa using h1
  refine ⟨fun h1 => ?_, fun h1 => ?_⟩   -- (x4 == (10 : Int))
  · have h10 : k = 10 := by simpa using h1
    subst h10
    have hU : rdFb 10 hp hc ht hl xs = if (xs.drop 8).length / 4 = 0 then none else some { kind := 10, sender := s, media := m, slices := sliceL ((xs.drop 8).length / 4) (xs.drop 8) } := by
      unfold rdFb; rw [hsd, hmd]; simp only; rw [if_neg (by omega), if_neg (by omega), if_pos trivial]
    have H1 := H.skipB hx 8 (by omega)
    replace H := (H1.sub (ex' := .blk p 38 (pk0 10 s m false 0 0 0) :: ex) (ro' := _) (by repeat (first | exact List.Sublist.refl _ | exact List.nil_sublist _ | apply List.Sublist.cons_cons | apply List.Sublist.cons)) (fun _ h => h)).nilOwn 94 3
    clear H1 hbody
    generalize xs.drop 8 = bs at H hU hdl h8 ⊢
    refine ⟨fun b33 b33l b33c m_29 w => ∃ (i : Nat) (o : Option Addr) (oc : Nat) (r : Option Nat), i + m_29 = n ∧ b33l + 4 * i = n - 8 ∧
      Sat F w (.blk p 38 ((pk0 10 s m false 0 0 0).set 15 (.slice o i oc)) :: .own 94 3 o i oc r ((sliceL i bs).flatMap Sli.dat) :: ex) (Ro.B (bs.drop (4 * i)) b33 b33l b33c :: ro), ⟨n, 0, none, 0, none, by omega, by omega, H.u1⟩, ?_⟩
    clear H; rintro dd28 b33 b33l b33c m_29 w ⟨i, o, oc, r, him, hbl, H⟩
    refine ⟨fun h2 => ?_, fun h2 => ?_⟩   -- (decide (((b33l : Nat) : Int) ≥ (4 : Int)))
    · rw [decide_eq_true_eq] at h2
      have hby : By (bs.drop (4 * i)) := h8.drop _
      refine call_j (c10 (by first | exact (Sat.rd H (by first | assumption | exact List.mem_cons_self | (apply List.mem_cons_of_mem; first | assumption | exact List.mem_cons_self | (apply List.mem_cons_of_mem; first | assumption | exact List.mem_cons_self | (apply List.mem_cons_of_mem; first | assumption | exact List.mem_cons_self | (apply List.mem_cons_of_mem; first | assumption | exact List.mem_cons_self | (apply List.mem_cons_of_mem; first | assumption | exact List.mem_cons_self))))))) | exact Rd.skip (Sat.rd H (by first | assumption | exact List.mem_cons_self | (apply List.mem_cons_of_mem; first | assumption | exact List.mem_cons_self | (apply List.mem_cons_of_mem; first | assumption | exact List.mem_cons_self | (apply List.mem_cons_of_mem; first | assumption | exact List.mem_cons_self | (apply List.mem_cons_of_mem; first | assumption | exact List.mem_cons_self | (apply List.mem_cons_of_mem; first | assumption | exact List.mem_cons_self))))))) _ (by omega) | exact Rd.skip (Rd.skip (Sat.rd H (by first | assumption | exact List.mem_cons_self | (apply List.mem_cons_of_mem; first | assumption | exact List.mem_cons_self | (apply List.mem_cons_of_mem; first | assumption | exact List.mem_cons_self | (apply List.mem_cons_of_mem; first | assumption | exact List.mem_cons_self | (apply List.mem_cons_of_mem; first | assumption | exact List.mem_cons_self | (apply List.mem_cons_of_mem; first | assumption | exact List.mem_cons_self))))))) _ (by omega)) _ (by omega) | exact Rd.cut (Sat.rd H (by first | assumption | exact List.mem_cons_self | (apply List.mem_cons_of_mem; first | assumption | exact List.mem_cons_self | (apply List.mem_cons_of_mem; first | assumption | exact List.mem_cons_self | (apply List.mem_cons_of_mem; first | assumption | exact List.mem_cons_self | (apply List.mem_cons_of_mem; first | assumption | exact List.mem_cons_self | (apply List.mem_cons_of_mem; first | assumption | exact List.mem_cons_self))))))) _ _ (by omega) (by omega) | exact Rd.skip (Rd.skip (Rd.skip (Sat.rd H (by first | assumption | exact List.mem_cons_self | (apply List.mem_cons_of_mem; first | assumption | exact List.mem_cons_self | (apply List.mem_cons_of_mem; first | assumption | exact List.mem_cons_self | (apply List.mem_cons_of_mem; first | assumption | exact List.mem_cons_self | (apply List.mem_cons_of_mem; first | assumption | exact List.mem_cons_self | (apply List.mem_cons_of_mem; first | assumption | exact List.mem_cons_self))))))) _ (by omega)) _ (by omega)) _ (by omega) | assumption) hby (by omega)) ?_
      rintro _ w ⟨rfl, g⟩
      replace H := H.grow g; clear g
      refine ⟨_, rfl, ?_⟩
      obtain ⟨e1, e2, e3⟩ := sli_bits (n32_lt hby)
      rw [e1, e2, e3]
      refine ⟨_, rfl, ?_⟩
      refine ⟨_, _, _, (by first | exact Ce (by first | exact add_flat _ _ _ | exact add_flat2 _ _ _ _ | rfl) H.b0 rfl | exact Ce (by first | exact add_flat _ _ _ | exact add_flat2 _ _ _ _ | rfl) H.b1 rfl | exact Ce (by first | exact add_flat _ _ _ | exact add_flat2 _ _ _ _ | rfl) H.b2 rfl | exact Ce (by first | exact add_flat _ _ _ | exact add_flat2 _ _ _ _ | rfl) H.b3 rfl | exact Ce (by first | exact add_flat _ _ _ | exact add_flat2 _ _ _ _ | rfl) H.b4 rfl | exact Ce (by first | exact add_flat _ _ _ | exact add_flat2 _ _ _ _ | rfl) H.b5 rfl | exact Ce (by first | exact add_flat _ _ _ | exact add_flat2 _ _ _ _ | rfl) H.b6 rfl | exact Ce (by first | exact add_flat _ _ _ | exact add_flat2 _ _ _ _ | rfl) H.b7 rfl | exact Ce (by first | exact add_flat _ _ _ | exact add_flat2 _ _ _ _ | rfl) H.b8 rfl | exact Ce (by first | exact add_flat _ _ _ | exact add_flat2 _ _ _ _ | rfl) H.b9 rfl), ?_⟩   -- w_35.cell? (p_36.add 15) = some (.slice x37 x37l x37c)
      refine ⟨rfl, ?_⟩
      refine sPush1 H (bytes := 6) (by kernel_rfl) (Sli.dat (sli1 (n32 (bs.drop (4 * i))))) (by rfl) (fun G h => by repeat (first | exact DeepL.nil _ _ | exact DeepL.ones _ | refine DeepL.cons (Deep.emp _ _) ?_ | refine DeepL.cons (Deep.one _) ?_ | refine DeepL.cons (h (.deep [_] [_]) (by assumption)).head ?_ | refine DeepL.cons (h (.deep [_] [_]) (by first | assumption | exact List.mem_cons_self | (apply List.mem_cons_of_mem; first | assumption | exact List.mem_cons_self | (apply List.mem_cons_of_mem; first | assumption | exact List.mem_cons_self | (apply List.mem_cons_of_mem; first | assumption | exact List.mem_cons_self | (apply List.mem_cons_of_mem; first | assumption | exact List.mem_cons_self | (apply List.mem_cons_of_mem; first | assumption | exact List.mem_cons_self))))))).head ?_)) (by rfl) (by unfold maxLen; omega) (by omega) ?_
      clear H; intro x40 x40l x40c x40r w ex40 _ H
      refine ⟨_, rfl, ?_⟩
      refine sSt0 H (by first | exact add_flat _ _ _ | exact add_flat2 _ _ _ _ | rfl) (by kernel_rfl) (by rfl) (by first | rfl | (simp only [List.all_cons, List.all_nil, Value.cells]; simp [*])) ?_; clear H; intro w _ H   -- StV pg 29 (p_42.add 15) (.slice x40 x40l x40c) w_41 w_43
      refine ⟨by omega, by omega, ?_⟩
      subst ex40
      refine ⟨m_29 - 1, by omega, i + 1, x40, x40c, x40r, by omega, by omega, ?_⟩
      have H2 := H.skipB List.mem_cons_self 4 (by omega)
      rw [List.drop_drop, show 4 * i + 4 = 4 * (i + 1) by omega] at H2
      rw [sliceL_snoc, List.flatMap_append]
      exact H2.sub (by repeat (first | exact List.Sublist.refl _ | exact List.nil_sublist _ | apply List.Sublist.cons_cons | apply List.Sublist.cons)) (fun r hr => by (try simp only [List.mem_cons] at hr ⊢); (repeat (first | (rcases hr with rfl | hr; (first | (left; rfl) | (right; left; rfl) | (right; right; left; rfl) | (right; right; right; left; rfl) | (right; right; right; right; left; rfl)))  | (simp [hr]; done) | assumption | exact hr.elim)))
    · rw [decide_eq_false_iff_not] at h2
      refine ⟨_, rfl, ?_⟩
      refine ⟨_, _, _, (by first | exact Ce (by first | exact add_flat _ _ _ | exact add_flat2 _ _ _ _ | rfl) H.b0 rfl | exact Ce (by first | exact add_flat _ _ _ | exact add_flat2 _ _ _ _ | rfl) H.b1 rfl | exact Ce (by first | exact add_flat _ _ _ | exact add_flat2 _ _ _ _ | rfl) H.b2 rfl | exact Ce (by first | exact add_flat _ _ _ | exact add_flat2 _ _ _ _ | rfl) H.b3 rfl | exact Ce (by first | exact add_flat _ _ _ | exact add_flat2 _ _ _ _ | rfl) H.b4 rfl | exact Ce (by first | exact add_flat _ _ _ | exact add_flat2 _ _ _ _ | rfl) H.b5 rfl | exact Ce (by first | exact add_flat _ _ _ | exact add_flat2 _ _ _ _ | rfl) H.b6 rfl | exact Ce (by first | exact add_flat _ _ _ | exact add_flat2 _ _ _ _ | rfl) H.b7 rfl | exact Ce (by first | exact add_flat _ _ _ | exact add_flat2 _ _ _ _ | rfl) H.b8 rfl | exact Ce (by first | exact add_flat _ _ _ | exact add_flat2 _ _ _ _ | rfl) H.b9 rfl), ?_⟩   -- w_32.cell? (p_44.add 15) = some (.slice x45 x45l x45c)
      have hi : bs.length / 4 = i := by omega
      rw [hi] at hU
      replace H := H.r1.freeze
      by_cases h0 : i = 0
      · rw [show decide (((i : Nat) : Int) > (0 : Int)) = false by rw [decide_eq_false_iff_not]; omega]
        exact RdPost.no (by rw [hU, if_pos h0]) (H.sub (by repeat (first | exact List.Sublist.refl _ | exact List.nil_sublist _ | apply List.Sublist.cons_cons | apply List.Sublist.cons)) (fun r hr => by (try simp only [List.mem_cons] at hr ⊢); (repeat (first | (rcases hr with rfl | hr; (first | (left; rfl) | (right; left; rfl) | (right; right; left; rfl) | (right; right; right; left; rfl) | (right; right; right; right; left; rfl)))  | (simp [hr]; done) | assumption | exact hr.elim))))
      · rw [show decide (((i : Nat) : Int) > (0 : Int)) = true by rw [decide_eq_true_eq]; omega]
        rw [if_neg h0] at hU
        exact RdPost.yes _ hU H (fun r hr => by (try simp only [List.mem_cons] at hr ⊢); (repeat (first | (rcases hr with rfl | hr; (first | (left; rfl) | (right; left; rfl) | (right; right; left; rfl) | (right; right; right; left; rfl) | (right; right; right; right; left; rfl)))  | (simp [hr]; done) | assumption | exact hr.elim))) (fun G h => by repeat (first | exact DeepL.nil _ _ | exact DeepL.ones _ | refine DeepL.cons (Deep.emp _ _) ?_ | refine DeepL.cons (Deep.one _) ?_ | refine DeepL.cons (h (.deep [_] [_]) (by assumption)).head ?_ | refine DeepL.cons (h (.deep [_] [_]) (by first | assumption | exact List.mem_cons_self | (apply List.mem_cons_of_mem; first | assumption | exact List.mem_cons_self | (apply List.mem_cons_of_mem; first | assumption | exact List.mem_cons_self | (apply List.mem_cons_of_mem; first | assumption | exact List.mem_cons_self | (apply List.mem_cons_of_mem; first | assumption | exact List.mem_cons_self | (apply List.mem_cons_of_mem; first | assumption | exact List.mem_cons_self))))))).head ?_))
  have h10 : ¬ k = 10 := by simpa using h1
  refine ⟨fun h1 => ?_, fun h1 => ?_⟩   -- (x4 == (11 : Int))
  · have h11 : k = 11 := by simpa using h1
    subst h11
    have hU : rdFb 11 hp hc ht hl xs = match entryL ((xs.drop 8).length / 8) (xs.drop 8) with
        | some l => if l = [] then none else some { kind := 11, sender := s, media := m, entries := l }
        | none => none := by
      unfold rdFb; rw [hsd, hmd]; simp only; rw [if_neg (by omega), if_neg (by omega), if_neg (by omega), if_pos trivial]; rfl
    have H1 := H.skipB hx 8 (by omega)
    replace H := (H1.sub (ex' := .blk p 38 (pk0 11 s m false 0 0 0) :: ex) (ro' := _) (by repeat (first | exact List.Sublist.refl _ | exact List.nil_sublist _ | apply List.Sublist.cons_cons | apply List.Sublist.cons)) (fun _ h => h)).nilOwn 96 2
    clear H1 hbody
    generalize xs.drop 8 = bs at H hU hdl h8 ⊢
    refine ⟨fun b52 b52l b52c m_48 w => ∃ (ys : List Int) (l : List Ent) (o : Option Addr) (oc : Nat) (r : Option Nat), By ys ∧ m_48 = b52l / 8 ∧ b52l ≤ n ∧ l.length + m_48 ≤ n ∧ entryL (bs.length / 8) bs = (entryL m_48 ys).map (l ++ ·) ∧
      Sat F w (.blk p 38 ((pk0 11 s m false 0 0 0).set 16 (.slice o l.length oc)) :: .own 96 2 o l.length oc r (l.flatMap Ent.dat) :: ex) (Ro.B ys b52 b52l b52c :: ro), ⟨bs.length / 8, bs, [], none, 0, none, h8, by omega, by omega, by simp; omega, ?_, H.u1⟩, ?_⟩
    · cases entryL (bs.length / 8) bs <;> simp
    clear H; rintro dd47 b52 b52l b52c m_48 w ⟨ys, l, o, oc, r, hby, rfl, hbl, hll, hen, H⟩
    have hyl := H.lenB List.mem_cons_self
    refine ⟨fun h2 => ?_, fun h2 => ?_⟩   -- (decide (((b52l : Nat) : Int) ≥ (8 : Int)))
    · rw [decide_eq_true_eq] at h2
      obtain ⟨q, hq⟩ : ∃ q, b52l / 8 = q + 1 := ⟨b52l / 8 - 1, by omega⟩
      rw [hq, entryL] at hen
      refine ⟨by omega, by omega, ?_⟩
      refine call_j (c25 (by first | exact (Sat.rd H (by first | assumption | exact List.mem_cons_self | (apply List.mem_cons_of_mem; first | assumption | exact List.mem_cons_self | (apply List.mem_cons_of_mem; first | assumption | exact List.mem_cons_self | (apply List.mem_cons_of_mem; first | assumption | exact List.mem_cons_self | (apply List.mem_cons_of_mem; first | assumption | exact List.mem_cons_self | (apply List.mem_cons_of_mem; first | assumption | exact List.mem_cons_self))))))) | exact Rd.skip (Sat.rd H (by first | assumption | exact List.mem_cons_self | (apply List.mem_cons_of_mem; first | assumption | exact List.mem_cons_self | (apply List.mem_cons_of_mem; first | assumption | exact List.mem_cons_self | (apply List.mem_cons_of_mem; first | assumption | exact List.mem_cons_self | (apply List.mem_cons_of_mem; first | assumption | exact List.mem_cons_self | (apply List.mem_cons_of_mem; first | assumption | exact List.mem_cons_self))))))) _ (by omega) | exact Rd.skip (Rd.skip (Sat.rd H (by first | assumption | exact List.mem_cons_self | (apply List.mem_cons_of_mem; first | assumption | exact List.mem_cons_self | (apply List.mem_cons_of_mem; first | assumption | exact List.mem_cons_self | (apply List.mem_cons_of_mem; first | assumption | exact List.mem_cons_self | (apply List.mem_cons_of_mem; first | assumption | exact List.mem_cons_self | (apply List.mem_cons_of_mem; first | assumption | exact List.mem_cons_self))))))) _ (by omega)) _ (by omega) | exact Rd.cut (Sat.rd H (by first | assumption | exact List.mem_cons_self | (apply List.mem_cons_of_mem; first | assumption | exact List.mem_cons_self | (apply List.mem_cons_of_mem; first | assumption | exact List.mem_cons_self | (apply List.mem_cons_of_mem; first | assumption | exact List.mem_cons_self | (apply List.mem_cons_of_mem; first | assumption | exact List.mem_cons_self | (apply List.mem_cons_of_mem; first | assumption | exact List.mem_cons_self))))))) _ _ (by omega) (by omega) | exact Rd.skip (Rd.skip (Rd.skip (Sat.rd H (by first | assumption | exact List.mem_cons_self | (apply List.mem_cons_of_mem; first | assumption | exact List.mem_cons_self | (apply List.mem_cons_of_mem; first | assumption | exact List.mem_cons_self | (apply List.mem_cons_of_mem; first | assumption | exact List.mem_cons_self | (apply List.mem_cons_of_mem; first | assumption | exact List.mem_cons_self | (apply List.mem_cons_of_mem; first | assumption | exact List.mem_cons_self))))))) _ (by omega)) _ (by omega)) _ (by omega) | assumption) (hby.drop 5) (by omega)) ?_
      rintro _ w ⟨rfl, g⟩
      replace H := H.grow g; clear g
      refine ⟨_, rfl, ?_⟩
      refine ⟨fun h3 => ?_, fun h3 => ?_⟩   -- (x53 != (0 : Int))
      · have h3 : n24 (ys.drop 5) ≠ 0 := by simpa using h3
        rw [if_pos h3] at hen
        exact RdPost.no (by rw [hU, hen]; rfl) (H.sub (by repeat (first | exact List.Sublist.refl _ | exact List.nil_sublist _ | apply List.Sublist.cons_cons | apply List.Sublist.cons)) (fun r hr => by (try simp only [List.mem_cons] at hr ⊢); (repeat (first | (rcases hr with rfl | hr; (first | (left; rfl) | (right; left; rfl) | (right; right; left; rfl) | (right; right; right; left; rfl) | (right; right; right; right; left; rfl)))  | (simp [hr]; done) | assumption | exact hr.elim))))
      have h3 : ¬ n24 (ys.drop 5) ≠ 0 := by simpa using h3
      rw [if_neg h3] at hen
      refine ⟨r, ?_⟩; replace H := H.drew; generalize w.drew = wd2 at H ⊢; have K := grew_refl wd2 (r)
      refine ⟨_, rfl, ?_⟩
      refine ⟨(by first | exact Option.some_ne_none _ | exact H.ne (by first | exact List.mem_cons_self | (apply List.mem_cons_of_mem; first | exact List.mem_cons_self | (apply List.mem_cons_of_mem; first | exact List.mem_cons_self | (apply List.mem_cons_of_mem; first | exact List.mem_cons_self | (apply List.mem_cons_of_mem; first | exact List.mem_cons_self | (apply List.mem_cons_of_mem; first | exact List.mem_cons_self | (apply List.mem_cons_of_mem; first | exact List.mem_cons_self | (apply List.mem_cons_of_mem; first | exact List.mem_cons_self)))))))) (by first | exact List.mem_cons_self | (apply List.mem_cons_of_mem; first | exact List.mem_cons_self | (apply List.mem_cons_of_mem; first | exact List.mem_cons_self | (apply List.mem_cons_of_mem; first | exact List.mem_cons_self | (apply List.mem_cons_of_mem; first | exact List.mem_cons_self | (apply List.mem_cons_of_mem; first | exact List.mem_cons_self | (apply List.mem_cons_of_mem; first | exact List.mem_cons_self | (apply List.mem_cons_of_mem; first | exact List.mem_cons_self))))))))), ?_⟩   -- some ((p_56.add 16)).block ≠ r55
      refine ⟨(by first | exact H.b0.row | exact H.b1.row | exact H.b2.row | exact H.b3.row | exact H.b4.row | exact H.b5.row | exact H.b6.row | exact H.b7.row), ?_⟩   -- ∃ c ty f, wd2.heap[((p_56.add 16)).block]? = some (.cells c
      refine ⟨_, _, _, (by first | exact Ce (by first | exact add_flat _ _ _ | exact add_flat2 _ _ _ _ | rfl) H.b0 rfl | exact Ce (by first | exact add_flat _ _ _ | exact add_flat2 _ _ _ _ | rfl) H.b1 rfl | exact Ce (by first | exact add_flat _ _ _ | exact add_flat2 _ _ _ _ | rfl) H.b2 rfl | exact Ce (by first | exact add_flat _ _ _ | exact add_flat2 _ _ _ _ | rfl) H.b3 rfl | exact Ce (by first | exact add_flat _ _ _ | exact add_flat2 _ _ _ _ | rfl) H.b4 rfl | exact Ce (by first | exact add_flat _ _ _ | exact add_flat2 _ _ _ _ | rfl) H.b5 rfl | exact Ce (by first | exact add_flat _ _ _ | exact add_flat2 _ _ _ _ | rfl) H.b6 rfl | exact Ce (by first | exact add_flat _ _ _ | exact add_flat2 _ _ _ _ | rfl) H.b7 rfl | exact Ce (by first | exact add_flat _ _ _ | exact add_flat2 _ _ _ _ | rfl) H.b8 rfl | exact Ce (by first | exact add_flat _ _ _ | exact add_flat2 _ _ _ _ | rfl) H.b9 rfl), ?_⟩   -- wd2.cell? (p_56.add 16) = some (.slice x57 x57l x57c)
      obtain ⟨p_58, rfl, hp_58, kp_58, fp_58⟩ := H.at_ (a := b52) (xs := ys) (by first | assumption | exact List.mem_cons_self | (apply List.mem_cons_of_mem; first | assumption | exact List.mem_cons_self | (apply List.mem_cons_of_mem; first | assumption | exact List.mem_cons_self | (apply List.mem_cons_of_mem; first | assumption | exact List.mem_cons_self | (apply List.mem_cons_of_mem; first | assumption | exact List.mem_cons_self | (apply List.mem_cons_of_mem; first | assumption | exact List.mem_cons_self)))))) (by omega)
      refine ⟨p_58, rfl, by omega, by omega, ?_⟩   -- b52[(4 : Int)]
      refine ⟨H.ne_own (by first | exact List.mem_cons_self | (apply List.mem_cons_of_mem; first | exact List.mem_cons_self | (apply List.mem_cons_of_mem; first | exact List.mem_cons_self | (apply List.mem_cons_of_mem; first | exact List.mem_cons_self | (apply List.mem_cons_of_mem; first | exact List.mem_cons_self | (apply List.mem_cons_of_mem; first | exact List.mem_cons_self | (apply List.mem_cons_of_mem; first | exact List.mem_cons_self | (apply List.mem_cons_of_mem; first | exact List.mem_cons_self)))))))) (fp_58 _), ?_⟩   -- some ((p_58.add ((4 : Int).toNat * 1))).block ≠ r55
      refine ⟨kp_58 _, ?_⟩   -- ∃ c ty f, wd2.heap[((p_58.add ((4 : Int).toNat * 1))).block]
      refine ⟨_, hp_58 4 (by omega), ?_⟩   -- wd2.cell? (p_58.add ((4 : Int).toNat * 1)) = some (.int .u8 x59)
      refine call_j (c10 (by first | exact (Sat.rd H (by first | assumption | exact List.mem_cons_self | (apply List.mem_cons_of_mem; first | assumption | exact List.mem_cons_self | (apply List.mem_cons_of_mem; first | assumption | exact List.mem_cons_self | (apply List.mem_cons_of_mem; first | assumption | exact List.mem_cons_self | (apply List.mem_cons_of_mem; first | assumption | exact List.mem_cons_self | (apply List.mem_cons_of_mem; first | assumption | exact List.mem_cons_self))))))) | exact Rd.skip (Sat.rd H (by first | assumption | exact List.mem_cons_self | (apply List.mem_cons_of_mem; first | assumption | exact List.mem_cons_self | (apply List.mem_cons_of_mem; first | assumption | exact List.mem_cons_self | (apply List.mem_cons_of_mem; first | assumption | exact List.mem_cons_self | (apply List.mem_cons_of_mem; first | assumption | exact List.mem_cons_self | (apply List.mem_cons_of_mem; first | assumption | exact List.mem_cons_self))))))) _ (by omega) | exact Rd.skip (Rd.skip (Sat.rd H (by first | assumption | exact List.mem_cons_self | (apply List.mem_cons_of_mem; first | assumption | exact List.mem_cons_self | (apply List.mem_cons_of_mem; first | assumption | exact List.mem_cons_self | (apply List.mem_cons_of_mem; first | assumption | exact List.mem_cons_self | (apply List.mem_cons_of_mem; first | assumption | exact List.mem_cons_self | (apply List.mem_cons_of_mem; first | assumption | exact List.mem_cons_self))))))) _ (by omega)) _ (by omega) | exact Rd.cut (Sat.rd H (by first | assumption | exact List.mem_cons_self | (apply List.mem_cons_of_mem; first | assumption | exact List.mem_cons_self | (apply List.mem_cons_of_mem; first | assumption | exact List.mem_cons_self | (apply List.mem_cons_of_mem; first | assumption | exact List.mem_cons_self | (apply List.mem_cons_of_mem; first | assumption | exact List.mem_cons_self | (apply List.mem_cons_of_mem; first | assumption | exact List.mem_cons_self))))))) _ _ (by omega) (by omega) | exact Rd.skip (Rd.skip (Rd.skip (Sat.rd H (by first | assumption | exact List.mem_cons_self | (apply List.mem_cons_of_mem; first | assumption | exact List.mem_cons_self | (apply List.mem_cons_of_mem; first | assumption | exact List.mem_cons_self | (apply List.mem_cons_of_mem; first | assumption | exact List.mem_cons_self | (apply List.mem_cons_of_mem; first | assumption | exact List.mem_cons_self | (apply List.mem_cons_of_mem; first | assumption | exact List.mem_cons_self))))))) _ (by omega)) _ (by omega)) _ (by omega) | assumption) hby (by omega)) ?_
      rintro _ w ⟨rfl, g⟩
      replace H := H.grow g; replace K := World.grownBy.trans K (grew_none _ g); clear g
      refine ⟨_, rfl, ?_⟩
      refine ⟨K, ?_⟩   -- wd2.grownBy w_61 r55
      refine ⟨rfl, ?_⟩
      refine sNew H ?_; clear H; intro b62 w g H; replace K := World.grownBy.trans K (grew_none _ g); clear g   -- (#[.int .u32 x60, .int .u8 x59])
      refine ⟨K, ?_⟩   -- wd2.grownBy w_63 r55
      refine sApp2 H (bytes := 8) (by kernel_rfl) [.int .u32 (n32 ys), .int .u8 (ys.getD 4 0)] (Ent.dat (n32 ys, ys.getD 4 0)) (by rfl) (fun j u hu => by rw [add_flat, Nat.zero_add]; exact H.b0.cell hu) (fun G h => by repeat (first | exact DeepL.nil _ _ | exact DeepL.ones _ | refine DeepL.cons (Deep.emp _ _) ?_ | refine DeepL.cons (Deep.one _) ?_ | refine DeepL.cons (h (.deep [_] [_]) (by assumption)).head ?_ | refine DeepL.cons (h (.deep [_] [_]) (by first | assumption | exact List.mem_cons_self | (apply List.mem_cons_of_mem; first | assumption | exact List.mem_cons_self | (apply List.mem_cons_of_mem; first | assumption | exact List.mem_cons_self | (apply List.mem_cons_of_mem; first | assumption | exact List.mem_cons_self | (apply List.mem_cons_of_mem; first | assumption | exact List.mem_cons_self | (apply List.mem_cons_of_mem; first | assumption | exact List.mem_cons_self))))))).head ?_)) (by simp [Value.oneCell']) (by unfold maxLen; omega) (by omega) ?_
      clear H; intro x64 x64l x64c x64r w ex64 g H
      replace K := World.grownBy.trans K g; clear g; replace H := H.sub (List.sublist_cons_self _ _) (fun _ h => h)
      refine ⟨K, ?_⟩   -- wd2.grownBy w_65 r55
      refine ⟨_, rfl, ?_⟩
      refine sSt0 H (by first | exact add_flat _ _ _ | exact add_flat2 _ _ _ _ | rfl) (by kernel_rfl) (by rfl) (by first | rfl | (simp only [List.all_cons, List.all_nil, Value.cells]; simp [*])) ?_; clear H; intro w _ H   -- StV pg 30 (p_66.add 16) (.slice x64 x64l x64c) w_65 w_67
      refine ⟨by omega, by omega, ?_⟩
      subst ex64
      refine ⟨q, by omega, ys.drop 8, l ++ [(n32 ys, ys.getD 4 0)], x64, x64c, x64r, hby.drop 8, by omega, by omega, by simp; omega, ?_, ?_⟩
      · rw [hen]
        cases entryL q (ys.drop 8) <;> simp
      · rw [List.flatMap_append, List.length_append]
        have H2 := H.skipB (xs := ys) (a := some p_58) (n := b52l) (c := b52c) (by first | assumption | exact List.mem_cons_self | (apply List.mem_cons_of_mem; first | assumption | exact List.mem_cons_self | (apply List.mem_cons_of_mem; first | assumption | exact List.mem_cons_self | (apply List.mem_cons_of_mem; first | assumption | exact List.mem_cons_self | (apply List.mem_cons_of_mem; first | assumption | exact List.mem_cons_self | (apply List.mem_cons_of_mem; first | assumption | exact List.mem_cons_self)))))) 8 (by omega)
        exact H2.sub (by repeat (first | exact List.Sublist.refl _ | exact List.nil_sublist _ | apply List.Sublist.cons_cons | apply List.Sublist.cons)) (fun r hr => by (try simp only [List.mem_cons] at hr ⊢); (repeat (first | (rcases hr with rfl | hr; (first | (left; rfl) | (right; left; rfl) | (right; right; left; rfl) | (right; right; right; left; rfl) | (right; right; right; right; left; rfl)))  | (simp [hr]; done) | assumption | exact hr.elim)))
    · rw [decide_eq_false_iff_not] at h2
      rw [show b52l / 8 = 0 by omega, entryL] at hen
      refine ⟨fun h3 => ?_, fun h3 => ?_⟩   -- (((b52l : Nat) : Int) == (0 : Int))
      · have h3 : b52l = 0 := by simpa using h3
        rw [if_pos (by omega)] at hen
        simp only [Option.map_some, List.append_nil] at hen
        rw [hen] at hU
        simp only at hU
        refine ⟨_, rfl, ?_⟩
        refine ⟨_, _, _, (by first | exact Ce (by first | exact add_flat _ _ _ | exact add_flat2 _ _ _ _ | rfl) H.b0 rfl | exact Ce (by first | exact add_flat _ _ _ | exact add_flat2 _ _ _ _ | rfl) H.b1 rfl | exact Ce (by first | exact add_flat _ _ _ | exact add_flat2 _ _ _ _ | rfl) H.b2 rfl | exact Ce (by first | exact add_flat _ _ _ | exact add_flat2 _ _ _ _ | rfl) H.b3 rfl | exact Ce (by first | exact add_flat _ _ _ | exact add_flat2 _ _ _ _ | rfl) H.b4 rfl | exact Ce (by first | exact add_flat _ _ _ | exact add_flat2 _ _ _ _ | rfl) H.b5 rfl | exact Ce (by first | exact add_flat _ _ _ | exact add_flat2 _ _ _ _ | rfl) H.b6 rfl | exact Ce (by first | exact add_flat _ _ _ | exact add_flat2 _ _ _ _ | rfl) H.b7 rfl | exact Ce (by first | exact add_flat _ _ _ | exact add_flat2 _ _ _ _ | rfl) H.b8 rfl | exact Ce (by first | exact add_flat _ _ _ | exact add_flat2 _ _ _ _ | rfl) H.b9 rfl), ?_⟩   -- w_51.cell? (p_68.add 16) = some (.slice x69 x69l x69c)
        replace H := H.r1.freeze
        by_cases h0 : l = []
        · rw [show decide (((l.length : Nat) : Int) > (0 : Int)) = false by subst h0; rfl]
          exact RdPost.no (by rw [hU, if_pos h0]) (H.sub (by repeat (first | exact List.Sublist.refl _ | exact List.nil_sublist _ | apply List.Sublist.cons_cons | apply List.Sublist.cons)) (fun r hr => by (try simp only [List.mem_cons] at hr ⊢); (repeat (first | (rcases hr with rfl | hr; (first | (left; rfl) | (right; left; rfl) | (right; right; left; rfl) | (right; right; right; left; rfl) | (right; right; right; right; left; rfl)))  | (simp [hr]; done) | assumption | exact hr.elim))))
        · have : l.length ≠ 0 := fun h => h0 (List.eq_nil_of_length_eq_zero h)
          rw [show decide (((l.length : Nat) : Int) > (0 : Int)) = true by rw [decide_eq_true_eq]; omega]
          rw [if_neg h0] at hU
          exact RdPost.yes _ hU H (fun r hr => by (try simp only [List.mem_cons] at hr ⊢); (repeat (first | (rcases hr with rfl | hr; (first | (left; rfl) | (right; left; rfl) | (right; right; left; rfl) | (right; right; right; left; rfl) | (right; right; right; right; left; rfl)))  | (simp [hr]; done) | assumption | exact hr.elim))) (fun G h => by repeat (first | exact DeepL.nil _ _ | exact DeepL.ones _ | refine DeepL.cons (Deep.emp _ _) ?_ | refine DeepL.cons (Deep.one _) ?_ | refine DeepL.cons (h (.deep [_] [_]) (by assumption)).head ?_ | refine DeepL.cons (h (.deep [_] [_]) (by first | assumption | exact List.mem_cons_self | (apply List.mem_cons_of_mem; first | assumption | exact List.mem_cons_self | (apply List.mem_cons_of_mem; first | assumption | exact List.mem_cons_self | (apply List.mem_cons_of_mem; first | assumption | exact List.mem_cons_self | (apply List.mem_cons_of_mem; first | assumption | exact List.mem_cons_self | (apply List.mem_cons_of_mem; first | assumption | exact List.mem_cons_self))))))).head ?_))
      · have h3 : ¬ b52l = 0 := by simpa using h3
        rw [if_neg (by omega)] at hen
        exact RdPost.no (by rw [hU, hen]; rfl) (H.sub (by repeat (first | exact List.Sublist.refl _ | exact List.nil_sublist _ | apply List.Sublist.cons_cons | apply List.Sublist.cons)) (fun r hr => by (try simp only [List.mem_cons] at hr ⊢); (repeat (first | (rcases hr with rfl | hr; (first | (left; rfl) | (right; left; rfl) | (right; right; left; rfl) | (right; right; right; left; rfl) | (right; right; right; right; left; rfl)))  | (simp [hr]; done) | assumption | exact hr.elim))))
  have h11 : ¬ k = 11 := by simpa using h1
  have H1 := H.skipB hx 8 (by omega)
  replace H := H1; clear H1 hbody
  refine ⟨fun h1 => ?_, fun h1 => ?_⟩   -- (x4 == (12 : Int))
  · have h12 : k = 12 := by simpa using h1
    subst h12
    have hU : rdFb 12 hp hc ht hl xs = rdRemb s m (xs.drop 8) := by
      unfold rdFb; rw [hsd, hmd]; simp only; rw [if_neg (by omega), if_neg (by omega), if_neg (by omega), if_neg (by omega), if_pos trivial]
    rw [hU]
    refine call_j (c26 (H.sub (ex' := .blk p 38 (pk0 12 s m false 0 0 0) :: ex) (ro' := _) (by repeat (first | exact List.Sublist.refl _ | exact List.nil_sublist _ | apply List.Sublist.cons_cons | apply List.Sublist.cons)) (fun _ h => h)) List.mem_cons_self h8 (by omega)) ?_
    intro en w' hP
    exact (RdPost.weak hP).ret
  have h12 : ¬ k = 12 := by simpa using h1
  refine ⟨fun h1 => ?_, fun h1 => ?_⟩   -- (x4 == (8 : Int))
  · have h8' : k = 8 := by simpa using h1
    subst h8'
    have hU : rdFb 8 hp hc ht hl xs = rdCc s (xs.drop 4) := by
      unfold rdFb; rw [hsd, hmd]; simp only; rw [if_neg (by omega), if_neg (by omega), if_neg (by omega), if_neg (by omega), if_neg (by omega), if_pos trivial]
    rw [hU]
    refine ⟨_, rfl, ?_⟩
    refine sSt1 H (by first | exact add_flat _ _ _ | exact add_flat2 _ _ _ _ | rfl) (by kernel_rfl) (by rfl) (by first | rfl | (simp only [List.all_cons, List.all_nil, Value.cells]; simp [*])) ?_; clear H; intro w _ H   -- StV pg 23 (p_72.add 2) (.int .u32 (0 : Int)) w_2 w_73
    refine ⟨by omega, by omega, ?_⟩
    have H1 := H.skipB (List.mem_cons_of_mem _ hx) 4 (by omega)
    refine call_j (c27 (H1.sub (ex' := .blk p 38 (pk0 8 s 0 false 0 0 0) :: ex) (ro' := _) (by repeat (first | exact List.Sublist.refl _ | exact List.nil_sublist _ | apply List.Sublist.cons_cons | apply List.Sublist.cons)) (fun _ h => h)) List.mem_cons_self (hb.drop 4) (by omega)) ?_
    intro en w' hP
    exact (RdPost.weak (RdPost.weak hP)).ret
  have h8' : ¬ k = 8 := by simpa using h1
  have h13 : k = 13 := by omega
  subst h13
  have hU : rdFb 13 hp hc ht hl xs = rdT s m hp hc ht hl (xs.drop 8) := by
    unfold rdFb; rw [hsd, hmd]; simp only; rw [if_neg (by omega), if_neg (by omega), if_neg (by omega), if_neg (by omega), if_neg (by omega), if_neg (by omega)]
  rw [hU]
  refine ⟨_, _, _, _, (by first | exact Ld0 rfl H.b0 (by kernel_rfl) | exact Ld0 rfl H.b1 (by kernel_rfl) | exact Ld0 rfl H.b2 (by kernel_rfl) | exact Ld0 rfl H.b3 (by kernel_rfl) | exact Ld0 rfl H.b4 (by kernel_rfl) | exact Ld0 rfl H.b5 (by kernel_rfl) | exact Ld0 rfl H.b6 (by kernel_rfl) | exact Ld0 rfl H.b7 (by kernel_rfl) | exact Ld0 rfl H.b8 (by kernel_rfl) | exact Ld0 rfl H.b9 (by kernel_rfl)), ?_⟩   -- LdV pg 36 p_1 (.agg #[.bool x76, .int .u8 x77, .int .u8 x78, .int .u16 x79]) w_2
  refine ⟨_, rfl, ?_⟩
  refine sSt1 H (by first | exact add_flat _ _ _ | exact add_flat2 _ _ _ _ | rfl) (by kernel_rfl) (by rfl) (by first | rfl | (simp only [List.all_cons, List.all_nil, Value.cells]; simp [*])) ?_; clear H; intro w _ H   -- StV pg 36 (p_80.add 26) (.agg #[.bool x76, .int .u8 x77, .int .u8 x78, .int .u16 x79]) w_2 w_81
  refine call_j (c28 (H.sub (ex' := .blk p 38 (pk0 13 s m hp hc ht hl) :: ex) (ro' := _) (by repeat (first | exact List.Sublist.refl _ | exact List.nil_sublist _ | apply List.Sublist.cons_cons | apply List.Sublist.cons)) (fun _ h => h)) List.mem_cons_self h8 (by omega)) ?_
  intro en w' hP
  exact (RdPost.weak hP).ret
end Go.Proofs.YtkdialecadjedaaGreat
