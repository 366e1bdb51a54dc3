/- spec.readGoodbye: what it computes (no statement of the seat is proved here; conditions: its slice reads bytes). -/
import Derived.Test.YtkdialecadjedaaGreatRd3
import Derived.Test.YtkdialecadjedaaGreatPk2
namespace Go.Proofs.YtkdialecadjedaaGreat
set_option linter.unusedVariables false
set_option linter.unusedSimpArgs false
set_option linter.unusedSectionVars false
open Go

def RdPost (F : Fr) (p : Nat) (ex : List Ex) (ro : List Ro) (q : Option Pk) (en : Ending) (w' : World) : Prop := match q with
  | some pk => en = .returned (.bool true) ∧ ∃ cells, Sat F w' (.blk p 38 cells :: ex) (.deep pk.dat cells :: ro)
  | none => en = .returned (.bool false) ∧ ∃ cells, Sat F w' (.blk p 38 cells :: ex) ro
theorem RdPost.no {F : Fr} {p : Nat} {ex : List Ex} {ro : List Ro} {q : Option Pk} {w : World} {cells : List Value} (hq : q = none) (H : Sat F w (.blk p 38 cells :: ex) ro) : RdPost F p ex ro q (.returned (.bool false)) w := by
  subst hq; exact ⟨rfl, _, H⟩
theorem RdPost.yes {F : Fr} {p : Nat} {ex : List Ex} {ro ro' : List Ro} {q : Option Pk} {w : World} {cells : List Value} (pk : Pk) (hq : q = some pk) (H : Sat F w (.blk p 38 cells :: ex) ro') (hs : ∀ r ∈ ro, r ∈ ro')
    (hD : ∀ G : Nat → Prop, (∀ r ∈ ro', Ro.holds w G r) → DeepL w G pk.dat cells) : RdPost F p ex ro q (.returned (.bool true)) w := by
  subst hq
  refine ⟨rfl, _, (H.addD hD).sub (List.Sublist.refl _) fun r hr => ?_⟩
  rcases List.mem_cons.1 hr with rfl | hr
  · exact List.mem_cons_self
  · exact List.mem_cons_of_mem _ (hs r hr)
theorem words_snoc : ∀ (i : Nat) (xs : List Int), words (i + 1) xs = words i xs ++ [n32 (xs.drop (4 * i))]
  | 0, xs => by simp [words]
  | i + 1, xs => by
    rw [words, words_snoc i, words]
    simp only [List.cons_append, List.drop_drop]
    rw [show 4 + 4 * i = 4 * (i + 1) by omega]
theorem oi_snoc (k : IntKind) (l : List Int) (x : Int) : oi k (l ++ [x]) = oi k l ++ [.one (.int k x)] := by simp [oi]
theorem all_zero : ∀ (xs : List Int), xs.all (· == 0) = true ↔ ∀ i, i < xs.length → xs.getD i 0 = 0 := by
  intro xs
  rw [List.all_eq_true]
  constructor
  · intro h i hi
    have := h (xs[i]) (List.getElem_mem hi)
    simpa [List.getD, List.getElem?_eq_getElem hi] using this
  · intro h x hx
    obtain ⟨i, hi, rfl⟩ := List.getElem_of_mem hx
    have := h i hi
    simpa [List.getD, List.getElem?_eq_getElem hi] using this
theorem getD_drop (xs : List Int) (k i : Nat) : (xs.drop k).getD i 0 = xs.getD (k + i) 0 := by simp [List.getD]
theorem c14 {F : Fr} {w : World} {ex : List Ex} {ro : List Ro} {xs : List Int} {a : Option Addr} {n c : Nat} {p : Nat} (H : Sat F w (.blk p 38 (pk0 4 0 0 false 0 0 0) :: ex) ro) (hx : Ro.B xs a n c ∈ ro) (hb : By xs)
    (hn : n ≤ 1000000) {k : Nat} (hk : k ≤ 31) : Calls pg 14 #[.pointer (some ⟨p, 0, none⟩), .slice a n c, .int .i64 (k : Int)] w (RdPost F p ex ro (rdBye k xs)) := by
  apply of14
  have hlen := H.lenB hx
  refine ⟨fun hc => ?_, fun hc => ?_⟩   -- (decide (((b_1l : Nat) : Int) < (IntKind.i64.wrap ((4 : Int) * n_2))))
  · rw [wi64_of (n := 4 * (k : Int)) (by omega) (by omega), decide_eq_true_eq] at hc
    exact RdPost.no (by unfold rdBye; rw [if_pos (by omega)]) H
  rw [wi64_of (n := 4 * (k : Int)) (by omega) (by omega), decide_eq_false_iff_not] at hc
  refine ⟨fun b7 b7l b7c x8 m_3 w => ∃ (i : Nat) (o : Option Addr) (oc : Nat) (r : Option Nat), x8 = (i : Int) ∧ i + m_3 = k ∧ b7l + 4 * i = n ∧
    Sat F w (.blk p 38 ((pk0 4 0 0 false 0 0 0).set 10 (.slice o i oc)) :: .own 23 1 o i oc r (oi .u32 (words i xs)) :: ex) (Ro.B (xs.drop (4 * i)) b7 b7l b7c :: ro), ⟨k, 0, none, 0, none, rfl, by omega, by omega, ?_⟩, ?_⟩
  · exact ((H.addRo (H.hr _ hx)).nilOwn 23 1).u1
  · clear H; rintro dd2 b7 b7l b7c x8 m_3 w ⟨i, o, oc, r, rfl, hm, hbl, H⟩
    refine ⟨fun hc => ?_, fun hc => ?_⟩   -- (decide (x8 < n_2))
    · rw [decide_eq_true_eq] at hc
      have hby : By (xs.drop (4 * i)) := hb.drop _
      refine ⟨r, ?_⟩; replace H := H.drew; generalize w.drew = wd1 at H ⊢; have K := grew_refl wd1 (r)
      refine ⟨_, rfl, ?_⟩
      refine ⟨(by first | exact Option.some_ne_none _ | exact H.ne (by first | exact List.mem_cons_self | (apply List.mem_cons_of_mem; first | exact List.mem_cons_self | (apply List.mem_cons_of_mem; first | exact List.mem_cons_self | (apply List.mem_cons_of_mem; first | exact List.mem_cons_self | (apply List.mem_cons_of_mem; first | exact List.mem_cons_self | (apply List.mem_cons_of_mem; first | exact List.mem_cons_self | (apply List.mem_cons_of_mem; first | exact List.mem_cons_self | (apply List.mem_cons_of_mem; first | exact List.mem_cons_self)))))))) (by first | exact List.mem_cons_self | (apply List.mem_cons_of_mem; first | exact List.mem_cons_self | (apply List.mem_cons_of_mem; first | exact List.mem_cons_self | (apply List.mem_cons_of_mem; first | exact List.mem_cons_self | (apply List.mem_cons_of_mem; first | exact List.mem_cons_self | (apply List.mem_cons_of_mem; first | exact List.mem_cons_self | (apply List.mem_cons_of_mem; first | exact List.mem_cons_self | (apply List.mem_cons_of_mem; first | exact List.mem_cons_self))))))))), ?_⟩   -- some ((p_10.add 10)).block ≠ r9
      refine ⟨(by first | exact H.b0.row | exact H.b1.row | exact H.b2.row | exact H.b3.row | exact H.b4.row | exact H.b5.row | exact H.b6.row | exact H.b7.row), ?_⟩   -- ∃ c ty f, wd1.heap[((p_10.add 10)).block]? = some (.cells c
      refine ⟨_, _, _, (by first | exact Ce (by first | exact add_flat _ _ _ | exact add_flat2 _ _ _ _ | rfl) H.b0 rfl | exact Ce (by first | exact add_flat _ _ _ | exact add_flat2 _ _ _ _ | rfl) H.b1 rfl | exact Ce (by first | exact add_flat _ _ _ | exact add_flat2 _ _ _ _ | rfl) H.b2 rfl | exact Ce (by first | exact add_flat _ _ _ | exact add_flat2 _ _ _ _ | rfl) H.b3 rfl | exact Ce (by first | exact add_flat _ _ _ | exact add_flat2 _ _ _ _ | rfl) H.b4 rfl | exact Ce (by first | exact add_flat _ _ _ | exact add_flat2 _ _ _ _ | rfl) H.b5 rfl | exact Ce (by first | exact add_flat _ _ _ | exact add_flat2 _ _ _ _ | rfl) H.b6 rfl | exact Ce (by first | exact add_flat _ _ _ | exact add_flat2 _ _ _ _ | rfl) H.b7 rfl | exact Ce (by first | exact add_flat _ _ _ | exact add_flat2 _ _ _ _ | rfl) H.b8 rfl | exact Ce (by first | exact add_flat _ _ _ | exact add_flat2 _ _ _ _ | rfl) H.b9 rfl), ?_⟩   -- wd1.cell? (p_10.add 10) = some (.slice x11 x11l x11c)
      refine call_j (c10 (by first | exact (Sat.rd H (by first | assumption | exact List.mem_cons_self | (apply List.mem_cons_of_mem; first | assumption | exact List.mem_cons_self | (apply List.mem_cons_of_mem; first | assumption | exact List.mem_cons_self | (apply List.mem_cons_of_mem; first | assumption | exact List.mem_cons_self | (apply List.mem_cons_of_mem; first | assumption | exact List.mem_cons_self | (apply List.mem_cons_of_mem; first | assumption | exact List.mem_cons_self))))))) | exact Rd.skip (Sat.rd H (by first | assumption | exact List.mem_cons_self | (apply List.mem_cons_of_mem; first | assumption | exact List.mem_cons_self | (apply List.mem_cons_of_mem; first | assumption | exact List.mem_cons_self | (apply List.mem_cons_of_mem; first | assumption | exact List.mem_cons_self | (apply List.mem_cons_of_mem; first | assumption | exact List.mem_cons_self | (apply List.mem_cons_of_mem; first | assumption | exact List.mem_cons_self))))))) _ (by omega) | exact Rd.skip (Rd.skip (Sat.rd H (by first | assumption | exact List.mem_cons_self | (apply List.mem_cons_of_mem; first | assumption | exact List.mem_cons_self | (apply List.mem_cons_of_mem; first | assumption | exact List.mem_cons_self | (apply List.mem_cons_of_mem; first | assumption | exact List.mem_cons_self | (apply List.mem_cons_of_mem; first | assumption | exact List.mem_cons_self | (apply List.mem_cons_of_mem; first | assumption | exact List.mem_cons_self))))))) _ (by omega)) _ (by omega) | exact Rd.cut (Sat.rd H (by first | assumption | exact List.mem_cons_self | (apply List.mem_cons_of_mem; first | assumption | exact List.mem_cons_self | (apply List.mem_cons_of_mem; first | assumption | exact List.mem_cons_self | (apply List.mem_cons_of_mem; first | assumption | exact List.mem_cons_self | (apply List.mem_cons_of_mem; first | assumption | exact List.mem_cons_self | (apply List.mem_cons_of_mem; first | assumption | exact List.mem_cons_self))))))) _ _ (by omega) (by omega) | exact Rd.skip (Rd.skip (Rd.skip (Sat.rd H (by first | assumption | exact List.mem_cons_self | (apply List.mem_cons_of_mem; first | assumption | exact List.mem_cons_self | (apply List.mem_cons_of_mem; first | assumption | exact List.mem_cons_self | (apply List.mem_cons_of_mem; first | assumption | exact List.mem_cons_self | (apply List.mem_cons_of_mem; first | assumption | exact List.mem_cons_self | (apply List.mem_cons_of_mem; first | assumption | exact List.mem_cons_self))))))) _ (by omega)) _ (by omega)) _ (by omega) | assumption) hby (by omega)) ?_
      rintro _ w ⟨rfl, g⟩
      replace H := H.grow g; replace K := World.grownBy.trans K (grew_none _ g); clear g
      refine ⟨_, rfl, ?_⟩
      refine ⟨K, ?_⟩   -- wd1.grownBy w_13 r9
      refine ⟨rfl, ?_⟩
      refine sNew H ?_; clear H; intro b14 w g H; replace K := World.grownBy.trans K (grew_none _ g); clear g   -- (#[.int .u32 x12])
      refine ⟨K, ?_⟩   -- wd1.grownBy w_15 r9
      refine sApp2 H (bytes := 4) (by kernel_rfl) [.int .u32 (n32 (xs.drop (4 * i)))] [.one (.int .u32 (n32 (xs.drop (4 * i))))] (by rfl) (fun j u hu => by rw [add_flat, Nat.zero_add]; exact H.b0.cell hu) (fun G h => by repeat (first | exact DeepL.nil _ _ | exact DeepL.ones _ | refine DeepL.cons (Deep.emp _ _) ?_ | refine DeepL.cons (Deep.one _) ?_ | refine DeepL.cons (h (.deep [_] [_]) (by assumption)).head ?_ | refine DeepL.cons (h (.deep [_] [_]) (by first | assumption | exact List.mem_cons_self | (apply List.mem_cons_of_mem; first | assumption | exact List.mem_cons_self | (apply List.mem_cons_of_mem; first | assumption | exact List.mem_cons_self | (apply List.mem_cons_of_mem; first | assumption | exact List.mem_cons_self | (apply List.mem_cons_of_mem; first | assumption | exact List.mem_cons_self | (apply List.mem_cons_of_mem; first | assumption | exact List.mem_cons_self))))))).head ?_)) (by simp [Value.oneCell']) (by unfold maxLen; omega) (by omega) ?_
      clear H; intro x16 x16l x16c x16r w ex16 g H
      replace K := World.grownBy.trans K g; clear g; replace H := H.sub (List.sublist_cons_self _ _) (fun _ h => h)
      refine ⟨K, ?_⟩   -- wd1.grownBy w_17 r9
      refine ⟨_, rfl, ?_⟩
      refine sSt0 H (by first | exact add_flat _ _ _ | exact add_flat2 _ _ _ _ | rfl) (by kernel_rfl) (by rfl) (by first | rfl | (simp only [List.all_cons, List.all_nil, Value.cells]; simp [*])) ?_; clear H; intro w _ H   -- StV pg 27 (p_18.add 10) (.slice x16 x16l x16c) w_17 w_19
      refine ⟨by omega, by omega, ?_⟩
      subst ex16
      refine ⟨m_3 - 1, by omega, i + 1, x16, x16c, x16r, ?_, by omega, by omega, ?_⟩
      · rw [wi64_of (by omega) (by omega)]; simp
      · have H2 := H.skipB List.mem_cons_self 4 (by omega)
        rw [List.drop_drop, show 4 * i + 4 = 4 * (i + 1) by omega] at H2
        rw [words_snoc, oi_snoc]
        exact H2.sub (List.Sublist.refl _) (fun r hr => by (try simp only [List.mem_cons] at hr ⊢); (repeat (first | (rcases hr with rfl | hr; (first | (left; rfl) | (right; left; rfl) | (right; right; left; rfl) | (right; right; right; left; rfl) | (right; right; right; right; left; rfl)))  | (simp [hr]; done) | assumption | exact hr.elim)))
    · rw [decide_eq_false_iff_not] at hc
      obtain rfl : i = k := by omega
      have hl7 := H.lenB List.mem_cons_self
      generalize hys : xs.drop (4 * i) = ys at H hl7
      have hyb : By ys := by rw [← hys]; exact hb.drop _
      have H1 := H.r1.freeze
      replace H := H1; clear H1
      have hU : rdBye i xs = if ys.length = 0 then some { kind := 4, sources := words i xs } else
          if ys.length < 1 + (ys.getD 0 0).toNat then none else if 3 < ys.length - (1 + (ys.getD 0 0).toNat) then none else if 1 + (ys.getD 0 0).toNat = 1 then none else
          if (ys.drop (1 + (ys.getD 0 0).toNat)).all (· == 0) then some { kind := 4, sources := words i xs, text := strOfNums ((ys.drop 1).take (1 + (ys.getD 0 0).toNat - 1)) } else none := by
        unfold rdBye
        rw [if_neg (by omega), hys]
      refine ⟨fun hc => ?_, fun hc => ?_⟩   -- (((b7l : Nat) : Int) == (0 : Int))
      · have hc : b7l = 0 := by simpa using hc
        refine RdPost.yes { kind := 4, sources := words i xs } ?_ H (fun r hr => by (try simp only [List.mem_cons] at hr ⊢); (repeat (first | (rcases hr with rfl | hr; (first | (left; rfl) | (right; left; rfl) | (right; right; left; rfl) | (right; right; right; left; rfl) | (right; right; right; right; left; rfl)))  | (simp [hr]; done) | assumption | exact hr.elim))) (fun G h => by repeat (first | exact DeepL.nil _ _ | exact DeepL.ones _ | refine DeepL.cons (Deep.emp _ _) ?_ | refine DeepL.cons (Deep.one _) ?_ | refine DeepL.cons (h (.deep [_] [_]) (by assumption)).head ?_ | refine DeepL.cons (h (.deep [_] [_]) (by first | assumption | exact List.mem_cons_self | (apply List.mem_cons_of_mem; first | assumption | exact List.mem_cons_self | (apply List.mem_cons_of_mem; first | assumption | exact List.mem_cons_self | (apply List.mem_cons_of_mem; first | assumption | exact List.mem_cons_self | (apply List.mem_cons_of_mem; first | assumption | exact List.mem_cons_self | (apply List.mem_cons_of_mem; first | assumption | exact List.mem_cons_self))))))).head ?_))
        rw [hU, if_pos (by omega)]
      · have hc : b7l ≠ 0 := by simpa using hc
        obtain ⟨p_20, rfl, hp_20, kp_20, fp_20⟩ := H.at_ (a := b7) (xs := ys) (by first | assumption | exact List.mem_cons_self | (apply List.mem_cons_of_mem; first | assumption | exact List.mem_cons_self | (apply List.mem_cons_of_mem; first | assumption | exact List.mem_cons_self | (apply List.mem_cons_of_mem; first | assumption | exact List.mem_cons_self | (apply List.mem_cons_of_mem; first | assumption | exact List.mem_cons_self | (apply List.mem_cons_of_mem; first | assumption | exact List.mem_cons_self)))))) (by omega)
        refine ⟨p_20, rfl, by omega, by omega, ?_⟩   -- b7[(0 : Int)]
        refine ⟨_, hp_20 0 (by omega), ?_⟩   -- w_6.cell? (p_20.add ((0 : Int).toNat * 1)) = some (.int .u8 x21)
        have hy0 := hyb.getD 0
        generalize hl : ys.getD 0 0 = L at hU hy0
        have eL : IntKind.i64.wrap ((1 : Int) + IntKind.i64.wrap L) = 1 + L := by rw [wi64_of (n := L) (by omega) (by omega), wi64_of (by omega) (by omega)]
        rw [eL]
        refine ⟨fun hc => ?_, fun hc => ?_⟩
        · rw [decide_eq_true_eq] at hc
          exact RdPost.no (by rw [hU, if_neg (by omega), if_pos (by omega)]) (H.sub (List.Sublist.refl _) (fun r hr => by (try simp only [List.mem_cons] at hr ⊢); (repeat (first | (rcases hr with rfl | hr; (first | (left; rfl) | (right; left; rfl) | (right; right; left; rfl) | (right; right; right; left; rfl) | (right; right; right; right; left; rfl)))  | (simp [hr]; done) | assumption | exact hr.elim))))
        rw [decide_eq_false_iff_not] at hc
        rw [wi64_of (n := (b7l : Int) - (1 + L)) (by omega) (by omega)]
        refine ⟨fun hc2 => ?_, fun hc2 => ?_⟩
        · rw [decide_eq_true_eq] at hc2
          exact RdPost.no (by rw [hU, if_neg (by omega), if_neg (by omega), if_pos (by omega)]) (H.sub (List.Sublist.refl _) (fun r hr => by (try simp only [List.mem_cons] at hr ⊢); (repeat (first | (rcases hr with rfl | hr; (first | (left; rfl) | (right; left; rfl) | (right; right; left; rfl) | (right; right; right; left; rfl) | (right; right; right; right; left; rfl)))  | (simp [hr]; done) | assumption | exact hr.elim))))
        rw [decide_eq_false_iff_not] at hc2
        refine ⟨fun hc3 => ?_, fun hc3 => ?_⟩
        · have hc3 : 1 + L = 1 := by simpa using hc3
          exact RdPost.no (by rw [hU, if_neg (by omega), if_neg (by omega), if_neg (by omega), if_pos (by omega)]) (H.sub (List.Sublist.refl _) (fun r hr => by (try simp only [List.mem_cons] at hr ⊢); (repeat (first | (rcases hr with rfl | hr; (first | (left; rfl) | (right; left; rfl) | (right; right; left; rfl) | (right; right; right; left; rfl) | (right; right; right; right; left; rfl)))  | (simp [hr]; done) | assumption | exact hr.elim))))
        have hc3 : ¬ 1 + L = 1 := by simpa using hc3
        have hcap := (H.deep1 (d := .row 1 (ob ys)) (v := .slice (some p_20) b7l b7c) (by first | assumption | exact List.mem_cons_self | (apply List.mem_cons_of_mem; first | assumption | exact List.mem_cons_self | (apply List.mem_cons_of_mem; first | assumption | exact List.mem_cons_self | (apply List.mem_cons_of_mem; first | assumption | exact List.mem_cons_self | (apply List.mem_cons_of_mem; first | assumption | exact List.mem_cons_self | (apply List.mem_cons_of_mem; first | assumption | exact List.mem_cons_self))))))).len
        refine ⟨by omega, by omega, ?_⟩
        refine ⟨by omega, by omega, ?_⟩
        have HT := H.cutB (xs := ys) (a := some p_20) (n := b7l) (c := b7c) (by first | assumption | exact List.mem_cons_self | (apply List.mem_cons_of_mem; first | assumption | exact List.mem_cons_self | (apply List.mem_cons_of_mem; first | assumption | exact List.mem_cons_self | (apply List.mem_cons_of_mem; first | assumption | exact List.mem_cons_self | (apply List.mem_cons_of_mem; first | assumption | exact List.mem_cons_self | (apply List.mem_cons_of_mem; first | assumption | exact List.mem_cons_self)))))) 1 (1 + L).toNat (by omega) (by omega)
        refine ⟨_, _, sStr HT List.mem_cons_self uSl uU8 uStr, ?_⟩
        clear HT
        refine ⟨_, rfl, ?_⟩
        refine sSt0 H (by first | exact add_flat _ _ _ | exact add_flat2 _ _ _ _ | rfl) (by kernel_rfl) (by rfl) (by first | rfl | (simp only [List.all_cons, List.all_nil, Value.cells]; simp [*])) ?_; clear H; intro w _ H   -- StV pg 9 (p_24.add 11) (.string x22) w_23 w_25
        refine ⟨by omega, by omega, ?_⟩
        have H1 := H.skipB (xs := ys) (a := some p_20) (n := b7l) (c := b7c) (by first | assumption | exact List.mem_cons_self | (apply List.mem_cons_of_mem; first | assumption | exact List.mem_cons_self | (apply List.mem_cons_of_mem; first | assumption | exact List.mem_cons_self | (apply List.mem_cons_of_mem; first | assumption | exact List.mem_cons_self | (apply List.mem_cons_of_mem; first | assumption | exact List.mem_cons_self | (apply List.mem_cons_of_mem; first | assumption | exact List.mem_cons_self)))))) (1 + L).toNat (by omega)
        replace H := H1; clear H1
        refine ⟨fun x32 m_28 w => ∃ j : Nat, x32 = (j : Int) ∧ j + m_28 = b7l - (1 + L).toNat ∧ (∀ q, q < j → (ys.drop (1 + L).toNat).getD q 0 = 0) ∧ Sat F w (.blk p 38 (((pk0 4 0 0 false 0 0 0).set 10 (.slice o i oc)).set 11 (.string (strOfNums ((ys.drop 1).take ((1 + L).toNat - 1))))) :: ex)
          (Ro.B (ys.drop (1 + L).toNat) (cutA (some p_20) (1 + L).toNat b7c 1) (b7l - (1 + L).toNat) (b7c - (1 + L).toNat) :: .deep [.row 1 (oi .u32 (words i xs))] [.slice o i oc] :: ro), ⟨_, 0, rfl, Nat.zero_add _, by simp, ?_⟩, ?_⟩
        · exact H.sub (List.Sublist.refl _) (fun r hr => by (try simp only [List.mem_cons] at hr ⊢); (repeat (first | (rcases hr with rfl | hr; (first | (left; rfl) | (right; left; rfl) | (right; right; left; rfl) | (right; right; right; left; rfl) | (right; right; right; right; left; rfl)))  | (simp [hr]; done) | assumption | exact hr.elim)))
        · clear H; rintro dd27 x32 m_28 w ⟨j, rfl, hj, hz, H⟩
          refine ⟨fun hc => ?_, fun hc => ?_⟩
          · rw [decide_eq_true_eq] at hc
            obtain ⟨p_33, ep_33, hp_33, kp_33, fp_33⟩ := H.at_ List.mem_cons_self (by omega)
            refine ⟨p_33, ep_33, by omega, by omega, ?_⟩
            refine ⟨_, hp_33 _ (by omega), ?_⟩
            rw [show (j : Int).toNat * 1 = j by omega]
            refine ⟨fun hc4 => ?_, fun hc4 => ?_⟩
            · have hc4 : ¬ (ys.drop (1 + L).toNat).getD j 0 = 0 := by simpa using hc4
              refine RdPost.no ?_ (H.sub (List.Sublist.refl _) (fun r hr => by (try simp only [List.mem_cons] at hr ⊢); (repeat (first | (rcases hr with rfl | hr; (first | (left; rfl) | (right; left; rfl) | (right; right; left; rfl) | (right; right; right; left; rfl) | (right; right; right; right; left; rfl)))  | (simp [hr]; done) | assumption | exact hr.elim))))
              have hall : ¬ ((ys.drop (1 + L.toNat)).all (· == 0)) = true := by
                rw [show 1 + L.toNat = (1 + L).toNat by omega, all_zero]
                exact fun h => hc4 (h j (by rw [List.length_drop]; omega))
              rw [hU, if_neg (by omega), if_neg (by omega), if_neg (by omega), if_neg (by omega), if_neg hall]
            · have hc4 : (ys.drop (1 + L).toNat).getD j 0 = 0 := by simpa using hc4
              refine ⟨m_28 - 1, by omega, j + 1, ?_, by omega, ?_, H⟩
              · rw [wi64_of (by omega) (by omega)]; simp
              · intro q hq
                rcases Nat.lt_or_ge q j with h | h
                · exact hz q h
                · obtain rfl : q = j := by omega
                  exact hc4
          · rw [decide_eq_false_iff_not] at hc
            have hall : (ys.drop (1 + L.toNat)).all (· == 0) = true := by
              rw [show 1 + L.toNat = (1 + L).toNat by omega, all_zero]
              exact fun q hq => hz q (by rw [List.length_drop] at hq; omega)
            refine RdPost.yes { kind := 4, sources := words i xs, text := strOfNums ((ys.drop 1).take (1 + L.toNat - 1)) } ?_ H (fun r hr => by (try simp only [List.mem_cons] at hr ⊢); (repeat (first | (rcases hr with rfl | hr; (first | (left; rfl) | (right; left; rfl) | (right; right; left; rfl) | (right; right; right; left; rfl) | (right; right; right; right; left; rfl)))  | (simp [hr]; done) | assumption | exact hr.elim))) ?_
            · rw [hU, if_neg (by omega), if_neg (by omega), if_neg (by omega), if_neg (by omega), if_pos hall]
            · rw [show 1 + L.toNat - 1 = (1 + L).toNat - 1 by omega]
              exact (fun G h => by repeat (first | exact DeepL.nil _ _ | exact DeepL.ones _ | refine DeepL.cons (Deep.emp _ _) ?_ | refine DeepL.cons (Deep.one _) ?_ | refine DeepL.cons (h (.deep [_] [_]) (by assumption)).head ?_ | refine DeepL.cons (h (.deep [_] [_]) (by first | assumption | exact List.mem_cons_self | (apply List.mem_cons_of_mem; first | assumption | exact List.mem_cons_self | (apply List.mem_cons_of_mem; first | assumption | exact List.mem_cons_self | (apply List.mem_cons_of_mem; first | assumption | exact List.mem_cons_self | (apply List.mem_cons_of_mem; first | assumption | exact List.mem_cons_self | (apply List.mem_cons_of_mem; first | assumption | exact List.mem_cons_self))))))).head ?_))
end Go.Proofs.YtkdialecadjedaaGreat
