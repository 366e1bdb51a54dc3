/- A vector of statuses, read by rtcp (no statement of the seat is proved here; conditions: the slice reads bytes). -/
import Derived.Test.YtkdialecadjedaaGreatT1
namespace Go.Proofs.YtkdialecadjedaaGreat
set_option linter.unusedVariables false
set_option linter.unusedSimpArgs false
set_option linter.unusedSectionVars false
open Go

theorem c169 {F : Fr} {w : World} {ex : List Ex} {ro : List Ro} {xs : List Int} {a : Option Addr} {n c : Nat} {b : Nat} {t : TypeId} {c0 c1 c2 : Value} (H : Sat F w (.blk b t [c0, c1, c2, .slice none 0 0] :: ex) ro)
    (hx : Ro.B xs a n c ∈ ro) (hb : By xs) (hn : n = 2) (h1 : n16 xs / 32768 ≠ 0) : Calls pg 169 #[.pointer (some ⟨b, 0, none⟩), .slice a n c] w fun en w' => en = .returned .nilIface ∧
      ∃ l lc, Sat F w' (.blk b t [c0, .int .u16 1, .int .u16 (n16 xs / 16384 % 2), .slice l (symL (n16 xs)).length lc] :: ex) (.deep [.row 1 (oi .u16 (symL (n16 xs)))] [.slice l (symL (n16 xs)).length lc] :: ro) := by
  apply of169
  subst hn
  have h0 := hb.getD 0
  have hh1 := hb.getD 1
  have hv := n16_lt hb
  have hsy := symL_vec h1 hv
  have hv2 : n16 xs = xs.getD 0 0 * 256 + xs.getD 1 0 := rfl
  refine ⟨fun hc => absurd hc (by decide), fun _ => ?_⟩
  refine ⟨_, rfl, ?_⟩
  refine sSt0 H (by first | exact add_flat _ _ _ | exact add_flat2 _ _ _ _ | rfl) (by kernel_rfl) (by rfl) (by first | rfl | (simp only [List.all_cons, List.all_nil, Value.cells]; simp [*])) ?_; clear H; intro w _ H
  obtain ⟨p, rfl, hp, kp, fp⟩ := H.at_ (a := a) hx (by omega)
  refine ⟨p, rfl, by omega, by omega, ?_⟩
  refine ⟨_, hp 0 (by omega), ?_⟩
  refine call_j (c166 (by omega) (by omega)) ?_
  rintro _ w ⟨rfl, g⟩
  replace H := H.grow g; clear g
  refine ⟨_, rfl, ?_⟩
  refine ⟨_, rfl, ?_⟩
  have e1 : nbits (xs.getD 0 0) 1 1 = n16 xs / 16384 % 2 := by
    have := nb1 h0 (s := 1) (by omega)
    rw [show ((1 : Nat) : Int) = 1 from rfl] at this
    rw [this, show (2 : Int) ^ (7 - 1) = 64 from rfl]
    unfold n16; omega
  rw [e1]
  refine sSt0 H (by first | exact add_flat _ _ _ | exact add_flat2 _ _ _ _ | rfl) (by kernel_rfl) (by rfl) (by first | rfl | (simp only [List.all_cons, List.all_nil, Value.cells]; simp [*])) ?_; clear H; intro w _ H
  refine ⟨_, rfl, ?_⟩
  refine ⟨_, (by first | exact Ce (by first | exact add_flat _ _ _ | exact add_flat2 _ _ _ _ | rfl) H.b0 rfl | exact Ce (by first | exact add_flat _ _ _ | exact add_flat2 _ _ _ _ | rfl) H.b1 rfl | exact Ce (by first | exact add_flat _ _ _ | exact add_flat2 _ _ _ _ | rfl) H.b2 rfl | exact Ce (by first | exact add_flat _ _ _ | exact add_flat2 _ _ _ _ | rfl) H.b3 rfl | exact Ce (by first | exact add_flat _ _ _ | exact add_flat2 _ _ _ _ | rfl) H.b4 rfl | exact Ce (by first | exact add_flat _ _ _ | exact add_flat2 _ _ _ _ | rfl) H.b5 rfl | exact Ce (by first | exact add_flat _ _ _ | exact add_flat2 _ _ _ _ | rfl) H.b6 rfl | exact Ce (by first | exact add_flat _ _ _ | exact add_flat2 _ _ _ _ | rfl) H.b7 rfl | exact Ce (by first | exact add_flat _ _ _ | exact add_flat2 _ _ _ _ | rfl) H.b8 rfl | exact Ce (by first | exact add_flat _ _ _ | exact add_flat2 _ _ _ _ | rfl) H.b9 rfl), ?_⟩
  have hS : n16 xs / 16384 % 2 = 0 ∨ n16 xs / 16384 % 2 = 1 := by omega
  generalize n16 xs / 16384 % 2 = S at H hS hsy ⊢
  replace H := (H.nilOwn 32 1).u1
  refine ⟨fun hc => ?_, fun hc => ?_⟩   -- (x11 == (0 : Int))
  · have hc : S = 0 := by simpa using hc
    subst hc
    rw [if_pos rfl] at hsy
    refine ⟨fun x18 m_14 w => ∃ (i : Nat) (l : Option Addr) (lc : Nat) (r : Option Nat), x18 = (i : Int) ∧ i + m_14 = 6 ∧
      Sat F w (.blk b t [c0, .int .u16 1, .int .u16 0, .slice l i lc] :: .own 32 1 l i lc r (oi .u16 (vecL (n16 xs) 0 i)) :: ex) ro, ⟨6, 0, none, 0, none, rfl, by omega, H⟩, ?_⟩
    clear H; rintro dd13 x18 m_14 w ⟨i, l, lc, r, rfl, him, H⟩
    refine ⟨fun hc => ?_, fun hc => ?_⟩   -- (decide (x18 < (6 : Int)))
    · rw [decide_eq_true_eq] at hc
      refine ⟨r, ?_⟩; replace H := H.drew; generalize w.drew = wd1 at H ⊢; have K := grew_refl wd1 (r)
      refine ⟨_, rfl, ?_⟩
      refine ⟨(by first | exact Option.some_ne_none _ | exact H.ne (by first | exact List.mem_cons_self | (apply List.mem_cons_of_mem; first | exact List.mem_cons_self | (apply List.mem_cons_of_mem; first | exact List.mem_cons_self | (apply List.mem_cons_of_mem; first | exact List.mem_cons_self | (apply List.mem_cons_of_mem; first | exact List.mem_cons_self | (apply List.mem_cons_of_mem; first | exact List.mem_cons_self | (apply List.mem_cons_of_mem; first | exact List.mem_cons_self | (apply List.mem_cons_of_mem; first | exact List.mem_cons_self)))))))) (by first | exact List.mem_cons_self | (apply List.mem_cons_of_mem; first | exact List.mem_cons_self | (apply List.mem_cons_of_mem; first | exact List.mem_cons_self | (apply List.mem_cons_of_mem; first | exact List.mem_cons_self | (apply List.mem_cons_of_mem; first | exact List.mem_cons_self | (apply List.mem_cons_of_mem; first | exact List.mem_cons_self | (apply List.mem_cons_of_mem; first | exact List.mem_cons_self | (apply List.mem_cons_of_mem; first | exact List.mem_cons_self))))))))), ?_⟩   -- some ((p_20.add 3)).block ≠ r19
      refine ⟨(by first | exact H.b0.row | exact H.b1.row | exact H.b2.row | exact H.b3.row | exact H.b4.row | exact H.b5.row | exact H.b6.row | exact H.b7.row), ?_⟩   -- ∃ c ty f, wd1.heap[((p_20.add 3)).block]? = some (.cells c t
      refine ⟨_, _, _, (by first | exact Ce (by first | exact add_flat _ _ _ | exact add_flat2 _ _ _ _ | rfl) H.b0 rfl | exact Ce (by first | exact add_flat _ _ _ | exact add_flat2 _ _ _ _ | rfl) H.b1 rfl | exact Ce (by first | exact add_flat _ _ _ | exact add_flat2 _ _ _ _ | rfl) H.b2 rfl | exact Ce (by first | exact add_flat _ _ _ | exact add_flat2 _ _ _ _ | rfl) H.b3 rfl | exact Ce (by first | exact add_flat _ _ _ | exact add_flat2 _ _ _ _ | rfl) H.b4 rfl | exact Ce (by first | exact add_flat _ _ _ | exact add_flat2 _ _ _ _ | rfl) H.b5 rfl | exact Ce (by first | exact add_flat _ _ _ | exact add_flat2 _ _ _ _ | rfl) H.b6 rfl | exact Ce (by first | exact add_flat _ _ _ | exact add_flat2 _ _ _ _ | rfl) H.b7 rfl | exact Ce (by first | exact add_flat _ _ _ | exact add_flat2 _ _ _ _ | rfl) H.b8 rfl | exact Ce (by first | exact add_flat _ _ _ | exact add_flat2 _ _ _ _ | rfl) H.b9 rfl), ?_⟩   -- wd1.cell? (p_20.add 3) = some (.slice x21 x21l x21c)
      obtain ⟨p_22, e, hp, kp, fp⟩ := H.at_ (a := some p) hx (by omega)
      cases e
      refine ⟨p, rfl, by omega, by omega, ?_⟩   -- rawPacket_1[(0 : Int)]
      refine ⟨H.ne_own (by first | exact List.mem_cons_self | (apply List.mem_cons_of_mem; first | exact List.mem_cons_self | (apply List.mem_cons_of_mem; first | exact List.mem_cons_self | (apply List.mem_cons_of_mem; first | exact List.mem_cons_self | (apply List.mem_cons_of_mem; first | exact List.mem_cons_self | (apply List.mem_cons_of_mem; first | exact List.mem_cons_self | (apply List.mem_cons_of_mem; first | exact List.mem_cons_self | (apply List.mem_cons_of_mem; first | exact List.mem_cons_self)))))))) (fp _), kp _, ?_⟩
      refine ⟨_, hp 0 (by omega), ?_⟩
      rw [show IntKind.u16.wrap ((2 : Int) + (i : Int)) = ((2 + i : Nat) : Int) by rw [wu16]; omega]
      refine call_j (c166 (by omega) (by omega)) ?_
      rintro _ w ⟨rfl, g⟩
      replace H := H.grow g; replace K := World.grownBy.trans K (grew_none _ g); clear g
      refine ⟨_, rfl, K, rfl, ?_⟩
      have hbit : nbits (xs.getD 0 0) ((2 + i : Nat) : Int) 1 = bitAt (n16 xs) (13 - i) 2 := by
        rw [nb1 h0 (by omega), hv2, show 13 - i = 8 + (7 - (2 + i)) by omega, bit_hi h0.1 hh1]; rfl
      rw [hbit]
      refine sNew H ?_; clear H; intro b26 w g H; replace K := World.grownBy.trans K (grew_none _ g); clear g   -- (#[.int .u16 x24])
      refine ⟨K, ?_⟩   -- wd1.grownBy w_27 r19
      refine sApp2 H (bytes := 2) (by kernel_rfl) [.int .u16 (bitAt (n16 xs) (13 - i) 2)] [.one (.int .u16 (bitAt (n16 xs) (13 - i) 2))] (by rfl) (fun j u hu => by rw [add_flat, Nat.zero_add]; exact H.b0.cell hu) (fun G h => by repeat (first | exact DeepL.nil _ _ | exact DeepL.ones _ | refine DeepL.cons (Deep.emp _ _) ?_ | refine DeepL.cons (Deep.one _) ?_ | refine DeepL.cons (h (.deep [_] [_]) (by assumption)).head ?_ | refine DeepL.cons (h (.deep [_] [_]) (by first | assumption | exact List.mem_cons_self | (apply List.mem_cons_of_mem; first | assumption | exact List.mem_cons_self | (apply List.mem_cons_of_mem; first | assumption | exact List.mem_cons_self | (apply List.mem_cons_of_mem; first | assumption | exact List.mem_cons_self | (apply List.mem_cons_of_mem; first | assumption | exact List.mem_cons_self | (apply List.mem_cons_of_mem; first | assumption | exact List.mem_cons_self))))))).head ?_)) (by simp [Value.oneCell']) (by unfold maxLen; omega) (by omega) ?_
      clear H; intro x28 x28l x28c x28r w ex28 g H
      replace K := World.grownBy.trans K g; clear g; replace H := H.sub (List.sublist_cons_self _ _) (fun _ h => h)
      refine ⟨K, ?_⟩   -- wd1.grownBy w_29 r19
      refine ⟨_, rfl, ?_⟩
      refine sSt0 H (by first | exact add_flat _ _ _ | exact add_flat2 _ _ _ _ | rfl) (by kernel_rfl) (by rfl) (by first | rfl | (simp only [List.all_cons, List.all_nil, Value.cells]; simp [*])) ?_; clear H; intro w _ H   -- StV pg 165 (p_30.add 3) (.slice x28 x28l x28c) w_29 w_31
      subst ex28
      refine ⟨m_14 - 1, by omega, i + 1, x28, x28c, x28r, ?_, by omega, ?_⟩
      · rw [wu16]; omega
      · rw [vecL_succ, oi_snoc, if_pos rfl]
        exact H
    · rw [decide_eq_false_iff_not] at hc
      obtain rfl : i = 6 := by omega
      refine ⟨fun x38 m_34 w => ∃ (i : Nat) (l : Option Addr) (lc : Nat) (r : Option Nat), x38 = (i : Int) ∧ i + m_34 = 8 ∧
        Sat F w (.blk b t [c0, .int .u16 1, .int .u16 0, .slice l (6 + i) lc] :: .own 32 1 l (6 + i) lc r (oi .u16 (vecL (n16 xs) 0 (6 + i))) :: ex) ro, ⟨8, 0, l, lc, r, rfl, by omega, H⟩, ?_⟩
      clear H him; rintro dd33 x38 m_34 w ⟨i, l, lc, r, rfl, him, H⟩
      refine ⟨fun hc => ?_, fun hc => ?_⟩   -- (decide (x38 < (8 : Int)))
      · rw [decide_eq_true_eq] at hc
        refine ⟨r, ?_⟩; replace H := H.drew; generalize w.drew = wd2 at H ⊢; have K := grew_refl wd2 (r)
        refine ⟨_, rfl, ?_⟩
        refine ⟨(by first | exact Option.some_ne_none _ | exact H.ne (by first | exact List.mem_cons_self | (apply List.mem_cons_of_mem; first | exact List.mem_cons_self | (apply List.mem_cons_of_mem; first | exact List.mem_cons_self | (apply List.mem_cons_of_mem; first | exact List.mem_cons_self | (apply List.mem_cons_of_mem; first | exact List.mem_cons_self | (apply List.mem_cons_of_mem; first | exact List.mem_cons_self | (apply List.mem_cons_of_mem; first | exact List.mem_cons_self | (apply List.mem_cons_of_mem; first | exact List.mem_cons_self)))))))) (by first | exact List.mem_cons_self | (apply List.mem_cons_of_mem; first | exact List.mem_cons_self | (apply List.mem_cons_of_mem; first | exact List.mem_cons_self | (apply List.mem_cons_of_mem; first | exact List.mem_cons_self | (apply List.mem_cons_of_mem; first | exact List.mem_cons_self | (apply List.mem_cons_of_mem; first | exact List.mem_cons_self | (apply List.mem_cons_of_mem; first | exact List.mem_cons_self | (apply List.mem_cons_of_mem; first | exact List.mem_cons_self))))))))), ?_⟩
        refine ⟨(by first | exact H.b0.row | exact H.b1.row | exact H.b2.row | exact H.b3.row | exact H.b4.row | exact H.b5.row | exact H.b6.row | exact H.b7.row), ?_⟩
        refine ⟨_, _, _, (by first | exact Ce (by first | exact add_flat _ _ _ | exact add_flat2 _ _ _ _ | rfl) H.b0 rfl | exact Ce (by first | exact add_flat _ _ _ | exact add_flat2 _ _ _ _ | rfl) H.b1 rfl | exact Ce (by first | exact add_flat _ _ _ | exact add_flat2 _ _ _ _ | rfl) H.b2 rfl | exact Ce (by first | exact add_flat _ _ _ | exact add_flat2 _ _ _ _ | rfl) H.b3 rfl | exact Ce (by first | exact add_flat _ _ _ | exact add_flat2 _ _ _ _ | rfl) H.b4 rfl | exact Ce (by first | exact add_flat _ _ _ | exact add_flat2 _ _ _ _ | rfl) H.b5 rfl | exact Ce (by first | exact add_flat _ _ _ | exact add_flat2 _ _ _ _ | rfl) H.b6 rfl | exact Ce (by first | exact add_flat _ _ _ | exact add_flat2 _ _ _ _ | rfl) H.b7 rfl | exact Ce (by first | exact add_flat _ _ _ | exact add_flat2 _ _ _ _ | rfl) H.b8 rfl | exact Ce (by first | exact add_flat _ _ _ | exact add_flat2 _ _ _ _ | rfl) H.b9 rfl), ?_⟩
        obtain ⟨p_22, e, hp, kp, fp⟩ := H.at_ (a := some p) hx (by omega)
        cases e
        refine ⟨p, rfl, by omega, by omega, ?_⟩
        refine ⟨H.ne_own (by first | exact List.mem_cons_self | (apply List.mem_cons_of_mem; first | exact List.mem_cons_self | (apply List.mem_cons_of_mem; first | exact List.mem_cons_self | (apply List.mem_cons_of_mem; first | exact List.mem_cons_self | (apply List.mem_cons_of_mem; first | exact List.mem_cons_self | (apply List.mem_cons_of_mem; first | exact List.mem_cons_self | (apply List.mem_cons_of_mem; first | exact List.mem_cons_self | (apply List.mem_cons_of_mem; first | exact List.mem_cons_self)))))))) (fp _), kp _, ?_⟩
        refine ⟨_, hp 1 (by omega), ?_⟩
        refine call_j (c166 (by omega) (by omega)) ?_
        rintro _ w ⟨rfl, g⟩
        replace H := H.grow g; replace K := World.grownBy.trans K (grew_none _ g); clear g
        refine ⟨_, rfl, K, rfl, ?_⟩
        have hbit : nbits (xs.getD 1 0) (i : Int) 1 = bitAt (n16 xs) (13 - (6 + i)) 2 := by
          rw [nb1 hh1 (by omega), hv2, show 13 - (6 + i) = 7 - i by omega, bit_lo2 h0.1 hh1 _ (by omega)]
        rw [hbit]
        refine sNew H ?_; clear H; intro b46 w g H; replace K := World.grownBy.trans K (grew_none _ g); clear g
        refine ⟨K, ?_⟩
        refine sApp2 H (bytes := 2) (by kernel_rfl) [.int .u16 (bitAt (n16 xs) (13 - (6 + i)) 2)] [.one (.int .u16 (bitAt (n16 xs) (13 - (6 + i)) 2))] (by rfl) (fun j u hu => by rw [add_flat, Nat.zero_add]; exact H.b0.cell hu) (fun G h => by repeat (first | exact DeepL.nil _ _ | exact DeepL.ones _ | refine DeepL.cons (Deep.emp _ _) ?_ | refine DeepL.cons (Deep.one _) ?_ | refine DeepL.cons (h (.deep [_] [_]) (by assumption)).head ?_ | refine DeepL.cons (h (.deep [_] [_]) (by first | assumption | exact List.mem_cons_self | (apply List.mem_cons_of_mem; first | assumption | exact List.mem_cons_self | (apply List.mem_cons_of_mem; first | assumption | exact List.mem_cons_self | (apply List.mem_cons_of_mem; first | assumption | exact List.mem_cons_self | (apply List.mem_cons_of_mem; first | assumption | exact List.mem_cons_self | (apply List.mem_cons_of_mem; first | assumption | exact List.mem_cons_self))))))).head ?_)) (by simp [Value.oneCell']) (by unfold maxLen; omega) (by omega) ?_
        clear H; intro x48 x48l x48c x48r w ex48 g H
        replace K := World.grownBy.trans K g; clear g; replace H := H.sub (List.sublist_cons_self _ _) (fun _ h => h)
        refine ⟨K, ?_⟩
        refine ⟨_, rfl, ?_⟩
        refine sSt0 H (by first | exact add_flat _ _ _ | exact add_flat2 _ _ _ _ | rfl) (by kernel_rfl) (by rfl) (by first | rfl | (simp only [List.all_cons, List.all_nil, Value.cells]; simp [*])) ?_; clear H; intro w _ H
        subst ex48
        refine ⟨m_34 - 1, by omega, i + 1, x48, x48c, x48r, ?_, by omega, ?_⟩
        · rw [wu16]; omega
        · rw [show 6 + (i + 1) = (6 + i) + 1 by omega, vecL_succ, oi_snoc, if_pos rfl]
          exact H
      · rw [decide_eq_false_iff_not] at hc
        obtain rfl : i = 8 := by omega
        replace H := H.r1.freeze
        have e14 : (symL (n16 xs)).length = 14 := by rw [hsy]; simp [vecL]
        refine ⟨rfl, l, lc, ?_⟩
        rw [e14, hsy]
        exact H
  · have hc : S = 1 := by
      have : ¬ S = 0 := by simpa using hc
      omega
    subst hc
    rw [if_neg (by decide)] at hsy
    refine ⟨_, rfl, ?_⟩
    refine ⟨_, (by first | exact Ce (by first | exact add_flat _ _ _ | exact add_flat2 _ _ _ _ | rfl) H.b0 rfl | exact Ce (by first | exact add_flat _ _ _ | exact add_flat2 _ _ _ _ | rfl) H.b1 rfl | exact Ce (by first | exact add_flat _ _ _ | exact add_flat2 _ _ _ _ | rfl) H.b2 rfl | exact Ce (by first | exact add_flat _ _ _ | exact add_flat2 _ _ _ _ | rfl) H.b3 rfl | exact Ce (by first | exact add_flat _ _ _ | exact add_flat2 _ _ _ _ | rfl) H.b4 rfl | exact Ce (by first | exact add_flat _ _ _ | exact add_flat2 _ _ _ _ | rfl) H.b5 rfl | exact Ce (by first | exact add_flat _ _ _ | exact add_flat2 _ _ _ _ | rfl) H.b6 rfl | exact Ce (by first | exact add_flat _ _ _ | exact add_flat2 _ _ _ _ | rfl) H.b7 rfl | exact Ce (by first | exact add_flat _ _ _ | exact add_flat2 _ _ _ _ | rfl) H.b8 rfl | exact Ce (by first | exact add_flat _ _ _ | exact add_flat2 _ _ _ _ | rfl) H.b9 rfl), ?_⟩
    refine ⟨fun _ => ?_, fun hc => absurd hc (by decide)⟩   -- (x53 == (1 : Int))
    refine ⟨fun x60 m_56 w => ∃ (i : Nat) (l : Option Addr) (lc : Nat) (r : Option Nat), x60 = (i : Int) ∧ i + m_56 = 3 ∧
      Sat F w (.blk b t [c0, .int .u16 1, .int .u16 1, .slice l i lc] :: .own 32 1 l i lc r (oi .u16 (vecL (n16 xs) 1 i)) :: ex) ro, ⟨3, 0, none, 0, none, rfl, by omega, H⟩, ?_⟩
    clear H; rintro dd55 x60 m_56 w ⟨i, l, lc, r, rfl, him, H⟩
    refine ⟨fun hc => ?_, fun hc => ?_⟩   -- (decide (x60 < (3 : Int)))
    · rw [decide_eq_true_eq] at hc
      refine ⟨r, ?_⟩; replace H := H.drew; generalize w.drew = wd3 at H ⊢; have K := grew_refl wd3 (r)
      refine ⟨_, rfl, ?_⟩
      refine ⟨(by first | exact Option.some_ne_none _ | exact H.ne (by first | exact List.mem_cons_self | (apply List.mem_cons_of_mem; first | exact List.mem_cons_self | (apply List.mem_cons_of_mem; first | exact List.mem_cons_self | (apply List.mem_cons_of_mem; first | exact List.mem_cons_self | (apply List.mem_cons_of_mem; first | exact List.mem_cons_self | (apply List.mem_cons_of_mem; first | exact List.mem_cons_self | (apply List.mem_cons_of_mem; first | exact List.mem_cons_self | (apply List.mem_cons_of_mem; first | exact List.mem_cons_self)))))))) (by first | exact List.mem_cons_self | (apply List.mem_cons_of_mem; first | exact List.mem_cons_self | (apply List.mem_cons_of_mem; first | exact List.mem_cons_self | (apply List.mem_cons_of_mem; first | exact List.mem_cons_self | (apply List.mem_cons_of_mem; first | exact List.mem_cons_self | (apply List.mem_cons_of_mem; first | exact List.mem_cons_self | (apply List.mem_cons_of_mem; first | exact List.mem_cons_self | (apply List.mem_cons_of_mem; first | exact List.mem_cons_self))))))))), ?_⟩
      refine ⟨(by first | exact H.b0.row | exact H.b1.row | exact H.b2.row | exact H.b3.row | exact H.b4.row | exact H.b5.row | exact H.b6.row | exact H.b7.row), ?_⟩
      refine ⟨_, _, _, (by first | exact Ce (by first | exact add_flat _ _ _ | exact add_flat2 _ _ _ _ | rfl) H.b0 rfl | exact Ce (by first | exact add_flat _ _ _ | exact add_flat2 _ _ _ _ | rfl) H.b1 rfl | exact Ce (by first | exact add_flat _ _ _ | exact add_flat2 _ _ _ _ | rfl) H.b2 rfl | exact Ce (by first | exact add_flat _ _ _ | exact add_flat2 _ _ _ _ | rfl) H.b3 rfl | exact Ce (by first | exact add_flat _ _ _ | exact add_flat2 _ _ _ _ | rfl) H.b4 rfl | exact Ce (by first | exact add_flat _ _ _ | exact add_flat2 _ _ _ _ | rfl) H.b5 rfl | exact Ce (by first | exact add_flat _ _ _ | exact add_flat2 _ _ _ _ | rfl) H.b6 rfl | exact Ce (by first | exact add_flat _ _ _ | exact add_flat2 _ _ _ _ | rfl) H.b7 rfl | exact Ce (by first | exact add_flat _ _ _ | exact add_flat2 _ _ _ _ | rfl) H.b8 rfl | exact Ce (by first | exact add_flat _ _ _ | exact add_flat2 _ _ _ _ | rfl) H.b9 rfl), ?_⟩
      obtain ⟨p_22, e, hp, kp, fp⟩ := H.at_ (a := some p) hx (by omega)
      cases e
      refine ⟨p, rfl, by omega, by omega, ?_⟩
      refine ⟨H.ne_own (by first | exact List.mem_cons_self | (apply List.mem_cons_of_mem; first | exact List.mem_cons_self | (apply List.mem_cons_of_mem; first | exact List.mem_cons_self | (apply List.mem_cons_of_mem; first | exact List.mem_cons_self | (apply List.mem_cons_of_mem; first | exact List.mem_cons_self | (apply List.mem_cons_of_mem; first | exact List.mem_cons_self | (apply List.mem_cons_of_mem; first | exact List.mem_cons_self | (apply List.mem_cons_of_mem; first | exact List.mem_cons_self)))))))) (fp _), kp _, ?_⟩
      refine ⟨_, hp 0 (by omega), ?_⟩
      rw [show IntKind.u16.wrap ((2 : Int) + IntKind.u16.wrap ((i : Int) * (2 : Int))) = ((2 + 2 * i : Nat) : Int) by rw [wu16, wu16]; omega]
      refine call_j (c166 (by omega) (by omega)) ?_
      rintro _ w ⟨rfl, g⟩
      replace H := H.grow g; replace K := World.grownBy.trans K (grew_none _ g); clear g
      refine ⟨_, rfl, K, rfl, ?_⟩
      have hbit : nbits (xs.getD 0 0) ((2 + 2 * i : Nat) : Int) 2 = bitAt (n16 xs) (12 - 2 * i) 4 := by
        rw [nb2 h0 (by omega), hv2, show 12 - 2 * i = 8 + (6 - (2 + 2 * i)) by omega, bit_hi h0.1 hh1]; rfl
      rw [hbit]
      refine sNew H ?_; clear H; intro b68 w g H; replace K := World.grownBy.trans K (grew_none _ g); clear g
      refine ⟨K, ?_⟩
      refine sApp2 H (bytes := 2) (by kernel_rfl) [.int .u16 (bitAt (n16 xs) (12 - 2 * i) 4)] [.one (.int .u16 (bitAt (n16 xs) (12 - 2 * i) 4))] (by rfl) (fun j u hu => by rw [add_flat, Nat.zero_add]; exact H.b0.cell hu) (fun G h => by repeat (first | exact DeepL.nil _ _ | exact DeepL.ones _ | refine DeepL.cons (Deep.emp _ _) ?_ | refine DeepL.cons (Deep.one _) ?_ | refine DeepL.cons (h (.deep [_] [_]) (by assumption)).head ?_ | refine DeepL.cons (h (.deep [_] [_]) (by first | assumption | exact List.mem_cons_self | (apply List.mem_cons_of_mem; first | assumption | exact List.mem_cons_self | (apply List.mem_cons_of_mem; first | assumption | exact List.mem_cons_self | (apply List.mem_cons_of_mem; first | assumption | exact List.mem_cons_self | (apply List.mem_cons_of_mem; first | assumption | exact List.mem_cons_self | (apply List.mem_cons_of_mem; first | assumption | exact List.mem_cons_self))))))).head ?_)) (by simp [Value.oneCell']) (by unfold maxLen; omega) (by omega) ?_
      clear H; intro x70 x70l x70c x70r w ex70 g H
      replace K := World.grownBy.trans K g; clear g; replace H := H.sub (List.sublist_cons_self _ _) (fun _ h => h)
      refine ⟨K, ?_⟩
      refine ⟨_, rfl, ?_⟩
      refine sSt0 H (by first | exact add_flat _ _ _ | exact add_flat2 _ _ _ _ | rfl) (by kernel_rfl) (by rfl) (by first | rfl | (simp only [List.all_cons, List.all_nil, Value.cells]; simp [*])) ?_; clear H; intro w _ H
      subst ex70
      refine ⟨m_56 - 1, by omega, i + 1, x70, x70c, x70r, ?_, by omega, ?_⟩
      · rw [wu16]; omega
      · rw [vecL_succ, oi_snoc, if_neg (by decide)]
        exact H
    · rw [decide_eq_false_iff_not] at hc
      obtain rfl : i = 3 := by omega
      refine ⟨fun x80 m_76 w => ∃ (i : Nat) (l : Option Addr) (lc : Nat) (r : Option Nat), x80 = (i : Int) ∧ i + m_76 = 4 ∧
        Sat F w (.blk b t [c0, .int .u16 1, .int .u16 1, .slice l (3 + i) lc] :: .own 32 1 l (3 + i) lc r (oi .u16 (vecL (n16 xs) 1 (3 + i))) :: ex) ro, ⟨4, 0, l, lc, r, rfl, by omega, H⟩, ?_⟩
      clear H him; rintro dd75 x80 m_76 w ⟨i, l, lc, r, rfl, him, H⟩
      refine ⟨fun hc => ?_, fun hc => ?_⟩   -- (decide (x80 < (4 : Int)))
      · rw [decide_eq_true_eq] at hc
        refine ⟨r, ?_⟩; replace H := H.drew; generalize w.drew = wd4 at H ⊢; have K := grew_refl wd4 (r)
        refine ⟨_, rfl, ?_⟩
        refine ⟨(by first | exact Option.some_ne_none _ | exact H.ne (by first | exact List.mem_cons_self | (apply List.mem_cons_of_mem; first | exact List.mem_cons_self | (apply List.mem_cons_of_mem; first | exact List.mem_cons_self | (apply List.mem_cons_of_mem; first | exact List.mem_cons_self | (apply List.mem_cons_of_mem; first | exact List.mem_cons_self | (apply List.mem_cons_of_mem; first | exact List.mem_cons_self | (apply List.mem_cons_of_mem; first | exact List.mem_cons_self | (apply List.mem_cons_of_mem; first | exact List.mem_cons_self)))))))) (by first | exact List.mem_cons_self | (apply List.mem_cons_of_mem; first | exact List.mem_cons_self | (apply List.mem_cons_of_mem; first | exact List.mem_cons_self | (apply List.mem_cons_of_mem; first | exact List.mem_cons_self | (apply List.mem_cons_of_mem; first | exact List.mem_cons_self | (apply List.mem_cons_of_mem; first | exact List.mem_cons_self | (apply List.mem_cons_of_mem; first | exact List.mem_cons_self | (apply List.mem_cons_of_mem; first | exact List.mem_cons_self))))))))), ?_⟩
        refine ⟨(by first | exact H.b0.row | exact H.b1.row | exact H.b2.row | exact H.b3.row | exact H.b4.row | exact H.b5.row | exact H.b6.row | exact H.b7.row), ?_⟩
        refine ⟨_, _, _, (by first | exact Ce (by first | exact add_flat _ _ _ | exact add_flat2 _ _ _ _ | rfl) H.b0 rfl | exact Ce (by first | exact add_flat _ _ _ | exact add_flat2 _ _ _ _ | rfl) H.b1 rfl | exact Ce (by first | exact add_flat _ _ _ | exact add_flat2 _ _ _ _ | rfl) H.b2 rfl | exact Ce (by first | exact add_flat _ _ _ | exact add_flat2 _ _ _ _ | rfl) H.b3 rfl | exact Ce (by first | exact add_flat _ _ _ | exact add_flat2 _ _ _ _ | rfl) H.b4 rfl | exact Ce (by first | exact add_flat _ _ _ | exact add_flat2 _ _ _ _ | rfl) H.b5 rfl | exact Ce (by first | exact add_flat _ _ _ | exact add_flat2 _ _ _ _ | rfl) H.b6 rfl | exact Ce (by first | exact add_flat _ _ _ | exact add_flat2 _ _ _ _ | rfl) H.b7 rfl | exact Ce (by first | exact add_flat _ _ _ | exact add_flat2 _ _ _ _ | rfl) H.b8 rfl | exact Ce (by first | exact add_flat _ _ _ | exact add_flat2 _ _ _ _ | rfl) H.b9 rfl), ?_⟩
        obtain ⟨p_22, e, hp, kp, fp⟩ := H.at_ (a := some p) hx (by omega)
        cases e
        refine ⟨p, rfl, by omega, by omega, ?_⟩
        refine ⟨H.ne_own (by first | exact List.mem_cons_self | (apply List.mem_cons_of_mem; first | exact List.mem_cons_self | (apply List.mem_cons_of_mem; first | exact List.mem_cons_self | (apply List.mem_cons_of_mem; first | exact List.mem_cons_self | (apply List.mem_cons_of_mem; first | exact List.mem_cons_self | (apply List.mem_cons_of_mem; first | exact List.mem_cons_self | (apply List.mem_cons_of_mem; first | exact List.mem_cons_self | (apply List.mem_cons_of_mem; first | exact List.mem_cons_self)))))))) (fp _), kp _, ?_⟩
        refine ⟨_, hp 1 (by omega), ?_⟩
        rw [show IntKind.u16.wrap ((i : Int) * (2 : Int)) = ((2 * i : Nat) : Int) by rw [wu16]; omega]
        refine call_j (c166 (by omega) (by omega)) ?_
        rintro _ w ⟨rfl, g⟩
        replace H := H.grow g; replace K := World.grownBy.trans K (grew_none _ g); clear g
        refine ⟨_, rfl, K, rfl, ?_⟩
        have hbit : nbits (xs.getD 1 0) ((2 * i : Nat) : Int) 2 = bitAt (n16 xs) (12 - 2 * (3 + i)) 4 := by
          rw [nb2 hh1 (by omega), hv2, show 12 - 2 * (3 + i) = 6 - 2 * i by omega, bit_lo4 h0.1 hh1 _ (by omega)]
        rw [hbit]
        refine sNew H ?_; clear H; intro b88 w g H; replace K := World.grownBy.trans K (grew_none _ g); clear g
        refine ⟨K, ?_⟩
        refine sApp2 H (bytes := 2) (by kernel_rfl) [.int .u16 (bitAt (n16 xs) (12 - 2 * (3 + i)) 4)] [.one (.int .u16 (bitAt (n16 xs) (12 - 2 * (3 + i)) 4))] (by rfl) (fun j u hu => by rw [add_flat, Nat.zero_add]; exact H.b0.cell hu) (fun G h => by repeat (first | exact DeepL.nil _ _ | exact DeepL.ones _ | refine DeepL.cons (Deep.emp _ _) ?_ | refine DeepL.cons (Deep.one _) ?_ | refine DeepL.cons (h (.deep [_] [_]) (by assumption)).head ?_ | refine DeepL.cons (h (.deep [_] [_]) (by first | assumption | exact List.mem_cons_self | (apply List.mem_cons_of_mem; first | assumption | exact List.mem_cons_self | (apply List.mem_cons_of_mem; first | assumption | exact List.mem_cons_self | (apply List.mem_cons_of_mem; first | assumption | exact List.mem_cons_self | (apply List.mem_cons_of_mem; first | assumption | exact List.mem_cons_self | (apply List.mem_cons_of_mem; first | assumption | exact List.mem_cons_self))))))).head ?_)) (by simp [Value.oneCell']) (by unfold maxLen; omega) (by omega) ?_
        clear H; intro x90 x90l x90c x90r w ex90 g H
        replace K := World.grownBy.trans K g; clear g; replace H := H.sub (List.sublist_cons_self _ _) (fun _ h => h)
        refine ⟨K, ?_⟩
        refine ⟨_, rfl, ?_⟩
        refine sSt0 H (by first | exact add_flat _ _ _ | exact add_flat2 _ _ _ _ | rfl) (by kernel_rfl) (by rfl) (by first | rfl | (simp only [List.all_cons, List.all_nil, Value.cells]; simp [*])) ?_; clear H; intro w _ H
        subst ex90
        refine ⟨m_76 - 1, by omega, i + 1, x90, x90c, x90r, ?_, by omega, ?_⟩
        · rw [wu16]; omega
        · rw [show 3 + (i + 1) = (3 + i) + 1 by omega, vecL_succ, oi_snoc, if_neg (by decide)]
          exact H
      · rw [decide_eq_false_iff_not] at hc
        obtain rfl : i = 4 := by omega
        replace H := H.r1.freeze
        have e7 : (symL (n16 xs)).length = 7 := by rw [hsy]; simp [vecL]
        refine ⟨rfl, l, lc, ?_⟩
        rw [e7, hsy]
        exact H
end Go.Proofs.YtkdialecadjedaaGreat
