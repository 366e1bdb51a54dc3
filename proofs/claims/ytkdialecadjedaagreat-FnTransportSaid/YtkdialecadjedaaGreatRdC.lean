/- spec.readChunks: what it computes (no statement of the seat is proved here; conditions: its slice reads bytes). -/
import Derived.Test.YtkdialecadjedaaGreatRdB
namespace Go.Proofs.YtkdialecadjedaaGreat
set_option linter.unusedVariables false
set_option linter.unusedSimpArgs false
set_option linter.unusedSectionVars false
open Go

theorem tmod_nat (j k : Nat) : ((j : Int).tmod (k : Int)) = ((j % k : Nat) : Int) := by
  rw [Int.tmod_eq_emod_of_nonneg (by omega)]; simp
theorem map_some_none {α β : Type} {f : α → β} {o : Option α} (h : o = none) : o.map f = none := by rw [h]; rfl
theorem c13 {F : Fr} {w : World} {ex : List Ex} {ro : List Ro} {xs : List Int} {a : Option Addr} {n c : Nat} {p : Nat} (H : Sat F w (.blk p 38 (pk0 3 0 0 false 0 0 0) :: ex) ro) (hx : Ro.B xs a n c ∈ ro) (hb : By xs)
    (hn : n ≤ 1000000) {k : Nat} (hk : k ≤ 31) : Calls pg 13 #[.pointer (some ⟨p, 0, none⟩), .slice a n c, .int .i64 (k : Int)] w (RdPost F p ex ro ((chks k xs).map fun l => { kind := 3, chunks := l })) := by
  apply of13
  refine ⟨fun b7 b7l b7c x8 m_3 w => ∃ (i : Nat) (o : Option Addr) (oc : Nat) (r : Option Nat) (ys : List Int) (done : List Chk), x8 = (i : Int) ∧ i + m_3 = k ∧ b7l ≤ n ∧ By ys ∧ done.length = i ∧ chks k xs = (chks (k - i) ys).map (done ++ ·) ∧
    Sat F w (.blk p 38 ((pk0 3 0 0 false 0 0 0).set 9 (.slice o i oc)) :: .own 88 2 o i oc r (done.flatMap Chk.dat) :: ex) (Ro.B ys b7 b7l b7c :: ro), ⟨k, 0, none, 0, none, xs, [], rfl, by omega, Nat.le_refl _, hb, rfl, ?_, ?_⟩, ?_⟩
  · rw [Nat.sub_zero]; cases chks k xs <;> simp
  · exact ((H.addRo (H.hr _ hx)).nilOwn 88 2).u1
  clear H; rintro dd2 b7 b7l b7c x8 m_3 w ⟨i, o, oc, r, ys, done, rfl, hm, hbl, hby, hdl, hch, H⟩
  have hyl := H.lenB List.mem_cons_self
  refine ⟨fun hc => ?_, fun hc => ?_⟩   -- (decide (x8 < n_2))
  · rw [decide_eq_true_eq] at hc
    obtain ⟨q, hq⟩ : ∃ q, k - i = q + 1 := ⟨k - i - 1, by omega⟩
    rw [hq, chks] at hch
    refine ⟨fun hc2 => ?_, fun hc2 => ?_⟩   -- (decide (((b7l : Nat) : Int) < (8 : Int)))
    · rw [decide_eq_true_eq] at hc2
      rw [if_pos (by omega)] at hch
      exact RdPost.no (by rw [hch]; rfl) (H.sub (by repeat (first | exact List.Sublist.refl _ | exact List.nil_sublist _ | apply List.Sublist.cons_cons | apply List.Sublist.cons)) (fun r hr => by (try simp only [List.mem_cons] at hr ⊢); (repeat (first | (rcases hr with rfl | hr; (first | (left; rfl) | (right; left; rfl) | (right; right; left; rfl) | (right; right; right; left; rfl) | (right; right; right; right; left; rfl)))  | (simp [hr]; done) | assumption | exact hr.elim))))
    rw [decide_eq_false_iff_not] at hc2
    rw [if_neg (by omega)] at hch
    refine call_j (c10 (by first | exact (Sat.rd H (by first | assumption | exact List.mem_cons_self | (apply List.mem_cons_of_mem; first | assumption | exact List.mem_cons_self | (apply List.mem_cons_of_mem; first | assumption | exact List.mem_cons_self | (apply List.mem_cons_of_mem; first | assumption | exact List.mem_cons_self | (apply List.mem_cons_of_mem; first | assumption | exact List.mem_cons_self | (apply List.mem_cons_of_mem; first | assumption | exact List.mem_cons_self))))))) | exact Rd.skip (Sat.rd H (by first | assumption | exact List.mem_cons_self | (apply List.mem_cons_of_mem; first | assumption | exact List.mem_cons_self | (apply List.mem_cons_of_mem; first | assumption | exact List.mem_cons_self | (apply List.mem_cons_of_mem; first | assumption | exact List.mem_cons_self | (apply List.mem_cons_of_mem; first | assumption | exact List.mem_cons_self | (apply List.mem_cons_of_mem; first | assumption | exact List.mem_cons_self))))))) _ (by omega) | exact Rd.skip (Rd.skip (Sat.rd H (by first | assumption | exact List.mem_cons_self | (apply List.mem_cons_of_mem; first | assumption | exact List.mem_cons_self | (apply List.mem_cons_of_mem; first | assumption | exact List.mem_cons_self | (apply List.mem_cons_of_mem; first | assumption | exact List.mem_cons_self | (apply List.mem_cons_of_mem; first | assumption | exact List.mem_cons_self | (apply List.mem_cons_of_mem; first | assumption | exact List.mem_cons_self))))))) _ (by omega)) _ (by omega) | exact Rd.cut (Sat.rd H (by first | assumption | exact List.mem_cons_self | (apply List.mem_cons_of_mem; first | assumption | exact List.mem_cons_self | (apply List.mem_cons_of_mem; first | assumption | exact List.mem_cons_self | (apply List.mem_cons_of_mem; first | assumption | exact List.mem_cons_self | (apply List.mem_cons_of_mem; first | assumption | exact List.mem_cons_self | (apply List.mem_cons_of_mem; first | assumption | exact List.mem_cons_self))))))) _ _ (by omega) (by omega) | exact Rd.skip (Rd.skip (Rd.skip (Sat.rd H (by first | assumption | exact List.mem_cons_self | (apply List.mem_cons_of_mem; first | assumption | exact List.mem_cons_self | (apply List.mem_cons_of_mem; first | assumption | exact List.mem_cons_self | (apply List.mem_cons_of_mem; first | assumption | exact List.mem_cons_self | (apply List.mem_cons_of_mem; first | assumption | exact List.mem_cons_self | (apply List.mem_cons_of_mem; first | assumption | exact List.mem_cons_self))))))) _ (by omega)) _ (by omega)) _ (by omega) | assumption) hby (by omega)) ?_
    rintro _ w ⟨rfl, g⟩
    replace H := H.grow g; clear g
    refine ⟨_, rfl, ?_⟩
    refine sNew H ?_; clear H; intro b11 w _ H   -- #[.int .u32 (0 : Int), .slice none 0 0]
    refine sSw0 H rfl (by kernel_rfl) (by rfl) (by first | rfl | (simp only [List.all_cons, List.all_nil, Value.cells]; simp [*])) ?_; clear H; intro w _ H   -- StV pg 88 p_11 (.agg #[.int .u32 x9, .slice none 0 0]) w_12 w_13
    replace H := H.nilOwn 90 2   -- items
    refine ⟨fun at_20 m_16 w => ∃ (j : Nat) (its : List Itm) (o2 : Option Addr) (oc2 : Nat) (r2 : Option Nat), at_20 = (j : Int) ∧ 4 ≤ j ∧ j ≤ b7l ∧ b7l < j + m_16 ∧ its.length ≤ j ∧ items ys ys.length 4 = (items ys m_16 j).map (fun q => (its ++ q.1, q.2)) ∧
      Sat F w (.own 90 2 o2 its.length oc2 r2 (its.flatMap Itm.dat) :: .blk b11 88 [.int .u32 (n32 ys), .slice o2 its.length oc2] :: .blk p 38 ((pk0 3 0 0 false 0 0 0).set 9 (.slice o i oc)) :: .own 88 2 o i oc r (done.flatMap Chk.dat) :: ex) (Ro.B ys b7 b7l b7c :: ro),
      ⟨b7l, 4, [], none, 0, none, rfl, by omega, by omega, by omega, by simp, ?_, H⟩, ?_⟩
    · rw [hyl]; cases items ys b7l 4 <;> simp
    clear H; rintro dd15 at_20 m_16 w ⟨j, its, o2, oc2, r2, rfl, hj4, hjl, hfu, hil, hit, H⟩
    obtain ⟨f, rfl⟩ : ∃ f, m_16 = f + 1 := ⟨m_16 - 1, by omega⟩
    rw [items] at hit
    refine ⟨fun hc3 => ?_, fun hc3 => ?_⟩   -- (decide (at_20 ≥ ((b7l : Nat) : Int)))
    · rw [decide_eq_true_eq] at hc3
      rw [if_pos (by omega)] at hit
      rw [hit] at hch
      exact RdPost.no (by rw [hch]; rfl) (H.sub (by repeat (first | exact List.Sublist.refl _ | exact List.nil_sublist _ | apply List.Sublist.cons_cons | apply List.Sublist.cons)) (fun r hr => by (try simp only [List.mem_cons] at hr ⊢); (repeat (first | (rcases hr with rfl | hr; (first | (left; rfl) | (right; left; rfl) | (right; right; left; rfl) | (right; right; right; left; rfl) | (right; right; right; right; left; rfl)))  | (simp [hr]; done) | assumption | exact hr.elim))))
    rw [decide_eq_false_iff_not] at hc3
    rw [if_neg (by omega)] at hit
    obtain ⟨p_21, rfl, hp_21, kp_21, fp_21⟩ := H.at_ (a := b7) (xs := ys) (by first | assumption | exact List.mem_cons_self | (apply List.mem_cons_of_mem; first | assumption | exact List.mem_cons_self | (apply List.mem_cons_of_mem; first | assumption | exact List.mem_cons_self | (apply List.mem_cons_of_mem; first | assumption | exact List.mem_cons_self | (apply List.mem_cons_of_mem; first | assumption | exact List.mem_cons_self | (apply List.mem_cons_of_mem; first | assumption | exact List.mem_cons_self)))))) (by omega)
    refine ⟨p_21, rfl, by omega, by omega, ?_⟩   -- b7[at_20]
    refine ⟨_, hp_21 _ (by omega), ?_⟩   -- w_19.cell? (p_21.add (at_20.toNat * 1)) = some (.int .u8 x22)
    rw [show (j : Int).toNat * 1 = j by omega]
    refine ⟨fun hc4 => ?_, fun hc4 => ?_⟩   -- (x22 == (0 : Int))
    · have hc4 : ys.getD j 0 = 0 := by simpa using hc4
      rw [if_pos hc4] at hit
      have hit2 : items ys ys.length 4 = some (its, j + 1) := by rw [hit]; simp
      rw [hit2] at hch
      simp only at hch
      generalize hZ : zeros ys 3 (j + 1) = Z at hch
      rw [wi64_of (n := (j : Int) + 1) (by omega) (by omega)]
      refine ⟨fun at_29 m_25 w => ∃ z : Nat, at_29 = (z : Int) ∧ z + m_25 = j + 1 + 3 ∧ j + 1 ≤ z ∧ z ≤ b7l ∧ (∀ q, j + 1 ≤ q → q < z → q % 4 ≠ 0) ∧ Z = zeros ys m_25 z ∧
        Sat F w (.own 90 2 o2 its.length oc2 r2 (its.flatMap Itm.dat) :: .blk b11 88 [.int .u32 (n32 ys), .slice o2 its.length oc2] :: .blk p 38 ((pk0 3 0 0 false 0 0 0).set 9 (.slice o i oc)) :: .own 88 2 o i oc r (done.flatMap Chk.dat) :: ex) (Ro.B ys (some p_21) b7l b7c :: ro),
        ⟨3, j + 1, by omega, rfl, Nat.le_refl _, by omega, fun q h1 h2 => by omega, hZ.symm, H⟩, ?_⟩
      clear H; rintro dd24 at_29 m_25 w ⟨z, rfl, hzm, hzj, hzl, hzq, hze, H⟩
      refine ⟨by omega, ?_⟩
      rw [show ((z : Int).tmod (4 : Int)) = ((z % 4 : Nat) : Int) from tmod_nat z 4]
      refine ⟨fun hc5 => ?_, fun hc5 => ?_⟩   -- ((at_29.tmod (4 : Int)) != (0 : Int))
      · have hc5 : z % 4 ≠ 0 := by
          have : ¬ ((z % 4 : Nat) : Int) = 0 := by simpa using hc5
          omega
        obtain ⟨f2, rfl⟩ : ∃ f2, m_25 = f2 + 1 := ⟨m_25 - 1, by
          have h1 := hzq (j + 1); have h2 := hzq (j + 2); have h3 := hzq (j + 3)
          omega⟩
        rw [zeros, if_neg hc5] at hze
        refine ⟨fun hc6 => ?_, fun hc6 => ?_⟩   -- (decide (at_29 ≥ ((b7l : Nat) : Int)))
        · rw [decide_eq_true_eq] at hc6
          rw [if_pos (by omega)] at hze
          rw [hze] at hch
          exact RdPost.no (by rw [hch]; rfl) (H.sub (by repeat (first | exact List.Sublist.refl _ | exact List.nil_sublist _ | apply List.Sublist.cons_cons | apply List.Sublist.cons)) (fun r hr => by (try simp only [List.mem_cons] at hr ⊢); (repeat (first | (rcases hr with rfl | hr; (first | (left; rfl) | (right; left; rfl) | (right; right; left; rfl) | (right; right; right; left; rfl) | (right; right; right; right; left; rfl)))  | (simp [hr]; done) | assumption | exact hr.elim))))
        rw [decide_eq_false_iff_not] at hc6
        rw [if_neg (by omega)] at hze
        obtain ⟨p_30, ep_30, hp_30, kp_30, fp_30⟩ := H.at_ (a := some p_21) (xs := ys) (by first | assumption | exact List.mem_cons_self | (apply List.mem_cons_of_mem; first | assumption | exact List.mem_cons_self | (apply List.mem_cons_of_mem; first | assumption | exact List.mem_cons_self | (apply List.mem_cons_of_mem; first | assumption | exact List.mem_cons_self | (apply List.mem_cons_of_mem; first | assumption | exact List.mem_cons_self | (apply List.mem_cons_of_mem; first | assumption | exact List.mem_cons_self)))))) (by omega)
        refine ⟨p_30, ep_30, by omega, by omega, ?_⟩   -- b7[at_29]
        refine ⟨_, hp_30 _ (by omega), ?_⟩   -- w_28.cell? (p_30.add (at_29.toNat * 1)) = some (.int .u8 x31)
        rw [show (z : Int).toNat * 1 = z by omega]
        refine ⟨fun hc7 => ?_, fun hc7 => ?_⟩   -- (x31 != (0 : Int))
        · have hc7 : ¬ ys.getD z 0 = 0 := by simpa using hc7
          rw [if_neg hc7] at hze
          rw [hze] at hch
          exact RdPost.no (by rw [hch]; rfl) (H.sub (by repeat (first | exact List.Sublist.refl _ | exact List.nil_sublist _ | apply List.Sublist.cons_cons | apply List.Sublist.cons)) (fun r hr => by (try simp only [List.mem_cons] at hr ⊢); (repeat (first | (rcases hr with rfl | hr; (first | (left; rfl) | (right; left; rfl) | (right; right; left; rfl) | (right; right; right; left; rfl) | (right; right; right; right; left; rfl)))  | (simp [hr]; done) | assumption | exact hr.elim))))
        · have hc7 : ys.getD z 0 = 0 := by simpa using hc7
          rw [if_pos hc7] at hze
          refine ⟨f2, by omega, z + 1, ?_, by omega, by omega, by omega, fun q h1 h2 => ?_, hze, H⟩
          · rw [wi64_of (by omega) (by omega)]; simp
          · rcases Nat.lt_or_ge q z with h | h
            · exact hzq q h1 h
            · obtain rfl : q = z := by omega
              exact hc5
      · have hc5 : z % 4 = 0 := by
          have : ((z % 4 : Nat) : Int) = 0 := by simpa using hc5
          omega
        have hze2 : Z = some z := by
          rw [hze]
          cases m_25 <;> (unfold zeros; rw [if_pos hc5])
        rw [hze2] at hch
        simp only at hch
        replace H := H.freeze
        refine ⟨r, ?_⟩; replace H := H.drew; generalize w.drew = wd1 at H ⊢; have K := grew_refl wd1 (r)
        refine ⟨_, rfl, ?_⟩
        refine ⟨(by first | exact Option.some_ne_none _ | exact H.ne (by first | exact List.mem_cons_self | (apply List.mem_cons_of_mem; first | exact List.mem_cons_self | (apply List.mem_cons_of_mem; first | exact List.mem_cons_self | (apply List.mem_cons_of_mem; first | exact List.mem_cons_self | (apply List.mem_cons_of_mem; first | exact List.mem_cons_self | (apply List.mem_cons_of_mem; first | exact List.mem_cons_self | (apply List.mem_cons_of_mem; first | exact List.mem_cons_self | (apply List.mem_cons_of_mem; first | exact List.mem_cons_self)))))))) (by first | exact List.mem_cons_self | (apply List.mem_cons_of_mem; first | exact List.mem_cons_self | (apply List.mem_cons_of_mem; first | exact List.mem_cons_self | (apply List.mem_cons_of_mem; first | exact List.mem_cons_self | (apply List.mem_cons_of_mem; first | exact List.mem_cons_self | (apply List.mem_cons_of_mem; first | exact List.mem_cons_self | (apply List.mem_cons_of_mem; first | exact List.mem_cons_self | (apply List.mem_cons_of_mem; first | exact List.mem_cons_self))))))))), ?_⟩   -- some ((p_33.add 9)).block ≠ r32
        refine ⟨(by first | exact H.b0.row | exact H.b1.row | exact H.b2.row | exact H.b3.row | exact H.b4.row | exact H.b5.row | exact H.b6.row | exact H.b7.row), ?_⟩   -- ∃ c ty f, wd1.heap[((p_33.add 9)).block]? = some (.cells c
        refine ⟨_, _, _, (by first | exact Ce (by first | exact add_flat _ _ _ | exact add_flat2 _ _ _ _ | rfl) H.b0 rfl | exact Ce (by first | exact add_flat _ _ _ | exact add_flat2 _ _ _ _ | rfl) H.b1 rfl | exact Ce (by first | exact add_flat _ _ _ | exact add_flat2 _ _ _ _ | rfl) H.b2 rfl | exact Ce (by first | exact add_flat _ _ _ | exact add_flat2 _ _ _ _ | rfl) H.b3 rfl | exact Ce (by first | exact add_flat _ _ _ | exact add_flat2 _ _ _ _ | rfl) H.b4 rfl | exact Ce (by first | exact add_flat _ _ _ | exact add_flat2 _ _ _ _ | rfl) H.b5 rfl | exact Ce (by first | exact add_flat _ _ _ | exact add_flat2 _ _ _ _ | rfl) H.b6 rfl | exact Ce (by first | exact add_flat _ _ _ | exact add_flat2 _ _ _ _ | rfl) H.b7 rfl | exact Ce (by first | exact add_flat _ _ _ | exact add_flat2 _ _ _ _ | rfl) H.b8 rfl | exact Ce (by first | exact add_flat _ _ _ | exact add_flat2 _ _ _ _ | rfl) H.b9 rfl), ?_⟩   -- wd1.cell? (p_33.add 9) = some (.slice x34 x34l x34c)
        refine ⟨(by first | exact Option.some_ne_none _ | exact H.ne (by first | exact List.mem_cons_self | (apply List.mem_cons_of_mem; first | exact List.mem_cons_self | (apply List.mem_cons_of_mem; first | exact List.mem_cons_self | (apply List.mem_cons_of_mem; first | exact List.mem_cons_self | (apply List.mem_cons_of_mem; first | exact List.mem_cons_self | (apply List.mem_cons_of_mem; first | exact List.mem_cons_self | (apply List.mem_cons_of_mem; first | exact List.mem_cons_self | (apply List.mem_cons_of_mem; first | exact List.mem_cons_self)))))))) (by first | exact List.mem_cons_self | (apply List.mem_cons_of_mem; first | exact List.mem_cons_self | (apply List.mem_cons_of_mem; first | exact List.mem_cons_self | (apply List.mem_cons_of_mem; first | exact List.mem_cons_self | (apply List.mem_cons_of_mem; first | exact List.mem_cons_self | (apply List.mem_cons_of_mem; first | exact List.mem_cons_self | (apply List.mem_cons_of_mem; first | exact List.mem_cons_self | (apply List.mem_cons_of_mem; first | exact List.mem_cons_self))))))))), ?_⟩   -- some (p_11).block ≠ r32
        refine ⟨(by first | exact H.b0.row | exact H.b1.row | exact H.b2.row | exact H.b3.row | exact H.b4.row | exact H.b5.row | exact H.b6.row | exact H.b7.row), ?_⟩   -- ∃ c ty f, wd1.heap[(p_11).block]? = some (.cells c ty f)
        refine ⟨_, _, _, _, (by first | exact Ld0 rfl H.b0 (by kernel_rfl) | exact Ld0 rfl H.b1 (by kernel_rfl) | exact Ld0 rfl H.b2 (by kernel_rfl) | exact Ld0 rfl H.b3 (by kernel_rfl) | exact Ld0 rfl H.b4 (by kernel_rfl) | exact Ld0 rfl H.b5 (by kernel_rfl) | exact Ld0 rfl H.b6 (by kernel_rfl) | exact Ld0 rfl H.b7 (by kernel_rfl) | exact Ld0 rfl H.b8 (by kernel_rfl) | exact Ld0 rfl H.b9 (by kernel_rfl)), ?_⟩   -- LdV pg 88 p_11 (.agg #[.int .u32 x35, .slice x36 x36l x36c]) wd1
        refine ⟨rfl, ?_⟩
        refine sNew H ?_; clear H; intro b37 w g H; replace K := World.grownBy.trans K (grew_none _ g); clear g   -- (#[.int .u32 x35, .slice x36 x36l x36c])
        refine ⟨K, ?_⟩   -- wd1.grownBy w_38 r32
        refine sApp3 H (bytes := 32) (by kernel_rfl) [.int .u32 (n32 ys), .slice o2 its.length oc2] (Chk.dat (n32 ys, its)) (by rfl) (fun j u hu => by rw [add_flat, Nat.zero_add]; exact H.b0.cell hu) (fun G h => by repeat (first | exact DeepL.nil _ _ | exact DeepL.ones _ | refine DeepL.cons (Deep.emp _ _) ?_ | refine DeepL.cons (Deep.one _) ?_ | refine DeepL.cons (h (.deep [_] [_]) (by assumption)).head ?_ | refine DeepL.cons (h (.deep [_] [_]) (by first | assumption | exact List.mem_cons_self | (apply List.mem_cons_of_mem; first | assumption | exact List.mem_cons_self | (apply List.mem_cons_of_mem; first | assumption | exact List.mem_cons_self | (apply List.mem_cons_of_mem; first | assumption | exact List.mem_cons_self | (apply List.mem_cons_of_mem; first | assumption | exact List.mem_cons_self | (apply List.mem_cons_of_mem; first | assumption | exact List.mem_cons_self))))))).head ?_)) (by simp [Value.oneCell']) (by unfold maxLen; omega) (by omega) ?_
        clear H; intro x39 x39l x39c x39r w ex39 g H
        replace K := World.grownBy.trans K g; clear g; replace H := H.sub (List.sublist_cons_self _ _) (fun _ h => h)
        refine ⟨K, ?_⟩   -- wd1.grownBy w_40 r32
        refine ⟨_, rfl, ?_⟩
        refine sSt1 H (by first | exact add_flat _ _ _ | exact add_flat2 _ _ _ _ | rfl) (by kernel_rfl) (by rfl) (by first | rfl | (simp only [List.all_cons, List.all_nil, Value.cells]; simp [*])) ?_; clear H; intro w _ H   -- StV pg 26 (p_41.add 9) (.slice x39 x39l x39c) w_40 w_42
        refine ⟨by omega, by omega, ?_⟩
        subst ex39
        refine ⟨m_3 - 1, by omega, i + 1, x39, x39c, x39r, ys.drop z, done ++ [(n32 ys, its)], ?_, by omega, by omega, hby.drop _, by simp [hdl], ?_, ?_⟩
        · rw [wi64_of (by omega) (by omega)]; simp
        · rw [hch, show k - (i + 1) = q by omega]
          cases chks q (ys.drop z) <;> simp
        · have H2 := H.skipB (xs := ys) (a := some p_21) (n := b7l) (c := b7c) (by first | assumption | exact List.mem_cons_self | (apply List.mem_cons_of_mem; first | assumption | exact List.mem_cons_self | (apply List.mem_cons_of_mem; first | assumption | exact List.mem_cons_self | (apply List.mem_cons_of_mem; first | assumption | exact List.mem_cons_self | (apply List.mem_cons_of_mem; first | assumption | exact List.mem_cons_self | (apply List.mem_cons_of_mem; first | assumption | exact List.mem_cons_self)))))) z (by omega)
          rw [List.flatMap_append]
          exact H2.sub (by repeat (first | exact List.Sublist.refl _ | exact List.nil_sublist _ | apply List.Sublist.cons_cons | apply List.Sublist.cons)) (fun r hr => by (try simp only [List.mem_cons] at hr ⊢); (repeat (first | (rcases hr with rfl | hr; (first | (left; rfl) | (right; left; rfl) | (right; right; left; rfl) | (right; right; right; left; rfl) | (right; right; right; right; left; rfl)))  | (simp [hr]; done) | assumption | exact hr.elim)))
    · have hc4 : ¬ ys.getD j 0 = 0 := by simpa using hc4
      rw [if_neg hc4] at hit
      rw [wi64_of (n := (j : Int) + 2) (by omega) (by omega), wi64_of (n := (j : Int) + 1) (by omega) (by omega)]
      refine ⟨fun hc5 => ?_, fun hc5 => ?_⟩   -- (decide ((IntKind.i64.wrap (at_20 + (2 : Int))) > ((b7l : Nat) : Int)))
      · rw [decide_eq_true_eq] at hc5
        rw [if_pos (by omega)] at hit
        rw [hit] at hch
        exact RdPost.no (by rw [hch]; rfl) (H.sub (by repeat (first | exact List.Sublist.refl _ | exact List.nil_sublist _ | apply List.Sublist.cons_cons | apply List.Sublist.cons)) (fun r hr => by (try simp only [List.mem_cons] at hr ⊢); (repeat (first | (rcases hr with rfl | hr; (first | (left; rfl) | (right; left; rfl) | (right; right; left; rfl) | (right; right; right; left; rfl) | (right; right; right; right; left; rfl)))  | (simp [hr]; done) | assumption | exact hr.elim))))
      rw [decide_eq_false_iff_not] at hc5
      rw [if_neg (by omega)] at hit
      refine ⟨p_21, rfl, by omega, by omega, ?_⟩   -- b7[IntKind.i64.wrap (at_20 + (1 : Int))]
      refine ⟨_, hp_21 _ (by omega), ?_⟩
      rw [show ((j : Int) + 1).toNat * 1 = j + 1 by omega]
      have hy1 := hby.getD (j + 1)
      generalize hL : ys.getD (j + 1) 0 = L at hit hy1
      rw [wi64_of (n := L) (by omega) (by omega), wi64_of (n := (j : Int) + 2 + L) (by omega) (by omega)]
      refine ⟨fun hc6 => ?_, fun hc6 => ?_⟩
      · rw [decide_eq_true_eq] at hc6
        rw [if_pos (by omega)] at hit
        rw [hit] at hch
        exact RdPost.no (by rw [hch]; rfl) (H.sub (by repeat (first | exact List.Sublist.refl _ | exact List.nil_sublist _ | apply List.Sublist.cons_cons | apply List.Sublist.cons)) (fun r hr => by (try simp only [List.mem_cons] at hr ⊢); (repeat (first | (rcases hr with rfl | hr; (first | (left; rfl) | (right; left; rfl) | (right; right; left; rfl) | (right; right; right; left; rfl) | (right; right; right; right; left; rfl)))  | (simp [hr]; done) | assumption | exact hr.elim))))
      rw [decide_eq_false_iff_not] at hc6
      rw [if_neg (by omega)] at hit
      have hcap := (H.deep1 (d := .row 1 (ob ys)) (v := .slice (some p_21) b7l b7c) (by first | assumption | exact List.mem_cons_self | (apply List.mem_cons_of_mem; first | assumption | exact List.mem_cons_self | (apply List.mem_cons_of_mem; first | assumption | exact List.mem_cons_self | (apply List.mem_cons_of_mem; first | assumption | exact List.mem_cons_self | (apply List.mem_cons_of_mem; first | assumption | exact List.mem_cons_self | (apply List.mem_cons_of_mem; first | assumption | exact List.mem_cons_self))))))).len
      refine ⟨r2, ?_⟩; replace H := H.drew; generalize w.drew = wd2 at H ⊢; have K := grew_refl wd2 (r2)
      refine ⟨(by first | exact Option.some_ne_none _ | exact H.ne (by first | exact List.mem_cons_self | (apply List.mem_cons_of_mem; first | exact List.mem_cons_self | (apply List.mem_cons_of_mem; first | exact List.mem_cons_self | (apply List.mem_cons_of_mem; first | exact List.mem_cons_self | (apply List.mem_cons_of_mem; first | exact List.mem_cons_self | (apply List.mem_cons_of_mem; first | exact List.mem_cons_self | (apply List.mem_cons_of_mem; first | exact List.mem_cons_self | (apply List.mem_cons_of_mem; first | exact List.mem_cons_self)))))))) (by first | exact List.mem_cons_self | (apply List.mem_cons_of_mem; first | exact List.mem_cons_self | (apply List.mem_cons_of_mem; first | exact List.mem_cons_self | (apply List.mem_cons_of_mem; first | exact List.mem_cons_self | (apply List.mem_cons_of_mem; first | exact List.mem_cons_self | (apply List.mem_cons_of_mem; first | exact List.mem_cons_self | (apply List.mem_cons_of_mem; first | exact List.mem_cons_self | (apply List.mem_cons_of_mem; first | exact List.mem_cons_self))))))))), ?_⟩   -- some ((p_11.add 1)).block ≠ r45
      refine ⟨(by first | exact H.b0.row | exact H.b1.row | exact H.b2.row | exact H.b3.row | exact H.b4.row | exact H.b5.row | exact H.b6.row | exact H.b7.row), ?_⟩   -- ∃ c ty f, w_19.drew.heap[((p_11.add 1)).block]? = some (.cells c ty f)
      refine ⟨_, _, _, (by first | exact Ce (by first | exact add_flat _ _ _ | exact add_flat2 _ _ _ _ | rfl) H.b0 rfl | exact Ce (by first | exact add_flat _ _ _ | exact add_flat2 _ _ _ _ | rfl) H.b1 rfl | exact Ce (by first | exact add_flat _ _ _ | exact add_flat2 _ _ _ _ | rfl) H.b2 rfl | exact Ce (by first | exact add_flat _ _ _ | exact add_flat2 _ _ _ _ | rfl) H.b3 rfl | exact Ce (by first | exact add_flat _ _ _ | exact add_flat2 _ _ _ _ | rfl) H.b4 rfl | exact Ce (by first | exact add_flat _ _ _ | exact add_flat2 _ _ _ _ | rfl) H.b5 rfl | exact Ce (by first | exact add_flat _ _ _ | exact add_flat2 _ _ _ _ | rfl) H.b6 rfl | exact Ce (by first | exact add_flat _ _ _ | exact add_flat2 _ _ _ _ | rfl) H.b7 rfl | exact Ce (by first | exact add_flat _ _ _ | exact add_flat2 _ _ _ _ | rfl) H.b8 rfl | exact Ce (by first | exact add_flat _ _ _ | exact add_flat2 _ _ _ _ | rfl) H.b9 rfl), ?_⟩   -- wd2.cell? (p_11.add 1) = some (.slice x46 x46l x46c)
      obtain ⟨p_47, ep_47, hp_47, kp_47, fp_47⟩ := H.at_ (a := some p_21) (xs := ys) (by first | assumption | exact List.mem_cons_self | (apply List.mem_cons_of_mem; first | assumption | exact List.mem_cons_self | (apply List.mem_cons_of_mem; first | assumption | exact List.mem_cons_self | (apply List.mem_cons_of_mem; first | assumption | exact List.mem_cons_self | (apply List.mem_cons_of_mem; first | assumption | exact List.mem_cons_self | (apply List.mem_cons_of_mem; first | assumption | exact List.mem_cons_self)))))) (by omega)
      cases ep_47
      refine ⟨p_21, rfl, by omega, by omega, ?_⟩   -- b7[at_20]
      refine ⟨H.ne_own (by first | exact List.mem_cons_self | (apply List.mem_cons_of_mem; first | exact List.mem_cons_self | (apply List.mem_cons_of_mem; first | exact List.mem_cons_self | (apply List.mem_cons_of_mem; first | exact List.mem_cons_self | (apply List.mem_cons_of_mem; first | exact List.mem_cons_self | (apply List.mem_cons_of_mem; first | exact List.mem_cons_self | (apply List.mem_cons_of_mem; first | exact List.mem_cons_self | (apply List.mem_cons_of_mem; first | exact List.mem_cons_self)))))))) (fp_47 _), ?_⟩
      refine ⟨kp_47 _, ?_⟩
      refine ⟨_, hp_47 _ (by omega), ?_⟩   -- wd2.cell? (p_47.add (at_20.toNat * 1)) = some (.int .u8 x48)
      refine ⟨p_21, rfl, by omega, by omega, ?_⟩   -- b7[IntKind.i64.wrap (at_20 + (1 : Int))]
      refine ⟨H.ne_own (by first | exact List.mem_cons_self | (apply List.mem_cons_of_mem; first | exact List.mem_cons_self | (apply List.mem_cons_of_mem; first | exact List.mem_cons_self | (apply List.mem_cons_of_mem; first | exact List.mem_cons_self | (apply List.mem_cons_of_mem; first | exact List.mem_cons_self | (apply List.mem_cons_of_mem; first | exact List.mem_cons_self | (apply List.mem_cons_of_mem; first | exact List.mem_cons_self | (apply List.mem_cons_of_mem; first | exact List.mem_cons_self)))))))) (fp_47 _), ?_⟩
      refine ⟨kp_47 _, ?_⟩
      refine ⟨_, hp_47 _ (by omega), ?_⟩
      rw [hL]
      rw [wi64_of (n := L) (by omega) (by omega), wi64_of (n := (j : Int) + 2 + L) (by omega) (by omega)]
      refine ⟨by omega, by omega, ?_⟩
      refine ⟨by omega, by omega, ?_⟩
      have HT := H.cutB (xs := ys) (a := some p_21) (n := b7l) (c := b7c) (by first | assumption | exact List.mem_cons_self | (apply List.mem_cons_of_mem; first | assumption | exact List.mem_cons_self | (apply List.mem_cons_of_mem; first | assumption | exact List.mem_cons_self | (apply List.mem_cons_of_mem; first | assumption | exact List.mem_cons_self | (apply List.mem_cons_of_mem; first | assumption | exact List.mem_cons_self | (apply List.mem_cons_of_mem; first | assumption | exact List.mem_cons_self)))))) (j + 2) (j + 2 + L.toNat) (by omega) (by omega)
      rw [show ((j : Int) + 2 + L).toNat = j + 2 + L.toNat by omega, show ((j : Int) + 2).toNat = j + 2 by omega]
      refine ⟨_, strRow HT List.mem_cons_self (fun b hb => HT.in_foots (by first | exact List.mem_cons_self | (apply List.mem_cons_of_mem; first | exact List.mem_cons_self | (apply List.mem_cons_of_mem; first | exact List.mem_cons_self | (apply List.mem_cons_of_mem; first | exact List.mem_cons_self | (apply List.mem_cons_of_mem; first | exact List.mem_cons_self | (apply List.mem_cons_of_mem; first | exact List.mem_cons_self | (apply List.mem_cons_of_mem; first | exact List.mem_cons_self | (apply List.mem_cons_of_mem; first | exact List.mem_cons_self)))))))) hb) uSl uU8 uStr, ?_⟩
      clear HT
      refine ⟨rfl, ?_⟩
      refine sNew H ?_; clear H; intro b52 w g H; replace K := World.grownBy.trans K (grew_none _ g); clear g   -- (#[.int .u8 x48, .string x51])
      refine ⟨K, ?_⟩   -- wd2.grownBy w_53 r45
      refine sApp1 H (bytes := 24) (by kernel_rfl) [.int .u8 (ys.getD j 0), .string (strOfNums ((ys.drop (j + 2)).take (j + 2 + L.toNat - (j + 2))))] (Itm.dat (ys.getD j 0, strOfNums ((ys.drop (j + 2)).take (j + 2 + L.toNat - (j + 2))))) (by rfl) (fun j u hu => by rw [add_flat, Nat.zero_add]; exact H.b0.cell hu) (fun G h => by repeat (first | exact DeepL.nil _ _ | exact DeepL.ones _ | refine DeepL.cons (Deep.emp _ _) ?_ | refine DeepL.cons (Deep.one _) ?_ | refine DeepL.cons (h (.deep [_] [_]) (by assumption)).head ?_ | refine DeepL.cons (h (.deep [_] [_]) (by first | assumption | exact List.mem_cons_self | (apply List.mem_cons_of_mem; first | assumption | exact List.mem_cons_self | (apply List.mem_cons_of_mem; first | assumption | exact List.mem_cons_self | (apply List.mem_cons_of_mem; first | assumption | exact List.mem_cons_self | (apply List.mem_cons_of_mem; first | assumption | exact List.mem_cons_self | (apply List.mem_cons_of_mem; first | assumption | exact List.mem_cons_self))))))).head ?_)) (by simp [Value.oneCell']) (by unfold maxLen; omega) (by omega) ?_
      clear H; intro x54 x54l x54c x54r w ex54 g H
      replace K := World.grownBy.trans K g; clear g; replace H := H.sub (List.sublist_cons_self _ _) (fun _ h => h)
      refine ⟨K, ?_⟩   -- wd2.grownBy w_55 r45
      refine sSt1 H (by first | exact add_flat _ _ _ | exact add_flat2 _ _ _ _ | rfl) (by kernel_rfl) (by rfl) (by first | rfl | (simp only [List.all_cons, List.all_nil, Value.cells]; simp [*])) ?_; clear H; intro w _ H   -- StV pg 86 (p_11.add 1) (.slice x54 x54l x54c) w_55 w_56
      obtain ⟨p_57, ep_57, hp_57, kp_57, fp_57⟩ := H.at_ (a := some p_21) (xs := ys) (by first | assumption | exact List.mem_cons_self | (apply List.mem_cons_of_mem; first | assumption | exact List.mem_cons_self | (apply List.mem_cons_of_mem; first | assumption | exact List.mem_cons_self | (apply List.mem_cons_of_mem; first | assumption | exact List.mem_cons_self | (apply List.mem_cons_of_mem; first | assumption | exact List.mem_cons_self | (apply List.mem_cons_of_mem; first | assumption | exact List.mem_cons_self)))))) (by omega)
      cases ep_57
      refine ⟨p_21, rfl, by omega, by omega, ?_⟩   -- b7[IntKind.i64.wrap (at_20 + (1 : Int))]
      refine ⟨_, hp_57 _ (by omega), ?_⟩
      rw [hL]
      rw [wi64_of (n := L) (by omega) (by omega), wi64_of (n := (2 : Int) + L) (by omega) (by omega), wi64_of (n := (j : Int) + (2 + L)) (by omega) (by omega)]
      subst ex54
      refine ⟨f, by omega, j + 2 + L.toNat, its ++ [(ys.getD j 0, strOfNums ((ys.drop (j + 2)).take L.toNat))], x54, x54c, x54r, by omega, by omega, by omega, by omega, by simp; omega, ?_, ?_⟩
      · rw [hit]
        cases items ys f (j + 2 + L.toNat) <;> simp
      · rw [List.flatMap_append, List.length_append]
        rw [show j + 2 + L.toNat - (j + 2) = L.toNat by omega] at H
        exact H
  · rw [decide_eq_false_iff_not] at hc
    obtain rfl : i = k := by omega
    rw [Nat.sub_self, chks] at hch
    replace H := H.r1.freeze
    by_cases h0 : ys.length = 0
    · rw [if_pos h0] at hch
      have e : ((b7l : Int) == (0 : Int)) = true := by simp; omega
      rw [e]
      refine RdPost.yes { kind := 3, chunks := done } (by rw [hch]; simp) H (fun r hr => by (try simp only [List.mem_cons] at hr ⊢); (repeat (first | (rcases hr with rfl | hr; (first | (left; rfl) | (right; left; rfl) | (right; right; left; rfl) | (right; right; right; left; rfl) | (right; right; right; right; left; rfl)))  | (simp [hr]; done) | assumption | exact hr.elim))) (fun G h => by repeat (first | exact DeepL.nil _ _ | exact DeepL.ones _ | refine DeepL.cons (Deep.emp _ _) ?_ | refine DeepL.cons (Deep.one _) ?_ | refine DeepL.cons (h (.deep [_] [_]) (by assumption)).head ?_ | refine DeepL.cons (h (.deep [_] [_]) (by first | assumption | exact List.mem_cons_self | (apply List.mem_cons_of_mem; first | assumption | exact List.mem_cons_self | (apply List.mem_cons_of_mem; first | assumption | exact List.mem_cons_self | (apply List.mem_cons_of_mem; first | assumption | exact List.mem_cons_self | (apply List.mem_cons_of_mem; first | assumption | exact List.mem_cons_self | (apply List.mem_cons_of_mem; first | assumption | exact List.mem_cons_self))))))).head ?_))
    · rw [if_neg h0] at hch
      have e : ((b7l : Int) == (0 : Int)) = false := by simp; omega
      rw [e]
      exact RdPost.no (by rw [hch]; rfl) (H.sub (by repeat (first | exact List.Sublist.refl _ | exact List.nil_sublist _ | apply List.Sublist.cons_cons | apply List.Sublist.cons)) (fun r hr => by (try simp only [List.mem_cons] at hr ⊢); (repeat (first | (rcases hr with rfl | hr; (first | (left; rfl) | (right; left; rfl) | (right; right; left; rfl) | (right; right; right; left; rfl) | (right; right; right; right; left; rfl)))  | (simp [hr]; done) | assumption | exact hr.elim))))
end Go.Proofs.YtkdialecadjedaaGreat
