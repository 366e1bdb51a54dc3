/- rtcp's writer of transport-wide feedback: the same bytes (no statement of the seat is proved here; conditions: what is written was read from them). -/
import Derived.Test.YtkdialecadjedaaGreatW4
namespace Go.Proofs.YtkdialecadjedaaGreat
set_option linter.unusedVariables false
set_option linter.unusedSimpArgs false
set_option linter.unusedSectionVars false
open Go

theorem u8s_zero (N : Nat) : List.replicate N (Value.int .u8 0) = u8s (List.replicate N 0) := by simp [u8s]
theorem head_bytes {xs : List Int} (hb : By xs) (hok : hdrOk xs = true) (hp : hP xs = false) (hc : hC xs = 15) (ht : hT xs = 205) : [128 + 15, 205, hL xs / 256, hL xs % 256] ++ xs.drop 4 = xs := by
  simp only [hdrOk, Bool.and_eq_true, decide_eq_true_eq, beq_iff_eq] at hok
  obtain ⟨h4, hv⟩ := hok
  have h0 := hb.getD 0
  have h2 := hb.getD 2
  have h3 := hb.getD 3
  have hp' : ¬ xs.getD 0 0 / 32 % 2 = 1 := by unfold hP at hp; simpa using hp
  unfold hC at hc
  unfold hT at ht
  have e0 : xs.getD 0 0 = 128 + 15 := by omega
  have eL : hL xs / 256 = xs.getD 2 0 ∧ hL xs % 256 = xs.getD 3 0 := by
    unfold hL n16
    rw [getD_drop, getD_drop]
    simp only [Nat.reduceAdd]
    omega
  rw [eL.1, eL.2, ← e0, ← ht]
  match xs, h4 with
  | a :: b :: c :: d :: r, _ => rfl
set_option maxHeartbeats 4000000 in
set_option maxRecDepth 20000 in
theorem c159 {F : Fr} {w : World} {ex : List Ex} {ro : List Ro} {xs : List Int} {ca da : Option Addr} {cc dc : Nat} {vs : List Int} {ds : List Del} (H : Sat F w ex ro) (hb : By xs) (hT : Tcc xs vs ds) (hn : xs.length ≤ 1000000)
    (hch : Ro.deep [.row 1 (vs.map chD)] [.slice ca vs.length cc] ∈ ro) (hde : Ro.deep [.row 1 (ds.map deD)] [.slice da ds.length dc] ∈ ro) :
    Calls pg 159 #[.agg (tcX xs (.slice ca vs.length cc) (.slice da ds.length dc)).toArray] w fun en w' => ∃ a c, en = .returned (.tuple #[.slice a xs.length c, .nilIface]) ∧ Sat F w' ex (Ro.B xs a xs.length c :: ro) := by
  apply of159
  have hlong := hT.long
  have hLl := hT.len
  obtain ⟨f, zs, tl, hC, hD, hz1, hz2, hz3, hxl, hzs⟩ := tcc_rest hT
  obtain ⟨hvr, hvl, hdl⟩ := hT.sizes hb
  have hsz := tccD_sz _ _ _ _ (fun x hx => recv_mem hx) hD
  have hget := tccC_get _ _ _ _ _ hC
  have hLr : 0 ≤ hL xs ∧ hL xs < 65536 := by unfold hL; exact n16_lt (hb.drop 2)
  have hby : By (xs.drop 4) := hb.drop 4
  have hyl : (xs.drop 4).length = xs.length - 4 := List.length_drop
  refine sNew H ?_; clear H; intro b1 w _ H
  replace H : Sat F w (.blk b1 204 (tcX xs (.slice ca vs.length cc) (.slice da ds.length dc)) :: ex) ro := H
  refine call_j (c160 (N := xs.length) H hde (by omega) (by omega) (by omega) (by omega)) ?_
  clear H
  rintro _ w ⟨rfl, H⟩
  refine ⟨_, rfl, ?_⟩
  refine ⟨fun hc => ?_, fun hc => ?_⟩
  · rw [decide_eq_true_eq] at hc; omega
  clear hc
  refine ⟨_, _, _, _, Ld (vs := [.bool false, .int .u8 15, .int .u8 205, .int .u16 (hL xs)]) rfl H.b0 (by kernel_rfl) (by rfl) (by rfl), ?_⟩
  refine call_j (c68 H (by decide) (by decide) hLr) ?_
  clear H
  rintro _ w ⟨hg, rfl, H⟩
  refine ⟨_, _, _, _, rfl, by simp [isIf], fun h => absurd h (by decide), fun _ => ?_⟩
  rw [wi64_of (n := ((xs.length : Nat) : Int) - 4) (by omega) (by omega)]
  refine sMk H (e := 5) (z := .int .u8 0) (bytes := 1) (by kernel_rfl) (by kernel_rfl) (by rfl) (by unfold maxLen; omega) (by omega) (n := xs.length - 4) (by omega) (by omega) ?_
  clear H; intro g w _ H
  rw [u8s_zero, ← pre_zero (xs.drop 4)] at H
  obtain ⟨N, hN⟩ : ∃ N, N = xs.length - 4 := ⟨_, rfl⟩
  rw [← hN] at H hyl ⊢
  refine ⟨_, (by first | exact Ce (by first | exact add_flat _ _ _ | exact add_flat2 _ _ _ _ | rfl) H.b0 rfl | exact Ce (by first | exact add_flat _ _ _ | exact add_flat2 _ _ _ _ | rfl) H.b1 rfl | exact Ce (by first | exact add_flat _ _ _ | exact add_flat2 _ _ _ _ | rfl) H.b2 rfl | exact Ce (by first | exact add_flat _ _ _ | exact add_flat2 _ _ _ _ | rfl) H.b3 rfl | exact Ce (by first | exact add_flat _ _ _ | exact add_flat2 _ _ _ _ | rfl) H.b4 rfl | exact Ce (by first | exact add_flat _ _ _ | exact add_flat2 _ _ _ _ | rfl) H.b5 rfl | exact Ce (by first | exact add_flat _ _ _ | exact add_flat2 _ _ _ _ | rfl) H.b6 rfl | exact Ce (by first | exact add_flat _ _ _ | exact add_flat2 _ _ _ _ | rfl) H.b7 rfl | exact Ce (by first | exact add_flat _ _ _ | exact add_flat2 _ _ _ _ | rfl) H.b8 rfl | exact Ce (by first | exact add_flat _ _ _ | exact add_flat2 _ _ _ _ | rfl) H.b9 rfl), ?_⟩
  have hb32 : n32 (xs.drop 4) = n32 ((xs.drop 4).drop 0) := by simp
  refine call_j (c64 (o := 0) (n := N) (c := N) H (n32_lt (hb.drop 4)) (by omega) (by rw [pre_length (by omega) (by omega)]; omega)) ?_
  clear H
  rintro _ w ⟨rfl, H⟩
  have p1 : _ = pre (xs.drop 4) 4 N := pre4 (ys := xs.drop 4) hby (k := 0) (N := N) (by omega) (by omega)
  rw [← hb32] at p1
  rw [p1] at H
  clear p1
  refine ⟨rfl, ?_⟩
  refine ⟨by omega, by omega, ?_⟩
  replace H := H.drew; generalize w.drew = w at H ⊢
  refine ⟨_, (by first | exact Ce (by first | exact add_flat _ _ _ | exact add_flat2 _ _ _ _ | rfl) H.b0 rfl | exact Ce (by first | exact add_flat _ _ _ | exact add_flat2 _ _ _ _ | rfl) H.b1 rfl | exact Ce (by first | exact add_flat _ _ _ | exact add_flat2 _ _ _ _ | rfl) H.b2 rfl | exact Ce (by first | exact add_flat _ _ _ | exact add_flat2 _ _ _ _ | rfl) H.b3 rfl | exact Ce (by first | exact add_flat _ _ _ | exact add_flat2 _ _ _ _ | rfl) H.b4 rfl | exact Ce (by first | exact add_flat _ _ _ | exact add_flat2 _ _ _ _ | rfl) H.b5 rfl | exact Ce (by first | exact add_flat _ _ _ | exact add_flat2 _ _ _ _ | rfl) H.b6 rfl | exact Ce (by first | exact add_flat _ _ _ | exact add_flat2 _ _ _ _ | rfl) H.b7 rfl | exact Ce (by first | exact add_flat _ _ _ | exact add_flat2 _ _ _ _ | rfl) H.b8 rfl | exact Ce (by first | exact add_flat _ _ _ | exact add_flat2 _ _ _ _ | rfl) H.b9 rfl), ?_⟩
  rw [cutA_at (l := 4) (m := N) (q := 4) (by omega) (by omega)]
  have e8 : n32 (xs.drop 8) = n32 ((xs.drop 4).drop 4) := by rw [List.drop_drop]
  refine call_j (c64 (o := 4) (n := N - 4) (c := N - 4) H (n32_lt (hb.drop 8)) (by omega) (by rw [pre_length (by omega) (by omega)]; omega)) ?_
  clear H
  rintro _ w ⟨rfl, H⟩
  have p1 : _ = pre (xs.drop 4) 8 N := pre4 (ys := xs.drop 4) hby (k := 4) (N := N) (by omega) (by omega)
  rw [← e8] at p1
  rw [p1] at H
  clear p1
  refine ⟨rfl, ?_⟩
  refine ⟨by omega, by omega, ?_⟩
  replace H := H.drew; generalize w.drew = w at H ⊢
  refine ⟨_, (by first | exact Ce (by first | exact add_flat _ _ _ | exact add_flat2 _ _ _ _ | rfl) H.b0 rfl | exact Ce (by first | exact add_flat _ _ _ | exact add_flat2 _ _ _ _ | rfl) H.b1 rfl | exact Ce (by first | exact add_flat _ _ _ | exact add_flat2 _ _ _ _ | rfl) H.b2 rfl | exact Ce (by first | exact add_flat _ _ _ | exact add_flat2 _ _ _ _ | rfl) H.b3 rfl | exact Ce (by first | exact add_flat _ _ _ | exact add_flat2 _ _ _ _ | rfl) H.b4 rfl | exact Ce (by first | exact add_flat _ _ _ | exact add_flat2 _ _ _ _ | rfl) H.b5 rfl | exact Ce (by first | exact add_flat _ _ _ | exact add_flat2 _ _ _ _ | rfl) H.b6 rfl | exact Ce (by first | exact add_flat _ _ _ | exact add_flat2 _ _ _ _ | rfl) H.b7 rfl | exact Ce (by first | exact add_flat _ _ _ | exact add_flat2 _ _ _ _ | rfl) H.b8 rfl | exact Ce (by first | exact add_flat _ _ _ | exact add_flat2 _ _ _ _ | rfl) H.b9 rfl), ?_⟩
  rw [cutA_at (l := 8) (m := N) (q := 8) (by omega) (by omega)]
  have e12 : n16 (xs.drop 12) = n16 ((xs.drop 4).drop 8) := by rw [List.drop_drop]
  refine call_j (c75 (o := 8) (n := N - 8) (c := N - 8) H (n16_lt (hb.drop 12)) (by omega) (by rw [pre_length (by omega) (by omega)]; omega)) ?_
  clear H
  rintro _ w ⟨rfl, H⟩
  have p1 : _ = pre (xs.drop 4) 10 N := pre2 (ys := xs.drop 4) hby (k := 8) (N := N) (by omega) (by omega)
  rw [← e12] at p1
  rw [p1] at H
  clear p1
  refine ⟨rfl, ?_⟩
  refine ⟨by omega, by omega, ?_⟩
  replace H := H.drew; generalize w.drew = w at H ⊢
  refine ⟨_, (by first | exact Ce (by first | exact add_flat _ _ _ | exact add_flat2 _ _ _ _ | rfl) H.b0 rfl | exact Ce (by first | exact add_flat _ _ _ | exact add_flat2 _ _ _ _ | rfl) H.b1 rfl | exact Ce (by first | exact add_flat _ _ _ | exact add_flat2 _ _ _ _ | rfl) H.b2 rfl | exact Ce (by first | exact add_flat _ _ _ | exact add_flat2 _ _ _ _ | rfl) H.b3 rfl | exact Ce (by first | exact add_flat _ _ _ | exact add_flat2 _ _ _ _ | rfl) H.b4 rfl | exact Ce (by first | exact add_flat _ _ _ | exact add_flat2 _ _ _ _ | rfl) H.b5 rfl | exact Ce (by first | exact add_flat _ _ _ | exact add_flat2 _ _ _ _ | rfl) H.b6 rfl | exact Ce (by first | exact add_flat _ _ _ | exact add_flat2 _ _ _ _ | rfl) H.b7 rfl | exact Ce (by first | exact add_flat _ _ _ | exact add_flat2 _ _ _ _ | rfl) H.b8 rfl | exact Ce (by first | exact add_flat _ _ _ | exact add_flat2 _ _ _ _ | rfl) H.b9 rfl), ?_⟩
  rw [cutA_at (l := 10) (m := N) (q := 10) (by omega) (by omega)]
  have e14 : n16 (xs.drop 14) = n16 ((xs.drop 4).drop 10) := by rw [List.drop_drop]
  refine call_j (c75 (o := 10) (n := N - 10) (c := N - 10) H (n16_lt (hb.drop 14)) (by omega) (by rw [pre_length (by omega) (by omega)]; omega)) ?_
  clear H
  rintro _ w ⟨rfl, H⟩
  have p1 : _ = pre (xs.drop 4) 12 N := pre2 (ys := xs.drop 4) hby (k := 10) (N := N) (by omega) (by omega)
  rw [← e14] at p1
  rw [p1] at H
  clear p1
  refine ⟨rfl, ?_⟩
  refine ⟨_, (by first | exact Ce (by first | exact add_flat _ _ _ | exact add_flat2 _ _ _ _ | rfl) H.b0 rfl | exact Ce (by first | exact add_flat _ _ _ | exact add_flat2 _ _ _ _ | rfl) H.b1 rfl | exact Ce (by first | exact add_flat _ _ _ | exact add_flat2 _ _ _ _ | rfl) H.b2 rfl | exact Ce (by first | exact add_flat _ _ _ | exact add_flat2 _ _ _ _ | rfl) H.b3 rfl | exact Ce (by first | exact add_flat _ _ _ | exact add_flat2 _ _ _ _ | rfl) H.b4 rfl | exact Ce (by first | exact add_flat _ _ _ | exact add_flat2 _ _ _ _ | rfl) H.b5 rfl | exact Ce (by first | exact add_flat _ _ _ | exact add_flat2 _ _ _ _ | rfl) H.b6 rfl | exact Ce (by first | exact add_flat _ _ _ | exact add_flat2 _ _ _ _ | rfl) H.b7 rfl | exact Ce (by first | exact add_flat _ _ _ | exact add_flat2 _ _ _ _ | rfl) H.b8 rfl | exact Ce (by first | exact add_flat _ _ _ | exact add_flat2 _ _ _ _ | rfl) H.b9 rfl), ?_⟩
  have h24 := n24_lt (hb.drop 16)
  have h19 := hb.getD 19
  refine call_j (c162 (n := 24) (by decide) (by omega) (.inr rfl)) ?_
  rintro _ w ⟨rfl, gr⟩
  replace H := H.grow gr; clear gr
  refine ⟨_, rfl, ?_⟩
  refine ⟨_, (by first | exact Ce (by first | exact add_flat _ _ _ | exact add_flat2 _ _ _ _ | rfl) H.b0 rfl | exact Ce (by first | exact add_flat _ _ _ | exact add_flat2 _ _ _ _ | rfl) H.b1 rfl | exact Ce (by first | exact add_flat _ _ _ | exact add_flat2 _ _ _ _ | rfl) H.b2 rfl | exact Ce (by first | exact add_flat _ _ _ | exact add_flat2 _ _ _ _ | rfl) H.b3 rfl | exact Ce (by first | exact add_flat _ _ _ | exact add_flat2 _ _ _ _ | rfl) H.b4 rfl | exact Ce (by first | exact add_flat _ _ _ | exact add_flat2 _ _ _ _ | rfl) H.b5 rfl | exact Ce (by first | exact add_flat _ _ _ | exact add_flat2 _ _ _ _ | rfl) H.b6 rfl | exact Ce (by first | exact add_flat _ _ _ | exact add_flat2 _ _ _ _ | rfl) H.b7 rfl | exact Ce (by first | exact add_flat _ _ _ | exact add_flat2 _ _ _ _ | rfl) H.b8 rfl | exact Ce (by first | exact add_flat _ _ _ | exact add_flat2 _ _ _ _ | rfl) H.b9 rfl), ?_⟩
  rw [wu32, show xs.getD 19 0 % 4294967296 = xs.getD 19 0 by omega]
  refine call_j (c162 (n := 8) (by omega) (by omega) (.inl rfl)) ?_
  rintro _ w ⟨rfl, gr⟩
  replace H := H.grow gr; clear gr
  refine ⟨_, rfl, ?_⟩
  have e16 : ((0 : Int) * 2 ^ 24 + n24 (xs.drop 16)) * 2 ^ 8 + xs.getD 19 0 = n32 ((xs.drop 4).drop 12) := by
    rw [List.drop_drop]
    unfold n24 n32 n16
    rw [getD_drop, getD_drop, getD_drop, getD_drop, getD_drop, getD_drop, getD_drop]
    simp only [Nat.reduceAdd]
    omega
  rw [e16]
  refine ⟨by omega, by omega, ?_⟩
  rw [cutA_at (l := 12) (m := N) (q := 12) (by omega) (by omega)]
  refine call_j (c64 (o := 12) (n := N - 12) (c := N - 12) H (n32_lt (hby.drop 12)) (by omega) (by rw [pre_length (by omega) (by omega)]; omega)) ?_
  clear H
  rintro _ w ⟨rfl, H⟩
  have p1 : _ = pre (xs.drop 4) 16 N := pre4 (ys := xs.drop 4) hby (k := 12) (N := N) (by omega) (by omega)
  rw [p1] at H
  clear p1
  refine ⟨rfl, ?_⟩
  refine ⟨_, _, _, (by first | exact Ce (by first | exact add_flat _ _ _ | exact add_flat2 _ _ _ _ | rfl) H.b0 rfl | exact Ce (by first | exact add_flat _ _ _ | exact add_flat2 _ _ _ _ | rfl) H.b1 rfl | exact Ce (by first | exact add_flat _ _ _ | exact add_flat2 _ _ _ _ | rfl) H.b2 rfl | exact Ce (by first | exact add_flat _ _ _ | exact add_flat2 _ _ _ _ | rfl) H.b3 rfl | exact Ce (by first | exact add_flat _ _ _ | exact add_flat2 _ _ _ _ | rfl) H.b4 rfl | exact Ce (by first | exact add_flat _ _ _ | exact add_flat2 _ _ _ _ | rfl) H.b5 rfl | exact Ce (by first | exact add_flat _ _ _ | exact add_flat2 _ _ _ _ | rfl) H.b6 rfl | exact Ce (by first | exact add_flat _ _ _ | exact add_flat2 _ _ _ _ | rfl) H.b7 rfl | exact Ce (by first | exact add_flat _ _ _ | exact add_flat2 _ _ _ _ | rfl) H.b8 rfl | exact Ce (by first | exact add_flat _ _ _ | exact add_flat2 _ _ _ _ | rfl) H.b9 rfl), ?_⟩
  refine ⟨fun x37 m_33 w => ∃ j : Nat, x37 = (j : Int) ∧ j + m_33 = vs.length ∧
    Sat F w (.blk g 5 (u8s (pre (xs.drop 4) (16 + 2 * j) N)) :: .blk hg 5 (u8s [128 + 15, 205, hL xs / 256, hL xs % 256]) :: .blk b1 204 (tcX xs (.slice ca vs.length cc) (.slice da ds.length dc)) :: ex) ro, ⟨vs.length, 0, rfl, by omega, H⟩, ?_⟩
  clear H; rintro dd32 x37 m_33 w ⟨j, rfl, hjm, H⟩
  refine ⟨fun hc => ?_, fun hc => ?_⟩
  · rw [decide_eq_true_eq] at hc
    have hjl : j < vs.length := by omega
    have hcut : xs.drop (20 + 2 * j) = (xs.drop 4).drop (16 + 2 * j) := by rw [List.drop_drop]; congr 1; omega
    have hvv : vs[j] = n16 ((xs.drop 4).drop (16 + 2 * j)) := by rw [hget j hjl, List.drop_drop, List.drop_drop]; congr 2; omega
    have hvj := hvr _ (List.getElem_mem hjl)
    have hvb : u8s [vs[j] / 256, vs[j] % 256] = u8s (((xs.drop 4).drop (16 + 2 * j)).take 2) := by
      have h0 := (hby.drop (16 + 2 * j)).getD 0
      have h1 := (hby.drop (16 + 2 * j)).getD 1
      rw [take2 (by rw [List.length_drop]; omega), hvv]
      unfold n16
      congr 1
      rw [show ((((xs.drop 4).drop (16 + 2 * j)).getD 0 0 * 256 + ((xs.drop 4).drop (16 + 2 * j)).getD 1 0) / 256 = ((xs.drop 4).drop (16 + 2 * j)).getD 0 0) by omega, show ((((xs.drop 4).drop (16 + 2 * j)).getD 0 0 * 256 + ((xs.drop 4).drop (16 + 2 * j)).getD 1 0) % 256 = ((xs.drop 4).drop (16 + 2 * j)).getD 1 0) by omega]
    obtain ⟨bb, oo, us, e, hul, hcell, H1⟩ := H.elts hch (by omega)
    rw [List.length_map] at hul
    have H2 := H1.splitRo List.mem_cons_self j (d := chD vs[j]) (v := us[j]) (by rw [List.getElem?_map, List.getElem?_eq_getElem hjl]; rfl) (List.getElem?_eq_getElem (by omega))
    refine ⟨_, e, by omega, by omega, ?_⟩
    refine ⟨_, (by rw [show (j : Int).toNat * 1 = j by omega, add_flat]; exact hcell j us[j] (List.getElem?_eq_getElem (by omega))), ?_⟩
    clear hcell H H1
    generalize us[j] = u at H2 ⊢
    generalize vs[j] = v at H2 hvj hvb
    have hrest : ∀ (a' : Option Addr) (c' : Nat) (w : World) (ro' : List Ro), Sat F w (.blk g 5 (u8s (pre (xs.drop 4) (16 + 2 * j) N)) :: .blk hg 5 (u8s [128 + 15, 205, hL xs / 256, hL xs % 256]) :: .blk b1 204 (tcX xs (.slice ca vs.length cc) (.slice da ds.length dc)) :: ex) (Ro.B [v / 256, v % 256] a' 2 c' :: ro') → (∀ r ∈ ro, r ∈ ro') →
        ∃ x43 w_44, (Builtin.copy_ #[22, 22] 3 #[.slice (cutA (some ⟨g, 0, none⟩) (16 + 2 * j) N 1) (N - (16 + 2 * j)) (N - (16 + 2 * j)), .slice a' 2 c']).run pg w = .ok (.int .i64 x43) w_44 ∧
          ∃ m', m' < m_33 ∧ ∃ j' : Nat, IntKind.i64.wrap ((j : Int) + 1) = (j' : Int) ∧ j' + m' = vs.length ∧
            Sat F w_44 (.blk g 5 (u8s (pre (xs.drop 4) (16 + 2 * j') N)) :: .blk hg 5 (u8s [128 + 15, 205, hL xs / 256, hL xs % 256]) :: .blk b1 204 (tcX xs (.slice ca vs.length cc) (.slice da ds.length dc)) :: ex) ro := by
      intro a' c' w ro' H hr
      rw [cutA_at (l := 16 + 2 * j) (m := N) (q := 16 + 2 * j) (by omega) (by omega)]
      obtain ⟨p, rfl, hp, _, _⟩ := H.at_ (a := a') List.mem_cons_self (by omega)
      refine sCp H (elem := 5) (bytes := 1) (by kernel_rfl) (u8s [v / 256, v % 256]) (by show 2 = min 2 _; omega) ?_ (by rw [u8s_length, u8s_length, pre_length (by omega) (by omega)]; simp; omega) (by intro u hu; simp [u8s] at hu; rcases hu with rfl | rfl <;> rfl) ?_
      · intro i u hu
        match i, hu with
        | 0, hu => cases hu; exact hp 0 (by omega)
        | 1, hu => cases hu; exact hp 1 (by omega)
      · clear H hp; intro w _ H
        rw [hvb, pre_cp 2 (by omega) (by omega)] at H
        refine ⟨m_33 - 1, by omega, j + 1, ?_, by omega, ?_⟩
        · rw [wi64_of (by omega) (by omega)]; simp
        · rw [show 16 + 2 * (j + 1) = 16 + 2 * j + 2 by omega]
          exact H.sub (List.Sublist.refl _) (fun r h => List.mem_cons_of_mem _ (hr r h))
    have e1 : IntKind.i64.wrap ((16 : Int) + (IntKind.i64.wrap ((j : Int) * (2 : Int)))) = ((16 + 2 * j : Nat) : Int) := by rw [wi64_of (n := (j : Int) * 2) (by omega) (by omega), wi64_of (by omega) (by omega)]; omega
    by_cases hv0 : v / 32768 = 0
    · rw [chD_run hv0] at H2
      obtain ⟨v1, rfl, H3⟩ := H2.ifc List.mem_cons_self
      obtain ⟨pb, rfl, hcell, _⟩ := H3.chRun (us := [.nilIface, .int .u16 0, .int .u16 (v / 8192 % 4), .int .u16 (v % 8192)]) List.mem_cons_self
      refine inv_val (f := 180) (e := 214) (by kernel_rfl) (by rfl) (by kernel_rfl) (LdC [.nilIface, .int .u16 0, .int .u16 (v / 8192 % 4), .int .u16 (v % 8192)] (by kernel_rfl) (fun i u hu => by rw [add_flat, Nat.zero_add]; exact hcell i u hu)) (call_j (c180 (v := v) H3 rfl (by omega)) ?_)
      clear H2 H3 hcell
      rintro _ w ⟨a', c', rfl, H⟩
      refine ⟨_, _, _, _, rfl, by simp [isIf], fun h => absurd h (by decide), fun _ => ?_⟩
      rw [e1, Int.toNat_natCast]
      refine ⟨by omega, by omega, ?_⟩
      refine hrest a' c' w _ H ?_
      intro r hr; simp [hr]
    · rw [chD_vec hv0] at H2
      obtain ⟨v1, rfl, H3⟩ := H2.ifc List.mem_cons_self
      obtain ⟨pb, sa, sn, scc, rfl, hcell, _, _, hln, H4⟩ := H3.chVec List.mem_cons_self
      rw [oi_length] at hln
      subst hln
      refine inv_val (f := 178) (e := 211) (by kernel_rfl) (by rfl) (by kernel_rfl) (LdC [.nilIface, .int .u16 1, .int .u16 (v / 16384 % 2), .slice sa (symL v).length scc] (by kernel_rfl) (fun i u hu => by rw [add_flat, Nat.zero_add]; exact hcell i u hu)) (call_j (c178 (v := v) H4 rfl (by omega) List.mem_cons_self) ?_)
      clear H2 H3 H4 hcell
      rintro _ w ⟨a', c', rfl, H⟩
      refine ⟨_, _, _, _, rfl, by simp [isIf], fun h => absurd h (by decide), fun _ => ?_⟩
      rw [e1, Int.toNat_natCast]
      refine ⟨by omega, by omega, ?_⟩
      refine hrest a' c' w _ H ?_
      intro r hr; simp [hr]
  · rw [decide_eq_false_iff_not] at hc
    obtain rfl : j = vs.length := by omega
    clear hjm
    refine ⟨_, _, _, (by first | exact Ce (by first | exact add_flat _ _ _ | exact add_flat2 _ _ _ _ | rfl) H.b0 rfl | exact Ce (by first | exact add_flat _ _ _ | exact add_flat2 _ _ _ _ | rfl) H.b1 rfl | exact Ce (by first | exact add_flat _ _ _ | exact add_flat2 _ _ _ _ | rfl) H.b2 rfl | exact Ce (by first | exact add_flat _ _ _ | exact add_flat2 _ _ _ _ | rfl) H.b3 rfl | exact Ce (by first | exact add_flat _ _ _ | exact add_flat2 _ _ _ _ | rfl) H.b4 rfl | exact Ce (by first | exact add_flat _ _ _ | exact add_flat2 _ _ _ _ | rfl) H.b5 rfl | exact Ce (by first | exact add_flat _ _ _ | exact add_flat2 _ _ _ _ | rfl) H.b6 rfl | exact Ce (by first | exact add_flat _ _ _ | exact add_flat2 _ _ _ _ | rfl) H.b7 rfl | exact Ce (by first | exact add_flat _ _ _ | exact add_flat2 _ _ _ _ | rfl) H.b8 rfl | exact Ce (by first | exact add_flat _ _ _ | exact add_flat2 _ _ _ _ | rfl) H.b9 rfl), ?_⟩
    refine ⟨_, _, _, (by first | exact Ce (by first | exact add_flat _ _ _ | exact add_flat2 _ _ _ _ | rfl) H.b0 rfl | exact Ce (by first | exact add_flat _ _ _ | exact add_flat2 _ _ _ _ | rfl) H.b1 rfl | exact Ce (by first | exact add_flat _ _ _ | exact add_flat2 _ _ _ _ | rfl) H.b2 rfl | exact Ce (by first | exact add_flat _ _ _ | exact add_flat2 _ _ _ _ | rfl) H.b3 rfl | exact Ce (by first | exact add_flat _ _ _ | exact add_flat2 _ _ _ _ | rfl) H.b4 rfl | exact Ce (by first | exact add_flat _ _ _ | exact add_flat2 _ _ _ _ | rfl) H.b5 rfl | exact Ce (by first | exact add_flat _ _ _ | exact add_flat2 _ _ _ _ | rfl) H.b6 rfl | exact Ce (by first | exact add_flat _ _ _ | exact add_flat2 _ _ _ _ | rfl) H.b7 rfl | exact Ce (by first | exact add_flat _ _ _ | exact add_flat2 _ _ _ _ | rfl) H.b8 rfl | exact Ce (by first | exact add_flat _ _ _ | exact add_flat2 _ _ _ _ | rfl) H.b9 rfl), ?_⟩
    have e2 : IntKind.i64.wrap ((16 : Int) + (IntKind.i64.wrap (((vs.length : Nat) : Int) * (2 : Int)))) = ((16 + 2 * vs.length : Nat) : Int) := by rw [wi64_of (n := ((vs.length : Nat) : Int) * 2) (by omega) (by omega), wi64_of (by omega) (by omega)]; omega
    rw [e2]
    have hRm : ∀ x ∈ recv (vs.flatMap symL), x = 1 ∨ x = 2 := fun x h => recv_mem h
    generalize recv (vs.flatMap symL) = R at hD hRm
    refine ⟨fun i53 x54 m_49 w => ∃ (j q : Nat) (R' : List Int) (ds1 ds2 : List Del), x54 = (j : Int) ∧ i53 = ((q - (20 + 2 * vs.length) : Nat) : Int) ∧ j + m_49 = ds.length ∧ 20 + 2 * vs.length ≤ q ∧ q ≤ xs.length ∧ ds = ds1 ++ ds2 ∧ ds1.length = j ∧ (∀ x ∈ R', x = 1 ∨ x = 2) ∧ tccD R' (xs.drop q) = some (ds2, tl) ∧
      Sat F w (.blk g 5 (u8s (pre (xs.drop 4) (q - 4) N)) :: .blk hg 5 (u8s [128 + 15, 205, hL xs / 256, hL xs % 256]) :: .blk b1 204 (tcX xs (.slice ca vs.length cc) (.slice da ds.length dc)) :: ex) ro, ⟨ds.length, 0, 20 + 2 * vs.length, R, [], ds, rfl, by omega, by omega, by omega, by omega, rfl, rfl, hRm, by rw [← hzs]; exact hD, by rw [show 20 + 2 * vs.length - 4 = 16 + 2 * vs.length by omega]; exact H⟩, ?_⟩
    clear H hD hRm hsz; rintro dd48 i53 x54 m_49 w ⟨j, q, R', ds1, ds2, rfl, rfl, hjm, hq1, hq2, hds, hd1, hRm, hD, H⟩
    refine ⟨fun hc => ?_, fun hc => ?_⟩
    · rw [decide_eq_true_eq] at hc
      have hjl : j < ds.length := by omega
      cases R' with
      | nil =>
        cases hD
        rw [List.append_nil] at hds
        rw [hds] at hjl; omega
      | cons X R2 =>
        obtain ⟨hXl, ds3, rfl, hD3⟩ := tccD_cons hD
        have hXm := hRm X List.mem_cons_self
        rw [List.length_drop] at hXl
        have hdj : ds[j] = del1 X (xs.drop q) := by
          subst hd1
          simp only [hds]
          rw [List.getElem_append_right (Nat.le_refl _)]
          simp
        obtain ⟨bb, oo, us, e, hul, hcell, H1⟩ := H.elts hde (by omega)
        rw [List.length_map] at hul
        have H2 := H1.splitRo List.mem_cons_self j (d := deD ds[j]) (v := us[j]) (by rw [List.getElem?_map, List.getElem?_eq_getElem hjl]; rfl) (List.getElem?_eq_getElem (by omega))
        rw [hdj] at H2
        obtain ⟨pb, e3, hc2, _⟩ := H2.chRun (us := [.int .u16 X, .int .i64 (del1 X (xs.drop q)).2]) List.mem_cons_self
        refine ⟨_, e, by omega, by omega, ?_⟩
        refine ⟨_, (by rw [show (j : Int).toNat * 1 = j by omega, add_flat]; exact hcell j (.pointer (some ⟨pb, 0, none⟩)) (by rw [← e3]; exact List.getElem?_eq_getElem (by omega))), ?_⟩
        rw [e3] at H2
        refine ⟨_, rfl, ?_⟩
        refine ⟨_, _, LdC [.int .u16 X, .int .i64 (del1 X (xs.drop q)).2] (by kernel_rfl) (fun i u hu => by rw [add_flat, Nat.zero_add]; exact hc2 i u hu), ?_⟩
        clear H H1 hcell hc2
        refine call_j (c163 H2 (hb.drop q) hXm (by rw [List.length_drop]; exact hXl)) ?_
        clear H2
        rintro _ w ⟨a', c', rfl, H⟩
        refine ⟨_, _, _, _, rfl, by simp [isIf], fun h => absurd h (by decide), fun _ => ?_⟩
        have e4 : IntKind.i64.wrap (((16 + 2 * vs.length : Nat) : Int) + ((q - (20 + 2 * vs.length) : Nat) : Int)) = ((q - 4 : Nat) : Int) := by rw [wi64_of (by omega) (by omega)]; omega
        rw [e4, Int.toNat_natCast]
        refine ⟨by omega, by omega, ?_⟩
        rw [cutA_at (l := q - 4) (m := N) (q := q - 4) (by omega) (by omega)]
        obtain ⟨p, rfl, hp, _, _⟩ := H.at_ (a := a') List.mem_cons_self (by omega)
        have hXt : ((xs.drop q).take X.toNat).length = X.toNat := by rw [List.length_take, List.length_drop]; omega
        refine sCp H (elem := 5) (bytes := 1) (by kernel_rfl) (u8s ((xs.drop q).take X.toNat)) (by rw [u8s_length, hXt]; show X.toNat = min _ _; omega) ?_ (by rw [u8s_length, u8s_length, pre_length (by omega) (by omega), hXt]; omega) (by intro u hu; simp only [u8s, List.mem_map] at hu; obtain ⟨y, _, rfl⟩ := hu; rfl) ?_
        · intro i u hu
          have hi := (List.getElem?_eq_some_iff.1 hu).1
          rw [u8s_length, hXt] at hi
          unfold u8s at hu
          rw [List.getElem?_map, List.getElem?_eq_getElem (by omega)] at hu
          cases hu
          rw [hp i hi]
          simp [List.getD, List.getElem?_eq_getElem (show i < ((xs.drop q).take X.toNat).length by omega)]
        · clear H hp; intro w _ H
          have hdd : xs.drop q = (xs.drop 4).drop (q - 4) := by rw [List.drop_drop]; congr 1; omega
          rw [hdd] at H
          rw [pre_cp X.toNat (by omega) (by omega)] at H
          obtain ⟨pb2, e5, hc3, _⟩ := H.chRun (us := [.int .u16 X, .int .i64 (del1 X ((xs.drop 4).drop (q - 4))).2]) (List.mem_cons_of_mem _ List.mem_cons_self)
          cases e5
          refine ⟨_, rfl, ?_⟩
          refine ⟨_, hc3 0 _ rfl, ?_⟩
          have hnext : ∀ z : Int, z = ((q - (20 + 2 * vs.length) + X.toNat : Nat) : Int) → ∃ m', m' < m_49 ∧ ∃ (j' q' : Nat) (R' : List Int) (ds1 ds2 : List Del), IntKind.i64.wrap ((j : Int) + 1) = (j' : Int) ∧ z = ((q' - (20 + 2 * vs.length) : Nat) : Int) ∧ j' + m' = ds.length ∧ 20 + 2 * vs.length ≤ q' ∧ q' ≤ xs.length ∧ ds = ds1 ++ ds2 ∧ ds1.length = j' ∧ (∀ x ∈ R', x = 1 ∨ x = 2) ∧ tccD R' (xs.drop q') = some (ds2, tl) ∧
              Sat F w (.blk g 5 (u8s (pre (xs.drop 4) (q' - 4) N)) :: .blk hg 5 (u8s [128 + 15, 205, hL xs / 256, hL xs % 256]) :: .blk b1 204 (tcX xs (.slice ca vs.length cc) (.slice da ds.length dc)) :: ex) ro := by
            intro z hz
            refine ⟨m_49 - 1, by omega, j + 1, q + X.toNat, R2, ds1 ++ [del1 X (xs.drop q)], ds3, ?_, by omega, by omega, by omega, by omega, by rw [hds, List.append_assoc]; rfl, by simp [hd1], fun x hx => hRm x (List.mem_cons_of_mem _ hx), by rw [List.drop_drop] at hD3; exact hD3, ?_⟩
            · rw [wi64_of (by omega) (by omega)]; simp
            · rw [show q + X.toNat - 4 = q - 4 + X.toNat by omega]
              refine H.sub (List.Sublist.refl _) ?_
              intro r hr; simp [hr]
          clear hc3
          refine ⟨fun h => ?_, fun h => ?_⟩
          · have hX2 : X = 2 := by simpa using h
            refine hnext _ ?_
            rw [wi64_of (n := ((q - (20 + 2 * vs.length) : Nat) : Int) + 1) (by omega) (by omega), wi64_of (by omega) (by omega)]; omega
          · have hX2 : ¬ X = 2 := by simpa using h
            refine hnext _ ?_
            rw [wi64_of (by omega) (by omega)]; omega
    · rw [decide_eq_false_iff_not] at hc
      have hj : j = ds.length := by omega
      have hd2 : ds2 = [] := by
        have := congrArg List.length hds
        rw [List.length_append] at this
        exact List.eq_nil_of_length_eq_zero (by omega)
      subst hd2
      have hR0 : R' = [] := by
        cases R' with
        | nil => rfl
        | cons X R2 => obtain ⟨_, ds3, e, _⟩ := tccD_cons hD; cases e
      subst hR0
      have htl : xs.drop q = tl := by cases hD; rfl
      have hfull : pre (xs.drop 4) (q - 4) N = xs.drop 4 := pre_full (by omega) (by omega) (by rw [List.drop_drop, show 4 + (q - 4) = q by omega, htl]; exact hz1)
      rw [hfull] at H
      refine ⟨_, (by first | exact Ce (by first | exact add_flat _ _ _ | exact add_flat2 _ _ _ _ | rfl) H.b0 rfl | exact Ce (by first | exact add_flat _ _ _ | exact add_flat2 _ _ _ _ | rfl) H.b1 rfl | exact Ce (by first | exact add_flat _ _ _ | exact add_flat2 _ _ _ _ | rfl) H.b2 rfl | exact Ce (by first | exact add_flat _ _ _ | exact add_flat2 _ _ _ _ | rfl) H.b3 rfl | exact Ce (by first | exact add_flat _ _ _ | exact add_flat2 _ _ _ _ | rfl) H.b4 rfl | exact Ce (by first | exact add_flat _ _ _ | exact add_flat2 _ _ _ _ | rfl) H.b5 rfl | exact Ce (by first | exact add_flat _ _ _ | exact add_flat2 _ _ _ _ | rfl) H.b6 rfl | exact Ce (by first | exact add_flat _ _ _ | exact add_flat2 _ _ _ _ | rfl) H.b7 rfl | exact Ce (by first | exact add_flat _ _ _ | exact add_flat2 _ _ _ _ | rfl) H.b8 rfl | exact Ce (by first | exact add_flat _ _ _ | exact add_flat2 _ _ _ _ | rfl) H.b9 rfl), ?_⟩
      refine ⟨fun h => absurd h (by decide), fun _ => ?_⟩
      have H1 := H.r1.toOwn 1 4 (ob [128 + 15, 205, hL xs / 256, hL xs % 256]) (by rfl) (by decide) (fun G h => DeepL.ones [.int .u8 (128 + 15), .int .u8 205, .int .u8 (hL xs / 256), .int .u8 (hL xs % 256)])
      refine sApp0 H1 (bytes := 1) (by kernel_rfl) (u8s (xs.drop 4)) (ob (xs.drop 4)) (by rw [u8s_length, hyl, Nat.mul_one]) (fun j u hu => by rw [add_flat, Nat.zero_add]; exact H1.b1.cell hu) (fun G h => by rw [ob_ones]; exact DeepL.ones _) (fun u hu => List.all_eq_true.1 (all_u8 _) u hu) (by unfold maxLen; omega) (by omega) ?_
      clear H H1; intro x74 x74l x74c x74r w ex74 _ H
      rw [← ob_append, head_bytes hb hT.hdr hT.pad hT.cnt hT.typ] at H
      obtain rfl : x74l = xs.length := by omega
      refine ⟨x74, x74c, rfl, ?_⟩
      exact H.freeze.sub ((List.sublist_cons_self _ _).trans (List.sublist_cons_self _ _)) (fun _ h => h)
end Go.Proofs.YtkdialecadjedaaGreat
