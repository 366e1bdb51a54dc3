/- spec's readers of rows: what they compute (no statement of the seat is proved here; conditions: their slices read bytes). -/
import Derived.Test.YtkdialecadjedaaGreatRd2
namespace Go.Proofs.YtkdialecadjedaaGreat
set_option linter.unusedVariables false
set_option linter.unusedSimpArgs false
set_option linter.unusedSectionVars false
open Go

theorem reps_snoc : ∀ (i : Nat) (xs : List Int), reps (i + 1) xs = reps i xs ++ [rep1 (xs.drop (24 * i))]
  | 0, xs => by simp [reps]
  | i + 1, xs => by
    rw [reps, reps_snoc i, reps]
    simp only [List.cons_append, List.drop_drop]
    rw [show 24 + 24 * i = 24 * (i + 1) by omega]
theorem wadd {n : Int} {k : Nat} (h : n + (k : Int) < 9223372036854775808) (h0 : 0 ≤ n) : IntKind.i64.wrap (n + (k : Int)) = n + k := wi64_of (by omega) h
theorem c12 {F : Fr} {w : World} {ex : List Ex} {ro : List Ro} {xs : List Int} {a : Option Addr} {n c k : Nat} (H : Sat F w ex ro) (hx : Ro.B xs a n c ∈ ro) (hb : By xs) (hk : 24 * k ≤ n) (hk2 : k ≤ 1000) :
    Calls pg 12 #[.slice a n c, .int .i64 (k : Int)] w fun en w' => ∃ a1 c1 a2 n2 c2, en = .returned (.tuple #[.slice a1 k c1, .slice a2 n2 c2]) ∧
      Sat F w' ex (.deep [.row 7 ((reps k xs).flatMap Rep.dat)] [.slice a1 k c1] :: Ro.B (xs.drop (24 * k)) a2 n2 c2 :: ro) := by
  apply of12
  refine ⟨fun b' bl' bc' o ol oc x m w' => ∃ (i : Nat) (r : Option Nat), x = (i : Int) ∧ i + m = k ∧ i = ol ∧ bl' + 24 * i = n ∧ Sat F w' (.own 83 7 o ol oc r ((reps i xs).flatMap Rep.dat) :: ex) (Ro.B (xs.drop (24 * i)) b' bl' bc' :: ro), ⟨k, 0, none, rfl, by omega, rfl, by omega, ?_⟩, ?_⟩
  · exact (H.addRo (H.hr _ hx)).nilOwn _ _
  · clear H
    rintro dd b' bl' bc' o ol oc x m w ⟨i, r, rfl, hm, rfl, hbl, H⟩
    refine ⟨fun hc => ?_, fun hc => ?_⟩
    · have hik : i < k := by have : (i : Int) < (k : Int) := by simpa using hc
                             omega
      have hby : By (xs.drop (24 * i)) := hb.drop _
      refine call_j (c24 (by first | exact (Sat.rd H (by repeat (first | assumption | exact List.mem_cons_self | apply List.mem_cons_of_mem))) | exact Rd.skip (Sat.rd H (by repeat (first | assumption | exact List.mem_cons_self | apply List.mem_cons_of_mem))) _ (by omega) | exact Rd.skip (Rd.skip (Sat.rd H (by repeat (first | assumption | exact List.mem_cons_self | apply List.mem_cons_of_mem))) _ (by omega)) _ (by omega) | exact Rd.cut (Sat.rd H (by repeat (first | assumption | exact List.mem_cons_self | apply List.mem_cons_of_mem))) _ _ (by omega) (by omega) | exact Rd.skip (Rd.skip (Rd.skip (Sat.rd H (by repeat (first | assumption | exact List.mem_cons_self | apply List.mem_cons_of_mem))) _ (by omega)) _ (by omega)) _ (by omega) | assumption) hby (by omega)) ?_
      rintro _ w ⟨rfl, g⟩
      replace H := H.grow g; clear g
      refine ⟨_, _, _, _, _, _, _, rfl, rfl, ?_⟩
      refine sPush0 H (bytes := 28) (by kernel_rfl) (Rep.dat (rep1 (xs.drop (24 * i)))) (by rfl) (fun G h => DeepL.ones [_, _, _, _, _, _, _]) (by rfl) (by unfold maxLen; omega) (by omega) ?_
      clear H; intro o2 ol2 oc2 r2 w hl2 _ H
      refine ⟨by omega, by omega, m - 1, by omega, i + 1, r2, ?_, by omega, by omega, by omega, ?_⟩
      · rw [wi64_of (by omega) (by omega)]; simp
      · have H2 := H.skipB List.mem_cons_self 24 (by omega)
        rw [List.drop_drop, show 24 * i + 24 = 24 * (i + 1) by omega] at H2
        rw [reps_snoc, List.flatMap_append]
        simp only [List.flatMap_cons, List.flatMap_nil, List.append_nil]
        exact H2.sub (List.Sublist.refl _) (fun r hr => by simp only [List.mem_cons] at hr ⊢; (repeat (first | (rcases hr with rfl | hr; (first | (left; rfl) | (right; left; rfl) | (right; right; left; rfl) | (right; right; right; left; rfl) | (right; right; right; right; left; rfl)))  | (simp [hr]; done) | assumption | exact hr.elim)))
    · have hik : i = k := by have : ¬ (i : Int) < (k : Int) := by simpa using hc
                             omega
      subst hik
      exact ⟨_, _, _, _, _, rfl, H.freeze⟩
end Go.Proofs.YtkdialecadjedaaGreat
