/- rtcp's writer of transport-wide feedback: sizes, and what its loops need (no statement of the seat is proved here; conditions: none). -/
import Derived.Test.YtkdialecadjedaaGreatW3
namespace Go.Proofs.YtkdialecadjedaaGreat
set_option linter.unusedVariables false
set_option linter.unusedSimpArgs false
set_option linter.unusedSectionVars false
open Go

def dsz : List Del → Nat
  | [] => 0
  | d :: r => (if d.1 = 1 then 1 else 2) + dsz r
theorem dsz_append : ∀ a b : List Del, dsz (a ++ b) = dsz a + dsz b
  | [], b => by simp [dsz]
  | d :: r, b => by simp only [List.cons_append, dsz, dsz_append r b]; omega
theorem dsz_le : ∀ a : List Del, dsz a ≤ 2 * a.length
  | [] => by simp [dsz]
  | d :: r => by
    have := dsz_le r
    simp only [dsz, List.length_cons]
    split <;> omega
theorem tccD_sz : ∀ (R ys : List Int) (ds : List Del) (tl : List Int), (∀ x ∈ R, x = 1 ∨ x = 2) → tccD R ys = some (ds, tl) → dsz ds + tl.length = ys.length
  | [], ys, ds, tl, _, h => by cases h; simp [dsz]
  | x :: r, ys, ds, tl, hR, h => by
    obtain ⟨h1, ds', rfl, h2⟩ := tccD_cons h
    have ih := tccD_sz r _ _ _ (fun y hy => hR y (List.mem_cons_of_mem _ hy)) h2
    have hx := hR x List.mem_cons_self
    rw [List.length_drop] at ih
    have e : (del1 x ys).1 = x := rfl
    simp only [dsz, e]
    split <;> omega
theorem tccC_get : ∀ (f : Nat) (left : Int) (ys vs zs : List Int), tccC f left ys = some (vs, zs) → ∀ (i : Nat) (h : i < vs.length), vs[i] = n16 (ys.drop (2 * i))
  | 0, _, _, _, _, h => by simp [tccC] at h
  | f + 1, left, ys, vs, zs, h => by
    rcases Int.lt_or_le 0 left with hl | hl
    · obtain ⟨g, v, vs', h2, hv, rfl, _, _, h5⟩ := tccC_cons h hl
      simp only [tccC] at h
      rw [if_neg (by omega), if_neg (by omega)] at h
      split at h
      · cases h
      · split at h
        · cases h6 : tccC f (left - (symL (n16 ys)).length) (ys.drop 2) with
          | none => rw [h6] at h; cases h
          | some q =>
            rw [h6] at h
            simp only [Option.map_some, Option.some.injEq, Prod.mk.injEq, List.cons.injEq] at h
            obtain ⟨⟨h7, rfl⟩, rfl⟩ := h
            have ih := tccC_get f _ _ _ _ h6
            intro i hi
            cases i with
            | zero => simpa using hv
            | succ i =>
              rw [List.getElem_cons_succ, ih i (by simpa using hi), List.drop_drop]
              congr 2
              omega
        · cases h
    · obtain ⟨rfl, rfl⟩ := tccC_nil h hl
      intro i hi
      simp at hi
theorem cutA_at {b o l m sz q : Nat} (h : l ≠ m) (hq : o + l * sz = q) : cutA (some ⟨b, o, none⟩) l m sz = some ⟨b, q, none⟩ := by
  subst hq
  rcases cutA_of (l := l) (m := m) (sz := sz) (rfl : (some (⟨b, o, none⟩ : Addr)) = some ⟨b, o, none⟩) with ⟨h1, _⟩ | ⟨_, h2⟩
  · exact absurd h1.symm h
  · exact h2
theorem pre2 {ys : List Int} (hb : By ys) {k N : Nat} (h : k + 2 ≤ N) (hy : N ≤ ys.length) : ((pre ys k N).set k (n16 (ys.drop k) / 256)).set (k + 1) (n16 (ys.drop k) % 256) = pre ys (k + 2) N := by
  have h0 := hb.getD k
  have h1 := hb.getD (k + 1)
  have e : n16 (ys.drop k) = ys.getD k 0 * 256 + ys.getD (k + 1) 0 := by unfold n16; rw [getD_drop, getD_drop]; rfl
  rw [e, show (ys.getD k 0 * 256 + ys.getD (k + 1) 0) / 256 = ys.getD k 0 by omega, show (ys.getD k 0 * 256 + ys.getD (k + 1) 0) % 256 = ys.getD (k + 1) 0 by omega]
  rw [pre_set (by omega) hy, pre_set (by omega) hy]
theorem pre4 {ys : List Int} (hb : By ys) {k N : Nat} (h : k + 4 ≤ N) (hy : N ≤ ys.length) : ((((pre ys k N).set k (n32 (ys.drop k) / 16777216)).set (k + 1) (n32 (ys.drop k) / 65536 % 256)).set (k + 2) (n32 (ys.drop k) / 256 % 256)).set (k + 3) (n32 (ys.drop k) % 256) = pre ys (k + 4) N := by
  have h0 := hb.getD k
  have h1 := hb.getD (k + 1)
  have h2 := hb.getD (k + 2)
  have h3 := hb.getD (k + 3)
  have e : n32 (ys.drop k) = (ys.getD k 0 * 256 + ys.getD (k + 1) 0) * 65536 + (ys.getD (k + 2) 0 * 256 + ys.getD (k + 3) 0) := by
    unfold n32 n16
    rw [getD_drop, getD_drop, getD_drop, getD_drop, getD_drop, getD_drop]; rfl
  generalize n32 (ys.drop k) = v at e ⊢
  rw [show v / 16777216 = ys.getD k 0 by omega, show v / 65536 % 256 = ys.getD (k + 1) 0 by omega, show v / 256 % 256 = ys.getD (k + 2) 0 by omega, show v % 256 = ys.getD (k + 3) 0 by omega]
  rw [pre_set (by omega) hy, pre_set (by omega) hy, pre_set (by omega) hy, pre_set (by omega) hy]
theorem c164 {F : Fr} {w : World} {ex : List Ex} {ro : List Ro} {b : Nat} {T : TypeId} {hp : Bool} {hn ht hl s m bs cn rf fb : Int} {ca da : Option Addr} {cc dc k : Nat} {ds : List Del}
    (H : Sat F w (.blk b T (tcV hp hn ht hl s m bs cn rf fb (.slice ca k cc) (.slice da ds.length dc)) :: ex) ro) (hde : Ro.deep [.row 1 (ds.map deD)] [.slice da ds.length dc] ∈ ro)
    (hvl : k ≤ 1000000) (hdl : ds.length ≤ 1000000) : Calls pg 164 #[.pointer (some ⟨b, 0, none⟩)] w fun en w' => en = .returned (.int .i64 ((20 + 2 * k + dsz ds : Nat) : Int)) ∧
      Sat F w' (.blk b T (tcV hp hn ht hl s m bs cn rf fb (.slice ca k cc) (.slice da ds.length dc)) :: ex) ro := by
  apply of164
  refine ⟨_, rfl, ?_⟩
  refine ⟨_, _, _, (by first | exact Ce (by first | exact add_flat _ _ _ | exact add_flat2 _ _ _ _ | rfl) H.b0 rfl | exact Ce (by first | exact add_flat _ _ _ | exact add_flat2 _ _ _ _ | rfl) H.b1 rfl | exact Ce (by first | exact add_flat _ _ _ | exact add_flat2 _ _ _ _ | rfl) H.b2 rfl | exact Ce (by first | exact add_flat _ _ _ | exact add_flat2 _ _ _ _ | rfl) H.b3 rfl | exact Ce (by first | exact add_flat _ _ _ | exact add_flat2 _ _ _ _ | rfl) H.b4 rfl | exact Ce (by first | exact add_flat _ _ _ | exact add_flat2 _ _ _ _ | rfl) H.b5 rfl | exact Ce (by first | exact add_flat _ _ _ | exact add_flat2 _ _ _ _ | rfl) H.b6 rfl | exact Ce (by first | exact add_flat _ _ _ | exact add_flat2 _ _ _ _ | rfl) H.b7 rfl | exact Ce (by first | exact add_flat _ _ _ | exact add_flat2 _ _ _ _ | rfl) H.b8 rfl | exact Ce (by first | exact add_flat _ _ _ | exact add_flat2 _ _ _ _ | rfl) H.b9 rfl), ?_⟩
  refine ⟨_, rfl, ?_⟩
  refine ⟨_, _, _, (by first | exact Ce (by first | exact add_flat _ _ _ | exact add_flat2 _ _ _ _ | rfl) H.b0 rfl | exact Ce (by first | exact add_flat _ _ _ | exact add_flat2 _ _ _ _ | rfl) H.b1 rfl | exact Ce (by first | exact add_flat _ _ _ | exact add_flat2 _ _ _ _ | rfl) H.b2 rfl | exact Ce (by first | exact add_flat _ _ _ | exact add_flat2 _ _ _ _ | rfl) H.b3 rfl | exact Ce (by first | exact add_flat _ _ _ | exact add_flat2 _ _ _ _ | rfl) H.b4 rfl | exact Ce (by first | exact add_flat _ _ _ | exact add_flat2 _ _ _ _ | rfl) H.b5 rfl | exact Ce (by first | exact add_flat _ _ _ | exact add_flat2 _ _ _ _ | rfl) H.b6 rfl | exact Ce (by first | exact add_flat _ _ _ | exact add_flat2 _ _ _ _ | rfl) H.b7 rfl | exact Ce (by first | exact add_flat _ _ _ | exact add_flat2 _ _ _ _ | rfl) H.b8 rfl | exact Ce (by first | exact add_flat _ _ _ | exact add_flat2 _ _ _ _ | rfl) H.b9 rfl), ?_⟩
  rw [wi64_of (n := (k : Int) * 2) (by omega) (by omega), wi64_of (by omega) (by omega)]
  refine ⟨fun n11 x12 m_7 w => ∃ j : Nat, x12 = (j : Int) ∧ j + m_7 = ds.length ∧ n11 = ((20 + 2 * k + dsz (ds.take j) : Nat) : Int) ∧
    Sat F w (.blk b T (tcV hp hn ht hl s m bs cn rf fb (.slice ca k cc) (.slice da ds.length dc)) :: ex) ro, ⟨ds.length, 0, rfl, by omega, by simp [dsz]; omega, H⟩, ?_⟩
  clear H; rintro dd6 n11 x12 m_7 w ⟨j, rfl, hjm, rfl, H⟩
  refine ⟨fun hc => ?_, fun hc => ?_⟩
  · rw [decide_eq_true_eq] at hc
    have hjl : j < ds.length := by omega
    have htk : ds.take (j + 1) = ds.take j ++ [ds[j]] := by rw [List.take_add_one, List.getElem?_eq_getElem hjl]; rfl
    have hle := dsz_le (ds.take j)
    rw [List.length_take] at hle
    obtain ⟨bb, oo, us, rfl, hul, hcell, H1⟩ := H.elts hde (by omega)
    rw [List.length_map] at hul
    have H2 := H1.splitRo List.mem_cons_self j (d := deD ds[j]) (v := us[j]) (by rw [List.getElem?_map, List.getElem?_eq_getElem hjl]; rfl) (List.getElem?_eq_getElem (by omega))
    obtain ⟨pb, e, hc2, _⟩ := H2.chRun (us := [.int .u16 ds[j].1, .int .i64 ds[j].2]) List.mem_cons_self
    refine ⟨_, rfl, by omega, by omega, ?_⟩
    refine ⟨_, (by rw [show (j : Int).toNat * 1 = j by omega, add_flat]; exact hcell j (.pointer (some ⟨pb, 0, none⟩)) (by rw [← e]; exact List.getElem?_eq_getElem (by omega))), ?_⟩
    refine ⟨_, rfl, ?_⟩
    refine ⟨_, hc2 0 _ rfl, ?_⟩
    refine ⟨fun hd => ?_, fun hd => ?_⟩
    · have hd1 : ds[j].1 = 1 := by simpa using hd
      refine ⟨m_7 - 1, by omega, j + 1, ?_, by omega, ?_, H⟩
      · rw [wi64_of (by omega) (by omega)]; simp
      · rw [wi64_of (by omega) (by omega), htk, dsz_append]
        simp only [dsz, hd1, if_pos]; omega
    · have hd1 : ¬ ds[j].1 = 1 := by simpa using hd
      refine ⟨m_7 - 1, by omega, j + 1, ?_, by omega, ?_, H⟩
      · rw [wi64_of (by omega) (by omega)]; simp
      · rw [wi64_of (by omega) (by omega), htk, dsz_append]
        simp only [dsz, hd1, if_neg, not_false_eq_true]; omega
  · rw [decide_eq_false_iff_not] at hc
    have : j = ds.length := by omega
    subst this
    rw [List.take_length]
    exact ⟨rfl, H⟩
theorem c160 {F : Fr} {w : World} {ex : List Ex} {ro : List Ro} {b : Nat} {T : TypeId} {hp : Bool} {hn ht hl s m bs cn rf fb : Int} {ca da : Option Addr} {cc dc k N : Nat} {ds : List Del}
    (H : Sat F w (.blk b T (tcV hp hn ht hl s m bs cn rf fb (.slice ca k cc) (.slice da ds.length dc)) :: ex) ro) (hde : Ro.deep [.row 1 (ds.map deD)] [.slice da ds.length dc] ∈ ro)
    (hvl : k ≤ 1000000) (hdl : ds.length ≤ 1000000) (h4 : N % 4 = 0) (hN : 20 + 2 * k + dsz ds ≤ N ∧ N < 20 + 2 * k + dsz ds + 4) : Calls pg 160 #[.pointer (some ⟨b, 0, none⟩)] w fun en w' => en = .returned (.int .i64 (N : Int)) ∧
      Sat F w' (.blk b T (tcV hp hn ht hl s m bs cn rf fb (.slice ca k cc) (.slice da ds.length dc)) :: ex) ro := by
  apply of160
  have hle := dsz_le ds
  refine call_j (c164 H hde hvl hdl) ?_
  clear H
  rintro _ w ⟨rfl, H⟩
  refine ⟨_, rfl, ?_⟩
  refine ⟨by decide, ?_⟩
  have hz : 20 + 2 * k + dsz ds ≤ 4000020 := by omega
  generalize 20 + 2 * k + dsz ds = z at hN hz ⊢
  have ht1 : ((z : Nat) : Int).tmod 4 = ((z % 4 : Nat) : Int) := by rw [Int.tmod_eq_emod_of_nonneg (by omega)]; omega
  have ht2 : ((z : Nat) : Int).tdiv 4 = ((z / 4 : Nat) : Int) := by rw [Int.tdiv_eq_ediv_of_nonneg (by omega)]; omega
  rw [ht1, ht2]
  refine ⟨fun hc => ?_, fun hc => ?_⟩
  · have hc' : ¬ (((z % 4 : Nat) : Int) = 0) := by simpa using hc
    refine ⟨by decide, ?_, H⟩
    rw [wi64_of (n := ((z / 4 : Nat) : Int)) (by omega) (by omega), wi64_of (n := ((z / 4 : Nat) : Int) + 1) (by omega) (by omega), wi64_of (by omega) (by omega)]
    congr 2
    congr 1
    omega
  · have hc' : ((z % 4 : Nat) : Int) = 0 := by simpa using hc
    have : z = N := by omega
    subst this
    exact ⟨rfl, H⟩
end Go.Proofs.YtkdialecadjedaaGreat
