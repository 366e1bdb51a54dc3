/- Transport-wide feedback, read by rtcp (no statement of the seat is proved here; conditions: the slice reads such feedback). -/
import Derived.Test.YtkdialecadjedaaGreatT2
import Derived.Test.YtkdialecadjedaaGreatSatM
namespace Go.Proofs.YtkdialecadjedaaGreat
set_option linter.unusedVariables false
set_option linter.unusedSimpArgs false
set_option linter.unusedSectionVars false
open Go

/-- The bytes are transport-wide feedback: its chunks, its deltas. -/
structure Tcc (xs : List Int) (vs : List Int) (ds : List Del) : Prop where
  hdr : hdrOk xs = true
  len : 4 * (hL xs + 1) = (xs.length : Int)
  pad : hP xs = false
  typ : hT xs = 205
  cnt : hC xs = 15
  long : 20 ≤ xs.length
  chunks : ∃ f zs tl, tccC f (n16 (xs.drop 14)) (xs.drop 20) = some (vs, zs) ∧ tccD (recv (vs.flatMap symL)) zs = some (ds, tl) ∧ tl.all (· == 0) = true ∧ tl.length ≤ 3
  some : (recv (vs.flatMap symL)).length ≠ 0
theorem drop_drop' (xs : List Int) (a b c : Nat) (h : a + b = c) : (xs.drop a).drop b = xs.drop c := by rw [List.drop_drop, h]
/-- spec.ReadOne says so. -/
theorem tcc_of_one {xs : List Int} (h : (rdOne xs).1 = 0) (hk : (rdOne xs).2.kind = 13) : ∃ vs ds, Tcc xs vs ds ∧ (rdOne xs).2 = { kind := 13, sender := n32 (xs.drop 4), media := n32 (xs.drop 8), base := n16 (xs.drop 12), count := n16 (xs.drop 14), ref := n24 (xs.drop 16), fb := xs.getD 19 0, statuses := vs.map sta1, deltas := ds, hp := false, hc := 15, ht := 205, hl := hL xs } := by
  have hall : ∀ q : Option Pk, (oneOf q).1 = 0 → ∃ p, q = some p := by
    intro q hq
    cases q with
    | none => simp [oneOf] at hq
    | some p => exact ⟨p, rfl⟩
  by_cases h1 : hdrOk xs = false
  · rw [show rdOne xs = (1, {}) by unfold rdOne; rw [if_pos h1]] at h; simp at h
  by_cases h2 : 4 * (hL xs + 1) ≠ xs.length
  · rw [show rdOne xs = (1, {}) by unfold rdOne; rw [if_neg h1, if_pos h2]] at h; simp at h
  have hU : rdOne xs = if kindOf (hT xs) (hC xs) = 0 then (if hT xs = 207 then (2, {}) else (0, { data := xs })) else if hP xs then (2, {}) else oneOf (rdBody xs) := by
    unfold rdOne; rw [if_neg h1, if_neg h2]
  by_cases h3 : kindOf (hT xs) (hC xs) = 0
  · rw [if_pos h3] at hU
    by_cases h4 : hT xs = 207
    · rw [if_pos h4] at hU; rw [hU] at h; simp at h
    · rw [if_neg h4] at hU; rw [hU] at hk; simp at hk
  rw [if_neg h3] at hU
  by_cases h4 : hP xs = true
  · rw [if_pos h4] at hU; rw [hU] at h; simp at h
  rw [if_neg h4] at hU
  rw [hU] at h hk ⊢
  obtain ⟨p, hp⟩ := hall _ h
  rw [hp] at hk ⊢
  change p.kind = 13 at hk
  change ∃ vs ds, Tcc xs vs ds ∧ p = _
  have hkind : kindOf (hT xs) (hC xs) = 13 ∧ 8 ≤ (xs.drop 4).length ∧ rdT (n32 (xs.drop 4)) (n32 ((xs.drop 4).drop 4)) (hP xs) (hC xs) (hT xs) (hL xs) ((xs.drop 4).drop 8) = some p := by
    unfold rdBody at hp
    simp only at hp
    generalize hkk : kindOf (hT xs) (hC xs) = k at h3 hp ⊢
    by_cases k1 : k = 1
    · rw [if_pos k1] at hp; split at hp
      · cases hp
      · cases hp; simp at hk
    rw [if_neg k1] at hp
    by_cases k2 : k = 2
    · rw [if_pos k2] at hp; split at hp
      · cases hp
      · cases hp; simp at hk
    rw [if_neg k2] at hp
    by_cases k3 : k = 3
    · rw [if_pos k3] at hp
      cases hc : chks (hC xs).toNat (xs.drop 4) with
      | none => rw [hc] at hp; simp at hp
      | some l => rw [hc] at hp; simp only [Option.map_some, Option.some.injEq] at hp; subst hp; simp at hk
    rw [if_neg k3] at hp
    by_cases k4 : k = 4
    · rw [if_pos k4] at hp
      unfold rdBye at hp
      simp only at hp
      repeat' (first | (cases hp; done) | (cases hp; simp at hk; done) | split at hp)
    rw [if_neg k4] at hp
    by_cases k5 : k = 5
    · rw [if_pos k5] at hp; split at hp
      · cases hp
      · cases hp; simp at hk
    rw [if_neg k5] at hp
    split at hp
    · cases hp
    rename_i h8
    unfold rdFb at hp
    simp only at hp
    by_cases k7 : k = 7 ∨ k = 9
    · rw [if_pos k7] at hp; split at hp
      · cases hp; simp at hk; omega
      · cases hp
    rw [if_neg k7] at hp
    by_cases k6 : k = 6
    · rw [if_pos k6] at hp; split at hp
      · cases hp
      · cases hp; simp at hk
    rw [if_neg k6] at hp
    by_cases k10 : k = 10
    · rw [if_pos k10] at hp; split at hp
      · cases hp
      · cases hp; simp at hk
    rw [if_neg k10] at hp
    by_cases k11 : k = 11
    · rw [if_pos k11] at hp; split at hp
      · split at hp
        · cases hp
        · cases hp; simp at hk
      · cases hp
    rw [if_neg k11] at hp
    by_cases k12 : k = 12
    · rw [if_pos k12] at hp
      unfold rdRemb at hp
      repeat' (first | (cases hp; done) | (cases hp; simp at hk; done) | split at hp)
    rw [if_neg k12] at hp
    by_cases k8 : k = 8
    · rw [if_pos k8] at hp
      unfold rdCc at hp
      repeat' (first | (cases hp; done) | (cases hp; simp at hk; done) | split at hp)
    rw [if_neg k8] at hp
    refine ⟨?_, by omega, hp⟩
    have hkr : k = 0 ∨ k = 1 ∨ k = 2 ∨ k = 3 ∨ k = 4 ∨ k = 5 ∨ k = 6 ∨ k = 7 ∨ k = 8 ∨ k = 9 ∨ k = 10 ∨ k = 11 ∨ k = 12 ∨ k = 13 := by
      rw [← hkk]
      unfold kindOf
      repeat' (first | omega | split)
    omega
  obtain ⟨hkk, hl8, hT'⟩ := hkind
  have htc : hT xs = 205 ∧ hC xs = 15 := by
    unfold kindOf at hkk
    repeat' (first | omega | split at hkk)
  have hlen : (xs.drop 4).length = xs.length - 4 := by simp
  rw [drop_drop' xs 4 8 12 rfl, drop_drop' xs 4 4 8 rfl] at hT'
  unfold rdT at hT'
  by_cases g1 : (xs.drop 12).length < 8
  · rw [if_pos g1] at hT'; cases hT'
  rw [if_neg g1] at hT'
  by_cases g2 : n16 ((xs.drop 12).drop 2) = 0
  · rw [if_pos g2] at hT'; cases hT'
  rw [if_neg g2, drop_drop' xs 12 2 14 rfl, drop_drop' xs 12 8 20 rfl, drop_drop' xs 12 4 16 rfl] at hT'
  cases g3 : tccC (xs.drop 12).length (n16 (xs.drop 14)) (xs.drop 20) with
  | none => rw [g3] at hT'; cases hT'
  | some q =>
    obtain ⟨vs, zs⟩ := q
    rw [g3] at hT'
    simp only at hT'
    by_cases g4 : (recv (vs.flatMap symL)).length = 0
    · rw [if_pos g4] at hT'; cases hT'
    rw [if_neg g4] at hT'
    cases g5 : tccD (recv (vs.flatMap symL)) zs with
    | none => rw [g5] at hT'; cases hT'
    | some q =>
      obtain ⟨ds, tl⟩ := q
      rw [g5] at hT'
      simp only at hT'
      by_cases g6 : tl.all (· == 0) = true ∧ tl.length ≤ 3
      · rw [if_pos g6] at hT'
        cases hT'
        refine ⟨vs, ds, ⟨by simpa using h1, by omega, by simpa using h4, htc.1, htc.2, ?_, ⟨_, zs, tl, g3, g5, g6.1, g6.2⟩, g4⟩, ?_⟩
        · rw [List.length_drop] at g1; omega
        · have hpf : hP xs = false := by simpa using h4
          rw [hpf, htc.1, htc.2, getD_drop]
      · rw [if_neg g6] at hT'; cases hT'
theorem tccC_cons {f : Nat} {left : Int} {ys vs zs : List Int} (h : tccC f left ys = some (vs, zs)) (hl : 0 < left) :
    ∃ g v vs', 2 ≤ ys.length ∧ v = n16 ys ∧ vs = v :: vs' ∧ ¬ (v / 32768 = 0 ∧ (v % 8192 = 0 ∨ left < v % 8192)) ∧ symOk left (symL v) = true ∧ tccC g (left - (symL v).length) (ys.drop 2) = some (vs', zs) := by
  cases f with
  | zero => simp [tccC] at h
  | succ g =>
    simp only [tccC] at h
    rw [if_neg (by omega)] at h
    by_cases h2 : ys.length < 2
    · rw [if_pos h2] at h; cases h
    rw [if_neg h2] at h
    by_cases h3 : n16 ys / 32768 = 0 ∧ (n16 ys % 8192 = 0 ∨ left < n16 ys % 8192)
    · rw [if_pos h3] at h; cases h
    rw [if_neg h3] at h
    by_cases h4 : symOk left (symL (n16 ys)) = true
    · rw [if_pos h4] at h
      cases h5 : tccC g (left - (symL (n16 ys)).length) (ys.drop 2) with
      | none => rw [h5] at h; cases h
      | some q =>
        rw [h5] at h
        simp only [Option.map_some, Option.some.injEq, Prod.mk.injEq] at h
        obtain ⟨rfl, rfl⟩ := h
        exact ⟨g, _, q.1, by omega, rfl, rfl, h3, h4, h5⟩
    · rw [if_neg h4] at h; cases h
theorem tccC_nil {f : Nat} {left : Int} {ys vs zs : List Int} (h : tccC f left ys = some (vs, zs)) (hl : left ≤ 0) : vs = [] ∧ zs = ys := by
  cases f with
  | zero => simp [tccC] at h
  | succ g =>
    simp only [tccC] at h
    rw [if_pos hl] at h
    cases h
    exact ⟨rfl, rfl⟩
theorem tccC_len : ∀ (f : Nat) (left : Int) (ys vs zs : List Int), tccC f left ys = some (vs, zs) → ys.length = 2 * vs.length + zs.length ∧ zs = ys.drop (2 * vs.length)
  | 0, _, _, _, _, h => by simp [tccC] at h
  | f + 1, left, ys, vs, zs, h => by
    rcases Int.lt_or_le 0 left with hl | hl
    · obtain ⟨g, v, vs', h2, _, rfl, _, _, h5⟩ := tccC_cons h hl
      simp only [tccC] at h
      rw [if_neg (by omega), if_neg (by omega)] at h
      split at h
      · cases h
      · split at h
        · cases h6 : tccC f (left - (symL (n16 ys)).length) (ys.drop 2) with
          | none => rw [h6] at h; cases h
          | some q =>
            rw [h6] at h
            simp only [Option.map_some, Option.some.injEq, Prod.mk.injEq, List.cons.injEq] at h
            obtain ⟨⟨_, rfl⟩, rfl⟩ := h
            have ih := tccC_len f _ _ _ _ h6
            rw [List.length_drop] at ih
            refine ⟨by simp; omega, ?_⟩
            rw [ih.2, List.drop_drop, List.length_cons]
            congr 1
            omega
        · cases h
    · obtain ⟨rfl, rfl⟩ := tccC_nil h hl
      simp
theorem tccD_cons {x : Int} {r ys : List Int} {ds : List Del} {tl : List Int} (h : tccD (x :: r) ys = some (ds, tl)) : x ≤ ys.length ∧ ∃ ds', ds = del1 x ys :: ds' ∧ tccD r (ys.drop x.toNat) = some (ds', tl) := by
  simp only [tccD] at h
  split at h
  · cases h
  · rename_i hlt
    cases h6 : tccD r (ys.drop x.toNat) with
    | none => rw [h6] at h; cases h
    | some q =>
      rw [h6] at h
      simp only [Option.map_some, Option.some.injEq, Prod.mk.injEq] at h
      obtain ⟨rfl, rfl⟩ := h
      exact ⟨by omega, q.1, rfl, rfl⟩
theorem recv_take {left : Int} : ∀ (l : List Int) (left : Int), symOk left l = true → recv (l.take left.toNat) = recv l
  | [], _, _ => by simp
  | x :: r, left, h => by
    rw [symOk, Bool.and_eq_true] at h
    rcases Int.lt_or_le 0 left with hl | hl
    · obtain ⟨n, rfl⟩ : ∃ n : Nat, left = (n : Int) + 1 := ⟨(left - 1).toNat, by omega⟩
      have ih := recv_take (left := left) r ((n : Int) + 1 - 1) h.2
      rw [show ((n : Int) + 1 - 1).toNat = n by omega] at ih
      rw [show ((n : Int) + 1).toNat = n + 1 by omega, List.take_succ_cons]
      unfold recv at ih ⊢
      rw [List.filter_cons, List.filter_cons, ih]
    · have h0 : left.toNat = 0 := by omega
      rw [h0, List.take_zero]
      have h1 := h.1
      rw [if_neg (by omega)] at h1
      have hx : x = 0 := by simpa using h1
      have ih := recv_take (left := left) r (left - 1) h.2
      rw [show (left - 1).toNat = 0 by omega, List.take_zero] at ih
      subst hx
      unfold recv at ih ⊢
      rw [List.filter_cons, if_neg (by decide)]
      exact ih
/-- What rtcp makes of a chunk, of a delta. -/
def chD (v : Int) : Dat := if v / 32768 = 0 then .ifc 212 (.ptr [.one .nilIface, .one (.int .u16 0), .one (.int .u16 (v / 8192 % 4)), .one (.int .u16 (v % 8192))])
  else .ifc 206 (.ptr [.one .nilIface, .one (.int .u16 1), .one (.int .u16 (v / 16384 % 2)), .row 1 (oi .u16 (symL v))])
def deV (d : Del) : List Value := [.int .u16 d.1, .int .i64 d.2]
def deD (d : Del) : Dat := .ptr [.one (.int .u16 d.1), .one (.int .i64 d.2)]
def dl0 (t : Int) : List Value := [.int .u16 t, .int .i64 0]
def ptrs (bs : List (Nat × List Value)) : List Dat := bs.map fun p => .one (.pointer (some ⟨p.1, 0, none⟩))
def tcV (hp : Bool) (hc ht hl s m b c f k : Int) (ch de : Value) : List Value :=
  [.bool hp, .int .u8 hc, .int .u8 ht, .int .u16 hl, .int .u32 s, .int .u32 m, .int .u16 b, .int .u16 c, .int .u32 f, .int .u8 k, ch, de]
theorem ptrs_snoc (bs : List (Nat × List Value)) (p : Nat × List Value) : ptrs (bs ++ [p]) = ptrs bs ++ [.one (.pointer (some ⟨p.1, 0, none⟩))] := by simp [ptrs]
theorem Sat.ownElt {F : Fr} {w : World} {e : TypeId} {a : Option Addr} {n c : Nat} {r : Option Nat} {ds : List Dat} {ex : List Ex} {ro : List Ro} (H : Sat F w (.own e 1 a n c r ds :: ex) ro) (hn : 0 < n) :
    ∃ b, a = some ⟨b, 0, none⟩ ∧ ∀ (i : Nat) (u : Value), ds[i]? = some (.one u) → w.cell? ⟨b, i, none⟩ = some u := by
  obtain ⟨xs, ho, hd⟩ := H.he (.own e 1 a n c r ds) (by simp)
  obtain ⟨b, _, ha, _, _, _, _, hc⟩ := ho.at_ hn
  refine ⟨b, ha, fun i u hu => ?_⟩
  have hlt : i < xs.length := by rw [hd.1]; exact (List.getElem?_eq_some_iff.1 hu).1
  have := hd.2 i _ _ hu (List.getElem?_eq_getElem hlt)
  cases this
  exact hc i _ (List.getElem?_eq_getElem hlt)
theorem Sat.ownLen {F : Fr} {w : World} {e : TypeId} {sz : Nat} {a : Option Addr} {n c : Nat} {r : Option Nat} {ds : List Dat} {ex : List Ex} {ro : List Ro} (H : Sat F w (.own e sz a n c r ds :: ex) ro) : ds.length = n * sz := by
  obtain ⟨xs, ho, hd⟩ := H.he (.own e sz a n c r ds) (by simp)
  rw [← hd.1, ho.len]
end Go.Proofs.YtkdialecadjedaaGreat
