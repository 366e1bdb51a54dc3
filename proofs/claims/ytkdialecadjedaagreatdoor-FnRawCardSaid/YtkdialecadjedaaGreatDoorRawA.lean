/- A datagram that is split by its headers (no statement of the seat is proved here; conditions: the slice reads bytes). -/
import Derived.Test.YtkdialecadjedaaGreatDoorLawHw
namespace Go.Proofs.YtkdialecadjedaaGreatDoor
set_option linter.unusedVariables false
set_option linter.unusedSimpArgs false
set_option linter.unusedSectionVars false
open Go

theorem rdHdr_some {xs : List Int} {p : Bool} {c t n : Int} (h : rdHdr xs = some (p, c, t, n)) (hb : ∀ x ∈ xs, 0 ≤ x ∧ x < 256) : 4 ≤ xs.length ∧ 0 ≤ n ∧ n < 65536 := by
  match xs, h with
  | x0 :: x1 :: x2 :: x3 :: r, h =>
    have h2 := hb x2 (by simp)
    have h3 := hb x3 (by simp)
    simp only [rdHdr] at h
    split at h
    · simp only [Option.some.injEq, Prod.mk.injEq] at h
      obtain ⟨_, _, _, rfl⟩ := h
      refine ⟨by simp, by omega, by omega⟩
    · cases h
/-- How many bytes the header says. -/
def hdrSize (xs : List Int) : Option Nat := match rdHdr xs with
  | some (_, _, _, n) => if 4 * (n.toNat + 1) ≤ xs.length then some (4 * (n.toNat + 1)) else none
  | none => none
theorem hdrSize_pos {xs : List Int} {s : Nat} (h : hdrSize xs = some s) : 0 < s ∧ s ≤ xs.length := by
  unfold hdrSize at h
  split at h
  · split at h
    · cases h; omega
    · cases h
  · cases h
def splitL (xs : List Int) : Option (List (List Int)) :=
  if xs = [] then some [] else
    match h : hdrSize xs with
    | some s => (splitL (xs.drop s)).map (xs.take s :: ·)
    | none => none
termination_by xs.length
decreasing_by
  have := hdrSize_pos h
  simp only [List.length_drop]
  omega
theorem splitL_nil : splitL [] = some [] := by rw [splitL]; simp
theorem splitL_bad {xs : List Int} (hne : xs ≠ []) (h : hdrSize xs = none) : splitL xs = none := by
  rw [splitL, if_neg hne]
  split
  · rename_i s hs; rw [h] at hs; cases hs
  · rfl
theorem splitL_cons {xs : List Int} {s : Nat} (h : hdrSize xs = some s) : splitL xs = (splitL (xs.drop s)).map (xs.take s :: ·) := by
  have hne : xs ≠ [] := by rintro rfl; have := hdrSize_pos h; simp at this; omega
  rw [splitL, if_neg hne]
  split
  · rename_i s' hs; rw [h] at hs; cases hs; rfl
  · rename_i hs; rw [h] at hs; cases hs

/-- Slices of bytes in a row of slices; none of them lies in the block 'r'. -/
structure LS (w : World) (r : Option Nat) (G : Nat → Prop) (vs : List Value) (ps : List (List Int)) : Prop where
  len : vs.length = ps.length
  at_ : ∀ (i : Nat) (ys : List Int), ps[i]? = some ys → ∃ b a l c, vs[i]? = some (.slice a l c) ∧ BS w b a l c ys ∧ some b ≠ r ∧ G b
theorem LS.nil (w : World) (r : Option Nat) (G : Nat → Prop) : LS w r G [] [] := ⟨rfl, by simp⟩
theorem LS.keep {G : Nat → Prop} {w w' : World} {row r : Option Nat} {vs : List Value} {ps : List (List Int)} (hg : w.grownBy w' row) (hr : row = none ∨ row = r) (h : LS w r G vs ps) : LS w' r G vs ps := by
  refine ⟨h.len, fun i ys hi => ?_⟩
  obtain ⟨b, a, l, c, hv, hB, hb⟩ := h.at_ i ys hi
  refine ⟨b, a, l, c, hv, hB.keep hg ?_, hb⟩
  rcases hr with rfl | rfl
  · simp
  · exact hb.1
theorem LS.fresh {G : Nat → Prop} {w : World} {r r' : Option Nat} {vs : List Value} {ps : List (List Int)} (hr : r' = r ∨ ∃ k, r' = some k ∧ w.heap.size ≤ k) (h : LS w r G vs ps) : LS w r' G vs ps := by
  refine ⟨h.len, fun i ys hi => ?_⟩
  obtain ⟨b, a, l, c, hv, hB, hb⟩ := h.at_ i ys hi
  refine ⟨b, a, l, c, hv, hB, ?_, hb.2⟩
  rcases hr with rfl | ⟨k, rfl, hk⟩
  · exact hb.1
  · intro e
    injection e with e
    have := hB.lt
    omega
theorem LS.snoc {G : Nat → Prop} {w : World} {r : Option Nat} {vs : List Value} {ps : List (List Int)} {b : Nat} {a : Option Addr} {l c : Nat} {ys : List Int} (h : LS w r G vs ps) (hB : BS w b a l c ys) (hb : some b ≠ r) (hG : G b) : LS w r G (vs ++ [.slice a l c]) (ps ++ [ys]) := by
  refine ⟨by simp [h.len], fun i zs hi => ?_⟩
  rcases Nat.lt_or_ge i ps.length with hl | hl
  · rw [List.getElem?_append_left hl] at hi
    obtain ⟨b', a', l', c', hv, hB', hb'⟩ := h.at_ i zs hi
    exact ⟨b', a', l', c', by rw [List.getElem?_append_left (by rw [h.len]; exact hl)]; exact hv, hB', hb'⟩
  · rw [List.getElem?_append_right hl] at hi
    have hi0 : i - ps.length = 0 := by
      rcases Nat.eq_zero_or_pos (i - ps.length) with h0 | h0
      · exact h0
      · rw [List.getElem?_eq_none (by simp; omega)] at hi; cases hi
    rw [hi0] at hi
    simp only [List.getElem?_cons_zero, Option.some.injEq] at hi
    subst hi
    exact ⟨b, a, l, c, by rw [List.getElem?_append_right (by rw [h.len]; exact hl), h.len, hi0]; rfl, hB, hb, hG⟩
theorem LS.drew {G : Nat → Prop} {w : World} {r : Option Nat} {vs : List Value} {ps : List (List Int)} (h : LS w r G vs ps) : LS w.drew r G vs ps := h.keep (grew_drew _ none) (.inl rfl)

theorem size_wrap {n : Int} (h : 0 ≤ n ∧ n < 65536) : IntKind.i64.wrap ((4 : Int) * (IntKind.i64.wrap ((IntKind.i64.wrap n) + (1 : Int)))) = ((4 * (n.toNat + 1) : Nat) : Int) ∧ IntKind.i64.wrap ((IntKind.i64.wrap ((IntKind.i64.wrap n) + (1 : Int))) * (4 : Int)) = ((4 * (n.toNat + 1) : Nat) : Int) := by
  rw [wi64_of (n := n) (by omega) (by omega), wi64_of (n := n + 1) (by omega) (by omega), wi64_of (n := 4 * (n + 1)) (by omega) (by omega), wi64_of (n := (n + 1) * 4) (by omega) (by omega)]
  omega

/-- spec.Split. -/
def P27 (w : World) (G : Nat → Prop) (xs : List Int) (en : Ending) (w' : World) : Prop := w.grownBy w' none ∧ w.heap.size ≤ w'.heap.size ∧
  ((∃ ps a c r vs, splitL xs = some ps ∧ 0 < ps.length ∧ en = .returned (.tuple #[.slice a ps.length c, .bool true]) ∧ OS w' w.heap.size 22 1 a ps.length c r vs ∧ LS w' r G vs ps) ∨
   ((splitL xs = none ∨ splitL xs = some []) ∧ ∃ a l c, en = .returned (.tuple #[.slice a l c, .bool false])))
theorem c27 {G : Nat → Prop} {w : World} {b : Nat} {a : Option Addr} {l c : Nat} {xs : List Int} (h : BS w b a l c xs) (hl : l ≤ 131072) (hG : G b) : Calls pg 27 #[.slice a l c] w (P27 w G xs) := by
  apply of27
  have hblt := h.lt
  refine ⟨fun a' l' c' oa ol oc k w' => ∃ xs' ps r vs, k = l' ∧ BS w' b a' l' c' xs' ∧ l' + ps.length ≤ l ∧ splitL xs = (splitL xs').map (ps ++ ·) ∧ ol = ps.length ∧ OS w' w.heap.size 22 1 oa ol oc r vs ∧ LS w' r G vs ps ∧ w.grownBy w' none ∧ w.heap.size ≤ w'.heap.size,
    ⟨l, xs, [], none, [], rfl, h, by simp, by cases splitL xs <;> simp, rfl, OS.nil _ _ _ _, LS.nil _ _ _, grew_refl _ _, Nat.le_refl _⟩, ?_⟩
  intro dd2 a' l' c' oa ol oc k w6 hJ
  obtain ⟨xs', ps, r, vs, rfl, hB, hlen, hsp, rfl, ho, hL, hg, hs⟩ := hJ
  have hl' := hB.len
  refine ⟨fun hc => ?_, fun hc => ?_⟩
  · have hpos : 0 < k := by
      have : (0 : Int) < (k : Int) := by simpa using hc
      omega
    have hne : xs' ≠ [] := by rintro rfl; simp at hl'; omega
    refine call_i (c23 hB) (by rfl) ?_
    rintro _ w_14 ⟨rfl, g14, s14⟩
    have hgr : w.grownBy w_14 none := World.grownBy.trans hg g14
    cases hr : rdHdr xs' with
    | none =>
      refine ⟨_, _, _, _, _, rfl, ?_⟩
      refine gNew_i ?_
      intro b15 w_16 eb1 es1 gr1 B1
      refine St0 (b := b15) (vs := [.bool false, .int .u8 0, .int .u8 0, .int .u16 0]) rfl B1 (by kernel_rfl) (by rfl) (by rfl) ?_
      intro w_17 es2 gr2 B2
      refine ⟨_, Ce (by first | exact add_flat _ _ _ | exact add_flat2 _ _ _ _ | rfl) (by repeat (first | assumption | apply Blk.keep (by assumption) (by first | exact Option.some_ne_none _ | assumption | (intro e; injection e with e; (try dsimp only at e); omega)) | apply BS.keep (by assumption) (by first | exact Option.some_ne_none _ | assumption | (intro e; injection e with e; (try dsimp only at e); omega)) | apply OS.keep (by assumption) (by first | (left; rfl) | (right; exact Option.some_ne_none _) | (right; intro e; cases e; omega)) | apply Errs.keep (by assumption) (by intro k e; first | (cases e; done) | (cases e; omega)) | apply Blk.drew | apply BS.drew | apply OS.drew | apply Errs.drew)) (by rfl), ?_⟩
      refine ⟨fun _ => ?_, fun hx => absurd hx (by decide)⟩
      have hbad : splitL xs' = none := splitL_bad hne (by simp [hdrSize, hr])
      refine ⟨(by repeat (first | exact grew_refl _ _ | assumption | refine grew_step (by assumption) (by intro j e; first | (cases e; done) | (cases e; left; omega) | (cases e; right; rfl)) ?_ | refine grew_some ?_)), by omega, .inr ⟨.inl (by rw [hsp, hbad]; rfl), _, _, _, rfl⟩⟩
    | some v =>
      obtain ⟨p, cc, t, n⟩ := v
      obtain ⟨h4, hn⟩ := rdHdr_some hr hB.byte
      obtain ⟨e1, _⟩ := size_wrap hn
      refine ⟨_, _, _, _, _, rfl, ?_⟩
      refine gNew_i ?_
      intro b15 w_16 eb1 es1 gr1 B1
      refine St0 (b := b15) (vs := [.bool p, .int .u8 cc, .int .u8 t, .int .u16 n]) rfl B1 (by kernel_rfl) (by rfl) (by rfl) ?_
      intro w_17 es2 gr2 B2
      refine ⟨_, Ce (by first | exact add_flat _ _ _ | exact add_flat2 _ _ _ _ | rfl) (by repeat (first | assumption | apply Blk.keep (by assumption) (by first | exact Option.some_ne_none _ | assumption | (intro e; injection e with e; (try dsimp only at e); omega)) | apply BS.keep (by assumption) (by first | exact Option.some_ne_none _ | assumption | (intro e; injection e with e; (try dsimp only at e); omega)) | apply OS.keep (by assumption) (by first | (left; rfl) | (right; exact Option.some_ne_none _) | (right; intro e; cases e; omega)) | apply Errs.keep (by assumption) (by intro k e; first | (cases e; done) | (cases e; omega)) | apply Blk.drew | apply BS.drew | apply OS.drew | apply Errs.drew)) (by rfl), ?_⟩
      rw [e1]
      generalize hS : 4 * (n.toNat + 1) = S
      refine ⟨fun hx => absurd hx (by decide), fun _ => ?_⟩
      refine ⟨fun hbig => ?_, fun hsm => ?_⟩
      · have hbig' : (k : Int) < (S : Int) := by simpa using hbig
        have hbad : splitL xs' = none := splitL_bad hne (by simp only [hdrSize, hr]; rw [if_neg (by omega)])
        refine ⟨(by repeat (first | exact grew_refl _ _ | assumption | refine grew_step (by assumption) (by intro j e; first | (cases e; done) | (cases e; left; omega) | (cases e; right; rfl)) ?_ | refine grew_some ?_)), by omega, .inr ⟨.inl (by rw [hsp, hbad]; rfl), _, _, _, rfl⟩⟩
      · have hsm' : (S : Int) ≤ (k : Int) := by simpa using hsm
        have hcap := hB.and.2.1
        have hz : hdrSize xs' = some S := by simp only [hdrSize, hr]; rw [if_pos (by omega), hS]
        have hBw : BS w_17 b a' k c' xs' := hB.keep g14 (by simp) |>.keep gr1 (by simp) |>.keep gr2 (by intro e; injection e with e; have := hB.lt; omega)
        have how : OS w_17 w.heap.size 22 1 oa ps.length oc r vs := ho.keep g14 (by cases r <;> simp) |>.keep gr1 (by cases r <;> simp) |>.keep gr2 (by
          cases hr0 : r with
          | none => exact .inl rfl
          | some q => exact .inr (fun e => by injection e with e; have := ho.lt hr0; omega))
        have hLw : LS w_17 r G vs ps := by
          have h1 := (hL.keep g14 (.inl rfl)).keep gr1 (.inl rfl)
          refine ⟨h1.len, fun i ys hi => ?_⟩
          obtain ⟨b', a2, l2, c2, hv, hB2, hb2⟩ := hL.at_ i ys hi
          exact ⟨b', a2, l2, c2, hv, hB2.keep g14 (by simp) |>.keep gr1 (by simp) |>.keep gr2 (by intro e; injection e with e; have := hB2.lt; omega), hb2⟩
        refine ⟨by omega, by omega, by omega, by omega, rfl, ?_⟩
        refine gNew_i ?_
        intro b19 w_20 eb3 es3 gr3 B3
        rw [Int.toNat_natCast] at B3 ⊢
        refine app_i (e := 22) (size := 1) (bytes := 24) (by kernel_rfl) (how.keep gr3 (by cases r <;> simp)) [.slice (cutA a' 0 S 1) S S] (by rfl) (fun j u hu => by rw [add_flat, Nat.zero_add]; exact B3.cell hu) (by simp [Value.oneCell']) (by unfold maxLen; omega) (by omega) (by omega) ?_
        intro oa2 ol2 oc2 r2 w22 hl2 hs2 hg2 ho2 hr2
        refine ⟨by omega, by omega, k - S, by omega, ?_⟩
        have hB22 : BS w22 b a' k c' xs' := hBw.keep gr3 (by simp) |>.keep hg2 (by
          intro e
          have := ho.lt e.symm
          omega)
        have hLk : LS w22 r2 G vs ps := ((hLw.keep gr3 (.inl rfl)).fresh (r' := r2) (by
          rcases hr2 with h | h
          · exact .inl h
          · exact .inr ⟨_, h, by omega⟩)) |> fun h => ⟨h.len, fun i ys hi => by
            obtain ⟨b', a2, l2, c2, hv, hB2, hb2⟩ := h.at_ i ys hi
            obtain ⟨b3, a3, l3, c3, hv3, hB3, hb3⟩ := (hLw.keep gr3 (.inl rfl)).at_ i ys hi
            rw [hv] at hv3
            simp only [Option.some.injEq, Value.slice.injEq] at hv3
            obtain ⟨rfl, rfl, rfl⟩ := hv3
            refine ⟨b3, _, _, _, hv, hB3.keep hg2 hb3.1, ?_, hb3.2⟩
            rcases hr2 with rfl | rfl
            · exact hb3.1
            · intro e; injection e with e; have := hB3.lt; omega⟩
        have hcut := hB22.cut 0 S S (by omega) (by omega) (by omega) (by omega)
        have hpiece : BS w22 b (cutA a' 0 S 1) S S (xs'.take S) := by simpa using hcut
        have hrest := hB22.skip S (by omega)
        subst hl2
        refine ⟨xs'.drop S, ps ++ [xs'.take S], r2, vs ++ [.slice (cutA a' 0 S 1) S S], rfl, hrest, by simp; omega, ?_, by simp, ho2, hLk.snoc hpiece ?_ hG, grew_step hg2 (fun j e => .inl (ho.lt e).1) (by repeat (first | exact grew_refl _ _ | assumption | refine grew_step (by assumption) (by intro j e; first | (cases e; done) | (cases e; left; omega) | (cases e; right; rfl)) ?_ | refine grew_some ?_)), by omega⟩
        · rw [hsp, splitL_cons hz]
          cases splitL (xs'.drop S) <;> simp
        · intro e
          rcases hr2 with h | h
          · rw [h] at e; have := ho.lt e.symm; omega
          · rw [h] at e; injection e with e; omega
  · have h0 : k = 0 := by
      have : ¬ (0 : Int) < (k : Int) := by simpa using hc
      omega
    subst h0
    have : xs' = [] := List.eq_nil_of_length_eq_zero hl'
    subst this
    rw [splitL_nil] at hsp
    simp only [Option.map_some, List.append_nil] at hsp
    refine ⟨hg, hs, ?_⟩
    rcases Nat.eq_zero_or_pos ps.length with h0 | h0
    · have : ps = [] := List.eq_nil_of_length_eq_zero h0
      subst this
      exact .inr ⟨.inr hsp, _, _, _, rfl⟩
    · refine .inl ⟨ps, oa, oc, r, vs, hsp, h0, ?_, ho, hL⟩
      have : decide ((ps.length : Int) > (0 : Int)) = true := by simp; omega
      rw [this]
end Go.Proofs.YtkdialecadjedaaGreatDoor
