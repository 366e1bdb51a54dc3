/- impl.UnmarshalRaw (no statement of the seat is proved here; conditions: the slice reads bytes, the listed errors are not nil). -/
import Derived.Test.YtkdialecadjedaaGreatDoorRawB
namespace Go.Proofs.YtkdialecadjedaaGreatDoor
set_option linter.unusedVariables false
set_option linter.unusedSimpArgs false
set_option linter.unusedSectionVars false
open Go

theorem c68 {G : Nat → Prop} {w : World} {b : Nat} {a : Option Addr} {l c : Nat} {xs : List Int} (h : BS w b a l c xs) (hl : l ≤ 131072) (hE : Errs w) (hG : G b) : Calls pg 68 #[.slice a l c] w (P107 w G xs) := by
  apply of68
  refine call_i (c107 h hl hE hG) (by rfl) ?_
  rintro _ w' ⟨g, s, h⟩
  rcases h with ⟨ps, a2, c2, r, vs, hs, h0, rfl, ho, hL⟩ | ⟨hb, y, z, rfl⟩
  · exact ⟨_, _, _, _, rfl, g, s, .inl ⟨ps, a2, c2, r, vs, hs, h0, rfl, ho, hL⟩⟩
  · exact ⟨_, _, _, _, rfl, g, s, .inr ⟨hb, y, z, rfl⟩⟩

/-- Each slice is copied. -/
def G0 : Nat → Prop := fun _ => True
/-- The closure of impl.UnmarshalRaw. -/
def P67 (w : World) (b1 b2 : Nat) (xs : List Int) (en : Ending) (w' : World) : Prop := w.grownBy w' (some b1) ∧ w.heap.size ≤ w'.heap.size ∧
  ((∃ ps a c r vs, splitL xs = some ps ∧ 0 < ps.length ∧ en = .returned (.bool true) ∧ Blk w' b1 79 [.slice a ps.length c] ∧ OS w' w.heap.size 22 1 a ps.length c r vs ∧ LS w' r (fun b => b ≠ b1 ∧ b ≠ b2) vs ps) ∨
   ((splitL xs = none ∨ splitL xs = some []) ∧ en = .returned (.bool false) ∧ ∃ v, Blk w' b1 79 [v]))
theorem splitL_small : ∀ (n : Nat) (xs : List Int) (ps : List (List Int)), xs.length ≤ n → splitL xs = some ps → ∀ (i : Nat) (ys : List Int), ps[i]? = some ys → ys.length ≤ xs.length
  | n, xs, ps, hn, h, i, ys, hi => by
    by_cases hne : xs = []
    · subst hne
      rw [splitL_nil] at h
      cases h
      simp at hi
    · cases hz : hdrSize xs with
      | none => rw [splitL_bad hne hz] at h; cases h
      | some s =>
        have hp := hdrSize_pos hz
        rw [splitL_cons hz] at h
        cases hr : splitL (xs.drop s) with
        | none => rw [hr] at h; cases h
        | some qs =>
          rw [hr] at h
          simp only [Option.map_some, Option.some.injEq] at h
          subst h
          cases i with
          | zero => simp only [List.getElem?_cons_zero, Option.some.injEq] at hi; subst hi; simp; omega
          | succ i =>
            cases n with
            | zero => omega
            | succ n =>
              have := splitL_small n (xs.drop s) qs (by simp; omega) hr i ys (by simpa using hi)
              simp at this
              omega
theorem splitL_count : ∀ (n : Nat) (xs : List Int) (ps : List (List Int)), xs.length ≤ n → splitL xs = some ps → ps.length ≤ xs.length
  | n, xs, ps, hn, h => by
    by_cases hne : xs = []
    · subst hne
      rw [splitL_nil] at h
      cases h
      simp
    · cases hz : hdrSize xs with
      | none => rw [splitL_bad hne hz] at h; cases h
      | some s =>
        have hp := hdrSize_pos hz
        rw [splitL_cons hz] at h
        cases hr : splitL (xs.drop s) with
        | none => rw [hr] at h; cases h
        | some qs =>
          rw [hr] at h
          simp only [Option.map_some, Option.some.injEq] at h
          subst h
          cases n with
          | zero => omega
          | succ n =>
            have := splitL_count n (xs.drop s) qs (by simp; omega) hr
            simp at this ⊢
            omega
theorem c67 {w : World} {b b0 b1 b2 : Nat} {a : Option Addr} {l c : Nat} {xs : List Int} (h : BS w b a l c xs) (hl : l ≤ 131072) (hE : Errs w) (hS : Blk w b0 22 [.slice a l c]) (hP : Blk w b1 79 [.slice none 0 0]) (hb : b ≠ b1) (hb1 : 2 < b1) (hb2 : b ≠ b2) (hb3 : b2 < w.heap.size) :
    Calls pg 67 #[.pointer (some ⟨b0, 0, none⟩), .pointer (some ⟨b1, 0, none⟩)] w (P67 w b1 b2 xs) := by
  apply of67
  have hlt1 := hP.lt
  have hblt := h.lt
  refine ⟨_, _, _, Ce (b := b0) (i := 0) (by rfl) (by repeat (first | assumption | apply Blk.keep (by assumption) (by first | exact Option.some_ne_none _ | assumption | (intro e; injection e with e; (try dsimp only at e); omega)) | apply BS.keep (by assumption) (by first | exact Option.some_ne_none _ | assumption | (intro e; injection e with e; (try dsimp only at e); omega)) | apply OS.keep (by assumption) (by first | (left; rfl) | (right; exact Option.some_ne_none _) | (right; intro e; cases e; omega)) | apply Errs.keep (by assumption) (by intro k e; first | (cases e; done) | (cases e; omega)) | apply Blk.drew | apply BS.drew | apply OS.drew | apply Errs.drew)) (by rfl), ?_⟩
  refine call_i (c37 h (by omega)) (by rfl) ?_
  rintro _ w_3 ⟨b', a', c', rfl, hB', g3, s3, hb'⟩
  refine ⟨_, _, _, rfl, ?_⟩
  have hG : (fun q => q ≠ b1 ∧ q ≠ b2) b' := by rcases hb' with h | h <;> exact ⟨by omega, by omega⟩
  refine call_i (c68 (G := fun q => q ≠ b1 ∧ q ≠ b2) hB' hl (by repeat (first | assumption | apply Blk.keep (by assumption) (by first | exact Option.some_ne_none _ | assumption | (intro e; injection e with e; (try dsimp only at e); omega)) | apply BS.keep (by assumption) (by first | exact Option.some_ne_none _ | assumption | (intro e; injection e with e; (try dsimp only at e); omega)) | apply OS.keep (by assumption) (by first | (left; rfl) | (right; exact Option.some_ne_none _) | (right; intro e; cases e; omega)) | apply Errs.keep (by assumption) (by intro k e; first | (cases e; done) | (cases e; omega)) | apply Blk.drew | apply BS.drew | apply OS.drew | apply Errs.drew)) hG) (by rfl) ?_
  rintro _ w_6 ⟨g6, s6, hR⟩
  have gw6 : w.grownBy w_6 none := World.grownBy.trans g3 g6
  have hP6 : Blk w_6 b1 79 [.slice none 0 0] := (by repeat (first | assumption | apply Blk.keep (by assumption) (by first | exact Option.some_ne_none _ | assumption | (intro e; injection e with e; (try dsimp only at e); omega)) | apply BS.keep (by assumption) (by first | exact Option.some_ne_none _ | assumption | (intro e; injection e with e; (try dsimp only at e); omega)) | apply OS.keep (by assumption) (by first | (left; rfl) | (right; exact Option.some_ne_none _) | (right; intro e; cases e; omega)) | apply Errs.keep (by assumption) (by intro k e; first | (cases e; done) | (cases e; omega)) | apply Blk.drew | apply BS.drew | apply OS.drew | apply Errs.drew))
  rcases hR with ⟨ps, a4, c4, r4, vs4, hs, h0, rfl, ho4, hL4⟩ | ⟨hbad, y, z, rfl⟩
  · refine ⟨_, _, _, _, rfl, ?_⟩
    have hcnt := splitL_count _ xs ps (Nat.le_refl _) hs
    have hxl := h.len
    refine ⟨fun i k w' => ∃ (m : Nat) (oa : Option Addr) (oc : Nat) (r : Option Nat) (vs : List Value), i = (m : Int) ∧ k + m = ps.length ∧ w_6.heap.size ≤ w'.heap.size ∧ w.grownBy w' (some b1) ∧ w_6.grownBy w' (some b1) ∧ Blk w' b1 79 [.slice oa m oc] ∧ OS w' w_6.heap.size 22 1 oa m oc r vs ∧ LS w' r (fun q => q ≠ b1 ∧ q ≠ b2) vs (ps.take m),
      ⟨ps.length, 0, none, 0, none, [], rfl, rfl, Nat.le_refl _, grew_none _ gw6, grew_refl _ _, hP6, OS.nil _ _ _ _, LS.nil _ _ _⟩, ?_⟩
    intro dd8 i k w_12 hJ
    obtain ⟨m, oa, oc, r, vs, rfl, hkm, hs12, gw, g12, B12, ho, hL⟩ := hJ
    obtain ⟨q4, rfl, rfl, hq1, hq2, _, _, hcell⟩ := ho4.at_ h0
    refine ⟨fun hlt => ?_, fun hge => ?_⟩
    · have hm : m < ps.length := by
        have : (m : Int) < (ps.length : Int) := by simpa using hlt
        omega
      refine ⟨_, rfl, (by omega), (by omega), ?_⟩
      obtain ⟨yb, ya, yl, yc, hv, hyB, hyb, hyG⟩ := hL4.at_ m ps[m] (List.getElem?_eq_getElem hm)
      have hq4 : q4 ≠ b1 := by omega
      have hy12 : BS w_12 yb ya yl yc ps[m] := hyB.keep g12 (by intro e; injection e with e; exact hyG.1 e)
      refine ⟨ya, yl, yc, ?_, ?_⟩
      · rw [add_flat]
        have := hcell m _ hv
        rw [show 0 + (m : Int).toNat * 1 = m by omega]
        exact g12.cell this (by intro e; injection e with e; exact hq4 e)
      refine ⟨r, ?_⟩
      have gd1 := grew_drew w_12 none; have sd1 : w_12.drew.heap.size = w_12.heap.size := rfl; generalize w_12.drew = wd1 at gd1 sd1 ⊢
      have hrb1 : some b1 ≠ r := fun e => by have := ho.lt e.symm; omega
      have B13 : Blk wd1 b1 79 [.slice oa m oc] := (by repeat (first | assumption | apply Blk.keep (by assumption) (by first | exact Option.some_ne_none _ | assumption | (intro e; injection e with e; (try dsimp only at e); omega)) | apply BS.keep (by assumption) (by first | exact Option.some_ne_none _ | assumption | (intro e; injection e with e; (try dsimp only at e); omega)) | apply OS.keep (by assumption) (by first | (left; rfl) | (right; exact Option.some_ne_none _) | (right; intro e; cases e; omega)) | apply Errs.keep (by assumption) (by intro k e; first | (cases e; done) | (cases e; omega)) | apply Blk.drew | apply BS.drew | apply OS.drew | apply Errs.drew))
      refine ⟨hrb1, B13.row, ?_⟩
      refine ⟨_, _, _, Ce (b := b1) (i := 0) (by rfl) B13 (by rfl), ?_⟩
      have hsm := splitL_small _ xs ps (Nat.le_refl _) hs m ps[m] (List.getElem?_eq_getElem hm)
      have hyl := hyB.len
      refine call_i (c37 (hy12.keep gd1 (by simp)) (by omega)) (by rfl) ?_
      rintro _ w_19 ⟨zb, za, zc, rfl, hzB, g19, s19, hzb⟩
      have hod : OS wd1 w_6.heap.size 22 1 oa m oc r vs := ho.keep gd1 (by cases r <;> simp)
      have ho19 : OS w_19 w_6.heap.size 22 1 oa m oc r vs := hod.keep g19 (by cases r <;> simp)
      refine ⟨_, _, _, rfl, grew_none _ g19, rfl, ?_⟩
      refine gNew_i ?_
      intro b20 w_21 eb3 es3 gr3 B3
      have g21 : wd1.grownBy w_21 none := World.grownBy.trans g19 gr3
      refine ⟨grew_none _ g21, ?_⟩
      have ho21 : OS w_21 w_6.heap.size 22 1 oa m oc r vs := ho19.keep gr3 (by cases r <;> simp)
      have hzlt := hzB.lt
      have hzb1 : zb ≠ b1 ∧ zb ≠ b2 := by
        rcases hzb with rfl | h
        · exact hyG
        · exact ⟨by omega, by omega⟩
      have hzr : some zb ≠ r := by
        intro e
        have h1 := ho.lt e.symm
        rcases hzb with rfl | h
        · have := hyB.lt; omega
        · omega
      refine app_i (e := 22) (size := 1) (bytes := 24) (by kernel_rfl) ho21 [.slice za yl zc] (by rfl) (fun j u hu => by rw [add_flat, Nat.zero_add]; exact B3.cell hu) (by simp [Value.oneCell']) (by unfold maxLen; omega) (by omega) (by omega) ?_
      intro oa2 ol2 oc2 r2 w_23 hl2 hs2 hg2 ho2 hr2
      subst hl2
      have g23 : wd1.grownBy w_23 r := World.grownBy.trans (grew_none _ g21) hg2
      refine ⟨g23, ?_⟩
      have B23 : Blk w_23 b1 79 [.slice oa m oc] := B13.keep g23 hrb1
      refine St (b := b1) (i := 0) (by rfl) B23 (by kernel_rfl) (by rfl) (by first | rfl | (simp only [List.all_cons, List.all_nil, Value.cells]; simp [*])) ?_
      intro w_24 s24 g24 B24
      have hr2b1 : r2 = none ∨ r2 ≠ some b1 := by
        rcases hr2 with rfl | rfl
        · exact .inr (fun e => hrb1 e.symm)
        · exact .inr (fun e => by injection e with e; omega)
      have hzr2 : some zb ≠ r2 := by
        rcases hr2 with rfl | rfl
        · exact hzr
        · intro e; injection e with e; omega
      have hL23 : LS w_23 r2 (fun q => q ≠ b1 ∧ q ≠ b2) vs (ps.take m) := by
        have h1 := ((hL.keep gd1 (.inl rfl)).keep g19 (.inl rfl)).keep gr3 (.inl rfl)
        have h2 := h1.keep hg2 (.inr rfl)
        refine ⟨h2.len, fun i ys hi => ?_⟩
        obtain ⟨pb, pa, pl, pc, hv, hpB, hpb, hpG⟩ := h1.at_ i ys hi
        refine ⟨pb, pa, pl, pc, hv, hpB.keep hg2 hpb, ?_, hpG⟩
        rcases hr2 with rfl | rfl
        · exact hpb
        · intro e; injection e with e; have := hpB.lt; omega
      have hz23 : BS w_23 zb za yl zc ps[m] := hzB.keep gr3 (by simp) |>.keep hg2 hzr
      have hL24 : LS w_24 r2 (fun q => q ≠ b1 ∧ q ≠ b2) (vs ++ [.slice za yl zc]) (ps.take (m + 1)) := by
        have h1 := hL23.snoc hz23 hzr2 hzb1
        rw [show ps.take m ++ [ps[m]] = ps.take (m + 1) by rw [List.take_succ_eq_append_getElem hm]] at h1
        refine ⟨h1.len, fun i ys hi => ?_⟩
        obtain ⟨pb, pa, pl, pc, hv, hpB, hpb, hpG⟩ := h1.at_ i ys hi
        exact ⟨pb, pa, pl, pc, hv, hpB.keep g24 (by intro e; injection e with e; exact hpG.1 e), hpb, hpG⟩
      have s23 := g23.size
      have gg : ∀ W : World, W.grownBy w_12 (some b1) → W.heap.size ≤ w_6.heap.size → W.grownBy w_24 (some b1) := fun W hW hWs =>
        grew_step g24 (fun j e => by cases e; right; rfl) (grew_step g23 (fun j e => .inl (by have := (ho.lt e).1; omega)) (World.grownBy.trans hW (grew_none _ gd1)))
      refine ⟨k - 1, by omega, m + 1, oa2, oc2, r2, vs ++ [.slice za yl zc], ?_, by omega, by omega, gg w gw (by omega), gg w_6 g12 (Nat.le_refl _), B24, ho2.keep g24 hr2b1, hL24⟩
      rw [wi64_of (by omega) (by omega)]
      simp
    · have hm : m = ps.length := by
        have : ¬ (m : Int) < (ps.length : Int) := by simpa using hge
        omega
      subst hm
      rw [List.take_length] at hL
      exact ⟨trivial, gw, by omega, .inl ⟨ps, oa, oc, r, vs, hs, h0, rfl, B12, ho.mono (by omega), hL⟩⟩
  · refine ⟨_, _, _, _, rfl, ?_⟩
    refine ⟨fun i k w' => i = 0 ∧ w' = w_6, ⟨0, rfl, rfl⟩, ?_⟩
    rintro dd8 i k w_12 ⟨rfl, rfl⟩
    refine ⟨fun hlt => absurd hlt (by decide), fun _ => ?_⟩
    exact ⟨trivial, grew_none _ gw6, by omega, .inr ⟨hbad, rfl, _, hP6⟩⟩

/-- impl.UnmarshalRaw. -/
def P28 (w : World) (xs : List Int) (en : Ending) (w' : World) : Prop := w.grownBy w' none ∧ w.heap.size ≤ w'.heap.size ∧
  ((∃ ps a c r vs, splitL xs = some ps ∧ 0 < ps.length ∧ en = .returned (.tuple #[.slice a ps.length c, .bool true]) ∧ OS w' w.heap.size 22 1 a ps.length c r vs ∧ LS w' r G0 vs ps) ∨
   ((splitL xs = none ∨ splitL xs = some []) ∧ ∃ a l c, en = .returned (.tuple #[.slice a l c, .bool false])))
theorem c28 {w : World} {b : Nat} {a : Option Addr} {l c : Nat} {xs : List Int} (h : BS w b a l c xs) (hl : l ≤ 131072) (hE : Errs w) : Calls pg 28 #[.slice a l c] w (P28 w xs) := by
  apply of28
  have hlt := hE.lt
  have hblt := h.lt
  refine gNew_i ?_
  intro b1 w_2 eb1 es1 gr1 B1
  refine gNew_i ?_
  intro b3 w_4 eb2 es2 gr2 B2
  refine try_i (by kernel_rfl) ?_
  intro b5 w_5 eb5 es5 gr5 B5
  refine (c67 (b := b) (a := a) (l := l) (c := c) (xs := xs) (b2 := b5) (by repeat (first | assumption | apply Blk.keep (by assumption) (by first | exact Option.some_ne_none _ | assumption | (intro e; injection e with e; (try dsimp only at e); omega)) | apply BS.keep (by assumption) (by first | exact Option.some_ne_none _ | assumption | (intro e; injection e with e; (try dsimp only at e); omega)) | apply OS.keep (by assumption) (by first | (left; rfl) | (right; exact Option.some_ne_none _) | (right; intro e; cases e; omega)) | apply Errs.keep (by assumption) (by intro k e; first | (cases e; done) | (cases e; omega)) | apply Blk.drew | apply BS.drew | apply OS.drew | apply Errs.drew)) hl (by repeat (first | assumption | apply Blk.keep (by assumption) (by first | exact Option.some_ne_none _ | assumption | (intro e; injection e with e; (try dsimp only at e); omega)) | apply BS.keep (by assumption) (by first | exact Option.some_ne_none _ | assumption | (intro e; injection e with e; (try dsimp only at e); omega)) | apply OS.keep (by assumption) (by first | (left; rfl) | (right; exact Option.some_ne_none _) | (right; intro e; cases e; omega)) | apply Errs.keep (by assumption) (by intro k e; first | (cases e; done) | (cases e; omega)) | apply Blk.drew | apply BS.drew | apply OS.drew | apply Errs.drew)) (b0 := b1) (b1 := b3) (by repeat (first | assumption | apply Blk.keep (by assumption) (by first | exact Option.some_ne_none _ | assumption | (intro e; injection e with e; (try dsimp only at e); omega)) | apply BS.keep (by assumption) (by first | exact Option.some_ne_none _ | assumption | (intro e; injection e with e; (try dsimp only at e); omega)) | apply OS.keep (by assumption) (by first | (left; rfl) | (right; exact Option.some_ne_none _) | (right; intro e; cases e; omega)) | apply Errs.keep (by assumption) (by intro k e; first | (cases e; done) | (cases e; omega)) | apply Blk.drew | apply BS.drew | apply OS.drew | apply Errs.drew)) (by repeat (first | assumption | apply Blk.keep (by assumption) (by first | exact Option.some_ne_none _ | assumption | (intro e; injection e with e; (try dsimp only at e); omega)) | apply BS.keep (by assumption) (by first | exact Option.some_ne_none _ | assumption | (intro e; injection e with e; (try dsimp only at e); omega)) | apply OS.keep (by assumption) (by first | (left; rfl) | (right; exact Option.some_ne_none _) | (right; intro e; cases e; omega)) | apply Errs.keep (by assumption) (by intro k e; first | (cases e; done) | (cases e; omega)) | apply Blk.drew | apply BS.drew | apply OS.drew | apply Errs.drew)) (by omega) (by omega) (by omega) (by omega)).mono ?_
  rintro _ w_6 ⟨g6, s6, hP⟩
  rcases hP with ⟨ps, oa, oc, r, vs, hs, h0, rfl, B6, ho, hL⟩ | ⟨hbad, rfl, v, B6⟩
  · refine ⟨_, rfl, (by repeat (first | assumption | apply Blk.keep (by assumption) (by first | exact Option.some_ne_none _ | assumption | (intro e; injection e with e; (try dsimp only at e); omega)) | apply BS.keep (by assumption) (by first | exact Option.some_ne_none _ | assumption | (intro e; injection e with e; (try dsimp only at e); omega)) | apply OS.keep (by assumption) (by first | (left; rfl) | (right; exact Option.some_ne_none _) | (right; intro e; cases e; omega)) | apply Errs.keep (by assumption) (by intro k e; first | (cases e; done) | (cases e; omega)) | apply Blk.drew | apply BS.drew | apply OS.drew | apply Errs.drew)), ?_⟩
    intro w_7 s7 g7
    refine ⟨_, rfl, ?_⟩
    refine ⟨fun hx => (by cases hx), fun _ => ?_⟩
    refine ⟨_, _, _, Ce (b := b3) (i := 0) (by rfl) (by repeat (first | assumption | apply Blk.keep (by assumption) (by first | exact Option.some_ne_none _ | assumption | (intro e; injection e with e; (try dsimp only at e); omega)) | apply BS.keep (by assumption) (by first | exact Option.some_ne_none _ | assumption | (intro e; injection e with e; (try dsimp only at e); omega)) | apply OS.keep (by assumption) (by first | (left; rfl) | (right; exact Option.some_ne_none _) | (right; intro e; cases e; omega)) | apply Errs.keep (by assumption) (by intro k e; first | (cases e; done) | (cases e; omega)) | apply Blk.drew | apply BS.drew | apply OS.drew | apply Errs.drew)) (by rfl), ?_⟩
    refine St (b := b3) (i := 0) (by rfl) (by repeat (first | assumption | apply Blk.keep (by assumption) (by first | exact Option.some_ne_none _ | assumption | (intro e; injection e with e; (try dsimp only at e); omega)) | apply BS.keep (by assumption) (by first | exact Option.some_ne_none _ | assumption | (intro e; injection e with e; (try dsimp only at e); omega)) | apply OS.keep (by assumption) (by first | (left; rfl) | (right; exact Option.some_ne_none _) | (right; intro e; cases e; omega)) | apply Errs.keep (by assumption) (by intro k e; first | (cases e; done) | (cases e; omega)) | apply Blk.drew | apply BS.drew | apply OS.drew | apply Errs.drew)) (by kernel_rfl) (by rfl) (by first | rfl | (simp only [List.all_cons, List.all_nil, Value.cells]; simp [*])) ?_
    intro w_10 es4 gr4 B4
    refine ⟨_, _, _, Ce (b := b3) (i := 0) (by rfl) (by repeat (first | assumption | apply Blk.keep (by assumption) (by first | exact Option.some_ne_none _ | assumption | (intro e; injection e with e; (try dsimp only at e); omega)) | apply BS.keep (by assumption) (by first | exact Option.some_ne_none _ | assumption | (intro e; injection e with e; (try dsimp only at e); omega)) | apply OS.keep (by assumption) (by first | (left; rfl) | (right; exact Option.some_ne_none _) | (right; intro e; cases e; omega)) | apply Errs.keep (by assumption) (by intro k e; first | (cases e; done) | (cases e; omega)) | apply Blk.drew | apply BS.drew | apply OS.drew | apply Errs.drew)) (by rfl), ?_⟩
    have hr1 : r = none ∨ r ≠ some b5 := .inr (fun e => by have := ho.lt e; omega)
    have hr2 : r = none ∨ r ≠ some b3 := .inr (fun e => by have := ho.lt e; omega)
    refine ⟨(by repeat (first | exact grew_refl _ _ | assumption | refine grew_step (by assumption) (by intro j e; first | (cases e; done) | (cases e; left; omega) | (cases e; right; rfl)) ?_ | refine grew_some ?_)), by omega, .inl ⟨ps, _, _, r, vs, hs, h0, rfl, ((ho.keep g7 hr1).keep gr4 hr2).mono (by omega), ⟨hL.len, fun i ys hi => ?_⟩⟩⟩
    obtain ⟨pb, pa, pl, pc, hv, hpB, hpb, hpG⟩ := hL.at_ i ys hi
    exact ⟨pb, pa, pl, pc, hv, hpB.keep g7 (by intro e; injection e with e; exact hpG.2 e) |>.keep gr4 (by intro e; injection e with e; exact hpG.1 e), hpb, trivial⟩
  · refine ⟨_, rfl, (by repeat (first | assumption | apply Blk.keep (by assumption) (by first | exact Option.some_ne_none _ | assumption | (intro e; injection e with e; (try dsimp only at e); omega)) | apply BS.keep (by assumption) (by first | exact Option.some_ne_none _ | assumption | (intro e; injection e with e; (try dsimp only at e); omega)) | apply OS.keep (by assumption) (by first | (left; rfl) | (right; exact Option.some_ne_none _) | (right; intro e; cases e; omega)) | apply Errs.keep (by assumption) (by intro k e; first | (cases e; done) | (cases e; omega)) | apply Blk.drew | apply BS.drew | apply OS.drew | apply Errs.drew)), ?_⟩
    intro w_7 s7 g7
    refine ⟨_, rfl, ?_⟩
    refine ⟨fun _ => ?_, fun hx => (by cases hx)⟩
    refine St (b := b3) (i := 0) (by rfl) (by repeat (first | assumption | apply Blk.keep (by assumption) (by first | exact Option.some_ne_none _ | assumption | (intro e; injection e with e; (try dsimp only at e); omega)) | apply BS.keep (by assumption) (by first | exact Option.some_ne_none _ | assumption | (intro e; injection e with e; (try dsimp only at e); omega)) | apply OS.keep (by assumption) (by first | (left; rfl) | (right; exact Option.some_ne_none _) | (right; intro e; cases e; omega)) | apply Errs.keep (by assumption) (by intro k e; first | (cases e; done) | (cases e; omega)) | apply Blk.drew | apply BS.drew | apply OS.drew | apply Errs.drew)) (by kernel_rfl) (by rfl) (by first | rfl | (simp only [List.all_cons, List.all_nil, Value.cells]; simp [*])) ?_
    intro w_10 es4 gr4 B4
    refine ⟨_, _, _, Ce (b := b3) (i := 0) (by rfl) (by repeat (first | assumption | apply Blk.keep (by assumption) (by first | exact Option.some_ne_none _ | assumption | (intro e; injection e with e; (try dsimp only at e); omega)) | apply BS.keep (by assumption) (by first | exact Option.some_ne_none _ | assumption | (intro e; injection e with e; (try dsimp only at e); omega)) | apply OS.keep (by assumption) (by first | (left; rfl) | (right; exact Option.some_ne_none _) | (right; intro e; cases e; omega)) | apply Errs.keep (by assumption) (by intro k e; first | (cases e; done) | (cases e; omega)) | apply Blk.drew | apply BS.drew | apply OS.drew | apply Errs.drew)) (by rfl), ?_⟩
    exact ⟨(by repeat (first | exact grew_refl _ _ | assumption | refine grew_step (by assumption) (by intro j e; first | (cases e; done) | (cases e; left; omega) | (cases e; right; rfl)) ?_ | refine grew_some ?_)), by omega, .inr ⟨hbad, _, _, _, rfl⟩⟩

/-- laws.FnRaw. -/
theorem c9 {w : World} {b : Nat} {a : Option Addr} {l c : Nat} {xs : List Int} (h : BS w b a l c xs) (hE : Errs w) : Calls pg 9 #[.slice a l c] w (PTrue w) := by
  apply of9
  have hlt := hE.lt
  have hblt := h.lt
  have hxl := h.len
  refine ⟨fun _ => ⟨rfl, grew_refl _ _, Nat.le_refl _⟩, fun _ => ?_⟩
  refine ⟨fun _ => ⟨rfl, grew_refl _ _, Nat.le_refl _⟩, fun h2 => ?_⟩
  have hl2 : l ≤ 131072 := by
    have : (l : Int) ≤ 131072 := by simpa using h2
    omega
  refine call_i (c27 (G := G0) h hl2 trivial) (by rfl) ?_
  rintro _ w_3 ⟨g3, s3, h3⟩
  rcases h3 with ⟨ps, a1, c1, r1, vs1, hs1, h0, rfl, ho1, hL1⟩ | ⟨hbad, a1, l1, c1, rfl⟩
  · refine ⟨_, _, _, _, rfl, ?_⟩
    refine call_i (c28 (b := b) (a := a) (l := l) (c := c) (xs := xs) (by repeat (first | assumption | apply Blk.keep (by assumption) (by first | exact Option.some_ne_none _ | assumption | (intro e; injection e with e; (try dsimp only at e); omega)) | apply BS.keep (by assumption) (by first | exact Option.some_ne_none _ | assumption | (intro e; injection e with e; (try dsimp only at e); omega)) | apply OS.keep (by assumption) (by first | (left; rfl) | (right; exact Option.some_ne_none _) | (right; intro e; cases e; omega)) | apply Errs.keep (by assumption) (by intro k e; first | (cases e; done) | (cases e; omega)) | apply Blk.drew | apply BS.drew | apply OS.drew | apply Errs.drew)) hl2 (by repeat (first | assumption | apply Blk.keep (by assumption) (by first | exact Option.some_ne_none _ | assumption | (intro e; injection e with e; (try dsimp only at e); omega)) | apply BS.keep (by assumption) (by first | exact Option.some_ne_none _ | assumption | (intro e; injection e with e; (try dsimp only at e); omega)) | apply OS.keep (by assumption) (by first | (left; rfl) | (right; exact Option.some_ne_none _) | (right; intro e; cases e; omega)) | apply Errs.keep (by assumption) (by intro k e; first | (cases e; done) | (cases e; omega)) | apply Blk.drew | apply BS.drew | apply OS.drew | apply Errs.drew))) (by rfl) ?_
    rintro _ w_6 ⟨g6, s6, h6⟩
    rcases h6 with ⟨ps2, a2, c2, r2, vs2, hs2, _, rfl, ho2, hL2⟩ | ⟨hbad, _⟩
    · obtain rfl : ps2 = ps := by rw [hs1] at hs2; exact (Option.some.inj hs2).symm
      refine ⟨_, _, _, _, rfl, ?_⟩
      refine ⟨fun hx => absurd hx (by decide), fun _ => ?_⟩
      refine call_i (c13 (by repeat (first | assumption | apply Blk.keep (by assumption) (by first | exact Option.some_ne_none _ | assumption | (intro e; injection e with e; (try dsimp only at e); omega)) | apply BS.keep (by assumption) (by first | exact Option.some_ne_none _ | assumption | (intro e; injection e with e; (try dsimp only at e); omega)) | apply OS.keep (by assumption) (by first | (left; rfl) | (right; exact Option.some_ne_none _) | (right; intro e; cases e; omega)) | apply Errs.keep (by assumption) (by intro k e; first | (cases e; done) | (cases e; omega)) | apply Blk.drew | apply BS.drew | apply OS.drew | apply Errs.drew))) (by rfl) ?_
      rintro _ w_8 ⟨rfl, g8, s8⟩
      refine ⟨_, rfl, ?_⟩
      refine ⟨fun hx => absurd hx (by decide), fun _ => ?_⟩
      refine ⟨fun hx => absurd hx (by decide), fun _ => ?_⟩
      refine ⟨fun hx => (by simp at hx), fun _ => ?_⟩
      have gw8 : w.grownBy w_8 none := (by repeat (first | exact grew_refl _ _ | assumption | refine grew_step (by assumption) (by intro j e; first | (cases e; done) | (cases e; left; omega) | (cases e; right; rfl)) ?_ | refine grew_some ?_))
      have hcnt := splitL_count _ xs ps2 (Nat.le_refl _) hs1
      refine ⟨fun i k w' => ∃ m : Nat, i = (m : Int) ∧ k + m = ps2.length ∧ w_8.heap.size ≤ w'.heap.size ∧ w_8.grownBy w' none, ⟨ps2.length, 0, rfl, rfl, Nat.le_refl _, grew_refl _ _⟩, ?_⟩
      rintro dd10 i k w_14 ⟨m, rfl, hkm, s14, g14⟩
      have gw14 : w.grownBy w_14 none := World.grownBy.trans gw8 g14
      refine ⟨fun hlt => ?_, fun hge => ⟨rfl, gw14, by omega⟩⟩
      have hm : m < ps2.length := by
        have : (m : Int) < (ps2.length : Int) := by simpa using hlt
        omega
      obtain ⟨q1, rfl, rfl, _, hq1, _, _, hcell1⟩ := ho1.at_ h0
      obtain ⟨q2, rfl, rfl, _, hq2, _, _, hcell2⟩ := ho2.at_ h0
      obtain ⟨yb, ya, yl, yc, hv1, hy1, _, _⟩ := hL1.at_ m ps2[m] (List.getElem?_eq_getElem hm)
      obtain ⟨zb, za, zl, zc, hv2, hz2, _, _⟩ := hL2.at_ m ps2[m] (List.getElem?_eq_getElem hm)
      have e0 : 0 + (m : Int).toNat * 1 = m := by omega
      refine ⟨_, rfl, (by omega), (by omega), ?_⟩
      have gd1 := grew_drew w_14 none; have sd1 : w_14.drew.heap.size = w_14.heap.size := rfl; generalize w_14.drew = wd1 at gd1 sd1 ⊢
      refine ⟨za, zl, zc, ?_, ?_⟩
      · rw [add_flat, e0]
        exact gd1.cell (g14.cell (g8.cell (hcell2 m _ hv2) (by simp)) (by simp)) (by simp)
      refine ⟨_, cv_bs u22 u5 u9 (hz2.keep g8 (by simp) |>.keep g14 (by simp) |>.keep gd1 (by simp)), ?_⟩
      refine ⟨_, rfl, (by omega), (by omega), ?_⟩
      refine ⟨ya, yl, yc, ?_, ?_⟩
      · rw [add_flat, e0]
        exact gd1.cell (g14.cell (g8.cell (g6.cell (hcell1 m _ hv1) (by simp)) (by simp)) (by simp)) (by simp)
      refine ⟨_, cv_bs u22 u5 u9 (hy1.keep g6 (by simp) |>.keep g8 (by simp) |>.keep g14 (by simp) |>.keep gd1 (by simp)), ?_⟩
      refine ⟨fun hx => (by simp at hx), fun _ => ?_⟩
      exact ⟨k - 1, by omega, m + 1, by rw [wi64_of (by omega) (by omega)]; simp, by omega, by omega, World.grownBy.trans g14 gd1⟩
    · rw [hs1] at hbad
      rcases hbad with hbad | hbad
      · cases hbad
      · cases hbad; simp at h0
  · refine ⟨_, _, _, _, rfl, ?_⟩
    refine call_i (c28 (b := b) (a := a) (l := l) (c := c) (xs := xs) (by repeat (first | assumption | apply Blk.keep (by assumption) (by first | exact Option.some_ne_none _ | assumption | (intro e; injection e with e; (try dsimp only at e); omega)) | apply BS.keep (by assumption) (by first | exact Option.some_ne_none _ | assumption | (intro e; injection e with e; (try dsimp only at e); omega)) | apply OS.keep (by assumption) (by first | (left; rfl) | (right; exact Option.some_ne_none _) | (right; intro e; cases e; omega)) | apply Errs.keep (by assumption) (by intro k e; first | (cases e; done) | (cases e; omega)) | apply Blk.drew | apply BS.drew | apply OS.drew | apply Errs.drew)) hl2 (by repeat (first | assumption | apply Blk.keep (by assumption) (by first | exact Option.some_ne_none _ | assumption | (intro e; injection e with e; (try dsimp only at e); omega)) | apply BS.keep (by assumption) (by first | exact Option.some_ne_none _ | assumption | (intro e; injection e with e; (try dsimp only at e); omega)) | apply OS.keep (by assumption) (by first | (left; rfl) | (right; exact Option.some_ne_none _) | (right; intro e; cases e; omega)) | apply Errs.keep (by assumption) (by intro k e; first | (cases e; done) | (cases e; omega)) | apply Blk.drew | apply BS.drew | apply OS.drew | apply Errs.drew))) (by rfl) ?_
    rintro _ w_6 ⟨g6, s6, h6⟩
    rcases h6 with ⟨ps2, a2, c2, r2, vs2, hs2, h0, _⟩ | ⟨_, a2, l2, c2, rfl⟩
    · rw [hs2] at hbad
      rcases hbad with hbad | hbad
      · cases hbad
      · cases hbad; simp at h0
    · refine ⟨_, _, _, _, rfl, ?_⟩
      refine ⟨fun hx => absurd hx (by decide), fun _ => ?_⟩
      refine call_i (c13 (by repeat (first | assumption | apply Blk.keep (by assumption) (by first | exact Option.some_ne_none _ | assumption | (intro e; injection e with e; (try dsimp only at e); omega)) | apply BS.keep (by assumption) (by first | exact Option.some_ne_none _ | assumption | (intro e; injection e with e; (try dsimp only at e); omega)) | apply OS.keep (by assumption) (by first | (left; rfl) | (right; exact Option.some_ne_none _) | (right; intro e; cases e; omega)) | apply Errs.keep (by assumption) (by intro k e; first | (cases e; done) | (cases e; omega)) | apply Blk.drew | apply BS.drew | apply OS.drew | apply Errs.drew))) (by rfl) ?_
      rintro _ w_8 ⟨rfl, g8, s8⟩
      refine ⟨_, rfl, ?_⟩
      refine ⟨fun hx => absurd hx (by decide), fun _ => ?_⟩
      refine ⟨fun _ => ⟨rfl, (by repeat (first | exact grew_refl _ _ | assumption | refine grew_step (by assumption) (by intro j e; first | (cases e; done) | (cases e; left; omega) | (cases e; right; rfl)) ?_ | refine grew_some ?_)), by omega⟩, fun hx => absurd hx (by decide)⟩
end Go.Proofs.YtkdialecadjedaaGreatDoor
