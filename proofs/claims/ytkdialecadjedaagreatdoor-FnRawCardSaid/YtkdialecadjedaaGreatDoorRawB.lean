/- rtcp's own splitting of a datagram (no statement of the seat is proved here; conditions: the slice reads bytes, the listed errors are not nil). -/
import Derived.Test.YtkdialecadjedaaGreatDoorRawA
namespace Go.Proofs.YtkdialecadjedaaGreatDoor
set_option linter.unusedVariables false
set_option linter.unusedSimpArgs false
set_option linter.unusedSectionVars false
open Go

/-- rtcp.AppendRawPackets, from nothing. -/
def P107 (w : World) (G : Nat → Prop) (xs : List Int) (en : Ending) (w' : World) : Prop := w.grownBy w' none ∧ w.heap.size ≤ w'.heap.size ∧
  ((∃ ps a c r vs, splitL xs = some ps ∧ 0 < ps.length ∧ en = .returned (.tuple #[.slice a ps.length c, .nilIface]) ∧ OS w' w.heap.size 129 1 a ps.length c r vs ∧ LS w' r G vs ps) ∨
   ((splitL xs = none ∨ splitL xs = some []) ∧ ∃ y z, en = .returned (.tuple #[.slice none 0 0, .iface y z])))
theorem c107 {G : Nat → Prop} {w : World} {b : Nat} {a : Option Addr} {l c : Nat} {xs : List Int} (h : BS w b a l c xs) (hl : l ≤ 131072) (hE : Errs w) (hG : G b) : Calls pg 107 #[.slice none 0 0, .slice a l c] w (P107 w G xs) := by
  apply of107
  have hblt := h.lt
  refine ⟨fun oa ol oc fd a' l' c' k w' => ∃ xs' ps r vs, k = l' ∧ BS w' b a' l' c' xs' ∧ l' + ps.length ≤ l ∧ splitL xs = (splitL xs').map (ps ++ ·) ∧ ol = ps.length ∧ fd = (ps.length : Int) ∧ OS w' w.heap.size 129 1 oa ol oc r vs ∧ LS w' r G vs ps ∧ w.grownBy w' none ∧ w.heap.size ≤ w'.heap.size,
    ⟨l, xs, [], none, [], rfl, h, by simp, by cases splitL xs <;> simp, rfl, rfl, OS.nil _ _ _ _, LS.nil _ _ _, grew_refl _ _, Nat.le_refl _⟩, ?_⟩
  intro dd2 oa ol oc fd a' l' c' k w6 hJ
  obtain ⟨xs', ps, r, vs, rfl, hB, hlen, hsp, rfl, rfl, ho, hL, hg, hs⟩ := hJ
  have hl' := hB.len
  refine ⟨fun hc => ?_, fun hc => ?_⟩
  · have hpos : 0 < k := by
      have : (0 : Int) < (k : Int) := by simpa using hc
      omega
    have hne : xs' ≠ [] := by rintro rfl; simp at hl'; omega
    refine gNew_i ?_
    intro b15 w_16 eb1 es1 gr1 B1
    have hEs : Errs w6 := hE.keep hg (by simp)
    refine call_i (c55 (bp := b15) (b := b) (a := a') (l := k) (c := c') (hB.keep gr1 (by simp)) (hEs.keep gr1 (by simp)) B1 (by have := hB.lt; omega)) (by rfl) ?_
    rintro _ w_17 ⟨gr2, es2, hP⟩
    have hlt0 := hE.lt
    have g17 : w.grownBy w_17 none := grew_step gr2 (fun j e => by cases e; left; omega) (World.grownBy.trans hg gr1)
    have E17 : Errs w_17 := (hEs.keep gr1 (by simp)).keep gr2 (by intro q e; cases e; omega)
    rcases hP with ⟨p, cc, t, n, hr, rfl, B2⟩ | ⟨hr, ⟨y, z, rfl⟩, hw⟩
    rotate_left
    · refine ⟨_, rfl, trivial, ?_⟩
      refine ⟨fun _ => ?_, fun hx => (by cases hx)⟩
      have hbad : splitL xs' = none := splitL_bad hne (by simp [hdrSize, hr])
      exact ⟨g17, by omega, .inr ⟨.inl (by rw [hsp, hbad]; rfl), _, _, rfl⟩⟩
    · obtain ⟨h4, hn⟩ := rdHdr_some hr hB.byte
      obtain ⟨_, e1⟩ := size_wrap hn
      refine ⟨_, rfl, trivial, ?_⟩
      refine ⟨fun hx => (by cases hx), fun _ => ?_⟩
      refine ⟨_, Ce (by first | exact add_flat _ _ _ | exact add_flat2 _ _ _ _ | rfl) (by repeat (first | assumption | apply Blk.keep (by assumption) (by first | exact Option.some_ne_none _ | assumption | (intro e; injection e with e; (try dsimp only at e); omega)) | apply BS.keep (by assumption) (by first | exact Option.some_ne_none _ | assumption | (intro e; injection e with e; (try dsimp only at e); omega)) | apply OS.keep (by assumption) (by first | (left; rfl) | (right; exact Option.some_ne_none _) | (right; intro e; cases e; omega)) | apply Errs.keep (by assumption) (by intro k e; first | (cases e; done) | (cases e; omega)) | apply Blk.drew | apply BS.drew | apply OS.drew | apply Errs.drew)) (by rfl), ?_⟩
      rw [e1]
      generalize hS : 4 * (n.toNat + 1) = S
      refine ⟨fun hbig => ?_, fun hsm => ?_⟩
      · have hbig' : (k : Int) < (S : Int) := by simpa using hbig
        have hbad : splitL xs' = none := splitL_bad hne (by simp only [hdrSize, hr]; rw [if_neg (by omega)])
        have gd7 := grew_drew w_17 none; have sd7 : w_17.drew.heap.size = w_17.heap.size := rfl; generalize w_17.drew = wd7 at gd7 sd7 ⊢
        have Ed : Errs wd7 := (by repeat (first | assumption | apply Blk.keep (by assumption) (by first | exact Option.some_ne_none _ | assumption | (intro e; injection e with e; (try dsimp only at e); omega)) | apply BS.keep (by assumption) (by first | exact Option.some_ne_none _ | assumption | (intro e; injection e with e; (try dsimp only at e); omega)) | apply OS.keep (by assumption) (by first | (left; rfl) | (right; exact Option.some_ne_none _) | (right; intro e; cases e; omega)) | apply Errs.keep (by assumption) (by intro k e; first | (cases e; done) | (cases e; omega)) | apply Blk.drew | apply BS.drew | apply OS.drew | apply Errs.drew))
        obtain ⟨y, z, he⟩ := Ed.e1
        exact ⟨_, he, World.grownBy.trans g17 gd7, by omega, .inr ⟨.inl (by rw [hsp, hbad]; rfl), _, _, rfl⟩⟩
      · have hsm' : (S : Int) ≤ (k : Int) := by simpa using hsm
        have hcap := hB.and.2.1
        have hz : hdrSize xs' = some S := by simp only [hdrSize, hr]; rw [if_pos (by omega), hS]
        have hBw : BS w_17 b a' k c' xs' := hB.keep gr1 (by simp) |>.keep gr2 (by intro e; injection e with e; have := hB.lt; omega)
        have how : OS w_17 w.heap.size 129 1 oa ps.length oc r vs := ho.keep gr1 (by cases r <;> simp) |>.keep gr2 (by
          cases hr0 : r with
          | none => exact .inl rfl
          | some q => exact .inr (fun e => by injection e with e; have := ho.lt hr0; omega))
        have hLw : LS w_17 r G vs ps := by
          have h1 := hL.keep gr1 (.inl rfl)
          refine ⟨h1.len, fun i ys hi => ?_⟩
          obtain ⟨b', a2, l2, c2, hv, hB2, hb2⟩ := hL.at_ i ys hi
          exact ⟨b', a2, l2, c2, hv, hB2.keep gr1 (by simp) |>.keep gr2 (by intro e; injection e with e; have := hB2.lt; omega), hb2⟩
        refine ⟨by omega, by omega, by omega, by omega, rfl, ?_⟩
        refine gNew_i ?_
        intro b19 w_20 eb3 es3 gr3 B3
        rw [Int.toNat_natCast] at B3 ⊢
        refine app_i (e := 129) (size := 1) (bytes := 24) (by kernel_rfl) (how.keep gr3 (by cases r <;> simp)) [.slice (cutA a' 0 S 1) S S] (by rfl) (fun j u hu => by rw [add_flat, Nat.zero_add]; exact B3.cell hu) (by simp [Value.oneCell']) (by unfold maxLen; omega) (by omega) (by omega) ?_
        intro oa2 ol2 oc2 r2 w22 hl2 hs2 hg2 ho2 hr2
        refine ⟨by omega, by omega, k - S, by omega, ?_⟩
        have hB22 : BS w22 b a' k c' xs' := hBw.keep gr3 (by simp) |>.keep hg2 (by
          intro e
          have := ho.lt e.symm
          omega)
        have hLk : LS w22 r2 G vs ps := ((hLw.keep gr3 (.inl rfl)).fresh (r' := r2) (by
          rcases hr2 with h | h
          · exact .inl h
          · exact .inr ⟨_, h, by omega⟩)) |> fun h => ⟨h.len, fun i ys hi => by
            obtain ⟨b', a2, l2, c2, hv, hB2, hb2⟩ := h.at_ i ys hi
            obtain ⟨b3, a3, l3, c3, hv3, hB3, hb3⟩ := (hLw.keep gr3 (.inl rfl)).at_ i ys hi
            rw [hv] at hv3
            simp only [Option.some.injEq, Value.slice.injEq] at hv3
            obtain ⟨rfl, rfl, rfl⟩ := hv3
            refine ⟨b3, _, _, _, hv, hB3.keep hg2 hb3.1, ?_, hb3.2⟩
            rcases hr2 with rfl | rfl
            · exact hb3.1
            · intro e; injection e with e; have := hB3.lt; omega⟩
        have hcut := hB22.cut 0 S S (by omega) (by omega) (by omega) (by omega)
        have hpiece : BS w22 b (cutA a' 0 S 1) S S (xs'.take S) := by simpa using hcut
        have hrest := hB22.skip S (by omega)
        subst hl2
        refine ⟨xs'.drop S, ps ++ [xs'.take S], r2, vs ++ [.slice (cutA a' 0 S 1) S S], rfl, hrest, by simp; omega, ?_, by simp, by rw [wi64_of (by omega) (by omega)]; simp, ho2, hLk.snoc hpiece ?_ hG, grew_step hg2 (fun j e => .inl (ho.lt e).1) (World.grownBy.trans g17 gr3), by omega⟩
        · rw [hsp, splitL_cons hz]
          cases splitL (xs'.drop S) <;> simp
        · intro e
          rcases hr2 with h | h
          · rw [h] at e; have := ho.lt e.symm; omega
          · rw [h] at e; injection e with e; omega
  · have h0 : k = 0 := by
      have : ¬ (0 : Int) < (k : Int) := by simpa using hc
      omega
    subst h0
    have : xs' = [] := List.eq_nil_of_length_eq_zero hl'
    subst this
    rw [splitL_nil] at hsp
    simp only [Option.map_some, List.append_nil] at hsp
    rcases Nat.eq_zero_or_pos ps.length with h0 | h0
    · have : ps = [] := List.eq_nil_of_length_eq_zero h0
      subst this
      refine ⟨fun _ => ?_, fun hx => absurd hx (by decide)⟩
      have E6 : Errs w6 := hE.keep hg (by simp)
      have gd8 := grew_drew w6 none; have sd8 : w6.drew.heap.size = w6.heap.size := rfl; generalize w6.drew = wd8 at gd8 sd8 ⊢
      have Ed : Errs wd8 := (by repeat (first | assumption | apply Blk.keep (by assumption) (by first | exact Option.some_ne_none _ | assumption | (intro e; injection e with e; (try dsimp only at e); omega)) | apply BS.keep (by assumption) (by first | exact Option.some_ne_none _ | assumption | (intro e; injection e with e; (try dsimp only at e); omega)) | apply OS.keep (by assumption) (by first | (left; rfl) | (right; exact Option.some_ne_none _) | (right; intro e; cases e; omega)) | apply Errs.keep (by assumption) (by intro k e; first | (cases e; done) | (cases e; omega)) | apply Blk.drew | apply BS.drew | apply OS.drew | apply Errs.drew))
      obtain ⟨y, z, he⟩ := Ed.e0
      exact ⟨_, he, World.grownBy.trans hg gd8, by omega, .inr ⟨.inr hsp, _, _, rfl⟩⟩
    · refine ⟨fun hx => (by have := beq_iff_eq.1 hx; omega), fun _ => ?_⟩
      exact ⟨hg, hs, .inl ⟨ps, oa, oc, r, vs, hsp, h0, rfl, ho, hL⟩⟩
end Go.Proofs.YtkdialecadjedaaGreatDoor
