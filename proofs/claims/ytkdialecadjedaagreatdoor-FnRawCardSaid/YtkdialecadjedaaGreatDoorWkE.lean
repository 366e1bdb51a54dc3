/- laws.works: one packet is written and read (no statement of the seat is proved here; condition: the listed errors are not nil). -/
import Derived.Test.YtkdialecadjedaaGreatDoorWkD
namespace Go.Proofs.YtkdialecadjedaaGreatDoor
set_option linter.unusedVariables false
set_option linter.unusedSimpArgs false
set_option linter.unusedSectionVars false
open Go

/-- The closure of impl.Unmarshal, a picture loss. -/
def P35_p (w : World) (b1 : Nat) (s m : Int) (en : Ending) (w' : World) : Prop := ∃ a c r, en = .returned (.bool true) ∧ w.grownBy w' (some b1) ∧ w.heap.size ≤ w'.heap.size ∧ Blk w' b1 26 [.slice a 1 c] ∧ OS w' w.heap.size 75 30 a 1 c r (pliCells s m)
theorem c35_p {w : World} {b b0 b1 : Nat} {a : Option Addr} {l c : Nat} {a0 a1 a2 a3 d0 d1 d2 d3 : Int} (h : BS w b a l c [129, 206, 0, 2, a0, a1, a2, a3, d0, d1, d2, d3]) (hE : Errs w) (B0 : Blk w b0 22 [.slice a l c]) (B1 : Blk w b1 26 [.slice none 0 0]) (hb1 : 2 < b1) :
    Calls pg 35 #[.pointer (some ⟨b0, 0, none⟩), .pointer (some ⟨b1, 0, none⟩)] w (P35_p w b1 (be32N a0 a1 a2 a3) (be32N d0 d1 d2 d3)) := by
  apply of35
  have hl : 12 = l := h.len
  have hlt1 := B1.lt
  refine ⟨_, _, _, Ce (b := b0) (i := 0) (by rfl) (by repeat (first | assumption | apply Blk.keep (by assumption) (by first | exact Option.some_ne_none _ | assumption | (intro e; injection e with e; (try dsimp only at e); omega)) | apply BS.keep (by assumption) (by first | exact Option.some_ne_none _ | assumption | (intro e; injection e with e; (try dsimp only at e); omega)) | apply OS.keep (by assumption) (by first | (left; rfl) | (right; exact Option.some_ne_none _) | (right; intro e; cases e; omega)) | apply Errs.keep (by assumption) (by intro k e; first | (cases e; done) | (cases e; omega)) | apply Blk.drew | apply BS.drew | apply OS.drew | apply Errs.drew)) (by rfl), ?_⟩
  refine call_i (c37 h (by omega)) (by rfl) ?_
  rintro _ w_3 ⟨b', a', c', rfl, hB', g3, s3, hb'⟩
  refine ⟨_, _, _, rfl, ?_⟩
  refine call_i (c36_p hB' (by repeat (first | assumption | apply Blk.keep (by assumption) (by first | exact Option.some_ne_none _ | assumption | (intro e; injection e with e; (try dsimp only at e); omega)) | apply BS.keep (by assumption) (by first | exact Option.some_ne_none _ | assumption | (intro e; injection e with e; (try dsimp only at e); omega)) | apply OS.keep (by assumption) (by first | (left; rfl) | (right; exact Option.some_ne_none _) | (right; intro e; cases e; omega)) | apply Errs.keep (by assumption) (by intro k e; first | (cases e; done) | (cases e; omega)) | apply Blk.drew | apply BS.drew | apply OS.drew | apply Errs.drew))) (by rfl) ?_
  rintro _ w_6 ⟨a6, c6, bp, r6, rfl, g6, s6, hbp, ho6, B6⟩
  refine ⟨_, _, _, _, rfl, ?_⟩
  refine call_i (c38_p ho6 B6) (by rfl) ?_
  rintro _ w_8 ⟨a8, c8, r8, rfl, g8, s8, ho8⟩
  refine ⟨_, _, _, rfl, ?_⟩
  refine St (b := b1) (i := 0) (by rfl) (by repeat (first | assumption | apply Blk.keep (by assumption) (by first | exact Option.some_ne_none _ | assumption | (intro e; injection e with e; (try dsimp only at e); omega)) | apply BS.keep (by assumption) (by first | exact Option.some_ne_none _ | assumption | (intro e; injection e with e; (try dsimp only at e); omega)) | apply OS.keep (by assumption) (by first | (left; rfl) | (right; exact Option.some_ne_none _) | (right; intro e; cases e; omega)) | apply Errs.keep (by assumption) (by intro k e; first | (cases e; done) | (cases e; omega)) | apply Blk.drew | apply BS.drew | apply OS.drew | apply Errs.drew)) (by kernel_rfl) (by rfl) (by first | rfl | (simp only [List.all_cons, List.all_nil, Value.cells]; simp [*])) ?_
  intro w_9 es1 gr1 B9
  refine ⟨trivial, a8, c8, r8, rfl, (by repeat (first | exact grew_refl _ _ | assumption | refine grew_step (by assumption) (by intro j e; first | (cases e; done) | (cases e; left; omega) | (cases e; right; rfl)) ?_ | refine grew_some ?_)), by omega, B9, ?_⟩
  have hr : r8 = none ∨ r8 ≠ some b1 := .inr (fun e => by have := ho8.lt e; omega)
  exact (ho8.keep gr1 hr).mono (by omega)

/-- impl.Unmarshal, a picture loss. -/
def P12_p (w : World) (s m : Int) (en : Ending) (w' : World) : Prop := ∃ a c r, en = .returned (.tuple #[.slice a 1 c, .bool true]) ∧ w.grownBy w' none ∧ w.heap.size ≤ w'.heap.size ∧ OS w' w.heap.size 75 30 a 1 c r (pliCells s m)
theorem c12_p {w : World} {b : Nat} {a : Option Addr} {l c : Nat} {a0 a1 a2 a3 d0 d1 d2 d3 : Int} (h : BS w b a l c [129, 206, 0, 2, a0, a1, a2, a3, d0, d1, d2, d3]) (hE : Errs w) :
    Calls pg 12 #[.slice a l c] w (P12_p w (be32N a0 a1 a2 a3) (be32N d0 d1 d2 d3)) := by
  apply of12
  have hlt := hE.lt
  have hblt := h.lt
  refine gNew_i ?_
  intro b1 w_2 eb1 es1 gr1 B1
  refine gNew_i ?_
  intro b3 w_4 eb2 es2 gr2 B2
  refine try_i (by kernel_rfl) ?_
  intro b5 w_5 eb5 es5 gr5 B5
  refine (c35_p (b := b) (a := a) (l := l) (c := c) (by repeat (first | assumption | apply Blk.keep (by assumption) (by first | exact Option.some_ne_none _ | assumption | (intro e; injection e with e; (try dsimp only at e); omega)) | apply BS.keep (by assumption) (by first | exact Option.some_ne_none _ | assumption | (intro e; injection e with e; (try dsimp only at e); omega)) | apply OS.keep (by assumption) (by first | (left; rfl) | (right; exact Option.some_ne_none _) | (right; intro e; cases e; omega)) | apply Errs.keep (by assumption) (by intro k e; first | (cases e; done) | (cases e; omega)) | apply Blk.drew | apply BS.drew | apply OS.drew | apply Errs.drew)) (by repeat (first | assumption | apply Blk.keep (by assumption) (by first | exact Option.some_ne_none _ | assumption | (intro e; injection e with e; (try dsimp only at e); omega)) | apply BS.keep (by assumption) (by first | exact Option.some_ne_none _ | assumption | (intro e; injection e with e; (try dsimp only at e); omega)) | apply OS.keep (by assumption) (by first | (left; rfl) | (right; exact Option.some_ne_none _) | (right; intro e; cases e; omega)) | apply Errs.keep (by assumption) (by intro k e; first | (cases e; done) | (cases e; omega)) | apply Blk.drew | apply BS.drew | apply OS.drew | apply Errs.drew)) (b0 := b1) (b1 := b3) (by repeat (first | assumption | apply Blk.keep (by assumption) (by first | exact Option.some_ne_none _ | assumption | (intro e; injection e with e; (try dsimp only at e); omega)) | apply BS.keep (by assumption) (by first | exact Option.some_ne_none _ | assumption | (intro e; injection e with e; (try dsimp only at e); omega)) | apply OS.keep (by assumption) (by first | (left; rfl) | (right; exact Option.some_ne_none _) | (right; intro e; cases e; omega)) | apply Errs.keep (by assumption) (by intro k e; first | (cases e; done) | (cases e; omega)) | apply Blk.drew | apply BS.drew | apply OS.drew | apply Errs.drew)) (by repeat (first | assumption | apply Blk.keep (by assumption) (by first | exact Option.some_ne_none _ | assumption | (intro e; injection e with e; (try dsimp only at e); omega)) | apply BS.keep (by assumption) (by first | exact Option.some_ne_none _ | assumption | (intro e; injection e with e; (try dsimp only at e); omega)) | apply OS.keep (by assumption) (by first | (left; rfl) | (right; exact Option.some_ne_none _) | (right; intro e; cases e; omega)) | apply Errs.keep (by assumption) (by intro k e; first | (cases e; done) | (cases e; omega)) | apply Blk.drew | apply BS.drew | apply OS.drew | apply Errs.drew)) (by omega)).mono ?_
  rintro _ w_6 ⟨a6, c6, r6, rfl, g6, s6, B6, ho6⟩
  refine ⟨_, rfl, (by repeat (first | assumption | apply Blk.keep (by assumption) (by first | exact Option.some_ne_none _ | assumption | (intro e; injection e with e; (try dsimp only at e); omega)) | apply BS.keep (by assumption) (by first | exact Option.some_ne_none _ | assumption | (intro e; injection e with e; (try dsimp only at e); omega)) | apply OS.keep (by assumption) (by first | (left; rfl) | (right; exact Option.some_ne_none _) | (right; intro e; cases e; omega)) | apply Errs.keep (by assumption) (by intro k e; first | (cases e; done) | (cases e; omega)) | apply Blk.drew | apply BS.drew | apply OS.drew | apply Errs.drew)), ?_⟩
  intro w_7 s7 g7
  refine ⟨_, rfl, ?_⟩
  refine ⟨fun hx => (by cases hx), fun _ => ?_⟩
  refine ⟨_, _, _, Ce (b := b3) (i := 0) (by rfl) (by repeat (first | assumption | apply Blk.keep (by assumption) (by first | exact Option.some_ne_none _ | assumption | (intro e; injection e with e; (try dsimp only at e); omega)) | apply BS.keep (by assumption) (by first | exact Option.some_ne_none _ | assumption | (intro e; injection e with e; (try dsimp only at e); omega)) | apply OS.keep (by assumption) (by first | (left; rfl) | (right; exact Option.some_ne_none _) | (right; intro e; cases e; omega)) | apply Errs.keep (by assumption) (by intro k e; first | (cases e; done) | (cases e; omega)) | apply Blk.drew | apply BS.drew | apply OS.drew | apply Errs.drew)) (by rfl), ?_⟩
  refine St (b := b3) (i := 0) (by rfl) (by repeat (first | assumption | apply Blk.keep (by assumption) (by first | exact Option.some_ne_none _ | assumption | (intro e; injection e with e; (try dsimp only at e); omega)) | apply BS.keep (by assumption) (by first | exact Option.some_ne_none _ | assumption | (intro e; injection e with e; (try dsimp only at e); omega)) | apply OS.keep (by assumption) (by first | (left; rfl) | (right; exact Option.some_ne_none _) | (right; intro e; cases e; omega)) | apply Errs.keep (by assumption) (by intro k e; first | (cases e; done) | (cases e; omega)) | apply Blk.drew | apply BS.drew | apply OS.drew | apply Errs.drew)) (by kernel_rfl) (by rfl) (by first | rfl | (simp only [List.all_cons, List.all_nil, Value.cells]; simp [*])) ?_
  intro w_10 es4 gr4 B4
  refine ⟨_, _, _, Ce (b := b3) (i := 0) (by rfl) (by repeat (first | assumption | apply Blk.keep (by assumption) (by first | exact Option.some_ne_none _ | assumption | (intro e; injection e with e; (try dsimp only at e); omega)) | apply BS.keep (by assumption) (by first | exact Option.some_ne_none _ | assumption | (intro e; injection e with e; (try dsimp only at e); omega)) | apply OS.keep (by assumption) (by first | (left; rfl) | (right; exact Option.some_ne_none _) | (right; intro e; cases e; omega)) | apply Errs.keep (by assumption) (by intro k e; first | (cases e; done) | (cases e; omega)) | apply Blk.drew | apply BS.drew | apply OS.drew | apply Errs.drew)) (by rfl), ?_⟩
  refine ⟨_, _, r6, rfl, (by repeat (first | exact grew_refl _ _ | assumption | refine grew_step (by assumption) (by intro j e; first | (cases e; done) | (cases e; left; omega) | (cases e; right; rfl)) ?_ | refine grew_some ?_)), by omega, ?_⟩
  have hr1 : r6 = none ∨ r6 ≠ some b5 := .inr (fun e => by have := ho6.lt e; omega)
  have hr2 : r6 = none ∨ r6 ≠ some b3 := .inr (fun e => by have := ho6.lt e; omega)
  exact ((ho6.keep g7 hr1).keep gr4 hr2).mono (by omega)

/-- laws.works. -/
def P13 (w : World) (en : Ending) (w' : World) : Prop := en = .returned (.bool true) ∧ w.grownBy w' none ∧ w.heap.size ≤ w'.heap.size
theorem c13 {w : World} (hE : Errs w) : Calls pg 13 #[] w (P13 w) := by
  apply of13
  have hlt := hE.lt
  refine call_i (c39_9 (cs := pliCells 1 2) (s := 1) (m := 2) (by omega) (by omega) hE rfl rfl rfl rfl) (by rfl) ?_
  rintro _ w_3 ⟨b3, rfl, g3, s3, hb3, B3⟩
  refine ⟨_, _, _, _, rfl, ?_⟩
  refine gNew_i ?_
  intro b4 w_5 eb1 es1 gr1 B1
  have hB : BS w_5 b4 (some ⟨b4, 0, none⟩) 12 12 [129, 206, 0, 2, 0, 0, 0, 1, 0, 0, 0, 2] := OS.bs (OS.of_blk (base := b4) (n := 12) B1 (by rfl) (Nat.le_refl _) (by unfold maxLen; omega)) (by decide)
  refine cv_same (e := 5) (by kernel_rfl) hB (by omega) ?_
  intro w_6 s6 g6 hB6
  refine call_i (c12_p hB6 (by repeat (first | assumption | apply Blk.keep (by assumption) (by first | exact Option.some_ne_none _ | assumption | (intro e; injection e with e; (try dsimp only at e); omega)) | apply BS.keep (by assumption) (by first | exact Option.some_ne_none _ | assumption | (intro e; injection e with e; (try dsimp only at e); omega)) | apply OS.keep (by assumption) (by first | (left; rfl) | (right; exact Option.some_ne_none _) | (right; intro e; cases e; omega)) | apply Errs.keep (by assumption) (by intro k e; first | (cases e; done) | (cases e; omega)) | apply Blk.drew | apply BS.drew | apply OS.drew | apply Errs.drew))) (by rfl) ?_
  rintro _ w_10 ⟨a, c, r, rfl, g10, s10, ho⟩
  refine ⟨_, _, _, _, rfl, ?_⟩
  have fin : w.grownBy w_10 none := (by repeat (first | exact grew_refl _ _ | assumption | refine grew_step (by assumption) (by intro j e; first | (cases e; done) | (cases e; left; omega) | (cases e; right; rfl)) ?_ | refine grew_some ?_))
  refine ⟨fun _ => ?_, fun hx => (by cases hx)⟩
  refine ⟨fun _ => ?_, fun hx => absurd hx (by decide)⟩
  refine ⟨fun _ => ?_, fun hx => (by cases hx)⟩
  refine ⟨fun _ => ?_, fun hx => absurd hx (by decide)⟩
  obtain ⟨b, rfl, rfl, _, _, _, _, hcell⟩ := ho.at_ (by omega)
  refine ⟨_, rfl, (by omega), (by omega), ?_⟩
  refine ⟨_, by rw [add_flat2]; exact hcell 0 _ rfl, ?_⟩
  refine ⟨fun _ => ?_, fun hx => absurd hx (by decide)⟩
  refine ⟨_, rfl, (by omega), (by omega), ?_⟩
  refine ⟨_, by rw [add_flat2]; exact hcell 2 _ rfl, ?_⟩
  exact ⟨rfl, fin, by omega⟩
end Go.Proofs.YtkdialecadjedaaGreatDoor
