/- A picture loss that is built and written through the thin package (no statement of the seat is proved here; conditions: none). -/
import Derived.Test.YtkdialecadjedaaGreatDoorSwB
import Derived.Test.YtkdialecadjedaaGreatDoorWkA
namespace Go.Proofs.YtkdialecadjedaaGreatDoor
set_option linter.unusedVariables false
set_option linter.unusedSimpArgs false
set_option linter.unusedSectionVars false
open Go

/-- impl.built, a picture loss. -/
def P65_9 (w : World) (s m : Int) (en : Ending) (w' : World) : Prop := ∃ b, en = .returned (.iface 222 (.pointer (some ⟨b, 0, none⟩))) ∧ w.grownBy w' none ∧ w.heap.size ≤ w'.heap.size ∧ w.heap.size ≤ b ∧ Blk w' b 223 [.int .u32 s, .int .u32 m]
theorem c65_9 {w : World} {cs : List Value} {s m : Int} (h0 : cs[0]? = some (.int .i64 9)) (h1 : cs[1]? = some (.int .u32 s)) (h2 : cs[2]? = some (.int .u32 m)) : Calls pg 65 #[.agg cs.toArray] w (P65_9 w s m) := by
  apply of65
  refine gNew_i ?_
  intro b1 w_2 eb1 es1 gr1 B1
  have B1' : Blk w_2 b1 75 cs := B1
  refine ⟨_, Ce (add_flat _ _ _) B1' h0, ?_⟩
  refine ⟨fun h => absurd h (by decide), fun _ => ?_⟩
  refine ⟨fun h => absurd h (by decide), fun _ => ?_⟩
  refine ⟨fun h => absurd h (by decide), fun _ => ?_⟩
  refine ⟨fun h => absurd h (by decide), fun _ => ?_⟩
  refine ⟨fun h => absurd h (by decide), fun _ => ?_⟩
  refine ⟨fun h => absurd h (by decide), fun _ => ?_⟩
  refine ⟨fun h => absurd h (by decide), fun _ => ?_⟩
  refine ⟨fun h => absurd h (by decide), fun _ => ?_⟩
  refine ⟨fun _ => ?_, fun h => absurd h (by decide)⟩
  refine ⟨_, Ce (add_flat _ _ _) B1' h1, ?_⟩
  refine ⟨_, Ce (add_flat _ _ _) B1' h2, ?_⟩
  refine gNew_i ?_
  intro b2 w_3 eb2 es2 gr2 B2
  exact ⟨b2, rfl, (by repeat (first | exact grew_refl _ _ | assumption | refine grew_step (by assumption) (by intro j e; first | (cases e; done) | (cases e; left; omega) | (cases e; right; rfl)) ?_ | refine grew_some ?_)), by omega, by omega, B2⟩

/-- The closure of impl.MarshalOne, a picture loss. -/
def P80_9 (w : World) (b1 : Nat) (s m : Int) (en : Ending) (w' : World) : Prop := ∃ b, en = .returned (.bool true) ∧ w.grownBy w' (some b1) ∧ w.heap.size ≤ w'.heap.size ∧ w.heap.size ≤ b ∧ Blk w' b1 22 [.slice (some ⟨b, 0, none⟩) 12 12] ∧ Blk w' b 5 ((pliBytes s m).map (Value.int .u8))
theorem c80_9 {w : World} {b0 b1 : Nat} {cs : List Value} {s m : Int} (hs : 0 ≤ s ∧ s < 4294967296) (hm : 0 ≤ m ∧ m < 4294967296) (hE : Errs w) (hl : cs.length = 30) (h0 : cs[0]? = some (.int .i64 9)) (h1 : cs[1]? = some (.int .u32 s)) (h2 : cs[2]? = some (.int .u32 m))
    (B0 : Blk w b0 75 cs) (B1 : Blk w b1 22 [.slice none 0 0]) (hb1 : 2 < b1) : Calls pg 80 #[.pointer (some ⟨b0, 0, none⟩), .pointer (some ⟨b1, 0, none⟩)] w (P80_9 w b1 s m) := by
  apply of80
  have hlt1 := B1.lt
  refine ⟨_, Ld0 (b := b0) rfl B0 (by rw [hl]; kernel_rfl), ?_⟩
  refine call_i (c65_9 h0 h1 h2) rfl ?_
  rintro _ w_3 ⟨b, rfl, g3, s3, hb3, B3⟩
  refine ⟨_, rfl, ?_⟩
  refine inv_val (e := 223) (f := 201) (v := .agg #[.int .u32 s, .int .u32 m]) (by kernel_rfl) (by kernel_rfl) (by kernel_rfl) (Ld0 (b := b) rfl B3 (by kernel_rfl)) ?_
  refine call_i (c201 hs hm (by repeat (first | assumption | apply Blk.keep (by assumption) (by first | exact Option.some_ne_none _ | assumption | (intro e; injection e with e; (try dsimp only at e); omega)) | apply BS.keep (by assumption) (by first | exact Option.some_ne_none _ | assumption | (intro e; injection e with e; (try dsimp only at e); omega)) | apply OS.keep (by assumption) (by first | (left; rfl) | (right; exact Option.some_ne_none _) | (right; intro e; cases e; omega)) | apply Errs.keep (by assumption) (by intro k e; first | (cases e; done) | (cases e; omega)) | apply Blk.drew | apply BS.drew | apply OS.drew | apply Errs.drew))) (by rfl) ?_
  rintro _ w_6 ⟨b', rfl, g6, s6, hb6, B6⟩
  refine ⟨_, _, _, _, rfl, ?_⟩
  refine St (b := b1) (i := 0) (by rfl) (by repeat (first | assumption | apply Blk.keep (by assumption) (by first | exact Option.some_ne_none _ | assumption | (intro e; injection e with e; (try dsimp only at e); omega)) | apply BS.keep (by assumption) (by first | exact Option.some_ne_none _ | assumption | (intro e; injection e with e; (try dsimp only at e); omega)) | apply OS.keep (by assumption) (by first | (left; rfl) | (right; exact Option.some_ne_none _) | (right; intro e; cases e; omega)) | apply Errs.keep (by assumption) (by intro k e; first | (cases e; done) | (cases e; omega)) | apply Blk.drew | apply BS.drew | apply OS.drew | apply Errs.drew)) (by kernel_rfl) (by rfl) (by first | rfl | (simp only [List.all_cons, List.all_nil, Value.cells]; simp [*])) ?_
  intro w_7 es1 gr1 B7
  exact ⟨trivial, b', rfl, (by repeat (first | exact grew_refl _ _ | assumption | refine grew_step (by assumption) (by intro j e; first | (cases e; done) | (cases e; left; omega) | (cases e; right; rfl)) ?_ | refine grew_some ?_)), by omega, by omega, B7, (by repeat (first | assumption | apply Blk.keep (by assumption) (by first | exact Option.some_ne_none _ | assumption | (intro e; injection e with e; (try dsimp only at e); omega)) | apply BS.keep (by assumption) (by first | exact Option.some_ne_none _ | assumption | (intro e; injection e with e; (try dsimp only at e); omega)) | apply OS.keep (by assumption) (by first | (left; rfl) | (right; exact Option.some_ne_none _) | (right; intro e; cases e; omega)) | apply Errs.keep (by assumption) (by intro k e; first | (cases e; done) | (cases e; omega)) | apply Blk.drew | apply BS.drew | apply OS.drew | apply Errs.drew))⟩

/-- impl.MarshalOne, a picture loss. -/
def P39_9 (w : World) (s m : Int) (en : Ending) (w' : World) : Prop := ∃ b, en = .returned (.tuple #[.slice (some ⟨b, 0, none⟩) 12 12, .bool true]) ∧ w.grownBy w' none ∧ w.heap.size ≤ w'.heap.size ∧ w.heap.size ≤ b ∧ Blk w' b 5 ((pliBytes s m).map (Value.int .u8))
theorem c39_9 {w : World} {cs : List Value} {s m : Int} (hs : 0 ≤ s ∧ s < 4294967296) (hm : 0 ≤ m ∧ m < 4294967296) (hE : Errs w) (hl : cs.length = 30) (h0 : cs[0]? = some (.int .i64 9)) (h1 : cs[1]? = some (.int .u32 s)) (h2 : cs[2]? = some (.int .u32 m)) :
    Calls pg 39 #[.agg cs.toArray] w (P39_9 w s m) := by
  apply of39
  have hlt := hE.lt
  refine gNew_i ?_
  intro b1 w_2 eb1 es1 gr1 B1
  have B1' : Blk w_2 b1 75 cs := B1
  refine gNew_i ?_
  intro b3 w_4 eb2 es2 gr2 B2
  refine try_i (by kernel_rfl) ?_
  intro b5 w_5 eb5 es5 gr5 B5
  refine (c80_9 hs hm (by repeat (first | assumption | apply Blk.keep (by assumption) (by first | exact Option.some_ne_none _ | assumption | (intro e; injection e with e; (try dsimp only at e); omega)) | apply BS.keep (by assumption) (by first | exact Option.some_ne_none _ | assumption | (intro e; injection e with e; (try dsimp only at e); omega)) | apply OS.keep (by assumption) (by first | (left; rfl) | (right; exact Option.some_ne_none _) | (right; intro e; cases e; omega)) | apply Errs.keep (by assumption) (by intro k e; first | (cases e; done) | (cases e; omega)) | apply Blk.drew | apply BS.drew | apply OS.drew | apply Errs.drew)) hl h0 h1 h2 (b0 := b1) (b1 := b3) (by repeat (first | assumption | apply Blk.keep (by assumption) (by first | exact Option.some_ne_none _ | assumption | (intro e; injection e with e; (try dsimp only at e); omega)) | apply BS.keep (by assumption) (by first | exact Option.some_ne_none _ | assumption | (intro e; injection e with e; (try dsimp only at e); omega)) | apply OS.keep (by assumption) (by first | (left; rfl) | (right; exact Option.some_ne_none _) | (right; intro e; cases e; omega)) | apply Errs.keep (by assumption) (by intro k e; first | (cases e; done) | (cases e; omega)) | apply Blk.drew | apply BS.drew | apply OS.drew | apply Errs.drew)) (by repeat (first | assumption | apply Blk.keep (by assumption) (by first | exact Option.some_ne_none _ | assumption | (intro e; injection e with e; (try dsimp only at e); omega)) | apply BS.keep (by assumption) (by first | exact Option.some_ne_none _ | assumption | (intro e; injection e with e; (try dsimp only at e); omega)) | apply OS.keep (by assumption) (by first | (left; rfl) | (right; exact Option.some_ne_none _) | (right; intro e; cases e; omega)) | apply Errs.keep (by assumption) (by intro k e; first | (cases e; done) | (cases e; omega)) | apply Blk.drew | apply BS.drew | apply OS.drew | apply Errs.drew)) (by omega)).mono ?_
  rintro _ w_6 ⟨b, rfl, g6, s6, hb6, B6, B6'⟩
  refine ⟨_, rfl, (by repeat (first | assumption | apply Blk.keep (by assumption) (by first | exact Option.some_ne_none _ | assumption | (intro e; injection e with e; (try dsimp only at e); omega)) | apply BS.keep (by assumption) (by first | exact Option.some_ne_none _ | assumption | (intro e; injection e with e; (try dsimp only at e); omega)) | apply OS.keep (by assumption) (by first | (left; rfl) | (right; exact Option.some_ne_none _) | (right; intro e; cases e; omega)) | apply Errs.keep (by assumption) (by intro k e; first | (cases e; done) | (cases e; omega)) | apply Blk.drew | apply BS.drew | apply OS.drew | apply Errs.drew)), ?_⟩
  intro w_7 s7 g7
  refine ⟨_, rfl, ?_⟩
  refine ⟨fun hx => (by cases hx), fun _ => ?_⟩
  refine ⟨_, _, _, Ce (b := b3) (i := 0) (by rfl) (by repeat (first | assumption | apply Blk.keep (by assumption) (by first | exact Option.some_ne_none _ | assumption | (intro e; injection e with e; (try dsimp only at e); omega)) | apply BS.keep (by assumption) (by first | exact Option.some_ne_none _ | assumption | (intro e; injection e with e; (try dsimp only at e); omega)) | apply OS.keep (by assumption) (by first | (left; rfl) | (right; exact Option.some_ne_none _) | (right; intro e; cases e; omega)) | apply Errs.keep (by assumption) (by intro k e; first | (cases e; done) | (cases e; omega)) | apply Blk.drew | apply BS.drew | apply OS.drew | apply Errs.drew)) (by rfl), ?_⟩
  refine St (b := b3) (i := 0) (by rfl) (by repeat (first | assumption | apply Blk.keep (by assumption) (by first | exact Option.some_ne_none _ | assumption | (intro e; injection e with e; (try dsimp only at e); omega)) | apply BS.keep (by assumption) (by first | exact Option.some_ne_none _ | assumption | (intro e; injection e with e; (try dsimp only at e); omega)) | apply OS.keep (by assumption) (by first | (left; rfl) | (right; exact Option.some_ne_none _) | (right; intro e; cases e; omega)) | apply Errs.keep (by assumption) (by intro k e; first | (cases e; done) | (cases e; omega)) | apply Blk.drew | apply BS.drew | apply OS.drew | apply Errs.drew)) (by kernel_rfl) (by rfl) (by first | rfl | (simp only [List.all_cons, List.all_nil, Value.cells]; simp [*])) ?_
  intro w_10 es4 gr4 B4
  refine ⟨_, _, _, Ce (b := b3) (i := 0) (by rfl) (by repeat (first | assumption | apply Blk.keep (by assumption) (by first | exact Option.some_ne_none _ | assumption | (intro e; injection e with e; (try dsimp only at e); omega)) | apply BS.keep (by assumption) (by first | exact Option.some_ne_none _ | assumption | (intro e; injection e with e; (try dsimp only at e); omega)) | apply OS.keep (by assumption) (by first | (left; rfl) | (right; exact Option.some_ne_none _) | (right; intro e; cases e; omega)) | apply Errs.keep (by assumption) (by intro k e; first | (cases e; done) | (cases e; omega)) | apply Blk.drew | apply BS.drew | apply OS.drew | apply Errs.drew)) (by rfl), ?_⟩
  exact ⟨b, rfl, (by repeat (first | exact grew_refl _ _ | assumption | refine grew_step (by assumption) (by intro j e; first | (cases e; done) | (cases e; left; omega) | (cases e; right; rfl)) ?_ | refine grew_some ?_)), by omega, by omega, (by repeat (first | assumption | apply Blk.keep (by assumption) (by first | exact Option.some_ne_none _ | assumption | (intro e; injection e with e; (try dsimp only at e); omega)) | apply BS.keep (by assumption) (by first | exact Option.some_ne_none _ | assumption | (intro e; injection e with e; (try dsimp only at e); omega)) | apply OS.keep (by assumption) (by first | (left; rfl) | (right; exact Option.some_ne_none _) | (right; intro e; cases e; omega)) | apply Errs.keep (by assumption) (by intro k e; first | (cases e; done) | (cases e; omega)) | apply Blk.drew | apply BS.drew | apply OS.drew | apply Errs.drew))⟩
end Go.Proofs.YtkdialecadjedaaGreatDoor
