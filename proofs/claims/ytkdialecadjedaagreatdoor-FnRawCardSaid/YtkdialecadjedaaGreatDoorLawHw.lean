/- The two laws on headers, as calls (no statement of the seat is proved here; condition: the listed errors are not nil; the slice reads bytes). -/
import Derived.Test.YtkdialecadjedaaGreatDoorWkE
namespace Go.Proofs.YtkdialecadjedaaGreatDoor
set_option linter.unusedVariables false
set_option linter.unusedSimpArgs false
set_option linter.unusedSectionVars false
open Go

theorem u22 : pg.underlying 22 = some (.slice 5) := by kernel_rfl
theorem u5 : pg.underlying 5 = some (.int .u8) := by kernel_rfl
theorem u9 : pg.underlying 9 = some .string := by kernel_rfl
def PTrue (w : World) (en : Ending) (w' : World) : Prop := en = .returned (.bool true) ∧ w.grownBy w' none ∧ w.heap.size ≤ w'.heap.size
theorem c6 {w : World} {p : Bool} {c t n : Int} (hc : 0 ≤ c ∧ c < 256) (ht : 0 ≤ t ∧ t < 256) (hn : 0 ≤ n ∧ n < 65536) (hE : Errs w) : Calls pg 6 #[.agg #[.bool p, .int .u8 c, .int .u8 t, .int .u16 n]] w (PTrue w) := by
  apply of6
  have hlt := hE.lt
  refine gNew_i ?_
  intro b1 w_2 eb1 es1 gr1 B1
  refine ⟨_, _, _, _, Ld (by first | exact add_flat _ _ _ | exact add_flat2 _ _ _ _ | rfl) (by repeat (first | assumption | apply Blk.keep (by assumption) (by first | exact Option.some_ne_none _ | assumption | (intro e; injection e with e; (try dsimp only at e); omega)) | apply BS.keep (by assumption) (by first | exact Option.some_ne_none _ | assumption | (intro e; injection e with e; (try dsimp only at e); omega)) | apply OS.keep (by assumption) (by first | (left; rfl) | (right; exact Option.some_ne_none _) | (right; intro e; cases e; omega)) | apply Errs.keep (by assumption) (by intro k e; first | (cases e; done) | (cases e; omega)) | apply Blk.drew | apply BS.drew | apply OS.drew | apply Errs.drew)) (by kernel_rfl) (by rfl) (by rfl), ?_⟩
  refine call_i (c21 (p := p) (c := c) (t := t) (n := n) hc.1 hn) (by rfl) ?_
  rintro _ w_9 ⟨g9, s9, h9⟩
  rcases h9 with ⟨hcl, a, k, b, rfl, hb, ho⟩ | ⟨hcl, rfl⟩
  · refine ⟨_, _, _, _, rfl, ?_⟩
    refine ⟨_, _, _, _, Ld (by first | exact add_flat _ _ _ | exact add_flat2 _ _ _ _ | rfl) (by repeat (first | assumption | apply Blk.keep (by assumption) (by first | exact Option.some_ne_none _ | assumption | (intro e; injection e with e; (try dsimp only at e); omega)) | apply BS.keep (by assumption) (by first | exact Option.some_ne_none _ | assumption | (intro e; injection e with e; (try dsimp only at e); omega)) | apply OS.keep (by assumption) (by first | (left; rfl) | (right; exact Option.some_ne_none _) | (right; intro e; cases e; omega)) | apply Errs.keep (by assumption) (by intro k e; first | (cases e; done) | (cases e; omega)) | apply Blk.drew | apply BS.drew | apply OS.drew | apply Errs.drew)) (by kernel_rfl) (by rfl) (by rfl), ?_⟩
    refine call_i (c22 (p := p) (c := c) (t := t) (n := n) hc.1 hn (by repeat (first | assumption | apply Blk.keep (by assumption) (by first | exact Option.some_ne_none _ | assumption | (intro e; injection e with e; (try dsimp only at e); omega)) | apply BS.keep (by assumption) (by first | exact Option.some_ne_none _ | assumption | (intro e; injection e with e; (try dsimp only at e); omega)) | apply OS.keep (by assumption) (by first | (left; rfl) | (right; exact Option.some_ne_none _) | (right; intro e; cases e; omega)) | apply Errs.keep (by assumption) (by intro k e; first | (cases e; done) | (cases e; omega)) | apply Blk.drew | apply BS.drew | apply OS.drew | apply Errs.drew))) (by rfl) ?_
    rintro _ w_16 ⟨g16, s16, h16⟩
    rcases h16 with ⟨_, b', rfl, hb', B16⟩ | ⟨hcl', _⟩
    · refine ⟨_, _, _, _, rfl, ?_⟩
      refine ⟨fun _ => ?_, fun hx => absurd hx (by decide)⟩
      have hby := hdrBytes_byte (p := p) ⟨hc.1, hcl⟩ ht hn
      have hB1 : BS w_16 b' (some ⟨b', 0, none⟩) 4 4 (hdrBytes p c t n) := OS.bs (OS.of_blk (base := b') (n := 4) B16 (by rfl) (Nat.le_refl _) (by unfold maxLen; omega)) hby
      have hB2 : BS w_16 b a 4 k (hdrBytes p c t n) := (OS.bs ho hby).keep g16 (by simp)
      refine ⟨_, _, cv_bs u22 u5 u9 hB1, _, _, cv_bs u22 u5 u9 hB2, ?_⟩
      refine ⟨fun _ => ?_, fun hx => by simp at hx⟩
      refine call_i (c13 (by repeat (first | assumption | apply Blk.keep (by assumption) (by first | exact Option.some_ne_none _ | assumption | (intro e; injection e with e; (try dsimp only at e); omega)) | apply BS.keep (by assumption) (by first | exact Option.some_ne_none _ | assumption | (intro e; injection e with e; (try dsimp only at e); omega)) | apply OS.keep (by assumption) (by first | (left; rfl) | (right; exact Option.some_ne_none _) | (right; intro e; cases e; omega)) | apply Errs.keep (by assumption) (by intro k e; first | (cases e; done) | (cases e; omega)) | apply Blk.drew | apply BS.drew | apply OS.drew | apply Errs.drew))) (by rfl) ?_
      rintro _ w_22 ⟨rfl, g22, s22⟩
      exact ⟨_, rfl, rfl, (by repeat (first | exact grew_refl _ _ | assumption | refine grew_step (by assumption) (by intro j e; first | (cases e; done) | (cases e; left; omega) | (cases e; right; rfl)) ?_ | refine grew_some ?_)), by omega⟩
    · omega
  · refine ⟨_, _, _, _, rfl, ?_⟩
    refine ⟨_, _, _, _, Ld (by first | exact add_flat _ _ _ | exact add_flat2 _ _ _ _ | rfl) (by repeat (first | assumption | apply Blk.keep (by assumption) (by first | exact Option.some_ne_none _ | assumption | (intro e; injection e with e; (try dsimp only at e); omega)) | apply BS.keep (by assumption) (by first | exact Option.some_ne_none _ | assumption | (intro e; injection e with e; (try dsimp only at e); omega)) | apply OS.keep (by assumption) (by first | (left; rfl) | (right; exact Option.some_ne_none _) | (right; intro e; cases e; omega)) | apply Errs.keep (by assumption) (by intro k e; first | (cases e; done) | (cases e; omega)) | apply Blk.drew | apply BS.drew | apply OS.drew | apply Errs.drew)) (by kernel_rfl) (by rfl) (by rfl), ?_⟩
    refine call_i (c22 (p := p) (c := c) (t := t) (n := n) hc.1 hn (by repeat (first | assumption | apply Blk.keep (by assumption) (by first | exact Option.some_ne_none _ | assumption | (intro e; injection e with e; (try dsimp only at e); omega)) | apply BS.keep (by assumption) (by first | exact Option.some_ne_none _ | assumption | (intro e; injection e with e; (try dsimp only at e); omega)) | apply OS.keep (by assumption) (by first | (left; rfl) | (right; exact Option.some_ne_none _) | (right; intro e; cases e; omega)) | apply Errs.keep (by assumption) (by intro k e; first | (cases e; done) | (cases e; omega)) | apply Blk.drew | apply BS.drew | apply OS.drew | apply Errs.drew))) (by rfl) ?_
    rintro _ w_16 ⟨g16, s16, h16⟩
    rcases h16 with ⟨hcl', _⟩ | ⟨_, rfl⟩
    · omega
    · refine ⟨_, _, _, _, rfl, ?_⟩
      refine ⟨fun _ => ?_, fun hx => absurd hx (by decide)⟩
      refine ⟨_, _, run_convert_bytes_nil _ 22 5 u22 u5 0 0 9 u9, _, _, run_convert_bytes_nil _ 22 5 u22 u5 0 0 9 u9, ?_⟩
      refine ⟨fun _ => ?_, fun hx => by simp at hx⟩
      refine call_i (c13 (by repeat (first | assumption | apply Blk.keep (by assumption) (by first | exact Option.some_ne_none _ | assumption | (intro e; injection e with e; (try dsimp only at e); omega)) | apply BS.keep (by assumption) (by first | exact Option.some_ne_none _ | assumption | (intro e; injection e with e; (try dsimp only at e); omega)) | apply OS.keep (by assumption) (by first | (left; rfl) | (right; exact Option.some_ne_none _) | (right; intro e; cases e; omega)) | apply Errs.keep (by assumption) (by intro k e; first | (cases e; done) | (cases e; omega)) | apply Blk.drew | apply BS.drew | apply OS.drew | apply Errs.drew))) (by rfl) ?_
      rintro _ w_22 ⟨rfl, g22, s22⟩
      exact ⟨_, rfl, rfl, (by repeat (first | exact grew_refl _ _ | assumption | refine grew_step (by assumption) (by intro j e; first | (cases e; done) | (cases e; left; omega) | (cases e; right; rfl)) ?_ | refine grew_some ?_)), by omega⟩
end Go.Proofs.YtkdialecadjedaaGreatDoor
