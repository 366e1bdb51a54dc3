/- A header that is read (no statement of the seat is proved here; conditions: the slice reads bytes). -/
import Derived.Test.YtkdialecadjedaaGreatDoorHdB
namespace Go.Proofs.YtkdialecadjedaaGreatDoor
set_option linter.unusedVariables false
set_option linter.unusedSimpArgs false
set_option linter.unusedSectionVars false
open Go

theorem byte_hdr {x : Int} (h : 0 ≤ x ∧ x < 256) : ishr .u8 x (6 : Int) = x / 64 ∧ iand .u8 (ishr .u8 x (6 : Int)) (3 : Int) = x / 64 ∧ (iand .u8 x (32 : Int) != (0 : Int)) = decide (x / 32 % 2 = 1) ∧
    decide (iand .u8 (ishr .u8 x (5 : Int)) (1 : Int) > (0 : Int)) = decide (x / 32 % 2 = 1) ∧ iand .u8 x (31 : Int) = x % 32 ∧ iand .u8 (ishr .u8 x (0 : Int)) (31 : Int) = x % 32 := by
  obtain ⟨n, rfl⟩ := Int.eq_ofNat_of_zero_le h.1
  have hn : n < 256 := by omega
  have : ∀ m : Fin 256, ishr .u8 (m.val : Int) (6 : Int) = (m.val : Int) / 64 ∧ iand .u8 (ishr .u8 (m.val : Int) (6 : Int)) (3 : Int) = (m.val : Int) / 64 ∧ (iand .u8 (m.val : Int) (32 : Int) != (0 : Int)) = decide ((m.val : Int) / 32 % 2 = 1) ∧
    decide (iand .u8 (ishr .u8 (m.val : Int) (5 : Int)) (1 : Int) > (0 : Int)) = decide ((m.val : Int) / 32 % 2 = 1) ∧ iand .u8 (m.val : Int) (31 : Int) = (m.val : Int) % 32 ∧ iand .u8 (ishr .u8 (m.val : Int) (0 : Int)) (31 : Int) = (m.val : Int) % 32 := by decide +kernel
  exact this ⟨n, hn⟩

/-- The header that bytes begin with. -/
def rdHdr : List Int → Option (Bool × Int × Int × Int)
  | x0 :: x1 :: x2 :: x3 :: _ => if x0 / 64 = 2 then some (decide (x0 / 32 % 2 = 1), x0 % 32, x1, x2 * 256 + x3) else none
  | _ => none
def hdrA (p : Bool) (c t n : Int) : Value := .agg #[.bool p, .int .u8 c, .int .u8 t, .int .u16 n]
def hdrV : Option (Bool × Int × Int × Int) → Value
  | some (p, c, t, n) => .tuple #[hdrA p c t n, .bool true]
  | none => .tuple #[hdrA false 0 0 0, .bool false]
theorem rdHdr_short {xs : List Int} (h : xs.length < 4) : rdHdr xs = none := by
  match xs with
  | [] => rfl
  | [_] => rfl
  | [_, _] => rfl
  | [_, _, _] => rfl
  | _ :: _ :: _ :: _ :: _ => simp only [List.length_cons] at h; omega
theorem four {xs : List Int} (h : 4 ≤ xs.length) : ∃ x0 x1 x2 x3 r, xs = x0 :: x1 :: x2 :: x3 :: r := by
  match xs with
  | [] => simp at h
  | [_] => simp at h
  | [_, _] => simp at h
  | [_, _, _] => simp at h
  | x0 :: x1 :: x2 :: x3 :: r => exact ⟨_, _, _, _, _, rfl⟩

/-- spec.ReadHeader. -/
def P23 (w : World) (xs : List Int) (en : Ending) (w' : World) : Prop := en = .returned (hdrV (rdHdr xs)) ∧ w.grownBy w' none ∧ w.heap.size ≤ w'.heap.size
theorem c23 {w : World} {b : Nat} {a : Option Addr} {l c : Nat} {xs : List Int} (h : BS w b a l c xs) : Calls pg 23 #[.slice a l c] w (P23 w xs) := by
  apply of23
  have hl := h.len
  have hlt := h.lt
  refine gNew_i ?_
  intro b1 w_2 eb1 es1 gr1 B1
  refine ⟨fun hd => ?_, fun hd => ?_⟩
  · have hd' : (l : Int) < 4 := by simpa using hd
    refine St (by first | exact add_flat _ _ _ | exact add_flat2 _ _ _ _ | rfl) (by repeat (first | assumption | apply Blk.keep (by assumption) (by first | exact Option.some_ne_none _ | assumption | (intro e; injection e with e; (try dsimp only at e); omega)) | apply BS.keep (by assumption) (by first | exact Option.some_ne_none _ | assumption | (intro e; injection e with e; (try dsimp only at e); omega)) | apply OS.keep (by assumption) (by first | (left; rfl) | (right; exact Option.some_ne_none _) | (right; intro e; cases e; omega)) | apply Errs.keep (by assumption) (by intro k e; first | (cases e; done) | (cases e; omega)) | apply Blk.drew | apply BS.drew | apply OS.drew | apply Errs.drew)) (by kernel_rfl) (by rfl) (by first | rfl | (simp only [List.all_cons, List.all_nil, Value.cells]; simp [*])) ?_
    intro w_3 es2 gr2 B2
    refine ⟨_, _, _, _, Ld (by first | exact add_flat _ _ _ | exact add_flat2 _ _ _ _ | rfl) (by repeat (first | assumption | apply Blk.keep (by assumption) (by first | exact Option.some_ne_none _ | assumption | (intro e; injection e with e; (try dsimp only at e); omega)) | apply BS.keep (by assumption) (by first | exact Option.some_ne_none _ | assumption | (intro e; injection e with e; (try dsimp only at e); omega)) | apply OS.keep (by assumption) (by first | (left; rfl) | (right; exact Option.some_ne_none _) | (right; intro e; cases e; omega)) | apply Errs.keep (by assumption) (by intro k e; first | (cases e; done) | (cases e; omega)) | apply Blk.drew | apply BS.drew | apply OS.drew | apply Errs.drew)) (by kernel_rfl) (by rfl) (by rfl), ?_⟩
    exact ⟨by rw [rdHdr_short (by omega)]; rfl, (by repeat (first | exact grew_refl _ _ | assumption | refine grew_step (by assumption) (by intro j e; first | (cases e; done) | (cases e; left; omega) | (cases e; right; rfl)) ?_ | refine grew_some ?_)), by omega⟩
  · have hd' : 4 ≤ (l : Int) := by simpa using hd
    obtain ⟨x0, x1, x2, x3, r, rfl⟩ := four (xs := xs) (by omega)
    have hx0 := h.byte x0 (by simp)
    have hb := byte_hdr hx0
    obtain ⟨o, rfl, _⟩ := h.at_ (by simp)
    refine ⟨_, rfl, (by omega), (by omega), ?_⟩
    refine ⟨_, Rb (by first | exact add_flat _ _ _ | exact (flat0 _ _)) (by repeat (first | assumption | apply Blk.keep (by assumption) (by first | exact Option.some_ne_none _ | assumption | (intro e; injection e with e; (try dsimp only at e); omega)) | apply BS.keep (by assumption) (by first | exact Option.some_ne_none _ | assumption | (intro e; injection e with e; (try dsimp only at e); omega)) | apply OS.keep (by assumption) (by first | (left; rfl) | (right; exact Option.some_ne_none _) | (right; intro e; cases e; omega)) | apply Errs.keep (by assumption) (by intro k e; first | (cases e; done) | (cases e; omega)) | apply Blk.drew | apply BS.drew | apply OS.drew | apply Errs.drew)) (by rfl), ?_⟩
    refine ⟨fun hv => ?_, fun hv => ?_⟩
    · have hv' : x0 / 64 ≠ 2 := by rw [hb.1] at hv; simpa using hv
      refine St (by first | exact add_flat _ _ _ | exact add_flat2 _ _ _ _ | rfl) (by repeat (first | assumption | apply Blk.keep (by assumption) (by first | exact Option.some_ne_none _ | assumption | (intro e; injection e with e; (try dsimp only at e); omega)) | apply BS.keep (by assumption) (by first | exact Option.some_ne_none _ | assumption | (intro e; injection e with e; (try dsimp only at e); omega)) | apply OS.keep (by assumption) (by first | (left; rfl) | (right; exact Option.some_ne_none _) | (right; intro e; cases e; omega)) | apply Errs.keep (by assumption) (by intro k e; first | (cases e; done) | (cases e; omega)) | apply Blk.drew | apply BS.drew | apply OS.drew | apply Errs.drew)) (by kernel_rfl) (by rfl) (by first | rfl | (simp only [List.all_cons, List.all_nil, Value.cells]; simp [*])) ?_
      intro w_10 es3 gr3 B3
      refine ⟨_, _, _, _, Ld (by first | exact add_flat _ _ _ | exact add_flat2 _ _ _ _ | rfl) (by repeat (first | assumption | apply Blk.keep (by assumption) (by first | exact Option.some_ne_none _ | assumption | (intro e; injection e with e; (try dsimp only at e); omega)) | apply BS.keep (by assumption) (by first | exact Option.some_ne_none _ | assumption | (intro e; injection e with e; (try dsimp only at e); omega)) | apply OS.keep (by assumption) (by first | (left; rfl) | (right; exact Option.some_ne_none _) | (right; intro e; cases e; omega)) | apply Errs.keep (by assumption) (by intro k e; first | (cases e; done) | (cases e; omega)) | apply Blk.drew | apply BS.drew | apply OS.drew | apply Errs.drew)) (by kernel_rfl) (by rfl) (by rfl), ?_⟩
      exact ⟨by simp only [rdHdr, if_neg hv']; rfl, (by repeat (first | exact grew_refl _ _ | assumption | refine grew_step (by assumption) (by intro j e; first | (cases e; done) | (cases e; left; omega) | (cases e; right; rfl)) ?_ | refine grew_some ?_)), by omega⟩
    · have hv' : x0 / 64 = 2 := by rw [hb.1] at hv; simpa using hv
      refine ⟨none, ?_⟩
      have gd1 := grew_drew w_2 none; have sd1 : w_2.drew.heap.size = w_2.heap.size := rfl; generalize w_2.drew = wd1 at gd1 sd1 ⊢
      have hB : BS wd1 b (some ⟨b, o, none⟩) l c (x0 :: x1 :: x2 :: x3 :: r) := (by repeat (first | assumption | apply Blk.keep (by assumption) (by first | exact Option.some_ne_none _ | assumption | (intro e; injection e with e; (try dsimp only at e); omega)) | apply BS.keep (by assumption) (by first | exact Option.some_ne_none _ | assumption | (intro e; injection e with e; (try dsimp only at e); omega)) | apply OS.keep (by assumption) (by first | (left; rfl) | (right; exact Option.some_ne_none _) | (right; intro e; cases e; omega)) | apply Errs.keep (by assumption) (by intro k e; first | (cases e; done) | (cases e; omega)) | apply Blk.drew | apply BS.drew | apply OS.drew | apply Errs.drew))
      have hblk := hB.blk
      refine ⟨_, rfl, (by omega), (by omega), ?_⟩
      refine ⟨Option.some_ne_none _, by rw [add_flat]; exact hblk, _, Rb (by first | exact add_flat _ _ _ | exact (flat0 _ _)) (by repeat (first | assumption | apply Blk.keep (by assumption) (by first | exact Option.some_ne_none _ | assumption | (intro e; injection e with e; (try dsimp only at e); omega)) | apply BS.keep (by assumption) (by first | exact Option.some_ne_none _ | assumption | (intro e; injection e with e; (try dsimp only at e); omega)) | apply OS.keep (by assumption) (by first | (left; rfl) | (right; exact Option.some_ne_none _) | (right; intro e; cases e; omega)) | apply Errs.keep (by assumption) (by intro k e; first | (cases e; done) | (cases e; omega)) | apply Blk.drew | apply BS.drew | apply OS.drew | apply Errs.drew)) (by rfl), ?_⟩
      refine ⟨_, rfl, (by omega), (by omega), ?_⟩
      refine ⟨Option.some_ne_none _, by rw [add_flat]; exact hblk, _, Rb (by first | exact add_flat _ _ _ | exact (flat0 _ _)) (by repeat (first | assumption | apply Blk.keep (by assumption) (by first | exact Option.some_ne_none _ | assumption | (intro e; injection e with e; (try dsimp only at e); omega)) | apply BS.keep (by assumption) (by first | exact Option.some_ne_none _ | assumption | (intro e; injection e with e; (try dsimp only at e); omega)) | apply OS.keep (by assumption) (by first | (left; rfl) | (right; exact Option.some_ne_none _) | (right; intro e; cases e; omega)) | apply Errs.keep (by assumption) (by intro k e; first | (cases e; done) | (cases e; omega)) | apply Blk.drew | apply BS.drew | apply OS.drew | apply Errs.drew)) (by rfl), ?_⟩
      refine ⟨_, rfl, (by omega), (by omega), ?_⟩
      refine ⟨Option.some_ne_none _, by rw [add_flat]; exact hblk, _, Rb (by first | exact add_flat _ _ _ | exact (flat0 _ _)) (by repeat (first | assumption | apply Blk.keep (by assumption) (by first | exact Option.some_ne_none _ | assumption | (intro e; injection e with e; (try dsimp only at e); omega)) | apply BS.keep (by assumption) (by first | exact Option.some_ne_none _ | assumption | (intro e; injection e with e; (try dsimp only at e); omega)) | apply OS.keep (by assumption) (by first | (left; rfl) | (right; exact Option.some_ne_none _) | (right; intro e; cases e; omega)) | apply Errs.keep (by assumption) (by intro k e; first | (cases e; done) | (cases e; omega)) | apply Blk.drew | apply BS.drew | apply OS.drew | apply Errs.drew)) (by rfl), ?_⟩
      refine ⟨by omega, by omega, ?_⟩
      have hcap := hB.and.2.1
      have hcut := hB.cut 2 l c (by omega) (Nat.le_refl _) (by omega) (Nat.le_refl _)
      have e2 : ((x0 :: x1 :: x2 :: x3 :: r).drop 2).take (l - 2) = x2 :: x3 :: r := by
        simp only [List.drop_succ_cons, List.drop_zero]
        exact List.take_of_length_le (by simp only [List.length_cons] at hl ⊢; omega)
      rw [e2] at hcut
      refine call_i (c53 hcut) (by rfl) ?_
      rintro _ w_23 ⟨rfl, g23⟩
      have s23 := g23.size
      refine ⟨_, rfl, g23, ?_⟩
      refine St (by first | exact add_flat _ _ _ | exact add_flat2 _ _ _ _ | rfl) (by repeat (first | assumption | apply Blk.keep (by assumption) (by first | exact Option.some_ne_none _ | assumption | (intro e; injection e with e; (try dsimp only at e); omega)) | apply BS.keep (by assumption) (by first | exact Option.some_ne_none _ | assumption | (intro e; injection e with e; (try dsimp only at e); omega)) | apply OS.keep (by assumption) (by first | (left; rfl) | (right; exact Option.some_ne_none _) | (right; intro e; cases e; omega)) | apply Errs.keep (by assumption) (by intro k e; first | (cases e; done) | (cases e; omega)) | apply Blk.drew | apply BS.drew | apply OS.drew | apply Errs.drew)) (by kernel_rfl) (by rfl) (by first | rfl | (simp only [List.all_cons, List.all_nil, Value.cells]; simp [*])) ?_
      intro w_24 es4 gr4 B4
      refine ⟨_, _, _, _, Ld (by first | exact add_flat _ _ _ | exact add_flat2 _ _ _ _ | rfl) (by repeat (first | assumption | apply Blk.keep (by assumption) (by first | exact Option.some_ne_none _ | assumption | (intro e; injection e with e; (try dsimp only at e); omega)) | apply BS.keep (by assumption) (by first | exact Option.some_ne_none _ | assumption | (intro e; injection e with e; (try dsimp only at e); omega)) | apply OS.keep (by assumption) (by first | (left; rfl) | (right; exact Option.some_ne_none _) | (right; intro e; cases e; omega)) | apply Errs.keep (by assumption) (by intro k e; first | (cases e; done) | (cases e; omega)) | apply Blk.drew | apply BS.drew | apply OS.drew | apply Errs.drew)) (by kernel_rfl) (by rfl) (by rfl), ?_⟩
      refine ⟨?_, (by repeat (first | exact grew_refl _ _ | assumption | refine grew_step (by assumption) (by intro j e; first | (cases e; done) | (cases e; left; omega) | (cases e; right; rfl)) ?_ | refine grew_some ?_)), by omega⟩
      rw [hb.2.2.1, hb.2.2.2.2.1]
      simp only [rdHdr, if_pos hv']
      rfl

/-- Header.Unmarshal. -/
def P55 (w : World) (bp : Nat) (xs : List Int) (en : Ending) (w' : World) : Prop := w.grownBy w' (some bp) ∧ w.heap.size ≤ w'.heap.size ∧
  ((∃ p c t n, rdHdr xs = some (p, c, t, n) ∧ en = .returned .nilIface ∧ Blk w' bp 109 [.bool p, .int .u8 c, .int .u8 t, .int .u16 n]) ∨ (rdHdr xs = none ∧ (∃ y z, en = .returned (.iface y z)) ∧ w' = w))
theorem c55 {w : World} {b bp : Nat} {a : Option Addr} {l c : Nat} {xs : List Int} {v0 v1 v2 v3 : Value} (h : BS w b a l c xs) (hE : Errs w) (hP : Blk w bp 109 [v0, v1, v2, v3]) (hne : b ≠ bp) :
    Calls pg 55 #[.pointer (some ⟨bp, 0, none⟩), .slice a l c] w (P55 w bp xs) := by
  apply of55
  have hl := h.len
  refine ⟨fun hd => ?_, fun hd => ?_⟩
  · have hd' : (l : Int) < 4 := by simpa using hd
    obtain ⟨y, z, he⟩ := hE.e1
    exact ⟨_, he, grew_refl _ _, Nat.le_refl _, .inr ⟨rdHdr_short (by omega), ⟨y, z, rfl⟩, rfl⟩⟩
  · have hd' : 4 ≤ (l : Int) := by simpa using hd
    obtain ⟨x0, x1, x2, x3, r, rfl⟩ := four (xs := xs) (by omega)
    have hx0 := h.byte x0 (by simp)
    have hb := byte_hdr hx0
    obtain ⟨o, rfl, _⟩ := h.at_ (by simp)
    refine ⟨_, rfl, (by omega), (by omega), ?_⟩
    refine ⟨_, Rb (by first | exact add_flat _ _ _ | exact (flat0 _ _)) (by repeat (first | assumption | apply Blk.keep (by assumption) (by first | exact Option.some_ne_none _ | assumption | (intro e; injection e with e; (try dsimp only at e); omega)) | apply BS.keep (by assumption) (by first | exact Option.some_ne_none _ | assumption | (intro e; injection e with e; (try dsimp only at e); omega)) | apply OS.keep (by assumption) (by first | (left; rfl) | (right; exact Option.some_ne_none _) | (right; intro e; cases e; omega)) | apply Errs.keep (by assumption) (by intro k e; first | (cases e; done) | (cases e; omega)) | apply Blk.drew | apply BS.drew | apply OS.drew | apply Errs.drew)) (by rfl), ?_⟩
    refine ⟨fun hv => ?_, fun hv => ?_⟩
    · have hv' : x0 / 64 ≠ 2 := by rw [hb.2.1] at hv; simpa using hv
      obtain ⟨y, z, he⟩ := hE.e2
      exact ⟨_, he, grew_refl _ _, Nat.le_refl _, .inr ⟨by simp only [rdHdr, if_neg hv'], ⟨y, z, rfl⟩, rfl⟩⟩
    · have hv' : x0 / 64 = 2 := by rw [hb.2.1] at hv; simpa using hv
      refine ⟨_, rfl, (by omega), (by omega), ?_⟩
      refine ⟨_, Rb (by first | exact add_flat _ _ _ | exact (flat0 _ _)) (by repeat (first | assumption | apply Blk.keep (by assumption) (by first | exact Option.some_ne_none _ | assumption | (intro e; injection e with e; (try dsimp only at e); omega)) | apply BS.keep (by assumption) (by first | exact Option.some_ne_none _ | assumption | (intro e; injection e with e; (try dsimp only at e); omega)) | apply OS.keep (by assumption) (by first | (left; rfl) | (right; exact Option.some_ne_none _) | (right; intro e; cases e; omega)) | apply Errs.keep (by assumption) (by intro k e; first | (cases e; done) | (cases e; omega)) | apply Blk.drew | apply BS.drew | apply OS.drew | apply Errs.drew)) (by rfl), ?_⟩
      refine ⟨_, rfl, ?_⟩
      refine St (by first | exact add_flat _ _ _ | exact add_flat2 _ _ _ _ | rfl) (by repeat (first | assumption | apply Blk.keep (by assumption) (by first | exact Option.some_ne_none _ | assumption | (intro e; injection e with e; (try dsimp only at e); omega)) | apply BS.keep (by assumption) (by first | exact Option.some_ne_none _ | assumption | (intro e; injection e with e; (try dsimp only at e); omega)) | apply OS.keep (by assumption) (by first | (left; rfl) | (right; exact Option.some_ne_none _) | (right; intro e; cases e; omega)) | apply Errs.keep (by assumption) (by intro k e; first | (cases e; done) | (cases e; omega)) | apply Blk.drew | apply BS.drew | apply OS.drew | apply Errs.drew)) (by kernel_rfl) (by rfl) (by first | rfl | (simp only [List.all_cons, List.all_nil, Value.cells]; simp [*])) ?_
      intro w_8 es1 gr1 B1
      refine ⟨_, rfl, (by omega), (by omega), ?_⟩
      refine ⟨_, Rb (by first | exact add_flat _ _ _ | exact (flat0 _ _)) (by repeat (first | assumption | apply Blk.keep (by assumption) (by first | exact Option.some_ne_none _ | assumption | (intro e; injection e with e; (try dsimp only at e); omega)) | apply BS.keep (by assumption) (by first | exact Option.some_ne_none _ | assumption | (intro e; injection e with e; (try dsimp only at e); omega)) | apply OS.keep (by assumption) (by first | (left; rfl) | (right; exact Option.some_ne_none _) | (right; intro e; cases e; omega)) | apply Errs.keep (by assumption) (by intro k e; first | (cases e; done) | (cases e; omega)) | apply Blk.drew | apply BS.drew | apply OS.drew | apply Errs.drew)) (by rfl), ?_⟩
      refine ⟨_, rfl, ?_⟩
      refine St (by first | exact add_flat _ _ _ | exact add_flat2 _ _ _ _ | rfl) (by repeat (first | assumption | apply Blk.keep (by assumption) (by first | exact Option.some_ne_none _ | assumption | (intro e; injection e with e; (try dsimp only at e); omega)) | apply BS.keep (by assumption) (by first | exact Option.some_ne_none _ | assumption | (intro e; injection e with e; (try dsimp only at e); omega)) | apply OS.keep (by assumption) (by first | (left; rfl) | (right; exact Option.some_ne_none _) | (right; intro e; cases e; omega)) | apply Errs.keep (by assumption) (by intro k e; first | (cases e; done) | (cases e; omega)) | apply Blk.drew | apply BS.drew | apply OS.drew | apply Errs.drew)) (by kernel_rfl) (by rfl) (by first | rfl | (simp only [List.all_cons, List.all_nil, Value.cells]; simp [*])) ?_
      intro w_12 es2 gr2 B2
      refine ⟨_, rfl, (by omega), (by omega), ?_⟩
      refine ⟨_, Rb (by first | exact add_flat _ _ _ | exact (flat0 _ _)) (by repeat (first | assumption | apply Blk.keep (by assumption) (by first | exact Option.some_ne_none _ | assumption | (intro e; injection e with e; (try dsimp only at e); omega)) | apply BS.keep (by assumption) (by first | exact Option.some_ne_none _ | assumption | (intro e; injection e with e; (try dsimp only at e); omega)) | apply OS.keep (by assumption) (by first | (left; rfl) | (right; exact Option.some_ne_none _) | (right; intro e; cases e; omega)) | apply Errs.keep (by assumption) (by intro k e; first | (cases e; done) | (cases e; omega)) | apply Blk.drew | apply BS.drew | apply OS.drew | apply Errs.drew)) (by rfl), ?_⟩
      refine ⟨_, rfl, ?_⟩
      refine St (by first | exact add_flat _ _ _ | exact add_flat2 _ _ _ _ | rfl) (by repeat (first | assumption | apply Blk.keep (by assumption) (by first | exact Option.some_ne_none _ | assumption | (intro e; injection e with e; (try dsimp only at e); omega)) | apply BS.keep (by assumption) (by first | exact Option.some_ne_none _ | assumption | (intro e; injection e with e; (try dsimp only at e); omega)) | apply OS.keep (by assumption) (by first | (left; rfl) | (right; exact Option.some_ne_none _) | (right; intro e; cases e; omega)) | apply Errs.keep (by assumption) (by intro k e; first | (cases e; done) | (cases e; omega)) | apply Blk.drew | apply BS.drew | apply OS.drew | apply Errs.drew)) (by kernel_rfl) (by rfl) (by first | rfl | (simp only [List.all_cons, List.all_nil, Value.cells]; simp [*])) ?_
      intro w_16 es3 gr3 B3
      refine ⟨by omega, by omega, ?_⟩
      have hB : BS w_16 b (some ⟨b, o, none⟩) l c (x0 :: x1 :: x2 :: x3 :: r) := (by repeat (first | assumption | apply Blk.keep (by assumption) (by first | exact Option.some_ne_none _ | assumption | (intro e; injection e with e; (try dsimp only at e); omega)) | apply BS.keep (by assumption) (by first | exact Option.some_ne_none _ | assumption | (intro e; injection e with e; (try dsimp only at e); omega)) | apply OS.keep (by assumption) (by first | (left; rfl) | (right; exact Option.some_ne_none _) | (right; intro e; cases e; omega)) | apply Errs.keep (by assumption) (by intro k e; first | (cases e; done) | (cases e; omega)) | apply Blk.drew | apply BS.drew | apply OS.drew | apply Errs.drew))
      have hcap := hB.and.2.1
      have hcut := hB.cut 2 l c (by omega) (Nat.le_refl _) (by omega) (Nat.le_refl _)
      have e2 : ((x0 :: x1 :: x2 :: x3 :: r).drop 2).take (l - 2) = x2 :: x3 :: r := by
        simp only [List.drop_succ_cons, List.drop_zero]
        exact List.take_of_length_le (by simp only [List.length_cons] at hl ⊢; omega)
      rw [e2] at hcut
      refine call_i (c90 hcut) (by rfl) ?_
      rintro _ w_18 ⟨rfl, g18⟩
      have s18 := g18.size
      refine ⟨_, rfl, ?_⟩
      refine ⟨_, rfl, ?_⟩
      refine St (by first | exact add_flat _ _ _ | exact add_flat2 _ _ _ _ | rfl) (by repeat (first | assumption | apply Blk.keep (by assumption) (by first | exact Option.some_ne_none _ | assumption | (intro e; injection e with e; (try dsimp only at e); omega)) | apply BS.keep (by assumption) (by first | exact Option.some_ne_none _ | assumption | (intro e; injection e with e; (try dsimp only at e); omega)) | apply OS.keep (by assumption) (by first | (left; rfl) | (right; exact Option.some_ne_none _) | (right; intro e; cases e; omega)) | apply Errs.keep (by assumption) (by intro k e; first | (cases e; done) | (cases e; omega)) | apply Blk.drew | apply BS.drew | apply OS.drew | apply Errs.drew)) (by kernel_rfl) (by rfl) (by first | rfl | (simp only [List.all_cons, List.all_nil, Value.cells]; simp [*])) ?_
      intro w_20 es4 gr4 B4
      have g12 := World.grownBy.trans (World.grownBy.trans gr1 gr2) gr3
      refine ⟨World.grownBy.trans (World.grownBy.trans g12 (grew_none _ g18)) gr4, by omega, .inl ⟨_, _, _, _, (by simp only [rdHdr, if_pos hv']; rfl), rfl, ?_⟩⟩
      rw [hb.2.2.2.1, hb.2.2.2.2.2] at B4
      exact B4

/-- The closure of impl.ParseHeader. -/
def P54 (w : World) (b1 : Nat) (xs : List Int) (en : Ending) (w' : World) : Prop := w.grownBy w' (some b1) ∧ w.heap.size ≤ w'.heap.size ∧
  ((∃ p c t n, rdHdr xs = some (p, c, t, n) ∧ en = .returned (.bool true) ∧ Blk w' b1 45 [.bool p, .int .u8 c, .int .u8 t, .int .u16 n]) ∨ (rdHdr xs = none ∧ en = .returned (.bool false) ∧ ∃ v0 v1 v2 v3, Blk w' b1 45 [v0, v1, v2, v3]))
theorem c54 {w : World} {b b0 b1 : Nat} {a : Option Addr} {l c : Nat} {xs : List Int} {v0 v1 v2 v3 : Value} (h : BS w b a l c xs) (hl : l ≤ 1000000) (hE : Errs w) (hS : Blk w b0 22 [.slice a l c]) (hP : Blk w b1 45 [v0, v1, v2, v3]) (hb : b ≠ b1) (hb1 : 2 < b1) :
    Calls pg 54 #[.pointer (some ⟨b0, 0, none⟩), .pointer (some ⟨b1, 0, none⟩)] w (P54 w b1 xs) := by
  apply of54
  have hlt := h.lt
  have hlt1 := hP.lt
  have hE' := hE.lt
  refine gNew_i ?_
  intro b2 w_2 eb1 es1 gr1 B1
  refine ⟨_, _, _, Ce (b := b0) (i := 0) (by rfl) (by repeat (first | assumption | apply Blk.keep (by assumption) (by first | exact Option.some_ne_none _ | assumption | (intro e; injection e with e; (try dsimp only at e); omega)) | apply BS.keep (by assumption) (by first | exact Option.some_ne_none _ | assumption | (intro e; injection e with e; (try dsimp only at e); omega)) | apply OS.keep (by assumption) (by first | (left; rfl) | (right; exact Option.some_ne_none _) | (right; intro e; cases e; omega)) | apply Errs.keep (by assumption) (by intro k e; first | (cases e; done) | (cases e; omega)) | apply Blk.drew | apply BS.drew | apply OS.drew | apply Errs.drew)) (by rfl), ?_⟩
  refine call_i (c37 (b := b) (a := a) (l := l) (c := c) (xs := xs) (by repeat (first | assumption | apply Blk.keep (by assumption) (by first | exact Option.some_ne_none _ | assumption | (intro e; injection e with e; (try dsimp only at e); omega)) | apply BS.keep (by assumption) (by first | exact Option.some_ne_none _ | assumption | (intro e; injection e with e; (try dsimp only at e); omega)) | apply OS.keep (by assumption) (by first | (left; rfl) | (right; exact Option.some_ne_none _) | (right; intro e; cases e; omega)) | apply Errs.keep (by assumption) (by intro k e; first | (cases e; done) | (cases e; omega)) | apply Blk.drew | apply BS.drew | apply OS.drew | apply Errs.drew)) hl) (by rfl) ?_
  rintro _ w_5 ⟨b', a', c', rfl, hB', g5, s5, hb'⟩
  refine ⟨_, _, _, rfl, ?_⟩
  refine call_i (c55 (bp := b2) hB' (by repeat (first | assumption | apply Blk.keep (by assumption) (by first | exact Option.some_ne_none _ | assumption | (intro e; injection e with e; (try dsimp only at e); omega)) | apply BS.keep (by assumption) (by first | exact Option.some_ne_none _ | assumption | (intro e; injection e with e; (try dsimp only at e); omega)) | apply OS.keep (by assumption) (by first | (left; rfl) | (right; exact Option.some_ne_none _) | (right; intro e; cases e; omega)) | apply Errs.keep (by assumption) (by intro k e; first | (cases e; done) | (cases e; omega)) | apply Blk.drew | apply BS.drew | apply OS.drew | apply Errs.drew)) (by repeat (first | assumption | apply Blk.keep (by assumption) (by first | exact Option.some_ne_none _ | assumption | (intro e; injection e with e; (try dsimp only at e); omega)) | apply BS.keep (by assumption) (by first | exact Option.some_ne_none _ | assumption | (intro e; injection e with e; (try dsimp only at e); omega)) | apply OS.keep (by assumption) (by first | (left; rfl) | (right; exact Option.some_ne_none _) | (right; intro e; cases e; omega)) | apply Errs.keep (by assumption) (by intro k e; first | (cases e; done) | (cases e; omega)) | apply Blk.drew | apply BS.drew | apply OS.drew | apply Errs.drew)) (by omega)) (by rfl) ?_
  rintro _ w_7 ⟨g7, s7, hP7⟩
  have tail : ∀ (p : Bool) (c t n : Int) (e : Value), isIf e → Blk w_7 b2 109 [.bool p, .int .u8 c, .int .u8 t, .int .u16 n] →
      (∀ w', w.grownBy w' (some b1) → w.heap.size ≤ w'.heap.size → Blk w' b1 45 [.bool p, .int .u8 c, .int .u8 t, .int .u16 n] → P54 w b1 xs (.returned (.bool (isNilI e))) w') →
      ∃ x6 : Value, Ending.returned e = .returned (x6) ∧ ∃ x8 : Bool, ∃ x9 : Int, ∃ x10 : Int, ∃ x11 : Int, LdV pg 109 ⟨b2, 0, none⟩ (.agg #[.bool x8, .int .u8 x9, .int .u8 x10, .int .u16 x11]) w_7 ∧ Calls pg 56 #[.agg #[.bool x8, .int .u8 x9, .int .u8 x10, .int .u16 x11]] w_7 (fun en w_16 => ∃ x12 : Bool, ∃ x13 : Int, ∃ x14 : Int, ∃ x15 : Int, en = .returned (.agg #[.bool x12, .int .u8 x13, .int .u8 x14, .int .u16 x15]) ∧ ∃ w_17, StV pg 45 ⟨b1, 0, none⟩ (.agg #[.bool x12, .int .u8 x13, .int .u8 x14, .int .u16 x15]) w_16 w_17 ∧ isIf x6 ∧ P54 w b1 xs (.returned (.bool (isNilI x6))) w_17) := by
    intro p c t n e he B7 hK
    refine ⟨_, rfl, _, _, _, _, Ld (b := b2) (i := 0) (by rfl) (by repeat (first | assumption | apply Blk.keep (by assumption) (by first | exact Option.some_ne_none _ | assumption | (intro e; injection e with e; (try dsimp only at e); omega)) | apply BS.keep (by assumption) (by first | exact Option.some_ne_none _ | assumption | (intro e; injection e with e; (try dsimp only at e); omega)) | apply OS.keep (by assumption) (by first | (left; rfl) | (right; exact Option.some_ne_none _) | (right; intro e; cases e; omega)) | apply Errs.keep (by assumption) (by intro k e; first | (cases e; done) | (cases e; omega)) | apply Blk.drew | apply BS.drew | apply OS.drew | apply Errs.drew)) (by kernel_rfl) (by rfl) (by rfl), ?_⟩
    refine call_i c56 (by rfl) ?_
    rintro _ w_16 ⟨rfl, g16⟩
    have s16 := g16.size
    refine ⟨_, _, _, _, rfl, ?_⟩
    refine St (b := b1) (i := 0) (by rfl) (by repeat (first | assumption | apply Blk.keep (by assumption) (by first | exact Option.some_ne_none _ | assumption | (intro e; injection e with e; (try dsimp only at e); omega)) | apply BS.keep (by assumption) (by first | exact Option.some_ne_none _ | assumption | (intro e; injection e with e; (try dsimp only at e); omega)) | apply OS.keep (by assumption) (by first | (left; rfl) | (right; exact Option.some_ne_none _) | (right; intro e; cases e; omega)) | apply Errs.keep (by assumption) (by intro k e; first | (cases e; done) | (cases e; omega)) | apply Blk.drew | apply BS.drew | apply OS.drew | apply Errs.drew)) (by kernel_rfl) (by rfl) (by first | rfl | (simp only [List.all_cons, List.all_nil, Value.cells]; simp [*])) ?_
    intro w_17 es2 gr2 B2
    exact ⟨he, hK _ (by repeat (first | exact grew_refl _ _ | assumption | refine grew_step (by assumption) (by intro j e; first | (cases e; done) | (cases e; left; omega) | (cases e; right; rfl)) ?_ | refine grew_some ?_)) (by omega) B2⟩
  rcases hP7 with ⟨p, c, t, n, hr, rfl, B7⟩ | ⟨hr, ⟨y, z, rfl⟩, rfl⟩
  · exact tail p c t n _ trivial B7 fun w' g s B => ⟨g, s, .inl ⟨p, c, t, n, hr, rfl, B⟩⟩
  · clear g7
    exact tail false 0 0 0 _ trivial (by repeat (first | assumption | apply Blk.keep (by assumption) (by first | exact Option.some_ne_none _ | assumption | (intro e; injection e with e; (try dsimp only at e); omega)) | apply BS.keep (by assumption) (by first | exact Option.some_ne_none _ | assumption | (intro e; injection e with e; (try dsimp only at e); omega)) | apply OS.keep (by assumption) (by first | (left; rfl) | (right; exact Option.some_ne_none _) | (right; intro e; cases e; omega)) | apply Errs.keep (by assumption) (by intro k e; first | (cases e; done) | (cases e; omega)) | apply Blk.drew | apply BS.drew | apply OS.drew | apply Errs.drew)) fun w' g s B => ⟨g, s, .inr ⟨hr, rfl, _, _, _, _, B⟩⟩

/-- impl.ParseHeader. -/
theorem c24 {w : World} {b : Nat} {a : Option Addr} {l c : Nat} {xs : List Int} (h : BS w b a l c xs) (hl : l ≤ 1000000) (hE : Errs w) : Calls pg 24 #[.slice a l c] w (P23 w xs) := by
  apply of24
  have hlt := hE.lt
  have hblt := h.lt
  refine gNew_i ?_
  intro b1 w_2 eb1 es1 gr1 B1
  refine gNew_i ?_
  intro b3 w_4 eb2 es2 gr2 B2
  refine try_i (by kernel_rfl) ?_
  intro b5 w_5 eb5 es5 gr5 B5
  refine (c54 (b := b) (a := a) (l := l) (c := c) (xs := xs) (by repeat (first | assumption | apply Blk.keep (by assumption) (by first | exact Option.some_ne_none _ | assumption | (intro e; injection e with e; (try dsimp only at e); omega)) | apply BS.keep (by assumption) (by first | exact Option.some_ne_none _ | assumption | (intro e; injection e with e; (try dsimp only at e); omega)) | apply OS.keep (by assumption) (by first | (left; rfl) | (right; exact Option.some_ne_none _) | (right; intro e; cases e; omega)) | apply Errs.keep (by assumption) (by intro k e; first | (cases e; done) | (cases e; omega)) | apply Blk.drew | apply BS.drew | apply OS.drew | apply Errs.drew)) hl (by repeat (first | assumption | apply Blk.keep (by assumption) (by first | exact Option.some_ne_none _ | assumption | (intro e; injection e with e; (try dsimp only at e); omega)) | apply BS.keep (by assumption) (by first | exact Option.some_ne_none _ | assumption | (intro e; injection e with e; (try dsimp only at e); omega)) | apply OS.keep (by assumption) (by first | (left; rfl) | (right; exact Option.some_ne_none _) | (right; intro e; cases e; omega)) | apply Errs.keep (by assumption) (by intro k e; first | (cases e; done) | (cases e; omega)) | apply Blk.drew | apply BS.drew | apply OS.drew | apply Errs.drew)) (b0 := b1) (b1 := b3) (by repeat (first | assumption | apply Blk.keep (by assumption) (by first | exact Option.some_ne_none _ | assumption | (intro e; injection e with e; (try dsimp only at e); omega)) | apply BS.keep (by assumption) (by first | exact Option.some_ne_none _ | assumption | (intro e; injection e with e; (try dsimp only at e); omega)) | apply OS.keep (by assumption) (by first | (left; rfl) | (right; exact Option.some_ne_none _) | (right; intro e; cases e; omega)) | apply Errs.keep (by assumption) (by intro k e; first | (cases e; done) | (cases e; omega)) | apply Blk.drew | apply BS.drew | apply OS.drew | apply Errs.drew)) (by repeat (first | assumption | apply Blk.keep (by assumption) (by first | exact Option.some_ne_none _ | assumption | (intro e; injection e with e; (try dsimp only at e); omega)) | apply BS.keep (by assumption) (by first | exact Option.some_ne_none _ | assumption | (intro e; injection e with e; (try dsimp only at e); omega)) | apply OS.keep (by assumption) (by first | (left; rfl) | (right; exact Option.some_ne_none _) | (right; intro e; cases e; omega)) | apply Errs.keep (by assumption) (by intro k e; first | (cases e; done) | (cases e; omega)) | apply Blk.drew | apply BS.drew | apply OS.drew | apply Errs.drew)) (by omega) (by omega)).mono ?_
  rintro _ w_6 ⟨g6, s6, hP⟩
  rcases hP with ⟨p, c, t, n, hr, rfl, B6⟩ | ⟨hr, rfl, v0, v1, v2, v3, B6⟩
  · refine ⟨_, rfl, (by repeat (first | assumption | apply Blk.keep (by assumption) (by first | exact Option.some_ne_none _ | assumption | (intro e; injection e with e; (try dsimp only at e); omega)) | apply BS.keep (by assumption) (by first | exact Option.some_ne_none _ | assumption | (intro e; injection e with e; (try dsimp only at e); omega)) | apply OS.keep (by assumption) (by first | (left; rfl) | (right; exact Option.some_ne_none _) | (right; intro e; cases e; omega)) | apply Errs.keep (by assumption) (by intro k e; first | (cases e; done) | (cases e; omega)) | apply Blk.drew | apply BS.drew | apply OS.drew | apply Errs.drew)), ?_⟩
    intro w_7 s7 g7
    refine ⟨_, rfl, ?_⟩
    refine ⟨fun hx => (by cases hx), fun _ => ?_⟩
    refine ⟨_, _, _, _, Ld (b := b3) (i := 0) (by rfl) (by repeat (first | assumption | apply Blk.keep (by assumption) (by first | exact Option.some_ne_none _ | assumption | (intro e; injection e with e; (try dsimp only at e); omega)) | apply BS.keep (by assumption) (by first | exact Option.some_ne_none _ | assumption | (intro e; injection e with e; (try dsimp only at e); omega)) | apply OS.keep (by assumption) (by first | (left; rfl) | (right; exact Option.some_ne_none _) | (right; intro e; cases e; omega)) | apply Errs.keep (by assumption) (by intro k e; first | (cases e; done) | (cases e; omega)) | apply Blk.drew | apply BS.drew | apply OS.drew | apply Errs.drew)) (by kernel_rfl) (by rfl) (by rfl), ?_⟩
    refine St (b := b3) (i := 0) (by rfl) (by repeat (first | assumption | apply Blk.keep (by assumption) (by first | exact Option.some_ne_none _ | assumption | (intro e; injection e with e; (try dsimp only at e); omega)) | apply BS.keep (by assumption) (by first | exact Option.some_ne_none _ | assumption | (intro e; injection e with e; (try dsimp only at e); omega)) | apply OS.keep (by assumption) (by first | (left; rfl) | (right; exact Option.some_ne_none _) | (right; intro e; cases e; omega)) | apply Errs.keep (by assumption) (by intro k e; first | (cases e; done) | (cases e; omega)) | apply Blk.drew | apply BS.drew | apply OS.drew | apply Errs.drew)) (by kernel_rfl) (by rfl) (by first | rfl | (simp only [List.all_cons, List.all_nil, Value.cells]; simp [*])) ?_
    intro w_16 es4 gr4 B4
    refine ⟨_, _, _, _, Ld (b := b3) (i := 0) (by rfl) (by repeat (first | assumption | apply Blk.keep (by assumption) (by first | exact Option.some_ne_none _ | assumption | (intro e; injection e with e; (try dsimp only at e); omega)) | apply BS.keep (by assumption) (by first | exact Option.some_ne_none _ | assumption | (intro e; injection e with e; (try dsimp only at e); omega)) | apply OS.keep (by assumption) (by first | (left; rfl) | (right; exact Option.some_ne_none _) | (right; intro e; cases e; omega)) | apply Errs.keep (by assumption) (by intro k e; first | (cases e; done) | (cases e; omega)) | apply Blk.drew | apply BS.drew | apply OS.drew | apply Errs.drew)) (by kernel_rfl) (by rfl) (by rfl), ?_⟩
    exact ⟨by rw [hr]; rfl, (by repeat (first | exact grew_refl _ _ | assumption | refine grew_step (by assumption) (by intro j e; first | (cases e; done) | (cases e; left; omega) | (cases e; right; rfl)) ?_ | refine grew_some ?_)), by omega⟩
  · refine ⟨_, rfl, (by repeat (first | assumption | apply Blk.keep (by assumption) (by first | exact Option.some_ne_none _ | assumption | (intro e; injection e with e; (try dsimp only at e); omega)) | apply BS.keep (by assumption) (by first | exact Option.some_ne_none _ | assumption | (intro e; injection e with e; (try dsimp only at e); omega)) | apply OS.keep (by assumption) (by first | (left; rfl) | (right; exact Option.some_ne_none _) | (right; intro e; cases e; omega)) | apply Errs.keep (by assumption) (by intro k e; first | (cases e; done) | (cases e; omega)) | apply Blk.drew | apply BS.drew | apply OS.drew | apply Errs.drew)), ?_⟩
    intro w_7 s7 g7
    refine ⟨_, rfl, ?_⟩
    refine ⟨fun _ => ?_, fun hx => (by cases hx)⟩
    refine St (b := b3) (i := 0) (by rfl) (by repeat (first | assumption | apply Blk.keep (by assumption) (by first | exact Option.some_ne_none _ | assumption | (intro e; injection e with e; (try dsimp only at e); omega)) | apply BS.keep (by assumption) (by first | exact Option.some_ne_none _ | assumption | (intro e; injection e with e; (try dsimp only at e); omega)) | apply OS.keep (by assumption) (by first | (left; rfl) | (right; exact Option.some_ne_none _) | (right; intro e; cases e; omega)) | apply Errs.keep (by assumption) (by intro k e; first | (cases e; done) | (cases e; omega)) | apply Blk.drew | apply BS.drew | apply OS.drew | apply Errs.drew)) (by kernel_rfl) (by rfl) (by first | rfl | (simp only [List.all_cons, List.all_nil, Value.cells]; simp [*])) ?_
    intro w_16 es4 gr4 B4
    refine ⟨_, _, _, _, Ld (b := b3) (i := 0) (by rfl) (by repeat (first | assumption | apply Blk.keep (by assumption) (by first | exact Option.some_ne_none _ | assumption | (intro e; injection e with e; (try dsimp only at e); omega)) | apply BS.keep (by assumption) (by first | exact Option.some_ne_none _ | assumption | (intro e; injection e with e; (try dsimp only at e); omega)) | apply OS.keep (by assumption) (by first | (left; rfl) | (right; exact Option.some_ne_none _) | (right; intro e; cases e; omega)) | apply Errs.keep (by assumption) (by intro k e; first | (cases e; done) | (cases e; omega)) | apply Blk.drew | apply BS.drew | apply OS.drew | apply Errs.drew)) (by kernel_rfl) (by rfl) (by rfl), ?_⟩
    exact ⟨by rw [hr]; rfl, (by repeat (first | exact grew_refl _ _ | assumption | refine grew_step (by assumption) (by intro j e; first | (cases e; done) | (cases e; left; omega) | (cases e; right; rfl)) ?_ | refine grew_some ?_)), by omega⟩
end Go.Proofs.YtkdialecadjedaaGreatDoor
