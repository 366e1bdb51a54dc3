/- A picture loss that is read (no statement of the seat is proved here; conditions: the slice reads its bytes). -/
import Derived.Test.YtkdialecadjedaaGreatDoorWkB
namespace Go.Proofs.YtkdialecadjedaaGreatDoor
set_option linter.unusedVariables false
set_option linter.unusedSimpArgs false
set_option linter.unusedSectionVars false
open Go

def be32N (a b c d : Int) : Int := a * 16777216 + b * 65536 + c * 256 + d
theorem be32_ior {a b c d : Int} (ha : 0 ≤ a ∧ a < 256) (hb : 0 ≤ b ∧ b < 256) (hc : 0 ≤ c ∧ c < 256) (hd : 0 ≤ d ∧ d < 256) :
    ior .u32 (ior .u32 (ior .u32 (IntKind.u32.wrap d) (ishl .u32 (IntKind.u32.wrap c) (8 : Int))) (ishl .u32 (IntKind.u32.wrap b) (16 : Int))) (ishl .u32 (IntKind.u32.wrap a) (24 : Int)) = be32N a b c d := by
  rw [ishl_of 8 (by rfl) (by decide), ishl_of 16 (by rfl) (by decide), ishl_of 24 (by rfl) (by decide)]
  simp only [wu32]
  rw [show d % 4294967296 = d by omega, show c % 4294967296 * 2 ^ 8 % 4294967296 = c * 256 by omega, show b % 4294967296 * 2 ^ 16 % 4294967296 = b * 65536 by omega, show a % 4294967296 * 2 ^ 24 % 4294967296 = a * 16777216 by omega]
  rw [ior_add' (by rfl) 8 c (a := c * 256) (b := d) (by omega) (by omega) (by omega) (by omega) (by simp only [IntKind.bits]; omega)]
  rw [ior_add' (by rfl) 16 b (a := b * 65536) (b := c * 256 + d) (by omega) (by omega) (by omega) (by omega) (by simp only [IntKind.bits]; omega)]
  rw [ior_add' (by rfl) 24 a (a := a * 16777216) (b := b * 65536 + (c * 256 + d)) (by omega) (by omega) (by omega) (by omega) (by simp only [IntKind.bits]; omega)]
  unfold be32N
  omega
theorem c150 {w : World} {b : Nat} {a : Option Addr} {l c : Nat} {x0 x1 x2 x3 : Int} {xs : List Int} (h : BS w b a l c (x0 :: x1 :: x2 :: x3 :: xs)) :
    Calls pg 150 #[.slice a l c] w fun en w' => en = .returned (.int .u32 (be32N x0 x1 x2 x3)) ∧ w.grownBy w' none := by
  apply of150
  have hl := h.len
  simp only [List.length_cons] at hl
  have h0 := h.byte x0 (by simp)
  have h1 := h.byte x1 (by simp)
  have h2 := h.byte x2 (by simp)
  have h3 := h.byte x3 (by simp)
  obtain ⟨o, rfl, _⟩ := h.at_ (by simp)
  refine ⟨_, rfl, (by omega), (by omega), ?_⟩
  refine ⟨_, Rb (by first | exact add_flat _ _ _ | exact (flat0 _ _)) (by repeat (first | assumption | apply Blk.keep (by assumption) (by first | exact Option.some_ne_none _ | assumption | (intro e; injection e with e; (try dsimp only at e); omega)) | apply BS.keep (by assumption) (by first | exact Option.some_ne_none _ | assumption | (intro e; injection e with e; (try dsimp only at e); omega)) | apply OS.keep (by assumption) (by first | (left; rfl) | (right; exact Option.some_ne_none _) | (right; intro e; cases e; omega)) | apply Errs.keep (by assumption) (by intro k e; first | (cases e; done) | (cases e; omega)) | apply Blk.drew | apply BS.drew | apply OS.drew | apply Errs.drew)) (by rfl), ?_⟩
  have gd1 := grew_drew w none; have sd1 : w.drew.heap.size = w.heap.size := rfl; generalize w.drew = wd1 at gd1 sd1 ⊢
  refine ⟨_, rfl, (by omega), (by omega), ?_⟩
  refine ⟨_, Rb (by first | exact add_flat _ _ _ | exact (flat0 _ _)) (by repeat (first | assumption | apply Blk.keep (by assumption) (by first | exact Option.some_ne_none _ | assumption | (intro e; injection e with e; (try dsimp only at e); omega)) | apply BS.keep (by assumption) (by first | exact Option.some_ne_none _ | assumption | (intro e; injection e with e; (try dsimp only at e); omega)) | apply OS.keep (by assumption) (by first | (left; rfl) | (right; exact Option.some_ne_none _) | (right; intro e; cases e; omega)) | apply Errs.keep (by assumption) (by intro k e; first | (cases e; done) | (cases e; omega)) | apply Blk.drew | apply BS.drew | apply OS.drew | apply Errs.drew)) (by rfl), ?_⟩
  refine ⟨_, rfl, (by omega), (by omega), ?_⟩
  refine ⟨_, Rb (by first | exact add_flat _ _ _ | exact (flat0 _ _)) (by repeat (first | assumption | apply Blk.keep (by assumption) (by first | exact Option.some_ne_none _ | assumption | (intro e; injection e with e; (try dsimp only at e); omega)) | apply BS.keep (by assumption) (by first | exact Option.some_ne_none _ | assumption | (intro e; injection e with e; (try dsimp only at e); omega)) | apply OS.keep (by assumption) (by first | (left; rfl) | (right; exact Option.some_ne_none _) | (right; intro e; cases e; omega)) | apply Errs.keep (by assumption) (by intro k e; first | (cases e; done) | (cases e; omega)) | apply Blk.drew | apply BS.drew | apply OS.drew | apply Errs.drew)) (by rfl), ?_⟩
  refine ⟨_, rfl, (by omega), (by omega), ?_⟩
  refine ⟨_, Rb (by first | exact add_flat _ _ _ | exact (flat0 _ _)) (by repeat (first | assumption | apply Blk.keep (by assumption) (by first | exact Option.some_ne_none _ | assumption | (intro e; injection e with e; (try dsimp only at e); omega)) | apply BS.keep (by assumption) (by first | exact Option.some_ne_none _ | assumption | (intro e; injection e with e; (try dsimp only at e); omega)) | apply OS.keep (by assumption) (by first | (left; rfl) | (right; exact Option.some_ne_none _) | (right; intro e; cases e; omega)) | apply Errs.keep (by assumption) (by intro k e; first | (cases e; done) | (cases e; omega)) | apply Blk.drew | apply BS.drew | apply OS.drew | apply Errs.drew)) (by rfl), ?_⟩
  refine ⟨_, rfl, (by omega), (by omega), ?_⟩
  refine ⟨_, Rb (by first | exact add_flat _ _ _ | exact (flat0 _ _)) (by repeat (first | assumption | apply Blk.keep (by assumption) (by first | exact Option.some_ne_none _ | assumption | (intro e; injection e with e; (try dsimp only at e); omega)) | apply BS.keep (by assumption) (by first | exact Option.some_ne_none _ | assumption | (intro e; injection e with e; (try dsimp only at e); omega)) | apply OS.keep (by assumption) (by first | (left; rfl) | (right; exact Option.some_ne_none _) | (right; intro e; cases e; omega)) | apply Errs.keep (by assumption) (by intro k e; first | (cases e; done) | (cases e; omega)) | apply Blk.drew | apply BS.drew | apply OS.drew | apply Errs.drew)) (by rfl), ?_⟩
  exact ⟨by rw [be32_ior h0 h1 h2 h3], gd1⟩
theorem BS.skip {w : World} {b : Nat} {a : Option Addr} {l c : Nat} {xs : List Int} (h : BS w b a l c xs) (i : Nat) (hi : i ≤ l) : BS w b (cutA a i c 1) (l - i) (c - i) (xs.drop i) := by
  have hc := h.and.2.1
  have := h.cut i l c hi (Nat.le_refl _) hc (Nat.le_refl _)
  rwa [List.take_of_length_le (by have := h.len; simp; omega)] at this

/-- PictureLossIndication.Unmarshal. -/
def P203 (w : World) (bp : Nat) (s m : Int) (en : Ending) (w' : World) : Prop := en = .returned .nilIface ∧ w.grownBy w' (some bp) ∧ w.heap.size ≤ w'.heap.size ∧ Blk w' bp 223 [.int .u32 s, .int .u32 m]
theorem c203 {w : World} {b bp : Nat} {a : Option Addr} {l c : Nat} {x2 x3 a0 a1 a2 a3 b0 b1 b2 b3 : Int} {xs : List Int} {v0 v1 : Value} (h : BS w b a l c (129 :: 206 :: x2 :: x3 :: a0 :: a1 :: a2 :: a3 :: b0 :: b1 :: b2 :: b3 :: xs)) (hE : Errs w)
    (hP : Blk w bp 223 [v0, v1]) (hne : b ≠ bp) (hbp : 2 < bp) : Calls pg 203 #[.pointer (some ⟨bp, 0, none⟩), .slice a l c] w (P203 w bp (be32N a0 a1 a2 a3) (be32N b0 b1 b2 b3)) := by
  apply of203
  have hl := h.len
  simp only [List.length_cons] at hl
  have hblt := h.lt
  have hplt := hP.lt
  refine ⟨fun hd => ?_, fun _ => ?_⟩
  · have hd' : (l : Int) < 12 := by simpa using hd
    omega
  · refine gNew_i ?_
    intro bh w_3 eb1 es1 gr1 B1
    refine call_i (c55 (bp := bh) (b := b) (a := a) (l := l) (c := c) (by repeat (first | assumption | apply Blk.keep (by assumption) (by first | exact Option.some_ne_none _ | assumption | (intro e; injection e with e; (try dsimp only at e); omega)) | apply BS.keep (by assumption) (by first | exact Option.some_ne_none _ | assumption | (intro e; injection e with e; (try dsimp only at e); omega)) | apply OS.keep (by assumption) (by first | (left; rfl) | (right; exact Option.some_ne_none _) | (right; intro e; cases e; omega)) | apply Errs.keep (by assumption) (by intro k e; first | (cases e; done) | (cases e; omega)) | apply Blk.drew | apply BS.drew | apply OS.drew | apply Errs.drew)) (by repeat (first | assumption | apply Blk.keep (by assumption) (by first | exact Option.some_ne_none _ | assumption | (intro e; injection e with e; (try dsimp only at e); omega)) | apply BS.keep (by assumption) (by first | exact Option.some_ne_none _ | assumption | (intro e; injection e with e; (try dsimp only at e); omega)) | apply OS.keep (by assumption) (by first | (left; rfl) | (right; exact Option.some_ne_none _) | (right; intro e; cases e; omega)) | apply Errs.keep (by assumption) (by intro k e; first | (cases e; done) | (cases e; omega)) | apply Blk.drew | apply BS.drew | apply OS.drew | apply Errs.drew)) B1 (by omega)) (by rfl) ?_
    rintro _ w_5 ⟨g5, s5, hr⟩
    have e : rdHdr (129 :: 206 :: x2 :: x3 :: a0 :: a1 :: a2 :: a3 :: b0 :: b1 :: b2 :: b3 :: xs) = some (false, 1, 206, x2 * 256 + x3) := by simp [rdHdr]
    rcases hr with ⟨p, cc, t, n, hr, rfl, B5⟩ | ⟨hr, _⟩
    · rw [e] at hr
      simp only [Option.some.injEq, Prod.mk.injEq] at hr
      obtain ⟨rfl, rfl, rfl, rfl⟩ := hr
      refine ⟨_, rfl, trivial, ?_⟩
      refine ⟨fun hx => (by cases hx), fun _ => ?_⟩
      refine ⟨_, Ce (by first | exact add_flat _ _ _ | exact add_flat2 _ _ _ _ | rfl) (by repeat (first | assumption | apply Blk.keep (by assumption) (by first | exact Option.some_ne_none _ | assumption | (intro e; injection e with e; (try dsimp only at e); omega)) | apply BS.keep (by assumption) (by first | exact Option.some_ne_none _ | assumption | (intro e; injection e with e; (try dsimp only at e); omega)) | apply OS.keep (by assumption) (by first | (left; rfl) | (right; exact Option.some_ne_none _) | (right; intro e; cases e; omega)) | apply Errs.keep (by assumption) (by intro k e; first | (cases e; done) | (cases e; omega)) | apply Blk.drew | apply BS.drew | apply OS.drew | apply Errs.drew)) (by rfl), ?_⟩
      refine ⟨fun hx => absurd hx (by decide), fun _ => ?_⟩
      refine ⟨_, Ce (by first | exact add_flat _ _ _ | exact add_flat2 _ _ _ _ | rfl) (by repeat (first | assumption | apply Blk.keep (by assumption) (by first | exact Option.some_ne_none _ | assumption | (intro e; injection e with e; (try dsimp only at e); omega)) | apply BS.keep (by assumption) (by first | exact Option.some_ne_none _ | assumption | (intro e; injection e with e; (try dsimp only at e); omega)) | apply OS.keep (by assumption) (by first | (left; rfl) | (right; exact Option.some_ne_none _) | (right; intro e; cases e; omega)) | apply Errs.keep (by assumption) (by intro k e; first | (cases e; done) | (cases e; omega)) | apply Blk.drew | apply BS.drew | apply OS.drew | apply Errs.drew)) (by rfl), ?_⟩
      refine ⟨fun hx => absurd hx (by decide), fun _ => ?_⟩
      refine ⟨by omega, by omega, ?_⟩
      have hB5 : BS w_5 b a l c _ := h.keep gr1 (by simp) |>.keep g5 (by intro e; injection e with e; omega)
      refine call_i (c150 (hB5.skip 4 (by omega))) (by rfl) ?_
      rintro _ w_11 ⟨rfl, g11⟩
      have s11 := g11.size
      refine ⟨_, rfl, ?_⟩
      refine ⟨_, rfl, ?_⟩
      refine St (by first | exact add_flat _ _ _ | exact add_flat2 _ _ _ _ | rfl) (by repeat (first | assumption | apply Blk.keep (by assumption) (by first | exact Option.some_ne_none _ | assumption | (intro e; injection e with e; (try dsimp only at e); omega)) | apply BS.keep (by assumption) (by first | exact Option.some_ne_none _ | assumption | (intro e; injection e with e; (try dsimp only at e); omega)) | apply OS.keep (by assumption) (by first | (left; rfl) | (right; exact Option.some_ne_none _) | (right; intro e; cases e; omega)) | apply Errs.keep (by assumption) (by intro k e; first | (cases e; done) | (cases e; omega)) | apply Blk.drew | apply BS.drew | apply OS.drew | apply Errs.drew)) (by kernel_rfl) (by rfl) (by first | rfl | (simp only [List.all_cons, List.all_nil, Value.cells]; simp [*])) ?_
      intro w_13 es2 gr2 B2
      refine ⟨by omega, by omega, ?_⟩
      have hB13 : BS w_13 b a l c _ := hB5.keep g11 (by simp) |>.keep gr2 (by intro e; injection e with e; omega)
      refine call_i (c150 (hB13.skip 8 (by omega))) (by rfl) ?_
      rintro _ w_15 ⟨rfl, g15⟩
      have s15 := g15.size
      refine ⟨_, rfl, ?_⟩
      refine ⟨_, rfl, ?_⟩
      refine St (by first | exact add_flat _ _ _ | exact add_flat2 _ _ _ _ | rfl) (by repeat (first | assumption | apply Blk.keep (by assumption) (by first | exact Option.some_ne_none _ | assumption | (intro e; injection e with e; (try dsimp only at e); omega)) | apply BS.keep (by assumption) (by first | exact Option.some_ne_none _ | assumption | (intro e; injection e with e; (try dsimp only at e); omega)) | apply OS.keep (by assumption) (by first | (left; rfl) | (right; exact Option.some_ne_none _) | (right; intro e; cases e; omega)) | apply Errs.keep (by assumption) (by intro k e; first | (cases e; done) | (cases e; omega)) | apply Blk.drew | apply BS.drew | apply OS.drew | apply Errs.drew)) (by kernel_rfl) (by rfl) (by first | rfl | (simp only [List.all_cons, List.all_nil, Value.cells]; simp [*])) ?_
      intro w_17 es3 gr3 B3
      exact ⟨rfl, (by repeat (first | exact grew_refl _ _ | assumption | refine grew_step (by assumption) (by intro j e; first | (cases e; done) | (cases e; left; omega) | (cases e; right; rfl)) ?_ | refine grew_some ?_)), by omega, B3⟩
    · rw [e] at hr; cases hr

/-- rtcp.unmarshal, a picture loss of twelve bytes. -/
def P79 (w : World) (s m : Int) (en : Ending) (w' : World) : Prop := ∃ b, en = .returned (.tuple #[.iface 222 (.pointer (some ⟨b, 0, none⟩)), .int .i64 12, .nilIface]) ∧ w.grownBy w' none ∧ w.heap.size ≤ w'.heap.size ∧ w.heap.size ≤ b ∧ Blk w' b 223 [.int .u32 s, .int .u32 m]
theorem c79_p {w : World} {b : Nat} {a : Option Addr} {l c : Nat} {a0 a1 a2 a3 b0 b1 b2 b3 : Int} (h : BS w b a l c [129, 206, 0, 2, a0, a1, a2, a3, b0, b1, b2, b3]) (hE : Errs w) :
    Calls pg 79 #[.slice a l c] w (P79 w (be32N a0 a1 a2 a3) (be32N b0 b1 b2 b3)) := by
  apply of79
  have hl : 12 = l := h.len
  have hlt := hE.lt
  have hblt := h.lt
  have hcap := h.and.2.1
  refine gNew_i ?_
  intro bh w_2 eb1 es1 gr1 B1
  refine call_i (c55 (bp := bh) (b := b) (a := a) (l := l) (c := c) (by repeat (first | assumption | apply Blk.keep (by assumption) (by first | exact Option.some_ne_none _ | assumption | (intro e; injection e with e; (try dsimp only at e); omega)) | apply BS.keep (by assumption) (by first | exact Option.some_ne_none _ | assumption | (intro e; injection e with e; (try dsimp only at e); omega)) | apply OS.keep (by assumption) (by first | (left; rfl) | (right; exact Option.some_ne_none _) | (right; intro e; cases e; omega)) | apply Errs.keep (by assumption) (by intro k e; first | (cases e; done) | (cases e; omega)) | apply Blk.drew | apply BS.drew | apply OS.drew | apply Errs.drew)) (by repeat (first | assumption | apply Blk.keep (by assumption) (by first | exact Option.some_ne_none _ | assumption | (intro e; injection e with e; (try dsimp only at e); omega)) | apply BS.keep (by assumption) (by first | exact Option.some_ne_none _ | assumption | (intro e; injection e with e; (try dsimp only at e); omega)) | apply OS.keep (by assumption) (by first | (left; rfl) | (right; exact Option.some_ne_none _) | (right; intro e; cases e; omega)) | apply Errs.keep (by assumption) (by intro k e; first | (cases e; done) | (cases e; omega)) | apply Blk.drew | apply BS.drew | apply OS.drew | apply Errs.drew)) B1 (by omega)) (by rfl) ?_
  rintro _ w_4 ⟨g5, s5, hr⟩
  rcases hr with ⟨p, cc, t, n, hr, rfl, B5⟩ | ⟨hr, _⟩
  · have e : rdHdr [129, 206, 0, 2, a0, a1, a2, a3, b0, b1, b2, b3] = some (false, 1, 206, 2) := by simp [rdHdr]
    rw [e] at hr
    simp only [Option.some.injEq, Prod.mk.injEq] at hr
    obtain ⟨rfl, rfl, rfl, rfl⟩ := hr
    refine ⟨_, rfl, trivial, ?_⟩
    refine ⟨fun hx => (by cases hx), fun _ => ?_⟩
    refine ⟨_, Ce (by first | exact add_flat _ _ _ | exact add_flat2 _ _ _ _ | rfl) (by repeat (first | assumption | apply Blk.keep (by assumption) (by first | exact Option.some_ne_none _ | assumption | (intro e; injection e with e; (try dsimp only at e); omega)) | apply BS.keep (by assumption) (by first | exact Option.some_ne_none _ | assumption | (intro e; injection e with e; (try dsimp only at e); omega)) | apply OS.keep (by assumption) (by first | (left; rfl) | (right; exact Option.some_ne_none _) | (right; intro e; cases e; omega)) | apply Errs.keep (by assumption) (by intro k e; first | (cases e; done) | (cases e; omega)) | apply Blk.drew | apply BS.drew | apply OS.drew | apply Errs.drew)) (by rfl), ?_⟩
    have e12 : IntKind.i64.wrap ((IntKind.i64.wrap ((IntKind.i64.wrap (2 : Int)) + (1 : Int))) * (4 : Int)) = 12 := by decide
    rw [e12]
    refine ⟨fun hx => (by simp at hx; omega), fun _ => ?_⟩
    refine ⟨by omega, by omega, ?_⟩
    refine ⟨_, Ce (by first | exact add_flat _ _ _ | exact add_flat2 _ _ _ _ | rfl) (by repeat (first | assumption | apply Blk.keep (by assumption) (by first | exact Option.some_ne_none _ | assumption | (intro e; injection e with e; (try dsimp only at e); omega)) | apply BS.keep (by assumption) (by first | exact Option.some_ne_none _ | assumption | (intro e; injection e with e; (try dsimp only at e); omega)) | apply OS.keep (by assumption) (by first | (left; rfl) | (right; exact Option.some_ne_none _) | (right; intro e; cases e; omega)) | apply Errs.keep (by assumption) (by intro k e; first | (cases e; done) | (cases e; omega)) | apply Blk.drew | apply BS.drew | apply OS.drew | apply Errs.drew)) (by rfl), ?_⟩
    refine ⟨fun hx => absurd hx (by decide), fun _ => ?_⟩
    refine ⟨fun hx => absurd hx (by decide), fun _ => ?_⟩
    refine ⟨fun hx => absurd hx (by decide), fun _ => ?_⟩
    refine ⟨fun hx => absurd hx (by decide), fun _ => ?_⟩
    refine ⟨fun hx => absurd hx (by decide), fun _ => ?_⟩
    refine ⟨fun _ => ?_, fun hx => absurd hx (by decide)⟩
    refine ⟨_, Ce (by first | exact add_flat _ _ _ | exact add_flat2 _ _ _ _ | rfl) (by repeat (first | assumption | apply Blk.keep (by assumption) (by first | exact Option.some_ne_none _ | assumption | (intro e; injection e with e; (try dsimp only at e); omega)) | apply BS.keep (by assumption) (by first | exact Option.some_ne_none _ | assumption | (intro e; injection e with e; (try dsimp only at e); omega)) | apply OS.keep (by assumption) (by first | (left; rfl) | (right; exact Option.some_ne_none _) | (right; intro e; cases e; omega)) | apply Errs.keep (by assumption) (by intro k e; first | (cases e; done) | (cases e; omega)) | apply Blk.drew | apply BS.drew | apply OS.drew | apply Errs.drew)) (by rfl), ?_⟩
    refine ⟨fun _ => ?_, fun hx => absurd hx (by decide)⟩
    refine gNew_i ?_
    intro b46 w_47 eb12 es12 gr12 B12
    have hB : BS w_47 b a l c [129, 206, 0, 2, a0, a1, a2, a3, b0, b1, b2, b3] := h.keep gr1 (by simp) |>.keep g5 (by intro e; injection e with e; omega) |>.keep gr12 (by simp)
    have hcut := hB.cut 0 12 c (by omega) (by omega) (by omega) (by omega)
    refine inv_ptr (e := 223) (f := 203) (by kernel_rfl) (by kernel_rfl) (by kernel_rfl) ?_
    refine call_i (c203 (bp := b46) hcut (by repeat (first | assumption | apply Blk.keep (by assumption) (by first | exact Option.some_ne_none _ | assumption | (intro e; injection e with e; (try dsimp only at e); omega)) | apply BS.keep (by assumption) (by first | exact Option.some_ne_none _ | assumption | (intro e; injection e with e; (try dsimp only at e); omega)) | apply OS.keep (by assumption) (by first | (left; rfl) | (right; exact Option.some_ne_none _) | (right; intro e; cases e; omega)) | apply Errs.keep (by assumption) (by intro k e; first | (cases e; done) | (cases e; omega)) | apply Blk.drew | apply BS.drew | apply OS.drew | apply Errs.drew)) B12 (by omega) (by omega)) (by rfl) ?_
    rintro _ w_49 ⟨rfl, g49, s49, B49⟩
    exact ⟨_, rfl, b46, rfl, (by repeat (first | exact grew_refl _ _ | assumption | refine grew_step (by assumption) (by intro j e; first | (cases e; done) | (cases e; left; omega) | (cases e; right; rfl)) ?_ | refine grew_some ?_)), by omega, by omega, B49⟩
  · simp [rdHdr] at hr
end Go.Proofs.YtkdialecadjedaaGreatDoor
