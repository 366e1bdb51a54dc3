/- laws.works: one packet is written and read (no statement of the seat is proved here; condition: the listed errors are not nil). -/
import Derived.Test.YtkdialecadjedaaGreatDoorWkC
namespace Go.Proofs.YtkdialecadjedaaGreatDoor
set_option linter.unusedVariables false
set_option linter.unusedSimpArgs false
set_option linter.unusedSectionVars false
open Go

/-- A picture loss, as plain data. -/
def pliCells (s m : Int) : List Value := [.int .i64 9, .int .u32 s, .int .u32 m, .int .u64 0, .int .u32 0, .int .u32 0, .int .u32 0, .slice none 0 0, .slice none 0 0, .slice none 0 0, .slice none 0 0, .string (ByteArray.mk #[]), .int .u8 0, .slice none 0 0, .slice none 0 0, .slice none 0 0, .slice none 0 0, .int .u32 0, .slice none 0 0, .int .u32 0, .int .u16 0, .int .u16 0, .int .u32 0, .int .u8 0, .slice none 0 0, .slice none 0 0, .bool false, .int .u8 0, .int .u8 0, .int .u16 0]
/-- impl.plain, a picture loss. -/
def P66_p (w : World) (s m : Int) (en : Ending) (w' : World) : Prop := en = .returned (.agg (pliCells s m).toArray) ∧ w.grownBy w' none ∧ w.heap.size ≤ w'.heap.size
theorem c66_p {w : World} {b : Nat} {s m : Int} (hB : Blk w b 223 [.int .u32 s, .int .u32 m]) : Calls pg 66 #[.iface 222 (.pointer (some ⟨b, 0, none⟩))] w (P66_p w s m) := by
  apply of66
  have hlt := hB.lt
  refine gNew_i ?_
  intro b1 w_2 eb1 es1 gr1 B1
  refine ⟨_, _, ta_no (by kernel_rfl) (by decide), fun hx => (by cases hx), fun _ => ?_⟩
  refine ⟨_, _, ta_no (by kernel_rfl) (by decide), fun hx => (by cases hx), fun _ => ?_⟩
  refine ⟨_, _, ta_no (by kernel_rfl) (by decide), fun hx => (by cases hx), fun _ => ?_⟩
  refine ⟨_, _, ta_no (by kernel_rfl) (by decide), fun hx => (by cases hx), fun _ => ?_⟩
  refine ⟨_, _, ta_no (by kernel_rfl) (by decide), fun hx => (by cases hx), fun _ => ?_⟩
  refine ⟨_, _, ta_no (by kernel_rfl) (by decide), fun hx => (by cases hx), fun _ => ?_⟩
  refine ⟨_, _, ta_no (by kernel_rfl) (by decide), fun hx => (by cases hx), fun _ => ?_⟩
  refine ⟨_, _, ta_no (by kernel_rfl) (by decide), fun hx => (by cases hx), fun _ => ?_⟩
  refine ⟨_, _, ta_yes (by kernel_rfl), fun _ => ?_, fun hx => (by cases hx)⟩
  have gd1 := grew_drew w_2 none; have sd1 : w_2.drew.heap.size = w_2.heap.size := rfl; generalize w_2.drew = wd1 at gd1 sd1 ⊢
  refine ⟨_, rfl, ?_⟩
  refine ⟨_, Ce (by first | exact add_flat _ _ _ | exact add_flat2 _ _ _ _ | rfl) (by repeat (first | assumption | apply Blk.keep (by assumption) (by first | exact Option.some_ne_none _ | assumption | (intro e; injection e with e; (try dsimp only at e); omega)) | apply BS.keep (by assumption) (by first | exact Option.some_ne_none _ | assumption | (intro e; injection e with e; (try dsimp only at e); omega)) | apply OS.keep (by assumption) (by first | (left; rfl) | (right; exact Option.some_ne_none _) | (right; intro e; cases e; omega)) | apply Errs.keep (by assumption) (by intro k e; first | (cases e; done) | (cases e; omega)) | apply Blk.drew | apply BS.drew | apply OS.drew | apply Errs.drew)) (by rfl), ?_⟩
  refine ⟨_, rfl, ?_⟩
  refine ⟨_, Ce (by first | exact add_flat _ _ _ | exact add_flat2 _ _ _ _ | rfl) (by repeat (first | assumption | apply Blk.keep (by assumption) (by first | exact Option.some_ne_none _ | assumption | (intro e; injection e with e; (try dsimp only at e); omega)) | apply BS.keep (by assumption) (by first | exact Option.some_ne_none _ | assumption | (intro e; injection e with e; (try dsimp only at e); omega)) | apply OS.keep (by assumption) (by first | (left; rfl) | (right; exact Option.some_ne_none _) | (right; intro e; cases e; omega)) | apply Errs.keep (by assumption) (by intro k e; first | (cases e; done) | (cases e; omega)) | apply Blk.drew | apply BS.drew | apply OS.drew | apply Errs.drew)) (by rfl), ?_⟩
  refine St0 (b := b1) rfl (by repeat (first | assumption | apply Blk.keep (by assumption) (by first | exact Option.some_ne_none _ | assumption | (intro e; injection e with e; (try dsimp only at e); omega)) | apply BS.keep (by assumption) (by first | exact Option.some_ne_none _ | assumption | (intro e; injection e with e; (try dsimp only at e); omega)) | apply OS.keep (by assumption) (by first | (left; rfl) | (right; exact Option.some_ne_none _) | (right; intro e; cases e; omega)) | apply Errs.keep (by assumption) (by intro k e; first | (cases e; done) | (cases e; omega)) | apply Blk.drew | apply BS.drew | apply OS.drew | apply Errs.drew)) (by kernel_rfl) (by rfl) (by rfl) ?_
  intro w_5 es2 gr2 B2
  refine ⟨_, Ld0 (b := b1) rfl B2 (by kernel_rfl), ?_⟩
  exact ⟨rfl, (by repeat (first | exact grew_refl _ _ | assumption | refine grew_step (by assumption) (by intro j e; first | (cases e; done) | (cases e; left; omega) | (cases e; right; rfl)) ?_ | refine grew_some ?_)), by omega⟩

/-- rtcp.Unmarshal, a picture loss of twelve bytes. -/
def P36_p (w : World) (s m : Int) (en : Ending) (w' : World) : Prop := ∃ a c bp r, en = .returned (.tuple #[.slice a 1 c, .nilIface]) ∧ w.grownBy w' none ∧ w.heap.size ≤ w'.heap.size ∧ w.heap.size ≤ bp ∧ OS w' w.heap.size 123 1 a 1 c r [.iface 222 (.pointer (some ⟨bp, 0, none⟩))] ∧ Blk w' bp 223 [.int .u32 s, .int .u32 m]
theorem c36_p {w : World} {b : Nat} {a : Option Addr} {l c : Nat} {a0 a1 a2 a3 b0 b1 b2 b3 : Int} (h : BS w b a l c [129, 206, 0, 2, a0, a1, a2, a3, b0, b1, b2, b3]) (hE : Errs w) :
    Calls pg 36 #[.slice a l c] w (P36_p w (be32N a0 a1 a2 a3) (be32N b0 b1 b2 b3)) := by
  apply of36
  have hl : 12 = l := h.len
  have hlt := hE.lt
  have hblt := h.lt
  refine ⟨fun a' l' c' pa pl pc k w' => (k = 1 ∧ a' = a ∧ l' = l ∧ c' = c ∧ pa = none ∧ pl = 0 ∧ pc = 0 ∧ w' = w) ∨ (k = 0 ∧ l' = 0 ∧ pl = 1 ∧ P36_p w (be32N a0 a1 a2 a3) (be32N b0 b1 b2 b3) (.returned (.tuple #[.slice pa pl pc, .nilIface])) w'), ⟨1, .inl ⟨rfl, rfl, rfl, rfl, rfl, rfl, rfl, rfl⟩⟩, ?_⟩
  intro dd2 a' l' c' pa pl pc k w6 hJ
  rcases hJ with ⟨rfl, rfl, rfl, rfl, rfl, rfl, rfl, rfl⟩ | ⟨rfl, rfl, rfl, hP⟩
  · refine ⟨fun _ => ?_, fun hc => (by simp at hc; omega)⟩
    refine call_i (c79_p h hE) (by rfl) ?_
    rintro _ w_12 ⟨bp, rfl, g12, s12, hbp, B12⟩
    refine ⟨_, _, _, rfl, trivial, ?_⟩
    refine ⟨fun hx => (by cases hx), fun _ => ?_⟩
    refine ⟨rfl, ?_⟩
    refine gNew_i ?_
    intro b13 w_14 eb1 es1 gr1 B1
    refine app_i (e := 123) (size := 1) (bytes := 16) (by kernel_rfl) (OS.nil w_14 w6.heap.size 123 1) [.iface 222 (.pointer (some ⟨bp, 0, none⟩))] (by rfl) (fun j u hu => by rw [add_flat, Nat.zero_add]; exact B1.cell hu) (by simp [Value.oneCell']) (by unfold maxLen; omega) (by omega) (by omega) ?_
    intro a2' l2 c2 r2 w16 hl2 hs2 hg2 ho2 hr2
    obtain rfl : l2 = 1 := hl2
    refine ⟨by omega, by omega, 0, by omega, .inr ⟨rfl, ?_, rfl, ?_⟩⟩
    · show l' - 12 = 0
      omega
    · exact ⟨_, _, bp, r2, rfl, (by repeat (first | exact grew_refl _ _ | assumption | refine grew_step (by assumption) (by intro j e; first | (cases e; done) | (cases e; left; omega) | (cases e; right; rfl)) ?_ | refine grew_some ?_)), by omega, by omega, ho2, (by repeat (first | assumption | apply Blk.keep (by assumption) (by first | exact Option.some_ne_none _ | assumption | (intro e; injection e with e; (try dsimp only at e); omega)) | apply BS.keep (by assumption) (by first | exact Option.some_ne_none _ | assumption | (intro e; injection e with e; (try dsimp only at e); omega)) | apply OS.keep (by assumption) (by first | (left; rfl) | (right; exact Option.some_ne_none _) | (right; intro e; cases e; omega)) | apply Errs.keep (by assumption) (by intro k e; first | (cases e; done) | (cases e; omega)) | apply Blk.drew | apply BS.drew | apply OS.drew | apply Errs.drew))⟩
  · refine ⟨fun hc => absurd hc (by decide), fun _ => ?_⟩
    refine ⟨fun hc => absurd hc (by decide), fun _ => hP⟩

/-- impl.plains, a picture loss. -/
def P38_p (w : World) (s m : Int) (en : Ending) (w' : World) : Prop := ∃ a c r, en = .returned (.slice a 1 c) ∧ w.grownBy w' none ∧ w.heap.size ≤ w'.heap.size ∧ OS w' w.heap.size 75 30 a 1 c r (pliCells s m)
theorem c38_p {w : World} {base : Nat} {a : Option Addr} {c bp : Nat} {r : Option Nat} {s m : Int} (h : OS w base 123 1 a 1 c r [.iface 222 (.pointer (some ⟨bp, 0, none⟩))]) (hB : Blk w bp 223 [.int .u32 s, .int .u32 m]) :
    Calls pg 38 #[.slice a 1 c] w (P38_p w s m) := by
  apply of38
  obtain ⟨b, rfl, rfl, _, _, _, _, hcell⟩ := h.at_ (by omega)
  refine ⟨fun pa pl pc x k w' => (k = 1 ∧ x = 0 ∧ pa = none ∧ pl = 0 ∧ pc = 0 ∧ w' = w) ∨ (k = 0 ∧ x = 1 ∧ pl = 1 ∧ P38_p w s m (.returned (.slice pa pl pc)) w'), ⟨1, .inl ⟨rfl, rfl, rfl, rfl, rfl, rfl⟩⟩, ?_⟩
  intro dd2 pa pl pc x k w6 hJ
  rcases hJ with ⟨rfl, rfl, rfl, rfl, rfl, rfl⟩ | ⟨rfl, rfl, rfl, hP⟩
  · refine ⟨fun _ => ?_, fun hc => absurd hc (by decide)⟩
    refine ⟨_, rfl, (by omega), (by omega), ?_⟩
    refine ⟨_, by rw [add_flat]; exact hcell 0 _ rfl, ?_⟩
    refine ⟨_, _, ta_no (by kernel_rfl) (by decide), fun hx => (by cases hx), fun _ => ?_⟩
    refine call_i (c66_p hB) (by rfl) ?_
    rintro _ w_20 ⟨rfl, g20, s20⟩
    refine ⟨_, rfl, rfl, ?_⟩
    refine gNew_i ?_
    intro b21 w_22 eb1 es1 gr1 B1
    have B1' : Blk w_22 b21 75 (pliCells s m) := B1
    refine app_i (e := 75) (size := 30) (bytes := 360) (by kernel_rfl) (OS.nil w_22 w6.heap.size 75 30) (pliCells s m) (by rfl) (fun j u hu => by rw [add_flat, Nat.zero_add]; exact B1'.cell hu) (by simp [pliCells, Value.oneCell']) (by unfold maxLen; omega) (by omega) (by omega) ?_
    intro a2' l2 c2 r2 w24 hl2 hs2 hg2 ho2 hr2
    obtain rfl : l2 = 1 := hl2
    refine ⟨0, by omega, .inr ⟨rfl, by decide, rfl, ?_⟩⟩
    exact ⟨_, _, r2, rfl, (by repeat (first | exact grew_refl _ _ | assumption | refine grew_step (by assumption) (by intro j e; first | (cases e; done) | (cases e; left; omega) | (cases e; right; rfl)) ?_ | refine grew_some ?_)), by omega, ho2⟩
  · refine ⟨fun hc => absurd hc (by decide), fun _ => hP⟩
end Go.Proofs.YtkdialecadjedaaGreatDoor
