/- The header's functions of the thin package and of the documents' reading (no statement of the seat is proved here; conditions: their slices read bytes). -/
import Derived.Test.YtkdialecadjedaaGreatDoorHdA
namespace Go.Proofs.YtkdialecadjedaaGreatDoor
set_option linter.unusedVariables false
set_option linter.unusedSimpArgs false
set_option linter.unusedSectionVars false
open Go

theorem ior_pad {c : Int} (h : 0 ≤ c ∧ c ≤ 31) : ior .u8 (128 : Int) c = 128 + c ∧ ior .u8 (ior .u8 (128 : Int) c) (32 : Int) = 160 + c := by
  obtain ⟨n, rfl⟩ := Int.eq_ofNat_of_zero_le h.1
  have hn : n < 32 := by omega
  have : ∀ m : Fin 32, ior .u8 (128 : Int) (m.val : Int) = 128 + (m.val : Int) ∧ ior .u8 (ior .u8 (128 : Int) (m.val : Int)) (32 : Int) = 160 + (m.val : Int) := by decide +kernel
  exact this ⟨n, hn⟩
theorem hdrBytes_byte {p : Bool} {c t n : Int} (hc : 0 ≤ c ∧ c ≤ 31) (ht : 0 ≤ t ∧ t < 256) (hn : 0 ≤ n ∧ n < 65536) : ∀ x ∈ hdrBytes p c t n, 0 ≤ x ∧ x < 256 := by
  intro x hx
  simp only [hdrBytes, List.mem_cons, List.not_mem_nil, or_false] at hx
  rcases hx with rfl | rfl | rfl | rfl
  · cases p <;> simp <;> omega
  · exact ht
  · omega
  · omega

/-- spec.FormatHeader. -/
def P21 (w : World) (p : Bool) (c t n : Int) (en : Ending) (w' : World) : Prop := w.grownBy w' none ∧ w.heap.size ≤ w'.heap.size ∧
      ((c ≤ 31 ∧ ∃ a k b, en = .returned (.tuple #[.slice a 4 k, .bool true]) ∧ w.heap.size ≤ b ∧ OS w' w.heap.size 5 1 a 4 k (some b) ((hdrBytes p c t n).map (Value.int .u8))) ∨ (31 < c ∧ en = .returned (.tuple #[.slice none 0 0, .bool false])))
theorem c21 {w : World} {p : Bool} {c t n : Int} (hc : 0 ≤ c) (hn : 0 ≤ n ∧ n < 65536) :
    Calls pg 21 #[.agg #[.bool p, .int .u8 c, .int .u8 t, .int .u16 n]] w (P21 w p c t n) := by
  apply of21
  refine gNew_i ?_
  intro b1 w_2 eb1 es1 gr1 B1
  refine ⟨_, Ce (by first | exact add_flat _ _ _ | exact add_flat2 _ _ _ _ | rfl) (by repeat (first | assumption | apply Blk.keep (by assumption) (by first | exact Option.some_ne_none _ | assumption | (intro e; injection e with e; (try dsimp only at e); omega)) | apply BS.keep (by assumption) (by first | exact Option.some_ne_none _ | assumption | (intro e; injection e with e; (try dsimp only at e); omega)) | apply OS.keep (by assumption) (by first | (left; rfl) | (right; exact Option.some_ne_none _) | (right; intro e; cases e; omega)) | apply Errs.keep (by assumption) (by intro k e; first | (cases e; done) | (cases e; omega)) | apply Blk.drew | apply BS.drew | apply OS.drew | apply Errs.drew)) (by rfl), ?_⟩
  refine ⟨fun hd => ?_, fun hd => ?_⟩
  · exact ⟨(by repeat (first | exact grew_refl _ _ | assumption | refine grew_step (by assumption) (by intro j e; first | (cases e; done) | (cases e; left; omega) | (cases e; right; rfl)) ?_ | refine grew_some ?_)), by omega, .inr ⟨by simpa using hd, rfl⟩⟩
  · have hd' : c ≤ 31 := by simpa using hd
    have hp := ior_pad ⟨hc, hd'⟩
    refine ⟨_, Ce (by first | exact add_flat _ _ _ | exact add_flat2 _ _ _ _ | rfl) (by repeat (first | assumption | apply Blk.keep (by assumption) (by first | exact Option.some_ne_none _ | assumption | (intro e; injection e with e; (try dsimp only at e); omega)) | apply BS.keep (by assumption) (by first | exact Option.some_ne_none _ | assumption | (intro e; injection e with e; (try dsimp only at e); omega)) | apply OS.keep (by assumption) (by first | (left; rfl) | (right; exact Option.some_ne_none _) | (right; intro e; cases e; omega)) | apply Errs.keep (by assumption) (by intro k e; first | (cases e; done) | (cases e; omega)) | apply Blk.drew | apply BS.drew | apply OS.drew | apply Errs.drew)) (by rfl), ?_⟩
    refine ⟨_, Ce (by first | exact add_flat _ _ _ | exact add_flat2 _ _ _ _ | rfl) (by repeat (first | assumption | apply Blk.keep (by assumption) (by first | exact Option.some_ne_none _ | assumption | (intro e; injection e with e; (try dsimp only at e); omega)) | apply BS.keep (by assumption) (by first | exact Option.some_ne_none _ | assumption | (intro e; injection e with e; (try dsimp only at e); omega)) | apply OS.keep (by assumption) (by first | (left; rfl) | (right; exact Option.some_ne_none _) | (right; intro e; cases e; omega)) | apply Errs.keep (by assumption) (by intro k e; first | (cases e; done) | (cases e; omega)) | apply Blk.drew | apply BS.drew | apply OS.drew | apply Errs.drew)) (by rfl), ?_⟩
    have tail : ∀ (b2 : Nat) (x : Int) (w2 w3 : World), x = (if p then 160 else 128) + c → w_2.heap.size ≤ b2 → b2 < w2.heap.size → w_2.grownBy w2 none → Blk w2 b2 5 [.int .u8 x, .int .u8 t] →
        Calls pg 49 #[.slice (some ⟨b2, 0, none⟩) 2 2, .int .u16 n] w2 fun en w_11 => ∃ (x10 : Option Addr) (x10l x10c : Nat), en = .returned (.slice x10 x10l x10c) ∧ P21 w p c t n (.returned (.tuple #[.slice x10 x10l x10c, .bool true])) w_11 := by
      intro b2 x w2 w3 hx hb2 hlt hg2 B2
      refine (c49 (base := w.heap.size) (r := some b2) (OS.of_blk B2 (by rfl) (by omega) (by unfold maxLen; omega)) (by omega) (by have := hg2.size; omega) hn).mono ?_
      rintro _ w4 ⟨a', c', r', rfl, g4, s4, o4, hr⟩
      refine ⟨_, _, _, rfl, (by repeat (first | exact grew_refl _ _ | assumption | refine grew_step (by assumption) (by intro j e; first | (cases e; done) | (cases e; left; omega) | (cases e; right; rfl)) ?_ | refine grew_some ?_)), by have := hg2.size; omega, .inl ⟨hd', a', c', ?_⟩⟩
      rcases hr with rfl | ⟨k, rfl, hk⟩
      · refine ⟨b2, rfl, by omega, ?_⟩
        rw [hx] at o4
        exact o4
      · refine ⟨k, rfl, by omega, ?_⟩
        rw [hx] at o4
        exact o4
    refine ⟨fun hp1 => ?_, fun hp1 => ?_⟩
    · refine ⟨_, Ce (by first | exact add_flat _ _ _ | exact add_flat2 _ _ _ _ | rfl) (by repeat (first | assumption | apply Blk.keep (by assumption) (by first | exact Option.some_ne_none _ | assumption | (intro e; injection e with e; (try dsimp only at e); omega)) | apply BS.keep (by assumption) (by first | exact Option.some_ne_none _ | assumption | (intro e; injection e with e; (try dsimp only at e); omega)) | apply OS.keep (by assumption) (by first | (left; rfl) | (right; exact Option.some_ne_none _) | (right; intro e; cases e; omega)) | apply Errs.keep (by assumption) (by intro k e; first | (cases e; done) | (cases e; omega)) | apply Blk.drew | apply BS.drew | apply OS.drew | apply Errs.drew)) (by rfl), ?_⟩
      refine gNew_i ?_
      intro b7 w_8 eb2 es2 gr2 B2
      refine ⟨_, Ce (by first | exact add_flat _ _ _ | exact add_flat2 _ _ _ _ | rfl) (by repeat (first | assumption | apply Blk.keep (by assumption) (by first | exact Option.some_ne_none _ | assumption | (intro e; injection e with e; (try dsimp only at e); omega)) | apply BS.keep (by assumption) (by first | exact Option.some_ne_none _ | assumption | (intro e; injection e with e; (try dsimp only at e); omega)) | apply OS.keep (by assumption) (by first | (left; rfl) | (right; exact Option.some_ne_none _) | (right; intro e; cases e; omega)) | apply Errs.keep (by assumption) (by intro k e; first | (cases e; done) | (cases e; omega)) | apply Blk.drew | apply BS.drew | apply OS.drew | apply Errs.drew)) (by rfl), ?_⟩
      exact tail _ _ _ w (by rw [hp.2, hp1]; rfl) (by omega) (by omega) gr2 B2
    · refine ⟨_, Ce (by first | exact add_flat _ _ _ | exact add_flat2 _ _ _ _ | rfl) (by repeat (first | assumption | apply Blk.keep (by assumption) (by first | exact Option.some_ne_none _ | assumption | (intro e; injection e with e; (try dsimp only at e); omega)) | apply BS.keep (by assumption) (by first | exact Option.some_ne_none _ | assumption | (intro e; injection e with e; (try dsimp only at e); omega)) | apply OS.keep (by assumption) (by first | (left; rfl) | (right; exact Option.some_ne_none _) | (right; intro e; cases e; omega)) | apply Errs.keep (by assumption) (by intro k e; first | (cases e; done) | (cases e; omega)) | apply Blk.drew | apply BS.drew | apply OS.drew | apply Errs.drew)) (by rfl), ?_⟩
      refine gNew_i ?_
      intro b7 w_8 eb2 es2 gr2 B2
      refine ⟨_, Ce (by first | exact add_flat _ _ _ | exact add_flat2 _ _ _ _ | rfl) (by repeat (first | assumption | apply Blk.keep (by assumption) (by first | exact Option.some_ne_none _ | assumption | (intro e; injection e with e; (try dsimp only at e); omega)) | apply BS.keep (by assumption) (by first | exact Option.some_ne_none _ | assumption | (intro e; injection e with e; (try dsimp only at e); omega)) | apply OS.keep (by assumption) (by first | (left; rfl) | (right; exact Option.some_ne_none _) | (right; intro e; cases e; omega)) | apply Errs.keep (by assumption) (by intro k e; first | (cases e; done) | (cases e; omega)) | apply Blk.drew | apply BS.drew | apply OS.drew | apply Errs.drew)) (by rfl), ?_⟩
      exact tail _ _ _ w (by rw [hp.1, hp1]; rfl) (by omega) (by omega) gr2 B2

theorem try_i {fid : FuncId} {caps : Array Value} {R : Ending → World → Prop} {w : World} (hb : hasBody pg fid = true)
    (h : ∀ b w1, b = w.heap.size → w1.heap.size = b + 1 → w.grownBy w1 none → Blk w1 b 4 [.bool false] →
      Calls pg fid caps w1 fun en w2 => ∃ x : Bool, en = .returned (.bool x) ∧ Blk w2 b 4 [.bool false] ∧ ∀ w3, w3.heap.size = w2.heap.size → w2.grownBy w3 (some b) → R (.returned (.bool x)) w3) :
    Calls pg 34 #[.func (.func fid) #[] caps] w R := by
  refine of34 hb ((h w.heap.size _ rfl (by simp) (World.grownBy_alloc _ _ _) ⟨by simpa using heap_alloc_new w (.cells #[.bool false] 4)⟩).mono ?_)
  rintro en w2 ⟨x, rfl, hB, hR⟩
  exact ⟨x, rfl, ⟨_, hB.cell (i := 0) rfl⟩, hB.thaw 0, hR _ (setCell_size _ _ _) (setCell_grew _ _ _ _)⟩

/-- The closure of impl.FormatHeader. -/
def P50 (w : World) (b1 : Nat) (p : Bool) (c t n : Int) (en : Ending) (w' : World) : Prop :=
  ∃ v e, en = .returned (.bool (isNilI e)) ∧ w.grownBy w' (some b1) ∧ w.heap.size ≤ w'.heap.size ∧ Blk w' b1 22 [v] ∧ MHdr w p c t n v e w'
theorem c50 {w : World} {b0 b1 : Nat} {p : Bool} {c t n : Int} (hc : 0 ≤ c) (hn : 0 ≤ n ∧ n < 65536) (hE : Errs w) (B0 : Blk w b0 45 [.bool p, .int .u8 c, .int .u8 t, .int .u16 n]) (B1 : Blk w b1 22 [.slice none 0 0]) (hb : 2 < b1) :
    Calls pg 50 #[.pointer (some ⟨b0, 0, none⟩), .pointer (some ⟨b1, 0, none⟩)] w (P50 w b1 p c t n) := by
  apply of50
  have hl1 := B1.lt
  refine ⟨_, _, _, _, Ld (by first | exact add_flat _ _ _ | exact add_flat2 _ _ _ _ | rfl) (by repeat (first | assumption | apply Blk.keep (by assumption) (by first | exact Option.some_ne_none _ | assumption | (intro e; injection e with e; (try dsimp only at e); omega)) | apply BS.keep (by assumption) (by first | exact Option.some_ne_none _ | assumption | (intro e; injection e with e; (try dsimp only at e); omega)) | apply OS.keep (by assumption) (by first | (left; rfl) | (right; exact Option.some_ne_none _) | (right; intro e; cases e; omega)) | apply Errs.keep (by assumption) (by intro k e; first | (cases e; done) | (cases e; omega)) | apply Blk.drew | apply BS.drew | apply OS.drew | apply Errs.drew)) (by kernel_rfl) (by rfl) (by rfl), ?_⟩
  refine call_i (c51) (by rfl) ?_
  rintro _ w_9 ⟨rfl, g9⟩
  have s9 := g9.size
  refine ⟨_, _, _, _, rfl, ?_⟩
  refine call_i (c52 (p := p) (c := c) (t := t) (n := n) hc hn (by repeat (first | assumption | apply Blk.keep (by assumption) (by first | exact Option.some_ne_none _ | assumption | (intro e; injection e with e; (try dsimp only at e); omega)) | apply BS.keep (by assumption) (by first | exact Option.some_ne_none _ | assumption | (intro e; injection e with e; (try dsimp only at e); omega)) | apply OS.keep (by assumption) (by first | (left; rfl) | (right; exact Option.some_ne_none _) | (right; intro e; cases e; omega)) | apply Errs.keep (by assumption) (by intro k e; first | (cases e; done) | (cases e; omega)) | apply Blk.drew | apply BS.drew | apply OS.drew | apply Errs.drew))) (by rfl) ?_
  rintro _ w_12 ⟨v, e, rfl, g12, s12, hM⟩
  rcases hM with ⟨hcl, b, rfl, rfl, hb9, B12⟩ | ⟨hcl, rfl, y, z, rfl⟩
  · refine ⟨_, _, _, _, rfl, ?_⟩
    refine St (b := b1) (i := 0) (by rfl) (by repeat (first | assumption | apply Blk.keep (by assumption) (by first | exact Option.some_ne_none _ | assumption | (intro e; injection e with e; (try dsimp only at e); omega)) | apply BS.keep (by assumption) (by first | exact Option.some_ne_none _ | assumption | (intro e; injection e with e; (try dsimp only at e); omega)) | apply OS.keep (by assumption) (by first | (left; rfl) | (right; exact Option.some_ne_none _) | (right; intro e; cases e; omega)) | apply Errs.keep (by assumption) (by intro k e; first | (cases e; done) | (cases e; omega)) | apply Blk.drew | apply BS.drew | apply OS.drew | apply Errs.drew)) (by kernel_rfl) (by rfl) (by first | rfl | (simp only [List.all_cons, List.all_nil, Value.cells]; simp [*])) ?_
    intro w_13 es1 gr1 B13
    refine ⟨trivial, _, _, rfl, ?_, by omega, B13, .inl ⟨hcl, b, rfl, rfl, by omega, (by repeat (first | assumption | apply Blk.keep (by assumption) (by first | exact Option.some_ne_none _ | assumption | (intro e; injection e with e; (try dsimp only at e); omega)) | apply BS.keep (by assumption) (by first | exact Option.some_ne_none _ | assumption | (intro e; injection e with e; (try dsimp only at e); omega)) | apply OS.keep (by assumption) (by first | (left; rfl) | (right; exact Option.some_ne_none _) | (right; intro e; cases e; omega)) | apply Errs.keep (by assumption) (by intro k e; first | (cases e; done) | (cases e; omega)) | apply Blk.drew | apply BS.drew | apply OS.drew | apply Errs.drew))⟩⟩
    exact (by repeat (first | exact grew_refl _ _ | assumption | refine grew_step (by assumption) (by intro j e; first | (cases e; done) | (cases e; left; omega) | (cases e; right; rfl)) ?_ | refine grew_some ?_))
  · refine ⟨_, _, _, _, rfl, ?_⟩
    refine St (b := b1) (i := 0) (by rfl) (by repeat (first | assumption | apply Blk.keep (by assumption) (by first | exact Option.some_ne_none _ | assumption | (intro e; injection e with e; (try dsimp only at e); omega)) | apply BS.keep (by assumption) (by first | exact Option.some_ne_none _ | assumption | (intro e; injection e with e; (try dsimp only at e); omega)) | apply OS.keep (by assumption) (by first | (left; rfl) | (right; exact Option.some_ne_none _) | (right; intro e; cases e; omega)) | apply Errs.keep (by assumption) (by intro k e; first | (cases e; done) | (cases e; omega)) | apply Blk.drew | apply BS.drew | apply OS.drew | apply Errs.drew)) (by kernel_rfl) (by rfl) (by first | rfl | (simp only [List.all_cons, List.all_nil, Value.cells]; simp [*])) ?_
    intro w_13 es1 gr1 B13
    refine ⟨trivial, _, _, rfl, ?_, by omega, B13, .inr ⟨hcl, rfl, y, z, rfl⟩⟩
    exact (by repeat (first | exact grew_refl _ _ | assumption | refine grew_step (by assumption) (by intro j e; first | (cases e; done) | (cases e; left; omega) | (cases e; right; rfl)) ?_ | refine grew_some ?_))

/-- impl.FormatHeader. -/
def P22 (w : World) (p : Bool) (c t n : Int) (en : Ending) (w' : World) : Prop := w.grownBy w' none ∧ w.heap.size ≤ w'.heap.size ∧
  ((c ≤ 31 ∧ ∃ b, en = .returned (.tuple #[.slice (some ⟨b, 0, none⟩) 4 4, .bool true]) ∧ w.heap.size ≤ b ∧ Blk w' b 5 ((hdrBytes p c t n).map (Value.int .u8))) ∨ (31 < c ∧ en = .returned (.tuple #[.slice none 0 0, .bool false])))
theorem c22 {w : World} {p : Bool} {c t n : Int} (hc : 0 ≤ c) (hn : 0 ≤ n ∧ n < 65536) (hE : Errs w) :
    Calls pg 22 #[.agg #[.bool p, .int .u8 c, .int .u8 t, .int .u16 n]] w (P22 w p c t n) := by
  apply of22
  have hlt := hE.lt
  refine gNew_i ?_
  intro b1 w_2 eb1 es1 gr1 B1
  refine gNew_i ?_
  intro b3 w_4 eb2 es2 gr2 B2
  refine try_i (by kernel_rfl) ?_
  intro b5 w_5 eb5 es5 gr5 B5
  refine (c50 (p := p) (c := c) (t := t) (n := n) hc hn (by repeat (first | assumption | apply Blk.keep (by assumption) (by first | exact Option.some_ne_none _ | assumption | (intro e; injection e with e; (try dsimp only at e); omega)) | apply BS.keep (by assumption) (by first | exact Option.some_ne_none _ | assumption | (intro e; injection e with e; (try dsimp only at e); omega)) | apply OS.keep (by assumption) (by first | (left; rfl) | (right; exact Option.some_ne_none _) | (right; intro e; cases e; omega)) | apply Errs.keep (by assumption) (by intro k e; first | (cases e; done) | (cases e; omega)) | apply Blk.drew | apply BS.drew | apply OS.drew | apply Errs.drew)) (b0 := b1) (b1 := b3) (by repeat (first | assumption | apply Blk.keep (by assumption) (by first | exact Option.some_ne_none _ | assumption | (intro e; injection e with e; (try dsimp only at e); omega)) | apply BS.keep (by assumption) (by first | exact Option.some_ne_none _ | assumption | (intro e; injection e with e; (try dsimp only at e); omega)) | apply OS.keep (by assumption) (by first | (left; rfl) | (right; exact Option.some_ne_none _) | (right; intro e; cases e; omega)) | apply Errs.keep (by assumption) (by intro k e; first | (cases e; done) | (cases e; omega)) | apply Blk.drew | apply BS.drew | apply OS.drew | apply Errs.drew)) (by repeat (first | assumption | apply Blk.keep (by assumption) (by first | exact Option.some_ne_none _ | assumption | (intro e; injection e with e; (try dsimp only at e); omega)) | apply BS.keep (by assumption) (by first | exact Option.some_ne_none _ | assumption | (intro e; injection e with e; (try dsimp only at e); omega)) | apply OS.keep (by assumption) (by first | (left; rfl) | (right; exact Option.some_ne_none _) | (right; intro e; cases e; omega)) | apply Errs.keep (by assumption) (by intro k e; first | (cases e; done) | (cases e; omega)) | apply Blk.drew | apply BS.drew | apply OS.drew | apply Errs.drew)) (by omega)).mono ?_
  rintro _ w_6 ⟨v, e, rfl, g6, s6, B6, hM⟩
  refine ⟨_, rfl, (by repeat (first | assumption | apply Blk.keep (by assumption) (by first | exact Option.some_ne_none _ | assumption | (intro e; injection e with e; (try dsimp only at e); omega)) | apply BS.keep (by assumption) (by first | exact Option.some_ne_none _ | assumption | (intro e; injection e with e; (try dsimp only at e); omega)) | apply OS.keep (by assumption) (by first | (left; rfl) | (right; exact Option.some_ne_none _) | (right; intro e; cases e; omega)) | apply Errs.keep (by assumption) (by intro k e; first | (cases e; done) | (cases e; omega)) | apply Blk.drew | apply BS.drew | apply OS.drew | apply Errs.drew)), ?_⟩
  intro w_7 s7 g7
  rcases hM with ⟨hcl, b, rfl, rfl, hb9, B12⟩ | ⟨hcl, rfl, y, z, rfl⟩
  · refine ⟨_, rfl, ?_⟩
    refine ⟨fun hx => (by cases hx), fun _ => ?_⟩
    refine ⟨_, _, _, Ce (b := b3) (i := 0) (by rfl) (by repeat (first | assumption | apply Blk.keep (by assumption) (by first | exact Option.some_ne_none _ | assumption | (intro e; injection e with e; (try dsimp only at e); omega)) | apply BS.keep (by assumption) (by first | exact Option.some_ne_none _ | assumption | (intro e; injection e with e; (try dsimp only at e); omega)) | apply OS.keep (by assumption) (by first | (left; rfl) | (right; exact Option.some_ne_none _) | (right; intro e; cases e; omega)) | apply Errs.keep (by assumption) (by intro k e; first | (cases e; done) | (cases e; omega)) | apply Blk.drew | apply BS.drew | apply OS.drew | apply Errs.drew)) (by rfl), ?_⟩
    refine St (b := b3) (i := 0) (by rfl) (by repeat (first | assumption | apply Blk.keep (by assumption) (by first | exact Option.some_ne_none _ | assumption | (intro e; injection e with e; (try dsimp only at e); omega)) | apply BS.keep (by assumption) (by first | exact Option.some_ne_none _ | assumption | (intro e; injection e with e; (try dsimp only at e); omega)) | apply OS.keep (by assumption) (by first | (left; rfl) | (right; exact Option.some_ne_none _) | (right; intro e; cases e; omega)) | apply Errs.keep (by assumption) (by intro k e; first | (cases e; done) | (cases e; omega)) | apply Blk.drew | apply BS.drew | apply OS.drew | apply Errs.drew)) (by kernel_rfl) (by rfl) (by first | rfl | (simp only [List.all_cons, List.all_nil, Value.cells]; simp [*])) ?_
    intro w_10 es4 gr4 B4
    refine ⟨_, _, _, Ce (b := b3) (i := 0) (by rfl) (by repeat (first | assumption | apply Blk.keep (by assumption) (by first | exact Option.some_ne_none _ | assumption | (intro e; injection e with e; (try dsimp only at e); omega)) | apply BS.keep (by assumption) (by first | exact Option.some_ne_none _ | assumption | (intro e; injection e with e; (try dsimp only at e); omega)) | apply OS.keep (by assumption) (by first | (left; rfl) | (right; exact Option.some_ne_none _) | (right; intro e; cases e; omega)) | apply Errs.keep (by assumption) (by intro k e; first | (cases e; done) | (cases e; omega)) | apply Blk.drew | apply BS.drew | apply OS.drew | apply Errs.drew)) (by rfl), ?_⟩
    exact ⟨(by repeat (first | exact grew_refl _ _ | assumption | refine grew_step (by assumption) (by intro j e; first | (cases e; done) | (cases e; left; omega) | (cases e; right; rfl)) ?_ | refine grew_some ?_)), by omega, .inl ⟨hcl, b, rfl, by omega, (by repeat (first | assumption | apply Blk.keep (by assumption) (by first | exact Option.some_ne_none _ | assumption | (intro e; injection e with e; (try dsimp only at e); omega)) | apply BS.keep (by assumption) (by first | exact Option.some_ne_none _ | assumption | (intro e; injection e with e; (try dsimp only at e); omega)) | apply OS.keep (by assumption) (by first | (left; rfl) | (right; exact Option.some_ne_none _) | (right; intro e; cases e; omega)) | apply Errs.keep (by assumption) (by intro k e; first | (cases e; done) | (cases e; omega)) | apply Blk.drew | apply BS.drew | apply OS.drew | apply Errs.drew))⟩⟩
  · refine ⟨_, rfl, ?_⟩
    refine ⟨fun _ => ?_, fun hx => (by cases hx)⟩
    refine St (b := b3) (i := 0) (by rfl) (by repeat (first | assumption | apply Blk.keep (by assumption) (by first | exact Option.some_ne_none _ | assumption | (intro e; injection e with e; (try dsimp only at e); omega)) | apply BS.keep (by assumption) (by first | exact Option.some_ne_none _ | assumption | (intro e; injection e with e; (try dsimp only at e); omega)) | apply OS.keep (by assumption) (by first | (left; rfl) | (right; exact Option.some_ne_none _) | (right; intro e; cases e; omega)) | apply Errs.keep (by assumption) (by intro k e; first | (cases e; done) | (cases e; omega)) | apply Blk.drew | apply BS.drew | apply OS.drew | apply Errs.drew)) (by kernel_rfl) (by rfl) (by first | rfl | (simp only [List.all_cons, List.all_nil, Value.cells]; simp [*])) ?_
    intro w_10 es4 gr4 B4
    refine ⟨_, _, _, Ce (b := b3) (i := 0) (by rfl) (by repeat (first | assumption | apply Blk.keep (by assumption) (by first | exact Option.some_ne_none _ | assumption | (intro e; injection e with e; (try dsimp only at e); omega)) | apply BS.keep (by assumption) (by first | exact Option.some_ne_none _ | assumption | (intro e; injection e with e; (try dsimp only at e); omega)) | apply OS.keep (by assumption) (by first | (left; rfl) | (right; exact Option.some_ne_none _) | (right; intro e; cases e; omega)) | apply Errs.keep (by assumption) (by intro k e; first | (cases e; done) | (cases e; omega)) | apply Blk.drew | apply BS.drew | apply OS.drew | apply Errs.drew)) (by rfl), ?_⟩
    exact ⟨(by repeat (first | exact grew_refl _ _ | assumption | refine grew_step (by assumption) (by intro j e; first | (cases e; done) | (cases e; left; omega) | (cases e; right; rfl)) ?_ | refine grew_some ?_)), by omega, .inr ⟨hcl, rfl⟩⟩
end Go.Proofs.YtkdialecadjedaaGreatDoor
