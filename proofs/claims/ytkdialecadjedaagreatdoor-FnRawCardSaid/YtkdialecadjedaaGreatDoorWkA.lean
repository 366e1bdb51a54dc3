/- A picture loss that is written (no statement of the seat is proved here; conditions: none). -/
import Derived.Test.YtkdialecadjedaaGreatDoorHdC
import Derived.Test.YtkdialecadjedaaGreatDoorInv
namespace Go.Proofs.YtkdialecadjedaaGreatDoor
set_option linter.unusedVariables false
set_option linter.unusedSimpArgs false
set_option linter.unusedSectionVars false
open Go

theorem shr_byte {v : Int} (hv : 0 ≤ v ∧ v < 4294967296) : IntKind.u8.wrap (ishr .u32 v (24 : Int)) = v / 16777216 ∧ IntKind.u8.wrap (ishr .u32 v (16 : Int)) = v / 65536 % 256 ∧ IntKind.u8.wrap (ishr .u32 v (8 : Int)) = v / 256 % 256 ∧ IntKind.u8.wrap v = v % 256 := by
  refine ⟨?_, ?_, ?_, wu8 v⟩
  · rw [ishr_of 24 (by rfl) (by decide), wu8]; omega
  · rw [ishr_of 16 (by rfl) (by decide), wu8]; omega
  · rw [ishr_of 8 (by rfl) (by decide), wu8]; omega
def be32L (v : Int) : List Int := [v / 16777216, v / 65536 % 256, v / 256 % 256, v % 256]
/-- bePutUint32 into a block. -/
theorem c144 {w : World} {b o : Nat} {ty : TypeId} {l : List Value} {m k : Nat} {v x : Int} (hB : Blk w b ty l) (hm : 4 ≤ m) (ho : l[o + 3]? = some (.int .u8 x)) (hl : Nat.ble (o + 4) l.length = true) (hv : 0 ≤ v ∧ v < 4294967296) :
    Calls pg 144 #[.slice (some ⟨b, o, none⟩) m k, .int .u32 v] w fun en w' => en = .returned (.tuple #[]) ∧ w.grownBy w' (some b) ∧ w.heap.size ≤ w'.heap.size ∧ Blk w' b ty (putL l o ((be32L v).map (Value.int .u8))) := by
  apply of144
  have hl' := Nat.le_of_ble_eq_true hl
  obtain ⟨e1, e2, e3, e4⟩ := shr_byte hv
  refine ⟨_, rfl, by omega, by omega, _, Blk.cell hB ho, ?_⟩
  refine ⟨_, rfl, by omega, by omega, ?_⟩
  refine St (by first | exact add_flat _ _ _ | exact add_flat2 _ _ _ _ | rfl) hB (by kernel_rfl) (bl (by show o + 0 + 1 ≤ l.length; omega)) (by rfl) ?_
  intro w1 s1 g1 B1
  refine ⟨_, rfl, by omega, by omega, ?_⟩
  refine St (by first | exact add_flat _ _ _ | exact add_flat2 _ _ _ _ | rfl) B1 (by kernel_rfl) (bl (by rw [putL_length]; show o + 1 + 1 ≤ l.length; omega)) (by rfl) ?_
  intro w2 s2 g2 B2
  refine ⟨_, rfl, by omega, by omega, ?_⟩
  refine St (by first | exact add_flat _ _ _ | exact add_flat2 _ _ _ _ | rfl) B2 (by kernel_rfl) (bl (by rw [putL_length, putL_length]; show o + 2 + 1 ≤ l.length; omega)) (by rfl) ?_
  intro w3 s3 g3 B3
  refine ⟨_, rfl, by omega, by omega, ?_⟩
  refine St (by first | exact add_flat _ _ _ | exact add_flat2 _ _ _ _ | rfl) B3 (by kernel_rfl) (bl (by rw [putL_length, putL_length, putL_length]; show o + 3 + 1 ≤ l.length; omega)) (by rfl) ?_
  intro w4 s4 g4 B4
  refine ⟨rfl, World.grownBy.trans (World.grownBy.trans g1 g2) (World.grownBy.trans g3 g4), by omega, ?_⟩
  rw [e1, e2, e3, e4] at B4
  exact B4

def pliBytes (s m : Int) : List Int := [129, 206, 0, 2] ++ be32L s ++ be32L m
/-- PictureLossIndication.Marshal. -/
def P201 (w : World) (s m : Int) (en : Ending) (w' : World) : Prop := ∃ b, en = .returned (.tuple #[.slice (some ⟨b, 0, none⟩) 12 12, .nilIface]) ∧ w.grownBy w' none ∧ w.heap.size ≤ w'.heap.size ∧ w.heap.size ≤ b ∧ Blk w' b 5 ((pliBytes s m).map (Value.int .u8))
theorem c201 {w : World} {s m : Int} (hs : 0 ≤ s ∧ s < 4294967296) (hm : 0 ≤ m ∧ m < 4294967296) (hE : Errs w) : Calls pg 201 #[.agg #[.int .u32 s, .int .u32 m]] w (P201 w s m) := by
  apply of201
  have hlt := hE.lt
  refine gNew_i ?_
  intro b1 w_2 eb1 es1 gr1 B1
  refine call_i (of202 (R := fun en w' => en = .returned (.int .i64 12) ∧ w' = w_2) ⟨rfl, rfl⟩) (by rfl) ?_
  rintro _ w_4 ⟨rfl, rfl⟩
  refine ⟨_, rfl, ?_⟩
  refine mk_i (e := 5) (bytes := 1) (n := 12) (z := .int .u8 0) (by kernel_rfl) (by kernel_rfl) (by rfl) (by unfold maxLen; omega) (by omega) ?_
  intro b5 w_6 e5 l5 g6 B5
  refine ⟨by omega, by omega, ?_⟩
  refine ⟨_, Ce (by first | exact add_flat _ _ _ | exact add_flat2 _ _ _ _ | rfl) (by repeat (first | assumption | apply Blk.keep (by assumption) (by first | exact Option.some_ne_none _ | assumption | (intro e; injection e with e; (try dsimp only at e); omega)) | apply BS.keep (by assumption) (by first | exact Option.some_ne_none _ | assumption | (intro e; injection e with e; (try dsimp only at e); omega)) | apply OS.keep (by assumption) (by first | (left; rfl) | (right; exact Option.some_ne_none _) | (right; intro e; cases e; omega)) | apply Errs.keep (by assumption) (by intro k e; first | (cases e; done) | (cases e; omega)) | apply Blk.drew | apply BS.drew | apply OS.drew | apply Errs.drew)) (by rfl), ?_⟩
  refine call_i (c144 (b := b5) (o := 4) (m := 8) (k := 8) (x := 0) B5 (by omega) (by rfl) (by rfl) hs) (by rfl) ?_
  rintro _ w_8 ⟨rfl, g8, s8, B8⟩
  refine ⟨rfl, ?_⟩
  refine ⟨by omega, by omega, ?_⟩
  have gd2 := grew_drew w_8 none; have sd2 : w_8.drew.heap.size = w_8.heap.size := rfl; generalize w_8.drew = wd2 at gd2 sd2 ⊢
  refine ⟨_, Ce (by first | exact add_flat _ _ _ | exact add_flat2 _ _ _ _ | rfl) (by repeat (first | assumption | apply Blk.keep (by assumption) (by first | exact Option.some_ne_none _ | assumption | (intro e; injection e with e; (try dsimp only at e); omega)) | apply BS.keep (by assumption) (by first | exact Option.some_ne_none _ | assumption | (intro e; injection e with e; (try dsimp only at e); omega)) | apply OS.keep (by assumption) (by first | (left; rfl) | (right; exact Option.some_ne_none _) | (right; intro e; cases e; omega)) | apply Errs.keep (by assumption) (by intro k e; first | (cases e; done) | (cases e; omega)) | apply Blk.drew | apply BS.drew | apply OS.drew | apply Errs.drew)) (by rfl), ?_⟩
  refine call_i (c144 (b := b5) (o := 8) (m := 4) (k := 4) (x := 0) (by repeat (first | assumption | apply Blk.keep (by assumption) (by first | exact Option.some_ne_none _ | assumption | (intro e; injection e with e; (try dsimp only at e); omega)) | apply BS.keep (by assumption) (by first | exact Option.some_ne_none _ | assumption | (intro e; injection e with e; (try dsimp only at e); omega)) | apply OS.keep (by assumption) (by first | (left; rfl) | (right; exact Option.some_ne_none _) | (right; intro e; cases e; omega)) | apply Errs.keep (by assumption) (by intro k e; first | (cases e; done) | (cases e; omega)) | apply Blk.drew | apply BS.drew | apply OS.drew | apply Errs.drew)) (by omega) (by rfl) (by rfl) hm) (by rfl) ?_
  rintro _ w_10 ⟨rfl, g10, s10, B10⟩
  refine ⟨rfl, ?_⟩
  refine gNew_i ?_
  intro b11 w_12 eb3 es3 gr3 B3
  refine St (by first | exact add_flat _ _ _ | exact add_flat2 _ _ _ _ | rfl) (by repeat (first | assumption | apply Blk.keep (by assumption) (by first | exact Option.some_ne_none _ | assumption | (intro e; injection e with e; (try dsimp only at e); omega)) | apply BS.keep (by assumption) (by first | exact Option.some_ne_none _ | assumption | (intro e; injection e with e; (try dsimp only at e); omega)) | apply OS.keep (by assumption) (by first | (left; rfl) | (right; exact Option.some_ne_none _) | (right; intro e; cases e; omega)) | apply Errs.keep (by assumption) (by intro k e; first | (cases e; done) | (cases e; omega)) | apply Blk.drew | apply BS.drew | apply OS.drew | apply Errs.drew)) (by kernel_rfl) (by rfl) (by first | rfl | (simp only [List.all_cons, List.all_nil, Value.cells]; simp [*])) ?_
  intro w_13 es4 gr4 B4
  refine ⟨_, _, _, _, Ld (by first | exact add_flat _ _ _ | exact add_flat2 _ _ _ _ | rfl) (by repeat (first | assumption | apply Blk.keep (by assumption) (by first | exact Option.some_ne_none _ | assumption | (intro e; injection e with e; (try dsimp only at e); omega)) | apply BS.keep (by assumption) (by first | exact Option.some_ne_none _ | assumption | (intro e; injection e with e; (try dsimp only at e); omega)) | apply OS.keep (by assumption) (by first | (left; rfl) | (right; exact Option.some_ne_none _) | (right; intro e; cases e; omega)) | apply Errs.keep (by assumption) (by intro k e; first | (cases e; done) | (cases e; omega)) | apply Blk.drew | apply BS.drew | apply OS.drew | apply Errs.drew)) (by kernel_rfl) (by rfl) (by rfl), ?_⟩
  refine call_i (c52 (p := false) (c := 1) (t := 206) (n := 2) (by omega) (by omega) (by repeat (first | assumption | apply Blk.keep (by assumption) (by first | exact Option.some_ne_none _ | assumption | (intro e; injection e with e; (try dsimp only at e); omega)) | apply BS.keep (by assumption) (by first | exact Option.some_ne_none _ | assumption | (intro e; injection e with e; (try dsimp only at e); omega)) | apply OS.keep (by assumption) (by first | (left; rfl) | (right; exact Option.some_ne_none _) | (right; intro e; cases e; omega)) | apply Errs.keep (by assumption) (by intro k e; first | (cases e; done) | (cases e; omega)) | apply Blk.drew | apply BS.drew | apply OS.drew | apply Errs.drew))) (by rfl) ?_
  rintro _ w_20 ⟨v, e, rfl, g20, s20, hM⟩
  rcases hM with ⟨_, b, rfl, rfl, hb, B20⟩ | ⟨hc, _⟩
  · refine ⟨_, _, _, _, rfl, trivial, ?_⟩
    refine ⟨fun hx => (by cases hx), fun _ => ?_⟩
    have B5' : Blk w_20 b5 5 _ := (by repeat (first | assumption | apply Blk.keep (by assumption) (by first | exact Option.some_ne_none _ | assumption | (intro e; injection e with e; (try dsimp only at e); omega)) | apply BS.keep (by assumption) (by first | exact Option.some_ne_none _ | assumption | (intro e; injection e with e; (try dsimp only at e); omega)) | apply OS.keep (by assumption) (by first | (left; rfl) | (right; exact Option.some_ne_none _) | (right; intro e; cases e; omega)) | apply Errs.keep (by assumption) (by intro k e; first | (cases e; done) | (cases e; omega)) | apply Blk.drew | apply BS.drew | apply OS.drew | apply Errs.drew))
    refine cp_i (elem := 5) (bytes := 1) (by kernel_rfl) (g := b5) (o := 0) B5' ((hdrBytes false 1 206 2).map (Value.int .u8)) (by rfl) (fun j u hu => by rw [add_flat, Nat.zero_add]; exact B20.cell hu) (by simp only [putL_length]; simp [hdrBytes]) (by simp [hdrBytes, Value.oneCell']) ?_
    intro w_22 s22 g22 B22
    refine ⟨b5, rfl, (by repeat (first | exact grew_refl _ _ | assumption | refine grew_step (by assumption) (by intro j e; first | (cases e; done) | (cases e; left; omega) | (cases e; right; rfl)) ?_ | refine grew_some ?_)), by omega, by omega, ?_⟩
    have : (putL (putL (List.replicate 12 (Value.int .u8 0)) 4 ((be32L s).map (Value.int .u8))) 8 ((be32L m).map (Value.int .u8))) = [Value.int .u8 0, .int .u8 0, .int .u8 0, .int .u8 0] ++ (be32L s).map (Value.int .u8) ++ (be32L m).map (Value.int .u8) := rfl
    rw [this] at B22
    exact B22
  · omega
end Go.Proofs.YtkdialecadjedaaGreatDoor
